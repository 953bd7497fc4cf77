import PyProof.Rows.All
import Wide.All
import OpenK.AllK
import Wide.FinOn
import PySem.Challenge.RW_sn0088_03
set_option bootstrap.genMatcherCode false
set_option compiler.extract_closed false
set_option maxHeartbeats 8000000
set_option maxRecDepth 100000
set_option linter.unusedVariables false
set_option linter.unusedSimpArgs false
set_option Elab.async false
namespace Ab
open PySem PySem.W PyProof.Rows PySem.Calls
theorem szl {n m k N:Nat} (e:n=m) (h:m≤k) (hN:k≤N):n≤N:=Nat.le_trans (Nat.le_of_eq e) (Nat.le_trans h hN)
theorem ltI {n m k:Nat} (e:n=m) (h:m<k) (hk:k≤9223372036854775808):((n:Nat):Int)<2 ^ 63:=Int.lt_of_lt_of_le (Int.ofNat_lt.mpr (Nat.lt_of_le_of_lt (Nat.le_of_eq e) h)) (Int.le_trans (Int.ofNat_le.mpr hk) (by decide))
theorem dp {a k m r:Nat} (h:k≤m):a+k+m*r≤a+m*(r+1):=by
  rw [Nat.mul_succ,Nat.add_assoc,Nat.add_comm k]; exact Nat.add_le_add_left (Nat.add_le_add_left h _) _
theorem min_r {k n m:Nat} (hk:k=min n m) (h:k<n):k=m:=(Nat.le_total n m).elim (fun e=>absurd (hk.trans (Nat.min_eq_left e)) (Nat.ne_of_lt h)) fun e=>hk.trans (Nat.min_eq_right e)
theorem min_l {k n m:Nat} (hk:k=min n m) (h:¬ k<n):k=n:=Nat.le_antisymm (Nat.le_trans (Nat.le_of_eq hk) (Nat.min_le_left _ _)) (Nat.not_lt.mp h)
theorem jb {α : Type} {x:α} {C:Prop} (e:none=some x):C:=nomatch e
theorem someNo {α : Type} {x:α} {C:Prop} (e:some x=none):C:=nomatch e
noncomputable abbrev PM:=Addr→Option Obj
inductive PV where
  | none | bool (b:Bool) | int (i:Int) | str (c:List Nat) | tup (l:List PV) | lst (l:List PV) | con (v:Value) | rng (a b c:Int) | dct
noncomputable def lobj (vs:List Value) (n:Nat):Obj:={ cls:=.type "list",data:=.seq vs.toArray n }
noncomputable def tobj (vs:List Value):Obj:={ cls:=.type "tuple",data:=.seq vs.toArray }
noncomputable def liobj (b:Addr) (i:Nat):Obj:={ cls:=.type "list_iterator",data:=.fields #[.ref b,.int i 0] }
mutual
inductive RV (B:PM):PV→Value→Prop
  | none:RV B .none .none
  | bool (b):RV B (.bool b) (.bool b)
  | int (i t):RV B (.int i) (.int i t)
  | str (c t):RV B (.str c) (.str ⟨c.toArray⟩ t)
  | tup {l vs a}:B a=some (tobj vs)→RVs B l vs→RV B (.tup l) (.ref a)
  | lst {l vs a n}:B a=some (lobj vs n)→RVs B l vs→RV B (.lst l) (.ref a)
  | con (v):RV B (.con v) v
  | dct {x}:(x == sysModules)=false→B x=some ⟨.type "dict",none,.dict #[],#[]⟩→RV B .dct (.ref x)
  | rng {a b c t u v x}:B x=some ⟨.type "range",none,.fields #[.int a t,.int b u,.int c v],#[]⟩→RV B (.rng a b c) (.ref x)
inductive RVs (B:PM):List PV→List Value→Prop
  | nil:RVs B [] []
  | cons {p v l vs}:RV B p v→RVs B l vs→RVs B (p::l) (v::vs)
end
theorem RV.str_ {B:PM} {C:Value→Prop} {c:List Nat} {x:Value} (r:RV B (.str c) x) (k:∀ t,C (.str ⟨c.toArray⟩ t)):C x:=by cases r; exact k _
theorem RV.int_ {B:PM} {C:Value→Prop} {i:Int} {x:Value} (r:RV B (.int i) x) (k:∀ t,C (.int i t)):C x:=by cases r; exact k _
theorem RV.bool_ {B:PM} {C:Value→Prop} {b:Bool} {x:Value} (r:RV B (.bool b) x) (k:C (.bool b)):C x:=by cases r; exact k
theorem RV.lst_ {B:PM} {C:Value→Prop} {l:List PV} {x:Value} (r:RV B (.lst l) x) (k:∀ vs a n,B a=some (lobj vs n)→RVs B l vs→C (.ref a)):C x:=by
  cases r with
  | lst h1 h2=>exact k _ _ _ h1 h2
theorem RV.tup_ {B:PM} {C:Value→Prop} {l:List PV} {x:Value} (r:RV B (.tup l) x) (k:∀ vs a,B a=some (tobj vs)→RVs B l vs→C (.ref a)):C x:=by
  cases r with
  | tup h1 h2=>exact k _ _ h1 h2
theorem RV.none_ {B:PM} {C:Value→Prop} {x:Value} (r:RV B .none x) (k:C .none):C x:=by cases r; exact k
theorem RV.con_ {B:PM} {C:Value→Prop} {v x:Value} (r:RV B (.con v) x) (k:C v):C x:=by cases r; exact k
theorem RV.rng_ {B:PM} {C:Value→Prop} {a b c:Int} {x:Value} (r:RV B (.rng a b c) x) (k:∀ t u v x,B x=some ⟨.type "range",Option.none,.fields #[.int a t,.int b u,.int c v],#[]⟩→C (.ref x)):C x:=by
  cases r with
  | rng h=>exact k _ _ _ _ h
theorem RVs.nil_ {B:PM} {C:List Value→Prop} {vs:List Value} (r:RVs B [] vs) (k:C []):C vs:=by cases r; exact k
theorem RVs.cons_ {B:PM} {C:List Value→Prop} {p:PV} {l:List PV} {vs:List Value} (r:RVs B (p::l) vs) (k:∀ v vs,RV B p v→RVs B l vs→C (v::vs)):C vs:=by
  cases r with
  | cons h1 h2=>exact k _ _ h1 h2
structure Ext (B B':PM) (h:Heap):Prop where
  le:∀ a o,B a=some o→B' a=some o
  eq:∀ a o,h.get? a=some o→B' a=B a
noncomputable def Alive (h h':Heap):Prop:=∀ a o,h.get? a=some o→∃ o',h'.get? a=some o'
theorem Alive.refl (h:Heap):Alive h h:=fun _ o e=>⟨o,e⟩
theorem Alive.trans {h h' h'':Heap} (x:Alive h h') (y:Alive h' h''):Alive h h'':=fun a o e=>let ⟨o',e'⟩:=x a o e; y a o' e'
theorem Alive.of_keep {h h':Heap} (k:∀ b o,h.get? b=some o→h'.get? b=some o):Alive h h':=fun a o e=>⟨o,k a o e⟩
theorem Ext.refl (B:PM) (h:Heap):Ext B B h:=⟨fun _ _ h=>h,fun _ _ _=>rfl⟩
theorem Ext.trans {B B' B'':PM} {h h':Heap} (x:Ext B B' h) (y:Ext B' B'' h') (k:Alive h h'):Ext B B'' h :=
  ⟨fun a o e=>y.le a o (x.le a o e),fun a o ha=>let ⟨o',e⟩:=k a o ha; (y.eq a o' e).trans (x.eq a o ha)⟩
theorem RVs.ind {B:PM} {M:List PV→List Value→Prop} (h0:M [] []) (h1:∀ p v l vs,RV B p v→RVs B l vs→M l vs→M (p::l) (v::vs)) {l:List PV} {vs:List Value} (h:RVs B l vs):M l vs :=
  RVs.rec (motive_1:=fun _ _ _=>True) (motive_2:=fun l vs _=>M l vs) trivial (fun _=>trivial) (fun _ _=>trivial) (fun _ _=>trivial) (fun _ _ _=>trivial) (fun _ _ _=>trivial) (fun _=>trivial) (fun _ _=>trivial) (fun _=>trivial) h0 (fun x r _ ih=>h1 _ _ _ _ x r ih) h
theorem RV.mono {B B':PM} (le:∀ a o,B a=some o→B' a=some o) {p:PV} {v:Value} (h:RV B p v):RV B' p v :=
  RV.rec (motive_1:=fun p v _=>RV B' p v) (motive_2:=fun l vs _=>RVs B' l vs) .none (fun b=>.bool b) (fun i t=>.int i t) (fun c t=>.str c t) (fun e _ r=>.tup (le _ _ e) r) (fun e _ r=>.lst (le _ _ e) r) (fun v=>.con v) (fun d e=>.dct d (le _ _ e)) (fun e=>.rng (le _ _ e)) .nil (fun _ _ x r=>.cons x r) h
theorem RVs.mono {B B':PM} (le:∀ a o,B a=some o→B' a=some o) {l:List PV} {vs:List Value} (h:RVs B l vs):RVs B' l vs :=
  h.ind .nil fun _ _ _ _ x _ ih=>.cons (x.mono le) ih
theorem RVs.length {B:PM} {l:List PV} {vs:List Value} (h:RVs B l vs):vs.length=l.length :=
  h.ind (M:=fun l vs=>vs.length=l.length) rfl fun _ _ _ _ _ _ ih=>congrArg (·+1) ih
theorem RVs.append {B:PM} {l l':List PV} {vs vs':List Value} (h:RVs B l vs) (r:RVs B l' vs'):RVs B (l++l') (vs++vs') :=
  h.ind (M:=fun l vs=>RVs B (l++l') (vs++vs')) r fun _ _ _ _ x _ ih=>.cons x ih
theorem RVs.get {B:PM} {l:List PV} {vs:List Value} (h:RVs B l vs):∀ {k:Nat} {p:PV},l[k]?=some p→∃ v,vs[k]?=some v∧RV B p v :=
  h.ind (M:=fun l vs=>∀ {k:Nat} {p:PV},l[k]?=some p→∃ v,vs[k]?=some v∧RV B p v) (fun e=>jb e) fun q v l vs x r ih k p e=>by
    cases k with
    | zero=>exact ⟨v,rfl,Option.some.inj e ▸ x⟩
    | succ k=>exact ih (k:=k) e
theorem RVs.drop {B:PM} {l:List PV} {vs:List Value} (h:RVs B l vs):∀ k:Nat,RVs B (l.drop k) (vs.drop k) :=
  h.ind (M:=fun l vs=>∀ k:Nat,RVs B (l.drop k) (vs.drop k)) (fun k=>by rw [List.drop_nil,List.drop_nil]; exact .nil) fun q v l vs x r ih k=>by
    cases k with
    | zero=>exact .cons x r
    | succ k=>exact ih k
theorem RVs.take {B:PM} {l:List PV} {vs:List Value} (h:RVs B l vs):∀ k:Nat,RVs B (l.take k) (vs.take k) :=
  h.ind (M:=fun l vs=>∀ k:Nat,RVs B (l.take k) (vs.take k)) (fun k=>by rw [List.take_nil,List.take_nil]; exact .nil) fun q v l vs x r ih k=>by
    cases k with
    | zero=>exact .nil
    | succ k=>exact .cons x (ih k)
theorem RVs.set {B:PM} {l:List PV} {vs:List Value} (h:RVs B l vs):∀ (k:Nat) {p:PV} {v:Value},RV B p v→RVs B (l.set k p) (vs.set k v) :=
  h.ind (M:=fun l vs=>∀ (k:Nat) {p:PV} {v:Value},RV B p v→RVs B (l.set k p) (vs.set k v)) (fun k _ _ _=>.nil) fun q v l vs x r ih k _ _ y=>by
    cases k with
    | zero=>exact .cons y r
    | succ k=>exact .cons x (ih k y)
theorem RVs.reverse {B:PM}:∀ {l vs} (_:RVs B l vs),RVs B l.reverse vs.reverse
  | _,_,.nil=>.nil
  | _,_,.cons h r=>by simpa using r.reverse.append (.cons h .nil)
inductive OB where
  | list (l:List PV) | iter (l:List PV) | hdr (l:List PV)
inductive Slot where
  | un | pv (p:PV) | ob (o:OB) | br (o:OB) | hid
noncomputable abbrev VS:=List Slot
inductive AVal where
  | pv (p:PV) | own (k:Nat) | sub (k:Nat) | obj (o:OB)
structure PX where
  rd:PM
  pr:PM
  pv:Nat→Value:=fun _=>.none
  pf:Nat→List Addr:=fun _=>[]
structure G where
  prog:Program
  w:World
  h₀ : Heap
  HC:Addr
  mg:Str→Option Value
  mb:Str→Option Value
inductive HdrAt (g:G) (B:PM) (a b:Addr):Prop
  | mk (d:Addr) (es:List DictEntry) (n:Nat):B a=some ⟨.ref g.HC,some d,.plain,#[]⟩→B d=some (dictOf es n)→(∀ x,getL x es=if x=("_headers" : Str) then some (some (.ref b)) else some none)→HdrAt g B a b
theorem HdrAt.mono {g:G} {B B':PM} {a b:Addr} (le:∀ a o,B a=some o→B' a=some o) (x:HdrAt g B a b):HdrAt g B' a b :=
  x.casesOn fun d es n h1 h2 h3=>⟨d,es,n,le _ _ h1,le _ _ h2,h3⟩
inductive OwnL (B:PM) (gt:PM) (l:List PV) (v:Value) (F:List Addr):Prop
  | mk (a:Addr) (vs:List Value) (n:Nat):v=.ref a→F=[a]→gt a=some (lobj vs n)→RVs B l vs→OwnL B gt l v F
inductive OwnI (B:PM) (gt:PM) (l:List PV) (v:Value) (F:List Addr):Prop
  | mk (a b:Addr) (vs:List Value) (n i:Nat):v=.ref a→F=[a]→(∃ o,gt a=some o∧o.cls=.type "list_iterator"∧o.data=.fields #[.ref b,.int i 0])→B b=some (lobj vs n)→RVs B l (vs.drop i)→OwnI B gt l v F
inductive OwnH (g:G) (B:PM) (gt:PM) (l:List PV) (v:Value) (F:List Addr):Prop
  | mk (a b:Addr) (vs:List Value) (n:Nat):v=.ref a→F=[b]→HdrAt g B a b→gt b=some (lobj vs n)→RVs B l vs→OwnH g B gt l v F
noncomputable def Own (g:G) (B:PM) (gt:PM):OB→Value→List Addr→Prop
  | .list l,v,F=>OwnL B gt l v F
  | .iter l,v,F=>OwnI B gt l v F
  | .hdr l,v,F=>OwnH g B gt l v F
theorem Own.mono {g:G} {B B' gt gt':PM} (le:∀ a o,B a=some o→B' a=some o):∀ {o v F},Own g B gt o v F→(∀ a∈F,∀ o,gt a=some o→gt' a=some o)→Own g B' gt' o v F
  | .list _,_,_=>fun h k=>h.casesOn fun a vs n q1 q2 q3 q4=>⟨a,vs,n,q1,q2,k a (by rw [q2]; exact List.mem_singleton.mpr rfl) _ q3,q4.mono le⟩
  | .iter _,_,_=>fun h k=>h.casesOn fun a b vs n i q1 q2 q3 q4 q5=>⟨a,b,vs,n,i,q1,q2,q3.imp fun _ r=>⟨k a (by rw [q2]; exact List.mem_singleton.mpr rfl) _ r.1,r.2⟩,le _ _ q4,q5.mono le⟩
  | .hdr _,_,_=>fun h k=>h.casesOn fun a b vs n q1 q2 q3 q4 q5=>⟨a,b,vs,n,q1,q2,q3.mono le,k b (by rw [q2]; exact List.mem_singleton.mpr rfl) _ q4,q5.mono le⟩
theorem mem1 {F:List Addr} {a b:Addr} (e:F=[a]) (h:b∈F):a=b:=by rw [e] at h; exact (List.mem_singleton.mp h).symm
theorem Own.some {g:G} {B gt:PM}:∀ {o v F},Own g B gt o v F→∀ a∈F,∃ o,gt a=some o
  | .list _,_,_=>fun h b hb=>h.casesOn fun a vs n q1 q2 q3 q4=>⟨_,(mem1 q2 hb) ▸ q3⟩
  | .iter _,_,_=>fun h b hb=>h.casesOn fun a b vs n i q1 q2 q3 q4 q5=>(mem1 q2 hb) ▸ q3.imp fun _ r=>r.1
  | .hdr _,_,_=>fun h b hb=>h.casesOn fun a b vs n q1 q2 q3 q4 q5=>⟨_,(mem1 q2 hb) ▸ q4⟩
noncomputable def SlotOk (g:G) (B:PM) (P:PX) (h:Heap) (c:Addr):Slot→Value→List Addr→Prop
  | .un,_,F=>F=[]
  | .pv p,v,F=>RV B p v∧F=[]
  | .ob o,v,F=>Own g B h.get? o v F
  | .br o,v,F=>F=[]∧∃ F',Own g B P.rd o v F'
  | .hid,v,F=>F=[]∧v=.ref c
inductive VK where | loc | cel | fre | glo | par
  deriving DecidableEq
noncomputable def yv (L:Addr) (ks:List (Str×VK)) (foot:Nat→List Addr) (cel:Nat→Addr):Option (Nat×Bool)→Addr→Prop
  | none,a=>a=L
  | some (k,true),a=>(∃ x,ks[k]?=some (x,VK.cel))∧a=cel k
  | some (k,false),a=>a∈foot k
structure EnvOk (g:G) (env:Env) (ks:List (Str×VK)) (cel:Nat→Addr):Prop where
  kind:env.scope.kind=.function
  glob:env.globals=mainGlobals
  blt:env.builtins=builtinsNs
  nodup:(ks.map (·.1)).Nodup
  kl:∀ (k:Nat) (x:Str) (vk:VK),ks[k]?=some (x,vk)→vk=.loc ∨ vk=.par→env.kindOf x=some .local
  kc:∀ (k:Nat) (x:Str),ks[k]?=some (x,VK.cel)→env.kindOf x=some .cell∧env.cells.lookup x=some (cel k)
  kg:∀ (k:Nat) (x:Str),ks[k]?=some (x,VK.glo)→env.kindOf x=some .globalImplicit
  kf:∀ (k:Nat) (x:Str),ks[k]?=some (x,VK.fre)→(env.kindOf x=some .cell ∨ env.kindOf x=some .free)∧env.cells.lookup x=some (cel k)
structure Iv (g:G) (B:PM) (P:PX) (env:Env) (ks:List (Str×VK)) (vs:VS) (h:Heap) (val:Nat→Value) (foot:Nat→List Addr) (cel:Nat→Addr):Prop where
  ev:EnvOk g env ks cel
  base:∀ b o,g.h₀.get? b=some o→B b=some o
  hB:∀ b o,B b=some o→h.get? b=some o
  hR:∀ b o,P.rd b=some o→P.pr b=some o
  hP:∀ b o,P.pr b=some o→h.get? b=some o
  above:g.h₀.objs.size≤env.locals
  len:vs.length≤ks.length
  ns:∃ m,h.Ns env.locals m∧∀ (k:Nat) (x:Str) (vk:VK),ks[k]?=some (x,vk)→vk=.loc ∨ vk=.par→∀ sl,vs[k]?=some sl→sl ≠ .un→m x=some (val k)
  pin:∀ (k:Nat) (x:Str),ks[k]?=some (x,VK.par)→val k=P.pv k∧foot k=P.pf k
  cl:∀ (k:Nat) (x:Str),ks[k]?=some (x,VK.cel)→∃ ov,h.IsCell (cel k) ov∧∀ sl,vs[k]?=some sl→sl ≠ .un→ov=some (val k)
  fr:∀ (k:Nat) (x:Str),ks[k]?=some (x,VK.fre)→∃ o,P.rd (cel k)=some o∧∀ sl,vs[k]?=some sl→sl ≠ .un→o.data=.cell (some (val k))
  slots:∀ (k:Nat) (sl:Slot),vs[k]?=some sl→SlotOk g B P h (cel k) sl (val k) (foot k)
  out:∀ k,vs.length≤k→foot k=[]
  own:∀ i a,yv env.locals ks foot cel i a→B a=none∧P.pr a=none
  apart:∀ i j a,yv env.locals ks foot cel i a→yv env.locals ks foot cel j a→i=j
noncomputable def Room (A:Around) (r:Nat):Prop:=A.handled=none∧A.depth+2*r<1000∧A.units+16*r+200<9900
noncomputable def Sh (s s':Shared):Prop:=∃ h t,s'={ s with heap:=h,toks:=t }∧Alive s.heap h
theorem Sh.refl (s:Shared):Sh s s:=⟨s.heap,s.toks,rfl,.refl _⟩
theorem Sh.trans {s s' s'':Shared} (x:Sh s s') (y:Sh s' s''):Sh s s'':=by
  obtain ⟨h,t,rfl,hs⟩:=x
  obtain ⟨h',t',rfl,hs'⟩:=y
  exact ⟨h',t',rfl,hs.trans hs'⟩
theorem Sh.size {s s':Shared} (x:Sh s s'):Alive s.heap s'.heap:=by obtain ⟨h,t,rfl,hs⟩:=x; exact hs
noncomputable def RepA (g:G) (B:PM) (h:Heap) (val:Nat→Value):AVal→Value→List Addr→Prop
  | .pv p,x,F=>RV B p x∧F=[]
  | .own k,x,F=>x=val k∧F=[]
  | .sub k,x,F=>(∃ a b,val k=.ref a∧HdrAt g B a b∧x=.ref b)∧F=[]
  | .obj o,x,F=>Own g B h.get? o x F
noncomputable def Fresh (B:PM) (P:PX) (L:Addr) (ks:List (Str×VK)) (foot:Nat→List Addr) (cel:Nat→Addr) (F:List Addr):Prop :=
  ∀ a∈F,B a=none∧P.pr a=none∧∀ i,¬ yv L ks foot cel i a
inductive EPost (g:G) (P:PX) (env:Env) (ks:List (Str×VK)) (cel:Nat→Addr) (B:PM) (s:Shared) (val:Nat→Value) (foot:Nat→List Addr) (v:AVal) (vs':VS) (x:Value) (s':Shared):Prop
  | mk (sh:Sh s s') (B':PM) (F:List Addr) (e:Ext B B' s.heap) (I:Iv g B' P env ks vs' s'.heap val foot cel) (R:RepA g B' s'.heap val v x F) (Fr:Fresh B' P env.locals ks foot cel F) (lo:∀ a∈F,s.heap.get? a=none)
theorem EPost.rev {g:G} {P:PX} {env:Env} {ks:List (Str×VK)} {cel:Nat→Addr} {B:PM} {s:Shared} {val:Nat→Value} {foot:Nat→List Addr} {v:AVal} {vs':VS} {x:Value} {s':Shared} {C:Prop}
    (k:Sh s s'→∀ B' F,Ext B B' s.heap→Iv g B' P env ks vs' s'.heap val foot cel→RepA g B' s'.heap val v x F→Fresh B' P env.locals ks foot cel F→(∀ a∈F,s.heap.get? a=none)→C):EPost g P env ks cel B s val foot v vs' x s'→C :=
  fun ⟨a,b,c,d,e,f,g,h⟩=>k a b c d e f g h
noncomputable abbrev Ev:=VS→Option (AVal×VS)
noncomputable abbrev No:Value→Shared→Prop:=fun _ _=>False
noncomputable def Den (g:G) (r:Nat) (ks:List (Str×VK)) (e:Expr) (f:Ev):Prop :=
  ∀ A B P env s vs val foot cel v vs',f vs=some (v,vs')→Room A r→Iv g B P env ks vs s.heap val foot cel →
    wpAny (model g.prog g.w) A (eval e env) (EPost g P env ks cel B s val foot v vs') No s
inductive Fl where | next | brk | ret (v:AVal)
noncomputable abbrev Ex:=VS→Option (Fl×VS)
noncomputable def FlOk (R:AVal→Value→Prop):Fl→Flow→Prop
  | .next,f=>f=.next
  | .brk,f=>f=.brk
  | .ret v,f=>∃ x,f=.ret x∧R v x
inductive SPost (g:G) (P:PX) (env:Env) (ks:List (Str×VK)) (cel:Nat→Addr) (B:PM) (s:Shared) (fl:Fl) (vs':VS) (f:Flow) (s':Shared):Prop
  | mk (sh:Sh s s') (B':PM) (val:Nat→Value) (foot:Nat→List Addr) (F:List Addr) (e:Ext B B' s.heap) (I:Iv g B' P env ks vs' s'.heap val foot cel) (R:FlOk (fun v x=>RepA g B' s'.heap val v x F∧Fresh B' P env.locals ks foot cel F∧∀ a∈F,s.heap.get? a=none) fl f)
theorem SPost.rev {g:G} {P:PX} {env:Env} {ks:List (Str×VK)} {cel:Nat→Addr} {B:PM} {s:Shared} {fl:Fl} {vs':VS} {f:Flow} {s':Shared} {C:Prop}
    (k:Sh s s'→∀ B' val foot F,Ext B B' s.heap→Iv g B' P env ks vs' s'.heap val foot cel→FlOk (fun v x=>RepA g B' s'.heap val v x F∧Fresh B' P env.locals ks foot cel F∧∀ a∈F,s.heap.get? a=none) fl f→C):SPost g P env ks cel B s fl vs' f s'→C :=
  fun ⟨a,b,c,d,e,f,g,h⟩=>k a b c d e f g h
noncomputable def DenS (g:G) (r:Nat) (ks:List (Str×VK)) (st:Stmt) (f:Ex):Prop :=
  ∀ A B P env s vs val foot cel fl vs',f vs=some (fl,vs')→Room A r→Iv g B P env ks vs s.heap val foot cel →
    wpAny (model g.prog g.w) A (exec st env) (SPost g P env ks cel B s fl vs') No s
noncomputable def DenB (g:G) (r:Nat) (ks:List (Str×VK)) (st:List Stmt) (f:Ex):Prop :=
  ∀ A B P env s vs val foot cel fl vs',f vs=some (fl,vs')→Room A r→Iv g B P env ks vs s.heap val foot cel →
    wpAny (model g.prog g.w) A (execs st env) (SPost g P env ks cel B s fl vs') No s
inductive TPost (g:G) (P:PX) (env:Env) (ks:List (Str×VK)) (cel:Nat→Addr) (B:PM) (s:Shared) (val:Nat→Value) (foot:Nat→List Addr) (b:Bool) (vs':VS) (x:Bool) (s':Shared):Prop
  | mk (h:x=b) (sh:Sh s s') (B':PM) (e:Ext B B' s.heap) (I:Iv g B' P env ks vs' s'.heap val foot cel)
noncomputable abbrev Te:=VS→Option (Bool×VS)
noncomputable def DenT (g:G) (r:Nat) (ks:List (Str×VK)) (e:Expr) (f:Te):Prop :=
  ∀ A B P env s vs val foot cel b vs',f vs=some (b,vs')→Room A r→Iv g B P env ks vs s.heap val foot cel →
    wpAny (model g.prog g.w) A (PySem.isTrue e env (eval e env)) (TPost g P env ks cel B s val foot b vs') No s
section
variable {g:G} {B B':PM} {P:PX} {env:Env} {ks:List (Str×VK)} {vs vs':VS} {h h':Heap} {val:Nat→Value} {foot:Nat→List Addr} {cel:Nat→Addr}
theorem Iv.ownAt (I:Iv g B P env ks vs h val foot cel) {i a} (o:yv env.locals ks foot cel i a):∃ o,h.get? a=some o:=by
  match i,o with
  | none,o=>cases o; obtain ⟨m,⟨o,_,_,ho,_⟩,_⟩:=I.ns; exact ⟨o,ho⟩
  | some (k,true),⟨⟨x,hx⟩,e⟩=>subst e; obtain ⟨ov,⟨o,ho,_⟩,_⟩:=I.cl k x hx; exact ⟨o,ho⟩
  | some (k,false),o =>
    have o:a∈foot k:=o
    by_cases hk:k<vs.length
    · have:=I.slots k vs[k] (List.getElem?_eq_getElem hk)
      cases hsl:vs[k] with
      | un=>rw [hsl] at this; have:foot k=[]:=this; rw [this] at o; simp at o
      | pv p=>rw [hsl] at this; have:=this.2; rw [this] at o; simp at o
      | ob ob=>rw [hsl] at this; exact Own.some this a o
      | br ob=>rw [hsl] at this; have:=this.1; rw [this] at o; simp at o
      | hid=>rw [hsl] at this; have:=this.1; rw [this] at o; simp at o
    · rw [I.out k (Nat.not_lt.mp hk)] at o; simp at o
theorem Iv.ownLt (I:Iv g B P env ks vs h val foot cel) {i a} (o:yv env.locals ks foot cel i a):a<h.objs.size:=let ⟨_,ho⟩:=I.ownAt o; Heap.lt_size ho
theorem SlotOk.step (le:∀ a o,B a=some o→B' a=some o) {c sl v F} (S:SlotOk g B P h c sl v F) (k:∀ a∈F,∀ o,h.get? a=some o→h'.get? a=some o):SlotOk g B' P h' c sl v F:=by
  cases sl with
  | un=>exact S
  | pv p=>exact ⟨S.1.mono le,S.2⟩
  | ob o=>exact Own.mono le S k
  | br o=>obtain ⟨e,F',hF⟩:=S; exact ⟨e,F',Own.mono le hF fun _ _ _ x=>x⟩
  | hid=>exact S
theorem Iv.grow (I:Iv g B P env ks vs h val foot cel) (k:∀ b o,h.get? b=some o→h'.get? b=some o) (x:Ext B B' h) (hB':∀ b o,B' b=some o→h'.get? b=some o) :
    Iv g B' P env ks vs h' val foot cel where
  ev:=I.ev
  base:=fun b o e=>x.le _ _ (I.base b o e)
  hB:=hB'
  hR:=I.hR
  hP:=fun b o e=>k _ _ (I.hP b o e)
  above:=I.above
  len:=I.len
  ns:=let ⟨m,hm,q⟩:=I.ns; ⟨m,hm.keeps k,q⟩
  pin:=I.pin
  cl:=fun i y e=>let ⟨ov,hc,q⟩:=I.cl i y e; ⟨ov,hc.keeps k,q⟩
  fr:=I.fr
  slots:=fun i sl e=>(I.slots i sl e).step x.le fun a _ o q=>k a o q
  out:=I.out
  own:=fun i a o=>⟨let ⟨_,ho⟩:=I.ownAt o; (x.eq a _ ho).trans (I.own i a o).1,(I.own i a o).2⟩
  apart:=I.apart
theorem Iv.push (I:Iv g B P env ks vs h val foot cel) (o:Obj):Iv g B P env ks vs (h.push o) val foot cel :=
  I.grow (fun _ _ e=>Heap.get?_push_of_some _ e) (.refl _ _) fun _ _ e=>Heap.get?_push_of_some _ (I.hB _ _ e)
theorem Iv.bNone (I:Iv g B P env ks vs h val foot cel) {a:Addr} (ha:h.objs.size≤a):B a=none∧P.pr a=none:=by
  constructor
  · cases e:B a with
    | none=>rfl
    | some o=>exact absurd (Heap.lt_size (I.hB _ _ e)) (Nat.not_lt.mpr ha)
  · cases e:P.pr a with
    | none=>rfl
    | some o=>exact absurd (Heap.lt_size (I.hP _ _ e)) (Nat.not_lt.mpr ha)
noncomputable def PM.put (B:PM) (a:Addr) (o:Obj):PM:=fun b=>if b=a then some o else B b
theorem PM.put_self (B:PM) (a:Addr) (o:Obj):B.put a o a=some o:=by simp [PM.put]
theorem PM.put_le {B:PM} {a:Addr} {o:Obj} (h:B a=none):∀ b p,B b=some p→B.put a o b=some p:=fun b p e=>by
  unfold PM.put
  split
  · rename_i q; subst q; rw [h] at e; exact jb e
  · exact e
theorem Ext.put {B:PM} {a:Addr} {o:Obj} {h:Heap} (hb:B a=none) (ha:h.get? a=none):Ext B (B.put a o) h :=
  ⟨PM.put_le hb,fun b p e=>by unfold PM.put; rw [if_neg]; rintro rfl; rw [ha] at e; exact jb e⟩
theorem Iv.freeze (I:Iv g B P env ks vs h val foot cel) {a:Addr} {o:Obj} (ha:h.get? a=some o) (F:Fresh B P env.locals ks foot cel [a]) :
    Iv g (B.put a o) P env ks vs h val foot cel where
  ev:=I.ev
  base:=fun b o e=>PM.put_le (F a (by simp)).1 _ _ (I.base b o e)
  hB:=fun b p e=>by
    unfold PM.put at e
    split at e
    · rename_i q; subst q; injection e with e; subst e; exact ha
    · exact I.hB _ _ e
  hR:=I.hR
  hP:=I.hP
  above:=I.above
  len:=I.len
  ns:=I.ns
  pin:=I.pin
  cl:=I.cl
  fr:=I.fr
  slots:=fun i sl e=>(I.slots i sl e).step (PM.put_le (F a (by simp)).1) fun _ _ _ x=>x
  out:=I.out
  own:=fun i b o=>⟨by
    unfold PM.put
    rw [if_neg]
    · exact (I.own i b o).1
    · rintro rfl; exact (F b (by simp)).2.2 i o,(I.own i b o).2⟩
  apart:=I.apart
end
noncomputable def PR (B:PM) (s:Shared) (p:PV) (x:Value) (s':Shared):Prop :=
  ∃ h' t' B',s'={ s with heap:=h',toks:=t' }∧(∀ b o,s.heap.get? b=some o→h'.get? b=some o) ∧
    Ext B B' s.heap∧(∀ b o,B' b=some o→h'.get? b=some o)∧RV B' p x
section
variable {g:G} {B B':PM} {P:PX} {env:Env} {ks:List (Str×VK)} {vs vs':VS} {h h':Heap} {val:Nat→Value} {foot:Nat→List Addr} {cel:Nat→Addr} {s s':Shared} {A:Around} {r:Nat}
theorem PR.same {p:PV} {x:Value} {t:Tok} (hB:∀ b o,B b=some o→s.heap.get? b=some o) (r:RV B p x):PR B s p x { s with toks:=t } :=
  ⟨s.heap,t,B,rfl,fun _ _ e=>e,.refl _ _,hB,r⟩
theorem PR.here {p:PV} {x:Value} (hB:∀ b o,B b=some o→s.heap.get? b=some o) (r:RV B p x):PR B s p x s :=
  ⟨s.heap,s.toks,B,rfl,fun _ _ e=>e,.refl _ _,hB,r⟩
theorem ve (hB:∀ b o,B b=some o→h.get? b=some o) {a:Addr} (ha:h.objs.size≤a):B a=none:=by
  cases e:B a with
  | none=>rfl
  | some o=>exact absurd (Heap.lt_size (hB _ _ e)) (Nat.not_lt.mpr ha)
theorem put_hB {a:Addr} {o:Obj} (hB:∀ b o,B b=some o→h.get? b=some o) (ha:h.get? a=some o):∀ b p,(B.put a o) b=some p→h.get? b=some p:=fun b p e=>by
  unfold PM.put at e
  split at e
  · rename_i q; subst q; injection e with e; subst e; exact ha
  · exact hB _ _ e
theorem none_of (k:∀ b o,h.get? b=some o→h'.get? b=some o):h.get? h'.objs.size=none:=by
  cases e:h.get? h'.objs.size with
  | none=>rfl
  | some o=>exact absurd (Heap.lt_size (k _ _ e)) (Nat.lt_irrefl _)
theorem PR.one {p:PV} {o:Obj} {h₁ : Heap} {t:Tok} (hB:∀ b o,B b=some o→s.heap.get? b=some o) (k:∀ b o,s.heap.get? b=some o→h₁.get? b=some o)
    (hf:o.isFreed=false) (r:RV (B.put h₁.objs.size o) p (.ref h₁.objs.size)):PR B s p (.ref h₁.objs.size) { s with heap:=h₁.push o,toks:=t } :=
  ⟨_,t,B.put h₁.objs.size o,rfl,fun b q e=>Heap.get?_push_of_some _ (k b q e),.put (ve (fun b o e=>k _ _ (hB b o e)) (Nat.le_refl _)) (none_of k),
    put_hB (fun b q e=>Heap.get?_push_of_some _ (k _ _ (hB b q e))) (Heap.get?_push_size _ hf),r⟩
theorem EPost.of_PR {p:PV} {x:Value} (I:Iv g B P env ks vs s.heap val foot cel) (h:PR B s p x s'):EPost g P env ks cel B s val foot (.pv p) vs x s':=by
  obtain ⟨h',t',B',rfl,k,e,hB',r⟩:=h
  exact ⟨⟨h',t',rfl,.of_keep k⟩,B',[],e,I.grow k e hB',⟨r,rfl⟩,fun a ha=>(nomatch ha),fun a ha=>(nomatch ha)⟩
noncomputable def frz:AVal→Option AVal
  | .obj (.list l)=>some (.pv (.lst l))
  | .obj _=>none
  | v=>some v
theorem yD {v w:AVal} (e:frz v=some w):∀ o,w ≠ .obj o:=by
  cases v with
  | obj o=>cases o <;> simp [frz] at e <;> subst e <;> simp
  | _=>simp [frz] at e; subst e; simp
theorem EPost.froze {v w:AVal} {x:Value} (e:EPost g P env ks cel B s val foot v vs x s') (f:frz v=some w) :
    Sh s s'∧∃ B',Ext B B' s.heap∧Iv g B' P env ks vs s'.heap val foot cel∧RepA g B' s'.heap val w x []:=by
  revert e
  refine EPost.rev fun sh B' F x1 I R Fr lo=>?_
  refine ⟨sh,?_⟩
  cases v with
  | pv p=>simp [frz] at f; subst f; obtain ⟨R,rfl⟩:=R; exact ⟨B',x1,I,R,rfl⟩
  | own k=>simp [frz] at f; subst f; obtain ⟨R,rfl⟩:=R; exact ⟨B',x1,I,R,rfl⟩
  | sub k=>simp [frz] at f; subst f; obtain ⟨R,rfl⟩:=R; exact ⟨B',x1,I,R,rfl⟩
  | obj o =>
    cases o with
    | list l =>
      simp [frz] at f
      subst f
      obtain ⟨a,ws,n,rfl,rfl,hg,hr⟩:=R
      exact ⟨B'.put a (lobj ws n),x1.trans (.put (h:=s.heap) (Fr a (by simp)).1 (lo a (by simp))) (.refl _),I.freeze hg Fr,.lst (PM.put_self ..) (hr.mono (PM.put_le (Fr a (by simp)).1)),rfl⟩
    | iter l=>simp [frz] at f
    | hdr l=>simp [frz] at f
theorem RepA.keep {v:AVal} {x:Value} {h h':Heap} (R:RepA g B h val v x []) (hv:∀ o,v ≠ .obj o) (le:∀ a o,B a=some o→B' a=some o):RepA g B' h' val v x []:=by
  cases v with
  | pv p=>exact ⟨R.1.mono le,rfl⟩
  | own k=>exact R
  | sub k=>obtain ⟨⟨a,b,h1,h2,h3⟩,_⟩:=R; exact ⟨⟨a,b,h1,h2.mono le,h3⟩,rfl⟩
  | obj o=>exact absurd rfl (hv o)
theorem EPost.from {v:AVal} {x:Value} {s₀ : Shared} {B₀ : PM} (sh:Sh s₀ s) (e:Ext B₀ B s₀.heap) (p:EPost g P env ks cel B s val foot v vs x s'):EPost g P env ks cel B₀ s₀ val foot v vs x s':=by
  revert p
  refine EPost.rev fun sh' B' F x1 I R Fr lo=>?_
  exact ⟨sh.trans sh',B',F,e.trans x1 sh.size,I,R,Fr,fun a ha=>by
    cases e:s₀.heap.get? a with
    | none=>rfl
    | some o=>obtain ⟨o',e'⟩:=sh.size a o e; rw [lo a ha] at e'; exact jb e'⟩
theorem EPost.frozeE {v w:AVal} {x:Value} {C:Prop} (e:EPost g P env ks cel B s val foot v vs x s') (f:frz v=some w)
    (k:Sh s s'→∀ B',Ext B B' s.heap→Iv g B' P env ks vs s'.heap val foot cel→RepA g B' s'.heap val w x []→C):C :=
  let ⟨a,b,c,d,h⟩:=e.froze f; k a b c d h
noncomputable def ev2 (sem:AVal→AVal→VS→Option PV) (f1 f2:Ev):Ev:=fun vs =>
  (f1 vs).bind fun p1=>(frz p1.1).bind fun a=>(f2 p1.2).bind fun p2=>(frz p2.1).bind fun b=>(sem a b p2.2).map fun p=>(.pv p,p2.2)
noncomputable def Op2 (t:Value→Value→Sem Value) (sem:AVal→AVal→VS→Option PV):Prop :=
  ∀ (g:G) (A:Around) (B:PM) (P:PX) (env:Env) (ks:List (Str×VK)) (s:Shared) (vs:VS) (val:Nat→Value) (foot:Nat→List Addr) (cel:Nat→Addr) (a b:AVal) (p:PV) (x y:Value),
    sem a b vs=some p→A.units+100<cLine→Iv g B P env ks vs s.heap val foot cel→RepA g B s.heap val a x []→RepA g B s.heap val b y []→wpAny (model g.prog g.w) A (t x y) (PR B s p) No s
theorem Room.units (h:Room A r):A.units+100<cLine:=Nat.lt_of_le_of_lt (Nat.add_le_add (Nat.le_add_right A.units (16*r)) (by decide:100≤200)) h.2.2
theorem two {e1 e2:Expr} {f1 f2:Ev} {Q:Value→Shared→Prop} (d1:Den g r ks e1 f1) (d2:Den g r ks e2 f2) (t:Value→Value→Sem Value) (R:Room A r) (I:Iv g B P env ks vs s.heap val foot cel)
    {a b:AVal} {p1 p2:AVal×VS} (h1:f1 vs=some p1) (z1:frz p1.1=some a) (h2:f2 p1.2=some p2) (z2:frz p2.1=some b)
    (k:∀ x y s' B',Sh s s'→Ext B B' s.heap→Iv g B' P env ks p2.2 s'.heap val foot cel→RepA g B' s'.heap val a x []→RepA g B' s'.heap val b y []→wpAny (model g.prog g.w) A (t x y) Q No s') :
    wpAny (model g.prog g.w) A (eval e1 env) (fun x s₁=>wpAny (model g.prog g.w) A (eval e2 env) (fun y s₂=>wpAny (model g.prog g.w) A (t x y) Q No s₂) No s₁) No s:=by
  refine wpAny_mono (d1 A B P env s vs val foot cel p1.1 p1.2 h1 R I) (fun x s₁ e=>?_) fun _ _ f=>f
  refine EPost.frozeE e z1 fun sh1 B1 x1 I1 R1=>?_
  refine wpAny_mono (d2 A B1 P env s₁ p1.2 val foot cel p2.1 p2.2 h2 R I1) (fun y s₂ e=>?_) fun _ _ f=>f
  refine EPost.frozeE e z2 fun sh2 B2 x2 I2 R2=>?_
  exact k x y s₂ B2 (sh1.trans sh2) (x1.trans x2 sh1.size) I2 (R1.keep (yD z1) x2.le) R2
theorem jd {α β : Type} {o:Option α} {f:α→Option β} {b:β} (h:o.bind f=some b):∃ a,o=some a∧f a=some b:=by
  cases o with
  | none=>exact jb h
  | some a=>exact ⟨a,rfl,h⟩
theorem jc {α β : Type} {o:Option α} {f:α→Option β} {b:β} {C:Prop} (k:∀ a,o=some a→f a=some b→C):o.bind f=some b→C:=fun h=>let ⟨a,x,y⟩:=jd h; k a x y
theorem ev2_eq {sem:AVal→AVal→VS→Option PV} {f1 f2:Ev} {v:AVal} (h:ev2 sem f1 f2 vs=some (v,vs')) :
    ∃ p1 a p2 b p,f1 vs=some p1∧frz p1.1=some a∧f2 p1.2=some p2∧frz p2.1=some b∧sem a b p2.2=some p∧v=.pv p∧vs'=p2.2:=by
  revert h
  refine jc fun p1 h1 h=>?_
  revert h
  refine jc fun a z1 h=>?_
  revert h
  refine jc fun p2 h2 h=>?_
  revert h
  refine jc fun b z2 h=>?_
  cases q:sem a b p2.2 with
  | none=>rw [q] at h; exact jb h
  | some p=>rw [q] at h; injection h with h; injection h with ee0 ee1; subst ee0; subst ee1; exact ⟨p1,a,p2,b,p,h1,z1,h2,z2,q,rfl,rfl⟩
theorem jk {op:Operator} {l e:Expr} {pos:Pos} {f1 f2:Ev} {sem:AVal→AVal→VS→Option PV} (d1:Den g r ks l f1) (d2:Den g r ks e f2) (o:Op2 (binaryOp op) sem) :
    Den g r ks (.BinOp l op e pos) (ev2 sem f1 f2):=by
  intro A B P env s vs val foot cel v vs' h R I
  obtain ⟨p1,a,p2,b,p,h1,z1,h2,z2,q,rfl,rfl⟩:=ev2_eq h
  refine wpAny_BinOp (two d1 d2 (binaryOp op) R I h1 z1 h2 z2 fun x y s' B' sh xe I' Ra Rb=>?_)
  exact wpAny_mono (o g A B' P env ks s' p2.2 val foot cel a b p x y q R.units I' Ra Rb) (fun _ _ h=>(EPost.of_PR I' h).from sh xe) fun _ _ f=>f
theorem den_cmp {op:CmpOp} {l e:Expr} {pos:Pos} {f1 f2:Ev} {sem:AVal→AVal→VS→Option PV} (d1:Den g r ks l f1) (d2:Den g r ks e f2) (o:Op2 (compareOp op) sem) (hm:behindInMarks op e=false) :
    Den g r ks (.Compare l [op] [e] pos) (ev2 sem f1 f2):=by
  intro A B P env s vs val foot cel v vs' h R I
  obtain ⟨p1,a,p2,b,p,h1,z1,h2,z2,q,rfl,rfl⟩:=ev2_eq h
  refine wpAny_Compare1 (two d1 d2 (compareOp op) R I h1 z1 h2 z2 fun x y s' B' sh xe I' Ra Rb=>?_) hm
  exact wpAny_mono (o g A B' P env ks s' p2.2 val foot cel a b p x y q R.units I' Ra Rb) (fun _ _ h=>(EPost.of_PR I' h).from sh xe) fun _ _ f=>f
end
end Ab
namespace Ab
open PySem PySem.W PyProof.Rows PySem.Calls PySem.Spec
mutual
noncomputable def pvD:PV→PyData
  | .none=>.none
  | .bool b=>.bool b
  | .int i=>.int i
  | .str c=>.str ⟨c.toArray⟩
  | .tup l=>.tuple (pvDs l)
  | .lst l=>.list (pvDs l)
  | .con _=>.none
  | .rng _ _ _=>.none
  | .dct=>.none
noncomputable def pvDs:List PV→List PyData
  | []=>[]
  | p::l=>pvD p::pvDs l
end
noncomputable def okD:Nat→PV→Bool
  | _,.none=>true
  | _,.bool _=>true
  | _,.int _=>true
  | _,.str c=>c.all (·<0x110000)
  | n+1,.tup l=>l.all (okD n)
  | n+1,.lst l=>l.all (okD n)
  | _,_=>false
noncomputable def PV.isN:PV→Bool
  | .none=>true
  | _=>false
noncomputable def PV.isI (i:Int):PV→Bool
  | .bool b=>i == (if b then 1 else 0)
  | .int j=>i == j
  | _=>false
noncomputable def PV.isS (c:List Nat):PV→Bool
  | .str d=>c == d
  | _=>false
noncomputable def PV.isT (f:List PV→Bool):PV→Bool
  | .tup l=>f l
  | _=>false
noncomputable def PV.isL (f:List PV→Bool):PV→Bool
  | .lst l=>f l
  | _=>false
noncomputable def PVs.isC (f:PV→Bool) (r:List PV→Bool):List PV→Bool
  | y::ys=>f y&&r ys
  | []=>false
mutual
noncomputable def pvEq:PV→PV→Bool
  | .none=>PV.isN
  | .bool a=>PV.isI (if a then 1 else 0)
  | .int i=>PV.isI i
  | .str x=>PV.isS x
  | .tup x=>PV.isT (pvEqs x)
  | .lst x=>PV.isL (pvEqs x)
  | .con _=>fun _=>false
  | .rng _ _ _=>fun _=>false
  | .dct=>fun _=>false
noncomputable def pvEqs:List PV→List PV→Bool
  | []=>List.isEmpty
  | x::xs=>PVs.isC (pvEq x) (pvEqs xs)
end
theorem str_beq (c d:List Nat):((⟨c.toArray⟩:Str) == ⟨d.toArray⟩)=(c == d):=by
  rw [Bool.eq_iff_iff,beq_iff_eq,beq_iff_eq]
  constructor
  · intro h; injection h with h; simpa using h
  · rintro rfl; rfl
theorem okD_con {n:Nat} {v:Value} {C:Prop} (hk:okD n (.con v)=true):C:=by cases n <;> exact nomatch hk
theorem okD_rng {n:Nat} {a b c:Int} {C:Prop} (hk:okD n (.rng a b c)=true):C:=by cases n <;> exact nomatch hk
theorem okD_dct {n:Nat} {C:Prop} (hk:okD n .dct=true):C:=by cases n <;> exact nomatch hk
theorem okD_tup {n:Nat} {l:List PV} (h:okD n (.tup l)=true):∃ k,n=k+1∧∀ x∈l,okD k x=true:=by
  cases n with
  | zero=>exact nomatch h
  | succ n=>exact ⟨n,rfl,List.all_eq_true.mp h⟩
theorem okD_lst {n:Nat} {l:List PV} (h:okD n (.lst l)=true):∃ k,n=k+1∧∀ x∈l,okD k x=true:=by
  cases n with
  | zero=>exact nomatch h
  | succ n=>exact ⟨n,rfl,List.all_eq_true.mp h⟩
theorem eqv_n {m:Nat} {q:PV} (h:okD m q=true):PyData.eqv .none (pvD q)=q.isN:=by
  cases q with
  | con v=>exact okD_con h
  | rng a b c=>exact okD_rng h
  | dct=>exact okD_dct h
  | _=>rfl
theorem eqv_b {b:Bool} {q:PV}:PyData.eqv (.bool b) (pvD q)=q.isI (if b then 1 else 0):=by
  cases q with
  | bool c=>cases b <;> cases c <;> rfl
  | _=>rfl
theorem eqv_i {i:Int} {q:PV}:PyData.eqv (.int i) (pvD q)=q.isI i:=by cases q <;> rfl
theorem eqv_s {c:List Nat} {q:PV}:PyData.eqv (.str ⟨c.toArray⟩) (pvD q)=q.isS c:=by
  cases q with
  | str d=>exact str_beq c d
  | _=>rfl
theorem eqv_t {l:List PyData} {q:PV}:PyData.eqv (.tuple l) (pvD q)=q.isT fun m=>PyData.eqvAll l (pvDs m):=by cases q <;> rfl
theorem eqv_l {l:List PyData} {q:PV}:PyData.eqv (.list l) (pvD q)=q.isL fun m=>PyData.eqvAll l (pvDs m):=by cases q <;> rfl
theorem isT_congr {f g:List PV→Bool} {q:PV} (h:∀ l,q=.tup l→f l=g l):q.isT f=q.isT g:=by
  cases q with
  | tup l=>exact h l rfl
  | _=>rfl
theorem isL_congr {f g:List PV→Bool} {q:PV} (h:∀ l,q=.lst l→f l=g l):q.isL f=q.isL g:=by
  cases q with
  | lst l=>exact h l rfl
  | _=>rfl
theorem pvEqs_of {n:Nat} (ih:∀ p q:PV,okD n p=true→∀ m,okD m q=true→PyData.eqv (pvD p) (pvD q)=pvEq p q) (m:Nat):∀ l r:List PV,(∀ x∈l,okD n x=true)→(∀ x∈r,okD m x=true)→PyData.eqvAll (pvDs l) (pvDs r)=pvEqs l r:=by
  intro l
  induction l with
  | nil=>intro r _ _; cases r <;> rfl
  | cons x l hi =>
    intro r hl hr
    cases r with
    | nil=>rfl
    | cons y r =>
      show (PyData.eqv (pvD x) (pvD y)&&PyData.eqvAll (pvDs l) (pvDs r))=_
      rw [ih x y (hl _ (.head _)) m (hr _ (.head _)),hi r (fun z hz=>hl z (.tail _ hz)) fun z hz=>hr z (.tail _ hz)]; rfl
theorem pvEq_eqv (n:Nat):∀ p q:PV,okD n p=true→∀ m,okD m q=true→PyData.eqv (pvD p) (pvD q)=pvEq p q:=by
  induction n with
  | zero =>
    intro p q hp m hq
    cases p with
    | none=>exact eqv_n hq
    | bool b=>exact eqv_b
    | int i=>exact eqv_i
    | str c=>exact eqv_s
    | _=>exact nomatch hp
  | succ n ih =>
    intro p q hp m hq
    cases p with
    | none=>exact eqv_n hq
    | bool b=>exact eqv_b
    | int i=>exact eqv_i
    | str c=>exact eqv_s
    | tup l=>exact eqv_t.trans (isT_congr fun r e=>by
        rw [e] at hq
        obtain ⟨k,_,hr⟩:=okD_tup hq
        exact pvEqs_of ih k l r (List.all_eq_true.mp hp) hr)
    | lst l=>exact eqv_l.trans (isL_congr fun r e=>by
        rw [e] at hq
        obtain ⟨k,_,hr⟩:=okD_lst hq
        exact pvEqs_of ih k l r (List.all_eq_true.mp hp) hr)
    | _=>exact nomatch hp
section
variable {g:G} {B B':PM} {P:PX} {env:Env} {ks:List (Str×VK)} {vs vs':VS} {h h':Heap} {val:Nat→Value} {foot:Nat→List Addr} {cel:Nat→Addr} {s s':Shared} {A:Around} {r:Nat}
theorem reads_tup (hB:∀ b o,B b=some o→h.get? b=some o) {l:List PV} {vs:List Value} {a:Addr} (e:B a=some (tobj vs)) (ih:∀ n,(∀ p∈l,okD n p=true)→∃ as,ReadsAll h vs (pvDs l) as):∀ n,okD n (.tup l)=true→∃ as,Reads h (.ref a) (pvD (.tup l)) as
  | 0,hk=>nomatch hk
  | n+1,hk=>by
    obtain ⟨as,q⟩:=ih n (List.all_eq_true.mp hk)
    exact ⟨as,Reads.tuple (hB _ _ e) rfl rfl (by simpa using q)⟩
theorem reads_lst (hB:∀ b o,B b=some o→h.get? b=some o) {l:List PV} {vs:List Value} {a:Addr} {m:Nat} (e:B a=some (lobj vs m)) (ih:∀ n,(∀ p∈l,okD n p=true)→∃ as,ReadsAll h vs (pvDs l) as):∀ n,okD n (.lst l)=true→∃ as,Reads h (.ref a) (pvD (.lst l)) as
  | 0,hk=>nomatch hk
  | n+1,hk=>by
    obtain ⟨as,q⟩:=ih n (List.all_eq_true.mp hk)
    exact ⟨_,Reads.list (hB _ _ e) rfl rfl (by simpa using q)⟩
theorem RV.reads (hB:∀ b o,B b=some o→h.get? b=some o) {p:PV} {v:Value} (n:Nat) (r:RV B p v) (hk:okD n p=true):∃ as,Reads h v (pvD p) as :=
  RV.rec (motive_1:=fun p v _=>∀ n,okD n p=true→∃ as,Reads h v (pvD p) as) (motive_2:=fun l vs _=>∀ n,(∀ p∈l,okD n p=true)→∃ as,ReadsAll h vs (pvDs l) as)
    (fun _ _=>⟨_,Reads.none⟩) (fun b _ _=>⟨_,Reads.bool b⟩) (fun i t _ _=>⟨_,Reads.int i t⟩) (fun c t _ _=>⟨_,Reads.str _ t⟩) (fun e _ ih=>reads_tup hB e ih) (fun e _ ih=>reads_lst hB e ih) (fun _ _ hk=>okD_con hk) (fun _ _ _ hk=>okD_dct hk) (fun _ _ hk=>okD_rng hk)
    (fun _ _=>⟨_,ReadsAll.nil⟩) (fun x r q1 q2 n hk=>(q1 n (hk _ (.head _))).elim fun _ a=>(q2 n fun d hm=>hk d (.tail _ hm)).elim fun _ b=>⟨_,ReadsAll.cons a b⟩) r n hk
theorem RVs.reads (hB:∀ b o,B b=some o→h.get? b=some o) {l:List PV} {ws:List Value} (n:Nat) (r:RVs B l ws):(∀ p∈l,okD n p=true)→∃ as,ReadsAll h ws (pvDs l) as :=
  r.ind (M:=fun l ws=>(∀ p∈l,okD n p=true)→∃ as,ReadsAll h ws (pvDs l) as) (fun _=>⟨_,ReadsAll.nil⟩) fun _ _ _ _ x _ ih hk=>(RV.reads hB n x (hk _ (.head _))).elim fun _ a=>(ih fun d hm=>hk d (.tail _ hm)).elim fun _ b=>⟨_,ReadsAll.cons a b⟩
end
theorem okD_lays {n:Nat} (ih:∀ p,okD n p=true→(pvD p).canLay0=true∧(pvD p).depth≤n):∀ l:List PV,(∀ p∈l,okD n p=true)→PyData.canLayAll0 (pvDs l)=true∧PyData.depthAll (pvDs l)≤n:=by
  intro l
  induction l with
  | nil=>intro _; exact ⟨rfl,Nat.zero_le _⟩
  | cons p l hi =>
    intro h
    have q1:=ih p (h _ (.head _))
    have q2:=hi fun x hx=>h x (.tail _ hx)
    exact ⟨Bool.and_eq_true_iff.mpr ⟨q1.1,q2.1⟩,Nat.max_le.mpr ⟨q1.2,q2.2⟩⟩
theorem okD_lay (n:Nat):∀ p:PV,okD n p=true→(pvD p).canLay0=true∧(pvD p).depth≤n:=by
  induction n with
  | zero =>
    intro p h
    cases p with
    | none | bool _ | int _=>exact ⟨rfl,Nat.zero_le _⟩
    | str c=>exact ⟨List.all_toArray.trans h,Nat.zero_le _⟩
    | _=>exact nomatch h
  | succ n ih =>
    intro p h
    cases p with
    | none | bool _ | int _=>exact ⟨rfl,Nat.zero_le _⟩
    | str c=>exact ⟨List.all_toArray.trans h,Nat.zero_le _⟩
    | tup l | lst l=>exact ⟨(okD_lays ih l (List.all_eq_true.mp h)).1,Nat.succ_le_succ (okD_lays ih l (List.all_eq_true.mp h)).2⟩
    | _=>exact nomatch h
noncomputable def slotL:Slot→Option (List PV)
  | .ob (.list l)=>some l
  | .br (.list l)=>some l
  | _=>none
noncomputable def slotH:Slot→Option (List PV)
  | .ob (.hdr l)=>some l
  | .br (.hdr l)=>some l
  | _=>none
noncomputable def jy (vs:VS):AVal→Option (List PV)
  | .pv (.lst l)=>some l
  | .own k=>(vs[k]?).bind slotL
  | .sub k=>(vs[k]?).bind slotH
  | _=>none
noncomputable def vX (vs:VS):AVal→Option PV
  | .pv p=>some p
  | v=>(jy vs v).map .lst
section
variable {g:G} {B B':PM} {P:PX} {env:Env} {ks:List (Str×VK)} {vs vs':VS} {h h':Heap} {val:Nat→Value} {foot:Nat→List Addr} {cel:Nat→Addr} {s s':Shared} {A:Around} {r:Nat}
theorem HdrAt.same {a b b':Addr} (x:HdrAt g B a b) (y:HdrAt g B a b'):b=b':=by
  obtain ⟨d,es,n,h1,h2,h3⟩:=x
  obtain ⟨d',es',n',h1',h2',h3'⟩:=y
  rw [h1] at h1'; injection h1' with h1'; injection h1' with _ ee1 _ _; injection ee1 with ee1; subst ee1
  rw [h2] at h2'
  have e:es=es':=by
    have:=Option.some.inj h2'
    unfold dictOf at this
    injection this with _ _ h4 _
    injection h4 with h5 _
    simpa using h5
  subst e
  have q:=(h3 "_headers").symm.trans (h3' "_headers")
  simpa using q
theorem j9 (I:Iv g B P env ks vs s.heap val foot cel) {v:AVal} {x:Value} {l:List PV} (e:jy vs v=some l) (R:RepA g B s.heap val v x []) :
    ∃ a ws n,x=.ref a∧s.heap.get? a=some (lobj ws n)∧RVs B l ws:=by
  cases v with
  | pv p =>
    cases p with
    | lst l' =>
      injection e with e; subst e
      apply RV.lst_ R.1; intro _ _ _ h1 h2
      exact ⟨_,_,_,rfl,I.hB _ _ h1,h2⟩
    | _=>exact jb e
  | own k =>
    revert e
    refine jc fun sl hs e=>?_
    have S:=I.slots k sl hs
    obtain ⟨rfl,_⟩:=R
    cases sl with
    | ob o=>cases o with
      | list l'=>injection e with e; subst e; obtain ⟨a,ws,n,h1,h2,h3,h4⟩:=S; exact ⟨a,ws,n,h1,h3,h4⟩
      | _=>exact jb e
    | br o=>cases o with
      | list l'=>injection e with e; subst e; obtain ⟨_,F',a,ws,n,h1,h2,h3,h4⟩:=S; exact ⟨a,ws,n,h1,I.hP _ _ (I.hR _ _ h3),h4⟩
      | _=>exact jb e
    | _=>exact jb e
  | sub k =>
    revert e
    refine jc fun sl hs e=>?_
    have S:=I.slots k sl hs
    obtain ⟨⟨a,b,ha,hh,rfl⟩,_⟩:=R
    cases sl with
    | ob o=>cases o with
      | hdr l' =>
        injection e with e; subst e
        obtain ⟨a',b',ws,n,h1,h2,h3,h4,h5⟩:=S
        rw [ha] at h1; injection h1 with h1; subst h1
        have:=hh.same h3; subst this
        exact ⟨b,ws,n,rfl,h4,h5⟩
      | _=>exact jb e
    | br o=>cases o with
      | hdr l' =>
        injection e with e; subst e
        obtain ⟨_,F',a',b',ws,n,h1,h2,h3,h4,h5⟩:=S
        rw [ha] at h1; injection h1 with h1; subst h1
        have:=hh.same h3; subst this
        exact ⟨b,ws,n,rfl,I.hP _ _ (I.hR _ _ h4),h5⟩
      | _=>exact jb e
    | _=>exact jb e
  | obj o=>exact jb e
theorem yQ (I:Iv g B P env ks vs s.heap val foot cel) {v:AVal} {x:Value} {p:PV} {n:Nat} (e:vX vs v=some p) (R:RepA g B s.heap val v x []) (ok:okD n p=true) :
    ∃ as,Reads s.heap x (pvD p) as:=by
  have go:∀ l,jy vs v=some l→p=.lst l→∃ as,Reads s.heap x (pvD p) as:=by
    rintro l hl rfl
    obtain ⟨a,ws,n',rfl,hg,hr⟩:=j9 I hl R
    cases n with
    | zero=>exact nomatch ok
    | succ n =>
      obtain ⟨as,q⟩:=RVs.reads (h:=s.heap) I.hB n hr (List.all_eq_true.mp ok)
      exact ⟨_,Reads.list hg rfl rfl (by simpa using q)⟩
  cases v with
  | pv p'=>injection e with e; subst e; exact RV.reads I.hB n R.1 ok
  | own k=>obtain ⟨l,h1,h2⟩:=Option.map_eq_some_iff.mp e; exact go l h1 h2.symm
  | sub k=>obtain ⟨l,h1,h2⟩:=Option.map_eq_some_iff.mp e; exact go l h1 h2.symm
  | obj o=>exact jb e
end
theorem vv {vs:VS} {a:AVal} {l:List PV} {C:AVal→Prop} (h:jy vs a=some l) (k1:∀ m,C (.pv (.lst m))) (k2:∀ k,C (.own k)) (k3:∀ k,C (.sub k)):C a:=by
  cases a with
  | pv p =>
    cases p with
    | lst m=>exact k1 m
    | _=>exact jb h
  | own k=>exact k2 k
  | sub k=>exact k3 k
  | obj o=>exact jb h
theorem viewD_of {vs:VS} {v:AVal} {l:List PV} (h:jy vs v=some l):vX vs v=some (.lst l):=by
  exact vv (C:=fun v=>jy vs v=some l→vX vs v=some (.lst l)) h (fun m h=>congrArg (Option.map PV.lst) (show some m=some l from h)) (fun k h=>congrArg (Option.map PV.lst) h) (fun k h=>congrArg (Option.map PV.lst) h) h
theorem shaped_of {p:PV} (h:okD 9 p=true):SeqAt.shaped (pvD p)=true:=by
  have:=okD_lay 9 p h
  unfold SeqAt.shaped
  rw [this.1,Bool.true_and]
  exact decide_eq_true (Nat.le_trans this.2 (by decide))
noncomputable def yH (a b:AVal) (vs:VS):Option PV :=
  (vX vs a).bind fun p=>(vX vs b).bind fun q=>if okD 9 p&&okD 9 q then some (.bool (pvEq p q)) else none
noncomputable def v9 (a b:AVal) (vs:VS):Option PV :=
  (vX vs a).bind fun p=>(vX vs b).bind fun q=>if okD 9 p&&okD 9 q then some (.bool (!pvEq p q)) else none
theorem op_eq:Op2 (compareOp .Eq) yH:=by
  intro g A B P env ks s vs val foot cel a b p x y e hu I Ra Rb
  revert e
  refine jc fun p1 e1 e=>?_
  revert e
  refine jc fun p2 e2 e=>?_
  split at e
  · rename_i hk
    injection e with e; subst e
    rw [Bool.and_eq_true] at hk
    obtain ⟨as,r1⟩:=yQ I e1 Ra hk.1
    obtain ⟨bs,r2⟩:=yQ I e2 Rb hk.2
    exact eq_dataH r1 r2 (shaped_of hk.1) (shaped_of hk.2) (Nat.lt_of_le_of_lt (Nat.add_le_add_left (by decide) _) hu) (by rw [pvEq_eqv 9 _ _ hk.1 9 hk.2]; exact .here I.hB (.bool _))
  · exact jb e
theorem op_ne:Op2 (compareOp .NotEq) v9:=by
  intro g A B P env ks s vs val foot cel a b p x y e hu I Ra Rb
  revert e
  refine jc fun p1 e1 e=>?_
  revert e
  refine jc fun p2 e2 e=>?_
  split at e
  · rename_i hk
    injection e with e; subst e
    rw [Bool.and_eq_true] at hk
    obtain ⟨as,r1⟩:=yQ I e1 Ra hk.1
    obtain ⟨bs,r2⟩:=yQ I e2 Rb hk.2
    exact ne_dataH r1 r2 (shaped_of hk.1) (shaped_of hk.2) (Nat.lt_of_le_of_lt (Nat.add_le_add_left (by decide) _) hu) (by rw [pvEq_eqv 9 _ _ hk.1 9 hk.2]; exact .here I.hB (.bool _))
  · exact jb e
theorem any_eqv {n m:Nat} {p:PV} (hp:okD m p=true):∀ l:List PV,(∀ y∈l,okD n y=true)→((pvDs l).any fun y=>PyData.eqv y (pvD p))=l.any fun y=>pvEq y p
  | [],_=>rfl
  | y::l,h=>by
    show (PyData.eqv (pvD y) (pvD p)||(pvDs l).any fun y=>PyData.eqv y (pvD p))=(pvEq y p||l.any fun y=>pvEq y p)
    rw [pvEq_eqv n y p (h _ (.head _)) m hp,any_eqv hp l fun z hz=>h z (.tail _ hz)]
noncomputable def PV.int? : PV→Option Int
  | .int i=>some i
  | _=>Option.none
noncomputable def PV.str? : PV→Option (List Nat)
  | .str c=>some c
  | _=>Option.none
noncomputable def AVal.pv? : AVal→Option PV
  | .pv p=>some p
  | _=>Option.none
noncomputable def AVal.int? (a:AVal):Option Int:=a.pv?.bind PV.int?
noncomputable def AVal.str? (a:AVal):Option (List Nat):=a.pv?.bind PV.str?
theorem int_inv {a:AVal} {i:Int} (h:a.int?=some i):a=.pv (.int i):=by
  cases a with
  | pv p =>
    cases p with
    | int j=>injection h with h; rw [h]
    | _=>exact jb h
  | _=>exact jb h
theorem v8 {a:AVal} {c:List Nat} (h:a.str?=some c):a=.pv (.str c):=by
  cases a with
  | pv p =>
    cases p with
    | str j=>injection h with h; rw [h]
    | _=>exact jb h
  | _=>exact jb h
noncomputable def ii (f:Int→Int→Option PV) (a b:AVal):Option PV:=a.int?.bind fun i=>b.int?.bind fun j=>f i j
theorem ii_inv {f:Int→Int→Option PV} {a b:AVal} {p:PV} {C:Prop} (h:ii f a b=some p) (k:∀ i j,a=.pv (.int i)→b=.pv (.int j)→f i j=some p→C):C :=
  (jd h).elim fun i ⟨h1,h⟩=>(jd h).elim fun j ⟨h2,h⟩=>k i j (int_inv h1) (int_inv h2) h
theorem op_ii {t:Value→Value→Sem Value} {f:Int→Int→Option PV} (k:∀ (g:G) (A:Around) (B:PM) (s:Shared) (i j:Int) (x y:Nat) (p:PV),(∀ b o,B b=some o→s.heap.get? b=some o)→f i j=some p→wpAny (model g.prog g.w) A (t (.int i x) (.int j y)) (PR B s p) No s):Op2 t fun a b _=>ii f a b:=by
  intro g A B P env ks s vs val foot cel a b p x y e hu I Ra Rb
  refine ii_inv e fun i j ha hb h=>?_
  subst ha hb
  (apply RV.int_ Ra.1; intro _); (apply RV.int_ Rb.1; intro _)
  exact k g A B s i j _ _ p I.hB h
noncomputable def inS (a b:AVal):Option Bool :=
  match a with
  | .pv (.str [c])=>b.str?.map fun d=>d.contains c
  | _=>none
noncomputable def inL (a b:AVal) (vs:VS):Option Bool:=(vX vs a).bind fun p=>(jy vs b).bind fun l=>if okD 9 p&&okD 9 (.lst l) then some (l.any fun y=>pvEq y p) else none
noncomputable def semIn (a b:AVal) (vs:VS):Option Bool :=
  match b with
  | .pv (.str d)=>inS a (.pv (.str d))
  | b=>inL a b vs
theorem inS_inv {a:AVal} {d:List Nat} {t:Bool} (h:inS a (.pv (.str d))=some t):∃ c,a=.pv (.str [c])∧t=d.contains c:=by
  obtain ⟨l,h1,h⟩:=jd (o:=a.str?) (f:=fun l=>inS (.pv (.str l)) (.pv (.str d))) (by cases a with
    | pv q=>cases q <;> exact h
    | _=>exact h)
  match l,h1,h with
  | [c],h1,h=>injection h with h; exact ⟨c,v8 h1,h.symm⟩
theorem semIn_cases {a b:AVal} {vs:VS} {t:Bool} {C:Prop} (h:semIn a b vs=some t) (k1:∀ c d,a=.pv (.str [c])→b=.pv (.str d)→t=d.contains c→C)
    (k2:∀ p l,vX vs a=some p→jy vs b=some l→okD 9 p=true→okD 9 (.lst l)=true→t=(l.any fun y=>pvEq y p)→C):C:=by
  have k3:inL a b vs=some t→C:=by
    intro h
    obtain ⟨p,h1,h⟩:=jd h
    obtain ⟨l,h2,h⟩:=jd h
    split at h
    · rename_i hk; injection h with h; rw [Bool.and_eq_true] at hk; exact k2 p l h1 h2 hk.1 hk.2 h.symm
    · exact jb h
  clear k2
  cases b with
  | pv q =>
    cases q with
    | str d =>
      obtain ⟨c,h1,h2⟩:=inS_inv h
      exact k1 c d h1 rfl h2
    | _=>exact k3 h
  | _=>exact k3 h
theorem depth_le {n:Nat} {l:List PV} (h:okD (n+1) (.lst l)=true):PyData.canLayAll0 (pvDs l)=true∧PyData.depthAll (pvDs l)≤n+1:=by
  have:=okD_lay _ _ h
  exact ⟨this.1,Nat.le_of_succ_le this.2⟩
theorem op_in:Op2 (compareOp .In) fun a b vs=>(semIn a b vs).map .bool:=by
  intro g A B P env ks s vs val foot cel a b p x y e hu I Ra Rb
  obtain ⟨t,e0,rfl⟩:=Option.map_eq_some_iff.mp e
  refine semIn_cases e0 (fun c d ha hb ht=>?_) fun p l e1 e2 k1 k2 ht=>?_
  · subst ha hb ht; (apply RV.str_ Ra.1; intro _); (apply RV.str_ Rb.1; intro _)
    refine PySem.P.in_str ?_
    rw [show (⟨[c].toArray⟩:Str)=⟨#[c]⟩ from rfl,StrLaws.found_one]
    simp only [← List.contains_eq_mem]
    exact .here I.hB (.bool _)
  · subst ht; obtain ⟨ws,r1⟩:=yQ I e1 Ra k1
    obtain ⟨as,r2⟩:=yQ (p:=.lst l) I (v:=b) (viewD_of e2) Rb k2
    have dl:=depth_le k2
    have dp:=okD_lay _ _ k1
    refine SeqAt.in_list_reads r2 r1 dl.1 dp.1 (Nat.lt_of_le_of_lt (Nat.add_le_add_left (Nat.le_trans (Nat.min_le_right _ _) (Nat.le_trans dp.2 (by decide))) _) (show A.units+1+99<cLine from hu)) ?_
    rw [any_eqv (n:=8) k1 l (List.all_eq_true.mp k2)]
    exact .here I.hB (.bool _)
noncomputable def small (i:Int):Bool:=decide (i.natAbs<2 ^ 64)
noncomputable def PV.num? : PV→Option Int
  | .int i=>some i
  | .bool t=>some (if t=true then 1 else 0)
  | _=>Option.none
noncomputable def AVal.num? (a:AVal):Option Int:=a.pv?.bind PV.num?
theorem num_inv {a:AVal} {i:Int} {C:Prop} (h:a.num?=some i) (k1:∀ i,a=.pv (.int i)→a.num?=some i→C) (k2:∀ t,a=.pv (.bool t)→i=(if t=true then 1 else 0)→C):C:=by
  cases a with
  | pv p =>
    cases p with
    | int j=>exact k1 j rfl rfl
    | bool t=>injection h with h; exact k2 t rfl h.symm
    | _=>exact jb h
  | _=>exact jb h
noncomputable def addS (a b:AVal):Option PV:=a.str?.bind fun c=>b.str?.bind fun d=>if c.length+d.length≤100000 then some (.str (c++d)) else none
noncomputable def addL (a b:AVal) (vs:VS):Option PV:=(jy vs a).bind fun l=>(jy vs b).bind fun m=>if l.length+m.length≤100000 then some (.lst (l++m)) else none
noncomputable def jB (a b:AVal) (vs:VS):Option PV :=
  match a with
  | .pv (.int i)=>b.num?.map fun j=>.int (i+j)
  | .pv (.str c)=>addS (.pv (.str c)) b
  | a=>addL a b vs
theorem semAdd_L {a b:AVal} {vs:VS} {l:List PV} (h:jy vs a=some l):jB a b vs=addL a b vs:=vv (C:=fun a=>jB a b vs=addL a b vs) h (fun _=>rfl) (fun _=>rfl) fun _=>rfl
theorem semAdd_inv {a b:AVal} {vs:VS} {p:PV} {C:Prop} (h:jB a b vs=some p) (k1:∀ i,a=.pv (.int i)→(b.num?.map fun j=>PV.int (i+j))=some p→C) (k2:addS a b=some p→C) (k3:addL a b vs=some p→C):C:=by
  cases a with
  | pv q =>
    cases q with
    | int i=>exact k1 i rfl h
    | str c=>exact k2 h
    | _=>exact k3 h
  | _=>exact k3 h
theorem str_append (c d:List Nat):(⟨c.toArray⟩:Str)++⟨d.toArray⟩=⟨(c++d).toArray⟩:=by
  show Str.append _ _=_
  simp [Str.append]
theorem j6:Op2 (binaryOp .Add) jB:=by
  intro g A B P env ks s vs val foot cel a b p x y e hu I Ra Rb
  refine semAdd_inv e (fun i ha h=>?_) (fun h=>?_) fun h=>?_
  · subst ha
    obtain ⟨j,hb,h⟩:=Option.map_eq_some_iff.mp h
    subst h
    (apply RV.int_ Ra.1; intro _)
    refine num_inv hb (fun i hj h=>?_) fun t ht h'=>?_
    · subst hj; rw [hb] at h; injection h with h; subst h; (apply RV.int_ Rb.1; intro _); exact PyProof.Rows.add_int (.same I.hB (.int _ _))
    · subst ht h'; apply RV.bool_ Rb.1; exact PySem.add_int_bool (.same I.hB (.int _ _))
  · obtain ⟨c,ha,h⟩:=jd h
    obtain ⟨d,hb,h3⟩:=jd h
    have ha:=v8 ha; have hb:=v8 hb; subst ha hb
    have h:=h3
    split at h
    · rename_i hl
      injection h with h; subst h
      (apply RV.str_ Ra.1; intro _); (apply RV.str_ Rb.1; intro _)
      refine PyProof.Rows.add_str (fun t' tk=>?_) (Nat.le_trans hl (by decide))
      rw [str_append]
      exact .same I.hB (.str _ _)
    · exact jb h
  · obtain ⟨l,e1,h⟩:=jd h
    obtain ⟨m,e2,h⟩:=jd h
    split at h
    · rename_i hl
      injection h with h; subst h
      obtain ⟨a1,w1,n1,rfl,g1,r1⟩:=j9 I e1 Ra
      obtain ⟨a2,w2,n2,rfl,g2,r2⟩:=j9 I e2 Rb
      have l1:=r1.length
      have l2:=r2.length
      refine PySem.P.add_list (n:=n1) (n2:=n2) g1 g2 ?_ (by show w1.length+w2.length≤_; rw [l1,l2]; exact Nat.le_trans hl (by decide))
      have q:({ cls:=.type "list",data:=.seq (w1.toArray++w2.toArray) }:Obj)=lobj (w1++w2) 0:=by unfold lobj; rw [List.append_toArray]
      rw [q]
      exact .one (o:=lobj (w1++w2) 0) (t:=s.toks) I.hB (fun _ _ e=>e) rfl (.lst (PM.put_self ..) ((r1.append r2).mono (PM.put_le (I.bNone (Nat.le_refl _)).1)))
    · exact jb h
noncomputable def yG (a b:AVal) (_:VS):Option PV:=ii (fun i j=>some (.int (i - j))) a b
theorem vm:Op2 (binaryOp .Sub) yG:=op_ii fun g A B s i j x y p hB e=>by
  injection e with e; subst e; exact PyProof.Rows.sub_int (.same hB (.int _ _))
noncomputable def semMod (a b:AVal) (_:VS):Option PV:=ii (fun i j=>if j=0 then none else some (.int (i.fmod j))) a b
theorem op_mod:Op2 (binaryOp .Mod) semMod:=op_ii fun g A B s i j x y p hB e=>by
  split at e
  · exact jb e
  · rename_i hj; injection e with e; subst e; exact PyProof.Rows.mod_int hj (.same hB (.int _ _))
noncomputable def semAnd (a b:AVal) (_:VS):Option PV:=ii (fun i j=>some (.int (Builtin.bitAnd i j))) a b
theorem op_and:Op2 (binaryOp .BitAnd) semAnd:=op_ii fun g A B s i j x y p hB e=>by
  injection e with e; subst e; exact PyProof.Rows.and_int (.same hB (.int _ _))
noncomputable def mulL (j:Int) (a:AVal) (vs:VS):Option PV:=(jy vs a).bind fun l=>if j<1000∧-1000<j∧l.length<1000 then some (.lst (List.replicate j.toNat l).flatten) else none
noncomputable def mulOf (j:Int) (a:AVal) (vs:VS):Option PV :=
  match a with
  | .pv (.int i)=>if small i then some (.int (i*j)) else none
  | a=>mulL j a vs
noncomputable def yc (a b:AVal) (vs:VS):Option PV:=b.int?.bind fun j=>mulOf j a vs
theorem mulOf_L {j:Int} {a:AVal} {vs:VS} {l:List PV} (h:jy vs a=some l):mulOf j a vs=mulL j a vs:=vv (C:=fun a=>mulOf j a vs=mulL j a vs) h (fun _=>rfl) (fun _=>rfl) fun _=>rfl
theorem semMul_inv {a b:AVal} {vs:VS} {p:PV} {C:Prop} (h:yc a b vs=some p) (k1:∀ i j,a=.pv (.int i)→b=.pv (.int j)→(if small i then some (PV.int (i*j)) else none)=some p→C)
    (k2:∀ j,b=.pv (.int j)→mulL j a vs=some p→C):C:=by
  obtain ⟨j,hb,h⟩:=jd h
  have hb:=int_inv hb
  cases a with
  | pv q =>
    cases q with
    | int i=>exact k1 i j rfl hb h
    | _=>exact k2 j hb h
  | _=>exact k2 j hb h
theorem replicate_foldl (l:List Value):∀ (n:Nat) (a:List Value),List.foldl (fun x1 x2=>x1++x2) a.toArray (List.replicate n l.toArray)=(a++(List.replicate n l).flatten).toArray
  | 0,a=>by simp
  | n+1,a=>by
    rw [List.replicate_succ,List.foldl_cons,List.append_toArray,replicate_foldl l n,List.replicate_succ,List.flatten_cons,List.append_assoc]
theorem RVs.rep {B:PM} {l:List PV} {ws:List Value} (h:RVs B l ws):∀ n,RVs B (List.replicate n l).flatten (List.replicate n ws).flatten
  | 0=>by simpa using RVs.nil
  | n+1=>by rw [List.replicate_succ,List.replicate_succ,List.flatten_cons,List.flatten_cons]; exact h.append (h.rep n)
theorem yw:Op2 (binaryOp .Mult) yc:=by
  intro g A B P env ks s vs val foot cel a b p x y e hu I Ra Rb
  refine semMul_inv e (fun i j ha hb h=>?_) fun j hb h=>?_
  · subst ha hb
    split at h
    · rename_i hj; injection h with h; subst h; (apply RV.int_ Ra.1; intro _); (apply RV.int_ Rb.1; intro _)
      exact PyProof.Rows.mul_int (.same I.hB (.int _ _)) (.of_left (PyProof.Rows.intBits_le (of_decide_eq_true hj)))
    · exact jb h
  · subst hb
    obtain ⟨l,e1,h⟩:=jd h
    split at h
    · rename_i hj
      injection h with h; subst h
      obtain ⟨a1,w1,n1,rfl,g1,r1⟩:=j9 I e1 Ra
      (apply RV.int_ Rb.1; intro _)
      have l1:=r1.length
      have hs:w1.toArray.size*j.toNat≤2 ^ 24:=by
        rw [List.size_toArray]
        calc w1.length*j.toNat≤1000*1000:=Nat.mul_le_mul (Nat.le_trans (Nat.le_of_eq l1) (Nat.le_of_lt hj.2.2)) (Int.toNat_le.mpr (Int.le_of_lt hj.1))
          _≤2 ^ 24:=by decide
      refine wpAny_binaryOp_repeat_ref (T := "list") (U := "int") (by decide) ⟨_,g1,rfl⟩ (fun s'=>typeIs_int s' j _) noFill_list_mul F.fills_int_mul F.slot_int_rmul repeat_list F.slot_int_index.lookup
        (call_meets F.slot_int_rmul (typeIs_int s j _) F.entry_int_rmul (F.args_int_rmul_2 _ _) (int___rmul___int_list j _ a1 w1.toArray n1)
          ⟨g1,rfl,⟨_,g1,rfl⟩,call_meets F.slot_list_mul ⟨_,g1,rfl⟩ F.entry_list_mul (F.args_list_mul_2 _ _)
            (AutoListH.list___mul___list_int_3 a1 w1.toArray n1 j _ (by simp [Builtin.List.listFitsIndex]; exact ⟨Int.le_trans (by decide) (Int.le_of_lt hj.2.1),Int.lt_trans hj.1 (by decide)⟩) (Nat.not_lt.mpr (Nat.le_trans hs (by decide))) (by simp [Builtin.List.listTooLong,sizeLine] at hs ⊢; exact hs))
            ⟨g1,?_⟩⟩)
      have q:(List.foldl (fun x1 x2=>x1++x2) (#[]:Array Value) (List.replicate (if w1.toArray.isEmpty=true then 0 else j.toNat) w1.toArray))=((List.replicate j.toNat w1).flatten).toArray:=by
        have:=replicate_foldl w1 (if w1.toArray.isEmpty=true then 0 else j.toNat) []
        rw [List.nil_append] at this
        refine this.trans ?_
        by_cases hw:w1=[]
        · subst hw; simp
        · have:w1.toArray.isEmpty=false:=by cases w1 <;> simp_all
          rw [this]; simp
      rw [q]
      exact .one (o:=lobj ((List.replicate j.toNat w1).flatten) 0) (t:=s.toks) I.hB (fun _ _ e=>e) rfl (.lst (PM.put_self ..) ((r1.rep _).mono (PM.put_le (I.bNone (Nat.le_refl _)).1)))
    · exact jb h
noncomputable def semShl (a b:AVal) (_:VS):Option PV:=ii (fun i j=>if small i=true∧0≤j∧j≤1000 then some (.int (i*2 ^ j.toNat)) else none) a b
theorem op_shl:Op2 (binaryOp .LShift) semShl:=op_ii fun g A B s i j x y p hB e=>by
  split at e
  · rename_i hj; injection e with e; subst e; exact PyProof.Rows.lshift_int_small hj.2.1 (Int.le_trans hj.2.2 (by decide)) (of_decide_eq_true hj.1) (.same hB (.int _ _))
  · exact jb e
noncomputable def semShr (a b:AVal) (_:VS):Option PV:=ii (fun i j=>if 0≤j then some (.int (i.fdiv (2 ^ j.toNat))) else none) a b
theorem op_shr:Op2 (binaryOp .RShift) semShr:=op_ii fun g A B s i j x y p hB e=>by
  split at e
  · rename_i hj; injection e with e; subst e; exact PyProof.Rows.rshift_int hj (.same hB (.int _ _))
  · exact jb e
noncomputable def semFdiv (a b:AVal) (_:VS):Option PV:=ii (fun i j=>if j ≠ 0∧j.natAbs<1073741824 then some (.int (i.fdiv j)) else none) a b
theorem op_fdiv:Op2 (binaryOp .FloorDiv) semFdiv:=op_ii fun g A B s i j x y p hB e=>by
  split at e
  · rename_i hj; injection e with e; subst e; exact PyProof.Rows.floordiv_int hj.1 (.same hB (.int _ _)) (.inl (PyProof.noPylong_small hj.2))
  · exact jb e
noncomputable def semPow (a b:AVal) (_:VS):Option PV:=ii (fun i j=>if small i=true∧0≤j∧j≤1000 then some (.int (i ^ j.toNat)) else none) a b
theorem op_pow:Op2 (binaryOp .Pow) semPow:=op_ii fun g A B s i j x y p hB e=>by
  split at e
  · rename_i hj; injection e with e; subst e; exact PyProof.Rows.pow_int_small hj.2.1 (Int.le_trans hj.2.2 (by decide)) (of_decide_eq_true hj.1) (.same hB (.int _ _))
  · exact jb e
noncomputable def semLt (a b:AVal) (_:VS):Option PV:=ii (fun i j=>some (.bool (decide (i<j)))) a b
theorem op_lt:Op2 (compareOp .Lt) semLt:=op_ii fun g A B s i j x y p hB e=>by
  injection e with e; subst e; exact PyProof.Rows.lt_int (.here hB (.bool _))
noncomputable def semGt (a b:AVal) (_:VS):Option PV:=ii (fun i j=>some (.bool (decide (j<i)))) a b
theorem op_gt:Op2 (compareOp .Gt) semGt:=op_ii fun g A B s i j x y p hB e=>by
  injection e with e; subst e; exact PyProof.Rows.gt_int (.here hB (.bool _))
noncomputable def semGe (a b:AVal) (_:VS):Option PV:=ii (fun i j=>some (.bool (decide (j≤i)))) a b
theorem op_ge:Op2 (compareOp .GtE) semGe:=op_ii fun g A B s i j x y p hB e=>by
  injection e with e; subst e; exact PyProof.Rows.ge_int (.here hB (.bool _))
structure GOk (g:G):Prop where
  gm:g.h₀.Ns mainGlobals g.mg
  gb:g.h₀.Ns builtinsNs g.mb
  lim:g.h₀.NoLimit
section
variable {g:G} {B B':PM} {P:PX} {env:Env} {ks:List (Str×VK)} {vs vs':VS} {h h':Heap} {val:Nat→Value} {foot:Nat→List Addr} {cel:Nat→Addr} {s s':Shared} {A:Around} {r:Nat}
theorem EPost.here {v:AVal} {x:Value} (I:Iv g B P env ks vs s.heap val foot cel) (R:RepA g B s.heap val v x []):EPost g P env ks cel B s val foot v vs x s :=
  ⟨.refl s,B,[],.refl _ _,I,R,fun a ha=>(nomatch ha),fun a ha=>(nomatch ha)⟩
theorem Iv.keep0 (I:Iv g B P env ks vs h val foot cel):∀ b o,g.h₀.get? b=some o→h.get? b=some o:=fun b o e=>I.hB _ _ (I.base b o e)
noncomputable def jo (p:PV):Ev:=fun vs=>some (.pv p,vs)
theorem ji {i:Int} {k:Nat} {pos:Pos}:Den g r ks (.Constant (.int i) k pos) (jo (.int i)):=by
  intro A B P env s vs val foot cel v vs' h R I
  injection h with h; injection h with ee0 ee1; subst ee0; subst ee1
  exact wpAny_Constant_int (EPost.of_PR I (.same I.hB (.int _ _)))
theorem den_none {k:Nat} {pos:Pos}:Den g r ks (.Constant .none k pos) (jo .none):=by
  intro A B P env s vs val foot cel v vs' h R I
  injection h with h; injection h with ee2 ee3; subst ee2; subst ee3
  exact wpAny_Constant_none (EPost.of_PR I (.here I.hB .none))
theorem yZ {b:Bool} {k:Nat} {pos:Pos}:Den g r ks (.Constant (.bool b) k pos) (jo (.bool b)):=by
  intro A B P env s vs val foot cel v vs' h R I
  injection h with h; injection h with ee4 ee5; subst ee4; subst ee5
  exact wpAny_Constant_bool (EPost.of_PR I (.here I.hB (.bool _)))
theorem jG {x:Str} {c:List Nat} {k:Nat} {pos:Pos} (e:x=⟨c.toArray⟩):Den g r ks (.Constant (.str x) k pos) (jo (.str c)):=by
  intro A B P env s vs val foot cel v vs' h R I
  injection h with h; injection h with ee6 ee7; subst ee6; subst ee7
  subst e
  exact wpAny_Constant_str (EPost.of_PR I (.same I.hB (.str _ _)))
noncomputable def vQ (k:Nat):Slot→Option AVal
  | .un=>none
  | .pv p=>some (.pv p)
  | .ob _=>some (.own k)
  | .br _=>some (.own k)
  | .hid=>none
noncomputable def jf (k:Nat):Ev:=fun vs=>(vs[k]?).bind fun sl=>(vQ k sl).map fun v=>(v,vs)
theorem evVar_eq {k:Nat} {v:AVal} (h:jf k vs=some (v,vs')):∃ sl,vs[k]?=some sl∧vQ k sl=some v∧vs'=vs:=by
  revert h
  refine jc fun sl h1 h=>?_
  obtain ⟨w,h2,h3⟩:=Option.map_eq_some_iff.mp h
  injection h3 with ee8 ee9; replace ee8:=ee8.symm; subst ee8; subst ee9
  exact ⟨sl,h1,h2,rfl⟩
theorem slotV_rep (I:Iv g B P env ks vs s.heap val foot cel) {k:Nat} {sl:Slot} {v:AVal} (h1:vs[k]?=some sl) (h2:vQ k sl=some v):RepA g B s.heap val v (val k) []:=by
  have S:=I.slots k sl h1
  cases sl with
  | un=>exact jb h2
  | pv p=>injection h2 with h2; subst h2; exact ⟨S.1,rfl⟩
  | ob o=>injection h2 with h2; subst h2; exact ⟨rfl,rfl⟩
  | br o=>injection h2 with h2; subst h2; exact ⟨rfl,rfl⟩
  | hid=>exact jb h2
theorem yV (I:Iv g B P env ks vs s.heap val foot cel) {k:Nat} {sl:Slot} {x:Str} {vk:VK} (h1:vs[k]?=some sl) (hn:sl ≠ .un) (hk:ks[k]?=some (x,vk)) (hg:vk ≠ .glo)
    (hc:(x == ("__classdict__" : Str))=false) {M:Model} {E:Value→Shared→Prop} {Q:Value→Shared→Prop} (q:Q (val k) s):wpAny M A (loadName env x) Q E s:=by
  cases vk with
  | loc=>obtain ⟨m,hm,hv⟩:=I.ns; exact wpAny_loadName_local I.ev.kind (I.ev.kl k x _ hk (.inl rfl)) hm (hv k x _ hk (.inl rfl) sl h1 hn) q
  | par=>obtain ⟨m,hm,hv⟩:=I.ns; exact wpAny_loadName_local I.ev.kind (I.ev.kl k x _ hk (.inr rfl)) hm (hv k x _ hk (.inr rfl) sl h1 hn) q
  | cel =>
    obtain ⟨ov,hc',hv⟩:=I.cl k x hk
    have:=hv sl h1 hn; subst this
    exact wpAny_loadName_cell I.ev.kind (I.ev.kc k x hk).1 (I.ev.kc k x hk).2 hc' q
  | fre =>
    obtain ⟨o,ho,hd⟩:=I.fr k x hk
    have hd:=hd sl h1 hn
    obtain ⟨q1,q2⟩:=I.ev.kf k x hk
    rcases q1 with q1 | q1
    · exact wpAny_loadName_cell I.ev.kind q1 q2 ⟨o,I.hP _ _ (I.hR _ _ ho),hd⟩ q
    · exact wpAny_loadName_free I.ev.kind q1 q2 ⟨o,I.hP _ _ (I.hR _ _ ho),hd⟩ q hc
  | glo=>exact absurd rfl hg
theorem slotV_un {k:Nat} {sl:Slot} {v:AVal} (h:vQ k sl=some v):sl ≠ .un:=by rintro rfl; exact jb h
theorem ja {k:Nat} {x:Str} {vk:VK} {pos:Pos} (hk:ks[k]?=some (x,vk)) (hg:vk ≠ .glo:=by decide) (hd:(x == ("__debug__" : Str))=false:=by decide)
    (hc:(x == ("__classdict__" : Str))=false:=by decide):Den g r ks (.Name x pos) (jf k):=by
  intro A B P env s vs val foot cel v vs' h R I
  obtain ⟨sl,h1,h2,rfl⟩:=evVar_eq h
  exact wpAny_Name (yV I h1 (slotV_un h2) hk hg hc (EPost.here I (slotV_rep I h1 h2))) hd
theorem glob_any {k:Nat} {x:Str} {pos:Pos} {v:Value} (ok:GOk g) (hk:ks[k]?=some (x,VK.glo)) (hv:g.mg x=some v ∨ (g.mg x=none∧g.mb x=some v)) (hd:(x == ("__debug__" : Str))=false)
    (I:Iv g B P env ks vs s.heap val foot cel) {M:Model} {E:Value→Shared→Prop} {Q:Value→Shared→Prop} (q:Q v s):wpAny M A (eval (.Name x pos) env) Q E s:=by
  have n1:s.heap.Ns env.globals g.mg:=by rw [I.ev.glob]; exact ok.gm.keeps I.keep0
  refine Name_function_global I.ev.kind (I.ev.kg k x hk) ?_ hd
  rcases hv with hv | ⟨h1,h2⟩
  · exact loadGlobal_global n1 hv q
  · exact loadGlobal_builtin n1 h1 (by rw [I.ev.blt]; exact ok.gb.keeps I.keep0) h2 q
theorem yj {k:Nat} {x:Str} {pos:Pos} {i:Int} (ok:GOk g) (hk:ks[k]?=some (x,VK.glo)) (hv:∃ t,g.mg x=some (.int i t)) (hd:(x == ("__debug__" : Str))=false:=by decide) :
    Den g r ks (.Name x pos) (jo (.int i)):=by
  intro A B P env s vs val foot cel v vs' h R I
  injection h with h; injection h with ee10 ee11; subst ee10; subst ee11
  obtain ⟨t,hv⟩:=hv
  exact glob_any ok hk (.inl hv) hd I (EPost.of_PR I (.here I.hB (.int _ _)))
theorem jj {k:Nat} {x:Str} {pos:Pos} {c:Value} (ok:GOk g) (hk:ks[k]?=some (x,VK.glo)) (hv:g.mg x=some c ∨ (g.mg x=none∧g.mb x=some c)) (hd:(x == ("__debug__" : Str))=false:=by decide) :
    Den g r ks (.Name x pos) (jo (.con c)):=by
  intro A B P env s vs val foot cel v vs' h R I
  injection h with h; injection h with ee12 ee13; subst ee12; subst ee13
  exact glob_any ok hk hv hd I (EPost.of_PR I (.here I.hB (.con _)))
noncomputable def truth (vs:VS):AVal→Option Bool
  | .pv .none=>some false
  | .pv (.bool b)=>some b
  | .pv (.int i)=>some (i != 0)
  | .pv (.str c)=>if c.length<100000 then some (!c.isEmpty) else none
  | v=>(jy vs v).bind fun l=>if l.length<100000 then some (!l.isEmpty) else none
theorem truth_any {v:AVal} {x:Value} {b:Bool} (h:truth vs v=some b) (I:Iv g B P env ks vs s.heap val foot cel) (R:RepA g B s.heap val v x []) {E:Value→Shared→Prop} {Q:Bool→Shared→Prop}
    (q:∀ t,Q b { s with toks:=t }):wpAny (model g.prog g.w) A (truthy x) Q E s:=by
  have go:∀ l,jy vs v=some l→l.length<100000→b=!l.isEmpty→wpAny (model g.prog g.w) A (truthy x) Q E s:=by
    intro l e hl eb
    obtain ⟨a,ws,n,rfl,hg,hr⟩:=j9 I e R
    have ll:=hr.length
    refine wpAny_truthy_list (items:=ws.toArray) ⟨_,hg,rfl,n,rfl⟩ (ltI ll hl (by decide)) ?_
    have eb':b=!ws.isEmpty:=by rw [eb]; cases l <;> cases ws <;> simp_all
    subst eb'
    first
    | (simpa using q _)
    | (cases ws <;> simpa using q _)
  cases v with
  | pv p =>
    cases p with
    | none=>injection h with h; subst h; apply RV.none_ R.1; exact truthy_none (q s.toks)
    | bool t=>injection h with h; replace h:=h.symm; subst h; apply RV.bool_ R.1; exact wpAny_truthy_bool (q s.toks)
    | int i=>injection h with h; subst h; (apply RV.int_ R.1; intro _); exact PySem.P.truthy_int (q s.toks)
    | str c =>
      (apply RV.str_ R.1; intro _)
      simp only [truth] at h
      split at h
      · rename_i hl
        injection h with h; subst h
        refine PySem.P.truthy_str (Int.not_le.mpr (ltI rfl hl (by decide))) ?_
        have:(((⟨c.toArray⟩:Str).length:Int) != 0)=!c.isEmpty:=by
          cases c with
          | nil=>rfl
          | cons a l=>exact bne_iff_ne.mpr (Int.ofNat_ne_zero.mpr (Nat.succ_ne_zero l.length))
        rw [this]; exact q _
      · exact jb h
    | lst l =>
      simp only [truth] at h
      revert h
      refine jc fun l' e h=>?_
      split at h
      · rename_i hl; injection h with h; subst h; exact go l' e hl rfl
      · exact jb h
    | tup l=>simp [truth,jy] at h
    | con c=>simp [truth,jy] at h
    | rng a b c=>simp [truth,jy] at h
    | dct=>simp [truth,jy] at h
  | own k =>
    simp only [truth] at h
    revert h
    refine jc fun l' e h=>?_
    split at h
    · rename_i hl; injection h with h; subst h; exact go l' e hl rfl
    · exact jb h
  | sub k =>
    simp only [truth] at h
    revert h
    refine jc fun l' e h=>?_
    split at h
    · rename_i hl; injection h with h; subst h; exact go l' e hl rfl
    · exact jb h
  | obj o=>simp [truth,jy] at h
theorem TPost.from {b x:Bool} {s₀ : Shared} {B₀ : PM} (sh:Sh s₀ s) (e:Ext B₀ B s₀.heap) (p:TPost g P env ks cel B s val foot b vs x s'):TPost g P env ks cel B₀ s₀ val foot b vs x s':=by
  obtain ⟨rfl,sh',B',x1,I⟩:=p
  exact ⟨rfl,sh.trans sh',B',e.trans x1 sh.size,I⟩
theorem truth_post {v:AVal} {x:Value} {b:Bool} (h:truth vs v=some b) (I:Iv g B P env ks vs s.heap val foot cel) (R:RepA g B s.heap val v x []) :
    wpAny (model g.prog g.w) A (truthy x) (TPost g P env ks cel B s val foot b vs) No s :=
  truth_any h I R fun t=>⟨rfl,⟨s.heap,t,rfl,.refl _⟩,B,.refl _ _,I⟩
noncomputable def vZ (f:Ev):Te:=fun vs=>(f vs).bind fun p=>(frz p.1).bind fun v=>(truth p.2 v).map fun b=>(b,p.2)
theorem teVal_eq {f:Ev} {b:Bool} (h:vZ f vs=some (b,vs')):∃ p v,f vs=some p∧frz p.1=some v∧truth p.2 v=some b∧vs'=p.2:=by
  revert h
  refine jc fun p h1 h=>?_
  revert h
  refine jc fun v h2 h=>?_
  obtain ⟨c,h3,h4⟩:=Option.map_eq_some_iff.mp h
  injection h4 with ee14 ee15; replace ee14:=ee14.symm; subst ee14; subst ee15
  exact ⟨p,v,h1,h2,h3,rfl⟩
theorem val_truth {e:Expr} {f:Ev} {b:Bool} (d:Den g r ks e f) (h:vZ f vs=some (b,vs')) (R:Room A r) (I:Iv g B P env ks vs s.heap val foot cel) :
    wpAny (model g.prog g.w) A (eval e env) (fun x s₁=>wpAny (model g.prog g.w) A (truthy x) (TPost g P env ks cel B s val foot b vs') No s₁) No s:=by
  obtain ⟨p,v,h1,h2,h3,rfl⟩:=teVal_eq h
  refine wpAny_mono (d A B P env s vs val foot cel p.1 p.2 h1 R I) (fun x s₁ e=>?_) fun _ _ f=>f
  refine EPost.frozeE e h2 fun sh1 B1 x1 I1 R1=>?_
  exact wpAny_mono (truth_post h3 I1 R1) (fun _ _ t=>t.from sh1 x1) fun _ _ f=>f
theorem yO {e:Expr} {f:Ev} (d:Den g r ks e f) (he:∀ env whole,PySem.isTrue e env whole=(do let v ← whole; standAt e.pos; holding [v] (truthy v)):=by intro _ _; rfl):DenT g r ks e (vZ f):=by
  intro A B P env s vs val foot cel b vs' h R I
  exact wpAny_isTrue_value (val_truth d h R I) (he _ _)
noncomputable def teNot (t:Te):Te:=fun vs=>(t vs).map fun p=>(!p.1,p.2)
theorem dt_not {e:Expr} {t:Te} {pos:Pos} (d:DenT g r ks e t):DenT g r ks (.UnaryOp .Not e pos) (teNot t):=by
  intro A B P env s vs val foot cel b vs' h R I
  obtain ⟨p,h1,h2⟩:=Option.map_eq_some_iff.mp h
  injection h2 with ee16 ee17; subst ee16; subst ee17
  refine wpAny_isTrue_Not (wpAny_mono (d A B P env s vs val foot cel p.1 p.2 h1 R I) (fun x s₁ t=>?_) fun _ _ f=>f)
  obtain ⟨rfl,a,b,c,d⟩:=t
  exact ⟨rfl,a,b,c,d⟩
noncomputable def teAnd (t u:Te):Te:=fun vs=>(t vs).bind fun p=>if p.1 then u p.2 else some (false,p.2)
noncomputable def teOr (t u:Te):Te:=fun vs=>(t vs).bind fun p=>if p.1 then some (true,p.2) else u p.2
noncomputable def jC (b:Bool):Te:=fun vs=>some (b,vs)
noncomputable def DenA (g:G) (r:Nat) (ks:List (Str×VK)) (op:BoolOp) (es:List Expr) (t:Te):Prop :=
  ∀ A B P env s vs val foot cel b vs',t vs=some (b,vs')→Room A r→Iv g B P env ks vs s.heap val foot cel →
    wpAny (model g.prog g.w) A (allTrue op es env) (TPost g P env ks cel B s val foot b vs') No s
theorem da_and_nil:DenA g r ks .And [] (jC true):=by
  intro A B P env s vs val foot cel b vs' h R I
  injection h with h; injection h with ee18 ee19; subst ee18; subst ee19
  exact wpAny_allTrue_And_nil ⟨rfl,.refl _,B,.refl _ _,I⟩
theorem da_or_nil:DenA g r ks .Or [] (jC false):=by
  intro A B P env s vs val foot cel b vs' h R I
  injection h with h; injection h with ee20 ee21; subst ee20; subst ee21
  exact wpAny_allTrue_Or_nil ⟨rfl,.refl _,B,.refl _ _,I⟩
theorem da_and {e:Expr} {es:List Expr} {t u:Te} (d:DenT g r ks e t) (ds:DenA g r ks .And es u):DenA g r ks .And (e::es) (teAnd t u):=by
  intro A B P env s vs val foot cel b vs' h R I
  revert h
  refine jc fun p h1 h=>?_
  refine wpAny_allTrue_And_cons (wpAny_mono (d A B P env s vs val foot cel p.1 p.2 h1 R I) (fun x s₁ t=>?_) fun _ _ f=>f)
  obtain ⟨rfl,sh,B',x1,I'⟩:=t
  split
  · rename_i hp
    rw [if_pos hp] at h
    exact wpAny_mono (ds A B' P env s₁ p.2 val foot cel b vs' h R I') (fun _ _ t=>t.from sh x1) fun _ _ f=>f
  · rename_i hp
    rw [if_neg hp] at h
    injection h with h; injection h with ee22 ee23; subst ee22; subst ee23
    exact ⟨rfl,sh,B',x1,I'⟩
theorem da_or {e:Expr} {es:List Expr} {t u:Te} (d:DenT g r ks e t) (ds:DenA g r ks .Or es u):DenA g r ks .Or (e::es) (teOr t u):=by
  intro A B P env s vs val foot cel b vs' h R I
  revert h
  refine jc fun p h1 h=>?_
  refine wpAny_allTrue_Or_cons (wpAny_mono (d A B P env s vs val foot cel p.1 p.2 h1 R I) (fun x s₁ t=>?_) fun _ _ f=>f)
  obtain ⟨rfl,sh,B',x1,I'⟩:=t
  split
  · rename_i hp
    rw [if_pos hp] at h
    injection h with h; injection h with ee24 ee25; subst ee24; subst ee25
    exact ⟨rfl,sh,B',x1,I'⟩
  · rename_i hp
    rw [if_neg hp] at h
    exact wpAny_mono (ds A B' P env s₁ p.2 val foot cel b vs' h R I') (fun _ _ t=>t.from sh x1) fun _ _ f=>f
theorem dt_bool {op:BoolOp} {es:List Expr} {pos:Pos} {t:Te} (d:DenA g r ks op es t):DenT g r ks (.BoolOp op es pos) t:=by
  intro A B P env s vs val foot cel b vs' h R I
  exact wpAny_isTrue_BoolOp (d A B P env s vs val foot cel b vs' h R I)
noncomputable def te2 (sem:AVal→AVal→VS→Option PV) (f1 f2:Ev):Te:=fun vs=>(ev2 sem f1 f2 vs).bind fun p=>(truth p.2 p.1).map fun b=>(b,p.2)
theorem j0 {op:CmpOp} {l e:Expr} {pos:Pos} {f1 f2:Ev} {sem:AVal→AVal→VS→Option PV} (d1:Den g r ks l f1) (d2:Den g r ks e f2) (o:Op2 (compareOp op) sem) (hm:behindInMarks op e=false) :
    DenT g r ks (.Compare l [op] [e] pos) (te2 sem f1 f2):=by
  intro A B P env s vs val foot cel b vs' h R I
  obtain ⟨⟨v,ws⟩,h0,h⟩:=jd h
  obtain ⟨c,ht,h4⟩:=Option.map_eq_some_iff.mp h
  injection h4 with ee26 ee27; replace ee26:=ee26.symm; subst ee26; subst ee27
  obtain ⟨p1,a,p2,b',p,h1,z1,h2,z2,q,rfl,rfl⟩:=ev2_eq h0
  refine wpAny_isTrue_Compare1 (two d1 d2 (compareOp op) R I h1 z1 h2 z2 fun x y s' B' sh xe I' Ra Rb=>?_) hm
  refine wpAny_mono (o g A B' P env ks s' p2.2 val foot cel a b' p x y q R.units I' Ra Rb) (fun z s₁ hp=>?_) fun _ _ f=>f
  obtain ⟨sh1,B1,F,x1,I1,R1,_,_⟩:=EPost.of_PR I' hp
  obtain ⟨R1,rfl⟩:=R1
  exact wpAny_mono (truth_post ht I1 ⟨R1,rfl⟩) (fun _ _ t=>(t.from sh1 x1).from sh xe) fun _ _ f=>f
end
section
variable {g:G} {B B':PM} {P:PX} {env:Env} {ks:List (Str×VK)} {vs vs':VS} {h h':Heap} {val:Nat→Value} {foot:Nat→List Addr} {cel:Nat→Addr} {s s':Shared} {A:Around} {r:Nat}
noncomputable def evOr (f1 f2:Ev):Ev:=fun vs=>(f1 vs).bind fun p=>(frz p.1).bind fun v=>(truth p.2 v).bind fun b=>if b then some (v,p.2) else f2 p.2
theorem EPost.step {v:AVal} {x:Value} {s₁ : Shared} {B₁ : PM} (sh:Sh s s₁) (e:Ext B B₁ s.heap) (p:EPost g P env ks cel B₁ s₁ val foot v vs x s'):EPost g P env ks cel B s val foot v vs x s':=p.from sh e
theorem EPost.mk0 {v:AVal} {x:Value} (sh:Sh s s') (e:Ext B B' s.heap) (I:Iv g B' P env ks vs s'.heap val foot cel) (R:RepA g B' s'.heap val v x []):EPost g P env ks cel B s val foot v vs x s' :=
  ⟨sh,B',[],e,I,R,fun a ha=>(nomatch ha),fun a ha=>(nomatch ha)⟩
theorem den_or {e1 e2:Expr} {f1 f2:Ev} {pos:Pos} (d1:Den g r ks e1 f1) (d2:Den g r ks e2 f2):Den g r ks (.BoolOp .Or [e1,e2] pos) (evOr f1 f2):=by
  intro A B P env s vs val foot cel v vs' h R I
  revert h
  refine jc fun p h1 h=>?_
  revert h
  refine jc fun w h2 h=>?_
  revert h
  refine jc fun b h3 h=>?_
  refine wpAny_Or2 (wpAny_mono (d1 A B P env s vs val foot cel p.1 p.2 h1 R I) (fun x s₁ e=>?_) fun _ _ f=>f)
  refine EPost.frozeE e h2 fun sh1 B1 x1 I1 R1=>?_
  refine wpAny_mono (truth_post h3 I1 R1) (fun t s₂ e=>?_) fun _ _ f=>f
  obtain ⟨rfl,sh2,B2,x2,I2⟩:=e
  split
  · rename_i hb
    rw [if_pos hb] at h
    injection h with h; injection h with ee2 ee3; replace ee2:=ee2.symm; subst ee2; subst ee3
    exact .mk0 (sh1.trans sh2) (x1.trans x2 sh1.size) I2 (R1.keep (yD h2) x2.le)
  · rename_i hb
    rw [if_neg hb] at h
    exact wpAny_mono (d2 A B2 P env s₂ p.2 val foot cel v vs' h R I2) (fun _ _ e=>e.from (sh1.trans sh2) (x1.trans x2 sh1.size)) fun _ _ f=>f
noncomputable def evIf (t:Te) (f1 f2:Ev):Ev:=fun vs=>(t vs).bind fun p=>if p.1 then f1 p.2 else f2 p.2
theorem den_if {e e1 e2:Expr} {t:Te} {f1 f2:Ev} {pos:Pos} (d:DenT g r ks e t) (d1:Den g r ks e1 f1) (d2:Den g r ks e2 f2):Den g r ks (.IfExp e e1 e2 pos) (evIf t f1 f2):=by
  intro A B P env s vs val foot cel v vs' h R I
  revert h
  refine jc fun p h1 h=>?_
  refine wpAny_IfExp (wpAny_mono (d A B P env s vs val foot cel p.1 p.2 h1 R I) (fun b s₁ t=>?_) fun _ _ f=>f)
  obtain ⟨rfl,sh,B',x1,I'⟩:=t
  split
  · rename_i hb
    rw [if_pos hb] at h
    exact wpAny_mono (d1 A B' P env s₁ p.2 val foot cel v vs' h R I') (fun _ _ e=>e.from sh x1) fun _ _ f=>f
  · rename_i hb
    rw [if_neg hb] at h
    exact wpAny_mono (d2 A B' P env s₁ p.2 val foot cel v vs' h R I') (fun _ _ e=>e.from sh x1) fun _ _ f=>f
noncomputable def pvOf:AVal→Option PV
  | .pv p=>some p
  | .obj (.list l)=>some (.lst l)
  | _=>none
theorem yg {v:AVal} {p:PV} (h:pvOf v=some p):frz v=some (.pv p):=by
  cases v with
  | obj o=>cases o <;> simp_all [pvOf,frz]
  | _=>simp_all [pvOf,frz]
noncomputable def evs:List Ev→VS→Option (List PV×VS)
  | [],vs=>some ([],vs)
  | f::fs,vs=>(f vs).bind fun p=>(pvOf p.1).bind fun q=>(evs fs p.2).map fun r=>(q::r.1,r.2)
inductive Dens (g:G) (r:Nat) (ks:List (Str×VK)):List Expr→List Ev→Prop
  | nil:Dens g r ks [] []
  | cons {e f es fs}:Den g r ks e f→(∀ env,starEach (e::es) env=(false,eval e env)::starEach es env)→Dens g r ks es fs→Dens g r ks (e::es) (f::fs)
inductive LPost (g:G) (P:PX) (env:Env) (ks:List (Str×VK)) (cel:Nat→Addr) (B:PM) (s:Shared) (val:Nat→Value) (foot:Nat→List Addr) (l:List PV) (vs':VS) (xs:List Value) (s':Shared):Prop
  | mk (sh:Sh s s') (B':PM) (e:Ext B B' s.heap) (I:Iv g B' P env ks vs' s'.heap val foot cel) (R:RVs B' l xs)
theorem vN {pos:Pos} {es:List Expr} {fs:List Ev} (ds0:Dens g r ks es fs):∀ {A:Around} {B:PM} {P:PX} {env:Env} {s:Shared} {vs:VS} {val:Nat→Value} {foot:Nat→List Addr} {cel:Nat→Addr} {l:List PV} {vs':VS},
    evs fs vs=some (l,vs')→Room A r→Iv g B P env ks vs s.heap val foot cel →
    wpAny (model g.prog g.w) A (spliced (backTo pos (starEach es env))) (LPost g P env ks cel B s val foot l vs') No s:=by
  induction ds0 with
  | nil =>
    intro A B P env s vs val foot cel l vs'
    intro h R I
    injection h with h; injection h with ee6 ee7; subst ee6; subst ee7
    exact wpAny_items_nil ⟨.refl _,B,.refl _ _,I,.nil⟩
  | cons d he ds ih =>
    intro A B P env s vs val foot cel l vs'
    intro h R I
    revert h
    refine jc fun p h1 h=>?_
    revert h
    refine jc fun q h2 h=>?_
    obtain ⟨w,h3,h4⟩:=Option.map_eq_some_iff.mp h
    injection h4 with ee8 ee9; subst ee8; subst ee9
    refine wpAny_items_cons (wpAny_mono (d A B P env s vs val foot cel p.1 p.2 h1 R I) (fun x s₁ e=>?_) fun _ _ f=>f) (he env)
    refine EPost.frozeE e (yg h2) fun sh1 B1 x1 I1 R1=>?_
    refine wpAny_mono (ih (l:=w.1) (vs':=w.2) h3 R I1) (fun xs s₂ t=>?_) fun _ _ f=>f
    obtain ⟨sh2,B2,x2,I2,R2⟩:=t
    exact ⟨sh1.trans sh2,B2,x1.trans x2 sh1.size,I2,.cons (R1.1.mono x2.le) R2⟩
noncomputable def evList (fs:List Ev):Ev:=fun vs=>(evs fs vs).bind fun p=>if p.1.length≤100000 then some (.obj (.list p.1),p.2) else none
noncomputable def evTup (fs:List Ev):Ev:=fun vs=>(evs fs vs).bind fun p=>if p.1.length≤100000 then some (.pv (.tup p.1),p.2) else none
theorem EPost.newObj {o:OB} {ob:Obj} {B₁ : PM} {s₁ : Shared} (sh:Sh s s₁) (e:Ext B B₁ s.heap) (I:Iv g B₁ P env ks vs s₁.heap val foot cel) (hf:ob.isFreed=false)
    (O:Own g B₁ (s₁.heap.push ob).get? o (.ref s₁.heap.objs.size) [s₁.heap.objs.size]):EPost g P env ks cel B s val foot (.obj o) vs (.ref s₁.heap.objs.size) { s₁ with heap:=s₁.heap.push ob }:=by
  refine ⟨sh.trans ⟨_,s₁.toks,rfl,.of_keep fun _ _ e=>Heap.get?_push_of_some _ e⟩,B₁,[s₁.heap.objs.size],e,I.push ob,O,fun a ha=>?_,fun a ha=>?_⟩
  · simp at ha
    subst ha
    have q:=I.bNone (Nat.le_refl s₁.heap.objs.size)
    exact ⟨q.1,q.2,fun i o=>Nat.lt_irrefl _ (I.ownLt o)⟩
  · simp at ha
    subst ha
    cases e:s.heap.get? s₁.heap.objs.size with
    | none=>rfl
    | some o=>obtain ⟨o',e'⟩:=sh.size _ o e; exact absurd (Heap.lt_size e') (Nat.lt_irrefl _)
theorem yb {es:List Expr} {fs:List Ev} {pos:Pos} (ds:Dens g r ks es fs):Den g r ks (.List es pos) (evList fs):=by
  intro A B P env s vs val foot cel v vs' h R I
  revert h
  refine jc fun p h1 h=>?_
  split at h
  · rename_i hl
    injection h with h; injection h with ee10 ee11; subst ee10; subst ee11
    refine wpAny_List (wpAny_mono (vN ds (l:=p.1) (vs':=p.2) h1 R I) (fun xs s₁ t=>?_) fun _ _ f=>f)
    obtain ⟨sh,B1,x1,I1,R1⟩:=t
    have ll:=R1.length
    refine ⟨szl ll hl (by decide),?_⟩
    exact .newObj (o:=.list p.1) (ob:=lobj xs 0) sh x1 I1 rfl ⟨_,xs,0,rfl,rfl,Heap.get?_push_size _ rfl,R1⟩
  · exact jb h
theorem j4 {es:List Expr} {fs:List Ev} {k:Nat} {pos:Pos} (ds:Dens g r ks es fs):Den g r ks (.Tuple es k pos) (evTup fs):=by
  intro A B P env s vs val foot cel v vs' h R I
  revert h
  refine jc fun p h1 h=>?_
  split at h
  · rename_i hl
    injection h with h; injection h with ee12 ee13; subst ee12; subst ee13
    refine wpAny_Tuple (wpAny_mono (vN ds (l:=p.1) (vs':=p.2) h1 R I) (fun xs s₁ t=>?_) fun _ _ f=>f)
    obtain ⟨sh,B1,x1,I1,R1⟩:=t
    have ll:=R1.length
    refine ⟨szl ll hl (by decide),?_⟩
    exact (EPost.of_PR I1 (.one (o:=tobj xs) (t:=s₁.toks) I1.hB (fun _ _ e=>e) rfl (.tup (PM.put_self ..) (R1.mono (PM.put_le (I1.bNone (Nat.le_refl _)).1))))).from sh x1
  · exact jb h
noncomputable def idx (i:Int) (n:Nat):Option Nat:=if -(2 ^ 63)≤i∧i<2 ^ 63 then seqIndex? i n else none
noncomputable def itS (c:List Nat) (i:Int):Option PV:=(idx i c.length).bind fun j=>(c[j]?).map fun d=>.str [d]
noncomputable def itT (l:List PV) (i:Int):Option PV:=(idx i l.length).bind fun j=>l[j]?
noncomputable def itL (i:Int) (a:AVal) (vs:VS):Option PV:=if 0≤i∧i<2 ^ 63 then (jy vs a).bind fun l=>l[i.toNat]? else none
noncomputable def itOf (i:Int) (a:AVal) (vs:VS):Option PV :=
  match a with
  | .pv (.str c)=>itS c i
  | .pv (.tup l)=>itT l i
  | a=>itL i a vs
noncomputable def jp (a b:AVal) (vs:VS):Option PV:=b.int?.bind fun i=>itOf i a vs
theorem itOf_L {i:Int} {a:AVal} {vs:VS} {l:List PV} (h:jy vs a=some l):itOf i a vs=itL i a vs:=vv (C:=fun a=>itOf i a vs=itL i a vs) h (fun _=>rfl) (fun _=>rfl) fun _=>rfl
theorem itOf_inv {i:Int} {a:AVal} {vs:VS} {p:PV} {C:Prop} (h:itOf i a vs=some p) (k1:∀ c j d,a=.pv (.str c)→idx i c.length=some j→c[j]?=some d→p=.str [d]→C) (k2:∀ l j,a=.pv (.tup l)→idx i l.length=some j→l[j]?=some p→C)
    (k3:∀ l,0≤i∧i<2 ^ 63→jy vs a=some l→l[i.toNat]?=some p→C):C:=by
  have k4:itL i a vs=some p→C:=fun h=>by
    unfold itL at h
    split at h
    · rename_i hr; obtain ⟨l,h1,h2⟩:=jd h; exact k3 l hr h1 h2
    · exact jb h
  clear k3
  cases a with
  | pv q =>
    cases q with
    | str c =>
      obtain ⟨j,h1,h⟩:=jd (show ((idx i c.length).bind fun j=>(c[j]?).map fun d=>PV.str [d])=some p from h)
      obtain ⟨d,h2,h3⟩:=Option.map_eq_some_iff.mp h
      exact k1 c j d rfl h1 h2 h3.symm
    | tup l =>
      obtain ⟨j,h1,h⟩:=jd (show ((idx i l.length).bind fun j=>l[j]?)=some p from h)
      exact k2 l j rfl h1 h
    | _=>exact k4 h
  | _=>exact k4 h
theorem idx_inv {i:Int} {n j:Nat} (h:idx i n=some j):(-(2 ^ 63)≤i∧i<2 ^ 63)∧seqIndex? i n=some j:=by
  unfold idx at h
  split at h
  · rename_i hr; exact ⟨hr,h⟩
  · exact jb h
theorem op_item {value slice:Expr} (hs:∀ o i,subscripted slice false o i=operate [o,i] (getItem o i)):Op2 (fun o i=>subscriptTail value slice o i) jp:=by
  intro g A B P env ks s vs val foot cel a b p x y e hu I Ra Rb
  obtain ⟨i,hb,e⟩:=jd e
  rw [int_inv hb] at Rb
  (apply RV.int_ Rb.1; intro _)
  refine itOf_inv e (fun c j d ha e1 e2 hp=>?_) (fun l j ha e1 e2=>?_) fun l hr e1 e2=>?_
  · rw [ha] at Ra; subst hp
    (apply RV.str_ Ra.1; intro _)
    obtain ⟨hr,e1⟩:=idx_inv e1
    refine tail_any (typeIs_str s _ _) slot_str_getitem.lookup (PySem.P.getItem_str (c:=d) (by simp only [Bool.or_eq_false_iff,decide_eq_false_iff_not]; exact ⟨Int.not_lt.mpr hr.1,Int.not_le.mpr hr.2⟩) ?_ (.same I.hB (.str [d] _))) (hs _ _)
    rw [show (⟨c.toArray⟩:Str).length=c.length from rfl,e1]
    exact (List.getElem?_toArray ..).trans e2
  · rw [ha] at Ra
    apply RV.tup_ Ra.1; intro _ _ h1 h2
    obtain ⟨v,hv,rv⟩:=h2.get e2
    obtain ⟨hr,e1⟩:=idx_inv e1
    exact item_tupleT (l:=_) ⟨_,I.hB _ _ h1,rfl,0,rfl⟩ hr.1 hr.2 (by rw [h2.length]; exact e1) hv (.here I.hB rv) (hs _ _)
  · obtain ⟨a1,w1,n1,rfl,g1,r1⟩:=j9 I e1 Ra
    obtain ⟨v,hv,rv⟩:=r1.get e2
    exact tail_any (T := "list") ⟨_,g1,rfl⟩ slot_list_getitem.lookup (wpAny_getItem_list (items:=w1.toArray) ⟨_,g1,rfl,n1,rfl⟩ hr.1 hr.2 ((List.getElem?_toArray ..).trans hv) (.here I.hB rv)) (hs _ _)
theorem jn {value slice:Expr} {pos:Pos} {f1 f2:Ev} (d1:Den g r ks value f1) (d2:Den g r ks slice f2) (hs:∀ o i,subscripted slice false o i=operate [o,i] (getItem o i):=by intro _ _; rfl) :
    Den g r ks (.Subscript value slice pos) (ev2 jp f1 f2):=by
  intro A B P env s vs val foot cel v vs' h R I
  obtain ⟨p1,a,p2,b,p,h1,z1,h2,z2,q,rfl,rfl⟩:=ev2_eq h
  refine Subscript_ (two d1 d2 (fun o i=>subscriptTail value slice o i) R I h1 z1 h2 z2 fun x y s' B' sh xe I' Ra Rb=>?_)
  exact wpAny_mono (op_item hs g A B' P env ks s' p2.2 val foot cel a b p x y q R.units I' Ra Rb) (fun _ _ h=>(EPost.of_PR I' h).from sh xe) fun _ _ f=>f
end
noncomputable def cut {α : Type} (lo hi:Option Int) (l:List α):List α:=(l.drop (lo.elim 0 (clipAt l.length))).take (hi.elim l.length (clipAt l.length) - lo.elim 0 (clipAt l.length))
section
variable {g:G} {B B':PM} {P:PX} {env:Env} {ks:List (Str×VK)} {vs vs':VS} {h h':Heap} {val:Nat→Value} {foot:Nat→List Addr} {cel:Nat→Addr} {s s':Shared} {A:Around} {r:Nat}
noncomputable def partOf:AVal→Option (Option Int)
  | .pv .none=>some none
  | .pv (.int i)=>some (some i)
  | _=>none
noncomputable def evPart:Option Ev→VS→Option (Option Int×VS)
  | none,vs=>some (none,vs)
  | some f,vs=>(f vs).bind fun p=>(partOf p.1).map fun i=>(i,p.2)
inductive DenP (g:G) (r:Nat) (ks:List (Str×VK)):Option Expr→Option Ev→Prop
  | none:DenP g r ks none none
  | some {e f}:Den g r ks e f→DenP g r ks (some e) (some f)
noncomputable def PartV:Option Int→Value→Prop
  | none,v=>v=.none
  | some i,v=>∃ t,v=.int i t
inductive PPost (g:G) (P:PX) (env:Env) (ks:List (Str×VK)) (cel:Nat→Addr) (B:PM) (s:Shared) (val:Nat→Value) (foot:Nat→List Addr) (i:Option Int) (vs':VS) (x:Value) (s':Shared):Prop
  | mk (h:PartV i x) (sh:Sh s s') (B':PM) (e:Ext B B' s.heap) (I:Iv g B' P env ks vs' s'.heap val foot cel)
theorem denp_eval {e:Option Expr} {f:Option Ev} (d:DenP g r ks e f) {i:Option Int} (h:evPart f vs=some (i,vs')) (R:Room A r) (I:Iv g B P env ks vs s.heap val foot cel) :
    wpAny (model g.prog g.w) A (evalPart e env) (PPost g P env ks cel B s val foot i vs') No s:=by
  cases d with
  | none=>injection h with h; injection h with ee0 ee1; subst ee0; subst ee1; exact wpAny_evalPart_none ⟨rfl,.refl _,B,.refl _ _,I⟩
  | some d =>
    revert h
    refine jc fun p h1 h=>?_
    obtain ⟨j,h2,h3⟩:=Option.map_eq_some_iff.mp h
    injection h3 with ee2 ee3; replace ee2:=ee2.symm; subst ee2; subst ee3
    refine wpAny_evalPart_some (wpAny_mono (d A B P env s vs val foot cel p.1 p.2 h1 R I) (fun x s₁ e=>?_) fun _ _ f=>f)
    revert e
    refine EPost.rev fun sh B1 F x1 I1 R1 _ _=>?_
    refine ⟨?_,sh,B1,x1,I1⟩
    obtain ⟨v,ws⟩:=p
    cases v with
    | pv p =>
      cases p with
      | none=>injection h2 with h2; subst h2; apply RV.none_ R1.1; rfl
      | int i=>injection h2 with h2; subst h2; (apply RV.int_ R1.1; intro _); exact ⟨_,rfl⟩
      | _=>exact jb h2
    | _=>exact jb h2
noncomputable def semCut (lo hi:Option Int) (a:AVal) (vs:VS):Option PV :=
  match a with
  | .pv (.str c)=>if c.length≤100000 then some (.str (cut lo hi c)) else none
  | a=>(jy vs a).bind fun l=>if l.length≤100000 then some (.lst (cut lo hi l)) else none
noncomputable def yx (f:Ev) (lo hi:Option Ev):Ev:=fun vs =>
  (f vs).bind fun p=>(frz p.1).bind fun a=>(evPart lo p.2).bind fun q=>(evPart hi q.2).bind fun t=>(semCut q.1 t.1 a t.2).map fun x=>(.pv x,t.2)
theorem cut_RVs {l:List PV} {ws:List Value} (lo hi:Option Int) (h:RVs B l ws):RVs B (cut lo hi l) (cut lo hi ws):=by
  unfold cut
  rw [h.length]
  exact (h.drop _).take _
theorem PartV.is {i:Option Int} {v:Value} (h:PartV i v):IsPart v i:=by
  cases i with
  | none=>cases h; exact .none
  | some i=>obtain ⟨t,rfl⟩:=h; exact .int i t
theorem PartV.pv {i:Option Int} {v:Value} (h:PartV i v):∃ p:Option (Int×Tok),v=partValue p∧p.map (·.1)=i:=by
  cases i with
  | none=>cases h; exact ⟨none,rfl,rfl⟩
  | some i=>obtain ⟨t,rfl⟩:=h; exact ⟨some (i,t),rfl,rfl⟩
theorem strIdx (lo hi:Option Int) (n:Nat):Builtin.Str.strSliceIndices lo hi 1 n=(List.range (hi.elim n (clipAt n) - lo.elim 0 (clipAt n))).map (lo.elim 0 (clipAt n)+·):=by
  have e:Builtin.Str.strSliceIndices lo hi 1 n=sliceRange (sliceBounds lo hi none n).1 (sliceBounds lo hi none n).2.1 1:=rfl
  rw [e,sliceBounds_plain,sliceRange_one]
theorem strPick (c:List Nat) (lo hi:Option Int):(Builtin.Str.strSliceIndices lo hi 1 c.length).filterMap (fun i=>(c.toArray:Array Nat)[i]?)=cut lo hi c:=by
  rw [strIdx,pick_run]
  rfl
theorem strLen (lo hi:Option Int) (c:List Nat):(Builtin.Str.strSliceIndices lo hi 1 c.length).length=c.length→cut lo hi c=c:=by
  rw [strIdx,List.length_map,List.length_range]
  intro h
  unfold cut
  have hh:hi.elim c.length (clipAt c.length)≤c.length:=by
    cases hi with
    | none=>exact Nat.le_refl _
    | some i=>show clipAt c.length i≤c.length; exact Int.toNat_le.mpr (Int.max_le.mpr ⟨Int.natCast_nonneg _,Int.min_le_right _ _⟩)
  rw [h]
  by_cases h0:c.length=0
  · have:c=[]:=List.length_eq_zero_iff.mp h0
    subst this; simp
  · have:lo.elim 0 (clipAt c.length)=0:=Nat.eq_zero_of_not_pos fun hp=>Nat.lt_irrefl _ (Nat.lt_of_le_of_lt (Nat.le_trans (Nat.le_of_eq h.symm) (Nat.sub_le_sub_right hh _)) (Nat.sub_lt (Nat.pos_of_ne_zero h0) hp))
    rw [this]; simp
theorem semCut_cases {lo hi:Option Int} {a:AVal} {x:PV} (h:semCut lo hi a vs=some x):(∃ c,a=.pv (.str c)∧c.length≤100000∧x=.str (cut lo hi c)) ∨
    ∃ l,jy vs a=some l∧l.length≤100000∧x=.lst (cut lo hi l):=by
  unfold semCut at h
  split at h
  · split at h
    · rename_i hl; injection h with h; subst h; exact .inl ⟨_,rfl,hl,rfl⟩
    · exact jb h
  · obtain ⟨l,e1,h⟩:=jd h
    split at h
    · rename_i hl; injection h with h; subst h; exact .inr ⟨l,e1,hl,rfl⟩
    · exact jb h
theorem j5 {value:Expr} {lower upper:Option Expr} {p pos:Pos} {f:Ev} {lo hi:Option Ev} (d:Den g r ks value f) (dl:DenP g r ks lower lo) (du:DenP g r ks upper hi) :
    Den g r ks (.Subscript value (.Slice lower upper none p) pos) (yx f lo hi):=by
  intro A B P env s vs val foot cel v vs' h R I
  revert h
  refine jc fun p1 h1 h=>?_
  revert h
  refine jc fun a z1 h=>?_
  revert h
  refine jc fun q h2 h=>?_
  revert h
  refine jc fun t h3 h=>?_
  obtain ⟨x,h4,h5⟩:=Option.map_eq_some_iff.mp h
  injection h5 with ee4 ee5; subst ee4; subst ee5
  refine Subscript_ (wpAny_mono (d A B P env s vs val foot cel p1.1 p1.2 h1 R I) (fun o s₁ e=>?_) fun _ _ f=>f)
  refine EPost.frozeE e z1 fun sh1 B1 x1 I1 R1=>?_
  refine wpAny_Slice (wpAny_mono (denp_eval dl (i:=q.1) (vs':=q.2) h2 R I1) (fun vl s₂ e=>?_) fun _ _ f=>f)
  obtain ⟨pl,sh2,B2,x2,I2⟩:=e
  refine wpAny_mono (denp_eval du (i:=t.1) (vs':=t.2) h3 R I2) (fun vu s₃ e=>?_) fun _ _ f=>f
  obtain ⟨pu,sh3,B3,x3,I3⟩:=e
  rw [evalPart_none]
  refine wpAny_pure ?_
  have R3:RepA g B3 s₃.heap val a o []:=R1.keep (yD z1) fun _ _ e=>x3.le _ _ (x2.le _ _ e)
  have sh:=(sh1.trans sh2).trans sh3
  have xe:=(x1.trans x2 sh1.size).trans x3 (sh1.trans sh2).size
  rcases semCut_cases h4 with ⟨c,rfl,hl,rfl⟩ | ⟨l,e1,hl,rfl⟩
  · (apply RV.str_ R3.1; intro _)
    · skip
      obtain ⟨pl',rfl,el⟩:=pl.pv
      obtain ⟨pu',rfl,eu⟩:=pu.pv
      refine tail_any (typeIs_str _ _ _) F.slot_str_getitem.lookup ?_ rfl
      refine wpAny_getItem_str_slice (l:=pl') (u:=pu') (st:=none) ⟨_,Heap.get?_push_size _ rfl,rfl,rfl⟩ rfl ?_
      have fin:∀ tk t' (c':List Nat),c'=cut q.1 t.1 c→EPost g P env ks cel B s val foot (.pv (.str (cut q.1 t.1 c))) t.2 (.str ⟨c'.toArray⟩ t') { s₃ with heap:=s₃.heap.push { cls:=.type "slice",data:=.fields #[partValue pl',partValue pu',.none] },toks:=tk }:=by
        rintro tk t' c' rfl
        refine (EPost.of_PR (p:=.str (cut q.1 t.1 c)) I3 (x:=.str ⟨(cut q.1 t.1 c).toArray⟩ t') ⟨_,tk,B3,rfl,fun _ _ e=>Heap.get?_push_of_some _ e,.refl _ _,fun _ _ e=>Heap.get?_push_of_some _ (I3.hB _ _ e),.str _ _⟩).from sh xe
      unfold sliceMade slicePicked
      rw [show (⟨c.toArray⟩:Str).length=c.length by simp [Str.length]]
      simp only [Option.map_none,Option.getD_none,el,eu]
      split
      · rename_i hq
        have:cut q.1 t.1 c=c:=strLen _ _ _ (by simpa using hq)
        exact fin _ _ c this.symm
      · refine ⟨by simp only [Str.length,List.size_toArray]; rw [strPick]; unfold cut; rw [List.length_take,List.length_drop]; exact Nat.le_trans (Nat.min_le_right _ _) (Nat.le_trans (Nat.sub_le _ _) (Nat.le_trans hl (by decide))),?_⟩
        exact fin _ _ _ (strPick c _ _)
  · · obtain ⟨a1,w1,n1,rfl,g1,r1⟩:=j9 I3 e1 R3
      have ll:=r1.length
      have g1':(s₃.heap.push { cls:=.type "slice",data:=.fields #[vl,vu,.none] }).IsList a1 w1.toArray:=⟨_,Heap.get?_push_of_some _ g1,rfl,n1,rfl⟩
      refine tail_any g1'.typeIs list_getitem_lookup ?_ rfl
      refine wpAny_getItem_list_slice g1' (Heap.IsSliceOf.new ..) pl.is pu.is .none (by simp) ?_ (szl ll hl (by decide))
      have e2:({ cls:=.type "list",data:=.seq (slicePick w1.toArray q.1 t.1 none) }:Obj)=lobj (cut q.1 t.1 w1) 0:=by
        rw [slicePick_plain]; simp [lobj,cut]
      rw [e2]
      refine (EPost.of_PR I3 (p:=.lst (cut q.1 t.1 l)) (.one (o:=lobj (cut q.1 t.1 w1) 0) (t:=s₃.toks) I3.hB (fun _ _ e=>Heap.get?_push_of_some _ e) rfl
        (.lst (PM.put_self ..) ((cut_RVs _ _ r1).mono (PM.put_le ?_))))).from sh xe
      exact ve (fun _ _ e=>Heap.get?_push_of_some _ (I3.hB _ _ e)) (Nat.le_refl _)
end
noncomputable def upd {α : Type} (f:Nat→α) (k:Nat) (x:α):Nat→α:=fun i=>if i=k then x else f i
theorem upd_self {α : Type} (f:Nat→α) (k:Nat) (x:α):upd f k x k=x:=by simp [upd]
theorem vP {α : Type} (f:Nat→α) {k i:Nat} (x:α) (h:i ≠ k):upd f k x i=f i:=by simp [upd,h]
section
variable {g:G} {B B':PM} {P:PX} {env:Env} {ks:List (Str×VK)} {vs vs':VS} {h h':Heap} {val:Nat→Value} {foot:Nat→List Addr} {cel:Nat→Addr} {s s':Shared} {A:Around} {r:Nat}
theorem ownBy_upd {L:Addr} {k:Nat} {F:List Addr} {i a} (o:yv L ks (upd foot k F) cel i a):(i=some (k,false)∧a∈F) ∨ (i ≠ some (k,false)∧yv L ks foot cel i a):=by
  match i,o with
  | none,o=>exact .inr ⟨by simp,o⟩
  | some (j,true),o=>exact .inr ⟨by simp,o⟩
  | some (j,false),o =>
    by_cases hj:j=k
    · subst hj
      left
      refine ⟨rfl,?_⟩
      have:a∈upd foot j F j:=o
      rwa [upd_self] at this
    · right
      refine ⟨by simpa using hj,?_⟩
      have:a∈upd foot k F j:=o
      rwa [vP _ _ hj] at this
theorem ks_inj (nd:(ks.map (·.1)).Nodup) {i j:Nat} {x:Str} {a b:VK} (hi:ks[i]?=some (x,a)) (hj:ks[j]?=some (x,b)):i=j:=by
  have h1:(ks.map (·.1))[i]?=some x:=by rw [List.getElem?_map,hi]; rfl
  have h2:(ks.map (·.1))[j]?=some x:=by rw [List.getElem?_map,hj]; rfl
  have l1:i<(ks.map (·.1)).length:=(List.getElem?_eq_some_iff.mp h1).1
  exact (List.getElem?_inj l1 nd).mp (h1.trans h2.symm)
theorem ne_vk {ks:List (Str×VK)} {i j:Nat} {x y:Str} {v w:VK} (h1:ks[i]?=some (x,v)) (h2:ks[j]?=some (y,w)) (h:v ≠ w):i ≠ j:=fun q=>h (congrArg Prod.snd (Option.some.inj (h1.symm.trans ((congrArg (ks[·]?) q).trans h2))))
theorem vK {k i:Nat} {sl x:Slot} (h:(vs.set k sl)[i]?=some x):(k=i∧sl=x) ∨ (i ≠ k∧vs[i]?=some x):=by
  rw [List.getElem?_set] at h
  split at h
  · rename_i hk
    split at h
    · injection h with h; subst h; exact .inl ⟨hk,rfl⟩
    · exact jb h
  · rename_i hk; exact .inr ⟨fun q=>hk q.symm,h⟩
theorem store_var (I:Iv g B P env ks vs s.heap val foot cel) {k:Nat} {x:Str} {vk:VK} (hk:ks[k]?=some (x,vk)) (hv:vk=.loc ∨ vk=.cel) (hlt:k<vs.length) {sl:Slot} {v:Value} {F:List Addr}
    (S:SlotOk g B P s.heap (cel k) sl v F) (Fr:Fresh B P env.locals ks foot cel F) {M:Model} {E:Value→Shared→Prop} {Q:Unit→Shared→Prop}
    (q:∀ h' t',Iv g B P env ks (vs.set k sl) h' (upd val k v) (upd foot k F) cel→Alive s.heap h'→Q () { s with heap:=h',toks:=t' }):wpAny M A (storeName env x v) Q E s:=by
  have lenS:(vs.set k sl).length=vs.length:=List.length_set ..
  have hown:∀ i a,yv env.locals ks (upd foot k F) cel i a→B a=none∧P.pr a=none:=fun i a o=>by
    rcases ownBy_upd o with ⟨_,ha⟩ | ⟨_,o⟩
    · exact ⟨(Fr a ha).1,(Fr a ha).2.1⟩
    · exact I.own i a o
  have hap:∀ i j a,yv env.locals ks (upd foot k F) cel i a→yv env.locals ks (upd foot k F) cel j a→i=j:=fun i j a oi oj=>by
    rcases ownBy_upd oi with ⟨e1,ha⟩ | ⟨_,o1⟩ <;> rcases ownBy_upd oj with ⟨e2,ha2⟩ | ⟨_,o2⟩
    · rw [e1,e2]
    · exact absurd o2 ((Fr a ha).2.2 j)
    · exact absurd o1 ((Fr a ha2).2.2 i)
    · exact I.apart i j a o1 o2
  have fin:∀ (h':Heap) (c:Addr),(∃ i,i ≠ some (k,false)∧(∀ j,i ≠ some (j,false))∧yv env.locals ks foot cel i c)→Heap.SameBut c s.heap h' →
      (∃ m,h'.Ns env.locals m∧∀ i y vk,ks[i]?=some (y,vk)→vk=.loc ∨ vk=.par→∀ sl',(vs.set k sl)[i]?=some sl'→sl' ≠ .un→m y=some (upd val k v i)) →
      (∀ i y,ks[i]?=some (y,VK.cel)→∃ ov,h'.IsCell (cel i) ov∧∀ sl',(vs.set k sl)[i]?=some sl'→sl' ≠ .un→ov=some (upd val k v i)) →
      Iv g B P env ks (vs.set k sl) h' (upd val k v) (upd foot k F) cel:=by
    intro h' c ⟨ic,hne,hnf,oc⟩ hs hns hcl
    refine ⟨I.ev,I.base,fun b o e=>?_,I.hR,fun b o e=>?_,I.above,by rw [lenS]; exact I.len,hns,fun i y e=>?_,hcl,fun i y e=>?_,fun i sl' hs'=>?_,fun i hi=>?_,hown,hap⟩
    · exact (hs.2 b (by rintro rfl; rw [(I.own _ _ oc).1] at e; exact jb e)).trans (I.hB b o e)
    · exact (hs.2 b (by rintro rfl; rw [(I.own _ _ oc).2] at e; exact jb e)).trans (I.hP b o e)
    · have hik:i ≠ k:=ne_vk e hk (by rcases hv with rfl | rfl <;> decide)
      rw [vP _ _ hik,vP _ _ hik]; exact I.pin i y e
    · obtain ⟨o,ho,hd⟩:=I.fr i y e
      refine ⟨o,ho,fun sl' hs' hn=>?_⟩
      rcases vK hs' with ⟨rfl,rfl⟩ | ⟨hik,hs''⟩
      · rw [hk] at e; injection e with e; injection e with ee2 ee3; subst ee2; subst ee3; rcases hv with hv | hv <;> cases hv
      · rw [vP _ _ hik]; exact hd sl' hs'' hn
    · rcases vK hs' with ⟨rfl,rfl⟩ | ⟨hik,hs''⟩
      · rw [upd_self,upd_self]
        exact S.step (fun _ _ e=>e) fun a ha o e=>(hs.2 a (by rintro rfl; exact (Fr a ha).2.2 ic oc)).trans e
      · rw [vP _ _ hik,vP _ _ hik]
        exact (I.slots i sl' hs'').step (fun _ _ e=>e) fun a ha o e=>(hs.2 a (by rintro rfl; exact hnf i (I.apart ic (some (i,false)) a oc ha))).trans e
    · rw [lenS] at hi
      rw [vP _ _ (Nat.ne_of_gt (Nat.lt_of_lt_of_le hlt hi))]
      exact I.out i hi
  have alive:∀ (h':Heap) (c:Addr),Heap.SameBut c s.heap h'→(∃ o,h'.get? c=some o)→Alive s.heap h':=fun h' c hs hc a o e=>by
    by_cases ha:a=c
    · subst ha; exact hc
    · exact ⟨o,(hs.2 a ha).trans e⟩
  rcases hv with rfl | rfl
  · obtain ⟨m,hm,hmv⟩:=I.ns
    refine wpAny_storeName_local (I.ev.kl k x _ hk (.inl rfl)) hm (fun h' hn hs=>q h' _ (fin h' env.locals ⟨none,by simp,by simp,rfl⟩ hs ⟨_,hn,fun i y vk e ek sl' hs' hn'=>?_⟩ fun i y e=>?_) (alive h' _ hs ?_)) ?_
    · rcases vK hs' with ⟨rfl,rfl⟩ | ⟨hik,hs''⟩
      · rw [hk] at e; injection e with e; injection e with ee4 ee5; subst ee4; subst ee5; rw [upd_self]; simp
      · have hne:y ≠ x:=fun q=>hik (ks_inj I.ev.nodup (q ▸ e) hk)
        simp only [hne,if_false]
        rw [vP _ _ hik]
        exact hmv i y vk e ek sl' hs'' hn'
    · obtain ⟨ov,hc,hcv⟩:=I.cl i y e
      refine ⟨ov,hc.sameBut hs fun q=>?_,fun sl' hs' hn'=>?_⟩
      · exact nomatch I.apart (some (i,true)) none (cel i) ⟨⟨y,e⟩,rfl⟩ q
      · rcases vK hs' with ⟨rfl,rfl⟩ | ⟨hik,hs''⟩
        · rw [hk] at e; injection e with e; injection e with ee6 ee7; subst ee6; injection ee7
        · rw [vP _ _ hik]; exact hcv sl' hs'' hn'
    · obtain ⟨o,_,_,ho,_⟩:=hn; exact ⟨o,ho⟩
    · rw [I.ev.kind]; rfl
  · obtain ⟨ov,hc,hcv⟩:=I.cl k x hk
    obtain ⟨k1,k2⟩:=I.ev.kc k x hk
    refine wpAny_storeName_cell I.ev.kind k1 k2 hc fun h' hn hs=>q h' s.toks (fin h' (cel k) ⟨some (k,true),by simp,by simp,⟨x,hk⟩,rfl⟩ hs ?_ fun i y e=>?_) (alive h' _ hs ?_)
    · obtain ⟨m,hm,hmv⟩:=I.ns
      refine ⟨m,hm.sameBut hs fun q=>?_,fun i y vk e ek sl' hs' hn'=>?_⟩
      · exact nomatch I.apart none (some (k,true)) env.locals rfl ⟨⟨x,hk⟩,q⟩
      · rcases vK hs' with ⟨rfl,rfl⟩ | ⟨hik,hs''⟩
        · rw [hk] at e; injection e with e; injection e with ee8 ee9; subst ee8; subst ee9; rcases ek with ek | ek <;> cases ek
        · rw [vP _ _ hik]; exact hmv i y vk e ek sl' hs'' hn'
    · by_cases hik:i=k
      · subst hik
        refine ⟨some v,hn,fun sl' hs' hn'=>by rw [upd_self]⟩
      · obtain ⟨ov',hc',hcv'⟩:=I.cl i y e
        refine ⟨ov',hc'.sameBut hs fun q=>hik ?_,fun sl' hs' hn'=>?_⟩
        · have:=I.apart (some (i,true)) (some (k,true)) (cel i) ⟨⟨y,e⟩,rfl⟩ ⟨⟨x,hk⟩,q⟩
          simpa using this
        · rcases vK hs' with ⟨rfl,rfl⟩ | ⟨_,hs''⟩
          · exact absurd rfl hik
          · rw [vP _ _ hik]; exact hcv' sl' hs'' hn'
    · obtain ⟨o,ho,_⟩:=hn; exact ⟨o,ho⟩
end
open Classical in
noncomputable def PX.plus (P:PX) (h:Heap) (F:List Addr):PX:=⟨P.rd,fun b=>if b∈F then h.get? b else P.pr b,P.pv,P.pf⟩
section
variable {g:G} {B B':PM} {P:PX} {env:Env} {ks:List (Str×VK)} {vs vs':VS} {h h':Heap} {val val':Nat→Value} {foot foot':Nat→List Addr} {cel:Nat→Addr} {s s':Shared} {A:Around} {r:Nat}
theorem Iv.protect (I:Iv g B P env ks vs h val foot cel) {F:List Addr} (Fr:Fresh B P env.locals ks foot cel F):Iv g B (P.plus h F) env ks vs h val foot cel where
  ev:=I.ev
  base:=I.base
  hB:=I.hB
  hR:=fun b o e=>by
    have q:=I.hR b o e
    show (if b∈F then h.get? b else P.pr b)=some o
    rw [if_neg]
    · exact q
    · intro hb; rw [(Fr b hb).2.1] at q; exact jb q
  hP:=fun b o e=>by
    have e:(if b∈F then h.get? b else P.pr b)=some o:=e
    split at e
    · exact e
    · exact I.hP b o e
  above:=I.above
  len:=I.len
  ns:=I.ns
  pin:=I.pin
  cl:=I.cl
  fr:=I.fr
  slots:=I.slots
  out:=I.out
  own:=fun i a o=>⟨(I.own i a o).1,by
    show (if a∈F then h.get? a else P.pr a)=none
    rw [if_neg]
    · exact (I.own i a o).2
    · intro ha; exact (Fr a ha).2.2 i o⟩
  apart:=I.apart
theorem Iv.unprotect {h₀ : Heap} {F:List Addr} (I:Iv g B (P.plus h₀ F) env ks vs h val foot cel) (hR:∀ b o,P.rd b=some o→P.pr b=some o) (d:∀ a∈F,P.pr a=none):Iv g B P env ks vs h val foot cel where
  ev:=I.ev
  base:=I.base
  hB:=I.hB
  hR:=hR
  hP:=fun b o e=>I.hP b o (by
    show (if b∈F then h₀.get? b else P.pr b)=some o
    rw [if_neg]
    · exact e
    · intro hb; rw [d b hb] at e; exact jb e)
  above:=I.above
  len:=I.len
  ns:=I.ns
  pin:=I.pin
  cl:=I.cl
  fr:=I.fr
  slots:=I.slots
  out:=I.out
  own:=fun i a o=>⟨(I.own i a o).1,by
    have q:(if a∈F then h₀.get? a else P.pr a)=none:=(I.own i a o).2
    split at q
    · rename_i ha; exact d a ha
    · exact q⟩
  apart:=I.apart
theorem yL {h:Heap} {F:List Addr} {b:Addr} {o:Obj} (hb:b∈F) (e:h.get? b=some o):(P.plus h F).pr b=some o:=by
  show (if b∈F then h.get? b else P.pr b)=some o
  rw [if_pos hb]; exact e
theorem SPost.from {fl:Fl} {f:Flow} {s₀ : Shared} {B₀ : PM} (sh:Sh s₀ s) (e:Ext B₀ B s₀.heap) (p:SPost g P env ks cel B s fl vs f s'):SPost g P env ks cel B₀ s₀ fl vs f s':=by
  revert p
  refine SPost.rev fun sh' B' val foot F x1 I R=>?_
  refine ⟨sh.trans sh',B',val,foot,F,e.trans x1 sh.size,I,?_⟩
  cases fl with
  | next=>exact R
  | brk=>exact R
  | ret v =>
    obtain ⟨x,hx,R,Fr,lo⟩:=R
    exact ⟨x,hx,R,Fr,fun a ha=>by
      cases e:s₀.heap.get? a with
      | none=>rfl
      | some o=>obtain ⟨o',e'⟩:=sh.size a o e; rw [lo a ha] at e'; exact jb e'⟩
noncomputable def jr:Ex:=fun vs=>some (.next,vs)
noncomputable def jm (f1 f2:Ex):Ex:=fun vs=>(f1 vs).bind fun p=>match p.1 with
  | .next=>f2 p.2
  | fl=>some (fl,p.2)
theorem jg:DenB g r ks [] jr:=by
  intro A B P env s vs val foot cel fl vs' h R I
  injection h with h; injection h with ee0 ee1; subst ee0; subst ee1
  exact wpAny_execs_nil ⟨.refl s,B,val,foot,[],.refl _ _,I,rfl⟩
theorem je {st:Stmt} {rest:List Stmt} {f1 f2:Ex} (d1:DenS g r ks st f1) (d2:DenB g r ks rest f2):DenB g r ks (st::rest) (jm f1 f2):=by
  intro A B P env s vs val foot cel fl vs' h R I
  obtain ⟨⟨fl1,ws⟩,h1,h⟩:=jd h
  refine wpAny_execs_cons (wpAny_mono (d1 A B P env s vs val foot cel fl1 ws h1 R I) (fun f s₁ p=>?_) fun _ _ f=>f)
  cases fl1 with
  | next =>
    obtain ⟨sh,B1,val1,foot1,F1,x1,I1,rfl⟩:=p
    exact wpAny_mono (d2 A B1 P env s₁ ws val1 foot1 cel fl vs' h R I1) (fun _ _ p=>p.from sh x1) fun _ _ f=>f
  | brk =>
    injection h with h; injection h with ee2 ee3; subst ee2; subst ee3
    obtain ⟨sh,B1,val1,foot1,F1,x1,I1,rfl⟩:=p
    exact ⟨sh,B1,val1,foot1,F1,x1,I1,rfl⟩
  | ret v =>
    injection h with h; injection h with ee4 ee5; subst ee4; subst ee5
    obtain ⟨sh,B1,val1,foot1,F1,x1,I1,x,rfl,q⟩:=p
    exact ⟨sh,B1,val1,foot1,F1,x1,I1,x,rfl,q⟩
noncomputable def jD (k:Nat) (f:Ev):Ex:=fun vs=>(f vs).bind fun p=>(pvOf p.1).bind fun q=>if k<p.2.length then some (.next,p.2.set k (.pv q)) else none
noncomputable def Jc (k:Nat) (f:Ev):Ex:=fun vs=>(f vs).bind fun p=>match p.1 with
  | .obj o=>if k<p.2.length then some (.next,p.2.set k (.ob o)) else none
  | _=>none
theorem vw (I:Iv g B P env ks vs s.heap val foot cel) {k:Nat} {x:Str} {vk:VK} (hk:ks[k]?=some (x,vk)) (hv:vk=.loc ∨ vk=.cel) (hlt:k<vs.length) {p:PV} {v:Value} (hr:RV B p v)
    {M:Model} {E:Value→Shared→Prop} {Q:Unit→Shared→Prop}
    (q:∀ h' t',Iv g B P env ks (vs.set k (.pv p)) h' (upd val k v) (upd foot k []) cel→Alive s.heap h'→Q () { s with heap:=h',toks:=t' }):wpAny M A (storeName env x v) Q E s :=
  store_var I hk hv hlt (sl:=.pv p) (F:=[]) ⟨hr,rfl⟩ (fun a ha=>(nomatch ha)) q
theorem jq {k:Nat} {x:Str} {vk:VK} {pos' pos:Pos} {value:Expr} {f:Ev} (d:Den g r ks value f) (hk:ks[k]?=some (x,vk)) (hv:vk=.loc ∨ vk=.cel:=by first | exact .inl rfl | exact .inr rfl)
    (hs:∀ env,swapsWith value (some (.Name x pos')) pos.line env=pure false:=by intro _; rfl):DenS g r ks (.Assign [.Name x pos'] value pos) (jD k f):=by
  intro A B P env s vs val foot cel fl vs' h R I
  revert h
  refine jc fun p h1 h=>?_
  revert h
  refine jc fun q h2 h=>?_
  split at h
  · rename_i hlt
    injection h with h; injection h with ee6 ee7; subst ee6; subst ee7
    refine wpAny_Assign_Name (wpAny_mono (d A B P env s vs val foot cel p.1 p.2 h1 R I) (fun v s₁ e=>?_) fun _ _ f=>f) (hs env)
    refine EPost.frozeE e (yg h2) fun sh B1 x1 I1 R1=>?_
    refine vw I1 hk hv hlt R1.1 fun h' t' I' al=>?_
    exact ⟨sh.trans ⟨h',t',rfl,al⟩,B1,_,_,[],x1,I',rfl⟩
  · exact jb h
theorem yP {k:Nat} {x:Str} {vk:VK} {pos' pos:Pos} {value:Expr} {f:Ev} (d:Den g r ks value f) (hk:ks[k]?=some (x,vk)) (hv:vk=.loc ∨ vk=.cel:=by first | exact .inl rfl | exact .inr rfl)
    (hs:∀ env,swapsWith value (some (.Name x pos')) pos.line env=pure false:=by intro _; rfl):DenS g r ks (.Assign [.Name x pos'] value pos) (Jc k f):=by
  intro A B P env s vs val foot cel fl vs' h R I
  obtain ⟨⟨v,ws⟩,h1,h⟩:=jd h
  cases v with
  | obj o =>
    dsimp only at h
    split at h
    · rename_i hlt
      injection h with h; injection h with ee8 ee9; subst ee8; subst ee9
      refine wpAny_Assign_Name (wpAny_mono (d A B P env s vs val foot cel (.obj o) ws h1 R I) (fun v s₁ e=>?_) fun _ _ f=>f) (hs env)
      revert e
      refine EPost.rev fun sh B1 F x1 I1 R1 Fr lo=>?_
      refine store_var I1 hk hv hlt (sl:=.ob o) R1 Fr fun h' t' I' al=>?_
      exact ⟨sh.trans ⟨h',t',rfl,al⟩,B1,_,_,[],x1,I',rfl⟩
    · exact jb h
  | _=>exact jb h
noncomputable def vE (f:Ev):Ex:=fun vs=>(f vs).map fun p=>(.ret p.1,p.2)
theorem jA {e:Expr} {pos:Pos} {f:Ev} (d:Den g r ks e f):DenS g r ks (.Return (some e) pos) (vE f):=by
  intro A B P env s vs val foot cel fl vs' h R I
  obtain ⟨p,h1,h2⟩:=Option.map_eq_some_iff.mp h
  injection h2 with ee10 ee11; subst ee10; subst ee11
  refine wpAny_Return_some (wpAny_mono (d A B P env s vs val foot cel p.1 p.2 h1 R I) (fun v s₁ e=>?_) fun _ _ f=>f)
  revert e
  refine EPost.rev fun sh B1 F x1 I1 R1 Fr lo=>?_
  exact ⟨sh,B1,val,foot,F,x1,I1,v,rfl,R1,Fr,lo⟩
noncomputable def exBrk:Ex:=fun vs=>some (.brk,vs)
theorem dens_brk {pos:Pos}:DenS g r ks (.Break pos) exBrk:=by
  intro A B P env s vs val foot cel fl vs' h R I
  injection h with h; injection h with ee12 ee13; subst ee12; subst ee13
  exact wpAny_Break ⟨.refl s,B,val,foot,[],.refl _ _,I,rfl⟩
noncomputable def yN (f:Ev):Ex:=fun vs=>(f vs).bind fun p=>match p.1 with
  | .pv .none=>some (.next,p.2)
  | _=>none
theorem j8 {e:Expr} {pos:Pos} {f:Ev} (d:Den g r ks e f) (hs:∀ env,swapsWith e none pos.line env=pure false:=by intro _; rfl):DenS g r ks (.Expr e pos) (yN f):=by
  intro A B P env s vs val foot cel fl vs' h R I
  obtain ⟨⟨v,ws⟩,h1,h⟩:=jd h
  dsimp only at h
  split at h
  · injection h with h; injection h with ee14 ee15; subst ee14; replace ee15:=ee15.symm; subst ee15
    refine wpAny_Expr (wpAny_mono (d A B P env s vs val foot cel _ _ h1 R I) (fun v s₁ e=>?_) fun _ _ f=>f) ?_ (hs env)
    · obtain ⟨sh,B1,F,x1,I1,R1,Fr,lo⟩:=e
      apply RV.none_ R1.1
      exact ⟨sh,B1,val,foot,[],x1,I1,rfl⟩
    · unfold interactive; rw [I.ev.kind]; rfl
  · exact jb h
noncomputable def exIf (t:Te) (b1 b2:Ex):Ex:=fun vs=>(t vs).bind fun p=>if p.1 then b1 p.2 else b2 p.2
theorem jN {e:Expr} {b1 b2:List Stmt} {pos:Pos} {t:Te} {f1 f2:Ex} (d:DenT g r ks e t) (d1:DenB g r ks b1 f1) (d2:DenB g r ks b2 f2):DenS g r ks (.If e b1 b2 pos) (exIf t f1 f2):=by
  intro A B P env s vs val foot cel fl vs' h R I
  revert h
  refine jc fun p h1 h=>?_
  refine wpAny_If (wpAny_mono (d A B P env s vs val foot cel p.1 p.2 h1 R I) (fun b s₁ t=>?_) fun _ _ f=>f)
  obtain ⟨rfl,sh,B',x1,I'⟩:=t
  split
  · rename_i hb
    rw [if_pos hb] at h
    exact wpAny_mono (d1 A B' P env s₁ p.2 val foot cel fl vs' h R I') (fun _ _ e=>e.from sh x1) fun _ _ f=>f
  · rename_i hb
    rw [if_neg hb] at h
    exact wpAny_mono (d2 A B' P env s₁ p.2 val foot cel fl vs' h R I') (fun _ _ e=>e.from sh x1) fun _ _ f=>f
noncomputable def vM (t:Te) (b:Ex):Nat→Ex
  | 0,_=>none
  | n+1,vs=>(t vs).bind fun p=>if p.1 then (b p.2).bind fun q=>match q.1 with
      | .next=>vM t b n q.2
      | .brk=>some (.next,q.2)
      | .ret v=>some (.ret v,q.2)
    else some (.next,p.2)
theorem dens_while {e:Expr} {b:List Stmt} {pos:Pos} {t:Te} {f:Ex} {n:Nat} (d:DenT g r ks e t) (db:DenB g r ks b f):DenS g r ks (.While e b [] pos) (vM t f n):=by
  intro A B P env s vs val foot cel fl vs' h R I
  refine wpAny_While (codeAny_mono (R:=fun res s'=>∃ f,res=.ok f∧SPost g P env ks cel B s fl vs' f s') (codeAny_whileLoop
    (fun n s'=>∃ ws val foot B',vM t f n ws=some (fl,vs')∧Sh s s'∧Ext B B' s.heap∧Iv g B' P env ks ws s'.heap val foot cel) ?_ n ⟨vs,val,foot,B,h,.refl s,.refl _ _,I⟩) ?_)
  · rintro n s1 ⟨ws,val1,foot1,B1,h,sh,xe,I1⟩
    cases n with
    | zero=>exact jb h
    | succ n =>
      revert h
      refine jc fun p h1 h=>?_
      refine wpAny_mono (d A B1 P env s1 ws val1 foot1 cel p.1 p.2 h1 R I1) (fun b s₂ t=>?_) fun _ _ f=>f.elim
      obtain ⟨rfl,sh2,B2,x2,I2⟩:=t
      split
      · rename_i hb
        rw [if_pos hb] at h
        obtain ⟨⟨fl1,q⟩,h3,h⟩:=jd h
        refine wpAny_mono (db A B2 P env s₂ p.2 val1 foot1 cel fl1 q h3 R I2) (fun fw s₃ t=>?_) fun _ _ f=>f.elim
        obtain ⟨sh3,B3,val3,foot3,F3,x3,I3,R3⟩:=t
        have shh:=(sh.trans sh2).trans sh3
        have xx:=(xe.trans x2 sh.size).trans x3 (sh.trans sh2).size
        cases fl1 with
        | next =>
          cases R3
          exact ⟨n,Nat.lt_succ_self _,q,val3,foot3,B3,h,shh,xx,I3⟩
        | brk =>
          cases R3
          injection h with h; injection h with ee16 ee17; subst ee16; subst ee17
          exact ⟨_,rfl,shh,B3,val3,foot3,F3,xx,I3,rfl⟩
        | ret v =>
          obtain ⟨x,rfl,R3,Fr,lo⟩:=R3
          injection h with h; injection h with ee18 ee19; subst ee18; subst ee19
          refine ⟨_,rfl,shh,B3,val3,foot3,F3,xx,I3,x,rfl,R3,Fr,fun a ha=>?_⟩
          cases e:s.heap.get? a with
          | none=>rfl
          | some o=>obtain ⟨o',e'⟩:=(sh.trans sh2).size a o e; rw [lo a ha] at e'; exact jb e'
      · rename_i hb
        rw [if_neg hb] at h
        injection h with h; injection h with ee20 ee21; subst ee20; subst ee21
        exact wpAny_execs_nil ⟨_,rfl,sh.trans sh2,B2,val1,foot1,[],xe.trans x2 sh.size,I2,rfl⟩
  · rintro res s' ⟨f,rfl,p⟩
    exact p
end
noncomputable def jP (a b c:Int):List PV:=(List.range (Builtin.Range.rangeSize a b c).toNat).map fun i=>.int (a+(i:Nat)*c)
noncomputable def slotBL:Slot→Option (List PV)
  | .br (.list l)=>some l
  | _=>none
noncomputable def slotBH:Slot→Option (List PV)
  | .br (.hdr l)=>some l
  | _=>none
noncomputable def vq (vs:VS):AVal→Option (List PV)
  | .pv (.lst l)=>some l
  | .pv (.tup l)=>some l
  | .pv (.str c)=>some (c.map fun d=>.str [d])
  | .pv (.rng a b c)=>if Builtin.Range.small a b c=true∧0≤Builtin.Range.rangeSize a b c then some (jP a b c) else none
  | .own k=>(vs[k]?).bind slotBL
  | .sub k=>(vs[k]?).bind slotBH
  | _=>none
noncomputable def ownTup:List String:=["enumerate","zip","dict_itemiterator","dict_reverseitemiterator","odict_iterator","itertools.zip_longest","itertools.pairwise"]
inductive Src (g:G) (B:PM) (PL:PM) (it:Addr) (items:List PV) (F:List Addr) (h:Heap):Prop
  | mk (fp wr:List Addr) (PP:Nat→Value→Prop) (St:Nat→Heap→Prop):(∀ A:Around,A.handled=none→Walks g.prog g.w A it fp wr items.length PP St)→St 0 h→(∀ b∈wr,b∈F) →
    (∀ b∈fp,b∈F ∨ ∃ o,B b=some o ∨ PL b=some o)→(∀ j v,PP j v→∀ p,items[j]?=some p→RV B p v)→(∀ b∈F,b=it)→(∀ i h,St i h→∃ o T,h.get? it=some o∧o.cls=.type T∧ownTup.contains T=false)→Src g B PL it items F h
section
variable {g:G} {B B':PM} {P:PX} {env:Env} {ks:List (Str×VK)} {vs vs':VS} {h h':Heap} {val val':Nat→Value} {foot foot':Nat→List Addr} {cel:Nat→Addr} {s s':Shared} {A:Around} {r:Nat}
theorem Src.list {PL:PM} {I a:Addr} {ws:List Value} {n:Nat} {l:List PV} (hg:h.get? a=some (lobj ws n)) (ha:∃ o,B a=some o ∨ PL a=some o) (hr:RVs B l ws) (hI:h.get? I=some (liobj a 0)) (hne:a ≠ I) :
    Src g B PL I l [I] h:=by
  refine ⟨[I,a],[I],(fun i v=>ws.toArray[i]?=some v),(fun i h=>h.IsListIter I a i∧h.IsList a ws.toArray),fun A hh=>?_,?_,?_,?_,?_,by simp,fun i h st=>?_⟩
  · rw [← hr.length,← List.size_toArray]; exact Walks.list hh I a hne ws.toArray
  · exact ⟨⟨_,hI,rfl,rfl⟩,⟨_,hg,rfl,n,rfl⟩⟩
  · intro b hb; exact hb
  · intro b hb
    simp at hb
    rcases hb with rfl | rfl
    · exact .inl (by simp)
    · exact .inr ha
  · intro j v hv p hp
    obtain ⟨x,hx,rv⟩:=hr.get hp
    have:ws[j]?=some v:=by simpa using hv
    rw [this] at hx; injection hx with hx; subst hx; exact rv
  · obtain ⟨⟨o,ho,hc,_⟩,_⟩:=st; exact ⟨o,_,ho,hc,by decide⟩
theorem pyIter_strC {x:Str} {t:Tok} {M:Around} {E:Value→Shared→Prop} {Q:Value→Shared→Prop}
    (hQ:∀ (o:Obj) (St:Nat→Heap→Prop),(∀ A':Around,A'.handled=none→Walks g.prog g.w A' s.heap.objs.size [s.heap.objs.size] [s.heap.objs.size] x.cps.size (SignAt x) St)→St 0 (s.heap.push o) →
      (∀ i h,St i h→∃ o T,h.get? s.heap.objs.size=some o∧o.cls=.type T∧ownTup.contains T=false) →
      Q (.ref s.heap.objs.size) { s with heap:=s.heap.push o }):wpAny (model g.prog g.w) M (pyIter (.str x t)) Q E s:=by
  cases ha:x.cps.all (·<128)
  · exact wpAny_pyIter_wide ha (hQ _ _ (fun A' hA=>Walks.strWide hA _ x t) ⟨_,Heap.get?_push_size _ rfl,rfl,rfl⟩ fun i h st=>let ⟨o,ho,hc,_⟩:=st; ⟨o,_,ho,hc,by decide⟩)
  · exact wpAny_pyIter_ascii ha (hQ _ _ (fun A' hA=>Walks.strAscii hA _ x t) ⟨_,Heap.get?_push_size _ rfl,rfl,rfl⟩ fun i h st=>let ⟨o,ho,hc,_⟩:=st; ⟨o,_,ho,hc,by decide⟩)
theorem iter_src (I:Iv g B P env ks vs s.heap val foot cel) {v:AVal} {x:Value} {items:List PV} (e:vq vs v=some items) (R:RepA g B s.heap val v x []) {M:Around} {E:Value→Shared→Prop} {Q:Value→Shared→Prop}
    (q:∀ o,Src g B P.rd s.heap.objs.size items [s.heap.objs.size] (s.heap.push o)→Q (.ref s.heap.objs.size) { s with heap:=s.heap.push o }):wpAny (model g.prog g.w) M (pyIter x) Q E s:=by
  have lst:∀ a ws n,x=.ref a→s.heap.get? a=some (lobj ws n)→(∃ o,B a=some o ∨ P.rd a=some o)→RVs B items ws→wpAny (model g.prog g.w) M (pyIter x) Q E s:=by
    rintro a ws n rfl hg ha hr
    refine wpAny_pyIter_list (items:=ws.toArray) ⟨_,hg,rfl,n,rfl⟩ (q _ (Src.list (n:=n) (Heap.get?_push_of_some _ hg) ha hr (Heap.get?_push_size _ rfl) ?_))
    exact Nat.ne_of_lt (Heap.lt_size hg)
  cases v with
  | pv p =>
    cases p with
    | lst l =>
      injection e with e; replace e:=e.symm; subst e
      cases R.1 with
      | lst h1 h2=>exact lst _ _ _ rfl (I.hB _ _ h1) ⟨_,.inl h1⟩ h2
    | tup l =>
      injection e with e; replace e:=e.symm; subst e
      apply RV.tup_ R.1; intro _ _ h1 h2
      rename_i ws a
      have hg:=I.hB _ _ h1
      refine wpAny_pyIter_tuple (items:=ws.toArray) ⟨_,hg,rfl,0,rfl⟩ (q _ ?_)
      have hne:a ≠ s.heap.objs.size:=Nat.ne_of_lt (Heap.lt_size hg)
      refine ⟨[s.heap.objs.size,a],[s.heap.objs.size],(fun i v=>ws.toArray[i]?=some v),(fun i h=>h.IsTupleIter s.heap.objs.size a i∧h.IsTuple a ws.toArray),fun A hh=>?_,?_,?_,?_,?_,by simp,fun i h st=>?_⟩
      · rw [← h2.length,← List.size_toArray]; exact Walks.tuple hh _ a hne ws.toArray
      · exact ⟨⟨_,Heap.get?_push_size _ rfl,rfl,rfl⟩,⟨_,Heap.get?_push_of_some _ hg,rfl,0,rfl⟩⟩
      · intro b hb; exact hb
      · intro b hb
        simp at hb
        rcases hb with rfl | rfl
        · exact .inl (by simp)
        · exact .inr ⟨_,.inl h1⟩
      · intro j v hv p hp
        obtain ⟨x,hx,rv⟩:=h2.get hp
        have:ws[j]?=some v:=by simpa using hv
        rw [this] at hx; injection hx with hx; subst hx; exact rv
      · obtain ⟨⟨o,ho,hc,_⟩,_⟩:=st; exact ⟨o,_,ho,hc,by decide⟩
    | str c =>
      injection e with e; subst e
      (apply RV.str_ R.1; intro _)
      refine pyIter_strC fun o St W st al=>q o ?_
      refine ⟨[s.heap.objs.size],[s.heap.objs.size],SignAt ⟨c.toArray⟩,St,fun A hh=>?_,st,?_,?_,?_,by simp,al⟩
      · have:=W A hh
        rw [List.size_toArray] at this
        rw [List.length_map]; exact this
      · intro b hb; exact hb
      · intro b hb; exact .inl hb
      · rintro j v ⟨d,u,hd,rfl⟩ p hp
        rw [List.getElem?_map] at hp
        have hd':c[j]?=some d:=by simpa using hd
        rw [hd'] at hp; injection hp with hp; subst hp
        exact .str [d] u
    | rng a b c =>
      simp only [vq] at e
      split at e
      · rename_i hsm
        injection e with e; subst e
        apply RV.rng_ R.1; intro _ _ _ _ h1
        refine wpAny_pyIter_range (I.hB _ _ h1) hsm.1 (q _ ?_)
        refine ⟨[s.heap.objs.size],[s.heap.objs.size],(fun i v=>∃ t,v=.int (a+i*c) t),(fun i h=>IsRangeIter h s.heap.objs.size (a+(i:Nat)*c) (((jP a b c).length:Int) - (i:Nat)) c),fun A hh=>Walks.range hh _ a c _,?_,?_,?_,?_,by simp,fun i h st=>⟨_,_,st,rfl,by decide⟩⟩
        · have:((jP a b c).length:Int)=Builtin.Range.rangeSize a b c:=by
            unfold jP; rw [List.length_map,List.length_range]; exact Int.toNat_of_nonneg hsm.2
          show IsRangeIter _ _ (a+((0:Nat):Int)*c) (((jP a b c).length:Int) - ((0:Nat):Int)) c
          rw [this]
          have e1:a+((0:Nat):Int)*c=a:=by simp
          have e2:Builtin.Range.rangeSize a b c - ((0:Nat):Int)=Builtin.Range.rangeSize a b c:=by simp
          rw [e1,e2]
          exact Heap.get?_push_size _ rfl
        · intro b hb; exact hb
        · intro b hb; exact .inl hb
        · rintro j v ⟨t,rfl⟩ p hp
          unfold jP at hp
          rw [List.getElem?_map] at hp
          obtain ⟨i,hi,rfl⟩:=Option.map_eq_some_iff.mp hp
          have hij:i=j:=by
            have:=List.getElem?_range (n:=(Builtin.Range.rangeSize a b c).toNat) (i:=j) (by have:=(List.getElem?_eq_some_iff.mp hi).1; simpa using this)
            rw [this] at hi; injection hi with hi; subst hi; rfl
          subst hij
          exact .int _ t
      · exact jb e
    | _=>simp [vq] at e
  | own k =>
    revert e
    refine jc fun sl hs e=>?_
    have S:=I.slots k sl hs
    obtain ⟨rfl,_⟩:=R
    cases sl with
    | br o=>cases o with
      | list l'=>simp [slotBL] at e; subst e; obtain ⟨_,F',a,ws,n,h1,h2,h3,h4⟩:=S; exact lst a ws n h1 (I.hP _ _ (I.hR _ _ h3)) ⟨_,.inr h3⟩ h4
      | _=>simp [slotBL] at e
    | _=>simp [slotBL] at e
  | sub k =>
    revert e
    refine jc fun sl hs e=>?_
    have S:=I.slots k sl hs
    obtain ⟨⟨a,b,ha,hh,rfl⟩,_⟩:=R
    cases sl with
    | br o=>cases o with
      | hdr l' =>
        simp [slotBH] at e; subst e
        obtain ⟨_,F',a',b',ws,n,h1,h2,h3,h4,h5⟩:=S
        rw [ha] at h1; injection h1 with h1; subst h1
        have:=hh.same h3; subst this
        exact lst b ws n rfl (I.hP _ _ (I.hR _ _ h4)) ⟨_,.inr h4⟩ h5
      | _=>simp [slotBH] at e
    | _=>simp [slotBH] at e
  | obj o=>simp [vq] at e
noncomputable abbrev Asg:=PV→VS→Option VS
noncomputable def DenG (g:G) (ks:List (Str×VK)) (e:Expr) (f:Asg):Prop :=
  ∀ (A:Around) (B:PM) (P:PX) (env:Env) (s:Shared) (vs:VS) (val:Nat→Value) (foot:Nat→List Addr) (cel:Nat→Addr) (p:PV) (x:Value) (vs':VS),f p vs=some vs'→A.handled=none→Iv g B P env ks vs s.heap val foot cel→RV B p x →
    wpAny (model g.prog g.w) A (PySem.assign e env x) (fun _ s'=>Sh s s'∧∃ val' foot',Iv g B P env ks vs' s'.heap val' foot' cel) No s
noncomputable def jh (k:Nat):Asg:=fun p vs=>if k<vs.length then some (vs.set k (.pv p)) else none
theorem jl {k:Nat} {x:Str} {vk:VK} {pos:Pos} (hk:ks[k]?=some (x,vk)) (hv:vk=.loc ∨ vk=.cel:=by first | exact .inl rfl | exact .inr rfl):DenG g ks (.Name x pos) (jh k):=by
  intro A B P env s vs val foot cel p v vs' h hh I R
  unfold jh at h
  split at h
  · rename_i hlt
    injection h with h; subst h
    exact wpAny_assign_Name (vw I hk hv hlt R fun h' t' I' al=>⟨⟨h',t',rfl,al⟩,_,_,I'⟩)
  · exact jb h
noncomputable def yJ (asg:Asg) (b els:Ex):List PV→Ex
  | [],vs=>els vs
  | p::ps,vs=>(asg p vs).bind fun v1=>(b v1).bind fun q=>match q.1 with
      | .next=>yJ asg b els ps q.2
      | .brk=>some (.next,q.2)
      | .ret v=>some (.ret v,q.2)
noncomputable def yE (fi:Ev) (asg:Asg) (b els:Ex):Ex:=fun vs=>(fi vs).bind fun p=>(frz p.1).bind fun v=>(vq p.2 v).bind fun items=>yJ asg b els items p.2
end
section
variable {g:G} {B B':PM} {P:PX} {env:Env} {ks:List (Str×VK)} {vs vs':VS} {h h':Heap} {val val':Nat→Value} {foot foot':Nat→List Addr} {cel:Nat→Addr} {s s':Shared} {A:Around} {r:Nat}
theorem Iv.growBut (I:Iv g B P env ks vs h val foot cel) {F:List Addr} (Fr:Fresh B P env.locals ks foot cel F) (k:∀ b o,b ∉ F→h.get? b=some o→h'.get? b=some o):Iv g B P env ks vs h' val foot cel where
  ev:=I.ev
  base:=I.base
  hB:=fun b o e=>k b o (fun hb=>by rw [(Fr b hb).1] at e; exact jb e) (I.hB b o e)
  hR:=I.hR
  hP:=fun b o e=>k b o (fun hb=>by rw [(Fr b hb).2.1] at e; exact jb e) (I.hP b o e)
  above:=I.above
  len:=I.len
  ns:=let ⟨m,hm,q⟩:=I.ns; ⟨m,hm.at' fun o e=>k _ o (fun hb=>(Fr _ hb).2.2 none rfl) e,q⟩
  pin:=I.pin
  cl:=fun i y e=>let ⟨ov,⟨o,ho,hd⟩,q⟩:=I.cl i y e; ⟨ov,⟨o,k _ o (fun hb=>(Fr _ hb).2.2 (some (i,true)) ⟨⟨y,e⟩,rfl⟩) ho,hd⟩,q⟩
  fr:=I.fr
  slots:=fun i sl e=>(I.slots i sl e).step (fun _ _ e=>e) fun a ha o q=>k a o (fun hb=>(Fr _ hb).2.2 (some (i,false)) ha) q
  out:=I.out
  own:=I.own
  apart:=I.apart
noncomputable def asAll:List Asg→List PV→VS→Option VS
  | [],[],vs=>some vs
  | f::fs,p::ps,vs=>(f p vs).bind fun v=>asAll fs ps v
  | _,_,_=>none
noncomputable def jR (fs:List Asg):Asg:=fun p vs=>match p with
  | .tup l=>asAll fs l vs
  | _=>none
inductive DenGs (g:G) (ks:List (Str×VK)):List Expr→List Asg→Prop
  | nil:DenGs g ks [] []
  | cons {e f es fs}:DenG g ks e f→(∀ env,assignEach (e::es) env=(false,PySem.assign e env)::assignEach es env)→DenGs g ks es fs→DenGs g ks (e::es) (f::fs)
theorem asAll_len:∀ {fs:List Asg} {ps:List PV} {vs vs':VS},asAll fs ps vs=some vs'→fs.length=ps.length
  | [],[],_,_,_=>rfl
  | [],_::_,_,_,h=>by exact jb h
  | _::_,[],_,_,h=>by exact jb h
  | f::fs,p::ps,vs,vs',h=>by
    revert h
    refine jc fun v _ h=>?_
    simpa using asAll_len h
theorem dengs_each {es:List Expr} {fs:List Asg} (ds0:DenGs g ks es fs):∀ env,(assignEach es env).length=fs.length∧(assignEach es env).findIdx? (·.1)=none:=by
  induction ds0 with
  | nil =>
    intro env
    exact ⟨rfl,rfl⟩
  | cons _ he ds ih =>
    intro env
    obtain ⟨h1,h2⟩:=ih env
    rw [he]
    exact ⟨by simp [h1],by simp [List.findIdx?_cons,h2]⟩
theorem dengs_order {es:List Expr} {fs:List Asg} (ds0:DenGs g ks es fs):∀ {A:Around} {B:PM} {P:PX} {env:Env} {s:Shared} {vs:VS} {val:Nat→Value} {foot:Nat→List Addr} {cel:Nat→Addr} {ps:List PV} {xs:List Value} {vs':VS},
    asAll fs ps vs=some vs'→A.handled=none→Iv g B P env ks vs s.heap val foot cel→RVs B ps xs →
    wpAny (model g.prog g.w) A (assignInOrder ((assignEach es env).map (·.2)) xs) (fun _ s'=>Sh s s'∧∃ val' foot',Iv g B P env ks vs' s'.heap val' foot' cel) No s:=by
  induction ds0 with
  | nil =>
    intro A B P env s vs val foot cel ps xs vs' h hh I R
    cases R with
    | nil=>injection h with h; subst h; exact wpAny_assignInOrder_none ⟨.refl _,val,foot,I⟩
    | cons=>exact jb h
  | cons d he ds ih =>
    intro A B P env s vs val foot cel ps xs vs' h hh I R
    cases R with
    | nil=>exact jb h
    | cons r rs =>
      revert h
      refine jc fun v h1 h=>?_
      rw [he,List.map_cons]
      refine wpAny_assignInOrder_more (wpAny_mono (d A B P env s vs val foot cel _ _ v h1 hh I r) (fun _ s₁ q=>?_) fun _ _ f=>f)
      obtain ⟨sh1,val1,foot1,I1⟩:=q
      refine wpAny_mono (ih h hh I1 rs) (fun _ s₂ q=>?_) fun _ _ f=>f
      obtain ⟨sh2,val2,foot2,I2⟩:=q
      exact ⟨sh1.trans sh2,val2,foot2,I2⟩
theorem deng_tup {es:List Expr} {fs:List Asg} {k:Nat} {pos:Pos} (ds:DenGs g ks es fs):DenG g ks (.Tuple es k pos) (jR fs):=by
  intro A B P env s vs val foot cel p x vs' h hh I R
  cases p with
  | tup l =>
    apply RV.tup_ R; intro _ _ h1 h2
    have h:asAll fs l vs=some vs':=h
    obtain ⟨e1,e2⟩:=dengs_each ds env
    refine wpAny_assign_Tuple hh (items:=_) ⟨_,I.hB _ _ h1,rfl,0,rfl⟩ (by rw [e1,asAll_len h,List.size_toArray,h2.length]) e2 fun h' hx=>?_
    have k:∀ b o,s.heap.get? b=some o→h'.get? b=some o:=fun b o e=>hx b o (Nat.ne_of_lt (Heap.lt_size e)) e
    have I':Iv g B P env ks vs h' val foot cel:=I.grow k (.refl _ _) fun b o e=>k _ _ (I.hB b o e)
    refine wpAny_mono (dengs_order ds (s:={ s with heap:=h' }) h hh I' (by simpa using h2)) (fun _ s₁ q=>?_) fun _ _ f=>f
    obtain ⟨sh1,q⟩:=q
    exact ⟨Sh.trans ⟨h',s.toks,rfl,.of_keep k⟩ sh1,q⟩
  | _=>exact jb h
theorem letGo_no {it:Addr} {o:Obj} {T:String} {target:Expr} {v:Value} {M:Model} {E:Value→Shared→Prop} {Q:Unit→Shared→Prop} (ho:s.heap.get? it=some o) (hc:o.cls=.type T)
    (hT:ownTup.contains T=false) (q:Q () s):wpAny M A (letOwnedTupleGo target (.ref it) v) Q E s:=by
  have key:wpAny M A (do
      let (.ref r,.ref a):=(Value.ref it,v) | return
      let o ← load r
      match o.cls,o.data with
      | .type n,.fields vs =>
        if ["enumerate","zip","dict_itemiterator","dict_reverseitemiterator","odict_iterator","itertools.zip_longest","itertools.pairwise"].contains n&&vs[0]? == some (rawInt a) then
          rule "for.unpacks-the-owned-tuple"
          updateField r 0 .none
      | _,_=>pure ():Sem Unit) Q E s:=by
    cases v with
    | ref a =>
      refine wpAny_bind (wpAny_load ho ?_)
      rw [hc]
      cases hd:o.data with
      | fields ws =>
        dsimp only
        unfold ownTup at hT
        rw [hT]
        exact wpAny_pure q
      | _=>exact wpAny_pure q
    | _=>exact wpAny_pure q
  cases target with
  | Tuple=>exact key
  | List=>exact key
  | _=>exact wpAny_pure q
theorem exec_For_is (target iter:Expr) (body orelse:List Stmt) (pos:Pos) (env:Env):exec (.For target iter body orelse pos) env=(do
    standAt pos
    let x ← foldedSetIterable iter env (← eval iter env)
    standAt iter.pos
    runOwn (.forLoop target (← holding [x] (pyIter x)) body orelse env) env):=rfl
end
section
variable {g:G} {B B':PM} {P:PX} {env:Env} {ks:List (Str×VK)} {vs vs':VS} {h h':Heap} {val val':Nat→Value} {foot foot':Nat→List Addr} {cel:Nat→Addr} {s s':Shared} {A:Around} {r:Nat}
inductive RepAs (g:G) (B:PM) (h:Heap) (val:Nat→Value):List AVal→List Value→Prop
  | nil:RepAs g B h val [] []
  | cons {a x as xs}:RepA g B h val a x []→(∀ o,a ≠ .obj o)→RepAs g B h val as xs→RepAs g B h val (a::as) (x::xs)
theorem RepAs.nil_ {C:List Value→Prop} {xs:List Value} (R:RepAs g B h val [] xs) (k:C []):C xs:=by cases R; exact k
theorem RepAs.cons_ {C:List Value→Prop} {a:AVal} {as:List AVal} {xs:List Value} (R:RepAs g B h val (a::as) xs) (k:∀ x xs,RepA g B h val a x []→(∀ o,a ≠ .obj o)→RepAs g B h val as xs→C (x::xs)):C xs:=by
  cases R with
  | cons r n rs=>exact k _ _ r n rs
theorem RepAs.one {C:List Value→Prop} {a:AVal} {xs:List Value} (R:RepAs g B h val [a] xs) (k:∀ x,RepA g B h val a x []→C [x]):C xs :=
  R.cons_ fun x _ r _ rs=>rs.nil_ (C:=fun xs=>C (x::xs)) (k x r)
theorem RepAs.two {C:List Value→Prop} {a b:AVal} {xs:List Value} (R:RepAs g B h val [a,b] xs) (k:∀ x y,RepA g B h val a x []→RepA g B h val b y []→C [x,y]):C xs :=
  R.cons_ fun x _ r _ rs=>rs.one (C:=fun xs=>C (x::xs)) fun y r2=>k x y r r2
theorem RepAs.keep (le:∀ a o,B a=some o→B' a=some o):∀ {as xs},RepAs g B h val as xs→RepAs g B' h' val as xs
  | _,_,.nil=>.nil
  | _,_,.cons r n rs=>.cons (r.keep n le) n (rs.keep le)
noncomputable def jI:List Ev→VS→Option (List AVal×VS)
  | [],vs=>some ([],vs)
  | f::fs,vs=>(f vs).bind fun p=>(frz p.1).bind fun a=>(jI fs p.2).map fun r=>(a::r.1,r.2)
inductive APost (g:G) (P:PX) (env:Env) (ks:List (Str×VK)) (cel:Nat→Addr) (B:PM) (s:Shared) (val:Nat→Value) (foot:Nat→List Addr) (as:List AVal) (vs':VS) (xs:List Value) (s':Shared):Prop
  | mk (sh:Sh s s') (B':PM) (e:Ext B B' s.heap) (I:Iv g B' P env ks vs' s'.heap val foot cel) (R:RepAs g B' s'.heap val as xs)
theorem dens_args {pos:Pos} {es:List Expr} {fs:List Ev} (ds0:Dens g r ks es fs):∀ {A:Around} {B:PM} {P:PX} {env:Env} {s:Shared} {vs:VS} {val:Nat→Value} {foot:Nat→List Addr} {cel:Nat→Addr} {l:List AVal} {vs':VS},
    jI fs vs=some (l,vs')→Room A r→Iv g B P env ks vs s.heap val foot cel →
    wpAny (model g.prog g.w) A (spliced (backTo pos (starEach es env))) (APost g P env ks cel B s val foot l vs') No s:=by
  induction ds0 with
  | nil =>
    intro A B P env s vs val foot cel l vs'
    intro h R I
    injection h with h; injection h with ee0 ee1; subst ee0; subst ee1
    exact wpAny_items_nil ⟨.refl _,B,.refl _ _,I,.nil⟩
  | cons d he ds ih =>
    intro A B P env s vs val foot cel l vs'
    intro h R I
    revert h
    refine jc fun p h1 h=>?_
    revert h
    refine jc fun q h2 h=>?_
    obtain ⟨w,h3,h4⟩:=Option.map_eq_some_iff.mp h
    injection h4 with ee2 ee3; subst ee2; subst ee3
    refine wpAny_items_cons (wpAny_mono (d A B P env s vs val foot cel p.1 p.2 h1 R I) (fun x s₁ e=>?_) fun _ _ f=>f) (he env)
    refine EPost.frozeE e h2 fun sh1 B1 x1 I1 R1=>?_
    refine wpAny_mono (ih (l:=w.1) (vs':=w.2) h3 R I1) (fun xs s₂ t=>?_) fun _ _ f=>f
    obtain ⟨sh2,B2,x2,I2,R2⟩:=t
    exact ⟨sh1.trans sh2,B2,x1.trans x2 sh1.size,I2,.cons (R1.keep (yD h2) x2.le) (yD h2) R2⟩
theorem dens_noStar {pos:Pos} {es:List Expr} {fs:List Ev} (ds:Dens g r ks es fs) (env:Env):(backTo pos (starEach es env)).any (·.1)=false:=by
  induction ds with
  | nil=>rfl
  | cons d he ds ih=>rw [he]; show (false||_)=false; rw [Bool.false_or]; exact ih
noncomputable abbrev FSem:=List AVal→VS→Option PV
noncomputable def FnP (f:Value) (sem:FSem):Prop :=
  ∀ (g:G) (A:Around) (B:PM) (P:PX) (env:Env) (ks:List (Str×VK)) (s:Shared) (vs:VS) (val:Nat→Value) (foot:Nat→List Addr) (cel:Nat→Addr) (as:List AVal) (p:PV) (xs:List Value),
    sem as vs=some p→A.handled=none→A.units+100<cLine→Iv g B P env ks vs s.heap val foot cel→RepAs g B s.heap val as xs→wpAny (model g.prog g.w) A (call f xs) (PR B s p) No s
noncomputable def evFn (sem:FSem) (fs:List Ev):Ev:=fun vs=>(jI fs vs).bind fun p=>(sem p.1 p.2).map fun q=>(.pv q,p.2)
theorem callB {pos:Pos} {f:Value} (hf:(∃ id,f=.builtin id) ∨ ∃ T,f=.type T) {e:Expr} {es:List Expr} {fs:List Ev} (ds:Dens g r ks (e::es) fs) {M:Model} {E:Value→Shared→Prop} {Q:Value→Shared→Prop}
    (h:wpAny M A (spliced (backTo pos (starEach (e::es) env))) (fun xs s₁=>wpAny M A (call f xs) Q E s₁) E s):wpAny M A (callWith pos f [] (backTo pos (starEach (e::es) env)) []) Q E s:=by
  have hp:=dens_noStar (pos:=pos) ds env
  cases ds with
  | cons d he ds =>
    rw [he] at h ⊢
    rcases hf with ⟨id,rfl⟩ | ⟨T,rfl⟩
    · exact Calls.callWith_builtin (by rw [← he]; exact hp) (evalArgs_plain h)
    · exact PyProof.Rows.callWith_type (by rw [← he]; exact hp) (evalArgs_plain h)
theorem glob_con {k:Nat} {x:Str} {pos:Pos} {c:Value} {v:AVal} (d:Den g r ks (.Name x pos) (jo (.con c))) (R:Room A r) (I:Iv g B P env ks vs s.heap val foot cel) {Q:Value→Shared→Prop}
    (q:∀ s' B',Sh s s'→Ext B B' s.heap→Iv g B' P env ks vs s'.heap val foot cel→Q c s'):wpAny (model g.prog g.w) A (eval (.Name x pos) env) Q No s:=by
  refine wpAny_mono (d A B P env s vs val foot cel (.pv (.con c)) vs rfl R I) (fun y s₁ e=>?_) fun _ _ f=>f
  revert e
  refine EPost.rev fun sh B1 F x1 I1 R1 _ _=>?_
  apply RV.con_ R1.1
  exact q s₁ B1 sh x1 I1
theorem jz {x:Str} {p pos:Pos} {f:Value} {e:Expr} {es:List Expr} {fs:List Ev} {sem:FSem} (d:Den g r ks (.Name x p) (jo (.con f))) (ds:Dens g r ks (e::es) fs) (sp:FnP f sem)
    (hf:(∃ id,f=.builtin id) ∨ ∃ T,f=.type T:=by first | exact .inl ⟨_,rfl⟩ | exact .inr ⟨_,rfl⟩):Den g r ks (.Call (.Name x p) (e::es) [] pos) (evFn sem fs):=by
  intro A B P env s vs val foot cel v vs' h R I
  revert h
  refine jc fun q h1 h=>?_
  obtain ⟨w,h2,h3⟩:=Option.map_eq_some_iff.mp h
  injection h3 with ee4 ee5; subst ee4; subst ee5
  refine Call_Name rfl (glob_con (k:=0) (v:=.own 0) d R I fun s1 B1 sh1 x1 I1=>callB hf ds (wpAny_mono (dens_args ds (l:=q.1) (vs':=q.2) h1 R I1) (fun xs s2 t=>?_) fun _ _ f=>f))
  obtain ⟨sh2,B2,x2,I2,R2⟩:=t
  exact wpAny_mono (sp g A B2 P env ks s2 q.2 val foot cel q.1 w xs h2 R.1 R.units I2 R2) (fun _ _ h=>((EPost.of_PR I2 h).from sh2 x2).from sh1 x1) fun _ _ f=>f
theorem PR.kept {p:PV} {x:Value} {h':Heap} {t:Tok} (hB:∀ b o,B b=some o→s.heap.get? b=some o) (k:∀ b o,s.heap.get? b=some o→h'.get? b=some o) (r:RV B p x):PR B s p x { s with heap:=h',toks:=t } :=
  ⟨h',t,B,rfl,k,.refl _ _,fun b o e=>k _ _ (hB b o e),r⟩
theorem PR.made {p:PV} {a:Addr} {o:Obj} {h':Heap} {t:Tok} (hB:∀ b o,B b=some o→s.heap.get? b=some o) (k:∀ b o,s.heap.get? b=some o→h'.get? b=some o) (ha:s.heap.get? a=none) (hg:h'.get? a=some o)
    (r:RV (B.put a o) p (.ref a)):PR B s p (.ref a) { s with heap:=h',toks:=t }:=by
  have hb:B a=none:=by
    cases e:B a with
    | none=>rfl
    | some q=>rw [hB _ _ e] at ha; exact someNo ha
  exact ⟨h',t,B.put a o,rfl,k,.put hb ha,put_hB (fun b o e=>k _ _ (hB b o e)) hg,r⟩
theorem size_none:s.heap.get? s.heap.objs.size=none:=none_of fun _ _ e=>e
end
noncomputable def as1:List AVal→Option AVal
  | [a]=>some a
  | _=>none
noncomputable def as2 (l:List AVal):Option (AVal×AVal):=l.head?.bind fun a=>(as1 l.tail).map fun b=>(a,b)
theorem as1_inv {l:List AVal} {a:AVal} (h:as1 l=some a):l=[a]:=by
  cases l with
  | nil=>exact jb h
  | cons x l =>
    cases l with
    | nil=>injection h with h; rw [h]
    | cons _ _=>exact jb h
theorem as2_inv {l:List AVal} {q:AVal×AVal} (h:as2 l=some q):l=[q.1,q.2]:=by
  cases l with
  | nil=>exact jb h
  | cons x l =>
    obtain ⟨b,h1,h2⟩:=Option.map_eq_some_iff.mp (show (as1 l).map (fun b=>(x,b))=some q from h)
    rw [as1_inv h1,← h2]
theorem fn1 {f:Value} {F:AVal→VS→Option PV} (k:∀ (g:G) (A:Around) (B:PM) (P:PX) (env:Env) (ks:List (Str×VK)) (s:Shared) (vs:VS) (val:Nat→Value) (foot:Nat→List Addr) (cel:Nat→Addr) (a:AVal) (p:PV) (x:Value),
    F a vs=some p→A.handled=none→A.units+100<cLine→Iv g B P env ks vs s.heap val foot cel→RepA g B s.heap val a x []→wpAny (model g.prog g.w) A (call f [x]) (PR B s p) No s):FnP f fun as vs=>(as1 as).bind fun a=>F a vs:=by
  intro g A B P env ks s vs val foot cel as p xs e hh hu I R
  obtain ⟨a,h1,h2⟩:=jd e
  rw [as1_inv h1] at R
  apply RepAs.cons_ R; intro _ _ r n rs
  apply RepAs.nil_ rs
  exact k g A B P env ks s vs val foot cel a p _ h2 hh hu I r
theorem fn1I {f:Value} {F:Int→Option PV} (k:∀ (g:G) (A:Around) (B:PM) (s:Shared) (i:Int) (t:Nat) (p:PV),F i=some p→A.handled=none→A.units+100<cLine→(∀ b o,B b=some o→s.heap.get? b=some o)→wpAny (model g.prog g.w) A (call f [.int i t]) (PR B s p) No s) :
    FnP f fun as _=>(as1 as).bind fun a=>a.int?.bind F :=
  fn1 fun g A B P env ks s vs val foot cel a p x e hh hu I r=>by
    obtain ⟨i,h1,h2⟩:=jd e
    rw [int_inv h1] at r
    (apply RV.int_ r.1; intro _)
    exact k g A B s i _ p h2 hh hu I.hB
theorem fn1S {f:Value} {F:List Nat→Option PV} (k:∀ (g:G) (A:Around) (B:PM) (s:Shared) (c:List Nat) (t:Nat) (p:PV),F c=some p→A.handled=none→A.units+100<cLine→(∀ b o,B b=some o→s.heap.get? b=some o)→wpAny (model g.prog g.w) A (call f [.str ⟨c.toArray⟩ t]) (PR B s p) No s) :
    FnP f fun as _=>(as1 as).bind fun a=>a.str?.bind F :=
  fn1 fun g A B P env ks s vs val foot cel a p x e hh hu I r=>by
    obtain ⟨i,h1,h2⟩:=jd e
    rw [v8 h1] at r
    (apply RV.str_ r.1; intro _)
    exact k g A B s i _ p h2 hh hu I.hB
theorem fn2I {f:Value} {F:Int→Int→Option PV} (k:∀ (g:G) (A:Around) (B:PM) (s:Shared) (i j:Int) (x y:Nat) (p:PV),F i j=some p→A.handled=none→(∀ b o,B b=some o→s.heap.get? b=some o)→wpAny (model g.prog g.w) A (call f [.int i x,.int j y]) (PR B s p) No s) :
    FnP f fun as _=>(as2 as).bind fun q=>ii F q.1 q.2:=by
  intro g A B P env ks s vs val foot cel as p xs e hh hu I R
  obtain ⟨q,h1,h2⟩:=jd e
  rw [as2_inv h1] at R
  apply RepAs.cons_ R; intro _ _ r n rs
  apply RepAs.cons_ rs; intro _ _ r2 n2 rs2
  apply RepAs.nil_ rs2
  refine ii_inv h2 fun i j ha hb h=>?_
  rw [ha] at r; rw [hb] at r2
  (apply RV.int_ r.1; intro _); (apply RV.int_ r2.1; intro _)
  exact k g A B s i j _ _ p h hh I.hB
noncomputable def lenL (a:AVal) (vs:VS):Option PV:=(jy vs a).bind fun l=>if l.length<1000000 then some (.int l.length) else none
noncomputable def lenOf (a:AVal) (vs:VS):Option PV :=
  match a with
  | .pv (.str c)=>if c.length<1000000 then some (.int c.length) else none
  | a=>lenL a vs
theorem lenOf_L {a:AVal} {vs:VS} {l:List PV} (h:jy vs a=some l):lenOf a vs=lenL a vs:=vv (C:=fun a=>lenOf a vs=lenL a vs) h (fun _=>rfl) (fun _=>rfl) fun _=>rfl
theorem lenOf_inv {a:AVal} {vs:VS} {p:PV} {C:Prop} (h:lenOf a vs=some p) (k1:∀ c,a=.pv (.str c)→c.length<1000000→p=.int c.length→C) (k2:∀ l,jy vs a=some l→l.length<1000000→p=.int l.length→C):C:=by
  have k3:lenL a vs=some p→C:=fun h=>(jd h).elim fun l ⟨h1,h2⟩=>by
    split at h2
    · rename_i hl; injection h2 with h2; exact k2 l h1 hl h2.symm
    · exact jb h2
  clear k2
  cases a with
  | pv q =>
    cases q with
    | str c =>
      have h:(if c.length<1000000 then some (PV.int c.length) else none)=some p:=h
      split at h
      · rename_i hl; injection h with h; exact k1 c rfl hl h.symm
      · exact jb h
    | _=>exact k3 h
  | _=>exact k3 h
noncomputable def Je:FSem:=fun as vs=>(as1 as).bind fun a=>lenOf a vs
theorem vH:FnP (.builtin "len") Je:=fn1 fun g A B P env ks s vs val foot cel a p x e hh hu I r=>by
  refine lenOf_inv e (fun c ha hl hp=>?_) fun l e1 hl hp=>?_
  · subst hp; rw [ha] at r
    (apply RV.str_ r.1; intro _)
    exact PySem.P.len_str (Int.not_le.mpr (ltI rfl hl (by decide))) (.same I.hB (.int _ _))
  · subst hp
    obtain ⟨b,ws,m,rfl,hg,hr⟩:=j9 I e1 r
    have ll:=hr.length
    refine Calls.call_len_list (items:=ws.toArray) ⟨_,hg,rfl,m,rfl⟩ (ltI ll hl (by decide)) ?_
    rw [List.size_toArray,ll]
    exact .same I.hB (.int _ _)
noncomputable def rng1 (as:List AVal) (_:VS):Option PV:=(as1 as).bind fun a=>a.int?.bind fun n=>some (.rng 0 n 1)
noncomputable def rng3 (as:List AVal):Option PV:=as.head?.bind fun a=>a.int?.bind fun i=>(as2 as.tail).bind fun q=>ii (fun j k=>if k ≠ 0∧k.natAbs<1073741824 then some (.rng i j k) else none) q.1 q.2
theorem rng3_inv {as:List AVal} {p:PV} {C:Prop} (h:rng3 as=some p) (k:∀ i j k,as=[.pv (.int i),.pv (.int j),.pv (.int k)]→(if k ≠ 0∧k.natAbs<1073741824 then some (PV.rng i j k) else none)=some p→C):C:=by
  cases as with
  | nil=>exact jb h
  | cons a l =>
    obtain ⟨i,h1,h⟩:=jd (show (a.int?.bind fun i=>(as2 l).bind fun q=>ii _ q.1 q.2)=some p from h)
    obtain ⟨q,h2,h⟩:=jd h
    exact ii_inv h fun j m ha hb h=>k i j m (by rw [int_inv h1,as2_inv h2,ha,hb]) h
noncomputable def yp:FSem:=fun as vs=>(rng1 as vs).or (rng3 as)
theorem or_inv {α : Type} {x y:Option α} {p:α} (h:x.or y=some p):x=some p ∨ y=some p:=by
  cases x with
  | none=>exact .inr h
  | some _=>exact .inl h
theorem fn_range1:FnP (.type "range") rng1:=fn1I fun g A B s i t p e hh hu hB=>by
  injection e with e; subst e
  exact call_range_1 (.made hB (fun _ _ e=>Heap.get?_push_of_some _ e) size_none (Heap.get?_push_size _ rfl) (.rng (PM.put_self ..)))
theorem yI:FnP (.type "range") yp:=by
  intro g A B P env ks s vs val foot cel as p xs e hh hu I R
  refine (or_inv e).elim (fun e=>fn_range1 g A B P env ks s vs val foot cel as p xs e hh hu I R) fun e=>rng3_inv e fun i j k ha h=>?_
  rw [ha] at R
  split at h
  · rename_i hc
    injection h with h; subst h
    apply RepAs.cons_ R; intro _ _ r n rs
    (apply RV.int_ r.1; intro _)
    apply RepAs.cons_ rs; intro _ _ r2 n2 rs2
    (apply RV.int_ r2.1; intro _)
    apply RepAs.cons_ rs2; intro _ _ r3 n3 rs3
    (apply RV.int_ r3.1; intro _)
    apply RepAs.nil_ rs3
    exact call_range_3 hc.1 (.made I.hB (fun _ _ e=>Heap.get?_push_of_some _ e) size_none (Heap.get?_push_size _ rfl) (.rng (PM.put_self ..))) (.inl (PyProof.noPylong_small hc.2))
  · exact jb h
noncomputable def semMin:FSem:=fun as _=>(as2 as).bind fun q=>ii (fun a b=>some (.int (if b<a then b else a))) q.1 q.2
theorem fn_min:FnP (.builtin "min") semMin:=fn2I fun g A B s i j x y p e hh hB=>by
  injection e with e; subst e
  refine min_two_ints hh fun h' tk k=>?_
  split
  · exact .kept hB k (.int _ _)
  · exact .kept hB k (.int _ _)
noncomputable def ym:FSem:=fun as _=>(as1 as).bind fun a=>a.int?.bind fun a=>if small a then some (.str ((toString a).toList.map Char.toNat)) else none
theorem fn_str:FnP (.type "str") ym:=fn1I fun g A B s a t p e hh hu hB=>by
  split at e
  · rename_i ha
    injection e with e; subst e
    refine PySem.P.str_of_int ?_ ?_
    · have:=of_decide_eq_true ha
      by_cases h0:a.natAbs=0
      · rw [h0]; decide
      · exact Nat.lt_of_lt_of_le ((Nat.log2_lt h0).mpr this) (by decide)
    · rw [Str.ofString_eq_toList]
      exact .same hB (.str _ _)
  · exact jb e
noncomputable def semInt:FSem:=fun as _=>(as1 as).bind fun a=>a.str?.bind fun c=>if c.length≤600 then (PySem.intText? ⟨c.toArray⟩).map .int else none
theorem fn_int:FnP (.type "int") semInt:=fn1S fun g A B s c t p e hh hu hB=>by
  split at e
  · rename_i hl
    obtain ⟨n,e1,e2⟩:=Option.map_eq_some_iff.mp e
    subst e2
    exact PySem.W.KIN.call_text e1 (Nat.le_trans (show c.length≤600 from hl) (by decide)) (.same hB (.int _ _))
  · exact jb e
noncomputable def ArgOk (g:G) (B P:PM) (h:Heap):Slot→Value→List Addr→Prop
  | .pv p,v,F=>RV B p v∧F=[]
  | .ob o,v,F=>Own g B h.get? o v F
  | .br o,v,F=>F=[]∧∃ F',Own g B P o v F'
  | _,_,_=>False
theorem ArgOk.step {g:G} {B B' P:PM} {h h':Heap} (le:∀ a o,B a=some o→B' a=some o) {sl v F} (S:ArgOk g B P h sl v F) (k:∀ a∈F,∀ o,h.get? a=some o→h'.get? a=some o):ArgOk g B' P h' sl v F:=by
  cases sl with
  | pv p=>exact ⟨S.1.mono le,S.2⟩
  | ob o=>exact Own.mono le S k
  | br o=>obtain ⟨e,F',hF⟩:=S; exact ⟨e,F',Own.mono le hF fun _ _ _ x=>x⟩
  | _=>exact S.elim
theorem ArgOk.slot {g:G} {B:PM} {h:Heap} {P:PX} {c:Addr} {sl v F} (S:ArgOk g B P.rd h sl v F):SlotOk g B P h c sl v F:=by
  cases sl with
  | pv p=>exact S
  | ob o=>exact S
  | br o=>exact S
  | _=>exact S.elim
structure CallIn (g:G) (B P:PM) (h:Heap) (sls:VS) (xs:List Value) (Fs:List (List Addr)):Prop where
  above:g.h₀.objs.size≤h.objs.size
  base:∀ b o,g.h₀.get? b=some o→B b=some o
  hB:∀ b o,B b=some o→h.get? b=some o
  hP:∀ b o,P b=some o→h.get? b=some o
  lenX:xs.length=sls.length
  lenF:Fs.length=sls.length
  args:∀ (k:Nat) (sl:Slot),sls[k]?=some sl→ArgOk g B P h sl (xs.getD k .none) (Fs.getD k [])
  off:∀ (k:Nat),∀ a∈Fs.getD k [],(∃ o,h.get? a=some o)∧B a=none∧P a=none
  apart:∀ (i j:Nat) a,a∈Fs.getD i []→a∈Fs.getD j []→i=j
inductive CallPost (g:G) (B P:PM) (s:Shared) (xs:List Value) (Fs:List (List Addr)) (v:Slot) (sls':VS) (x:Value) (s':Shared):Prop
  | mk (sh:Sh s s') (B':PM) (F:List Addr) (e:Ext B B' s.heap) (hB:∀ b o,B' b=some o→s'.heap.get? b=some o) (hP:∀ b o,P b=some o→s'.heap.get? b=some o)
    (hA:∀ (k:Nat) (sl:Slot),sls'[k]?=some sl→sl=.un ∨ ArgOk g B' P s'.heap sl (xs.getD k .none) (Fs.getD k [])) (hx:ArgOk g B' P s'.heap v x F) (hF:∀ a∈F,s.heap.get? a=none∧B' a=none) (hFs:∀ k,∀ a∈Fs.getD k [],B' a=none)
noncomputable abbrev jw:=VS→Option (Slot×VS)
noncomputable def FnD (g:G) (r:Nat) (fa:Addr) (fd:FuncData) (ps:List Str) (F:jw):Prop :=
  ∀ (A:Around) (B P:PM) (s:Shared) (sls:VS) (args:Args) (xs:List Value) (Fs:List (List Addr)) (v:Slot) (sls':VS),F sls=some (v,sls')→Room A r→CallIn g B P s.heap sls xs Fs →
    BindsTo s fd args (ps.zip xs)→wpAny (model g.prog g.w) A (call (.ref fa) args.pos args.kw) (CallPost g B P s xs Fs v sls') No s
noncomputable def BindsK (s0 s:Shared) (fd:FuncData) (args:Args) (binds:List (Str×Value)):Prop :=
  (∀ b o,s0.heap.get? b=some o→s.heap.get? b=some o)∧∀ (M:Model) (A:Around) (E:Value→Shared→Prop) (Q:List (Str×Value)→Shared→Prop),Q binds s→wpAny M A (bindArgs fd args) Q E s0
noncomputable def FnDK (g:G) (r:Nat) (fa:Addr) (fd:FuncData) (ps:List Str) (F:jw):Prop :=
  ∀ (A:Around) (B P:PM) (s0 s:Shared) (sls:VS) (args:Args) (xs:List Value) (Fs:List (List Addr)) (v:Slot) (sls':VS),F sls=some (v,sls')→Room A r→CallIn g B P s.heap sls xs Fs→(∀ b o,g.h₀.get? b=some o→s0.heap.get? b=some o) →
    BindsK s0 s fd args (ps.zip xs)→wpAny (model g.prog g.w) A (call (.ref fa) args.pos args.kw) (CallPost g B P s xs Fs v sls') No s0
theorem Room.mono {A:Around} {r r':Nat} (h:r≤r') (R:Room A r'):Room A r:=⟨R.1,Nat.lt_of_le_of_lt (Nat.add_le_add_left (Nat.mul_le_mul_left 2 h) _) R.2.1,Nat.lt_of_le_of_lt (Nat.add_le_add_right (Nat.add_le_add_left (Nat.mul_le_mul_left 16 h) _) 200) R.2.2⟩
theorem Room.deeper {A:Around} {r:Nat} {env:Env} (R:Room A (r+1)):Room (A.deeper env) r:=⟨R.1,Nat.lt_of_le_of_lt (dp (k:=1) (m:=2) (by decide)) R.2.1,Nat.lt_of_le_of_lt (Nat.add_le_add_right (dp (k:=3) (m:=16) (by decide)) 200) R.2.2⟩
noncomputable def kOf:VK→Option NameKind
  | .loc=>some .local
  | .par=>some .local
  | .cel=>some .cell
  | .glo=>some .globalImplicit
  | .fre=>none
noncomputable def ksOk (names:List (Str×NameKind)) (ks:List (Str×VK)):Bool :=
  ks.all fun p=>names.lookup p.1 == kOf p.2&&(kOf p.2).isSome
theorem vp {names:List (Str×NameKind)} {ks:List (Str×VK)} (h:ksOk names ks=true) {k:Nat} {x:Str} {vk:VK} (e:ks[k]?=some (x,vk)):names.lookup x=kOf vk∧(kOf vk).isSome=true:=by
  have:=List.all_eq_true.mp h _ (List.mem_of_getElem? e)
  simpa using this
theorem jQ {x:Str}:∀ {names:List (Str×NameKind)} {n:Nat} {acc:List (Str×Addr)},((acc.lookup x).isSome=true ∨ names.lookup x=some .cell)→((cellsFrom n names acc).lookup x).isSome=true
  | [],n,acc,h=>by
    rcases h with h | h
    · exact h
    · exact jb h
  | (y,kd)::r,n,acc,h=>by
    unfold cellsFrom
    rcases h with h | h
    · split
      · refine jQ (.inl ?_)
        rw [List.lookup_cons]
        split
        · rfl
        · exact h
      · exact jQ (.inl h)
    · rw [List.lookup_cons] at h
      split at h
      · rename_i hb
        injection h with h; subst h
        rw [if_pos (by rfl)]
        refine jQ (.inl ?_)
        rw [List.lookup_cons,hb]; rfl
      · split
        · exact jQ (.inr h)
        · exact jQ (.inr h)
theorem bindL_get {kd:Str→Option NameKind}:∀ {ps:List Str} {xs:List Value} {m:Str→Option Value} {k:Nat} {x:Str},ps.Nodup→ps[k]?=some x→k<xs.length→kd x=some .local→bindL kd (ps.zip xs) m x=some (xs.getD k .none)
  | [],_,_,_,_,_,h,_,_=>by simp at h
  | p::ps,[],_,_,_,_,_,h,_=>by simp at h
  | p::ps,y::xs,m,0,x,nd,h,hl,hk=>by
    simp at h; subst h
    have aux:∀ {ps:List Str} {xs:List Value} {m:Str→Option Value} {x:Str} {v:Option Value},x ∉ ps→m x=v→bindL kd (ps.zip xs) m x=v:=by
      intro ps
      induction ps with
      | nil=>intro xs m x v _ h; exact h
      | cons q ps ih =>
        intro xs m x v hn h
        cases xs with
        | nil=>exact h
        | cons z xs =>
          show bindL kd (ps.zip xs) _ x=v
          refine ih (fun q=>hn (List.mem_cons_of_mem _ q)) ?_
          split
          · show (if x=q then some z else m x)=v; rw [if_neg (fun e=>hn (by rw [e]; exact List.mem_cons_self))]; exact h
          · exact h
    show bindL kd (ps.zip xs) (if kd p=some .local then fun z=>if z=p then some y else m z else m) p=_
    rw [if_pos hk]
    exact aux (List.nodup_cons.mp nd).1 (by simp)
  | p::ps,y::xs,m,k+1,x,nd,h,hl,hk=>by
    show bindL kd (ps.zip xs) _ x=some (xs.getD k .none)
    exact bindL_get (List.nodup_cons.mp nd).2 (by simpa using h) (by simpa using hl) hk
theorem bindC_get {kd:Str→Option NameKind}:∀ {ps:List Str} {xs:List Value} {m:Str→Option Value} {k:Nat} {x:Str},ps.Nodup→ps[k]?=some x→k<xs.length→kd x ≠ some .local→bindC kd (ps.zip xs) m x=some (xs.getD k .none)
  | [],_,_,_,_,_,h,_,_=>by simp at h
  | p::ps,[],_,_,_,_,_,h,_=>by simp at h
  | p::ps,y::xs,m,0,x,nd,h,hl,hk=>by
    simp at h; subst h
    have aux:∀ {ps:List Str} {xs:List Value} {m:Str→Option Value} {x:Str} {v:Option Value},x ∉ ps→m x=v→bindC kd (ps.zip xs) m x=v:=by
      intro ps
      induction ps with
      | nil=>intro xs m x v _ h; exact h
      | cons q ps ih =>
        intro xs m x v hn h
        cases xs with
        | nil=>exact h
        | cons z xs =>
          show bindC kd (ps.zip xs) _ x=v
          refine ih (fun q=>hn (List.mem_cons_of_mem _ q)) ?_
          split
          · exact h
          · show (if x=q then some z else m x)=v; rw [if_neg (fun e=>hn (by rw [e]; exact List.mem_cons_self))]; exact h
    show bindC kd (ps.zip xs) (if kd p=some .local then m else fun z=>if z=p then some y else m z) p=_
    rw [if_neg hk]
    exact aux (List.nodup_cons.mp nd).1 (by simp)
  | p::ps,y::xs,m,k+1,x,nd,h,hl,hk=>by
    show bindC kd (ps.zip xs) _ x=some (xs.getD k .none)
    exact bindC_get (List.nodup_cons.mp nd).2 (by simpa using h) (by simpa using hl) hk
noncomputable def Ja:AVal→Option Slot
  | .pv p=>some (.pv p)
  | .obj o=>some (.ob o)
  | _=>none
noncomputable def isOb:Slot→Bool
  | .ob _=>true
  | _=>false
noncomputable def isPar:VK→Bool
  | .par=>true
  | _=>false
noncomputable def pk:VK→Slot→Bool
  | .par,.ob _=>true
  | .par,.pv _=>true
  | .par,.br _=>true
  | .loc,.br _=>true
  | .loc,.pv _=>true
  | .cel,.pv _=>true
  | _,_=>false
noncomputable def okIn:List (Str×VK)→VS→Bool
  | _,[]=>true
  | [],_=>false
  | (_,vk)::ks,sl::sls=>pk vk sl&&okIn ks sls
noncomputable def giveAt:Option (Str×VK)→Option Slot→Slot
  | some (_,VK.par),some (Slot.ob o)=>.ob o
  | _,_=>.un
noncomputable def gives (ks:List (Str×VK)) (n:Nat) (vs:VS):VS:=(List.range n).map fun k=>giveAt ks[k]? vs[k]?
noncomputable def fnOf (ks:List (Str×VK)) (n nl:Nat) (body:Ex):jw:=fun sls =>
  if sls.length=n∧okIn ks sls=true then
    (body (sls++List.replicate nl .un)).bind fun q=>match q.1 with
      | .ret v=>(Ja v).map fun r=>(r,gives ks n q.2)
      | .next=>some (.pv .none,gives ks n q.2)
      | .brk=>none
  else none
theorem okIn_at:∀ {ks:List (Str×VK)} {sls:VS},okIn ks sls=true→∀ {k:Nat} {sl:Slot},sls[k]?=some sl→∃ x vk,ks[k]?=some (x,vk)∧pk vk sl=true
  | _,[],_,k,sl,h=>by simp at h
  | [],_::_,h,_,_,_=>by injection h
  | (x,vk)::ks,sl::sls,h,0,sl',e=>by
    simp at e; subst e
    simp only [okIn,Bool.and_eq_true] at h
    exact ⟨x,vk,rfl,h.1⟩
  | (x,vk)::ks,sl::sls,h,k+1,sl',e=>by
    simp only [okIn,Bool.and_eq_true] at h
    have:=okIn_at h.2 (k:=k) (sl:=sl') (by simpa using e)
    simpa using this
theorem fn_enter {g:G} {r:Nat} {fa:Addr} {fo:Obj} {fd:FuncData} {body:List Stmt} {ks:List (Str×VK)} {n nl:Nat}
    (lim:g.h₀.NoLimit) (ho:g.h₀.get? fa=some fo) (hd:fo.data=.func fd) (hb:fd.body=.stmts body) (hgl:fd.globals=mainGlobals) (hbl:fd.builtins=builtinsNs) (hclo:fd.closure=[])
    (hcd:g.h₀.CodeRec fd.code fd.qualname) (hks:ksOk fd.scope.names ks=true) (nd:(ks.map (·.1)).Nodup) (hn:n+nl≤ks.length)
    (hco:fd.scope.isCoroutine=false:=by rfl) (hgen:fd.scope.isGenerator=false:=by rfl) (hk:fd.scope.kind=.function:=by rfl) :
    ∀ (A:Around) (B P:PM) (s0 s:Shared) (sls:VS) (args:Args) (xs:List Value) (Fs:List (List Addr)) (R':Result→Shared→Prop),sls.length=n→okIn ks sls=true→A.handled=none→A.depth<1000→CallIn g B P s.heap sls xs Fs→(∀ b o,g.h₀.get? b=some o→s0.heap.get? b=some o) →
    BindsK s0 s fd args (((ks.take n).map (·.1)).zip xs) →
    (∀ env h₁ tk cel,(∀ b o,s.heap.get? b=some o→h₁.get? b=some o)→Iv g B ⟨P,P,fun k=>xs.getD k .none,fun k=>Fs.getD k []⟩ env ks (sls++List.replicate nl .un) h₁ (fun k=>xs.getD k .none) (fun k=>Fs.getD k []) cel →
      wpAny (model g.prog g.w) (A.deeper env) (execs body env) (fun f s'=>R' (.ok (.ret (match f with | .ret v=>v | _=>.none))) s') No { s with heap:=h₁,toks:=tk }) →
    codeAny (model g.prog g.w) A (.call (.ref fa) args) R' s0:=by
  intro A B P s0 s sls args xs Fs R' hlen hok hhA hdA C hb0 hbind Kont
  have keep0:∀ b o,g.h₀.get? b=some o→s.heap.get? b=some o:=fun b o e=>C.hB _ _ (C.base b o e)
  have hps:(ks.take n).map (·.1)=(ks.map (·.1)).take n:=by rw [List.map_take]
  have psN:((ks.take n).map (·.1)).Nodup:=by rw [hps]; exact nd.sublist (List.take_sublist _ _)
  have psk:∀ {k:Nat} {x:Str} {vk:VK},ks[k]?=some (x,vk)→k<n→((ks.take n).map (·.1))[k]?=some x:=fun {k x vk} e hk=>by
    rw [List.getElem?_map,List.getElem?_take_of_lt hk,e]; rfl
  have kind:∀ {x:Str},x∈(ks.take n).map (·.1)→fd.scope.names.lookup x=some .local ∨ (fd.scope.names.lookup x=some .cell∧((cellsFrom (s.heap.objs.size+1) fd.scope.names []).lookup x).isSome=true):=by
    intro x hx
    obtain ⟨⟨y,vk⟩,hm,rfl⟩:=List.mem_map.mp hx
    obtain ⟨k,hkn⟩:=List.getElem?_of_mem hm
    have hlt:k<n:=Nat.lt_of_lt_of_le (List.getElem?_eq_some_iff.mp hkn).1 (List.length_take_le _ _)
    have hk':ks[k]?=some (y,vk):=by rw [List.getElem?_take_of_lt hlt] at hkn; exact hkn
    obtain ⟨sl,hsl⟩:∃ sl,sls[k]?=some sl:=⟨_,List.getElem?_eq_getElem (Nat.lt_of_lt_of_eq hlt hlen.symm)⟩
    obtain ⟨x',vk',hk'',hpk⟩:=okIn_at hok hsl
    rw [hk'] at hk''
    injection hk'' with hk''; injection hk'' with ee0 ee1; subst ee0; subst ee1
    obtain ⟨e1,e2⟩:=vp hks hk'
    cases vk with
    | loc=>exact .inl e1
    | par=>exact .inl e1
    | cel=>exact .inr ⟨e1,jQ (.inr e1)⟩
    | glo=>cases sl <;> injection hpk
    | fre=>injection e2
  refine (codeAny_call_function hdA (hb0 _ _ ho) hd hco hgen hb (hcd.keeps hb0) (hbind.2 _ _ _ _ ?_))
  rw [hclo,hgl,hbl]
  refine wpAny_newFunctionEnv_cells hk (fun x hx=>kind (List.of_mem_zip hx).1) fun env he s₁ X=>?_
  have X1:=X.toInCall
  obtain ⟨h₁,tk,rfl⟩:=X1.same
  refine ⟨(lim.keeps fun b o e=>X1.keep b o (keep0 b o e)),codeAny_func ?_⟩
  have eS:env.scope=fd.scope:=by subst he; rfl
  have eL:env.locals=s.heap.objs.size:=by subst he; rfl
  have eC:env.cells=cellsFrom (s.heap.objs.size+1) fd.scope.names []:=by subst he; rfl
  have eK:∀ x,env.kindOf x=fd.scope.names.lookup x:=fun x=>by unfold Env.kindOf; rw [eS]
  have keep:∀ b o,s.heap.get? b=some o→h₁.get? b=some o:=X1.keep
  have celIs:∀ {k:Nat} {x:Str},ks[k]?=some (x,VK.cel)→env.cells.lookup x=some ((env.cells.lookup ((ks[k]?.map (·.1)).getD default)).getD 0):=fun {k x} e=>by
    rw [e]
    have:(env.cells.lookup x).isSome=true:=by rw [eC]; exact jQ (.inr (vp hks e).1)
    obtain ⟨c,hc⟩:=Option.isSome_iff_exists.mp this
    show _=some ((env.cells.lookup x).getD 0)
    rw [hc]; rfl
  generalize hcel:(fun k:Nat=>(env.cells.lookup ((ks[k]?.map (·.1)).getD default)).getD 0)=cel at celIs
  have celIs:∀ {k:Nat} {x:Str},ks[k]?=some (x,VK.cel)→env.cells.lookup x=some (cel k):=fun {k x} e=>by rw [← hcel]; exact celIs e
  have celAbove:∀ {k:Nat} {x:Str},ks[k]?=some (x,VK.cel)→s.heap.objs.size<cel k:=fun {k x} e=>by have:=X.above _ _ (mem_of_lookup (celIs e)); rwa [eL] at this
  have argLt:∀ k,∀ a∈Fs.getD k [],a<s.heap.objs.size:=fun k a ha=>let ⟨_,e⟩:=(C.off k a ha).1; Heap.lt_size e
  have slN:∀ {k:Nat} {sl:Slot},(sls++List.replicate nl Slot.un)[k]?=some sl→(sl=.un∧n≤k) ∨ (k<n∧sls[k]?=some sl):=fun {k sl} e=>by
    by_cases hkn:k<sls.length
    · rw [List.getElem?_append_left hkn] at e; exact .inr ⟨Nat.lt_of_lt_of_eq hkn hlen,e⟩
    · rw [List.getElem?_append_right (Nat.not_lt.mp hkn)] at e
      exact .inl ⟨(List.mem_replicate.mp (List.mem_of_getElem? e)).2,hlen ▸ Nat.not_lt.mp hkn⟩
  have I:Iv g B ⟨P,P,fun k=>xs.getD k .none,fun k=>Fs.getD k []⟩ env ks (sls++List.replicate nl .un) h₁ (fun k=>xs.getD k .none) (fun k=>Fs.getD k []) cel:=by
    refine ⟨⟨by rw [eS]; exact hk,by subst he; rfl,by subst he; rfl,nd,?_,?_,?_,?_⟩,C.base,fun b o e=>keep _ _ (C.hB b o e),fun _ _ e=>e,fun b o e=>keep _ _ (C.hP b o e),?_,?_,⟨_,X1.ns,?_⟩,fun k x e=>⟨rfl,rfl⟩,?_,?_,?_,?_,?_,?_⟩
    · rintro k x vk e (rfl | rfl)
      · rw [eK]; exact (vp hks e).1
      · rw [eK]; exact (vp hks e).1
    · intro k x e; rw [eK]; exact ⟨(vp hks e).1,celIs e⟩
    · intro k x e; rw [eK]; exact (vp hks e).1
    · intro k x e; cases (vp hks e).2
    · rw [eL]; exact C.above
    · rw [List.length_append,List.length_replicate,hlen]; exact hn
    · intro k x vk e ev sl hs hn
      rcases slN hs with ⟨rfl,_⟩ | ⟨hlt,hs⟩
      · exact absurd rfl hn
      · refine bindL_get psN (psk e hlt) (by rw [C.lenX,hlen]; exact hlt) ?_
        rw [eK]
        rcases ev with rfl | rfl <;> exact (vp hks e).1
    · intro k x e
      refine ⟨_,X.cell x (cel k) (celIs e),fun sl hs hn=>?_⟩
      rcases slN hs with ⟨rfl,_⟩ | ⟨hlt,hs⟩
      · exact absurd rfl hn
      · refine bindC_get psN (psk e hlt) (by rw [C.lenX,hlen]; exact hlt) ?_
        rw [eK,(vp hks e).1]; decide
    · intro k x e; cases (vp hks e).2
    · intro k sl hs
      rcases slN hs with ⟨rfl,hge⟩ | ⟨hlt,hs⟩
      · show Fs.getD k []=[]
        rw [List.getD_eq_getElem?_getD,List.getElem?_eq_none (by rw [C.lenF,hlen]; exact hge)]; rfl
      · exact ArgOk.slot (P:=⟨P,P,fun k=>xs.getD k .none,fun k=>Fs.getD k []⟩) ((C.args k sl hs).step (fun _ _ e=>e) fun a ha o e=>keep _ _ e)
    · intro k hk
      show Fs.getD k []=[]
      rw [List.getD_eq_getElem?_getD,List.getElem?_eq_none (by rw [List.length_append] at hk; rw [C.lenF]; exact Nat.le_trans (Nat.le_add_right _ _) hk)]; rfl
    · have bn:∀ a,s.heap.objs.size≤a→B a=none∧P a=none:=fun a ha=>⟨ve C.hB ha,ve C.hP ha⟩
      rintro i a o
      match i,o with
      | none,o=>rw [show a=env.locals from o,eL]; exact bn _ (Nat.le_refl _)
      | some (k,true),⟨⟨x,hx⟩,e⟩=>rw [e]; exact bn _ (Nat.le_of_lt (celAbove hx))
      | some (k,false),o=>exact (C.off k a o).2
    · rintro i j a oi oj
      match i,j,oi,oj with
      | none,none,_,_=>rfl
      | none,some (k,true),e,⟨⟨x,hx⟩,e'⟩=>exact absurd (celAbove hx) (by rw [← e',show a=env.locals from e,eL]; exact Nat.lt_irrefl _)
      | some (k,true),none,⟨⟨x,hx⟩,e'⟩,e=>exact absurd (celAbove hx) (by rw [← e',show a=env.locals from e,eL]; exact Nat.lt_irrefl _)
      | none,some (k,false),e,o=>exact absurd (argLt k a o) (by rw [show a=env.locals from e,eL]; exact Nat.lt_irrefl _)
      | some (k,false),none,o,e=>exact absurd (argLt k a o) (by rw [show a=env.locals from e,eL]; exact Nat.lt_irrefl _)
      | some (k,true),some (j,false),⟨⟨x,hx⟩,e'⟩,o=>exact absurd (argLt j a o) (by rw [e']; exact Nat.not_lt.mpr (Nat.le_of_lt (celAbove hx)))
      | some (j,false),some (k,true),o,⟨⟨x,hx⟩,e'⟩=>exact absurd (argLt j a o) (by rw [e']; exact Nat.not_lt.mpr (Nat.le_of_lt (celAbove hx)))
      | some (k,false),some (j,false),o,o'=>rw [C.apart k j a o o']
      | some (k,true),some (j,true),⟨⟨x,hx⟩,e⟩,⟨⟨y,hy⟩,e'⟩ =>
        have:x=y:=name_of_addr X.apart (mem_of_lookup (celIs hx)) (by rw [← e,e']; exact mem_of_lookup (celIs hy))
        subst this
        rw [ks_inj nd hx hy]
  exact wpAny_mono (Kont env h₁ tk cel keep I) (fun _ _ q=>q) fun _ _ f=>f.elim
theorem fn_frameK {g:G} {r:Nat} {fa:Addr} {fo:Obj} {fd:FuncData} {body:List Stmt} {ks:List (Str×VK)} {n nl:Nat} {f:Ex}
    (lim:g.h₀.NoLimit) (ho:g.h₀.get? fa=some fo) (hd:fo.data=.func fd) (hb:fd.body=.stmts body) (hgl:fd.globals=mainGlobals) (hbl:fd.builtins=builtinsNs) (hclo:fd.closure=[])
    (hcd:g.h₀.CodeRec fd.code fd.qualname) (hks:ksOk fd.scope.names ks=true) (nd:(ks.map (·.1)).Nodup) (hn:n+nl≤ks.length) (d:DenB g r ks body f)
    (hco:fd.scope.isCoroutine=false:=by rfl) (hgen:fd.scope.isGenerator=false:=by rfl) (hk:fd.scope.kind=.function:=by rfl) :
    FnDK g (r+1) fa fd ((ks.take n).map (·.1)) (fnOf ks n nl f):=by
  intro A B P s0 s sls args xs Fs v sls' h R C hb0 hbind
  unfold fnOf at h
  split at h
  case isFalse=>exact jb h
  rename_i hin
  obtain ⟨hlen,hok⟩:=hin
  revert h
  refine jc fun q hq h=>?_
  refine wpAny_call (fn_enter (r:=r) lim ho hd hb hgl hbl hclo hcd hks nd hn hco hgen hk A B P s0 s sls args xs Fs _ hlen hok R.1 (Nat.lt_of_le_of_lt (Nat.le_add_right _ _) R.2.1) C hb0 hbind fun env h₁ tk cel keep I=>?_)
  refine wpAny_mono (d (A.deeper env) B _ env _ _ _ _ cel q.1 q.2 hq R.deeper I) (fun fw s₂ p=>?_) fun _ _ f=>f.elim
  revert p
  refine SPost.rev fun sh B' val foot F x1 I2 R2=>?_
  have sh0:Sh s { s with heap:=h₁,toks:=tk }:=⟨h₁,tk,rfl,.of_keep keep⟩
  have giv:∀ (k:Nat) (sl:Slot),(gives ks n q.2)[k]?=some sl→sl=.un ∨ ArgOk g B' P s₂.heap sl (xs.getD k .none) (Fs.getD k []):=by
    intro k sl e
    unfold gives at e
    rw [List.getElem?_map] at e
    obtain ⟨k',hk',e'⟩:=Option.map_eq_some_iff.mp e
    have:k'=k:=by
      have:=List.getElem?_range (n:=n) (i:=k) (by have:=(List.getElem?_eq_some_iff.mp hk').1; simpa using this)
      rw [this] at hk'; injection hk' with hk'; subst hk'; rfl
    subst this
    unfold giveAt at e'
    split at e'
    · rename_i x o e1 e2
      subst e'
      have S:=I2.slots k' _ e2
      obtain ⟨p1,p2⟩:=I2.pin k' x e1
      rw [p1,p2] at S
      exact .inr S
    · exact .inl e'.symm
  have frB:∀ k,∀ a∈Fs.getD k [],B' a=none:=fun k a ha=>by
    obtain ⟨⟨o,e⟩,hB,_⟩:=C.off k a ha
    rw [x1.eq a o (keep _ _ e)]; exact hB
  have loN:∀ a,h₁.get? a=none→s.heap.get? a=none:=fun a hn=>by
    cases e:s.heap.get? a with
    | none=>rfl
    | some o=>have:=keep _ _ e; rw [hn] at this; exact jb this
  have fin:∀ v' x,ArgOk g B' P s₂.heap v' x F→(∀ a∈F,h₁.get? a=none∧B' a=none)→CallPost g B P s xs Fs v' (gives ks n q.2) x s₂:=fun v' x ha lo =>
    ⟨sh0.trans sh,B',F,⟨x1.le,fun a o e=>x1.eq a o (keep _ _ e)⟩,I2.hB,I2.hP,giv,ha,fun a ha=>⟨loN a (lo a ha).1,(lo a ha).2⟩,frB⟩
  obtain ⟨fl,vs2⟩:=q
  cases fl with
  | next =>
    injection h with h; injection h with ee2 ee3; subst ee2; subst ee3
    cases R2
    exact ⟨sh0.trans sh,B',[],⟨x1.le,fun a o e=>x1.eq a o (keep _ _ e)⟩,I2.hB,I2.hP,giv,⟨.none,rfl⟩,fun a ha=>(nomatch ha),frB⟩
  | brk=>exact jb h
  | ret v' =>
    obtain ⟨w,hw,h⟩:=Option.map_eq_some_iff.mp h
    injection h with ee4 ee5; replace ee4:=ee4.symm; subst ee4; subst ee5
    obtain ⟨x,rfl,Rx,Fr,lo⟩:=R2
    cases v' with
    | pv p=>injection hw with hw; subst hw; exact fin _ _ Rx fun a ha=>⟨lo a ha,(Fr a ha).1⟩
    | obj o=>injection hw with hw; subst hw; exact fin _ _ Rx fun a ha=>⟨lo a ha,(Fr a ha).1⟩
    | own k=>exact jb hw
    | sub k=>exact jb hw
theorem fn_frame {g:G} {r:Nat} {fa:Addr} {fo:Obj} {fd:FuncData} {body:List Stmt} {ks:List (Str×VK)} {n nl:Nat} {f:Ex}
    (lim:g.h₀.NoLimit) (ho:g.h₀.get? fa=some fo) (hd:fo.data=.func fd) (hb:fd.body=.stmts body) (hgl:fd.globals=mainGlobals) (hbl:fd.builtins=builtinsNs) (hclo:fd.closure=[])
    (hcd:g.h₀.CodeRec fd.code fd.qualname) (hks:ksOk fd.scope.names ks=true) (nd:(ks.map (·.1)).Nodup) (hn:n+nl≤ks.length) (d:DenB g r ks body f)
    (hco:fd.scope.isCoroutine=false:=by rfl) (hgen:fd.scope.isGenerator=false:=by rfl) (hk:fd.scope.kind=.function:=by rfl) :
    FnD g (r+1) fa fd ((ks.take n).map (·.1)) (fnOf ks n nl f) :=
  fun A B P s sls args xs Fs v sls' h R C hbind=>fn_frameK lim ho hd hb hgl hbl hclo hcd hks nd hn d hco hgen hk A B P s s sls args xs Fs v sls' h R C (fun b o e=>C.hB _ _ (C.base b o e)) ⟨fun _ _ e=>e,hbind⟩
noncomputable def vf (vs:VS):AVal→Option Slot
  | .pv p=>some (.pv p)
  | .own k=>match vs[k]? with
    | some (.ob o)=>some (.ob o)
    | _=>none
  | .obj o=>some (.ob o)
  | .sub _=>none
noncomputable def jU (vs:VS):List AVal→Option VS
  | []=>some []
  | a::as=>(vf vs a).bind fun s=>(jU vs as).map fun r=>s::r
noncomputable def ownK:AVal→Option Nat
  | .own k=>some k
  | _=>none
noncomputable def vJ:List AVal→Bool
  | []=>true
  | .own k::as=>as.all (fun a=>ownK a != some k)&&vJ as
  | _::as=>vJ as
noncomputable def yq:List AVal→VS→VS→Option VS
  | [],_,vs=>some vs
  | .own k::as,.ob o::sls,vs=>yq as sls (vs.set k (.ob o))
  | .own _::_,_,_=>none
  | _::as,_::sls,vs=>yq as sls vs
  | _::_,[],_=>none
noncomputable def footOf (foot:Nat→List Addr):AVal→List Addr→List Addr
  | .own k,_=>foot k
  | _,F=>F
noncomputable def vR:Slot→Option AVal
  | .pv p=>some (.pv p)
  | .ob o=>some (.obj o)
  | _=>none
theorem yC:∀ {as:List AVal} {sls vs vs':VS},yq as sls vs=some vs'→vs'.length=vs.length
  | [],_,_,_,h=>by injection h with h; subst h; rfl
  | .own k::as,.ob o::sls,vs,vs',h=>by
    have:=yC (as:=as) (sls:=sls) h
    rw [this,List.length_set]
  | .own _::_,[],_,_,h=>by exact jb h
  | .own _::_,.un::_,_,_,h=>by exact jb h
  | .own _::_,.pv _::_,_,_,h=>by exact jb h
  | .own _::_,.br _::_,_,_,h=>by exact jb h
  | .own _::_,.hid::_,_,_,h=>by exact jb h
  | .pv _::as,_::sls,vs,vs',h=>yC (as:=as) (sls:=sls) h
  | .sub _::as,_::sls,vs,vs',h=>yC (as:=as) (sls:=sls) h
  | .obj _::as,_::sls,vs,vs',h=>yC (as:=as) (sls:=sls) h
  | .pv _::_,[],_,_,h=>by exact jb h
  | .sub _::_,[],_,_,h=>by exact jb h
  | .obj _::_,[],_,_,h=>by exact jb h
theorem vD:∀ {as:List AVal} {sls vs vs':VS},yq as sls vs=some vs'→∀ (k:Nat) (sl:Slot),vs'[k]?=some sl →
    (vs[k]?=some sl∧∀ i:Nat,as[i]? ≠ some (.own k)) ∨ (∃ i:Nat,∃ o,as[i]?=some (.own k)∧sls[i]?=some sl∧sl=.ob o)
  | [],_,_,_,h,k,sl,e=>by injection h with h; subst h; exact .inl ⟨e,fun i=>by simp⟩
  | .own j::as,.ob o::sls,vs,vs',h,k,sl,e=>by
    rcases vD (as:=as) (sls:=sls) h k sl e with ⟨e1,e2⟩ | ⟨i,o',e1,e2,e3⟩
    · rcases vK e1 with ⟨rfl,rfl⟩ | ⟨hk,e1⟩
      · exact .inr ⟨0,o,rfl,rfl,rfl⟩
      · refine .inl ⟨e1,fun i=>?_⟩
        cases i with
        | zero=>intro q; simp at q; exact hk q.symm
        | succ i=>simpa using e2 i
    · exact .inr ⟨i+1,o',by simpa using e1,by simpa using e2,e3⟩
  | .own _::_,[],_,_,h,_,_,_=>by exact jb h
  | .own _::_,.un::_,_,_,h,_,_,_=>by exact jb h
  | .own _::_,.pv _::_,_,_,h,_,_,_=>by exact jb h
  | .own _::_,.br _::_,_,_,h,_,_,_=>by exact jb h
  | .own _::_,.hid::_,_,_,h,_,_,_=>by exact jb h
  | .pv _::as,_::sls,vs,vs',h,k,sl,e=>by
    rcases vD (as:=as) (sls:=sls) h k sl e with ⟨e1,e2⟩ | ⟨i,o',e1,e2,e3⟩
    · refine .inl ⟨e1,fun i=>?_⟩
      cases i with
      | zero=>simp
      | succ i=>simpa using e2 i
    · exact .inr ⟨i+1,o',by simpa using e1,by simpa using e2,e3⟩
  | .sub _::as,_::sls,vs,vs',h,k,sl,e=>by
    rcases vD (as:=as) (sls:=sls) h k sl e with ⟨e1,e2⟩ | ⟨i,o',e1,e2,e3⟩
    · refine .inl ⟨e1,fun i=>?_⟩
      cases i with
      | zero=>simp
      | succ i=>simpa using e2 i
    · exact .inr ⟨i+1,o',by simpa using e1,by simpa using e2,e3⟩
  | .obj _::as,_::sls,vs,vs',h,k,sl,e=>by
    rcases vD (as:=as) (sls:=sls) h k sl e with ⟨e1,e2⟩ | ⟨i,o',e1,e2,e3⟩
    · refine .inl ⟨e1,fun i=>?_⟩
      cases i with
      | zero=>simp
      | succ i=>simpa using e2 i
    · exact .inr ⟨i+1,o',by simpa using e1,by simpa using e2,e3⟩
  | .pv _::_,[],_,_,h,_,_,_=>by exact jb h
  | .sub _::_,[],_,_,h,_,_,_=>by exact jb h
  | .obj _::_,[],_,_,h,_,_,_=>by exact jb h
theorem argSlots_at:∀ {vs:VS} {as:List AVal} {sls:VS},jU vs as=some sls→sls.length=as.length∧∀ (i:Nat) (a:AVal),as[i]?=some a→∃ sl,sls[i]?=some sl∧vf vs a=some sl
  | vs,[],sls,h=>by injection h with h; subst h; exact ⟨rfl,fun i a e=>by simp at e⟩
  | vs,a::as,sls,h=>by
    revert h
    refine jc fun s h1 h=>?_
    obtain ⟨t,h2,h3⟩:=Option.map_eq_some_iff.mp h
    subst h3
    obtain ⟨l,q⟩:=argSlots_at h2
    refine ⟨by simp [l],fun i b e=>?_⟩
    cases i with
    | zero=>simp at e; subst e; exact ⟨s,rfl,h1⟩
    | succ i=>simpa using q i b (by simpa using e)
theorem ownNd_at:∀ {as:List AVal},vJ as=true→∀ {i j k:Nat},as[i]?=some (.own k)→as[j]?=some (.own k)→i=j
  | [],_,i,_,_,e,_=>by simp at e
  | a::as,h,i,j,k,e1,e2=>by
    have tl:vJ as=true:=by
      cases a <;> simp_all [vJ]
    cases i with
    | zero =>
      cases j with
      | zero=>rfl
      | succ j =>
        simp at e1; subst e1
        simp only [vJ,Bool.and_eq_true] at h
        have:=List.all_eq_true.mp h.1 (.own k) (List.mem_of_getElem? (by simpa using e2))
        simp [ownK] at this
    | succ i =>
      cases j with
      | zero =>
        simp at e2; subst e2
        simp only [vJ,Bool.and_eq_true] at h
        have:=List.all_eq_true.mp h.1 (.own k) (List.mem_of_getElem? (by simpa using e1))
        simp [ownK] at this
      | succ j=>exact congrArg (·+1) (ownNd_at (k:=k) tl (by simpa using e1) (by simpa using e2))
structure RepF (g:G) (B:PM) (h:Heap) (val:Nat→Value) (as:List AVal) (xs:List Value) (Fs:List (List Addr)):Prop where
  lenX:xs.length=as.length
  lenF:Fs.length=as.length
  rep:∀ (i:Nat) (a:AVal),as[i]?=some a→RepA g B h val a (xs.getD i .none) (Fs.getD i [])
  apart:∀ (i j:Nat) a,a∈Fs.getD i []→a∈Fs.getD j []→i=j
section
variable {g:G} {B B':PM} {P:PX} {env:Env} {ks:List (Str×VK)} {vs vs':VS} {h h':Heap} {val val':Nat→Value} {foot foot':Nat→List Addr} {cel:Nat→Addr} {s s':Shared} {A:Around} {r:Nat}
noncomputable def allF (foot:Nat→List Addr) (as:List AVal) (Fs:List (List Addr)):List (List Addr):=List.zipWith (footOf foot) as Fs
theorem allF_len {as:List AVal} {Fs:List (List Addr)} (e:Fs.length=as.length):(allF foot as Fs).length=as.length:=by simp [allF,e]
theorem allF_at {as:List AVal} {Fs:List (List Addr)} (e:Fs.length=as.length) (i:Nat):(allF foot as Fs).getD i []=match as[i]? with
    | some a=>footOf foot a (Fs.getD i [])
    | none=>[]:=by
  by_cases hi:i<as.length
  · rw [List.getElem?_eq_getElem hi]
    simp [allF,List.getD_eq_getElem?_getD,List.getElem?_zipWith,List.getElem?_eq_getElem hi,List.getElem?_eq_getElem (show i<Fs.length from Nat.lt_of_lt_of_eq hi e.symm)]
  · rw [List.getElem?_eq_none (Nat.not_lt.mp hi)]
    rw [List.getD_eq_getElem?_getD,List.getElem?_eq_none (by rw [allF_len e]; exact Nat.not_lt.mp hi)]; rfl
open Classical in
noncomputable def restOf (h:Heap) (Fs:List (List Addr)):PM:=fun b=>if ∃ k,b∈Fs.getD k [] then none else h.get? b
theorem call_in (I:Iv g B P env ks vs s.heap val foot cel) {as:List AVal} {xs:List Value} {Fs:List (List Addr)} {sls:VS} (R:RepF g B s.heap val as xs Fs) (hs:jU vs as=some sls) (nd:vJ as=true)
    (Fr:∀ i,Fresh B P env.locals ks foot cel (Fs.getD i [])):CallIn g B (restOf s.heap (allF foot as Fs)) s.heap sls xs (allF foot as Fs):=by
  obtain ⟨hl,hat⟩:=argSlots_at hs
  have at':=allF_at (foot:=foot) R.lenF
  refine ⟨?_,I.base,I.hB,?_,by rw [R.lenX,hl],by rw [allF_len R.lenF,hl],?_,?_,?_⟩
  · exact Nat.le_trans I.above (Nat.le_of_lt (I.ownLt (i:=none) rfl))
  · intro b o e
    unfold restOf at e
    split at e
    · exact jb e
    · exact e
  · intro k sl e
    have hk:k<as.length:=Nat.lt_of_lt_of_eq (List.getElem?_eq_some_iff.mp e).1 hl
    have ea:=List.getElem?_eq_getElem hk
    obtain ⟨sl',e1,e2⟩:=hat k _ ea
    rw [e] at e1; injection e1 with e1; subst e1
    have rp:=R.rep k _ ea
    rw [at' k,ea]
    generalize as[k]=a at *
    cases a with
    | pv p=>injection e2 with e2; subst e2; exact rp
    | own j =>
      simp only [vf] at e2
      split at e2
      · rename_i o ho
        injection e2 with e2; subst e2
        have S:=I.slots j _ ho
        rw [rp.1]
        exact S
      · exact jb e2
    | sub j=>exact jb e2
    | obj o=>injection e2 with e2; subst e2; exact rp
  · intro k a ha
    rw [at' k] at ha
    have hr:restOf s.heap (allF foot as Fs) a=none:=by
      unfold restOf
      rw [if_pos ⟨k,by rw [at' k]; exact ha⟩]
    cases e:as[k]? with
    | none=>rw [e] at ha; simp at ha
    | some v =>
      rw [e] at ha
      have rp:=R.rep k v e
      cases v with
      | own j =>
        have o:yv env.locals ks foot cel (some (j,false)) a:=ha
        exact ⟨I.ownAt o,(I.own _ _ o).1,hr⟩
      | pv p=>have:a∈Fs.getD k []:=ha; rw [rp.2] at this; simp at this
      | sub j=>have:a∈Fs.getD k []:=ha; rw [rp.2] at this; simp at this
      | obj o=>exact ⟨Own.some rp a ha,(Fr k a ha).1,hr⟩
  · intro i j a hi hj
    rw [at' i] at hi
    rw [at' j] at hj
    cases e:as[i]? with
    | none=>rw [e] at hi; simp at hi
    | some v =>
      cases e':as[j]? with
      | none=>rw [e'] at hj; simp at hj
      | some w =>
        rw [e] at hi
        rw [e'] at hj
        cases v with
        | own k =>
          cases w with
          | own k' =>
            have:(some (k,false):Option (Nat×Bool))=some (k',false):=I.apart _ _ a hi hj
            injection this with this; injection this with ee0 _; subst ee0
            exact ownNd_at nd e e'
          | _=>exact absurd hi ((Fr j a hj).2.2 (some (k,false)))
        | _ =>
          cases w with
          | own k'=>exact absurd hj ((Fr i a hi).2.2 (some (k',false)))
          | _=>exact R.apart i j a hi hj
theorem call_out (I:Iv g B P env ks vs s.heap val foot cel) {as:List AVal} {xs:List Value} {Fs:List (List Addr)} {sls sls' vs'':VS} {v:Slot} {w:AVal} {x:Value} (R:RepF g B s.heap val as xs Fs) (hs:jU vs as=some sls)
    (Fr:∀ i,Fresh B P env.locals ks foot cel (Fs.getD i [])) (hb:yq as sls' vs=some vs'') (hv:vR v=some w)
    (p:CallPost g B (restOf s.heap (allF foot as Fs)) s xs (allF foot as Fs) v sls' x s'):EPost g P env ks cel B s val foot w vs'' x s':=by
  obtain ⟨sh,B',F,x1,hB',hP',hargs,hv',lo,hoff⟩:=p
  obtain ⟨hl,hat⟩:=argSlots_at hs
  have at':=allF_at (foot:=foot) R.lenF
  have gb:=vD hb
  have lent:∀ {a},(∃ k,a∈(allF foot as Fs).getD k [])→(∃ j,∃ i:Nat,as[i]?=some (.own j)∧a∈foot j) ∨ (∃ i,a∈Fs.getD i []):=by
    rintro a ⟨k,ha⟩
    rw [at' k] at ha
    cases e:as[k]? with
    | none=>rw [e] at ha; simp at ha
    | some u =>
      rw [e] at ha
      cases u with
      | own j=>exact .inl ⟨j,k,e,ha⟩
      | _=>exact .inr ⟨k,ha⟩
  have keep:∀ b o,s.heap.get? b=some o→(¬ ∃ k,b∈(allF foot as Fs).getD k [])→s'.heap.get? b=some o:=fun b o e hn=>hP' b o (by unfold restOf; rw [if_neg hn]; exact e)
  have keepOwn:∀ {i a},yv env.locals ks foot cel i a→(∀ j,i=some (j,false)→∀ q:Nat,as[q]? ≠ some (.own j))→∀ o,s.heap.get? a=some o→s'.heap.get? a=some o:=by
    intro i a o hn ob e
    refine keep a ob e fun hx=>?_
    rcases lent hx with ⟨j,q,e1,e2⟩ | ⟨q,e1⟩
    · have:i=some (j,false):=I.apart _ _ a o e2
      exact hn j this q e1
    · exact (Fr q a e1).2.2 i o
  have keepP:∀ b o,P.pr b=some o→s'.heap.get? b=some o:=fun b o e=>by
    refine keep b o (I.hP b o e) fun hx=>?_
    rcases lent hx with ⟨j,q,e1,e2⟩ | ⟨q,e1⟩
    · rw [(I.own (some (j,false)) b e2).2] at e; exact jb e
    · rw [(Fr q b e1).2.1] at e; exact jb e
  have was:∀ (k:Nat) (sl:Slot),vs''[k]?=some sl→sl ≠ .un→∃ sl',vs[k]?=some sl'∧sl' ≠ .un:=by
    intro k sl e hn
    rcases gb k sl e with ⟨e1,_⟩ | ⟨i,o,e1,_,_⟩
    · exact ⟨sl,e1,hn⟩
    · obtain ⟨sl',_,e3⟩:=hat i _ e1
      simp only [vf] at e3
      split at e3
      · rename_i ob hob; exact ⟨_,hob,by simp⟩
      · exact jb e3
  refine ⟨sh,B',F,x1,?_,?_,fun a ha=>⟨(lo a ha).2,?_,fun i o=>?_⟩,fun a ha=>(lo a ha).1⟩
  · refine ⟨I.ev,fun b o e=>x1.le _ _ (I.base b o e),hB',I.hR,keepP,I.above,by rw [yC hb]; exact I.len,?_,I.pin,?_,?_,?_,?_,?_,I.apart⟩
    · obtain ⟨m,hm,q⟩:=I.ns
      refine ⟨m,hm.at' fun o e=>keepOwn (i:=none) rfl (by simp) o e,fun k x vk e ev sl e' hn=>?_⟩
      obtain ⟨sl',e2,hn'⟩:=was k sl e' hn
      exact q k x vk e ev sl' e2 hn'
    · intro k y e
      obtain ⟨ov,⟨o,ho,hd⟩,q⟩:=I.cl k y e
      refine ⟨ov,⟨o,keepOwn (i:=some (k,true)) ⟨⟨y,e⟩,rfl⟩ (by simp) o ho,hd⟩,fun sl e' hn=>?_⟩
      obtain ⟨sl',e2,hn'⟩:=was k sl e' hn
      exact q sl' e2 hn'
    · intro k y e
      obtain ⟨o,ho,q⟩:=I.fr k y e
      refine ⟨o,ho,fun sl e' hn=>?_⟩
      obtain ⟨sl',e2,hn'⟩:=was k sl e' hn
      exact q sl' e2 hn'
    · intro k sl e
      rcases gb k sl e with ⟨e1,hn⟩ | ⟨i,o,e1,e2,rfl⟩
      · exact (I.slots k sl e1).step x1.le fun a ha o eo=>keepOwn (i:=some (k,false)) ha (fun j hj q=>by injection hj with hj; injection hj with ee2 _; subst ee2; exact hn q) o eo
      · rcases hargs i _ e2 with q | q
        · injection q
        · have ex:=R.rep i _ e1
          rw [at' i,e1,ex.1] at q
          exact q
    · intro k hk
      exact I.out k (by rw [yC hb] at hk; exact hk)
    · intro i a o
      obtain ⟨ob,e⟩:=I.ownAt o
      exact ⟨(x1.eq a ob e).trans (I.own i a o).1,(I.own i a o).2⟩
  · cases v with
    | pv p=>injection hv with hv; subst hv; exact hv'
    | ob o=>injection hv with hv; subst hv; exact hv'
    | _=>exact jb hv
  · cases e:P.pr a with
    | none=>rfl
    | some o=>have:=I.hP a o e; rw [(lo a ha).1] at this; exact jb this
  · obtain ⟨ob,e⟩:=I.ownAt o
    rw [(lo a ha).1] at e; exact jb e
end
section
variable {g:G} {B B':PM} {P:PX} {env:Env} {ks:List (Str×VK)} {vs vs':VS} {h h':Heap} {val val':Nat→Value} {foot foot':Nat→List Addr} {cel:Nat→Addr} {s s':Shared} {A:Around} {r:Nat}
theorem Den.mono {r':Nat} {e:Expr} {f:Ev} (h:r≤r') (d:Den g r ks e f):Den g r' ks e f:=fun A B P env s vs val foot cel v vs' e R I=>d A B P env s vs val foot cel v vs' e (R.mono h) I
inductive RepK (g:G) (B:PM) (h:Heap) (val:Nat→Value):List AVal→List Value→List (List Addr)→Prop
  | nil:RepK g B h val [] [] []
  | last {a x F}:RepA g B h val a x F→RepK g B h val [a] [x] [F]
  | cons {a x as xs Fs}:RepA g B h val a x []→(∀ o,a ≠ .obj o)→RepK g B h val as xs Fs→RepK g B h val (a::as) (x::xs) ([]::Fs)
theorem RepK.full:∀ {as xs Fs},RepK g B h val as xs Fs→RepF g B h val as xs Fs
  | _,_,_,.nil=>⟨rfl,rfl,fun i a e=>by simp at e,fun i j a e=>by simp at e⟩
  | _,_,_,.last r=>⟨rfl,rfl,fun i a e=>by
      cases i with
      | zero=>simp at e; subst e; exact r
      | succ i=>simp at e,fun i j a e e'=>by
      cases i with
      | zero=>cases j with
        | zero=>rfl
        | succ j=>simp at e'
      | succ i=>simp at e⟩
  | _,_,_,.cons r n rs=>by
    have q:=rs.full
    refine ⟨by simp [q.lenX],by simp [q.lenF],fun i a e=>?_,fun i j a e e'=>?_⟩
    · cases i with
      | zero=>simp at e; subst e; exact r
      | succ i=>simpa using q.rep i a (by simpa using e)
    · cases i with
      | zero=>simp at e
      | succ i =>
        cases j with
        | zero=>simp at e'
        | succ j=>exact congrArg (·+1) (q.apart i j a (by simpa using e) (by simpa using e'))
noncomputable def yX:List Ev→VS→Option (List AVal×VS)
  | [],vs=>some ([],vs)
  | [f],vs=>(f vs).map fun p=>([p.1],p.2)
  | f::fs,vs=>(f vs).bind fun p=>(frz p.1).bind fun a=>(yX fs p.2).map fun r=>(a::r.1,r.2)
inductive KPost (g:G) (P:PX) (env:Env) (ks:List (Str×VK)) (cel:Nat→Addr) (B:PM) (s:Shared) (val:Nat→Value) (foot:Nat→List Addr) (as:List AVal) (vs':VS) (xs:List Value) (s':Shared):Prop
  | mk (sh:Sh s s') (B':PM) (Fs:List (List Addr)) (e:Ext B B' s.heap) (I:Iv g B' P env ks vs' s'.heap val foot cel) (R:RepK g B' s'.heap val as xs Fs) (Fr:∀ i,Fresh B' P env.locals ks foot cel (Fs.getD i []))
theorem dens_argsK {pos:Pos}:∀ {es:List Expr} {fs:List Ev},Dens g r ks es fs→∀ {A:Around} {B:PM} {P:PX} {env:Env} {s:Shared} {vs:VS} {val:Nat→Value} {foot:Nat→List Addr} {cel:Nat→Addr} {l:List AVal} {vs':VS},
    yX fs vs=some (l,vs')→Room A r→Iv g B P env ks vs s.heap val foot cel →
    wpAny (model g.prog g.w) A (spliced (backTo pos (starEach es env))) (KPost g P env ks cel B s val foot l vs') No s
  | _,_,.nil=>by
    rename_i A B P env s vs val foot cel l vs'
    intro h R I
    injection h with h; injection h with ee2 ee3; subst ee2; subst ee3
    exact wpAny_items_nil ⟨.refl _,B,[],.refl _ _,I,.nil,fun i a ha=>by simp at ha⟩
  | _,_,.cons (fs:=[]) d he ds=>by
    rename_i A B P env s vs val foot cel l vs' y0 y1 y2
    intro h R I
    obtain ⟨p,h1,h2⟩:=Option.map_eq_some_iff.mp h
    injection h2 with ee4 ee5; subst ee4; subst ee5
    refine wpAny_items_cons (wpAny_mono (d A B P env s vs val foot cel p.1 p.2 h1 R I) (fun x s₁ e=>?_) fun _ _ f=>f) (he env)
    revert e
    refine EPost.rev fun sh1 B1 F x1 I1 R1 Fr lo=>?_
    cases ds
    refine wpAny_items_nil ⟨sh1,B1,[F],x1,I1,.last R1,fun i=>?_⟩
    cases i with
    | zero=>exact Fr
    | succ i=>exact fun a ha=>by simp at ha
  | _,_,.cons (fs:=f'::fs') d he ds=>by
    rename_i A B P env s vs val foot cel l vs' y0 y1 y2
    intro h R I
    revert h
    refine jc fun p h1 h=>?_
    revert h
    refine jc fun q h2 h=>?_
    obtain ⟨w,h3,h4⟩:=Option.map_eq_some_iff.mp h
    injection h4 with ee6 ee7; subst ee6; subst ee7
    refine wpAny_items_cons (wpAny_mono (d A B P env s vs val foot cel p.1 p.2 h1 R I) (fun x s₁ e=>?_) fun _ _ f=>f) (he env)
    refine EPost.frozeE e h2 fun sh1 B1 x1 I1 R1=>?_
    refine wpAny_mono (dens_argsK ds (l:=w.1) (vs':=w.2) h3 R I1) (fun xs s₂ t=>?_) fun _ _ f=>f
    obtain ⟨sh2,B2,Fs,x2,I2,R2,Fr2⟩:=t
    refine ⟨sh1.trans sh2,B2,[]::Fs,x1.trans x2 sh1.size,I2,.cons (R1.keep (yD h2) x2.le) (yD h2) R2,fun i=>?_⟩
    cases i with
    | zero=>exact fun a ha=>by simp at ha
    | succ i=>simpa using Fr2 i
noncomputable def jt (n:Nat) (F:jw) (fs:List Ev):Ev:=fun vs=>(yX fs vs).bind fun p=>if p.1.length=n∧vJ p.1=true then
  (jU p.2 p.1).bind fun sls=>(F sls).bind fun q=>(yq p.1 q.2 p.2).bind fun vs2=>(vR q.1).map fun w=>(w,vs2) else none
theorem evalArgs_nilS {M:Model} {E:Value→Shared→Prop} {f:Value} {Q:Args→Shared→Prop} (h:wpAny M A (spliced []) (fun vs s'=>Q ⟨vs,[]⟩ s') E s):wpAny M A (evalArgs f true [] []) Q E s:=by
  unfold evalArgs
  show wpAny M A (spliced [] >>= _) Q E s
  refine wpAny_bind (wpAny_mono h (fun vs s' h'=>?_) fun _ _ x=>x)
  refine wpAny_bind (wpAny_pure ?_)
  refine wpAny_holding ?_
  exact wpAny_bind (wpAny_pure (wpAny_bind (wpAny_pure (wpAny_pure h'))))
theorem callF {pos:Pos} {fa:Addr} {o:Obj} {fd:FuncData} (hd:o.data=.func fd) {es:List Expr} {fs:List Ev} (ds:Dens g r ks es fs) {M:Model} {E:Value→Shared→Prop} {Q:Value→Shared→Prop}
    (h:wpAny M A (spliced (backTo pos (starEach es env))) (fun xs s₁=>s₁.heap.get? fa=some o∧wpAny M A (call (.ref fa) xs) Q E s₁) E s):wpAny M A (callWith pos (.ref fa) [] (backTo pos (starEach es env)) []) Q E s:=by
  cases ds with
  | nil =>
    exact callWith_function (o:=o) (fd:=fd) (evalArgs_nilS (wpAny_mono h (fun xs s₁ q=>⟨⟨q.1,hd⟩,q.2⟩) fun _ _ x=>x))
  | cons d he ds =>
    rw [he] at h ⊢
    exact callWith_function (o:=o) (fd:=fd) (evalArgs_plain (wpAny_mono h (fun xs s₁ q=>⟨⟨q.1,hd⟩,q.2⟩) fun _ _ x=>x))
theorem den_call {k:Nat} {x:Str} {p pos:Pos} {fa:Addr} {o:Obj} {fd:FuncData} {ps:List Str} {F:jw} {es:List Expr} {fs:List Ev} {n r':Nat} (ok:GOk g) (hk:ks[k]?=some (x,VK.glo)) (hv:g.mg x=some (.ref fa))
    (ho:g.h₀.get? fa=some o) (hd:o.data=.func fd) (sp:FnD g r fa fd ps F) (ds:Dens g r' ks es fs) (hr:r≤r') (hbind:∀ s xs,xs.length=n→BindsTo s fd ⟨xs,[]⟩ (ps.zip xs))
    (hx:(x == ("__debug__" : Str))=false:=by decide):Den g r' ks (.Call (.Name x p) es [] pos) (jt n F fs):=by
  intro A B P env s vs val foot cel v vs' h R I
  revert h
  refine jc fun q h1 h=>?_
  split at h
  case isFalse=>exact jb h
  rename_i hq
  revert h
  refine jc fun sls h2 h=>?_
  revert h
  refine jc fun t h3 h=>?_
  revert h
  refine jc fun vs2 h4 h=>?_
  obtain ⟨w,h5,h6⟩:=Option.map_eq_some_iff.mp h
  injection h6 with ee8 ee9; replace ee8:=ee8.symm; subst ee8; replace ee9:=ee9.symm; subst ee9
  refine Call_Name rfl (glob_con (k:=0) (v:=.own 0) (jj ok hk (.inl hv) hx) R I fun s1 B1 sh1 x1 I1=>callF hd ds (wpAny_mono (dens_argsK ds (l:=q.1) (vs':=q.2) h1 R I1) (fun xs s2 u=>?_) fun _ _ f=>f))
  obtain ⟨sh2,B2,Fs,x2,I2,R2,Fr2⟩:=u
  have RF:=R2.full
  refine ⟨I2.keep0 _ _ ho,?_⟩
  refine wpAny_mono (sp A B2 _ s2 sls ⟨xs,[]⟩ xs _ t.1 t.2 h3 (R.mono hr) (call_in I2 RF h2 hq.2 Fr2) (hbind s2 xs (by rw [RF.lenX]; exact hq.1))) (fun y s3 e=>?_) fun _ _ f=>f
  exact ((call_out I2 RF h2 Fr2 h4 h5 e).from sh2 x2).from sh1 x1
end
section
variable {g:G} {B B':PM} {P:PX} {env:Env} {ks:List (Str×VK)} {vs vs':VS} {h h':Heap} {val val':Nat→Value} {foot foot':Nat→List Addr} {cel:Nat→Addr} {s s':Shared} {A:Around} {r:Nat}
theorem Iv.growBoth (I:Iv g B P env ks vs h val foot cel) {F:List Addr} (Fr:Fresh B P env.locals ks foot cel F) (k:∀ b o,b ∉ F→h.get? b=some o→h'.get? b=some o) (x:Ext B B' h)
    (hB':∀ b o,B' b=some o→h'.get? b=some o):Iv g B' P env ks vs h' val foot cel where
  ev:=I.ev
  base:=fun b o e=>x.le _ _ (I.base b o e)
  hB:=hB'
  hR:=I.hR
  hP:=fun b o e=>k b o (fun hb=>by rw [(Fr b hb).2.1] at e; exact jb e) (I.hP b o e)
  above:=I.above
  len:=I.len
  ns:=let ⟨m,hm,q⟩:=I.ns; ⟨m,hm.at' fun o e=>k _ o (fun hb=>(Fr _ hb).2.2 none rfl) e,q⟩
  pin:=I.pin
  cl:=fun i y e=>let ⟨ov,⟨o,ho,hd⟩,q⟩:=I.cl i y e; ⟨ov,⟨o,k _ o (fun hb=>(Fr _ hb).2.2 (some (i,true)) ⟨⟨y,e⟩,rfl⟩) ho,hd⟩,q⟩
  fr:=I.fr
  slots:=fun i sl e=>(I.slots i sl e).step x.le fun a ha o q=>k a o (fun hb=>(Fr _ hb).2.2 (some (i,false)) ha) q
  out:=I.out
  own:=fun i a o=>⟨let ⟨_,ho⟩:=I.ownAt o; (x.eq a _ ho).trans (I.own i a o).1,(I.own i a o).2⟩
  apart:=I.apart
theorem Iv.freshOf {F:List Addr} {h₁ : Heap} (I:Iv g B (P.plus h₁ F) env ks vs h val foot cel) (hs:∀ a∈F,∃ o,h₁.get? a=some o) (hP:∀ a∈F,P.pr a=none) (hB:∀ a∈F,B a=none):Fresh B P env.locals ks foot cel F:=by
  intro a ha
  refine ⟨hB a ha,hP a ha,fun i o=>?_⟩
  obtain ⟨ob,e⟩:=hs a ha
  have q:=(I.own i a o).2
  rw [yL ha e] at q; exact someNo q
noncomputable def AsOk (g:G) (ks:List (Str×VK)) (target:Expr) (asg:Asg) (B:PM) (v:Value) (p:PV) (h:Heap):Prop :=
  ∀ (A:Around) (B':PM) (P:PX) (env:Env) (s:Shared) (vs:VS) (val:Nat→Value) (foot:Nat→List Addr) (cel:Nat→Addr) (vs':VS),s.heap=h→asg p vs=some vs'→A.handled=none→(∀ a o,B a=some o→B' a=some o) →
    Iv g B' P env ks vs s.heap val foot cel→wpAny (model g.prog g.w) A (PySem.assign target env v) (fun _ s'=>Sh s s'∧∃ val' foot',Iv g B' P env ks vs' s'.heap val' foot' cel) No s
structure LpOf (g:G) (B PL:PM) (ks:List (Str×VK)) (target:Expr) (asg:Asg) (it:Addr) (items:List PV) (F:List Addr) (St:Nat→Heap→Prop):Prop where
  here:∀ i h,St i h→∀ a∈F,∃ o,h.get? a=some o
  item:∀ (A:Around),A.handled=none→∀ (i:Nat) (hlt:i<items.length) (s:Shared),St i s.heap→wpAny (model g.prog g.w) A (pyNext (.ref it)) (fun r s₁=>∃ v,r=some v ∧
    wpAny (model g.prog g.w) A (letOwnedTupleGo target (.ref it) v) (fun _ s₂=>∃ h' t',s₂={ s with heap:=h',toks:=t' }∧(∀ b o,b ∉ F→s.heap.get? b=some o→h'.get? b=some o)∧St (i+1) h'∧AsOk g ks target asg B v items[i] h') No s₁) No s
  done:∀ (A:Around),A.handled=none→∀ (s:Shared),St items.length s.heap→wpAny (model g.prog g.w) A (pyNext (.ref it)) (fun r s₁=>r=none∧∃ h' t',s₁={ s with heap:=h',toks:=t' }∧(∀ b o,b ∉ F→s.heap.get? b=some o→h'.get? b=some o)) No s
  frame:∀ i h h',St i h→(∀ b∈F,∀ o,h.get? b=some o→h'.get? b=some o)→(∀ b o,(B b=some o ∨ PL b=some o)→h'.get? b=some o)→St i h'
  self:∀ (A:Around),A.handled=none→∀ i (s:Shared) (Q:Value→Shared→Prop),St i s.heap→Q (.ref it) s→wpAny (model g.prog g.w) A (pyIter (.ref it)) Q No s
noncomputable def Lp (g:G) (B PL:PM) (ks:List (Str×VK)) (target:Expr) (asg:Asg) (it:Addr) (items:List PV) (F:List Addr) (h:Heap):Prop :=
  ∃ St,St 0 h∧LpOf g B PL ks target asg it items F St
noncomputable abbrev Em:=VS→Option (List PV×VS)
noncomputable def jJ (asg:Asg) (ts:Te) (inner:Em):List PV→Em
  | [],vs=>some ([],vs)
  | p::ps,vs=>(asg p vs).bind fun v1=>(ts v1).bind fun q=>if q.1 then (inner q.2).bind fun l1=>(jJ asg ts inner ps l1.2).map fun l2=>(l1.1++l2.1,l2.2) else jJ asg ts inner ps q.2
noncomputable def DenTs (g:G) (r:Nat) (ks:List (Str×VK)) (ifs:List Expr) (t:Te):Prop :=
  ∀ A B P env s vs val foot cel b vs',t vs=some (b,vs')→Room A r→Iv g B P env ks vs s.heap val foot cel →
    wpAny (model g.prog g.w) A (forIn ifs true fun c r=>if r=true then do let ok ← PySem.isTrue c env (eval c env); pure (ForInStep.yield ok) else pure (ForInStep.yield r)) (TPost g P env ks cel B s val foot b vs') No s
theorem ye:DenTs g r ks [] (jC true):=by
  intro A B P env s vs val foot cel b vs' h R I
  injection h with h; injection h with ee0 ee1; subst ee0; subst ee1
  exact wpAny_pure ⟨rfl,.refl _,B,.refl _ _,I⟩
theorem dts_one {c:Expr} {t:Te} (d:DenT g r ks c t):DenTs g r ks [c] t:=by
  intro A B P env s vs val foot cel b vs' h R I
  exact wpAny_tests_one (d A B P env s vs val foot cel b vs' h R I)
noncomputable def emitK (elt:Expr) (gens:List Comprehension) (e:Expr) (depth:Nat) (acc:Value) (env:Env) (k:Sem Fin):Sem Fin :=
  match gens[depth]? with
  | some g'=>do
    let x ← eval g'.iter env
    standAt g'.iter.pos
    if g'.is_async != 0 then do
      let x ← foldedIterable g'.iter x
      let it ← holding [x] (if g'.is_async != 0 then asyncIter x else pyIter x)
      let _ ← runOwn (.compStart e depth it acc env) env
      k
    else do
      let x ← foldedSetIterable g'.iter env x
      let it ← holding [x] (if g'.is_async != 0 then asyncIter x else pyIter x)
      let _ ← runOwn (.compStart e depth it acc env) env
      k
  | none=>do
    (do let v ← eval elt env
        let _ ← call (.builtin "list.append") [acc,v]
        pure ())
    k
theorem compTurn_is {elt:Expr} {gens:List Comprehension} {scope:Scope} {pos:Pos} {depth:Nat} {target iter:Expr} {ifs:List Expr} (hg:gens[depth]?=some ⟨target,iter,ifs,0⟩) (it acc:Value) (env:Env) :
    compTurn (.ListComp elt gens scope pos) depth it acc env=(do
      standAt iter.pos
      match ← pyNext it with
      | none=>pure (.done .next)
      | some v =>
        letOwnedTupleGo target it v
        PySem.assign target env v
        let ok ← forIn ifs true fun c r=>if r=true then do let ok ← PySem.isTrue c env (eval c env); pure (ForInStep.yield ok) else pure (ForInStep.yield r)
        if ok=true then emitK elt gens (.ListComp elt gens scope pos) (depth+1) acc env (again (.compLoop (.ListComp elt gens scope pos) depth it acc env))
        else again (.compLoop (.ListComp elt gens scope pos) depth it acc env)):=by
  unfold compTurn
  dsimp only
  rw [hg]
  rfl
inductive EmPost (g:G) (P:PX) (env:Env) (ks:List (Str×VK)) (cel:Nat→Addr) (B:PM) (s:Shared) (D:Addr) (l:List PV) (vs':VS) (s':Shared):Prop
  | mk (sh:Sh s s') (B':PM) (val':Nat→Value) (foot':Nat→List Addr) (ws:List Value) (n:Nat) (e:Ext B B' s.heap) (I:Iv g B' P env ks vs' s'.heap val' foot' cel) (hD:s'.heap.get? D=some (lobj ws n)) (R:RVs B' l ws) (Fr:Fresh B' P env.locals ks foot' cel [D])
noncomputable def DenE (g:G) (r:Nat) (ks:List (Str×VK)) (elt:Expr) (gens:List Comprehension) (scope:Scope) (pos:Pos) (depth:Nat) (em:Em):Prop :=
  ∀ A B P env s vs val foot cel D ws n l0 l vs',em vs=some (l,vs')→l0.length+l.length≤100000→Room A r→Iv g B P env ks vs s.heap val foot cel→s.heap.get? D=some (lobj ws n)→RVs B l0 ws→Fresh B P env.locals ks foot cel [D] →
    ∀ (k:Sem Fin) (Q:Fin→Shared→Prop) (E:Value→Shared→Prop),(∀ s',EmPost g P env ks cel B s D (l0++l) vs' s'→wpAny (model g.prog g.w) A k Q E s') →
    wpAny (model g.prog g.w) A (emitK elt gens (.ListComp elt gens scope pos) depth (.ref D) env k) Q E s
noncomputable def yd (f:Ev):Em:=fun vs=>(f vs).bind fun p=>(pvOf p.1).map fun q=>([q],p.2)
theorem jH {elt:Expr} {gens:List Comprehension} {scope:Scope} {pos:Pos} {depth:Nat} {f:Ev} (hg:gens[depth]?=none) (d:Den g r ks elt f):DenE g r ks elt gens scope pos depth (yd f):=by
  intro A B P env s vs val foot cel D ws n l0 l vs' h hl R I hD hr Fr K Q E hK
  revert h
  refine jc fun p h1 h=>?_
  obtain ⟨q,h2,h3⟩:=Option.map_eq_some_iff.mp h
  injection h3 with ee2 ee3; subst ee2; subst ee3
  unfold emitK
  rw [hg]
  have hDp:∀ a∈[D],P.pr a=none:=fun a ha=>(Fr a ha).2.1
  have hDs:∀ a∈[D],∃ o,s.heap.get? a=some o:=fun a ha=>by simp at ha; subst ha; exact ⟨_,hD⟩
  refine wpAny_bind (wpAny_bind (wpAny_mono (d A B (P.plus s.heap [D]) env s vs val foot cel p.1 p.2 h1 R (I.protect Fr)) (fun x s₁ e=>?_) fun _ _ f=>f.elim))
  refine EPost.frozeE e (yg h2) fun sh1 B1 x1 I1 R1=>?_
  have hD1:s₁.heap.get? D=some (lobj ws n):=I1.hP D _ (yL (by simp) hD)
  have I1':Iv g B1 P env ks p.2 s₁.heap val foot cel:=I1.unprotect I.hR hDp
  have Fr1:Fresh B1 P env.locals ks foot cel [D]:=I1.freshOf hDs hDp fun a ha=>by
    simp at ha; subst ha; exact (x1.eq _ _ hD).trans (Fr _ (by simp)).1
  have hlen:=hr.length
  refine wpAny_bind (wpAny_list_append_plain (items:=ws.toArray) ⟨n,hD1⟩ (fun h' hp hs=>wpAny_pure (hK _ ?_)) (Nat.le_trans (Nat.le_of_eq hlen) (Nat.le_trans (Nat.le_trans (Nat.le_add_right _ _) hl) (by decide))))
  obtain ⟨n',hp⟩:=hp
  have k:∀ b o,b ∉ [D]→s₁.heap.get? b=some o→h'.get? b=some o:=fun b o hb e=>(hs.2 b (by simpa using hb)).trans e
  have hp':h'.get? D=some (lobj (ws++[x]) n'):=by rw [hp]; simp [lobj]
  refine ⟨sh1.trans ⟨h',_,rfl,fun a o e=>?_⟩,B1,val,foot,ws++[x],n',x1,I1'.growBut Fr1 k,hp',(hr.mono x1.le).append (.cons R1.1 .nil),Fr1⟩
  by_cases ha:a∈[D]
  · simp at ha; subst ha; exact ⟨_,hp'⟩
  · exact ⟨o,k a o ha e⟩
inductive CompInv (g:G) (P:PX) (env:Env) (ks:List (Str×VK)) (cel:Nat→Addr) (B₀ B:PM) (s₀ : Shared) (asg:Asg) (ts:Te) (inner:Em) (items l0 l:List PV) (vs':VS) (St:Nat→Heap→Prop) (F:List Addr) (D:Addr) (k:Nat) (s':Shared):Prop
  | mk (i:Nat) (ws':List Value) (n':Nat) (vs1:VS) (val1:Nat→Value) (foot1:Nat→List Addr) (B1:PM) (l1 l2:List PV):k=items.length+1 - i→i≤items.length→jJ asg ts inner (items.drop i) vs1=some (l2,vs')→l=l1++l2→Sh s₀ s'→Ext B₀ B1 s₀.heap→(∀ a o,B a=some o→B1 a=some o) →
    Iv g B1 P env ks vs1 s'.heap val1 foot1 cel→St i s'.heap→Fresh B1 P env.locals ks foot1 cel F→s'.heap.get? D=some (lobj ws' n')→RVs B1 (l0++l1) ws'→Fresh B1 P env.locals ks foot1 cel [D]→CompInv g P env ks cel B₀ B s₀ asg ts inner items l0 l vs' St F D k s'
theorem comp_loop {elt:Expr} {gens:List Comprehension} {scope:Scope} {pos:Pos} {depth:Nat} {target iter:Expr} {ifs:List Expr} {asg:Asg} {ts:Te} {inner:Em} (hg:gens[depth]?=some ⟨target,iter,ifs,0⟩)
    (dt:DenTs g r ks ifs ts) (di:DenE g r ks elt gens scope pos (depth+1) inner) {D it:Addr} {ws:List Value} {n:Nat} {l0 l items:List PV} {F:List Addr} {PL:PM} (h0:jJ asg ts inner items vs=some (l,vs')) (hl:l0.length+l.length≤100000)
    (R:Room A r) (I:Iv g B P env ks vs s.heap val foot cel) (L:Lp g B PL ks target asg it items F s.heap) (hPL:∀ b o,PL b=some o→P.pr b=some o) (FrF:Fresh B P env.locals ks foot cel F)
    (hD:s.heap.get? D=some (lobj ws n)) (hr:RVs B l0 ws) (FrD:Fresh B P env.locals ks foot cel [D]) (hDF:D ∉ F) {s₀ : Shared} {B₀ : PM} (shA:Sh s₀ s) (xA:Ext B₀ B s₀.heap) (FrA:∀ a∈F,s₀.heap.get? a=none) :
    codeAny (model g.prog g.w) A (.compLoop (.ListComp elt gens scope pos) depth (.ref it) (.ref D) env) (fun res s'=>res=.ok .next∧EmPost g P env ks cel B₀ s₀ D (l0++l) vs' s') s:=by
  obtain ⟨St,st0,L⟩:=L
  refine codeAny_loop rfl (CompInv g P env ks cel B₀ B s₀ asg ts inner items l0 l vs' St F D) ?_ (items.length+1)
    ⟨0,ws,n,vs,val,foot,B,[],l,rfl,Nat.zero_le _,h0,rfl,shA,xA,fun _ _ e=>e,I,st0,FrF,hD,by simpa using hr,FrD⟩
  rintro k s1 ⟨i,ws1,n1,vs1,val1,foot1,B1,l1,l2,rfl,hi,h,rfl,sh1,x1,le1,I1,st,FrF1,hD1,hr1,FrD1⟩
  show wpAny _ A ((compTurn (.ListComp elt gens scope pos) depth (.ref it) (.ref D) env).onRaise (fun x=>do noteFrame x env; theTreesLotGoes x)) _ _ s1
  refine wpAny_noted ?_
  rw [compTurn_is hg]
  refine wpAny_bind (wpAny_standAt (wpAny_bind ?_))
  have pF:∀ a∈F,P.pr a=none:=fun a ha=>(FrF a ha).2.1
  have pD:∀ a∈[D],P.pr a=none:=fun a ha=>(FrD a ha).2.1
  have pDF:∀ a∈D::F,P.pr a=none:=fun a ha=>by
    rcases List.mem_cons.mp ha with rfl | ha
    · exact pD _ (by simp)
    · exact pF a ha
  by_cases hlt:i<items.length
  · have hd:items.drop i=items[i]::items.drop (i+1):=List.drop_eq_getElem_cons hlt
    rw [hd] at h
    revert h
    refine jc fun v1 h4 h=>?_
    obtain ⟨⟨b,v2⟩,h5,h⟩:=jd h
    refine wpAny_mono (L.item A R.1 i hlt s1 st) (fun rr s2 q=>?_) fun _ _ f=>f.elim
    obtain ⟨v,rfl,q⟩:=q
    refine wpAny_bind (wpAny_mono q (fun _ s3 q=>?_) fun _ _ f=>f.elim)
    obtain ⟨h3,t3,rfl,k3,st3,ao⟩:=q
    have I3:Iv g B1 P env ks vs1 h3 val1 foot1 cel:=I1.growBut FrF1 k3
    have hD3:h3.get? D=some (lobj ws1 n1):=k3 D _ hDF hD1
    have hs3:∀ a∈D::F,∃ o,h3.get? a=some o:=fun a ha=>by
      rcases List.mem_cons.mp ha with rfl | ha
      · exact ⟨_,hD3⟩
      · exact L.here _ _ st3 a ha
    have FrDF:Fresh B1 P env.locals ks foot1 cel (D::F):=fun a ha=>by
      rcases List.mem_cons.mp ha with rfl | ha
      · exact FrD1 _ (by simp)
      · exact FrF1 a ha
    have sh3:Sh s1 { s1 with heap:=h3,toks:=t3 }:=⟨h3,t3,rfl,fun a o e=>by
      by_cases ha:a∈F
      · exact L.here _ _ st3 a ha
      · exact ⟨o,k3 a o ha e⟩⟩
    refine wpAny_bind (wpAny_mono (ao A B1 (P.plus h3 (D::F)) env { s1 with heap:=h3,toks:=t3 } vs1 val1 foot1 cel v1 rfl h4 R.1 le1 (I3.protect FrDF)) (fun _ s4 q=>?_) fun _ _ f=>f.elim)
    obtain ⟨sh4,val4,foot4,I4⟩:=q
    refine wpAny_bind (wpAny_mono (dt A B1 (P.plus h3 (D::F)) env s4 v1 val4 foot4 cel b v2 h5 R I4) (fun bb s5 q=>?_) fun _ _ f=>f.elim)
    obtain ⟨rfl,sh5,B5,x5,I5⟩:=q
    have I5':Iv g B5 P env ks v2 s5.heap val4 foot4 cel:=I5.unprotect I.hR pDF
    have bN:∀ a∈D::F,B5 a=none:=fun a ha=>by
      obtain ⟨o,e⟩:=hs3 a ha
      obtain ⟨o4,e4⟩:=sh4.size a o e
      exact (x5.eq _ _ e4).trans (FrDF a ha).1
    have FrDF5:Fresh B5 P env.locals ks foot4 cel (D::F):=I5.freshOf hs3 pDF bN
    have hD5:s5.heap.get? D=some (lobj ws1 n1):=I5.hP D _ (yL (by simp) hD3)
    have le5:∀ a o,B a=some o→B5 a=some o:=fun a o e=>x5.le _ _ (le1 a o e)
    have sh15:=((sh1.trans sh3).trans sh4).trans sh5
    have x15:Ext B₀ B5 s₀.heap:=x1.trans x5 ((sh1.trans sh3).trans sh4).size
    have keepF:∀ {h':Heap} {B':PM} {val' foot' vs''},(∀ a o,B a=some o→B' a=some o)→Iv g B' P env ks vs'' h' val' foot' cel→(∀ a∈F,∀ o,h3.get? a=some o→h'.get? a=some o)→St (i+1) h':=fun le' I' kf =>
      L.frame (i+1) h3 _ st3 kf fun c o hc=>by
        rcases hc with hc | hc
        · exact I'.hB _ _ (le' _ _ hc)
        · exact I'.hP _ _ (hPL _ _ hc)
    cases bb with
    | false =>
      simp only [Bool.false_eq_true,if_false] at h ⊢
      refine wpAny_pure ⟨rfl,items.length+1 - (i+1),Nat.sub_lt_sub_left (Nat.lt_succ_of_lt hlt) (Nat.lt_succ_self i),i+1,ws1,n1,v2,val4,foot4,B5,l1,l2,rfl,hlt,h,rfl,sh15,x15,le5,I5',?_,fun a ha=>FrDF5 a (List.mem_cons_of_mem _ ha),hD5,hr1.mono x5.le,fun a ha=>FrDF5 a (by simp at ha; simp [ha])⟩
      exact keepF le5 I5' fun a ha o e=>I5.hP a o (yL (List.mem_cons_of_mem _ ha) e)
    | true =>
      simp only [if_true] at h ⊢
      obtain ⟨⟨la,v6⟩,h6,h⟩:=jd h
      obtain ⟨⟨lb,v7⟩,h7,h8⟩:=Option.map_eq_some_iff.mp h
      injection h8 with ee4 ee5; subst ee4; subst ee5
      have FrF5:Fresh B5 P env.locals ks foot4 cel F:=fun a ha=>FrDF5 a (List.mem_cons_of_mem _ ha)
      have hs5:∀ a∈F,∃ o,s5.heap.get? a=some o:=fun a ha=>by
        obtain ⟨o,e⟩:=hs3 a (List.mem_cons_of_mem _ ha)
        exact ⟨o,I5.hP a o (yL (List.mem_cons_of_mem _ ha) e)⟩
      have FrD5:Fresh B5 (P.plus s5.heap F) env.locals ks foot4 cel [D]:=fun a ha=>by
        have q:=FrDF5 a (by simp at ha; simp [ha])
        refine ⟨q.1,?_,q.2.2⟩
        show (if a∈F then s5.heap.get? a else P.pr a)=none
        rw [if_neg]
        · exact q.2.1
        · simp at ha; subst ha; exact hDF
      refine di A B5 (P.plus s5.heap F) env s5 v2 val4 foot4 cel D ws1 n1 (l0++l1) la v6 h6 (by rw [List.length_append,List.length_append] at hl; rw [List.length_append,Nat.add_assoc]; exact Nat.le_trans (Nat.add_le_add_left (Nat.add_le_add_left (Nat.le_add_right _ _) _) _) hl) R (I5'.protect FrF5) hD5 (hr1.mono x5.le) FrD5 _ _ _ fun s6 q=>wpAny_pure ?_
      obtain ⟨sh6,B6,val6,foot6,ws6,n6,x6,I6,hD6,hr6,FrD6⟩:=q
      have I6':Iv g B6 P env ks v6 s6.heap val6 foot6 cel:=I6.unprotect I.hR pF
      have FrF6:Fresh B6 P env.locals ks foot6 cel F:=I6.freshOf hs5 pF fun a ha=>by
        obtain ⟨o,e⟩:=hs5 a ha
        exact (x6.eq _ _ e).trans (FrF5 a ha).1
      have le6:∀ a o,B a=some o→B6 a=some o:=fun a o e=>x6.le _ _ (le5 a o e)
      refine ⟨rfl,items.length+1 - (i+1),Nat.sub_lt_sub_left (Nat.lt_succ_of_lt hlt) (Nat.lt_succ_self i),i+1,ws6,n6,v6,val6,foot6,B6,l1++la,lb,rfl,hlt,h7,by simp,sh15.trans sh6,x15.trans x6 sh15.size,le6,I6',?_,FrF6,hD6,by simpa [List.append_assoc] using hr6,fun a ha=>⟨(FrD6 a ha).1,pD a ha,(FrD6 a ha).2.2⟩⟩
      exact keepF le6 I6' fun a ha o e=>by
        have e5:=I5.hP a o (yL (List.mem_cons_of_mem _ ha) e)
        exact I6.hP a o (yL ha e5)
  · have hi':i=items.length:=Nat.le_antisymm hi (Nat.not_lt.mp hlt)
    subst hi'
    rw [List.drop_length] at h
    injection h with h; injection h with ee6 ee7; subst ee6; replace ee7:=ee7.symm; subst ee7
    refine wpAny_mono (L.done A R.1 s1 st) (fun rr s2 q=>?_) fun _ _ f=>f.elim
    obtain ⟨rfl,h3,t3,rfl,k3⟩:=q
    have al:Alive s₀.heap h3:=fun a o e=>by
      obtain ⟨o1,e1⟩:=sh1.size a o e
      exact ⟨o1,k3 a o1 (fun ha=>by rw [FrA a ha] at e; exact jb e) e1⟩
    have shE:Sh s₀ { s1 with heap:=h3,toks:=t3 }:=by
      obtain ⟨hh,tt,rfl,_⟩:=sh1
      exact ⟨h3,t3,rfl,al⟩
    exact wpAny_pure ⟨rfl,shE,B1,val1,foot1,ws1,n1,x1,I1.growBut FrF1 k3,k3 D _ hDF hD1,by simpa using hr1,FrD1⟩
end
section
variable {g:G} {B B':PM} {P:PX} {env:Env} {ks ks':List (Str×VK)} {vs vs':VS} {h h':Heap} {val val':Nat→Value} {foot foot':Nat→List Addr} {cel:Nat→Addr} {s s':Shared} {A:Around} {r:Nat}
theorem Src.lp {PL:PM} {it:Addr} {items:List PV} {target:Expr} {asg:Asg} (S:Src g B PL it items [it] h) (dt:DenG g ks target asg) (hBP:∀ b o,(B b=some o ∨ PL b=some o)→h.get? b=some o)
    (hF:B it=none∧PL it=none):Lp g B PL ks target asg it items [it] h:=by
  obtain ⟨fp,wr,PP,St,W,st0,hwr,hfp,hPP,_,hcl⟩:=S
  have nwr:∀ {b:Addr},b ∉ [it]→b ∉ wr:=fun hb hw=>hb (hwr _ hw)
  have nit:∀ {b:Addr} {o:Obj},(B b=some o ∨ PL b=some o)→b ∉ [it]:=fun hb hi=>by
    simp at hi; subst hi
    rcases hb with hb | hb
    · rw [hF.1] at hb; exact jb hb
    · rw [hF.2] at hb; exact jb hb
  refine ⟨fun i h=>St i h∧∀ b o,(B b=some o ∨ PL b=some o)→h.get? b=some o,⟨st0,hBP⟩,⟨?_,?_,?_,?_,?_⟩⟩
  · intro i h st a ha
    simp at ha; subst ha
    obtain ⟨o,T,ho,_⟩:=hcl i h st.1
    exact ⟨o,ho⟩
  · intro A hh i hlt s st
    refine (W A hh).item i s _ _ hlt st.1 fun x h' tk hx st' k=>⟨x,rfl,?_⟩
    obtain ⟨oi,T,hoi,hTc,hTn⟩:=hcl _ _ st'
    refine letGo_no (s:={ s with heap:=h',toks:=tk }) hoi hTc hTn ⟨h',tk,rfl,fun b o hb e=>k b o (nwr hb) e,⟨st',fun b o hb=>k b o (nwr (nit hb)) (st.2 b o hb)⟩,?_⟩
    intro A2 B2 P2 env2 s2 vs2 val2 foot2 cel2 vs2' e ha hh2 le I2
    exact dt A2 B2 P2 env2 s2 vs2 val2 foot2 cel2 _ x vs2' ha hh2 I2 ((hPP i x hx _ (List.getElem?_eq_getElem hlt)).mono le)
  · intro A hh s st
    exact (W A hh).done s _ _ st.1 fun h' tk k=>⟨rfl,h',tk,rfl,fun b o hb e=>k b o (nwr hb) e⟩
  · intro i h h' st kF kB
    refine ⟨(W { handled:=none } rfl).frame i h h' st.1 fun b hb o e=>?_,kB⟩
    rcases hfp b hb with hbF | ⟨o',ho'⟩
    · exact kF b hbF o e
    · rw [st.2 b o' ho'] at e; injection e with e; replace e:=e.symm; subst e; exact kB b _ ho'
  · intro A hh i s Q st q
    exact (W A hh).self i s Q _ st.1 q
noncomputable def vg (h:Heap) (F:List Addr):PM:=fun b=>if b∈F then none else h.get? b
inductive ItPost (all:Bool) (g:G) (P:PX) (env:Env) (ks ks':List (Str×VK)) (cel:Nat→Addr) (B:PM) (s:Shared) (val:Nat→Value) (foot:Nat→List Addr) (vs':VS) (target:Expr) (asg:Asg) (items:List PV) (y:Value) (s₂ : Shared):Prop
  | mk (it:Addr) (F:List Addr) (B':PM):y=.ref it→Sh s s₂→Ext B B' s.heap→Iv g B' P env ks vs' s₂.heap val foot cel→Lp g B' (if all then vg s₂.heap F else P.rd) ks' target asg it items F s₂.heap→Fresh B' P env.locals ks foot cel F→(∀ a∈F,s.heap.get? a=none)→ItPost all g P env ks ks' cel B s val foot vs' target asg items y s₂
noncomputable def DenI (all:Bool) (g:G) (r:Nat) (ks ks':List (Str×VK)) (target:Expr) (asg:Asg) (iter:Expr) (fi:Em):Prop :=
  ∀ A B P env s vs val foot cel items vs',fi vs=some (items,vs')→Room A r→Iv g B P env ks vs s.heap val foot cel →
    wpAny (model g.prog g.w) A (eval iter env) (fun x s₁=>wpAny (model g.prog g.w) A (pyIter x) (ItPost all g P env ks ks' cel B s val foot vs' target asg items) No s₁) No s
noncomputable def srcItems (all:Bool) (vs:VS) (v:AVal):Option (List PV):=match vq vs v with
  | some l=>some l
  | none=>if all then jy vs v else none
noncomputable def evIt (all:Bool) (f:Ev):Em:=fun vs=>(f vs).bind fun p=>(frz p.1).bind fun v=>(srcItems all p.2 v).map fun l=>(l,p.2)
theorem ya {all:Bool} {target iter:Expr} {asg:Asg} {f:Ev} (d:Den g r ks iter f) (dt:DenG g ks' target asg):DenI all g r ks ks' target asg iter (evIt all f):=by
  intro A B P env s vs val foot cel items vs' h R I
  revert h
  refine jc fun p h1 h=>?_
  revert h
  refine jc fun v h2 h=>?_
  obtain ⟨l,h3,h4⟩:=Option.map_eq_some_iff.mp h
  injection h4 with ee0 ee1; replace ee0:=ee0.symm; subst ee0; subst ee1
  refine wpAny_mono (d A B P env s vs val foot cel p.1 p.2 h1 R I) (fun x s₁ e=>?_) fun _ _ f=>f
  refine EPost.frozeE e h2 fun sh1 B1 x1 I1 R1=>?_
  have nn:s₁.heap.get? s₁.heap.objs.size=none:=none_of fun _ _ e=>e
  have bn:=I1.bNone (Nat.le_refl s₁.heap.objs.size)
  have fr:Fresh B1 P env.locals ks foot cel [s₁.heap.objs.size]:=fun a ha=>by
    simp at ha; subst ha
    exact ⟨bn.1,bn.2,fun i o=>Nat.lt_irrefl _ (I1.ownLt o)⟩
  have lo:∀ a∈[s₁.heap.objs.size],s.heap.get? a=none:=fun a ha=>by
    simp at ha; subst ha
    cases e:s.heap.get? s₁.heap.objs.size with
    | none=>rfl
    | some o=>obtain ⟨o',e'⟩:=sh1.size _ o e; rw [nn] at e'; exact jb e'
  have fin:∀ o PL,Src g B1 PL s₁.heap.objs.size items [s₁.heap.objs.size] (s₁.heap.push o)→(∀ b o',PL b=some o'→(if all then vg (s₁.heap.push o) [s₁.heap.objs.size] else P.rd) b=some o') →
      ItPost all g P env ks ks' cel B s val foot p.2 target asg items (.ref s₁.heap.objs.size) { s₁ with heap:=s₁.heap.push o }:=by
    intro o PL S hPL
    refine ⟨_,[s₁.heap.objs.size],B1,rfl,sh1.trans ⟨_,s₁.toks,rfl,.of_keep fun _ _ e=>Heap.get?_push_of_some _ e⟩,x1,I1.push o,?_,fr,lo⟩
    refine Src.lp (h:=s₁.heap.push o) ?_ dt ?_ ?_
    · obtain ⟨fp,wr,PP,St,W,st0,hwr,hfp,hPP,q1,hcl⟩:=S
      refine ⟨fp,wr,PP,St,W,st0,hwr,fun b hb=>?_,hPP,q1,hcl⟩
      rcases hfp b hb with q | ⟨o',q | q⟩
      · exact .inl q
      · exact .inr ⟨o',.inl q⟩
      · exact .inr ⟨o',.inr (hPL b o' q)⟩
    · rintro b o' (hb | hb)
      · exact Heap.get?_push_of_some _ (I1.hB b o' hb)
      · cases all with
        | true =>
          have hb:(if b∈[s₁.heap.objs.size] then none else (s₁.heap.push o).get? b)=some o':=hb
          split at hb
          · exact jb hb
          · exact hb
        | false=>exact Heap.get?_push_of_some _ (I1.hP b o' (I1.hR b o' hb))
    · refine ⟨bn.1,?_⟩
      cases all with
      | true=>show (if s₁.heap.objs.size∈[s₁.heap.objs.size] then none else _)=none; rw [if_pos (by simp)]
      | false =>
        show P.rd _=none
        cases e:P.rd s₁.heap.objs.size with
        | none=>rfl
        | some o'=>have:=I1.hR _ _ e; rw [bn.2] at this; exact jb this
  have rest:∀ {o:Obj} {b:Addr} {o':Obj},s₁.heap.get? b=some o'→vg (s₁.heap.push o) [s₁.heap.objs.size] b=some o':=fun {o b o'} e=>by
    show (if b∈[s₁.heap.objs.size] then none else (s₁.heap.push o).get? b)=some o'
    rw [if_neg]
    · exact Heap.get?_push_of_some _ e
    · intro hb; simp at hb; subst hb; rw [nn] at e; exact jb e
  unfold srcItems at h3
  split at h3
  · rename_i l' h3'
    injection h3 with h3; replace h3:=h3.symm; subst h3
    refine iter_src I1 h3' R1 fun o S=>fin o P.rd S fun b o' hb=>?_
    cases all with
    | true=>exact rest (I1.hP _ _ (I1.hR _ _ hb))
    | false=>exact hb
  · cases all with
    | false=>exact jb h3
    | true =>
      obtain ⟨a,ws,n,rfl,hg,hr⟩:=j9 I1 h3 R1
      refine wpAny_pyIter_list (items:=ws.toArray) ⟨_,hg,rfl,n,rfl⟩ ?_
      refine fin _ (vg (s₁.heap.push _) [s₁.heap.objs.size]) (Src.list (n:=n) (Heap.get?_push_of_some _ hg) ⟨_,.inr (rest hg)⟩ hr (Heap.get?_push_size _ rfl) (Nat.ne_of_lt (Heap.lt_size hg))) fun b o' hb=>hb
theorem compStart_go {elt:Expr} {gens:List Comprehension} {scope:Scope} {pos:Pos} {depth:Nat} {target iter:Expr} {ifs:List Expr} (hg:gens[depth]?=some ⟨target,iter,ifs,0⟩) {it acc:Value} {R:Result→Shared→Prop}
    (h0:codeAny (model g.prog g.w) A (.compLoop (.ListComp elt gens scope pos) depth it acc env) R s)
    (h:wpAny (model g.prog g.w) A (pyIter it) (fun it' s'=>codeAny (model g.prog g.w) A (.compLoop (.ListComp elt gens scope pos) depth it' acc env) R s') No s) :
    codeAny (model g.prog g.w) A (.compStart (.ListComp elt gens scope pos) depth it acc env) R s:=by
  refine codeAny_of_tree ?_
  show wpAny _ _ ((compStart (.ListComp elt gens scope pos) depth it acc env).onRaise (fun x=>do noteFrame x env; standAt theWindowsPlace)) _ _ s
  refine wpAny_notedAt ?_
  unfold compStart
  have hc:(clausesOf (.ListComp elt gens scope pos))[depth]?=some ⟨target,iter,ifs,0⟩:=hg
  rw [hc]
  show wpAny _ _ (ask >>= _) _ _ s
  refine wpAny_bind (wpAny_askSetting (wpAny_ite ?_))
  split
  · first
      | exact wpAny_bind (wpAny_pure (wpAny_pure (And.intro rfl h0)))
      | exact wpAny_pure (And.intro rfl h0)
  · first
      | exact wpAny_bind (wpAny_rule (wpAny_bind (wpAny_standAt (wpAny_bind (wpAny_mono h (fun it' s' h'=>wpAny_pure (And.intro rfl h')) fun _ _ x=>x.elim)))))
      | (refine wpAny_bind (wpAny_rule ?_); show wpAny _ _ (standAt iter.pos >>= _) _ _ s; exact wpAny_bind (wpAny_standAt (wpAny_bind (wpAny_mono h (fun it' s' h'=>wpAny_pure (And.intro rfl h')) fun _ _ x=>x.elim))))
end
theorem yF:∀ (names:List (Str×NameKind)) (n:Nat) (acc:List (Str×Addr)),cellsFrom n names acc=cellsFrom n names []++acc
  | [],_,_=>rfl
  | (name,kind)::r,n,acc=>by
    unfold cellsFrom
    split
    · rw [yF r (n+1) ((name,n)::acc),yF r (n+1) [(name,n)]]; simp
    · exact yF r n acc
theorem lookup_append {α : Type}:∀ (l l':List (Str×α)) (x:Str),(l++l').lookup x=(l.lookup x).or (l'.lookup x)
  | [],_,_=>rfl
  | (y,v)::r,l',x=>by
    show List.lookup x ((y,v)::(r++l'))=_
    rw [List.lookup_cons,List.lookup_cons]
    split
    · rfl
    · exact lookup_append r l' x
theorem cellsFrom_mem {x:Str} {c:Addr}:∀ {names:List (Str×NameKind)} {n:Nat} {acc:List (Str×Addr)},(x,c)∈cellsFrom n names acc→(x,c)∈acc ∨ (x,NameKind.cell)∈names
  | [],_,_,h=>.inl h
  | (y,kd)::r,n,acc,h=>by
    unfold cellsFrom at h
    split at h
    · rename_i hk
      rcases cellsFrom_mem h with h | h
      · rcases List.mem_cons.mp h with h | h
        · injection h with ee0 ee1; subst ee0; subst ee1
          have:kd=.cell:=eq_of_beq hk
          subst this; exact .inr List.mem_cons_self
        · exact .inl h
      · exact .inr (List.mem_cons_of_mem _ h)
    · rcases cellsFrom_mem h with h | h
      · exact .inl h
      · exact .inr (List.mem_cons_of_mem _ h)
theorem closureFor_is {scope:Scope} {env:Env} (h:∀ x∈scope.names,x.2=.free→(env.cells.lookup x.1).isSome=true) :
    ∃ cl,closureFor scope env=pure cl∧∀ x,(x,NameKind.free)∈scope.names→cl.lookup x=env.cells.lookup x:=by
  unfold closureFor
  have key:∀ (names:List (Str×NameKind)) (acc:List (Str×Addr)),(∀ x∈names,x.2=.free→(env.cells.lookup x.1).isSome=true)→(∀ x v,acc.lookup x=some v→env.cells.lookup x=some v) →
      ∃ cl,(forIn names acc fun (x:Str×NameKind) (r:List (Str×Addr))=>(if (x.2 == NameKind.free)=true then (do let a ← cellOf env x.1; pure (ForInStep.yield ((x.1,a)::r))) else pure (ForInStep.yield r):Sem (ForInStep (List (Str×Addr)))))=pure cl ∧
        (∀ x v,cl.lookup x=some v→env.cells.lookup x=some v)∧(∀ x,((acc.lookup x).isSome=true ∨ (x,NameKind.free)∈names)→(cl.lookup x).isSome=true):=by
    intro names
    induction names with
    | nil=>intro acc _ ha; exact ⟨acc,rfl,ha,fun x hx=>by rcases hx with hx | hx; exact hx; cases hx⟩
    | cons y r ih =>
      intro acc hn ha
      obtain ⟨y,k⟩:=y
      rw [List.forIn_cons]
      by_cases hk:(k == NameKind.free)=true
      · have hk':k=.free:=eq_of_beq hk
        subst hk'
        obtain ⟨c,hc⟩:=Option.isSome_iff_exists.mp (hn (y,.free) List.mem_cons_self rfl)
        have hc:env.cells.lookup y=some c:=hc
        obtain ⟨cl,e,e1,e2⟩:=ih ((y,c)::acc) (fun x hx=>hn x (List.mem_cons_of_mem _ hx)) (fun x v hx=>by
          rw [List.lookup_cons] at hx
          split at hx
          · rename_i hb; injection hx with hx; subst hx; rw [eq_of_beq hb]; exact hc
          · exact ha x v hx)
        refine ⟨cl,?_,e1,fun x hx=>?_⟩
        · show ((if _ then _ else _) >>= _)=_
          rw [if_pos hk]
          show ((cellOf env y >>= _) >>= _)=_
          unfold cellOf
          rw [hc]
          exact e
        · refine e2 x ?_
          rcases hx with hx | hx
          · left
            rw [List.lookup_cons]
            split
            · rfl
            · exact hx
          · rcases List.mem_cons.mp hx with hx | hx
            · injection hx with ee2 _; replace ee2:=ee2.symm; subst ee2; left; rw [List.lookup_cons]; simp
            · exact .inr hx
      · obtain ⟨cl,e,e1,e2⟩:=ih acc (fun x hx=>hn x (List.mem_cons_of_mem _ hx)) ha
        refine ⟨cl,?_,e1,fun x hx=>e2 x ?_⟩
        · show ((if _ then _ else _) >>= _)=_
          rw [if_neg hk]
          exact e
        · rcases hx with hx | hx
          · exact .inl hx
          · rcases List.mem_cons.mp hx with hx | hx
            · injection hx with ee4 ee5; replace ee4:=ee4.symm; subst ee4; subst ee5; exact absurd rfl hk
            · exact .inr hx
  obtain ⟨cl,e,e1,e2⟩:=key scope.names [] h (fun x v hx=>by exact jb hx)
  refine ⟨cl,?_,fun x hx=>?_⟩
  · show (forIn scope.names [] _ >>= _)=_
    have:(forIn scope.names ([]:List (Str×Addr)) fun (x:Str×NameKind) (r:List (Str×Addr))=>(if (x.2 == NameKind.free)=true then (do let a ← cellOf env x.1; pure (ForInStep.yield ((x.1,a)::r))) else pure (ForInStep.yield r):Sem (ForInStep (List (Str×Addr))))) >>= pure=pure cl:=by rw [e]; rfl
    exact this
  · obtain ⟨c,hc⟩:=Option.isSome_iff_exists.mp (e2 x (.inr hx))
    rw [hc,e1 x c hc]
section
variable {M:Model} {A:Around} {E:Value→Shared→Prop} {s:Shared}
theorem newEnv_clo {scope:Scope} {globals:Addr} {cl:List (Str×Addr)} {qual:Str} {outer:Env} {Q:Env→Shared→Prop}
    (h:Q { scope,locals:=s.heap.objs.size,globals,cells:=cellsFrom (s.heap.objs.size+1) scope.names cl,qual,func:=none,code:=outer.code,frame:=outer.frame,builtins:=outer.builtins }
      { s with heap:=pushCells (s.heap.push { cls:=.type "dict",data:=.dict #[] }) scope.names }) :
    wpAny M A (newFunctionEnv scope globals cl [] qual none .none (some outer)) Q E s:=by
  simp only [newFunctionEnv,Option.isSome_some,if_true]
  refine wpAny_bind (wpAny_alloc ?_)
  refine wpAny_bind (wpAny_layCells _ (fun name kind cells=>by cases hkc:kind == NameKind.cell <;> simp [hkc]) _ _ _ _ ?_)
  rw [show ({ s with heap:=s.heap.push { cls:=.type "dict",data:=.dict #[] } }:Shared).heap.objs.size=s.heap.objs.size+1 from Heap.size_push ..]
  exact wpAny_bind (wpAny_pure (wpAny_pure h))
end
noncomputable def isCap:VK→Bool
  | .cel=>true
  | .fre=>true
  | _=>false
noncomputable def kOfC:VK→Option NameKind
  | .loc=>some .local
  | .cel=>some .cell
  | .glo=>some .globalImplicit
  | _=>none
noncomputable def capOk (ks:List (Str×VK)) (x:Str) (kp:Nat):Bool:=match ks[kp]? with
  | some (y,vk)=>y == x&&isCap vk
  | none=>false
noncomputable def freOk (names:List (Str×NameKind)) (ks:List (Str×VK)):List (Str×VK)→List Nat→Bool
  | [],[]=>true
  | (x,.fre)::r,kp::fm=>names.lookup x == some .free&&capOk ks x kp&&freOk names ks r fm
  | _,_=>false
structure CompOk (names:List (Str×NameKind)) (ks ks':List (Str×VK)) (fm:List Nat) (nl:Nat):Prop where
  fre:freOk names ks (ks'.take fm.length) fm=true
  rest:(ks'.drop fm.length).all (fun p=>names.lookup p.1 == kOfC p.2&&(kOfC p.2).isSome)=true
  all:names.all (fun p=>!(p.2 == .free)||ks.any (fun q=>q.1 == p.1&&isCap q.2))=true
  loc:names.all (fun p=>!(p.2 == .local)||names.lookup p.1 == some .local)=true
  nd:(names.map (·.1)).Nodup
  nk:(ks'.map (·.1)).Nodup
  len:fm.length+nl≤ks'.length
theorem lookup_mem_nd {α : Type}:∀ {l:List (Str×α)} {x:Str} {a:α},(l.map (·.1)).Nodup→(x,a)∈l→l.lookup x=some a
  | (y,b)::r,x,a,nd,h=>by
    rw [List.lookup_cons]
    rcases List.mem_cons.mp h with h | h
    · injection h with ee0 ee1; replace ee0:=ee0.symm; subst ee0; replace ee1:=ee1.symm; subst ee1; simp
    · have nd':=List.nodup_cons.mp nd
      have:(x == y)=false:=by
        cases hb:x == y with
        | false=>rfl
        | true=>rw [← eq_of_beq hb] at nd'; exact absurd (List.mem_map.mpr ⟨_,h,rfl⟩) nd'.1
      rw [this]
      exact lookup_mem_nd nd'.2 h
theorem relabel_lookup {env:Env}:∀ {names:List (Str×NameKind)} {x:Str} {k:NameKind},names.lookup x=some k →
    (names.map fun (n,k)=>if (k == NameKind.free&&env.scope.kind == .function&&env.kindOf n == some .cell) then (n,NameKind.cell) else (n,k)).lookup x=some (if (k == NameKind.free&&env.scope.kind == .function&&env.kindOf x == some .cell) then NameKind.cell else k)
  | (n,kn)::r,x,k,h=>by
    have ih:=@relabel_lookup env r x k
    show List.lookup x ((if (kn == NameKind.free&&env.scope.kind == .function&&env.kindOf n == some .cell)=true then (n,NameKind.cell) else (n,kn))::_)=_
    cases hx:x == n with
    | true =>
      simp only [List.lookup_cons,hx] at h
      injection h with h; subst h
      rw [eq_of_beq hx]
      by_cases hc:(kn == NameKind.free&&env.scope.kind == .function&&env.kindOf n == some .cell)=true
      · rw [if_pos hc,if_pos hc]; simp [List.lookup_cons]
      · rw [if_neg hc,if_neg hc]; simp [List.lookup_cons]
    | false =>
      simp only [List.lookup_cons,hx] at h
      by_cases hc:(kn == NameKind.free&&env.scope.kind == .function&&env.kindOf n == some .cell)=true
      · rw [if_pos hc]; simp only [List.lookup_cons,hx]; exact ih h
      · rw [if_neg hc]; simp only [List.lookup_cons,hx]; exact ih h
noncomputable def brS:Option Slot→Slot
  | some (.pv p)=>.pv p
  | some (.ob o)=>.br o
  | some (.br o)=>.br o
  | _=>.un
noncomputable def childVs (fm:List Nat) (nl:Nat) (vs:VS):VS:=fm.map (fun k=>brS vs[k]?)++List.replicate nl .un
noncomputable def fmAt (fm:List Nat) (i:Nat):Nat:=fm.getD i 0
theorem freOk_at {names:List (Str×NameKind)} {ks:List (Str×VK)}:∀ {l:List (Str×VK)} {fm:List Nat},freOk names ks l fm=true→∀ (i:Nat),i<fm.length→∃ x,l[i]?=some (x,.fre)∧names.lookup x=some .free∧capOk ks x (fmAt fm i)=true
  | [],[],_,i,hi=>absurd hi (Nat.not_lt_zero _)
  | (x,.fre)::r,kp::fm,h,0,_=>by
    simp only [freOk,Bool.and_eq_true,beq_iff_eq] at h
    exact ⟨x,rfl,h.1.1,h.1.2⟩
  | (x,.fre)::r,kp::fm,h,i+1,hi=>by
    simp only [freOk,Bool.and_eq_true] at h
    obtain ⟨y,q⟩:=freOk_at h.2 i (by simpa using hi)
    exact ⟨y,by simpa [fmAt] using q⟩
  | [],_::_,h,_,_=>by injection h
  | _::_,[],h,i,hi=>absurd hi (Nat.not_lt_zero _)
  | (x,.loc)::r,kp::fm,h,_,_=>by injection h
  | (x,.cel)::r,kp::fm,h,_,_=>by injection h
  | (x,.glo)::r,kp::fm,h,_,_=>by injection h
  | (x,.par)::r,kp::fm,h,_,_=>by injection h
section
variable {g:G} {B B':PM} {P:PX} {env:Env} {ks ks':List (Str×VK)} {vs vs':VS} {h h':Heap} {val val':Nat→Value} {foot foot':Nat→List Addr} {cel:Nat→Addr} {s s':Shared} {A:Around} {r:Nat}
theorem CompOk.at_fre {names:List (Str×NameKind)} {fm:List Nat} {nl:Nat} (c:CompOk names ks ks' fm nl) {i:Nat} (hi:i<fm.length):∃ x,ks'[i]?=some (x,.fre)∧names.lookup x=some .free∧capOk ks x (fmAt fm i)=true:=by
  obtain ⟨x,h1,h2⟩:=freOk_at c.fre i hi
  rw [List.getElem?_take_of_lt hi] at h1
  exact ⟨x,h1,h2⟩
theorem CompOk.at_rest {names:List (Str×NameKind)} {fm:List Nat} {nl:Nat} (c:CompOk names ks ks' fm nl) {i:Nat} {x:Str} {vk:VK} (hi:fm.length≤i) (e:ks'[i]?=some (x,vk)):names.lookup x=kOfC vk∧(kOfC vk).isSome=true:=by
  have:(ks'.drop fm.length)[i - fm.length]?=some (x,vk):=by rw [List.getElem?_drop]; rwa [Nat.add_sub_cancel' hi]
  have:=List.all_eq_true.mp c.rest _ (List.mem_of_getElem? this)
  simpa using this
theorem capOk_eq {x:Str} {kp:Nat} (h:capOk ks x kp=true):∃ vk,ks[kp]?=some (x,vk)∧(vk=.cel ∨ vk=.fre):=by
  unfold capOk at h
  split at h
  · rename_i y vk e
    simp only [Bool.and_eq_true,beq_iff_eq] at h
    refine ⟨vk,by rw [e,h.1],?_⟩
    cases vk <;> simp_all [isCap]
  · injection h
theorem Iv.capCell (I:Iv g B P env ks vs h val foot cel) {x:Str} {kp:Nat} {vk:VK} (e:ks[kp]?=some (x,vk)) (hv:vk=.cel ∨ vk=.fre) :
    env.cells.lookup x=some (cel kp)∧(∃ o,h.get? (cel kp)=some o∧(∀ sl,vs[kp]?=some sl→sl ≠ .un→o.data=.cell (some (val kp))))∧((∃ i,yv env.locals ks foot cel i (cel kp)) ∨ ∃ o,P.pr (cel kp)=some o):=by
  rcases hv with rfl | rfl
  · obtain ⟨ov,⟨o,ho,hd⟩,q⟩:=I.cl kp x e
    refine ⟨(I.ev.kc kp x e).2,⟨o,ho,fun sl h1 h2=>?_⟩,.inl ⟨some (kp,true),⟨x,e⟩,rfl⟩⟩
    rw [hd,q sl h1 h2]
  · obtain ⟨o,ho,q⟩:=I.fr kp x e
    exact ⟨(I.ev.kf kp x e).2,⟨o,I.hP _ _ (I.hR _ _ ho),q⟩,.inr ⟨o,I.hR _ _ ho⟩⟩
theorem child_iv {scope:Scope} {fm:List Nat} {nl:Nat} {F:List Addr} (c:CompOk scope.names ks ks' fm nl) (hk:scope.kind=.function) (I:Iv g B P env ks vs s.heap val foot cel) (Fr:Fresh B P env.locals ks foot cel F) {s3:Shared}
    (k3:∀ b o,s.heap.get? b=some o→s3.heap.get? b=some o) {cl:List (Str×Addr)} (hcl:∀ x,(x,NameKind.free)∈scope.names→cl.lookup x=env.cells.lookup x)
    {env':Env} (e1:env'.scope=relabel scope env) (e2:env'.locals=s3.heap.objs.size) (e3:env'.globals=mainGlobals) (e4:env'.builtins=builtinsNs) (e5:env'.cells=cellsFrom (s3.heap.objs.size+1) scope.names cl) :
    ∃ val' cel',Iv g B ⟨vg s.heap F,vg s.heap F,fun _=>.none,fun _=>[]⟩ env' ks' (childVs fm nl vs) (pushCells (s3.heap.push { cls:=.type "dict",data:=.dict #[] }) scope.names) val' (fun _=>[]) cel' ∧
      ∀ i a,yv env'.locals ks' (fun _=>[]) cel' i a→s3.heap.objs.size≤a:=by
  have keep:∀ b o,s3.heap.get? b=some o→(pushCells (s3.heap.push { cls:=.type "dict",data:=.dict #[] }) scope.names).get? b=some o:=fun b o e=>pushCells_keeps _ _ b o (Heap.get?_push_of_some _ e)
  have ok:=cellsFrom_ok scope.names (s3.heap.push { cls:=.type "dict",data:=.dict #[] }) (s3.heap.objs.size+1) [] ⟨fun _ _ hm=>(nomatch hm),List.Pairwise.nil⟩ (by rw [Heap.size_push]; exact Nat.le_refl _)
  rw [Heap.size_push] at ok
  have capAt:∀ {i:Nat},i<fm.length→∃ x vk,ks'[i]?=some (x,VK.fre)∧scope.names.lookup x=some .free∧ks[fmAt fm i]?=some (x,vk)∧(vk=.cel ∨ vk=.fre):=fun {i} hi=>by
    obtain ⟨x,h1,h2,h3⟩:=c.at_fre hi
    obtain ⟨vk,h4,h5⟩:=capOk_eq h3
    exact ⟨x,vk,h1,h2,h4,h5⟩
  have ownCell:∀ {x:Str},scope.names.lookup x=some .cell→∃ a,(cellsFrom (s3.heap.objs.size+1) scope.names []).lookup x=some a:=fun {x} h=>Option.isSome_iff_exists.mp (jQ (.inr h))
  have notOwn:∀ {x:Str},scope.names.lookup x=some .free→(cellsFrom (s3.heap.objs.size+1) scope.names []).lookup x=none:=fun {x} h=>by
    cases e:(cellsFrom (s3.heap.objs.size+1) scope.names []).lookup x with
    | none=>rfl
    | some a =>
      rcases cellsFrom_mem (mem_of_lookup e) with q | q
      · cases q
      · rw [lookup_mem_nd c.nd q] at h; injection h with h; injection h
  have env'cell:∀ x,env'.cells.lookup x=((cellsFrom (s3.heap.objs.size+1) scope.names []).lookup x).or (cl.lookup x):=fun x=>by rw [e5,yF,lookup_append]
  have eK:∀ {x:Str} {k:NameKind},scope.names.lookup x=some k→env'.kindOf x=some (if (k == NameKind.free&&env.scope.kind == .function&&env.kindOf x == some .cell) then NameKind.cell else k):=fun {x k} h=>by
    unfold Env.kindOf; rw [e1]; exact relabel_lookup h
  have lt_or:∀ {i:Nat} {sl:Slot},(childVs fm nl vs)[i]?=some sl→sl ≠ .un→i<fm.length∧sl=brS vs[fmAt fm i]?:=fun {i sl} e hn=>by
    unfold childVs at e
    by_cases hi:i<fm.length
    · rw [List.getElem?_append_left (by simpa using hi),List.getElem?_map] at e
      refine ⟨hi,?_⟩
      rw [List.getElem?_eq_getElem hi] at e
      unfold fmAt
      rw [List.getD_eq_getElem?_getD,List.getElem?_eq_getElem hi]
      exact (Option.some.inj e).symm
    · rw [List.getElem?_append_right (by simpa using hi)] at e
      exact absurd (List.mem_replicate.mp (List.mem_of_getElem? e)).2 hn
  have brUn:∀ {o:Option Slot},brS o ≠ .un→∃ sl,o=some sl∧sl ≠ .un∧sl ≠ .hid:=fun {o} h=>by
    cases o with
    | none=>exact absurd rfl h
    | some sl =>
      cases sl with
      | un=>exact absurd rfl h
      | hid=>exact absurd rfl h
      | _=>exact ⟨_,rfl,by simp,by simp⟩
  have rest:∀ {b:Addr} {o:Obj},s.heap.get? b=some o→b ∉ F→vg s.heap F b=some o:=fun {b o} e hb=>by unfold vg; rw [if_neg hb]; exact e
  have bn:∀ a,s3.heap.objs.size≤a→B a=none∧vg s.heap F a=none:=fun a ha=>by
    have hn:s.heap.get? a=none:=by
      cases e:s.heap.get? a with
      | none=>rfl
      | some o=>exact absurd (Heap.lt_size (k3 _ _ e)) (Nat.not_lt.mpr ha)
    refine ⟨?_,?_⟩
    · cases e:B a with
      | none=>rfl
      | some o=>have:=I.hB _ _ e; rw [hn] at this; exact jb this
    · unfold vg
      split
      · rfl
      · exact hn
  have capF:∀ {x:Str} {kp:Nat} {vk:VK},ks[kp]?=some (x,vk)→(vk=.cel ∨ vk=.fre)→cel kp ∉ F:=fun {x kp vk} e hv hm=>by
    obtain ⟨_,_,q⟩:=I.capCell e hv
    rcases q with ⟨i,q⟩ | ⟨o,q⟩
    · exact (Fr _ hm).2.2 i q
    · rw [(Fr _ hm).2.1] at q; exact jb q
  let celF:Nat→Addr:=fun i=>if i<fm.length then cel (fmAt fm i) else ((cellsFrom (s3.heap.objs.size+1) scope.names []).lookup ((ks'[i]?.map (·.1)).getD default)).getD 0
  have celOwn:∀ {i:Nat} {x:Str},ks'[i]?=some (x,VK.cel)→(cellsFrom (s3.heap.objs.size+1) scope.names []).lookup x=some (celF i):=fun {i x} e=>by
    have hi:¬ i<fm.length:=fun hi=>by obtain ⟨y,vk,h1,_⟩:=capAt hi; rw [e] at h1; injection h1 with h1; injection h1 with ee2 ee3; subst ee2; injection ee3
    obtain ⟨a,ha⟩:=ownCell (c.at_rest (Nat.le_of_not_lt hi) e).1
    show _=some (if i<fm.length then _ else _)
    rw [if_neg hi,e]
    show _=some (((cellsFrom (s3.heap.objs.size+1) scope.names []).lookup x).getD 0)
    rw [ha]; rfl
  have celAbove:∀ {i:Nat} {x:Str},ks'[i]?=some (x,VK.cel)→s3.heap.objs.size<celF i:=fun {i x} e=>(ok.empty _ _ (mem_of_lookup (celOwn e))).2
  have restIdx:∀ {i:Nat} {x:Str} {vk:VK},ks'[i]?=some (x,vk)→vk ≠ .fre→fm.length≤i:=fun {i x vk} e hv=>by
    by_cases hi:i<fm.length
    · obtain ⟨y,vk',h1,_⟩:=capAt hi; rw [e] at h1; injection h1 with h1; injection h1 with ee4 ee5; subst ee4; subst ee5; exact absurd rfl hv
    · exact Nat.le_of_not_lt hi
  have freIdx:∀ {i:Nat} {x:Str},ks'[i]?=some (x,VK.fre)→i<fm.length:=fun {i x} e=>by
    by_cases hi:i<fm.length
    · exact hi
    · cases (c.at_rest (Nat.le_of_not_lt hi) e).2
  refine ⟨fun i=>if i<fm.length then val (fmAt fm i) else .none,celF,⟨⟨by rw [e1]; exact hk,e3,e4,c.nk,?_,?_,?_,?_⟩,I.base,fun b o e=>keep _ _ (k3 _ _ (I.hB b o e)),fun _ _ e=>e,?_,?_,?_,?_,?_,?_,?_,?_,?_,?_,?_⟩,?_⟩
  · rintro k x vk e (rfl | rfl)
    · rw [eK (c.at_rest (restIdx e (by simp)) e).1]; rfl
    · cases (c.at_rest (restIdx e (by simp)) e).2
  · intro k x e
    rw [eK (c.at_rest (restIdx e (by simp)) e).1]
    refine ⟨rfl,?_⟩
    rw [env'cell,celOwn e]; rfl
  · intro k x e
    rw [eK (c.at_rest (restIdx e (by simp)) e).1]; rfl
  · intro k x e
    have hi:=freIdx e
    obtain ⟨y,vk,h1,h2,h3,h4⟩:=capAt hi
    rw [e] at h1; injection h1 with h1; injection h1 with ee6 _; subst ee6
    obtain ⟨q1,_⟩:=I.capCell h3 h4
    rw [eK h2]
    refine ⟨?_,?_⟩
    · split
      · exact .inl rfl
      · exact .inr rfl
    · rw [env'cell,notOwn h2,hcl _ (mem_of_lookup h2),q1]
      show _=some (if k<fm.length then cel (fmAt fm k) else _)
      rw [if_pos hi]; rfl
  · intro b o e
    have e:(if b∈F then none else s.heap.get? b)=some o:=e
    split at e
    · exact jb e
    · exact keep _ _ (k3 _ _ e)
  · obtain ⟨o,ho⟩:=I.ownAt (i:=none) rfl
    rw [e2]
    exact Nat.le_trans I.above (Nat.le_of_lt (Heap.lt_size (k3 _ _ ho)))
  · have:=c.len
    simp [childVs]; exact this
  · refine ⟨_,by rw [e2]; exact (Heap.Ns.new s3.heap (.type "dict")).keeps (pushCells_keeps _ _),fun k x vk e ev sl hs hn=>?_⟩
    have hi:=(lt_or hs hn).1
    obtain ⟨y,vk',h1,_⟩:=capAt hi
    rw [e] at h1; injection h1 with h1; injection h1 with ee8 ee9; subst ee8; subst ee9
    rcases ev with ev | ev <;> cases ev
  · intro k x e
    cases (c.at_rest (restIdx e (by simp)) e).2
  · intro k x e
    refine ⟨none,(ok.empty _ _ (mem_of_lookup (celOwn e))).1,fun sl hs hn=>?_⟩
    have hi:=(lt_or hs hn).1
    exact absurd hi (Nat.not_lt.mpr (restIdx e (by simp)))
  · intro k x e
    have hi:=freIdx e
    obtain ⟨y,vk,h1,h2,h3,h4⟩:=capAt hi
    rw [e] at h1; injection h1 with h1; injection h1 with ee10 _; subst ee10
    obtain ⟨q1,⟨o,q2,q3⟩,q4⟩:=I.capCell h3 h4
    refine ⟨o,?_,fun sl hs hn=>?_⟩
    · show vg s.heap F (if k<fm.length then _ else _)=some o
      rw [if_pos hi]
      exact rest q2 (capF h3 h4)
    · obtain ⟨_,rfl⟩:=lt_or hs hn
      obtain ⟨sl',h5,h6,_⟩:=brUn hn
      show _=Data.cell (some (if k<fm.length then _ else _))
      rw [if_pos hi]
      exact q3 sl' h5 h6
  · intro k sl hs
    by_cases hn:sl=.un
    · subst hn; rfl
    · obtain ⟨hi,rfl⟩:=lt_or hs hn
      obtain ⟨sl',h5,h6,h7⟩:=brUn hn
      have S:=I.slots _ _ h5
      rw [h5]
      show SlotOk g B _ _ _ (brS (some sl')) (if k<fm.length then _ else _) _
      rw [if_pos hi]
      cases sl' with
      | un=>exact absurd rfl h6
      | hid=>exact absurd rfl h7
      | pv p=>exact ⟨S.1,rfl⟩
      | ob o=>exact ⟨rfl,_,Own.mono (fun _ _ e=>e) S fun a ha o e=>rest e fun hm=>(Fr a hm).2.2 (some (_,false)) ha⟩
      | br o =>
        obtain ⟨_,F',hF'⟩:=S
        exact ⟨rfl,F',Own.mono (fun _ _ e=>e) hF' fun a ha o e=>rest (I.hP _ _ (I.hR _ _ e)) fun hm=>by have:=I.hR _ _ e; rw [(Fr a hm).2.1] at this; exact jb this⟩
  · intro k hk; rfl
  · rintro i a o
    match i,o with
    | none,o=>rw [show a=env'.locals from o,e2]; exact bn _ (Nat.le_refl _)
    | some (k,true),⟨⟨x,hx⟩,e⟩=>rw [e]; exact bn _ (Nat.le_of_lt (celAbove hx))
    | some (k,false),o=>exact absurd o (by show ¬ a∈[]; simp)
  · rintro i j a oi oj
    match i,j,oi,oj with
    | none,none,_,_=>rfl
    | none,some (k,true),e,⟨⟨x,hx⟩,e'⟩=>exact absurd (celAbove hx) (by rw [← e',show a=env'.locals from e,e2]; exact Nat.lt_irrefl _)
    | some (k,true),none,⟨⟨x,hx⟩,e'⟩,e=>exact absurd (celAbove hx) (by rw [← e',show a=env'.locals from e,e2]; exact Nat.lt_irrefl _)
    | some (k,true),some (j,true),⟨⟨x,hx⟩,e⟩,⟨⟨y,hy⟩,e'⟩ =>
      have:x=y:=name_of_addr ok.apart (mem_of_lookup (celOwn hx)) (by rw [← e,e']; exact mem_of_lookup (celOwn hy))
      subst this
      rw [ks_inj c.nk hx hy]
    | some (k,false),_,o,_=>exact absurd o (by show ¬ a∈[]; simp)
    | _,some (j,false),_,o=>exact absurd o (by show ¬ a∈[]; simp)
  · rintro i a o
    match i,o with
    | none,o=>rw [show a=env'.locals from o,e2]; exact Nat.le_refl _
    | some (k,true),⟨⟨x,hx⟩,e⟩=>rw [e]; exact Nat.le_of_lt (celAbove hx)
    | some (k,false),o=>exact absurd o (by show ¬ a∈[]; simp)
end
section
variable {g:G} {B B':PM} {P:PX} {env:Env} {ks ks':List (Str×VK)} {vs vs':VS} {h h':Heap} {val val':Nat→Value} {foot foot':Nat→List Addr} {cel:Nat→Addr} {s s':Shared} {A:Around} {r:Nat}
theorem Iv.growOwn (I:Iv g B P env ks vs h val foot cel) {F:List Addr} (Fr:Fresh B P env.locals ks foot cel F) (k:∀ b o,b ∉ F→h.get? b=some o→h'.get? b=some o) (le:∀ a o,B a=some o→B' a=some o)
    (own:∀ i a,yv env.locals ks foot cel i a→B' a=none) (hB':∀ b o,B' b=some o→h'.get? b=some o):Iv g B' P env ks vs h' val foot cel where
  ev:=I.ev
  base:=fun b o e=>le _ _ (I.base b o e)
  hB:=hB'
  hR:=I.hR
  hP:=fun b o e=>k b o (fun hb=>by rw [(Fr b hb).2.1] at e; exact jb e) (I.hP b o e)
  above:=I.above
  len:=I.len
  ns:=let ⟨m,hm,q⟩:=I.ns; ⟨m,hm.at' fun o e=>k _ o (fun hb=>(Fr _ hb).2.2 none rfl) e,q⟩
  pin:=I.pin
  cl:=fun i y e=>let ⟨ov,⟨o,ho,hd⟩,q⟩:=I.cl i y e; ⟨ov,⟨o,k _ o (fun hb=>(Fr _ hb).2.2 (some (i,true)) ⟨⟨y,e⟩,rfl⟩) ho,hd⟩,q⟩
  fr:=I.fr
  slots:=fun i sl e=>(I.slots i sl e).step le fun a ha o q=>k a o (fun hb=>(Fr _ hb).2.2 (some (i,false)) ha) q
  out:=I.out
  own:=fun i a o=>⟨own i a o,(I.own i a o).2⟩
  apart:=I.apart
theorem comp_core {elt:Expr} {target iter:Expr} {ifs:List Expr} {rest:List Comprehension} {scope:Scope} {pos pos':Pos} {asg:Asg} {ts:Te} {inner fi:Em} {fm:List Nat} {nl:Nat} {use:Option (Value→Sem Unit)}
    {Q:Value→Shared→Prop} {items l:List PV} {vs1 vsE:VS}
    (df:DenI true g r ks ks' target asg iter fi) (dt:DenTs g r ks' ifs ts) (di:DenE g r ks' elt (⟨target,iter,ifs,0⟩::rest) scope pos 1 inner)
    (c:CompOk scope.names ks ks' fm nl) (hk:scope.kind=.function) (hset:∀ env x,foldedSetIterable iter env x=pure x)
    (h1:fi vs=some (items,vs1)) (h2:jJ asg ts inner items (childVs fm nl vs1)=some (l,vsE)) (hl:l.length≤100000) (R:Room A r) (I:Iv g B P env ks vs s.heap val foot cel)
    (K:∀ D C s' B' ws n,s.heap.get? D=none→s.heap.get? C=none→C ≠ D→Sh s s'→Ext B B' s.heap→Iv g B' P env ks vs1 s'.heap val foot cel→s'.heap.get? D=some (lobj ws n)→RVs B' l ws →
      Fresh B' P env.locals ks foot cel [D]→Fresh B' P env.locals ks foot cel [C]→(∃ m,s'.heap.Ns C m)→compPost (model g.prog g.w) A No use Q (.ref D) C (.ok .next) s') :
    wpAny (model g.prog g.w) A (comprehension (.ListComp elt (⟨target,iter,ifs,0⟩::rest) scope pos) scope env pos' (newList []) false (eval iter env) use) Q No s:=by
  have hfree:∀ x∈scope.names,x.2=.free→(env.cells.lookup x.1).isSome=true:=by
    rintro ⟨x,k⟩ hm hf
    have q:=List.all_eq_true.mp c.all _ hm
    have hf:k=.free:=hf
    subst hf
    simp only [beq_self_eq_true,Bool.not_true,Bool.false_or] at q
    obtain ⟨⟨y,vk⟩,hy,hq⟩:=List.any_eq_true.mp q
    simp only [Bool.and_eq_true,beq_iff_eq] at hq
    obtain ⟨rfl,hq⟩:=hq
    obtain ⟨i,hi⟩:=List.getElem?_of_mem hy
    have hv:vk=.cel ∨ vk=.fre:=by cases vk <;> simp_all [isCap]
    rw [(I.capCell hi hv).1]; rfl
  obtain ⟨cl,hclos,hcl⟩:=closureFor_is hfree
  have hnames:∀ x∈scope.names,x.2=.local→scope.names.lookup x.1=some .local:=by
    rintro ⟨x,k⟩ hm hf
    have q:=List.all_eq_true.mp c.loc _ hm
    have hf:k=.local:=hf
    subst hf
    simpa using q
  refine wpAny_comprehension_free (g:=⟨target,iter,ifs,0⟩) (gs:=rest) rfl (fun x=>hset env x) hclos hk hnames ?_
  refine wpAny_mono (df A B P env s vs val foot cel items vs1 h1 R I) (fun x s₁ q=>wpAny_mono q (fun y s₂ q=>?_) fun _ _ f=>f) fun _ _ f=>f
  obtain ⟨it,F,B1,rfl,sh2,x2,I2,L,FrF,lo⟩:=q
  obtain ⟨St,st0,L⟩:=L
  refine wpAny_newList ?_
  refine newEnv_clo ?_
  have k3:∀ b o,s₂.heap.get? b=some o→(s₂.heap.push { cls:=.type "list",data:=.seq ([]:List Value).toArray }).get? b=some o:=fun b o e=>Heap.get?_push_of_some _ e
  obtain ⟨val',cel',I4,hlow⟩:=child_iv c hk I2 FrF (s3:={ s₂ with heap:=s₂.heap.push { cls:=.type "list",data:=.seq ([]:List Value).toArray } }) k3 hcl
    (env':={ scope:=relabel scope env,locals:=(s₂.heap.push { cls:=.type "list",data:=.seq ([]:List Value).toArray }).objs.size,globals:=env.globals,cells:=cellsFrom ((s₂.heap.push { cls:=.type "list",data:=.seq ([]:List Value).toArray }).objs.size+1) scope.names cl,qual:=env.qual,func:=none,code:=env.code,frame:=env.frame,builtins:=env.builtins })
    rfl rfl I.ev.glob I.ev.blt rfl
  have hDs:(s₂.heap.push { cls:=.type "list",data:=.seq ([]:List Value).toArray }).get? s₂.heap.objs.size=some (lobj [] 0):=Heap.get?_push_size _ rfl
  have keep4:∀ b o,(s₂.heap.push { cls:=.type "list",data:=.seq ([]:List Value).toArray }).get? b=some o→(pushCells ((s₂.heap.push { cls:=.type "list",data:=.seq ([]:List Value).toArray }).push { cls:=.type "dict",data:=.dict #[] }) scope.names).get? b=some o :=
    fun b o e=>pushCells_keeps _ _ b o (Heap.get?_push_of_some _ e)
  have hsz:(s₂.heap.push { cls:=.type "list",data:=.seq ([]:List Value).toArray }).objs.size=s₂.heap.objs.size+1:=Heap.size_push ..
  generalize hH3:s₂.heap.push { cls:=.type "list",data:=.seq ([]:List Value).toArray }=H3 at *
  generalize hH4:pushCells (H3.push { cls:=.type "dict",data:=.dict #[] }) scope.names=H4 at *
  have keep24:∀ b o,s₂.heap.get? b=some o→H4.get? b=some o:=fun b o e=>keep4 b o (k3 b o e)
  have nD2:s₂.heap.get? s₂.heap.objs.size=none:=none_of fun _ _ e=>e
  have nC2:s₂.heap.get? H3.objs.size=none:=by
    cases e:s₂.heap.get? H3.objs.size with
    | none=>rfl
    | some o=>exact absurd (Heap.lt_size (k3 _ _ e)) (Nat.lt_irrefl _)
  have nF:∀ a∈F,∃ o,s₂.heap.get? a=some o:=L.here 0 _ st0
  have bnD:=I2.bNone (Nat.le_refl s₂.heap.objs.size)
  have frD:Fresh B1 ⟨vg s₂.heap F,vg s₂.heap F,fun _=>.none,fun _=>[]⟩ H3.objs.size ks' (fun _=>[]) cel' [s₂.heap.objs.size]:=fun a ha=>by
    simp at ha; subst ha
    refine ⟨bnD.1,?_,fun i o=>?_⟩
    · show (if _ then _ else _)=none
      split
      · rfl
      · exact nD2
    · exact absurd (hsz ▸ hlow i _ o:s₂.heap.objs.size+1≤s₂.heap.objs.size) (Nat.not_succ_le_self _)
  have frF:Fresh B1 ⟨vg s₂.heap F,vg s₂.heap F,fun _=>.none,fun _=>[]⟩ H3.objs.size ks' (fun _=>[]) cel' F:=fun a ha=>by
    obtain ⟨o,e⟩:=nF a ha
    have h2:=Heap.lt_size e
    refine ⟨(FrF a ha).1,?_,fun i o'=>?_⟩
    · show (if _ then _ else _)=none
      rw [if_pos ha]
    · have h1:H3.objs.size≤a:=hlow i _ o'
      exact absurd (Nat.lt_of_lt_of_le h2 (Nat.le_of_succ_le (Nat.le_trans (Nat.le_of_eq hsz.symm) h1))) (Nat.lt_irrefl a)
  have hDF:s₂.heap.objs.size ∉ F:=fun hm=>by obtain ⟨o,e⟩:=nF _ hm; rw [nD2] at e; exact jb e
  have st4:St 0 H4:=L.frame 0 _ _ st0 (fun b _ o e=>keep24 b o e) fun b o hb=>by
    rcases hb with hb | hb
    · exact keep24 _ _ (I2.hB _ _ hb)
    · have hb:(if b∈F then none else s₂.heap.get? b)=some o:=hb
      split at hb
      · exact jb hb
      · exact keep24 _ _ hb
  have sh4:Sh s { s₂ with heap:=H4 }:=sh2.trans ⟨H4,s₂.toks,rfl,.of_keep keep24⟩
  have loop:=comp_loop (s:={ s₂ with heap:=H4 }) (gens:=⟨target,iter,ifs,0⟩::rest) (depth:=0) (target:=target) (iter:=iter) (ifs:=ifs) rfl dt di (D:=s₂.heap.objs.size) (it:=it) (ws:=[]) (n:=0) (l0:=[]) (l:=l) (PL:=vg s₂.heap F) h2 (by simpa using hl) R I4 ⟨St,st4,L⟩
    (fun _ _ e=>e) frF (keep4 _ _ hDs) .nil frD hDF sh4 (.refl B1 _) lo
  have fin:∀ res s',res=Except.ok Flow.next∧EmPost g ⟨vg s₂.heap F,vg s₂.heap F,fun _=>.none,fun _=>[]⟩ { scope:=relabel scope env,locals:=H3.objs.size,globals:=env.globals,cells:=cellsFrom (H3.objs.size+1) scope.names cl,qual:=env.qual,func:=none,code:=env.code,frame:=env.frame,builtins:=env.builtins } ks' cel' B1 s s₂.heap.objs.size ([]++l) vsE s' →
      compPost (model g.prog g.w) A No use Q (.ref s₂.heap.objs.size) H3.objs.size res s':=by
    rintro res s' ⟨rfl,sh',B',val5,foot5,ws,n,x5,I5,hD5,hr5,Fr5⟩
    have keepE:∀ b o,b ∉ F→s₂.heap.get? b=some o→s'.heap.get? b=some o:=fun b o hb e=>I5.hP b o (by
      show (if b∈F then none else s₂.heap.get? b)=some o
      rw [if_neg hb]; exact e)
    have loN:∀ a,s₂.heap.get? a=none→s.heap.get? a=none:=fun a hn=>by
      cases e:s.heap.get? a with
      | none=>rfl
      | some o=>obtain ⟨o',e'⟩:=sh2.size a o e; rw [hn] at e'; exact jb e'
    have I6:Iv g B' P env ks vs1 s'.heap val foot cel:=I2.growOwn FrF keepE x5.le (fun i a o=>by
      obtain ⟨ob,e⟩:=I.ownAt o
      rw [x5.eq a ob e]; exact (I2.own i a o).1) I5.hB
    have pn:∀ a,s₂.heap.get? a=none→P.pr a=none:=fun a hn=>by
      cases e:P.pr a with
      | none=>rfl
      | some o=>have:=I2.hP a o e; rw [hn] at this; exact jb this
    have on:∀ a,s₂.heap.get? a=none→∀ i,¬ yv env.locals ks foot cel i a:=fun a hn i o=>by
      obtain ⟨ob,e⟩:=I2.ownAt o
      rw [hn] at e; exact jb e
    refine K s₂.heap.objs.size H3.objs.size s' B' ws n (loN _ nD2) (loN _ nC2) (by rw [hsz]; exact Nat.succ_ne_self _) sh' (x2.trans x5 (.refl _)) I6 hD5 (by simpa using hr5) ?_ ?_ ?_
    · intro a ha
      have q:=Fr5 a ha
      simp at ha; subst ha
      exact ⟨q.1,pn _ nD2,on _ nD2⟩
    · intro a ha
      simp at ha; subst ha
      exact ⟨(I5.own none _ rfl).1,pn _ nC2,on _ nC2⟩
    · obtain ⟨m,hm,_⟩:=I5.ns; exact ⟨m,hm⟩
  refine compStart_go (depth:=0) (target:=target) (iter:=iter) (ifs:=ifs) rfl (codeAny_mono loop fin) (L.self A R.1 0 _ _ st4 (codeAny_mono loop fin))
noncomputable def jF (fi:Em) (fm:List Nat) (nl:Nat) (asg:Asg) (ts:Te) (inner:Em):Ev:=fun vs=>(fi vs).bind fun p=>(jJ asg ts inner p.1 (childVs fm nl p.2)).bind fun q=>if q.1.length≤100000 then some (.obj (.list q.1),p.2) else none
theorem yk {elt:Expr} {target iter:Expr} {ifs:List Expr} {rest:List Comprehension} {scope:Scope} {pos:Pos} {asg:Asg} {ts:Te} {inner fi:Em} {fm:List Nat} {nl:Nat}
    (df:DenI true g r ks ks' target asg iter fi) (dt:DenTs g r ks' ifs ts) (di:DenE g r ks' elt (⟨target,iter,ifs,0⟩::rest) scope pos 1 inner)
    (c:CompOk scope.names ks ks' fm nl) (hk:scope.kind=.function:=by rfl) (hset:∀ env x,foldedSetIterable iter env x=pure x:=by intro _ _; rfl) :
    Den g r ks (.ListComp elt (⟨target,iter,ifs,0⟩::rest) scope pos) (jF fi fm nl asg ts inner):=by
  intro A B P env s vs val foot cel v vs' h R I
  obtain ⟨⟨items,vs1⟩,h1,h⟩:=jd h
  obtain ⟨⟨l,vsE⟩,h2,h⟩:=jd h
  split at h
  case isFalse=>exact jb h
  rename_i hl
  injection h with h; injection h with ee0 ee1; subst ee0; subst ee1
  rw [eval_ListComp]
  refine comp_core (use:=none) df dt di c hk hset h1 h2 hl R I fun D C s' B' ws n nD nC hne sh x I' hD hr FrD FrC hn=>?_
  obtain ⟨m,hn⟩:=hn
  refine ⟨m,hn,fun h' hs=>?_⟩
  have k:∀ b o,b ∉ [C]→s'.heap.get? b=some o→h'.get? b=some o:=fun b o hb e=>(hs.2 b (by simpa using hb)).trans e
  obtain ⟨hh,tt,rfl,al⟩:=sh
  refine ⟨⟨h',tt,rfl,fun a o e=>?_⟩,B',[D],x,I'.growBut FrC k,⟨D,ws,n,rfl,rfl,k D _ (by simpa using Ne.symm hne) hD,hr⟩,FrD,fun a ha=>by simp at ha; subst ha; exact nD⟩
  obtain ⟨o',e'⟩:=al a o e
  exact ⟨o',k a o' (fun ha=>by simp at ha; subst ha; rw [nC] at e; exact jb e) e'⟩
theorem comp_assign {elt:Expr} {target iter:Expr} {ifs:List Expr} {rest:List Comprehension} {scope:Scope} {pos:Pos} {asg:Asg} {ts:Te} {inner fi:Em} {fm:List Nat} {nl k:Nat} {x:Str} {vk:VK} {pos' spos:Pos}
    {items l:List PV} {vs1 vsE:VS} {sl:Slot}
    (df:DenI true g r ks ks' target asg iter fi) (dt:DenTs g r ks' ifs ts) (di:DenE g r ks' elt (⟨target,iter,ifs,0⟩::rest) scope pos 1 inner)
    (c:CompOk scope.names ks ks' fm nl) (hk:scope.kind=.function) (hset:∀ env x,foldedSetIterable iter env x=pure x)
    (hkx:ks[k]?=some (x,vk)) (hv:vk=.loc ∨ vk=.cel) (hs:swapsWith (.ListComp elt (⟨target,iter,ifs,0⟩::rest) scope pos) (some (.Name x pos')) spos.line env=pure true)
    (h1:fi vs=some (items,vs1)) (h2:jJ asg ts inner items (childVs fm nl vs1)=some (l,vsE)) (hl:l.length≤100000) (hlt:k<vs1.length) (hsl:sl=.pv (.lst l) ∨ sl=.ob (.list l)) (R:Room A r) (I:Iv g B P env ks vs s.heap val foot cel) :
    wpAny (model g.prog g.w) A (exec (.Assign [.Name x pos'] (.ListComp elt (⟨target,iter,ifs,0⟩::rest) scope pos) spos) env) (SPost g P env ks cel B s .next (vs1.set k sl)) No s:=by
  rw [exec_Assign_Name_used _ _ _ _ hs]
  refine wpAny_bind (wpAny_standAt (wpAny_bind ?_))
  show wpAny _ A (do let _ ← comprehension (.ListComp elt (⟨target,iter,ifs,0⟩::rest) scope pos) scope env _ (newList []) false (eval iter env) (some (assign (.Name x pos') env))) _ _ s
  refine wpAny_bind (wpAny_mono (comp_core (use:=some (assign (.Name x pos') env)) (Q:=fun _ s'=>SPost g P env ks cel B s .next (vs1.set k sl) .next s') df dt di c hk hset h1 h2 hl R I
    fun D C s' B' ws n nD nC hne sh xe I' hD hr FrD FrC hn=>?_) (fun _ s' q=>wpAny_pure (wpAny_pure q)) fun _ _ f=>f)
  obtain ⟨m,hn⟩:=hn
  show wpAny _ A (assign (.Name x pos') env (.ref D)) _ _ _
  obtain ⟨hh,tt,rfl,al⟩:=sh
  have fin:∀ B2 F2,Ext B B2 s.heap→Iv g B2 P env ks vs1 hh val foot cel→SlotOk g B2 P hh (cel k) sl (.ref D) F2→Fresh B2 P env.locals ks foot cel F2→Fresh B2 P env.locals ks foot cel [C]→C ∉ F2 →
      wpAny (model g.prog g.w) A (assign (.Name x pos') env (.ref D)) (fun _ s''=>∃ m,s''.heap.Ns C m∧∀ h',Heap.SameBut C s''.heap h'→SPost g P env ks cel B s .next (vs1.set k sl) .next { s'' with heap:=h' }) No { s with heap:=hh,toks:=tt }:=by
    intro B2 F2 x2 I2 S2 Fr2 FrC2 hC
    obtain ⟨oC,hoC⟩:∃ o,hh.get? C=some o:=by obtain ⟨o,_,_,ho,_⟩:=hn; exact ⟨o,ho⟩
    refine wpAny_assign_Name (store_var (s:={ s with heap:=hh,toks:=tt }) (P:=P.plus hh [C]) (I2.protect FrC2) hkx hv hlt (sl:=sl) (F:=F2) ?_ ?_ fun h'' t'' I3 al3=>?_)
    · rcases hsl with rfl | rfl <;> exact S2
    · intro a ha
      refine ⟨(Fr2 a ha).1,?_,(Fr2 a ha).2.2⟩
      show (if a∈[C] then hh.get? a else P.pr a)=none
      rw [if_neg]
      · exact (Fr2 a ha).2.1
      · intro hm; simp at hm; subst hm; exact hC ha
    · have eC:h''.get? C=some oC:=I3.hP C oC (yL (by simp) hoC)
      have FrC3:Fresh B2 P env.locals ks (upd foot k F2) cel [C]:=I3.freshOf (fun a ha=>by simp at ha; subst ha; exact ⟨_,hoC⟩) (fun a ha=>(FrC2 a ha).2.1) fun a ha=>(FrC2 a ha).1
      have I3':Iv g B2 P env ks (vs1.set k sl) h'' (upd val k (.ref D)) (upd foot k F2) cel:=I3.unprotect I2.hR fun a ha=>(FrC2 a ha).2.1
      refine ⟨m,hn.at' fun o e=>by rw [hoC] at e; injection e with e; subst e; exact eC,fun h3 hs3=>?_⟩
      have k3:∀ b o,b ∉ [C]→h''.get? b=some o→h3.get? b=some o:=fun b o hb e=>(hs3.2 b (by simpa using hb)).trans e
      refine ⟨⟨h3,t'',rfl,fun a o e=>?_⟩,B2,_,_,[],x2,I3'.growBut FrC3 k3,rfl⟩
      obtain ⟨o',e'⟩:=al a o e
      obtain ⟨o3,e3⟩:=al3 a o' e'
      exact ⟨o3,k3 a o3 (fun ha=>by simp at ha; subst ha; rw [nC] at e; exact jb e) e3⟩
  rcases hsl with rfl | rfl
  · have le:=PM.put_le (FrD D (by simp)).1 (o:=lobj ws n)
    refine fin (B'.put D (lobj ws n)) [] (xe.trans (.put (h:=s.heap) (FrD D (by simp)).1 nD) (.refl _)) (I'.freeze hD FrD) ⟨.lst (PM.put_self ..) (hr.mono le),rfl⟩ (fun a ha=>by simp at ha) ?_ (by simp)
    intro a ha
    have q:=FrC a ha
    simp at ha; subst ha
    refine ⟨?_,q.2⟩
    unfold PM.put
    rw [if_neg hne]; exact q.1
  · exact fin B' [D] xe I' ⟨D,ws,n,rfl,rfl,hD,hr⟩ FrD FrC (by simpa using hne)
theorem yY {elt:Expr} {target iter:Expr} {ifs:List Expr} {rest:List Comprehension} {scope:Scope} {pos:Pos} {asg:Asg} {ts:Te} {inner fi:Em} {fm:List Nat} {nl k:Nat} {x:Str} {pos' spos:Pos}
    (df:DenI true g r ks ks' target asg iter fi) (dt:DenTs g r ks' ifs ts) (di:DenE g r ks' elt (⟨target,iter,ifs,0⟩::rest) scope pos 1 inner)
    (c:CompOk scope.names ks ks' fm nl) (hkx:ks[k]?=some (x,VK.loc)) (hs:(pos'.line == pos.line&&!(scope.names.any fun (n,k)=>n == x&&(k == .local||k == .cell)))=true)
    (hk:scope.kind=.function:=by rfl) (hset:∀ env x,foldedSetIterable iter env x=pure x:=by intro _ _; rfl) :
    DenS g r ks (.Assign [.Name x pos'] (.ListComp elt (⟨target,iter,ifs,0⟩::rest) scope pos) spos) (jD k (jF fi fm nl asg ts inner)):=by
  intro A B P env s vs val foot cel fl vs' h R I
  revert h
  refine jc fun p h1 h=>?_
  revert h
  refine jc fun q h2 h=>?_
  split at h
  case isFalse=>exact jb h
  rename_i hlt
  injection h with h; injection h with ee2 ee3; subst ee2; subst ee3
  obtain ⟨⟨items,vs1⟩,h3,h1⟩:=jd h1
  obtain ⟨⟨l,vsE⟩,h4,h1⟩:=jd h1
  split at h1
  case isFalse=>exact jb h1
  rename_i hl
  injection h1 with h1; subst h1
  injection h2 with h2; subst h2
  have hsw:swapsWith (.ListComp elt (⟨target,iter,ifs,0⟩::rest) scope pos) (some (.Name x pos')) spos.line env=pure true:=by
    have e1:(env.kindOf x == some .local)=true:=by rw [I.ev.kl k x _ hkx (.inl rfl)]; rfl
    have e2:(env.blockKind == .function)=true:=by unfold Env.blockKind; rw [I.ev.kind]; rfl
    show (pure (env.blockKind == .function&&env.kindOf x == some .local&&pos'.line == pos.line&&!(scope.names.any fun (n,k)=>n == x&&(k == .local||k == .cell))):Sem Bool)=pure true
    rw [e1,e2,Bool.and_assoc,hs]; rfl
  exact comp_assign df dt di c hk hset hkx (.inl rfl) hsw h3 h4 hl hlt (.inl rfl) R I
end
section
variable {g:G} {B B':PM} {P:PX} {env:Env} {ks ks':List (Str×VK)} {vs vs':VS} {h h':Heap} {val val':Nat→Value} {foot foot':Nat→List Addr} {cel:Nat→Addr} {s s':Shared} {A:Around} {r:Nat}
theorem Iv.change (I:Iv g B P env ks vs h val foot cel) {k:Nat} {sl sl0:Slot} {a:Addr} (h0:vs[k]?=some sl0) (hn0:sl0 ≠ .un) (ha:a∈foot k) (hs:Heap.SameBut a h h') (S:SlotOk g B P h' (cel k) sl (val k) (foot k)) :
    Iv g B P env ks (vs.set k sl) h' val foot cel:=by
  have oa:yv env.locals ks foot cel (some (k,false)) a:=ha
  have lt:k<vs.length:=(List.getElem?_eq_some_iff.mp h0).1
  have was:∀ (i:Nat) (sl':Slot),(vs.set k sl)[i]?=some sl'→sl' ≠ .un→∃ sl2,vs[i]?=some sl2∧sl2 ≠ .un:=fun i sl' e hn=>by
    rcases vK e with ⟨rfl,rfl⟩ | ⟨_,e⟩
    · exact ⟨sl0,h0,hn0⟩
    · exact ⟨sl',e,hn⟩
  have kp:∀ {i:Option (Nat×Bool)} {b:Addr},yv env.locals ks foot cel i b→i ≠ some (k,false)→∀ o,h.get? b=some o→h'.get? b=some o:=fun {i b} o hne ob e =>
    (hs.2 b (by rintro rfl; exact hne (I.apart _ _ b o oa))).trans e
  refine ⟨I.ev,I.base,fun b o e=>?_,I.hR,fun b o e=>?_,I.above,by rw [List.length_set]; exact I.len,?_,I.pin,fun i y e=>?_,fun i y e=>?_,fun i sl' e=>?_,fun i hi=>?_,I.own,I.apart⟩
  · exact (hs.2 b (by rintro rfl; rw [(I.own _ _ oa).1] at e; exact jb e)).trans (I.hB b o e)
  · exact (hs.2 b (by rintro rfl; rw [(I.own _ _ oa).2] at e; exact jb e)).trans (I.hP b o e)
  · obtain ⟨m,hm,q⟩:=I.ns
    refine ⟨m,hm.at' fun o e=>kp (i:=none) rfl (by simp) o e,fun i y vk e ev sl' hs' hn=>?_⟩
    obtain ⟨sl2,e2,hn2⟩:=was i sl' hs' hn
    exact q i y vk e ev sl2 e2 hn2
  · obtain ⟨ov,⟨o,ho,hd⟩,q⟩:=I.cl i y e
    refine ⟨ov,⟨o,kp (i:=some (i,true)) ⟨⟨y,e⟩,rfl⟩ (by simp) o ho,hd⟩,fun sl' hs' hn=>?_⟩
    obtain ⟨sl2,e2,hn2⟩:=was i sl' hs' hn
    exact q sl2 e2 hn2
  · obtain ⟨o,ho,q⟩:=I.fr i y e
    refine ⟨o,ho,fun sl' hs' hn=>?_⟩
    obtain ⟨sl2,e2,hn2⟩:=was i sl' hs' hn
    exact q sl2 e2 hn2
  · rcases vK e with ⟨rfl,rfl⟩ | ⟨hne,e⟩
    · exact S
    · exact (I.slots i sl' e).step (fun _ _ e=>e) fun b hb o eo=>kp (i:=some (i,false)) hb (by simpa using hne) o eo
  · exact I.out i (by rw [List.length_set] at hi; exact hi)
noncomputable def jK (vs:VS):AVal→Option (Nat×Bool×List PV)
  | .own k=>match vs[k]? with
    | some (.ob (.list l))=>some (k,false,l)
    | _=>none
  | .sub k=>match vs[k]? with
    | some (.ob (.hdr l))=>some (k,true,l)
    | _=>none
  | _=>none
noncomputable def yK (vs:VS) (k:Nat) (hd:Bool) (l:List PV):VS:=vs.set k (.ob (if hd then .hdr l else .list l))
theorem vS (I:Iv g B P env ks vs s.heap val foot cel) {v:AVal} {x:Value} {k:Nat} {hd:Bool} {l:List PV} (e:jK vs v=some (k,hd,l)) (R:RepA g B s.heap val v x []) :
    ∃ a ws n,x=.ref a∧s.heap.get? a=some (lobj ws n)∧RVs B l ws ∧
      ∀ h' l' ws' n',Heap.SameBut a s.heap h'→h'.get? a=some (lobj ws' n')→RVs B l' ws'→Iv g B P env ks (yK vs k hd l') h' val foot cel:=by
  cases v with
  | own j =>
    simp only [jK] at e
    split at e
    · rename_i l2 h0
      injection e with e; injection e with ee0 ee1; replace ee0:=ee0.symm; subst ee0; injection ee1 with ee2 ee3; subst ee2; replace ee3:=ee3.symm; subst ee3
      obtain ⟨a,ws,n,h1,h2,h3,h4⟩:=I.slots k _ h0
      refine ⟨a,ws,n,R.1.trans h1,h3,h4,fun h' l' ws' n' hs hg hr=>?_⟩
      exact I.change h0 (by simp) (by rw [h2]; simp) hs ⟨a,ws',n',h1,h2,hg,hr⟩
    · exact jb e
  | sub j =>
    simp only [jK] at e
    split at e
    · rename_i l2 h0
      injection e with e; injection e with ee4 ee5; replace ee4:=ee4.symm; subst ee4; injection ee5 with ee6 ee7; subst ee6; replace ee7:=ee7.symm; subst ee7
      obtain ⟨a,b,ws,n,h1,h2,h3,h4,h5⟩:=I.slots k _ h0
      obtain ⟨⟨a',b',q1,q2,q3⟩,_⟩:=R
      rw [h1] at q1; injection q1 with q1; subst q1
      have:=q2.same h3; subst this
      refine ⟨b',ws,n,q3,h4,h5,fun h' l' ws' n' hs hg hr=>?_⟩
      exact I.change h0 (by simp) (by rw [h2]; simp) hs ⟨a,b',ws',n',h1,h2,h3,hg,hr⟩
    · exact jb e
  | _=>exact jb e
noncomputable abbrev MSem:=List AVal→VS→Option (AVal×VS)
noncomputable def FnMg (g:G) (f:Value) (sem:MSem):Prop :=
  ∀ (A:Around) (B:PM) (P:PX) (env:Env) (ks:List (Str×VK)) (s:Shared) (vs:VS) (val:Nat→Value) (foot:Nat→List Addr) (cel:Nat→Addr) (as:List AVal) (v:AVal) (vs':VS) (xs:List Value),
    sem as vs=some (v,vs')→A.handled=none→A.units+100<cLine→Iv g B P env ks vs s.heap val foot cel→RepAs g B s.heap val as xs→wpAny (model g.prog g.w) A (call f xs) (EPost g P env ks cel B s val foot v vs') No s
noncomputable def FnM (f:Value) (sem:MSem):Prop:=∀ g,FnMg g f sem
noncomputable def vh (sem:FSem):MSem:=fun as vs=>(sem as vs).map fun p=>(.pv p,vs)
theorem FnP.m {f:Value} {sem:FSem} (h:FnP f sem):FnM f (vh sem):=by
  intro g A B P env ks s vs val foot cel as v vs' xs e hh hu I R
  obtain ⟨p,h1,h2⟩:=Option.map_eq_some_iff.mp e
  injection h2 with ee8 ee9; subst ee8; subst ee9
  exact wpAny_mono (h g A B P env ks s vs val foot cel as p xs h1 hh hu I R) (fun _ _ h=>EPost.of_PR I h) fun _ _ f=>f
noncomputable def evFnM (sem:MSem) (fs:List Ev):Ev:=fun vs=>(jI fs vs).bind fun p=>sem p.1 p.2
theorem den_fnM {x:Str} {p pos:Pos} {f:Value} {e:Expr} {es:List Expr} {fs:List Ev} {sem:MSem} (d:Den g r ks (.Name x p) (jo (.con f))) (ds:Dens g r ks (e::es) fs) (sp:FnMg g f sem)
    (hf:(∃ id,f=.builtin id) ∨ ∃ T,f=.type T:=by first | exact .inl ⟨_,rfl⟩ | exact .inr ⟨_,rfl⟩):Den g r ks (.Call (.Name x p) (e::es) [] pos) (evFnM sem fs):=by
  intro A B P env s vs val foot cel v vs' h R I
  revert h
  refine jc fun q h1 h=>?_
  refine Call_Name rfl (glob_con (k:=0) (v:=.own 0) d R I fun s1 B1 sh1 x1 I1=>callB hf ds (wpAny_mono (dens_args ds (l:=q.1) (vs':=q.2) h1 R I1) (fun xs s2 t=>?_) fun _ _ f=>f))
  obtain ⟨sh2,B2,x2,I2,R2⟩:=t
  exact wpAny_mono (sp A B2 P env ks s2 q.2 val foot cel q.1 v vs' xs h R.1 R.units I2 R2) (fun _ _ h=>(h.from sh2 x2).from sh1 x1) fun _ _ f=>f
noncomputable def Recvg (g:G) (name:Str) (f:Value) (recv:AVal→VS→Bool):Prop :=
  ∀ (A:Around) (B:PM) (P:PX) (env:Env) (ks:List (Str×VK)) (s:Shared) (vs:VS) (val:Nat→Value) (foot:Nat→List Addr) (cel:Nat→Addr) (a:AVal) (x:Value) (pl:Sem Bool) (Q:Value×List Value→Shared→Prop),
    recv a vs=true→Iv g B P env ks vs s.heap val foot cel→RepA g B s.heap val a x []→Q (f,[x]) s→wpAny (model g.prog g.w) A (getMethod x name pl) Q No s
noncomputable def Recv (name:Str) (f:Value) (recv:AVal→VS→Bool):Prop:=∀ g,Recvg g name f recv
noncomputable def jL (recv:AVal→VS→Bool) (sem:MSem) (f0:Ev) (fs:List Ev):Ev:=fun vs=>(f0 vs).bind fun p=>(frz p.1).bind fun a=>if recv a p.2=true then (jI fs p.2).bind fun q=>sem (a::q.1) q.2 else none
theorem callMB {pos:Pos} {id:String} {x:Value} {es:List Expr} {fs:List Ev} (ds:Dens g r ks es fs) {M:Model} {E:Value→Shared→Prop} {Q:Value→Shared→Prop}
    (h:wpAny M A (spliced (backTo pos (starEach es env))) (fun xs s₁=>wpAny M A (call (.builtin id) (x::xs)) Q E s₁) E s):wpAny M A (callWith pos (.builtin id) [x] (backTo pos (starEach es env)) []) Q E s:=by
  have hp:=dens_noStar (pos:=pos) ds env
  cases ds with
  | nil=>exact Calls.callWith_builtin hp (evalArgs_nilS h)
  | cons d he ds =>
    rw [he] at h ⊢
    exact Calls.callWith_builtin (by rw [← he]; exact hp) (evalArgs_plain h)
theorem jv {o:Expr} {name:Str} {apos pos:Pos} {es:List Expr} {f0:Ev} {fs:List Ev} {id:String} {recv:AVal→VS→Bool} {sem:MSem} {pl:Env→Sem Bool} (d0:Den g r ks o f0) (ds:Dens g r ks es fs) (hr:Recvg g name (.builtin id) recv) (sp:FnMg g (.builtin id) sem)
    (he:∀ env,eval (.Call (.Attribute o name apos) es [] pos) env=(do
      let ov ← eval o env
      standAt apos.atName
      let (f,first) ← holding [ov] (getMethod ov name (pl env))
      callWith pos f first (backTo pos (starEach es env)) []):=by intro _; rfl):Den g r ks (.Call (.Attribute o name apos) es [] pos) (jL recv sem f0 fs):=by
  intro A B P env s vs val foot cel v vs' h R I
  revert h
  refine jc fun p h1 h=>?_
  revert h
  refine jc fun a h2 h=>?_
  split at h
  case isFalse=>exact jb h
  rename_i hrv
  revert h
  refine jc fun q h3 h=>?_
  refine MethodCall_ (wpAny_mono (d0 A B P env s vs val foot cel p.1 p.2 h1 R I) (fun x s₁ e=>?_) fun _ _ f=>f) (he env)
  refine EPost.frozeE e h2 fun sh1 B1 x1 I1 R1=>?_
  refine hr A B1 P env ks s₁ p.2 val foot cel a x _ _ hrv I1 R1 ?_
  refine callMB ds (wpAny_mono (dens_args ds (l:=q.1) (vs':=q.2) h3 R I1) (fun xs s₂ t=>?_) fun _ _ f=>f)
  obtain ⟨sh2,B2,x2,I2,R2⟩:=t
  exact wpAny_mono (sp A B2 P env ks s₂ q.2 val foot cel (a::q.1) v vs' (x::xs) h R.1 R.units I2 (.cons (R1.keep (yD h2) x2.le) (yD h2) R2)) (fun _ _ h=>(h.from sh2 x2).from sh1 x1) fun _ _ f=>f
end
noncomputable def isStr:AVal→VS→Bool
  | .pv (.str _),_=>true
  | _,_=>false
noncomputable def yB (a:AVal) (vs:VS):Bool:=(jy vs a).isSome
theorem jZ {name:Str} {id:String} (slot:PySem.Slot "str" name id) (ty:typeOf (.builtin id)=pure (.type "method_descriptor")):Recv name (.builtin id) isStr:=by
  intro g A B P env ks s vs val foot cel a x pl Q h I R q
  cases a with
  | pv p =>
    cases p with
    | str c=>cases R.1; exact GM.of _ (typeIs_str _ _ _) slot ty GM.noRef q
    | _=>injection h
  | _=>injection h
theorem j7 {name:Str} {id:String} (slot:PySem.Slot "list" name id) (ty:typeOf (.builtin id)=pure (.type "method_descriptor")):Recv name (.builtin id) yB:=by
  intro g A B P env ks s vs val foot cel a x pl Q h I R q
  obtain ⟨l,hl⟩:=Option.isSome_iff_exists.mp h
  obtain ⟨b,ws,n,rfl,hg,_⟩:=j9 I hl R
  exact getMethod_list_of slot ty (items:=ws.toArray) ⟨_,hg,rfl,n,rfl⟩ ⟨_,hg,rfl⟩ q
noncomputable def yf:MSem:=fun as vs=>match as with
  | [v,.pv p]=>(jK vs v).bind fun q=>if q.2.2.length≤100000 then some (.pv .none,yK vs q.1 q.2.1 (q.2.2++[p])) else none
  | _=>none
theorem EPost.changed {g:G} {B:PM} {P:PX} {env:Env} {ks:List (Str×VK)} {vs:VS} {val:Nat→Value} {foot:Nat→List Addr} {cel:Nat→Addr} {s:Shared} {h':Heap} {t:Tok} {a:Addr} {p:PV} {x:Value}
    (hs:Heap.SameBut a s.heap h') (ha:∃ o,h'.get? a=some o) (I:Iv g B P env ks vs h' val foot cel) (r:RV B p x):EPost g P env ks cel B s val foot (.pv p) vs x { s with heap:=h',toks:=t } :=
  ⟨⟨h',t,rfl,fun b o e=>by
    by_cases hb:b=a
    · subst hb; exact ha
    · exact ⟨o,(hs.2 b hb).trans e⟩⟩,B,[],.refl _ _,I,⟨r,rfl⟩,fun a ha=>(nomatch ha),fun a ha=>(nomatch ha)⟩
theorem yS:FnM (.builtin "list.append") yf:=by
  intro g A B P env ks s vs val foot cel as v vs' xs e hh hu I R
  unfold yf at e
  split at e
  · obtain ⟨⟨k,hd,l⟩,h1,h2⟩:=jd e
    split at h2
    · rename_i hl
      injection h2 with h2; injection h2 with ee10 ee11; subst ee10; subst ee11
      apply RepAs.cons_ R; intro _ _ r1 n1 rs
      apply RepAs.cons_ rs; intro _ _ r2 n2 rs2
      cases rs2
      obtain ⟨a,ws,n,rfl,hg,hr,K⟩:=vS I h1 r1
      have ll:=hr.length
      refine wpAny_list_append_plain (items:=ws.toArray) ⟨n,hg⟩ (fun h' hp hs=>?_) (szl ll (show l.length≤100000 from hl) (by decide))
      obtain ⟨n',hp⟩:=hp
      rename_i y
      have hp':h'.get? a=some (lobj (ws++[y]) n'):=by rw [hp]; simp [lobj]
      exact EPost.changed hs ⟨_,hp'⟩ (K h' (l++[_]) (ws++[y]) n' hs hp' (hr.append (.cons r2.1 .nil))) .none
    · exact jb h2
  · exact jb e
noncomputable def semExtend:MSem:=fun as vs=>match as with
  | [v,.pv (.lst m)]=>(jK vs v).bind fun q=>if q.2.2.length+m.length≤100000 then some (.pv .none,yK vs q.1 q.2.1 (q.2.2++m)) else none
  | _=>none
theorem fn_extend:FnM (.builtin "list.extend") semExtend:=by
  intro g A B P env ks s vs val foot cel as v vs' xs e hh hu I R
  unfold semExtend at e
  split at e
  · obtain ⟨⟨k,hd,l⟩,h1,h2⟩:=jd e
    split at h2
    · rename_i m hl
      injection h2 with h2; injection h2 with ee12 ee13; subst ee12; subst ee13
      apply RepAs.cons_ R; intro _ _ r1 n1 rs
      apply RepAs.cons_ rs; intro _ _ r2 n2 rs2
      apply RepAs.nil_ rs2
      obtain ⟨a,ws,n,rfl,hg,hr,K⟩:=vS I h1 r1
      have ll:=hr.length
      apply RV.lst_ r2.1; intro _ _ _ hb hr2
      rename_i ws2 b n2'
      have l2:=hr2.length
      have hl:l.length+m.length≤100000:=hl
      have hsz':ws.toArray.size+ws2.toArray.size≤sizeLine:=by show ws.length+ws2.length≤sizeLine; rw [ll,l2]; exact Nat.le_trans hl (by decide)
      refine call_meets PySem.F.slot_list_extend ⟨_,hg,rfl⟩ PySem.F.entry_list_extend (PySem.F.args_list_extend_2 _ _) (AutoSeq1.list_extend_list_list_0 a ws.toArray n b ws2.toArray n2' (extend_door hsz') (Nat.le_trans (Nat.le_add_right _ _) hsz') (Nat.le_succ_of_le hsz')) ⟨hg,I.hB _ _ hb,?_⟩
      have e:ws.toArray++ws2.toArray=(ws++ws2).toArray:=by simp
      have ho':(s.heap.update a (Obj.mapSeq fun x=>x++ws2.toArray)).get? a=some (lobj (ws++ws2) (if (ws.toArray++ws2.toArray).size == ws.toArray.size then n else n+1)):=by
        rw [Heap.get?_update_self _ hg (by unfold lobj; rw [mapSeq_app]; rfl)]
        unfold lobj
        rw [mapSeq_app,e]
      exact EPost.changed (t:=s.toks) (Heap.SameBut.update ..) ⟨_,ho'⟩ (K _ (l++m) (ws++ws2) _ (Heap.SameBut.update ..) ho' (hr.append hr2)) .none
    · exact jb h2
  · exact jb e
noncomputable def semPop:MSem:=fun as vs=>match as with
  | [v]=>(jK vs v).bind fun q=>if q.2.2.length≤100000 then (q.2.2[q.2.2.length - 1]?).map fun p=>(.pv p,yK vs q.1 q.2.1 q.2.2.dropLast) else none
  | _=>none
theorem fn_pop:FnM (.builtin "list.pop") semPop:=by
  intro g A B P env ks s vs val foot cel as v vs' xs e hh hu I R
  unfold semPop at e
  split at e
  · obtain ⟨⟨k,hd,l⟩,h1,h2⟩:=jd e
    split at h2
    · rename_i hl
      obtain ⟨p,h3,h4⟩:=Option.map_eq_some_iff.mp h2
      injection h4 with ee14 ee15; subst ee14; subst ee15
      apply RepAs.cons_ R; intro _ _ r1 n1 rs
      apply RepAs.nil_ rs
      obtain ⟨a,ws,n,rfl,hg,hr,K⟩:=vS I h1 r1
      have ll:=hr.length
      have hl:l.length≤100000:=hl
      have h3:l[l.length - 1]?=some p:=h3
      obtain ⟨y,hy,ry⟩:=hr.get h3
      have hy':ws.toArray[ws.toArray.size - 1]?=some y:=by simp only [List.size_toArray,List.getElem?_toArray]; rw [ll]; exact hy
      refine call_meets PySem.F.slot_list_pop ⟨_,hg,rfl⟩ PySem.F.entry_list_pop (PySem.F.args_list_pop_1 _) (PySem.MeetsSeq.list_pop_last a ws.toArray n y hy' (szl ll hl (by decide))) ⟨hg,?_⟩
      have e1:ws.toArray.eraseIdxIfInBounds (ws.toArray.size - 1)=ws.dropLast.toArray:=by
        apply Array.toList_inj.mp
        simp [Array.eraseIdxIfInBounds,List.eraseIdx_length_sub_one]
        cases ws <;> simp [List.eraseIdx_length_sub_one]
      have ho':∃ m,(s.heap.update a (Obj.mapSeq fun xs=>xs.eraseIdxIfInBounds (ws.toArray.size - 1))).get? a=some (lobj ws.dropLast m):=by
        have q:=Heap.get?_update_self (Obj.mapSeq fun xs=>xs.eraseIdxIfInBounds (ws.toArray.size - 1)) hg rfl
        rw [q]
        have q2:∀ f:Array Value→Array Value,∃ m,Obj.mapSeq f (lobj ws n)={ cls:=.type "list",data:=.seq (f ws.toArray) m }:=fun f=>⟨_,rfl⟩
        obtain ⟨m,q2⟩:=q2 fun xs=>xs.eraseIdxIfInBounds (ws.toArray.size - 1)
        refine ⟨m,?_⟩
        rw [q2,e1]; rfl
      obtain ⟨m,ho'⟩:=ho'
      have hr':RVs B l.dropLast ws.dropLast:=by rw [List.dropLast_eq_take,List.dropLast_eq_take,ll]; exact hr.take _
      exact EPost.changed (t:=s.toks) (Heap.SameBut.update ..) ⟨_,ho'⟩ (K _ _ _ _ (Heap.SameBut.update ..) ho' hr') ry
    · exact jb h2
  · exact jb e
noncomputable def asc (c:List Nat):Bool:=c.all (fun d=>decide (d<128))&&decide (c.length≤100000)
theorem asc_eq {c:List Nat} (h:asc c=true):(∀ d∈(⟨c.toArray⟩:Str).cps.toList,d<128)∧c.length≤100000:=by
  simp only [asc,Bool.and_eq_true,decide_eq_true_eq] at h
  refine ⟨fun d hd=>?_,h.2⟩
  have hd:d∈c:=by simpa using hd
  simpa using List.all_eq_true.mp h.1 d hd
noncomputable def sw1 (c:Nat):Nat:=if 65≤c∧c≤90 then c+32 else if 97≤c∧c≤122 then c - 32 else c
theorem uni_ascii:∀ c,c<128→Unicode.isUpper c=decide (65≤c∧c≤90)∧Unicode.isLower c=decide (97≤c∧c≤122)∧Unicode.isTitle c=false:=by decide +kernel
theorem lowerAt_ascii {x:Str} {i c:Nat} (hc:x.cps[i]?=some c) (hlt:c<128):Unicode.lowerAt x.cps i=[lo1 c]:=by
  unfold Unicode.lowerAt
  rw [hc]
  have hne:(c == 0x3A3)=false:=beq_false_of_ne (Nat.ne_of_lt (Nat.lt_of_lt_of_le hlt (by decide)))
  simp only [hne,Bool.false_and,Bool.false_eq_true,if_false]
  exact lowerOf_ascii c hlt
theorem swap_ascii {x:Str} (hA:∀ c∈x.cps.toList,c<128):Txt.swapcase x=⟨x.cps.map sw1⟩:=by
  unfold Txt.swapcase
  rw [placed_single x _ sw1 fun i c hc=>by
    have hlt:=hA c (List.mem_of_getElem? hc)
    have hc':x.cps[i]?=some c:=by simpa using hc
    obtain ⟨e1,e2,_⟩:=uni_ascii c hlt
    rw [e1,e2,lowerAt_ascii hc' hlt,upperOf_ascii c hlt]
    unfold sw1 lo1 up1
    by_cases h1:65≤c∧c≤90
    · simp [h1]
    · by_cases h2:97≤c∧c≤122
      · simp [h1,h2]
      · simp [h1,h2]]
noncomputable def jS (f:List Nat→PV):FSem:=fun as vs=>match as with
  | [.pv (.str c)]=>if asc c=true then some (f c) else none
  | _=>none
theorem fn_str1 {id:String} {f:List Nat→PV} (h:∀ (g:G) (A:Around) (B:PM) (s:Shared) (c:List Nat) (t:Tok),asc c=true→(∀ b o,B b=some o→s.heap.get? b=some o)→wpAny (model g.prog g.w) A (call (.builtin id) [.str ⟨c.toArray⟩ t]) (PR B s (f c)) No s):FnP (.builtin id) (jS f):=by
  intro g A B P env ks s vs val foot cel as p xs e hh hu I R
  unfold jS at e
  split at e
  · split at e
    · rename_i hc
      injection e with e; subst e
      apply RepAs.cons_ R; intro _ _ r n rs
      cases rs; cases r.1; exact h g A B s _ _ hc I.hB
    · exact jb e
  · exact jb e
theorem fn_lower:FnP (.builtin "str.lower") (jS fun c=>.str (c.map lo1)):=fn_str1 fun g A B s c t hc hB=>by
  obtain ⟨h1,h2⟩:=asc_eq hc
  refine SC.lower (fit_lower (Nat.le_trans h2 (by decide))) ?_
  rw [lower_ascii h1]
  have:(⟨Array.map lo1 (⟨c.toArray⟩:Str).cps⟩:Str)=⟨(c.map lo1).toArray⟩:=by simp
  rw [this]; exact .same hB (.str _ _)
theorem fn_swapcase:FnP (.builtin "str.swapcase") (jS fun c=>.str (c.map sw1)):=fn_str1 fun g A B s c t hc hB=>by
  obtain ⟨h1,h2⟩:=asc_eq hc
  refine SC.swapcase (fit_swapcase (Nat.le_trans h2 (by decide))) ?_
  rw [swap_ascii h1]
  have:(⟨Array.map sw1 (⟨c.toArray⟩:Str).cps⟩:Str)=⟨(c.map sw1).toArray⟩:=by simp
  rw [this]; exact .same hB (.str _ _)
noncomputable def strsOf:List PV→Option (List (List Nat))
  | []=>some []
  | .str c::l=>(strsOf l).map fun r=>c::r
  | _::_=>none
noncomputable def mkS (c:List Nat):Str:=⟨c.toArray⟩
noncomputable def joinC (sep:List Nat):List (List Nat)→List Nat
  | []=>[]
  | [x]=>x
  | x::y::r=>x++sep++joinC sep (y::r)
theorem joinC_eq (sep:List Nat):∀ l:List (List Nat),Str.join (mkS sep) (l.map mkS)=mkS (joinC sep l)
  | []=>rfl
  | [x]=>rfl
  | x::y::r=>by
    have ih:=joinC_eq sep (y::r)
    show mkS x++mkS sep++Str.join (mkS sep) ((y::r).map mkS)=_
    rw [ih]
    show (⟨(x.toArray++sep.toArray)++(joinC sep (y::r)).toArray⟩:Str)=⟨_⟩
    simp [joinC]
theorem strsOf_are {B:PM} {l:List PV} {ws:List Value} (r:RVs B l ws):∀ {ys:List (List Nat)},strsOf l=some ys→StrsAre ws (ys.map mkS) :=
  r.ind (M:=fun l ws=>∀ {ys:List (List Nat)},strsOf l=some ys→StrsAre ws (ys.map mkS)) (fun h=>Option.some.inj h ▸ .nil) fun p v l vs x _ ih ys h=>by
    cases p with
    | str c =>
      obtain ⟨q,h1,h2⟩:=Option.map_eq_some_iff.mp h
      subst h2
      (apply RV.str_ x; intro _)
      exact .cons _ _ (ih h1)
    | _=>exact jb h
noncomputable def semJoin:FSem:=fun as vs=>match as with
  | [.pv (.str sep),v]=>(jy vs v).bind fun l=>(strsOf l).bind fun ys=>if (ys.map List.length).sum+ys.length*sep.length≤1000000 then some (.str (joinC sep ys)) else none
  | _=>none
theorem fn_join:FnP (.builtin "str.join") semJoin:=by
  intro g A B P env ks s vs val foot cel as p xs e hh hu I R
  unfold semJoin at e
  split at e
  · rename_i sep v
    revert e
    refine jc fun l e1 e=>?_
    revert e
    refine jc fun ys e2 e=>?_
    split at e
    · rename_i hl
      injection e with e; subst e
      apply RepAs.cons_ R; intro _ _ r n rs
      (apply RV.str_ r.1; intro _)
      apply RepAs.cons_ rs; intro _ _ r2 n2 rs2
      apply RepAs.nil_ rs2
      obtain ⟨a,ws,m,rfl,hg,hr⟩:=j9 I e1 r2
      have hs:=strsOf_are hr e2
      refine join_list (items:=ws.toArray) (ys:=ys.map mkS) ⟨_,hg,rfl,m,rfl⟩ (by simpa using hs) ?_ fun t' k=>?_
      · have e3:(ys.map mkS).map (·.length)=ys.map List.length:=by rw [List.map_map]; apply List.map_congr_left; intro c _; simp [mkS,Str.length]
        rw [e3,List.length_map]
        have:(⟨sep.toArray⟩:Str).length=sep.length:=by simp [Str.length]
        rw [this]; exact Nat.le_trans hl (by decide)
      · have:Txt.join (mkS sep) (ys.map mkS)=mkS (joinC sep ys):=by
          show PySem.Builtin.Str.glued (mkS sep) (ys.map mkS)=_
          rw [StrLaws.glued_eq_join,joinC_eq]
        show PR B s _ (.str (Txt.join (mkS sep) _) t') _
        rw [this]; exact .same I.hB (.str _ _)
    · exact jb e
  · exact jb e
noncomputable def semI (f:Int→Int→Option Int) (a b:AVal) (_:VS):Option PV:=ii (fun i j=>(f i j).map .int) a b
theorem op_I {t:Value→Value→Sem Value} {f:Int→Int→Option Int} (h:∀ (g:G) (A:Around) (s:Shared) (i j k:Int) (u v:Tok) (Q:Value→Shared→Prop),f i j=some k→Q (.int k s.toks) { s with toks:=s.toks+1 }→wpAny (model g.prog g.w) A (t (.int i u) (.int j v)) Q No s) :
    Op2 t (semI f):=op_ii fun g A B s i j x y p hB e=>by
  obtain ⟨k,e1,e2⟩:=Option.map_eq_some_iff.mp e
  subst e2
  exact h g A s _ _ _ _ _ _ e1 (.same hB (.int _ _))
theorem op_iadd:Op2 (inplaceOp .Add) (semI fun a b=>some (a+b)):=op_I fun g A s i j k u v Q e q=>by injection e with e; subst e; exact AutoIntOps.iadd_0 q
theorem op_isub:Op2 (inplaceOp .Sub) (semI fun a b=>some (a - b)):=op_I fun g A s i j k u v Q e q=>by injection e with e; subst e; exact AutoIntOps.isub_0 q
theorem op_ior:Op2 (inplaceOp .BitOr) (semI fun a b=>some (Builtin.bitOr a b)):=op_I fun g A s i j k u v Q e q=>by injection e with e; subst e; exact ior_int q
theorem op_ixor:Op2 (inplaceOp .BitXor) (semI fun a b=>some (Builtin.bitXor a b)):=op_I fun g A s i j k u v Q e q=>by injection e with e; subst e; exact ixor_int q
theorem op_ishl:Op2 (inplaceOp .LShift) (semI fun a b=>if small a=true∧0≤b∧b≤1000 then some (a*2 ^ b.toNat) else none):=op_I fun g A s i j k u v Q e q=>by
  split at e
  · rename_i hj; injection e with e; subst e; exact ilshift_int_small hj.2.1 (Int.le_trans hj.2.2 (by decide)) (of_decide_eq_true hj.1) q
  · exact jb e
section
variable {g:G} {B B':PM} {P:PX} {env:Env} {ks ks':List (Str×VK)} {vs vs':VS} {h h':Heap} {val val':Nat→Value} {foot foot':Nat→List Addr} {cel:Nat→Addr} {s s':Shared} {A:Around} {r:Nat}
noncomputable def exAug (k:Nat) (sem:AVal→AVal→VS→Option PV) (f:Ev):Ex:=jD k (ev2 sem (jf k) f)
theorem dens_aug {k:Nat} {x:Str} {vk:VK} {pos' pos:Pos} {op:Operator} {value:Expr} {f:Ev} {sem:AVal→AVal→VS→Option PV} (hk:ks[k]?=some (x,vk)) (d:Den g r ks value f) (o:Op2 (inplaceOp op) sem)
    (hv:vk=.loc ∨ vk=.cel:=by first | exact .inl rfl | exact .inr rfl) (hc:(x == ("__classdict__" : Str))=false:=by decide):DenS g r ks (.AugAssign (.Name x pos') op value pos) (exAug k sem f):=by
  intro A B P env s vs val foot cel fl vs' h R I
  obtain ⟨⟨pa,pb⟩,h1,h⟩:=jd h
  revert h
  refine jc fun q h2 h=>?_
  split at h
  case isFalse=>exact jb h
  rename_i hlt
  injection h with h; injection h with ee0 ee1; subst ee0; subst ee1
  obtain ⟨p1,a,p2,b,p',e1,z1,e2,z2,e3,rfl,rfl⟩:=ev2_eq h1
  injection h2 with h2; replace h2:=h2.symm; subst h2
  obtain ⟨sl,e4,e5,e6⟩:=evVar_eq (v:=p1.1) (vs':=p1.2) e1
  refine wpAny_AugAssign_Name (yV I e4 (slotV_un e5) hk (by rcases hv with rfl | rfl <;> simp) hc ?_)
  have R1:=slotV_rep I e4 e5
  have z1':p1.1=a:=by
    obtain ⟨pv1,pv2⟩:=p1
    dsimp only at e5 z1 ⊢
    cases sl with
    | un=>exact jb e5
    | hid=>exact jb e5
    | pv p=>injection e5 with e5; subst e5; cases z1; rfl
    | ob o=>injection e5 with e5; subst e5; cases z1; rfl
    | br o=>injection e5 with e5; subst e5; cases z1; rfl
  rw [z1'] at R1
  have e2':f vs=some p2:=by rw [e6] at e2; exact e2
  refine wpAny_mono (d A B P env s vs val foot cel p2.1 p2.2 e2' R I) (fun y s₂ e=>?_) fun _ _ f=>f
  refine EPost.frozeE e z2 fun sh2 B2 x2 I2 R2=>?_
  refine wpAny_mono (o g A B2 P env ks s₂ p2.2 val foot cel a b q _ y e3 R.units I2 (R1.keep (yD z1) x2.le) R2) (fun z s₃ hz=>?_) fun _ _ f=>f
  obtain ⟨sh3,B3,F,x3,I3,R3,_,_⟩:=EPost.of_PR I2 hz
  refine vw I3 hk hv hlt R3.1 fun h' t' I' al=>?_
  exact ⟨(sh2.trans sh3).trans ⟨h',t',rfl,al⟩,B3,_,_,[],x2.trans x3 sh2.size,I',rfl⟩
noncomputable def exSet2 (k1 k2:Nat) (f:Ev):Ex:=fun vs=>(f vs).bind fun p=>(pvOf p.1).bind fun q=>if k1<p.2.length∧k2<p.2.length then some (.next,(p.2.set k1 (.pv q)).set k2 (.pv q)) else none
theorem dens_set2 {k1 k2:Nat} {x1 x2:Str} {vk1 vk2:VK} {p1 p2 pos:Pos} {value:Expr} {f:Ev} (d:Den g r ks value f) (hk1:ks[k1]?=some (x1,vk1)) (hk2:ks[k2]?=some (x2,vk2))
    (hv1:vk1=.loc ∨ vk1=.cel:=by first | exact .inl rfl | exact .inr rfl) (hv2:vk2=.loc ∨ vk2=.cel:=by first | exact .inl rfl | exact .inr rfl)
    (he:∀ env,(assignEach [.Name x1 p1,.Name x2 p2] env).map (·.2)=[PySem.assign (.Name x1 p1) env,PySem.assign (.Name x2 p2) env]:=by intro _; rfl) (hw:∀ env,swappedStores [.Name x1 p1,.Name x2 p2] value env=pure none:=by intro _; rfl) :
    DenS g r ks (.Assign [.Name x1 p1,.Name x2 p2] value pos) (exSet2 k1 k2 f):=by
  intro A B P env s vs val foot cel fl vs' h R I
  revert h
  refine jc fun p h1 h=>?_
  revert h
  refine jc fun q h2 h=>?_
  split at h
  case isFalse=>exact jb h
  rename_i hlt
  injection h with h; injection h with ee2 ee3; subst ee2; subst ee3
  refine wpAny_Assign_two (wpAny_mono (d A B P env s vs val foot cel p.1 p.2 h1 R I) (fun v s₁ e=>?_) fun _ _ f=>f) (he env) (hw env)
  refine EPost.frozeE e (yg h2) fun sh B1 x1 I1 R1=>?_
  refine wpAny_assign_Name (vw I1 hk1 hv1 hlt.1 R1.1 fun h' t' I' al=>?_)
  refine wpAny_assign_Name (vw (s:={ s₁ with heap:=h',toks:=t' }) I' hk2 hv2 (by rw [List.length_set]; exact hlt.2) R1.1 fun h'' t'' I'' al'=>?_)
  exact ⟨(sh.trans ⟨h',t',rfl,al⟩).trans ⟨h'',t'',rfl,al'⟩,B1,_,_,[],x1,I'',rfl⟩
noncomputable def exSetG (asg:Asg) (f:Ev):Ex:=fun vs=>(f vs).bind fun p=>(pvOf p.1).bind fun q=>(asg q p.2).map fun v=>(.next,v)
theorem dens_setTup {es:List Expr} {k:Nat} {tpos pos:Pos} {value:Expr} {f:Ev} {asg:Asg} (d:Den g r ks value f) (dt:DenG g ks (.Tuple es k tpos) asg)
    (hs:∀ env,swapsWithSole [.Tuple es k tpos] value pos.line env=pure false:=by intro _; rfl) (hw:∀ env,swappedStores [.Tuple es k tpos] value env=pure none:=by intro _; rfl) :
    DenS g r ks (.Assign [.Tuple es k tpos] value pos) (exSetG asg f):=by
  intro A B P env s vs val foot cel fl vs' h R I
  revert h
  refine jc fun p h1 h=>?_
  revert h
  refine jc fun q h2 h=>?_
  obtain ⟨v,h3,h4⟩:=Option.map_eq_some_iff.mp h
  injection h4 with ee4 ee5; subst ee4; replace ee5:=ee5.symm; subst ee5
  refine Assign_Tuple (wpAny_mono (d A B P env s vs val foot cel p.1 p.2 h1 R I) (fun v s₁ e=>?_) fun _ _ f=>f) (hs env) (hw env)
  refine EPost.frozeE e (yg h2) fun sh B1 x1 I1 R1=>?_
  refine wpAny_mono (dt A B1 P env s₁ p.2 val foot cel q v vs' h3 R.1 I1 R1.1) (fun _ s₂ t=>?_) fun _ _ f=>f
  obtain ⟨sh2,val',foot',I2⟩:=t
  exact ⟨sh.trans sh2,B1,val',foot',[],x1,I2,rfl⟩
noncomputable def exSwap (k1 k2:Nat) (f:Ev):Ex:=fun vs=>(f vs).bind fun p=>match p.1 with
  | .pv (.tup [a,b])=>if k1<p.2.length∧k2<p.2.length then some (.next,(p.2.set k2 (.pv b)).set k1 (.pv a)) else none
  | _=>none
theorem dens_swap {x1 x2:Str} {p1 p2 tpos vpos pos:Pos} {k kv k1 k2:Nat} {e1 e2:Expr} {f:Ev} (d:Den g r ks (.Tuple [e1,e2] kv vpos) f) (hk1:ks[k1]?=some (x1,VK.loc)) (hk2:ks[k2]?=some (x2,VK.loc))
    (hw:∀ env:Env,env.kindOf x1=some .local→env.kindOf x2=some .local→env.blockKind=.function→swappedStores [.Tuple [.Name x1 p1,.Name x2 p2] k tpos] (.Tuple [e1,e2] kv vpos) env=pure (some [x1,x2]))
    (hs:∀ env,swapsWithSole [.Tuple [.Name x1 p1,.Name x2 p2] k tpos] (.Tuple [e1,e2] kv vpos) pos.line env=pure false:=by intro _; rfl) :
    DenS g r ks (.Assign [.Tuple [.Name x1 p1,.Name x2 p2] k tpos] (.Tuple [e1,e2] kv vpos) pos) (exSwap k1 k2 f):=by
  intro A B P env s vs val foot cel fl vs' h R I
  obtain ⟨⟨v,ws⟩,h1,h⟩:=jd h
  dsimp only at h
  split at h
  case h_2=>exact jb h
  rename_i a b _
  split at h
  case isFalse=>exact jb h
  rename_i hlt
  injection h with h; injection h with ee6 ee7; subst ee6; subst ee7
  have eb:env.blockKind=.function:=by unfold Env.blockKind; rw [I.ev.kind]; rfl
  refine Assign_Tuple_swapped (wpAny_mono (d A B P env s vs val foot cel _ ws h1 R I) (fun v s₁ e=>?_) fun _ _ f=>f) (hs env) (hw env (I.ev.kl k1 x1 _ hk1 (.inl rfl)) (I.ev.kl k2 x2 _ hk2 (.inl rfl)) eb)
  revert e
  refine EPost.rev fun sh B1 F x1' I1 R1 _ _=>?_
  apply RV.tup_ R1.1; intro _ _ hb hr
  cases hr with
  | cons ra rs =>
    cases rs with
    | cons rb rs2 =>
      cases rs2
      rename_i va vb
      refine wpAny_unpackItems_tuple R.1 (items:=#[va,vb]) ⟨_,I1.hB _ _ hb,rfl,0,rfl⟩ fun h' hx=>?_
      have kk:∀ b o,s₁.heap.get? b=some o→h'.get? b=some o:=fun b o e=>hx b o (Nat.ne_of_lt (Heap.lt_size e)) e
      have I2:Iv g B1 P env ks ws h' val foot cel:=I1.grow kk (.refl _ _) fun b o e=>kk _ _ (I1.hB b o e)
      show wpAny _ _ (assignInOrder [fun v=>bindName env x2 v,fun v=>bindName env x1 v] [vb,va]) _ _ _
      refine wpAny_assignInOrder_more (wpAny_bindName (vw (s:={ s₁ with heap:=h' }) I2 hk2 (.inl rfl) hlt.2 rb fun h2 t2 I3 al2=>?_))
      refine wpAny_assignInOrder_more (wpAny_bindName (vw (s:={ s₁ with heap:=h2,toks:=t2 }) I3 hk1 (.inl rfl) (by rw [List.length_set]; exact hlt.1) ra fun h3 t3 I4 al3=>?_))
      refine wpAny_assignInOrder_none ?_
      exact ⟨((sh.trans ⟨h',s₁.toks,rfl,.of_keep kk⟩).trans ⟨h2,t2,rfl,al2⟩).trans ⟨h3,t3,rfl,al3⟩,B1,_,_,[],x1',I4,rfl⟩
end
noncomputable def semSplit:FSem:=fun as vs=>match as with
  | [.pv (.str x),.pv (.str y)]=>if 1≤y.length∧x.length≤100000 then some (.lst ((Txt.split (mkS x) (mkS y)).map fun z=>.str z.cps.toList)) else none
  | _=>none
theorem strVals_RVs {B:PM}:∀ (l:List (Str×Tok)),RVs B ((l.map (·.1)).map fun z=>.str z.cps.toList) (strValues l)
  | []=>.nil
  | (x,t)::l=>.cons (by have:=RV.str (B:=B) x.cps.toList t; simpa using this) (strVals_RVs l)
theorem split_pieces (x y:Str) (h:1≤y.length):(Txt.split x y).length≤x.length+1:=by
  exact Nat.le_trans (Nat.le_add_left _ _) (split_weight x y h)
theorem fn_split:FnP (.builtin "str.split") semSplit:=by
  intro g A B P env ks s vs val foot cel as p xs e hh hu I R
  unfold semSplit at e
  split at e
  · rename_i x y
    split at e
    · rename_i hl
      injection e with e; subst e
      apply RepAs.cons_ R; intro _ _ r n rs
      (apply RV.str_ r.1; intro _)
      apply RepAs.cons_ rs; intro _ _ r2 n2 rs2
      cases r2.1
      cases rs2
      rename_i t u
      have hy:((mkS y).length == 0)=false:=by
        have:(mkS y).length=y.length:=by simp [mkS,Str.length]
        rw [this]; exact beq_false_of_ne (Nat.ne_of_gt hl.1)
      have hx:(mkS x).length=x.length:=by simp [mkS,Str.length]
      have fin:∀ (l:List (Str×Tok)) tk,l.map (·.1)=Txt.split (mkS x) (mkS y)→PR B s (.lst ((Txt.split (mkS x) (mkS y)).map fun z=>.str z.cps.toList)) (.ref s.heap.objs.size) { s with heap:=s.heap.push { cls:=.type "list",data:=.seq (strValues l).toArray },toks:=tk }:=fun l tk e=>by
        rw [← e]
        exact .one (o:=lobj (strValues l) 0) (t:=tk) I.hB (fun _ _ e=>e) rfl (.lst (PM.put_self ..) (strVals_RVs l))
      have hsz2:(PySem.Builtin.Str.partsBetween (mkS x) (PySem.Builtin.Str.occurrences (mkS x) (mkS y) 0 (mkS x).length ((mkS x).length+1)) (mkS y).length).length≤sizeLine ∨ (decide ((mkS x).length<(mkS y).length)||decide (PySem.Builtin.Str.strKind (mkS x)<PySem.Builtin.Str.strKind (mkS y)))=true ∨ (PySem.Builtin.Str.occurrences (mkS x) (mkS y) 0 (mkS x).length ((mkS x).length+1)).isEmpty=true:=by
        by_cases h1:(decide ((mkS x).length<(mkS y).length)||decide (PySem.Builtin.Str.strKind (mkS x)<PySem.Builtin.Str.strKind (mkS y)))=true
        · exact .inr (.inl h1)
        · by_cases h2:(PySem.Builtin.Str.occurrences (mkS x) (mkS y) 0 (mkS x).length ((mkS x).length+1)).isEmpty=true
          · exact .inr (.inr h2)
          · left
            have q:=split_pieces (mkS x) (mkS y) hl.1
            unfold Txt.split at q
            rw [if_neg h1,if_neg h2] at q
            exact Nat.le_trans q (Nat.le_trans (Nat.succ_le_succ (show (mkS x).length≤100000 from hl.2)) (by decide))
      have hsz:(mkS x).length≤sizeLine:=szl hx hl.2 (by decide)
      show wpAny _ _ (call (.builtin "str.split") [.str (mkS x) t,.str (mkS y) u]) _ _ _
      cases h1:(decide ((mkS x).length<(mkS y).length)||decide (PySem.Builtin.Str.strKind (mkS x)<PySem.Builtin.Str.strKind (mkS y)))
      · cases hf:(PySem.Builtin.Str.occurrences (mkS x) (mkS y) 0 (mkS x).length ((mkS x).length+1)).isEmpty
        · have hsz2:(PySem.Builtin.Str.partsBetween (mkS x) (PySem.Builtin.Str.occurrences (mkS x) (mkS y) 0 (mkS x).length ((mkS x).length+1)) (mkS y).length).length≤sizeLine:=by
            rcases hsz2 with q | q | q
            · exact q
            · rw [h1] at q; injection q
            · rw [hf] at q; injection q
          refine call_meets F.slot_str_split (typeIs_str _ _ _) F.entry_str_split (F.args_str_split_2 _ _) (meets_str_split_sep (mkS x) (mkS y) t u h1 hy hf hsz hsz2) ?_
          show wants _ _ _ { s with toks:=_,heap:=s.heap.push { cls:=.type "list",data:=.seq (strsFrom s.toks (PySem.Builtin.Str.partsBetween (mkS x) (PySem.Builtin.Str.occurrences (mkS x) (mkS y) 0 (mkS x).length ((mkS x).length+1)) (mkS y).length)).toArray } }
          rw [strsFrom_eq]
          exact fin (numbered s.toks _) _ ((numbered_texts _ _).trans ((if_neg (ne_true_of_eq_false h1)).trans (if_neg (ne_true_of_eq_false hf))).symm)
        · exact call_meets F.slot_str_split (typeIs_str _ _ _) F.entry_str_split (F.args_str_split_2 _ _) (meets_str_split_not_found (mkS x) (mkS y) t u h1 hy hf)
            (fin [(mkS x,t)] s.toks ((if_neg (ne_true_of_eq_false h1)).trans (if_pos hf)).symm)
      · exact call_meets F.slot_str_split (typeIs_str _ _ _) F.entry_str_split (F.args_str_split_2 _ _) (meets_str_split_cannot_occur (mkS x) (mkS y) t u h1)
          (fin [(mkS x,t)] s.toks (if_pos h1).symm)
    · exact jb e
  · exact jb e
noncomputable def semIndex:FSem:=fun as vs=>match as with
  | [.pv (.str x),.pv (.str y)]=>match PySem.Builtin.Str.occurrences (mkS x) (mkS y) 0 (mkS x).length 1 with
    | i::_=>some (.int i)
    | []=>none
  | _=>none
theorem fn_index:FnP (.builtin "str.index") semIndex:=by
  intro g A B P env ks s vs val foot cel as p xs e hh hu I R
  unfold semIndex at e
  split at e
  · rename_i x y
    split at e
    · rename_i i rest ho
      injection e with e; subst e
      apply RepAs.cons_ R; intro _ _ r n rs
      (apply RV.str_ r.1; intro _)
      apply RepAs.cons_ rs; intro _ _ r2 n2 rs2
      (apply RV.str_ r2.1; intro _)
      apply RepAs.nil_ rs2
      exact SC.index (x:=mkS x) (y:=mkS y) ho (.same I.hB (.int _ _))
    · exact jb e
  · exact jb e
noncomputable def semHex:FSem:=fun as vs=>match as with
  | [.pv (.int i)]=>if (baseText "0x" 16 i).length≤1000 then some (.str (baseText "0x" 16 i).cps.toList) else none
  | _=>none
theorem fn_hex:FnP (.builtin "hex") semHex:=by
  intro g A B P env ks s vs val foot cel as p xs e hh hu I R
  unfold semHex at e
  split at e
  · split at e
    · rename_i i hl
      injection e with e; subst e
      apply RepAs.cons_ R; intro _ _ r n rs
      (apply RV.int_ r.1; intro _)
      apply RepAs.nil_ rs
      refine PySem.P.hex_of_int ?_ (Nat.le_trans hl (by decide))
      have:=RV.str (B:=B) (baseText "0x" 16 i).cps.toList s.toks
      exact .same I.hB (by simpa using this)
    · exact jb e
  · exact jb e
noncomputable def semType:FSem:=fun as vs=>match as with
  | [.pv (.str _)]=>some (.con (.type "str"))
  | [a]=>(jy vs a).map fun _=>.con (.type "list")
  | _=>none
theorem fn_type:FnP (.type "type") semType:=by
  intro g A B P env ks s vs val foot cel as p xs e hh hu I R
  unfold semType at e
  split at e
  · injection e with e; subst e
    apply RepAs.cons_ R; intro _ _ r n rs
    (apply RV.str_ r.1; intro _)
    apply RepAs.nil_ rs
    exact call_type_of (typeIs_str _ _ _) (by decide) (.here I.hB (.con _))
  · obtain ⟨l,e1,e2⟩:=Option.map_eq_some_iff.mp e
    subst e2
    apply RepAs.cons_ R; intro _ _ r n rs
    apply RepAs.nil_ rs
    obtain ⟨a,ws,m,rfl,hg,hr⟩:=j9 I e1 r
    exact call_type_of ⟨_,hg,rfl⟩ (by decide) (.here I.hB (.con _))
  · exact jb e
noncomputable def numP:PV→Option Int
  | .int i=>some i
  | .bool b=>some (if b then 1 else 0)
  | _=>none
noncomputable def numsP:List PV→Option (List Int)
  | []=>some []
  | p::l=>(numP p).bind fun i=>(numsP l).map fun r=>i::r
theorem numsP_at:∀ {l:List PV} {ns:List Int},numsP l=some ns→ns.length=l.length∧∀ (j:Nat) (p:PV),l[j]?=some p→∃ i,numP p=some i∧ns[j]?=some i
  | [],_,h=>by injection h with h; subst h; exact ⟨rfl,fun j p e=>by simp at e⟩
  | p::l,ns,h=>by
    revert h
    refine jc fun i h1 h=>?_
    obtain ⟨r,h2,h3⟩:=Option.map_eq_some_iff.mp h
    subst h3
    obtain ⟨q1,q2⟩:=numsP_at h2
    refine ⟨by simp [q1],fun j p' e=>?_⟩
    cases j with
    | zero=>simp at e; subst e; exact ⟨i,h1,rfl⟩
    | succ j=>simpa using q2 j p' (by simpa using e)
theorem preSum_list (ns:List Int):∀ j,j≤ns.length→preSum (fun i=>ns.getD i 0) j=(ns.take j).sum
  | 0,_=>by simp [preSum]
  | j+1,h=>by
    rw [preSum,preSum_list ns j (Nat.le_of_succ_le h)]
    rw [List.take_add_one,List.getElem?_eq_getElem (show j<ns.length from h),List.sum_append]
    simp [List.getD_eq_getElem?_getD,List.getElem?_eq_getElem (show j<ns.length from h)]
noncomputable def semSum:FSem:=fun as vs=>match as with
  | [a]=>(jy vs a).bind fun l=>(numsP l).map fun ns=>.int ns.sum
  | _=>none
theorem fn_sum:FnP (.builtin "sum") semSum:=by
  intro g A B P env ks s vs val foot cel as p xs e hh hu I R
  unfold semSum at e
  split at e
  · obtain ⟨l,e1,e⟩:=jd e
    obtain ⟨ns,e2,e3⟩:=Option.map_eq_some_iff.mp e
    subst e3
    apply RepAs.cons_ R; intro _ _ r n rs
    apply RepAs.nil_ rs
    obtain ⟨a,ws,m,rfl,hg,hr⟩:=j9 I e1 r
    obtain ⟨q1,q2⟩:=numsP_at e2
    refine call_sum_walkAnyB ?_
    refine wpAny_pyIter_list (items:=ws.toArray) ⟨_,hg,rfl,m,rfl⟩ ?_
    have hne:a ≠ s.heap.objs.size:=Nat.ne_of_lt (Heap.lt_size hg)
    have hg':∀ o,(s.heap.push o).get? a=some (lobj ws m):=fun o=>Heap.get?_push_of_some _ hg
    refine ⟨s.heap.objs.size,_,_,_,ws.toArray.size,_,_,fun i=>ns.getD i 0,rfl,(Walks.list (prog:=g.prog) (w:=g.w) (A:=A.in1) (by exact hh) s.heap.objs.size a hne ws.toArray).toS,⟨⟨_,Heap.get?_push_size _ rfl,rfl,rfl⟩,⟨_,hg' _,rfl,m,rfl⟩⟩,?_,?_,?_⟩
    · intro b hb
      have hs:∀ o:Obj,(s.heap.push o).objs.size=s.heap.objs.size+1:=fun o=>Heap.size_push ..
      have:=Heap.lt_size hg
      simp at hb
      show b<(s.heap.push _).objs.size
      rw [hs]
      rcases hb with rfl | rfl
      · exact Nat.lt_succ_self _
      · exact Nat.lt_succ_of_lt this
    · intro i v hv
      have hv':ws[i]?=some v:=by simpa using hv
      have hlt:i<l.length:=Nat.lt_of_lt_of_eq (List.getElem?_eq_some_iff.mp hv').1 hr.length
      obtain ⟨x,hx,rx⟩:=hr.get (List.getElem?_eq_getElem hlt)
      rw [hv'] at hx; injection hx with hx; subst hx
      obtain ⟨j,h1,h2⟩:=q2 i _ (List.getElem?_eq_getElem hlt)
      have:(ns.getD i 0)=j:=by rw [List.getD_eq_getElem?_getD,h2]; rfl
      show NumOf (ns.getD i 0) v
      rw [this]
      generalize l[i]=pp at h1 rx
      cases pp with
      | int k=>injection h1 with h1; replace h1:=h1.symm; subst h1; (apply RV.int_ rx; intro _); exact .inl ⟨_,rfl⟩
      | bool b=>injection h1 with h1; subst h1; apply RV.bool_ rx; exact .inr ⟨b,rfl,rfl⟩
      | _=>exact jb h1
    · intro s' t' mv
      have e4:preSum (fun i=>ns.getD i 0) ws.toArray.size=ns.sum:=by
        rw [preSum_list ns _ (show ws.toArray.size≤ns.length from Nat.le_of_eq (hr.length.trans q1.symm))]
        have:ws.toArray.size=ns.length:=hr.length.trans q1.symm
        rw [this,List.take_length]
      rw [e4]
      refine ⟨s'.heap,s'.toks,B,?_,fun b o e=>?_,.refl _ _,fun b o e=>?_,.int _ _⟩
      · obtain ⟨m1,m2,m3,m4,m5⟩:=mv
        cases s'; cases s; simp_all
      · exact mv.heap b o (by simp; rintro rfl; exact absurd (Heap.lt_size e) (Nat.lt_irrefl _)) (Heap.get?_push_of_some _ e)
      · exact mv.heap b o (by simp; rintro rfl; exact absurd (Heap.lt_size (I.hB _ _ e)) (Nat.lt_irrefl _)) (Heap.get?_push_of_some _ (I.hB _ _ e))
  · exact jb e
noncomputable def semIter:MSem:=fun as vs=>match as with
  | [.pv (.lst l)]=>some (.obj (.iter l),vs)
  | _=>none
theorem fn_iter:FnM (.builtin "iter") semIter:=by
  intro g A B P env ks s vs val foot cel as v vs' xs e hh hu I R
  unfold semIter at e
  split at e
  · injection e with e; injection e with ee0 ee1; subst ee0; subst ee1
    apply RepAs.cons_ R; intro _ _ r n rs
    apply RepAs.nil_ rs
    apply RV.lst_ r.1; intro _ _ _ hb hr
    rename_i ws b m
    have hg:=I.hB _ _ hb
    refine call_function_entry (by decide +kernel) (by decide +kernel) kdk_entry_iter (kdk_args_iter _) ?_
    unfold Builtin.«iter»
    refine wpAny_bind (m:=someArgs "iter" 1 2 _) (wpAny_of_eq (a:=[Value.ref b]) (by first | rfl | kernel_rfl!) ?_)
    show wpAny _ _ (pyIter (.ref b) >>= _) _ _ _
    refine wpAny_bind (wpAny_pyIter_list (items:=ws.toArray) ⟨_,hg,rfl,m,rfl⟩ ?_)
    refine wpAny_pure ⟨_,rfl,?_⟩
    exact .newObj (o:=.iter _) (.refl _) (.refl _ _) I rfl ⟨_,b,ws,m,0,rfl,rfl,⟨_,Heap.get?_push_size _ rfl,rfl,rfl⟩,hb,by simpa using hr⟩
  · exact jb e
noncomputable def semNext:MSem:=fun as vs=>match as with
  | [.own k]=>match vs[k]? with
    | some (.ob (.iter (p::l)))=>some (.pv p,vs.set k (.ob (.iter l)))
    | _=>none
  | _=>none
section
variable {prog:Program} {w:World} {A:Around} {E:Value→Shared→Prop} {s:Shared}
theorem special_listiter {it l:Addr} {i:Nat} {items:Array Value} {x:Value} {Q:Option Value→Shared→Prop} (hit:s.heap.IsListIter it l i) (hl:s.heap.IsList l items) (hx:items[i]?=some x)
    (hQ:∀ h',h'.IsListIter it l (i+1)→Heap.SameBut it s.heap h'→Q (some x) { s with heap:=h' }):wpAny (model prog w) A (callSpecial? (.ref it) (Str.ofString "__next__")) Q E s:=by
  obtain ⟨o,ho,hc,hd⟩:=id hit
  obtain ⟨ol,hol,_,nl,hdl⟩:=hl
  refine wpAny_callSpecial?_slot (name:=Str.ofString "__next__") hit.typeIs slot_listiter_next (wpAny_call_entry slot_listiter_next hit.typeIs entry_listiter_next ?_ (args_listiter_next _))
  show wpAny _ _ (field (.ref it) 0 >>= _) _ _ s
  refine wpAny_bind (wpAny_field ho hd (x:=.ref l) rfl ?_)
  show wpAny _ _ (if (Value.ref l == Value.none)=true then _ else _) _ _ s
  rw [if_neg (show ¬ ((Value.ref l == Value.none)=true) from Bool.false_ne_true)]
  refine wpAny_bind (m:=field (.ref it) 1) (wpAny_field ho hd (x:=.int i 0) rfl ?_)
  refine wpAny_bind (m:=seqItems? (.ref l)) (wpAny_seqItems hol hdl ?_)
  simp only [Int.toNat_natCast,hx]
  refine wpAny_bind (wpAny_setField ho hd (by simp) (wpAny_pure ⟨x,rfl,hQ _ ?_ (Heap.SameBut.update ..)⟩))
  exact ⟨_,Heap.get?_update_self _ ho (Obj.isFreed_of_fields (Obj.data_mapFields hd _)),(Obj.cls_mapFields ..).trans hc,by
    rw [Obj.data_mapFields hd]; simp [rawInt]⟩
end
theorem fn_next:FnM (.builtin "next") semNext:=by
  intro g A B P env ks s vs val foot cel as v vs' xs e hh hu I R
  unfold semNext at e
  split at e
  · rename_i k
    split at e
    · rename_i p l h0
      injection e with e; injection e with ee2 ee3; subst ee2; subst ee3
      apply RepAs.cons_ R; intro _ _ r n rs
      apply RepAs.nil_ rs
      obtain ⟨a,b,ws,m,i,h1,h2,⟨o,h3,h4,h5⟩,h6,h7⟩:=I.slots k _ h0
      obtain ⟨rfl,_⟩:=r
      rw [h1]
      have hit:s.heap.IsListIter a b i:=⟨o,h3,h4,h5⟩
      have hl:s.heap.IsList b ws.toArray:=⟨_,I.hB _ _ h6,rfl,m,rfl⟩
      cases h8:ws.drop i with
      | nil=>rw [h8] at h7; cases h7
      | cons y t =>
        rw [h8] at h7
        cases h7 with
        | cons ry rt =>
          have hy:ws[i]?=some y:=by
            have:(ws.drop i)[0]?=some y:=by rw [h8]; rfl
            rw [List.getElem?_drop] at this; simpa using this
          have ht:ws.drop (i+1)=t:=by
            have:(ws.drop i).drop 1=t:=by rw [h8]; rfl
            rw [List.drop_drop] at this; exact this
          refine call_function_entry (by decide +kernel) (by decide +kernel) kdk_entry_next (kdk_args_next _) ?_
          unfold Builtin.«next»
          refine wpAny_bind (m:=someArgs "next" 1 2 _) (wpAny_of_eq (a:=[Value.ref a]) (by first | rfl | kernel_rfl!) ?_)
          dsimp only
          refine wpAny_bind (wpAny_specialOf (name:=Str.ofString "__next__") hit.typeIs slot_listiter_next.lookup ?_)
          refine wpAny_ite_split (fun hab=>absurd hab (by decide)) (fun _=>?_)
          refine wpAny_bind (special_listiter hit hl (x:=y) (by simpa using hy) fun h' hit' hs=>?_)
          obtain ⟨o',ho',hc',hd'⟩:=hit'
          refine wpAny_pure ⟨_,rfl,?_⟩
          have I':Iv g B P env ks (vs.set k (.ob (.iter l))) h' val foot cel:=I.change h0 (by simp) (by rw [h2]; simp) hs ⟨a,b,ws,m,i+1,h1,h2,⟨o',ho',hc',hd'⟩,h6,by rw [ht]; exact rt⟩
          exact EPost.changed (t:=s.toks) hs ⟨_,ho'⟩ I' ry
    · exact jb e
  · exact jb e
noncomputable def semList:MSem:=fun as vs=>match as with
  | [.pv (.rng a b c)]=>if Builtin.Range.small a b c=true∧0≤Builtin.Range.rangeSize a b c∧Builtin.Range.rangeSize a b c≤100000 then some (.obj (.list (jP a b c)),vs) else none
  | _=>none
theorem rngItems_len {a b c:Int}:(jP a b c).length=(Builtin.Range.rangeSize a b c).toNat:=by simp [jP]
theorem RVs_of {B:PM}:∀ {l:List PV} {ws:List Value},ws.length=l.length→(∀ (j:Nat) v p,ws[j]?=some v→l[j]?=some p→RV B p v)→RVs B l ws
  | [],[],_,_=>.nil
  | [],_::_,h,_=>by injection h
  | _::_,[],h,_=>by injection h
  | p::l,w::ws,h,k=>.cons (k 0 w p rfl rfl) (RVs_of (by simpa using h) fun j v q h1 h2=>k (j+1) v q (by simpa using h1) (by simpa using h2))
theorem fn_list:FnM (.type "list") semList:=by
  intro g A B P env ks s vs val foot cel as v vs' xs e hh hu I R
  unfold semList at e
  split at e
  · rename_i a b c
    split at e
    · rename_i hc
      injection e with e; injection e with ee4 ee5; subst ee4; subst ee5
      apply RepAs.cons_ R; intro _ _ r n rs
      apply RepAs.nil_ rs
      apply RV.rng_ r.1; intro _ _ _ _ hr
      refine call_list_range hh (I.hB _ _ hr) hc.1 (n:=(jP a b c).length) (by rw [rngItems_len]; exact (Int.toNat_of_nonneg hc.2.1).symm) (by rw [rngItems_len]; exact Nat.le_trans (Int.toNat_le.mpr hc.2.2) (by decide)) fun h' tk acc' c' k hg hi=>?_
      refine ⟨⟨h',tk,rfl,.of_keep k⟩,B,[s.heap.objs.size],.refl _ _,I.grow k (.refl _ _) fun b o e=>k _ _ (I.hB b o e),⟨_,acc'.toList,c',rfl,rfl,?_,?_⟩,fun a ha=>?_,fun a ha=>?_⟩
      · rw [hg]; simp [lobj]
      · refine RVs_of (by rw [Array.length_toList]; exact hi.1) fun j v p h1 h2=>?_
        obtain ⟨t,rfl⟩:=hi.2 j v (by simpa using h1)
        unfold jP at h2
        rw [List.getElem?_map] at h2
        obtain ⟨q,hq,rfl⟩:=Option.map_eq_some_iff.mp h2
        have:q=j:=by
          have:=List.getElem?_range (n:=(Builtin.Range.rangeSize a b c).toNat) (i:=j) (by have:=(List.getElem?_eq_some_iff.mp hq).1; simpa using this)
          rw [this] at hq; injection hq with hq; subst hq; rfl
        subst this
        exact .int _ t
      · simp at ha; subst ha
        have q:=I.bNone (Nat.le_refl s.heap.objs.size)
        exact ⟨q.1,q.2,fun i o=>Nat.lt_irrefl _ (I.ownLt o)⟩
      · simp at ha; subst ha; exact size_none
    · exact jb e
  · exact jb e
section
variable {prog:Program} {w:World} {A:Around} {E:Value→Shared→Prop} {s:Shared}
theorem setItem_plain {l:Addr} {ws:List Value} {n:Nat} {k:Int} {t:Tok} {v:Value} {Q:Unit→Shared→Prop} (hl:s.heap.get? l=some (lobj ws n)) (h0:0≤k) (hfit:k<2 ^ 63) (hn:k.toNat<ws.length)
    (hQ:∀ h' m,h'.get? l=some (lobj (ws.set k.toNat v) m)→Heap.SameBut l s.heap h'→Q () { s with heap:=h' }):wpAny (model prog w) A (setItem (.ref l) (.int k t) v) Q E s:=by
  have hT:s.TypeIs (.ref l) "list":=⟨_,hl,rfl⟩
  unfold setItem
  try with_reducible refine wpAny_holding ?_
  first | refine wpAny_bind (wpAny_pure ?_) | skip
  refine wpAny_bind (wpAny_sequenceKey hT (by decide) ?_)
  refine wpAny_bind (wpAny_callSpecial?_slot (name:=Str.ofString "__setitem__") hT slot_list_setitem (wpAny_call_entry slot_list_setitem hT entry_list_setitem ?_ (args_list_setitem _ _ _)))
  show wpAny _ _ (Builtin.List.listSubscript? (.int k t) >>= _) _ _ s
  refine wpAny_bind (wpAny_listSubscript_int (fitsIndex_of h0 hfit) ?_)
  clear hfit
  obtain ⟨k,rfl⟩:=Int.eq_ofNat_of_zero_le h0
  have hn:k<ws.length:=hn
  have hx':ws.toArray[k]?=some ws[k]:=by simp [List.getElem?_eq_getElem hn]
  show wpAny _ _ ((seqItemAt l k >>= fun r=>pure (r.map (k,·))) >>= _) _ _ s
  refine wpAny_bind (wpAny_bind (wpAny_seqItemAt hl rfl (wpAny_pure ?_)))
  rw [hx']
  show wpAny _ _ (setSeqItemAt l k v >>= _) _ _ s
  have hfin:∃ m,(s.heap.update l (Obj.mapSeq (·.setIfInBounds k v))).get? l=some (lobj (ws.set k v) m):=by
    have q2:∀ f:Array Value→Array Value,∃ m,Obj.mapSeq f (lobj ws n)={ cls:=.type "list",data:=.seq (f ws.toArray) m }:=fun f=>⟨_,rfl⟩
    obtain ⟨m,q2⟩:=q2 (·.setIfInBounds k v)
    refine ⟨m,?_⟩
    rw [Heap.get?_update_self _ hl rfl,q2]
    simp [lobj]
  obtain ⟨m,hfin⟩:=hfin
  refine wpAny_bind (wpAny_setSeqItemAt hl rfl ?_)
  first
    | exact wpAny_bind (wpAny_pure (wpAny_pure ⟨.none,rfl,wpAny_pure (hQ _ m hfin (Heap.SameBut.update ..))⟩))
    | exact wpAny_pure ⟨.none,rfl,wpAny_pure (hQ _ m hfin (Heap.SameBut.update ..))⟩
end
noncomputable def exSetItem (f fo fi:Ev):Ex:=fun vs=>(f vs).bind fun p=>(pvOf p.1).bind fun q=>(fo p.2).bind fun o=>(fi o.2).bind fun i=>match i.1 with
  | .pv (.int j)=>(jK i.2 o.1).bind fun w=>if 0≤j∧j.toNat<w.2.2.length∧w.2.2.length≤100000 then some (.next,yK i.2 w.1 w.2.1 (w.2.2.set j.toNat q)) else none
  | _=>none
section
variable {g:G} {B B':PM} {P:PX} {env:Env} {ks ks':List (Str×VK)} {vs vs':VS} {h h':Heap} {val val':Nat→Value} {foot foot':Nat→List Addr} {cel:Nat→Addr} {s s':Shared} {A:Around} {r:Nat}
theorem vz {v:AVal} {w:Nat×Bool×List PV} (h:jK vs v=some w):frz v=some v:=by
  cases v with
  | obj o=>exact jb h
  | _=>rfl
theorem dens_setItem {o i value:Expr} {pos' pos:Pos} {f fo fi:Ev} (d:Den g r ks value f) (d1:Den g r ks o fo) (d2:Den g r ks i fi)
    (hs:∀ env,swapsWith value (some (.Subscript o i pos')) pos.line env=pure false:=by intro _; rfl):DenS g r ks (.Assign [.Subscript o i pos'] value pos) (exSetItem f fo fi):=by
  intro A B P env s vs val foot cel fl vs' h R I
  revert h
  refine jc fun p h1 h=>?_
  revert h
  refine jc fun q h2 h=>?_
  revert h
  refine jc fun po h3 h=>?_
  obtain ⟨⟨ai,vi⟩,h4,h⟩:=jd h
  dsimp only at h
  split at h
  case h_2=>exact jb h
  rename_i j
  obtain ⟨⟨k,hd,l⟩,h5,h⟩:=jd h
  split at h
  case isFalse=>exact jb h
  rename_i hb
  injection h with h; injection h with ee6 ee7; subst ee6; subst ee7
  refine wpAny_Assign_Subscript (wpAny_mono (d A B P env s vs val foot cel p.1 p.2 h1 R I) (fun x s₁ e=>?_) fun _ _ f=>f) (hs env)
  refine EPost.frozeE e (yg h2) fun sh1 B1 x1 I1 R1=>?_
  refine wpAny_mono (d1 A B1 P env s₁ p.2 val foot cel po.1 po.2 h3 R I1) (fun y s₂ e=>?_) fun _ _ f=>f
  refine EPost.frozeE e (vz h5) fun sh2 B2 x2 I2 R2=>?_
  refine wpAny_mono (d2 A B2 P env s₂ po.2 val foot cel _ vi h4 R I2) (fun z s₃ e=>?_) fun _ _ f=>f
  revert e
  refine EPost.rev fun sh3 B3 F x3 I3 R3 _ _=>?_
  (apply RV.int_ R3.1; intro _)
  obtain ⟨a,ws,n,rfl,hg,hr,K⟩:=vS I3 h5 (R2.keep (yD (vz h5)) x3.le)
  have hb1:0≤j:=hb.1
  have hb2:j.toNat<l.length:=hb.2.1
  have hb3:l.length≤100000:=hb.2.2
  obtain ⟨m,rfl⟩:=Int.eq_ofNat_of_zero_le hb1
  have ll:=hr.length
  refine setItem_plain (k:=(m:Int)) hg hb1 (ltI rfl (Nat.lt_of_lt_of_le (show m<l.length from hb2) hb3) (by decide)) (Nat.lt_of_lt_of_eq (show m<l.length from hb2) ll.symm) fun h' m' hp hs=>?_
  have rq:=(R1.1.mono x2.le).mono x3.le
  have I4:=K h' (l.set m q) (ws.set m x) m' hs hp (hr.set m rq)
  refine ⟨((sh1.trans sh2).trans sh3).trans ⟨h',s₃.toks,rfl,fun b o e=>?_⟩,B3,val,foot,[],(x1.trans x2 sh1.size).trans x3 (sh1.trans sh2).size,I4,rfl⟩
  by_cases hbb:b=a
  · subst hbb; exact ⟨_,hp⟩
  · exact ⟨o,(hs.2 b hbb).trans e⟩
end
noncomputable def sName:Stmt→Str
  | .FunctionDef (name:=x) ..=>x
  | _=>default
noncomputable def sArgs:Stmt→Arguments
  | .FunctionDef (args:=x) ..=>x
  | _=>default
noncomputable def sBody:Stmt→List Stmt
  | .FunctionDef (body:=x) ..=>x
  | _=>[]
noncomputable def sScope:Stmt→Scope
  | .FunctionDef (scope:=x) ..=>x
  | _=>default
noncomputable def fdS (st:Stmt) (pm cd doc:Value):FuncData:=docDef (sName st) (sArgs st) (sBody st) (sScope st) pm cd doc
noncomputable def FnAt (g:G) (st:Stmt):Prop:=∃ fa fo pm cd doc,g.mg (sName st)=some (.ref fa)∧g.h₀.get? fa=some fo∧fo.data=.func (fdS st pm cd doc)∧g.h₀.CodeRec cd (sName st)
noncomputable def HasF (g:G) (r:Nat) (st:Stmt) (ps:List Str) (F:jw):Prop :=
  ∃ fa fo pm cd doc,g.mg (sName st)=some (.ref fa)∧g.h₀.get? fa=some fo∧fo.data=.func (fdS st pm cd doc)∧FnD g r fa (fdS st pm cd doc) ps F
section
variable {g:G} {ks:List (Str×VK)} {r:Nat}
theorem vF {st:Stmt} {n nl:Nat} {f:Ex} (ok:GOk g) (a:FnAt g st) (d:DenB g r ks (sBody st) f) (hks:ksOk (sScope st).names ks=true) (nd:(ks.map (·.1)).Nodup) (hn:n+nl≤ks.length)
    (hco:(sScope st).isCoroutine=false:=by rfl) (hgen:(sScope st).isGenerator=false:=by rfl) (hk:(sScope st).kind=.function:=by rfl):HasF g (r+1) st ((ks.take n).map (·.1)) (fnOf ks n nl f):=by
  obtain ⟨fa,fo,pm,cd,doc,h1,h2,h3,h4⟩:=a
  exact ⟨fa,fo,pm,cd,doc,h1,h2,h3,fn_frame ok.lim h2 h3 rfl rfl rfl rfl h4 hks nd hn d hco hgen hk⟩
theorem jM {k:Nat} {x:Str} {p pos:Pos} {st:Stmt} {ps:List Str} {F:jw} {es:List Expr} {fs:List Ev} {n r':Nat} (ok:GOk g) (H:HasF g r st ps F) (hk:ks[k]?=some (x,VK.glo)) (hn:sName st=x)
    (ds:Dens g r' ks es fs) (hr:r≤r') (hbind:∀ pm cd doc s xs,xs.length=n→BindsTo s (fdS st pm cd doc) ⟨xs,[]⟩ (ps.zip xs)) (hx:(x == ("__debug__" : Str))=false:=by decide):Den g r' ks (.Call (.Name x p) es [] pos) (jt n F fs):=by
  subst hn
  obtain ⟨fa,fo,pm,cd,doc,h1,h2,h3,sp⟩:=H
  exact den_call ok hk h1 h2 h3 sp ds hr (hbind pm cd doc) hx
end
theorem swap_two {x1 x2 y1 y2:Str} {p1 p2 q1 q2 tpos vpos:Pos} {k kv:Nat} (hl:(p2.line == p1.line)=true) (hx:(x1 == x2)=false) (hy1:(y1 == ("__debug__" : Str))=false) (hy2:(y2 == ("__debug__" : Str))=false):∀ env:Env,env.kindOf x1=some .local→env.kindOf x2=some .local→env.blockKind=.function →
    swappedStores [.Tuple [.Name x1 p1,.Name x2 p2] k tpos] (.Tuple [.Name y1 q1,.Name y2 q2] kv vpos) env=pure (some [x1,x2]):=by
  intro env h1 h2 h3
  have e:([.Name x1 p1,.Name x2 p2]:List Expr).filterMap (fun | .Name id pos=>if env.kindOf id == some .local&&pos.line == p1.line then some id else none | _=>none)=[x1,x2]:=by
    simp [List.filterMap_cons,h1,h2,eq_of_beq hl]
  have e2:([x1,x2]:List Str).eraseDups=[x1,x2]:=by
    have:(x2 == x1)=false:=by
      cases hh:x2 == x1 with
      | false=>rfl
      | true=>rw [eq_of_beq hh] at hx; simp at hx
    simp [List.eraseDups_cons,this]
  unfold swappedStores
  rw [h3]
  show (if _ then _ else _)=_
  rw [if_neg (by simp)]
  show (if _ then _ else _)=_
  rw [if_neg (by simp)]
  show (if (List.length (List.filterMap _ _) != _||_)=true then _ else _)=_
  have e':=e
  simp only [Option.getD,List.head?,Option.map]
  erw [e']
  rw [e2]
  have f1:∀ y q,foldedForSure 8 (.Name y q)=false:=fun y q=>rfl
  have f2:∀ y q,(y == ("__debug__" : Str))=false→constantsAlone 8 (.Name y q)=false:=fun y q hy=>hy
  simp [f1,f2 _ _ hy1,f2 _ _ hy2]
theorem binds1 {fd:FuncData} {ps:List Str} (h:∀ x,bindArgs fd ⟨[x],[]⟩=pure (ps.zip [x])):∀ s xs,xs.length=1→BindsTo s fd ⟨xs,[]⟩ (ps.zip xs):=fun s xs e=>by
  obtain ⟨x,rfl⟩:=List.length_eq_one_iff.mp e
  exact .of_eq (h x)
theorem binds0 {fd:FuncData} {ps:List Str} (h:bindArgs fd ⟨[],[]⟩=pure (ps.zip [])):∀ s xs,xs.length=0→BindsTo s fd ⟨xs,[]⟩ (ps.zip xs):=fun s xs e=>by
  obtain rfl:=List.length_eq_zero_iff.mp e
  exact .of_eq h
theorem binds2 {fd:FuncData} {ps:List Str} (h:∀ x y,bindArgs fd ⟨[x,y],[]⟩=pure (ps.zip [x,y])):∀ s xs,xs.length=2→BindsTo s fd ⟨xs,[]⟩ (ps.zip xs):=fun s xs e=>by
  obtain ⟨x,t,rfl⟩:=List.exists_cons_of_length_eq_add_one e
  obtain ⟨y,rfl⟩:=List.length_eq_one_iff.mp (Nat.succ.inj e)
  exact .of_eq (h x y)
theorem binds3 {fd:FuncData} {ps:List Str} (h:∀ x y z,bindArgs fd ⟨[x,y,z],[]⟩=pure (ps.zip [x,y,z])):∀ s xs,xs.length=3→BindsTo s fd ⟨xs,[]⟩ (ps.zip xs):=fun s xs e=>by
  obtain ⟨x,t,rfl⟩:=List.exists_cons_of_length_eq_add_one e
  obtain ⟨y,u,rfl⟩:=List.exists_cons_of_length_eq_add_one (Nat.succ.inj e)
  obtain ⟨z,rfl⟩:=List.length_eq_one_iff.mp (Nat.succ.inj (Nat.succ.inj e))
  exact .of_eq (h x y z)
structure Blt (g:G):Prop where
  len:g.mg "len"=none∧g.mb "len"=some (.builtin "len")
  range:g.mg "range"=none∧g.mb "range"=some (.type "range")
  min:g.mg "min"=none∧g.mb "min"=some (.builtin "min")
  max:g.mg "max"=none∧g.mb "max"=some (.builtin "max")
  list:g.mg "list"=none∧g.mb "list"=some (.type "list")
  str:g.mg "str"=none∧g.mb "str"=some (.type "str")
  int:g.mg "int"=none∧g.mb "int"=some (.type "int")
  hex:g.mg "hex"=none∧g.mb "hex"=some (.builtin "hex")
  sum:g.mg "sum"=none∧g.mb "sum"=some (.builtin "sum")
  sorted:g.mg "sorted"=none∧g.mb "sorted"=some (.builtin "sorted")
  iter:g.mg "iter"=none∧g.mb "iter"=some (.builtin "iter")
  next:g.mg "next"=none∧g.mb "next"=some (.builtin "next")
  type:g.mg "type"=none∧g.mb "type"=some (.type "type")
  zip:g.mg "zip"=none∧g.mb "zip"=some (.type "zip")
theorem re_plain:PlainAttrs "re.Pattern" :=
  ⟨⟨"object.__getattribute__",by rw [typeLookup_type,builtinLookup_eq_fast]; kernel_rfl,by decide +kernel⟩,by rw [typeLookup_type,builtinLookup_eq_fast]; kernel_rfl⟩
theorem re_slot:PySem.Slot "re.Pattern" "search" "re.Pattern.search" :=
  .of (owner := "re.Pattern") (n := "search") (by rw [typeLookup_type,builtinLookup_eq_fast]; kernel_rfl) (by decide +kernel) (by decide +kernel) (by decide +kernel)
    (by first | exact .inl (by decide +kernel) | exact .inr (by decide +kernel)) (by rw [isSubtype_type]; kernel_rfl)
theorem re_type:typeOf (.builtin "re.Pattern.search")=pure (.type "method_descriptor"):=by show builtinType _=_; rw [builtinType_eq_fast]; kernel_rfl
theorem re_entry:entryFor table "re.Pattern.search"=some Builtin.«re.Pattern.search»:=entryFor_of_tree (by kernel_rfl)
theorem re_owner:Manifest.owners.lookup (String.ofList ['n','r','e','t','t','a','P','.','e','r'].reverse)=some Manifest.sig_re_Pattern:=by kernel_rfl
theorem re_args (a b:Value):argsOk "re.Pattern.search" ⟨[a,b],[]⟩:=by
  unfold argsOk; rw [signature?_of (id := "re.Pattern.search") (n:=['h','c','r','a','e','s']) (o:=['n','r','e','t','t','a','P','.','e','r']) (by kernel_rfl) re_owner]; kernel_rfl
noncomputable def ok1:Except String (Bool×Sre.Seen)→Option Bool
  | .ok p=>some p.1
  | .error _=>none
theorem inSet_seen (code:Array Nat) (c:Nat):∀ (fuel i:Nat) (yes:Bool) (a b:Sre.Seen),ok1 (Sre.inSet code c fuel i yes a)=ok1 (Sre.inSet code c fuel i yes b)
  | 0,_,_,_,_=>rfl
  | fuel+1,i,yes,a,b=>by
    unfold Sre.inSet
    dsimp only
    cases Sre.ops[code.getD (i+0) 0]? with
    | none=>rfl
    | some op =>
      cases op <;> dsimp only <;> first
        | rfl
        | exact inSet_seen code c fuel _ _ _ _
        | (split <;> first | rfl | exact inSet_seen code c fuel _ _ _ _)
        | (cases Sre.category (code.getD (i+1) 0) c with
           | error e=>rfl
           | ok v=>cases v <;> first | rfl | exact inSet_seen code c fuel _ _ _ _)
theorem inSet_no {code:Array Nat} {c fuel i:Nat} {yes:Bool} (h:ok1 (Sre.inSet code c fuel i yes {})=some false) (seen:Sre.Seen):∃ seen',Sre.inSet code c fuel i yes seen=.ok (false,seen'):=by
  rw [inSet_seen code c fuel i yes {} seen] at h
  cases e:Sre.inSet code c fuel i yes seen with
  | error _=>rw [e] at h; exact jb h
  | ok p =>
    obtain ⟨b,s⟩:=p
    rw [e] at h
    have:b=false:=by simpa [ok1] using h
    subst this
    exact ⟨s,rfl⟩
theorem admitted_none {m:Sre.M} (hl:m.lim≤m.text.size) (h:∀ c∈m.text.toList,ok1 (Sre.inSet m.code c m.code.size 5 true {})=some false):∀ (fuel s:Nat) (seen:Sre.Seen),∃ seen',m.admitted fuel s seen=.ok (none,seen')
  | 0,_,seen=>⟨seen,rfl⟩
  | fuel+1,s,seen=>by
    unfold Sre.M.admitted
    by_cases hs:s ≥ m.lim
    · rw [if_pos hs]; exact ⟨seen,rfl⟩
    · rw [if_neg hs]
      have hlt:s<m.text.size:=Nat.lt_of_lt_of_le (Nat.lt_of_not_le hs) hl
      have hc:m.text.getD s 0∈m.text.toList:=by
        rw [Array.getD_eq_getD_getElem?,Array.getElem?_eq_getElem hlt]
        simp
      obtain ⟨seen1,e⟩:=inSet_no (h _ hc) seen
      rw [e]
      exact admitted_none hl h fuel (s+1) seen1
noncomputable def SaidNo (m:Sre.M):Prop:=m.outcome=none∧m.answer=some false∧m.frames=[]
theorem attempt_no {m:Sre.M} {s:Nat} {first:Bool} (hf:m.hasFirstSet=true) (hl:m.lim≤m.text.size) (h:∀ c∈m.text.toList,ok1 (Sre.inSet m.code c m.code.size 5 true {})=some false) (h1:m.outcome=none) (h2:m.frames=[]):SaidNo (m.attemptFrom s first):=by
  unfold Sre.M.attemptFrom
  rw [hf]
  simp only [Bool.not_true,Bool.false_eq_true,if_false]
  obtain ⟨seen',e⟩:=admitted_none hl h (m.lim+1 - s) s m.seen
  rw [e]
  exact ⟨h1,rfl,h2⟩
theorem search_no {code text:Array Nat} (h5:∀ m:Sre.M,m.code=code→m.hasFirstSet=true) (h:∀ c∈text.toList,ok1 (Sre.inSet code c code.size 5 true {})=some false):SaidNo (Sre.forSearch code text 0 0 text.size false):=by
  unfold Sre.forSearch
  dsimp only
  split
  · exact ⟨rfl,rfl,rfl⟩
  · exact attempt_no (h5 _ rfl) (Nat.le_refl _) h rfl rfl
section
variable {M:Model} {A:Around} {E:Value→Shared→Prop} {s:Shared}
theorem rules_any {m:Sre.M} {Q:PUnit→Shared→Prop}:∀ (l:List Nat) (q:Q ⟨⟩ s),wpAny M A (forIn l PUnit.unit fun i (_:PUnit)=>(if m.seen.has i=true then (do rule (Sre.names.getD i ""); pure (ForInStep.yield ⟨⟩)) else pure (ForInStep.yield ⟨⟩):Sem (ForInStep PUnit))) Q E s
  | [],q=>by rw [List.forIn_nil]; exact wpAny_pure q
  | i::l,q=>by
    rw [List.forIn_cons]
    by_cases h:m.seen.has i=true
    · rw [if_pos h]; exact wpAny_bind (wpAny_bind (wpAny_rule (wpAny_pure (rules_any l q))))
    · rw [if_neg h]; exact wpAny_bind (wpAny_pure (rules_any l q))
theorem run_no {m:Sre.M} (h:SaidNo m) {Q:Option Sre.M→Shared→Prop} (q:Q none s):wpAny M A (Builtin.Re.reRunToEnd m) Q E s:=by
  obtain ⟨h1,h2,h3⟩:=h
  have hs:(m.runFor Builtin.Re.reTurnSteps).outcome=some .failed:=by
    have e:m.step={ m with outcome:=some .failed }:=by
      unfold Sre.M.step
      rw [h1,h2,h3]; rfl
    show (Sre.M.runFor 4 m).outcome=_
    rw [Sre.M.runFor,h1]
    simp only [Option.isSome_none,Bool.false_eq_true,if_false]
    rw [e]; rfl
  unfold Builtin.Re.reRunToEnd
  obtain ⟨n,hn⟩:∃ n,2 ^ 64=n+1:=⟨2 ^ 64 - 1,by decide⟩
  have drive:∀ {Q:Sre.M→Shared→Prop},Q (m.runFor Builtin.Re.reTurnSteps) s→wpAny M A (Builtin.Re.reDrive (2 ^ 64) m) Q E s:=fun {Q} q=>by
    rw [hn]
    unfold Builtin.Re.reDrive
    dsimp only
    rw [hs]
    exact wpAny_pure q
  refine wpAny_bind (drive ?_)
  refine wpAny_bind (rules_any _ ?_)
  rw [hs]
  exact wpAny_pure q
end
inductive PatO (h:Heap) (p:Addr) (code:Array Nat):Prop
  | mk (o:Obj) (fs:Array Value) (T:Addr) (ot:Obj) (items:Array Value) (n:Nat):h.get? p=some o→o.cls=.type "re.Pattern"→o.dict=none→o.data=.fields fs→Builtin.Re.reRawNat (fs.getD 6 .none)=0→Builtin.Re.reRawNat (fs.getD 2 .none)=0 →
    fs.getD 5 .none=.ref T→h.get? T=some ot→ot.data=.seq items n→(items.map Builtin.Re.reRawOf).map (·.toNat)=code→PatO h p code
structure PatOk (h:Heap) (p:Addr) (code:Array Nat):Prop where
  ex:PatO h p code
  first:∀ m:Sre.M,m.code=code→m.hasFirstSet=true
theorem PatOk.keep {h h':Heap} {p:Addr} {code:Array Nat} (x:PatOk h p code) (k:∀ b o,h.get? b=some o→h'.get? b=some o):PatOk h' p code :=
  ⟨x.ex.casesOn fun o fs T ot items n h1 h2 h3 h4 h5 h6 h7 h8 h9 h10=>⟨o,fs,T,ot,items,n,k _ _ h1,h2,h3,h4,h5,h6,h7,k _ _ h8,h9,h10⟩,x.first⟩
noncomputable def yn (code:Array Nat) (c:List Nat):Bool:=c.all fun d=>ok1 (Sre.inSet code d code.size 5 true {}) == some false
section
variable {prog:Program} {w:World} {A:Around} {E:Value→Shared→Prop} {s:Shared}
theorem re_named (v:Value):Builtin.Re.reNamed "re.Pattern.search" "search" ["string","pos","endpos"] 1 [v] []=pure [some v,none,none]:=rfl
theorem re_call {p:Addr} {code:Array Nat} {c:List Nat} {t:Tok} {Q:Value→Shared→Prop} (P:PatOk s.heap p code) (hp:yn code c=true) (hc:c.length≤100000) (q:Q .none s) :
    wpAny (model prog w) A (call (.builtin "re.Pattern.search") [.ref p,.str (mkS c) t]) Q E s:=by
  obtain ⟨o,fs,T,ot,items,n,h1,h2,h3,h4,h5,h6,h7,h8,h9,h10⟩:=P.ex
  have hT:s.TypeIs (.ref p) "re.Pattern":=⟨o,h1,h2⟩
  refine wpAny_call_entry re_slot hT re_entry ?_ (re_args _ _)
  unfold Builtin.«re.Pattern.search» Builtin.Re.reTarget
  refine wpAny_bind ?_
  dsimp only
  rw [re_named]
  refine wpAny_bind (wpAny_pure ?_)
  dsimp only
  refine wpAny_bind (wpAny_pure (wpAny_bind (wpAny_pure (wpAny_bind (wpAny_fieldsOf h1 h4 ?_)))))
  have e1:Builtin.Re.reTextOf (.str (mkS c) t)=pure ((mkS c).cps,0):=rfl
  rw [e1]
  refine wpAny_bind (wpAny_pure ?_)
  dsimp only
  rw [h5,h6,h7]
  rw [if_neg (by decide),if_neg (by decide)]
  have e2:Builtin.Re.reNoCollectionInside (.str (mkS c) t) 0=pure ⟨⟩:=rfl
  rw [e2]
  refine wpAny_bind (wpAny_pure ?_)
  refine wpAny_bind ?_
  unfold Builtin.Re.reRawItems
  refine wpAny_bind (wpAny_seqItems h8 h9 (wpAny_pure (wpAny_pure ?_)))
  dsimp only [Option.getD]
  rw [h10]
  have e3:min (Int.toNat 0) (mkS c).cps.size=0:=Nat.min_eq_left (Nat.zero_le _)
  have e4:min (2 ^ 63 - 1:Int).toNat (mkS c).cps.size=(mkS c).cps.size:=Nat.min_eq_right (by
    show c.toArray.size≤_
    rw [List.size_toArray]
    have:(2 ^ 63 - 1:Int).toNat=9223372036854775807:=by decide
    rw [this]; exact Nat.le_trans hc (by decide))
  rw [e3,e4]
  unfold Builtin.Re.reAnswer
  refine wpAny_bind (run_no (search_no P.first fun d hd=>?_) (wpAny_pure ⟨_,rfl,q⟩))
  have:=List.all_eq_true.mp hp d (by simpa [mkS] using hd)
  simpa using this
end
noncomputable def semIsN (a:AVal) (vs:VS):Option Bool :=
  match a with
  | .pv .none=>some true
  | .pv (.str _)=>some false
  | a=>(jy vs a).map fun _=>false
noncomputable def semIsT (a:AVal) (y:String):Option Bool :=
  match a with
  | .pv (.con (.type x))=>some (x == y)
  | _=>none
noncomputable def semIs (a b:AVal) (vs:VS):Option Bool :=
  match b with
  | .pv .none=>semIsN a vs
  | .pv (.con (.type y))=>semIsT a y
  | _=>none
theorem semIs_tt {x y:String} {vs:VS}:semIs (.pv (.con (.type x))) (.pv (.con (.type y))) vs=some (x == y):=rfl
theorem semIs_sn {c:List Nat} {vs:VS}:semIs (.pv (.str c)) (.pv .none) vs=some false:=rfl
theorem is_any {g:G} {B:PM} {P:PX} {env:Env} {ks:List (Str×VK)} {s:Shared} {vs:VS} {val:Nat→Value} {foot:Nat→List Addr} {cel:Nat→Addr} {a b:AVal} {t:Bool} {x y:Value} (e:semIs a b vs=some t)
    (I:Iv g B P env ks vs s.heap val foot cel) (Ra:RepA g B s.heap val a x []) (Rb:RepA g B s.heap val b y []):plainIs x y=true∧(x == y)=t:=by
  unfold semIs at e
  split at e
  · unfold semIsN at e
    split at e
    · injection e with e; subst e; apply RV.none_ Ra.1; apply RV.none_ Rb.1; exact ⟨rfl,rfl⟩
    · injection e with e; subst e; (apply RV.str_ Ra.1; intro _); apply RV.none_ Rb.1; exact ⟨rfl,rfl⟩
    · obtain ⟨l,e1,e2⟩:=Option.map_eq_some_iff.mp e
      subst e2
      obtain ⟨c,ws,n,rfl,hg,hr⟩:=j9 I e1 Ra
      apply RV.none_ Rb.1
      exact ⟨rfl,rfl⟩
  · unfold semIsT at e
    split at e
    case h_2=>exact jb e
    injection e with e; subst e; apply RV.con_ Ra.1; apply RV.con_ Rb.1
    rename_i q _ p
    refine ⟨rfl,?_⟩
    cases h:p == q with
    | true=>rw [eq_of_beq h]; exact beq_self_eq_true _
    | false =>
      rw [beq_eq_false_iff_ne] at h ⊢
      intro hh; injection hh with hh; replace hh:=hh.symm; subst hh; exact h rfl
  · exact jb e
theorem op_is:Op2 (compareOp .Is) fun a b vs=>(semIs a b vs).map .bool:=by
  intro g A B P env ks s vs val foot cel a b p x y e hu I Ra Rb
  obtain ⟨t,e1,e2⟩:=Option.map_eq_some_iff.mp e
  subst e2
  obtain ⟨h1,h2⟩:=is_any e1 I Ra Rb
  exact wpAny_is_plain h1 (by rw [h2]; exact .here I.hB (.bool _))
theorem op_isNot:Op2 (compareOp .IsNot) fun a b vs=>(semIs a b vs).map fun t=>.bool (!t):=by
  intro g A B P env ks s vs val foot cel a b p x y e hu I Ra Rb
  obtain ⟨t,e1,e2⟩:=Option.map_eq_some_iff.mp e
  subst e2
  obtain ⟨h1,h2⟩:=is_any e1 I Ra Rb
  exact wpAny_isNot_plain h1 (by rw [h2]; exact .here I.hB (.bool _))
noncomputable def TabS (g:G) (x:Str) (T:List (List Nat×Int)):Prop:=∃ d D,g.mg x=some (.ref d)∧StrTab g.prog g.w g.h₀ d D∧∀ c i,T.lookup c=some i→lookup (.str (mkS c)) D=some (.int i)
noncomputable def evTab (T:List (List Nat×Int)) (f:Ev):Ev:=fun vs=>(f vs).bind fun p=>match p.1 with
  | .pv (.str c)=>(T.lookup c).map fun i=>(.pv (.int i),p.2)
  | _=>none
theorem flat_int {v:Value} {i:Int} (h:PyProof.V.Flat v (.int i)):∃ t,v=.int i t:=by
  have r:=h {}
  cases r with
  | int t=>exact ⟨_,rfl⟩
section
variable {g:G} {B B':PM} {P:PX} {env:Env} {ks ks':List (Str×VK)} {vs vs':VS} {h h':Heap} {val val':Nat→Value} {foot foot':Nat→List Addr} {cel:Nat→Addr} {s s':Shared} {A:Around} {r:Nat}
theorem den_tabS {k:Nat} {x:Str} {p pos:Pos} {slice:Expr} {f:Ev} {T:List (List Nat×Int)} (ok:GOk g) (hk:ks[k]?=some (x,VK.glo)) (T0:TabS g x T) (d:Den g r ks slice f)
    (hs:∀ o c t,subscripted slice false (.ref o) (.str c t)=operate [.ref o,.str c t] (getItem (.ref o) (.str c t)):=by intro _ _ _; rfl) (hd:(x == ("__debug__" : Str))=false:=by decide) :
    Den g r ks (.Subscript (.Name x p) slice pos) (evTab T f):=by
  intro A B P env s vs val foot cel v vs' h R I
  obtain ⟨⟨a,ws⟩,h1,h⟩:=jd h
  dsimp only at h
  split at h
  case h_2=>exact jb h
  obtain ⟨i,h2,h3⟩:=Option.map_eq_some_iff.mp h
  injection h3 with ee0 ee1; subst ee0; replace ee1:=ee1.symm; subst ee1
  obtain ⟨dd,D,hm,hT,hL⟩:=T0
  refine Subscript_ (glob_any ok hk (.inl hm) hd I ?_)
  refine wpAny_mono (d A B P env s vs val foot cel _ _ h1 R I) (fun y s₁ e=>?_) fun _ _ f=>f
  revert e
  refine EPost.rev fun sh B1 F x1 I1 R1 _ _=>?_
  (apply RV.str_ R1.1; intro _)
  refine item_strTab (x:=mkS _) (hT.keep I1.keep0) (hL _ _ h2) (fun v hv=>?_) (hs _ _ _) fun _=>rfl
  obtain ⟨t,rfl⟩:=flat_int hv
  exact (EPost.of_PR I1 (.same I1.hB (.int _ _))).from sh x1
end
noncomputable def HCls (g:G):Prop:=∃ K:Frag,K.In g.h₀∧plainGet K g.HC "_headers"=true∧hasDictIn K g.HC=true∧findIn K (.ref g.HC) "_headers"=some none
section
variable {g:G} {B B':PM} {P:PX} {env:Env} {ks ks':List (Str×VK)} {vs vs':VS} {h h':Heap} {val val':Nat→Value} {foot foot':Nat→List Addr} {cel:Nat→Addr} {s s':Shared} {A:Around} {r:Nat}
theorem HdrAt.inst {a b:Addr} (x:HdrAt g B a b) (hB:∀ b o,B b=some o→h.get? b=some o):∃ ox es n,W.InstAt h a ox g.HC (some (dictOf es n))∧∀ y,getL y es=if y=("_headers" : Str) then some (some (.ref b)) else some none:=by
  obtain ⟨d,es,n,h1,h2,h3⟩:=x
  exact ⟨_,es,n,⟨hB _ _ h1,rfl,rfl,hB _ _ h2⟩,h3⟩
noncomputable def yt (vs:VS) (k:Nat):Option (List PV):=match vs[k]? with
  | some (.ob (.hdr l))=>some l
  | some (.br (.hdr l))=>some l
  | _=>none
theorem hdrOf_at (I:Iv g B P env ks vs s.heap val foot cel) {k:Nat} {l:List PV} (e:yt vs k=some l):∃ a b,val k=.ref a∧HdrAt g B a b∧∃ sl,vs[k]?=some sl∧sl ≠ .un:=by
  unfold yt at e
  split at e
  · rename_i l' h0
    obtain ⟨a,b,ws,n,h1,h2,h3,h4,h5⟩:=I.slots k _ h0
    exact ⟨a,b,h1,h3,_,h0,by simp⟩
  · rename_i l' h0
    obtain ⟨_,F',a,b,ws,n,h1,h2,h3,h4,h5⟩:=I.slots k _ h0
    exact ⟨a,b,h1,h3,_,h0,by simp⟩
  · exact jb e
noncomputable def yW (k:Nat):Ev:=fun vs=>(yt vs k).map fun _=>(.sub k,vs)
theorem Jd {k:Nat} {x:Str} {vk:VK} {p pos:Pos} (H:HCls g) (hk:ks[k]?=some (x,vk)) (hg:vk ≠ .glo:=by decide) (hd:(x == ("__debug__" : Str))=false:=by decide)
    (hc:(x == ("__classdict__" : Str))=false:=by decide):Den g r ks (.Attribute (.Name x p) "_headers" pos) (yW k):=by
  intro A B P env s vs val foot cel v vs' h R I
  obtain ⟨l,h1,h2⟩:=Option.map_eq_some_iff.mp h
  injection h2 with ee2 ee3; subst ee2; subst ee3
  obtain ⟨a,b,ha,hh,sl,hs,hn⟩:=hdrOf_at I h1
  obtain ⟨ox,es,n,In,hL⟩:=hh.inst I.hB
  obtain ⟨K,hK,hp,hdi,hf⟩:=H
  refine Attribute_name (wpAny_Name (yV I hs hn hk hg hc ?_) hd)
  rw [ha]
  refine get_value (hK.keeps I.keep0) In (plainGet_of hp).1 (findObj_own hdi hf rfl (by rw [lookIn_dict,hL]; rfl)) rfl ?_
  exact .mk0 ⟨s.heap,_,rfl,.refl _⟩ (.refl _ _) I ⟨⟨a,b,ha,hh,rfl⟩,rfl⟩
end
structure MFd (st:Stmt) (fd:FuncData):Prop where
  params:fd.params=sArgs st
  body:fd.body=.stmts (sBody st)
  scope:fd.scope=sScope st
  glob:fd.globals=mainGlobals
  clo:fd.closure=[]
  blt:fd.builtins=builtinsNs
inductive MAt (g:G) (name:Str) (st:Stmt) (df kd:Value):Prop
  | mk (K:Frag) (f:Addr) (fo:Obj) (fd:FuncData):K.In g.h₀→plainGet K g.HC name=true→findIn K (.ref g.HC) name=some (some (.ref f))→typeIn K (.ref f)=some (.type "function")→g.h₀.get? f=some fo→fo.data=.func fd→MFd st fd→fd.defaults=df→fd.kwdefaults=kd→g.h₀.CodeRec fd.code fd.qualname→MAt g name st df kd
inductive HasM (g:G) (r:Nat) (name:Str) (st:Stmt) (df kd:Value) (ps:List Str) (F:jw):Prop
  | mk (K:Frag) (f:Addr) (fo:Obj) (fd:FuncData):K.In g.h₀→plainGet K g.HC name=true→findIn K (.ref g.HC) name=some (some (.ref f))→typeIn K (.ref f)=some (.type "function")→g.h₀.get? f=some fo→fo.data=.func fd→MFd st fd→fd.defaults=df→fd.kwdefaults=kd→FnD g r f fd ps F→HasM g r name st df kd ps F
section
variable {g:G} {B B':PM} {P:PX} {env:Env} {ks ks':List (Str×VK)} {vs vs':VS} {h h':Heap} {val val':Nat→Value} {foot foot':Nat→List Addr} {cel:Nat→Addr} {s s':Shared} {A:Around} {r:Nat}
theorem hasM_of {name:Str} {st:Stmt} {df kd:Value} {n nl:Nat} {f:Ex} (ok:GOk g) (a:MAt g name st df kd) (d:DenB g r ks (sBody st) f) (hks:ksOk (sScope st).names ks=true) (nd:(ks.map (·.1)).Nodup) (hn:n+nl≤ks.length)
    (hco:(sScope st).isCoroutine=false:=by rfl) (hgen:(sScope st).isGenerator=false:=by rfl) (hk:(sScope st).kind=.function:=by rfl):HasM g (r+1) name st df kd ((ks.take n).map (·.1)) (fnOf ks n nl f):=by
  obtain ⟨K,fa,fo,fd,h1,h2,h3,h4,h5,h6,M,h7,h8,h9⟩:=a
  exact ⟨K,fa,fo,fd,h1,h2,h3,h4,h5,h6,M,h7,h8,fn_frame ok.lim h5 h6 M.body M.glob M.blt M.clo h9 (by rw [M.scope]; exact hks) nd hn d (by rw [M.scope]; exact hco) (by rw [M.scope]; exact hgen) (by rw [M.scope]; exact hk)⟩
theorem method_hdr {K:Frag} {f a b:Addr} {name:Str} {pl:Sem Bool} {Q:Value×List Value→Shared→Prop} (hK:K.In s.heap) (hp:plainGet K g.HC name=true) (hf:findIn K (.ref g.HC) name=some (some (.ref f)))
    (ht:typeIn K (.ref f)=some (.type "function")) (hh:HdrAt g B a b) (hB:∀ b o,B b=some o→s.heap.get? b=some o) (hn:(name == ("_headers" : Str))=false) (q:Q (.ref f,[.ref a]) s):wpAny (model g.prog g.w) A (getMethod (.ref a) name pl) Q No s:=by
  obtain ⟨ox,es,n,In,hL⟩:=hh.inst hB
  refine method_fn hK In (plainGet_of hp).1 (plainGet_of hp).2 hf ht ?_ q
  show (lookIn name (dictOf es n)).map _=_
  rw [lookIn_dict,hL,if_neg (by rintro rfl; simp at hn)]
  rfl
inductive DensK (g:G) (r:Nat) (ks:List (Str×VK)):List Keyword→List Str→List Ev→Prop
  | nil:DensK g r ks [] [] []
  | cons {kw kws x xs e f fs}:Den g r ks e f→(∀ pos env,backToKw pos (keywordEach (kw::kws) env)=(some x,(do let v ← eval e env; standAt pos; pure v))::backToKw pos (keywordEach kws env))→DensK g r ks kws xs fs→DensK g r ks (kw::kws) (x::xs) (f::fs)
theorem densK_vals {pos:Pos} {kws:List Keyword} {xs:List Str} {fs:List Ev} (ds0:DensK g r ks kws xs fs):∀ {A:Around} {B:PM} {P:PX} {env:Env} {s:Shared} {vs:VS} {val:Nat→Value} {foot:Nat→List Addr} {cel:Nat→Addr} {l:List PV} {vs':VS},
    evs fs vs=some (l,vs')→Room A r→Iv g B P env ks vs s.heap val foot cel →
    wpAny (model g.prog g.w) A (evalAll ((backToKw pos (keywordEach kws env)).map (·.2))) (LPost g P env ks cel B s val foot l vs') No s:=by
  induction ds0 with
  | nil =>
    intro A B P env s vs val foot cel l vs'
    intro h R I
    injection h with h; injection h with ee0 ee1; subst ee0; subst ee1
    exact wpAny_evalAll_nil ⟨.refl _,B,.refl _ _,I,.nil⟩
  | cons d he ds ih =>
    intro A B P env s vs val foot cel l vs'
    intro h R I
    revert h
    refine jc fun p h1 h=>?_
    revert h
    refine jc fun q h2 h=>?_
    obtain ⟨w,h3,h4⟩:=Option.map_eq_some_iff.mp h
    injection h4 with ee2 ee3; subst ee2; subst ee3
    rw [he]
    refine wpAny_evalAll_cons (wpAny_bind (wpAny_mono (d A B P env s vs val foot cel p.1 p.2 h1 R I) (fun x s₁ e=>wpAny_bind (wpAny_standAt (wpAny_pure ?_))) fun _ _ f=>f))
    refine EPost.frozeE e (yg h2) fun sh1 B1 x1 I1 R1=>?_
    refine wpAny_mono (ih (l:=w.1) (vs':=w.2) h3 R I1) (fun xs s₂ t=>?_) fun _ _ f=>f
    obtain ⟨sh2,B2,x2,I2,R2⟩:=t
    exact ⟨sh1.trans sh2,B2,x1.trans x2 sh1.size,I2,.cons (R1.1.mono x2.le) R2⟩
theorem densK_names {pos:Pos} {kws:List Keyword} {xs:List Str} {fs:List Ev} (ds0:DensK g r ks kws xs fs):∀ env,(backToKw pos (keywordEach kws env)).all (·.1.isSome)=true∧(backToKw pos (keywordEach kws env)).filterMap (·.1)=xs:=by
  induction ds0 with
  | nil =>
    intro env
    exact ⟨rfl,rfl⟩
  | cons d he ds ih =>
    intro env
    obtain ⟨h1,h2⟩:=ih env
    rw [he]
    exact ⟨by simp [h1],by simp [h2]⟩
theorem evalArgs_kwS {M:Model} {A:Around} {E:Value→Shared→Prop} {s:Shared} {f:Value} {keywords:List (Option Str×Sem Value)} {Q:Args→Shared→Prop} (hall:keywords.all (·.1.isSome)=true)
    (h:wpAny M A (spliced []) (fun vs s₁=>wpAny M A (evalAll (keywords.map (·.2))) (fun ks s₂=>Q ⟨vs,(keywords.filterMap (·.1)).zip ks⟩ s₂) E s₁) E s):wpAny M A (evalArgs f true [] keywords) Q E s:=by
  unfold evalArgs
  show wpAny M A (spliced [] >>= _) Q E s
  refine wpAny_bind (wpAny_mono h (fun vs s' h'=>?_) fun _ _ x=>x)
  refine wpAny_bind (wpAny_pure ?_)
  refine wpAny_holding ?_
  simp only [hall,if_true]
  refine wpAny_bind (wpAny_mono h' (fun ks s₂ h₂=>?_) fun _ _ x=>x)
  exact wpAny_bind (wpAny_pure (wpAny_pure h₂))
theorem callFK {pos:Pos} {fa:Addr} {o:Obj} {fd:FuncData} (hd:o.data=.func fd) {first:List Value} {es:List Expr} {fs gs:List Ev} {kws:List Keyword} {xs:List Str} (ds:Dens g r ks es fs) (dk:DensK g r ks kws xs gs) {M:Model} {E:Value→Shared→Prop} {Q:Value→Shared→Prop}
    (h:wpAny M A (spliced (backTo pos (starEach es env))) (fun vs s₁=>wpAny M A (evalAll ((backToKw pos (keywordEach kws env)).map (·.2))) (fun kvs s₂=>s₂.heap.get? fa=some o∧wpAny M A (call (.ref fa) (first++vs) (xs.zip kvs)) Q E s₂) E s₁) E s) :
    wpAny M A (callWith pos (.ref fa) first (backTo pos (starEach es env)) (backToKw pos (keywordEach kws env))) Q E s:=by
  obtain ⟨k1,k2⟩:=densK_names (pos:=pos) dk env
  cases ds with
  | nil =>
    refine callWith_function_kw (o:=o) (fd:=fd) (evalArgs_kwS k1 (wpAny_mono h (fun vs s₁ q=>wpAny_mono q (fun kvs s₂ q=>?_) fun _ _ x=>x) fun _ _ x=>x))
    rw [k2]; exact ⟨⟨q.1,hd⟩,q.2⟩
  | cons d he ds =>
    rw [he] at h ⊢
    refine callWith_function_kw (o:=o) (fd:=fd) (evalArgs_kw k1 (wpAny_mono h (fun vs s₁ q=>wpAny_mono q (fun kvs s₂ q=>?_) fun _ _ x=>x) fun _ _ x=>x))
    rw [k2]; exact ⟨⟨q.1,hd⟩,q.2⟩
theorem evs_len:∀ {fs:List Ev} {vs vs':VS} {l:List PV},evs fs vs=some (l,vs')→l.length=fs.length
  | [],_,_,_,h=>by injection h with h; injection h with ee4 ee5; subst ee4; subst ee5; rfl
  | f::fs,vs,vs',l,h=>by
    revert h
    refine jc fun p h1 h=>?_
    revert h
    refine jc fun q h2 h=>?_
    obtain ⟨w,h3,h4⟩:=Option.map_eq_some_iff.mp h
    injection h4 with ee6 ee7; subst ee6; subst ee7
    simpa using evs_len (l:=w.1) (vs':=w.2) h3
noncomputable def Jb (l:List PV):VS:=l.map .pv
noncomputable def jE (k n:Nat) (F:jw) (fs gs:List Ev) (ds:List PV):Ev:=fun vs=>(yt vs k).bind fun _=>(evs fs vs).bind fun p=>(evs gs p.2).bind fun q=>if p.1.length=n then (yt q.2 k).bind fun l=>(F (.br (.hdr l)::Jb (p.1++q.1++ds))).bind fun t=>(vR t.1).map fun w=>(w,q.2) else none
theorem hdr_br (I:Iv g B P env ks vs s.heap val foot cel) {k:Nat} {l:List PV} (e:yt vs k=some l):∃ F',Own g B (restOf s.heap []) (.hdr l) (val k) F':=by
  have rest:∀ {b:Addr} {o:Obj},s.heap.get? b=some o→restOf s.heap [] b=some o:=fun {b o} e=>by unfold restOf; rw [if_neg (by simp)]; exact e
  unfold yt at e
  split at e
  · rename_i l' h0
    injection e with e; replace e:=e.symm; subst e
    exact ⟨_,Own.mono (fun _ _ e=>e) (I.slots k _ h0) fun a _ o e=>rest e⟩
  · rename_i l' h0
    injection e with e; replace e:=e.symm; subst e
    obtain ⟨_,F',hF⟩:=I.slots k _ h0
    exact ⟨F',Own.mono (fun _ _ e=>e) hF fun a _ o e=>rest (I.hP _ _ (I.hR _ _ e))⟩
  · exact jb e
theorem pvs_args {L:List PV} {ws:List Value} (h:RVs B L ws) {P:PM} {hh:Heap}:∀ (k:Nat) (sl:Slot),(Jb L)[k]?=some sl→ArgOk g B P hh sl (ws.getD k .none) []:=by
  intro k sl e
  unfold Jb at e
  rw [List.getElem?_map] at e
  obtain ⟨p,h1,rfl⟩:=Option.map_eq_some_iff.mp e
  obtain ⟨v,h2,h3⟩:=h.get h1
  rw [List.getD_eq_getElem?_getD,h2]
  exact ⟨h3,rfl⟩
theorem nils_at (m k:Nat):(([]:List Addr)::List.replicate m []).getD k []=[]:=by
  rw [List.getD_eq_getElem?_getD]
  cases e:(([]:List Addr)::List.replicate m [])[k]? with
  | none=>rfl
  | some a =>
    rcases List.mem_cons.mp (List.mem_of_getElem? e) with q | q
    · rw [q]; rfl
    · rw [(List.mem_replicate.mp q).2]; rfl
theorem yi {k n r':Nat} {x name:Str} {vk:VK} {p apos pos:Pos} {es:List Expr} {kws:List Keyword} {xs:List Str} {fs gs:List Ev} {ds:List PV} {dvs:List Value} {st:Stmt} {df kd:Value} {ps:List Str} {F:jw} {pl:Env→Sem Bool}
    (H:HasM g r name st df kd ps F) (hk:ks[k]?=some (x,vk)) (dE:Dens g r' ks es fs) (dK:DensK g r' ks kws xs gs) (hr:r≤r') (hds:∀ B,RVs B ds dvs)
    (hbind:∀ fd,MFd st fd→fd.defaults=df→fd.kwdefaults=kd→∀ s:Shared,(∀ b o,g.h₀.get? b=some o→s.heap.get? b=some o)→∀ a us ws,us.length=n→ws.length=xs.length→BindsTo s fd ⟨a::us,xs.zip ws⟩ (ps.zip (a::(us++ws++dvs))))
    (hgl:xs.length=gs.length:=by rfl) (hn:(name == ("_headers" : Str))=false:=by decide) (hg:vk ≠ .glo:=by decide) (hd:(x == ("__debug__" : Str))=false:=by decide) (hc:(x == ("__classdict__" : Str))=false:=by decide)
    (he:∀ env,eval (.Call (.Attribute (.Name x p) name apos) es kws pos) env=(do
      let ov ← eval (.Name x p) env
      standAt apos.atName
      let (f,first) ← holding [ov] (getMethod ov name (pl env))
      callWith pos f first (backTo pos (starEach es env)) (backToKw pos (keywordEach kws env))):=by intro _; rfl) :
    Den g r' ks (.Call (.Attribute (.Name x p) name apos) es kws pos) (jE k n F fs gs ds):=by
  intro A B P env s vs val foot cel v vs' h R I
  revert h
  refine jc fun l0 h1 h=>?_
  obtain ⟨⟨l1,v1⟩,h2,h⟩:=jd h
  obtain ⟨⟨l2,v2⟩,h3,h⟩:=jd h
  split at h
  case isFalse=>exact jb h
  rename_i hln
  revert h
  refine jc fun l h4 h=>?_
  obtain ⟨⟨sl,sls'⟩,h5,h⟩:=jd h
  obtain ⟨w,h6,h7⟩:=Option.map_eq_some_iff.mp h
  injection h7 with ee8 ee9; replace ee8:=ee8.symm; subst ee8; subst ee9
  obtain ⟨K,fa,fo,fd,hK,hp,hf,ht,ho,hdd,M,e1,e2,sp⟩:=H
  obtain ⟨a,b,ha,hh,sl0,hs0,hn0⟩:=hdrOf_at I h1
  refine methodCall_KW (pl:=pl env) (wpAny_Name (yV I hs0 hn0 hk hg hc ?_) hd) (he env)
  rw [ha]
  refine method_hdr (hK.keeps I.keep0) hp hf ht hh I.hB hn ?_
  refine callFK hdd dE dK (wpAny_mono (vN dE (l:=l1) (vs':=v1) h2 R I) (fun us s₁ t=>?_) fun _ _ f=>f)
  obtain ⟨sh1,B1,x1,I1,R1⟩:=t
  refine wpAny_mono (densK_vals dK (l:=l2) (vs':=v2) h3 R I1) (fun ws s₂ t=>?_) fun _ _ f=>f
  obtain ⟨sh2,B2,x2,I2,R2⟩:=t
  refine ⟨I2.keep0 _ _ ho,?_⟩
  have RR:RVs B2 (l1++l2++ds) (us++ws++dvs):=((R1.mono x2.le).append R2).append (hds B2)
  obtain ⟨F',hF'⟩:=hdr_br I2 h4
  rw [ha] at hF'
  have C:CallIn g B2 (restOf s₂.heap []) s₂.heap (.br (.hdr l)::Jb (l1++l2++ds)) (.ref a::(us++ws++dvs)) ([]::List.replicate (l1++l2++ds).length []):=by
    refine ⟨Nat.le_trans I2.above (Nat.le_of_lt (I2.ownLt (i:=none) rfl)),I2.base,I2.hB,fun b o e=>?_,by have:=RR.length; simp [Jb] at this ⊢; omega,by simp [Jb],fun k sl e=>?_,fun k a ha=>?_,fun i j a ha=>?_⟩
    · unfold restOf at e; rw [if_neg (by simp)] at e; exact e
    · cases k with
      | zero=>simp at e; subst e; exact ⟨rfl,F',hF'⟩
      | succ k =>
        have q:=pvs_args (g:=g) RR (P:=restOf s₂.heap []) (hh:=s₂.heap) k sl (by simpa using e)
        rw [nils_at]
        simpa using q
    · exfalso
      rw [nils_at] at ha; simp at ha
    · exfalso
      rw [nils_at] at ha; simp at ha
  have hus:us.length=n:=by rw [R1.length]; exact hln
  have hws:ws.length=xs.length:=by
    rw [R2.length,hgl]; exact evs_len h3
  refine wpAny_mono (sp A B2 _ s₂ _ ⟨.ref a::us,xs.zip ws⟩ _ _ sl sls' h5 (R.mono hr) C (hbind fd M e1 e2 s₂ I2.keep0 (.ref a) us ws hus hws)) (fun y s₃ e=>?_) fun _ _ f=>f
  obtain ⟨sh3,B3,F3,x3,hB3,hP3,_,hv,lo,_⟩:=e
  have keep:∀ b o,s₂.heap.get? b=some o→s₃.heap.get? b=some o:=fun b o e=>hP3 b o (by unfold restOf; rw [if_neg (by simp)]; exact e)
  have I3:Iv g B3 P env ks v2 s₃.heap val foot cel:=I2.grow keep x3 hB3
  refine EPost.from (sh1.trans sh2) (x1.trans x2 sh1.size) ⟨sh3,B3,F3,x3,I3,?_,fun a ha=>⟨(lo a ha).2,?_,fun i o=>?_⟩,fun a ha=>(lo a ha).1⟩
  · cases sl with
    | pv p=>injection h6 with h6; subst h6; exact hv
    | ob o=>injection h6 with h6; subst h6; exact hv
    | _=>exact jb h6
  · cases e:P.pr a with
    | none=>rfl
    | some o=>have:=I2.hP a o e; rw [(lo a ha).1] at this; exact jb this
  · obtain ⟨ob,e⟩:=I2.ownAt o
    rw [(lo a ha).1] at e; exact jb e
end
section
variable {g:G} {B B':PM} {P:PX} {env:Env} {ks ks':List (Str×VK)} {vs vs':VS} {h h':Heap} {val val':Nat→Value} {foot foot':Nat→List Addr} {cel:Nat→Addr} {s s':Shared} {A:Around} {r:Nat}
noncomputable def evMethW (k n:Nat) (F:jw) (fs:List Ev):Ev:=fun vs=>(yt vs k).bind fun _=>(evs fs vs).bind fun p=>if p.1.length=n then (jU p.2 (.own k::p.1.map .pv)).bind fun sls=>(F sls).bind fun q =>
  (yq (.own k::p.1.map .pv) q.2 p.2).bind fun vs2=>(vR q.1).map fun w=>(w,vs2) else none
theorem ownNd_pvs (k:Nat) (l:List PV):vJ (.own k::l.map .pv)=true:=by
  have h1:∀ l:List PV,vJ (l.map .pv)=true:=fun l=>by
    induction l with
    | nil=>rfl
    | cons p l ih=>exact ih
  have h2:∀ l:List PV,(l.map AVal.pv).all (fun a=>ownK a != some k)=true:=fun l=>by
    induction l with
    | nil=>rfl
    | cons p l ih=>simp only [List.map_cons,List.all_cons,ih,Bool.and_true]; rfl
  show (List.all _ _&&_)=true
  rw [h1,h2]; rfl
theorem repF_own {k:Nat} {l:List PV} {us:List Value} (h:RVs B l us) {hh:Heap}:RepF g B hh val (.own k::l.map .pv) (val k::us) ([]::List.replicate l.length []):=by
  refine ⟨by simp [h.length],by simp,fun i a e=>?_,fun i j a ha=>?_⟩
  · rw [nils_at]
    cases i with
    | zero=>simp at e; subst e; exact ⟨rfl,rfl⟩
    | succ i =>
      have e:(l.map AVal.pv)[i]?=some a:=by simpa using e
      rw [List.getElem?_map] at e
      obtain ⟨p,h1,rfl⟩:=Option.map_eq_some_iff.mp e
      obtain ⟨v,h2,h3⟩:=h.get h1
      show RepA g B hh val (.pv p) (us.getD i .none) []
      rw [List.getD_eq_getElem?_getD,h2]
      exact ⟨h3,rfl⟩
  · rw [nils_at] at ha; simp at ha
end
noncomputable def TabI (g:G) (x:Str) (T:List (Int×List Nat)):Prop:=∃ d D,g.mg x=some (.ref d)∧IntTab g.prog g.w g.h₀ d D∧∀ i c,T.lookup i=some c→lookup (.int i) D=some (.str (mkS c))
theorem flat_str {v:Value} {c:Str} (h:PyProof.V.Flat v (.str c)):∃ t,v=.str c t:=by
  have r:=h {}
  cases r with
  | str t=>exact ⟨_,rfl⟩
section
variable {g:G} {B B':PM} {P:PX} {env:Env} {ks ks':List (Str×VK)} {vs vs':VS} {h h':Heap} {val val':Nat→Value} {foot foot':Nat→List Addr} {cel:Nat→Addr} {s s':Shared} {A:Around} {r:Nat}
noncomputable def evTabGet (T:List (Int×List Nat)) (f1 f2:Ev):Ev:=fun vs=>(f1 vs).bind fun p=>match p.1 with
  | .pv (.int i)=>(f2 p.2).bind fun q=>match q.1 with
    | .pv (.str d)=>(T.lookup i).map fun c=>(.pv (.str c),q.2)
    | _=>none
  | _=>none
theorem den_tabGet {k:Nat} {x:Str} {p apos pos:Pos} {e1 e2:Expr} {f1 f2:Ev} {T:List (Int×List Nat)} {pl:Env→Sem Bool} (ok:GOk g) (hk:ks[k]?=some (x,VK.glo)) (T0:TabI g x T) (d1:Den g r ks e1 f1) (d2:Den g r ks e2 f2)
    (hd:(x == ("__debug__" : Str))=false:=by decide)
    (hs1:∀ env,starEach [e1,e2] env=(false,eval e1 env)::starEach [e2] env:=by intro _; rfl) (hs2:∀ env,starEach [e2] env=(false,eval e2 env)::starEach [] env:=by intro _; rfl)
    (he:∀ env,eval (.Call (.Attribute (.Name x p) "get" apos) [e1,e2] [] pos) env=(do
      let ov ← eval (.Name x p) env
      standAt apos.atName
      let (f,first) ← holding [ov] (getMethod ov "get" (pl env))
      callWith pos f first (backTo pos (starEach [e1,e2] env)) []):=by intro _; rfl) :
    Den g r ks (.Call (.Attribute (.Name x p) "get" apos) [e1,e2] [] pos) (evTabGet T f1 f2):=by
  intro A B P env s vs val foot cel v vs' h R I
  obtain ⟨⟨a1,v1⟩,h1,h⟩:=jd h
  dsimp only at h
  split at h
  case h_2=>exact jb h
  rename_i i
  obtain ⟨⟨a2,v2⟩,h2,h⟩:=jd h
  dsimp only at h
  split at h
  case h_2=>exact jb h
  rename_i dd
  obtain ⟨c,h3,h4⟩:=Option.map_eq_some_iff.mp h
  injection h4 with ee0 ee1; subst ee0; replace ee1:=ee1.symm; subst ee1
  obtain ⟨d,D,hm,hT,hL⟩:=T0
  refine MethodCall_ (glob_any ok hk (.inl hm) hd I ?_) (he env)
  refine getMethod_intTab_get (hT.keep I.keep0) ?_
  refine callMB (.cons d1 hs1 (.cons d2 hs2 .nil)) ?_
  refine wpAny_items_cons (wpAny_mono (d1 A B P env s vs val foot cel _ v1 h1 R I) (fun y s₁ e=>?_) fun _ _ f=>f) (hs1 env)
  revert e
  refine EPost.rev fun sh1 B1 F1 x1 I1 R1 _ _=>?_
  refine wpAny_items_cons (wpAny_mono (d2 A B1 P env s₁ v1 val foot cel _ _ h2 R I1) (fun z s₂ e=>wpAny_items_nil ?_) fun _ _ f=>f) (hs2 env)
  revert e
  refine EPost.rev fun sh2 B2 F2 x2 I2 R2 _ _=>?_
  (apply RV.int_ R1.1; intro _)
  (apply RV.str_ R2.1; intro _)
  refine call_get2_intTab (hT.keep I2.keep0) (dd:=.str (mkS dd)) (PyProof.V.Flat.str _ _) fun w hw=>?_
  rw [hL _ _ h3] at hw
  obtain ⟨t,rfl⟩:=flat_str hw
  exact (EPost.of_PR I2 (.same I2.hB (.str _ _))).from (sh1.trans sh2) (x1.trans x2 sh1.size)
theorem dens_setCompC {k:Nat} {x:Str} {pos' pos p2:Pos} {elt:Expr} {gens:List Comprehension} {scope:Scope} {f:Ev} (d:Den g r ks (.ListComp elt gens scope p2) f) (hk:ks[k]?=some (x,VK.cel)) :
    DenS g r ks (.Assign [.Name x pos'] (.ListComp elt gens scope p2) pos) (jD k f):=by
  intro A B P env s vs val foot cel fl vs' h R I
  have hs:swapsWith (.ListComp elt gens scope p2) (some (.Name x pos')) pos.line env=pure false:=by
    have e1:(env.kindOf x == some .local)=false:=by rw [(I.ev.kc k x hk).1]; rfl
    show (pure (env.blockKind == .function&&env.kindOf x == some .local&&pos'.line == p2.line&&!(scope.names.any fun (n,k)=>n == x&&(k == .local||k == .cell))):Sem Bool)=pure false
    rw [e1]; simp
  revert h
  refine jc fun p h1 h=>?_
  revert h
  refine jc fun q h2 h=>?_
  split at h
  · rename_i hlt
    injection h with h; injection h with ee2 ee3; subst ee2; subst ee3
    refine wpAny_Assign_Name (wpAny_mono (d A B P env s vs val foot cel p.1 p.2 h1 R I) (fun v s₁ e=>?_) fun _ _ f=>f) hs
    refine EPost.frozeE e (yg h2) fun sh B1 x1 I1 R1=>?_
    refine vw I1 hk (.inr rfl) hlt R1.1 fun h' t' I' al=>?_
    exact ⟨sh.trans ⟨h',t',rfl,al⟩,B1,_,_,[],x1,I',rfl⟩
  · exact jb h
noncomputable def exNever:Ex:=fun _=>none
theorem vU {st:Stmt}:DenS g r ks st exNever:=by
  intro A B P env s vs val foot cel fl vs' h
  exact jb h
end
section
variable {g:G} {B B':PM} {P:PX} {env:Env} {ks ks':List (Str×VK)} {vs vs':VS} {h h':Heap} {val val':Nat→Value} {foot foot':Nat→List Addr} {cel:Nat→Addr} {s s':Shared} {A:Around} {r:Nat}
inductive DensD (g:G) (r:Nat) (ks:List (Str×VK)):List (Option Expr)→List Expr→List Int→List Ev→Prop
  | nil:DensD g r ks [] [] [] []
  | cons {k v i f kes ves is fs}:Den g r ks k (jo (.int i))→Den g r ks v f→DensD g r ks kes ves is fs→DensD g r ks (some k::kes) (v::ves) (i::is) (f::fs)
inductive DPost (g:G) (P:PX) (env:Env) (ks:List (Str×VK)) (cel:Nat→Addr) (B:PM) (s:Shared) (val:Nat→Value) (foot:Nat→List Addr) (is:List Int) (l:List PV) (vs':VS) (ps:List (Value×Value)) (s':Shared):Prop
  | mk (sh:Sh s s') (B':PM) (xs:List Value) (e:Ext B B' s.heap) (I:Iv g B' P env ks vs' s'.heap val foot cel) (R:RVs B' l xs) (c:Carries (intKind g.prog g.w) ps (is.zip xs))
theorem densD_pairs {pos:Pos} {kes:List (Option Expr)} {ves:List Expr} {is:List Int} {fs:List Ev} (ds0:DensD g r ks kes ves is fs):∀ {A:Around} {B:PM} {P:PX} {env:Env} {s:Shared} {vs:VS} {val:Nat→Value} {foot:Nat→List Addr} {cel:Nat→Addr} {l:List PV} {vs':VS},
    evs fs vs=some (l,vs')→Room A r→Iv g B P env ks vs s.heap val foot cel →
    wpAny (model g.prog g.w) A (evalPairs (pairTrees kes ves env pos)) (DPost g P env ks cel B s val foot is l vs') No s:=by
  induction ds0 with
  | nil =>
    intro A B P env s vs val foot cel l vs'
    intro h R I
    injection h with h; injection h with ee0 ee1; subst ee0; subst ee1
    exact pairTrees_nil_walk ⟨.refl _,B,[],.refl _ _,I,.nil,trivial⟩
  | cons dk dv ds ih =>
    intro A B P env s vs val foot cel l vs'
    intro h R I
    revert h
    refine jc fun p h1 h=>?_
    revert h
    refine jc fun q h2 h=>?_
    obtain ⟨w,h3,h4⟩:=Option.map_eq_some_iff.mp h
    injection h4 with ee2 ee3; subst ee2; subst ee3
    refine pairTrees_cons_walk (wpAny_mono (dk A B P env s vs val foot cel _ vs rfl R I) (fun y s₀ e=>?_) fun _ _ f=>f)
    revert e
    refine EPost.rev fun sh0 B0 F0 x0 I0 R0 _ _=>?_
    refine wpAny_mono (dv A B0 P env s₀ vs val foot cel p.1 p.2 h1 R I0) (fun x s₁ e=>?_) fun _ _ f=>f
    refine EPost.frozeE e (yg h2) fun sh1 B1 x1 I1 R1=>?_
    refine wpAny_mono (ih (l:=w.1) (vs':=w.2) h3 R I1) (fun ps s₂ t=>?_) fun _ _ f=>f
    obtain ⟨sh2,B2,xs,x2,I2,R2,C2⟩:=t
    (apply RV.int_ R0.1; intro _)
    exact ⟨(sh0.trans sh1).trans sh2,B2,x::xs,(x0.trans x1 sh0.size).trans x2 (sh0.trans sh1).size,I2,.cons (R1.1.mono x2.le) R2,intKind_is _ _ _ _,rfl,C2⟩
theorem densD_shape {kes:List (Option Expr)} {ves:List Expr} {is:List Int} {fs:List Ev} (ds0:DensD g r ks kes ves is fs):kes.all (·.isSome)=true∧kes.length=ves.length∧is.length=kes.length∧fs.length=kes.length:=by
  induction ds0 with
  | nil =>
    exact ⟨rfl,rfl,rfl,rfl⟩
  | cons _ _ ds ih =>
    obtain ⟨h1,h2,h3,h4⟩:=ih; exact ⟨by simpa using h1,by simp [h2],by simp [h3],by simp [h4]⟩
theorem valueAt_zip {B:PM} {i:Int} {p:PV}:∀ {is:List Int} {l:List PV} {xs:List Value},RVs B l xs→(is.zip l).lookup i=some p→∃ v,valueAt (is.zip xs) i=some v∧RV B p v
  | [],_,_,_,h=>by exact jb h
  | j::is,[],_,_,h=>by exact jb h
  | j::is,q::l,_,.cons (v:=v) rv rs,h=>by
    simp only [List.zip_cons_cons,List.lookup_cons] at h
    by_cases hij:i=j
    · subst hij
      rw [beq_self_eq_true] at h
      injection h with h; replace h:=h.symm; subst h
      exact ⟨v,by simp [valueAt],rv⟩
    · have:(i == j)=false:=beq_eq_false_iff_ne.mpr hij
      rw [this] at h
      obtain ⟨w,h1,h2⟩:=valueAt_zip rs h
      refine ⟨w,?_,h2⟩
      simp only [valueAt,List.zip_cons_cons] at h1 ⊢
      rw [List.find?_cons]
      have:¬ (j=i):=fun q=>hij q.symm
      simpa [this] using h1
noncomputable def evDict (is:List Int) (fs:List Ev) (f:Ev):Ev:=fun vs=>(evs fs vs).bind fun p=>(f p.2).bind fun q=>match q.1 with
  | .pv (.int i)=>((is.zip p.1).lookup i).map fun v=>(.pv v,q.2)
  | _=>none
theorem den_dict {kes:List (Option Expr)} {ves:List Expr} {is:List Int} {fs:List Ev} {f:Ev} {slice:Expr} {dpos pos:Pos} (dd:DensD g r ks kes ves is fs) (d:Den g r ks slice f) (h0:kes ≠ []) (hlen:kes.length≤15) (nd:is.Nodup)
    (hs:∀ o i,subscripted slice false o i=operate [o,i] (getItem o i):=by intro _ _; rfl):Den g r ks (.Subscript (.Dict kes ves dpos) slice pos) (evDict is fs f):=by
  intro A B P env s vs val foot cel v vs' h R I
  obtain ⟨⟨l,v1⟩,h1,h⟩:=jd h
  obtain ⟨⟨a,v2⟩,h2,h⟩:=jd h
  dsimp only at h
  split at h
  case h_2=>exact jb h
  rename_i i
  obtain ⟨p,h3,h4⟩:=Option.map_eq_some_iff.mp h
  injection h4 with ee4 ee5; subst ee4; replace ee5:=ee5.symm; subst ee5
  obtain ⟨q1,q2,q3,q4⟩:=densD_shape dd
  have nn:s.heap.get? s.heap.objs.size=none:=size_none
  have hD0:(s.heap.push { cls:=.type "dict",data:=.dict #[] }).get? s.heap.objs.size=some { cls:=.type "dict",data:=.dict #[] }:=Heap.get?_push_size _ rfl
  have sh0:Sh s { s with heap:=s.heap.push { cls:=.type "dict",data:=.dict #[] } }:=⟨_,s.toks,rfl,.of_keep fun _ _ e=>Heap.get?_push_of_some _ e⟩
  have I0:Iv g B P env ks vs (s.heap.push { cls:=.type "dict",data:=.dict #[] }) val foot cel:=I.push _
  have Fr0:Fresh B P env.locals ks foot cel [s.heap.objs.size]:=fun a ha=>by
    simp at ha; subst ha
    have q:=I.bNone (Nat.le_refl s.heap.objs.size)
    exact ⟨q.1,q.2,fun i o=>Nat.lt_irrefl _ (I.ownLt o)⟩
  have hPD:∀ a∈[s.heap.objs.size],P.pr a=none:=fun a ha=>(Fr0 a ha).2.1
  refine Subscript_ (wpAny_Dict_walk (knd:=intKind g.prog g.w) q1 q2 h0 hlen ?_)
  refine wpAny_mono (densD_pairs dd (s:={ s with heap:=s.heap.push { cls:=.type "dict",data:=.dict #[] } }) (P:=P.plus (s.heap.push { cls:=.type "dict",data:=.dict #[] }) [s.heap.objs.size]) (l:=l) (vs':=v1) h1 R (I0.protect Fr0)) (fun ps s₁ t=>?_) fun _ _ f=>f
  obtain ⟨sh1,B1,xs,x1,I1,R1,C1⟩:=t
  have hlx:xs.length=l.length:=R1.length
  have hll:l.length=is.length:=by rw [q3,← q4]; exact evs_len h1
  have hD1:s₁.heap.get? s.heap.objs.size=some { cls:=.type "dict",data:=.dict #[] }:=I1.hP _ _ (yL (by simp) hD0)
  have hs1:∀ a∈[s.heap.objs.size],∃ o,(s.heap.push { cls:=.type "dict",data:=.dict #[] }).get? a=some o:=fun a ha=>by simp at ha; subst ha; exact ⟨_,hD0⟩
  have I1':Iv g B1 P env ks v1 s₁.heap val foot cel:=I1.unprotect I.hR hPD
  have Fr1:Fresh B1 P env.locals ks foot cel [s.heap.objs.size]:=I1.freshOf hs1 hPD fun a ha=>by
    simp at ha; subst ha; exact (x1.eq _ _ hD0).trans (Fr0 _ (by simp)).1
  refine ⟨is.zip xs,C1,?_,fun h' hd' hs'=>?_⟩
  · have q:=Heap.DictOf.new (knd:=intKind g.prog g.w) s.heap
    obtain ⟨o,ho,hd⟩:=Heap.dictOf_iff.mp q
    rw [hD0] at ho; injection ho with ho; subst ho
    exact Heap.dictOf_iff.mpr ⟨_,hD1,hd⟩
  · have hnd:((is.zip xs).map (·.1)).Nodup:=by
      rw [List.map_fst_zip (Nat.le_of_eq (hlx.trans hll).symm)]; exact nd
    rw [merged_nil_of_nodup _ hnd] at hd'
    obtain ⟨oD,hoD,hdD⟩:=Heap.dictOf_iff.mp hd'
    have k2:∀ b o,b ∉ [s.heap.objs.size]→s₁.heap.get? b=some o→h'.get? b=some o:=fun b o hb e=>(hs'.2 b (by simpa using hb)).trans e
    have I2:Iv g B1 P env ks v1 h' val foot cel:=I1'.growBut Fr1 k2
    have sh2:Sh s { s₁ with heap:=h',toks:=s₁.toks+ps.length }:=by
      refine (sh0.trans sh1).trans ⟨h',_,rfl,fun a o e=>?_⟩
      by_cases ha:a∈[s.heap.objs.size]
      · simp at ha; subst ha; exact ⟨_,hoD⟩
      · exact ⟨o,k2 a o ha e⟩
    refine wpAny_mono (d A B1 (P.plus h' [s.heap.objs.size]) env { s₁ with heap:=h',toks:=s₁.toks+ps.length } v1 val foot cel _ _ h2 R (I2.protect Fr1)) (fun y s₃ e=>?_) fun _ _ f=>f
    revert e
    refine EPost.rev fun sh3 B3 F3 x3 I3 R3 _ _=>?_
    (apply RV.int_ R3.1; intro _)
    have hD3:s₃.heap.get? s.heap.objs.size=some oD:=I3.hP _ _ (yL (by simp) hoD)
    have I3':Iv g B3 P env ks _ s₃.heap val foot cel:=I3.unprotect I.hR hPD
    have D3:s₃.heap.DictOf (intKind g.prog g.w) s.heap.objs.size (is.zip xs):=Heap.dictOf_iff.mpr ⟨oD,hD3,hdD⟩
    obtain ⟨w,hw,rw'⟩:=valueAt_zip R1 h3
    refine tail_any D3.typeIs slot_dict_getitem.lookup (wpAny_getItem_of (intKind_is _ _ _ _) D3.mapOf hw ?_) (hs _ _)
    have xA:Ext B B3 s.heap:=(⟨x1.le,fun a o e=>x1.eq a o (Heap.get?_push_of_some _ e)⟩:Ext B B1 s.heap).trans x3 sh2.size
    exact ⟨(sh2.trans sh3).trans ⟨s₃.heap,_,rfl,.refl _⟩,B3,[],xA,I3',⟨rw'.mono x3.le,rfl⟩,fun a ha=>(nomatch ha),fun a ha=>(nomatch ha)⟩
end
section
variable {g:G} {B B':PM} {P:PX} {env:Env} {ks ks':List (Str×VK)} {vs vs':VS} {h h':Heap} {val val':Nat→Value} {foot foot':Nat→List Addr} {cel:Nat→Addr} {s s':Shared} {A:Around} {r:Nat}
noncomputable def evSearch (T:List (Addr×Array Nat)) (f0 f:Ev):Ev:=fun vs=>(f0 vs).bind fun p=>match p.1 with
  | .pv (.con (.ref a))=>(f p.2).bind fun q=>match q.1 with
    | .pv (.str c)=>(T.lookup a).bind fun code=>if yn code c=true∧c.length≤100000 then some (.pv .none,q.2) else none
    | _=>none
  | _=>none
theorem den_search {T:List (Addr×Array Nat)} {o e:Expr} {apos pos:Pos} {f0 f:Ev} {pl:Env→Sem Bool} (hT:∀ a code,T.lookup a=some code→PatOk g.h₀ a code) (d0:Den g r ks o f0) (d:Den g r ks e f)
    (hs:∀ env,starEach [e] env=(false,eval e env)::starEach [] env:=by intro _; rfl)
    (he:∀ env,eval (.Call (.Attribute o "search" apos) [e] [] pos) env=(do
      let ov ← eval o env
      standAt apos.atName
      let (f,first) ← holding [ov] (getMethod ov "search" (pl env))
      callWith pos f first (backTo pos (starEach [e] env)) []):=by intro _; rfl) :
    Den g r ks (.Call (.Attribute o "search" apos) [e] [] pos) (evSearch T f0 f):=by
  intro A B P env s vs val foot cel v vs' h R I
  obtain ⟨⟨a0,v0⟩,h0,h⟩:=jd h
  dsimp only at h
  split at h
  case h_2=>exact jb h
  rename_i a
  obtain ⟨⟨a1,v1⟩,h1,h⟩:=jd h
  dsimp only at h
  split at h
  case h_2=>exact jb h
  rename_i c
  revert h
  refine jc fun code h2 h=>?_
  split at h
  case isFalse=>exact jb h
  rename_i hp
  injection h with h; injection h with ee0 ee1; subst ee0; replace ee1:=ee1.symm; subst ee1
  have PA:=hT _ _ h2
  refine MethodCall_ (wpAny_mono (d0 A B P env s vs val foot cel _ v0 h0 R I) (fun x s₁ e=>?_) fun _ _ f=>f) (he env)
  revert e
  refine EPost.rev fun sh1 B1 F1 x1 I1 R1 _ _=>?_
  apply RV.con_ R1.1
  obtain ⟨ob,fs,T',ot,items,n,q1,q2,q3,q4,_⟩:=(PA.keep I1.keep0).ex
  refine getMethod_builtin (T := "re.Pattern") ⟨ob,q1,q2⟩ re_plain re_slot re_type (fun b e=>by injection e with e; subst e; exact ⟨ob,q1,q3⟩) ?_
  refine callMB (.cons d hs .nil) (wpAny_items_cons (wpAny_mono (d A B1 P env s₁ v0 val foot cel _ _ h1 R I1) (fun y s₂ e=>wpAny_items_nil ?_) fun _ _ f=>f) (hs env))
  revert e
  refine EPost.rev fun sh2 B2 F2 x2 I2 R2 _ _=>?_
  (apply RV.str_ R2.1; intro _)
  exact re_call (PA.keep I2.keep0) hp.1 hp.2 ((EPost.of_PR I2 (.here I2.hB .none)).from (sh1.trans sh2) (x1.trans x2 sh1.size))
end
theorem FnD.weaken {g:G} {r:Nat} {fa:Addr} {fd:FuncData} {ps:List Str} {F F':jw} (h:∀ sls q,F' sls=some q→F sls=some q) (d:FnD g r fa fd ps F):FnD g r fa fd ps F' :=
  fun A B P s sls args xs Fs v sls' e=>d A B P s sls args xs Fs v sls' (h _ _ e)
theorem HasM.weaken {g:G} {r:Nat} {name:Str} {st:Stmt} {df kd:Value} {ps:List Str} {F F':jw} (h:∀ sls q,F' sls=some q→F sls=some q) (d:HasM g r name st df kd ps F):HasM g r name st df kd ps F' :=
  d.casesOn fun K f fo fd h1 h2 h3 h4 h5 h6 h7 h8 h9 sp=>⟨K,f,fo,fd,h1,h2,h3,h4,h5,h6,h7,h8,h9,sp.weaken h⟩
theorem HasF.weaken {g:G} {r:Nat} {st:Stmt} {ps:List Str} {F F':jw} (h:∀ sls q,F' sls=some q→F sls=some q) (d:HasF g r st ps F):HasF g r st ps F' :=
  let ⟨fa,fo,pm,cd,doc,h1,h2,h3,sp⟩:=d
  ⟨fa,fo,pm,cd,doc,h1,h2,h3,sp.weaken h⟩
section
variable {g:G} {B B':PM} {P:PX} {env:Env} {ks ks':List (Str×VK)} {vs vs':VS} {h h':Heap} {val val':Nat→Value} {foot foot':Nat→List Addr} {cel:Nat→Addr} {s s':Shared} {A:Around} {r:Nat}
noncomputable def exSetBr (k:Nat) (f:Ev):Ex:=fun vs=>(f vs).bind fun p=>match p.1 with
  | .own j=>match p.2[j]? with
    | some (.br o)=>if k<p.2.length then some (.next,p.2.set k (.br o)) else none
    | _=>none
  | _=>none
theorem dens_setBr {k:Nat} {x:Str} {pos' pos:Pos} {value:Expr} {f:Ev} (d:Den g r ks value f) (hk:ks[k]?=some (x,VK.loc)) (hs:∀ env,swapsWith value (some (.Name x pos')) pos.line env=pure false:=by intro _; rfl) :
    DenS g r ks (.Assign [.Name x pos'] value pos) (exSetBr k f):=by
  intro A B P env s vs val foot cel fl vs' h R I
  obtain ⟨⟨v,ws⟩,h1,h⟩:=jd h
  dsimp only at h
  split at h
  case h_2=>exact jb h
  rename_i j
  split at h
  case h_2=>exact jb h
  rename_i o h0
  split at h
  case isFalse=>exact jb h
  rename_i hlt
  injection h with h; injection h with ee0 ee1; subst ee0; subst ee1
  refine wpAny_Assign_Name (wpAny_mono (d A B P env s vs val foot cel _ ws h1 R I) (fun y s₁ e=>?_) fun _ _ f=>f) (hs env)
  revert e
  refine EPost.rev fun sh B1 F x1 I1 R1 Fr lo=>?_
  have S:=I1.slots j _ h0
  refine store_var I1 hk (.inl rfl) hlt (sl:=.br o) (F:=[]) ⟨rfl,by rw [R1.1]; exact S.2⟩ (fun a ha=>(nomatch ha)) fun h' t' I' al=>?_
  exact ⟨sh.trans ⟨h',t',rfl,al⟩,B1,_,_,[],x1,I',rfl⟩
end
section
variable {prog:Program} {w:World} {A:Around} {K:Frag} {C x dx:Addr} {s:Shared} {R:Result→Shared→Prop}
theorem osa_same {ox:Obj} {name:Str} {tk:Tok} {v:Value} (X:K.In s.heap) (I:W.InstAt s.heap x ox C (some (dictOf [] 0))) (hd:ox.dict=some dx) (hD:s.heap.get? dx=some (dictOf [] 0)) (hp:plainOver K C=true) (ht:takerIn K C name=some none) (hh:hasDictIn K C=true)
    (h:∀ h' e n,Heap.SameBut dx s.heap h'→h'.get? dx=some (dictOf [e] n)→e.val=v→e.key=.str name s.toks→R (.ok (.ret .none)) { s with heap:=h',toks:=s.toks+1 }) :
    codeAny (model prog w) A (.call (.builtin "object.__setattr__") ⟨[.ref x,.str name tk,v],[]⟩) R s:=by
  refine osa_open X I hp ht fun b=>?_
  obtain ⟨cd,hc,hd'⟩:=any_some hh
  have e0:Obj.putName name (PyData.keyHash w.params name) (.str name s.toks) v (dictOf [] 0)=dictOf [⟨PyData.keyHash w.params name,.str name s.toks,v⟩] 1:=by rw [putName_dict]; rfl
  have D':(s.heap.update dx (Obj.putName name (PyData.keyHash w.params name) (.str name s.toks) v)).get? dx=some (dictOf [⟨PyData.keyHash w.params name,.str name s.toks,v⟩] 1):=by
    rw [Heap.get?_update_self _ hD (by rw [e0]; rfl),e0]
  obtain ⟨hx,hcl,hn,-⟩:=I
  obtain ⟨oc,odi,oda,osl⟩:=ox
  dsimp only at hcl hd
  subst hcl hd
  refine wpAny_bind (wpAny_pure (wpAny_bind (wpAny_bind (wpAny_loadPart hx (wpAny_bind ((looks_clsIn X hc).here ?_))))))
  rw [hd']
  refine wpAny_pure (a:=some dx) (wpAny_bind (wpAny_pure (wpAny_bind ?_)))
  unfold nsSet
  refine wpAny_bind (wpAny_bind (wpAny_askSetting (wpAny_pure (wpAny_bind (wpAny_mkText (wpAny_bind (wpAny_loadPart hD ?_)))))))
  have c:(!(#[]:Array DictEntry).any (·.key.isStr name)&&(#[]:Array DictEntry).any (·.refKey))=false:=by simp
  dsimp only [dictOf]
  rw [aRefKeyMayBeTheName_at]
  rw [show (!(([]:List DictEntry).toArray).any (·.key.isStr name)&&(([]:List DictEntry).toArray).any (·.refKey))=false from c]
  refine wpAny_updatePart hD ?_
  refine wpAny_bind (wpAny_lookBehind D' (by exact pastItsLine_dict (by simp [sizeLine_eq])) ?_)
  exact wpAny_pure (h _ _ _ (Heap.SameBut.update ..) D' rfl rfl)
end
inductive HMk (g:G) (st:Stmt) (df kd:Value):Prop
  | mk (K:Frag) (fI:Addr) (fo:Obj) (fd:FuncData):K.In g.h₀→makesIn K g.HC=true→keepIn K (.ref g.HC)=true→findIn K (.ref g.HC) "__init__"=some (some (.ref fI))→typeIn K (.ref fI)=some (.type "function")→findIn K (.ref g.HC) "__setattr__"=some (some (.builtin "object.__setattr__"))→plainOver K g.HC=true→takerIn K g.HC "_headers"=some none→hasDictIn K g.HC=true→g.h₀.get? fI=some fo→fo.data=.func fd→MFd st fd→fd.defaults=df→fd.kwdefaults=kd→g.h₀.CodeRec fd.code fd.qualname→HMk g st df kd
section
variable {g:G} {B B':PM} {P:PX} {env:Env} {ks ks':List (Str×VK)} {vs vs':VS} {h h':Heap} {val val':Nat→Value} {foot foot':Nat→List Addr} {cel:Nat→Addr} {s s':Shared} {A:Around} {r:Nat}
theorem Iv.dropP (I:Iv g B P env ks vs h val foot cel) (P':PX) (hrd:∀ b o,P'.rd b=some o→P'.pr b=some o) (hpr:∀ b o,P'.pr b=some o→P.pr b=some o) (hpv:P'.pv=P.pv) (hpf:P'.pf=P.pf)
    (hfre:∀ (k:Nat) (x:Str),ks[k]? ≠ some (x,VK.fre)) (hbr:∀ (k:Nat) o,vs[k]?=some (.br o)→∃ F',Own g B P'.rd o (val k) F'):Iv g B P' env ks vs h val foot cel:=by
  refine ⟨I.ev,I.base,I.hB,hrd,fun b o e=>I.hP b o (hpr b o e),I.above,I.len,I.ns,fun k x e=>by rw [hpv,hpf]; exact I.pin k x e,I.cl,fun k x e=>absurd e (hfre k x),fun k sl e=>?_,I.out,fun i a o=>⟨(I.own i a o).1,?_⟩,I.apart⟩
  · have S:=I.slots k sl e
    cases sl with
    | br o=>exact ⟨S.1,hbr k o e⟩
    | un=>exact S
    | pv p=>exact S
    | ob o=>exact S
    | hid=>exact S
  · cases q:P'.pr a with
    | none=>rfl
    | some ob=>have:=hpr a ob q; rw [(I.own i a o).2] at this; exact jb this
noncomputable def j3:List (Str×VK):=[("self",.loc),("headers",.loc),("k",.loc),("v",.loc),("type",.glo),("list",.glo)]
noncomputable def evHNew:Ev:=fun vs=>some (.obj (.hdr []),vs)
noncomputable def yT (x:Value):VS:=[.pv (.con x),.br (.list []),.un,.un]
theorem getL_one {y name:Str} {t:Tok} {hh:Int} {v:Value}:getL y [⟨hh,.str name t,v⟩]=if y=name then some (some v) else some none:=by
  unfold getL
  by_cases e:y=name
  · subst e; simp [Value.isStr]
  · have:(name == y)=false:=beq_eq_false_iff_ne.mpr (Ne.symm e)
    simp [Value.isStr,this,e,DictEntry.refKey]
end
section
variable {g:G} {B B':PM} {P:PX} {env:Env} {ks ks':List (Str×VK)} {vs vs':VS} {h h':Heap} {val val':Nat→Value} {foot foot':Nat→List Addr} {cel:Nat→Addr} {s s':Shared} {A:Around} {r:Nat}
theorem Room.make {C:Addr} {rest:List Value} {kw:List (Str×Value)} (R:Room A (r+1)):(A.under (.builtin "type.__call__" ⟨.ref C::rest,kw⟩)).handled=none∧(A.under (.builtin "type.__call__" ⟨.ref C::rest,kw⟩)).depth<1000 ∧
    ∀ env,Room ((A.under (.builtin "type.__call__" ⟨.ref C::rest,kw⟩)).deeper env) r:=by
  have e1:(A.under (.builtin "type.__call__" ⟨.ref C::rest,kw⟩)).handled=A.handled:=rfl
  have e2:(A.under (.builtin "type.__call__" ⟨.ref C::rest,kw⟩)).depth=A.depth+1:=rfl
  have e3:(A.under (.builtin "type.__call__" ⟨.ref C::rest,kw⟩)).units=A.units+1:=rfl
  have h1:=R.1
  have h2:=R.2.1
  have h3:=R.2.2
  refine ⟨by rw [e1]; exact h1,by rw [e2]; exact Nat.lt_of_le_of_lt (Nat.add_le_add_left (Nat.succ_le_succ (Nat.zero_le _):1≤2*(r+1)) _) h2,fun env=>⟨e1.trans h1,?_,?_⟩⟩
  · have:(A.under (.builtin "type.__call__" ⟨.ref C::rest,kw⟩)).depth+1+2*r<1000:=by rw [e2]; exact Nat.lt_of_le_of_lt (dp (k:=2) (m:=2) (Nat.le_refl _)) h2
    exact this
  · have:(A.under (.builtin "type.__call__" ⟨.ref C::rest,kw⟩)).units+3+16*r+200<9900:=by rw [e3]; exact Nat.lt_of_le_of_lt (Nat.add_le_add_right (dp (k:=4) (m:=16) (by decide)) 200) h3
    exact this
noncomputable def px1 (h2:Heap) (D n:Addr):PX:=⟨fun b=>if b=D then h2.get? b else none,h2.get?,fun k=>[Value.ref (n+1),.ref D].getD k .none,fun k=>([[],[]]:List (List Addr)).getD k []⟩
noncomputable def px2 (h2:Heap) (D n:Addr):PX:=⟨fun b=>if b=D then h2.get? b else none,fun b=>if b=n then none else h2.get? b,fun k=>[Value.ref (n+1),.ref D].getD k .none,fun k=>([[],[]]:List (List Addr)).getD k []⟩
theorem nofre:∀ (k:Nat) (x:Str),j3[k]? ≠ some (x,VK.fre):=fun k x=>by
    match k with
    | 0=>simp [j3]
    | 1=>simp [j3]
    | 2=>simp [j3]
    | 3=>simp [j3]
    | 4=>simp [j3]
    | 5=>simp [j3]
    | k+6=>simp [j3]
theorem den_hdrNew {st:Stmt} {df kd:Value} (ok:GOk g) (H:HMk g st df kd) {s0 s1 s3:Stmt} {q1 q2 q3 q4:Pos} {f0 f1 f3:Ex} (hmg:g.mg "Headers"=some (.ref g.HC))
    (hbody:sBody st=[s0,s1,.Assign [.Attribute (.Name "self" q1) "_headers" q2] (.Name "headers" q3) q4,s3])
    (d0:DenS g 0 j3 s0 f0) (d1:DenS g 0 j3 s1 f1) (d3:DenS g 0 j3 s3 f3)
    (e0:∀ x,f0 (yT x)=some (.next,yT x)) (e1:∀ x,f1 (yT x)=some (.next,yT x)) (e3:∀ x,∃ ws,f3 (yT x)=some (.next,ws))
    (hks:ksOk (sScope st).names j3=true)
    (hbind:∀ fd,MFd st fd→fd.defaults=df→fd.kwdefaults=kd→∀ s:Shared,(∀ b o,g.h₀.get? b=some o→s.heap.get? b=some o)→∀ x y,BindsTo s fd ⟨[x,y],[]⟩ [("self",x),("headers",y)])
    {k:Nat} {p lp pos:Pos} (hk:ks[k]?=some (("Headers" : Str),VK.glo)) (hr:1≤r)
    (hco:(sScope st).isCoroutine=false:=by rfl) (hgen:(sScope st).isGenerator=false:=by rfl) (hkf:(sScope st).kind=.function:=by rfl) :
    Den g r ks (.Call (.Name "Headers" p) [.List [] lp] [] pos) evHNew:=by
  intro A B P env s vs val foot cel v vs' h R I
  injection h with h; injection h with ee0 ee1; subst ee0; subst ee1
  obtain ⟨K,fI,fo,fd,hK,m1,m2,m3,m4,m5,m6,m7,m8,ho,hd,M,hdf,hkd,hcode⟩:=H
  have R1:Room A 1:=R.mono hr
  refine Call_Name rfl (glob_con (k:=0) (v:=.own 0) (jj ok hk (.inl hmg)) R I fun s1 B1 sh1 x1 I1=>?_)
  refine callWith_K (hK.keeps I1.keep0) m2 (wpAny_items_cons (wpAny_mono (yb (pos:=lp) .nil A B1 P env s1 vs val foot cel (.obj (.list [])) vs rfl R I1) (fun y s2 e=>wpAny_items_nil ?_) fun _ _ f=>f) rfl)
  revert e
  refine EPost.rev fun sh2 B2 F x2 I2 RR Fr lo=>?_
  obtain ⟨D,ws,n,rfl,rfl,hD,hws⟩:=RR
  cases hws
  refine ⟨hK.keeps I2.keep0,?_⟩
  obtain ⟨hh,gg,dd,tt,os⟩:=s2
  dsimp only at *
  have X2:K.In hh:=hK.keeps I2.keep0
  refine wpAny_call (make_core (makes_of X2 m1) (looks_findIn X2 m3) (fun self=>bind_fn X2 self m4) (.inl rfl) ?_)
  have keep2:∀ b o,hh.get? b=some o→((hh.push emptyDict).push (instObj g.HC hh.objs.size)).get? b=some o:=fun b o e=>Heap.get?_push_of_some _ (Heap.get?_push_of_some _ e)
  have hx:((hh.push emptyDict).push (instObj g.HC hh.objs.size)).get? (hh.objs.size+1)=some (instObj g.HC hh.objs.size):=by
    have:=Heap.get?_push_size (hh.push emptyDict) (o:=instObj g.HC hh.objs.size) rfl
    rwa [Heap.size_push] at this
  have hdx:((hh.push emptyDict).push (instObj g.HC hh.objs.size)).get? hh.objs.size=some emptyDict:=Heap.get?_push_of_some _ (Heap.get?_push_size _ rfl)
  have hsz:hh.objs.size≤((hh.push emptyDict).push (instObj g.HC hh.objs.size)).objs.size:=by rw [Heap.size_push,Heap.size_push]; exact Nat.le_add_right _ 2
  generalize ((hh.push emptyDict).push (instObj g.HC hh.objs.size))=h2 at keep2 hx hdx hsz ⊢
  have hDx:D<hh.objs.size:=Heap.lt_size hD
  obtain ⟨r1,r2,r3⟩:=Room.make (C:=g.HC) (rest:=[]++[.ref D]) (kw:=[]) R1
  have C:CallIn g B2 h2.get? h2 [.pv (.con (.ref (hh.objs.size+1))),.br (.list [])] [.ref (hh.objs.size+1),.ref D] [[],[]]:=by
    refine ⟨Nat.le_trans I2.above (Nat.le_trans (Nat.le_of_lt (I2.ownLt (i:=none) rfl)) hsz),I2.base,fun b o e=>keep2 _ _ (I2.hB _ _ e),fun b o e=>e,rfl,rfl,fun k sl e=>?_,fun k a ha=>?_,fun i j a ha=>?_⟩
    · match k with
      | 0=>injection e with e; subst e; exact ⟨.con _,rfl⟩
      | 1=>injection e with e; subst e; exact ⟨rfl,[D],D,[],n,rfl,rfl,keep2 _ _ hD,.nil⟩
      | k+2=>exact jb e
    · exfalso
      match k with
      | 0=>cases ha
      | 1=>cases ha
      | k+2=>cases ha
    · exfalso
      match i with
      | 0=>cases ha
      | 1=>cases ha
      | k+2=>cases ha
  refine fn_enter (r:=0) (ks:=j3) (n:=2) (nl:=2) ok.lim ho hd M.body M.glob M.blt M.clo hcode (by rw [M.scope]; exact hks) (by decide) (by decide) (by rw [M.scope]; exact hco) (by rw [M.scope]; exact hgen) (by rw [M.scope]; exact hkf)
    _ B2 h2.get? _ _ [.pv (.con (.ref (hh.objs.size+1))),.br (.list [])] _ [.ref (hh.objs.size+1),.ref D] [[],[]] _ rfl rfl r1 r2 C (fun b o e=>keep2 _ _ (I2.keep0 _ _ e)) ⟨fun _ _ e=>e,hbind fd M hdf hkd _ (fun b o e=>keep2 _ _ (I2.keep0 _ _ e)) _ _⟩ fun env' h₃ tk cel' keep3 I3=>?_
  rw [hbody]
  have I3:=I3.dropP (P':=px1 h2 D hh.objs.size) (fun b o e=>by
    have e:(if b=D then h2.get? b else none)=some o:=e
    split at e
    · exact e
    · exact jb e) (fun _ _ e=>e) rfl rfl nofre (fun k o e=>by
    match k with
    | 0=>injection e with e; injection e
    | 1 =>
      injection e with e; injection e with e; subst e
      exact ⟨[D],D,[],n,rfl,rfl,by show (if D=D then h2.get? D else none)=_; rw [if_pos rfl]; exact keep2 _ _ hD,.nil⟩
    | 2=>injection e with e; injection e
    | 3=>injection e with e; injection e
    | k+4=>exact jb e)
  have R0:=r3 env'
  generalize hA':(A.under (.builtin "type.__call__" ⟨.ref g.HC::([]++[.ref D]),[]⟩)).deeper env'=A' at R0 ⊢
  refine wpAny_execs_cons (wpAny_mono (d0 A' B2 _ env' _ (yT (.ref (hh.objs.size+1))) _ _ cel' _ _ (e0 _) R0 I3) (fun fl s3 q=>?_) fun _ _ f=>f)
  obtain ⟨sh3,B3,val3,foot3,F3,x3,I4,rfl⟩:=q
  refine wpAny_execs_cons (wpAny_mono (d1 A' B3 _ env' s3 (yT (.ref (hh.objs.size+1))) _ _ cel' _ _ (e1 _) R0 I4) (fun fl s4 q=>?_) fun _ _ f=>f)
  obtain ⟨sh4,B4,val4,foot4,F4,x4,I5,rfl⟩:=q
  have P0:∀ b o,h2.get? b=some o→s4.heap.get? b=some o:=fun b o e=>I5.hP b o e
  have v0:val4 0=.ref (hh.objs.size+1):=by
    have:=(I5.slots 0 _ rfl).1
    generalize val4 0=y at this
    cases this; rfl
  have v1:val4 1=.ref D:=by
    obtain ⟨_,F',a,ws,n',q1,q2,q3,q4⟩:=I5.slots 1 _ rfl
    have q3:(if a=D then h2.get? a else none)=some _:=q3
    split at q3
    · rename_i e; rw [q1,e]
    · exact jb q3
  have nOwn:∀ i,¬ yv env'.locals j3 foot4 cel' i hh.objs.size:=fun i o=>by
    have:=(I5.own i _ o).2
    have e:h2.get? hh.objs.size=none:=this
    rw [hdx] at e; exact someNo e
  have nB:B4 hh.objs.size=none:=by
    have k3:=keep3 _ _ hdx
    obtain ⟨o,q⟩:=sh3.size _ _ k3
    rw [x4.eq _ _ q,x3.eq _ _ k3]
    exact ve I2.hB (Nat.le_refl _)
  have I6:=I5.dropP (P':=px2 h2 D hh.objs.size) (fun b o e=>by
    have e:(if b=D then h2.get? b else none)=some o:=e
    split at e
    · rename_i q
      show (if b=hh.objs.size then none else h2.get? b)=_
      rw [if_neg (by rw [q]; exact Nat.ne_of_lt hDx)]; exact e
    · exact jb e) (fun b o e=>by
    have e:(if b=hh.objs.size then none else h2.get? b)=some o:=e
    split at e
    · exact jb e
    · exact e) rfl rfl nofre (fun k o e=>(I5.slots k _ e).2)
  have Fr6:Fresh B4 (px2 h2 D hh.objs.size) env'.locals j3 foot4 cel' [hh.objs.size]:=fun a ha=>by
    cases List.mem_singleton.mp ha
    exact ⟨nB,if_pos rfl,nOwn⟩
  refine wpAny_execs_cons (plainObj_wpAny_Assign_Attribute (wpAny_Name (yV I5 (k:=1) rfl (by simp) rfl (by decide) (by decide) ?_) (by decide)) rfl)
  refine wpAny_Name (yV I5 (k:=0) rfl (by simp) rfl (by decide) (by decide) ?_) (by decide)
  rw [v0,v1]
  obtain ⟨h4,g4,d4,t4,o4⟩:=s4
  dsimp only at *
  have X4:K.In h4:=hK.keeps I5.keep0
  have In:W.InstAt h4 (hh.objs.size+1) (instObj g.HC hh.objs.size) g.HC (some (dictOf [] 0)):=⟨P0 _ _ hx,rfl,rfl,P0 _ _ hdx⟩
  refine set_plain X4 In m5 (osa_same (s:=⟨h4,g4,d4,t4+1,o4⟩) X4 In rfl (P0 _ _ hdx) m6 m7 m8 fun h5 en n5 sb hd5 ev ek=>?_)
  have I7:=I6.growBut Fr6 (h':=h5) fun b o hb e=>(sb.2 b (by simpa using hb)).trans e
  have sh7:Sh ⟨h4,g4,d4,t4,o4⟩ ⟨h5,g4,d4,t4+2,o4⟩:=⟨h5,_,rfl,fun a o e=>by
    by_cases q:a=hh.objs.size
    · subst q; exact ⟨_,hd5⟩
    · exact ⟨o,(sb.2 a q).trans e⟩⟩
  obtain ⟨ws3,e3'⟩:=e3 (.ref (hh.objs.size+1))
  refine wpAny_execs_cons (wpAny_mono (d3 A' B4 _ env' _ (yT (.ref (hh.objs.size+1))) _ _ cel' _ _ e3' R0 (I7.protect Fr6)) (fun fl s8 q=>?_) fun _ _ f=>f)
  obtain ⟨sh8,B8,val8,foot8,F8,x8,I8,rfl⟩:=q
  refine wpAny_execs_nil ⟨rfl,?_⟩
  show EPost g P env ks cel B s val foot (.obj (.hdr [])) vs _ _
  have hd8:s8.heap.get? hh.objs.size=some (dictOf [en] n5):=I8.hP _ _ (by
    show (if hh.objs.size∈[hh.objs.size] then h5.get? hh.objs.size else _)=_
    rw [if_pos (by simp)]; exact hd5)
  have k8:∀ b o,b ≠ hh.objs.size→h2.get? b=some o→s8.heap.get? b=some o:=fun b o hb e=>I8.hP _ _ (by
    show (if b∈[hh.objs.size] then h5.get? b else if b=hh.objs.size then none else h2.get? b)=_
    rw [if_neg (by simpa using hb),if_neg hb]; exact e)
  have kf:∀ b o,hh.get? b=some o→s8.heap.get? b=some o:=fun b o e=>k8 b o (Nat.ne_of_lt (Heap.lt_size e)) (keep2 _ _ e)
  have hx8:=k8 _ _ (Nat.succ_ne_self _) hx
  have ch:∀ a o,h2.get? a=some o→B8 a=B2 a:=fun a o e=>by
    have k3:=keep3 _ _ e
    obtain ⟨o3,q3⟩:=sh3.size _ _ k3
    obtain ⟨o4,q4⟩:=sh4.size _ _ q3
    obtain ⟨o5,q5⟩:=sh7.size _ _ q4
    rw [x8.eq _ _ q5,x4.eq _ _ q3,x3.eq _ _ k3]
  have nBd:B8 hh.objs.size=none:=(ch _ _ hdx).trans (ve I2.hB (Nat.le_refl _))
  have nBx:B8 (hh.objs.size+1)=none:=(ch _ _ hx).trans (ve I2.hB (Nat.le_succ _))
  have nBx':(B8.put hh.objs.size (dictOf [en] n5)) (hh.objs.size+1)=none:=by
    unfold PM.put; rw [if_neg (Nat.succ_ne_self _)]; exact nBx
  have le8:∀ a o,B2 a=some o→B8 a=some o:=fun a o e=>x8.le _ _ (x4.le _ _ (x3.le _ _ e))
  have E2:Ext B2 ((B8.put hh.objs.size (dictOf [en] n5)).put (hh.objs.size+1) (instObj g.HC hh.objs.size)) hh:=by
    refine ⟨fun a o e=>PM.put_le nBx' _ _ (PM.put_le nBd _ _ (le8 a o e)),fun a o e=>?_⟩
    have:=Heap.lt_size e
    unfold PM.put
    rw [if_neg (Nat.ne_of_lt (Nat.lt_succ_of_lt this)),if_neg (Nat.ne_of_lt this)]
    exact ch _ _ (keep2 _ _ e)
  have hB8:=put_hB (put_hB I8.hB hd8) hx8
  have I9:=I2.grow kf E2 hB8
  have shA:Sh s s8:=(sh1.trans sh2).trans (Sh.trans ⟨h₃,tk,rfl,fun a o e=>⟨o,keep3 _ _ (keep2 _ _ e)⟩⟩ (sh3.trans (sh4.trans (sh7.trans sh8))))
  refine ⟨shA,_,[D],x1.trans (x2.trans E2 sh2.size) sh1.size,I9,⟨hh.objs.size+1,D,[],n,rfl,rfl,⟨hh.objs.size,[en],n5,PM.put_self ..,?_,fun y=>?_⟩,kf _ _ hD,.nil⟩,fun a ha=>?_,fun a ha=>?_⟩
  · exact PM.put_le nBx' _ _ (PM.put_self ..)
  · obtain ⟨he,hkk,hv⟩:=en
    dsimp only at ev ek
    rw [ev,ek]
    exact getL_one
  · cases List.mem_singleton.mp ha
    obtain ⟨f1,f2,f3⟩:=Fr D (by simp)
    exact ⟨(E2.eq _ _ hD).trans f1,f2,f3⟩
  · have:=lo a ha
    cases e:s.heap.get? a with
    | none=>rfl
    | some o=>obtain ⟨o',e'⟩:=sh1.size _ _ e; rw [this] at e'; exact jb e'
end
noncomputable abbrev SE:=Str×Tok×Int×Tok
noncomputable def entS (P:Params) (t:SE):DictEntry:=⟨PyData.keyHash P t.1,.str t.1 t.2.1,.int t.2.2.1 t.2.2.2⟩
noncomputable abbrev IE:=Int×Tok×Str×Tok
noncomputable def entI (t:IE):DictEntry:=⟨hashInt t.1,.int t.1 t.2.1,.str t.2.2.1 t.2.2.2⟩
theorem strTab_of {prog:Program} {w:World} {h:Heap} {d:Addr} {n:Nat} {l:List SE} (hd:(d == sysModules)=false) (ho:h.get? d=some ⟨.type "dict",none,.dict (l.map (entS w.params)).toArray n,#[]⟩) (nd:(l.map (·.1)).Nodup) :
    StrTab prog w h d (l.map fun t=>(.str t.1,.int t.2.2.1)):=by
  refine ⟨hd,l.map fun t=>(t.1,.int t.2.2.1 t.2.2.2),⟨_,_,_,ho,⟨rfl,rfl,rfl⟩,rfl,fun e he=>?_,?_,by rw [List.map_map]; exact nd⟩,?_⟩
  · obtain ⟨t,ht,rfl⟩:=List.mem_map.mp (List.mem_toArray.mp he)
    exact ⟨t.1,beq_self_eq_true _,rfl⟩
  · clear ho nd
    show PySem.Pairs _ (l.map (entS w.params)) _
    induction l with
    | nil=>exact .nil
    | cons t l ih=>exact .cons (beq_self_eq_true _) rfl ih
  · clear ho nd
    induction l with
    | nil=>exact .nil
    | cons t l ih=>exact .cons (PyProof.V.Flat.int _ _) ih
theorem intTab_of {prog:Program} {w:World} {h:Heap} {d:Addr} {n:Nat} {l:List IE} (hd:(d == sysModules)=false) (ho:h.get? d=some ⟨.type "dict",none,.dict (l.map entI).toArray n,#[]⟩) (nd:(l.map (·.1)).Nodup) :
    IntTab prog w h d (l.map fun t=>(.int t.1,.str t.2.2.1)):=by
  refine ⟨hd,l.map fun t=>(t.1,.str t.2.2.1 t.2.2.2),⟨_,_,_,ho,⟨rfl,rfl,rfl⟩,rfl,fun e he=>?_,?_,by rw [List.map_map]; exact nd⟩,?_⟩
  · obtain ⟨t,ht,rfl⟩:=List.mem_map.mp (List.mem_toArray.mp he)
    exact ⟨t.1,beq_self_eq_true _,rfl⟩
  · clear ho nd
    show PySem.Pairs _ (l.map entI) _
    induction l with
    | nil=>exact .nil
    | cons t l ih=>exact .cons (beq_self_eq_true _) rfl ih
  · clear ho nd
    induction l with
    | nil=>exact .nil
    | cons t l ih=>exact .cons (PyProof.V.Flat.str _ _) ih
noncomputable def unS (e:DictEntry):Option SE:=match e.key,e.val with
  | .str x t,.int i u=>some (x,t,i,u)
  | _,_=>none
noncomputable def unI (e:DictEntry):Option IE:=match e.key,e.val with
  | .int x t,.str i u=>some (x,t,i,u)
  | _,_=>none
noncomputable def KTabS (P:Params) (K:Frag) (x:Str) (T:List (List Nat×Int)):Prop:=∃ a es n,nsIn K mainGlobals x=some (some (.ref a))∧K.lookup a=some ⟨.type "dict",none,.dict es n,#[]⟩∧(a == sysModules)=false∧es=((es.toList.filterMap unS).map (entS P)).toArray ∧
  ((es.toList.filterMap unS).map (·.1)).Nodup∧∀ p∈T,Spec.lookup (.str (mkS p.1)) ((es.toList.filterMap unS).map fun t=>(PyData.str t.1,PyData.int t.2.2.1))=some (PyData.int p.2)
noncomputable def KTabI (K:Frag) (x:Str) (T:List (Int×List Nat)):Prop:=∃ a es n,nsIn K mainGlobals x=some (some (.ref a))∧K.lookup a=some ⟨.type "dict",none,.dict es n,#[]⟩∧(a == sysModules)=false∧es=((es.toList.filterMap unI).map entI).toArray ∧
  ((es.toList.filterMap unI).map (·.1)).Nodup∧∀ p∈T,Spec.lookup (.int p.1) ((es.toList.filterMap unI).map fun t=>(PyData.int t.1,PyData.str t.2.2.1))=some (PyData.str (mkS p.2))
theorem nodup_of {α : Type} [DecidableEq α] {l:List α} (h:decide l.Nodup=true):l.Nodup:=of_decide_eq_true h
theorem lookup_mem {α β : Type} [BEq α] [LawfulBEq α] {l:List (α×β)} {a:α} {b:β} (h:l.lookup a=some b):(a,b)∈l:=by
  induction l with
  | nil=>exact jb h
  | cons p l ih =>
    rw [List.lookup_cons] at h
    split at h
    · rename_i e
      injection h with h; subst h
      rw [eq_of_beq e]; exact List.mem_cons_self
    · exact List.mem_cons_of_mem _ (ih h)
section
variable {prog:Program} {w:World} {h:Heap} {mg mb:Str→Option Value} {K:Frag} {HC:Addr}
theorem tabS_in {x:Str} {T:List (List Nat×Int)} (X:K.In h) (G:h.Ns mainGlobals mg) (t:KTabS w.params K x T):TabS ⟨prog,w,h,HC,mg,mb⟩ x T:=by
  obtain ⟨a,es,n,h1,h2,h3,h4,h5,h6⟩:=t
  exact ⟨a,_,mg_of X G h1,strTab_of h3 (by rw [← h4]; exact X _ _ h2) h5,fun c i e=>h6 _ (lookup_mem e)⟩
theorem tabI_in {x:Str} {T:List (Int×List Nat)} (X:K.In h) (G:h.Ns mainGlobals mg) (t:KTabI K x T):TabI ⟨prog,w,h,HC,mg,mb⟩ x T:=by
  obtain ⟨a,es,n,h1,h2,h3,h4,h5,h6⟩:=t
  exact ⟨a,_,mg_of X G h1,intTab_of h3 (by rw [← h4]; exact X _ _ h2) h5,fun c i e=>h6 _ (lookup_mem e)⟩
noncomputable def FnIs (p:Program) (st:Stmt):Prop:=((recsOf p).find? (fun d=>d.name == sName st)).map (fun d=>(d.name,d.params,d.body,d.scope))=some (sName st,sArgs st,sBody st,sScope st)
theorem yM {p:Program} {loose:List Str} {mean:ExcName→Option Value} {st:Stmt} (T:Top p loose mean mg mb h) (e:FnIs p st):FnAt ⟨prog,w,h,HC,mg,mb⟩ st:=by
  obtain ⟨d,hd,he⟩:=Option.map_eq_some_iff.mp e
  obtain ⟨a,o,pm,code,doc,h1,h2,h3,h4⟩:=T.fn d (List.mem_of_find?_eq_some hd)
  have e1:d.name=sName st:=congrArg (fun x=>x.1) he
  have e2:d.params=sArgs st:=congrArg (fun x=>x.2.1) he
  have e3:d.body=sBody st:=congrArg (fun x=>x.2.2.1) he
  have e4:d.scope=sScope st:=congrArg (fun x=>x.2.2.2) he
  rw [e1] at h1 h4
  rw [e1,e2,e3,e4] at h3
  exact ⟨a,o,pm,code,doc,h1,h2,h3,h4⟩
noncomputable def vW (K:Frag) (x:Str) (v:Value):Prop:=nsIn K mainGlobals x=some none∧bootBuiltins x=some v
structure KBlt (K:Frag):Prop where
  len:vW K "len" (.builtin "len")
  range:vW K "range" (.type "range")
  min:vW K "min" (.builtin "min")
  max:vW K "max" (.builtin "max")
  list:vW K "list" (.type "list")
  str:vW K "str" (.type "str")
  int:vW K "int" (.type "int")
  hex:vW K "hex" (.builtin "hex")
  sum:vW K "sum" (.builtin "sum")
  sorted:vW K "sorted" (.builtin "sorted")
  iter:vW K "iter" (.builtin "iter")
  next:vW K "next" (.builtin "next")
  type:vW K "type" (.type "type")
  zip:vW K "zip" (.type "zip")
theorem blt_in {p:Program} {loose:List Str} {mean:ExcName→Option Value} (X:K.In h) (T:Top p loose mean mg mb h) (b:KBlt K):Blt ⟨prog,w,h,HC,mg,mb⟩:=by
  have q:∀ {x:Str} {v:Value},vW K x v→x ≠ ("__name__" : Str)→mg x=none∧mb x=some v:=fun e n=>⟨mg_none_of X T.g e.1,(T.builtins _ n).trans e.2⟩
  exact ⟨q b.len (by decide),q b.range (by decide),q b.min (by decide),q b.max (by decide),q b.list (by decide),q b.str (by decide),q b.int (by decide),q b.hex (by decide),q b.sum (by decide),q b.sorted (by decide),q b.iter (by decide),q b.next (by decide),q b.type (by decide),q b.zip (by decide)⟩
noncomputable def MIn (K:Frag) (HC:Addr) (name:Str) (st:Stmt) (df kd:Value):Prop:=∃ f c d fd sl,plainGet K HC name=true∧findIn K (.ref HC) name=some (some (.ref f))∧typeIn K (.ref f)=some (.type "function")∧K.lookup f=some ⟨c,d,.func fd,sl⟩ ∧
  fd.params=sArgs st∧fd.body=.stmts (sBody st)∧fd.scope=sScope st∧fd.globals=mainGlobals∧fd.closure=[]∧fd.builtins=builtinsNs∧fd.defaults=df∧fd.kwdefaults=kd∧codeIn K fd.code fd.qualname=true
theorem mAt_in {name:Str} {st:Stmt} {df kd:Value} (X:K.In h) (m:MIn K HC name st df kd):MAt ⟨prog,w,h,HC,mg,mb⟩ name st df kd:=by
  obtain ⟨f,c,d,fd,sl,h1,h2,h3,h4,h5,h6,h7,h8,h9,h10,h11,h12,h13⟩:=m
  exact ⟨K,f,_,fd,X,h1,h2,h3,X _ _ h4,rfl,⟨h5,h6,h7,h8,h9,h10⟩,h11,h12,codeRec_of X h13⟩
noncomputable def HIn (K:Frag) (HC:Addr):Prop:=plainGet K HC "_headers"=true∧hasDictIn K HC=true∧findIn K (.ref HC) "_headers"=some none
noncomputable def NIn (K:Frag) (HC:Addr) (st:Stmt) (df kd:Value):Prop:=∃ f c d fd sl,makesIn K HC=true∧keepIn K (.ref HC)=true∧findIn K (.ref HC) "__init__"=some (some (.ref f))∧typeIn K (.ref f)=some (.type "function") ∧
  findIn K (.ref HC) "__setattr__"=some (some (.builtin "object.__setattr__"))∧plainOver K HC=true∧takerIn K HC "_headers"=some none∧hasDictIn K HC=true∧K.lookup f=some ⟨c,d,.func fd,sl⟩ ∧
  fd.params=sArgs st∧fd.body=.stmts (sBody st)∧fd.scope=sScope st∧fd.globals=mainGlobals∧fd.closure=[]∧fd.builtins=builtinsNs∧fd.defaults=df∧fd.kwdefaults=kd∧codeIn K fd.code fd.qualname=true
theorem hmk_in {st:Stmt} {df kd:Value} (X:K.In h) (m:NIn K HC st df kd):HMk ⟨prog,w,h,HC,mg,mb⟩ st df kd:=by
  obtain ⟨f,c,d,fd,sl,a1,a2,a3,a4,a5,a6,a7,a8,h4,h5,h6,h7,h8,h9,h10,h11,h12,h13⟩:=m
  exact ⟨K,f,_,fd,X,a1,a2,a3,a4,a5,a6,a7,a8,X _ _ h4,rfl,⟨h5,h6,h7,h8,h9,h10⟩,h11,h12,codeRec_of X h13⟩
noncomputable def NoneAt (K:Frag) (T:Addr):Prop:=∃ c d n sl,K.lookup T=some ⟨c,d,.seq #[.none] n,sl⟩
theorem none_in {T:Addr} (X:K.In h) (e:NoneAt K T):∃ o n,h.get? T=some o∧o.data=.seq #[.none] n:=by
  obtain ⟨c,d,n,sl,e⟩:=e
  exact ⟨_,n,X _ _ e,rfl⟩
noncomputable def PatIn (K:Frag) (p:Addr) (code:Array Nat):Prop:=∃ fs T ot d items n sl sl2,K.lookup p=some ⟨.type "re.Pattern",none,.fields fs,sl⟩∧Builtin.Re.reRawNat (fs.getD 6 .none)=0∧Builtin.Re.reRawNat (fs.getD 2 .none)=0∧fs.getD 5 .none=.ref T ∧
  K.lookup T=some ⟨ot,d,.seq items n,sl2⟩∧(items.map Builtin.Re.reRawOf).map (·.toNat)=code
theorem pat_in {p:Addr} {code:Array Nat} (X:K.In h) (e:PatIn K p code) (hf:∀ m:Sre.M,m.code=code→m.hasFirstSet=true):PatOk h p code:=by
  obtain ⟨fs,T,ot,d,items,n,sl,sl2,h1,h2,h3,h4,h5,h6⟩:=e
  exact ⟨⟨_,fs,T,_,items,n,X _ _ h1,rfl,rfl,rfl,h2,h3,h4,X _ _ h5,rfl,h6⟩,hf⟩
end
section
variable {g:G} {B B':PM} {P:PX} {env:Env} {ks ks':List (Str×VK)} {vs vs':VS} {h h':Heap} {val val':Nat→Value} {foot foot':Nat→List Addr} {cel:Nat→Addr} {s s':Shared} {A:Around} {r:Nat}
noncomputable def exNoItems (k:Nat):Ex:=fun vs=>match vs[k]? with
  | some (.pv .dct)=>some (.next,vs)
  | _=>none
theorem dens_noItems {k:Nat} {x:Str} {vk:VK} {target:Expr} {p ap cp pos:Pos} {body:List Stmt} (hk:ks[k]?=some (x,vk)) (hg:vk ≠ .glo:=by decide) (hd:(x == ("__debug__" : Str))=false:=by decide)
    (hc:(x == ("__classdict__" : Str))=false:=by decide)
    {pl:Env→Sem Bool} (he:∀ env,eval (.Call (.Attribute (.Name x p) "items" ap) [] [] cp) env=(do
      let ov ← eval (.Name x p) env
      standAt ap.atName
      let (f,first) ← holding [ov] (getMethod ov "items" (pl env))
      callWith cp f first (backTo cp (starEach [] env)) []):=by intro _; rfl)
    (hset:∀ env x',foldedSetIterable (.Call (.Attribute (.Name x p) "items" ap) [] [] cp) env x'=pure x':=by intro _ _; rfl) :
    DenS g r ks (.For target (.Call (.Attribute (.Name x p) "items" ap) [] [] cp) body [] pos) (exNoItems k):=by
  intro A B P env s vs val foot cel fl vs' h R I
  unfold exNoItems at h
  split at h
  case h_2=>exact jb h
  rename_i h0
  injection h with h; injection h with ee0 ee1; subst ee0; subst ee1
  rw [exec_For_is]
  refine wpAny_bind (wpAny_standAt (wpAny_bind ?_))
  refine MethodCall_ (wpAny_mono (ja (r:=r) hk hg hd hc A B P env s vs val foot cel (.pv .dct) vs (by unfold jf; rw [h0]; rfl) R I) (fun dv s₁ e=>?_) fun _ _ f=>f) (he env)
  refine EPost.frozeE (w:=.pv .dct) e rfl fun sh1 B1 x1 I1 R1=>?_
  obtain ⟨R1,_⟩:=R1
  cases R1 with
  | dct hS hB1 =>
    rename_i d
    have ho:=I1.hB _ _ hB1
    have D1:s₁.heap.DictAt (intKind g.prog g.w) d [] 0:=⟨_,#[],ho,⟨rfl,rfl,rfl⟩,rfl,fun _ he=>by simp at he,.nil,List.nodup_nil⟩
    refine getMethod_builtin D1.dictOf.typeIs PySem.F.plainAttrs_dict PySem.F.slot_dict_items PySem.F.type_dict_items (fun a e=>by injection e with e; subst e; exact ⟨_,ho,rfl⟩) ?_
    refine Calls.callWith_builtin rfl (evalArgs_nilS (wpAny_items_nil (pos:=cp) (env:=env) ?_))
    refine call_meetsIn PySem.F.slot_dict_items D1.dictOf.typeIs PySem.F.entry_dict_items (PySem.F.args_dict_items_1 _) (meets_dict_items (intKind g.prog g.w) d hS) ⟨⟨[],D1.dictOf⟩,?_⟩
    show wpAny _ _ _ _ _ _
    rw [hset]
    refine wpAny_bind (wpAny_pure (wpAny_bind (wpAny_standAt (wpAny_bind (wpAny_holding ?_)))))
    refine wpAny_pyIter_items (knd:=intKind g.prog g.w) (d:=d) (kvs:=[]) (ep:=0) ⟨_,Heap.get?_push_size _ rfl,rfl,rfl⟩ (D1.push _) ?_
    refine wpAny_runOwn (codeAny_mono (R:=fun res s'=>∃ f,res=.ok f∧SPost g P env ks cel B s .next vs f s') (codeAny_forLoop_any (fun n s'=>s'=_) (fun n s' e=>?_) 0 rfl) ?_)
    · subst e
      refine wpAny_pyNext_items_end (knd:=intKind g.prog g.w) (kvs:=[]) R.1 (Heap.get?_push_size _ rfl) ((D1.push _).push _) rfl fun h' hx=>?_
      have k:∀ b o,s₁.heap.get? b=some o→h'.get? b=some o:=fun b o e=>hx b o (by
        have:=Heap.lt_size e
        rw [Heap.size_push]
        exact Nat.ne_of_lt (Nat.lt_succ_of_lt this)) (Heap.get?_push_of_some _ (Heap.get?_push_of_some _ e))
      refine wpAny_pure ⟨_,rfl,sh1.trans ⟨h',s₁.toks,rfl,.of_keep k⟩,B1,val,foot,[],x1,I1.grow k (.refl _ _) fun b o e=>k _ _ (I1.hB b o e),rfl⟩
    · rintro res s' ⟨f,rfl,q⟩
      exact q
end
section
variable {g:G} {B B':PM} {P:PX} {env:Env} {ks ks':List (Str×VK)} {vs vs':VS} {h h':Heap} {val val':Nat→Value} {foot foot':Nat→List Addr} {cel:Nat→Addr} {s s':Shared} {A:Around} {r:Nat}
inductive HasMC (g:G) (r n:Nat) (name:Str) (F:jw):Prop
  | mk (K:Frag) (f:Addr) (fo:Obj) (fd:FuncData):K.In g.h₀→plainGet K g.HC name=true→findIn K (.ref g.HC) name=some (some (.ref f))→typeIn K (.ref f)=some (.type "function")→g.h₀.get? f=some fo→fo.data=.func fd→(∀ (A:Around) (B P:PM) (s:Shared) (sls:VS) (a:Value) (us:List Value) (Fs:List (List Addr)) (v:Slot) (sls':VS),F sls=some (v,sls')→Room A r→CallIn g B P s.heap sls (a::us) Fs→us.length=n→wpAny (model g.prog g.w) A (call (.ref f) (a::us)) (CallPost g B P s (a::us) Fs v sls') No s)→HasMC g r n name F
noncomputable def kwF (F:jw):jw:=fun sls=>(F (sls++[.pv .dct])).map fun q=>(q.1,q.2.take sls.length)
noncomputable def dobj:Obj:=⟨.type "dict",none,.dict #[],#[]⟩
theorem getD_more {α : Type} (l:List α) (x d:α) {k:Nat} (h:k<l.length):(l++[x]).getD k d=l.getD k d:=by
  rw [List.getD_eq_getElem?_getD,List.getD_eq_getElem?_getD,List.getElem?_append_left h]
theorem getD_nil {α : Type} (l:List (List α)) (k:Nat):(l++[[]]).getD k []=l.getD k []:=by
  rw [List.getD_eq_getElem?_getD,List.getD_eq_getElem?_getD]
  by_cases h:k<l.length
  · rw [List.getElem?_append_left h]
  · rw [List.getElem?_append_right (Nat.not_lt.mp h),List.getElem?_eq_none (Nat.not_lt.mp h)]
    cases k - l.length <;> rfl
theorem base2 (ok:GOk g):2≤g.h₀.objs.size:=by
  obtain ⟨o,_,_,ho,_⟩:=ok.gm
  have:=Heap.lt_size ho
  exact Nat.lt_of_le_of_lt (by decide:1≤mainGlobals) this
theorem fresh_none {h:Heap}:h.get? h.objs.size=none:=by
  cases e:h.get? h.objs.size with
  | none=>rfl
  | some o=>exact absurd (Heap.lt_size e) (Nat.lt_irrefl _)
theorem CallIn.kw {P:PM} {sls:VS} {xs:List Value} {Fs:List (List Addr)} (ok:GOk g) (C:CallIn g B P s.heap sls xs Fs) :
    CallIn g (B.put s.heap.objs.size dobj) P (s.heap.push dobj) (sls++[.pv .dct]) (xs++[.ref s.heap.objs.size]) (Fs++[[]]):=by
  have bn:B s.heap.objs.size=none:=ve C.hB (Nat.le_refl _)
  have le:=PM.put_le (o:=dobj) bn
  refine ⟨?_,fun b o e=>le _ _ (C.base b o e),fun b o e=>?_,fun b o e=>Heap.get?_push_of_some _ (C.hP b o e),by simp [C.lenX],by simp [C.lenF],fun k sl e=>?_,fun k a ha=>?_,fun i j a hi hj=>?_⟩
  · rw [Heap.size_push]; exact Nat.le_succ_of_le C.above
  · unfold PM.put at e
    split at e
    · rename_i q; subst q; injection e with e; subst e; exact Heap.get?_push_size _ rfl
    · exact Heap.get?_push_of_some _ (C.hB b o e)
  · rw [getD_nil]
    by_cases hk:k<sls.length
    · rw [List.getElem?_append_left hk] at e
      rw [getD_more _ _ _ (by rw [C.lenX]; exact hk)]
      exact (C.args k sl e).step le fun a _ o e=>Heap.get?_push_of_some _ e
    · rw [List.getElem?_append_right (Nat.not_lt.mp hk)] at e
      have hk':k=sls.length:=by
        have:=(List.getElem?_eq_some_iff.mp e).1
        simp at this; exact Nat.le_antisymm (Nat.le_of_sub_eq_zero this) (Nat.not_lt.mp hk)
      subst hk'
      rw [Nat.sub_self] at e
      injection e with e; subst e
      have e1:(xs++[Value.ref s.heap.objs.size]).getD sls.length .none=.ref s.heap.objs.size:=by
        rw [List.getD_eq_getElem?_getD,← C.lenX,List.getElem?_append_right (Nat.le_refl _),Nat.sub_self]; rfl
      have e2:Fs.getD sls.length []=[]:=by
        rw [List.getD_eq_getElem?_getD,List.getElem?_eq_none (by rw [C.lenF]; exact Nat.le_refl _)]; rfl
      rw [e1,e2]
      refine ⟨.dct (beq_eq_false_iff_ne.mpr ?_) (PM.put_self ..),rfl⟩
      exact Nat.ne_of_gt (Nat.le_trans (base2 ok) C.above)
  · rw [getD_nil] at ha
    obtain ⟨⟨o,e⟩,h1,h2⟩:=C.off k a ha
    refine ⟨⟨o,Heap.get?_push_of_some _ e⟩,?_,h2⟩
    unfold PM.put
    rw [if_neg (Nat.ne_of_lt (Heap.lt_size e))]
    exact h1
  · rw [getD_nil] at hi hj
    exact C.apart i j a hi hj
theorem CallPost.kw {P:PM} {xs:List Value} {Fs:List (List Addr)} {v:Slot} {out:VS} {x:Value} {n:Nat} (hn:xs.length=n) (hB:∀ b o,B b=some o→s.heap.get? b=some o)
    (p:CallPost g (B.put s.heap.objs.size dobj) P { s with heap:=s.heap.push dobj } (xs++[.ref s.heap.objs.size]) (Fs++[[]]) v out x s'):CallPost g B P s xs Fs v (out.take n) x s':=by
  obtain ⟨sh,B',F,e,hB',hP',hA,hx,hF,hFs⟩:=p
  have bn:B s.heap.objs.size=none:=ve hB (Nat.le_refl _)
  refine ⟨Sh.trans ⟨_,s.toks,rfl,.of_keep fun _ _ e=>Heap.get?_push_of_some _ e⟩ sh,B',F,(Ext.put (o:=dobj) bn fresh_none).trans ⟨e.le,fun a o q=>e.eq a o q⟩ (.of_keep fun _ _ e=>Heap.get?_push_of_some _ e),hB',hP',fun k sl e=>?_,hx,fun a ha=>?_,fun k a ha=>hFs k a (by rw [getD_nil]; exact ha)⟩
  · have hk:k<n:=by
      exact Nat.lt_of_lt_of_le (List.getElem?_eq_some_iff.mp e).1 (List.length_take_le _ _)
    rw [List.getElem?_take_of_lt hk] at e
    rcases hA k sl e with q | q
    · exact .inl q
    · rw [getD_nil,getD_more _ _ _ (Nat.lt_of_lt_of_eq hk hn.symm)] at q
      exact .inr q
  · obtain ⟨h1,h2⟩:=hF a ha
    refine ⟨?_,h2⟩
    cases q:s.heap.get? a with
    | none=>rfl
    | some o=>have:=Heap.get?_push_of_some dobj q; rw [h1] at this; exact jb this
theorem hasMC_kw {name:Str} {st:Stmt} {df kd:Value} {n nl:Nat} {f:Ex} (ok:GOk g) (a:MAt g name st df kd) (d:DenB g r ks (sBody st) f)
    (hbind:∀ fd,MFd st fd→fd.defaults=df→fd.kwdefaults=kd→∀ (s:Shared) (a:Value) (us:List Value),us.length=n→∀ (M:Model) (A:Around) (E:Value→Shared→Prop) (Q:List (Str×Value)→Shared→Prop),
      Q (((ks.take (n+2)).map (·.1)).zip (a::us++[.ref s.heap.objs.size])) { s with heap:=s.heap.push dobj }→wpAny M A (bindArgs fd ⟨a::us,[]⟩) Q E s)
    (hks:ksOk (sScope st).names ks=true) (nd:(ks.map (·.1)).Nodup) (hn:n+2+nl≤ks.length)
    (hco:(sScope st).isCoroutine=false:=by rfl) (hgen:(sScope st).isGenerator=false:=by rfl) (hk:(sScope st).kind=.function:=by rfl):HasMC g (r+1) n name (kwF (fnOf ks (n+2) nl f)):=by
  obtain ⟨K,fa,fo,fd,h1,h2,h3,h4,h5,h6,M,h7,h8,h9⟩:=a
  refine ⟨K,fa,fo,fd,h1,h2,h3,h4,h5,h6,fun A B P s sls a us Fs v sls' h R C hl=>?_⟩
  obtain ⟨⟨v0,out⟩,e1,e2⟩:=Option.map_eq_some_iff.mp h
  injection e2 with ee0 ee1; subst ee0; subst ee1
  have D:=fn_frameK (r:=r) ok.lim h5 h6 M.body M.glob M.blt M.clo h9 (by rw [M.scope]; exact hks) nd hn d (by rw [M.scope]; exact hco) (by rw [M.scope]; exact hgen) (by rw [M.scope]; exact hk)
  refine wpAny_mono (D A _ P s { s with heap:=s.heap.push dobj } _ ⟨a::us,[]⟩ _ _ v0 out e1 R (C.kw ok) (fun b o e=>C.hB _ _ (C.base b o e)) ⟨fun b o e=>Heap.get?_push_of_some _ e,hbind fd M h7 h8 s a us hl⟩) (fun x s' p=>?_) fun _ _ f=>f
  rw [← C.lenX]
  exact p.kw rfl C.hB
end
section
variable {g:G} {B B':PM} {P:PX} {env:Env} {ks ks':List (Str×VK)} {vs vs':VS} {h h':Heap} {val val':Nat→Value} {foot foot':Nat→List Addr} {cel:Nat→Addr} {s s':Shared} {A:Around} {r:Nat}
theorem den_methWC {k n r':Nat} {x name:Str} {vk:VK} {p apos pos:Pos} {es:List Expr} {fs:List Ev} {F:jw} {pl:Env→Sem Bool}
    (H:HasMC g r n name F) (hk:ks[k]?=some (x,vk)) (dE:Dens g r' ks es fs) (hr:r≤r')
    (hn:(name == ("_headers" : Str))=false:=by decide) (hg:vk ≠ .glo:=by decide) (hd:(x == ("__debug__" : Str))=false:=by decide) (hc:(x == ("__classdict__" : Str))=false:=by decide)
    (he:∀ env,eval (.Call (.Attribute (.Name x p) name apos) es [] pos) env=(do
      let ov ← eval (.Name x p) env
      standAt apos.atName
      let (f,first) ← holding [ov] (getMethod ov name (pl env))
      callWith pos f first (backTo pos (starEach es env)) (backToKw pos (keywordEach [] env))):=by intro _; rfl) :
    Den g r' ks (.Call (.Attribute (.Name x p) name apos) es [] pos) (evMethW k n F fs):=by
  intro A B P env s vs val foot cel v vs' h R I
  revert h
  refine jc fun l0 h1 h=>?_
  obtain ⟨⟨l1,v1⟩,h2,h⟩:=jd h
  split at h
  case isFalse=>exact jb h
  rename_i hln
  revert h
  refine jc fun sls h4 h=>?_
  obtain ⟨⟨sl,sls'⟩,h5,h⟩:=jd h
  revert h
  refine jc fun vs2 h6 h=>?_
  obtain ⟨w,h7,h8⟩:=Option.map_eq_some_iff.mp h
  injection h8 with ee0 ee1; replace ee0:=ee0.symm; subst ee0; replace ee1:=ee1.symm; subst ee1
  obtain ⟨K,fa,fo,fd,hK,hp,hf,ht,ho,hdd,sp⟩:=H
  obtain ⟨a,b,ha,hh,sl0,hs0,hn0⟩:=hdrOf_at I h1
  refine methodCall_KW (pl:=pl env) (wpAny_Name (yV I hs0 hn0 hk hg hc ?_) hd) (he env)
  have hva:=ha
  rw [ha]
  refine method_hdr (hK.keeps I.keep0) hp hf ht hh I.hB hn ?_
  refine callFK hdd dE .nil (wpAny_mono (vN dE (l:=l1) (vs':=v1) h2 R I) (fun us s₁ t=>?_) fun _ _ f=>f)
  obtain ⟨sh1,B1,x1,I1,R1⟩:=t
  refine wpAny_evalAll_nil ⟨I1.keep0 _ _ ho,?_⟩
  have hus:us.length=n:=by rw [R1.length]; exact hln
  have RF:=repF_own (g:=g) (k:=k) (val:=val) R1 (hh:=s₁.heap)
  have Fr:∀ i,Fresh B1 P env.locals ks foot cel ((([]:List Addr)::List.replicate l1.length []).getD i []):=fun i a ha=>by rw [nils_at] at ha; simp at ha
  rw [hva] at RF
  refine wpAny_mono (sp A B1 _ s₁ sls (.ref a) us _ sl sls' h5 (R.mono hr) (call_in I1 RF h4 (ownNd_pvs k l1) Fr) hus) (fun y s₂ e=>?_) fun _ _ f=>f
  exact (call_out I1 RF h4 Fr h6 h7 e).from sh1 x1
end
theorem runs_toks {M:Model} {Γ : PySem.Ctx} {p:Pos} {t:Sem PySem.Fin} {fs:List Frame} {s:Shared} {e:End} {s':Shared} (h:Runs M Γ p t fs s e s'):s.toks≤s'.toks:=by
  induction h with
  | done=>exact Nat.le_refl _
  | raise=>exact Nat.le_refl _
  | yield=>exact Nat.le_refl _
  | call _ _ ih1 ih2=>exact Nat.le_trans ih1 ih2
  | callSusp _ ih=>exact ih
  | resumeFresh _ _ _ _ ih1 ih2=>exact Nat.le_trans ih1 ih2
  | resumeSuspended _ _ _ _ ih1 ih2=>exact Nat.le_trans ih1 ih2
  | segRet _ _ ih1 ih2=>exact Nat.le_trans ih1 ih2
  | segGen _ _ ih1 ih2=>exact Nat.le_trans ih1 ih2
  | segSuspOut _ _ ih=>exact ih
  | segSuspGen _ _ _ _ ih1 ih2=>exact Nat.le_trans ih1 ih2
  | fresh _ ih=>exact Nat.le_trans (Nat.le_succ _) ih
  | _=>assumption
theorem wakes_toks {M:Model} {Γ : PySem.Ctx} {p:Pos} {g:Nat} {r:Resume} {s:Shared} {res:GenResult} {s':Shared} (h:Wakes M Γ p g r s res s'):s.toks≤s'.toks:=by
  unfold Wakes at h
  split at h
  · exact h.elim
  · split at h
    · obtain ⟨e,s1,h1,_,_,rfl⟩:=h
      have:=runs_toks h1
      simpa [Shared.setGen] using this
    · rw [h.2]; exact Nat.le_refl _
    · rw [h.2]; exact Nat.le_refl _
  · obtain ⟨e,s1,h1,_,_,rfl⟩:=h
    have:=runs_toks h1
    simpa [Shared.setGen] using this
  · rw [h.2]; exact Nat.le_refl _
  · rw [h.2]; exact Nat.le_refl _
theorem wp_toks {α : Type} {M:Model} {Γ : PySem.Ctx} (n:Nat):∀ (t:Sem α) {Q:α→Pos→Shared→Prop} {E:Value→Pos→Shared→Prop} {p:Pos} {s:Shared},n≤s.toks →
    Sem.wp M Γ t (fun a p s'=>n≤s'.toks→Q a p s') (fun e p s'=>n≤s'.toks→E e p s') p s→Sem.wp M Γ t Q E p s:=by
  intro t
  induction t with
  | pure a=>intro Q E p s hn h; exact h hn
  | raise e=>intro Q E p s hn h; exact h hn
  | unsupported w=>intro Q E p s hn h; exact h
  | finish e=>intro Q E p s hn h; exact h
  | rule t k ih=>intro Q E p s hn h; exact ih () hn h
  | «at» p' k ih=>intro Q E p s hn h; exact ih () hn h
  | load a pt k ih=>intro Q E p s hn h; obtain ⟨o,e,h⟩:=h; exact ⟨o,e,ih o hn h⟩
  | update a pt f k ih=>intro Q E p s hn h; exact ⟨h.1,ih () (s:={ s with heap:=s.heap.update a f }) hn h.2⟩
  | alloc o k ih=>intro Q E p s hn h; exact ih _ (s:={ s with heap:=s.heap.push o }) hn h
  | loadIfAlive a k ih=>intro Q E p s hn h; exact ih _ hn h
  | point l k ih=>intro Q E p s hn h; exact ih () hn h
  | register a k ih=>intro Q E p s hn h; exact h
  | fresh k ih=>intro Q E p s hn h; exact ih _ (s:={ s with toks:=s.toks+1 }) (Nat.le_succ_of_le hn) h
  | ask k ih=>intro Q E p s hn h; exact ih _ hn h
  | choose src n k ih=>intro Q E p s hn h; exact ⟨h.1,ih _ (s:={ s with drawn:=s.drawn.bump src }) hn h.2⟩
  | os q l k ih=>intro Q E p s hn h; exact ih _ (s:={ s with os:=(Os.step s.os q).1 }) hn h
  | call c hd g l k ih =>
    intro Q E p s hn h
    obtain ⟨r,s1,h1,h2⟩:=h
    exact ⟨r,s1,h1,ih r (Nat.le_trans hn (runs_toks h1)) h2⟩
  | handled o k ih=>intro Q E p s hn h; exact ih _ hn h
  | newGen c k ih=>intro Q E p s hn h; exact ih _ (s:={ s with gens:=s.gens.push (.fresh c) }) hn h
  | genState g k ih=>intro Q E p s hn h; obtain ⟨st,e,h⟩:=h; exact ⟨st,e,ih _ hn h⟩
  | resume g r l k ih =>
    intro Q E p s hn h
    obtain ⟨res,s1,h1,h2⟩:=h
    exact ⟨res,s1,h1,ih res (Nat.le_trans hn (wakes_toks h1)) h2⟩
  | yield v g l k ih=>intro Q E p s hn h; exact h
  | stack k ih=>intro Q E p s hn h; exact ih _ hn h
  | fork c k ih=>intro Q E p s hn h; exact h
  | thread k ih=>intro Q E p s hn h; exact ih _ hn h
  | await a t b l k ih=>intro Q E p s hn h; exact h
theorem wpAny_toks {α : Type} {M:Model} {A:Around} {t:Sem α} {Q:α→Shared→Prop} {E:Value→Shared→Prop} {s:Shared} (h:wpAny M A t (fun a s'=>s.toks≤s'.toks→Q a s') (fun e s'=>s.toks≤s'.toks→E e s') s):wpAny M A t Q E s :=
  fun Γ p hΓ=>wp_toks s.toks t (Nat.le_refl _) (h Γ p hΓ)
section
variable {g:G} {B B':PM} {P:PX} {env:Env} {ks ks':List (Str×VK)} {vs vs':VS} {h h':Heap} {val val':Nat→Value} {foot foot':Nat→List Addr} {cel:Nat→Addr} {s s':Shared} {A:Around} {r:Nat}
end
section
variable {g:G} {B B':PM} {P:PX} {env:Env} {ks ks':List (Str×VK)} {vs vs':VS} {h h':Heap} {val val':Nat→Value} {foot foot':Nat→List Addr} {cel:Nat→Addr} {s s':Shared} {A:Around} {r:Nat}
inductive ForInv (g:G) (P:PX) (env:Env) (ks:List (Str×VK)) (cel:Nat→Addr) (B B1:PM) (s:Shared) (m:Nat) (asg:Asg) (b els:Ex) (items:List PV) (fl:Fl) (vs':VS) (St:Nat→Heap→Prop) (it:Addr) (n:Nat) (s':Shared):Prop
  | mk (i:Nat) (ws:VS) (val:Nat→Value) (foot:Nat→List Addr) (B':PM):m≤s'.toks→n=items.length - i→i≤items.length→yJ asg b els (items.drop i) ws=some (fl,vs')→Sh s s'→Ext B B' s.heap→(∀ a o,B1 a=some o→B' a=some o)→Iv g B' P env ks ws s'.heap val foot cel →
      St i s'.heap→Fresh B' P env.locals ks foot cel [it]→ForInv g P env ks cel B B1 s m asg b els items fl vs' St it n s'
theorem for_run (m:Nat) {target:Expr} {body orelse:List Stmt} {asg:Asg} {b els:Ex} (dt:DenG g ks target asg)
    (db:∀ A B P env s vs val foot cel fl vs',b vs=some (fl,vs')→m≤s.toks→Room A r→Iv g B P env ks vs s.heap val foot cel→wpAny (model g.prog g.w) A (execs body env) (SPost g P env ks cel B s fl vs') No s)
    (de:DenB g r ks orelse els) {B B1 PL:PM} {s s₁ : Shared} {items:List PV} {o:Obj} {ws0:VS} {fl:Fl} (hPL:∀ b o,PL b=some o→P.pr b=some o) (h:yJ asg b els items ws0=some (fl,vs')) (htk:m≤s₁.toks) (R:Room A r)
    (I1:Iv g B1 P env ks ws0 s₁.heap val foot cel) (sh1:Sh s s₁) (x1:Ext B B1 s.heap) (src:Src g B1 PL s₁.heap.objs.size items [s₁.heap.objs.size] (s₁.heap.push o)) :
    wpAny (model g.prog g.w) A (runOwn (.forLoop target (.ref s₁.heap.objs.size) body orelse env) env) (SPost g P env ks cel B s fl vs') No { s₁ with heap:=s₁.heap.push o }:=by
  generalize hit:s₁.heap.objs.size=it at src ⊢
  obtain ⟨fp,wr,PP,St,W,st0,hwr,hfp,hPP,hF,hcl⟩:=src
  have hnone:s₁.heap.get? it=none:=by
    cases e:s₁.heap.get? it with
    | none=>rfl
    | some o=>exact absurd (Heap.lt_size e) (by rw [hit]; exact Nat.lt_irrefl _)
  have pNone:P.pr it=none:=(I1.bNone (by rw [hit]; exact Nat.le_refl _)).2
  have sh0:Sh s₁ { s₁ with heap:=s₁.heap.push o }:=⟨_,s₁.toks,rfl,.of_keep fun _ _ e=>Heap.get?_push_of_some _ e⟩
  refine wpAny_runOwn (codeAny_mono (R:=fun res s'=>∃ f,res=.ok f∧SPost g P env ks cel B s fl vs' f s') (codeAny_forLoop_any
    (ForInv g P env ks cel B B1 s m asg b els items fl vs' St it) ?_ items.length ⟨0,ws0,val,foot,B1,htk,rfl,Nat.zero_le _,h,sh1.trans sh0,x1,fun _ _ e=>e,I1.push o,st0,?_⟩) ?_)
  · rintro n s2 ⟨i,ws,val2,foot2,B2,tk2,rfl,hi,h,sh2,x2,le2,I2,st,Fr⟩
    have hwr':∀ {b:Addr},b ∉ [it]→b ∉ wr:=fun hb hw=>hb (by have:=hwr _ hw; simpa using this)
    have alive2:∀ {s3:Shared},(∀ b o,b ∉ wr→s2.heap.get? b=some o→s3.heap.get? b=some o)→Alive s.heap s3.heap:=fun k a o e=>by
      obtain ⟨o',e'⟩:=sh2.size a o e
      refine ⟨o',k a o' (fun hw=>?_) e'⟩
      have:a=it:=by simpa using hwr _ hw
      subst this
      obtain ⟨o1,e1⟩:=sh1.size a o e
      rw [hnone] at e1; exact jb e1
    by_cases hlt:i<items.length
    · refine wpAny_toks ((W A R.1).item i s2 _ _ hlt st fun x h' tk hx st' k=>?_)
      intro (htk':s2.toks≤tk)
      have hd:items.drop i=items[i]::items.drop (i+1):=List.drop_eq_getElem_cons hlt
      rw [hd] at h
      revert h
      refine jc fun v1 h4 h=>?_
      have rx:RV B2 items[i] x:=(hPP i x hx items[i] (List.getElem?_eq_getElem hlt)).mono le2
      have I3:Iv g B2 P env ks ws h' val2 foot2 cel:=I2.growBut Fr fun b o hb e=>k b o (hwr' hb) e
      have I3':=I3.protect Fr
      obtain ⟨oi,T,hoi,hTc,hTn⟩:=hcl _ _ st'
      refine letGo_no (s:={ s2 with heap:=h',toks:=tk }) hoi hTc hTn ?_
      refine wpAny_toks (wpAny_mono (dt A B2 (P.plus h' [it]) env { s2 with heap:=h',toks:=tk } ws val2 foot2 cel items[i] x v1 h4 R.1 I3' rx) (fun _ s4 q htk4=>?_) fun _ _ f=>f.elim)
      obtain ⟨sh4,val4,foot4,I4⟩:=q
      obtain ⟨⟨fl1,w1⟩,h5,h⟩:=jd h
      have htk4:tk≤s4.toks:=htk4
      refine wpAny_toks (wpAny_mono (db A B2 (P.plus h' [it]) env s4 v1 val4 foot4 cel fl1 w1 h5 (Nat.le_trans tk2 (Nat.le_trans htk' htk4)) R I4) (fun f s5 q htk5=>?_) fun _ _ f=>f.elim)
      obtain ⟨sh5,B5,val5,foot5,F5,x5,I5,R5⟩:=q
      have I5':Iv g B5 P env ks w1 s5.heap val5 foot5 cel:=I5.unprotect I2.hR (by simpa using pNone)
      have sh3:Sh s { s2 with heap:=h',toks:=tk }:=by
        obtain ⟨hh,tt,rfl,al⟩:=sh2
        exact ⟨h',tk,rfl,alive2 (s3:={ s with heap:=h',toks:=tk }) k⟩
      have shA:=(sh3.trans sh4).trans sh5
      have xA:Ext B B5 s.heap:=x2.trans x5 (sh3.trans sh4).size
      cases fl1 with
      | next =>
        cases R5
        refine ⟨items.length - (i+1),Nat.sub_lt_sub_left hlt (Nat.lt_succ_self i),i+1,w1,val5,foot5,B5,Nat.le_trans tk2 (Nat.le_trans htk' (Nat.le_trans htk4 htk5)),rfl,hlt,h,shA,xA,fun a o e=>x5.le _ _ (le2 _ _ e),I5',?_,?_⟩
        · refine (W A R.1).frame (i+1) h' s5.heap st' fun c hc o e=>?_
          rcases hfp c hc with hcF | ⟨o',hB | hP⟩
          · exact I5.hP c o (yL hcF e)
          · have:h'.get? c=some o':=I3.hB _ _ (le2 _ _ hB)
            rw [e] at this; injection this with this; subst this
            exact I5.hB _ _ (x5.le _ _ (le2 _ _ hB))
          · have:h'.get? c=some o':=I3.hP _ _ (hPL _ _ hP)
            rw [e] at this; injection this with this; subst this
            exact I5'.hP _ _ (hPL _ _ hP)
        · intro a ha
          have ha':a=it:=by simpa using ha
          subst ha'
          obtain ⟨o4,e4⟩:=sh4.size _ _ hoi
          refine ⟨(x5.eq _ _ e4).trans (Fr _ ha).1,pNone,fun j oj=>?_⟩
          have q:=(I5.own j _ oj).2
          rw [yL ha hoi] at q; exact someNo q
      | brk =>
        cases R5
        injection h with h; injection h with ee0 ee1; subst ee0; subst ee1
        exact ⟨_,rfl,shA,B5,val5,foot5,F5,xA,I5',rfl⟩
      | ret w =>
        obtain ⟨y,rfl,R5,Fr5,lo⟩:=R5
        injection h with h; injection h with ee2 ee3; subst ee2; subst ee3
        refine ⟨_,rfl,shA,B5,val5,foot5,F5,xA,I5',y,rfl,R5,fun a ha=>⟨(Fr5 a ha).1,?_,(Fr5 a ha).2.2⟩,fun a ha=>?_⟩
        · cases e:P.pr a with
          | none=>rfl
          | some o =>
            have q:=(Fr5 a ha).2.1
            have:(P.plus h' [it]).pr a=some o:=by
              show (if a∈[it] then h'.get? a else P.pr a)=some o
              rw [if_neg]
              · exact e
              · intro hb; simp at hb; subst hb; rw [pNone] at e; exact jb e
            rw [this] at q; exact someNo q
        · cases e:s.heap.get? a with
          | none=>rfl
          | some o=>obtain ⟨o',e'⟩:=(sh3.trans sh4).size a o e; rw [lo a ha] at e'; exact jb e'
    · have hi':i=items.length:=Nat.le_antisymm hi (Nat.not_lt.mp hlt)
      subst hi'
      rw [List.drop_length] at h
      refine (W A R.1).done s2 _ _ st fun h' tk k=>?_
      have I3:Iv g B2 P env ks ws h' val2 foot2 cel:=I2.growBut Fr fun b o hb e=>k b o (hwr' hb) e
      have sh3:Sh s { s2 with heap:=h',toks:=tk }:=by
        obtain ⟨hh,tt,rfl,al⟩:=sh2
        exact ⟨h',tk,rfl,alive2 (s3:={ s with heap:=h',toks:=tk }) k⟩
      refine wpAny_mono (de A B2 P env { s2 with heap:=h',toks:=tk } ws val2 foot2 cel fl vs' h R I3) (fun f s4 q=>?_) fun _ _ f=>f.elim
      exact ⟨f,rfl,q.from sh3 x2⟩
  · intro a ha
    have ha':a=it:=by simpa using ha
    subst ha'
    refine ⟨(I1.bNone (by rw [hit]; exact Nat.le_refl _)).1,pNone,fun j oj=>?_⟩
    obtain ⟨o',e'⟩:=I1.ownAt oj
    rw [hnone] at e'; exact jb e'
  · rintro res s' ⟨f,rfl,q⟩
    exact q
theorem yz {target iter:Expr} {body orelse:List Stmt} {pos:Pos} {fi:Ev} {asg:Asg} {b els:Ex} (d:Den g r ks iter fi) (dt:DenG g ks target asg) (db:DenB g r ks body b) (de:DenB g r ks orelse els)
    (hset:∀ env x,foldedSetIterable iter env x=pure x:=by intro _ _; rfl):DenS g r ks (.For target iter body orelse pos) (yE fi asg b els):=by
  intro A B P env s vs val foot cel fl vs' h R I
  revert h
  refine jc fun p h1 h=>?_
  revert h
  refine jc fun v h2 h=>?_
  revert h
  refine jc fun items h3 h=>?_
  rw [exec_For_is]
  refine wpAny_bind (wpAny_standAt (wpAny_bind (wpAny_mono (d A B P env s vs val foot cel p.1 p.2 h1 R I) (fun x s₁ e=>?_) fun _ _ f=>f)))
  refine EPost.frozeE e h2 fun sh1 B1 x1 I1 R1=>?_
  rw [hset]
  refine wpAny_bind (wpAny_pure (wpAny_bind (wpAny_standAt (wpAny_bind (wpAny_holding (iter_src I1 h3 R1 fun o src=>?_))))))
  exact for_run 0 dt (fun A B P env s vs val foot cel fl vs' h _ R I=>db A B P env s vs val foot cel fl vs' h R I) de (fun b o e=>I1.hR b o e) h (Nat.zero_le _) R I1 sh1 x1 src
end
section
variable {g:G} {B B':PM} {P:PX} {env:Env} {ks ks':List (Str×VK)} {vs vs':VS} {h h':Heap} {val val':Nat→Value} {foot foot':Nat→List Addr} {cel:Nat→Addr} {s s':Shared} {A:Around} {r:Nat}
end
section
variable {g:G} {B B':PM} {P:PX} {env:Env} {ks ks':List (Str×VK)} {vs vs':VS} {h h':Heap} {val val':Nat→Value} {foot foot':Nat→List Addr} {cel:Nat→Addr} {s s':Shared} {A:Around} {r:Nat}
end
section
variable {g:G} {B B':PM} {P:PX} {env:Env} {ks ks':List (Str×VK)} {vs vs':VS} {h h':Heap} {val val':Nat→Value} {foot foot':Nat→List Addr} {cel:Nat→Addr} {s s':Shared} {A:Around} {r:Nat}
end
noncomputable def sit (x:Str) (t:Tok):Obj:={ cls:=.type "str_ascii_iterator",data:=.fields #[.str x t,.int 0 0] }
noncomputable def zp3 (h:Heap) (o1 o2:Obj):Heap:=((h.push o1).push o2).push { cls:=.type "tuple",data:=.seq #[.ref h.objs.size,.ref (h.push o1).objs.size] }
noncomputable def zp4 (h:Heap) (o1 o2:Obj):Heap:=(zp3 h o1 o2).push { cls:=.type "tuple",data:=.seq #[.none,.none] }
noncomputable def zp5 (h:Heap) (o1 o2:Obj):Heap:=(zp4 h o1 o2).push { cls:=.type "zip",data:=.fields #[.none,.bool false,.bool false,.ref ((h.push o1).push o2).objs.size,.ref (zp3 h o1 o2).objs.size] }
theorem zip_new_str (x y:Str) (t u:Tok) (hx:x.cps.all (·<128)=true) (hy:y.cps.all (·<128)=true) :
    Meets (Builtin.«zip.__new__» ⟨[.type "zip",.str x t,.str y u],[]⟩) (fun _ R s=>R (.ok (.ret (.ref (zp4 s.heap (sit x t) (sit y u)).objs.size))) { s with heap:=zp5 s.heap (sit x t) (sit y u) }) :=
  .of_wp fun prog w A R s h=>by
    obtain ⟨hp,g,d,tk,os⟩:=s
    have hsub:=sub_zip
    wp_delta
    with_reducible refine wpAny_bind ?_
    wp_delta
    with_reducible refine wpAny_bind ?_
    wp_delta
    with_reducible refine wpAny_pure ?_
    with_reducible refine wpAny_ite_false rfl ?_
    with_reducible refine wpAny_bind ?_
    with_reducible refine wpAny_of_eq (by assumption) ?_
    with_reducible refine wpAny_ite_false rfl ?_
    with_reducible refine wpAny_pure ?_
    with_reducible refine wpAny_ite_false rfl ?_
    with_reducible refine wpAny_bind ?_
    wp_delta
    with_reducible refine wpAny_bind ?_
    iterate 4 wp_delta
    iterate 2 with_reducible refine wpAny_bind ?_
    with_reducible refine wpAny_holding ?_
    with_reducible apply wpAny_pyIter_ascii hx
    with_reducible refine wpAny_pure ?_
    iterate 2 wp_delta
    iterate 2 with_reducible refine wpAny_bind ?_
    with_reducible refine wpAny_holding ?_
    with_reducible apply wpAny_pyIter_ascii hy
    with_reducible refine wpAny_pure ?_
    iterate 2 wp_delta
    iterate 2 with_reducible refine wpAny_pure ?_
    with_reducible refine wpAny_bind ?_
    iterate 2 wp_delta
    with_reducible refine wpAny_ite_false rfl ?_
    iterate 2 wp_delta
    with_reducible refine wpAny_bind ?_
    with_reducible refine wpAny_alloc' ?_
    with_reducible refine wpAny_pure ?_
    with_reducible refine wpAny_bind ?_
    iterate 2 wp_delta
    with_reducible refine wpAny_ite_false rfl ?_
    iterate 2 wp_delta
    with_reducible refine wpAny_bind ?_
    with_reducible refine wpAny_alloc' ?_
    with_reducible refine wpAny_pure ?_
    with_reducible refine wpAny_bind ?_
    iterate 2 wp_delta
    with_reducible refine wpAny_ite_false rfl ?_
    iterate 2 wp_delta
    with_reducible refine wpAny_bind ?_
    with_reducible refine wpAny_alloc' ?_
    with_reducible refine wpAny_pure ?_
    wp_delta
    with_reducible refine wpAny_pure ?_
    exact ⟨_,rfl,h⟩
section
variable {prog:Program} {w:World} {A:Around} {E:Value→Shared→Prop} {s:Shared}
theorem call_zip_str {x y:Str} {t u:Tok} {Q:Value→Shared→Prop} (hx:x.cps.all (·<128)=true) (hy:y.cps.all (·<128)=true)
    (h:∀ h',IsZip h' (s.heap.objs.size+4) (s.heap.objs.size+2) (s.heap.objs.size+3) .none→IsPair h' (s.heap.objs.size+2) (.ref s.heap.objs.size) (.ref (s.heap.objs.size+1)) →
      IsPair h' (s.heap.objs.size+3) .none .none→h'.IsStrIter s.heap.objs.size "str_ascii_iterator" x t 0→h'.IsStrIter (s.heap.objs.size+1) "str_ascii_iterator" y u 0 →
      (∀ c o,s.heap.get? c=some o→h'.get? c=some o)→Q (.ref (s.heap.objs.size+4)) { s with heap:=h' }) :
    wpAny (model prog w) A (call (.type "zip") [.str x t,.str y u]) Q E s:=by
  refine callType_new F.called_zip (by decide) (F.typeCall_zip_2 _ _) (F.newCall_zip_2 _ _) (fun obj=>F.args_object_init_3 obj _ _) F.entry_zip_new
    (zip_new_str x y t u hx hy) ?_
  have z1:(s.heap.push (sit x t)).objs.size=s.heap.objs.size+1:=Heap.size_push ..
  have z2:((s.heap.push (sit x t)).push (sit y u)).objs.size=s.heap.objs.size+2:=by rw [Heap.size_push,z1]
  have z3:(zp3 s.heap (sit x t) (sit y u)).objs.size=s.heap.objs.size+3:=by unfold zp3; rw [Heap.size_push,z2]
  have z4:(zp4 s.heap (sit x t) (sit y u)).objs.size=s.heap.objs.size+4:=by unfold zp4; rw [Heap.size_push,z3]
  have g5:(zp5 s.heap (sit x t) (sit y u)).get? (zp4 s.heap (sit x t) (sit y u)).objs.size=some _:=Heap.get?_push_size _ rfl
  have g4:(zp5 s.heap (sit x t) (sit y u)).get? (zp3 s.heap (sit x t) (sit y u)).objs.size=some _:=Heap.get?_push_of_some _ (Heap.get?_push_size _ rfl)
  have g3:(zp5 s.heap (sit x t) (sit y u)).get? ((s.heap.push (sit x t)).push (sit y u)).objs.size=some _:=Heap.get?_push_of_some _ (Heap.get?_push_of_some _ (Heap.get?_push_size _ rfl))
  have g2:(zp5 s.heap (sit x t) (sit y u)).get? (s.heap.push (sit x t)).objs.size=some _:=Heap.get?_push_of_some _ (Heap.get?_push_of_some _ (Heap.get?_push_of_some _ (Heap.get?_push_size _ rfl)))
  have g1:(zp5 s.heap (sit x t) (sit y u)).get? s.heap.objs.size=some _:=Heap.get?_push_of_some _ (Heap.get?_push_of_some _ (Heap.get?_push_of_some _ (Heap.get?_push_of_some _ (Heap.get?_push_size _ rfl))))
  show _∧_
  rw [z2,z3,z4] at g5
  rw [z1,z2] at g3
  rw [z3] at g4
  rw [z1] at g2
  rw [z4]
  exact ⟨⟨_,g5,rfl⟩,h _ g5 g3 g4 ⟨_,g1,rfl,rfl⟩ ⟨_,g2,rfl,rfl⟩ fun c o x =>
    Heap.get?_push_of_some _ (Heap.get?_push_of_some _ (Heap.get?_push_of_some _ (Heap.get?_push_of_some _ (Heap.get?_push_of_some _ x))))⟩
theorem nextOf_str_item {it:Addr} {x:Str} {t:Tok} {i c:Nat} {Q:Value→Shared→Prop} (hit:s.heap.IsStrIter it "str_ascii_iterator" x t i) (hx:x.cps[i]?=some c)
    (hQ:∀ h',h'.IsStrIter it "str_ascii_iterator" x t (i+1)→Heap.SameBut it s.heap h'→Q (.str ⟨#[c]⟩ s.toks) { s with heap:=h',toks:=s.toks+1 }) :
    wpAny (model prog w) A (Builtin.SmallTypes.nextOf (.ref it)) Q E s:=by
  obtain ⟨o,ho,hc,hd⟩:=id hit
  unfold Builtin.SmallTypes.nextOf
  refine wpAny_bind (wpAny_callSpecial?_slot (name:=Str.ofString "__next__") hit.typeIs F.slot_str_ascii_iterator_next
    (wpAny_call_entry F.slot_str_ascii_iterator_next hit.typeIs F.entry_str_ascii_iterator_next ?_ (F.args_str_ascii_iterator_next_1 _)))
  show wpAny _ _ (field (.ref it) 0 >>= _) _ _ s
  refine wpAny_bind (wpAny_field ho hd (x:=.str x t) rfl ?_)
  show wpAny _ _ (field (.ref it) 1 >>= _) _ _ s
  refine wpAny_bind (wpAny_field ho hd (x:=.int i 0) rfl ?_)
  simp only [Int.toNat_natCast,hx]
  refine wpAny_bind (wpAny_setField ho hd (by simp) (wpAny_bind (wpAny_mkStr (wpAny_pure ⟨_,rfl,wpAny_pure (hQ _ ?_ (Heap.SameBut.update ..))⟩) (by show 1≤sizeLine; decide))))
  exact ⟨_,Heap.get?_update_self _ ho (Obj.isFreed_of_fields (Obj.data_mapFields hd _)),(Obj.cls_mapFields ..).trans hc,by
    rw [Obj.data_mapFields hd]; simp [rawInt]⟩
theorem nextOf_str_end {it:Addr} {x:Str} {t:Tok} {i:Nat} {Q:Value→Shared→Prop} (hh:A.handled=none)
    (hit:s.heap.IsStrIter it "str_ascii_iterator" x t i) (hx:x.cps[i]?=none)
    (hE:∀ h' e,Heap.ExtBut it s.heap h'→(∃ o,h'.get? e=some o∧o.cls=.type "StopIteration")→E (.ref e) { s with heap:=h' }) :
    wpAny (model prog w) A (Builtin.SmallTypes.nextOf (.ref it)) Q E s:=by
  obtain ⟨o,ho,hc,hd⟩:=id hit
  unfold Builtin.SmallTypes.nextOf
  refine wpAny_bind (wpAny_callSpecial?_slot (name:=Str.ofString "__next__") hit.typeIs F.slot_str_ascii_iterator_next
    (wpAny_call_entry F.slot_str_ascii_iterator_next hit.typeIs F.entry_str_ascii_iterator_next ?_ (F.args_str_ascii_iterator_next_1 _)))
  show wpAny _ _ (field (.ref it) 0 >>= _) _ _ s
  refine wpAny_bind (wpAny_field ho hd (x:=.str x t) rfl ?_)
  show wpAny _ _ (field (.ref it) 1 >>= _) _ _ s
  refine wpAny_bind (wpAny_field ho hd (x:=.int i 0) rfl ?_)
  simp only [Int.toNat_natCast,hx]
  refine wpAny_bind (wpAny_rule (wpAny_bind (wpAny_setField ho hd (by simp) (wpAny_bind (wpAny_letGo ?_)))))
  show wpAny _ _ (newExc (.type "StopIteration") [] >>= _) _ _ _
  refine wpAny_bind ?_
  simp only [newExc,newTuple]
  refine wpAny_bind (wpAny_newObj_type ?_ (by size_fits))
  refine wpAny_bind (m:=firstArgMember _ _) (wpAny_of_eq (a:=Value.none) (by first | rfl | (simp only [firstArgMember]; rfl)) ?_)
  refine wpAny_newObj_type ?_ (by size_fits)
  simp only [raiseNew]
  refine wpAny_bind (wpAny_handled ?_)
  first | rw [show A.in1.handled=none from hh] | rw [hh]
  refine wpAny_bind (wpAny_pure (wpAny_throw ?_))
  exact hE _ _ (((Heap.SameBut.update ..).extBut.push _).push _) ⟨_,Heap.get?_push_size _ rfl,rfl⟩
end
structure Dr (g:G) (B:PM) (it:Addr) (fp:List Addr) (items:List PV) (St:Nat→Heap→Prop):Prop where
  mem:it∈fp
  here:∀ i h,St i h→∃ o,h.get? it=some o
  item:∀ (A:Around) (i:Nat) (hlt:i<items.length) (s:Shared) (Q:Value→Shared→Prop) (E:Value→Shared→Prop),St i s.heap →
    (∀ v h' t',(∀ B',(∀ a o,B a=some o→B' a=some o)→RV B' items[i] v)→Heap.SameBut it s.heap h'→St (i+1) h'→Q v { s with heap:=h',toks:=t' })→wpAny (model g.prog g.w) A (Builtin.SmallTypes.nextOf (.ref it)) Q E s
  done:∀ (A:Around),A.handled=none→∀ (s:Shared) (Q:Value→Shared→Prop) (E:Value→Shared→Prop),St items.length s.heap →
    (∀ h' e,Heap.ExtBut it s.heap h'→(∃ o,h'.get? e=some o∧o.cls=.type "StopIteration")→E (.ref e) { s with heap:=h' })→wpAny (model g.prog g.w) A (Builtin.SmallTypes.nextOf (.ref it)) Q E s
  frame:∀ i h h',St i h→(∀ b∈fp,∀ o,h.get? b=some o→h'.get? b=some o)→St i h'
structure ZA (z TI TO i1 i2:Addr) (fp1 fp2:List Addr):Prop where
  TIz:TI ≠ z
  TOz:TO ≠ z
  TITO:TI ≠ TO
  TI1:TI ≠ i1
  TI2:TI ≠ i2
  z1:z ∉ fp1
  T1:TO ∉ fp1
  j1:i2 ∉ fp1
  z2:z ∉ fp2
  T2:TO ∉ fp2
  j2:i1 ∉ fp2
section
variable {g:G} {B:PM} {z TI TO i1 i2:Addr} {fp1 fp2:List Addr} {items1 items2:List PV} {St1 St2:Nat→Heap→Prop} {A:Around} {E:Value→Shared→Prop} {s:Shared}
theorem Dr.but {it b:Addr} {fp:List Addr} {items:List PV} {St:Nat→Heap→Prop} {h h':Heap} {i:Nat} (D:Dr g B it fp items St) (st:St i h) (hs:Heap.SameBut b h h') (hb:b ∉ fp):St i h' :=
  D.frame i h h' st fun c hc o e=>hs.extBut c o (fun q=>hb (q ▸ hc)) e
structure ZSt (h:Heap) (z TI TO i1 i2:Addr) (St1 St2:Nat→Heap→Prop) (f0:Value) (k1 k2:Nat):Prop where
  z:IsZip h z TI TO f0
  ti:IsPair h TI (.ref i1) (.ref i2)
  to':∃ a b,IsPair h TO a b
  s1:St1 k1 h
  s2:St2 k2 h
theorem zip_item (a:ZA z TI TO i1 i2 fp1 fp2) (D1:Dr g B i1 fp1 items1 St1) (D2:Dr g B i2 fp2 items2 St2) {k:Nat} (h1:k<items1.length) (h2:k<items2.length) (Z:ZSt s.heap z TI TO i1 i2 St1 St2 .none k k) {Q:Value→Shared→Prop}
    (hQ:∀ h' t' x y,(∀ B',(∀ a o,B a=some o→B' a=some o)→RV B' items1[k] x∧RV B' items2[k] y)→ZSt h' z TI TO i1 i2 St1 St2 (rawInt s.heap.objs.size) (k+1) (k+1)→IsPair h' s.heap.objs.size x y →
      (∀ c o,c ≠ z→c ≠ TO→c ≠ i1→c ≠ i2→s.heap.get? c=some o→h'.get? c=some o)→Q (.ref s.heap.objs.size) { s with heap:=h',toks:=t' }) :
    wpAny (model g.prog g.w) A (Builtin.«zip.__next__» ⟨[.ref z],[]⟩) (fun fin s'=>∃ v,fin=.done (.ret v)∧Q v s') E s:=by
  obtain ⟨hz,hTI,⟨u,v,hTO⟩,t1,t2⟩:=Z
  have z1:i1 ≠ z:=fun q=>a.z1 (q ▸ D1.mem)
  have z2:i2 ≠ z:=fun q=>a.z2 (q ▸ D2.mem)
  have y1:i1 ≠ TO:=fun q=>a.T1 (q ▸ D1.mem)
  have y2:i2 ≠ TO:=fun q=>a.T2 (q ▸ D2.mem)
  have i12:i2 ≠ i1:=fun q=>a.j1 (q ▸ D1.mem)
  show wpAny _ _ (field (.ref z) 2 >>= _) _ _ _
  refine wpAny_bind (wpAny_field hz rfl (x:=.bool false) rfl ?_)
  show wpAny _ _ (field (.ref z) 3 >>= _) _ _ _
  refine wpAny_bind (wpAny_field hz rfl (x:=.ref TI) rfl ?_)
  refine wpAny_bind (wpAny_seqItems hTI rfl ?_)
  show wpAny _ _ (Builtin.SmallTypes.ownedTupleIsFree (.ref z) >>= _) _ _ _
  refine wpAny_bind ?_
  unfold Builtin.SmallTypes.ownedTupleIsFree
  refine wpAny_bind (wpAny_field hz rfl (x:=.none) rfl (wpAny_pure ?_))
  simp only [if_true]
  refine wpAny_bind (wpAny_rule (wpAny_bind (wpAny_field hz rfl (x:=.ref TO) rfl (wpAny_bind (wpAny_setField_rec hz (by simp) fun h₁ (hz₁ : IsZip h₁ z TI TO .ellipsis) hs₁=>?_)))))
  refine wpAny_bind ?_
  simp only [List.zipIdx_cons,List.zipIdx_nil,List.forIn_cons,List.forIn_nil]
  refine wpAny_bind (wpAny_bind (wpAny_onRaise ?_))
  show wpAny _ _ (Builtin.SmallTypes.nextOf (.ref i1) >>= _) _ _ _
  refine wpAny_bind (D1.item _ k h1 _ _ _ (D1.but t1 hs₁ a.z1) fun x h₂ tk₂ rx (hs₂ : Heap.SameBut i1 h₁ h₂) t1₂=>wpAny_pure ?_)
  have hTO₂ : IsPair h₂ TO u v:=hs₂.extBut _ _ y1.symm (hs₁.extBut _ _ a.TOz hTO)
  refine wpAny_bind (wpAny_seqItems hTO₂ rfl (wpAny_bind (wpAny_updateSeq_pair hTO₂ fun h₃ (hTO₃ : IsPair h₃ TO x v) (hs₃ : Heap.SameBut TO h₂ h₃)=>wpAny_bind (wpAny_letGo (wpAny_pure ?_)))))
  refine wpAny_bind (wpAny_bind (wpAny_onRaise ?_))
  show wpAny _ _ (Builtin.SmallTypes.nextOf (.ref i2) >>= _) _ _ _
  refine wpAny_bind (D2.item _ k h2 _ _ _ (D2.but (D2.but (D2.but t2 hs₁ a.z2) hs₂ a.j2) hs₃ a.T2) fun y h₄ tk₄ ry (hs₄ : Heap.SameBut i2 h₃ h₄) t2₄=>wpAny_pure ?_)
  have hTO₄ : IsPair h₄ TO x v:=hs₄.extBut _ _ y2.symm hTO₃
  refine wpAny_bind (wpAny_seqItems hTO₄ rfl (wpAny_bind (wpAny_updateSeq_pair hTO₄ fun h₅ (hTO₅ : IsPair h₅ TO x y) (hs₅ : Heap.SameBut TO h₄ h₅)=>wpAny_bind (wpAny_letGo (wpAny_pure (wpAny_pure ?_))))))
  refine wpAny_bind (wpAny_seqItems hTO₅ rfl (wpAny_bind (wpAny_newTuple ?_)))
  have hsz:h₅.objs.size=s.heap.objs.size:=by rw [hs₅.1,hs₄.1,hs₃.1,hs₂.1,hs₁.1]
  have hz₅ : IsZip h₅ z TI TO .ellipsis:=hs₅.extBut _ _ a.TOz.symm (hs₄.extBut _ _ z2.symm (hs₃.extBut _ _ a.TOz.symm (hs₂.extBut _ _ z1.symm hz₁)))
  have hk₅ : ∀ c o,c ≠ z→c ≠ TO→c ≠ i1→c ≠ i2→s.heap.get? c=some o→h₅.get? c=some o:=fun c o c1 c2 c3 c4 e =>
    hs₅.extBut _ _ c2 (hs₄.extBut _ _ c4 (hs₃.extBut _ _ c2 (hs₂.extBut _ _ c3 (hs₁.extBut _ _ c1 e))))
  have zlt:z ≠ h₅.objs.size:=Nat.ne_of_lt (Heap.lt_size hz₅)
  show wpAny _ _ (Builtin.SmallTypes.ownedTupleHandOut (.ref z) (.ref h₅.objs.size) >>= _) _ _ _
  refine wpAny_bind ?_
  unfold Builtin.SmallTypes.ownedTupleHandOut
  refine wpAny_bind (wpAny_setField_rec (Heap.get?_push_of_some _ hz₅) (by simp) fun h₇ (hz₇ : IsZip h₇ z TI TO (rawInt h₅.objs.size)) hs₇=>?_)
  refine wpAny_setField_rec hz₇ (by simp) fun h₈ (hz₈ : IsZip h₈ z TI TO (rawInt h₅.objs.size)) hs₈=>?_
  have up:∀ c o,c ≠ z→h₅.get? c=some o→h₈.get? c=some o:=fun c o c1 e=>hs₈.extBut _ _ c1 (hs₇.extBut _ _ c1 (Heap.get?_push_of_some _ e))
  have hT₈ : IsPair h₈ h₅.objs.size x y:=hs₈.extBut _ _ zlt.symm (hs₇.extBut _ _ zlt.symm (Heap.get?_push_size _ rfl))
  refine wpAny_pure ⟨_,rfl,?_⟩
  show Q (.ref h₅.objs.size) _
  rw [hsz] at hz₈ hT₈ ⊢
  refine hQ h₈ _ x y (fun B' le=>⟨rx B' le,ry B' le⟩) ⟨hz₈,?_,⟨x,y,up _ _ a.TOz hTO₅⟩,?_,?_⟩ hT₈ fun c o c1 c2 c3 c4 e=>up c o c1 (hk₅ c o c1 c2 c3 c4 e)
  · exact up _ _ a.TIz (hk₅ _ _ a.TIz a.TITO a.TI1 a.TI2 hTI)
  · exact D1.frame _ _ _ (D1.but (D1.but (D1.but t1₂ hs₃ a.T1) hs₄ a.j1) hs₅ a.T1) fun b hb o e=>up b o (fun q=>a.z1 (q ▸ hb)) e
  · exact D2.frame _ _ _ (D2.but t2₄ hs₅ a.T2) fun b hb o e=>up b o (fun q=>a.z2 (q ▸ hb)) e
end
section
variable {g:G} {B B' PL:PM} {P:PX} {env:Env} {ks ks':List (Str×VK)} {vs vs':VS} {val:Nat→Value} {foot:Nat→List Addr} {cel:Nat→Addr} {r:Nat} {z TI TO i1 i2:Addr} {fp1 fp2:List Addr} {items1 items2:List PV} {St1 St2:Nat→Heap→Prop} {A:Around} {E:Value→Shared→Prop} {s:Shared}
theorem zip_end (hh:A.handled=none) (a:ZA z TI TO i1 i2 fp1 fp2) (D1:Dr g B i1 fp1 items1 St1) (D2:Dr g B i2 fp2 items2 St2) {k:Nat} (hk:k=min items1.length items2.length) (Z:ZSt s.heap z TI TO i1 i2 St1 St2 .none k k) {Q:PySem.Fin→Shared→Prop}
    (hE:∀ h' t' e,(∀ c o,c ≠ z→c ≠ TO→c ≠ i1→c ≠ i2→s.heap.get? c=some o→h'.get? c=some o)→(∃ o,h'.get? e=some o∧o.cls=.type "StopIteration")→E (.ref e) { s with heap:=h',toks:=t' }) :
    wpAny (model g.prog g.w) A (Builtin.«zip.__next__» ⟨[.ref z],[]⟩) Q E s:=by
  obtain ⟨hz,hTI,⟨u,v,hTO⟩,t1,t2⟩:=Z
  have z1:i1 ≠ z:=fun q=>a.z1 (q ▸ D1.mem)
  have z2:i2 ≠ z:=fun q=>a.z2 (q ▸ D2.mem)
  have y1:i1 ≠ TO:=fun q=>a.T1 (q ▸ D1.mem)
  show wpAny _ _ (field (.ref z) 2 >>= _) _ _ _
  refine wpAny_bind (wpAny_field hz rfl (x:=.bool false) rfl ?_)
  show wpAny _ _ (field (.ref z) 3 >>= _) _ _ _
  refine wpAny_bind (wpAny_field hz rfl (x:=.ref TI) rfl ?_)
  refine wpAny_bind (wpAny_seqItems hTI rfl ?_)
  show wpAny _ _ (Builtin.SmallTypes.ownedTupleIsFree (.ref z) >>= _) _ _ _
  refine wpAny_bind ?_
  unfold Builtin.SmallTypes.ownedTupleIsFree
  refine wpAny_bind (wpAny_field hz rfl (x:=.none) rfl (wpAny_pure ?_))
  simp only [if_true]
  refine wpAny_bind (wpAny_rule (wpAny_bind (wpAny_field hz rfl (x:=.ref TO) rfl (wpAny_bind (wpAny_setField_rec hz (by simp) fun h₁ (hz₁ : IsZip h₁ z TI TO .ellipsis) hs₁=>?_)))))
  refine wpAny_bind ?_
  simp only [List.zipIdx_cons,List.zipIdx_nil,List.forIn_cons,List.forIn_nil]
  refine wpAny_bind (wpAny_bind (wpAny_onRaise ?_))
  show wpAny _ _ (Builtin.SmallTypes.nextOf (.ref i1) >>= _) _ _ _
  have out:∀ {h₂ h₃ : Heap} {i e:Addr} {tk:Tok},i ≠ z→Heap.ExtBut i h₂ h₃→(∃ o,h₃.get? e=some o∧o.cls=.type "StopIteration")→IsZip h₂ z TI TO .ellipsis →
      (∀ c o,c ≠ z→c ≠ TO→c ≠ i1→c ≠ i2→s.heap.get? c=some o→h₃.get? c=some o)→wpAny (model g.prog g.w) A (setField (.ref z) 0 .none) (fun _ s'=>E (.ref e) s') E { s with heap:=h₃,toks:=tk }:=by
    intro h₂ h₃ i e tk hi hx ⟨oe,hoe,hce⟩ hz₂ hk
    have hz₃ : IsZip h₃ z TI TO .ellipsis:=hx _ _ hi.symm hz₂
    have hez:e ≠ z:=fun q=>by subst q; rw [hz₃] at hoe; injection hoe with hoe; subst hoe; simp at hce
    refine wpAny_setField_rec hz₃ (by simp) fun h₄ _ hs₄=>hE h₄ tk e (fun c o c1 c2 c3 c4 q=>hs₄.extBut _ _ c1 (hk c o c1 c2 c3 c4 q)) ⟨oe,hs₄.extBut _ _ hez hoe,hce⟩
  by_cases hlt:k<items1.length
  · have h2:k=items2.length:=min_r hk hlt
    refine wpAny_bind (D1.item _ k hlt _ _ _ (D1.but t1 hs₁ a.z1) fun x h₂ tk₂ rx (hs₂ : Heap.SameBut i1 h₁ h₂) t1₂=>wpAny_pure ?_)
    have hTO₂ : IsPair h₂ TO u v:=hs₂.extBut _ _ y1.symm (hs₁.extBut _ _ a.TOz hTO)
    refine wpAny_bind (wpAny_seqItems hTO₂ rfl (wpAny_bind (wpAny_updateSeq_pair hTO₂ fun h₃ (hTO₃ : IsPair h₃ TO x v) (hs₃ : Heap.SameBut TO h₂ h₃)=>wpAny_bind (wpAny_letGo (wpAny_pure ?_)))))
    refine wpAny_bind (wpAny_bind (wpAny_onRaise ?_))
    show wpAny _ _ (Builtin.SmallTypes.nextOf (.ref i2) >>= _) _ _ _
    refine wpAny_bind (D2.done A hh { s with heap:=h₃,toks:=tk₂ } _ _ (h2 ▸ D2.but (D2.but (D2.but t2 hs₁ a.z2) hs₂ a.j2) hs₃ a.T2) fun h₄ e (hs₄ : Heap.ExtBut i2 h₃ h₄) he=>?_)
    have hz₃ : IsZip h₃ z TI TO .ellipsis:=hs₃.extBut _ _ a.TOz.symm (hs₂.extBut _ _ z1.symm hz₁)
    exact out z2 hs₄ he hz₃ fun c o c1 c2 c3 c4 q=>hs₄ c o c4 (hs₃.extBut _ _ c2 (hs₂.extBut _ _ c3 (hs₁.extBut _ _ c1 q)))
  · have h1:k=items1.length:=min_l hk hlt
    refine wpAny_bind (D1.done A hh { s with heap:=h₁ } _ _ (h1 ▸ D1.but t1 hs₁ a.z1) fun h₂ e (hs₂ : Heap.ExtBut i1 h₁ h₂) he=>?_)
    exact out z1 hs₂ he hz₁ fun c o c1 c2 c3 c4 q=>hs₂ c o c3 (hs₁.extBut _ _ c1 q)
end
section
variable {g:G} {B B' PL:PM} {P:PX} {env:Env} {ks ks':List (Str×VK)} {vs vs':VS} {val:Nat→Value} {foot:Nat→List Addr} {cel:Nat→Addr} {r:Nat} {z TI TO i1 i2:Addr} {fp1 fp2:List Addr} {items1 items2:List PV} {St1 St2:Nat→Heap→Prop} {A:Around} {E:Value→Shared→Prop} {s:Shared} {h:Heap}
noncomputable def zipP (l1 l2:List PV):List PV:=(l1.zip l2).map fun q=>.tup [q.1,q.2]
theorem zipP_len (l1 l2:List PV):(zipP l1 l2).length=min l1.length l2.length:=by simp [zipP]
theorem zipP_at {l1 l2:List PV} {i:Nat} (hi:i<(zipP l1 l2).length) (h1:i<l1.length) (h2:i<l2.length):(zipP l1 l2)[i]=.tup [l1[i],l2[i]]:=by simp [zipP]
theorem asPair {es:List Expr} {fs:List Asg} {k:Nat} {pos:Pos} (ds:DenGs g ks es fs) {T:Addr} {x y:Value} {p q:PV} (hT:IsPair h T x y) (hr:∀ B',(∀ a o,B a=some o→B' a=some o)→RV B' p x∧RV B' q y) :
    AsOk g ks (.Tuple es k pos) (jR fs) B (.ref T) (.tup [p,q]) h:=by
  intro A B' P env s vs val foot cel vs' hs h hh le I
  have h:asAll fs [p,q] vs=some vs':=h
  subst hs
  obtain ⟨e1,e2⟩:=dengs_each ds env
  obtain ⟨r1,r2⟩:=hr B' le
  refine wpAny_assign_Tuple hh (items:=#[x,y]) ⟨_,hT,rfl,0,rfl⟩ (by rw [e1,asAll_len h]; rfl) e2 fun h' hx=>?_
  have k:∀ b o,s.heap.get? b=some o→h'.get? b=some o:=fun b o e=>hx b o (Nat.ne_of_lt (Heap.lt_size e)) e
  have I':Iv g B' P env ks vs h' val foot cel:=I.grow k (.refl _ _) fun b o e=>k _ _ (I.hB b o e)
  refine wpAny_mono (dengs_order ds (s:={ s with heap:=h' }) h hh I' (xs:=[x,y]) (.cons r1 (.cons r2 .nil))) (fun _ s₁ q=>?_) fun _ _ f=>f
  obtain ⟨sh1,q⟩:=q
  exact ⟨Sh.trans ⟨h',s.toks,rfl,.of_keep k⟩ sh1,q⟩
theorem zip_lp {es:List Expr} {fs:List Asg} {k:Nat} {pos:Pos} (ds:DenGs g ks es fs) (a:ZA z TI TO i1 i2 fp1 fp2) (D1:Dr g B i1 fp1 items1 St1) (D2:Dr g B i2 fp2 items2 St2) (Z:ZSt h z TI TO i1 i2 St1 St2 .none 0 0)
    (hB:∀ b o,B b=some o→h.get? b=some o) (nB:∀ b∈[z,TI,TO,i1,i2],B b=none) (f1:∀ b∈fp1,b=i1 ∨ ∃ o,B b=some o) (f2:∀ b∈fp2,b=i2 ∨ ∃ o,B b=some o) :
    Lp g B PL ks (.Tuple es k pos) (jR fs) z (zipP items1 items2) [z,TI,TO,i1,i2] h:=by
  have ne:∀ {b:Addr} {o:Obj},B b=some o→b ≠ z∧b ≠ TO∧b ≠ i1∧b ≠ i2:=fun {b o} e=>by
    refine ⟨?_,?_,?_,?_⟩ <;> (rintro rfl; rw [nB _ (by simp)] at e; exact jb e)
  refine ⟨fun n h=>ZSt h z TI TO i1 i2 St1 St2 .none n n∧∀ b o,B b=some o→h.get? b=some o,⟨Z,hB⟩,⟨?_,?_,?_,?_,?_⟩⟩
  · rintro i h ⟨⟨q1,q2,⟨u,v,q3⟩,q4,q5⟩,_⟩ b hb
    simp at hb
    rcases hb with rfl | rfl | rfl | rfl | rfl
    · exact ⟨_,q1⟩
    · exact ⟨_,q2⟩
    · exact ⟨_,q3⟩
    · exact D1.here _ _ q4
    · exact D2.here _ _ q5
  · rintro A hh i hlt s ⟨Zs,hb⟩
    have hl:=hlt
    rw [zipP_len] at hl
    have h1:i<items1.length:=Nat.lt_of_lt_of_le hl (Nat.min_le_left _ _)
    have h2:i<items2.length:=Nat.lt_of_lt_of_le hl (Nat.min_le_right _ _)
    have hT:s.TypeIs (.ref z) "zip":=⟨_,Zs.z,rfl⟩
    unfold pyNext
    refine wpAny_bind (wpAny_attempt (wpAny_callSpecial?_slot (name:=Str.ofString "__next__") hT F.slot_zip_next (wpAny_call_entry F.slot_zip_next hT F.entry_zip_next (zip_item a D1 D2 h1 h2 Zs fun h' t' x y rv Z' hp kp=>?_) (F.args_zip_next_1 _))))
    refine wpAny_pure ⟨_,rfl,?_⟩
    refine wpAny_letOwnedTupleGo_zip (s:={ s with heap:=h',toks:=t' }) Z'.z fun h₂ hz₂ (hs₂ : Heap.SameBut z h' h₂)=>?_
    have zs:s.heap.objs.size ≠ z:=Nat.ne_of_gt (Heap.lt_size Zs.z)
    obtain ⟨_,q2,⟨u,v,q3⟩,q4,q5⟩:=Z'
    refine ⟨h₂,t',rfl,fun b o hb' e=>?_,⟨⟨hz₂,hs₂.extBut _ _ a.TIz q2,⟨u,v,hs₂.extBut _ _ a.TOz q3⟩,D1.but q4 hs₂ a.z1,D2.but q5 hs₂ a.z2⟩,fun b o e=>?_⟩,?_⟩
    · simp at hb'
      obtain ⟨n1,n2,n3,n4,n5⟩:=hb'
      exact hs₂.extBut _ _ n1 (kp b o n1 n3 n4 n5 e)
    · obtain ⟨n1,n3,n4,n5⟩:=ne e
      exact hs₂.extBut _ _ n1 (kp b o n1 n3 n4 n5 (hb b o e))
    · rw [zipP_at hlt h1 h2]
      exact asPair ds (hs₂.extBut _ _ zs hp) rv
  · rintro A hh s ⟨Zs,hb⟩
    have hT:s.TypeIs (.ref z) "zip":=⟨_,Zs.z,rfl⟩
    rw [zipP_len] at Zs
    unfold pyNext
    refine wpAny_bind (wpAny_attempt (wpAny_callSpecial?_slot (name:=Str.ofString "__next__") hT F.slot_zip_next (wpAny_call_entry F.slot_zip_next hT F.entry_zip_next (zip_end (A:=A.in1) hh a D1 D2 rfl Zs fun h' t' e kp he=>?_) (F.args_zip_next_1 _))))
    obtain ⟨o,ho,hc⟩:=he
    refine wpAny_bind (wpAny_isInstance (T := "StopIteration") (b:=true) ⟨o,ho,hc⟩ isSubtype_stop ?_)
    refine wpAny_pure ⟨rfl,h',t',rfl,fun b o hb' e=>?_⟩
    simp at hb'
    obtain ⟨n1,n2,n3,n4,n5⟩:=hb'
    exact kp b o n1 n3 n4 n5 e
  · rintro i h h' ⟨⟨q1,q2,⟨u,v,q3⟩,q4,q5⟩,hb⟩ kF kB
    have kB':∀ b o,B b=some o→h'.get? b=some o:=fun b o e=>kB b o (.inl e)
    refine ⟨⟨kF _ (by simp) _ q1,kF _ (by simp) _ q2,⟨u,v,kF _ (by simp) _ q3⟩,D1.frame _ _ _ q4 fun b hb' o e=>?_,D2.frame _ _ _ q5 fun b hb' o e=>?_⟩,kB'⟩
    · rcases f1 b hb' with rfl | ⟨o',eB⟩
      · exact kF _ (by simp) o e
      · rw [hb b o' eB] at e; injection e with e; replace e:=e.symm; subst e; exact kB' b _ eB
    · rcases f2 b hb' with rfl | ⟨o',eB⟩
      · exact kF _ (by simp) o e
      · rw [hb b o' eB] at e; injection e with e; replace e:=e.symm; subst e; exact kB' b _ eB
  · rintro A hh i s Q ⟨Zs,_⟩ q
    exact wpAny_pyIter_zip Zs.z q
end
section
variable {g:G} {B B' PL:PM} {P:PX} {env:Env} {ks ks':List (Str×VK)} {vs vs':VS} {val:Nat→Value} {foot:Nat→List Addr} {cel:Nat→Addr} {r:Nat} {A:Around} {E:Value→Shared→Prop} {s:Shared} {h:Heap}
noncomputable def chars (c:List Nat):List PV:=c.map fun d=>.str [d]
noncomputable def asc7 (c:List Nat):Bool:=c.all (·<128)
theorem dr_str {it:Addr} {c:List Nat} {t:Tok}:Dr g B it [it] (chars c) (fun i h=>h.IsStrIter it "str_ascii_iterator" (mkS c) t i):=by
  refine ⟨by simp,fun i h ⟨o,ho,_⟩=>⟨o,ho⟩,fun A i hlt s Q E st hQ=>?_,fun A hh s Q E st hE=>?_,fun i h h' ⟨o,ho,q⟩ k=>⟨o,k it (by simp) o ho,q⟩⟩
  · have hlt':i<c.length:=by simpa [chars] using hlt
    refine nextOf_str_item st (c:=c[i]) (by simp [mkS,hlt']) fun h' st' hs'=>hQ _ h' _ (fun B' _=>?_) hs' st'
    have e:(chars c)[i]=.str [c[i]]:=by simp [chars]
    rw [e]
    exact .str [c[i]] _
  · refine nextOf_str_end hh st ?_ hE
    simp [mkS,chars]
end
section
variable {g:G} {B B':PM} {P:PX} {env:Env} {ks ks':List (Str×VK)} {vs vs':VS} {h h':Heap} {val val':Nat→Value} {foot foot':Nat→List Addr} {cel:Nat→Addr} {s s':Shared} {A:Around} {r:Nat}
end
noncomputable def NoSeq (g:G):Prop:=∃ K:Frag,K.In g.h₀∧noSeq K g.HC=true
section
variable {M:Model} {A:Around} {E:Value→Shared→Prop} {s:Shared} {K K':Frag} {x C f:Addr} {ox:Obj} {od:Option Obj} {i v:Value}
theorem set_own {Q:Unit→Shared→Prop} (X:K.In s.heap) (X':K'.In s.heap) (I:InstAt s.heap x ox C od) (hq:noSeq K' C=true) (hs:findIn K (.ref C) "__setitem__"=some (some (.ref f))) (hf:typeIn K (.ref f)=some (.type "function"))
    (h:wpAny M A (call (.ref f) [.ref x,i,v]) (fun _ s'=>Q () s') E s):wpAny M A (setItem (.ref x) i v) Q E s:=by
  unfold setItem sequenceKey
  refine wpAny_holding (wpAny_bind (wpAny_bind (I.type.here ?_)))
  refine wpAny_bind ((anyM_none X' hq).here ?_)
  rw [if_pos (show (!false)=true from rfl)]
  exact wpAny_pure (wpAny_bind (special_fn X I hs hf (wpAny_mono h (fun _ _ z=>wpAny_pure z) fun _ _ z=>z)))
theorem del_own {Q:Unit→Shared→Prop} (X:K.In s.heap) (X':K'.In s.heap) (I:InstAt s.heap x ox C od) (hq:noSeq K' C=true) (hs:findIn K (.ref C) "__delitem__"=some (some (.ref f))) (hf:typeIn K (.ref f)=some (.type "function"))
    (h:wpAny M A (call (.ref f) [.ref x,i]) (fun _ s'=>Q () s') E s):wpAny M A (delItem (.ref x) i) Q E s:=by
  unfold delItem sequenceKey
  refine wpAny_holding (wpAny_bind (wpAny_bind (I.type.here ?_)))
  refine wpAny_bind ((anyM_none X' hq).here ?_)
  rw [if_pos (show (!false)=true from rfl)]
  exact wpAny_pure (wpAny_bind (special_fn X I hs hf (wpAny_mono h (fun _ _ z=>wpAny_pure z) fun _ _ z=>z)))
theorem wpAny_Del1 {o i:Expr} {p pos:Pos} {env:Env} {Q:Flow→Shared→Prop}
    (h:wpAny M A (eval o env) (fun ov s₂=>wpAny M A (eval i env) (fun iv s₃=>wpAny M A (delItem ov iv) (fun _=>Q .next) E s₃) E s₂) E s):wpAny M A (exec (.Delete [.Subscript o i p] pos) env) Q E s:=by
  refine wpAny_Delete (wpAny_deleteEach_cons ?_)
  rw [arm_delete_Subscript]
  refine wpAny_bind (wpAny_mono h (fun ov s₂ h=>?_) fun _ _ x=>x)
  refine wpAny_bind (wpAny_holding (wpAny_mono h (fun iv s₃ h=>?_) fun _ _ x=>x))
  exact wpAny_bind (wpAny_standAt (wpAny_bind (wpAny_holding (wpAny_mono h (fun _ _ h=>wpAny_release' (wpAny_deleteEach_nil h)) fun _ _ x=>x))))
end
section
variable {g:G} {B B':PM} {P:PX} {env:Env} {ks ks':List (Str×VK)} {vs vs':VS} {h h':Heap} {val val':Nat→Value} {foot foot':Nat→List Addr} {cel:Nat→Addr} {s s':Shared} {A:Around} {r:Nat}
noncomputable def vt (k:Nat) (F:jw) (l:List PV) (vs:VS):Option (Fl×VS):=(jU vs (.own k::l.map .pv)).bind fun sls=>(F sls).bind fun t=>(yq (.own k::l.map .pv) t.2 vs).bind fun vs2=>(vR t.1).map fun _=>(.next,vs2)
noncomputable def vT (k:Nat) (F:jw) (f fi:Ev):Ex:=fun vs=>(f vs).bind fun p=>(pvOf p.1).bind fun q=>(yt p.2 k).bind fun _=>(fi p.2).bind fun i=>(pvOf i.1).bind fun qi=>vt k F [qi,q] i.2
noncomputable def exHdrDel (k:Nat) (F:jw) (fi:Ev):Ex:=fun vs=>(yt vs k).bind fun _=>(fi vs).bind fun i=>(pvOf i.1).bind fun qi=>vt k F [qi] i.2
theorem hdr_call {k r':Nat} {name:Str} {st:Stmt} {df kd:Value} {ps:List Str} {F:jw} {l:List PV} {us:List Value} {fl:Fl} {vs2:VS} (H:HasM g r name st df kd ps F)
    (hbind:∀ fd,MFd st fd→fd.defaults=df→fd.kwdefaults=kd→∀ (s:Shared) (a:Value) (us:List Value),us.length=l.length→BindsTo s fd ⟨a::us,[]⟩ (ps.zip (a::us)))
    (R:Room A r') (hr:r≤r') (e:vt k F l vs=some (fl,vs2)) (I:Iv g B P env ks vs s.heap val foot cel) (R1:RVs B l us) {Q:Unit→Shared→Prop} {a b:Addr} (ha:val k=.ref a) (hh:HdrAt g B a b)
    (t:∀ {K:Frag} {f:Addr} {ox:Obj} {od:Option Obj},K.In s.heap→InstAt s.heap a ox g.HC od→findIn K (.ref g.HC) name=some (some (.ref f))→typeIn K (.ref f)=some (.type "function") →
      wpAny (model g.prog g.w) A (call (.ref f) (.ref a::us)) (fun _ s'=>SPost g P env ks cel B s fl vs2 .next s') No s→wpAny (model g.prog g.w) A (m:Sem Unit) Q No s):wpAny (model g.prog g.w) A m Q No s:=by
  revert e
  refine jc fun sls h4 e=>?_
  obtain ⟨⟨sl,sls'⟩,h5,e⟩:=jd e
  revert e
  refine jc fun vs3 h6 e=>?_
  obtain ⟨w,h7,h8⟩:=Option.map_eq_some_iff.mp e
  injection h8 with ee0 ee1; subst ee0; replace ee1:=ee1.symm; subst ee1
  obtain ⟨K,fa,fo,fd,hK,hp,hf,ht,ho,hdd,MM,e1,e2,sp⟩:=H
  obtain ⟨ox,es,n,In,hL⟩:=hh.inst I.hB
  refine t (hK.keeps I.keep0) In hf ht ?_
  have RF:=repF_own (g:=g) (k:=k) (val:=val) R1 (hh:=s.heap)
  have Fr:∀ i,Fresh B P env.locals ks foot cel ((([]:List Addr)::List.replicate l.length []).getD i []):=fun i a ha=>by rw [nils_at] at ha; simp at ha
  rw [ha] at RF
  refine wpAny_mono (sp A B _ s sls ⟨.ref a::us,[]⟩ (.ref a::us) _ sl sls' h5 (R.mono hr) (call_in I RF h4 (ownNd_pvs k l) Fr) (hbind fd MM e1 e2 s (.ref a) us R1.length)) (fun y s₂ e=>?_) fun _ _ f=>f
  have e:=call_out I RF h4 Fr h6 h7 e
  revert e
  refine EPost.rev fun sh B' F' x I' R' _ _=>?_
  exact ⟨sh,B',val,foot,[],x,I',rfl⟩
theorem hdrCall_next {k:Nat} {F:jw} {l:List PV} {fl:Fl} (e:vt k F l vs=some (fl,vs')):fl=.next:=by
  revert e
  refine jc fun _ _ e=>?_
  revert e
  refine jc fun _ _ e=>?_
  revert e
  refine jc fun _ _ e=>?_
  obtain ⟨_,_,e⟩:=Option.map_eq_some_iff.mp e
  injection e with e _; exact e.symm
theorem dens_hdrSet {k r':Nat} {x:Str} {vk:VK} {p pos' pos:Pos} {i value:Expr} {f fi:Ev} {st:Stmt} {df kd:Value} {ps:List Str} {F:jw} (N:NoSeq g) (H:HasM g r "__setitem__" st df kd ps F) (hk:ks[k]?=some (x,vk)) (d:Den g r' ks value f) (d2:Den g r' ks i fi) (hr:r≤r')
    (hbind:∀ fd,MFd st fd→fd.defaults=df→fd.kwdefaults=kd→∀ (s:Shared) (a:Value) (us:List Value),us.length=2→BindsTo s fd ⟨a::us,[]⟩ (ps.zip (a::us)))
    (hs:∀ env,swapsWith value (some (.Subscript (.Name x p) i pos')) pos.line env=pure false:=by intro _; rfl) (hg:vk ≠ .glo:=by decide) (hd:(x == ("__debug__" : Str))=false:=by decide) (hc:(x == ("__classdict__" : Str))=false:=by decide) :
    DenS g r' ks (.Assign [.Subscript (.Name x p) i pos'] value pos) (vT k F f fi):=by
  intro A B P env s vs val foot cel fl vs' h R I
  revert h
  refine jc fun p0 h1 h=>?_
  revert h
  refine jc fun q h2 h=>?_
  revert h
  refine jc fun l0 h3 h=>?_
  revert h
  refine jc fun i0 h4 h=>?_
  revert h
  refine jc fun qi h5 h=>?_
  refine wpAny_Assign_Subscript (wpAny_mono (d A B P env s vs val foot cel p0.1 p0.2 h1 R I) (fun y s₁ e=>?_) fun _ _ f=>f) (hs env)
  refine EPost.frozeE e (yg h2) fun sh1 B1 x1 I1 R1=>?_
  obtain ⟨a,b,ha,hh,sl0,hs0,hn0⟩:=hdrOf_at I1 h3
  refine wpAny_Name (yV I1 hs0 hn0 hk hg hc ?_) hd
  refine wpAny_mono (d2 A B1 P env s₁ p0.2 val foot cel i0.1 i0.2 h4 R I1) (fun z s₂ e=>?_) fun _ _ f=>f
  refine EPost.frozeE e (yg h5) fun sh2 B2 x2 I2 R2=>?_
  obtain ⟨K',hK',hq⟩:=N
  rw [ha]
  refine hdr_call (l:=[qi,q]) (us:=[z,y]) H hbind R hr h I2 (.cons R2.1 (.cons (R1.1.mono x2.le) .nil)) ha (hh.mono x2.le) fun hK In hf ht c=>?_
  refine set_own hK (hK'.keeps I2.keep0) In hq hf ht (wpAny_mono c (fun _ s' e=>?_) fun _ _ f=>f)
  obtain rfl:=hdrCall_next h
  exact SPost.from (fl:=.next) sh1 x1 (SPost.from (fl:=.next) sh2 x2 e)
theorem dens_hdrDel {k r':Nat} {x:Str} {vk:VK} {p pos' pos:Pos} {i:Expr} {fi:Ev} {st:Stmt} {df kd:Value} {ps:List Str} {F:jw} (N:NoSeq g) (H:HasM g r "__delitem__" st df kd ps F) (hk:ks[k]?=some (x,vk)) (d2:Den g r' ks i fi) (hr:r≤r')
    (hbind:∀ fd,MFd st fd→fd.defaults=df→fd.kwdefaults=kd→∀ (s:Shared) (a:Value) (us:List Value),us.length=1→BindsTo s fd ⟨a::us,[]⟩ (ps.zip (a::us)))
    (hg:vk ≠ .glo:=by decide) (hd:(x == ("__debug__" : Str))=false:=by decide) (hc:(x == ("__classdict__" : Str))=false:=by decide) :
    DenS g r' ks (.Delete [.Subscript (.Name x p) i pos'] pos) (exHdrDel k F fi):=by
  intro A B P env s vs val foot cel fl vs' h R I
  revert h
  refine jc fun l0 h3 h=>?_
  revert h
  refine jc fun i0 h4 h=>?_
  revert h
  refine jc fun qi h5 h=>?_
  obtain ⟨a,b,ha,hh,sl0,hs0,hn0⟩:=hdrOf_at I h3
  refine wpAny_Del1 (wpAny_Name (yV I hs0 hn0 hk hg hc ?_) hd)
  refine wpAny_mono (d2 A B P env s vs val foot cel i0.1 i0.2 h4 R I) (fun z s₂ e=>?_) fun _ _ f=>f
  refine EPost.frozeE e (yg h5) fun sh2 B2 x2 I2 R2=>?_
  obtain ⟨K',hK',hq⟩:=N
  rw [ha]
  refine hdr_call (l:=[qi]) (us:=[z]) H hbind R hr h I2 (.cons R2.1 .nil) ha (hh.mono x2.le) fun hK In hf ht c=>?_
  refine del_own hK (hK'.keeps I2.keep0) In hq hf ht (wpAny_mono c (fun _ s' e=>?_) fun _ _ f=>f)
  obtain rfl:=hdrCall_next h
  exact SPost.from (fl:=.next) sh2 x2 e
end
section
variable {prog:Program} {w:World} {A:Around} {E:Value→Shared→Prop} {s:Shared}
theorem setSlice_all {l sl v:Addr} {ws us:List Value} {n m:Nat} {Q:Unit→Shared→Prop} (hl:s.heap.get? l=some (lobj ws n)) (hs:s.heap.IsSliceOf sl .none .none .none) (hv:s.heap.get? v=some (lobj us m)) (hne:l ≠ v) (hsz:ws.length+us.length≤100000)
    (hQ:∀ h' m',h'.get? l=some (lobj us m')→Heap.SameBut l s.heap h'→Q () { s with heap:=h' }):wpAny (model prog w) A (setItem (.ref l) (.ref sl) (.ref v)) Q E s:=by
  have hT:s.TypeIs (.ref l) "list":=⟨_,hl,rfl⟩
  have hV:s.TypeIs (.ref v) "list":=⟨_,hv,rfl⟩
  obtain ⟨os,hos,hcs,hds⟩:=id hs
  have hTs:s.TypeIs (.ref sl) "slice":=⟨os,hos,hcs⟩
  unfold setItem
  try with_reducible refine wpAny_holding ?_
  refine wpAny_bind (wpAny_sequenceKey hT (by decide) ?_)
  refine wpAny_bind (wpAny_callSpecial?_slot (name:=Str.ofString "__setitem__") hT slot_list_setitem (wpAny_call_entry slot_list_setitem hT entry_list_setitem ?_ (args_list_setitem _ _ _)))
  show wpAny _ _ (Builtin.List.listSubscript? (.ref sl) >>= _) _ _ s
  refine wpAny_bind ?_
  unfold Builtin.List.listSubscript?
  refine wpAny_bind (wpAny_specialOf hTs slice_no_index ?_)
  simp only [Option.isNone_none,if_true]
  refine wpAny_pure ?_
  show wpAny _ _ (typeOf (.ref sl) >>= _) _ _ s
  refine wpAny_bind (wpAny_typeOf hTs ?_)
  rw [if_neg (by decide)]
  rw [listSliceParts_eq]
  refine wpAny_bind (wpAny_bind (wpAny_field hos hds (x:=.none) rfl (wpAny_bind (wpAny_listPart .none ?_))))
  rw [if_neg (show ¬ ((rawPart none == rawInt 0)=true) from Bool.false_ne_true)]
  refine wpAny_bind (wpAny_field hos hds (x:=.none) rfl (wpAny_bind (wpAny_listPart .none ?_)))
  refine wpAny_bind (wpAny_field hos hds (x:=.none) rfl (wpAny_bind (wpAny_listPart .none (wpAny_pure ?_))))
  dsimp only
  rw [if_neg (show ¬ (Builtin.List.listSameRef (.ref l) (.ref v)=true) from fun e=>hne (eq_of_beq e))]
  refine wpAny_bind ?_
  unfold Builtin.List.listAllItems
  refine wpAny_bind (wpAny_typeOf hV ?_)
  rw [if_pos (by decide)]
  refine wpAny_listItems hv rfl ?_
  refine wpAny_bind (wpAny_listItems hl rfl ?_)
  refine wpAny_bind (wpAny_of_eq (sliceIndices_raw none none none ws.toArray.size (by simp)) ?_)
  rw [if_pos (show ((sliceBounds none none none ws.toArray.size).2.2 == 1)=true from rfl)]
  refine wpAny_bind (wpAny_rule ?_)
  rw [if_neg (by unfold Builtin.List.listTooLong; simp only [decide_eq_true_eq,List.size_toArray]; exact Nat.not_lt.mpr (Nat.le_trans hsz (by decide)))]
  have q2:∀ f:Array Value→Array Value,∃ m,Obj.mapSeq f (lobj ws n)={ cls:=.type "list",data:=.seq (f ws.toArray) m }:=fun f=>⟨_,rfl⟩
  have hx:(ws.toArray.extract 0 (sliceBounds none none none ws.toArray.size).1.toNat++us.toArray++ws.toArray.extract (max (sliceBounds none none none ws.toArray.size).1 (sliceBounds none none none ws.toArray.size).2.1).toNat)=us.toArray:=by
    simp [sliceBounds]
  refine wpAny_bind (wpAny_updateSeq hl rfl ?_ (Nat.le_trans (Nat.le_trans (Nat.le_add_right _ _) hsz) (by decide)) (by rw [hx]; exact Nat.le_trans (Nat.le_trans (Nat.le_add_left _ _) hsz) (by decide)))
  refine wpAny_bind (wpAny_letGo ?_)
  obtain ⟨m',q2⟩:=q2 _
  refine wpAny_pure ⟨.none,rfl,wpAny_pure (hQ _ m' ?_ (Heap.SameBut.update ..))⟩
  rw [Heap.get?_update_self _ hl rfl,q2,hx]
  rfl
end
noncomputable def exSetAll (f fo:Ev):Ex:=fun vs=>(f vs).bind fun p=>(pvOf p.1).bind fun q=>(fo p.2).bind fun o=>match q with
  | .lst m=>(jK o.2 o.1).bind fun w=>if w.2.2.length+m.length≤100000 then some (.next,yK o.2 w.1 w.2.1 m) else none
  | _=>none
section
variable {g:G} {B B':PM} {P:PX} {env:Env} {ks ks':List (Str×VK)} {vs vs':VS} {h h':Heap} {val val':Nat→Value} {foot foot':Nat→List Addr} {cel:Nat→Addr} {s s':Shared} {A:Around} {r:Nat}
theorem ownList_off (I:Iv g B P env ks vs s.heap val foot cel) {v:AVal} {a:Addr} {w:Nat×Bool×List PV} (e:jK vs v=some w) (R:RepA g B s.heap val v (.ref a) []):B a=none:=by
  cases v with
  | own j =>
    simp only [jK] at e
    split at e
    · rename_i l2 h0
      obtain ⟨b,ws,n,h1,h2,h3,h4⟩:=I.slots j _ h0
      have q:=R.1.trans h1
      injection q with q; subst q
      exact (I.own (some (j,false)) a (by rw [show yv env.locals ks foot cel (some (j,false)) a=(a∈foot j) from rfl,h2]; exact List.mem_singleton.mpr rfl)).1
    · exact jb e
  | sub j =>
    simp only [jK] at e
    split at e
    · rename_i l2 h0
      obtain ⟨c,b,ws,n,h1,h2,h3,h4,h5⟩:=I.slots j _ h0
      obtain ⟨⟨a',b',q1,q2,q3⟩,_⟩:=R
      rw [h1] at q1; injection q1 with q1; subst q1
      have:=q2.same h3; subst this
      injection q3 with q3; subst q3
      exact (I.own (some (j,false)) a (by rw [show yv env.locals ks foot cel (some (j,false)) a=(a∈foot j) from rfl,h2]; exact List.mem_singleton.mpr rfl)).1
    · exact jb e
  | _=>exact jb e
theorem dens_setAll {o value:Expr} {pos' pos sp:Pos} {f fo:Ev} (d:Den g r ks value f) (d1:Den g r ks o fo)
    (hs:∀ env,swapsWith value (some (.Subscript o (.Slice none none none sp) pos')) pos.line env=pure false:=by intro _; rfl):DenS g r ks (.Assign [.Subscript o (.Slice none none none sp) pos'] value pos) (exSetAll f fo):=by
  intro A B P env s vs val foot cel fl vs' h R I
  revert h
  refine jc fun p h1 h=>?_
  revert h
  refine jc fun q h2 h=>?_
  revert h
  refine jc fun po h3 h=>?_
  split at h
  case h_2=>exact jb h
  rename_i m
  obtain ⟨⟨k,hd,l⟩,h5,h⟩:=jd h
  split at h
  case isFalse=>exact jb h
  rename_i hb
  injection h with h; injection h with ee6 ee7; subst ee6; subst ee7
  refine wpAny_Assign_Subscript (wpAny_mono (d A B P env s vs val foot cel p.1 p.2 h1 R I) (fun x s₁ e=>?_) fun _ _ f=>f) (hs env)
  refine EPost.frozeE e (yg h2) fun sh1 B1 x1 I1 R1=>?_
  refine wpAny_mono (d1 A B1 P env s₁ p.2 val foot cel po.1 po.2 h3 R I1) (fun y s₂ e=>?_) fun _ _ f=>f
  refine EPost.frozeE e (vz h5) fun sh2 B2 x2 I2 R2=>?_
  refine wpAny_Slice ?_
  rw [evalPart_none]
  refine wpAny_pure (wpAny_pure (wpAny_pure ?_))
  have I3:=I2.push ({ cls:=.type "slice",data:=.fields #[.none,.none,.none] }:Obj)
  apply RV.lst_ (R1.1.mono x2.le)
  intro us v nv hv hus
  obtain ⟨a,ws,n,rfl,hg,hr,K⟩:=vS (s:={ s₂ with heap:=s₂.heap.push _ }) I3 h5 (R2.keep (yD (vz h5)) fun _ _ e=>e)
  have hb':l.length+m.length≤100000:=hb
  have l1:=hr.length
  have l2:=hus.length
  refine setSlice_all hg (Heap.IsSliceOf.new ..) (I3.hB _ _ hv) ?_ (by rw [l1,l2]; exact hb') fun h' m' hp hs=>?_
  · rintro rfl
    have e1:=ownList_off (s:={ s₂ with heap:=s₂.heap.push _ }) I3 h5 (R2.keep (yD (vz h5)) fun _ _ e=>e)
    rw [hv] at e1; exact someNo e1
  refine ⟨(sh1.trans sh2).trans (Sh.trans ⟨_,s₂.toks,rfl,.of_keep fun _ _ e=>Heap.get?_push_of_some _ e⟩ ⟨h',s₂.toks,rfl,fun b o e=>?_⟩),B2,val,foot,[],x1.trans x2 sh1.size,K h' m us m' hs hp hus,rfl⟩
  by_cases hbb:b=a
  · subst hbb; exact ⟨_,hp⟩
  · exact ⟨o,(hs.2 b hbb).trans e⟩
end
section
variable {prog:Program} {w:World} {A:Around} {E:Value→Shared→Prop} {s:Shared}
theorem draw_list {it t:Addr} {items:Array Value} (hne:t ≠ it):∀ (n i:Nat) (s:Shared) (Q:List Value→Shared→Prop),s.heap.IsListIter it t i→s.heap.IsList t items→i+n≤items.size →
    (∀ h',h'.IsListIter it t (i+n)→Heap.SameBut it s.heap h'→Q ((items.toList.drop i).take n) { s with heap:=h' })→wpAny (model prog w) A (draw (.ref it) n) Q E s
  | 0,i,s,Q,hit,_,_,hQ=>by
    show wpAny _ _ (pure []) Q E s
    exact wpAny_pure (by simpa using hQ s.heap hit (Heap.SameBut.refl ..))
  | n+1,i,s,Q,hit,ht,hle,hQ=>by
    have hlt:i<items.size:=Nat.lt_of_lt_of_le (Nat.lt_add_of_pos_right (Nat.succ_pos n)) hle
    show wpAny _ _ (pyNext (.ref it) >>= _) Q E s
    refine wpAny_bind (wpAny_pyNext_list_item hit ht (x:=items[i]) (by simp [hlt]) fun h₁ hit₁ hs₁=>?_)
    refine wpAny_bind (wpAny_holding (draw_list hne n (i+1) _ _ hit₁ (ht.extBut hs₁.extBut hne) (Nat.le_trans (Nat.le_of_eq (Nat.add_right_comm i 1 n)) hle) fun h₂ hit₂ hs₂=>wpAny_pure ?_))
    have hd:items.toList.drop i=items[i]::items.toList.drop (i+1):=by simp [List.drop_eq_getElem_cons,hlt]
    have:=hQ h₂ (by rw [show i+(n+1)=i+1+n from (Nat.add_right_comm i 1 n).symm]; exact hit₂) (hs₁.trans hs₂)
    rw [hd,List.take_succ_cons] at this
    exact this
theorem assign_list {env:Env} {elts:List Expr} {x1} {pos:Pos} {t:Addr} {items:Array Value} {Q:Unit→Shared→Prop} (hh:A.handled=none) (ht:s.heap.IsList t items)
    (hn:(assignEach elts env).length=items.size) (hstar:(assignEach elts env).findIdx? (·.1)=none)
    (h:∀ h',Heap.ExtBut s.heap.objs.size s.heap h'→wpAny (model prog w) A (assignInOrder ((assignEach elts env).map (·.2)) items.toList) Q E { s with heap:=h' }) :
    wpAny (model prog w) A (assign (.Tuple elts x1 pos) env (.ref t)) Q E s:=by
  have hlt:t ≠ s.heap.objs.size:=by obtain ⟨o,ho,_⟩:=ht; exact Nat.ne_of_lt (Heap.lt_size ho)
  rw [arm_assign_Tuple]
  refine wpAny_bind (wpAny_standAt ?_)
  unfold unpack
  rw [hn,hstar]
  refine wpAny_bind (wpAny_holding ?_)
  unfold unpackItems
  refine wpAny_bind ?_
  unfold notIterableAtAll
  refine wpAny_bind (wpAny_specialOf ht.typeIs slot_list_iter.lookup ?_)
  refine wpAny_pure ?_
  simp only [Bool.false_eq_true,if_false]
  refine wpAny_bind (wpAny_holding (wpAny_pyIter_list ht ?_))
  refine wpAny_bind (wpAny_holding (draw_list hlt items.size 0 _ _ ⟨_,Heap.get?_push_size _ rfl,rfl,rfl⟩ (ht.push _) (Nat.le_of_eq (Nat.zero_add _)) fun h₁ hit₁ hs₁=>?_))
  have hall:List.take items.size (List.drop 0 items.toList)=items.toList:=by
    rw [List.drop_zero]; exact List.take_of_length_le (by simp)
  rw [hall]
  rw [if_neg (by simp)]
  have ht₁ : h₁.IsList t items:=(ht.push _).extBut hs₁.extBut hlt
  refine wpAny_bind (wpAny_holding (wpAny_pyNext_list_end hh hit₁ ht₁ (by simp) fun h₂ he₂=>?_))
  simp only [Option.isSome_none,Bool.false_eq_true,if_false]
  exact wpAny_pure (h h₂ fun b o hb e=>he₂ b o hb (hs₁.extBut b o hb (Heap.get?_push_of_some _ e)))
end
noncomputable def asSeq (fs:List Asg):Asg:=fun p vs=>match p with
  | .lst l=>asAll fs l vs
  | _=>none
section
variable {g:G} {B B' PL:PM} {P:PX} {env:Env} {ks ks':List (Str×VK)} {vs vs':VS} {val:Nat→Value} {foot:Nat→List Addr} {cel:Nat→Addr} {r:Nat} {A:Around} {E:Value→Shared→Prop} {s:Shared} {h:Heap}
theorem deng_lst {es:List Expr} {fs:List Asg} {k:Nat} {pos:Pos} (ds:DenGs g ks es fs):DenG g ks (.Tuple es k pos) (asSeq fs):=by
  intro A B P env s vs val foot cel p x vs' h hh I R
  cases p with
  | lst l =>
    apply RV.lst_ R; intro _ _ _ h1 h2
    have h:asAll fs l vs=some vs':=h
    obtain ⟨e1,e2⟩:=dengs_each ds env
    refine assign_list hh (items:=_) ⟨_,I.hB _ _ h1,rfl,_,rfl⟩ (by rw [e1,asAll_len h,List.size_toArray,h2.length]) e2 fun h' hx=>?_
    have k:∀ b o,s.heap.get? b=some o→h'.get? b=some o:=fun b o e=>hx b o (Nat.ne_of_lt (Heap.lt_size e)) e
    have I':Iv g B P env ks vs h' val foot cel:=I.grow k (.refl _ _) fun b o e=>k _ _ (I.hB b o e)
    refine wpAny_mono (dengs_order ds (s:={ s with heap:=h' }) h hh I' (by simpa using h2)) (fun _ s₁ q=>?_) fun _ _ f=>f
    obtain ⟨sh1,q⟩:=q
    exact ⟨Sh.trans ⟨h',s.toks,rfl,.of_keep k⟩ sh1,q⟩
  | _=>exact jb h
theorem dr_list {it l:Addr} {ws:List Value} {n:Nat} {L:List PV} (hr:RVs B L ws) (hn:it ≠ l):Dr g B it [it,l] L (fun i h=>h.IsListIter it l i∧h.get? l=some (lobj ws n)):=by
  have ll:=hr.length
  refine ⟨by simp,fun i h ⟨⟨o,ho,_⟩,_⟩=>⟨o,ho⟩,fun A i hlt s Q E st hQ=>?_,fun A hh s Q E st hE=>?_,fun i h h' ⟨⟨o,ho,q⟩,q2⟩ k=>⟨⟨o,k it (by simp) o ho,q⟩,k l (by simp) _ q2⟩⟩
  · obtain ⟨v,h1,h2⟩:=hr.get (List.getElem?_eq_getElem hlt)
    refine wpAny_nextOf_list_item st.1 ⟨_,st.2,rfl,n,rfl⟩ (x:=v) (by simpa using h1) fun h' st' hs'=>hQ v h' s.toks (fun B' le=>h2.mono le) hs' ⟨st',hs'.extBut _ _ hn.symm st.2⟩
  · exact wpAny_nextOf_list_end hh st.1 ⟨_,st.2,rfl,n,rfl⟩ (by simp [ll]) hE
noncomputable def PV.lst? : PV→Option (List PV)
  | .lst l=>some l
  | _=>Option.none
noncomputable def AVal.lst? (a:AVal):Option (List PV):=a.pv?.bind PV.lst?
theorem lst_inv {a:AVal} {l:List PV} (h:a.lst?=some l):a=.pv (.lst l):=by
  cases a with
  | pv p =>
    cases p with
    | lst j=>injection h with h; rw [h]
    | _=>exact jb h
  | _=>exact jb h
noncomputable def zipS (a b:AVal):Option (List PV):=a.str?.bind fun c=>b.str?.bind fun d=>if asc7 c&&asc7 d then some (zipP (chars c) (chars d)) else none
noncomputable def zipV (a b:AVal):Option (List PV):=a.lst?.bind fun l=>b.lst?.bind fun m=>some (zipP l m)
noncomputable def yy (f1 f2:Ev):Em:=fun vs=>(jI [f1,f2] vs).bind fun p=>(as2 p.1).bind fun q=>((zipS q.1 q.2).or (zipV q.1 q.2)).map fun l=>(l,p.2)
inductive ZMade (g:G) (P:PX) (env:Env) (ks:List (Str×VK)) (val:Nat→Value) (foot:Nat→List Addr) (cel:Nat→Addr) (B:PM) (s:Shared) (vs':VS) (items:List PV) (x:Value) (s':Shared):Prop
  | mk (B2:PM) (N:Addr) (fp1 fp2:List Addr) (l1 l2:List PV) (St1 St2:Nat→Heap→Prop) (hx:x=.ref (N+4)) (hi:items=zipP l1 l2) (sh:Sh s s') (e:Ext B B2 s.heap) (I:Iv g B2 P env ks vs' s'.heap val foot cel)
    (D1:Dr g B2 N fp1 l1 St1) (D2:Dr g B2 (N+1) fp2 l2 St2) (a:ZA (N+4) (N+2) (N+3) N (N+1) fp1 fp2) (Z:ZSt s'.heap (N+4) (N+2) (N+3) N (N+1) St1 St2 .none 0 0)
    (nw:∀ b,N≤b→B2 b=none∧P.pr b=none∧s.heap.get? b=none∧∀ i,¬ yv env.locals ks foot cel i b) (f1:∀ b∈fp1,b=N ∨ ∃ o,B2 b=some o) (f2:∀ b∈fp2,b=N+1 ∨ ∃ o,B2 b=some o)
theorem zip_fin {s2:Shared} {B2:PM} {l1 l2:List PV} {fp1 fp2:List Addr} {St1 St2:Nat→Heap→Prop} {h':Heap} (sh:Sh s s2) (e:Ext B B2 s.heap) (I2:Iv g B2 P env ks vs' s2.heap val foot cel)
    (D1:Dr g B2 s2.heap.objs.size fp1 l1 St1) (D2:Dr g B2 (s2.heap.objs.size+1) fp2 l2 St2) (f1:∀ b∈fp1,b=s2.heap.objs.size ∨ ∃ o,B2 b=some o) (f2:∀ b∈fp2,b=s2.heap.objs.size+1 ∨ ∃ o,B2 b=some o)
    (hz:IsZip h' (s2.heap.objs.size+4) (s2.heap.objs.size+2) (s2.heap.objs.size+3) .none) (hTI:IsPair h' (s2.heap.objs.size+2) (.ref s2.heap.objs.size) (.ref (s2.heap.objs.size+1))) (hTO:IsPair h' (s2.heap.objs.size+3) .none .none)
    (q1:St1 0 h') (q2:St2 0 h') (kp:∀ c o,s2.heap.get? c=some o→h'.get? c=some o):ZMade g P env ks val foot cel B s vs' (zipP l1 l2) (.ref (s2.heap.objs.size+4)) { s2 with heap:=h' }:=by
  have bN:∀ b,s2.heap.objs.size≤b→B2 b=none∧P.pr b=none:=fun b hb=>I2.bNone hb
  have n1:∀ b,s2.heap.objs.size≤b→b ≠ s2.heap.objs.size→b ∉ fp1:=fun b hb hn q=>by
    rcases f1 b q with rfl | ⟨o,eo⟩
    · exact hn rfl
    · rw [(bN b hb).1] at eo; exact jb eo
  have n2:∀ b,s2.heap.objs.size≤b→b ≠ s2.heap.objs.size+1→b ∉ fp2:=fun b hb hn q=>by
    rcases f2 b q with rfl | ⟨o,eo⟩
    · exact hn rfl
    · rw [(bN b hb).1] at eo; exact jb eo
  refine ⟨B2,s2.heap.objs.size,fp1,fp2,l1,l2,St1,St2,rfl,rfl,sh.trans ⟨h',s2.toks,rfl,.of_keep kp⟩,e,I2.grow kp (.refl _ _) fun b o e=>kp _ _ (I2.hB b o e),D1,D2,?_,⟨hz,hTI,⟨_,_,hTO⟩,q1,q2⟩,fun b hb=>⟨(bN b hb).1,(bN b hb).2,?_,fun i o=>absurd (I2.ownLt o) (Nat.not_lt.mpr hb)⟩,f1,f2⟩
  · exact ⟨by simp,by simp,by simp,by simp,by simp,n1 _ (Nat.le_add_right _ _) (by simp),n1 _ (Nat.le_add_right _ _) (by simp),n1 _ (Nat.le_add_right _ _) (by simp),n2 _ (Nat.le_add_right _ _) (by simp),n2 _ (Nat.le_add_right _ _) (by simp),n2 _ (Nat.le_refl _) (by simp)⟩
  · cases q:s.heap.get? b with
    | none=>rfl
    | some o =>
      obtain ⟨o',e'⟩:=sh.size b o q
      exact absurd (Heap.lt_size e') (Nat.not_lt.mpr hb)
theorem zip_call {p pos:Pos} {x:Str} {e1 e2:Expr} {f1 f2:Ev} {items:List PV} (d:Den g r ks (.Name x p) (jo (.con (.type "zip")))) (dd:Dens g r ks [e1,e2] [f1,f2]) (h:yy f1 f2 vs=some (items,vs')) (R:Room A r) (I:Iv g B P env ks vs s.heap val foot cel) :
    wpAny (model g.prog g.w) A (eval (.Call (.Name x p) [e1,e2] [] pos) env) (ZMade g P env ks val foot cel B s vs' items) No s:=by
  revert h
  refine jc fun q h1 h=>?_
  refine Call_Name rfl (glob_con (k:=0) (v:=.own 0) d R I fun s1 B1 sh1 x1 I1=>callB (.inr ⟨_,rfl⟩) dd (wpAny_mono (dens_args dd (l:=q.1) (vs':=q.2) h1 R I1) (fun xs s2 t=>?_) fun _ _ f=>f))
  obtain ⟨sh2,B2,x2,I2,R2⟩:=t
  have sh:=sh1.trans sh2
  have ex:=x1.trans x2 sh1.size
  obtain ⟨t,hq,h⟩:=jd h
  obtain ⟨z,h5,hz⟩:=Option.map_eq_some_iff.mp h
  injection hz with ee0 ee1; subst ee0; subst ee1
  rw [as2_inv hq] at R2
  apply RepAs.cons_ R2; intro _ _ r1 n1 R2
  apply RepAs.cons_ R2; intro _ _ r2 n2 R2
  apply RepAs.nil_ R2
  clear h
  refine (or_inv h5).elim (fun h=>?_) fun h=>?_
  · obtain ⟨c,q1,h⟩:=jd h
    obtain ⟨d',q2,h⟩:=jd h
    rw [v8 q1] at r1; rw [v8 q2] at r2
    split at h
    case isFalse=>exact jb h
    rename_i ha
    rw [Bool.and_eq_true] at ha
    obtain ⟨ha,hb⟩:=ha
    injection h with ee0; subst ee0
    (apply RV.str_ r1.1; intro _)
    (apply RV.str_ r2.1; intro _)
    exact call_zip_str (x:=mkS c) (y:=mkS d') (by simpa [mkS,asc7] using ha) (by simpa [mkS,asc7] using hb) fun h' hz hTI hTO hi1 hi2 kp =>
      zip_fin sh ex I2 dr_str dr_str (fun b hb=>.inl (List.mem_singleton.mp hb)) (fun b hb=>.inl (List.mem_singleton.mp hb)) hz hTI hTO hi1 hi2 kp
  · obtain ⟨l,q1,h⟩:=jd h
    obtain ⟨m,q2,h⟩:=jd h
    rw [lst_inv q1] at r1; rw [lst_inv q2] at r2
    injection h with ee0; subst ee0
    apply RV.lst_ r1.1; intro ws1 a1 m1 hb1 hr1
    apply RV.lst_ r2.1; intro ws2 a2 m2 hb2 hr2
    have l1:=Heap.lt_size (I2.hB _ _ hb1)
    have l2:=Heap.lt_size (I2.hB _ _ hb2)
    exact call_zip_2 ⟨_,I2.hB _ _ hb1,rfl,_,rfl⟩ ⟨_,I2.hB _ _ hb2,rfl,_,rfl⟩ fun h' hz hTI hTO hi1 hi2 _ kp =>
      zip_fin sh ex I2 (dr_list hr1 (Nat.ne_of_gt l1)) (dr_list hr2 (Nat.ne_of_gt (Nat.lt_succ_of_lt l2))) (fun b hb=>by
        rcases List.mem_cons.mp hb with q | q
        · exact .inl q
        · exact .inr ⟨_,List.mem_singleton.mp q ▸ hb1⟩) (fun b hb=>by
        rcases List.mem_cons.mp hb with q | q
        · exact .inl q
        · exact .inr ⟨_,List.mem_singleton.mp q ▸ hb2⟩) hz hTI hTO ⟨hi1,kp _ _ (I2.hB _ _ hb1)⟩ ⟨hi2,kp _ _ (I2.hB _ _ hb2)⟩ kp
theorem deni_zip2 {all:Bool} {es:List Expr} {fs:List Asg} {k:Nat} {tpos p pos:Pos} {x:Str} {e1 e2:Expr} {f1 f2:Ev} (d:Den g r ks (.Name x p) (jo (.con (.type "zip")))) (dd:Dens g r ks [e1,e2] [f1,f2]) (ds:DenGs g ks' es fs) :
    DenI all g r ks ks' (.Tuple es k tpos) (jR fs) (.Call (.Name x p) [e1,e2] [] pos) (yy f1 f2):=by
  intro A B P env s vs val foot cel items vs' h R I
  refine wpAny_mono (zip_call d dd h R I) (fun y s' z=>?_) fun _ _ f=>f
  obtain ⟨B2,N,fp1,fp2,l1,l2,St1,St2,rfl,rfl,sh,e,I2,D1,D2,a,Z,nw,q1,q2⟩:=z
  refine wpAny_pyIter_zip Z.1 ?_
  have big:∀ b∈[N+4,N+2,N+3,N,N+1],N≤b:=fun b hb=>by
    simp only [List.mem_cons,List.not_mem_nil,or_false] at hb
    rcases hb with rfl | rfl | rfl | rfl | rfl
    · exact Nat.le_add_right _ _
    · exact Nat.le_add_right _ _
    · exact Nat.le_add_right _ _
    · exact Nat.le_refl _
    · exact Nat.le_add_right _ _
  exact ⟨N+4,[N+4,N+2,N+3,N,N+1],B2,rfl,sh,e,I2,zip_lp ds a D1 D2 Z I2.hB (fun b hb=>(nw b (big b hb)).1) q1 q2,fun b hb=>⟨(nw b (big b hb)).1,(nw b (big b hb)).2.1,(nw b (big b hb)).2.2.2⟩,fun b hb=>(nw b (big b hb)).2.2.1⟩
end
structure LW (prog:Program) (w:World) (I S:Addr) (n:Nat) (St Fn:List Value→Shared→Prop):Prop where
  item:∀ (A:Around),A.handled=none→∀ (E:Value→Shared→Prop) (acc:List Value) (s:Shared),acc.length<n→St acc s→wpAny (model prog w) A (pyNext (.ref I)) (fun r s'=>∃ v c,r=some v∧s'.heap.get? S=some (lobj acc c) ∧
    ∀ h' c',h'.get? S=some (lobj (acc++[v]) c')→Heap.SameBut S s'.heap h'→St (acc++[v]) { s' with heap:=h' }) E s
  done:∀ (A:Around),A.handled=none→∀ (E:Value→Shared→Prop) (acc:List Value) (s:Shared),acc.length=n→St acc s→wpAny (model prog w) A (pyNext (.ref I)) (fun r s'=>r=none∧Fn acc s') E s
section
variable {prog:Program} {w:World} {A:Around} {E:Value→Shared→Prop} {s:Shared} {R:Result→Shared→Prop} {I S:Addr} {n:Nat} {St Fn:List Value→Shared→Prop}
theorem upd_list {ws:List Value} {c:Nat} {h:Heap} (f:Array Value→Array Value) (hS:h.get? S=some (lobj ws c)):∃ m,(h.update S (Obj.mapSeq f)).get? S=some (lobj (f ws.toArray).toList m):=by
  have q2:∃ m,Obj.mapSeq f (lobj ws c)={ cls:=.type "list",data:=.seq (f ws.toArray) m }:=⟨_,rfl⟩
  obtain ⟨m,q2⟩:=q2
  refine ⟨m,?_⟩
  rw [Heap.get?_update_self _ hS rfl,q2]
  simp [lobj]
theorem LW.loop (W:LW prog w I S n St Fn) (hh:A.handled=none) (hn:n≤100000) (res:Value) (hR:∀ acc s',acc.length=n→Fn acc s'→R (.ok (.ret res)) s'):∀ (k:Nat) (acc:List Value) (s:Shared),acc.length+k=n→St acc s→codeAny (model prog w) A (.builtin "list.extend.loop" ⟨[.ref S,.ref I,res],[]⟩) R s
  | 0,acc,s,hk,st=>by
    refine codeAny_builtin F.entry_extend_loop ?_
    rw [Around.under_plainId F.plain_extend_loop _]
    show wpAny _ A.in1 (pyNext (.ref I) >>= _) _ _ s
    refine wpAny_bind (wpAny_mono (W.done A.in1 hh _ acc s hk st) (fun r s' q=>?_) fun _ _ f=>f)
    obtain ⟨rfl,q⟩:=q
    exact wpAny_pure (hR acc s' hk q)
  | k+1,acc,s,hk,st=>by
    refine codeAny_builtin F.entry_extend_loop ?_
    rw [Around.under_plainId F.plain_extend_loop _]
    show wpAny _ A.in1 (pyNext (.ref I) >>= _) _ _ s
    refine wpAny_bind (wpAny_mono (W.item A.in1 hh _ acc s (hk ▸ Nat.lt_add_of_pos_right (Nat.succ_pos k)) st) (fun r s' q=>?_) fun _ _ f=>f)
    obtain ⟨v,c,rfl,hS,q⟩:=q
    show wpAny _ A.in1 (updateSeq S (·.push v) >>= _) _ _ _
    refine wpAny_bind ?_
    obtain ⟨m,hm⟩:=upd_list (·.push v) hS
    refine wpAny_updateSeq hS rfl (wpAny_pure ⟨plainId_quiet F.plain_extend_loop _,W.loop hh hn res hR k (acc++[v]) _ (by rw [List.length_append]; exact (Nat.add_right_comm _ 1 k).trans hk) (q _ m (by rw [hm]; simp) (Heap.SameBut.update ..))⟩) (Nat.le_trans (Nat.le_trans (Nat.le_add_right _ _) (Nat.le_of_eq hk)) (Nat.le_trans hn (by decide))) (by rw [Array.size_push]; exact Nat.succ_le_succ (Nat.le_trans (Nat.le_trans (Nat.le_add_right _ _) (Nat.le_of_eq hk)) (Nat.le_trans hn (by decide))))
theorem extend_lw {src:Value} {T:String} (W:LW prog w I S n St Fn) (hh:A.handled=none) (hn:n≤100000) (hT:s.TypeIs src T) (h1:Builtin.List.listSameRef (.ref S) src=false) (h2:(Value.type T == Value.type "list")=false) (h3:(Value.type T == Value.type "tuple")=false)
    {c:Nat} (hS:s.heap.get? S=some (lobj [] c))
    (it:∀ {Q:Value→Shared→Prop},(∀ h1 c,h1.get? S=some (lobj [] c)→(∀ h' c',h'.get? S=some (lobj [] c')→Heap.SameBut S h1 h'→St [] { s with heap:=h' }) →
      (∀ {Q:Bool→Shared→Prop},(∀ b,Q b { s with heap:=h1 })→wpAny (model prog w) A.in1 (Builtin.List.listLengthHint src) Q (fun e s'=>R (.error e) s') { s with heap:=h1 })→Q (.ref I) { s with heap:=h1 })→wpAny (model prog w) A.in1 (pyIter src) Q (fun e s'=>R (.error e) s') s)
    (res:Value) (hR:∀ acc s',acc.length=n→Fn acc s'→R (.ok (.ret res)) s') :
    wpAny (model prog w) A.in1 (Builtin.List.listExtendWith (.ref S) src res)
      (fun fin s'=>match fin with | .done f=>R (.ok f) s' | .again c'=>c'.quiet=true∧codeAny (model prog w) A c' R s') (fun e s'=>R (.error e) s') s:=by
  unfold Builtin.List.listExtendWith
  refine wpAny_bind (wpAny_typeOf hT ?_)
  simp only [h1,h2,h3,Bool.or_false,Bool.false_eq_true,if_false]
  refine wpAny_bind (it fun hp c' hS' st hint=>?_)
  refine wpAny_bind (wpAny_holding (hint fun b=>?_))
  refine wpAny_ite_split (fun _=>?_) (fun _=>wpAny_pure ⟨plainId_quiet F.plain_extend_loop _,W.loop hh hn res hR n [] _ (by simp) (st hp c' hS' (Heap.SameBut.refl ..))⟩)
  refine wpAny_bind (wpAny_rule ?_)
  refine wpAny_bind ?_
  show wpAny _ A.in1 (updateSeq S (·.push .none) >>= fun _=>updateSeq S (·.pop)) _ _ _
  refine wpAny_bind (wpAny_updateSeq hS' rfl ?_)
  obtain ⟨m,hm⟩:=upd_list (·.push Value.none) hS'
  refine wpAny_updateSeq (hz:=by seq_fits) hm rfl ?_
  obtain ⟨m',hm'⟩:=upd_list (·.pop) hm
  exact wpAny_pure ⟨plainId_quiet F.plain_extend_loop _,W.loop hh hn res hR n [] _ (by simp) (st _ m' (by rw [hm']; simp) ((Heap.SameBut.update ..).trans (Heap.SameBut.update ..)))⟩
theorem call_list_lw {src:Value} {T:String} {Q:Value→Shared→Prop} (W:LW prog w I s.heap.objs.size n St Fn) (hh:A.handled=none) (hn:n≤100000) (hT:∀ h',(∀ b o,s.heap.get? b=some o→h'.get? b=some o)→Shared.TypeIs { s with heap:=h' } src T)
    (h1:Builtin.List.listSameRef (.ref s.heap.objs.size) src=false) (h2:(Value.type T == Value.type "list")=false) (h3:(Value.type T == Value.type "tuple")=false)
    (it:∀ (A:Around) (E':Value→Shared→Prop) (h0:Heap),A.handled=none→(∀ b o,s.heap.get? b=some o→h0.get? b=some o)→(∃ c,h0.get? s.heap.objs.size=some (lobj [] c))→h0.objs.size=s.heap.objs.size+1→∀ {Q:Value→Shared→Prop},(∀ h1 c,h1.get? s.heap.objs.size=some (lobj [] c) →
      (∀ h' c',h'.get? s.heap.objs.size=some (lobj [] c')→Heap.SameBut s.heap.objs.size h1 h'→St [] { s with heap:=h' }) →
      (∀ {Q:Bool→Shared→Prop},(∀ b,Q b { s with heap:=h1 })→wpAny (model prog w) A (Builtin.List.listLengthHint src) Q E' { s with heap:=h1 })→Q (.ref I) { s with heap:=h1 })→wpAny (model prog w) A (pyIter src) Q E' { s with heap:=h0 })
    (hQ:∀ acc s',acc.length=n→Fn acc s'→Q (.ref s.heap.objs.size) s'):wpAny (model prog w) A (call (.type "list") [src]) Q E s:=by
  refine callType_codes (Q₁:=fun obj s₁=>obj=.ref s.heap.objs.size∧s₁={ s with heap:=s.heap.push { cls:=.type "list",data:=.seq #[] } }) F.called_list (F.typeCall_list_1 _) F.entry_list_init
    (code_list_new _ ⟨rfl,rfl⟩) fun obj s₁ h₁=>?_
  obtain ⟨rfl,rfl⟩:=h₁
  have hS:(s.heap.push { cls:=.type "list",data:=.seq #[] }).get? s.heap.objs.size=some (lobj [] 0):=Heap.get?_push_size _ rfl
  refine ⟨⟨_,hS,rfl⟩,F.args_list_init_2 _ _,?_⟩
  show wpAny _ A.in1.in1 (do let old ← Builtin.List.listItems (.ref s.heap.objs.size); Builtin.List.listUpdate (.ref s.heap.objs.size) (fun _=>#[]); letGo old.toList.reverse; Builtin.List.listExtendWith (.ref s.heap.objs.size) src .none) _ _ _
  refine wpAny_bind (wpAny_listItems hS rfl ?_)
  show wpAny _ A.in1.in1 (updateSeq s.heap.objs.size (fun _=>#[]) >>= fun _=>letGo (#[]:Array Value).toList.reverse >>= fun _=>Builtin.List.listExtendWith (.ref s.heap.objs.size) src .none) _ _ _
  refine wpAny_bind (wpAny_updateSeq hS rfl ?_)
  obtain ⟨m,hm⟩:=upd_list (fun _=>(#[]:Array Value)) hS
  have hm:_=some (lobj [] m):=hm
  have kp:∀ b o,s.heap.get? b=some o→((s.heap.push { cls:=.type "list",data:=.seq #[] }).update s.heap.objs.size (Obj.mapSeq fun _=>(#[]:Array Value))).get? b=some o :=
    fun b o e=>(Heap.get?_update_other _ _ (Ne.symm (Nat.ne_of_lt (Heap.lt_size e)))).trans (Heap.get?_push_of_some _ e)
  refine wpAny_bind (wpAny_letGo ?_)
  refine extend_lw (A:=A.in1) W hh hn (hT _ kp) h1 h2 h3 hm (fun {Q} q=>it A.in1.in1 _ _ hh kp ⟨m,hm⟩ ?_ fun h1 c a1 a2 a3=>q h1 c a1 a2 a3) .none fun acc s' e f=>⟨rfl,hQ acc s' e f⟩
  rw [(Heap.SameBut.update ..).1,Heap.size_push]
end
section
variable {prog:Program} {w:World} {A:Around} {E:Value→Shared→Prop} {s:Shared}
theorem hint_str {x:Str} {t:Tok} {Q:Bool→Shared→Prop} (h:∀ b,Q b s):wpAny (model prog w) A (Builtin.List.listLengthHint (.str x t)) Q E s:=by
  unfold Builtin.List.listLengthHint
  refine wpAny_bind (wpAny_specialOf (typeIs_str _ _ _) F.slot_str_len.lookup ?_)
  generalize hid:("str.__len__" : String)=id0
  wp_delta
  rw [show splitId id0=some ("str","__len__") from by subst hid; decide +kernel]
  subst hid
  refine wpAny_bind (wpAny_isInstance (T := "str") (b:=true) (typeIs_str _ _ _) (by rw [isSubtype_type]; kernel_rfl) ?_)
  refine wpAny_ite_split (fun hab=>absurd hab (by decide)) (fun _=>?_)
  refine wpAny_ite_split (fun _=>?_) (fun hab=>absurd (by decide +kernel) hab)
  refine wpAny_bind (wpAny_typeOf (typeIs_str _ _ _) ?_)
  exact wpAny_pure (h _)
end
noncomputable def vx:MSem:=fun as vs=>match as with
  | [.pv (.str c)]=>if asc7 c&&Nat.ble c.length 100000 then some (.obj (.list (chars c)),vs) else none
  | as=>semList as vs
theorem fn_list2:FnM (.type "list") vx:=by
  intro g A B P env ks s vs val foot cel as v vs' xs e hh hu I R
  unfold vx at e
  split at e
  case h_2=>exact fn_list g A B P env ks s vs val foot cel as v vs' xs e hh hu I R
  rename_i c
  split at e
  case isFalse=>exact jb e
  rename_i ha
  rw [Bool.and_eq_true,Nat.ble_eq] at ha
  obtain ⟨ha,hb⟩:=ha
  injection e with e; injection e with ee4 ee5; subst ee4; subst ee5
  apply RepAs.cons_ R; intro _ _ r n rs
  apply RepAs.nil_ rs
  (apply RV.str_ r.1; intro _)
  rename_i t
  have hx:(mkS c).cps.all (·<128)=true:=by simpa [mkS,asc7] using ha
  have W:LW g.prog g.w (s.heap.objs.size+1) s.heap.objs.size c.length
      (fun acc s'=>(∃ h' tk,s'={ s with heap:=h',toks:=tk }∧(∀ b o,s.heap.get? b=some o→h'.get? b=some o)∧h'.IsStrIter (s.heap.objs.size+1) "str_ascii_iterator" (mkS c) t acc.length∧∃ m,h'.get? s.heap.objs.size=some (lobj acc m))∧RVs B ((chars c).take acc.length) acc)
      (fun acc s'=>(∃ h' tk,s'={ s with heap:=h',toks:=tk }∧(∀ b o,s.heap.get? b=some o→h'.get? b=some o)∧∃ m,h'.get? s.heap.objs.size=some (lobj acc m))∧RVs B ((chars c).take acc.length) acc):=by
    have off:∀ {b:Addr} {o:Obj},s.heap.get? b=some o→b ≠ s.heap.objs.size+1:=fun e=>Nat.ne_of_lt (Nat.lt_succ_of_lt (Heap.lt_size e))
    have off2:∀ {b:Addr} {o:Obj},s.heap.get? b=some o→b ≠ s.heap.objs.size:=fun e=>Nat.ne_of_lt (Heap.lt_size e)
    have ne:s.heap.objs.size ≠ s.heap.objs.size+1:=by simp
    constructor
    · rintro A hh E acc s' hl ⟨⟨h',tk,rfl,kp,it,m,hm⟩,rv⟩
      refine wpAny_pyNext_ascii_item it (c:=c[acc.length]) (by simp [mkS,hl]) fun h2 it2 hs=>⟨_,m,rfl,hs.extBut _ _ ne hm,fun h3 c3 hg hs3=>⟨⟨h3,tk+1,rfl,fun b o e=>hs3.extBut _ _ (off2 e) (hs.extBut _ _ (off e) (kp b o e)),?_,c3,hg⟩,?_⟩⟩
      · obtain ⟨o,ho,q⟩:=it2
        rw [List.length_append]
        exact ⟨o,hs3.extBut _ _ ne.symm ho,q⟩
      · rw [List.length_append,show (chars c).take (acc.length+[Value.str ⟨#[c[acc.length]]⟩ tk].length)=(chars c).take acc.length++[.str [c[acc.length]]] by
          rw [show acc.length+[Value.str ⟨#[c[acc.length]]⟩ tk].length=acc.length+1 from rfl,List.take_succ,List.getElem?_eq_getElem (by simpa [chars] using hl)]; simp [chars]]
        exact rv.append (.cons (.str [c[acc.length]] _) .nil)
    · rintro A hh E acc s' hl ⟨⟨h',tk,rfl,kp,it,m,hm⟩,rv⟩
      exact wpAny_pyNext_ascii_end hh it (by simp [mkS,hl]) fun h2 hs=>⟨rfl,⟨h2,tk,rfl,fun b o e=>hs _ _ (off e) (kp b o e),m,hs _ _ ne hm⟩,rv⟩
  refine call_list_lw (T := "str") W hh hb (fun h' _=>typeIs_str _ _ _) rfl (by decide) (by decide) (fun A E' h0 hh kp h1 hz {Q} q=>?_) fun acc s' hl f=>?_
  · obtain ⟨m,hm⟩:=h1
    refine wpAny_pyIter_ascii hx ?_
    show Q (.ref h0.objs.size) _
    rw [hz]
    refine q _ m (Heap.get?_push_of_some _ hm) (fun h' c' hg hs=>⟨⟨h',s.toks,rfl,fun b o e=>hs.extBut _ _ (Nat.ne_of_lt (Heap.lt_size e)) (Heap.get?_push_of_some _ (kp b o e)),?_,c',hg⟩,.nil⟩) fun h=>hint_str h
    exact ⟨_,hs.extBut _ _ (by simp) (by rw [← hz]; exact Heap.get?_push_size _ rfl),rfl,rfl⟩
  · obtain ⟨⟨h',tk,rfl,kp,m,hm⟩,rv⟩:=f
    rw [hl,show (chars c).take c.length=chars c from List.take_of_length_le (by simp [chars])] at rv
    refine ⟨⟨h',tk,rfl,.of_keep kp⟩,B,[s.heap.objs.size],.refl _ _,I.grow kp (.refl _ _) fun b o e=>kp _ _ (I.hB b o e),⟨_,acc,m,rfl,rfl,hm,rv⟩,fun a ha=>?_,fun a ha=>?_⟩
    · simp at ha; subst ha
      have q:=I.bNone (Nat.le_refl s.heap.objs.size)
      exact ⟨q.1,q.2,fun i o=>Nat.lt_irrefl _ (I.ownLt o)⟩
    · simp at ha; subst ha; exact size_none
noncomputable def zipO (TI TO:Addr) (f0:Value) (b:Bool):Obj:={ cls:=.type "zip",dict:=none,data:=.fields #[f0,.bool b,.bool false,.ref TI,.ref TO],slots:=#[] }
theorem wpAny_ifAlive {M:Model} {A:Around} {E:Value→Shared→Prop} {s:Shared} {a:Addr} {Q:Option Obj→Shared→Prop} (h:Q (s.heap.get? a) s):wpAny M A (loadIfAlive a) Q E s:=fun Γ p _=>h
section
variable {g:G} {B:PM} {z TI TO i1 i2:Addr} {fp1 fp2:List Addr} {items1 items2:List PV} {St1 St2:Nat→Heap→Prop} {A:Around} {E:Value→Shared→Prop} {s:Shared}
theorem zip_busy {T:Addr} {b:Bool} {oT:Obj} (hT:s.heap.get? T=some oT) (hz:s.heap.get? z=some (zipO TI TO (rawInt T) b)) {Q:Bool→Shared→Prop}
    (hQ:∀ h',h'.get? z=some (zipO TI TO (rawInt T) true)→Heap.SameBut z s.heap h'→Q false { s with heap:=h' }):wpAny (model g.prog g.w) A (Builtin.SmallTypes.ownedTupleIsFree (.ref z)) Q E s:=by
  unfold Builtin.SmallTypes.ownedTupleIsFree
  refine wpAny_bind (wpAny_field hz rfl (x:=rawInt T) rfl ?_)
  show wpAny _ _ (loadIfAlive T >>= _) _ _ _
  refine wpAny_bind (wpAny_ifAlive ?_)
  rw [hT]
  dsimp only [Option.isNone]
  rw [if_neg Bool.false_ne_true]
  refine wpAny_bind (wpAny_field hz rfl (x:=.bool b) rfl ?_)
  cases b with
  | true =>
    rw [if_neg (by decide)]
    exact wpAny_pure (hQ _ hz (Heap.SameBut.refl ..))
  | false =>
    rw [if_pos (by decide)]
    exact wpAny_bind (wpAny_setField_rec hz (by simp) fun h₁ hz₁ hs₁=>wpAny_pure (hQ h₁ hz₁ hs₁))
theorem zip_item2 (a:ZA z TI TO i1 i2 fp1 fp2) (D1:Dr g B i1 fp1 items1 St1) (D2:Dr g B i2 fp2 items2 St2) {k:Nat} (h1:k<items1.length) (h2:k<items2.length) {T:Addr} {b:Bool} {oT:Obj} (hT:s.heap.get? T=some oT) (hz:s.heap.get? z=some (zipO TI TO (rawInt T) b))
    (hTI:IsPair s.heap TI (.ref i1) (.ref i2)) (t1:St1 k s.heap) (t2:St2 k s.heap) {Q:Value→Shared→Prop}
    (hQ:∀ h' t' x y,(∀ B',(∀ a o,B a=some o→B' a=some o)→RV B' items1[k] x∧RV B' items2[k] y)→h'.get? z=some (zipO TI TO (rawInt T) true)→St1 (k+1) h'→St2 (k+1) h'→IsPair h' s.heap.objs.size x y →
      (∀ c o,c ≠ z→c ≠ i1→c ≠ i2→s.heap.get? c=some o→h'.get? c=some o)→Q (.ref s.heap.objs.size) { s with heap:=h',toks:=t' }) :
    wpAny (model g.prog g.w) A (Builtin.«zip.__next__» ⟨[.ref z],[]⟩) (fun fin s'=>∃ v,fin=.done (.ret v)∧Q v s') E s:=by
  have z1:i1 ≠ z:=fun q=>a.z1 (q ▸ D1.mem)
  have z2:i2 ≠ z:=fun q=>a.z2 (q ▸ D2.mem)
  show wpAny _ _ (field (.ref z) 2 >>= _) _ _ _
  refine wpAny_bind (wpAny_field hz rfl (x:=.bool false) rfl ?_)
  show wpAny _ _ (field (.ref z) 3 >>= _) _ _ _
  refine wpAny_bind (wpAny_field hz rfl (x:=.ref TI) rfl ?_)
  refine wpAny_bind (wpAny_seqItems hTI rfl ?_)
  show wpAny _ _ (Builtin.SmallTypes.ownedTupleIsFree (.ref z) >>= _) _ _ _
  refine wpAny_bind (zip_busy hT hz fun h₁ hz₁ hs₁=>?_)
  rw [if_neg Bool.false_ne_true]
  refine wpAny_bind ?_
  rw [← Array.forIn_toList]
  simp only [List.forIn_cons,List.forIn_nil]
  refine wpAny_bind (wpAny_bind (wpAny_holding ?_))
  show wpAny _ _ (Builtin.SmallTypes.nextOf (.ref i1) >>= _) _ _ _
  refine wpAny_bind (D1.item _ k h1 _ _ _ (D1.but t1 hs₁ a.z1) fun x h₂ tk₂ rx (hs₂ : Heap.SameBut i1 h₁ h₂) t1₂=>wpAny_pure ?_)
  refine wpAny_pure ?_
  refine wpAny_bind (wpAny_bind (wpAny_holding ?_))
  show wpAny _ _ (Builtin.SmallTypes.nextOf (.ref i2) >>= _) _ _ _
  refine wpAny_bind (D2.item _ k h2 _ _ _ (D2.but (D2.but t2 hs₁ a.z2) hs₂ a.j2) fun y h₄ tk₄ ry (hs₄ : Heap.SameBut i2 h₂ h₄) t2₄=>wpAny_pure ?_)
  refine wpAny_pure (wpAny_pure ?_)
  refine wpAny_bind (wpAny_newTuple (hsz:=by show 2≤sizeLine; decide) ?_)
  have hsz:h₄.objs.size=s.heap.objs.size:=by rw [hs₄.1,hs₂.1,hs₁.1]
  have kp:∀ p c o,c ≠ z→c ≠ i1→c ≠ i2→s.heap.get? c=some o→(h₄.push p).get? c=some o:=fun p c o c1 c2 c3 e=>Heap.get?_push_of_some _ (hs₄.extBut _ _ c3 (hs₂.extBut _ _ c2 (hs₁.extBut _ _ c1 e)))
  refine wpAny_pure ⟨_,rfl,?_⟩
  rw [hsz]
  exact hQ _ _ x y (fun B' le=>⟨rx B' le,ry B' le⟩) (Heap.get?_push_of_some _ (hs₄.extBut _ _ z2.symm (hs₂.extBut _ _ z1.symm hz₁))) (D1.frame _ _ _ (D1.but t1₂ hs₄ a.j1) fun b hb o e=>Heap.get?_push_of_some _ e)
    (D2.frame _ _ _ t2₄ fun b hb o e=>Heap.get?_push_of_some _ e) (by rw [← hsz]; exact Heap.get?_push_size _ rfl) (kp _)
theorem zip_end2 (hh:A.handled=none) (a:ZA z TI TO i1 i2 fp1 fp2) (D1:Dr g B i1 fp1 items1 St1) (D2:Dr g B i2 fp2 items2 St2) {k:Nat} (hk:k=min items1.length items2.length) {T:Addr} {b:Bool} {oT:Obj} (hT:s.heap.get? T=some oT) (hz:s.heap.get? z=some (zipO TI TO (rawInt T) b))
    (hTI:IsPair s.heap TI (.ref i1) (.ref i2)) (t1:St1 k s.heap) (t2:St2 k s.heap) {Q:PySem.Fin→Shared→Prop}
    (hE:∀ h' t' e,(∀ c o,c ≠ z→c ≠ i1→c ≠ i2→s.heap.get? c=some o→h'.get? c=some o)→(∃ o,h'.get? e=some o∧o.cls=.type "StopIteration")→E (.ref e) { s with heap:=h',toks:=t' }) :
    wpAny (model g.prog g.w) A (Builtin.«zip.__next__» ⟨[.ref z],[]⟩) Q E s:=by
  show wpAny _ _ (field (.ref z) 2 >>= _) _ _ _
  refine wpAny_bind (wpAny_field hz rfl (x:=.bool false) rfl ?_)
  show wpAny _ _ (field (.ref z) 3 >>= _) _ _ _
  refine wpAny_bind (wpAny_field hz rfl (x:=.ref TI) rfl ?_)
  refine wpAny_bind (wpAny_seqItems hTI rfl ?_)
  show wpAny _ _ (Builtin.SmallTypes.ownedTupleIsFree (.ref z) >>= _) _ _ _
  refine wpAny_bind (zip_busy hT hz fun h₁ hz₁ hs₁=>?_)
  rw [if_neg Bool.false_ne_true]
  refine wpAny_bind ?_
  rw [← Array.forIn_toList]
  simp only [List.forIn_cons,List.forIn_nil]
  refine wpAny_bind (wpAny_bind (wpAny_holding ?_))
  show wpAny _ _ (Builtin.SmallTypes.nextOf (.ref i1) >>= _) _ _ _
  by_cases hlt:k<items1.length
  · have h2:k=items2.length:=min_r hk hlt
    refine wpAny_bind (D1.item _ k hlt _ _ _ (D1.but t1 hs₁ a.z1) fun x h₂ tk₂ rx (hs₂ : Heap.SameBut i1 h₁ h₂) t1₂=>wpAny_pure ?_)
    refine wpAny_pure ?_
    refine wpAny_bind (wpAny_bind (wpAny_holding ?_))
    show wpAny _ _ (Builtin.SmallTypes.nextOf (.ref i2) >>= _) _ _ _
    exact wpAny_bind (D2.done A hh { s with heap:=h₂,toks:=tk₂ } _ _ (h2 ▸ D2.but (D2.but t2 hs₁ a.z2) hs₂ a.j2) fun h₄ e (hs₄ : Heap.ExtBut i2 h₂ h₄) he=>hE h₄ tk₂ e (fun c o c1 c2 c3 q=>hs₄ c o c3 (hs₂.extBut _ _ c2 (hs₁.extBut _ _ c1 q))) he)
  · have h1:k=items1.length:=min_l hk hlt
    exact wpAny_bind (D1.done A hh { s with heap:=h₁ } _ _ (h1 ▸ D1.but t1 hs₁ a.z1) fun h₂ e (hs₂ : Heap.ExtBut i1 h₁ h₂) he=>hE h₂ s.toks e (fun c o c1 c2 c3 q=>hs₂ c o c2 (hs₁.extBut _ _ c1 q)) he)
end
inductive ZS (h:Heap) (z TI TO i1 i2:Addr) (St1 St2:Nat→Heap→Prop) (B':PM) (k:Nat):Prop
  | mk (hz:(k=0∧h.get? z=some (zipO TI TO .none false)) ∨ ∃ T b oT,B' T=some oT∧h.get? z=some (zipO TI TO (rawInt T) b)) (ti:IsPair h TI (.ref i1) (.ref i2)) (to':∃ a b,IsPair h TO a b) (s1:St1 k h) (s2:St2 k h)
inductive LZ (B:PM) (s:Shared) (z TI TO i1 i2 S:Addr) (items:List PV) (St1 St2:Nat→Heap→Prop) (acc:List Value) (s':Shared):Prop
  | mk (h':Heap) (tk:Tok) (B':PM) (c:Nat) (hs:s'={ s with heap:=h',toks:=tk }) (kp:∀ b o,b ≠ z→b ≠ TO→b ≠ i1→b ≠ i2→s.heap.get? b=some o→h'.get? b=some o) (ex:Ext B B' s.heap) (nS:B' S=none)
    (hB:∀ b o,B' b=some o→h'.get? b=some o) (hS:h'.get? S=some (lobj acc c)) (rv:RVs B' (items.take acc.length) acc) (Z:ZS h' z TI TO i1 i2 St1 St2 B' acc.length)
inductive LF (B:PM) (s:Shared) (z TO i1 i2 S:Addr) (items:List PV) (acc:List Value) (s':Shared):Prop
  | mk (h':Heap) (tk:Tok) (B':PM) (c:Nat) (hs:s'={ s with heap:=h',toks:=tk }) (kp:∀ b o,b ≠ z→b ≠ TO→b ≠ i1→b ≠ i2→s.heap.get? b=some o→h'.get? b=some o) (ex:Ext B B' s.heap) (nS:B' S=none)
    (hB:∀ b o,B' b=some o→h'.get? b=some o) (hS:h'.get? S=some (lobj acc c)) (rv:RVs B' (items.take acc.length) acc)
section
variable {g:G} {B:PM} {z TI TO i1 i2:Addr} {fp1 fp2:List Addr} {l1 l2:List PV} {St1 St2:Nat→Heap→Prop} {s:Shared}
theorem pyNext_zip {A:Around} {E:Value→Shared→Prop} {s:Shared} {o:Obj} {Q:Option Value→Shared→Prop} (ho:s.heap.get? z=some o) (hc:o.cls=.type "zip")
    (h:wpAny (model g.prog g.w) A.in1 (Builtin.«zip.__next__» ⟨[.ref z],[]⟩) (fun fin s'=>∃ v,fin=.done (.ret v)∧Q (some v) s') (fun e s'=>∃ ov,e=.ref ov∧(∃ o,s'.heap.get? ov=some o∧o.cls=.type "StopIteration")∧Q none s') s) :
    wpAny (model g.prog g.w) A (pyNext (.ref z)) Q E s:=by
  have hT:s.TypeIs (.ref z) "zip":=⟨_,ho,hc⟩
  unfold pyNext
  refine wpAny_bind (wpAny_attempt (wpAny_callSpecial?_slot (name:=Str.ofString "__next__") hT F.slot_zip_next (wpAny_call_entry F.slot_zip_next hT F.entry_zip_next (wpAny_mono h (fun fin s' q=>?_) fun e s' q=>?_) (F.args_zip_next_1 _))))
  · obtain ⟨v,rfl,q⟩:=q
    exact ⟨v,rfl,wpAny_pure q⟩
  · obtain ⟨ov,rfl,⟨o,ho,hc⟩,q⟩:=q
    refine wpAny_bind (wpAny_isInstance (T := "StopIteration") (b:=true) ⟨o,ho,hc⟩ isSubtype_stop ?_)
    exact wpAny_pure q
theorem zip_lw (a:ZA z TI TO i1 i2 fp1 fp2) (D1:Dr g B i1 fp1 l1 St1) (D2:Dr g B i2 fp2 l2 St2) (hB0:∀ b o,B b=some o→s.heap.get? b=some o) (hz0:∃ o,s.heap.get? z=some o) (hTO0:∃ o,s.heap.get? TO=some o)
    (n1:∃ o,s.heap.get? i1=some o) (n2:∃ o,s.heap.get? i2=some o) (hTI0:∃ o,s.heap.get? TI=some o) (nB:∀ b∈[z,TI,TO,i1,i2],B b=none) (f1:∀ b∈fp1,b=i1 ∨ ∃ o,B b=some o) (f2:∀ b∈fp2,b=i2 ∨ ∃ o,B b=some o) :
    LW g.prog g.w z s.heap.objs.size (zipP l1 l2).length (LZ B s z TI TO i1 i2 s.heap.objs.size (zipP l1 l2) St1 St2) (LF B s z TO i1 i2 s.heap.objs.size (zipP l1 l2)):=by
  have offS:∀ {b:Addr},(∃ o,s.heap.get? b=some o)→b ≠ s.heap.objs.size:=fun ⟨_,e⟩=>Nat.ne_of_lt (Heap.lt_size e)
  have nS1:∀ b∈fp1,b ≠ s.heap.objs.size:=fun b hb=>by
    rcases f1 b hb with rfl | ⟨o,e⟩
    · exact offS n1
    · exact offS ⟨o,hB0 _ _ e⟩
  have nS2:∀ b∈fp2,b ≠ s.heap.objs.size:=fun b hb=>by
    rcases f2 b hb with rfl | ⟨o,e⟩
    · exact offS n2
    · exact offS ⟨o,hB0 _ _ e⟩
  constructor
  · rintro A hh E acc s' hl ⟨h',tk,B',c,rfl,kp,ex,nS,hB,hS,rv,Z⟩
    obtain ⟨hz,ti,to',t1,t2⟩:=Z
    have hl':=hl
    rw [zipP_len] at hl'
    have q1:acc.length<l1.length:=Nat.lt_of_lt_of_le hl' (Nat.min_le_left _ _)
    have q2:acc.length<l2.length:=Nat.lt_of_lt_of_le hl' (Nat.min_le_right _ _)
    have bo:∀ {b:Addr},(∃ o,s.heap.get? b=some o)→B b=none→∀ {o},B' b ≠ some o:=fun ⟨_,e⟩ q o q'=>by rw [ex.eq _ _ e,q] at q'; exact jb q'
    have key:∀ h2 tk2 x y T b oT,(∀ B',(∀ a o,B a=some o→B' a=some o)→RV B' l1[acc.length] x∧RV B' l2[acc.length] y)→((B'.put h'.objs.size (tobj [x,y])) T=some oT∧h2.get? z=some (zipO TI TO (rawInt T) b))→IsPair h2 TI (.ref i1) (.ref i2)→(∃ a b,IsPair h2 TO a b)→St1 (acc.length+1) h2→St2 (acc.length+1) h2→IsPair h2 h'.objs.size x y →
        (∀ c o,c ≠ z→c ≠ TO→c ≠ i1→c ≠ i2→h'.get? c=some o→h2.get? c=some o)→∃ v c,some (Value.ref h'.objs.size)=some v∧h2.get? s.heap.objs.size=some (lobj acc c)∧∀ h3 c',h3.get? s.heap.objs.size=some (lobj (acc++[v]) c')→Heap.SameBut s.heap.objs.size h2 h3 →
          LZ B s z TI TO i1 i2 s.heap.objs.size (zipP l1 l2) St1 St2 (acc++[v]) { s with heap:=h3,toks:=tk2 }:=by
      intro h2 tk2 x y T b oT rxy hz2 ti2 to2 t12 t22 hp kp2
      have hN:h'.objs.size ≠ s.heap.objs.size:=Nat.ne_of_gt (Heap.lt_size hS)
      have Nb:B' h'.objs.size=none:=by
        cases e:B' h'.objs.size with
        | none=>rfl
        | some o=>exact absurd (Heap.lt_size (hB _ _ e)) (Nat.lt_irrefl _)
      have le:=PM.put_le (o:=tobj [x,y]) Nb
      refine ⟨_,c,rfl,kp2 _ _ (offS hz0).symm (offS hTO0).symm (offS n1).symm (offS n2).symm hS,fun h3 c' hg hs3=>?_⟩
      refine ⟨h3,tk2,B'.put h'.objs.size (tobj [x,y]),c',rfl,fun b o b1 b2 b3 b4 e=>hs3.extBut _ _ (Nat.ne_of_lt (Heap.lt_size e)) (kp2 _ _ b1 b2 b3 b4 (kp _ _ b1 b2 b3 b4 e)),⟨fun b o e=>le _ _ (ex.le _ _ e),fun b o e=>?_⟩,?_,fun b o e=>?_,hg,?_,?_⟩
      · have q:b ≠ h'.objs.size:=fun q=>by
          subst q
          exact absurd (Nat.lt_trans (Heap.lt_size hS) (Heap.lt_size e)) (Nat.lt_irrefl _)
        rw [← ex.eq _ _ e]; unfold PM.put; rw [if_neg q]
      · unfold PM.put; rw [if_neg hN.symm]; exact nS
      · have bS:b ≠ s.heap.objs.size:=fun q=>by
          subst q; unfold PM.put at e; rw [if_neg hN.symm,nS] at e; exact jb e
        refine hs3.extBut _ _ bS ?_
        unfold PM.put at e
        split at e
        · rename_i q; subst q; injection e with e; subst e; exact hp
        · exact kp2 _ _ (fun q=>bo hz0 (nB z (by simp)) (q ▸ e)) (fun q=>bo hTO0 (nB TO (by simp)) (q ▸ e)) (fun q=>bo n1 (nB i1 (by simp)) (q ▸ e)) (fun q=>bo n2 (nB i2 (by simp)) (q ▸ e)) (hB _ _ e)
      · rw [List.length_append,show (zipP l1 l2).take (acc.length+[Value.ref h'.objs.size].length)=(zipP l1 l2).take acc.length++[.tup [l1[acc.length],l2[acc.length]]] by
          rw [show acc.length+[Value.ref h'.objs.size].length=acc.length+1 from rfl,List.take_add_one,List.getElem?_eq_getElem hl,zipP_at hl q1 q2]; rfl]
        obtain ⟨rx,ry⟩:=rxy (B'.put h'.objs.size (tobj [x,y])) fun b o e=>le _ _ (ex.le _ _ e)
        exact (rv.mono le).append (.cons (.tup (PM.put_self ..) (.cons rx (.cons ry .nil))) .nil)
      · rw [List.length_append]
        exact ⟨.inr ⟨T,b,oT,hz2.1,hs3.extBut _ _ (offS hz0) hz2.2⟩,hs3.extBut _ _ (offS hTI0) ti2,to2.imp fun _ e=>e.imp fun _ e=>hs3.extBut _ _ (offS hTO0) e,D1.but t12 hs3 (fun q=>nS1 _ q rfl),D2.but t22 hs3 fun q=>nS2 _ q rfl⟩
    rcases hz with ⟨h0,hz⟩ | ⟨T,b,oT,hT,hz⟩
    · refine pyNext_zip hz rfl (zip_item (k:=acc.length) a D1 D2 q1 q2 ⟨hz,ti,to',t1,t2⟩ fun h2 t2 x y rv Z' hp kp2=>?_)
      obtain ⟨z1,z2,z3,z4,z5⟩:=Z'
      exact key h2 t2 x y h'.objs.size false _ rv ⟨PM.put_self ..,z1⟩ z2 z3 z4 z5 hp kp2
    · refine pyNext_zip hz rfl (zip_item2 (k:=acc.length) a D1 D2 q1 q2 (hB _ _ hT) hz ti t1 t2 fun h2 t2 x y rv z1 z4 z5 hp kp2=>?_)
      have nT:T ≠ h'.objs.size:=Nat.ne_of_lt (Heap.lt_size (hB _ _ hT))
      refine key h2 t2 x y T true oT rv ⟨by unfold PM.put; rw [if_neg nT]; exact hT,z1⟩ (kp2 _ _ a.TIz a.TI1 a.TI2 ti) (to'.imp fun _ e=>e.imp fun _ e=>kp2 _ _ a.TOz (fun q=>a.T1 (q ▸ D1.mem)) (fun q=>a.T2 (q ▸ D2.mem)) e) z4 z5 hp fun c o c1 c2 c3 c4 e=>kp2 c o c1 c3 c4 e
  · rintro A hh E acc s' hl ⟨h',tk,B',c,rfl,kp,ex,nS,hB,hS,rv,Z⟩
    obtain ⟨hz,ti,to',t1,t2⟩:=Z
    rw [zipP_len] at hl
    have bo:∀ {b:Addr},(∃ o,s.heap.get? b=some o)→B b=none→∀ {o},B' b ≠ some o:=fun ⟨_,e⟩ q o q'=>by rw [ex.eq _ _ e,q] at q'; exact jb q'
    have key:∀ h2 tk2,(∀ c o,c ≠ z→c ≠ TO→c ≠ i1→c ≠ i2→h'.get? c=some o→h2.get? c=some o)→LF B s z TO i1 i2 s.heap.objs.size (zipP l1 l2) acc { s with heap:=h2,toks:=tk2 }:=by
      intro h2 tk2 kp2
      exact ⟨h2,tk2,B',c,rfl,fun b o b1 b2 b3 b4 e=>kp2 _ _ b1 b2 b3 b4 (kp _ _ b1 b2 b3 b4 e),ex,nS,fun b o e=>kp2 _ _ (fun q=>bo hz0 (nB z (by simp)) (q ▸ e)) (fun q=>bo hTO0 (nB TO (by simp)) (q ▸ e)) (fun q=>bo n1 (nB i1 (by simp)) (q ▸ e)) (fun q=>bo n2 (nB i2 (by simp)) (q ▸ e)) (hB _ _ e),kp2 _ _ (offS hz0).symm (offS hTO0).symm (offS n1).symm (offS n2).symm hS,rv⟩
    rcases hz with ⟨h0,hz⟩ | ⟨T,b,oT,hT,hz⟩
    · refine pyNext_zip hz rfl (zip_end (A:=A.in1) (k:=acc.length) hh a D1 D2 hl ⟨hz,ti,to',t1,t2⟩ fun h2 t2 e kp2 he=>⟨e,rfl,he,rfl,key h2 t2 kp2⟩)
    · refine pyNext_zip hz rfl (zip_end2 (A:=A.in1) (k:=acc.length) hh a D1 D2 hl (hB _ _ hT) hz ti t1 t2 fun h2 t2 e kp2 he=>⟨e,rfl,he,rfl,key h2 t2 fun c o c1 c2 c3 c4 e=>kp2 c o c1 c3 c4 e⟩)
noncomputable def evZipL (f1 f2:Ev):Ev:=fun vs=>(yy f1 f2 vs).bind fun p=>if Nat.ble p.1.length 100000 then some (.obj (.list p.1),p.2) else none
theorem zip_no_len:typeLookup (.type "zip") "__len__"=pure none:=by rw [typeLookup_type,builtinLookup_eq_fast]; kernel_rfl
theorem zip_no_hint:typeLookup (.type "zip") "__length_hint__"=pure none:=by rw [typeLookup_type,builtinLookup_eq_fast]; kernel_rfl
theorem hint_zip {A:Around} {E:Value→Shared→Prop} {s:Shared} {o:Obj} {Q:Bool→Shared→Prop} (ho:s.heap.get? z=some o) (hc:o.cls=.type "zip") (h:∀ b,Q b s):wpAny (model g.prog g.w) A (Builtin.List.listLengthHint (.ref z)) Q E s:=by
  have hT:s.TypeIs (.ref z) "zip":=⟨_,ho,hc⟩
  unfold Builtin.List.listLengthHint
  refine wpAny_bind (wpAny_specialOf hT zip_no_len ?_)
  show wpAny _ A (specialOf (Value.ref z) (Str.ofString "__length_hint__") >>= _) _ _ _
  exact wpAny_bind (wpAny_specialOf hT zip_no_hint (wpAny_pure (h _)))
theorem den_listZip {ks:List (Str×VK)} {r:Nat} {lx x:Str} {lp p pos pos2:Pos} {e1 e2:Expr} {f1 f2:Ev} (dl:Den g r ks (.Name lx lp) (jo (.con (.type "list")))) (d:Den g r ks (.Name x p) (jo (.con (.type "zip")))) (dd:Dens g r ks [e1,e2] [f1,f2]) :
    Den g r ks (.Call (.Name lx lp) [.Call (.Name x p) [e1,e2] [] pos] [] pos2) (evZipL f1 f2):=by
  intro A B P env s0 vs val foot cel v vs' h R I
  revert h
  refine jc fun q h1 h=>?_
  split at h
  case isFalse=>exact jb h
  rename_i hlen
  rw [Nat.ble_eq] at hlen
  injection h with h; injection h with ee0 ee1; subst ee0; subst ee1
  refine Call_Name rfl (glob_con (k:=0) (v:=.own 0) dl R I fun s1 B1 sh1 x1 I1=>?_)
  refine PyProof.Rows.callWith_type rfl (evalArgs_plain (wpAny_items_cons (wpAny_mono (zip_call d dd (items:=q.1) (vs':=q.2) h1 R I1) (fun y s t=>wpAny_items_nil ?_) fun _ _ f=>f) rfl))
  obtain ⟨B2,N,fp1,fp2,l1,l2,St1,St2,hx,hi,sh,e,I2,D1,D2,a,Z,nw,q1,q2⟩:=t
  subst hx
  rw [hi] at hlen ⊢
  have Z0:=Z
  obtain ⟨z1,z2,⟨u,v,z3⟩,z4,z5⟩:=Z0
  have sz:∀ {b:Addr} {o:Obj},s.heap.get? b=some o→b ≠ s.heap.objs.size:=fun e=>Nat.ne_of_lt (Heap.lt_size e)
  have big:∀ b∈[N+4,N+2,N+3,N,N+1],N≤b:=fun b hb=>by
    simp only [List.mem_cons,List.not_mem_nil,or_false] at hb
    rcases hb with rfl | rfl | rfl | rfl | rfl
    · exact Nat.le_add_right _ _
    · exact Nat.le_add_right _ _
    · exact Nat.le_add_right _ _
    · exact Nat.le_refl _
    · exact Nat.le_add_right _ _
  have W:=zip_lw a D1 D2 I2.hB ⟨_,z1⟩ ⟨_,z3⟩ (D1.here _ _ z4) (D2.here _ _ z5) ⟨_,z2⟩ (fun b hb=>(nw b (big b hb)).1) q1 q2
  have nz:=(sz z1).symm
  refine call_list_lw (T := "zip") W R.1 hlen (fun h' k=>⟨_,k _ _ z1,rfl⟩) (beq_eq_false_iff_ne.mpr nz) (by decide) (by decide) (fun A E' h0 hh kp h1 hz {Q} q=>?_) fun acc s' hl f=>?_
  · obtain ⟨m,hm⟩:=h1
    refine wpAny_pyIter_zip (kp _ _ z1) ?_
    refine q _ m hm (fun h' c' hg hs=>?_) fun hq=>hint_zip (kp _ _ z1) rfl hq
    have kp':∀ b o,s.heap.get? b=some o→h'.get? b=some o:=fun b o e=>hs.extBut _ _ (sz e) (kp _ _ e)
    refine ⟨h',s.toks,B2,c',rfl,fun b o _ _ _ _ e=>kp' b o e,.refl _ _,(I2.bNone (Nat.le_refl _)).1,fun b o e=>kp' _ _ (I2.hB _ _ e),hg,.nil,⟨.inl ⟨rfl,kp' _ _ z1⟩,kp' _ _ z2,⟨u,v,kp' _ _ z3⟩,D1.frame _ _ _ z4 fun b _ o e=>kp' b o e,D2.frame _ _ _ z5 fun b _ o e=>kp' b o e⟩⟩
  · obtain ⟨h',tk,B',c,rfl,kp,ex,nS,hB,hS,rv⟩:=f
    rw [hl,List.take_of_length_le (Nat.le_refl _)] at rv
    have F5:Fresh B2 P env.locals ks foot cel [N+4,N+2,N+3,N,N+1]:=fun b hb=>⟨(nw b (big b hb)).1,(nw b (big b hb)).2.1,(nw b (big b hb)).2.2.2⟩
    have kp5:∀ b o,b ∉ [N+4,N+2,N+3,N,N+1]→s.heap.get? b=some o→h'.get? b=some o:=fun b o hb e=>by
      simp only [List.mem_cons,List.not_mem_nil,or_false,not_or] at hb
      exact kp b o hb.1 hb.2.2.1 hb.2.2.2.1 hb.2.2.2.2 e
    have I3:=I2.growBoth F5 kp5 ex hB
    have sh':Sh s0 { s with heap:=h',toks:=tk }:=by
      refine (sh1.trans ?_)
      obtain ⟨h9,t9,rfl,al⟩:=sh
      refine ⟨h',tk,rfl,fun b o e=>?_⟩
      obtain ⟨o',e'⟩:=al b o e
      refine ⟨o',kp5 b o' (fun hb=>?_) e'⟩
      rw [(nw b (big b hb)).2.2.1] at e; exact jb e
    refine ⟨sh',B',[s.heap.objs.size],(x1.trans e sh1.size).trans ex (sh1.trans sh).size,I3,⟨_,acc,c,rfl,rfl,hS,rv⟩,fun b hb=>?_,fun b hb=>?_⟩
    · rw [List.mem_singleton.mp hb]
      exact ⟨nS,(I2.bNone (Nat.le_refl _)).2,fun i o=>Nat.lt_irrefl _ (I2.ownLt o)⟩
    · rw [List.mem_singleton.mp hb]
      cases e:s0.heap.get? s.heap.objs.size with
      | none=>rfl
      | some o=>obtain ⟨o',e'⟩:=(sh1.trans sh).size _ o e; exact absurd (Heap.lt_size e') (Nat.lt_irrefl _)
end
noncomputable def st3 (i:Nat):Stmt:=PySem.Challenge.pw_sn0088_03.main.body.getD i default
noncomputable def tabI3:List (Int×List Nat):=[(1,[79,80,84,73,77,73,90,69,68]),(2,[78,69,87,76,79,67,65,76,83]),(4,[86,65,82,65,82,71,83]),(8,[86,65,82,75,69,89,87,79,82,68,83]),(16,[78,69,83,84,69,68])]
noncomputable def tabS3:List (List Nat×Int):=[([43],14),([45],15),([42],16),([61],22)]
structure E3a (g:G):Prop where
  ok:GOk g
  b:Blt g
  i_MOVE_COST:∃ t,g.mg "_MOVE_COST"=some (.int 2 t)
  i_CASE_COST:∃ t,g.mg "_CASE_COST"=some (.int 1 t)
  i_MAX_STRING_SIZE:∃ t,g.mg "_MAX_STRING_SIZE"=some (.int 40 t)
  iNT_OFFSET:∃ t,g.mg "NT_OFFSET"=some (.int 256 t)
  iENDMARKER:∃ t,g.mg "ENDMARKER"=some (.int 0 t)
  tCOMPILER_FLAG_NAMES:TabI g "COMPILER_FLAG_NAMES" tabI3
  tEXACT_TOKEN_TYPES:TabS g "EXACT_TOKEN_TYPES" tabS3
  fpretty_flags:FnAt g (st3 10)
  f_parse_varint:FnAt g (st3 11)
  fISNONTERMINAL:FnAt g (st3 64)
  fISEOF:FnAt g (st3 65)
  f_substitution_cost:FnAt g (st3 6)
  f_levenshtein_distance:FnAt g (st3 7)
  f_law_octets:FnAt g (st3 73)
  f_law_name:FnAt g (st3 75)
  f_law_squares:FnAt g (st3 77)
noncomputable def ks__substitution_cost:List (Str×VK):=[("ch_a",.loc),("ch_b",.loc),("_CASE_COST",.glo),("_MOVE_COST",.glo)]
noncomputable def yo:{ f:Ex // ∀ g,E3a g→DenB g 0 ks__substitution_cost (sBody (st3 6)) f }:=⟨_,fun g E =>
  (je (jN (j0 (ja (k:=0) rfl) (ja (k:=1) rfl) op_eq rfl) (je (jA ji)
  jg) jg)
  (je (jN (j0 (jv (ja (k:=0) rfl) .nil (jZ PySem.F.slot_str_lower PySem.F.type_str_lower _) (fn_lower.m _)) (jv (ja (k:=1) rfl) .nil (jZ PySem.F.slot_str_lower PySem.F.type_str_lower _) (fn_lower.m _)) op_eq rfl) (je (jA (yj E.ok (k:=2) rfl E.i_CASE_COST))
  jg) jg)
  (je (jA (yj E.ok (k:=3) rfl E.i_MOVE_COST))
  jg)))⟩
theorem h__substitution_cost {g:G} (E:E3a g):HasF g 1 (st3 6) ((ks__substitution_cost.take 2).map (·.1)) (fnOf ks__substitution_cost 2 0 yo.1):=vF E.ok E.f_substitution_cost (yo.2 g E) rfl (by decide) (by decide)
noncomputable def ks__levenshtein_distance:List (Str×VK):=[("a",.loc),("b",.loc),("max_cost",.loc),("pre",.loc),("post",.loc),("row",.loc),("result",.loc),("bindex",.loc),("bchar",.loc),("distance",.loc),("minimum",.loc),("index",.loc),("substitute",.loc),("insert_delete",.loc),("_MOVE_COST",.glo),("len",.glo),("_MAX_STRING_SIZE",.glo),("list",.glo),("range",.glo),("_substitution_cost",.glo),("min",.glo)]
noncomputable def jx:{ f:Ex // ∀ g,E3a g→DenB g 1 ks__levenshtein_distance (sBody (st3 7)) f }:=⟨_,fun g E =>
  (je (jN (j0 (ja (k:=0) rfl) (ja (k:=1) rfl) op_eq rfl) (je (jA ji)
  jg) jg)
  (je (jq (k:=3) ji rfl)
  (je (dens_while (n:=60) (dt_bool (da_and (yO (j5 (ja (k:=0) rfl) (.some (ja (k:=3) rfl)) .none)) (da_and (yO (j5 (ja (k:=1) rfl) (.some (ja (k:=3) rfl)) .none)) (da_and (j0 (jn (ja (k:=0) rfl) (ja (k:=3) rfl)) (jn (ja (k:=1) rfl) (ja (k:=3) rfl)) op_eq rfl) da_and_nil)))) (je (dens_aug (k:=3) rfl ji op_iadd)
  jg))
  (je (jq (k:=0) (j5 (ja (k:=0) rfl) (.some (ja (k:=3) rfl)) .none) rfl)
  (je (jq (k:=1) (j5 (ja (k:=1) rfl) (.some (ja (k:=3) rfl)) .none) rfl)
  (je (jq (k:=4) ji rfl)
  (je (dens_while (n:=60) (dt_bool (da_and (yO (j5 (ja (k:=0) rfl) .none (.some (den_or (ja (k:=4) rfl) den_none)))) (da_and (yO (j5 (ja (k:=1) rfl) .none (.some (den_or (ja (k:=4) rfl) den_none)))) (da_and (j0 (jn (ja (k:=0) rfl) (jk (ja (k:=4) rfl) ji vm)) (jn (ja (k:=1) rfl) (jk (ja (k:=4) rfl) ji vm)) op_eq rfl) da_and_nil)))) (je (dens_aug (k:=4) rfl ji op_isub)
  jg))
  (je (jq (k:=0) (j5 (ja (k:=0) rfl) .none (.some (den_or (ja (k:=4) rfl) den_none))) rfl)
  (je (jq (k:=1) (j5 (ja (k:=1) rfl) .none (.some (den_or (ja (k:=4) rfl) den_none))) rfl)
  (je (jN (dt_bool (da_or (dt_not (yO (ja (k:=0) rfl))) (da_or (dt_not (yO (ja (k:=1) rfl))) da_or_nil))) (je (jA (jk (yj E.ok (k:=14) rfl E.i_MOVE_COST) (jk (jz (jj E.ok (k:=15) rfl (.inr E.b.len)) (.cons (ja (k:=0) rfl) (fun _=>rfl) .nil) vH) (jz (jj E.ok (k:=15) rfl (.inr E.b.len)) (.cons (ja (k:=1) rfl) (fun _=>rfl) .nil) vH) j6) yw))
  jg) jg)
  (je (jN (dt_bool (da_or (j0 (jz (jj E.ok (k:=15) rfl (.inr E.b.len)) (.cons (ja (k:=0) rfl) (fun _=>rfl) .nil) vH) (yj E.ok (k:=16) rfl E.i_MAX_STRING_SIZE) op_gt rfl) (da_or (j0 (jz (jj E.ok (k:=15) rfl (.inr E.b.len)) (.cons (ja (k:=1) rfl) (fun _=>rfl) .nil) vH) (yj E.ok (k:=16) rfl E.i_MAX_STRING_SIZE) op_gt rfl) da_or_nil))) (je (jA (jk (ja (k:=2) rfl) ji j6))
  jg) jg)
  (je (jN (j0 (jz (jj E.ok (k:=15) rfl (.inr E.b.len)) (.cons (ja (k:=1) rfl) (fun _=>rfl) .nil) vH) (jz (jj E.ok (k:=15) rfl (.inr E.b.len)) (.cons (ja (k:=0) rfl) (fun _=>rfl) .nil) vH) op_lt rfl) (je (dens_swap (k1:=0) (k2:=1) (j4 (.cons (ja (k:=1) rfl) (fun _=>rfl) (.cons (ja (k:=0) rfl) (fun _=>rfl) .nil))) rfl rfl (swap_two rfl rfl rfl rfl))
  jg) jg)
  (je (jN (j0 (jk (jk (jz (jj E.ok (k:=15) rfl (.inr E.b.len)) (.cons (ja (k:=1) rfl) (fun _=>rfl) .nil) vH) (jz (jj E.ok (k:=15) rfl (.inr E.b.len)) (.cons (ja (k:=0) rfl) (fun _=>rfl) .nil) vH) vm) (yj E.ok (k:=14) rfl E.i_MOVE_COST) yw) (ja (k:=2) rfl) op_gt rfl) (je (jA (jk (ja (k:=2) rfl) ji j6))
  jg) jg)
  (je (yP (k:=5) (den_fnM (jj E.ok (k:=17) rfl (.inr E.b.list)) (.cons (jz (jj E.ok (k:=18) rfl (.inr E.b.range)) (.cons (yj E.ok (k:=14) rfl E.i_MOVE_COST) (fun _=>rfl) (.cons (jk (yj E.ok (k:=14) rfl E.i_MOVE_COST) (jk (jz (jj E.ok (k:=15) rfl (.inr E.b.len)) (.cons (ja (k:=0) rfl) (fun _=>rfl) .nil) vH) ji j6) yw) (fun _=>rfl) (.cons (yj E.ok (k:=14) rfl E.i_MOVE_COST) (fun _=>rfl) .nil))) yI) (fun _=>rfl) .nil) (fn_list _)) rfl)
  (je (jq (k:=6) ji rfl)
  (je (yz (jz (jj E.ok (k:=18) rfl (.inr E.b.range)) (.cons (jz (jj E.ok (k:=15) rfl (.inr E.b.len)) (.cons (ja (k:=1) rfl) (fun _=>rfl) .nil) vH) (fun _=>rfl) .nil) yI) (jl (k:=7) rfl) (je (jq (k:=8) (jn (ja (k:=1) rfl) (ja (k:=7) rfl)) rfl)
  (je (dens_set2 (k1:=9) (k2:=6) (jk (ja (k:=7) rfl) (yj E.ok (k:=14) rfl E.i_MOVE_COST) yw) rfl rfl)
  (je (jq (k:=10) ji rfl)
  (je (yz (jz (jj E.ok (k:=18) rfl (.inr E.b.range)) (.cons (jz (jj E.ok (k:=15) rfl (.inr E.b.len)) (.cons (ja (k:=0) rfl) (fun _=>rfl) .nil) vH) (fun _=>rfl) .nil) yI) (jl (k:=11) rfl) (je (jq (k:=12) (jk (ja (k:=9) rfl) (jM E.ok (h__substitution_cost E) (k:=19) (n:=2) rfl rfl (.cons (ja (k:=8) rfl) (fun _=>rfl) (.cons (jn (ja (k:=0) rfl) (ja (k:=11) rfl)) (fun _=>rfl) .nil)) (by decide) (fun _ _ _=>binds2 (fun _ _=>rfl))) j6) rfl)
  (je (jq (k:=9) (jn (ja (k:=5) rfl) (ja (k:=11) rfl)) rfl)
  (je (jq (k:=13) (jk (jz (jj E.ok (k:=20) rfl (.inr E.b.min)) (.cons (ja (k:=6) rfl) (fun _=>rfl) (.cons (ja (k:=9) rfl) (fun _=>rfl) .nil)) fn_min) (yj E.ok (k:=14) rfl E.i_MOVE_COST) j6) rfl)
  (je (jq (k:=6) (jz (jj E.ok (k:=20) rfl (.inr E.b.min)) (.cons (ja (k:=13) rfl) (fun _=>rfl) (.cons (ja (k:=12) rfl) (fun _=>rfl) .nil)) fn_min) rfl)
  (je (dens_setItem (ja (k:=6) rfl) (ja (k:=5) rfl) (ja (k:=11) rfl))
  (je (jN (j0 (ja (k:=6) rfl) (ja (k:=10) rfl) op_lt rfl) (je (jq (k:=10) (ja (k:=6) rfl) rfl)
  jg) jg)
  jg)))))) jg)
  (je (jN (j0 (ja (k:=10) rfl) (ja (k:=2) rfl) op_gt rfl) (je (jA (jk (ja (k:=2) rfl) ji j6))
  jg) jg)
  jg))))) jg)
  (je (jA (ja (k:=6) rfl))
  jg)))))))))))))))))⟩
theorem yR {g:G} (E:E3a g):HasF g 2 (st3 7) ((ks__levenshtein_distance.take 3).map (·.1)) (fnOf ks__levenshtein_distance 3 11 jx.1):=vF E.ok E.f_levenshtein_distance (jx.2 g E) rfl (by decide) (by decide)
noncomputable def ks_pretty_flags:List (Str×VK):=[("flags",.loc),("names",.loc),("i",.loc),("flag",.loc),("range",.glo),("COMPILER_FLAG_NAMES",.glo),("hex",.glo)]
noncomputable def den_pretty_flags:{ f:Ex // ∀ g,E3a g→DenB g 0 ks_pretty_flags (sBody (st3 10)) f }:=⟨_,fun g E =>
  (je (yP (k:=1) (yb .nil) rfl)
  (je (yz (jz (jj E.ok (k:=4) rfl (.inr E.b.range)) (.cons ji (fun _=>rfl) .nil) yI) (jl (k:=2) rfl) (je (jq (k:=3) (jk ji (ja (k:=2) rfl) op_shl) rfl)
  (je (jN (yO (jk (ja (k:=0) rfl) (ja (k:=3) rfl) op_and)) (je (j8 (jv (ja (k:=1) rfl) (.cons (den_tabGet E.ok (k:=5) rfl E.tCOMPILER_FLAG_NAMES (ja (k:=3) rfl) (jz (jj E.ok (k:=6) rfl (.inr E.b.hex)) (.cons (ja (k:=3) rfl) (fun _=>rfl) .nil) fn_hex)) (fun _=>rfl) .nil) (j7 PySem.F.slot_list_append PySem.F.type_list_append _) (yS _)))
  (je (dens_aug (k:=0) rfl (ja (k:=3) rfl) op_ixor)
  (je (jN (dt_not (yO (ja (k:=0) rfl))) (je dens_brk
  jg) jg)
  jg))) jg)
  jg)) (je (j8 (jv (ja (k:=1) rfl) (.cons (jz (jj E.ok (k:=6) rfl (.inr E.b.hex)) (.cons (ja (k:=0) rfl) (fun _=>rfl) .nil) fn_hex) (fun _=>rfl) .nil) (j7 PySem.F.slot_list_append PySem.F.type_list_append _) (yS _)))
  jg))
  (@je _ _ _ _ _ _ _ (@jA _ _ _ _ _ _ (@jv _ _ _ _ _ _ _ _ _ _ _ _ _ _ (jG (c:=[44,32]) rfl) (.cons (ja (k:=1) rfl) (fun _=>rfl) .nil) (jZ PySem.F.slot_str_join PySem.F.type_str_join _) (fn_join.m _) (fun _=>rfl)))
  jg)))⟩
theorem h_pretty_flags {g:G} (E:E3a g):HasF g 1 (st3 10) ((ks_pretty_flags.take 1).map (·.1)) (fnOf ks_pretty_flags 1 3 den_pretty_flags.1):=vF E.ok E.fpretty_flags (den_pretty_flags.2 g E) rfl (by decide) (by decide)
noncomputable def ks__parse_varint:List (Str×VK):=[("iterator",.par),("b",.loc),("val",.loc),("next",.glo)]
noncomputable def vc:{ f:Ex // ∀ g,E3a g→DenB g 0 ks__parse_varint (sBody (st3 11)) f }:=⟨_,fun g E =>
  (je (jq (k:=1) (den_fnM (jj E.ok (k:=3) rfl (.inr E.b.next)) (.cons (ja (k:=0) rfl) (fun _=>rfl) .nil) (fn_next _)) rfl)
  (je (jq (k:=2) (jk (ja (k:=1) rfl) ji op_and) rfl)
  (je (dens_while (n:=10) (yO (jk (ja (k:=1) rfl) ji op_and)) (je (dens_aug (k:=2) rfl ji op_ishl)
  (je (jq (k:=1) (den_fnM (jj E.ok (k:=3) rfl (.inr E.b.next)) (.cons (ja (k:=0) rfl) (fun _=>rfl) .nil) (fn_next _)) rfl)
  (je (dens_aug (k:=2) rfl (jk (ja (k:=1) rfl) ji op_and) op_ior)
  jg))))
  (je (jA (ja (k:=2) rfl))
  jg))))⟩
theorem vG {g:G} (E:E3a g):HasF g 1 (st3 11) ((ks__parse_varint.take 1).map (·.1)) (fnOf ks__parse_varint 1 2 vc.1):=vF E.ok E.f_parse_varint (vc.2 g E) rfl (by decide) (by decide)
noncomputable def ks_ISNONTERMINAL:List (Str×VK):=[("x",.loc),("NT_OFFSET",.glo)]
noncomputable def vd:{ f:Ex // ∀ g,E3a g→DenB g 0 ks_ISNONTERMINAL (sBody (st3 64)) f }:=⟨_,fun g E =>
  (je (jA (den_cmp (ja (k:=0) rfl) (yj E.ok (k:=1) rfl E.iNT_OFFSET) op_ge rfl))
  jg)⟩
theorem h_ISNONTERMINAL {g:G} (E:E3a g):HasF g 1 (st3 64) ((ks_ISNONTERMINAL.take 1).map (·.1)) (fnOf ks_ISNONTERMINAL 1 0 vd.1):=vF E.ok E.fISNONTERMINAL (vd.2 g E) rfl (by decide) (by decide)
noncomputable def ks_ISEOF:List (Str×VK):=[("x",.loc),("ENDMARKER",.glo)]
noncomputable def den_ISEOF:{ f:Ex // ∀ g,E3a g→DenB g 0 ks_ISEOF (sBody (st3 65)) f }:=⟨_,fun g E =>
  (je (jA (den_cmp (ja (k:=0) rfl) (yj E.ok (k:=1) rfl E.iENDMARKER) op_eq rfl))
  jg)⟩
theorem h_ISEOF {g:G} (E:E3a g):HasF g 1 (st3 65) ((ks_ISEOF.take 1).map (·.1)) (fnOf ks_ISEOF 1 0 den_ISEOF.1):=vF E.ok E.fISEOF (den_ISEOF.2 g E) rfl (by decide) (by decide)
noncomputable def ks__law_octets:List (Str×VK):=[("octets",.loc),("sign",.loc),("place",.loc),("EXACT_TOKEN_TYPES",.glo),("iter",.glo)]
noncomputable def vI:{ f:Ex // ∀ g,E3a g→DenB g 0 ks__law_octets (sBody (st3 73)) f }:=⟨_,fun g E =>
  (je (yP (k:=0) (yb .nil) rfl)
  (@je _ _ _ _ _ _ _ (@yz _ _ _ _ _ _ _ _ _ _ _ _ (jG (c:=[117,118,43,120,45,61,112,117,119,43,121,45,61,113,118,119,43,122,45,61,114,117,117,43,118,118,43,42,119,42,112,113,42,114,42,43,117,114,42,114,42,45,118,113,42,113,42,45,119,112,42,112,42,45,61,116]) rfl) (jl (k:=1) rfl) (je (jN (j0 (ja (k:=1) rfl) (jG (c:=[112,113,114,115,116,117,118,119,120,121,122]) rfl) op_in rfl) (@je _ _ _ _ _ _ _ (@jq _ _ _ 2 _ _ _ _ _ _ (@jv _ _ _ _ _ _ _ _ _ _ _ _ _ _ (jG (c:=[112,113,114,115,116,117,118,119,120,121,122]) rfl) (.cons (ja (k:=1) rfl) (fun _=>rfl) .nil) (jZ PySem.F.slot_str_index PySem.F.type_str_index _) (fn_index.m _) (fun _=>rfl)) rfl (.inl rfl) (fun _=>rfl))
  (je (j8 (jv (ja (k:=0) rfl) (.cons (yb (.cons ji (fun _=>rfl) (.cons (jk ji (ja (k:=2) rfl) j6) (fun _=>rfl) (.cons (ja (k:=2) rfl) (fun _=>rfl) .nil)))) (fun _=>rfl) .nil) (j7 PySem.F.slot_list_extend PySem.F.type_list_extend _) (fn_extend _)))
  jg)) (je (j8 (jv (ja (k:=0) rfl) (.cons (den_tabS E.ok (k:=3) rfl E.tEXACT_TOKEN_TYPES (ja (k:=1) rfl)) (fun _=>rfl) .nil) (j7 PySem.F.slot_list_append PySem.F.type_list_append _) (yS _)))
  jg))
  jg) jg (fun _ _=>rfl))
  (je (jA (den_fnM (jj E.ok (k:=4) rfl (.inr E.b.iter)) (.cons (jk (ja (k:=0) rfl) (yb (.cons ji (fun _=>rfl) .nil)) j6) (fun _=>rfl) .nil) (fn_iter _)))
  jg)))⟩
theorem h__law_octets {g:G} (E:E3a g):HasF g 1 (st3 73) ((ks__law_octets.take 0).map (·.1)) (fnOf ks__law_octets 0 3 vI.1):=vF E.ok E.f_law_octets (vI.2 g E) rfl (by decide) (by decide)
noncomputable def ks__law_name:List (Str×VK):=[("number",.loc),("words",.cel),("flags",.cel),("pretty_flags",.glo),("range",.glo)]
noncomputable def den__law_name:{ f:Ex // ∀ g,E3a g→DenB g 1 ks__law_name (sBody (st3 75)) f }:=⟨_,fun g E =>
  (je (jq (k:=1) (jv (jM E.ok (h_pretty_flags E) (k:=3) (n:=1) rfl rfl (.cons (ja (k:=0) rfl) (fun _=>rfl) .nil) (by decide) (fun _ _ _=>binds1 (fun _=>rfl))) (.cons (jG (c:=[44,32]) rfl) (fun _=>rfl) .nil) (jZ PySem.F.slot_str_split PySem.F.type_str_split _) (fn_split.m _)) rfl)
  (je (jq (k:=2) (yb (.cons (jG (c:=[79,80,84,73,77,73,90,69,68]) rfl) (fun _=>rfl) (.cons (jG (c:=[78,69,87,76,79,67,65,76,83]) rfl) (fun _=>rfl) (.cons (jG (c:=[86,65,82,65,82,71,83]) rfl) (fun _=>rfl) (.cons (jG (c:=[86,65,82,75,69,89,87,79,82,68,83]) rfl) (fun _=>rfl) (.cons (jG (c:=[78,69,83,84,69,68]) rfl) (fun _=>rfl) .nil)))))) rfl)
  (@je _ _ _ _ _ _ _ (@jA _ _ _ _ _ _ (@jv _ _ _ _ _ _ _ _ _ _ _ _ _ _ (jG (c:=[]) rfl) (.cons (yk (ks':=[("flags",.fre),("words",.fre),("k",.loc)]) (fm:=[2,1]) (nl:=1) (ya (jz (jj E.ok (k:=4) rfl (.inr E.b.range)) (.cons ji (fun _=>rfl) .nil) yI) (jl (k:=2) rfl)) ye (jH rfl (den_if (j0 (jn (ja (k:=0) rfl) (ja (k:=2) rfl)) (ja (k:=1) rfl) op_in rfl) (jn (jG (c:=[65,66,67,68,69]) rfl) (ja (k:=2) rfl)) (jn (jG (c:=[97,98,99,100,101]) rfl) (ja (k:=2) rfl)))) ⟨rfl,rfl,rfl,rfl,by decide,by decide,by decide⟩) (fun _=>rfl) .nil) (jZ PySem.F.slot_str_join PySem.F.type_str_join _) (fn_join.m _) (fun _=>rfl)))
  jg)))⟩
theorem h__law_name {g:G} (E:E3a g):HasF g 2 (st3 75) ((ks__law_name.take 1).map (·.1)) (fnOf ks__law_name 1 2 den__law_name.1):=vF E.ok E.f_law_name (den__law_name.2 g E) rfl (by decide) (by decide)
noncomputable def ks__law_squares:List (Str×VK):=[("a",.loc),("b",.loc),("c",.loc),("total",.loc),("i",.loc),("j",.loc),("k",.loc),("range",.glo)]
noncomputable def yl:{ f:Ex // ∀ g,E3a g→DenB g 0 ks__law_squares (sBody (st3 77)) f }:=⟨_,fun g E =>
  (je (jq (k:=3) ji rfl)
  (je (yz (jz (jj E.ok (k:=7) rfl (.inr E.b.range)) (.cons ji (fun _=>rfl) .nil) yI) (jl (k:=4) rfl) (je (yz (jz (jj E.ok (k:=7) rfl (.inr E.b.range)) (.cons (ja (k:=4) rfl) (fun _=>rfl) .nil) yI) (jl (k:=5) rfl) (je (yz (jz (jj E.ok (k:=7) rfl (.inr E.b.range)) (.cons (ja (k:=5) rfl) (fun _=>rfl) .nil) yI) (jl (k:=6) rfl) (je (dens_aug (k:=3) rfl (jk (jk (jk (jk (jn (ja (k:=0) rfl) (ja (k:=4) rfl)) (jk (jk (jn (ja (k:=1) rfl) (ja (k:=5) rfl)) (jn (ja (k:=2) rfl) (ja (k:=6) rfl)) yw) (jk (jn (ja (k:=1) rfl) (ja (k:=6) rfl)) (jn (ja (k:=2) rfl) (ja (k:=5) rfl)) yw) vm) yw) (jk (jn (ja (k:=0) rfl) (ja (k:=5) rfl)) (jk (jk (jn (ja (k:=1) rfl) (ja (k:=4) rfl)) (jn (ja (k:=2) rfl) (ja (k:=6) rfl)) yw) (jk (jn (ja (k:=1) rfl) (ja (k:=6) rfl)) (jn (ja (k:=2) rfl) (ja (k:=4) rfl)) yw) vm) yw) vm) (jk (jn (ja (k:=0) rfl) (ja (k:=6) rfl)) (jk (jk (jn (ja (k:=1) rfl) (ja (k:=4) rfl)) (jn (ja (k:=2) rfl) (ja (k:=5) rfl)) yw) (jk (jn (ja (k:=1) rfl) (ja (k:=5) rfl)) (jn (ja (k:=2) rfl) (ja (k:=4) rfl)) yw) vm) yw) j6) ji op_pow) op_iadd)
  jg) jg)
  jg) jg)
  jg) jg)
  (je (jA (ja (k:=3) rfl))
  jg)))⟩
theorem h__law_squares {g:G} (E:E3a g):HasF g 1 (st3 77) ((ks__law_squares.take 3).map (·.1)) (fnOf ks__law_squares 3 4 yl.1):=vF E.ok E.f_law_squares (yl.2 g E) rfl (by decide) (by decide)
noncomputable def sCBody:Stmt→List Stmt
  | .ClassDef (body:=x) ..=>x
  | _=>[]
noncomputable def mt3 (j:Nat):Stmt:=(sCBody (PySem.Challenge.pw_sn0088_03.main.body.getD 71 default)).getD j default
noncomputable def vV:Array Nat:=#[14,10,4,1,1,22,0,31,16,127,0,13,7,22,0,31,16,127,0,1]
noncomputable def code2:Array Nat:=#[14,14,4,1,1,9,4294966783,0,0,2147483648,0,0,0,0,0,13,11,9,4294966783,0,0,2147483648,0,0,0,0,0,1]
structure Re1 (g:G) (p1 p2:Addr):Prop where
  h1:g.mg "_name_disallowed_re"=some (.ref p1)
  h2:g.mg "_value_disallowed_re"=some (.ref p2)
  o1:PatOk g.h₀ p1 vV
  o2:PatOk g.h₀ p2 code2
  ne:p2 ≠ p1
theorem Re1.T {g:G} {p1 p2:Addr} (r:Re1 g p1 p2):∀ a code,([(p1,vV),(p2,code2)]:List (Addr×Array Nat)).lookup a=some code→PatOk g.h₀ a code:=by
  intro a code h
  rw [List.lookup_cons] at h
  split at h
  · rename_i e; injection h with h; subst h; rw [eq_of_beq e]; exact r.o1
  · rw [List.lookup_cons] at h
    split at h
    · rename_i e; injection h with h; subst h; rw [eq_of_beq e]; exact r.o2
    · exact jb h
noncomputable def ks_conv:List (Str×VK):=[("self",.par),("value",.loc),("name",.loc),("regex",.loc),("type",.glo),("str",.glo),("_name_disallowed_re",.glo),("_value_disallowed_re",.glo)]
noncomputable def den_conv (g:G) (ok:GOk g) (b:Blt g) (p1 p2:Addr) (r:Re1 g p1 p2):{ f:Ex // DenB g 0 ks_conv (sBody (mt3 1)) f }:=⟨_,
  (je (jN (j0 (jz (jj ok (k:=4) rfl (.inr b.type)) (.cons (ja (k:=1) rfl) (fun _=>rfl) .nil) fn_type) (jj (c:=.type "str") ok (k:=5) rfl (.inr b.str)) op_is rfl)
    (je (jq (k:=3) (den_if (yO (ja (k:=2) rfl)) (jj (c:=.ref p1) ok (k:=6) rfl (.inl r.h1)) (jj (c:=.ref p2) ok (k:=7) rfl (.inl r.h2))) rfl)
    (je (jN (yO (den_search (T:=[(p1,vV),(p2,code2)]) r.T (ja (k:=3) rfl) (ja (k:=1) rfl))) (je vU jg) jg)
    (je (jA (ja (k:=1) rfl)) jg))) jg)
  (je vU jg))⟩
noncomputable def slStr:Slot→Option (List Nat)
  | .pv (.str c)=>some c
  | _=>none
noncomputable def slBool:Slot→Option Bool
  | .pv (.bool b)=>some b
  | _=>none
noncomputable def slBr:Slot→Option OB
  | .br o=>some o
  | _=>none
theorem slStr_is {x:Slot} {c:List Nat} {C:Prop} (h:slStr x=some c) (k:x=.pv (.str c)→C):C:=by
  cases x with
  | pv p =>
    cases p with
    | str d=>exact k (Option.some.inj h ▸ rfl)
    | _=>exact jb h
  | _=>exact jb h
theorem slBool_is {x:Slot} {c:Bool} {C:Prop} (h:slBool x=some c) (k:x=.pv (.bool c)→C):C:=by
  cases x with
  | pv p =>
    cases p with
    | bool d=>exact k (Option.some.inj h ▸ rfl)
    | _=>exact jb h
  | _=>exact jb h
theorem slBr_is {x:Slot} {o:OB} {C:Prop} (h:slBr x=some o) (k:x=.br o→C):C:=by
  cases x with
  | br d=>exact k (Option.some.inj h ▸ rfl)
  | _=>exact jb h
noncomputable def sh2 {α : Type} (k:Slot→Slot→Option α) (sls:VS):Option α:=match sls with
  | [x,y]=>k x y
  | _=>none
noncomputable def sh3 {α : Type} (k:Slot→Slot→Slot→Option α) (sls:VS):Option α:=match sls with
  | [x,y,z]=>k x y z
  | _=>none
theorem sh2_is {α : Type} {k:Slot→Slot→Option α} {sls:VS} {q:α} {C:Prop} (h:sh2 k sls=some q) (f:∀ x y,sls=[x,y]→k x y=some q→C):C:=by
  cases sls with
  | nil=>exact jb h
  | cons x l =>
    cases l with
    | nil=>exact jb h
    | cons y l =>
      cases l with
      | nil=>exact f x y rfl h
      | cons z l=>exact jb h
theorem sh3_is {α : Type} {k:Slot→Slot→Slot→Option α} {sls:VS} {q:α} {C:Prop} (h:sh3 k sls=some q) (f:∀ x y z,sls=[x,y,z]→k x y z=some q→C):C:=by
  cases sls with
  | nil=>exact jb h
  | cons x l=>exact sh2_is (k:=k x) (sls:=l) (by cases l with
      | nil=>exact jb h
      | cons y l =>
        cases l with
        | nil=>exact jb h
        | cons z l =>
          cases l with
          | nil=>exact h
          | cons w l=>exact jb h) fun y z e g=>f x y z (congrArg (x::·) e) g
theorem any_is {α : Type} {o:Option α} {p:α→Bool} {C:Prop} (h:o.any p=true) (k:∀ a,o=some a→p a=true→C):C:=by
  cases o with
  | none=>exact nomatch h
  | some a=>exact k a rfl h
noncomputable def convF:jw:=sh3 fun x y z=>(slBr x).bind fun _=>(slStr y).bind fun c=>(slBool z).bind fun b=>if yn (if b then vV else code2) c=true∧c.length≤100000 then some (.pv (.str c),[.un,.un,.un]) else none
theorem convF_is {o:OB} {c:List Nat} {b:Bool}:convF [.br o,.pv (.str c),.pv (.bool b)]=if yn (if b then vV else code2) c=true∧c.length≤100000 then some (.pv (.str c),[.un,.un,.un]) else none:=rfl
theorem conv_is {g:G} {ok:GOk g} {b:Blt g} {p1 p2:Addr} {r:Re1 g p1 p2}:∀ sls q,convF sls=some q→fnOf ks_conv 3 1 (den_conv g ok b p1 p2 r).1 sls=some q:=by
  intro sls q h0
  refine sh3_is h0 fun x y z e0 h=>?_
  subst e0
  revert h
  refine jc fun o h1 h=>?_
  revert h
  refine jc fun c h2 h=>?_
  revert h
  refine jc fun t h3 h=>?_
  refine slBr_is h1 fun e=>?_
  subst e
  refine slStr_is h2 fun e=>?_
  subst e
  refine slBool_is h3 fun e=>?_
  subst e
  · by_cases hc:yn (if t then vV else code2) c=true∧c.length≤100000
    · rw [if_pos hc] at h
      injection h with h; subst h
      have e:(p2 == p1)=false:=beq_eq_false_iff_ne.mpr r.ne
      cases t with
      | true =>
        have hc:yn vV c=true∧c.length≤100000:=hc
        simp [fnOf,okIn,ks_conv,pk,den_conv,jm,exIf,te2,ev2,evFn,jI,jf,vQ,frz,semType,jo,semIs_tt,truth,jD,evIf,vZ,pvOf,evSearch,List.lookup_cons,hc,vE,Ja,gives,giveAt,jr,List.range_succ]
      | false =>
        have hc:yn code2 c=true∧c.length≤100000:=hc
        simp [fnOf,okIn,ks_conv,pk,den_conv,jm,exIf,te2,ev2,evFn,jI,jf,vQ,frz,semType,jo,semIs_tt,truth,jD,evIf,vZ,pvOf,evSearch,List.lookup_cons,e,hc,vE,Ja,gives,giveAt,jr,List.range_succ]
    · rw [if_neg hc] at h; exact jb h
theorem h_conv {g:G} {df kd:Value} (ok:GOk g) (b:Blt g) {p1 p2:Addr} (r:Re1 g p1 p2) (a:MAt g "_convert_string_type" (mt3 1) df kd):HasM g 1 "_convert_string_type" (mt3 1) df kd ["self","value","name"] convF :=
  HasM.weaken (F:=fnOf ks_conv 3 1 (den_conv g ok b p1 p2 r).1) (conv_is (ok:=ok) (b:=b) (r:=r)) (hasM_of (n:=3) (nl:=1) ok a (den_conv g ok b p1 p2 r).2 rfl (by decide) (by decide))
theorem vn {kd:Value}:∀ fd,MFd (mt3 1) fd→fd.defaults=.none→fd.kwdefaults=kd→∀ s:Shared,∀ a us ws,us.length=1→ws.length=1→BindsTo s fd ⟨a::us,[("name" : Str)].zip ws⟩ ((["self","value","name"]:List Str).zip (a::(us++ws++[]))):=by
  intro fd M e1 e2 s a us ws h1 h2
  obtain ⟨u,rfl⟩:=List.length_eq_one_iff.mp h1
  obtain ⟨w,rfl⟩:=List.length_eq_one_iff.mp h2
  obtain ⟨m1,m2,m3,m4,m5,m6⟩:=M
  obtain ⟨f1,f2,f3,f4,f5,f6,f7,f8,f9⟩:=fd
  dsimp only at m1 m2 m3 m4 m5 m6 e1 e2
  subst m1 m2 m3 m4 m5 m6 e1 e2
  exact .of_eq rfl
structure H1 (g:G):Prop where
  ok:GOk g
  hc:HCls g
  conv:HasM g 1 "_convert_string_type" (mt3 1) .none .none ["self","value","name"] convF
noncomputable def vB:List (Str×VK):=[("self",.par)]
noncomputable def den_items:{ f:Ex // ∀ g,H1 g→DenB g 0 vB (sBody (mt3 11)) f }:=⟨_,fun g E=>je (jA (j5 (Jd (k:=0) E.hc rfl) .none .none)) jg⟩
theorem h_items {g:G} {kd df:Value} (E:H1 g) (a:MAt g "items" (mt3 11) df kd):HasM g 1 "items" (mt3 11) df kd ["self"] (fnOf vB 1 0 den_items.1):=hasM_of (n:=1) (nl:=0) E.ok a (den_items.2 g E) rfl (by decide) (by decide)
theorem bind_self {j:Nat} {kd:Value} (hj:j=11 ∨ j=9):∀ fd,MFd (mt3 j) fd→fd.defaults=.none→fd.kwdefaults=kd→∀ s:Shared,∀ a us ws,us.length=0→ws.length=0→BindsTo s fd ⟨a::us,([]:List Str).zip ws⟩ ((["self"]:List Str).zip (a::(us++ws++[]))):=by
  intro fd M e1 e2 s a us ws h1 h2
  obtain rfl:=List.length_eq_zero_iff.mp h1
  obtain rfl:=List.length_eq_zero_iff.mp h2
  obtain ⟨m1,m2,m3,m4,m5,m6⟩:=M
  obtain ⟨f1,f2,f3,f4,f5,f6,f7,f8,f9⟩:=fd
  dsimp only at m1 m2 m3 m4 m5 m6 e1 e2
  subst m1 m2 m3 m4 m5 m6 e1 e2
  rcases hj with rfl | rfl <;> exact .of_eq rfl
noncomputable def ks_ga:List (Str×VK):=[("self",.par),("name",.cel)]
noncomputable def den_ga:{ f:Ex // ∀ g,H1 g→DenB g 1 ks_ga (sBody (mt3 7)) f }:=⟨_,fun g E =>
  (je (jq (k:=1) (yi (k:=0) (n:=1) (ds:=[]) (dvs:=[]) E.conv rfl (.cons (jv (ja (k:=1) rfl) .nil (jZ PySem.F.slot_str_lower PySem.F.type_str_lower _) (fn_lower.m _)) (fun _=>rfl) .nil) (.cons (x := "name") yZ (fun _ _=>rfl) .nil) (by decide) (fun _=>.nil)
      (fun fd M e1 e2 s _ a us ws h1 h2=>vn fd M e1 e2 s a us ws h1 h2)) rfl)
  (je (jA (yk (ks':=[("name",.fre),("kv",.loc)]) (fm:=[1]) (nl:=1) (ya (Jd (k:=0) E.hc rfl) (jl (k:=1) rfl))
    (dts_one (j0 (jv (jn (ja (k:=1) rfl) ji) .nil (jZ PySem.F.slot_str_lower PySem.F.type_str_lower _) (fn_lower.m _)) (ja (k:=0) rfl) op_eq rfl))
    (jH rfl (jn (ja (k:=1) rfl) ji)) ⟨rfl,rfl,rfl,rfl,by decide,by decide,by decide⟩)) jg))⟩
theorem h_ga {g:G} {kd df:Value} (E:H1 g) (a:MAt g "get_all" (mt3 7) df kd):HasM g 2 "get_all" (mt3 7) df kd ["self","name"] (fnOf ks_ga 2 0 den_ga.1):=hasM_of (n:=2) (nl:=0) E.ok a (den_ga.2 g E) rfl (by decide) (by decide)
theorem bind_ga {kd:Value}:∀ fd,MFd (mt3 7) fd→fd.defaults=.none→fd.kwdefaults=kd→∀ s:Shared,∀ a us ws,us.length=1→ws.length=0→BindsTo s fd ⟨a::us,([]:List Str).zip ws⟩ ((["self","name"]:List Str).zip (a::(us++ws++[]))):=by
  intro fd M e1 e2 s a us ws h1 h2
  obtain ⟨u,rfl⟩:=List.length_eq_one_iff.mp h1
  obtain rfl:=List.length_eq_zero_iff.mp h2
  obtain ⟨m1,m2,m3,m4,m5,m6⟩:=M
  obtain ⟨f1,f2,f3,f4,f5,f6,f7,f8,f9⟩:=fd
  dsimp only at m1 m2 m3 m4 m5 m6 e1 e2
  subst m1 m2 m3 m4 m5 m6 e1 e2
  exact .of_eq rfl
noncomputable def ks_ah:List (Str×VK):=[("self",.par),("_name",.loc),("_value",.loc),("_params",.loc),("parts",.loc),("k",.loc),("v",.loc)]
noncomputable def den_ah:{ f:Ex // ∀ g,H1 g→DenB g 1 ks_ah (sBody (mt3 16)) f }:=⟨_,fun g E =>
  (je (yP (k:=4) (yb .nil) rfl)
  (je (jN (j0 (ja (k:=2) rfl) den_none op_isNot rfl)
    (je (jq (k:=2) (yi (k:=0) (n:=1) (ds:=[]) (dvs:=[]) E.conv rfl (.cons (ja (k:=2) rfl) (fun _=>rfl) .nil) (.cons (x := "name") yZ (fun _ _=>rfl) .nil) (by decide) (fun _=>.nil)
      (fun fd M e1 e2 s _ a us ws h1 h2=>vn fd M e1 e2 s a us ws h1 h2)) rfl)
    (je (j8 (jv (ja (k:=4) rfl) (.cons (ja (k:=2) rfl) (fun _=>rfl) .nil) (j7 PySem.F.slot_list_append PySem.F.type_list_append _) (yS _))) jg)) jg)
  (je (dens_noItems (k:=3) rfl)
  (je (j8 (jv (Jd (k:=0) E.hc rfl) (.cons (j4 (.cons (yi (k:=0) (n:=1) (ds:=[]) (dvs:=[]) E.conv rfl (.cons (ja (k:=1) rfl) (fun _=>rfl) .nil) (.cons (x := "name") yZ (fun _ _=>rfl) .nil) (by decide) (fun _=>.nil)
      (fun fd M e1 e2 s _ a us ws h1 h2=>vn fd M e1 e2 s a us ws h1 h2)) (fun _=>rfl) (.cons (@jv _ _ _ _ _ _ _ _ _ _ _ _ _ _ (jG (c:=[59,32]) rfl) (.cons (ja (k:=4) rfl) (fun _=>rfl) .nil) (jZ PySem.F.slot_str_join PySem.F.type_str_join _) (fn_join.m _) (fun _=>rfl)) (fun _=>rfl) .nil))) (fun _=>rfl) .nil) (j7 PySem.F.slot_list_append PySem.F.type_list_append _) (yS _))) jg))))⟩
theorem bind_ah {kd : Value} : ∀ fd, MFd (mt3 16) fd → fd.defaults = .none → fd.kwdefaults = kd → ∀ (s : Shared) (a : Value) (us : List Value), us.length = 2 → ∀ (M : Model) (A : Around) (E : Value → Shared → Prop) (Q : List (Str × Value) → Shared → Prop),
      Q (((ks_ah.take (2+2)).map (·.1)).zip (a::us++[.ref s.heap.objs.size])) { s with heap:=s.heap.push dobj }→wpAny M A (bindArgs fd ⟨a::us,[]⟩) Q E s:=by
  intro fd MM e1 e2 s a us h1 M A E Q hq
  obtain ⟨u,t,rfl⟩:=List.exists_cons_of_length_eq_add_one h1
  obtain ⟨w,rfl⟩:=List.length_eq_one_iff.mp (Nat.succ.inj h1)
  obtain ⟨m1,m2,m3,m4,m5,m6⟩:=MM
  obtain ⟨f1,f2,f3,f4,f5,f6,f7,f8,f9⟩:=fd
  dsimp only at m1 m2 m3 m4 m5 m6 e1 e2
  subst m1 m2 m3 m4 m5 m6 e1 e2
  show wpAny M A (alloc dobj >>= fun d=>pure (((ks_ah.take (2+2)).map (·.1)).zip (a::[u,w]++[.ref d]))) Q E s
  exact wpAny_bind (wpAny_alloc (wpAny_pure hq))
theorem h_ah {g:G} {kd:Value} (E:H1 g) (a:MAt g "add_header" (mt3 16) .none kd):HasMC g 2 2 "add_header" (kwF (fnOf ks_ah 4 3 den_ah.1)) :=
  hasMC_kw (n:=2) (nl:=3) E.ok a (den_ah.2 g E) bind_ah rfl (by decide) (by decide)
noncomputable def den_keys:{ f:Ex // ∀ g,H1 g→DenB g 0 vB (sBody (mt3 9)) f }:=⟨_,fun g E=>je (jA (yk (ks':=[("k",.loc),("v",.loc)]) (fm:=[]) (nl:=2) (ya (Jd (k:=0) E.hc rfl) (deng_tup (.cons (jl (k:=0) rfl) (fun _=>rfl) (.cons (jl (k:=1) rfl) (fun _=>rfl) .nil)))) ye
  (jH rfl (ja (k:=0) rfl)) ⟨rfl,rfl,rfl,rfl,by decide,by decide,by decide⟩)) jg⟩
theorem h_keys {g:G} {kd df:Value} (E:H1 g) (a:MAt g "keys" (mt3 9) df kd):HasM g 1 "keys" (mt3 9) df kd ["self"] (fnOf vB 1 0 den_keys.1):=hasM_of (n:=1) (nl:=0) E.ok a (den_keys.2 g E) rfl (by decide) (by decide)
noncomputable def ks_get:List (Str×VK):=[("self",.par),("name",.loc),("default",.loc),("k",.loc),("v",.loc)]
noncomputable def den_get:{ f:Ex // ∀ g,H1 g→DenB g 1 ks_get (sBody (mt3 8)) f }:=⟨_,fun g E =>
  (je (jq (k:=1) (yi (k:=0) (n:=1) (ds:=[]) (dvs:=[]) E.conv rfl (.cons (jv (ja (k:=1) rfl) .nil (jZ PySem.F.slot_str_lower PySem.F.type_str_lower _) (fn_lower.m _)) (fun _=>rfl) .nil) (.cons (x := "name") yZ (fun _ _=>rfl) .nil) (by decide) (fun _=>.nil)
      (fun fd M e1 e2 s _ a us ws h1 h2=>vn fd M e1 e2 s a us ws h1 h2)) rfl)
  (je (yz (Jd (k:=0) E.hc rfl) (deng_tup (.cons (jl (k:=3) rfl) (fun _=>rfl) (.cons (jl (k:=4) rfl) (fun _=>rfl) .nil)))
    (je (jN (j0 (jv (ja (k:=3) rfl) .nil (jZ PySem.F.slot_str_lower PySem.F.type_str_lower _) (fn_lower.m _)) (ja (k:=1) rfl) op_eq rfl) (je (jA (ja (k:=4) rfl)) jg) jg) jg) jg)
  (je (jA (ja (k:=2) rfl)) jg)))⟩
theorem h_get {g:G} {T:Addr} (E:H1 g) (a:MAt g "get" (mt3 8) (.ref T) .none):HasM g 2 "get" (mt3 8) (.ref T) .none ["self","name","default"] (fnOf ks_get 3 2 den_get.1):=hasM_of (n:=3) (nl:=2) E.ok a (den_get.2 g E) rfl (by decide) (by decide)
theorem bind_get {g:G} {T:Addr} (hT:∃ o n,g.h₀.get? T=some o∧o.data=.seq #[.none] n):∀ fd,MFd (mt3 8) fd→fd.defaults=.ref T→fd.kwdefaults=.none→∀ s:Shared,(∀ b o,g.h₀.get? b=some o→s.heap.get? b=some o) →
    ∀ a us ws,us.length=1→ws.length=0→BindsTo s fd ⟨a::us,([]:List Str).zip ws⟩ ((["self","name","default"]:List Str).zip (a::(us++ws++[.none]))):=by
  intro fd M e1 e2 s k a us ws h1 h2
  obtain ⟨u,rfl⟩:=List.length_eq_one_iff.mp h1
  obtain rfl:=List.length_eq_zero_iff.mp h2
  obtain ⟨m1,m2,m3,m4,m5,m6⟩:=M
  obtain ⟨f1,f2,f3,f4,f5,f6,f7,f8,f9⟩:=fd
  dsimp only at m1 m2 m3 m4 m5 m6 e1 e2
  subst m1 m2 m3 m4 m5 m6 e1 e2
  obtain ⟨o,n,ho,hd⟩:=hT
  exact .of_defaults (T:=T) rfl (k _ _ ho) hd rfl rfl
noncomputable def ks_di:List (Str×VK):=[("self",.par),("name",.cel)]
noncomputable def den_di:{ f:Ex // ∀ g,H1 g→DenB g 1 ks_di (sBody (mt3 4)) f }:=⟨_,fun g E =>
  (je (jq (k:=1) (yi (k:=0) (n:=1) (ds:=[]) (dvs:=[]) E.conv rfl (.cons (jv (ja (k:=1) rfl) .nil (jZ PySem.F.slot_str_lower PySem.F.type_str_lower _) (fn_lower.m _)) (fun _=>rfl) .nil) (.cons (x := "name") yZ (fun _ _=>rfl) .nil) (by decide) (fun _=>.nil)
      (fun fd M e1 e2 s _ a us ws h1 h2=>vn fd M e1 e2 s a us ws h1 h2)) rfl)
  (je (dens_setAll (yk (ks':=[("name",.fre),("kv",.loc)]) (fm:=[1]) (nl:=1) (ya (Jd (k:=0) E.hc rfl) (jl (k:=1) rfl))
    (dts_one (j0 (jv (jn (ja (k:=1) rfl) ji) .nil (jZ PySem.F.slot_str_lower PySem.F.type_str_lower _) (fn_lower.m _)) (ja (k:=0) rfl) op_ne rfl))
    (jH rfl (ja (k:=1) rfl)) ⟨rfl,rfl,rfl,rfl,by decide,by decide,by decide⟩) (Jd (k:=0) E.hc rfl)) jg))⟩
theorem h_di {g:G} {kd df:Value} (E:H1 g) (a:MAt g "__delitem__" (mt3 4) df kd):HasM g 2 "__delitem__" (mt3 4) df kd ["self","name"] (fnOf ks_di 2 0 den_di.1):=hasM_of (n:=2) (nl:=0) E.ok a (den_di.2 g E) rfl (by decide) (by decide)
theorem bind_di {kd:Value}:∀ fd,MFd (mt3 4) fd→fd.defaults=.none→fd.kwdefaults=kd→∀ (s:Shared) (a:Value) (us:List Value),us.length=1→BindsTo s fd ⟨a::us,[]⟩ ((["self","name"]:List Str).zip (a::us)):=by
  intro fd M e1 e2 s a us h1
  obtain ⟨u,rfl⟩:=List.length_eq_one_iff.mp h1
  obtain ⟨m1,m2,m3,m4,m5,m6⟩:=M
  obtain ⟨f1,f2,f3,f4,f5,f6,f7,f8,f9⟩:=fd
  dsimp only at m1 m2 m3 m4 m5 m6 e1 e2
  subst m1 m2 m3 m4 m5 m6 e1 e2
  exact .of_eq rfl
structure H3 (g:G):Prop extends H1 g where
  noseq:NoSeq g
  di:HasM g 2 "__delitem__" (mt3 4) .none .none ["self","name"] (fnOf ks_di 2 0 den_di.1)
noncomputable def ks_si:List (Str×VK):=[("self",.par),("name",.loc),("val",.loc)]
noncomputable def den_si:{ f:Ex // ∀ g,H3 g→DenB g 2 ks_si (sBody (mt3 3)) f }:=⟨_,fun g E =>
  (je (dens_hdrDel (k:=0) E.noseq E.di rfl (ja (k:=1) rfl) (by decide) (fun fd M e1 e2 s a us h=>bind_di fd M e1 e2 s a us h))
  (je (j8 (jv (Jd (k:=0) E.hc rfl) (.cons (j4 (.cons (yi (k:=0) (n:=1) (ds:=[]) (dvs:=[]) E.conv rfl (.cons (ja (k:=1) rfl) (fun _=>rfl) .nil) (.cons (x := "name") yZ (fun _ _=>rfl) .nil) (by decide) (fun _=>.nil)
      (fun fd M e1 e2 s _ a us ws h1 h2=>vn fd M e1 e2 s a us ws h1 h2)) (fun _=>rfl) (.cons (yi (k:=0) (n:=1) (ds:=[]) (dvs:=[]) E.conv rfl (.cons (ja (k:=2) rfl) (fun _=>rfl) .nil) (.cons (x := "name") yZ (fun _ _=>rfl) .nil) (by decide) (fun _=>.nil)
      (fun fd M e1 e2 s _ a us ws h1 h2=>vn fd M e1 e2 s a us ws h1 h2)) (fun _=>rfl) .nil))) (fun _=>rfl) .nil) (j7 PySem.F.slot_list_append PySem.F.type_list_append _) (yS _))) jg))⟩
theorem h_si {g:G} {kd df:Value} (E:H3 g) (a:MAt g "__setitem__" (mt3 3) df kd):HasM g 3 "__setitem__" (mt3 3) df kd ["self","name","val"] (fnOf ks_si 3 0 den_si.1):=hasM_of (n:=3) (nl:=0) E.ok a (den_si.2 g E) rfl (by decide) (by decide)
theorem bind_si {kd:Value}:∀ fd,MFd (mt3 3) fd→fd.defaults=.none→fd.kwdefaults=kd→∀ (s:Shared) (a:Value) (us:List Value),us.length=2→BindsTo s fd ⟨a::us,[]⟩ ((["self","name","val"]:List Str).zip (a::us)):=by
  intro fd M e1 e2 s a us h1
  obtain ⟨u,t,rfl⟩:=List.exists_cons_of_length_eq_add_one h1
  obtain ⟨w,rfl⟩:=List.length_eq_one_iff.mp (Nat.succ.inj h1)
  obtain ⟨m1,m2,m3,m4,m5,m6⟩:=M
  obtain ⟨f1,f2,f3,f4,f5,f6,f7,f8,f9⟩:=fd
  dsimp only at m1 m2 m3 m4 m5 m6 e1 e2
  subst m1 m2 m3 m4 m5 m6 e1 e2
  exact .of_eq rfl
noncomputable def i0:Stmt:=(sBody (mt3 0)).getD 0 default
noncomputable def i1:Stmt:=(sBody (mt3 0)).getD 1 default
noncomputable def i3:Stmt:=(sBody (mt3 0)).getD 3 default
noncomputable def den_i0:{ f:Ex // ∀ g,GOk g→DenS g 0 j3 i0 f }:=⟨_,fun g ok=>dens_setBr (k:=1) (den_if (j0 (ja (k:=1) rfl) den_none op_isNot rfl) (ja (k:=1) rfl) (yb .nil)) rfl⟩
noncomputable def den_i1:{ f:Ex // ∀ g,GOk g→Blt g→DenS g 0 j3 i1 f }:=⟨_,fun g ok b=>jN (j0 (jz (jj ok (k:=4) rfl (.inr b.type)) (.cons (ja (k:=1) rfl) (fun _=>rfl) .nil) fn_type) (jj (c:=.type "list") ok (k:=5) rfl (.inr b.list)) op_isNot rfl) (je vU jg) jg⟩
noncomputable def den_i3:{ f:Ex // ∀ g,GOk g→DenS g 0 j3 i3 f }:=⟨_,fun g ok=>jN (yO yZ) (je (yz (ja (k:=1) rfl) (deng_tup (.cons (jl (k:=2) rfl) (fun _=>rfl) (.cons (jl (k:=3) rfl) (fun _=>rfl) .nil))) (je vU (je vU jg)) jg) jg) jg⟩
theorem i0_is (x:Value):den_i0.1 (yT x)=some (.next,yT x):=rfl
theorem i1_is (x:Value):den_i1.1 (yT x)=some (.next,yT x):=rfl
theorem i3_is (x:Value):den_i3.1 (yT x)=some (.next,yT x):=rfl
theorem bind_init {g:G} {T:Addr} (hT:∃ o n,g.h₀.get? T=some o∧o.data=.seq #[.none] n):∀ fd,MFd (mt3 0) fd→fd.defaults=.ref T→fd.kwdefaults=.none→∀ s:Shared,(∀ b o,g.h₀.get? b=some o→s.heap.get? b=some o)→∀ x y,BindsTo s fd ⟨[x,y],[]⟩ [("self",x),("headers",y)]:=by
  intro fd M e1 e2 s k x y
  obtain ⟨m1,m2,m3,m4,m5,m6⟩:=M
  obtain ⟨f1,f2,f3,f4,f5,f6,f7,f8,f9⟩:=fd
  dsimp only at m1 m2 m3 m4 m5 m6 e1 e2
  subst m1 m2 m3 m4 m5 m6 e1 e2
  obtain ⟨o,n,ho,hd⟩:=hT
  exact .of_defaults (T:=T) rfl (k _ _ ho) hd rfl rfl
theorem h_new {g:G} {T:Addr} (ok:GOk g) (b:Blt g) (H:HMk g (mt3 0) (.ref T) .none) (hT:∃ o n,g.h₀.get? T=some o∧o.data=.seq #[.none] n) (hmg:g.mg "Headers"=some (.ref g.HC)) {r:Nat} {ks:List (Str×VK)} {k:Nat} {p lp pos:Pos} (hr:1≤r) (hk:ks[k]?=some (("Headers" : Str),VK.glo)) :
    Den g r ks (.Call (.Name "Headers" p) [.List [] lp] [] pos) evHNew :=
  den_hdrNew ok H hmg rfl (den_i0.2 g ok) (den_i1.2 g ok b) (den_i3.2 g ok) i0_is i1_is (fun x=>⟨_,i3_is x⟩) rfl (bind_init hT) hk hr
noncomputable abbrev DS:=List (List Nat×List Nat)
noncomputable def toD (D:DS):List PV:=D.map fun p=>.tup [.str p.1,.str p.2]
noncomputable def lo (c:List Nat):List Nat:=c.map PyProof.Rows.lo1
noncomputable def fnd (D:DS) (n:List Nat):Option (List Nat×List Nat):=D.find? fun q=>lo q.1 == n
noncomputable def cp (c:List Nat):Prop:=c.all (·<0x110000)=true
theorem cp_of {c:List Nat} (h:asc c=true):cp c:=by
  simp only [asc,Bool.and_eq_true,decide_eq_true_eq] at h
  refine List.all_eq_true.mpr fun x hx=>?_
  have:=List.all_eq_true.mp h.1 x hx
  simp at this ⊢
  exact Nat.lt_trans this (by decide)
theorem cp_lo {c:List Nat} (h:asc c=true):cp (lo c):=by
  simp only [asc,Bool.and_eq_true,decide_eq_true_eq] at h
  refine List.all_eq_true.mpr fun x hx=>?_
  obtain ⟨y,hy,rfl⟩:=List.mem_map.mp hx
  have:=List.all_eq_true.mp h.1 y hy
  simp at this ⊢
  unfold PyProof.Rows.lo1
  split
  · exact Nat.lt_of_lt_of_le (Nat.add_lt_add_right this 32) (by decide)
  · exact Nat.lt_trans this (by decide)
noncomputable def Dok (D:DS):Prop:=D.length≤1000∧∀ q∈D,asc q.1=true∧asc q.2=true
noncomputable def gB:Ex:=(jm (exIf (te2 yH (jL isStr (vh (jS fun c=>PV.str (List.map PyProof.Rows.lo1 c))) (jf 3) []) (jf 1)) (jm (vE (jf 4)) jr) jr) jr)
theorem gB_is {R:OB} {n h t:List Nat} (hh:asc h=true) (hn:cp n):gB [.br R,.pv (.str n),.pv .none,.pv (.str h),.pv (.str t)]=some (if lo h == n then .ret (.pv (.str t)) else .next,[.br R,.pv (.str n),.pv .none,.pv (.str h),.pv (.str t)]):=by
  have h1:=cp_lo hh
  unfold cp lo at *
  cases e:(List.map PyProof.Rows.lo1 h == n) <;>
  simp [gB,jm,exIf,te2,ev2,jL,jf,vQ,frz,isStr,jI,vh,jS,hh,yH,vX,jy,okD,hn,h1,pvEq,PV.isS,e,truth,jr,vE,lo]
theorem Dok.tl {q:List Nat×List Nat} {D:DS} (h:Dok (q::D)):Dok D:=⟨Nat.le_of_succ_le h.1,fun x hx=>h.2 x (List.mem_cons_of_mem _ hx)⟩
theorem get_loop {R:OB} {n:List Nat} (hn:cp n):∀ (D:DS) (x3 x4:Slot),Dok D→∃ x3' x4',yJ (jR [jh 3,jh 4]) gB jr (toD D) [.br R,.pv (.str n),.pv .none,x3,x4] =
    some (match fnd D n with | some q=>.ret (.pv (.str q.2)) | none=>.next,[.br R,.pv (.str n),.pv .none,x3',x4'])
  | [],x3,x4,_=>⟨x3,x4,rfl⟩
  | q::D,x3,x4,h=>by
    obtain ⟨a,b⟩:=q
    have hb:=h.2 (a,b) List.mem_cons_self
    have st:yJ (jR [jh 3,jh 4]) gB jr (toD ((a,b)::D)) [.br R,.pv (.str n),.pv .none,x3,x4]=(gB [.br R,.pv (.str n),.pv .none,.pv (.str a),.pv (.str b)]).bind fun q=>match q.1 with
      | .next=>yJ (jR [jh 3,jh 4]) gB jr (toD D) q.2
      | .brk=>some (.next,q.2)
      | .ret v=>some (.ret v,q.2):=rfl
    rw [st,gB_is hb.1 hn]
    cases e:(lo a == n) with
    | true=>exact ⟨.pv (.str a),.pv (.str b),by simp [fnd,e]⟩
    | false =>
      obtain ⟨y3,y4,q⟩:=get_loop hn D (.pv (.str a)) (.pv (.str b)) h.tl
      exact ⟨y3,y4,by simp only [Option.bind,Bool.false_eq_true,if_false]; rw [q]; simp [fnd,e]⟩
noncomputable abbrev getF:jw:=fnOf ks_get 3 2 den_get.1
theorem get_is {D:DS} {c:List Nat} (hD:Dok D) (hc:asc c=true) (hp:yn vV (lo c)=true) :
    getF [.br (.hdr (toD D)),.pv (.str c),.pv .none]=some (match fnd D (lo c) with | some q=>.pv (.str q.2) | none=>.pv .none,[.un,.un,.un]):=by
  obtain ⟨y3,y4,q⟩:=get_loop (R:=.hdr (toD D)) (cp_lo hc) D .un .un hD
  have hl:(lo c).length≤100000:=by simp only [asc,Bool.and_eq_true,decide_eq_true_eq] at hc; simpa [lo] using hc.2
  have hl':c.length≤100000:=by simpa [lo] using hl
  have e1:jD 1 (jE 0 1 convF [jL isStr (vh (jS fun c=>PV.str (List.map PyProof.Rows.lo1 c))) (jf 1) []] [jo (PV.bool true)] []) [.br (.hdr (toD D)),.pv (.str c),.pv .none,.un,.un]=some (.next,[.br (.hdr (toD D)),.pv (.str (lo c)),.pv .none,.un,.un]):=by
    have hp':=hp
    unfold lo at hp'
    simp [jD,jE,yt,evs,jL,jf,vQ,frz,isStr,jI,vh,jS,hc,pvOf,jo,Jb,convF_is,hp',hl',vR,lo]
  have e2:yE (yW 0) (jR [jh 3,jh 4]) gB jr [.br (.hdr (toD D)),.pv (.str (lo c)),.pv .none,.un,.un]=some (match fnd D (lo c) with | some q=>.ret (.pv (.str q.2)) | none=>.next,[.br (.hdr (toD D)),.pv (.str (lo c)),.pv .none,y3,y4]):=q
  show (jm _ (jm (yE (yW 0) (jR [jh 3,jh 4]) gB jr) (jm (vE (jf 2)) jr)) [.br (.hdr (toD D)),.pv (.str c),.pv .none,.un,.un]).bind _=_
  unfold jm
  rw [e1]
  show ((yE (yW 0) (jR [jh 3,jh 4]) gB jr [.br (.hdr (toD D)),.pv (.str (lo c)),.pv .none,.un,.un]).bind _).bind _=_
  rw [e2]
  cases fnd D (lo c) <;> rfl
theorem toD_app (D:DS) (c t:List Nat):toD (D++[(c,t)])=toD D++[.tup [.str c,.str t]]:=by simp [toD]
theorem toD_len (D:DS):(toD D).length=D.length:=by simp [toD]
noncomputable abbrev itemsF:jw:=fnOf vB 1 0 den_items.1
noncomputable abbrev keysF:jw:=fnOf vB 1 0 den_keys.1
theorem items_is {D:DS} (h:D.length≤1000):itemsF [.br (.hdr (toD D))]=some (.pv (.lst (toD D)),[.un]):=by
  have hl:(toD D).length≤100000:=by simp [toD]; exact Nat.le_trans h (by decide)
  have hc:cut none none (toD D)=toD D:=by simp [cut]
  unfold itemsF den_items
  simp [fnOf,okIn,vB,pk,jm,vE,yx,yW,yt,frz,evPart,semCut,jy,slotH,hl,hc,Ja,gives,giveAt,List.range_succ]
theorem keys_loop:∀ (D:DS) (x0 x1:Slot),∃ y0 y1,jJ (jR [jh 0,jh 1]) (jC true) (yd (jf 0)) (toD D) [x0,x1]=some (D.map fun q=>.str q.1,[y0,y1])
  | [],x0,x1=>⟨x0,x1,rfl⟩
  | q::D,x0,x1=>by
    obtain ⟨y0,y1,e⟩:=keys_loop D (.pv (.str q.1)) (.pv (.str q.2))
    refine ⟨y0,y1,?_⟩
    show ((jJ _ _ _ (toD D) [.pv (.str q.1),.pv (.str q.2)]).map _)=_
    rw [e]; rfl
theorem keys_is {D:DS} (h:D.length≤1000):keysF [.br (.hdr (toD D))]=some (.ob (.list (D.map fun q=>.str q.1)),[.un]):=by
  obtain ⟨y0,y1,e⟩:=keys_loop D .un .un
  have hl:(D.map fun q=>PV.str q.1).length≤100000:=by simp; exact Nat.le_trans h (by decide)
  have e1:jF (evIt true (yW 0)) [] 2 (jR [jh 0,jh 1]) (jC true) (yd (jf 0)) [.br (.hdr (toD D))]=some (.obj (.list (D.map fun q=>.str q.1)),[.br (.hdr (toD D))]):=by
    unfold jF
    show ((jJ (jR [jh 0,jh 1]) (jC true) (yd (jf 0)) (toD D) [.un,.un]).bind _)=_
    rw [e]
    show (if (D.map fun q=>PV.str q.1).length≤100000 then _ else none)=_
    rw [if_pos hl]
  unfold keysF den_keys
  simp [fnOf,okIn,vB,pk,jm,vE,e1,Ja,gives,giveAt,List.range_succ]
noncomputable abbrev gaF:jw:=fnOf ks_ga 2 0 den_ga.1
noncomputable def gaT:Te:=te2 yH (jL isStr (vh (jS fun c=>PV.str (List.map PyProof.Rows.lo1 c))) (ev2 jp (jf 1) (jo (PV.int 0))) []) (jf 0)
noncomputable def diT:Te:=te2 v9 (jL isStr (vh (jS fun c=>PV.str (List.map PyProof.Rows.lo1 c))) (ev2 jp (jf 1) (jo (PV.int 0))) []) (jf 0)
noncomputable def gaE:Em:=yd (ev2 jp (jf 1) (jo (PV.int 1)))
noncomputable def diE:Em:=yd (jf 1)
theorem gaT_is {a b n:List Nat} (ha:asc a=true) (hc:cp n):gaT [.pv (.str n),.pv (.tup [.str a,.str b])]=some (lo a == n,[.pv (.str n),.pv (.tup [.str a,.str b])]):=by
  have h1:=cp_lo ha
  unfold cp lo at *
  have hs:seqIndex? 0 2=some 0:=rfl
  simp [gaT,te2,ev2,jL,jf,vQ,frz,isStr,jI,vh,jS,ha,yH,vX,jy,okD,hc,h1,pvEq,PV.isS,truth,jp,AVal.int?,AVal.pv?,PV.int?,itOf,itT,jo,idx,hs]
theorem diT_is {a b n:List Nat} (ha:asc a=true) (hc:cp n):diT [.pv (.str n),.pv (.tup [.str a,.str b])]=some (lo a != n,[.pv (.str n),.pv (.tup [.str a,.str b])]):=by
  have h1:=cp_lo ha
  unfold cp lo at *
  have hs:seqIndex? 0 2=some 0:=rfl
  simp [diT,te2,ev2,jL,jf,vQ,frz,isStr,jI,vh,jS,ha,v9,vX,jy,okD,hc,h1,pvEq,PV.isS,truth,jp,AVal.int?,AVal.pv?,PV.int?,itOf,itT,jo,idx,hs,bne]
theorem sel_run {T:Te} {e:Em} {n:List Nat} {f:List Nat×List Nat→Bool} {r:List Nat×List Nat→PV} (hT:∀ a b,asc a=true→T [.pv (.str n),.pv (.tup [.str a,.str b])]=some (f (a,b),[.pv (.str n),.pv (.tup [.str a,.str b])]))
    (he:∀ a b,e [.pv (.str n),.pv (.tup [.str a,.str b])]=some ([r (a,b)],[.pv (.str n),.pv (.tup [.str a,.str b])])):∀ (D:DS) (x:Slot),Dok D→∃ x',jJ (jh 1) T e (toD D) [.pv (.str n),x]=some ((D.filter f).map r,[.pv (.str n),x'])
  | [],x,_=>⟨x,rfl⟩
  | (a,b)::D,x,h=>by
    have ha:=(h.2 (a,b) List.mem_cons_self).1
    obtain ⟨x',ih⟩:=sel_run hT he D (.pv (.tup [.str a,.str b])) h.tl
    refine ⟨x',?_⟩
    show ((T [.pv (.str n),.pv (.tup [.str a,.str b])]).bind fun p=>if p.1 then (e p.2).bind fun q=>(jJ (jh 1) T e (toD D) q.2).map fun r=>(q.1++r.1,r.2) else jJ (jh 1) T e (toD D) p.2)=_
    rw [hT a b ha,Option.bind_some,List.filter_cons]
    cases f (a,b) with
    | false=>exact ih
    | true =>
      rw [if_pos rfl,he,Option.bind_some,ih]
      rfl
noncomputable def yr (c:List Nat):Bool:=asc c&&(yn vV c&&yn vV (lo c))
noncomputable def vY (c:List Nat):Bool:=asc c&&yn code2 c
theorem asc_len {c:List Nat} (h:asc c=true):c.length≤100000:=by simp only [asc,Bool.and_eq_true,decide_eq_true_eq] at h; exact h.2
theorem yh {c:List Nat} (h:yr c=true):asc c=true∧yn vV c=true∧yn vV (lo c)=true∧c.length≤100000∧(lo c).length≤100000:=by
  unfold yr at h
  simp only [Bool.and_eq_true] at h
  have:=asc_len h.1
  exact ⟨h.1,h.2.1,h.2.2,this,by rw [lo,List.length_map]; exact this⟩
theorem valOk_f {c:List Nat} (h:vY c=true):asc c=true∧yn code2 c=true∧c.length≤100000:=by
  unfold vY at h
  simp only [Bool.and_eq_true] at h
  exact ⟨h.1,h.2,asc_len h.1⟩
theorem low_is {c:List Nat} {l:List PV} (hn:yr c=true):jD 1 (jE 0 1 convF [jL isStr (vh (jS fun c=>PV.str (List.map PyProof.Rows.lo1 c))) (jf 1) []] [jo (PV.bool true)] []) [.br (.hdr l),.pv (.str c)]=some (.next,[.br (.hdr l),.pv (.str (lo c))]):=by
  obtain ⟨f1,_,f4,_,f5⟩:=yh hn
  unfold lo at *
  rw [List.length_map] at f5
  simp [jD,jE,yt,evs,jL,jf,vQ,frz,isStr,jI,vh,jS,f1,pvOf,jo,Jb,convF_is,f4,f5,vR]
theorem low_isO {c:List Nat} {l:List PV} (hn:yr c=true):jD 1 (jE 0 1 convF [jL isStr (vh (jS fun c=>PV.str (List.map PyProof.Rows.lo1 c))) (jf 1) []] [jo (PV.bool true)] []) [.ob (.hdr l),.pv (.str c)]=some (.next,[.ob (.hdr l),.pv (.str (lo c))]):=by
  obtain ⟨f1,_,f4,_,f5⟩:=yh hn
  unfold lo at *
  rw [List.length_map] at f5
  simp [jD,jE,yt,evs,jL,jf,vQ,frz,isStr,jI,vh,jS,f1,pvOf,jo,Jb,convF_is,f4,f5,vR]
theorem ga_is {D:DS} {c:List Nat} (hD:Dok D) (hn:yr c=true):gaF [.br (.hdr (toD D)),.pv (.str c)]=some (.ob (.list ((D.filter fun q=>lo q.1 == lo c).map fun q=>.str q.2)),[.un,.un]):=by
  have f1:=(yh hn).1
  obtain ⟨x',hr⟩:=sel_run (n:=lo c) (T:=gaT) (e:=gaE) (f:=fun q=>lo q.1 == lo c) (r:=fun q=>.str q.2) (fun a b ha=>gaT_is ha (cp_lo f1)) (fun a b=>rfl) D .un hD
  have hl:((D.filter fun q=>lo q.1 == lo c).map fun q=>PV.str q.2).length≤100000:=by
    rw [List.length_map]; exact Nat.le_trans (List.length_filter_le ..) (Nat.le_trans hD.1 (by decide))
  have e2:jF (evIt true (yW 0)) [1] 1 (jh 1) gaT gaE [.br (.hdr (toD D)),.pv (.str (lo c))]=some (.obj (.list ((D.filter fun q=>lo q.1 == lo c).map fun q=>.str q.2)),[.br (.hdr (toD D)),.pv (.str (lo c))]):=by
    show (jJ (jh 1) gaT gaE (toD D) [.pv (.str (lo c)),.un]).bind _=_
    rw [hr,Option.bind_some,if_pos hl]
  show (jm _ (jm (vE (jF (evIt true (yW 0)) [1] 1 (jh 1) gaT gaE)) jr) [.br (.hdr (toD D)),.pv (.str c)]).bind _=_
  unfold jm
  rw [low_is hn]
  show (((vE (jF (evIt true (yW 0)) [1] 1 (jh 1) gaT gaE)) [.br (.hdr (toD D)),.pv (.str (lo c))]).bind _).bind _=_
  unfold vE
  rw [e2]
  rfl
noncomputable abbrev diF:jw:=fnOf ks_di 2 0 den_di.1
noncomputable def delD (D:DS) (c:List Nat):DS:=D.filter fun q=>lo q.1 != lo c
theorem delD_ok {D:DS} {c:List Nat} (h:Dok D):Dok (delD D c):=⟨Nat.le_trans (List.length_filter_le ..) h.1,fun q hq=>h.2 q (List.mem_filter.mp hq).1⟩
theorem di_is {D:DS} {c:List Nat} (hD:Dok D) (hn:yr c=true):diF [.ob (.hdr (toD D)),.pv (.str c)]=some (.pv .none,[.ob (.hdr (toD (delD D c))),.un]):=by
  have f1:=(yh hn).1
  obtain ⟨x',hr⟩:=sel_run (n:=lo c) (T:=diT) (e:=diE) (f:=fun q=>lo q.1 != lo c) (r:=fun q=>.tup [.str q.1,.str q.2]) (fun a b ha=>diT_is ha (cp_lo f1)) (fun a b=>rfl) D .un hD
  have hx:((D.filter fun q=>lo q.1 != lo c).map fun q=>PV.tup [.str q.1,.str q.2])=toD (delD D c):=rfl
  rw [hx] at hr
  have hl0:(toD D).length+(toD (delD D c)).length≤100000:=by
    have h1:=hD.1
    have h2:=(delD_ok (c:=c) hD).1
    rw [toD_len,toD_len]; exact Nat.le_trans (Nat.add_le_add h1 h2) (by decide)
  have hl:(toD (delD D c)).length≤100000:=Nat.le_trans (Nat.le_add_left _ _) hl0
  have e2:jF (evIt true (yW 0)) [1] 1 (jh 1) diT diE [.ob (.hdr (toD D)),.pv (.str (lo c))]=some (.obj (.list (toD (delD D c))),[.ob (.hdr (toD D)),.pv (.str (lo c))]):=by
    show (jJ (jh 1) diT diE (toD D) [.pv (.str (lo c)),.un]).bind _=_
    rw [hr,Option.bind_some,if_pos hl]
  have e3:exSetAll (jF (evIt true (yW 0)) [1] 1 (jh 1) diT diE) (yW 0) [.ob (.hdr (toD D)),.pv (.str (lo c))]=some (.next,[.ob (.hdr (toD (delD D c))),.pv (.str (lo c))]):=by
    unfold exSetAll
    rw [e2]
    show (if (toD D).length+(toD (delD D c)).length≤100000 then _ else none)=_
    rw [if_pos hl0]; rfl
  show (jm _ (jm (exSetAll (jF (evIt true (yW 0)) [1] 1 (jh 1) diT diE) (yW 0)) jr) [.ob (.hdr (toD D)),.pv (.str c)]).bind _=_
  unfold jm
  rw [low_isO hn]
  show ((exSetAll (jF (evIt true (yW 0)) [1] 1 (jh 1) diT diE) (yW 0) [.ob (.hdr (toD D)),.pv (.str (lo c))]).bind _).bind _=_
  rw [e3]
  rfl
noncomputable abbrev siF:jw:=fnOf ks_si 3 0 den_si.1
noncomputable def siE:Ex:=jm (yN (jL yB yf (yW 0) [evTup [jE 0 1 convF [jf 1] [jo (PV.bool true)] [],jE 0 1 convF [jf 2] [jo (PV.bool false)] []]])) jr
theorem siE_is {D:DS} {c t:List Nat} (hD:Dok D) (hn:yr c=true) (hv:vY t=true):siE [.ob (.hdr (toD D)),.pv (.str c),.pv (.str t)]=some (.next,[.ob (.hdr (toD (D++[(c,t)]))),.pv (.str c),.pv (.str t)]):=by
  obtain ⟨_,hp1,_,hl',_⟩:=yh hn
  obtain ⟨_,hp2,hlt⟩:=valOk_f hv
  have hDl:(toD D).length≤100000:=by rw [toD_len]; exact Nat.le_trans hD.1 (by decide)
  simp [siE,jm,yN,jL,yW,yt,yB,jy,slotH,jI,evTup,evs,jE,jf,vQ,frz,jo,pvOf,Jb,convF_is,hp1,hp2,hl',hlt,vR,yf,jK,yK,hDl,jr,toD_app]
theorem si_is {D:DS} {c t:List Nat} (hD:Dok D) (hn:yr c=true) (hv:vY t=true):siF [.ob (.hdr (toD D)),.pv (.str c),.pv (.str t)]=some (.pv .none,[.ob (.hdr (toD (delD D c++[(c,t)]))),.un,.un]):=by
  have e1:exHdrDel 0 diF (jf 1) [.ob (.hdr (toD D)),.pv (.str c),.pv (.str t)]=some (.next,[.ob (.hdr (toD (delD D c))),.pv (.str c),.pv (.str t)]):=by
    show vt 0 diF [.str c] [.ob (.hdr (toD D)),.pv (.str c),.pv (.str t)]=_
    unfold vt
    show (diF [.ob (.hdr (toD D)),.pv (.str c)]).bind _=_
    rw [di_is hD hn]
    rfl
  show (jm (exHdrDel 0 diF (jf 1)) siE [.ob (.hdr (toD D)),.pv (.str c),.pv (.str t)]).bind _=_
  unfold jm
  rw [e1,Option.bind_some]
  show (siE [.ob (.hdr (toD (delD D c))),.pv (.str c),.pv (.str t)]).bind _=_
  rw [siE_is (delD_ok hD) hn hv]
  rfl
noncomputable abbrev ahF:jw:=kwF (fnOf ks_ah 4 3 den_ah.1)
theorem ah_is {D:DS} {n v:List Nat} (hD:Dok D) (hn:yr n=true) (hv:vY v=true):ahF [.ob (.hdr (toD D)),.pv (.str n),.pv (.str v)]=some (.pv .none,[.ob (.hdr (toD (D++[(n,v)]))),.un,.un]):=by
  obtain ⟨_,a2,_,n3,_⟩:=yh hn
  obtain ⟨_,b3,v3⟩:=valOk_f hv
  have hl':(toD D).length≤100000:=by rw [toD_len]; exact Nat.le_trans hD.1 (by decide)
  have v4:v.length≤999998:=Nat.le_trans v3 (by decide)
  show Option.map _ (fnOf ks_ah 4 3 den_ah.1 [.ob (.hdr (toD D)),.pv (.str n),.pv (.str v),.pv .dct])=_
  have e:fnOf ks_ah 4 3 den_ah.1 [.ob (.hdr (toD D)),.pv (.str n),.pv (.str v),.pv .dct]=some (.pv .none,[.ob (.hdr (toD D++[.tup [.str n,.str v]])),.un,.un,.un]):=by
    simp [fnOf,okIn,ks_ah,pk,den_ah,jm,Jc,evList,evs,exIf,te2,ev2,jf,vQ,frz,semIs_sn,jo,truth,jD,jE,yt,pvOf,Jb,convF_is,b3,v3,v4,a2,n3,vR,yN,jL,yB,jy,slotL,jI,yf,jK,yK,exNoItems,yW,slotH,evTup,isStr,vh,semJoin,strsOf,joinC,hl',jr,gives,giveAt,List.range_succ]
  rw [e,toD_app]; rfl
theorem Dok.app {D:DS} {c t:List Nat} (h:Dok D) (hl:D.length<1000) (hn:yr c=true) (hv:vY t=true):Dok (D++[(c,t)]):=by
  refine ⟨by rw [List.length_append]; exact hl,fun q hq=>?_⟩
  rcases List.mem_append.mp hq with hq | hq
  · exact h.2 q hq
  · rw [List.mem_singleton.mp hq]
    exact ⟨(yh hn).1,(valOk_f hv).1⟩
structure E3 (g:G):Prop where
  e:E3a g
  mah:HasMC g 2 2 "add_header" ahF
  mit:HasM g 1 "items" (mt3 11) .none .none ["self"] itemsF
  mke:HasM g 1 "keys" (mt3 9) .none .none ["self"] keysF
  mga:HasM g 2 "get_all" (mt3 7) .none .none ["self","name"] gaF
  mget:∃ T,HasM g 2 "get" (mt3 8) (.ref T) .none ["self","name","default"] getF∧∃ o n,g.h₀.get? T=some o∧o.data=.seq #[.none] n
  noseq:NoSeq g
  msi:HasM g 3 "__setitem__" (mt3 3) .none .none ["self","name","val"] siF
  fdone:FnAt g (st3 74)
  fdist:FnAt g (st3 76)
  flaw:FnAt g (st3 78)
  hnew:∀ {r:Nat} {ks:List (Str×VK)} {k:Nat} {p lp pos:Pos},1≤r→ks[k]?=some (("Headers" : Str),VK.glo)→Den g r ks (.Call (.Name "Headers" p) [.List [] lp] [] pos) evHNew
theorem E3.ok {g:G} (E:E3 g):GOk g:=E.e.ok
theorem E3.b {g:G} (E:E3 g):Blt g:=E.e.b
theorem den_callGet {g:G} (E:E3 g) {ks:List (Str×VK)} {k r:Nat} {x:Str} {vk:VK} {p apos pos:Pos} {e:Expr} {f:Ev} {pl:Env→Sem Bool} (hk:ks[k]?=some (x,vk)) (hr:2≤r) (d:Den g r ks e f)
    (hs:∀ env,starEach [e] env=(false,eval e env)::starEach [] env:=by intro _; rfl) (hg:vk ≠ .glo:=by decide) (hd:(x == ("__debug__" : Str))=false:=by decide) (hc:(x == ("__classdict__" : Str))=false:=by decide)
    (he:∀ env,eval (.Call (.Attribute (.Name x p) "get" apos) [e] [] pos) env=(do
      let ov ← eval (.Name x p) env
      standAt apos.atName
      let (f,first) ← holding [ov] (getMethod ov "get" (pl env))
      callWith pos f first (backTo pos (starEach [e] env)) (backToKw pos (keywordEach [] env))):=by intro _; rfl) :
    Den g r ks (.Call (.Attribute (.Name x p) "get" apos) [e] [] pos) (jE k 1 getF [f] [] [.none]):=by
  obtain ⟨T,H,hT⟩:=E.mget
  exact yi H hk (.cons d hs .nil) .nil hr (fun _=>.cons .none .nil) (bind_get hT) (hg:=hg) (hd:=hd) (hc:=hc) (he:=he)
noncomputable def ks_done:List (Str×VK):=[("table",.par),("octets",.par),("pile",.loc),("number",.loc),("last",.loc),("under",.loc),("_parse_varint",.glo),("ISEOF",.glo),("ISNONTERMINAL",.glo),("int",.glo),("str",.glo)]
noncomputable def doneB:List Stmt:=sBody (st3 74)
noncomputable def dwB:List Stmt:=match doneB.getD 2 default with | .While _ b _ _=>b | _=>[]
noncomputable def d_t0:{ f:Ex // ∀ g,E3 g→DenS g 3 ks_done (dwB.getD 0 default) f }:=⟨_,fun g E=>(jN (yO (jM E.ok (h_ISNONTERMINAL E.e) (k:=8) (n:=1) rfl rfl (.cons (ja (k:=3) rfl) (fun _=>rfl) .nil) (by decide) (fun _ _ _=>binds1 (fun _=>rfl)))) (je (j8 (jv (ja (k:=2) rfl) (.cons (jz (jj E.ok (k:=9) rfl (.inr E.b.int)) (.cons (den_callGet E (k:=0) rfl (by decide) (jn (jG (c:=[80,81,82,83,84,85,86,87,88,89,90]) rfl) (jk (jk (ja (k:=3) rfl) ji vm) ji op_fdiv))) (fun _=>rfl) .nil) fn_int) (fun _=>rfl) .nil) (j7 PySem.F.slot_list_append PySem.F.type_list_append _) (yS _)))
  jg) (je (jN (j0 (ja (k:=3) rfl) ji op_eq rfl) (je (dens_hdrSet (k:=0) E.noseq E.msi rfl (jz (jj E.ok (k:=10) rfl (.inr E.b.str)) (.cons (jv (ja (k:=2) rfl) .nil (j7 PySem.F.slot_list_pop PySem.F.type_list_pop _) (fn_pop _)) (fun _=>rfl) .nil) fn_str) (jn (jG (c:=[112,113,114,115,116,117,118,119,120,121,122]) rfl) (jk (jk (jM E.ok (vG E.e) (k:=6) (n:=1) rfl rfl (.cons (ja (k:=1) rfl) (fun _=>rfl) .nil) (by decide) (fun _ _ _=>binds1 (fun _=>rfl))) ji vm) ji op_fdiv)) (by decide) (fun fd M e1 e2 s a us h=>bind_si fd M e1 e2 s a us h))
  jg) (je (jq (k:=4) (jv (ja (k:=2) rfl) .nil (j7 PySem.F.slot_list_pop PySem.F.type_list_pop _) (fn_pop _)) rfl)
  (je (jq (k:=5) (jv (ja (k:=2) rfl) .nil (j7 PySem.F.slot_list_pop PySem.F.type_list_pop _) (fn_pop _)) rfl)
  (je (j8 (jv (ja (k:=2) rfl) (.cons (@den_dict _ _ _ _ _ _ _ _ _ _ _ (.cons ji (jk (ja (k:=5) rfl) (ja (k:=4) rfl) j6) (.cons ji (jk (ja (k:=5) rfl) (ja (k:=4) rfl) vm) (.cons ji (jk (ja (k:=5) rfl) (ja (k:=4) rfl) yw) .nil))) (ja (k:=3) rfl) (fun q=>nomatch q) (by decide) (by decide) (fun _ _=>rfl)) (fun _=>rfl) .nil) (j7 PySem.F.slot_list_append PySem.F.type_list_append _) (yS _)))
  jg))))
  jg))⟩
noncomputable def d_t1:{ f:Ex // ∀ g,E3 g→DenS g 3 ks_done (dwB.getD 1 default) f }:=⟨_,fun g E=>(jq (k:=3) (jM E.ok (vG E.e) (k:=6) (n:=1) rfl rfl (.cons (ja (k:=1) rfl) (fun _=>rfl) .nil) (by decide) (fun _ _ _=>binds1 (fun _=>rfl))) rfl)⟩
noncomputable def den_done:{ f:Ex // ∀ g,E3 g→DenB g 3 ks_done doneB f }:=⟨_,fun g E=>(@je _ _ _ _ _ _ _ (yP (k:=2) (@yb _ _ _ _ _ _ .nil) rfl) (@je _ _ _ _ _ _ _ (jq (k:=3) (jM E.ok (vG E.e) (k:=6) (n:=1) rfl rfl (.cons (ja (k:=1) rfl) (fun _=>rfl) .nil) (by decide) (fun _ _ _=>binds1 (fun _=>rfl))) rfl) (@je _ _ _ _ _ _ _ (dens_while (n:=60) (dt_not (yO (jM E.ok (h_ISEOF E.e) (k:=7) (n:=1) rfl rfl (.cons (ja (k:=3) rfl) (fun _=>rfl) .nil) (by decide) (fun _ _ _=>binds1 (fun _=>rfl))))) (je (@Subtype.property _ _ d_t0 g E) (je (@Subtype.property _ _ d_t1 g E) jg))) jg)))⟩
theorem h_done {g:G} (E:E3 g):HasF g 4 (st3 74) ((ks_done.take 2).map (·.1)) (fnOf ks_done 2 4 den_done.1):=vF E.ok E.fdone (@Subtype.property _ _ den_done g E) rfl (by decide) (by decide)
noncomputable def ks_dist:List (Str×VK):=[("table",.par),("place",.loc),("names",.loc),("letter",.loc),("i",.loc),("j",.loc),("one",.loc),("other",.loc),("limit",.loc),("far",.loc),("sum",.glo),("zip",.glo),("_levenshtein_distance",.glo),("str",.glo)]
noncomputable def distB:List Stmt:=sBody (st3 76)
noncomputable def dfB:List Stmt:=match distB.getD 1 default with | .For _ _ b _ _=>b | _=>[]
noncomputable def d_f0:{ f:Ex // ∀ g,E3 g→DenS g 3 ks_dist (dfB.getD 0 default) f }:=⟨_,fun g E=>(jq (k:=6) (jn (ja (k:=2) rfl) (ja (k:=4) rfl)) rfl)⟩
noncomputable def d_f1:{ f:Ex // ∀ g,E3 g→DenS g 3 ks_dist (dfB.getD 1 default) f }:=⟨_,fun g E=>(jq (k:=7) (jk (j5 (jn (ja (k:=2) rfl) (ja (k:=5) rfl)) .none (.some (ja (k:=1) rfl))) (j5 (jn (ja (k:=2) rfl) (ja (k:=5) rfl)) (.some (jk (ja (k:=1) rfl) ji j6)) .none) j6) rfl)⟩
noncomputable def d_f2:{ f:Ex // ∀ g,E3 g→DenS g 3 ks_dist (dfB.getD 2 default) f }:=⟨_,fun g E=>(jq (k:=8) (jk (jk ji (jz (jj E.ok (k:=10) rfl (.inr E.b.sum)) (.cons (yk (ks':=[("p",.loc),("q",.loc)]) (fm:=[]) (nl:=2) (deni_zip2 (jj E.ok (k:=11) rfl (.inr E.b.zip)) (.cons (jk (j5 (ja (k:=6) rfl) .none (.some (ja (k:=1) rfl))) (j5 (ja (k:=6) rfl) (.some (jk (ja (k:=1) rfl) ji j6)) .none) j6) (fun _=>rfl) (.cons (ja (k:=7) rfl) (fun _=>rfl) .nil)) (.cons (jl (k:=0) rfl) (fun _=>rfl) (.cons (jl (k:=1) rfl) (fun _=>rfl) .nil))) ye (jH rfl (den_cmp (ja (k:=0) rfl) (ja (k:=1) rfl) op_ne rfl)) ⟨rfl,rfl,rfl,rfl,by decide,by decide,by decide⟩) (fun _=>rfl) .nil) fn_sum) j6) (jk (ja (k:=5) rfl) ji op_mod) vm) rfl)⟩
noncomputable def d_f3:{ f:Ex // ∀ g,E3 g→DenS g 3 ks_dist (dfB.getD 3 default) f }:=⟨_,fun g E=>(jq (k:=9) (den_if (j0 (ja (k:=4) rfl) ji op_eq rfl) (jM E.ok (yR E.e) (k:=12) (n:=3) rfl rfl (.cons (ja (k:=6) rfl) (fun _=>rfl) (.cons (ja (k:=7) rfl) (fun _=>rfl) (.cons (ja (k:=8) rfl) (fun _=>rfl) .nil))) (by decide) (fun _ _ _=>binds3 (fun _ _ _=>rfl))) (jM E.ok (yR E.e) (k:=12) (n:=3) rfl rfl (.cons (ja (k:=7) rfl) (fun _=>rfl) (.cons (ja (k:=6) rfl) (fun _=>rfl) (.cons (ja (k:=8) rfl) (fun _=>rfl) .nil))) (by decide) (fun _ _ _=>binds3 (fun _ _ _=>rfl)))) rfl)⟩
noncomputable def d_f4:{ f:Ex // ∀ g,E3 g→DenS g 3 ks_dist (dfB.getD 4 default) f }:=⟨_,fun g E=>(dens_hdrSet (k:=0) E.noseq E.msi rfl (jz (jj E.ok (k:=13) rfl (.inr E.b.str)) (.cons (jk (jk (ja (k:=9) rfl) ji vm) (den_cmp (jn (jn (ja (k:=2) rfl) (ja (k:=4) rfl)) (ja (k:=1) rfl)) (jn (jn (ja (k:=2) rfl) (ja (k:=5) rfl)) (ja (k:=1) rfl)) op_ne rfl) j6) (fun _=>rfl) .nil) fn_str) (ja (k:=3) rfl) (by decide) (fun fd M e1 e2 s a us h=>bind_si fd M e1 e2 s a us h))⟩
noncomputable def d_n0:{ f:Ex // ∀ g,E3 g→DenS g 3 ks_dist (distB.getD 0 default) f }:=⟨_,fun g E=>(yP (k:=2) (yi (k:=0) (n:=0) (ds:=[]) (dvs:=[]) E.mke rfl .nil .nil (by decide) (fun _=>.nil) (fun fd M e1 e2 s _ a us ws h1 h2=>bind_self (.inr rfl) fd M e1 e2 s a us ws h1 h2)) rfl)⟩
noncomputable def d_ff:{ f:Ex // ∀ g,E3 g→DenB g 3 ks_dist dfB f }:=⟨_,fun g E=>(@je _ _ _ _ _ _ _ (@Subtype.property _ _ d_f0 g E) (@je _ _ _ _ _ _ _ (@Subtype.property _ _ d_f1 g E) (@je _ _ _ _ _ _ _ (@Subtype.property _ _ d_f2 g E) (@je _ _ _ _ _ _ _ (@Subtype.property _ _ d_f3 g E) (@je _ _ _ _ _ _ _ (@Subtype.property _ _ d_f4 g E) jg)))))⟩
noncomputable def d_for:{ f:Ex // ∀ g,E3 g→DenS g 3 ks_dist (distB.getD 1 default) f }:=⟨_,fun g E=>(@yz _ _ _ _ _ _ _ _ _ _ _ _ (@yb _ _ _ _ _ _ (.cons (@j4 _ _ _ _ _ _ _ (.cons (@jG _ _ _ _ [117] _ _ rfl) (fun _=>rfl) (.cons (@ji _ _ _ _ _ _) (fun _=>rfl) (.cons (@ji _ _ _ _ _ _) (fun _=>rfl) .nil)))) (fun _=>rfl) (.cons (@j4 _ _ _ _ _ _ _ (.cons (@jG _ _ _ _ [118] _ _ rfl) (fun _=>rfl) (.cons (@ji _ _ _ _ _ _) (fun _=>rfl) (.cons (@ji _ _ _ _ _ _) (fun _=>rfl) .nil)))) (fun _=>rfl) (.cons (@j4 _ _ _ _ _ _ _ (.cons (@jG _ _ _ _ [119] _ _ rfl) (fun _=>rfl) (.cons (@ji _ _ _ _ _ _) (fun _=>rfl) (.cons (@ji _ _ _ _ _ _) (fun _=>rfl) .nil)))) (fun _=>rfl) (.cons (@j4 _ _ _ _ _ _ _ (.cons (@jG _ _ _ _ [120] _ _ rfl) (fun _=>rfl) (.cons (@ji _ _ _ _ _ _) (fun _=>rfl) (.cons (@ji _ _ _ _ _ _) (fun _=>rfl) .nil)))) (fun _=>rfl) (.cons (@j4 _ _ _ _ _ _ _ (.cons (@jG _ _ _ _ [121] _ _ rfl) (fun _=>rfl) (.cons (@ji _ _ _ _ _ _) (fun _=>rfl) (.cons (@ji _ _ _ _ _ _) (fun _=>rfl) .nil)))) (fun _=>rfl) (.cons (@j4 _ _ _ _ _ _ _ (.cons (@jG _ _ _ _ [122] _ _ rfl) (fun _=>rfl) (.cons (@ji _ _ _ _ _ _) (fun _=>rfl) (.cons (@ji _ _ _ _ _ _) (fun _=>rfl) .nil)))) (fun _=>rfl) .nil))))))) (deng_tup (.cons (jl (k:=3) rfl) (fun _=>rfl) (.cons (jl (k:=4) rfl) (fun _=>rfl) (.cons (jl (k:=5) rfl) (fun _=>rfl) .nil)))) (@Subtype.property _ _ d_ff g E) jg (fun _ _=>rfl))⟩
theorem denb_of {g:G} {r:Nat} {ks:List (Str×VK)} {l l2:List Stmt} {f:Ex} (e:l=l2) (d:DenB g r ks l2 f):DenB g r ks l f:=e ▸ d
theorem distB_is:distB=[distB.getD 0 default,distB.getD 1 default]:=by kernel_rfl
noncomputable def den_dist:{ f:Ex // ∀ g,E3 g→DenB g 3 ks_dist distB f }:=⟨_,fun g E=>@denb_of _ _ _ _ _ _ distB_is (@je _ _ _ _ _ _ _ (@Subtype.property _ _ d_n0 g E) (@je _ _ _ _ _ _ _ (@Subtype.property _ _ d_for g E) jg))⟩
theorem h_dist {g:G} (E:E3 g):HasF g 4 (st3 76) ((ks_dist.take 2).map (·.1)) (fnOf ks_dist 2 8 den_dist.1):=vF E.ok E.fdist (@Subtype.property _ _ den_dist g E) rfl (by decide) (by decide)
noncomputable def ks_law:List (Str×VK):=[("script",.loc),("draws",.loc),("points",.loc),("table",.loc),("n",.loc),("bits",.cel),("apart",.loc),("a",.loc),("b",.loc),("c",.loc),("twice",.loc),("due",.loc),("told",.loc),("str",.glo),("zip",.glo),("len",.glo),("Headers",.glo),("_law_name",.glo),("_law_distances",.glo),("_law_done",.glo),("_law_octets",.glo),("_law_squares",.glo),("list",.glo)]
noncomputable def lawB:List Stmt:=sBody (st3 78)
noncomputable def d_l0:{ f:Ex // ∀ g,E3 g→DenS g 4 ks_law (lawB.getD 0 default) f }:=⟨_,fun g E=>(jq (k:=1) (jk (j5 (ja (k:=0) rfl) .none (.some ji)) (j5 (yb (.cons ji (fun _=>rfl) (.cons ji (fun _=>rfl) (.cons ji (fun _=>rfl) (.cons ji (fun _=>rfl) (.cons ji (fun _=>rfl) .nil)))))) (.some (jz (jj E.ok (k:=15) rfl (.inr E.b.len)) (.cons (j5 (ja (k:=0) rfl) .none (.some ji)) (fun _=>rfl) .nil) vH)) .none) j6) rfl)⟩
noncomputable def d_l1:{ f:Ex // ∀ g,E3 g→DenS g 4 ks_law (lawB.getD 1 default) f }:=⟨_,fun g E=>(yY (k:=2) (ks':=[("n",.loc)]) (fm:=[]) (nl:=1) (ya (j5 (ja (k:=1) rfl) .none (.some ji)) (jl (k:=0) rfl)) ye (jH rfl (jk (ja (k:=0) rfl) ji op_mod)) ⟨rfl,rfl,rfl,rfl,by decide,by decide,by decide⟩ rfl rfl)⟩
noncomputable def d_l2:{ f:Ex // ∀ g,E3 g→DenS g 4 ks_law (lawB.getD 2 default) f }:=⟨_,fun g E=>(yP (k:=3) (E.hnew (by decide) (k:=16) rfl) rfl)⟩
noncomputable def d_l3:{ f:Ex // ∀ g,E3 g→DenS g 4 ks_law (lawB.getD 3 default) f }:=⟨_,fun g E=>(yz (ja (k:=2) rfl) (jl (k:=4) rfl) (je (j8 (den_methWC (k:=3) (n:=2) E.mah rfl (.cons (jM E.ok (h__law_name E.e) (k:=17) (n:=1) rfl rfl (.cons (ja (k:=4) rfl) (fun _=>rfl) .nil) (by decide) (fun _ _ _=>binds1 (fun _=>rfl))) (fun _=>rfl) (.cons (jz (jj E.ok (k:=13) rfl (.inr E.b.str)) (.cons (ja (k:=4) rfl) (fun _=>rfl) .nil) fn_str) (fun _=>rfl) .nil)) (by decide)))
  jg) jg)⟩
noncomputable def d_l4:{ f:Ex // ∀ g,E3 g→DenS g 4 ks_law (lawB.getD 4 default) f }:=⟨_,fun g E=>(jN (j0 (yi (k:=3) (n:=1) (ds:=[]) (dvs:=[]) E.mga rfl (.cons (jv (jM E.ok (h__law_name E.e) (k:=17) (n:=1) rfl rfl (.cons (jn (ja (k:=2) rfl) ji) (fun _=>rfl) .nil) (by decide) (fun _ _ _=>binds1 (fun _=>rfl))) .nil (jZ PySem.F.slot_str_swapcase PySem.F.type_str_swapcase _) (fn_swapcase.m _)) (fun _=>rfl) .nil) .nil (by decide) (fun _=>.nil) (fun fd M e1 e2 s _ a us ws h1 h2=>bind_ga fd M e1 e2 s a us ws h1 h2)) (yk (ks':=[("n",.loc),("str",.glo)]) (fm:=[]) (nl:=1) (ya (ja (k:=2) rfl) (jl (k:=0) rfl)) ye (jH rfl (jz (jj E.ok (k:=1) rfl (.inr E.b.str)) (.cons (ja (k:=0) rfl) (fun _=>rfl) .nil) fn_str)) ⟨rfl,rfl,rfl,rfl,by decide,by decide,by decide⟩) op_ne rfl) (je (jA yZ)
  jg) jg)⟩
noncomputable def d_l5:{ f:Ex // ∀ g,E3 g→DenS g 4 ks_law (lawB.getD 5 default) f }:=⟨_,fun g E=>(j8 (jM E.ok (h_dist E) (k:=18) (n:=2) rfl rfl (.cons (ja (k:=3) rfl) (fun _=>rfl) (.cons (jk (jn (ja (k:=1) rfl) ji) ji op_mod) (fun _=>rfl) .nil)) (by decide) (fun _ _ _=>binds2 (fun _ _=>rfl))))⟩
noncomputable def d_l6:{ f:Ex // ∀ g,E3 g→DenS g 4 ks_law (lawB.getD 6 default) f }:=⟨_,fun g E=>(j8 (jM E.ok (h_done E) (k:=19) (n:=2) rfl rfl (.cons (ja (k:=3) rfl) (fun _=>rfl) (.cons (jM E.ok (h__law_octets E.e) (k:=20) (n:=0) rfl rfl .nil (by decide) (fun _ _ _=>binds0 rfl)) (fun _=>rfl) .nil)) (by decide) (fun _ _ _=>binds2 (fun _ _=>rfl))))⟩
noncomputable def d_l7:{ f:Ex // ∀ g,E3 g→DenS g 4 ks_law (lawB.getD 7 default) f }:=⟨_,fun g E=>(dens_setCompC (k:=5) (yk (ks':=[("n",.cel),("range",.glo)]) (fm:=[]) (nl:=1) (ya (ja (k:=2) rfl) (jl (k:=0) rfl)) ye (jH rfl (yk (ks':=[("n",.fre),("k",.loc)]) (fm:=[0]) (nl:=1) (ya (jz (jj E.ok (k:=1) rfl (.inr E.b.range)) (.cons ji (fun _=>rfl) .nil) yI) (jl (k:=1) rfl)) ye (jH rfl (jk (jk (ja (k:=0) rfl) (ja (k:=1) rfl) op_shr) ji op_and)) ⟨rfl,rfl,rfl,rfl,by decide,by decide,by decide⟩)) ⟨rfl,rfl,rfl,rfl,by decide,by decide,by decide⟩) rfl)⟩
noncomputable def d_l8:{ f:Ex // ∀ g,E3 g→DenS g 4 ks_law (lawB.getD 8 default) f }:=⟨_,fun g E=>(yY (k:=6) (ks':=[("bits",.fre),("i",.loc),("j",.loc),("sum",.glo),("zip",.glo)]) (fm:=[5]) (nl:=2) (@ya _ _ _ _ _ _ _ _ _ (@yb _ _ _ _ _ _ (.cons (@j4 _ _ _ _ _ _ _ (.cons (@ji _ _ _ _ _ _) (fun _=>rfl) (.cons (@ji _ _ _ _ _ _) (fun _=>rfl) .nil))) (fun _=>rfl) (.cons (@j4 _ _ _ _ _ _ _ (.cons (@ji _ _ _ _ _ _) (fun _=>rfl) (.cons (@ji _ _ _ _ _ _) (fun _=>rfl) .nil))) (fun _=>rfl) (.cons (@j4 _ _ _ _ _ _ _ (.cons (@ji _ _ _ _ _ _) (fun _=>rfl) (.cons (@ji _ _ _ _ _ _) (fun _=>rfl) .nil))) (fun _=>rfl) (.cons (@j4 _ _ _ _ _ _ _ (.cons (@ji _ _ _ _ _ _) (fun _=>rfl) (.cons (@ji _ _ _ _ _ _) (fun _=>rfl) .nil))) (fun _=>rfl) (.cons (@j4 _ _ _ _ _ _ _ (.cons (@ji _ _ _ _ _ _) (fun _=>rfl) (.cons (@ji _ _ _ _ _ _) (fun _=>rfl) .nil))) (fun _=>rfl) (.cons (@j4 _ _ _ _ _ _ _ (.cons (@ji _ _ _ _ _ _) (fun _=>rfl) (.cons (@ji _ _ _ _ _ _) (fun _=>rfl) .nil))) (fun _=>rfl) .nil))))))) (deng_tup (.cons (jl (k:=1) rfl) (fun _=>rfl) (.cons (jl (k:=2) rfl) (fun _=>rfl) .nil)))) ye (jH rfl (jz (jj E.ok (k:=3) rfl (.inr E.b.sum)) (.cons (yk (ks':=[("p",.loc),("q",.loc)]) (fm:=[]) (nl:=2) (deni_zip2 (jj E.ok (k:=4) rfl (.inr E.b.zip)) (.cons (jn (ja (k:=0) rfl) (ja (k:=1) rfl)) (fun _=>rfl) (.cons (jn (ja (k:=0) rfl) (ja (k:=2) rfl)) (fun _=>rfl) .nil)) (.cons (jl (k:=0) rfl) (fun _=>rfl) (.cons (jl (k:=1) rfl) (fun _=>rfl) .nil))) ye (jH rfl (den_cmp (ja (k:=0) rfl) (ja (k:=1) rfl) op_ne rfl)) ⟨rfl,rfl,rfl,rfl,by decide,by decide,by decide⟩) (fun _=>rfl) .nil) fn_sum)) ⟨rfl,rfl,rfl,rfl,by decide,by decide,by decide⟩ rfl rfl)⟩
noncomputable def d_l9:{ f:Ex // ∀ g,E3 g→DenS g 4 ks_law (lawB.getD 9 default) f }:=⟨_,fun g E=>(dens_setTup (yk (ks':=[("bits",.fre),("row",.loc),("zip",.glo)]) (fm:=[5]) (nl:=1) (ya (j5 (ja (k:=5) rfl) (.some ji) .none) (jl (k:=1) rfl)) ye (jH rfl (yk (ks':=[("p",.loc),("q",.loc)]) (fm:=[]) (nl:=2) (deni_zip2 (jj E.ok (k:=2) rfl (.inr E.b.zip)) (.cons (ja (k:=1) rfl) (fun _=>rfl) (.cons (jn (ja (k:=0) rfl) ji) (fun _=>rfl) .nil)) (.cons (jl (k:=0) rfl) (fun _=>rfl) (.cons (jl (k:=1) rfl) (fun _=>rfl) .nil))) ye (jH rfl (jk (ja (k:=0) rfl) (ja (k:=1) rfl) vm)) ⟨rfl,rfl,rfl,rfl,by decide,by decide,by decide⟩)) ⟨rfl,rfl,rfl,rfl,by decide,by decide,by decide⟩) (deng_lst (.cons (jl (k:=7) rfl) (fun _=>rfl) (.cons (jl (k:=8) rfl) (fun _=>rfl) (.cons (jl (k:=9) rfl) (fun _=>rfl) .nil)))))⟩
noncomputable def d_l10:{ f:Ex // ∀ g,E3 g→DenS g 4 ks_law (lawB.getD 10 default) f }:=⟨_,fun g E=>(yY (k:=10) (ks':=[("one",.loc),("other",.loc),("sum",.glo),("zip",.glo)]) (fm:=[]) (nl:=2) (ya (yb (.cons (j4 (.cons (ja (k:=7) rfl) (fun _=>rfl) (.cons (ja (k:=8) rfl) (fun _=>rfl) .nil))) (fun _=>rfl) (.cons (j4 (.cons (ja (k:=7) rfl) (fun _=>rfl) (.cons (ja (k:=9) rfl) (fun _=>rfl) .nil))) (fun _=>rfl) (.cons (j4 (.cons (ja (k:=8) rfl) (fun _=>rfl) (.cons (ja (k:=9) rfl) (fun _=>rfl) .nil))) (fun _=>rfl) .nil)))) (deng_tup (.cons (jl (k:=0) rfl) (fun _=>rfl) (.cons (jl (k:=1) rfl) (fun _=>rfl) .nil)))) ye (jH rfl (jk ji (jz (jj E.ok (k:=2) rfl (.inr E.b.sum)) (.cons (yk (ks':=[("p",.loc),("q",.loc)]) (fm:=[]) (nl:=2) (deni_zip2 (jj E.ok (k:=3) rfl (.inr E.b.zip)) (.cons (ja (k:=0) rfl) (fun _=>rfl) (.cons (ja (k:=1) rfl) (fun _=>rfl) .nil)) (.cons (jl (k:=0) rfl) (fun _=>rfl) (.cons (jl (k:=1) rfl) (fun _=>rfl) .nil))) ye (jH rfl (jk (ja (k:=0) rfl) (ja (k:=1) rfl) yw)) ⟨rfl,rfl,rfl,rfl,by decide,by decide,by decide⟩) (fun _=>rfl) .nil) fn_sum) yw)) ⟨rfl,rfl,rfl,rfl,by decide,by decide,by decide⟩ rfl rfl)⟩
noncomputable def d_l11:{ f:Ex // ∀ g,E3 g→DenS g 4 ks_law (lawB.getD 11 default) f }:=⟨_,fun g E=>(yY (k:=11) (ks':=[("row",.cel),("range",.glo)]) (fm:=[]) (nl:=1) (ya (ja (k:=5) rfl) (jl (k:=0) rfl)) ye (@jH _ _ _ _ _ _ _ _ _ rfl (@jv _ _ _ _ _ _ _ _ _ _ _ _ _ _ (jG (c:=[]) rfl) (.cons (yk (ks':=[("row",.fre),("k",.loc)]) (fm:=[0]) (nl:=1) (ya (jz (jj E.ok (k:=1) rfl (.inr E.b.range)) (.cons ji (fun _=>rfl) .nil) yI) (jl (k:=1) rfl)) ye (jH rfl (den_if (yO (jn (ja (k:=0) rfl) (ja (k:=1) rfl))) (jn (jG (c:=[65,66,67,68,69]) rfl) (ja (k:=1) rfl)) (jn (jG (c:=[97,98,99,100,101]) rfl) (ja (k:=1) rfl)))) ⟨rfl,rfl,rfl,rfl,by decide,by decide,by decide⟩) (fun _=>rfl) .nil) (jZ PySem.F.slot_str_join PySem.F.type_str_join _) (fn_join.m _) (fun _=>rfl))) ⟨rfl,rfl,rfl,rfl,by decide,by decide,by decide⟩ rfl rfl)⟩
noncomputable def d_l12:{ f:Ex // ∀ g,E3 g→DenS g 4 ks_law (lawB.getD 12 default) f }:=⟨_,fun g E=>(yY (k:=12) (ks':=[("n",.loc),("str",.glo)]) (fm:=[]) (nl:=1) (ya (jk (jk (jk (ja (k:=2) rfl) (ja (k:=6) rfl) j6) (ja (k:=10) rfl) j6) (yb (.cons (jk ji (jM E.ok (h__law_squares E.e) (k:=21) (n:=3) rfl rfl (.cons (ja (k:=7) rfl) (fun _=>rfl) (.cons (ja (k:=8) rfl) (fun _=>rfl) (.cons (ja (k:=9) rfl) (fun _=>rfl) .nil))) (by decide) (fun _ _ _=>binds3 (fun _ _ _=>rfl))) yw) (fun _=>rfl) .nil)) j6) (jl (k:=0) rfl)) ye (jH rfl (jz (jj E.ok (k:=1) rfl (.inr E.b.str)) (.cons (ja (k:=0) rfl) (fun _=>rfl) .nil) fn_str)) ⟨rfl,rfl,rfl,rfl,by decide,by decide,by decide⟩ rfl rfl)⟩
noncomputable def d_l13:{ f:Ex // ∀ g,E3 g→DenS g 4 ks_law (lawB.getD 13 default) f }:=⟨_,fun g E=>(jA (den_cmp (yi (k:=3) (n:=0) (ds:=[]) (dvs:=[]) E.mit rfl .nil .nil (by decide) (fun _=>.nil) (fun fd M e1 e2 s _ a us ws h1 h2=>bind_self (.inl rfl) fd M e1 e2 s a us ws h1 h2)) (den_listZip (jj E.ok (k:=22) rfl (.inr E.b.list)) (jj E.ok (k:=14) rfl (.inr E.b.zip)) (.cons (jk (ja (k:=11) rfl) (den_fnM (jj E.ok (k:=22) rfl (.inr E.b.list)) (.cons (jG (c:=[117,118,119,120,121,122,112,113,114,116]) rfl) (fun _=>rfl) .nil) (fn_list2 _)) j6) (fun _=>rfl) (.cons (ja (k:=12) rfl) (fun _=>rfl) .nil))) op_eq rfl))⟩
noncomputable def den_law:{ f:Ex // ∀ g,E3 g→DenB g 4 ks_law lawB f }:=⟨_,fun g E=>(@je _ _ _ _ _ _ _ (@Subtype.property _ _ d_l0 g E) (@je _ _ _ _ _ _ _ (@Subtype.property _ _ d_l1 g E) (@je _ _ _ _ _ _ _ (@Subtype.property _ _ d_l2 g E) (@je _ _ _ _ _ _ _ (@Subtype.property _ _ d_l3 g E) (@je _ _ _ _ _ _ _ (@Subtype.property _ _ d_l4 g E) (@je _ _ _ _ _ _ _ (@Subtype.property _ _ d_l5 g E) (@je _ _ _ _ _ _ _ (@Subtype.property _ _ d_l6 g E) (@je _ _ _ _ _ _ _ (@Subtype.property _ _ d_l7 g E) (@je _ _ _ _ _ _ _ (@Subtype.property _ _ d_l8 g E) (@je _ _ _ _ _ _ _ (@Subtype.property _ _ d_l9 g E) (@je _ _ _ _ _ _ _ (@Subtype.property _ _ d_l10 g E) (@je _ _ _ _ _ _ _ (@Subtype.property _ _ d_l11 g E) (@je _ _ _ _ _ _ _ (@Subtype.property _ _ d_l12 g E) (@je _ _ _ _ _ _ _ (@Subtype.property _ _ d_l13 g E) jg))))))))))))))⟩
theorem h_law {g:G} (E:E3 g):HasF g 5 (st3 78) ((ks_law.take 1).map (·.1)) (fnOf ks_law 1 12 den_law.1):=vF E.ok E.flaw (@Subtype.property _ _ den_law g E) rfl (by decide) (by decide)
inductive AllN (P:Nat→Prop):Nat→Prop
  | z:AllN P 0
  | s {n:Nat} (h:AllN P n) (k:P n):AllN P (n+1)
theorem AllN.get {P:Nat→Prop} {n:Nat} (h:AllN P n):∀ x,x<n→P x:=by
  induction h with
  | z=>intro x hx; exact absurd hx (Nat.not_lt_zero x)
  | s h k ih=>intro x hx; exact (Nat.lt_succ_iff_lt_or_eq.mp hx).elim (ih x) fun e=>e ▸ k
theorem all_n {α : Type} {P:α→Prop}:∀ x∈([]:List α),P x:=fun _ h=>nomatch h
theorem yu {α : Type} {P:α→Prop} {a:α} {l:List α} (h:P a) (t:∀ x∈l,P x):∀ x∈a::l,P x:=fun x hx=>(List.mem_cons.mp hx).elim (fun e=>e ▸ h) (t x)
theorem all_app {α : Type} {P:α→Prop} {l m:List α} (h:∀ x∈l,P x) (t:∀ x∈m,P x):∀ x∈l++m,P x:=fun x hx=>(List.mem_append.mp hx).elim (h x) (t x)
structure Ren (σ : Nat→Nat):Prop where
  inj:∀ a b,σ a=σ b→a=b
  lim:∀ a,a<0x110000→σ a<0x110000
  asc:∀ a,a<128→σ a<128
  low:∀ a,PyProof.Rows.lo1 (σ a)=PyProof.Rows.lo1 a
section
variable (σ : Nat→Nat)
mutual
noncomputable def rn:PV→PV
  | .str c=>.str (c.map σ)
  | .tup l=>.tup (rns l)
  | .lst l=>.lst (rns l)
  | .none=>.none
  | .bool b=>.bool b
  | .int i=>.int i
  | .con v=>.con v
  | .rng a b c=>.rng a b c
  | .dct=>.dct
noncomputable def rns:List PV→List PV
  | []=>[]
  | p::l=>rn p::rns l
end
theorem yU:∀ l:List PV,rns σ l=l.map (rn σ)
  | []=>rfl
  | p::l=>by rw [rns,yU l,List.map_cons]
noncomputable def rO:OB→OB
  | .list l=>.list (rns σ l)
  | .iter l=>.iter (rns σ l)
  | .hdr l=>.hdr (rns σ l)
noncomputable def rA:AVal→AVal
  | .pv p=>.pv (rn σ p)
  | .obj o=>.obj (rO σ o)
  | .own k=>.own k
  | .sub k=>.sub k
noncomputable def rS:Slot→Slot
  | .pv p=>.pv (rn σ p)
  | .ob o=>.ob (rO σ o)
  | .br o=>.br (rO σ o)
  | .un=>.un
  | .hid=>.hid
noncomputable def rF:Fl→Fl
  | .ret v=>.ret (rA σ v)
  | .next=>.next
  | .brk=>.brk
noncomputable abbrev rV (vs:VS):VS:=vs.map (rS σ)
noncomputable def SimE (f:Ev):Prop:=∀ vs v vs',f vs=some (v,vs')→f (rV σ vs)=some (rA σ v,rV σ vs')
noncomputable def SimT (f:Te):Prop:=∀ vs b vs',f vs=some (b,vs')→f (rV σ vs)=some (b,rV σ vs')
noncomputable def SimX (f:Ex):Prop:=∀ vs v vs',f vs=some (v,vs')→f (rV σ vs)=some (rF σ v,rV σ vs')
noncomputable def Sem2 (sem:AVal→AVal→VS→Option PV):Prop:=∀ a b vs p,sem a b vs=some p→sem (rA σ a) (rA σ b) (rV σ vs)=some (rn σ p)
noncomputable def SemF (sem:FSem):Prop:=∀ as vs p,sem as vs=some p→sem (as.map (rA σ)) (rV σ vs)=some (rn σ p)
noncomputable def SimF (F:jw):Prop:=∀ sls sl sls',F sls=some (sl,sls')→F (rV σ sls)=some (rS σ sl,rV σ sls')
variable {σ}
theorem rV_at (vs:VS) (k:Nat):(rV σ vs)[k]?=(vs[k]?).map (rS σ):=List.getElem?_map
theorem vo (l:List PV):(rns σ l).length=l.length:=by rw [yU,List.length_map]
theorem rns_at (l:List PV) (k:Nat):(rns σ l)[k]?=(l[k]?).map (rn σ):=by rw [yU,List.getElem?_map]
theorem frz_r {v w:AVal} (h:frz v=some w):frz (rA σ v)=some (rA σ w):=by
  cases v with
  | obj o =>
    cases o with
    | list l=>injection h with h; subst h; rfl
    | _=>exact jb h
  | _=>injection h with h; subst h; rfl
theorem pvOf_r {v:AVal} {p:PV} (h:pvOf v=some p):pvOf (rA σ v)=some (rn σ p):=by
  cases v with
  | obj o =>
    cases o with
    | list l=>injection h with h; subst h; rfl
    | _=>exact jb h
  | pv q=>injection h with h; subst h; rfl
  | _=>exact jb h
theorem slotL_r {s:Slot} {l:List PV} (h:slotL s=some l):slotL (rS σ s)=some (rns σ l):=by
  cases s with
  | ob o =>
    cases o with
    | list m=>injection h with h; subst h; rfl
    | _=>exact jb h
  | br o =>
    cases o with
    | list m=>injection h with h; subst h; rfl
    | _=>exact jb h
  | _=>exact jb h
theorem slotH_r {s:Slot} {l:List PV} (h:slotH s=some l):slotH (rS σ s)=some (rns σ l):=by
  cases s with
  | ob o =>
    cases o with
    | hdr m=>injection h with h; subst h; rfl
    | _=>exact jb h
  | br o =>
    cases o with
    | hdr m=>injection h with h; subst h; rfl
    | _=>exact jb h
  | _=>exact jb h
theorem yA {vs:VS} {a:AVal} {l:List PV} (h:jy vs a=some l):jy (rV σ vs) (rA σ a)=some (rns σ l):=by
  cases a with
  | pv p =>
    cases p with
    | lst m=>injection h with h; subst h; rfl
    | _=>exact jb h
  | own k =>
    obtain ⟨s,h1,h2⟩:=jd h
    show ((rV σ vs)[k]?).bind slotL=_
    rw [rV_at,h1]; exact slotL_r h2
  | sub k =>
    obtain ⟨s,h1,h2⟩:=jd h
    show ((rV σ vs)[k]?).bind slotH=_
    rw [rV_at,h1]; exact slotH_r h2
  | obj o=>exact jb h
theorem viewD_r {vs:VS} {a:AVal} {p:PV} (h:vX vs a=some p):vX (rV σ vs) (rA σ a)=some (rn σ p):=by
  cases a with
  | pv q=>injection h with h; subst h; rfl
  | own k =>
    obtain ⟨l,h1,h2⟩:=Option.map_eq_some_iff.mp h
    subst h2
    show (jy (rV σ vs) (rA σ (.own k))).map PV.lst=_
    rw [yA h1]; rfl
  | sub k =>
    obtain ⟨l,h1,h2⟩:=Option.map_eq_some_iff.mp h
    subst h2
    show (jy (rV σ vs) (rA σ (.sub k))).map PV.lst=_
    rw [yA h1]; rfl
  | obj o=>exact jb h
theorem isEmpty_len {α β : Type} {l:List α} {m:List β} (h:l.length=m.length):l.isEmpty=m.isEmpty:=by
  cases l <;> cases m <;> first | rfl | (simp at h)
theorem truth_r {vs:VS} {v:AVal} {b:Bool} (h:truth vs v=some b):truth (rV σ vs) (rA σ v)=some b:=by
  have go:∀ a,((jy vs a).bind fun l=>if l.length<100000 then some (!l.isEmpty) else none)=some b→((jy (rV σ vs) (rA σ a)).bind fun l=>if l.length<100000 then some (!l.isEmpty) else none)=some b:=by
    intro a h
    obtain ⟨l,h1,h2⟩:=jd h
    rw [yA h1]
    show (if (rns σ l).length<100000 then some (!(rns σ l).isEmpty) else none)=some b
    rw [vo,isEmpty_len (vo l)]; exact h2
  cases v with
  | pv p =>
    cases p with
    | str c =>
      have h:(if c.length<100000 then some (!c.isEmpty) else none)=some b:=h
      show (if (c.map σ).length<100000 then some (!(c.map σ).isEmpty) else none)=some b
      rw [List.length_map,isEmpty_len (List.length_map σ (as:=c))]; exact h
    | lst l=>exact go (.pv (.lst l)) h
    | none=>exact h
    | bool t=>exact h
    | int i=>exact h
    | _=>exact jb h
  | own k=>exact go _ h
  | sub k=>exact go _ h
  | obj o=>exact jb h
theorem sim_var (k:Nat):SimE σ (jf k):=by
  intro vs v vs' h
  obtain ⟨sl,h1,h2,h3⟩:=evVar_eq h
  subst h3
  show ((rV σ vs')[k]?).bind _=_
  rw [rV_at,h1]
  cases sl with
  | un=>exact jb h2
  | hid=>exact jb h2
  | _=>injection h2 with h2; subst h2; rfl
theorem sim_lit {p:PV} (h:rn σ p=p):SimE σ (jo p):=by
  intro vs v vs' e
  injection e with e; injection e with e1 e2; subst e1; subst e2
  show some (AVal.pv p,rV σ vs)=some (AVal.pv (rn σ p),rV σ vs)
  rw [h]
theorem sim_ev2 {sem:AVal→AVal→VS→Option PV} {f g:Ev} (hs:Sem2 σ sem) (hf:SimE σ f) (hg:SimE σ g):SimE σ (ev2 sem f g):=by
  intro vs v vs' h
  obtain ⟨p1,h1,h⟩:=jd h
  obtain ⟨a,h2,h⟩:=jd h
  obtain ⟨p2,h3,h⟩:=jd h
  obtain ⟨b,h4,h⟩:=jd h
  obtain ⟨p,h5,h6⟩:=Option.map_eq_some_iff.mp h
  injection h6 with e1 e2; subst e1; subst e2
  unfold ev2
  rw [hf _ _ _ h1,Option.bind_some,frz_r h2,Option.bind_some,hg _ _ _ h3,Option.bind_some,frz_r h4,Option.bind_some,hs _ _ _ _ h5]
  rfl
theorem sim_te2 {sem:AVal→AVal→VS→Option PV} {f g:Ev} (hs:Sem2 σ sem) (hf:SimE σ f) (hg:SimE σ g):SimT σ (te2 sem f g):=by
  intro vs b vs' h
  obtain ⟨p,h1,h⟩:=jd h
  obtain ⟨t,h2,h3⟩:=Option.map_eq_some_iff.mp h
  injection h3 with e1 e2; subst e1; subst e2
  unfold te2
  rw [sim_ev2 hs hf hg _ _ _ h1,Option.bind_some,truth_r h2]
  rfl
theorem sim_teVal {f:Ev} (hf:SimE σ f):SimT σ (vZ f):=by
  intro vs b vs' h
  obtain ⟨p,h1,h⟩:=jd h
  obtain ⟨a,h2,h⟩:=jd h
  obtain ⟨t,h3,h4⟩:=Option.map_eq_some_iff.mp h
  injection h4 with e1 e2; subst e1; subst e2
  unfold vZ
  rw [hf _ _ _ h1,Option.bind_some,frz_r h2,Option.bind_some,truth_r h3]
  rfl
theorem sim_teAnd {f g:Te} (hf:SimT σ f) (hg:SimT σ g):SimT σ (teAnd f g):=by
  intro vs b vs' h
  obtain ⟨p,h1,h⟩:=jd h
  unfold teAnd
  rw [hf _ _ _ h1,Option.bind_some]
  cases e:p.1 with
  | true=>rw [e,if_pos rfl] at h; exact (if_pos rfl).trans (hg _ _ _ h)
  | false=>rw [e,if_neg Bool.false_ne_true] at h; injection h with h; injection h with e1 e2; subst e1; subst e2; rfl
theorem sim_teOr {f g:Te} (hf:SimT σ f) (hg:SimT σ g):SimT σ (teOr f g):=by
  intro vs b vs' h
  obtain ⟨p,h1,h⟩:=jd h
  unfold teOr
  rw [hf _ _ _ h1,Option.bind_some]
  cases e:p.1 with
  | false=>rw [e,if_neg Bool.false_ne_true] at h; exact (if_neg Bool.false_ne_true).trans (hg _ _ _ h)
  | true=>rw [e,if_pos rfl] at h; injection h with h; injection h with e1 e2; subst e1; subst e2; rfl
theorem sim_teNot {f:Te} (hf:SimT σ f):SimT σ (teNot f):=by
  intro vs b vs' h
  obtain ⟨p,h1,h2⟩:=Option.map_eq_some_iff.mp h
  injection h2 with e1 e2; subst e1; subst e2
  unfold teNot
  rw [hf _ _ _ h1]; rfl
theorem sim_teEnd (t:Bool):SimT σ (jC t):=by
  intro vs b vs' h
  injection h with h; injection h with e1 e2; subst e1; subst e2; rfl
theorem sim_or {f g:Ev} (hf:SimE σ f) (hg:SimE σ g):SimE σ (evOr f g):=by
  intro vs v vs' h
  obtain ⟨p,h1,h⟩:=jd h
  obtain ⟨a,h2,h⟩:=jd h
  obtain ⟨t,h3,h⟩:=jd h
  unfold evOr
  rw [hf _ _ _ h1,Option.bind_some,frz_r h2,Option.bind_some,truth_r h3,Option.bind_some]
  cases e:t with
  | false=>rw [e,if_neg Bool.false_ne_true] at h; exact (if_neg Bool.false_ne_true).trans (hg _ _ _ h)
  | true=>rw [e,if_pos rfl] at h; injection h with h; injection h with e1 e2; subst e1; subst e2; rfl
theorem partOf_r {v:AVal} {i:Option Int} (h:partOf v=some i):partOf (rA σ v)=some i:=by
  cases v with
  | pv p=>cases p <;> first | exact h | exact jb h
  | _=>exact jb h
noncomputable def SimP (o:Option Ev):Prop:=∀ vs i vs',evPart o vs=some (i,vs')→evPart o (rV σ vs)=some (i,rV σ vs')
theorem sim_pNone:SimP (σ:=σ) none:=by
  intro vs i vs' h
  injection h with h; injection h with e1 e2; subst e1; subst e2; rfl
theorem sim_pSome {f:Ev} (hf:SimE σ f):SimP (σ:=σ) (some f):=by
  intro vs i vs' h
  obtain ⟨p,h1,h⟩:=jd h
  obtain ⟨t,h2,h3⟩:=Option.map_eq_some_iff.mp h
  injection h3 with e1 e2; subst e1; subst e2
  show (f (rV σ vs)).bind _=_
  rw [hf _ _ _ h1,Option.bind_some,partOf_r h2]; rfl
theorem cut_map {α β : Type} (f:α→β) (lo hi:Option Int) (l:List α):cut lo hi (l.map f)=(cut lo hi l).map f:=by
  unfold cut
  rw [List.length_map,List.map_take,List.map_drop]
theorem semCut_r {lo hi:Option Int} {a:AVal} {vs:VS} {p:PV} (h:semCut lo hi a vs=some p):semCut lo hi (rA σ a) (rV σ vs)=some (rn σ p):=by
  have go:∀ a,((jy vs a).bind fun l=>if l.length≤100000 then some (PV.lst (cut lo hi l)) else none)=some p→((jy (rV σ vs) (rA σ a)).bind fun l=>if l.length≤100000 then some (PV.lst (cut lo hi l)) else none)=some (rn σ p):=by
    intro a h
    obtain ⟨l,h1,h2⟩:=jd h
    rw [yA h1,Option.bind_some,vo]
    split at h2
    · rename_i hl; injection h2 with h2; subst h2
      rw [if_pos hl,rn,yU,yU,cut_map]
    · exact jb h2
  cases a with
  | pv q =>
    cases q with
    | str c =>
      have h:(if c.length≤100000 then some (PV.str (cut lo hi c)) else none)=some p:=h
      show (if (c.map σ).length≤100000 then some (PV.str (cut lo hi (c.map σ))) else none)=some (rn σ p)
      rw [List.length_map]
      split at h
      · rename_i hl; injection h with h; subst h; rw [if_pos hl,rn,cut_map]
      · exact jb h
    | lst l=>exact go (.pv (.lst l)) h
    | _=>exact jb h
  | own k=>exact go _ h
  | sub k=>exact go _ h
  | obj o=>exact jb h
theorem sim_cut {f:Ev} {lo hi:Option Ev} (hf:SimE σ f) (hl:SimP (σ:=σ) lo) (hh:SimP (σ:=σ) hi):SimE σ (yx f lo hi):=by
  intro vs v vs' h
  obtain ⟨p,h1,h⟩:=jd h
  obtain ⟨a,h2,h⟩:=jd h
  obtain ⟨q,h3,h⟩:=jd h
  obtain ⟨t,h4,h⟩:=jd h
  obtain ⟨x,h5,h6⟩:=Option.map_eq_some_iff.mp h
  injection h6 with e1 e2; subst e1; subst e2
  unfold yx
  rw [hf _ _ _ h1,Option.bind_some,frz_r h2,Option.bind_some,hl _ _ _ h3,Option.bind_some,hh _ _ _ h4,Option.bind_some,semCut_r h5]; rfl
noncomputable def SimAs (fs:List Ev):Prop:=∀ vs as vs',jI fs vs=some (as,vs')→jI fs (rV σ vs)=some (as.map (rA σ),rV σ vs')
theorem sim_aNil:SimAs (σ:=σ) []:=by
  intro vs as vs' h
  injection h with h; injection h with e1 e2; subst e1; subst e2; rfl
theorem sim_aCons {f:Ev} {fs:List Ev} (hf:SimE σ f) (hs:SimAs (σ:=σ) fs):SimAs (σ:=σ) (f::fs):=by
  intro vs as vs' h
  obtain ⟨p,h1,h⟩:=jd h
  obtain ⟨a,h2,h⟩:=jd h
  obtain ⟨r,h3,h4⟩:=Option.map_eq_some_iff.mp h
  injection h4 with e1 e2; subst e1; subst e2
  unfold jI
  rw [hf _ _ _ h1,Option.bind_some,frz_r h2,Option.bind_some,hs _ _ _ h3]; rfl
theorem sim_fn {sem:FSem} {fs:List Ev} (hs:SemF σ sem) (ha:SimAs (σ:=σ) fs):SimE σ (evFn sem fs):=by
  intro vs v vs' h
  obtain ⟨p,h1,h⟩:=jd h
  obtain ⟨q,h2,h3⟩:=Option.map_eq_some_iff.mp h
  injection h3 with e1 e2; subst e1; subst e2
  unfold evFn
  rw [ha _ _ _ h1,Option.bind_some,hs _ _ _ h2]; rfl
theorem semList_r {as:List AVal} {vs:VS} {v:AVal} {vs':VS} (h:semList as vs=some (v,vs')):semList (as.map (rA σ)) (rV σ vs)=some (rA σ v,rV σ vs'):=by
  unfold semList at h
  split at h
  · rename_i a b c
    split at h
    · rename_i hc
      injection h with h; injection h with e1 e2; subst e1; subst e2
      show (if Builtin.Range.small a b c=true∧0≤Builtin.Range.rangeSize a b c∧Builtin.Range.rangeSize a b c≤100000 then some (AVal.obj (.list (jP a b c)),rV σ vs) else none)=some (AVal.obj (.list (rns σ (jP a b c))),rV σ vs)
      rw [if_pos hc,yU]
      unfold jP
      rw [List.map_map]; rfl
    · exact jb h
  · exact jb h
theorem sim_list {fs:List Ev} (ha:SimAs (σ:=σ) fs):SimE σ (evFnM semList fs):=by
  intro vs v vs' h
  obtain ⟨p,h1,h⟩:=jd h
  unfold evFnM
  rw [ha _ _ _ h1,Option.bind_some,semList_r h]
theorem rn_inv {a:AVal} {i:Int} (h:a.int?=some i):(rA σ a).int?=some i:=by rw [int_inv h]; rfl
theorem as1_r {as:List AVal} {a:AVal} (h:as1 as=some a):as1 (as.map (rA σ))=some (rA σ a):=by rw [as1_inv h]; rfl
theorem as2_r {as:List AVal} {q:AVal×AVal} (h:as2 as=some q):as2 (as.map (rA σ))=some (rA σ q.1,rA σ q.2):=by rw [as2_inv h]; rfl
theorem sem_ii {f:Int→Int→Option PV} (hf:∀ i j p,f i j=some p→rn σ p=p):Sem2 σ fun a b _=>ii f a b:=by
  intro a b vs p h
  refine ii_inv h fun i j ha hb h=>?_
  rw [ha,hb,hf i j p h]; exact h
theorem semF_1I {F:Int→Option PV} (hf:∀ i p,F i=some p→rn σ p=p):SemF σ fun as _=>(as1 as).bind fun a=>a.int?.bind F:=by
  intro as vs p h
  obtain ⟨a,h1,h⟩:=jd h
  obtain ⟨i,h2,h⟩:=jd h
  show (as1 (as.map (rA σ))).bind _=_
  rw [as1_r h1,Option.bind_some,rn_inv h2,hf i p h]; exact h
theorem semF_2I {f:Int→Int→Option PV} (hf:∀ i j p,f i j=some p→rn σ p=p):SemF σ fun as _=>(as2 as).bind fun q=>ii f q.1 q.2:=by
  intro as vs p h
  obtain ⟨q,h1,h⟩:=jd h
  show (as2 (as.map (rA σ))).bind _=_
  rw [as2_r h1]; exact sem_ii hf q.1 q.2 vs p h
theorem sem_len:SemF σ Je:=by
  intro as vs p h
  obtain ⟨a,h1,h⟩:=jd h
  unfold Je
  rw [as1_r h1,Option.bind_some]
  refine lenOf_inv h (fun c ha hl hp=>?_) fun l h1 hl hp=>?_
  · subst ha hp
    show (if (c.map σ).length<1000000 then some (PV.int (c.map σ).length) else none)=_
    rw [List.length_map,if_pos hl]; rfl
  · subst hp
    rw [lenOf_L (yA h1)]
    unfold lenL
    rw [yA h1,Option.bind_some,vo,if_pos hl]; rfl
theorem sem_range:SemF σ yp:=by
  intro as vs p h
  refine (or_inv h).elim (fun h=>?_) fun h=>rng3_inv h fun i j k ha h=>?_
  · unfold yp
    rw [show rng1 (as.map (rA σ)) (rV σ vs)=some (rn σ p) from semF_1I (fun i p h=>by injection h with h; subst h; rfl) as vs p h]; rfl
  · rw [ha]
    split at h
    · rename_i hc; injection h with h; subst h; exact if_pos hc
    · exact jb h
theorem sem_min:SemF σ semMin:=semF_2I fun i j p h=>by injection h with h; subst h; rfl
theorem sem_sub:Sem2 σ yG:=sem_ii fun i j p h=>by injection h with h; subst h; rfl
theorem sem_lt:Sem2 σ semLt:=sem_ii fun i j p h=>by injection h with h; subst h; rfl
theorem sem_gt:Sem2 σ semGt:=sem_ii fun i j p h=>by injection h with h; subst h; rfl
theorem sem_I {f:Int→Int→Option Int}:Sem2 σ (semI f):=sem_ii fun i j p h=>by
  obtain ⟨k,h1,h2⟩:=Option.map_eq_some_iff.mp h
  subst h2; rfl
theorem isN_r {q:PV}:(rn σ q).isN=q.isN:=by cases q <;> rfl
theorem isI_r {i:Int} {q:PV}:(rn σ q).isI i=q.isI i:=by cases q <;> rfl
theorem isS_r (R:Ren σ) {c:List Nat} {q:PV}:(rn σ q).isS (c.map σ)=q.isS c:=by
  cases q with
  | str d =>
    show (c.map σ == d.map σ)=(c == d)
    rw [Bool.eq_iff_iff,beq_iff_eq,beq_iff_eq]
    exact ⟨fun h=>(List.map_inj_right fun a b e=>R.inj a b e).mp h,fun h=>by rw [h]⟩
  | _=>rfl
theorem isT_r {f g:List PV→Bool} {q:PV} (h:∀ l,f (rns σ l)=g l):(rn σ q).isT f=q.isT g:=by
  cases q with
  | tup l=>exact h l
  | _=>rfl
theorem isL_r {f g:List PV→Bool} {q:PV} (h:∀ l,f (rns σ l)=g l):(rn σ q).isL f=q.isL g:=by
  cases q with
  | lst l=>exact h l
  | _=>rfl
theorem pvEqs_r {n:Nat} (ih:∀ p q:PV,okD n p=true→pvEq (rn σ p) (rn σ q)=pvEq p q):∀ l:List PV,(∀ x∈l,okD n x=true)→∀ m:List PV,pvEqs (rns σ l) (rns σ m)=pvEqs l m:=by
  intro l
  induction l with
  | nil=>intro _ m; cases m <;> rfl
  | cons x l hi =>
    intro hl m
    cases m with
    | nil=>rfl
    | cons y m =>
      show (pvEq (rn σ x) (rn σ y)&&pvEqs (rns σ l) (rns σ m))=_
      rw [ih x y (hl _ (.head _)),hi (fun z hz=>hl z (.tail _ hz)) m]; rfl
theorem pvEq_r (R:Ren σ) (n:Nat):∀ p q:PV,okD n p=true→pvEq (rn σ p) (rn σ q)=pvEq p q:=by
  induction n with
  | zero =>
    intro p q hp
    cases p with
    | none=>exact isN_r
    | bool b=>exact isI_r
    | int i=>exact isI_r
    | str c=>exact isS_r R
    | _=>exact nomatch hp
  | succ n ih =>
    intro p q hp
    cases p with
    | none=>exact isN_r
    | bool b=>exact isI_r
    | int i=>exact isI_r
    | str c=>exact isS_r R
    | tup l=>exact isT_r fun m=>pvEqs_r ih l (List.all_eq_true.mp hp) m
    | lst l=>exact isL_r fun m=>pvEqs_r ih l (List.all_eq_true.mp hp) m
    | _=>exact nomatch hp
theorem all_lim (R:Ren σ) {c:List Nat} (h:c.all (fun d=>decide (d<0x110000))=true):(c.map σ).all (fun d=>decide (d<0x110000))=true:=by
  rw [List.all_map]
  exact List.all_eq_true.mpr fun x hx=>decide_eq_true (R.lim x (of_decide_eq_true (List.all_eq_true.mp h x hx)))
theorem okDs_r {n:Nat} (ih:∀ p:PV,okD n p=true→okD n (rn σ p)=true):∀ l:List PV,l.all (okD n)=true→(rns σ l).all (okD n)=true:=by
  intro l
  induction l with
  | nil=>exact id
  | cons x l hi=>exact fun h=>Bool.and_eq_true_iff.mpr ⟨ih x (Bool.and_eq_true_iff.mp h).1,hi (Bool.and_eq_true_iff.mp h).2⟩
theorem okD_r (R:Ren σ) (n:Nat):∀ p:PV,okD n p=true→okD n (rn σ p)=true:=by
  induction n with
  | zero =>
    intro p h
    cases p with
    | str c=>exact all_lim R h
    | _=>exact h
  | succ n ih =>
    intro p h
    cases p with
    | str c=>exact all_lim R h
    | tup l=>exact okDs_r ih l h
    | lst l=>exact okDs_r ih l h
    | _=>exact h
theorem sem_eq (R:Ren σ):Sem2 σ yH:=by
  intro a b vs p h
  obtain ⟨q,h1,h⟩:=jd h
  obtain ⟨r,h2,h⟩:=jd h
  split at h
  · rename_i hk
    injection h with h; subst h
    rw [Bool.and_eq_true] at hk
    unfold yH
    rw [viewD_r h1,Option.bind_some,viewD_r h2,Option.bind_some,okD_r R 9 q hk.1,okD_r R 9 r hk.2,pvEq_r R 9 q r hk.1]
    rfl
  · exact jb h
theorem sem_item:Sem2 σ jp:=by
  intro a b vs p h
  obtain ⟨i,hb,h⟩:=jd h
  unfold jp
  rw [rn_inv hb,Option.bind_some]
  refine itOf_inv h (fun c j d ha h1 h2 hp=>?_) (fun l j ha h1 h2=>?_) fun l hr h1 h2=>?_
  · subst ha hp
    show ((idx i (c.map σ).length).bind fun j=>((c.map σ)[j]?).map fun d=>PV.str [d])=_
    rw [List.length_map,h1,Option.bind_some,List.getElem?_map,h2]; rfl
  · subst ha
    show ((idx i (rns σ l).length).bind fun j=>(rns σ l)[j]?)=_
    rw [vo,h1,Option.bind_some,rns_at,h2]; rfl
  · rw [itOf_L (yA h1)]
    unfold itL
    rw [if_pos hr,yA h1,Option.bind_some,rns_at,h2]; rfl
theorem num_r {b:AVal} {j:Int} (h:b.num?=some j):(rA σ b).num?=some j:=num_inv h (fun i hb h'=>by subst hb; exact h) fun t hb ht=>by subst hb ht; rfl
theorem sem_add:Sem2 σ jB:=by
  intro a b vs p h
  refine semAdd_inv h (fun i ha h=>?_) (fun h=>?_) fun h=>?_
  · obtain ⟨j,hb,hp⟩:=Option.map_eq_some_iff.mp h
    subst ha hp
    exact congrArg (Option.map fun j=>PV.int (i+j)) (num_r hb)
  · obtain ⟨c,ha,h⟩:=jd h
    obtain ⟨d,hb,h⟩:=jd h
    split at h
    · rename_i hl
      injection h with h; subst h
      rw [v8 ha,v8 hb]
      show (if (c.map σ).length+(d.map σ).length≤100000 then some (PV.str (c.map σ++d.map σ)) else none)=_
      rw [List.length_map,List.length_map,if_pos hl,← List.map_append]; rfl
    · exact jb h
  · obtain ⟨l,h1,h⟩:=jd h
    obtain ⟨m,h2,h⟩:=jd h
    split at h
    · rename_i hl
      injection h with h; subst h
      rw [semAdd_L (yA h1)]
      unfold addL
      rw [yA h1,Option.bind_some,yA h2,Option.bind_some,vo,vo,if_pos hl,yU,yU,← List.map_append,← yU]; rfl
    · exact jb h
theorem sem_mul:Sem2 σ yc:=by
  intro a b vs p h
  refine semMul_inv h (fun i j ha hb k=>?_) fun j hb k=>?_
  · subst ha hb; clear h
    split at k
    · rename_i hi; injection k with h; subst h; exact if_pos hi
    · exact jb k
  · subst hb; clear h
    obtain ⟨l,h1,h⟩:=jd k
    clear k
    split at h
    · rename_i hl
      injection h with h; subst h
      show mulOf j (rA σ a) (rV σ vs)=_
      rw [mulOf_L (yA h1)]
      unfold mulL
      rw [yA h1,Option.bind_some,vo,if_pos hl,yU,show rn σ (.lst (List.replicate j.toNat l).flatten)=.lst ((List.replicate j.toNat l).flatten.map (rn σ)) from congrArg PV.lst (yU _ _),List.map_flatten,List.map_replicate]
    · exact jb h
theorem rV_set (vs:VS) (k:Nat) (x:Slot):rV σ (vs.set k x)=(rV σ vs).set k (rS σ x):=List.map_set
theorem rV_len (vs:VS):(rV σ vs).length=vs.length:=List.length_map _
theorem sim_set {k:Nat} {f:Ev} (hf:SimE σ f):SimX σ (jD k f):=by
  intro vs v vs' h
  obtain ⟨p,h1,h⟩:=jd h
  obtain ⟨q,h2,h⟩:=jd h
  split at h
  · rename_i hk
    injection h with h; injection h with e1 e2; subst e1; subst e2
    unfold jD
    rw [hf _ _ _ h1,Option.bind_some,pvOf_r h2,Option.bind_some,rV_len,if_pos hk,rV_set]; rfl
  · exact jb h
theorem sim_set2 {k l:Nat} {f:Ev} (hf:SimE σ f):SimX σ (exSet2 k l f):=by
  intro vs v vs' h
  obtain ⟨p,h1,h⟩:=jd h
  obtain ⟨q,h2,h⟩:=jd h
  split at h
  · rename_i hk
    injection h with h; injection h with e1 e2; subst e1; subst e2
    unfold exSet2
    rw [hf _ _ _ h1,Option.bind_some,pvOf_r h2,Option.bind_some,rV_len,if_pos hk,rV_set,rV_set]; rfl
  · exact jb h
theorem sim_setOb {k:Nat} {f:Ev} (hf:SimE σ f):SimX σ (Jc k f):=by
  intro vs v vs' h
  obtain ⟨p,h1,h⟩:=jd h
  split at h
  · rename_i o ho
    split at h
    · rename_i hk
      injection h with h; injection h with e1 e2; subst e1; subst e2
      unfold Jc
      rw [hf _ _ _ h1,Option.bind_some,ho]
      show (if k<(rV σ p.2).length then _ else none)=_
      rw [rV_len,if_pos hk,rV_set]; rfl
    · exact jb h
  · exact jb h
theorem sim_swap {k l:Nat} {f:Ev} (hf:SimE σ f):SimX σ (exSwap k l f):=by
  intro vs v vs' h
  obtain ⟨p,h1,h⟩:=jd h
  split at h
  · rename_i a b ho
    split at h
    · rename_i hk
      injection h with h; injection h with e1 e2; subst e1; subst e2
      unfold exSwap
      rw [hf _ _ _ h1,Option.bind_some,ho]
      show (if k<(rV σ p.2).length∧l<(rV σ p.2).length then _ else none)=_
      rw [rV_len,if_pos hk,rV_set,rV_set]; rfl
    · exact jb h
  · exact jb h
theorem evs_r {fs:List Ev} (hs:∀ f∈fs,SimE σ f):∀ vs l vs',evs fs vs=some (l,vs')→evs fs (rV σ vs)=some (rns σ l,rV σ vs'):=by
  induction fs with
  | nil =>
    intro vs l vs' h
    injection h with h; injection h with e1 e2; subst e1; subst e2; rfl
  | cons f fs ih =>
    intro vs l vs' h
    obtain ⟨p,h1,h⟩:=jd h
    obtain ⟨q,h2,h⟩:=jd h
    obtain ⟨r,h3,h4⟩:=Option.map_eq_some_iff.mp h
    injection h4 with e1 e2; subst e1; subst e2
    show (f (rV σ vs)).bind _=_
    rw [hs f List.mem_cons_self _ _ _ h1,Option.bind_some,pvOf_r h2,Option.bind_some,ih (fun g hg=>hs g (List.mem_cons_of_mem _ hg)) _ _ _ h3]; rfl
theorem sim_tup2 {f g:Ev} (hf:SimE σ f) (hg:SimE σ g):SimE σ (evTup [f,g]):=by
  intro vs v vs' h
  obtain ⟨p,h1,h⟩:=jd h
  split at h
  · rename_i hl
    injection h with h; injection h with e1 e2; subst e1; subst e2
    unfold evTup
    rw [evs_r (fun x hx=>by
      rcases List.mem_cons.mp hx with rfl | hx
      · exact hf
      · rw [List.mem_singleton.mp hx]; exact hg) _ _ _ h1,Option.bind_some,vo,if_pos hl]; rfl
  · exact jb h
theorem sim_nil:SimX σ jr:=by
  intro vs v vs' h
  injection h with h; injection h with e1 e2; subst e1; subst e2; rfl
theorem sim_seq {f g:Ex} (hf:SimX σ f) (hg:SimX σ g):SimX σ (jm f g):=by
  intro vs v vs' h
  obtain ⟨p,h1,h⟩:=jd h
  unfold jm
  rw [hf _ _ _ h1,Option.bind_some]
  cases e:p.1 with
  | next=>rw [e] at h; exact hg _ _ _ h
  | brk=>rw [e] at h; injection h with h; injection h with e1 e2; subst e1; subst e2; rfl
  | ret w=>rw [e] at h; injection h with h; injection h with e1 e2; subst e1; subst e2; rfl
theorem sim_ret {f:Ev} (hf:SimE σ f):SimX σ (vE f):=by
  intro vs v vs' h
  obtain ⟨p,h1,h2⟩:=Option.map_eq_some_iff.mp h
  injection h2 with e1 e2; subst e1; subst e2
  unfold vE
  rw [hf _ _ _ h1]; rfl
theorem sim_if {t:Te} {f g:Ex} (ht:SimT σ t) (hf:SimX σ f) (hg:SimX σ g):SimX σ (exIf t f g):=by
  intro vs v vs' h
  obtain ⟨p,h1,h⟩:=jd h
  unfold exIf
  rw [ht _ _ _ h1,Option.bind_some]
  cases e:p.1 with
  | true=>rw [e,if_pos rfl] at h; exact (if_pos rfl).trans (hf _ _ _ h)
  | false=>rw [e,if_neg Bool.false_ne_true] at h; exact (if_neg Bool.false_ne_true).trans (hg _ _ _ h)
theorem sim_while {t:Te} {b:Ex} (ht:SimT σ t) (hb:SimX σ b):∀ n,SimX σ (vM t b n)
  | 0=>fun _ _ _ h=>jb h
  | n+1=>by
    intro vs v vs' h
    obtain ⟨p,h1,h⟩:=jd h
    show (t (rV σ vs)).bind _=_
    rw [ht _ _ _ h1,Option.bind_some]
    cases e:p.1 with
    | false=>rw [e,if_neg Bool.false_ne_true] at h; injection h with h; injection h with e1 e2; subst e1; subst e2; rfl
    | true =>
      rw [e,if_pos rfl] at h
      obtain ⟨q,h2,h⟩:=jd h
      refine (if_pos rfl).trans ?_
      rw [hb _ _ _ h2,Option.bind_some]
      cases e:q.1 with
      | next=>rw [e] at h; exact sim_while ht hb n _ _ _ h
      | brk=>rw [e] at h; injection h with h; injection h with e1 e2; subst e1; subst e2; rfl
      | ret w=>rw [e] at h; injection h with h; injection h with e1 e2; subst e1; subst e2; rfl
theorem sim_for {k:Nat} {b:Ex} (hb:SimX σ b):∀ (l:List PV) vs v vs',yJ (jh k) b jr l vs=some (v,vs')→yJ (jh k) b jr (rns σ l) (rV σ vs)=some (rF σ v,rV σ vs')
  | [],vs,v,vs',h=>sim_nil vs v vs' h
  | p::l,vs,v,vs',h=>by
    obtain ⟨v1,h1,h⟩:=jd h
    obtain ⟨q,h2,h⟩:=jd h
    have a1:jh k (rn σ p) (rV σ vs)=some (rV σ v1):=by
      unfold jh at h1 ⊢
      rw [rV_len]
      split at h1
      · rename_i hk; injection h1 with h1; subst h1; rw [if_pos hk,rV_set]; rfl
      · exact jb h1
    show (jh k (rn σ p) (rV σ vs)).bind _=_
    rw [a1,Option.bind_some,hb _ _ _ h2,Option.bind_some]
    cases e:q.1 with
    | next=>rw [e] at h; exact sim_for hb l _ _ _ h
    | brk=>rw [e] at h; injection h with h; injection h with e1 e2; subst e1; subst e2; rfl
    | ret w=>rw [e] at h; injection h with h; injection h with e1 e2; subst e1; subst e2; rfl
theorem itemsOf_r {vs:VS} {v:AVal} {l:List PV} (h:vq vs v=some l) (hv:∀ a b c,v ≠ .pv (.str c)∧v ≠ .own a∧v ≠ .sub b):vq (rV σ vs) (rA σ v)=some (rns σ l):=by
  cases v with
  | pv p =>
    cases p with
    | lst l=>injection h with h; subst h; rfl
    | tup l=>injection h with h; subst h; rfl
    | str c=>exact absurd rfl (hv 0 0 c).1
    | rng a b c =>
      have h:(if Builtin.Range.small a b c=true∧0≤Builtin.Range.rangeSize a b c then some (jP a b c) else none)=some l:=h
      split at h
      · rename_i hc
        injection h with h; subst h
        show (if Builtin.Range.small a b c=true∧0≤Builtin.Range.rangeSize a b c then some (jP a b c) else none)=_
        rw [if_pos hc,yU]
        unfold jP
        rw [List.map_map]; rfl
      · exact jb h
    | _=>exact jb h
  | own k=>exact absurd rfl (hv k 0 []).2.1
  | sub k=>exact absurd rfl (hv 0 k []).2.2
  | obj o=>exact jb h
theorem sim_forRange {k:Nat} {fs:List Ev} {b:Ex} (ha:SimAs (σ:=σ) fs) (hb:SimX σ b):SimX σ (yE (evFn yp fs) (jh k) b jr):=by
  intro vs v vs' h
  obtain ⟨p,h1,h⟩:=jd h
  obtain ⟨a,h2,h⟩:=jd h
  obtain ⟨l,h3,h⟩:=jd h
  have hv:∀ x y c,a ≠ .pv (.str c)∧a ≠ .own x∧a ≠ .sub y:=by
    obtain ⟨q,h4,h5⟩:=jd h1
    obtain ⟨r,h6,h7⟩:=Option.map_eq_some_iff.mp h5
    rw [← h7] at h2
    refine (or_inv h6).elim (fun h8=>?_) fun h8=>rng3_inv h8 fun i j k _ h9=>?_
    · obtain ⟨_,_,h8⟩:=jd h8
      obtain ⟨_,_,h8⟩:=jd h8
      injection h8 with h8; subst h8; injection h2 with h2; subst h2; exact fun _ _ _=>⟨nofun,nofun,nofun⟩
    · split at h9
      · injection h9 with h9; subst h9; injection h2 with h2; subst h2; exact fun _ _ _=>⟨nofun,nofun,nofun⟩
      · exact jb h9
  unfold yE
  rw [sim_fn sem_range ha _ _ _ h1,Option.bind_some,frz_r h2,Option.bind_some,itemsOf_r h3 hv,Option.bind_some]
  exact sim_for hb l _ _ _ h
theorem ownList_r {vs:VS} {v:AVal} {k:Nat} {h:Bool} {l:List PV} (e:jK vs v=some (k,h,l)):jK (rV σ vs) (rA σ v)=some (k,h,rns σ l):=by
  cases v with
  | own j =>
    simp only [jK] at e
    split at e
    · rename_i m h0
      injection e with e; injection e with e1 e; injection e with e2 e3; subst e1; subst e2; subst e3
      show (match (rV σ vs)[j]? with | some (Slot.ob (.list l))=>some (j,false,l) | _=>none)=_
      rw [rV_at,h0]; rfl
    · exact jb e
  | sub j =>
    simp only [jK] at e
    split at e
    · rename_i m h0
      injection e with e; injection e with e1 e; injection e with e2 e3; subst e1; subst e2; subst e3
      show (match (rV σ vs)[j]? with | some (Slot.ob (.hdr l))=>some (j,true,l) | _=>none)=_
      rw [rV_at,h0]; rfl
    · exact jb e
  | _=>exact jb e
theorem sim_setItem {f fo fi:Ev} (hf:SimE σ f) (ho:SimE σ fo) (hi:SimE σ fi):SimX σ (exSetItem f fo fi):=by
  intro vs v vs' h
  obtain ⟨p,h1,h⟩:=jd h
  obtain ⟨q,h2,h⟩:=jd h
  obtain ⟨o,h3,h⟩:=jd h
  obtain ⟨i,h4,h⟩:=jd h
  split at h
  case h_2=>exact jb h
  rename_i j hj
  obtain ⟨⟨k,t,l⟩,h5,h⟩:=jd h
  split at h
  case isFalse=>exact jb h
  rename_i hc
  injection h with h; injection h with e1 e2; subst e1; subst e2
  unfold exSetItem
  rw [hf _ _ _ h1,Option.bind_some,pvOf_r h2,Option.bind_some,ho _ _ _ h3,Option.bind_some,hi _ _ _ h4,Option.bind_some,hj]
  show ((jK (rV σ i.2) (rA σ o.1)).bind _)=_
  rw [ownList_r h5,Option.bind_some]
  show (if 0≤j∧j.toNat<(rns σ l).length∧(rns σ l).length≤100000 then _ else none)=_
  rw [vo,if_pos hc]
  show some (Fl.next,yK (rV σ i.2) k t ((rns σ l).set j.toNat (rn σ q)))=some (Fl.next,rV σ (yK i.2 k t (l.set j.toNat q)))
  unfold yK
  rw [rV_set,yU,← List.map_set,← yU]
  cases t <;> rfl
theorem ownK_r (a:AVal):ownK (rA σ a)=ownK a:=by cases a <;> rfl
theorem ownNd_r:∀ as:List AVal,vJ (as.map (rA σ))=vJ as
  | []=>rfl
  | a::as=>by
    have ih:=ownNd_r as
    cases a with
    | own k =>
      show ((as.map (rA σ)).all (fun a=>ownK a != some k)&&vJ (as.map (rA σ)))=(as.all (fun a=>ownK a != some k)&&vJ as)
      rw [ih,List.all_map]
      congr 2
      funext x
      show (ownK (rA σ x) != some k)=_
      rw [ownK_r]
    | _=>exact ih
theorem argSlot_r {vs:VS} {a:AVal} {s:Slot} (h:vf vs a=some s):vf (rV σ vs) (rA σ a)=some (rS σ s):=by
  cases a with
  | own k =>
    simp only [vf] at h
    split at h
    · rename_i o h0
      injection h with h; subst h
      show (match (rV σ vs)[k]? with | some (Slot.ob o)=>some (Slot.ob o) | _=>none)=_
      rw [rV_at,h0]; rfl
    · exact jb h
  | sub k=>exact jb h
  | _=>injection h with h; subst h; rfl
theorem argSlots_r:∀ {as:List AVal} {vs sls:VS},jU vs as=some sls→jU (rV σ vs) (as.map (rA σ))=some (rV σ sls)
  | [],vs,sls,h=>by injection h with h; subst h; rfl
  | a::as,vs,sls,h=>by
    obtain ⟨s,h1,h⟩:=jd h
    obtain ⟨r,h2,h3⟩:=Option.map_eq_some_iff.mp h
    subst h3
    show (vf (rV σ vs) (rA σ a)).bind _=_
    rw [argSlot_r h1,Option.bind_some,argSlots_r h2]; rfl
theorem giveBack_r:∀ {as:List AVal} {sls vs vs2:VS},yq as sls vs=some vs2→yq (as.map (rA σ)) (rV σ sls) (rV σ vs)=some (rV σ vs2)
  | [],sls,vs,vs2,h=>by injection h with h; subst h; cases sls <;> rfl
  | a::as,[],vs,vs2,h=>by cases a <;> exact jb h
  | a::as,s::sls,vs,vs2,h=>by
    cases a with
    | own k =>
      cases s with
      | ob o =>
        show yq (as.map (rA σ)) (rV σ sls) ((rV σ vs).set k (rS σ (.ob o)))=_
        rw [← rV_set]
        exact giveBack_r (as:=as) (sls:=sls) (vs:=vs.set k (.ob o)) h
      | _=>exact jb h
    | _=>exact giveBack_r (as:=as) (sls:=sls) h
theorem slotA_r {s:Slot} {w:AVal} (h:vR s=some w):vR (rS σ s)=some (rA σ w):=by
  cases s with
  | pv p=>injection h with h; subst h; rfl
  | ob o=>injection h with h; subst h; rfl
  | _=>exact jb h
theorem sim_call2 {F:jw} {f g:Ev} (hF:SimF σ F) (hf:SimE σ f) (hg:SimE σ g):SimE σ (jt 2 F [f,g]):=by
  intro vs v vs' h
  obtain ⟨⟨as,v2⟩,h1,h⟩:=jd h
  split at h
  case isFalse=>exact jb h
  rename_i hn
  obtain ⟨sls,h2,h⟩:=jd h
  obtain ⟨⟨sl,sls'⟩,h3,h⟩:=jd h
  obtain ⟨vs2,h4,h⟩:=jd h
  obtain ⟨w,h5,h6⟩:=Option.map_eq_some_iff.mp h
  injection h6 with e1 e2; subst e1; subst e2
  obtain ⟨p1,a1,b⟩:=jd h1
  obtain ⟨a,a2,b⟩:=jd b
  obtain ⟨⟨q1,q2⟩,a3,a4⟩:=Option.map_eq_some_iff.mp b
  obtain ⟨p2,a5,a6⟩:=Option.map_eq_some_iff.mp a3
  injection a6 with e1 e2; subst e1; subst e2
  injection a4 with e1 e2; subst e1; subst e2
  have h1':yX [f,g] (rV σ vs)=some ([rA σ a,rA σ p2.1],rV σ p2.2):=by
    show ((f (rV σ vs)).bind fun p=>(frz p.1).bind fun a=>((g p.2).map fun p=>([p.1],p.2)).map fun r=>(a::r.1,r.2))=_
    rw [hf _ _ _ a1,Option.bind_some,frz_r a2,Option.bind_some,hg _ _ _ a5]; rfl
  unfold jt
  rw [h1',Option.bind_some]
  have hn':[rA σ a,rA σ p2.1].length=2∧vJ [rA σ a,rA σ p2.1]=true:=⟨rfl,(ownNd_r [a,p2.1]).trans hn.2⟩
  refine (if_pos hn').trans ?_
  have h2':jU (rV σ p2.2) [rA σ a,rA σ p2.1]=some (rV σ sls):=argSlots_r h2
  have h4':yq [rA σ a,rA σ p2.1] (rV σ sls') (rV σ p2.2)=some (rV σ vs2):=giveBack_r h4
  rw [h2',Option.bind_some,hF _ _ _ h3,Option.bind_some,h4',Option.bind_some,slotA_r h5]; rfl
theorem pk_r (vk:VK) (s:Slot):pk vk (rS σ s)=pk vk s:=by cases vk <;> cases s <;> rfl
theorem okIn_r:∀ (ks:List (Str×VK)) (sls:VS),okIn ks (rV σ sls)=okIn ks sls
  | [],[]=>rfl
  | _::_,[]=>rfl
  | [],_::_=>rfl
  | (x,vk)::ks,s::sls=>by
    show (pk vk (rS σ s)&&okIn ks (rV σ sls))=(pk vk s&&okIn ks sls)
    rw [pk_r,okIn_r ks sls]
theorem giveAt_r (x:Option (Str×VK)) (s:Option Slot):giveAt x (s.map (rS σ))=rS σ (giveAt x s):=by
  cases x with
  | none=>cases s <;> rfl
  | some x =>
    obtain ⟨x,vk⟩:=x
    cases s with
    | none=>cases vk <;> rfl
    | some s=>cases vk <;> cases s <;> rfl
theorem gives_r (ks:List (Str×VK)) (n:Nat) (vs:VS):gives ks n (rV σ vs)=rV σ (gives ks n vs):=by
  unfold gives
  show _=List.map _ (List.map _ _)
  rw [List.map_map]
  refine List.map_congr_left fun k _=>?_
  rw [rV_at]
  exact giveAt_r ks[k]? vs[k]?
theorem sim_fnOf {ks:List (Str×VK)} {n nl:Nat} {b:Ex} (hb:SimX σ b):SimF σ (fnOf ks n nl b):=by
  intro sls sl sls' h
  unfold fnOf at h ⊢
  split at h
  case isFalse=>exact jb h
  rename_i hc
  rw [rV_len,okIn_r,if_pos hc]
  obtain ⟨q,h1,h⟩:=jd h
  have e:rV σ sls++List.replicate nl Slot.un=rV σ (sls++List.replicate nl .un):=by
    show _=List.map _ _
    rw [List.map_append,List.map_replicate]; rfl
  rw [e,hb _ _ _ h1,Option.bind_some]
  cases e:q.1 with
  | next =>
    rw [e] at h
    injection h with h; injection h with e1 e2; subst e1; subst e2
    show some (Slot.pv PV.none,gives ks n (rV σ q.2))=_
    rw [gives_r]; rfl
  | brk=>rw [e] at h; exact jb h
  | ret w =>
    rw [e] at h
    obtain ⟨r,h2,h3⟩:=Option.map_eq_some_iff.mp h
    injection h3 with e1 e2; subst e1; subst e2
    show (Ja (rA σ w)).map (fun r=>(r,gives ks n (rV σ q.2)))=_
    have:Ja (rA σ w)=some (rS σ r):=by
      cases w with
      | pv p=>injection h2 with h2; subst h2; rfl
      | obj o=>injection h2 with h2; subst h2; rfl
      | _=>exact jb h2
    rw [this,gives_r]; rfl
noncomputable def lowE (k:Nat):Ev:=jL isStr (vh (jS fun c=>PV.str (List.map PyProof.Rows.lo1 c))) (jf k) []
theorem asc_r (R:Ren σ) {c:List Nat} (h:asc c=true):asc (c.map σ)=true:=by
  simp only [asc,Bool.and_eq_true,decide_eq_true_eq] at h ⊢
  refine ⟨?_,by rw [List.length_map]; exact h.2⟩
  rw [List.all_map]
  exact List.all_eq_true.mpr fun x hx=>decide_eq_true (R.asc x (of_decide_eq_true (List.all_eq_true.mp h.1 x hx)))
theorem low_r (R:Ren σ) (c:List Nat):(c.map σ).map PyProof.Rows.lo1=c.map PyProof.Rows.lo1:=by
  rw [List.map_map]
  exact List.map_congr_left fun x _=>R.low x
theorem lowE_r (R:Ren σ) {k:Nat} {vs:VS} {v:AVal} {vs':VS} (h:lowE k vs=some (v,vs')):lowE k (rV σ vs)=some (v,rV σ vs')∧∃ c,v=.pv (.str c)∧vs'=vs:=by
  obtain ⟨⟨v1,vs1⟩,h1,h⟩:=jd h
  obtain ⟨a,h2,h⟩:=jd h
  split at h
  case isFalse=>exact jb h
  rename_i hs
  have h:vh (jS fun c=>PV.str (List.map PyProof.Rows.lo1 c)) [a] vs1=some (v,vs'):=h
  obtain ⟨p,h3,h4⟩:=Option.map_eq_some_iff.mp h
  injection h4 with e1 e2; subst e1; subst e2
  unfold jS at h3
  split at h3
  case h_2=>exact jb h3
  rename_i c hc
  split at h3
  case isFalse=>exact jb h3
  rename_i ha
  injection h3 with h3; subst h3
  injection hc with hc; subst hc
  have hv:=(evVar_eq h1).choose_spec.2.2
  refine ⟨?_,_,rfl,hv⟩
  show (jf k (rV σ vs)).bind _=_
  rw [sim_var k _ _ _ h1,Option.bind_some,frz_r h2,Option.bind_some]
  refine (if_pos rfl).trans ?_
  show ((if asc (c.map σ)=true then some (PV.str ((c.map σ).map PyProof.Rows.lo1)) else none).map fun p=>(AVal.pv p,rV σ vs1))=_
  rw [asc_r R ha,if_pos rfl,low_r R]; rfl
theorem sim_low (R:Ren σ) (j k:Nat):SimT σ (te2 yH (lowE j) (lowE k)):=by
  intro vs b vs' h
  obtain ⟨p,h1,h⟩:=jd h
  obtain ⟨t,h2,h3⟩:=Option.map_eq_some_iff.mp h
  injection h3 with e1 e2; subst e1; subst e2
  obtain ⟨p1,a1,h1⟩:=jd h1
  obtain ⟨a,a2,h1⟩:=jd h1
  obtain ⟨p2,a3,h1⟩:=jd h1
  obtain ⟨b,a4,h1⟩:=jd h1
  obtain ⟨q,a5,a6⟩:=Option.map_eq_some_iff.mp h1
  subst a6
  obtain ⟨k1,c,hc,_⟩:=lowE_r R a1
  obtain ⟨k2,d,hd,_⟩:=lowE_r R a3
  rw [hc] at a2
  rw [hd] at a4
  injection a2 with a2; subst a2
  injection a4 with a4; subst a4
  unfold te2 ev2
  rw [k1,Option.bind_some,hc]
  show ((((lowE k (rV σ p1.2)).bind _).bind _)=_)
  rw [k2,Option.bind_some,hd]
  show (((yH (.pv (.str c)) (.pv (.str d)) (rV σ p2.2)).map fun p=>(AVal.pv p,rV σ p2.2)).bind _)=_
  have a5':yH (.pv (.str c)) (.pv (.str d)) (rV σ p2.2)=some q:=a5
  rw [a5']
  show ((truth (rV σ p2.2) (.pv q)).map fun b=>(b,rV σ p2.2))=_
  have:truth (rV σ p2.2) (.pv q)=truth p2.2 (.pv q):=by
    obtain ⟨r1,s1,s2⟩:=jd a5
    obtain ⟨r2,s3,s4⟩:=jd s2
    split at s4
    · injection s4 with s4; subst s4; rfl
    · exact jb s4
  rw [this,h2]; rfl
theorem sim_sub' (R:Ren σ):SimF σ (fnOf ks__substitution_cost 2 0 yo.1) :=
  sim_fnOf (sim_seq (sim_if (sim_te2 (sem_eq R) (sim_var 0) (sim_var 1)) (sim_seq (sim_ret (sim_lit rfl)) sim_nil) sim_nil)
    (sim_seq (sim_if (sim_low R 0 1) (sim_seq (sim_ret (sim_lit rfl)) sim_nil) sim_nil) (sim_seq (sim_ret (sim_lit rfl)) sim_nil)))
theorem sim_aug {k:Nat} {f:Int→Int→Option Int} {g:Ev} (hg:SimE σ g):SimX σ (exAug k (semI f) g):=sim_set (sim_ev2 sem_I (sim_var k) hg)
noncomputable abbrev levF:jw:=fnOf ks__levenshtein_distance 3 11 jx.1
theorem sim_lev (R:Ren σ):SimF σ levF:=by
  refine sim_fnOf ?_
  unfold jx
  dsimp only
  repeat' first
    | (exact sim_nil)
    | (exact sim_var _)
    | (exact sim_lit rfl)
    | (exact sim_pNone)
    | (exact sim_aNil)
    | (exact sim_teEnd _)
    | (exact sem_eq R)
    | (exact sem_item)
    | (exact sem_add)
    | (exact sem_sub)
    | (exact sem_mul)
    | (exact sem_lt)
    | (exact sem_gt)
    | (exact sem_len)
    | (exact sem_min)
    | (exact sem_range)
    | (refine sim_call2 (sim_sub' R) ?_ ?_)
    | (apply sim_seq)
    | (apply sim_if)
    | (apply sim_while)
    | (apply sim_forRange)
    | (apply sim_aug)
    | (apply sim_set)
    | (apply sim_set2)
    | (apply sim_swap)
    | (refine sim_setOb (sim_list ?_))
    | (apply sim_setItem)
    | (apply sim_ret)
    | (apply sim_tup2)
    | (apply sim_teAnd)
    | (apply sim_teOr)
    | (apply sim_teNot)
    | (apply sim_teVal)
    | (apply sim_te2)
    | (apply sim_ev2)
    | (apply sim_cut)
    | (apply sim_pSome)
    | (apply sim_or)
    | (apply sim_fn)
    | (apply sim_aCons)
theorem lev_ren (R:Ren σ) {a b:List Nat} {m v:Int} (h:levF [.pv (.str a),.pv (.str b),.pv (.int m)]=some (.pv (.int v),[.un,.un,.un])) :
    levF [.pv (.str (a.map σ)),.pv (.str (b.map σ)),.pv (.int m)]=some (.pv (.int v),[.un,.un,.un]):=sim_lev R _ _ _ h
end
noncomputable def bt (x k:Nat):Bool:=Nat.beq (x / 2 ^ k % 2) 1
noncomputable def letr (x k:Nat):Nat:=if bt x k then 65+k else 97+k
noncomputable def nmC (x:Nat):List Nat:=[letr x 0,letr x 1,letr x 2,letr x 3,letr x 4]
noncomputable def delP (p:Nat) (c:List Nat):List Nat:=c.take p++c.drop (p+1)
noncomputable def ndiff:List Nat→List Nat→Nat
  | a::as,b::bs=>(if Nat.beq a b then 0 else 1)+ndiff as bs
  | _,_=>0
noncomputable def hdB (d p:Nat):Nat:=ndiff (delP p (nmC 0)) (delP p (nmC d))
theorem all32 {P:Nat→Prop} (f:Nat→Bool) (hf:∀ c,f c=true→P c) (h:(List.range 32).all f=true):∀ x,x<32→P x:=fun x hx=>hf x (List.all_eq_true.mp h x (List.mem_range.mpr hx))
noncomputable abbrev nameF:jw:=fnOf ks__law_name 1 2 den__law_name.1
noncomputable def okName (x:Nat):Bool:=(nameF [.pv (.int (.ofNat x))]).any fun p=>(match p.1 with | .pv (.str c)=>decide (c=nmC x) | _=>false)&&(match p.2 with | [.un]=>true | _=>false)
theorem okName_is {x:Nat} (h:okName x=true):nameF [.pv (.int (.ofNat x))]=some (.pv (.str (nmC x)),[.un]):=by
  refine any_is h fun p e h=>?_
  obtain ⟨h1,h2⟩:=Bool.and_eq_true_iff.mp h
  obtain ⟨a,b⟩:=p
  rw [e]
  split at h1
  · rename_i c hc
    split at h2
    · rename_i hd
      have hc:a=.pv (.str c):=hc
      have hd:b=[.un]:=hd
      rw [hc,hd,of_decide_eq_true h1]
    · exact nomatch h2
  · exact nomatch h1
theorem name_at:∀ x,x<32→nameF [.pv (.int (.ofNat x))]=some (.pv (.str (nmC x)),[.un]):=all32 okName (fun _=>okName_is) (by kernel_rfl)
noncomputable def sw (k c:Nat):Nat:=if c=97+k then 65+k else if c=65+k then 97+k else c
theorem sw_ren {k:Nat} (hk:k<5):Ren (sw k):=by
  have s1:sw k (97+k)=65+k:=if_pos rfl
  have s2:sw k (65+k)=97+k:=(if_neg fun e=>absurd (Nat.add_right_cancel e) (by decide)).trans (if_pos rfl)
  have el:∀ (M:Nat→Nat→Prop),M (97+k) (65+k)→M (65+k) (97+k)→(∀ a,sw k a=a→M a a)→∀ a,M a (sw k a):=fun M h1 h2 h3 a=>by
    by_cases h:a=97+k
    · subst h; rw [s1]; exact h1
    · by_cases g:a=65+k
      · subst g; rw [s2]; exact h2
      · have e:sw k a=a:=(if_neg h).trans (if_neg g)
        rw [e]; exact h3 a e
  have inv:=el (fun a b=>sw k b=a) s2 s1 fun _ e=>e
  have l1:∀ c N,c+5≤N→c+k<N:=fun c N h=>Nat.lt_of_lt_of_le (Nat.add_lt_add_left hk c) h
  have low:∀ j,j<5→PyProof.Rows.lo1 (65+j)=PyProof.Rows.lo1 (97+j):=by decide
  exact ⟨fun a b h=>(inv a).symm.trans ((congrArg (sw k) h).trans (inv b)),el (fun a b=>a<0x110000→b<0x110000) (fun _=>l1 65 _ (by decide)) (fun _=>l1 97 _ (by decide)) fun _ _ h=>h,
    el (fun a b=>a<128→b<128) (fun _=>l1 65 _ (by decide)) (fun _=>l1 97 _ (by decide)) fun _ _ h=>h,el (fun a b=>PyProof.Rows.lo1 b=PyProof.Rows.lo1 a) (low k hk) (low k hk).symm fun _ _=>rfl⟩
theorem Ren.id:Ren (fun c=>c):=⟨fun _ _ h=>h,fun _ h=>h,fun _ h=>h,fun _=>rfl⟩
theorem Ren.comp {σ τ : Nat→Nat} (a:Ren σ) (b:Ren τ):Ren (fun c=>σ (τ c)) :=
  ⟨fun x y h=>b.inj _ _ (a.inj _ _ h),fun x h=>a.lim _ (b.lim _ h),fun x h=>a.asc _ (b.asc _ h),fun x=>(a.low _).trans (b.low _)⟩
noncomputable def sb (m k c:Nat):Nat:=if bt m k then sw k c else c
theorem sb_ren {m k:Nat} (hk:k<5):Ren (sb m k):=by
  cases e:bt m k with
  | true =>
    have:sb m k=sw k:=by funext c; unfold sb; rw [e,if_pos rfl]
    rw [this]; exact sw_ren hk
  | false =>
    have:sb m k=fun c=>c:=by funext c; unfold sb; rw [e,if_neg Bool.false_ne_true]
    rw [this]; exact Ren.id
noncomputable def sm (m c:Nat):Nat:=sb m 0 (sb m 1 (sb m 2 (sb m 3 (sb m 4 c))))
theorem sm_ren (m:Nat):Ren (sm m):=(sb_ren (by decide)).comp ((sb_ren (by decide)).comp ((sb_ren (by decide)).comp ((sb_ren (by decide)).comp (sb_ren (by decide)))))
theorem sm_0:∀ x,x<32→(nmC 0).map (sm x)=nmC x:=all32 (fun x=>decide ((nmC 0).map (sm x)=nmC x)) (fun _=>of_decide_eq_true) (by kernel_rfl)
theorem all2 {P:Nat→Nat→Prop} (f:Nat→Nat→Bool) (hf:∀ x y,f x y=true→P x y) (h:((List.range 32).all fun x=>(List.range 32).all fun y=>f x y)=true):∀ x y,x<32→y<32→P x y :=
  fun x y hx hy=>hf x y (List.all_eq_true.mp (List.all_eq_true.mp h x (List.mem_range.mpr hx)) y (List.mem_range.mpr hy))
theorem sm_x:∀ x y,x<32→y<32→(nmC (x ^^^ y)).map (sm x)=nmC y:=all2 (fun x y=>decide ((nmC (x ^^^ y)).map (sm x)=nmC y)) (fun _ _=>of_decide_eq_true) (by kernel_rfl)
theorem xor_lt:∀ x y,x<32→y<32→x ^^^ y<32:=all2 (fun x y=>decide (x ^^^ y<32)) (fun _ _=>of_decide_eq_true) (by kernel_rfl)
theorem delP_map (σ : Nat→Nat) (p:Nat) (c:List Nat):delP p (c.map σ)=(delP p c).map σ:=by
  unfold delP
  rw [List.map_append,List.map_take,List.map_drop]
noncomputable def okI (x:Option (Slot×VS)) (v:Int):Bool:=x.any fun p=>(match p.1 with | .pv (.int i)=>decide (i=v) | _=>false)&&(match p.2 with | [.un,.un,.un]=>true | _=>false)
theorem okI_is {x:Option (Slot×VS)} {v:Int} (h:okI x v=true):x=some (.pv (.int v),[.un,.un,.un]):=by
  refine any_is h fun p e h=>?_
  obtain ⟨h1,h2⟩:=Bool.and_eq_true_iff.mp h
  obtain ⟨a,b⟩:=p
  rw [e]
  split at h1
  · rename_i c hc
    split at h2
    · rename_i hd
      have hc:a=.pv (.int c):=hc
      have hd:b=[.un,.un,.un]:=hd
      rw [hc,hd,of_decide_eq_true h1]
    · exact nomatch h2
  · exact nomatch h1
noncomputable def lv1 (p d j:Nat):Bool:=okI (levF [.pv (.str (nmC 0)),.pv (.str (delP p (nmC d))),.pv (.int ((2+hdB d p:Nat) - (j:Nat)))]) (2+hdB d p:Nat)
noncomputable def lv2 (p d j:Nat):Bool:=okI (levF [.pv (.str (delP p (nmC d))),.pv (.str (nmC 0)),.pv (.int ((2+hdB d p:Nat) - (j:Nat)))]) (2+hdB d p:Nat)
noncomputable def Cut (w f b:Ex):Prop:=w=jm f b
theorem cut0 {b:Ex}:Cut b jr b:=rfl
theorem cutS {e w f b:Ex} (h:Cut w f b):Cut (jm e w) (jm e f) b:=by
  have h:w=jm f b:=h
  subst h
  funext vs
  show ((e vs).bind _)=((e vs).bind _).bind _
  cases e vs with
  | none=>rfl
  | some p =>
    obtain ⟨fl,s⟩:=p
    cases fl with
    | next=>rfl
    | brk=>rfl
    | ret v=>rfl
noncomputable def lv_cut:{ p:Ex×Ex // Cut jx.1 p.1 p.2 }:=⟨(_,_),cutS (cutS (cutS (cutS (cutS (cutS (cutS (cutS (cutS (cutS (cutS (cutS cut0)))))))))))⟩
noncomputable def lvA (x y:List Nat) (l:Int):Option (Fl×VS):=lv_cut.1.1 ([.pv (.str x),.pv (.str y),.pv (.int l)]++List.replicate 11 .un)
noncomputable def lvB (r:Option (Fl×VS)):Option (Slot×VS) :=
  (r.bind fun p=>match p.1 with
    | .next=>lv_cut.1.2 p.2
    | fl=>some (fl,p.2)).bind fun q=>match q.1 with
      | .ret v=>(Ja v).map fun r=>(r,gives ks__levenshtein_distance 3 q.2)
      | .next=>some (.pv .none,gives ks__levenshtein_distance 3 q.2)
      | .brk=>none
theorem lev_ab (x y:List Nat) (l:Int):levF [.pv (.str x),.pv (.str y),.pv (.int l)]=lvB (lvA x y l):=by
  unfold levF fnOf
  rw [if_pos ⟨rfl,rfl⟩,show jx.1=jm lv_cut.1.1 lv_cut.1.2 from lv_cut.2]
  rfl
noncomputable def Slot.pv? : Slot→Option PV
  | .pv p=>some p
  | _=>none
theorem Slot.pv_inv {s:Slot} {p:PV} (h:s.pv?=some p):s=.pv p:=by
  cases s with
  | pv q=>injection h with h; rw [h]
  | _=>exact jb h
noncomputable def PV.sm (p:PV):PV→Bool
  | .int i=>(p.int?).any (· == i)
  | .str c=>(p.str?).any (· == c)
  | _=>false
noncomputable def Slot.sm (s:Slot):Slot→Bool
  | .un=>match s with
    | .un=>true
    | _=>false
  | .pv p=>s.pv?.any fun q=>q.sm p
  | _=>false
theorem any_some {α : Type} {o:Option α} {f:α→Bool} (h:o.any f=true):∃ a,o=some a∧f a=true:=by
  cases o with
  | none=>exact nomatch h
  | some a=>exact ⟨a,rfl,h⟩
theorem PV.sm_eq {p q:PV} (h:p.sm q=true):p=q:=by
  cases q with
  | int i =>
    obtain ⟨j,h1,h2⟩:=any_some h
    cases p with
    | int k=>injection h1 with h1; rw [h1,eq_of_beq h2]
    | _=>exact jb h1
  | str c =>
    obtain ⟨j,h1,h2⟩:=any_some h
    cases p with
    | str k=>injection h1 with h1; rw [h1,eq_of_beq h2]
    | _=>exact jb h1
  | _=>exact nomatch h
theorem Slot.sm_eq {s t:Slot} (h:s.sm t=true):s=t:=by
  cases t with
  | un =>
    cases s with
    | un=>rfl
    | _=>exact nomatch h
  | pv p=>obtain ⟨q,h1,h2⟩:=any_some h; rw [Slot.pv_inv h1,PV.sm_eq h2]
  | _=>exact nomatch h
noncomputable def smV:VS→VS→Bool
  | [],w=>w.isEmpty
  | a::v,w=>match w with
    | []=>false
    | b::w=>a.sm b&&smV v w
theorem smV_eq:∀ {v w:VS},smV v w=true→v=w:=by
  intro v
  induction v with
  | nil=>intro w h; exact (List.isEmpty_iff.mp h).symm
  | cons a v ih =>
    intro w h
    cases w with
    | nil=>exact nomatch h
    | cons b w=>rw [Slot.sm_eq (Bool.and_eq_true_iff.mp h).1,ih (Bool.and_eq_true_iff.mp h).2]
noncomputable def Fl.nx:Fl→Bool
  | .next=>true
  | _=>false
theorem Fl.nx_eq {f:Fl} (h:f.nx=true):f=.next:=by
  cases f with
  | next=>rfl
  | _=>exact nomatch h
noncomputable def smO (x y:Option (Fl×VS)):Bool:=x.any fun p=>y.any fun q=>p.1.nx&&(q.1.nx&&smV p.2 q.2)
theorem smO_eq {x y:Option (Fl×VS)} (h:smO x y=true):x=y:=by
  obtain ⟨p,h1,h⟩:=any_some h
  obtain ⟨q,h2,h⟩:=any_some h
  obtain ⟨a,h⟩:=Bool.and_eq_true_iff.mp h
  obtain ⟨b,c⟩:=Bool.and_eq_true_iff.mp h
  obtain ⟨f,v⟩:=p
  obtain ⟨g,w⟩:=q
  have a:f=.next:=Fl.nx_eq a
  have b:g=.next:=Fl.nx_eq b
  have c:v=w:=smV_eq c
  rw [h1,h2,a,b,c]
noncomputable def lvL (p d j:Nat):Int:=(2+hdB d p:Nat) - (j:Nat)
noncomputable def lvC (p d j:Nat):Bool:=okI (lvB (lvA (nmC 0) (delP p (nmC d)) (lvL p d j))) (2+hdB d p:Nat)&&(smO (lvA (nmC 0) (delP p (nmC d)) (lvL p d j)) (lvA (delP p (nmC d)) (nmC 0) (lvL p d j))||lv2 p d j)
theorem lvC_is {p d j:Nat} (h:lvC p d j=true):lv1 p d j=true∧lv2 p d j=true:=by
  obtain ⟨h1,h2⟩:=Bool.and_eq_true_iff.mp h
  have e:lv1 p d j=true:=(congrArg (fun x=>okI x _) (lev_ab _ _ _)).trans h1
  refine ⟨e,(Bool.or_eq_true_iff.mp h2).elim (fun k=>?_) id⟩
  have k:=smO_eq k
  exact (congrArg (fun x=>okI x _) (lev_ab _ _ _)).trans (k ▸ h1)
noncomputable def lvs (p:Nat):Bool:=(List.range 32).all fun d=>bt d p||(lvC p d 0&&lvC p d 1)
theorem lvs_0:lvs 0=true:=by kernel_rfl
theorem lvs_1:lvs 1=true:=by kernel_rfl
theorem lvs_2:lvs 2=true:=by kernel_rfl
theorem lvs_3:lvs 3=true:=by kernel_rfl
theorem lvs_4:lvs 4=true:=by kernel_rfl
noncomputable def offB (d p:Nat):Nat:=if bt d p then d - 2 ^ p else d
theorem lt5:∀ {k:Nat},k<5→k=0 ∨ k=1 ∨ k=2 ∨ k=3 ∨ k=4
  | 0,_=>.inl rfl
  | 1,_=>.inr (.inl rfl)
  | 2,_=>.inr (.inr (.inl rfl))
  | 3,_=>.inr (.inr (.inr (.inl rfl)))
  | 4,_=>.inr (.inr (.inr (.inr rfl)))
  | k+5,h=>absurd h (Nat.not_lt.mpr (Nat.le_add_left 5 k))
theorem lvs_at {p:Nat} (hp:p<5):lvs p=true:=by
  obtain rfl | rfl | rfl | rfl | rfl:=lt5 hp
  · exact lvs_0
  · exact lvs_1
  · exact lvs_2
  · exact lvs_3
  · exact lvs_4
noncomputable def offF (p d:Nat):Bool:=decide (offB d p<32)&&(!bt (offB d p) p&&(decide (delP p (nmC (offB d p))=delP p (nmC d))&&decide (hdB (offB d p) p=hdB d p)))
theorem offs:((List.range 5).all fun p=>(List.range 32).all fun d=>offF p d)=true:=by kernel_rfl
theorem off_at {p d:Nat} (hp:p<5) (hd:d<32):offB d p<32∧bt (offB d p) p=false∧delP p (nmC (offB d p))=delP p (nmC d)∧hdB (offB d p) p=hdB d p:=by
  have h:=List.all_eq_true.mp (List.all_eq_true.mp offs p (List.mem_range.mpr hp)) d (List.mem_range.mpr hd)
  unfold offF at h
  simp only [Bool.and_eq_true,decide_eq_true_eq,Bool.not_eq_true'] at h
  exact ⟨h.1,h.2.1,h.2.2.1,h.2.2.2⟩
theorem lev_base {p d:Nat} (hp:p<5) (hd:d<32) (hb:bt d p=false) {j:Nat} (hj:j=0 ∨ j=1):lv1 p d j=true∧lv2 p d j=true:=by
  have h:=List.all_eq_true.mp (lvs_at hp) d (List.mem_range.mpr hd)
  rw [hb,Bool.false_or] at h
  rcases hj with rfl | rfl
  · exact lvC_is (Bool.and_eq_true_iff.mp h).1
  · exact lvC_is (Bool.and_eq_true_iff.mp h).2
theorem lev_12 {x y p j:Nat} (hx:x<32) (hy:y<32) (hp:p<5) (hj:j=0 ∨ j=1) :
    levF [.pv (.str (nmC x)),.pv (.str (delP p (nmC y))),.pv (.int ((2+hdB (x ^^^ y) p:Nat) - (j:Nat)))]=some (.pv (.int (2+hdB (x ^^^ y) p:Nat)),[.un,.un,.un]) ∧
    levF [.pv (.str (delP p (nmC y))),.pv (.str (nmC x)),.pv (.int ((2+hdB (x ^^^ y) p:Nat) - (j:Nat)))]=some (.pv (.int (2+hdB (x ^^^ y) p:Nat)),[.un,.un,.un]):=by
  have hd:=xor_lt x y hx hy
  obtain ⟨o1,o2,o3,o4⟩:=off_at hp hd
  obtain ⟨l1,l2⟩:=lev_base hp o1 o2 hj
  have e1:=sm_0 x hx
  have e2:(delP p (nmC (offB (x ^^^ y) p))).map (sm x)=delP p (nmC y):=by rw [o3,← delP_map,sm_x x y hx hy]
  have r1:=lev_ren (sm_ren x) (okI_is l1)
  have r2:=lev_ren (sm_ren x) (okI_is l2)
  rw [e1,e2,o4] at r1 r2
  exact ⟨r1,r2⟩
noncomputable def hm (x y:Nat):Nat:=ndiff (nmC x) (nmC y)
noncomputable def hmF (p x y:Nat):Bool:=Nat.beq (ndiff (delP p (nmC x)) (delP p (nmC y))) (hdB (x ^^^ y) p)&&Nat.beq (hdB (x ^^^ y) p+(if Nat.beq (letr x p) (letr y p) then 0 else 1)) (hm x y)
theorem hms_0:((List.range 32).all fun x=>(List.range 32).all fun y=>hmF 0 x y)=true:=by kernel_rfl
theorem hms_1:((List.range 32).all fun x=>(List.range 32).all fun y=>hmF 1 x y)=true:=by kernel_rfl
theorem hms_2:((List.range 32).all fun x=>(List.range 32).all fun y=>hmF 2 x y)=true:=by kernel_rfl
theorem hms_3:((List.range 32).all fun x=>(List.range 32).all fun y=>hmF 3 x y)=true:=by kernel_rfl
theorem hms_4:((List.range 32).all fun x=>(List.range 32).all fun y=>hmF 4 x y)=true:=by kernel_rfl
theorem hm_at {p x y:Nat} (hp:p<5) (hx:x<32) (hy:y<32):ndiff (delP p (nmC x)) (delP p (nmC y))=hdB (x ^^^ y) p∧hdB (x ^^^ y) p+(if Nat.beq (letr x p) (letr y p) then 0 else 1)=hm x y:=by
  have h:hmF p x y=true:=by
    obtain rfl | rfl | rfl | rfl | rfl:=lt5 hp
    · exact all2 (P:=fun x y=>hmF 0 x y=true) _ (fun _ _ h=>h) hms_0 x y hx hy
    · exact all2 (P:=fun x y=>hmF 1 x y=true) _ (fun _ _ h=>h) hms_1 x y hx hy
    · exact all2 (P:=fun x y=>hmF 2 x y=true) _ (fun _ _ h=>h) hms_2 x y hx hy
    · exact all2 (P:=fun x y=>hmF 3 x y=true) _ (fun _ _ h=>h) hms_3 x y hx hy
    · exact all2 (P:=fun x y=>hmF 4 x y=true) _ (fun _ _ h=>h) hms_4 x y hx hy
  obtain ⟨h1,h2⟩:=Bool.and_eq_true_iff.mp h
  exact ⟨Nat.eq_of_beq_eq_true h1,Nat.eq_of_beq_eq_true h2⟩
noncomputable def num (i:Int):List Nat:=(toString i).toList.map Char.toNat
theorem num_str (i:Int):(Str.ofString (toString i))=⟨(num i).toArray⟩:=Str.ofString_eq_toList _
noncomputable def sgnOk (d:Nat):Bool:=decide (d<128)&&(ok1 (Sre.inSet code2 d code2.size 5 true {}) == some false)
theorem sgns:((45::List.range' 48 10).all sgnOk)=true:=by kernel_rfl
theorem num_sgn (i:Int):∀ d∈num i,d=45 ∨ (48≤d∧d≤57):=by
  intro d hd
  by_cases h:d=45 ∨ (48≤d∧d≤57)
  · exact h
  · exact absurd (show d∈(Str.ofString (toString i)).cps.toList by rw [num_str]; exact hd) (int_text_free' d ⟨fun e=>h (.inl e),(Nat.lt_or_ge d 48).imp_right fun a=>Nat.lt_of_not_le fun b=>h (.inr ⟨a,b⟩)⟩ i)
theorem num_ok {i:Int} (hl:(num i).length≤100000):vY (num i)=true:=by
  have h:∀ d∈num i,sgnOk d=true:=fun d hd=>List.all_eq_true.mp sgns d (List.mem_cons.mpr ((num_sgn i d hd).imp id fun h=>List.mem_range'_1.mpr ⟨h.1,Nat.lt_succ_of_le h.2⟩))
  exact Bool.and_eq_true_iff.mpr ⟨Bool.and_eq_true_iff.mpr ⟨List.all_eq_true.mpr fun d hd=>(Bool.and_eq_true_iff.mp (h d hd)).1,decide_eq_true hl⟩,List.all_eq_true.mpr fun d hd=>(Bool.and_eq_true_iff.mp (h d hd)).2⟩
theorem num_big {i:Int} (h0:0≤i) (h1:i<10 ^ 10):(num i).length≤10∧PySem.intText? ⟨(num i).toArray⟩=some i:=by
  have h2:=KT.len_num h0 h1
  have h3:=KIN.num_reads h0 h1
  rw [num_str] at h2 h3
  exact ⟨by simpa [Str.length] using h2,h3⟩
noncomputable def ngF (n:Nat):Bool:=Nat.ble (num (-(n:Int))).length 10&&decide (PySem.intText? ⟨(num (-(n:Int))).toArray⟩=some (-(n:Int)))
theorem ngs:((List.range 11).all ngF)=true:=by kernel_rfl
theorem num_read {i:Int} (h0:-10≤i) (h1:i<10 ^ 10):(num i).length≤10∧PySem.intText? ⟨(num i).toArray⟩=some i:=by
  by_cases h:0≤i
  · exact num_big h h1
  · have:=List.all_eq_true.mp ngs (-i).toNat (List.mem_range.mpr (Nat.lt_succ_of_le (Int.toNat_le.mpr (Int.neg_le_of_neg_le h0))))
    obtain ⟨a,b⟩:=Bool.and_eq_true_iff.mp this
    have e:-(((-i).toNat:Nat):Int)=i:=by rw [Int.toNat_of_nonneg (Int.neg_nonneg_of_nonpos (Int.le_of_lt (Int.not_le.mp h))),Int.neg_neg]
    rw [e] at a b
    exact ⟨Nat.le_of_ble_eq_true a,of_decide_eq_true b⟩
theorem small_of {i:Int} (h0:-10000000000<i) (h1:i<10000000000):small i=true:=by
  unfold small
  exact decide_eq_true (by omega)
theorem vO {x:Nat} (h:x<32):small (x:Nat)=true:=small_of (Int.lt_of_lt_of_le (by decide) (Int.natCast_nonneg x)) (Int.lt_of_lt_of_le (Int.ofNat_lt.mpr h) (by decide))
noncomputable def nmF (x:Nat):Bool:=yr (nmC x)&&decide (lo (nmC x)=[97,98,99,100,101])
theorem nms:((List.range 32).all nmF)=true:=by kernel_rfl
theorem vA {x:Nat} (hx:x<32):yr (nmC x)=true∧lo (nmC x)=[97,98,99,100,101]:=by
  obtain ⟨a,b⟩:=Bool.and_eq_true_iff.mp (List.all_eq_true.mp nms x (List.mem_range.mpr hx))
  exact ⟨a,of_decide_eq_true b⟩
theorem lt4:∀ {k:Nat},k<4→k=0 ∨ k=1 ∨ k=2 ∨ k=3
  | 0,_=>.inl rfl
  | 1,_=>.inr (.inl rfl)
  | 2,_=>.inr (.inr (.inl rfl))
  | 3,_=>.inr (.inr (.inr rfl))
  | k+4,h=>absurd h (Nat.not_lt.mpr (Nat.le_add_left 4 k))
noncomputable abbrev distF:jw:=fnOf ks_dist 2 8 den_dist.1
noncomputable def zdE:Em:=yd (ev2 v9 (jf 0) (jf 1))
noncomputable def bds (c d:List Nat):List PV:=(c.zip d).map fun q=>.bool (!Nat.beq q.1 q.2)
theorem zdE_is {a b:Nat} (ha:a<128) (hb:b<128):zdE [.pv (.str [a]),.pv (.str [b])]=some ([.bool (!Nat.beq a b)],[.pv (.str [a]),.pv (.str [b])]):=by
  have h1:a<1114112:=Nat.lt_trans ha (by decide)
  have h2:b<1114112:=Nat.lt_trans hb (by decide)
  have h3:([a] == [b])=Nat.beq a b:=by
    rw [Bool.eq_iff_iff,beq_iff_eq,Nat.beq_eq]
    exact ⟨fun h=>(List.cons.inj h).1,fun h=>by rw [h]⟩
  have k1:okD 9 (.str [a])=true:=by show (decide (a<1114112)&&true)=true; rw [decide_eq_true h1]; rfl
  have k2:okD 9 (.str [b])=true:=by show (decide (b<1114112)&&true)=true; rw [decide_eq_true h2]; rfl
  have k3:pvEq (.str [a]) (.str [b])=Nat.beq a b:=by rw [← h3]; unfold pvEq; rfl
  show (((if okD 9 (.str [a])&&okD 9 (.str [b]) then some (PV.bool (!pvEq (.str [a]) (.str [b]))) else none).map fun p=>(AVal.pv p,[Slot.pv (.str [a]),.pv (.str [b])])).bind _)=_
  rw [k1,k2,k3]
  rfl
theorem zd_run:∀ (c d:List Nat) (x0 x1:Slot),asc7 c=true→asc7 d=true→∃ y0 y1,jJ (jR [jh 0,jh 1]) (jC true) zdE (zipP (chars c) (chars d)) [x0,x1]=some (bds c d,[y0,y1])
  | [],_,x0,x1,_,_=>⟨x0,x1,rfl⟩
  | _::_,[],x0,x1,_,_=>⟨x0,x1,rfl⟩
  | a::c,b::d,x0,x1,hc,hd=>by
    obtain ⟨ha,hc⟩:=Bool.and_eq_true_iff.mp hc
    obtain ⟨hb,hd⟩:=Bool.and_eq_true_iff.mp hd
    obtain ⟨y0,y1,ih⟩:=zd_run c d (.pv (.str [a])) (.pv (.str [b])) hc hd
    refine ⟨y0,y1,?_⟩
    show ((zdE [.pv (.str [a]),.pv (.str [b])]).bind fun l1=>(jJ _ _ _ (zipP (chars c) (chars d)) l1.2).map fun l2=>(l1.1++l2.1,l2.2))=_
    rw [zdE_is (of_decide_eq_true ha) (of_decide_eq_true hb),Option.bind_some,ih]
    rfl
theorem bds_sum:∀ c d:List Nat,∃ L,numsP (bds c d)=some L∧L.sum=(ndiff c d:Nat)
  | [],_=>⟨[],rfl,rfl⟩
  | _::_,[]=>⟨[],rfl,rfl⟩
  | a::c,b::d=>by
    obtain ⟨L,h1,h2⟩:=bds_sum c d
    refine ⟨(if (!Nat.beq a b)=true then 1 else 0)::L,?_,?_⟩
    · show ((numP (.bool (!Nat.beq a b))).bind fun i=>(numsP (bds c d)).map fun r=>i::r)=_
      rw [h1]; rfl
    · rw [List.sum_cons,h2]
      show _=(((if Nat.beq a b=true then 0 else 1)+ndiff c d:Nat):Int)
      cases Nat.beq a b <;> simp <;> omega
theorem sum_is {f1 f2:Ev} {vs:VS} {c d:List Nat} (h1:f1 vs=some (.pv (.str c),vs)) (h2:f2 vs=some (.pv (.str d),vs)) (hc:asc7 c=true) (hd:asc7 d=true) (hl:c.length≤100000) :
    evFn semSum [jF (yy f1 f2) [] 2 (jR [jh 0,jh 1]) (jC true) (yd (ev2 v9 (jf 0) (jf 1)))] vs=some (.pv (.int (ndiff c d:Nat)),vs):=by
  obtain ⟨y0,y1,hr⟩:=zd_run c d .un .un hc hd
  obtain ⟨L,s1,s2⟩:=bds_sum c d
  have e1:yy f1 f2 vs=some (zipP (chars c) (chars d),vs):=by
    unfold yy
    show (((f1 vs).bind fun p=>(frz p.1).bind fun a=>(jI [f2] p.2).map fun r=>(a::r.1,r.2)).bind _)=_
    rw [h1]
    show ((((f2 vs).bind fun p=>(frz p.1).bind fun a=>(jI [] p.2).map fun r=>(a::r.1,r.2)).map fun r=>(AVal.pv (.str c)::r.1,r.2)).bind _)=_
    rw [h2]
    show (Option.or (if asc7 c&&asc7 d then some (zipP (chars c) (chars d)) else none) _).map _=_
    rw [hc,hd]; rfl
  have hb:(bds c d).length≤100000:=by
    unfold bds
    rw [List.length_map,List.length_zip]; exact Nat.le_trans (Nat.min_le_left _ _) hl
  have e2:jF (yy f1 f2) [] 2 (jR [jh 0,jh 1]) (jC true) (yd (ev2 v9 (jf 0) (jf 1))) vs=some (.obj (.list (bds c d)),vs):=by
    unfold jF
    rw [e1,Option.bind_some]
    show (jJ (jR [jh 0,jh 1]) (jC true) zdE (zipP (chars c) (chars d)) [.un,.un]).bind _=_
    rw [hr]
    exact if_pos hb
  unfold evFn
  show (((jF (yy f1 f2) [] 2 (jR [jh 0,jh 1]) (jC true) (yd (ev2 v9 (jf 0) (jf 1))) vs).bind fun p=>(frz p.1).bind fun a=>(jI [] p.2).map fun r=>(a::r.1,r.2)).bind _)=_
  rw [e2]
  show ((numsP (bds c d)).map fun ns=>PV.int ns.sum).map _=_
  rw [s1,← s2]; rfl
noncomputable def nmFf (p x:Nat):Bool:=asc7 (delP p (nmC x))&&Nat.ble (delP p (nmC x)).length 100
theorem nmfs:((List.range 5).all fun p=>(List.range 32).all fun x=>nmFf p x)=true:=by kernel_rfl
theorem nmf_at {p x:Nat} (hp:p<5) (hx:x<32):asc7 (delP p (nmC x))=true∧(delP p (nmC x)).length≤100000:=by
  obtain ⟨a,b⟩:=Bool.and_eq_true_iff.mp (List.all_eq_true.mp (List.all_eq_true.mp nmfs p (List.mem_range.mpr hp)) x (List.mem_range.mpr hx))
  exact ⟨a,Nat.le_trans (Nat.le_of_ble_eq_true b) (by decide)⟩
theorem semItem_own (vs:VS) (k:Nat) (j:Int):jp (.own k) (.pv (.int j)) vs=if 0≤j∧j<2^63 then (jy vs (.own k)).bind fun l=>l[j.toNat]? else none:=by
  unfold jp; rfl
theorem own_item {vs:VS} {k n:Nat} {NS:List PV} {q:PV} (hv:vs[k]?=some (.ob (.list NS))) (h:NS[n]?=some q) (hn:n<5):jp (.own k) (.pv (.int (n:Nat))) vs=some q:=by
  rw [semItem_own]
  have c:(0≤((n:Nat):Int)∧((n:Nat):Int)<2 ^ 63):=⟨Int.natCast_nonneg _,Int.lt_of_lt_of_le (Int.ofNat_lt.mpr hn) (by decide)⟩
  rw [if_pos c]
  have e:jy vs (.own k)=some NS:=by show (vs[k]?).bind slotL=_; rw [hv]; rfl
  rw [e,Option.bind_some,Int.toNat_natCast]
  exact h
section
variable {H:Slot} {NS:List PV} {L:PV} {i j p x y:Nat} {x6 x7 x8 x9:Slot}
theorem jV {sem:AVal→AVal→VS→Option PV} {f g:Ev} {vs:VS} {a b:AVal} {q:PV} (hf:f vs=some (a,vs)) (ha:frz a=some a) (hg:g vs=some (b,vs)) (hb:frz b=some b) (h:sem a b vs=some q):ev2 sem f g vs=some (.pv q,vs):=by
  unfold ev2
  rw [hf,Option.bind_some,ha,Option.bind_some,hg,Option.bind_some,hb,Option.bind_some,h,Option.map_some]
theorem jT {vs:VS} {k:Nat} {sl:Slot} {v:AVal} (h:vs[k]?=some sl) (e:vQ k sl=some v):jf k vs=some (v,vs):=by
  unfold jf
  rw [h,Option.bind_some,e,Option.map_some]
theorem set_to {vs:VS} {k:Nat} {f:Ev} {q:PV} (h:f vs=some (.pv q,vs)) (hk:k<vs.length):jD k f vs=some (.next,vs.set k (.pv q)):=by
  unfold jD
  rw [h,Option.bind_some]
  show (if k<vs.length then _ else none)=_
  rw [if_pos hk]
theorem itm_is {k:Nat} {z:Nat} {vs:VS} {q:PV} (hv:vs[2]?=some (.ob (.list NS))) (hk:vs[z]?=some (.pv (.int (k:Nat)))) (h:NS[k]?=some q) (hs:k<4):ev2 jp (jf 2) (jf z) vs=some (.pv q,vs) :=
  jV (a:=.own 2) (b:=.pv (.int (k:Nat))) (jT hv rfl) rfl (jT hk rfl) rfl (own_item hv h (Nat.lt_succ_of_lt hs))
theorem f0_is (hi:NS[i]?=some (.str (nmC x))) (h4:i<4):d_f0.1 [H,.pv (.int (p:Nat)),.ob (.list NS),.pv L,.pv (.int (i:Nat)),.pv (.int (j:Nat)),x6,x7,x8,x9]=some (.next,[H,.pv (.int (p:Nat)),.ob (.list NS),.pv L,.pv (.int (i:Nat)),.pv (.int (j:Nat)),.pv (.str (nmC x)),x7,x8,x9]):=by
  rw [show d_f0.1=jD 6 (ev2 jp (jf 2) (jf 4)) from rfl]
  unfold jD
  rw [itm_is (k:=i) (z:=4) (q:=.str (nmC x)) rfl rfl hi h4]
  rfl
theorem clip_nat (n k:Nat):clipAt n (k:Int)=min k n:=by
  unfold clipAt
  rw [if_neg (Int.not_lt.mpr (Int.natCast_nonneg k))]
  rcases Nat.le_total k n with h | h
  · rw [Int.min_eq_left (Int.ofNat_le.mpr h),Int.max_eq_right (Int.natCast_nonneg k),Nat.min_eq_left h]; rfl
  · rw [Int.min_eq_right (Int.ofNat_le.mpr h),Int.max_eq_right (Int.natCast_nonneg n),Nat.min_eq_right h]; rfl
theorem cut_hi {α : Type} (k:Nat) (l:List α):cut none (some (k:Int)) l=l.take k:=by
  show (l.drop 0).take (clipAt l.length (k:Int) - 0)=_
  rw [clip_nat,List.drop_zero,Nat.sub_zero,← List.take_eq_take_min]
theorem cut_lo {α : Type} (k:Nat) (l:List α):cut (some (k:Int)) none l=l.drop k:=by
  show (l.drop (clipAt l.length (k:Int))).take (l.length - clipAt l.length (k:Int))=_
  rw [clip_nat,List.take_of_length_le (Nat.le_of_eq List.length_drop)]
  rcases Nat.le_total k l.length with h | h
  · rw [Nat.min_eq_left h]
  · rw [Nat.min_eq_right h,List.drop_length,List.drop_eq_nil_of_le h]
theorem cutp_is {f:Ev} {vs:VS} {c:List Nat} (hf:f vs=some (.pv (.str c),vs)) (hp:p<5) (h1:vs[1]?=some (.pv (.int (p:Nat)))) (hc:c.length=5):ev2 jB (yx f none (some (jf 1))) (yx f (some (ev2 jB (jf 1) (jo (.int 1)))) none) vs=some (.pv (.str (delP p c)),vs):=by
  have e1:jf 1 vs=some (.pv (.int (p:Nat)),vs):=by unfold jf; rw [h1]; rfl
  have e2:ev2 jB (jf 1) (jo (.int 1)) vs=some (.pv (.int ((p:Nat)+1)),vs):=by
    unfold ev2; rw [e1]; rfl
  have hl:c.length≤100000:=Nat.le_trans (Nat.le_of_eq hc) (by decide)
  have e3:yx f none (some (jf 1)) vs=some (.pv (.str (c.take p)),vs):=by
    unfold yx evPart
    rw [hf]
    show (((jf 1 vs).bind fun p=>(partOf p.1).map fun i=>(i,p.2)).bind _)=_
    rw [e1]
    show (if c.length≤100000 then some (PV.str (cut none (some (p:Int)) c)) else none).map _=_
    rw [if_pos hl]
    rw [cut_hi]; rfl
  have e4:yx f (some (ev2 jB (jf 1) (jo (.int 1)))) none vs=some (.pv (.str (c.drop (p+1))),vs):=by
    unfold yx evPart
    rw [hf]
    show (((ev2 jB (jf 1) (jo (.int 1)) vs).bind fun p=>(partOf p.1).map fun i=>(i,p.2)).bind _)=_
    rw [e2]
    show (if c.length≤100000 then some (PV.str (cut (some ((p:Int)+1)) none c)) else none).map _=_
    rw [if_pos hl]
    rw [show cut (some ((p:Int)+1)) none c=c.drop (p+1) from cut_lo (p+1) c]; rfl
  unfold ev2
  rw [e3]
  show ((yx f (some (ev2 jB (jf 1) (jo (.int 1)))) none vs).bind _)=_
  rw [e4]
  show (if (c.take p).length+(c.drop (p+1)).length≤100000 then some (PV.str (c.take p++c.drop (p+1))) else none).map _=_
  rw [if_pos (by rw [List.length_take,List.length_drop]; exact Nat.le_trans (Nat.add_le_add (Nat.min_le_right _ _) (Nat.sub_le _ _)) (by rw [hc]; decide))]; rfl
theorem f1_is (hj:NS[j]?=some (.str (nmC y))) (h4:j<4) (hp:p<5):d_f1.1 [H,.pv (.int (p:Nat)),.ob (.list NS),.pv L,.pv (.int (i:Nat)),.pv (.int (j:Nat)),x6,x7,x8,x9]=some (.next,[H,.pv (.int (p:Nat)),.ob (.list NS),.pv L,.pv (.int (i:Nat)),.pv (.int (j:Nat)),x6,.pv (.str (delP p (nmC y))),x8,x9]):=by
  rw [show d_f1.1=jD 7 (ev2 jB (yx (ev2 jp (jf 2) (jf 5)) none (some (jf 1))) (yx (ev2 jp (jf 2) (jf 5)) (some (ev2 jB (jf 1) (jo (PV.int 1)))) none)) from rfl]
  unfold jD
  rw [cutp_is (itm_is (k:=j) (z:=5) rfl rfl hj h4) hp rfl rfl]; rfl
theorem f2_is (hx:x<32) (hy:y<32) (h4:j<4) (hp:p<5):d_f2.1 [H,.pv (.int (p:Nat)),.ob (.list NS),.pv L,.pv (.int (i:Nat)),.pv (.int (j:Nat)),.pv (.str (nmC x)),.pv (.str (delP p (nmC y))),x8,x9] =
    some (.next,[H,.pv (.int (p:Nat)),.ob (.list NS),.pv L,.pv (.int (i:Nat)),.pv (.int (j:Nat)),.pv (.str (nmC x)),.pv (.str (delP p (nmC y))),.pv (.int ((2+hdB (x ^^^ y) p:Nat) - ((j % 2:Nat):Int))),x9]):=by
  have c1:=cutp_is (f:=jf 6) (vs:=[H,.pv (.int (p:Nat)),.ob (.list NS),.pv L,.pv (.int (i:Nat)),.pv (.int (j:Nat)),.pv (.str (nmC x)),.pv (.str (delP p (nmC y))),x8,x9]) (c:=nmC x) rfl hp rfl rfl
  have s:=sum_is (f2:=jf 7) c1 (d:=delP p (nmC y)) rfl (nmf_at hp hx).1 (nmf_at hp hy).1 (nmf_at hp hx).2
  rw [(hm_at hp hx hy).1] at s
  show jD 8 (ev2 yG (ev2 jB (jo (PV.int 2)) (evFn semSum [jF (yy (ev2 jB (yx (jf 6) none (some (jf 1))) (yx (jf 6) (some (ev2 jB (jf 1) (jo (PV.int 1)))) none)) (jf 7)) [] 2 (jR [jh 0,jh 1]) (jC true) (yd (ev2 v9 (jf 0) (jf 1)))])) (ev2 semMod (jf 5) (jo (PV.int 2)))) _=_
  have e1:ev2 jB (jo (PV.int 2)) (evFn semSum [jF (yy (ev2 jB (yx (jf 6) none (some (jf 1))) (yx (jf 6) (some (ev2 jB (jf 1) (jo (PV.int 1)))) none)) (jf 7)) [] 2 (jR [jh 0,jh 1]) (jC true) (yd (ev2 v9 (jf 0) (jf 1)))]) [H,.pv (.int (p:Nat)),.ob (.list NS),.pv L,.pv (.int (i:Nat)),.pv (.int (j:Nat)),.pv (.str (nmC x)),.pv (.str (delP p (nmC y))),x8,x9] =
      some (.pv (.int (2+(hdB (x ^^^ y) p:Nat))),[H,.pv (.int (p:Nat)),.ob (.list NS),.pv L,.pv (.int (i:Nat)),.pv (.int (j:Nat)),.pv (.str (nmC x)),.pv (.str (delP p (nmC y))),x8,x9]):=by
    show ((evFn semSum _ _).bind _)=_
    rw [s]; rfl
  have e2:(PV.int ((2+(hdB (x ^^^ y) p:Nat)) - ((j:Nat):Int).fmod 2))=PV.int ((2+hdB (x ^^^ y) p:Nat) - ((j % 2:Nat):Int)):=by
    obtain rfl | rfl | rfl | rfl:=lt4 h4 <;> rfl
  unfold jD
  show ((ev2 yG _ _ _).bind _)=_
  unfold ev2 at e1 ⊢
  rw [e1]
  show some (Fl.next,[H,.pv (.int (p:Nat)),.ob (.list NS),.pv L,.pv (.int (i:Nat)),.pv (.int (j:Nat)),.pv (.str (nmC x)),.pv (.str (delP p (nmC y))),.pv (.int ((2+(hdB (x ^^^ y) p:Nat)) - ((j:Nat):Int).fmod 2)),x9])=_
  rw [e2]
theorem call3 {F:jw} {a b c:Nat} {vs:VS} {u v:List Nat} {m w:Int} (ha:vs[a]?=some (.pv (.str u))) (hb:vs[b]?=some (.pv (.str v))) (hc:vs[c]?=some (.pv (.int m))) (h:F [.pv (.str u),.pv (.str v),.pv (.int m)]=some (.pv (.int w),[.un,.un,.un])) :
    jt 3 F [jf a,jf b,jf c] vs=some (.pv (.int w),vs):=by
  have e1:jf a vs=some (.pv (.str u),vs):=by unfold jf; rw [ha]; rfl
  have e2:jf b vs=some (.pv (.str v),vs):=by unfold jf; rw [hb]; rfl
  have e3:jf c vs=some (.pv (.int m),vs):=by unfold jf; rw [hc]; rfl
  have e4:yX [jf a,jf b,jf c] vs=some ([.pv (.str u),.pv (.str v),.pv (.int m)],vs):=by
    show ((jf a vs).bind fun p=>(frz p.1).bind fun x=>((jf b p.2).bind fun p=>(frz p.1).bind fun x=>((jf c p.2).map fun p=>([p.1],p.2)).map fun r=>(x::r.1,r.2)).map fun r=>(x::r.1,r.2))=_
    rw [e1]
    show ((((jf b vs).bind fun p=>(frz p.1).bind fun x=>((jf c p.2).map fun p=>([p.1],p.2)).map fun r=>(x::r.1,r.2)).map _))=_
    rw [e2]
    show ((((jf c vs).map fun p=>([p.1],p.2)).map _).map _)=_
    rw [e3]; rfl
  unfold jt
  rw [e4]
  show ((F [.pv (.str u),.pv (.str v),.pv (.int m)]).bind _)=_
  rw [h]; rfl
theorem f3_is (hx:x<32) (hy:y<32) (h4:i<4) (h5:j<4) (hp:p<5):d_f3.1 [H,.pv (.int (p:Nat)),.ob (.list NS),.pv L,.pv (.int (i:Nat)),.pv (.int (j:Nat)),.pv (.str (nmC x)),.pv (.str (delP p (nmC y))),.pv (.int ((2+hdB (x ^^^ y) p:Nat) - ((j % 2:Nat):Int))),x9] =
    some (.next,[H,.pv (.int (p:Nat)),.ob (.list NS),.pv L,.pv (.int (i:Nat)),.pv (.int (j:Nat)),.pv (.str (nmC x)),.pv (.str (delP p (nmC y))),.pv (.int ((2+hdB (x ^^^ y) p:Nat) - ((j % 2:Nat):Int))),.pv (.int (2+hdB (x ^^^ y) p:Nat))]):=by
  obtain ⟨l1,l2⟩:=lev_12 hx hy hp (j:=j % 2) (Nat.mod_two_eq_zero_or_one j)
  have c1:=call3 (F:=levF) (a:=6) (b:=7) (c:=8) (vs:=[H,.pv (.int (p:Nat)),.ob (.list NS),.pv L,.pv (.int (i:Nat)),.pv (.int (j:Nat)),.pv (.str (nmC x)),.pv (.str (delP p (nmC y))),.pv (.int ((2+hdB (x ^^^ y) p:Nat) - ((j % 2:Nat):Int))),x9]) rfl rfl rfl l1
  have c2:=call3 (F:=levF) (a:=7) (b:=6) (c:=8) (vs:=[H,.pv (.int (p:Nat)),.ob (.list NS),.pv L,.pv (.int (i:Nat)),.pv (.int (j:Nat)),.pv (.str (nmC x)),.pv (.str (delP p (nmC y))),.pv (.int ((2+hdB (x ^^^ y) p:Nat) - ((j % 2:Nat):Int))),x9]) rfl rfl rfl l2
  rw [show d_f3.1=jD 9 (evIf (te2 yH (jf 4) (jo (PV.int 0))) (jt 3 levF [jf 6,jf 7,jf 8]) (jt 3 levF [jf 7,jf 6,jf 8])) from rfl]
  have te:∀ vs:VS,vs[4]?=some (.pv (.int (i:Nat)))→te2 yH (jf 4) (jo (PV.int 0)) vs=some (((i:Nat):Int) == 0,vs):=by
    intro vs h
    have e1:jf 4 vs=some (.pv (.int (i:Nat)),vs):=by unfold jf; rw [h]; rfl
    unfold te2 ev2
    rw [e1]
    show ((some (AVal.pv (.bool (pvEq (.int (i:Nat)) (.int 0))),vs)).bind _)=_
    have:pvEq (.int (i:Nat)) (.int 0)=(((i:Nat):Int) == 0):=by unfold pvEq; rfl
    rw [this]; rfl
  unfold jD evIf
  rw [te _ rfl,Option.bind_some]
  cases (((i:Nat):Int) == 0) with
  | true=>rw [if_pos rfl,c1]; rfl
  | false=>rw [if_neg Bool.false_ne_true,c2]; rfl
end
theorem ju {f g:Ex} {vs vs1:VS} (h:f vs=some (.next,vs1)):jm f g vs=g vs1:=by
  unfold jm
  rw [h]; rfl
theorem for_to {asg:Asg} {b els:Ex} {q:PV} {ps:List PV} {vs v1 v2:VS} (h1:asg q vs=some v1) (h2:b v1=some (.next,v2)):yJ asg b els (q::ps) vs=yJ asg b els ps v2:=by
  show (asg q vs).bind _=_
  rw [h1,Option.bind_some,h2]; rfl
theorem ndiff_le:∀ c d:List Nat,ndiff c d≤c.length
  | [],_=>Nat.le_refl _
  | _::_,[]=>Nat.zero_le _
  | a::c,b::d=>by
    have:=ndiff_le c d
    show (if Nat.beq a b=true then 0 else 1)+ndiff c d≤c.length+1
    split
    · rw [Nat.zero_add]; exact Nat.le_succ_of_le this
    · rw [Nat.add_comm]; exact Nat.succ_le_succ this
theorem hm_le (x y:Nat):hm x y≤5:=ndiff_le (nmC x) (nmC y)
theorem letr_lt {x k:Nat} (hk:k<5):letr x k<128:=by
  unfold letr
  split
  · exact Nat.lt_of_lt_of_le (Nat.add_lt_add_left hk _) (by decide)
  · exact Nat.lt_of_lt_of_le (Nat.add_lt_add_left hk _) (by decide)
theorem hdrset_to {k:Nat} {F:jw} {f fi:Ev} {vs:VS} {l l':List PV} {q qi:PV} (hf:f vs=some (.pv q,vs)) (hi:fi vs=some (.pv qi,vs)) (hv:vs[k]?=some (.ob (.hdr l))) (h:F [.ob (.hdr l),.pv qi,.pv q]=some (.pv .none,[.ob (.hdr l'),.un,.un])) :
    vT k F f fi vs=some (.next,vs.set k (.ob (.hdr l'))):=by
  have e:yt vs k=some l:=by unfold yt; rw [hv]
  have e2:jU vs [.own k,.pv qi,.pv q]=some [.ob (.hdr l),.pv qi,.pv q]:=by
    show ((match vs[k]? with | some (.ob o)=>some (Slot.ob o) | _=>none).bind _)=_
    rw [hv]; rfl
  unfold vT
  rw [hf,Option.bind_some]
  show ((yt vs k).bind _)=_
  rw [e,Option.bind_some]
  show ((fi vs).bind _)=_
  rw [hi,Option.bind_some]
  show vt k F [qi,q] vs=_
  unfold vt
  show (jU vs [.own k,.pv qi,.pv q]).bind _=_
  rw [e2,Option.bind_some,h]; rfl
theorem fn1_to {sem:FSem} {f:Ev} {vs:VS} {a:AVal} {q:PV} (hf:f vs=some (a,vs)) (ha:frz a=some a) (h:sem [a] vs=some q):evFn sem [f] vs=some (.pv q,vs):=by
  unfold evFn jI
  rw [hf,Option.bind_some,ha,Option.bind_some]
  show ((sem [a] vs).map _)=_
  rw [h]; rfl
section
variable {NS:List PV} {i j p x y:Nat} {x6 x7 x8 x9:Slot} {D:DS} {L:List Nat}
theorem let_is {vs:VS} {z:Nat} (f:Ev) (hf:f vs=some (.pv (.str (nmC x)),vs)) (hp:p<5) (h1:vs[1]?=some (.pv (.int (p:Nat)))):ev2 jp f (jf 1) vs=some (.pv (.str [letr x p]),vs):=by
  refine jV (a:=.pv (.str (nmC x))) (b:=.pv (.int (p:Nat))) hf rfl (jT h1 rfl) rfl ?_
  obtain rfl | rfl | rfl | rfl | rfl:=lt5 hp <;> rfl
theorem ne_is {f g:Ev} {vs:VS} {a b:Nat} (ha:a<128) (hb:b<128) (hf:f vs=some (.pv (.str [a]),vs)) (hg:g vs=some (.pv (.str [b]),vs)):ev2 v9 f g vs=some (.pv (.bool (!Nat.beq a b)),vs):=by
  refine jV (a:=.pv (.str [a])) (b:=.pv (.str [b])) hf rfl hg rfl ?_
  have h1:a<1114112:=Nat.lt_trans ha (by decide)
  have h2:b<1114112:=Nat.lt_trans hb (by decide)
  have h3:([a] == [b])=Nat.beq a b:=by
    rw [Bool.eq_iff_iff,beq_iff_eq,Nat.beq_eq]
    exact ⟨fun h=>(List.cons.inj h).1,fun h=>by rw [h]⟩
  have k1:okD 9 (.str [a])=true:=by show (decide (a<1114112)&&true)=true; rw [decide_eq_true h1]; rfl
  have k2:okD 9 (.str [b])=true:=by show (decide (b<1114112)&&true)=true; rw [decide_eq_true h2]; rfl
  have k3:pvEq (.str [a]) (.str [b])=Nat.beq a b:=by rw [← h3]; unfold pvEq; rfl
  show (if okD 9 (.str [a])&&okD 9 (.str [b]) then some (PV.bool (!pvEq (.str [a]) (.str [b]))) else none)=_
  rw [k1,k2,k3]; rfl
theorem f4_is (hi:NS[i]?=some (.str (nmC x))) (hj:NS[j]?=some (.str (nmC y))) (hx:x<32) (hy:y<32) (h4:i<4) (h5:j<4) (hp:p<5) (hD:Dok D) (hd:delD D L=D) (hn:yr L=true) :
    d_f4.1 [.ob (.hdr (toD D)),.pv (.int (p:Nat)),.ob (.list NS),.pv (.str L),.pv (.int (i:Nat)),.pv (.int (j:Nat)),x6,x7,x8,.pv (.int (2+hdB (x ^^^ y) p:Nat))] =
    some (.next,[.ob (.hdr (toD (D++[(L,num (hm x y:Nat))]))),.pv (.int (p:Nat)),.ob (.list NS),.pv (.str L),.pv (.int (i:Nat)),.pv (.int (j:Nat)),x6,x7,x8,.pv (.int (2+hdB (x ^^^ y) p:Nat))]):=by
  rw [show d_f4.1=vT 0 siF (evFn ym [ev2 jB (ev2 yG (jf 9) (jo (PV.int 2))) (ev2 v9 (ev2 jp (ev2 jp (jf 2) (jf 4)) (jf 1)) (ev2 jp (ev2 jp (jf 2) (jf 5)) (jf 1)))]) (jf 3) from rfl]
  have hh:=hm_le x y
  have hN:=num_read (i:=(hm x y:Nat)) (Int.le_trans (by decide) (Int.natCast_nonneg _)) (Int.lt_of_le_of_lt (Int.ofNat_le.mpr hh) (by decide))
  have hv:vY (num (hm x y:Nat))=true:=num_ok (by omega)
  have hS:=si_is hD hn hv
  rw [hd] at hS
  refine (hdrset_to (l:=toD D) (q:=.str (num (hm x y:Nat))) (qi:=.str L) (fn1_to (a:=.pv (.int (hm x y:Nat))) (jV (a:=.pv (.int ((2+hdB (x ^^^ y) p:Nat) - 2))) (b:=.pv (.bool (!Nat.beq (letr x p) (letr y p)))) (jV (a:=.pv (.int (2+hdB (x ^^^ y) p:Nat))) (b:=.pv (.int 2)) rfl rfl rfl rfl rfl) rfl
    (ne_is (letr_lt hp) (letr_lt hp) (let_is (z:=0) _ (itm_is (k:=i) (z:=4) rfl rfl hi h4) hp rfl) (let_is (z:=0) _ (itm_is (k:=j) (z:=5) rfl rfl hj h5) hp rfl)) rfl ?_) rfl ?_) rfl rfl hS).trans rfl
  · show some (PV.int (((2+hdB (x ^^^ y) p:Nat):Int) - 2+if (!Nat.beq (letr x p) (letr y p))=true then 1 else 0))=_
    have:=(hm_at hp hx hy).2
    rw [← this]
    cases Nat.beq (letr x p) (letr y p) <;> simp <;> omega
  · show (if small ((hm x y:Nat):Int) then some (PV.str (num (hm x y:Nat))) else none)=_
    rw [vO (Nat.lt_of_le_of_lt hh (by decide))]; rfl
theorem ff_is (hi:NS[i]?=some (.str (nmC x))) (hj:NS[j]?=some (.str (nmC y))) (hx:x<32) (hy:y<32) (h4:i<4) (h5:j<4) (hp:p<5) (hD:Dok D) (hd:delD D L=D) (hn:yr L=true) :
    ∃ y6 y7 y8 y9,d_ff.1 [.ob (.hdr (toD D)),.pv (.int (p:Nat)),.ob (.list NS),.pv (.str L),.pv (.int (i:Nat)),.pv (.int (j:Nat)),x6,x7,x8,x9] =
    some (.next,[.ob (.hdr (toD (D++[(L,num (hm x y:Nat))]))),.pv (.int (p:Nat)),.ob (.list NS),.pv (.str L),.pv (.int (i:Nat)),.pv (.int (j:Nat)),y6,y7,y8,y9]):=by
  refine ⟨.pv (.str (nmC x)),.pv (.str (delP p (nmC y))),.pv (.int ((2+hdB (x ^^^ y) p:Nat) - ((j % 2:Nat):Int))),.pv (.int (2+hdB (x ^^^ y) p:Nat)),?_⟩
  rw [show d_ff.1=jm d_f0.1 (jm d_f1.1 (jm d_f2.1 (jm d_f3.1 (jm d_f4.1 jr)))) from rfl]
  rw [ju (f0_is hi h4),ju (f1_is hj h5 hp),ju (f2_is hx hy h5 hp),ju (f3_is hx hy h4 h5 hp),ju (f4_is hi hj hx hy h4 h5 hp hD hd hn)]
  rfl
end
noncomputable def pts (x0 x1 x2 x3:Nat):DS:=[(nmC x0,num (x0:Nat)),(nmC x1,num (x1:Nat)),(nmC x2,num (x2:Nat)),(nmC x3,num (x3:Nat))]
noncomputable def six (x0 x1 x2 x3:Nat):DS:=[([117],num (hm x0 x1:Nat)),([118],num (hm x0 x2:Nat)),([119],num (hm x0 x3:Nat)),([120],num (hm x1 x2:Nat)),([121],num (hm x1 x3:Nat)),([122],num (hm x2 x3:Nat))]
theorem one_ok:(List.range 11).all (fun k=>yr [112+k])=true:=by kernel_rfl
theorem one_at {k:Nat} (h:k<11):yr [112+k]=true:=List.all_eq_true.mp one_ok k (List.mem_range.mpr h)
theorem vals_ok {x:Nat} (h:x<1000):asc (num (x:Nat))=true:=(valOk_f (num_ok (Nat.le_trans (num_read (i:=(x:Nat)) (Int.le_trans (by decide) (Int.natCast_nonneg _)) (Int.lt_trans (Int.ofNat_lt.mpr h) (by decide))).1 (by decide)))).1
theorem pts_ok {x0 x1 x2 x3:Nat} (h0:x0<32) (h1:x1<32) (h2:x2<32) (h3:x3<32):Dok (pts x0 x1 x2 x3):=by
  refine ⟨show 4≤1000 by decide,fun q hq=>?_⟩
  unfold pts at hq
  simp only [List.mem_cons,List.not_mem_nil,or_false] at hq
  rcases hq with rfl | rfl | rfl | rfl
  · exact ⟨(yh (vA h0).1).1,vals_ok (Nat.lt_trans h0 (by decide))⟩
  · exact ⟨(yh (vA h1).1).1,vals_ok (Nat.lt_trans h1 (by decide))⟩
  · exact ⟨(yh (vA h2).1).1,vals_ok (Nat.lt_trans h2 (by decide))⟩
  · exact ⟨(yh (vA h3).1).1,vals_ok (Nat.lt_trans h3 (by decide))⟩
theorem delD_app (D E:DS) (c:List Nat):delD (D++E) c=delD D c++delD E c:=List.filter_append ..
theorem delD_pts {x0 x1 x2 x3:Nat} (h0:x0<32) (h1:x1<32) (h2:x2<32) (h3:x3<32) {L:List Nat} (hL:lo L ≠ [97,98,99,100,101]):delD (pts x0 x1 x2 x3) L=pts x0 x1 x2 x3:=by
  refine List.filter_eq_self.mpr fun q hq=>?_
  unfold pts at hq
  simp only [List.mem_cons,List.not_mem_nil,or_false] at hq
  have:lo q.1=[97,98,99,100,101]:=by
    rcases hq with rfl | rfl | rfl | rfl
    · exact (vA h0).2
    · exact (vA h1).2
    · exact (vA h2).2
    · exact (vA h3).2
  rw [this,bne_iff_ne]
  exact fun e=>hL e.symm
section
variable {x0 x1 x2 x3 p:Nat} {E:DS}
theorem app_ok (h0:x0<32) (h1:x1<32) (h2:x2<32) (h3:x3<32) (hE:E.length≤20) (ha:∀ q∈E,asc q.1=true∧asc q.2=true):Dok (pts x0 x1 x2 x3++E):=by
  refine ⟨?_,fun q hq=>?_⟩
  · rw [List.length_append]
    exact Nat.le_trans (Nat.add_le_add_left hE 4) (by decide)
  · rcases List.mem_append.mp hq with hq | hq
    · exact (pts_ok h0 h1 h2 h3).2 q hq
    · exact ha q hq
theorem del_to (h0:x0<32) (h1:x1<32) (h2:x2<32) (h3:x3<32) {k:Nat} (hk:lo [k] ≠ [97,98,99,100,101]) (hE:delD E [k]=E):delD (pts x0 x1 x2 x3++E) [k]=pts x0 x1 x2 x3++E:=by
  rw [delD_app,delD_pts h0 h1 h2 h3 hk,hE]
theorem lo_one (k:Nat):lo [k] ≠ [97,98,99,100,101]:=fun e=>nomatch (congrArg List.length e:1=5)
noncomputable def EOk (E:DS):Prop:=E.length≤20∧∀ q∈E,asc q.1=true∧asc q.2=true
theorem EOk.add {E:DS} {k v:Nat} (h:EOk E) (hl:E.length<20) (hk:k<11) (hv:v<1000):EOk (E++[([112+k],num (v:Nat))]):=by
  refine ⟨by rw [List.length_append]; exact hl,fun q hq=>?_⟩
  rcases List.mem_append.mp hq with hq | hq
  · exact h.2 q hq
  · rw [List.mem_singleton.mp hq]
    exact ⟨(yh (one_at hk)).1,vals_ok hv⟩
theorem loop_to (h0:x0<32) (h1:x1<32) (h2:x2<32) (h3:x3<32) {x y i j k:Nat} {z3 z4 z5 z6 z7 z8 z9:Slot} {NS ps:List PV} (hk:k<11) (hi:NS[i]?=some (.str (nmC x))) (hj:NS[j]?=some (.str (nmC y))) (hx:x<32) (hy:y<32) (h4:i<4) (h5:j<4) (hp:p<5) (hE:EOk E) (hd:delD E [112+k]=E) :
    ∃ y3 y4 y5 y6 y7 y8 y9,yJ (jR [jh 3,jh 4,jh 5]) d_ff.1 jr (.tup [.str [112+k],.int (i:Nat),.int (j:Nat)]::ps) [.ob (.hdr (toD (pts x0 x1 x2 x3++E))),.pv (.int (p:Nat)),.ob (.list NS),z3,z4,z5,z6,z7,z8,z9] =
      yJ (jR [jh 3,jh 4,jh 5]) d_ff.1 jr ps [.ob (.hdr (toD (pts x0 x1 x2 x3++(E++[([112+k],num (hm x y:Nat))])))),.pv (.int (p:Nat)),.ob (.list NS),y3,y4,y5,y6,y7,y8,y9]:=by
  obtain ⟨y6,y7,y8,y9,e⟩:=ff_is (x6:=z6) (x7:=z7) (x8:=z8) (x9:=z9) hi hj hx hy h4 h5 hp (app_ok h0 h1 h2 h3 hE.1 hE.2) (del_to h0 h1 h2 h3 (lo_one _) hd) (one_at hk)
  rw [List.append_assoc] at e
  exact ⟨_,_,_,y6,y7,y8,y9,for_to rfl e⟩
theorem methR_to {k:Nat} {F:jw} {vs:VS} {l:List PV} {sl:Slot} {sls:VS} {w:AVal} (hv:yt vs k=some l) (h:F [.br (.hdr l)]=some (sl,sls)) (hw:vR sl=some w):jE k 0 F [] [] [] vs=some (w,vs):=by
  unfold jE
  simp [evs,Jb,hv,h,hw]
theorem hm_lt (x y:Nat):hm x y<1000:=Nat.lt_of_le_of_lt (hm_le x y) (by decide)
theorem dist_is (h0:x0<32) (h1:x1<32) (h2:x2<32) (h3:x3<32) (hp:p<5) :
    distF [.ob (.hdr (toD (pts x0 x1 x2 x3))),.pv (.int (p:Nat))]=some (.pv .none,[.ob (.hdr (toD (pts x0 x1 x2 x3++six x0 x1 x2 x3))),.un]):=by
  have hk:=keys_is (D:=pts x0 x1 x2 x3) (show 4≤1000 by decide)
  have n0:d_n0.1 [.ob (.hdr (toD (pts x0 x1 x2 x3))),.pv (.int (p:Nat)),.un,.un,.un,.un,.un,.un,.un,.un]=some (.next,[.ob (.hdr (toD (pts x0 x1 x2 x3))),.pv (.int (p:Nat)),.ob (.list [.str (nmC x0),.str (nmC x1),.str (nmC x2),.str (nmC x3)]),.un,.un,.un,.un,.un,.un,.un]):=by
    rw [show d_n0.1=Jc 2 (jE 0 0 keysF [] [] []) from rfl]
    unfold Jc
    rw [methR_to rfl hk rfl]; rfl
  have k0:EOk []:=⟨Nat.zero_le _,nofun⟩
  have k1:=k0.add (k:=5) (show 0<20 by decide) (by decide) (hm_lt x0 x1)
  have k2:=k1.add (k:=6) (show 1<20 by decide) (by decide) (hm_lt x0 x2)
  have k3:=k2.add (k:=7) (show 2<20 by decide) (by decide) (hm_lt x0 x3)
  have k4:=k3.add (k:=8) (show 3<20 by decide) (by decide) (hm_lt x1 x2)
  have k5:=k4.add (k:=9) (show 4<20 by decide) (by decide) (hm_lt x1 x3)
  have r:∃ y3 y4 y5 y6 y7 y8 y9,d_for.1 [.ob (.hdr (toD (pts x0 x1 x2 x3++[]))),.pv (.int (p:Nat)),.ob (.list [.str (nmC x0),.str (nmC x1),.str (nmC x2),.str (nmC x3)]),.un,.un,.un,.un,.un,.un,.un] =
      some (.next,[.ob (.hdr (toD (pts x0 x1 x2 x3++six x0 x1 x2 x3))),.pv (.int (p:Nat)),.ob (.list [.str (nmC x0),.str (nmC x1),.str (nmC x2),.str (nmC x3)]),y3,y4,y5,y6,y7,y8,y9]):=by
    obtain ⟨a3,a4,a5,a6,a7,a8,a9,e1⟩:=loop_to (p:=p) (z3:=.un) (z4:=.un) (z5:=.un) (z6:=.un) (z7:=.un) (z8:=.un) (z9:=.un) (ps:=[.tup [.str [118],.int 0,.int 2],.tup [.str [119],.int 0,.int 3],.tup [.str [120],.int 1,.int 2],.tup [.str [121],.int 1,.int 3],.tup [.str [122],.int 2,.int 3]]) (NS:=[.str (nmC x0),.str (nmC x1),.str (nmC x2),.str (nmC x3)]) h0 h1 h2 h3 (i:=0) (j:=1) (k:=5) (x:=x0) (y:=x1) (by decide) rfl rfl h0 h1 (by decide) (by decide) hp k0 rfl
    obtain ⟨b3,b4,b5,b6,b7,b8,b9,e2⟩:=loop_to (p:=p) (z3:=a3) (z4:=a4) (z5:=a5) (z6:=a6) (z7:=a7) (z8:=a8) (z9:=a9) (ps:=[.tup [.str [119],.int 0,.int 3],.tup [.str [120],.int 1,.int 2],.tup [.str [121],.int 1,.int 3],.tup [.str [122],.int 2,.int 3]]) (NS:=[.str (nmC x0),.str (nmC x1),.str (nmC x2),.str (nmC x3)]) h0 h1 h2 h3 (i:=0) (j:=2) (k:=6) (x:=x0) (y:=x2) (by decide) rfl rfl h0 h2 (by decide) (by decide) hp k1 rfl
    obtain ⟨c3,c4,c5,c6,c7,c8,c9,e3⟩:=loop_to (p:=p) (z3:=b3) (z4:=b4) (z5:=b5) (z6:=b6) (z7:=b7) (z8:=b8) (z9:=b9) (ps:=[.tup [.str [120],.int 1,.int 2],.tup [.str [121],.int 1,.int 3],.tup [.str [122],.int 2,.int 3]]) (NS:=[.str (nmC x0),.str (nmC x1),.str (nmC x2),.str (nmC x3)]) h0 h1 h2 h3 (i:=0) (j:=3) (k:=7) (x:=x0) (y:=x3) (by decide) rfl rfl h0 h3 (by decide) (by decide) hp k2 rfl
    obtain ⟨d3,d4,d5,d6,d7,d8,d9,e4⟩:=loop_to (p:=p) (z3:=c3) (z4:=c4) (z5:=c5) (z6:=c6) (z7:=c7) (z8:=c8) (z9:=c9) (ps:=[.tup [.str [121],.int 1,.int 3],.tup [.str [122],.int 2,.int 3]]) (NS:=[.str (nmC x0),.str (nmC x1),.str (nmC x2),.str (nmC x3)]) h0 h1 h2 h3 (i:=1) (j:=2) (k:=8) (x:=x1) (y:=x2) (by decide) rfl rfl h1 h2 (by decide) (by decide) hp k3 rfl
    obtain ⟨f3,f4,f5,f6,f7,f8,f9,e5⟩:=loop_to (p:=p) (z3:=d3) (z4:=d4) (z5:=d5) (z6:=d6) (z7:=d7) (z8:=d8) (z9:=d9) (ps:=[.tup [.str [122],.int 2,.int 3]]) (NS:=[.str (nmC x0),.str (nmC x1),.str (nmC x2),.str (nmC x3)]) h0 h1 h2 h3 (i:=1) (j:=3) (k:=9) (x:=x1) (y:=x3) (by decide) rfl rfl h1 h3 (by decide) (by decide) hp k4 rfl
    obtain ⟨g3,g4,g5,g6,g7,g8,g9,e6⟩:=loop_to (p:=p) (z3:=f3) (z4:=f4) (z5:=f5) (z6:=f6) (z7:=f7) (z8:=f8) (z9:=f9) (ps:=[]) (NS:=[.str (nmC x0),.str (nmC x1),.str (nmC x2),.str (nmC x3)]) h0 h1 h2 h3 (i:=2) (j:=3) (k:=10) (x:=x2) (y:=x3) (by decide) rfl rfl h2 h3 (by decide) (by decide) hp k5 rfl
    exact ⟨g3,g4,g5,g6,g7,g8,g9,e1.trans (e2.trans (e3.trans (e4.trans (e5.trans e6))))⟩
  obtain ⟨y3,y4,y5,y6,y7,y8,y9,r⟩:=r
  rw [List.append_nil] at r
  show ((den_dist.1 [.ob (.hdr (toD (pts x0 x1 x2 x3))),.pv (.int (p:Nat)),.un,.un,.un,.un,.un,.un,.un,.un]).bind _)=_
  rw [show den_dist.1=jm d_n0.1 (jm d_for.1 jr) from rfl,ju n0,ju r]
  rfl
end
inductive Tk where
  | v (k:Nat) | o (c:Nat) | s (k:Nat)
noncomputable abbrev vj:jw:=fnOf ks__parse_varint 1 2 vc.1
noncomputable abbrev octF:jw:=fnOf ks__law_octets 0 3 vI.1
noncomputable abbrev isntF:jw:=fnOf ks_ISNONTERMINAL 1 0 vd.1
noncomputable abbrev eofF:jw:=fnOf ks_ISEOF 1 0 den_ISEOF.1
noncomputable abbrev doneF:jw:=fnOf ks_done 2 4 den_done.1
noncomputable def ltO (k:Nat):List PV:=[.int 65,.int ((64+k:Nat):Int),.int (k:Nat)]
noncomputable def ocP:Tk→List PV
  | .v k=>ltO k
  | .o c=>[.int (c:Nat)]
  | .s k=>.int 22::ltO k
noncomputable def remP:Tk→List PV
  | .s k=>ltO k
  | _=>[]
noncomputable def code:Tk→Nat
  | .v k=>4096+65*k
  | .o c=>c
  | .s _=>22
noncomputable def enc:List Tk→List PV
  | []=>[.int 0]
  | t::ts=>ocP t++enc ts
noncomputable def itH:List Tk→List PV
  | []=>[]
  | t::ts=>remP t++enc ts
noncomputable def codeH:List Tk→Nat
  | []=>0
  | t::_=>code t
noncomputable def okT:Tk→Prop
  | .v k=>k<11
  | .o c=>c=14 ∨ c=15 ∨ c=16
  | .s k=>k<11
theorem parses:AllN (fun k=>∀ R,vj [.ob (.iter (ltO k++R))]=some (.pv (.int ((4096+65*k:Nat):Int)),[.ob (.iter R)])) 11:=by
  iterate 11 refine .s ?_ fun R=>by kernel_rfl
  exact .z
theorem parse_l {k:Nat} (h:k<11) (R:List PV):vj [.ob (.iter (ltO k++R))]=some (.pv (.int ((4096+65*k:Nat):Int)),[.ob (.iter R)]):=parses.get k h R
theorem parse_0 (R:List PV):vj [.ob (.iter (.int 0::R))]=some (.pv (.int 0),[.ob (.iter R)]):=by kernel_rfl
theorem parse_22 (R:List PV):vj [.ob (.iter (.int 22::R))]=some (.pv (.int 22),[.ob (.iter R)]):=by kernel_rfl
theorem parse_14 (R:List PV):vj [.ob (.iter (.int 14::R))]=some (.pv (.int 14),[.ob (.iter R)]):=by kernel_rfl
theorem parse_15 (R:List PV):vj [.ob (.iter (.int 15::R))]=some (.pv (.int 15),[.ob (.iter R)]):=by kernel_rfl
theorem parse_16 (R:List PV):vj [.ob (.iter (.int 16::R))]=some (.pv (.int 16),[.ob (.iter R)]):=by kernel_rfl
theorem nxt:∀ ts:List Tk,(∀ t∈ts,okT t)→vj [.ob (.iter (enc ts))]=some (.pv (.int (codeH ts:Nat)),[.ob (.iter (itH ts))])
  | [],_=>parse_0 []
  | .v k::ts,h=>by
    have hk:k<11:=h _ List.mem_cons_self
    exact parse_l hk (enc ts)
  | .s k::ts,h=>parse_22 (ltO k++enc ts)
  | .o c::ts,h=>by
    have hc:c=14 ∨ c=15 ∨ c=16:=h _ List.mem_cons_self
    rcases hc with rfl | rfl | rfl
    · exact parse_14 (enc ts)
    · exact parse_15 (enc ts)
    · exact parse_16 (enc ts)
noncomputable def vy:List Tk:=[.v 5,.v 6,.o 14,.v 8,.o 15,.s 0,.v 5,.v 7,.o 14,.v 9,.o 15,.s 1,.v 6,.v 7,.o 14,.v 10,.o 15,.s 2,
  .v 5,.v 5,.o 14,.v 6,.v 6,.o 14,.o 16,.v 7,.o 16,.v 0,.v 1,.o 16,.v 2,.o 16,.o 14,.v 5,.v 2,.o 16,.v 2,.o 16,.o 15,.v 6,.v 1,.o 16,.v 1,.o 16,.o 15,.v 7,.v 0,.o 16,.v 0,.o 16,.o 15,.s 4]
theorem oct_is:octF []=some (.ob (.iter (enc vy)),[]):=by kernel_rfl
theorem isnt_is (n:Int):isntF [.pv (.int n)]=some (.pv (.bool (decide (256≤n))),[.un]):=rfl
theorem eof_is (n:Int):eofF [.pv (.int n)]=some (.pv (.bool (n == 0)),[.un]):=by
  have e:pvEq (.int n) (.int 0)=(n == 0):=by unfold pvEq; rfl
  show some (Slot.pv (.bool (pvEq (.int n) (.int 0))),[Slot.un])=_
  rw [e]
theorem call1_pv {F:jw} {k:Nat} {vs:VS} {q r:PV} (hv:vs[k]?=some (.pv q)) (h:F [.pv q]=some (.pv r,[.un])):jt 1 F [jf k] vs=some (.pv r,vs):=by
  have e4:yX [jf k] vs=some ([.pv q],vs):=by
    show (jf k vs).map _=_
    rw [jT hv rfl]; rfl
  unfold jt
  rw [e4]
  show ((F [.pv q]).bind _)=_
  rw [h]; rfl
theorem call1_ob {F:jw} {k:Nat} {vs:VS} {o o':OB} {r:PV} (hv:vs[k]?=some (.ob o)) (h:F [.ob o]=some (.pv r,[.ob o'])):jt 1 F [jf k] vs=some (.pv r,vs.set k (.ob o')):=by
  have e4:yX [jf k] vs=some ([.own k],vs):=by
    show (jf k vs).map _=_
    rw [jT hv rfl]; rfl
  have e5:jU vs [.own k]=some [.ob o]:=by
    show ((match vs[k]? with | some (.ob o)=>some (Slot.ob o) | _=>none).bind _)=_
    rw [hv]; rfl
  unfold jt
  rw [e4]
  show ((jU vs [.own k]).bind _)=_
  rw [e5,Option.bind_some,h]; rfl
theorem own_to {vs:VS} {k:Nat} {l:List PV} (hv:vs[k]?=some (.ob (.list l))):jK vs (.own k)=some (k,false,l):=by
  show (match vs[k]? with | some (.ob (.list l))=>some (k,false,l) | _=>none)=_
  rw [hv]
theorem isL_to {vs:VS} {k:Nat} {l:List PV} (hv:vs[k]?=some (.ob (.list l))):yB (.own k) vs=true:=by
  unfold yB
  show ((vs[k]?).bind slotL).isSome=true
  rw [hv]; rfl
theorem app_to {k:Nat} {f:Ev} {vs:VS} {l:List PV} {q:PV} (hv:vs[k]?=some (.ob (.list l))) (hf:f vs=some (.pv q,vs)) (hl:l.length≤100000) :
    yN (jL yB yf (jf k) [f]) vs=some (.next,vs.set k (.ob (.list (l++[q])))):=by
  have e1:jI [f] vs=some ([.pv q],vs):=by
    show ((f vs).bind _)=_
    rw [hf]; rfl
  have e2:yf [.own k,.pv q] vs=some (.pv .none,vs.set k (.ob (.list (l++[q])))):=by
    show ((jK vs (.own k)).bind _)=_
    rw [own_to hv]
    show (if l.length≤100000 then _ else none)=_
    rw [if_pos hl]; rfl
  unfold yN jL
  rw [jT hv rfl]
  show ((if yB (.own k) vs=true then (jI [f] vs).bind fun q=>yf (.own k::q.1) q.2 else none).bind _)=_
  rw [if_pos (isL_to hv),e1]
  show ((yf [.own k,.pv q] vs).bind _)=_
  rw [e2]; rfl
theorem pop_to {k:Nat} {vs:VS} {l:List PV} {q:PV} (hv:vs[k]?=some (.ob (.list (l++[q])))) (hl:l.length<100000) :
    jL yB semPop (jf k) [] vs=some (.pv q,vs.set k (.ob (.list l))):=by
  have hlen:(l++[q]).length≤100000:=by rw [List.length_append]; exact hl
  have e2:semPop [.own k] vs=some (.pv q,vs.set k (.ob (.list l))):=by
    show ((jK vs (.own k)).bind _)=_
    rw [own_to hv]
    show (if (l++[q]).length≤100000 then ((l++[q])[(l++[q]).length - 1]?).map (fun p=>(AVal.pv p,yK vs k false (l++[q]).dropLast)) else none)=_
    rw [if_pos hlen,List.dropLast_concat,List.length_append]
    show (((l++[q])[l.length+1 - 1]?).map _)=_
    rw [Nat.add_sub_cancel,List.getElem?_append_right (Nat.le_refl _),Nat.sub_self]; rfl
  unfold jL
  rw [jT hv rfl]
  show (if yB (.own k) vs=true then (jI [] vs).bind fun q=>semPop (.own k::q.1) q.2 else none)=_
  rw [if_pos (isL_to hv)]
  exact e2
noncomputable def val (D:DS) (k:Nat):Option Int:=(fnd D [112+k]).bind fun q=>if q.2.length≤600 then PySem.intText? ⟨q.2.toArray⟩ else none
noncomputable def opI (c:Nat) (a b:Int):Int:=if c=14 then a+b else if c=15 then a - b else a*b
noncomputable def exec:List Tk→DS→List Int→Option (DS×List Int)
  | [],D,S=>some (D,S)
  | .v k::ts,D,S=>(val D k).bind fun i=>exec ts D (i::S)
  | .o c::ts,D,b::a::S=>if small a then exec ts D (opI c a b::S) else none
  | .s k::ts,D,a::S=>if small a&&vY (num a) then exec ts (delD D [112+k]++[([112+k],num a)]) S else none
  | _,_,_=>none
noncomputable abbrev stt (D:DS) (it:List PV) (S:List Int) (n:Nat) (x4 x5:Slot):VS:=[.ob (.hdr (toD D)),.ob (.iter it),.ob (.list (S.reverse.map .int)),.pv (.int (n:Nat)),x4,x5]
noncomputable def popE:Ev:=jL yB semPop (jf 2) []
noncomputable def keyE:Ev:=ev2 jp (jo (PV.str [80,81,82,83,84,85,86,87,88,89,90])) (ev2 semFdiv (ev2 yG (jf 3) (jo (PV.int 4096))) (jo (PV.int 65)))
noncomputable def keyS:Ev:=ev2 jp (jo (PV.str [112,113,114,115,116,117,118,119,120,121,122])) (ev2 semFdiv (ev2 yG (jt 1 vj [jf 1]) (jo (PV.int 4096))) (jo (PV.int 65)))
noncomputable def getE:Ev:=evFn semInt [jE 0 1 getF [keyE] [] [PV.none]]
noncomputable def dicE:Ev:=evDict [14,15,16] [ev2 jB (jf 5) (jf 4),ev2 yG (jf 5) (jf 4),ev2 yc (jf 5) (jf 4)] (jf 3)
noncomputable def opB:Ex:=jm (jD 4 popE) (jm (jD 5 popE) (jm (yN (jL yB yf (jf 2) [dicE])) jr))
noncomputable def stB:Ex:=jm (vT 0 siF (evFn ym [popE]) keyS) jr
theorem t0_eq:d_t0.1=exIf (vZ (jt 1 isntF [jf 3])) (jm (yN (jL yB yf (jf 2) [getE])) jr) (jm (exIf (te2 yH (jf 3) (jo (PV.int 22))) stB opB) jr):=rfl
theorem t1_eq:d_t1.1=jD 3 (jt 1 vj [jf 1]):=rfl
theorem ev2_ch {sem:AVal→AVal→VS→Option PV} {f g:Ev} {vs vs1 vs2:VS} {a b:AVal} {q:PV} (hf:f vs=some (a,vs1)) (ha:frz a=some a) (hg:g vs1=some (b,vs2)) (hb:frz b=some b) (h:sem a b vs2=some q):ev2 sem f g vs=some (.pv q,vs2):=by
  unfold ev2
  rw [hf,Option.bind_some,ha,Option.bind_some,hg,Option.bind_some,hb,Option.bind_some,h,Option.map_some]
theorem if_to {t:Te} {f g:Ex} {vs vs1:VS} {b:Bool} (h:t vs=some (b,vs1)):exIf t f g vs=if b then f vs1 else g vs1:=by
  unfold exIf
  rw [h]; rfl
theorem teb_to {f:Ev} {vs:VS} {b:Bool} (h:f vs=some (.pv (.bool b),vs)):vZ f vs=some (b,vs):=by
  unfold vZ
  rw [h]; rfl
theorem eqi_to {f:Ev} {vs:VS} {i j:Int} (h:f vs=some (.pv (.int i),vs)):te2 yH f (jo (.int j)) vs=some (i == j,vs):=by
  have e:pvEq (.int i) (.int j)=(i == j):=by unfold pvEq; rfl
  have e2:ev2 yH f (jo (.int j)) vs=some (.pv (.bool (i == j)),vs):=jV (a:=.pv (.int i)) (b:=.pv (.int j)) h rfl rfl rfl (by
    show some (PV.bool (pvEq (.int i) (.int j)))=_
    rw [e])
  unfold te2
  rw [e2]; rfl
theorem methR1_to {k:Nat} {F:jw} {f:Ev} {vs:VS} {l:List PV} {q r:PV} {sl:Slot} {sls:VS} {w:AVal} (hv:yt vs k=some l) (hf:f vs=some (.pv q,vs)) (h:F [.br (.hdr l),.pv q,.pv r]=some (sl,sls)) (hw:vR sl=some w):jE k 1 F [f] [] [r] vs=some (w,vs):=by
  unfold jE
  simp [evs,Jb,hv,hf,h,hw,pvOf]
section
variable {D:DS} {it:List PV} {S:List Int} {k:Nat} {x4 x5:Slot}
theorem rev_len {a:Int}:(a::S).reverse.map PV.int=S.reverse.map PV.int++[.int a]:=by simp
theorem key_sub (k:Nat) {vs:VS}:yG (.pv (.int ((4096+65*k:Nat):Int))) (.pv (.int 4096)) vs=some (.int (65*(k:Nat))):=by
  show some (PV.int (((4096+65*k:Nat):Int) - 4096))=_
  rw [show ((4096+65*k:Nat):Int) - 4096=65*(k:Nat) by omega]
theorem key_div:AllN (fun k=>∀ vs:VS,semFdiv (.pv (.int (65*(k:Nat)))) (.pv (.int 65)) vs=some (.int (k:Nat))) 11:=by
  iterate 11 refine .s ?_ fun vs=>rfl
  exact .z
theorem key_E:AllN (fun k=>∀ vs:VS,jp (.pv (.str [80,81,82,83,84,85,86,87,88,89,90])) (.pv (.int (k:Nat))) vs=some (.str [80+k])) 11:=by
  iterate 11 refine .s ?_ fun vs=>rfl
  exact .z
theorem key_S:AllN (fun k=>∀ vs:VS,jp (.pv (.str [112,113,114,115,116,117,118,119,120,121,122])) (.pv (.int (k:Nat))) vs=some (.str [112+k])) 11:=by
  iterate 11 refine .s ?_ fun vs=>rfl
  exact .z
theorem los_80:AllN (fun k=>lo [80+k]=[112+k]) 11:=by
  iterate 11 refine .s ?_ rfl
  exact .z
theorem keyE_is (hk:k<11):keyE (stt D it S (4096+65*k) x4 x5)=some (.pv (.str [80+k]),stt D it S (4096+65*k) x4 x5):=by
  refine jV (b:=.pv (.int (k:Nat))) rfl rfl (jV (a:=.pv (.int (65*(k:Nat)))) (b:=.pv (.int 65)) (jV (a:=.pv (.int ((4096+65*k:Nat):Int))) (b:=.pv (.int 4096)) rfl rfl rfl rfl ?_) rfl rfl rfl ?_) rfl ?_
  · exact key_sub k
  · exact key_div.get k hk _
  · exact key_E.get k hk _
theorem lo_80 (hk:k<11):lo [80+k]=[112+k]:=los_80.get k hk
noncomputable def bigOk (k:Nat):Bool:=asc [80+k]&&yn vV [112+k]
theorem bigs:((List.range 11).all bigOk)=true:=by kernel_rfl
theorem t0_v (hk:k<11) (hD:Dok D) {i:Int} (hv:val D k=some i) (hS:S.length≤1000):d_t0.1 (stt D it S (4096+65*k) x4 x5)=some (.next,stt D it (i::S) (4096+65*k) x4 x5):=by
  have hb:=Bool.and_eq_true_iff.mp (List.all_eq_true.mp bigs k (List.mem_range.mpr hk))
  obtain ⟨q,q1,q2⟩:=jd hv
  split at q2
  case isFalse=>exact jb q2
  rename_i ql
  have hg:=get_is hD hb.1 (by rw [lo_80 hk]; exact hb.2)
  rw [lo_80 hk,q1] at hg
  have e1:getE (stt D it S (4096+65*k) x4 x5)=some (.pv (.int i),stt D it S (4096+65*k) x4 x5):=by
    refine fn1_to (a:=.pv (.str q.2)) (methR1_to (l:=toD D) rfl (keyE_is hk) hg rfl) rfl ?_
    show (if q.2.length≤600 then (PySem.intText? ⟨q.2.toArray⟩).map PV.int else none)=_
    rw [if_pos ql,q2]; rfl
  have hc:vZ (jt 1 isntF [jf 3]) (stt D it S (4096+65*k) x4 x5)=some (true,stt D it S (4096+65*k) x4 x5):=by
    refine teb_to (call1_pv (q:=.int ((4096+65*k:Nat):Int)) rfl ?_)
    rw [isnt_is,decide_eq_true (show (256:Int)≤((4096+65*k:Nat):Int) from Int.ofNat_le.mpr (Nat.le_trans (by decide:256≤4096) (Nat.le_add_right _ _)))]
  rw [t0_eq,if_to hc,if_pos rfl,ju (app_to (l:=S.reverse.map PV.int) rfl e1 (by simp; omega))]
  show some (Fl.next,_)=some (Fl.next,stt D it (i::S) (4096+65*k) x4 x5)
  unfold stt
  rw [rev_len]; rfl
theorem not_nt {n:Nat} (hn:n<256):vZ (jt 1 isntF [jf 3]) (stt D it S n x4 x5)=some (false,stt D it S n x4 x5):=by
  refine teb_to (call1_pv (q:=.int (n:Nat)) rfl ?_)
  rw [isnt_is,decide_eq_false (show ¬ (256:Int)≤(n:Int) from Int.not_le.mpr (Int.ofNat_lt.mpr hn))]
theorem pop_st {a:Int} {n:Nat} (hS:S.length<1000):popE (stt D it (a::S) n x4 x5)=some (.pv (.int a),stt D it S n x4 x5):=by
  unfold popE
  exact (pop_to (l:=S.reverse.map PV.int) (q:=.int a) (by show some (Slot.ob (.list ((a::S).reverse.map PV.int)))=_; rw [rev_len]) (by simp; omega)).trans rfl
theorem t0_s (hk:k<11) {R:List PV} {a:Int} (hD:Dok D) (ha:small a=true) (hn:vY (num a)=true) (hS:S.length<1000) :
    d_t0.1 (stt D (ltO k++R) (a::S) 22 x4 x5)=some (.next,stt (delD D [112+k]++[([112+k],num a)]) R S 22 x4 x5):=by
  have hs:=si_is hD (one_at hk) hn
  have e1:evFn ym [popE] (stt D (ltO k++R) (a::S) 22 x4 x5)=some (.pv (.str (num a)),stt D (ltO k++R) S 22 x4 x5):=by
    unfold evFn jI
    rw [pop_st hS]
    show ((if small a then some (PV.str (num a)) else none).map _)=_
    rw [ha]; rfl
  have e2:jt 1 vj [jf 1] (stt D (ltO k++R) S 22 x4 x5)=some (.pv (.int ((4096+65*k:Nat):Int)),stt D R S 22 x4 x5):=(call1_ob (o:=.iter (ltO k++R)) rfl (parse_l hk R)).trans rfl
  have e3:keyS (stt D (ltO k++R) S 22 x4 x5)=some (.pv (.str [112+k]),stt D R S 22 x4 x5):=by
    refine ev2_ch (b:=.pv (.int (k:Nat))) rfl rfl (ev2_ch (a:=.pv (.int (65*(k:Nat)))) (b:=.pv (.int 65)) (ev2_ch (a:=.pv (.int ((4096+65*k:Nat):Int))) (b:=.pv (.int 4096)) e2 rfl rfl rfl ?_) rfl rfl rfl ?_) rfl ?_
    · exact key_sub k
    · exact key_div.get k hk _
    · exact key_S.get k hk _
  have e4:vT 0 siF (evFn ym [popE]) keyS (stt D (ltO k++R) (a::S) 22 x4 x5)=some (.next,stt (delD D [112+k]++[([112+k],num a)]) R S 22 x4 x5):=by
    unfold vT
    rw [e1,Option.bind_some]
    show ((keyS (stt D (ltO k++R) S 22 x4 x5)).bind _)=_
    rw [e3,Option.bind_some]
    show vt 0 siF [.str [112+k],.str (num a)] (stt D R S 22 x4 x5)=_
    unfold vt
    show (siF [.ob (.hdr (toD D)),.pv (.str [112+k]),.pv (.str (num a))]).bind _=_
    rw [hs]; rfl
  rw [t0_eq,if_to (not_nt (n:=22) (by decide)),if_neg Bool.false_ne_true]
  have e5:te2 yH (jf 3) (jo (PV.int 22)) (stt D (ltO k++R) (a::S) 22 x4 x5)=some (true,stt D (ltO k++R) (a::S) 22 x4 x5):=eqi_to (i:=22) (j:=22) rfl
  have e6:exIf (te2 yH (jf 3) (jo (PV.int 22))) stB opB (stt D (ltO k++R) (a::S) 22 x4 x5)=some (.next,stt (delD D [112+k]++[([112+k],num a)]) R S 22 x4 x5):=by
    rw [if_to e5,if_pos rfl]
    unfold stB
    rw [ju e4]; rfl
  rw [ju e6]; rfl
theorem t0_o {c:Nat} (hc:c=14 ∨ c=15 ∨ c=16) {a b:Int} (ha:small a=true) (hS:S.length<990) :
    d_t0.1 (stt D it (b::a::S) c x4 x5)=some (.next,stt D it (opI c a b::S) c (.pv (.int b)) (.pv (.int a))):=by
  have p1:jD 4 popE (stt D it (b::a::S) c x4 x5)=some (.next,stt D it (a::S) c (.pv (.int b)) x5):=by
    unfold jD
    rw [pop_st (by simp; omega)]; rfl
  have p2:jD 5 popE (stt D it (a::S) c (.pv (.int b)) x5)=some (.next,stt D it S c (.pv (.int b)) (.pv (.int a))):=by
    unfold jD
    rw [pop_st (Nat.lt_trans hS (by decide))]; rfl
  have v4:jf 4 (stt D it S c (.pv (.int b)) (.pv (.int a)))=some (.pv (.int b),stt D it S c (.pv (.int b)) (.pv (.int a))):=rfl
  have v5:jf 5 (stt D it S c (.pv (.int b)) (.pv (.int a)))=some (.pv (.int a),stt D it S c (.pv (.int b)) (.pv (.int a))):=rfl
  have o1:ev2 jB (jf 5) (jf 4) (stt D it S c (.pv (.int b)) (.pv (.int a)))=some (.pv (.int (a+b)),stt D it S c (.pv (.int b)) (.pv (.int a))):=jV v5 rfl v4 rfl rfl
  have o2:ev2 yG (jf 5) (jf 4) (stt D it S c (.pv (.int b)) (.pv (.int a)))=some (.pv (.int (a - b)),stt D it S c (.pv (.int b)) (.pv (.int a))):=jV v5 rfl v4 rfl rfl
  have o3:ev2 yc (jf 5) (jf 4) (stt D it S c (.pv (.int b)) (.pv (.int a)))=some (.pv (.int (a*b)),stt D it S c (.pv (.int b)) (.pv (.int a))):=jV v5 rfl v4 rfl (if_pos ha)
  have d1:dicE (stt D it S c (.pv (.int b)) (.pv (.int a)))=some (.pv (.int (opI c a b)),stt D it S c (.pv (.int b)) (.pv (.int a))):=by
    unfold dicE evDict evs
    rw [o1]
    show (((evs [ev2 yG (jf 5) (jf 4),ev2 yc (jf 5) (jf 4)] (stt D it S c (.pv (.int b)) (.pv (.int a)))).map _).bind _)=_
    unfold evs
    rw [o2]
    show ((((evs [ev2 yc (jf 5) (jf 4)] (stt D it S c (.pv (.int b)) (.pv (.int a)))).map _).map _).bind _)=_
    unfold evs
    rw [o3]
    rcases hc with rfl | rfl | rfl <;> rfl
  have p3:=app_to (k:=2) (f:=dicE) (vs:=stt D it S c (.pv (.int b)) (.pv (.int a))) (l:=S.reverse.map PV.int) (q:=.int (opI c a b)) rfl d1 (by simp; omega)
  have lt:c<256:=by rcases hc with rfl | rfl | rfl <;> decide
  have e5:te2 yH (jf 3) (jo (PV.int 22)) (stt D it (b::a::S) c x4 x5)=some (false,stt D it (b::a::S) c x4 x5):=by
    rw [eqi_to (i:=(c:Nat)) (j:=22) rfl]
    rcases hc with rfl | rfl | rfl <;> rfl
  have e6:exIf (te2 yH (jf 3) (jo (PV.int 22))) stB opB (stt D it (b::a::S) c x4 x5)=some (.next,stt D it (opI c a b::S) c (.pv (.int b)) (.pv (.int a))):=by
    rw [if_to e5,if_neg Bool.false_ne_true]
    unfold opB
    rw [ju p1,ju p2,ju p3]
    show some (Fl.next,_)=some (Fl.next,stt D it (opI c a b::S) c (.pv (.int b)) (.pv (.int a)))
    unfold stt
    rw [rev_len]; rfl
  rw [t0_eq,if_to (not_nt lt),if_neg Bool.false_ne_true,ju e6]; rfl
theorem t1_is {ts:List Tk} (h:∀ t∈ts,okT t) {n:Nat}:d_t1.1 (stt D (enc ts) S n x4 x5)=some (.next,stt D (itH ts) S (codeH ts) x4 x5):=by
  rw [t1_eq]
  unfold jD
  rw [call1_ob (o:=.iter (enc ts)) rfl (nxt ts h)]; rfl
end
noncomputable def turnB:Ex:=jm d_t0.1 (jm d_t1.1 jr)
noncomputable def turnT:Te:=teNot (vZ (jt 1 eofF [jf 3]))
theorem turnT_is {D:DS} {it:List PV} {S:List Int} {n:Nat} {x4 x5:Slot}:turnT (stt D it S n x4 x5)=some (!((n:Int) == 0),stt D it S n x4 x5):=by
  unfold turnT teNot
  rw [teb_to (call1_pv (q:=.int (n:Nat)) rfl (eof_is _))]; rfl
theorem while_to {t:Te} {b:Ex} {n:Nat} {vs vs1:VS} (h1:t vs=some (true,vs)) (h2:b vs=some (.next,vs1)):vM t b (n+1) vs=vM t b n vs1:=by
  show (t vs).bind _=_
  rw [h1,Option.bind_some]
  show (if true=true then _ else _)=_
  rw [if_pos rfl,h2]; rfl
theorem codeH_ne {t:Tk} {ts:List Tk} (h:okT t):(!(((codeH (t::ts):Nat):Int) == 0))=true:=by
  have:codeH (t::ts) ≠ 0:=by
    cases t with
    | v k=>show 4096+65*k ≠ 0; exact Nat.ne_of_gt (Nat.lt_of_lt_of_le (by decide:0<4096) (Nat.le_add_right _ _))
    | s k=>show 22 ≠ 0; decide
    | o c=>show c ≠ 0; rcases h with rfl | rfl | rfl <;> decide
  have h2:((((codeH (t::ts):Nat):Int) == 0))=false:=beq_eq_false_iff_ne.mpr (Int.ofNat_ne_zero.mpr this)
  rw [h2]; rfl
theorem run_is:∀ (ts:List Tk) (D D':DS) (S S':List Int) (x4 x5:Slot) (m:Nat),(∀ t∈ts,okT t)→Dok D→D.length+ts.length≤900→S.length+ts.length≤900→exec ts D S=some (D',S') →
    ∃ y4 y5,vM turnT turnB (ts.length+1+m) (stt D (itH ts) S (codeH ts) x4 x5)=some (.next,stt D' [] S' 0 y4 y5)
  | [],D,D',S,S',x4,x5,m,_,_,_,_,h=>by
    injection h with h; injection h with e1 e2; subst e1; subst e2
    refine ⟨x4,x5,?_⟩
    rw [show [].length+1+m=m+1 from Nat.add_comm 1 m]
    show (turnT (stt D [] S 0 x4 x5)).bind _=_
    rw [turnT_is]; rfl
  | .v k::ts,D,D',S,S',x4,x5,m,hk,hD,h1,h2,h=>by
    obtain ⟨i,hv,h⟩:=jd h
    have hk0:k<11:=hk _ List.mem_cons_self
    have hk':=fun t ht=>hk t (List.mem_cons_of_mem _ ht)
    have ls:(Tk.v k::ts).length=ts.length+1:=rfl
    rw [ls] at h1 h2
    obtain ⟨y4,y5,ih⟩:=run_is ts D D' (i::S) S' x4 x5 m hk' hD (Nat.le_of_succ_le h1) (Nat.le_trans (Nat.le_of_eq (Nat.succ_add_eq_add_succ _ _)) h2) h
    refine ⟨y4,y5,?_⟩
    rw [show (Tk.v k::ts).length+1+m=ts.length+1+m+1 from Nat.add_right_comm (ts.length+1) 1 m]
    refine (while_to ?_ ?_).trans ih
    · rw [turnT_is,codeH_ne (t:=.v k) hk0]
    · show jm d_t0.1 (jm d_t1.1 jr) (stt D (enc ts) S (4096+65*k) x4 x5)=_
      rw [ju (t0_v hk0 hD hv (Nat.le_trans (Nat.le_trans (Nat.le_add_right _ _) h2) (by decide))),ju (t1_is hk')]; rfl
  | .o c::ts,D,D',[],S',x4,x5,m,hk,hD,h1,h2,h=>jb h
  | .o c::ts,D,D',[_],S',x4,x5,m,hk,hD,h1,h2,h=>jb h
  | .o c::ts,D,D',b::a::S,S',x4,x5,m,hk,hD,h1,h2,h=>by
    have h:(if small a then exec ts D (opI c a b::S) else none)=some (D',S'):=h
    split at h
    case isFalse=>exact jb h
    rename_i ha
    have hk0:c=14 ∨ c=15 ∨ c=16:=hk _ List.mem_cons_self
    have hk':=fun t ht=>hk t (List.mem_cons_of_mem _ ht)
    have ls:(Tk.o c::ts).length=ts.length+1:=rfl
    have lS:(b::a::S).length=S.length+2:=rfl
    rw [ls] at h1 h2
    rw [lS] at h2
    obtain ⟨y4,y5,ih⟩:=run_is ts D D' (opI c a b::S) S' (.pv (.int b)) (.pv (.int a)) m hk' hD (Nat.le_of_succ_le h1) (Nat.le_trans (Nat.add_le_add (Nat.le_succ _) (Nat.le_succ _)) h2) h
    refine ⟨y4,y5,?_⟩
    rw [show (Tk.o c::ts).length+1+m=ts.length+1+m+1 from Nat.add_right_comm (ts.length+1) 1 m]
    refine (while_to ?_ ?_).trans ih
    · rw [turnT_is,codeH_ne (t:=.o c) hk0]
    · show jm d_t0.1 (jm d_t1.1 jr) (stt D (enc ts) (b::a::S) c x4 x5)=_
      rw [ju (t0_o hk0 ha (Nat.lt_of_le_of_lt (Nat.le_trans (Nat.le_trans (Nat.le_add_right _ 2) (Nat.le_add_right _ _)) h2) (by decide))),ju (t1_is hk')]; rfl
  | .s k::ts,D,D',[],S',x4,x5,m,hk,hD,h1,h2,h=>jb h
  | .s k::ts,D,D',a::S,S',x4,x5,m,hk,hD,h1,h2,h=>by
    have h:(if small a&&vY (num a) then exec ts (delD D [112+k]++[([112+k],num a)]) S else none)=some (D',S'):=h
    split at h
    case isFalse=>exact jb h
    rename_i ha
    obtain ⟨ha,hn⟩:=Bool.and_eq_true_iff.mp ha
    have hk0:k<11:=hk _ List.mem_cons_self
    have hk':=fun t ht=>hk t (List.mem_cons_of_mem _ ht)
    have ls:(Tk.s k::ts).length=ts.length+1:=rfl
    have lS:(a::S).length=S.length+1:=rfl
    rw [ls] at h1 h2
    rw [lS] at h2
    have dl:(delD D [112+k]).length≤D.length:=List.length_filter_le ..
    have hD':Dok (delD D [112+k]++[([112+k],num a)]):=(delD_ok hD).app (Nat.lt_of_le_of_lt (Nat.le_trans (Nat.le_trans dl (Nat.le_add_right _ _)) h1) (by decide)) (one_at hk0) hn
    obtain ⟨y4,y5,ih⟩:=run_is ts _ D' S S' x4 x5 m hk' hD' (by rw [List.length_append]; exact Nat.le_trans (Nat.add_le_add_right (Nat.add_le_add_right dl 1) _) (Nat.le_trans (Nat.le_of_eq (Nat.succ_add_eq_add_succ _ _)) h1)) (Nat.le_trans (Nat.add_le_add (Nat.le_succ _) (Nat.le_succ _)) h2) h
    refine ⟨y4,y5,?_⟩
    rw [show (Tk.s k::ts).length+1+m=ts.length+1+m+1 from Nat.add_right_comm (ts.length+1) 1 m]
    refine (while_to ?_ ?_).trans ih
    · rw [turnT_is,codeH_ne (t:=.s k) hk0]
    · show jm d_t0.1 (jm d_t1.1 jr) (stt D (ltO k++enc ts) (a::S) 22 x4 x5)=_
      rw [ju (t0_s hk0 hD ha hn (Nat.lt_of_le_of_lt (Nat.le_trans (Nat.le_trans (Nat.le_add_right _ 1) (Nat.le_add_right _ _)) h2) (by decide))),ju (t1_is hk')]; rfl
theorem prog_ok:∀ t∈vy,okT t:=by
  intro t ht
  unfold vy at ht
  simp only [List.mem_cons,List.not_mem_nil,or_false] at ht
  rcases ht with rfl | rfl | rfl | rfl | rfl | rfl | rfl | rfl | rfl | rfl | rfl | rfl | rfl | rfl | rfl | rfl | rfl | rfl | rfl | rfl | rfl | rfl | rfl | rfl | rfl | rfl | rfl | rfl | rfl | rfl | rfl | rfl | rfl | rfl | rfl | rfl | rfl | rfl | rfl | rfl | rfl | rfl | rfl | rfl | rfl | rfl | rfl | rfl | rfl | rfl | rfl | rfl
  all_goals (unfold okT; decide)
theorem done_is {D D':DS} (hD:Dok D) (hl:D.length≤100) (h:exec vy D []=some (D',[])):doneF [.ob (.hdr (toD D)),.ob (.iter (enc vy))]=some (.pv .none,[.ob (.hdr (toD D')),.ob (.iter [])]):=by
  obtain ⟨y4,y5,r⟩:=run_is vy D D' [] [] .un .un 7 prog_ok hD (Nat.le_trans (Nat.add_le_add_right hl 52) (by decide)) (by decide) h
  have s1:Jc 2 (evList []) [.ob (.hdr (toD D)),.ob (.iter (enc vy)),.un,.un,.un,.un]=some (.next,[.ob (.hdr (toD D)),.ob (.iter (enc vy)),.ob (.list []),.un,.un,.un]):=rfl
  have s2:jD 3 (jt 1 vj [jf 1]) [.ob (.hdr (toD D)),.ob (.iter (enc vy)),.ob (.list []),.un,.un,.un]=some (.next,stt D (itH vy) [] (codeH vy) .un .un):=by
    unfold jD
    rw [call1_ob (o:=.iter (enc vy)) rfl (nxt vy prog_ok)]; rfl
  show ((den_done.1 [.ob (.hdr (toD D)),.ob (.iter (enc vy)),.un,.un,.un,.un]).bind _)=_
  have e:den_done.1=jm (Jc 2 (evList [])) (jm (jD 3 (jt 1 vj [jf 1])) (jm (vM turnT turnB 60) jr)):=rfl
  rw [e,ju s1,ju s2,ju (f:=vM turnT turnB 60) r]; rfl
noncomputable def Bd (a:Int) (n:Nat):Prop:=a.natAbs≤n
theorem Bd.add {a b:Int} {n m:Nat} (h:Bd a n) (k:Bd b m):Bd (a+b) (n+m):=Nat.le_trans (Int.natAbs_add_le a b) (Nat.add_le_add h k)
theorem Bd.sub {a b:Int} {n m:Nat} (h:Bd a n) (k:Bd b m):Bd (a - b) (n+m):=Nat.le_trans (Int.natAbs_sub_le a b) (Nat.add_le_add h k)
theorem Bd.mul {a b:Int} {n m:Nat} (h:Bd a n) (k:Bd b m):Bd (a*b) (n*m):=by
  unfold Bd at *
  rw [Int.natAbs_mul]
  exact Nat.mul_le_mul h k
theorem bd5 {u:Int} (h:0≤u∧u≤5):Bd u 5:=Int.ofNat_le.mp (by rw [Int.natAbs_of_nonneg h.1]; exact h.2)
theorem gap5 {u:Int} (h:0≤u∧u≤5):-10≤u∧u<10 ^ 10:=⟨Int.le_trans (by decide) h.1,Int.lt_of_le_of_lt h.2 (by decide)⟩
theorem gap3 {u v x:Int} (hu:0≤u∧u≤5) (hv:0≤v∧v≤5) (hx:0≤x∧x≤5):-10≤u+v - x∧u+v - x<10 ^ 10:=⟨Int.le_trans (by decide:(-10:Int)≤0 - 5) (Int.sub_le_sub (Int.add_nonneg hu.1 hv.1) hx.2),Int.lt_of_le_of_lt (Int.sub_le_sub (Int.add_le_add hu.2 hv.2) hx.1) (by decide)⟩
theorem bd9 {t:Int} (h:Bd t (10 ^ 9)):t≤10 ^ 9:=Int.le_trans Int.le_natAbs (Int.le_trans (Int.ofNat_le.mpr h) (by decide))
theorem gap9 {t:Int} (h:0≤t) (b:Bd t (10 ^ 9)):-10≤t∧t<10 ^ 10:=⟨Int.le_trans (by decide) h,Int.lt_of_le_of_lt (bd9 b) (by decide)⟩
theorem jW {a:Int} {n:Nat} (h:Bd a n) (k:n<2 ^ 64):small a=true:=decide_eq_true (Nat.lt_of_le_of_lt h k)
section
variable {x0 x1 x2 x3:Nat} {E:DS} {S:List Int} {ts:List Tk} {D:DS}
theorem fnd_pts (h0:x0<32) (h1:x1<32) (h2:x2<32) (h3:x3<32) {c:Nat}:fnd (pts x0 x1 x2 x3++E) [c]=fnd E [c]:=by
  have n:∀ x,x<32→(lo (nmC x) == [c])=false:=fun x hx=>by
    rw [(vA hx).2]
    exact beq_eq_false_iff_ne.mpr fun e=>nomatch (congrArg List.length e:5=1)
  show (pts x0 x1 x2 x3++E).find? _=_
  unfold pts
  show List.find? _ ((nmC x0,_)::(nmC x1,_)::(nmC x2,_)::(nmC x3,_)::E)=_
  rw [List.find?_cons_of_neg (by rw [n _ h0]; decide),List.find?_cons_of_neg (by rw [n _ h1]; decide),List.find?_cons_of_neg (by rw [n _ h2]; decide),List.find?_cons_of_neg (by rw [n _ h3]; decide)]
  rfl
theorem jO (h0:x0<32) (h1:x1<32) (h2:x2<32) (h3:x3<32) {k:Nat} {i:Int} {n:List Nat} (hf:fnd E [112+k]=some (n,num i)) (hi:-10≤i∧i<10 ^ 10):val (pts x0 x1 x2 x3++E) k=some i:=by
  obtain ⟨a,b⟩:=num_read hi.1 hi.2
  unfold val
  rw [fnd_pts h0 h1 h2 h3,hf,Option.bind_some]
  show (if (num i).length≤600 then _ else none)=_
  rw [if_pos (Nat.le_trans a (by decide)),b]
theorem ex_v {k:Nat} {i:Int} (hv:val D k=some i):exec (.v k::ts) D S=exec ts D (i::S):=by
  show (val D k).bind _=_
  rw [hv]; rfl
theorem ex_add {a b:Int} (ha:small a=true):exec (.o 14::ts) D (b::a::S)=exec ts D ((a+b)::S):=if_pos ha
theorem ex_sub {a b:Int} (ha:small a=true):exec (.o 15::ts) D (b::a::S)=exec ts D ((a - b)::S):=if_pos ha
theorem ex_mul {a b:Int} (ha:small a=true):exec (.o 16::ts) D (b::a::S)=exec ts D ((a*b)::S):=if_pos ha
theorem ex_s (h0:x0<32) (h1:x1<32) (h2:x2<32) (h3:x3<32) {k:Nat} {a:Int} (ha:small a=true) (hn:-10≤a∧a<10 ^ 10) (hE:delD E [112+k]=E):exec (.s k::ts) (pts x0 x1 x2 x3++E) (a::S)=exec ts (pts x0 x1 x2 x3++(E++[([112+k],num a)])) S:=by
  have hv:vY (num a)=true:=num_ok (Nat.le_trans (num_read hn.1 hn.2).1 (by decide))
  have hd:=del_to h0 h1 h2 h3 (k:=112+k) (lo_one _) hE
  show (if small a&&vY (num a) then exec ts (delD (pts x0 x1 x2 x3++E) [112+k]++[([112+k],num a)]) S else none)=_
  rw [ha,hv,hd,List.append_assoc]; rfl
noncomputable def sixI (u v w x y z:Int):DS:=[([117],num u),([118],num v),([119],num w),([120],num x),([121],num y),([122],num z)]
noncomputable def tI (u v w p q r:Int):Int:=(u+u)*(v+v)*w+p*q*r - u*r*r - v*q*q - w*p*p
noncomputable def fourI (u v w x y z:Int):DS:=[([112],num (u+v - x)),([113],num (u+w - y)),([114],num (v+w - z)),([116],num (tI u v w (u+v - x) (u+w - y) (v+w - z)))]
theorem exec_is (h0:x0<32) (h1:x1<32) (h2:x2<32) (h3:x3<32) {u v w x y z:Int} (hu:0≤u∧u≤5) (hv:0≤v∧v≤5) (hw:0≤w∧w≤5) (hx:0≤x∧x≤5) (hy:0≤y∧y≤5) (hz:0≤z∧z≤5)
    (ht:0≤tI u v w (u+v - x) (u+w - y) (v+w - z)):exec vy (pts x0 x1 x2 x3++sixI u v w x y z) []=some (pts x0 x1 x2 x3++(sixI u v w x y z++fourI u v w x y z),[]):=by
  have bu:=bd5 hu
  have bv:=bd5 hv
  have bw:=bd5 hw
  have bx:=bd5 hx
  have by':=bd5 hy
  have bz:=bd5 hz
  have bp:=(bu.add bv).sub bx
  have bq:=(bu.add bw).sub by'
  have br:=(bv.add bw).sub bz
  have gu:=gap5 hu
  have gv:=gap5 hv
  have gw:=gap5 hw
  have gx:=gap5 hx
  have gy:=gap5 hy
  have gz:=gap5 hz
  have gp:=gap3 hu hv hx
  have gq:=gap3 hu hw hy
  have gr:=gap3 hv hw hz
  have bt:=((((((bu.add bu).mul (bv.add bv)).mul bw).add ((bp.mul bq).mul br)).sub ((bu.mul br).mul br)).sub ((bv.mul bq).mul bq)).sub ((bw.mul bp).mul bp)
  have st:=gap9 ht (Nat.le_trans bt (by decide))
  unfold vy
  refine (ex_v (jO h0 h1 h2 h3 (i:=u) rfl gu)).trans ?_
  refine (ex_v (jO h0 h1 h2 h3 (i:=v) rfl gv)).trans ?_
  refine (ex_add (jW bu (by decide))).trans ?_
  refine (ex_v (jO h0 h1 h2 h3 (i:=x) rfl gx)).trans ?_
  refine (ex_sub (jW (bu.add bv) (by decide))).trans ?_
  refine (ex_s h0 h1 h2 h3 (k:=0) (jW bp (by decide)) gp rfl).trans ?_
  refine (ex_v (jO h0 h1 h2 h3 (i:=u) rfl gu)).trans ?_
  refine (ex_v (jO h0 h1 h2 h3 (i:=w) rfl gw)).trans ?_
  refine (ex_add (jW bu (by decide))).trans ?_
  refine (ex_v (jO h0 h1 h2 h3 (i:=y) rfl gy)).trans ?_
  refine (ex_sub (jW (bu.add bw) (by decide))).trans ?_
  refine (ex_s h0 h1 h2 h3 (k:=1) (jW bq (by decide)) gq rfl).trans ?_
  refine (ex_v (jO h0 h1 h2 h3 (i:=v) rfl gv)).trans ?_
  refine (ex_v (jO h0 h1 h2 h3 (i:=w) rfl gw)).trans ?_
  refine (ex_add (jW bv (by decide))).trans ?_
  refine (ex_v (jO h0 h1 h2 h3 (i:=z) rfl gz)).trans ?_
  refine (ex_sub (jW (bv.add bw) (by decide))).trans ?_
  refine (ex_s h0 h1 h2 h3 (k:=2) (jW br (by decide)) gr rfl).trans ?_
  refine (ex_v (jO h0 h1 h2 h3 (i:=u) rfl gu)).trans ?_
  refine (ex_v (jO h0 h1 h2 h3 (i:=u) rfl gu)).trans ?_
  refine (ex_add (jW bu (by decide))).trans ?_
  refine (ex_v (jO h0 h1 h2 h3 (i:=v) rfl gv)).trans ?_
  refine (ex_v (jO h0 h1 h2 h3 (i:=v) rfl gv)).trans ?_
  refine (ex_add (jW bv (by decide))).trans ?_
  refine (ex_mul (jW (bu.add bu) (by decide))).trans ?_
  refine (ex_v (jO h0 h1 h2 h3 (i:=w) rfl gw)).trans ?_
  refine (ex_mul (jW ((bu.add bu).mul (bv.add bv)) (by decide))).trans ?_
  refine (ex_v (jO h0 h1 h2 h3 (i:=(u+v - x)) rfl gp)).trans ?_
  refine (ex_v (jO h0 h1 h2 h3 (i:=(u+w - y)) rfl gq)).trans ?_
  refine (ex_mul (jW bp (by decide))).trans ?_
  refine (ex_v (jO h0 h1 h2 h3 (i:=(v+w - z)) rfl gr)).trans ?_
  refine (ex_mul (jW (bp.mul bq) (by decide))).trans ?_
  refine (ex_add (jW (((bu.add bu).mul (bv.add bv)).mul bw) (by decide))).trans ?_
  refine (ex_v (jO h0 h1 h2 h3 (i:=u) rfl gu)).trans ?_
  refine (ex_v (jO h0 h1 h2 h3 (i:=(v+w - z)) rfl gr)).trans ?_
  refine (ex_mul (jW bu (by decide))).trans ?_
  refine (ex_v (jO h0 h1 h2 h3 (i:=(v+w - z)) rfl gr)).trans ?_
  refine (ex_mul (jW (bu.mul br) (by decide))).trans ?_
  refine (ex_sub (jW ((((bu.add bu).mul (bv.add bv)).mul bw).add ((bp.mul bq).mul br)) (by decide))).trans ?_
  refine (ex_v (jO h0 h1 h2 h3 (i:=v) rfl gv)).trans ?_
  refine (ex_v (jO h0 h1 h2 h3 (i:=(u+w - y)) rfl gq)).trans ?_
  refine (ex_mul (jW bv (by decide))).trans ?_
  refine (ex_v (jO h0 h1 h2 h3 (i:=(u+w - y)) rfl gq)).trans ?_
  refine (ex_mul (jW (bv.mul bq) (by decide))).trans ?_
  refine (ex_sub (jW (((((bu.add bu).mul (bv.add bv)).mul bw).add ((bp.mul bq).mul br)).sub ((bu.mul br).mul br)) (by decide))).trans ?_
  refine (ex_v (jO h0 h1 h2 h3 (i:=w) rfl gw)).trans ?_
  refine (ex_v (jO h0 h1 h2 h3 (i:=(u+v - x)) rfl gp)).trans ?_
  refine (ex_mul (jW bw (by decide))).trans ?_
  refine (ex_v (jO h0 h1 h2 h3 (i:=(u+v - x)) rfl gp)).trans ?_
  refine (ex_mul (jW (bw.mul bp) (by decide))).trans ?_
  refine (ex_sub (jW ((((((bu.add bu).mul (bv.add bv)).mul bw).add ((bp.mul bq).mul br)).sub ((bu.mul br).mul br)).sub ((bv.mul bq).mul bq)) (by decide))).trans ?_
  refine (ex_s h0 h1 h2 h3 (k:=4) (jW bt (by decide)) st rfl).trans ?_
  rfl
end
noncomputable def toS (S:List Int):List PV:=S.map .int
noncomputable def draws (ns:List Int):List Int:=ns.take 5++([0,19,13,22,2]:List Int).drop (ns.take 5).length
theorem draws_len (ns:List Int):(draws ns).length=5:=by
  unfold draws
  rw [List.length_append,List.length_drop,List.length_take]
  exact Nat.add_sub_of_le (Nat.min_le_left _ _)
theorem five_is {l:List Int} (h:l.length=5):∃ a b c d e,l=[a,b,c,d,e]:=by
  obtain ⟨a,l1,rfl⟩:=List.exists_cons_of_length_eq_add_one h
  obtain ⟨b,l2,rfl⟩:=List.exists_cons_of_length_eq_add_one (Nat.succ.inj h)
  obtain ⟨c,l3,rfl⟩:=List.exists_cons_of_length_eq_add_one (Nat.succ.inj (Nat.succ.inj h))
  obtain ⟨d,l4,rfl⟩:=List.exists_cons_of_length_eq_add_one (Nat.succ.inj (Nat.succ.inj (Nat.succ.inj h)))
  obtain ⟨e,l5,rfl⟩:=List.exists_cons_of_length_eq_add_one (Nat.succ.inj (Nat.succ.inj (Nat.succ.inj (Nat.succ.inj h))))
  obtain rfl:=List.length_eq_zero_iff.mp (Nat.succ.inj (Nat.succ.inj (Nat.succ.inj (Nat.succ.inj (Nat.succ.inj h)))))
  exact ⟨a,b,c,d,e,rfl⟩
noncomputable def cut5:Ev:=yx (jf 0) none (some (jo (PV.int 5)))
theorem cut5_is {ns:List Int} (hn:ns.length≤63) {vs:VS} (h0:vs[0]?=some (.pv (.lst (toS ns)))):cut5 vs=some (.pv (.lst (toS (ns.take 5))),vs):=by
  have hlen:(toS ns).length=ns.length:=List.length_map _
  have hc:cut none (some 5) (toS ns)=toS (ns.take 5):=(cut_hi 5 (toS ns)).trans List.map_take.symm
  unfold cut5 yx
  rw [jT h0 rfl]
  show ((if (toS ns).length≤100000 then some (PV.lst (cut none (some 5) (toS ns))) else none).map _)=_
  rw [if_pos (hlen ▸ Nat.le_trans hn (by decide)),hc]; rfl
noncomputable def dflt:Ev:=evList [jo (PV.int 0),jo (PV.int 19),jo (PV.int 13),jo (PV.int 22),jo (PV.int 2)]
theorem l0_is {ns:List Int} (hn:ns.length≤63) {vs:VS} (h0:vs[0]?=some (.pv (.lst (toS ns)))) (hl:1<vs.length):d_l0.1 vs=some (.next,vs.set 1 (.pv (.lst (toS (draws ns))))):=by
  rw [show d_l0.1=jD 1 (ev2 jB cut5 (yx dflt (some (evFn Je [cut5])) none)) from rfl]
  have c:=cut5_is hn h0
  have l5:(ns.take 5).length≤5:=List.length_take_le 5 ns
  have e1:evFn Je [cut5] vs=some (.pv (.int ((ns.take 5).length:Nat)),vs):=by
    refine fn1_to c rfl ?_
    show (if (toS (ns.take 5)).length<1000000 then some (PV.int (toS (ns.take 5)).length) else none)=_
    rw [show (toS (ns.take 5)).length=(ns.take 5).length from List.length_map _,if_pos (Nat.lt_of_le_of_lt l5 (by decide))]
  have e2:yx dflt (some (evFn Je [cut5])) none vs=some (.pv (.lst (toS (([0,19,13,22,2]:List Int).drop (ns.take 5).length))),vs):=by
    have e8:semCut (some (((ns.take 5).length:Nat):Int)) none (.pv (.lst (toS [0,19,13,22,2]))) vs=some (.lst (toS (([0,19,13,22,2]:List Int).drop (ns.take 5).length))):=by
      show (if (toS [0,19,13,22,2]).length≤100000 then some (PV.lst (cut (some (((ns.take 5).length:Nat):Int)) none (toS [0,19,13,22,2]))) else none)=_
      rw [if_pos (by decide),cut_lo,toS,← List.map_drop]; rfl
    have e9:evPart (some (evFn Je [cut5])) vs=some (some (((ns.take 5).length:Nat):Int),vs):=by
      show (evFn Je [cut5] vs).bind _=_
      rw [e1]; rfl
    unfold yx
    show ((evPart (some (evFn Je [cut5])) vs).bind _)=_
    rw [e9]
    exact congrArg (Option.map fun x=>(AVal.pv x,vs)) e8
  have e3:ev2 jB cut5 (yx dflt (some (evFn Je [cut5])) none) vs=some (.pv (.lst (toS (draws ns))),vs):=by
    refine jV c rfl e2 rfl ?_
    show (if (toS (ns.take 5)).length+(toS (([0,19,13,22,2]:List Int).drop (ns.take 5).length)).length≤100000 then some (PV.lst (toS (ns.take 5)++toS (([0,19,13,22,2]:List Int).drop (ns.take 5).length))) else none)=_
    rw [if_pos (show (toS (ns.take 5)).length+(toS (([0,19,13,22,2]:List Int).drop (ns.take 5).length)).length≤100000 by rw [← List.length_append,show toS (ns.take 5)++toS (([0,19,13,22,2]:List Int).drop (ns.take 5).length)=(draws ns).map .int from List.map_append.symm,List.length_map,draws_len]; decide)]
    unfold toS draws
    rw [List.map_append]
  exact set_to e3 hl
theorem l1_is {x0 x3 x4 x5 x6 x7 x8 x9 x10 x11 x12:Slot} {a b c d e:Int}:d_l1.1 [x0,.pv (.lst (toS [a,b,c,d,e])),.un,x3,x4,x5,x6,x7,x8,x9,x10,x11,x12]=some (.next,[x0,.pv (.lst (toS [a,b,c,d,e])),.pv (.lst (toS [a.fmod 32,b.fmod 32,c.fmod 32,d.fmod 32])),x3,x4,x5,x6,x7,x8,x9,x10,x11,x12]):=by kernel_rfl
theorem l2_is {x0 x1 x2 x4 x5 x6 x7 x8 x9 x10 x11 x12:Slot}:d_l2.1 [x0,x1,x2,.un,x4,x5,x6,x7,x8,x9,x10,x11,x12]=some (.next,[x0,x1,x2,.ob (.hdr []),x4,x5,x6,x7,x8,x9,x10,x11,x12]):=rfl
theorem fmod_nat (a:Int) {m:Nat} (hm:0<m):∃ x:Nat,x<m∧a.fmod (m:Nat)=(x:Nat):=by
  refine ⟨(a.fmod (m:Nat)).toNat,?_,?_⟩
  · exact (Int.toNat_lt (Int.fmod_nonneg_of_pos a (b:=(m:Nat)) (Int.ofNat_lt.mpr hm))).mpr (Int.fmod_lt_of_pos a (b:=(m:Nat)) (Int.ofNat_lt.mpr hm))
  · exact (Int.toNat_of_nonneg (Int.fmod_nonneg_of_pos a (b:=(m:Nat)) (Int.ofNat_lt.mpr hm))).symm
noncomputable def addB:Ex:=jm (yN (evMethW 3 2 ahF [jt 1 nameF [jf 4],evFn ym [jf 4]])) jr
theorem l3_eq:d_l3.1=yE (jf 2) (jh 4) addB jr:=rfl
theorem num_val {x:Nat} (h:x<1000):vY (num (x:Nat))=true:=num_ok (Nat.le_trans (num_read (i:=(x:Nat)) (Int.le_trans (by decide) (Int.natCast_nonneg _)) (Int.lt_trans (Int.ofNat_lt.mpr h) (by decide))).1 (by decide))
theorem str_to {f:Ev} {vs:VS} {i:Int} (hf:f vs=some (.pv (.int i),vs)) (hs:small i=true):evFn ym [f] vs=some (.pv (.str (num i)),vs):=by
  refine fn1_to hf rfl ?_
  show (if small i then some (PV.str (num i)) else none)=_
  rw [hs]; rfl
section
variable {x0 x1 x2 x5 x6 x7 x8 x9 x10 x11 x12:Slot} {D:DS} {x:Nat}
theorem add_is (hx:x<32) (hD:Dok D):addB [x0,x1,x2,.ob (.hdr (toD D)),.pv (.int (x:Nat)),x5,x6,x7,x8,x9,x10,x11,x12]=some (.next,[x0,x1,x2,.ob (.hdr (toD (D++[(nmC x,num (x:Nat))]))),.pv (.int (x:Nat)),x5,x6,x7,x8,x9,x10,x11,x12]):=by
  have e1:jt 1 nameF [jf 4] [x0,x1,x2,.ob (.hdr (toD D)),.pv (.int (x:Nat)),x5,x6,x7,x8,x9,x10,x11,x12]=some (.pv (.str (nmC x)),[x0,x1,x2,.ob (.hdr (toD D)),.pv (.int (x:Nat)),x5,x6,x7,x8,x9,x10,x11,x12]):=call1_pv rfl (name_at x hx)
  have e2:evFn ym [jf 4] [x0,x1,x2,.ob (.hdr (toD D)),.pv (.int (x:Nat)),x5,x6,x7,x8,x9,x10,x11,x12]=some (.pv (.str (num (x:Nat))),[x0,x1,x2,.ob (.hdr (toD D)),.pv (.int (x:Nat)),x5,x6,x7,x8,x9,x10,x11,x12]):=str_to rfl (vO hx)
  have e3:evs [jt 1 nameF [jf 4],evFn ym [jf 4]] [x0,x1,x2,.ob (.hdr (toD D)),.pv (.int (x:Nat)),x5,x6,x7,x8,x9,x10,x11,x12]=some ([.str (nmC x),.str (num (x:Nat))],[x0,x1,x2,.ob (.hdr (toD D)),.pv (.int (x:Nat)),x5,x6,x7,x8,x9,x10,x11,x12]):=by
    show ((jt 1 nameF [jf 4] _).bind _)=_
    rw [e1]
    show ((((evFn ym [jf 4] _).bind _)).map _)=_
    rw [e2]; rfl
  have ha:=ah_is hD (vA hx).1 (num_val (x:=x) (Nat.lt_trans hx (by decide)))
  have e4:yN (evMethW 3 2 ahF [jt 1 nameF [jf 4],evFn ym [jf 4]]) [x0,x1,x2,.ob (.hdr (toD D)),.pv (.int (x:Nat)),x5,x6,x7,x8,x9,x10,x11,x12]=some (.next,[x0,x1,x2,.ob (.hdr (toD (D++[(nmC x,num (x:Nat))]))),.pv (.int (x:Nat)),x5,x6,x7,x8,x9,x10,x11,x12]):=by
    unfold yN evMethW
    show (((evs [jt 1 nameF [jf 4],evFn ym [jf 4]] _).bind _).bind _)=_
    rw [e3]
    show (((ahF [.ob (.hdr (toD D)),.pv (.str (nmC x)),.pv (.str (num (x:Nat)))]).bind _).bind _)=_
    rw [ha]; rfl
  unfold addB
  rw [ju e4]; rfl
end
theorem l3_is {a b c d:Nat} {x0 x1 x4 x5 x6 x7 x8 x9 x10 x11 x12:Slot} (ha:a<32) (hb:b<32) (hc:c<32) (hd:d<32):∃ y,d_l3.1 [x0,x1,.pv (.lst [.int (a:Nat),.int (b:Nat),.int (c:Nat),.int (d:Nat)]),.ob (.hdr []),x4,x5,x6,x7,x8,x9,x10,x11,x12] =
    some (.next,[x0,x1,.pv (.lst [.int (a:Nat),.int (b:Nat),.int (c:Nat),.int (d:Nat)]),.ob (.hdr (toD (pts a b c d))),y,x5,x6,x7,x8,x9,x10,x11,x12]):=by
  have q:∀ x,x<32→asc (nmC x)=true∧asc (num (x:Nat))=true:=fun x h=>⟨(yh (vA h).1).1,vals_ok (Nat.lt_trans h (by decide))⟩
  have k1:Dok [(nmC a,num (a:Nat))]:=⟨show 1≤1000 by decide,fun z hz=>by rw [List.mem_singleton.mp hz]; exact q a ha⟩
  have k2:Dok [(nmC a,num (a:Nat)),(nmC b,num (b:Nat))]:=k1.app (show 1<1000 by decide) (vA hb).1 (num_val (Nat.lt_trans hb (by decide)))
  have k3:Dok [(nmC a,num (a:Nat)),(nmC b,num (b:Nat)),(nmC c,num (c:Nat))]:=k2.app (show 2<1000 by decide) (vA hc).1 (num_val (Nat.lt_trans hc (by decide)))
  rw [l3_eq]
  refine ⟨.pv (.int (d:Nat)),?_⟩
  show yJ (jh 4) addB jr [.int (a:Nat),.int (b:Nat),.int (c:Nat),.int (d:Nat)] [x0,x1,.pv (.lst [.int (a:Nat),.int (b:Nat),.int (c:Nat),.int (d:Nat)]),.ob (.hdr (toD [])),x4,x5,x6,x7,x8,x9,x10,x11,x12]=_
  rw [for_to rfl (add_is (D:=[]) ha ⟨Nat.zero_le _,fun q hq=>absurd hq List.not_mem_nil⟩),for_to rfl (add_is hb k1),for_to rfl (add_is hc k2),for_to rfl (add_is hd k3)]
  rfl
noncomputable def swF (x:Nat):Bool:=yr ((nmC x).map sw1)&&(decide (lo ((nmC x).map sw1)=[97,98,99,100,101])&&asc (nmC x))
theorem sws:((List.range 32).all swF)=true:=by kernel_rfl
theorem sw_at {x:Nat} (h:x<32):yr ((nmC x).map sw1)=true∧lo ((nmC x).map sw1)=[97,98,99,100,101]∧asc (nmC x)=true:=by
  have:=List.all_eq_true.mp sws x (List.mem_range.mpr h)
  unfold swF at this
  simp only [Bool.and_eq_true,decide_eq_true_eq] at this
  exact this
noncomputable def strB:Ev:=jF (evIt true (jf 2)) [] 1 (jh 0) (jC true) (yd (evFn ym [jf 0]))
noncomputable def swapE:Ev:=jL isStr (vh (jS fun c=>PV.str (List.map sw1 c))) (jt 1 nameF [ev2 jp (jf 2) (jo (PV.int 3))]) []
theorem l4_eq:d_l4.1=exIf (te2 v9 (jE 3 1 gaF [swapE] [] []) strB) (jm (vE (jo (PV.bool false))) jr) jr:=rfl
theorem str_run:∀ (L:List Int) (x:Slot),(∀ i∈L,small i=true)→∃ y,jJ (jh 0) (jC true) (yd (evFn ym [jf 0])) (toS L) [x]=some (L.map fun i=>.str (num i),[y])
  | [],x,_=>⟨x,rfl⟩
  | i::L,x,h=>by
    obtain ⟨y,ih⟩:=str_run L (.pv (.int i)) fun j hj=>h j (List.mem_cons_of_mem _ hj)
    refine ⟨y,?_⟩
    show ((yd (evFn ym [jf 0]) [.pv (.int i)]).bind fun l1=>(jJ (jh 0) (jC true) (yd (evFn ym [jf 0])) (toS L) l1.2).map fun l2=>(l1.1++l2.1,l2.2))=_
    have e:yd (evFn ym [jf 0]) [.pv (.int i)]=some ([.str (num i)],[.pv (.int i)]):=by
      unfold yd
      rw [str_to rfl (h i List.mem_cons_self)]; rfl
    rw [e,Option.bind_some,ih]; rfl
theorem ev2_ch2 {sem:AVal→AVal→VS→Option PV} {f g:Ev} {vs vs1 vs2:VS} {a0 b0 a b:AVal} {q:PV} (hf:f vs=some (a0,vs1)) (ha:frz a0=some a) (hg:g vs1=some (b0,vs2)) (hb:frz b0=some b) (h:sem a b vs2=some q):ev2 sem f g vs=some (.pv q,vs2):=by
  unfold ev2
  rw [hf,Option.bind_some,ha,Option.bind_some,hg,Option.bind_some,hb,Option.bind_some,h,Option.map_some]
theorem pvEqs_strs:∀ L:List (List Nat),pvEqs (L.map .str) (L.map .str)=true
  | []=>rfl
  | c::L=>by
    show (pvEq (.str c) (.str c)&&pvEqs (L.map .str) (L.map .str))=true
    rw [pvEqs_strs L,Bool.and_true]
    unfold pvEq
    exact beq_self_eq_true c
theorem methR1n_to {k:Nat} {F:jw} {f:Ev} {vs:VS} {l:List PV} {q:PV} {sl:Slot} {sls:VS} {w:AVal} (hv:yt vs k=some l) (hf:f vs=some (.pv q,vs)) (h:F [.br (.hdr l),.pv q]=some (sl,sls)) (hw:vR sl=some w):jE k 1 F [f] [] [] vs=some (w,vs):=by
  unfold jE
  simp [evs,Jb,hv,hf,h,hw,pvOf]
theorem call1_ev {F:jw} {f:Ev} {vs:VS} {q r:PV} (hf:f vs=some (.pv q,vs)) (h:F [.pv q]=some (.pv r,[.un])):jt 1 F [f] vs=some (.pv r,vs):=by
  have e4:yX [f] vs=some ([.pv q],vs):=by
    show (f vs).map _=_
    rw [hf]; rfl
  unfold jt
  rw [e4]
  show ((F [.pv q]).bind _)=_
  rw [h]; rfl
theorem l4_is {a b c d:Nat} {x0 x1 x4 x5 x6 x7 x8 x9 x10 x11 x12:Slot} (ha:a<32) (hb:b<32) (hc:c<32) (hd:d<32):d_l4.1 [x0,x1,.pv (.lst [.int (a:Nat),.int (b:Nat),.int (c:Nat),.int (d:Nat)]),.ob (.hdr (toD (pts a b c d))),x4,x5,x6,x7,x8,x9,x10,x11,x12] =
    some (.next,[x0,x1,.pv (.lst [.int (a:Nat),.int (b:Nat),.int (c:Nat),.int (d:Nat)]),.ob (.hdr (toD (pts a b c d))),x4,x5,x6,x7,x8,x9,x10,x11,x12]):=by
  obtain ⟨s1,s2,s3⟩:=sw_at hd
  generalize hvs:([x0,x1,.pv (.lst [.int (a:Nat),.int (b:Nat),.int (c:Nat),.int (d:Nat)]),.ob (.hdr (toD (pts a b c d))),x4,x5,x6,x7,x8,x9,x10,x11,x12]:VS)=vs
  have g2:vs[2]?=some (.pv (.lst [.int (a:Nat),.int (b:Nat),.int (c:Nat),.int (d:Nat)])):=by rw [← hvs]; rfl
  have g3:yt vs 3=some (toD (pts a b c d)):=by rw [← hvs]; rfl
  have e1:ev2 jp (jf 2) (jo (PV.int 3)) vs=some (.pv (.int (d:Nat)),vs):=by
    refine jV (a:=.pv (.lst [.int (a:Nat),.int (b:Nat),.int (c:Nat),.int (d:Nat)])) (b:=.pv (.int 3)) (jT g2 rfl) rfl rfl rfl rfl
  have e2:swapE vs=some (.pv (.str ((nmC d).map sw1)),vs):=by
    unfold swapE jL
    rw [call1_ev e1 (name_at d hd)]
    show ((if asc (nmC d)=true then some (PV.str ((nmC d).map sw1)) else none).map fun p=>(AVal.pv p,vs))=_
    rw [s3]; rfl
  have hg:=ga_is (pts_ok ha hb hc hd) s1
  have hf:(pts a b c d).filter (fun q=>lo q.1 == lo ((nmC d).map sw1))=pts a b c d:=by
    refine List.filter_eq_self.mpr fun q hq=>?_
    unfold pts at hq
    simp only [List.mem_cons,List.not_mem_nil,or_false] at hq
    rw [s2]
    have:lo q.1=[97,98,99,100,101]:=by
      rcases hq with rfl | rfl | rfl | rfl
      · exact (vA ha).2
      · exact (vA hb).2
      · exact (vA hc).2
      · exact (vA hd).2
    rw [this]; rfl
  rw [hf] at hg
  have e3:jE 3 1 gaF [swapE] [] [] vs=some (.obj (.list ([num (a:Nat),num (b:Nat),num (c:Nat),num (d:Nat)].map .str)),vs):=methR1n_to g3 e2 hg rfl
  obtain ⟨y,hr⟩:=str_run [(a:Nat),(b:Nat),(c:Nat),(d:Nat)] .un (fun i hi=>by
    simp only [List.mem_cons,List.not_mem_nil,or_false] at hi
    rcases hi with rfl | rfl | rfl | rfl
    · exact vO ha
    · exact vO hb
    · exact vO hc
    · exact vO hd)
  have e4:strB vs=some (.obj (.list ([num (a:Nat),num (b:Nat),num (c:Nat),num (d:Nat)].map .str)),vs):=by
    unfold strB jF
    have:evIt true (jf 2) vs=some (toS [(a:Nat),(b:Nat),(c:Nat),(d:Nat)],vs):=by
      unfold evIt
      rw [jT g2 rfl]; rfl
    rw [this]
    show ((jJ (jh 0) (jC true) (yd (evFn ym [jf 0])) (toS [(a:Nat),(b:Nat),(c:Nat),(d:Nat)]) [.un]).bind _)=_
    rw [hr]; rfl
  have ok:okD 9 (.lst ([num (a:Nat),num (b:Nat),num (c:Nat),num (d:Nat)].map .str))=true:=by
    show (([num (a:Nat),num (b:Nat),num (c:Nat),num (d:Nat)].map PV.str).all (okD 8))=true
    rw [List.all_map]
    refine List.all_eq_true.mpr fun t ht=>?_
    have:cp t:=by
      simp only [List.mem_cons,List.not_mem_nil,or_false] at ht
      have q:∀ {x},x<32→cp (num (x:Nat)):=fun h=>cp_of (vals_ok (Nat.lt_trans h (by decide)))
      rcases ht with rfl | rfl | rfl | rfl
      · exact q ha
      · exact q hb
      · exact q hc
      · exact q hd
    exact this
  have e5:te2 v9 (jE 3 1 gaF [swapE] [] []) strB vs=some (false,vs):=by
    have e6:ev2 v9 (jE 3 1 gaF [swapE] [] []) strB vs=some (.pv (.bool false),vs):=by
      refine ev2_ch2 e3 rfl e4 rfl ?_
      show (if okD 9 (.lst ([num (a:Nat),num (b:Nat),num (c:Nat),num (d:Nat)].map .str))&&okD 9 (.lst ([num (a:Nat),num (b:Nat),num (c:Nat),num (d:Nat)].map .str)) then some (PV.bool (!pvEq (.lst ([num (a:Nat),num (b:Nat),num (c:Nat),num (d:Nat)].map .str)) (.lst ([num (a:Nat),num (b:Nat),num (c:Nat),num (d:Nat)].map .str)))) else none)=_
      rw [ok]
      have:pvEq (.lst ([num (a:Nat),num (b:Nat),num (c:Nat),num (d:Nat)].map .str)) (.lst ([num (a:Nat),num (b:Nat),num (c:Nat),num (d:Nat)].map .str))=true:=by
        unfold pvEq
        exact pvEqs_strs _
      rw [this]; rfl
    unfold te2
    rw [e6]; rfl
  rw [l4_eq,if_to e5,if_neg Bool.false_ne_true]
  rfl
theorem argOwn {vs:VS} {k:Nat} {o:OB} (hv:vs[k]?=some (.ob o)):vf vs (.own k)=some (.ob o):=by
  show (match vs[k]? with | some (.ob o)=>some (Slot.ob o) | _=>none)=_
  rw [hv]
theorem call2_op {F:jw} {k:Nat} {f:Ev} {vs:VS} {o o':OB} {q r:PV} {s2:Slot} (hv:vs[k]?=some (.ob o)) (hf:f vs=some (.pv q,vs)) (h:F [.ob o,.pv q]=some (.pv r,[.ob o',s2])):jt 2 F [jf k,f] vs=some (.pv r,vs.set k (.ob o')):=by
  have e4:yX [jf k,f] vs=some ([.own k,.pv q],vs):=by
    show ((jf k vs).bind fun p=>(frz p.1).bind fun a=>((f p.2).map fun p=>([p.1],p.2)).map fun r=>(a::r.1,r.2))=_
    rw [jT hv rfl]
    show (((f vs).map _).map _)=_
    rw [hf]; rfl
  unfold jt
  rw [e4]
  show (((vf vs (.own k)).bind fun s=>(jU vs [.pv q]).map fun r=>s::r).bind _)=_
  rw [argOwn hv]
  show ((F [.ob o,.pv q]).bind _)=_
  rw [h]; rfl
theorem call2_oo {F:jw} {k:Nat} {f:Ev} {vs:VS} {o o2 o':OB} {r:PV} {s2:Slot} (hv:vs[k]?=some (.ob o)) (hf:f vs=some (.obj o2,vs)) (h:F [.ob o,.ob o2]=some (.pv r,[.ob o',s2])):jt 2 F [jf k,f] vs=some (.pv r,vs.set k (.ob o')):=by
  have e4:yX [jf k,f] vs=some ([.own k,.obj o2],vs):=by
    show ((jf k vs).bind fun p=>(frz p.1).bind fun a=>((f p.2).map fun p=>([p.1],p.2)).map fun r=>(a::r.1,r.2))=_
    rw [jT hv rfl]
    show (((f vs).map _).map _)=_
    rw [hf]; rfl
  unfold jt
  rw [e4]
  show (((vf vs (.own k)).bind fun s=>(jU vs [.obj o2]).map fun r=>s::r).bind _)=_
  rw [argOwn hv]
  show ((F [.ob o,.ob o2]).bind _)=_
  rw [h]; rfl
theorem call0_to {F:jw} {vs:VS} {o:OB} (h:F []=some (.ob o,[])):jt 0 F [] vs=some (.obj o,vs):=by
  unfold jt
  show ((F []).bind _)=_
  rw [h]; rfl
theorem expr_to {f:Ev} {vs vs1:VS} (h:f vs=some (.pv .none,vs1)):yN f vs=some (.next,vs1):=by
  unfold yN
  rw [h]; rfl
section
variable {x0 x1 x2 x3 x4 x5 x6 x7 x8 x9 x10 x11 x12:Slot}
theorem l5_is {a b c d p:Nat} {D1 D2 D3 D4 D5:Int} (ha:a<32) (hb:b<32) (hc:c<32) (hd:d<32) (hp:p<5) (h5:D5.fmod 5=(p:Nat)) :
    d_l5.1 [x0,.pv (.lst (toS [D1,D2,D3,D4,D5])),x2,.ob (.hdr (toD (pts a b c d))),x4,x5,x6,x7,x8,x9,x10,x11,x12]=some (.next,[x0,.pv (.lst (toS [D1,D2,D3,D4,D5])),x2,.ob (.hdr (toD (pts a b c d++six a b c d))),x4,x5,x6,x7,x8,x9,x10,x11,x12]):=by
  rw [show d_l5.1=yN (jt 2 distF [jf 3,ev2 semMod (ev2 jp (jf 1) (jo (PV.int 4))) (jo (PV.int 5))]) from rfl]
  refine (expr_to (call2_op (o:=.hdr (toD (pts a b c d))) rfl (jV (a:=.pv (.int D5)) (b:=.pv (.int 5)) (jV (a:=.pv (.lst (toS [D1,D2,D3,D4,D5]))) (b:=.pv (.int 4)) rfl rfl rfl rfl rfl) rfl rfl rfl ?_) (dist_is ha hb hc hd hp))).trans rfl
  show some (PV.int (D5.fmod 5))=_
  rw [h5]
theorem l6_is {D D':DS} (hD:Dok D) (hl:D.length≤100) (h:exec vy D []=some (D',[])):d_l6.1 [x0,x1,x2,.ob (.hdr (toD D)),x4,x5,x6,x7,x8,x9,x10,x11,x12]=some (.next,[x0,x1,x2,.ob (.hdr (toD D')),x4,x5,x6,x7,x8,x9,x10,x11,x12]):=by
  rw [show d_l6.1=yN (jt 2 doneF [jf 3,jt 0 octF []]) from rfl]
  exact (expr_to (call2_oo (o:=.hdr (toD D)) rfl (call0_to oct_is) (done_is hD hl h))).trans rfl
end
noncomputable def bI (x k:Nat):Int:=if bt x k then 1 else 0
noncomputable def jY (x:Nat):List Int:=[bI x 0,bI x 1,bI x 2,bI x 3,bI x 4]
noncomputable def rowE:Em:=yd (jF (evIt true (evFn yp [jo (PV.int 5)])) [0] 1 (jh 1) (jC true) (yd (ev2 semAnd (ev2 semShr (jf 0) (jf 1)) (jo (PV.int 1)))))
theorem rows:AllN (fun x=>rowE [.pv (.int (x:Nat))]=some ([.lst (toS (jY x))],[.pv (.int (x:Nat))])) 32:=by
  iterate 32 refine .s ?_ (by kernel_rfl)
  exact .z
theorem row_at {x:Nat} (h:x<32):rowE [.pv (.int (x:Nat))]=some ([.lst (toS (jY x))],[.pv (.int (x:Nat))]):=rows.get x h
noncomputable def bitL (a b c d:Nat):PV:=.lst [.lst (toS (jY a)),.lst (toS (jY b)),.lst (toS (jY c)),.lst (toS (jY d))]
theorem comp1_to {E:Em} {f:Ev} {vs:VS} {a:AVal} {L L':List PV} {ys:VS} (h2:f vs=some (a,vs)) (h3:frz a=some (.pv (.lst L))) (hr:jJ (jh 0) (jC true) E L [.un]=some (L',ys)) (hl:L'.length≤100000):jF (evIt true f) [] 1 (jh 0) (jC true) E vs=some (.obj (.list L'),vs):=by
  have e:evIt true f vs=some (L,vs):=by
    unfold evIt
    rw [h2,Option.bind_some,h3]; rfl
  unfold jF
  rw [e,Option.bind_some]
  show (jJ (jh 0) (jC true) E L [.un]).bind _=_
  rw [hr,Option.bind_some]
  exact if_pos hl
theorem l7_is {a b c d:Nat} {x0 x1 x3 x4 x6 x7 x8 x9 x10 x11 x12:Slot} (ha:a<32) (hb:b<32) (hc:c<32) (hd:d<32):(@Subtype.val Ex _ d_l7) [x0,x1,.pv (.lst [.int (a:Nat),.int (b:Nat),.int (c:Nat),.int (d:Nat)]),x3,x4,.un,x6,x7,x8,x9,x10,x11,x12] =
    some (.next,[x0,x1,.pv (.lst [.int (a:Nat),.int (b:Nat),.int (c:Nat),.int (d:Nat)]),x3,x4,.pv (bitL a b c d),x6,x7,x8,x9,x10,x11,x12]):=by
  rw [show (@Subtype.val Ex _ d_l7)=jD 5 (jF (evIt true (jf 2)) [] 1 (jh 0) (jC true) rowE) from rfl]
  have st:∀ {n:Nat} {L:List PV} {x:Slot} ,n<32→jJ (jh 0) (jC true) rowE (.int (n:Nat)::L) [x]=(jJ (jh 0) (jC true) rowE L [.pv (.int (n:Nat))]).map fun l2=>([PV.lst (toS (jY n))]++l2.1,l2.2):=by
    intro n L x hn
    show ((rowE [.pv (.int (n:Nat))]).bind fun l1=>(jJ (jh 0) (jC true) rowE L l1.2).map fun l2=>(l1.1++l2.1,l2.2))=_
    rw [row_at hn]; rfl
  have e:jJ (jh 0) (jC true) rowE [.int (a:Nat),.int (b:Nat),.int (c:Nat),.int (d:Nat)] [.un]=some ([.lst (toS (jY a)),.lst (toS (jY b)),.lst (toS (jY c)),.lst (toS (jY d))],[.pv (.int (d:Nat))]):=by
    rw [st ha,st hb,st hc,st hd]
    show some _=some _
    rfl
  have e2:jF (evIt true (jf 2)) [] 1 (jh 0) (jC true) rowE [x0,x1,.pv (.lst [.int (a:Nat),.int (b:Nat),.int (c:Nat),.int (d:Nat)]),x3,x4,.un,x6,x7,x8,x9,x10,x11,x12]=some (.obj (.list [.lst (toS (jY a)),.lst (toS (jY b)),.lst (toS (jY c)),.lst (toS (jY d))]),[x0,x1,.pv (.lst [.int (a:Nat),.int (b:Nat),.int (c:Nat),.int (d:Nat)]),x3,x4,.un,x6,x7,x8,x9,x10,x11,x12]):=comp1_to (jT rfl rfl) rfl e (show 4≤100000 by decide)
  unfold jD
  rw [e2,Option.bind_some]
  rfl
noncomputable def neS (l m:List Int):Int:=((l.zip m).map fun q=>if (!(q.1 == q.2))=true then (1:Int) else 0).sum
theorem l8_is {a0 a1 a2 a3 a4 b0 b1 b2 b3 b4 c0 c1 c2 c3 c4 d0 d1 d2 d3 d4:Int} {x0 x1 x2 x3 x4 x7 x8 x9 x10 x11 x12:Slot} :
    d_l8.1 [x0,x1,x2,x3,x4,.pv (.lst [.lst (toS [a0,a1,a2,a3,a4]),.lst (toS [b0,b1,b2,b3,b4]),.lst (toS [c0,c1,c2,c3,c4]),.lst (toS [d0,d1,d2,d3,d4])]),.un,x7,x8,x9,x10,x11,x12] =
    some (.next,[x0,x1,x2,x3,x4,.pv (.lst [.lst (toS [a0,a1,a2,a3,a4]),.lst (toS [b0,b1,b2,b3,b4]),.lst (toS [c0,c1,c2,c3,c4]),.lst (toS [d0,d1,d2,d3,d4])]),
      .pv (.lst (toS [neS [a0,a1,a2,a3,a4] [b0,b1,b2,b3,b4],neS [a0,a1,a2,a3,a4] [c0,c1,c2,c3,c4],neS [a0,a1,a2,a3,a4] [d0,d1,d2,d3,d4],neS [b0,b1,b2,b3,b4] [c0,c1,c2,c3,c4],neS [b0,b1,b2,b3,b4] [d0,d1,d2,d3,d4],neS [c0,c1,c2,c3,c4] [d0,d1,d2,d3,d4]])),x7,x8,x9,x10,x11,x12]):=by kernel_rfl
theorem l9_is {a0 a1 a2 a3 a4 b0 b1 b2 b3 b4 c0 c1 c2 c3 c4 d0 d1 d2 d3 d4:Int} {x0 x1 x2 x3 x4 x6 x10 x11 x12:Slot} :
    d_l9.1 [x0,x1,x2,x3,x4,.pv (.lst [.lst (toS [a0,a1,a2,a3,a4]),.lst (toS [b0,b1,b2,b3,b4]),.lst (toS [c0,c1,c2,c3,c4]),.lst (toS [d0,d1,d2,d3,d4])]),x6,.un,.un,.un,x10,x11,x12] =
    some (.next,[x0,x1,x2,x3,x4,.pv (.lst [.lst (toS [a0,a1,a2,a3,a4]),.lst (toS [b0,b1,b2,b3,b4]),.lst (toS [c0,c1,c2,c3,c4]),.lst (toS [d0,d1,d2,d3,d4])]),x6,
      .pv (.lst (toS [b0 - a0,b1 - a1,b2 - a2,b3 - a3,b4 - a4])),.pv (.lst (toS [c0 - a0,c1 - a1,c2 - a2,c3 - a3,c4 - a4])),.pv (.lst (toS [d0 - a0,d1 - a1,d2 - a2,d3 - a3,d4 - a4])),x10,x11,x12]):=by kernel_rfl
noncomputable abbrev sqF:jw:=fnOf ks__law_squares 3 4 yl.1
theorem semItem_lst (vs:VS) (L:List PV) (j:Int):jp (.pv (.lst L)) (.pv (.int j)) vs=if 0≤j∧j<2^63 then (jy vs (.pv (.lst L))).bind fun l=>l[j.toNat]? else none:=by
  unfold jp; rfl
theorem lst_item {vs:VS} {n:Nat} {NS:List PV} {q:PV} (h:NS[n]?=some q) (hn:n<5):jp (.pv (.lst NS)) (.pv (.int (n:Nat))) vs=some q:=by
  rw [semItem_lst]
  have c:(0≤((n:Nat):Int)∧((n:Nat):Int)<2 ^ 63):=⟨Int.natCast_nonneg _,Int.lt_of_lt_of_le (Int.ofNat_lt.mpr hn) (by decide)⟩
  rw [if_pos c]
  have e:jy vs (.pv (.lst NS))=some NS:=rfl
  rw [e,Option.bind_some,Int.toNat_natCast]
  exact h
noncomputable def gA (l:List Int) (i:Nat):Int:=l.getD i 0
noncomputable def L5 (l:List Int):Prop:=l.length=5∧∀ i,Bd (gA l i) 1
noncomputable def det (A B C:List Int) (i j k:Nat):Int:=gA A i*(gA B j*gA C k - gA B k*gA C j) - gA A j*(gA B i*gA C k - gA B k*gA C i)+gA A k*(gA B i*gA C j - gA B j*gA C i)
noncomputable def kB:Ev:=ev2 semPow (ev2 jB (ev2 yG (ev2 yc (ev2 jp (jf 0) (jf 4)) (ev2 yG (ev2 yc (ev2 jp (jf 1) (jf 5)) (ev2 jp (jf 2) (jf 6))) (ev2 yc (ev2 jp (jf 1) (jf 6)) (ev2 jp (jf 2) (jf 5)))))
    (ev2 yc (ev2 jp (jf 0) (jf 5)) (ev2 yG (ev2 yc (ev2 jp (jf 1) (jf 4)) (ev2 jp (jf 2) (jf 6))) (ev2 yc (ev2 jp (jf 1) (jf 6)) (ev2 jp (jf 2) (jf 4))))))
    (ev2 yc (ev2 jp (jf 0) (jf 6)) (ev2 yG (ev2 yc (ev2 jp (jf 1) (jf 4)) (ev2 jp (jf 2) (jf 5))) (ev2 yc (ev2 jp (jf 1) (jf 5)) (ev2 jp (jf 2) (jf 4)))))) (jo (PV.int 2))
noncomputable def kX:Ex:=jm (exAug 3 (semI fun a b=>some (a+b)) kB) jr
noncomputable def jX:Ex:=jm (yE (evFn yp [jf 5]) (jh 6) kX jr) jr
noncomputable def iX:Ex:=jm (yE (evFn yp [jf 4]) (jh 5) jX jr) jr
theorem sq_eq:yl.1=jm (jD 3 (jo (PV.int 0))) (jm (yE (evFn yp [jo (PV.int 5)]) (jh 4) iX jr) (jm (vE (jf 3)) jr)):=rfl
section
variable {A B C:List Int} {vs:VS}
theorem ent {s z i:Nat} {l:List Int} (h:vs[s]?=some (.pv (.lst (toS l)))) (hz:vs[z]?=some (.pv (.int (i:Nat)))) (hl:L5 l) (hi:i<5):ev2 jp (jf s) (jf z) vs=some (.pv (.int (gA l i)),vs):=by
  refine jV (a:=.pv (.lst (toS l))) (b:=.pv (.int (i:Nat))) (jT h rfl) rfl (jT hz rfl) rfl (lst_item ?_ hi)
  unfold toS gA
  rw [List.getElem?_map,List.getD_eq_getElem?_getD,List.getElem?_eq_getElem (by rw [hl.1]; exact hi)]
  rfl
theorem mul_to {f g:Ev} {a b:Int} (hf:f vs=some (.pv (.int a),vs)) (hg:g vs=some (.pv (.int b),vs)) (ha:Bd a 1):ev2 yc f g vs=some (.pv (.int (a*b)),vs) :=
  jV hf rfl hg rfl (if_pos (jW ha (by decide)))
theorem sub_to {f g:Ev} {a b:Int} (hf:f vs=some (.pv (.int a),vs)) (hg:g vs=some (.pv (.int b),vs)):ev2 yG f g vs=some (.pv (.int (a - b)),vs):=jV hf rfl hg rfl rfl
theorem add_to {f g:Ev} {a b:Int} (hf:f vs=some (.pv (.int a),vs)) (hg:g vs=some (.pv (.int b),vs)):ev2 jB f g vs=some (.pv (.int (a+b)),vs):=jV hf rfl hg rfl rfl
theorem det_bd (hA:L5 A) (hB:L5 B) (hC:L5 C) (i j k:Nat):Bd (det A B C i j k) 6 :=
  (((hA.2 i).mul (((hB.2 j).mul (hC.2 k)).sub ((hB.2 k).mul (hC.2 j)))).sub ((hA.2 j).mul (((hB.2 i).mul (hC.2 k)).sub ((hB.2 k).mul (hC.2 i))))).add ((hA.2 k).mul (((hB.2 i).mul (hC.2 j)).sub ((hB.2 j).mul (hC.2 i))))
theorem kB_is {i j k:Nat} (h0:vs[0]?=some (.pv (.lst (toS A)))) (h1:vs[1]?=some (.pv (.lst (toS B)))) (h2:vs[2]?=some (.pv (.lst (toS C)))) (h4:vs[4]?=some (.pv (.int (i:Nat)))) (h5:vs[5]?=some (.pv (.int (j:Nat)))) (h6:vs[6]?=some (.pv (.int (k:Nat))))
    (hA:L5 A) (hB:L5 B) (hC:L5 C) (hi:i<5) (hj:j<5) (hk:k<5):kB vs=some (.pv (.int (det A B C i j k ^ 2)),vs):=by
  have Ai:=ent h0 h4 hA hi
  have Aj:=ent h0 h5 hA hj
  have Ak:=ent h0 h6 hA hk
  have Bi:=ent h1 h4 hB hi
  have Bj:=ent h1 h5 hB hj
  have Bk:=ent h1 h6 hB hk
  have Ci:=ent h2 h4 hC hi
  have Cj:=ent h2 h5 hC hj
  have Ck:=ent h2 h6 hC hk
  refine jV (a:=.pv (.int (det A B C i j k))) (b:=.pv (.int 2)) (add_to (sub_to (mul_to Ai (sub_to (mul_to Bj Ck (hB.2 j)) (mul_to Bk Cj (hB.2 k))) (hA.2 i)) (mul_to Aj (sub_to (mul_to Bi Ck (hB.2 i)) (mul_to Bk Ci (hB.2 k))) (hA.2 j))) (mul_to Ak (sub_to (mul_to Bi Cj (hB.2 i)) (mul_to Bj Ci (hB.2 j))) (hA.2 k))) rfl rfl rfl ?_
  exact if_pos ⟨jW (det_bd hA hB hC i j k) (by decide),by decide,by decide⟩
noncomputable abbrev sqt (A B C:List Int) (t:Int) (x4 x5 x6:Slot):VS:=[.pv (.lst (toS A)),.pv (.lst (toS B)),.pv (.lst (toS C)),.pv (.int t),x4,x5,x6]
noncomputable def nts (l:List Nat):List PV:=l.map fun (k:Nat)=>.int (k:Nat)
theorem k_run {i j:Nat} (hA:L5 A) (hB:L5 B) (hC:L5 C) (hi:i<5) (hj:j<5):∀ (ks:List Nat) (t:Int) (x:Slot),(∀ k∈ks,k<5) →
    ∃ y,yJ (jh 6) kX jr (nts ks) (sqt A B C t (.pv (.int (i:Nat))) (.pv (.int (j:Nat))) x)=some (.next,sqt A B C (ks.foldl (fun t k=>t+det A B C i j k ^ 2) t) (.pv (.int (i:Nat))) (.pv (.int (j:Nat))) y)
  | [],t,x,_=>⟨x,rfl⟩
  | k::ks,t,x,h=>by
    obtain ⟨y,ih⟩:=k_run hA hB hC hi hj ks (t+det A B C i j k ^ 2) (.pv (.int (k:Nat))) fun q hq=>h q (List.mem_cons_of_mem _ hq)
    refine ⟨y,?_⟩
    have e1:exAug 3 (semI fun a b=>some (a+b)) kB (sqt A B C t (.pv (.int (i:Nat))) (.pv (.int (j:Nat))) (.pv (.int (k:Nat))))=some (.next,sqt A B C (t+det A B C i j k ^ 2) (.pv (.int (i:Nat))) (.pv (.int (j:Nat))) (.pv (.int (k:Nat)))):=by
      unfold exAug
      exact (set_to (jV (a:=.pv (.int t)) (b:=.pv (.int (det A B C i j k ^ 2))) rfl rfl (kB_is rfl rfl rfl rfl rfl rfl hA hB hC hi hj (h k List.mem_cons_self)) rfl rfl) (show 3<7 by decide)).trans rfl
    have e2:kX (sqt A B C t (.pv (.int (i:Nat))) (.pv (.int (j:Nat))) (.pv (.int (k:Nat))))=some (.next,sqt A B C (t+det A B C i j k ^ 2) (.pv (.int (i:Nat))) (.pv (.int (j:Nat))) (.pv (.int (k:Nat)))):=by
      unfold kX
      rw [ju e1]; rfl
    show yJ (jh 6) kX jr (.int (k:Nat)::nts ks) _=_
    rw [for_to rfl e2]
    exact ih
theorem rngs:AllN (fun j=>∀ vs:VS,vq vs (.pv (.rng 0 (j:Nat) 1))=some (nts (List.range j))) 6:=by
  iterate 6 refine .s ?_ fun vs=>rfl
  exact .z
theorem rng_is {j:Nat} (hj:j<6) {z:Nat} {a:Nat} {b els:Ex} (h:vs[z]?=some (.pv (.int (j:Nat)))):yE (evFn yp [jf z]) (jh a) b els vs=yJ (jh a) b els (nts (List.range j)) vs:=by
  have e1:evFn yp [jf z] vs=some (.pv (.rng 0 (j:Nat) 1),vs):=fn1_to (jT h rfl) rfl rfl
  have e2:vq vs (.pv (.rng 0 (j:Nat) 1))=some (nts (List.range j)):=by
    exact rngs.get j hj vs
  unfold yE
  rw [e1,Option.bind_some,show frz (AVal.pv (.rng 0 (j:Nat) 1))=some (AVal.pv (.rng 0 (j:Nat) 1)) from rfl,Option.bind_some,e2,Option.bind_some]
noncomputable def fj (A B C:List Int) (i:Nat) (t:Int) (j:Nat):Int:=(List.range j).foldl (fun t k=>t+det A B C i j k ^ 2) t
noncomputable def fi (A B C:List Int) (t:Int) (i:Nat):Int:=(List.range i).foldl (fj A B C i) t
theorem j_run {i:Nat} (hA:L5 A) (hB:L5 B) (hC:L5 C) (hi:i<5):∀ (js:List Nat) (t:Int) (x y:Slot),(∀ k∈js,k<5) →
    ∃ x' y',yJ (jh 5) jX jr (nts js) (sqt A B C t (.pv (.int (i:Nat))) x y)=some (.next,sqt A B C (js.foldl (fj A B C i) t) (.pv (.int (i:Nat))) x' y')
  | [],t,x,y,_=>⟨x,y,rfl⟩
  | j::js,t,x,y,h=>by
    have hj:=h j List.mem_cons_self
    obtain ⟨z,ek⟩:=k_run hA hB hC hi hj (List.range j) t y fun k hk=>Nat.lt_trans (List.mem_range.mp hk) hj
    obtain ⟨x',y',ih⟩:=j_run hA hB hC hi js (fj A B C i t j) (.pv (.int (j:Nat))) z fun q hq=>h q (List.mem_cons_of_mem _ hq)
    refine ⟨x',y',?_⟩
    have e2:jX (sqt A B C t (.pv (.int (i:Nat))) (.pv (.int (j:Nat))) y)=some (.next,sqt A B C (fj A B C i t j) (.pv (.int (i:Nat))) (.pv (.int (j:Nat))) z):=by
      unfold jX
      rw [ju ((rng_is (j:=j) (Nat.lt_succ_of_lt hj) rfl).trans ek)]; rfl
    show yJ (jh 5) jX jr (.int (j:Nat)::nts js) _=_
    rw [for_to rfl e2]
    exact ih
theorem i_run (hA:L5 A) (hB:L5 B) (hC:L5 C):∀ (is:List Nat) (t:Int) (w x y:Slot),(∀ k∈is,k<5) →
    ∃ w' x' y',yJ (jh 4) iX jr (nts is) (sqt A B C t w x y)=some (.next,sqt A B C (is.foldl (fi A B C) t) w' x' y')
  | [],t,w,x,y,_=>⟨w,x,y,rfl⟩
  | i::is,t,w,x,y,h=>by
    have hi:=h i List.mem_cons_self
    obtain ⟨z1,z2,ek⟩:=j_run hA hB hC hi (List.range i) t x y fun k hk=>Nat.lt_trans (List.mem_range.mp hk) hi
    obtain ⟨w',x',y',ih⟩:=i_run hA hB hC is (fi A B C t i) (.pv (.int (i:Nat))) z1 z2 fun q hq=>h q (List.mem_cons_of_mem _ hq)
    refine ⟨w',x',y',?_⟩
    have e2:iX (sqt A B C t (.pv (.int (i:Nat))) x y)=some (.next,sqt A B C (fi A B C t i) (.pv (.int (i:Nat))) z1 z2):=by
      unfold iX
      rw [ju ((rng_is (j:=i) (Nat.lt_succ_of_lt hi) rfl).trans ek)]; rfl
    show yJ (jh 4) iX jr (.int (i:Nat)::nts is) _=_
    rw [for_to rfl e2]
    exact ih
noncomputable def sqI (A B C:List Int):Int:=[0,1,2,3,4].foldl (fi A B C) 0
theorem sq_is (hA:L5 A) (hB:L5 B) (hC:L5 C):sqF [.pv (.lst (toS A)),.pv (.lst (toS B)),.pv (.lst (toS C))]=some (.pv (.int (sqI A B C)),[.un,.un,.un]):=by
  obtain ⟨w,x,y,r⟩:=i_run hA hB hC [0,1,2,3,4] 0 .un .un .un (by decide)
  have s1:jD 3 (jo (PV.int 0)) [.pv (.lst (toS A)),.pv (.lst (toS B)),.pv (.lst (toS C)),.un,.un,.un,.un]=some (.next,sqt A B C 0 .un .un .un):=rfl
  have s2:yE (evFn yp [jo (PV.int 5)]) (jh 4) iX jr (sqt A B C 0 .un .un .un)=some (.next,sqt A B C (sqI A B C) w x y):=r
  show ((yl.1 [.pv (.lst (toS A)),.pv (.lst (toS B)),.pv (.lst (toS C)),.un,.un,.un,.un]).bind _)=_
  rw [sq_eq,ju s1,ju s2]; rfl
end
noncomputable def muE:Em:=yd (ev2 yc (jf 0) (jf 1))
noncomputable def dot (A B:List Int):Int:=(List.zipWith (·*·) A B).sum
theorem mu_run:∀ (l m:List Int) (x0 x1:Slot),(∀ i∈l,Bd i 1)→∃ y0 y1,jJ (jR [jh 0,jh 1]) (jC true) muE (zipP (toS l) (toS m)) [x0,x1]=some (toS (List.zipWith (·*·) l m),[y0,y1])
  | [],_,x0,x1,_=>⟨x0,x1,rfl⟩
  | _::_,[],x0,x1,_=>⟨x0,x1,rfl⟩
  | a::l,b::m,x0,x1,h=>by
    obtain ⟨y0,y1,ih⟩:=mu_run l m (.pv (.int a)) (.pv (.int b)) fun i hi=>h i (List.mem_cons_of_mem _ hi)
    refine ⟨y0,y1,?_⟩
    have e:muE [.pv (.int a),.pv (.int b)]=some ([.int (a*b)],[.pv (.int a),.pv (.int b)]):=by
      unfold muE yd
      rw [mul_to (a:=a) (b:=b) rfl rfl (h a List.mem_cons_self)]; rfl
    show ((muE [.pv (.int a),.pv (.int b)]).bind fun l1=>(jJ (jR [jh 0,jh 1]) (jC true) muE (zipP (toS l) (toS m)) l1.2).map fun l2=>(l1.1++l2.1,l2.2))=_
    rw [e,Option.bind_some,ih]; rfl
theorem nums_toS:∀ L:List Int,numsP (toS L)=some L
  | []=>rfl
  | i::L=>by
    show ((numP (.int i)).bind fun i=>(numsP (toS L)).map fun r=>i::r)=_
    rw [nums_toS L]; rfl
noncomputable def twE:Em:=yd (ev2 yc (jo (PV.int 2)) (evFn semSum [jF (yy (jf 0) (jf 1)) [] 2 (jR [jh 0,jh 1]) (jC true) muE]))
theorem tw_is {A B:List Int} (hA:∀ i∈A,Bd i 1) (hl:A.length≤100):twE [.pv (.lst (toS A)),.pv (.lst (toS B))]=some ([.int (2*dot A B)],[.pv (.lst (toS A)),.pv (.lst (toS B))]):=by
  obtain ⟨y0,y1,hr⟩:=mu_run A B .un .un hA
  have e1:yy (jf 0) (jf 1) [.pv (.lst (toS A)),.pv (.lst (toS B))]=some (zipP (toS A) (toS B),[.pv (.lst (toS A)),.pv (.lst (toS B))]):=rfl
  have hb:(toS (List.zipWith (·*·) A B)).length≤100000:=by
    unfold toS
    rw [List.length_map,List.length_zipWith]; exact Nat.le_trans (Nat.min_le_left _ _) (Nat.le_trans hl (by decide))
  have e2:jF (yy (jf 0) (jf 1)) [] 2 (jR [jh 0,jh 1]) (jC true) muE [.pv (.lst (toS A)),.pv (.lst (toS B))]=some (.obj (.list (toS (List.zipWith (·*·) A B))),[.pv (.lst (toS A)),.pv (.lst (toS B))]):=by
    unfold jF
    rw [e1,Option.bind_some]
    show (jJ (jR [jh 0,jh 1]) (jC true) muE (zipP (toS A) (toS B)) [.un,.un]).bind _=_
    rw [hr]
    exact if_pos hb
  have e3:evFn semSum [jF (yy (jf 0) (jf 1)) [] 2 (jR [jh 0,jh 1]) (jC true) muE] [.pv (.lst (toS A)),.pv (.lst (toS B))]=some (.pv (.int (dot A B)),[.pv (.lst (toS A)),.pv (.lst (toS B))]):=by
    unfold evFn
    show (((jF (yy (jf 0) (jf 1)) [] 2 (jR [jh 0,jh 1]) (jC true) muE [.pv (.lst (toS A)),.pv (.lst (toS B))]).bind fun p=>(frz p.1).bind fun a=>(jI [] p.2).map fun r=>(a::r.1,r.2)).bind _)=_
    rw [e2]
    show ((numsP (toS (List.zipWith (·*·) A B))).map fun ns=>PV.int ns.sum).map _=_
    rw [nums_toS]; rfl
  unfold twE yd
  rw [jV (a:=.pv (.int 2)) (b:=.pv (.int (dot A B))) (q:=.int (2*dot A B)) rfl rfl e3 rfl rfl]; rfl
theorem exset_obj {k:Nat} {f:Ev} {vs:VS} {l:List PV} (h:f vs=some (.obj (.list l),vs)) (hk:k<vs.length):jD k f vs=some (.next,vs.set k (.pv (.lst l))):=by
  unfold jD
  rw [h,Option.bind_some]
  show (if k<vs.length then _ else none)=_
  rw [if_pos hk]
section
variable {x0 x1 x2 x3 x4 x5 x6 x7 x8 x9 x10 x11 x12:Slot}
theorem mem_bd {A:List Int} (h:L5 A):∀ i∈A,Bd i 1:=by
  intro i hi
  obtain ⟨k,hk,e⟩:=List.getElem_of_mem hi
  have:=h.2 k
  unfold gA at this
  rw [List.getD_eq_getElem?_getD,List.getElem?_eq_getElem hk] at this
  rw [← e]; exact this
theorem l10_is {A B C:List Int} (hA:L5 A) (hB:L5 B) (hC:L5 C):d_l10.1 [x0,x1,x2,x3,x4,x5,x6,.pv (.lst (toS A)),.pv (.lst (toS B)),.pv (.lst (toS C)),.un,x11,x12] =
    some (.next,[x0,x1,x2,x3,x4,x5,x6,.pv (.lst (toS A)),.pv (.lst (toS B)),.pv (.lst (toS C)),.pv (.lst (toS [2*dot A B,2*dot A C,2*dot B C])),x11,x12]):=by
  rw [show d_l10.1=jD 10 (jF (evIt true (evList [evTup [jf 7,jf 8],evTup [jf 7,jf 9],evTup [jf 8,jf 9]])) [] 2 (jR [jh 0,jh 1]) (jC true) twE) from rfl]
  have st:∀ {P Q:List Int} {L:List PV} {y0 y1:Slot},L5 P→jJ (jR [jh 0,jh 1]) (jC true) twE (.tup [.lst (toS P),.lst (toS Q)]::L) [y0,y1]=(jJ (jR [jh 0,jh 1]) (jC true) twE L [.pv (.lst (toS P)),.pv (.lst (toS Q))]).map fun l2=>([PV.int (2*dot P Q)]++l2.1,l2.2):=by
    intro P Q L y0 y1 hP
    show ((twE [.pv (.lst (toS P)),.pv (.lst (toS Q))]).bind fun l1=>(jJ (jR [jh 0,jh 1]) (jC true) twE L l1.2).map fun l2=>(l1.1++l2.1,l2.2))=_
    rw [tw_is (mem_bd hP) (by rw [hP.1]; decide)]; rfl
  have e:jJ (jR [jh 0,jh 1]) (jC true) twE [.tup [.lst (toS A),.lst (toS B)],.tup [.lst (toS A),.lst (toS C)],.tup [.lst (toS B),.lst (toS C)]] [.un,.un]=some (toS [2*dot A B,2*dot A C,2*dot B C],[.pv (.lst (toS B)),.pv (.lst (toS C))]):=by
    rw [st hA,st hA,st hB]; rfl
  refine (exset_obj (k:=10) (l:=toS [2*dot A B,2*dot A C,2*dot B C]) ?_ (by show 10<13; decide)).trans rfl
  unfold jF
  show ((jJ (jR [jh 0,jh 1]) (jC true) twE [.tup [.lst (toS A),.lst (toS B)],.tup [.lst (toS A),.lst (toS C)],.tup [.lst (toS B),.lst (toS C)]] [.un,.un]).bind _)=_
  rw [e]
  rfl
noncomputable def dueE:Em:=yd (jL isStr (vh semJoin) (jo (PV.str [])) [jF (evIt true (evFn yp [jo (PV.int 5)])) [0] 1 (jh 1) (jC true) (yd (evIf (vZ (ev2 jp (jf 0) (jf 1))) (ev2 jp (jo (PV.str [65,66,67,68,69])) (jf 1)) (ev2 jp (jo (PV.str [97,98,99,100,101])) (jf 1))))])
end
theorem dues:AllN (fun x=>dueE [.pv (.lst (toS (jY x)))]=some ([.str (nmC x)],[.pv (.lst (toS (jY x)))])) 32:=by
  iterate 32 refine .s ?_ (by kernel_rfl)
  exact .z
theorem due_at {x:Nat} (h:x<32):dueE [.pv (.lst (toS (jY x)))]=some ([.str (nmC x)],[.pv (.lst (toS (jY x)))]):=dues.get x h
section
variable {x0 x1 x2 x3 x4 x5 x6 x7 x8 x9 x10 x11 x12:Slot} {a b c d:Nat}
theorem l11_is (ha:a<32) (hb:b<32) (hc:c<32) (hd:d<32):d_l11.1 [x0,x1,x2,x3,x4,.pv (bitL a b c d),x6,x7,x8,x9,x10,.un,x12] =
    some (.next,[x0,x1,x2,x3,x4,.pv (bitL a b c d),x6,x7,x8,x9,x10,.pv (.lst [.str (nmC a),.str (nmC b),.str (nmC c),.str (nmC d)]),x12]):=by
  rw [show d_l11.1=jD 11 (jF (evIt true (jf 5)) [] 1 (jh 0) (jC true) dueE) from rfl]
  have st:∀ {n:Nat} {L:List PV} {x:Slot},n<32→jJ (jh 0) (jC true) dueE (.lst (toS (jY n))::L) [x]=(jJ (jh 0) (jC true) dueE L [.pv (.lst (toS (jY n)))]).map fun l2=>([PV.str (nmC n)]++l2.1,l2.2):=by
    intro n L x hn
    show ((dueE [.pv (.lst (toS (jY n)))]).bind fun l1=>(jJ (jh 0) (jC true) dueE L l1.2).map fun l2=>(l1.1++l2.1,l2.2))=_
    rw [due_at hn]; rfl
  have e:jJ (jh 0) (jC true) dueE [.lst (toS (jY a)),.lst (toS (jY b)),.lst (toS (jY c)),.lst (toS (jY d))] [.un]=some ([.str (nmC a),.str (nmC b),.str (nmC c),.str (nmC d)],[.pv (.lst (toS (jY d)))]):=by
    rw [st ha,st hb,st hc,st hd]
    show some _=some _
    rfl
  exact (exset_obj (k:=11) (comp1_to (jT rfl rfl) rfl e (show 4≤100000 by decide)) (by show 11<13; decide)).trans rfl
theorem l12_is {A B C T W:List Int} (hA:L5 A) (hB:L5 B) (hC:L5 C) (hT:T.length≤10) (hW:W.length≤10) (hs:∀ i∈[(a:Int),(b:Int),(c:Int),(d:Int)]++T++W++[4*sqI A B C],small i=true) :
    d_l12.1 [x0,x1,.pv (.lst [.int (a:Nat),.int (b:Nat),.int (c:Nat),.int (d:Nat)]),x3,x4,x5,.pv (.lst (toS T)),.pv (.lst (toS A)),.pv (.lst (toS B)),.pv (.lst (toS C)),.pv (.lst (toS W)),x11,.un] =
    some (.next,[x0,x1,.pv (.lst [.int (a:Nat),.int (b:Nat),.int (c:Nat),.int (d:Nat)]),x3,x4,x5,.pv (.lst (toS T)),.pv (.lst (toS A)),.pv (.lst (toS B)),.pv (.lst (toS C)),.pv (.lst (toS W)),x11,.pv (.lst (([(a:Int),(b:Int),(c:Int),(d:Int)]++T++W++[4*sqI A B C]).map fun i=>.str (num i)))]):=by
  rw [show d_l12.1=jD 12 (jF (evIt true (ev2 jB (ev2 jB (ev2 jB (jf 2) (jf 6)) (jf 10)) (evList [ev2 yc (jo (PV.int 4)) (jt 3 sqF [jf 7,jf 8,jf 9])]))) [] 1 (jh 0) (jC true) (yd (evFn ym [jf 0]))) from rfl]
  generalize hvs:([x0,x1,.pv (.lst [.int (a:Nat),.int (b:Nat),.int (c:Nat),.int (d:Nat)]),x3,x4,x5,.pv (.lst (toS T)),.pv (.lst (toS A)),.pv (.lst (toS B)),.pv (.lst (toS C)),.pv (.lst (toS W)),x11,.un]:VS)=vs
  have g2:vs[2]?=some (.pv (.lst (toS [(a:Int),(b:Int),(c:Int),(d:Int)]))):=by rw [← hvs]; rfl
  have g6:vs[6]?=some (.pv (.lst (toS T))):=by rw [← hvs]; rfl
  have g7:vs[7]?=some (.pv (.lst (toS A))):=by rw [← hvs]; rfl
  have g8:vs[8]?=some (.pv (.lst (toS B))):=by rw [← hvs]; rfl
  have g9:vs[9]?=some (.pv (.lst (toS C))):=by rw [← hvs]; rfl
  have g10:vs[10]?=some (.pv (.lst (toS W))):=by rw [← hvs]; rfl
  have lst_add:∀ {f g:Ev} {l m:List Int} {b0:AVal},f vs=some (.pv (.lst (toS l)),vs)→g vs=some (b0,vs)→frz b0=some (.pv (.lst (toS m)))→l.length+m.length≤100000→ev2 jB f g vs=some (.pv (.lst (toS (l++m))),vs):=by
    intro f g l m b0 hf hg hb hl
    refine ev2_ch2 hf rfl hg hb ?_
    show (if (toS l).length+(toS m).length≤100000 then some (PV.lst (toS l++toS m)) else none)=_
    unfold toS
    rw [List.length_map,List.length_map,if_pos hl,List.map_append]
  have e1:=lst_add (jT g2 rfl) (jT g6 rfl) rfl (Nat.le_trans (Nat.add_le_add_left hT 4) (by decide))
  have e2:=lst_add e1 (jT g10 rfl) rfl (by rw [List.length_append]; exact Nat.le_trans (Nat.add_le_add (Nat.add_le_add_left hT 4) hW) (by decide))
  have e3:jt 3 sqF [jf 7,jf 8,jf 9] vs=some (.pv (.int (sqI A B C)),vs):=by
    have e4:yX [jf 7,jf 8,jf 9] vs=some ([.pv (.lst (toS A)),.pv (.lst (toS B)),.pv (.lst (toS C))],vs):=by
      show ((jf 7 vs).bind fun p=>(frz p.1).bind fun x=>((jf 8 p.2).bind fun p=>(frz p.1).bind fun x=>((jf 9 p.2).map fun p=>([p.1],p.2)).map fun r=>(x::r.1,r.2)).map fun r=>(x::r.1,r.2))=_
      rw [jT g7 rfl]
      show ((((jf 8 vs).bind fun p=>(frz p.1).bind fun x=>((jf 9 p.2).map fun p=>([p.1],p.2)).map fun r=>(x::r.1,r.2)).map _))=_
      rw [jT g8 rfl]
      show ((((jf 9 vs).map fun p=>([p.1],p.2)).map _).map _)=_
      rw [jT g9 rfl]; rfl
    unfold jt
    rw [e4]
    show ((sqF [.pv (.lst (toS A)),.pv (.lst (toS B)),.pv (.lst (toS C))]).bind _)=_
    rw [sq_is hA hB hC]; rfl
  have e5:evList [ev2 yc (jo (PV.int 4)) (jt 3 sqF [jf 7,jf 8,jf 9])] vs=some (.obj (.list (toS [4*sqI A B C])),vs):=by
    unfold evList evs
    rw [jV (a:=.pv (.int 4)) (b:=.pv (.int (sqI A B C))) (q:=.int (4*sqI A B C)) rfl rfl e3 rfl rfl]; rfl
  have e6:=lst_add e2 e5 rfl (by rw [List.length_append,List.length_append]; exact Nat.le_trans (Nat.succ_le_succ (Nat.add_le_add (Nat.add_le_add_left hT 4) hW)) (by decide))
  obtain ⟨y,hr⟩:=str_run _ .un hs
  refine (exset_obj (k:=12) (comp1_to e6 rfl hr ?_) (by rw [← hvs]; show 12<13; decide)).trans ?_
  · rw [List.length_map,List.length_append,List.length_append,List.length_append]
    show 4+T.length+W.length+1≤100000
    omega
  · rw [← hvs]; rfl
theorem toD_ok {D:DS} (h:∀ q∈D,asc q.1=true∧asc q.2=true):okD 9 (.lst (toD D))=true:=by
  show ((D.map fun q=>PV.tup [.str q.1,.str q.2]).all (okD 8))=true
  rw [List.all_map]
  refine List.all_eq_true.mpr fun q hq=>?_
  have h1:=cp_of (h q hq).1
  have h2:=cp_of (h q hq).2
  unfold cp at h1 h2
  show (okD 7 (.str q.1)&&(okD 7 (.str q.2)&&true))=true
  show ((q.1.all fun x=>decide (x<0x110000))&&((q.2.all fun x=>decide (x<0x110000))&&true))=true
  rw [h1,h2]; rfl
theorem toD_refl:∀ D:DS,pvEqs (toD D) (toD D)=true
  | []=>rfl
  | q::D=>by
    show (pvEq (.tup [.str q.1,.str q.2]) (.tup [.str q.1,.str q.2])&&pvEqs (toD D) (toD D))=true
    rw [toD_refl D,Bool.and_true]
    show (pvEq (.str q.1) (.str q.1)&&(pvEq (.str q.2) (.str q.2)&&true))=true
    have e:∀ c:List Nat,pvEq (.str c) (.str c)=true:=fun c=>by unfold pvEq; exact beq_self_eq_true c
    rw [e,e]; rfl
theorem l13_is {D:DS} {K V:List (List Nat)} (hD:Dok D) (hK:K.length≤50) (hz:zipP (K.map .str++chars [117,118,119,120,121,122,112,113,114,116]) (V.map .str)=toD D) :
    d_l13.1 [x0,x1,x2,.ob (.hdr (toD D)),x4,x5,x6,x7,x8,x9,x10,.pv (.lst (K.map .str)),.pv (.lst (V.map .str))]=some (.ret (.pv (.bool true)),[x0,x1,x2,.ob (.hdr (toD D)),x4,x5,x6,x7,x8,x9,x10,.pv (.lst (K.map .str)),.pv (.lst (V.map .str))]):=by
  rw [show d_l13.1=vE (ev2 yH (jE 3 0 itemsF [] [] []) (evZipL (ev2 jB (jf 11) (evFnM vx [jo (PV.str [117,118,119,120,121,122,112,113,114,116])])) (jf 12))) from rfl]
  generalize hvs:([x0,x1,x2,.ob (.hdr (toD D)),x4,x5,x6,x7,x8,x9,x10,.pv (.lst (K.map .str)),.pv (.lst (V.map .str))]:VS)=vs
  have g3:yt vs 3=some (toD D):=by rw [← hvs]; rfl
  have g11:vs[11]?=some (.pv (.lst (K.map .str))):=by rw [← hvs]; rfl
  have g12:vs[12]?=some (.pv (.lst (V.map .str))):=by rw [← hvs]; rfl
  have e1:jE 3 0 itemsF [] [] [] vs=some (.pv (.lst (toD D)),vs):=methR_to g3 (items_is hD.1) rfl
  have e2:ev2 jB (jf 11) (evFnM vx [jo (PV.str [117,118,119,120,121,122,112,113,114,116])]) vs=some (.pv (.lst (K.map .str++chars [117,118,119,120,121,122,112,113,114,116])),vs):=by
    refine ev2_ch2 (b0:=.obj (.list (chars [117,118,119,120,121,122,112,113,114,116]))) (jT g11 rfl) rfl rfl rfl ?_
    show (if (K.map PV.str).length+10≤100000 then some (PV.lst (K.map .str++chars [117,118,119,120,121,122,112,113,114,116])) else none)=_
    rw [List.length_map,if_pos (Nat.le_trans (Nat.add_le_add_right hK 10) (by decide))]
  have e3:yy (ev2 jB (jf 11) (evFnM vx [jo (PV.str [117,118,119,120,121,122,112,113,114,116])])) (jf 12) vs=some (toD D,vs):=by
    unfold yy
    show (((ev2 jB (jf 11) (evFnM vx [jo (PV.str [117,118,119,120,121,122,112,113,114,116])]) vs).bind fun p=>(frz p.1).bind fun a=>(jI [jf 12] p.2).map fun r=>(a::r.1,r.2)).bind _)=_
    rw [e2]
    show ((((jf 12 vs).bind fun p=>(frz p.1).bind fun a=>(jI [] p.2).map fun r=>(a::r.1,r.2)).map _).bind _)=_
    rw [jT g12 rfl]
    show some (zipP (K.map .str++chars [117,118,119,120,121,122,112,113,114,116]) (V.map .str),vs)=_
    rw [hz]
  have e4:evZipL (ev2 jB (jf 11) (evFnM vx [jo (PV.str [117,118,119,120,121,122,112,113,114,116])])) (jf 12) vs=some (.obj (.list (toD D)),vs):=by
    unfold evZipL
    rw [e3,Option.bind_some]
    show (if Nat.ble (toD D).length 100000 then _ else none)=_
    rw [if_pos (Nat.ble_eq.mpr (by rw [toD_len]; exact Nat.le_trans hD.1 (by decide)))]
  have ok:=toD_ok hD.2
  have e5:ev2 yH (jE 3 0 itemsF [] [] []) (evZipL (ev2 jB (jf 11) (evFnM vx [jo (PV.str [117,118,119,120,121,122,112,113,114,116])])) (jf 12)) vs=some (.pv (.bool true),vs):=by
    refine ev2_ch2 e1 rfl e4 rfl ?_
    show (if okD 9 (.lst (toD D))&&okD 9 (.lst (toD D)) then some (PV.bool (pvEq (.lst (toD D)) (.lst (toD D)))) else none)=_
    rw [ok]
    have:pvEq (.lst (toD D)) (.lst (toD D))=true:=by unfold pvEq; exact toD_refl D
    rw [this]; rfl
  unfold vE
  rw [e5]; rfl
end
noncomputable def ss (x y:Nat):Int:=(bI y 0 - bI x 0)*(bI y 0 - bI x 0)+(bI y 1 - bI x 1)*(bI y 1 - bI x 1)+(bI y 2 - bI x 2)*(bI y 2 - bI x 2)+(bI y 3 - bI x 3)*(bI y 3 - bI x 3)+(bI y 4 - bI x 4)*(bI y 4 - bI x 4)
noncomputable def hsF (x y:Nat):Bool:=decide (((hm x y:Nat):Int)=ss x y)&&(decide (neS (jY x) (jY y)=((hm x y:Nat):Int))&&decide (hm x y≤5))
theorem hss:((List.range 32).all fun x=>(List.range 32).all (hsF x))=true:=by kernel_rfl
theorem hs_at {x y:Nat} (hx:x<32) (hy:y<32):((hm x y:Nat):Int)=ss x y∧neS (jY x) (jY y)=((hm x y:Nat):Int)∧hm x y≤5:=by
  have:=List.all_eq_true.mp (List.all_eq_true.mp hss x (List.mem_range.mpr hx)) y (List.mem_range.mpr hy)
  unfold hsF at this
  simp only [Bool.and_eq_true,decide_eq_true_eq] at this
  exact this
noncomputable def dif (x y:Nat):List Int:=[bI y 0 - bI x 0,bI y 1 - bI x 1,bI y 2 - bI x 2,bI y 3 - bI x 3,bI y 4 - bI x 4]
theorem bI_01 (x k:Nat):bI x k=0 ∨ bI x k=1:=by
  unfold bI
  split
  · exact .inr rfl
  · exact .inl rfl
theorem dif_5 (x y:Nat):L5 (dif x y):=by
  refine ⟨rfl,fun i=>?_⟩
  have q:∀ k,Bd (bI y k - bI x k) 1:=fun k=>by
    unfold Bd
    rcases bI_01 x k with h | h <;> rcases bI_01 y k with g | g <;> rw [h,g] <;> decide
  match i with
  | 0=>exact q 0
  | 1=>exact q 1
  | 2=>exact q 2
  | 3=>exact q 3
  | 4=>exact q 4
  | i+5=>exact Nat.zero_le 1
theorem cos_is (a0 a1 a2 a3 a4 b0 b1 b2 b3 b4:Int):(a0*a0+a1*a1+a2*a2+a3*a3+a4*a4)+(b0*b0+b1*b1+b2*b2+b3*b3+b4*b4) -
    ((b0 - a0)*(b0 - a0)+(b1 - a1)*(b1 - a1)+(b2 - a2)*(b2 - a2)+(b3 - a3)*(b3 - a3)+(b4 - a4)*(b4 - a4))=2*(a0*b0+(a1*b1+(a2*b2+(a3*b3+(a4*b4+0))))):=by grind
theorem twice_is {x y z:Nat} (hx:x<32) (hy:y<32) (hz:z<32):((hm x y:Nat):Int)+((hm x z:Nat):Int) - ((hm y z:Nat):Int)=2*dot (dif x y) (dif x z):=by
  rw [(hs_at hx hy).1,(hs_at hx hz).1,(hs_at hy hz).1]
  have:=cos_is (bI y 0 - bI x 0) (bI y 1 - bI x 1) (bI y 2 - bI x 2) (bI y 3 - bI x 3) (bI y 4 - bI x 4) (bI z 0 - bI x 0) (bI z 1 - bI x 1) (bI z 2 - bI x 2) (bI z 3 - bI x 3) (bI z 4 - bI x 4)
  have e:∀ k,(bI z k - bI x k) - (bI y k - bI x k)=bI z k - bI y k:=fun k=>by omega
  rw [e,e,e,e,e] at this
  exact this
noncomputable def dt (A B C:Int×Int×Int):Int:=A.1*(B.2.1*C.2.2 - B.2.2*C.2.1) - A.2.1*(B.1*C.2.2 - B.2.2*C.1)+A.2.2*(B.1*C.2.1 - B.2.1*C.1)
theorem cauchy (a0 a1 a2 a3 a4 b0 b1 b2 b3 b4 c0 c1 c2 c3 c4 u v w p q r:Int)
    (hu:u=a0*a0+a1*a1+a2*a2+a3*a3+a4*a4) (hv:v=b0*b0+b1*b1+b2*b2+b3*b3+b4*b4) (hw:w=c0*c0+c1*c1+c2*c2+c3*c3+c4*c4)
    (hp:p=2*(a0*b0+(a1*b1+(a2*b2+(a3*b3+(a4*b4+0)))))) (hq:q=2*(a0*c0+(a1*c1+(a2*c2+(a3*c3+(a4*c4+0)))))) (hr:r=2*(b0*c0+(b1*c1+(b2*c2+(b3*c3+(b4*c4+0)))))) :
    (u+u)*(v+v)*w+p*q*r - u*r*r - v*q*q - w*p*p=4*sqI [a0,a1,a2,a3,a4] [b0,b1,b2,b3,b4] [c0,c1,c2,c3,c4]:=by
  have e:sqI [a0,a1,a2,a3,a4] [b0,b1,b2,b3,b4] [c0,c1,c2,c3,c4]=0+(a2*(b1*c0 - b0*c1) - a1*(b2*c0 - b0*c2)+a0*(b2*c1 - b1*c2)) ^ 2
    +(a3*(b1*c0 - b0*c1) - a1*(b3*c0 - b0*c3)+a0*(b3*c1 - b1*c3)) ^ 2
    +(a3*(b2*c0 - b0*c2) - a2*(b3*c0 - b0*c3)+a0*(b3*c2 - b2*c3)) ^ 2
    +(a3*(b2*c1 - b1*c2) - a2*(b3*c1 - b1*c3)+a1*(b3*c2 - b2*c3)) ^ 2
    +(a4*(b1*c0 - b0*c1) - a1*(b4*c0 - b0*c4)+a0*(b4*c1 - b1*c4)) ^ 2
    +(a4*(b2*c0 - b0*c2) - a2*(b4*c0 - b0*c4)+a0*(b4*c2 - b2*c4)) ^ 2
    +(a4*(b2*c1 - b1*c2) - a2*(b4*c1 - b1*c4)+a1*(b4*c2 - b2*c4)) ^ 2
    +(a4*(b3*c0 - b0*c3) - a3*(b4*c0 - b0*c4)+a0*(b4*c3 - b3*c4)) ^ 2
    +(a4*(b3*c1 - b1*c3) - a3*(b4*c1 - b1*c4)+a1*(b4*c3 - b3*c4)) ^ 2
    +(a4*(b3*c2 - b2*c3) - a3*(b4*c2 - b2*c4)+a2*(b4*c3 - b3*c4)) ^ 2:=rfl
  rw [e]
  subst hu hv hw hp hq hr
  clear e
  grind
theorem sq_nn (a:Int):0≤a ^ 2:=by
  rw [show a ^ 2=a*a by grind]
  rcases Int.le_total 0 a with h | h
  · exact Int.mul_nonneg h h
  · exact Int.mul_nonneg_of_nonpos_of_nonpos h h
theorem fold_nn {α : Type} {f:Int→α→Int} (hf:∀ t k,0≤t→0≤f t k):∀ (l:List α) (t:Int),0≤t→0≤l.foldl f t
  | [],_,h=>h
  | k::l,t,h=>fold_nn hf l _ (hf t k h)
theorem sqI_nn (A B C:List Int):0≤sqI A B C :=
  fold_nn (fun t i h=>fold_nn (fun t j h=>fold_nn (fun t k h=>Int.add_nonneg h (sq_nn _)) _ _ h) _ _ h) _ _ (Int.le_refl 0)
theorem vol_is {x y z w:Nat} (hx:x<32) (hy:y<32) (hz:z<32) (hw:w<32) :
    tI ((hm x y:Nat):Int) ((hm x z:Nat):Int) ((hm x w:Nat):Int) (((hm x y:Nat):Int)+((hm x z:Nat):Int) - ((hm y z:Nat):Int)) (((hm x y:Nat):Int)+((hm x w:Nat):Int) - ((hm y w:Nat):Int)) (((hm x z:Nat):Int)+((hm x w:Nat):Int) - ((hm z w:Nat):Int))=4*sqI (dif x y) (dif x z) (dif x w):=by
  rw [twice_is hx hy hz,twice_is hx hy hw,twice_is hx hz hw]
  exact cauchy _ _ _ _ _ _ _ _ _ _ _ _ _ _ _ _ _ _ _ _ _ (hs_at hx hy).1 (hs_at hx hz).1 (hs_at hx hw).1 rfl rfl rfl
theorem law_eq:den_law.1=jm d_l0.1 (jm d_l1.1 (jm d_l2.1 (jm d_l3.1 (jm d_l4.1 (jm d_l5.1 (jm d_l6.1 (jm (@Subtype.val Ex _ d_l7) (jm d_l8.1 (jm d_l9.1 (jm d_l10.1 (jm d_l11.1 (jm d_l12.1 (jm d_l13.1 jr))))))))))))):=rfl
theorem seq_ret {f g:Ex} {vs vs1:VS} {s:AVal} (h:f vs=some (.ret s,vs1)):jm f g vs=some (.ret s,vs1):=by
  unfold jm
  rw [h]; rfl
theorem tI_bd {u v w p q r:Int} (bu:Bd u 5) (bv:Bd v 5) (bw:Bd w 5) (bp:Bd p 10) (bq:Bd q 10) (br:Bd r 10):Bd (tI u v w p q r) (10 ^ 9) :=
  Nat.le_trans (((((((bu.add bu).mul (bv.add bv)).mul bw).add ((bp.mul bq).mul br)).sub ((bu.mul br).mul br)).sub ((bv.mul bq).mul bq)).sub ((bw.mul bp).mul bp)) (by decide)
theorem num_a {i:Int} (h1:-10≤i) (h2:i<10 ^ 10):asc (num i)=true:=(valOk_f (num_ok (Nat.le_trans (num_read h1 h2).1 (by decide)))).1
theorem num_5 {u:Int} (h:0≤u∧u≤5):asc (num u)=true:=num_a (gap5 h).1 (gap5 h).2
theorem sm_nat {n m:Nat} (h:n<m) (k:m≤2 ^ 64):small (n:Int)=true:=decide_eq_true (Nat.lt_of_lt_of_le h k)
theorem sm5 {n:Nat} (h:n≤5):small (n:Int)=true:=sm_nat (Nat.lt_succ_of_le h) (by decide)
theorem bd_p {l m n:Nat} (h1:l≤5) (h2:m≤5) (h3:n≤5):Bd ((l:Int)+(m:Int) - (n:Int)) 10:=(by decide +kernel:∀ l:Nat,l<6→∀ m:Nat,m<6→∀ n:Nat,n<6→((l:Int)+(m:Int) - (n:Int)).natAbs≤10) l (Nat.lt_succ_of_le h1) m (Nat.lt_succ_of_le h2) n (Nat.lt_succ_of_le h3)
theorem six_ok {u v w x y z:Int} (hu:0≤u∧u≤5) (hv:0≤v∧v≤5) (hw:0≤w∧w≤5) (hx:0≤x∧x≤5) (hy:0≤y∧y≤5) (hz:0≤z∧z≤5):∀ q∈sixI u v w x y z,asc q.1=true∧asc q.2=true:=by
  intro q hq
  exact yu (P:=fun q=>asc q.1=true∧asc q.2=true) ⟨rfl,num_5 hu⟩ (yu ⟨rfl,num_5 hv⟩ (yu ⟨rfl,num_5 hw⟩ (yu ⟨rfl,num_5 hx⟩ (yu ⟨rfl,num_5 hy⟩ (yu ⟨rfl,num_5 hz⟩ all_n))))) q hq
theorem four_ok {u v w x y z:Int} (hu:0≤u∧u≤5) (hv:0≤v∧v≤5) (hw:0≤w∧w≤5) (hx:0≤x∧x≤5) (hy:0≤y∧y≤5) (hz:0≤z∧z≤5)
    (ht:0≤tI u v w (u+v - x) (u+w - y) (v+w - z)∧tI u v w (u+v - x) (u+w - y) (v+w - z)≤10 ^ 9):∀ q∈fourI u v w x y z,asc q.1=true∧asc q.2=true:=by
  intro q hq
  have g:=gap3 hu hv hx
  have g2:=gap3 hu hw hy
  have g3:=gap3 hv hw hz
  exact yu (P:=fun q=>asc q.1=true∧asc q.2=true) ⟨rfl,num_a g.1 g.2⟩ (yu ⟨rfl,num_a g2.1 g2.2⟩ (yu ⟨rfl,num_a g3.1 g3.2⟩ (yu ⟨rfl,num_a (Int.le_trans (by decide) ht.1) (Int.lt_of_le_of_lt ht.2 (by decide))⟩ all_n))) q hq
theorem law_true (ns:List Int) (hn:ns.length≤63):fnOf ks_law 1 12 den_law.1 [.pv (.lst (toS ns))]=some (.pv (.bool true),[.un]):=by
  obtain ⟨D1,D2,D3,D4,D5,hD⟩:=five_is (draws_len ns)
  obtain ⟨a,ha,ea⟩:=fmod_nat D1 (m:=32) (by decide)
  obtain ⟨b,hb,eb⟩:=fmod_nat D2 (m:=32) (by decide)
  obtain ⟨c,hc,ec⟩:=fmod_nat D3 (m:=32) (by decide)
  obtain ⟨d,hd,ed⟩:=fmod_nat D4 (m:=32) (by decide)
  obtain ⟨p,hp,ep⟩:=fmod_nat D5 (m:=5) (by decide)
  obtain ⟨_,nab,lab⟩:=hs_at ha hb
  obtain ⟨_,nac,lac⟩:=hs_at ha hc
  obtain ⟨_,nad,lad⟩:=hs_at ha hd
  obtain ⟨_,nbc,lbc⟩:=hs_at hb hc
  obtain ⟨_,nbd,lbd⟩:=hs_at hb hd
  obtain ⟨_,ncd,lcd⟩:=hs_at hc hd
  have t1:=twice_is ha hb hc
  have t2:=twice_is ha hb hd
  have t3:=twice_is ha hc hd
  have tv:=vol_is ha hb hc hd
  have nn:=sqI_nn (dif a b) (dif a c) (dif a d)
  have rng:∀ {n:Nat},n≤5→0≤(n:Int)∧(n:Int)≤5:=fun h=>⟨Int.natCast_nonneg _,Int.ofNat_le.mpr h⟩
  have bt:=tI_bd (u:=(hm a b:Nat)) (v:=(hm a c:Nat)) (w:=(hm a d:Nat)) lab lac lad (bd_p lab lac lbc) (bd_p lab lad lbd) (bd_p lac lad lcd)
  have t0:0≤tI (hm a b:Nat) (hm a c:Nat) (hm a d:Nat) ((hm a b:Nat)+(hm a c:Nat) - (hm b c:Nat)) ((hm a b:Nat)+(hm a d:Nat) - (hm b d:Nat)) ((hm a c:Nat)+(hm a d:Nat) - (hm c d:Nat)):=tv ▸ Int.mul_nonneg (by decide) nn
  have tt:tI (hm a b:Nat) (hm a c:Nat) (hm a d:Nat) ((hm a b:Nat)+(hm a c:Nat) - (hm b c:Nat)) ((hm a b:Nat)+(hm a d:Nat) - (hm b d:Nat)) ((hm a c:Nat)+(hm a d:Nat) - (hm c d:Nat))≤10 ^ 9:=bd9 bt
  have ex:=exec_is ha hb hc hd (rng lab) (rng lac) (rng lad) (rng lbc) (rng lbd) (rng lcd) t0
  have k6:=six_ok (rng lab) (rng lac) (rng lad) (rng lbc) (rng lbd) (rng lcd)
  have k4:=four_ok (rng lab) (rng lac) (rng lad) (rng lbc) (rng lbd) (rng lcd) ⟨t0,tt⟩
  have d1:Dok (pts a b c d++six a b c d):=app_ok ha hb hc hd (show 6≤20 by decide) k6
  have d2:Dok (pts a b c d++(sixI (hm a b:Nat) (hm a c:Nat) (hm a d:Nat) (hm b c:Nat) (hm b d:Nat) (hm c d:Nat)++fourI (hm a b:Nat) (hm a c:Nat) (hm a d:Nat) (hm b c:Nat) (hm b d:Nat) (hm c d:Nat))) :=
    app_ok ha hb hc hd (show 10≤20 by decide) fun q hq=>(List.mem_append.mp hq).elim (k6 q) (k4 q)
  have r0:=l0_is hn (vs:=[.pv (.lst (toS ns)),.un,.un,.un,.un,.un,.un,.un,.un,.un,.un,.un,.un]) rfl (show 1<13 by decide)
  rw [hD] at r0
  have r1:=l1_is (x0:=.pv (.lst (toS ns))) (x3:=.un) (x4:=.un) (x5:=.un) (x6:=.un) (x7:=.un) (x8:=.un) (x9:=.un) (x10:=.un) (x11:=.un) (x12:=.un) (a:=D1) (b:=D2) (c:=D3) (d:=D4) (e:=D5)
  have e4:toS [D1.fmod 32,D2.fmod 32,D3.fmod 32,D4.fmod 32]=[.int (a:Nat),.int (b:Nat),.int (c:Nat),.int (d:Nat)]:=by
    rw [show D1.fmod 32=(a:Nat) from ea,show D2.fmod 32=(b:Nat) from eb,show D3.fmod 32=(c:Nat) from ec,show D4.fmod 32=(d:Nat) from ed]; rfl
  rw [e4] at r1
  obtain ⟨y,r3⟩:=l3_is (x0:=.pv (.lst (toS ns))) (x1:=.pv (.lst (toS [D1,D2,D3,D4,D5]))) (x4:=.un) (x5:=.un) (x6:=.un) (x7:=.un) (x8:=.un) (x9:=.un) (x10:=.un) (x11:=.un) (x12:=.un) ha hb hc hd
  have r8:=l8_is (x0:=.pv (.lst (toS ns))) (x1:=.pv (.lst (toS [D1,D2,D3,D4,D5]))) (x2:=.pv (.lst [.int (a:Nat),.int (b:Nat),.int (c:Nat),.int (d:Nat)])) (x3:=.ob (.hdr (toD (pts a b c d++(sixI (hm a b:Nat) (hm a c:Nat) (hm a d:Nat) (hm b c:Nat) (hm b d:Nat) (hm c d:Nat)++fourI (hm a b:Nat) (hm a c:Nat) (hm a d:Nat) (hm b c:Nat) (hm b d:Nat) (hm c d:Nat)))))) (x4:=y) (x7:=.un) (x8:=.un) (x9:=.un) (x10:=.un) (x11:=.un) (x12:=.un)
    (a0:=bI a 0) (a1:=bI a 1) (a2:=bI a 2) (a3:=bI a 3) (a4:=bI a 4) (b0:=bI b 0) (b1:=bI b 1) (b2:=bI b 2) (b3:=bI b 3) (b4:=bI b 4) (c0:=bI c 0) (c1:=bI c 1) (c2:=bI c 2) (c3:=bI c 3) (c4:=bI c 4) (d0:=bI d 0) (d1:=bI d 1) (d2:=bI d 2) (d3:=bI d 3) (d4:=bI d 4)
  have fold:∀ x,[bI x 0,bI x 1,bI x 2,bI x 3,bI x 4]=jY x:=fun _=>rfl
  simp only [fold,nab,nac,nad,nbc,nbd,ncd] at r8
  have r12:=l12_is (x0:=.pv (.lst (toS ns))) (x1:=.pv (.lst (toS [D1,D2,D3,D4,D5]))) (x3:=.ob (.hdr (toD (pts a b c d++(sixI (hm a b:Nat) (hm a c:Nat) (hm a d:Nat) (hm b c:Nat) (hm b d:Nat) (hm c d:Nat)++fourI (hm a b:Nat) (hm a c:Nat) (hm a d:Nat) (hm b c:Nat) (hm b d:Nat) (hm c d:Nat)))))) (x4:=y) (x5:=.pv (bitL a b c d)) (x11:=.pv (.lst [.str (nmC a),.str (nmC b),.str (nmC c),.str (nmC d)]))
    (a:=a) (b:=b) (c:=c) (d:=d) (T:=[(hm a b:Nat),(hm a c:Nat),(hm a d:Nat),(hm b c:Nat),(hm b d:Nat),(hm c d:Nat)]) (W:=[2*dot (dif a b) (dif a c),2*dot (dif a b) (dif a d),2*dot (dif a c) (dif a d)]) (dif_5 a b) (dif_5 a c) (dif_5 a d) (show 6≤10 by decide) (show 3≤10 by decide)
      (all_app (P:=fun i=>small i=true) (all_app (all_app (yu (sm_nat ha (by decide)) (yu (sm_nat hb (by decide)) (yu (sm_nat hc (by decide)) (yu (sm_nat hd (by decide)) all_n)))) (yu (sm5 lab) (yu (sm5 lac) (yu (sm5 lad) (yu (sm5 lbc) (yu (sm5 lbd) (yu (sm5 lcd) all_n)))))))
        (yu (t1 ▸ jW (bd_p lab lac lbc) (by decide)) (yu (t2 ▸ jW (bd_p lab lad lbd) (by decide)) (yu (t3 ▸ jW (bd_p lac lad lcd) (by decide)) all_n)))) (yu (tv ▸ jW bt (by decide)) all_n))
  have r13:=l13_is (x0:=.pv (.lst (toS ns))) (x1:=.pv (.lst (toS [D1,D2,D3,D4,D5]))) (x2:=.pv (.lst [.int (a:Nat),.int (b:Nat),.int (c:Nat),.int (d:Nat)])) (x4:=y) (x5:=.pv (bitL a b c d)) (x6:=.pv (.lst (toS [(hm a b:Nat),(hm a c:Nat),(hm a d:Nat),(hm b c:Nat),(hm b d:Nat),(hm c d:Nat)]))) (x7:=.pv (.lst (toS (dif a b)))) (x8:=.pv (.lst (toS (dif a c)))) (x9:=.pv (.lst (toS (dif a d)))) (x10:=.pv (.lst (toS [2*dot (dif a b) (dif a c),2*dot (dif a b) (dif a d),2*dot (dif a c) (dif a d)])))
    (K:=[nmC a,nmC b,nmC c,nmC d]) (V:=([(a:Int),(b:Int),(c:Int),(d:Int)]++[((hm a b:Nat):Int),(hm a c:Nat),(hm a d:Nat),(hm b c:Nat),(hm b d:Nat),(hm c d:Nat)]++[2*dot (dif a b) (dif a c),2*dot (dif a b) (dif a d),2*dot (dif a c) (dif a d)]++[4*sqI (dif a b) (dif a c) (dif a d)]).map num) d2 (show 4≤50 by decide) (by
      rw [← t1,← t2,← t3,← tv]; rfl)
  show ((den_law.1 [.pv (.lst (toS ns)),.un,.un,.un,.un,.un,.un,.un,.un,.un,.un,.un,.un]).bind _)=_
  rw [law_eq,ju r0]
  show ((jm d_l1.1 _ [.pv (.lst (toS ns)),.pv (.lst (toS [D1,D2,D3,D4,D5])),.un,.un,.un,.un,.un,.un,.un,.un,.un,.un,.un]).bind _)=_
  rw [ju r1,ju l2_is,ju r3,ju (l4_is ha hb hc hd),ju (l5_is ha hb hc hd hp ep),ju (l6_is d1 (show 10≤100 by decide) ex),ju (l7_is ha hb hc hd)]
  have r9:=l9_is (x0:=.pv (.lst (toS ns))) (x1:=.pv (.lst (toS [D1,D2,D3,D4,D5]))) (x2:=.pv (.lst [.int (a:Nat),.int (b:Nat),.int (c:Nat),.int (d:Nat)])) (x3:=.ob (.hdr (toD (pts a b c d++(sixI (hm a b:Nat) (hm a c:Nat) (hm a d:Nat) (hm b c:Nat) (hm b d:Nat) (hm c d:Nat)++fourI (hm a b:Nat) (hm a c:Nat) (hm a d:Nat) (hm b c:Nat) (hm b d:Nat) (hm c d:Nat)))))) (x4:=y) (x6:=.pv (.lst (toS [(hm a b:Nat),(hm a c:Nat),(hm a d:Nat),(hm b c:Nat),(hm b d:Nat),(hm c d:Nat)]))) (x10:=.un) (x11:=.un) (x12:=.un)
    (a0:=bI a 0) (a1:=bI a 1) (a2:=bI a 2) (a3:=bI a 3) (a4:=bI a 4) (b0:=bI b 0) (b1:=bI b 1) (b2:=bI b 2) (b3:=bI b 3) (b4:=bI b 4) (c0:=bI c 0) (c1:=bI c 1) (c2:=bI c 2) (c3:=bI c 3) (c4:=bI c 4) (d0:=bI d 0) (d1:=bI d 1) (d2:=bI d 2) (d3:=bI d 3) (d4:=bI d 4)
  have r9':d_l9.1 [.pv (.lst (toS ns)),.pv (.lst (toS [D1,D2,D3,D4,D5])),.pv (.lst [.int (a:Nat),.int (b:Nat),.int (c:Nat),.int (d:Nat)]),.ob (.hdr (toD (pts a b c d++(sixI (hm a b:Nat) (hm a c:Nat) (hm a d:Nat) (hm b c:Nat) (hm b d:Nat) (hm c d:Nat)++fourI (hm a b:Nat) (hm a c:Nat) (hm a d:Nat) (hm b c:Nat) (hm b d:Nat) (hm c d:Nat))))),y,.pv (bitL a b c d),.pv (.lst (toS [(hm a b:Nat),(hm a c:Nat),(hm a d:Nat),(hm b c:Nat),(hm b d:Nat),(hm c d:Nat)])),.un,.un,.un,.un,.un,.un] =
    some (.next,[.pv (.lst (toS ns)),.pv (.lst (toS [D1,D2,D3,D4,D5])),.pv (.lst [.int (a:Nat),.int (b:Nat),.int (c:Nat),.int (d:Nat)]),.ob (.hdr (toD (pts a b c d++(sixI (hm a b:Nat) (hm a c:Nat) (hm a d:Nat) (hm b c:Nat) (hm b d:Nat) (hm c d:Nat)++fourI (hm a b:Nat) (hm a c:Nat) (hm a d:Nat) (hm b c:Nat) (hm b d:Nat) (hm c d:Nat))))),y,.pv (bitL a b c d),.pv (.lst (toS [(hm a b:Nat),(hm a c:Nat),(hm a d:Nat),(hm b c:Nat),(hm b d:Nat),(hm c d:Nat)])),.pv (.lst (toS (dif a b))),.pv (.lst (toS (dif a c))),.pv (.lst (toS (dif a d))),.un,.un,.un]):=r9
  have e9:=ju (g:=jm d_l10.1 (jm d_l11.1 (jm d_l12.1 (jm d_l13.1 jr)))) r9'
  have e10:=ju (g:=jm d_l11.1 (jm d_l12.1 (jm d_l13.1 jr))) (l10_is (x0:=.pv (.lst (toS ns))) (x1:=.pv (.lst (toS [D1,D2,D3,D4,D5]))) (x2:=.pv (.lst [.int (a:Nat),.int (b:Nat),.int (c:Nat),.int (d:Nat)])) (x3:=.ob (.hdr (toD (pts a b c d++(sixI (hm a b:Nat) (hm a c:Nat) (hm a d:Nat) (hm b c:Nat) (hm b d:Nat) (hm c d:Nat)++fourI (hm a b:Nat) (hm a c:Nat) (hm a d:Nat) (hm b c:Nat) (hm b d:Nat) (hm c d:Nat)))))) (x4:=y) (x5:=.pv (bitL a b c d)) (x6:=.pv (.lst (toS [(hm a b:Nat),(hm a c:Nat),(hm a d:Nat),(hm b c:Nat),(hm b d:Nat),(hm c d:Nat)]))) (x11:=.un) (x12:=.un) (dif_5 a b) (dif_5 a c) (dif_5 a d))
  refine (congrArg (fun o=>Option.bind o _) ((ju (g:=jm d_l9.1 (jm d_l10.1 (jm d_l11.1 (jm d_l12.1 (jm d_l13.1 jr))))) r8).trans (e9.trans (e10.trans ((ju (l11_is ha hb hc hd)).trans ((ju r12).trans (seq_ret r13))))))).trans ?_
  rfl
structure K3 (P:Params) (K:Frag) (p:Program) (HC T T' p1 p2:Addr):Prop where
  blt:KBlt K
  hmg:nsIn K mainGlobals "Headers"=some (some (.ref HC))
  m_MOVE_COST:∃ t,nsIn K mainGlobals "_MOVE_COST"=some (some (.int 2 t))
  m_CASE_COST:∃ t,nsIn K mainGlobals "_CASE_COST"=some (some (.int 1 t))
  m_MAX:∃ t,nsIn K mainGlobals "_MAX_STRING_SIZE"=some (some (.int 40 t))
  m_NT:∃ t,nsIn K mainGlobals "NT_OFFSET"=some (some (.int 256 t))
  m_END:∃ t,nsIn K mainGlobals "ENDMARKER"=some (some (.int 0 t))
  tI:KTabI K "COMPILER_FLAG_NAMES" tabI3
  tS:KTabS P K "EXACT_TOKEN_TYPES" tabS3
  f10:FnIs p (st3 10)
  f11:FnIs p (st3 11)
  f64:FnIs p (st3 64)
  f65:FnIs p (st3 65)
  f6:FnIs p (st3 6)
  f7:FnIs p (st3 7)
  f73:FnIs p (st3 73)
  f74:FnIs p (st3 74)
  f75:FnIs p (st3 75)
  f76:FnIs p (st3 76)
  f77:FnIs p (st3 77)
  f78:FnIs p (st3 78)
  hin:HIn K HC
  nos:noSeq K HC=true
  new:NIn K HC (mt3 0) (.ref T') .none
  none':NoneAt K T'
  conv:MIn K HC "_convert_string_type" (mt3 1) .none .none
  get:MIn K HC "get" (mt3 8) (.ref T) .none
  none0:NoneAt K T
  ga:MIn K HC "get_all" (mt3 7) .none .none
  ah:MIn K HC "add_header" (mt3 16) .none .none
  items:MIn K HC "items" (mt3 11) .none .none
  keys:MIn K HC "keys" (mt3 9) .none .none
  si:MIn K HC "__setitem__" (mt3 3) .none .none
  di:MIn K HC "__delitem__" (mt3 4) .none .none
  r1:nsIn K mainGlobals "_name_disallowed_re"=some (some (.ref p1))
  r2:nsIn K mainGlobals "_value_disallowed_re"=some (some (.ref p2))
  o1:PatIn K p1 vV
  o2:PatIn K p2 code2
  ne:p2 ≠ p1
section
variable {prog:Program} {w:World} {h:Heap} {mg mb:Str→Option Value} {K:Frag} {HC T T' p1 p2:Addr} {p:Program} {loose:List Str} {mean:ExcName→Option Value}
theorem e3_in (X:K.In h) (Tp:Top p loose mean mg mb h) (k:K3 w.params K p HC T T' p1 p2) (hf1:∀ m:Sre.M,m.code=vV→m.hasFirstSet=true) (hf2:∀ m:Sre.M,m.code=code2→m.hasFirstSet=true):E3 ⟨prog,w,h,HC,mg,mb⟩:=by
  have ok:GOk ⟨prog,w,h,HC,mg,mb⟩:=⟨Tp.g,Tp.b,Tp.nolimit⟩
  have b:Blt ⟨prog,w,h,HC,mg,mb⟩:=blt_in X Tp k.blt
  have ci:∀ {x:Str} {i:Int},(∃ t,nsIn K mainGlobals x=some (some (.int i t)))→∃ t,mg x=some (.int i t):=fun ⟨t,e⟩=>⟨t,mg_of X Tp.g e⟩
  have hc:HCls ⟨prog,w,h,HC,mg,mb⟩:=⟨K,X,k.hin.1,k.hin.2.1,k.hin.2.2⟩
  have re:Re1 ⟨prog,w,h,HC,mg,mb⟩ p1 p2:=⟨mg_of X Tp.g k.r1,mg_of X Tp.g k.r2,pat_in X k.o1 hf1,pat_in X k.o2 hf2,k.ne⟩
  have H1':H1 ⟨prog,w,h,HC,mg,mb⟩:=⟨ok,hc,h_conv ok b re (mAt_in X k.conv)⟩
  have ns:NoSeq ⟨prog,w,h,HC,mg,mb⟩:=⟨K,X,k.nos⟩
  have H3':H3 ⟨prog,w,h,HC,mg,mb⟩:=⟨H1',ns,h_di H1' (mAt_in X k.di)⟩
  have e1:E3a ⟨prog,w,h,HC,mg,mb⟩:=⟨ok,b,ci k.m_MOVE_COST,ci k.m_CASE_COST,ci k.m_MAX,ci k.m_NT,ci k.m_END,tabI_in X Tp.g k.tI,tabS_in X Tp.g k.tS,
    yM Tp k.f10,yM Tp k.f11,yM Tp k.f64,yM Tp k.f65,yM Tp k.f6,yM Tp k.f7,yM Tp k.f73,yM Tp k.f75,yM Tp k.f77⟩
  exact ⟨e1,h_ah H1' (mAt_in X k.ah),h_items H1' (mAt_in X k.items),h_keys H1' (mAt_in X k.keys),h_ga H1' (mAt_in X k.ga),⟨T,h_get H1' (mAt_in X k.get),none_in X k.none0⟩,ns,h_si H3' (mAt_in X k.si),yM Tp k.f74,yM Tp k.f76,yM Tp k.f78,
    fun {r ks kk p lp pos} hr hk=>h_new ok b (hmk_in X k.new) (none_in X k.none') (mg_of X Tp.g k.hmg) hr hk⟩
end
theorem wellAll_ints {P:Params} {h:Heap} {B:PM}:∀ {vs:List Value} {ns:List Int},WellAll P h vs (ns.map fun i=>WData.int i)→RVs B (toS ns) vs
  | [],[],_=>.nil
  | [],_::_,h=>nomatch h
  | _::_,[],h=>nomatch h
  | v::vs,n::ns,h=>by
    cases h with
    | cons h1 h2 =>
      cases h1
      exact .cons (.int _ _) (wellAll_ints h2)
theorem ofPys_ints:∀ ns:List Int,ofPys (ns.map PyData.int)=ns.map fun i=>WData.int i
  | []=>by simp [ofPys]
  | n::ns=>by simp [ofPys,ofPy,ofPys_ints ns]
theorem well_list {P:Params} {h:Heap} {a:Addr} {ns:List Int} (W:Well P h (.ref a) (ofPy (.list (ns.map .int)))):∃ vs,h.get? a=some (lobj vs 0)∧∀ B,RVs B (toS ns) vs:=by
  have e:ofPy (PyData.list (List.map PyData.int ns))=WData.list (ns.map fun i=>WData.int i):=by simp [ofPy,ofPys_ints]
  rw [e] at W
  cases W with
  | list h1 h2=>exact ⟨_,h1,fun B=>wellAll_ints h2⟩
section
variable {prog:Program} {w:World} {mg mb:Str→Option Value} {K:Frag} {HC T T' p1 p2:Addr} {p:Program} {loose:List Str} {mean:ExcName→Option Value} {s₁ : Shared}
theorem law03 (X:K.In s₁.heap) (Tp:Top p loose mean mg mb s₁.heap) (k:∃ HC T T' p1 p2,K3 w.params K p HC T T' p1 p2) {fa a:Addr} {ns:List Int} (hfa:mg "law"=some (.ref fa)) (W:Well w.params s₁.heap (.ref a) (ofPy (.list (ns.map .int)))) (hn:ns.length≤63)
    {Q:Value→Shared→Prop} {E:Value→Shared→Prop} (q:∀ s',Sh s₁ s'→(∀ b o,s₁.heap.get? b=some o→s'.heap.get? b=some o)→Q (.bool true) s') :
    wpAny (model prog w) callerA (call (.ref fa) [.ref a]) Q E s₁:=by
  obtain ⟨HC,T,T',p1,p2,k⟩:=k
  have E3':E3 ⟨prog,w,s₁.heap,HC,mg,mb⟩:=e3_in X Tp k (fun m e=>by unfold Sre.M.hasFirstSet; rw [e]; rfl) (fun m e=>by unfold Sre.M.hasFirstSet; rw [e]; rfl)
  obtain ⟨fa',fo,pm,cd,doc,h1,h2,h3,sp⟩:=h_law E3'
  have e:fa'=fa:=by
    have h1:mg "law"=some (.ref fa'):=h1
    rw [hfa] at h1; injection h1 with h1; injection h1 with h1; subst h1; rfl
  subst e
  obtain ⟨vs,ha,hv⟩:=well_list W
  have C:CallIn ⟨prog,w,s₁.heap,HC,mg,mb⟩ s₁.heap.get? s₁.heap.get? s₁.heap [.pv (.lst (toS ns))] [.ref a] [[]]:=by
    refine ⟨Nat.le_refl _,fun _ _ e=>e,fun _ _ e=>e,fun _ _ e=>e,rfl,rfl,fun k sl e=>?_,fun k b hb=>?_,fun i j b hb=>?_⟩
    · match k with
      | 0=>injection e with e; subst e; exact ⟨.lst ha (hv _),rfl⟩
      | k+1=>exact jb e
    · match k with
      | 0=>cases hb
      | k+1=>cases hb
    · match i with
      | 0=>cases hb
      | k+1=>cases hb
  have R:Room callerA 5:=⟨rfl,by show 1+300+2*5<1000; decide,by show 4+16*5+200<9900; decide⟩
  refine wpAny_mono (sp callerA _ _ s₁ _ ⟨[.ref a],[]⟩ [.ref a] [[]] _ _ (law_true ns hn) R C (binds1 (fun _=>rfl) s₁ [.ref a] rfl)) (fun v s' c=>?_) fun _ _ f=>f.elim
  obtain ⟨sh,B',F,x1,hB,hP,_,hv',_⟩:=c
  have hv':=hv'.1
  apply RV.bool_ hv'
  exact q s' sh hP
end
end Ab
namespace Hd
open PySem PySem.W PyProof.Rows
noncomputable abbrev vs (z:Str) (n:Nat):Value:=.str z n
noncomputable abbrev vr (n:Nat):Value:=.ref n
noncomputable abbrev vi (i:Int) (n:Nat):Value:=.int i n
noncomputable abbrev de (P:Params) (z:Str) (n:Nat) (v:Value):DictEntry:=⟨PyData.keyHash P z,.str z n,v⟩
noncomputable def twp:Program:=PySem.Challenge.pw_sn0088_03
noncomputable def st (i:Nat):Stmt:=twp.main.body.getD i default
noncomputable def sCBody:Stmt→List Stmt
  | .ClassDef (body:=x) ..=>x
  | _=>[]
noncomputable def ct (j:Nat):Stmt:=(sCBody (st 71)).getD j default
noncomputable def sArgs:Stmt→Arguments
  | .FunctionDef _ a ..=>a
  | _=>default
noncomputable def sBody:Stmt→List Stmt
  | .FunctionDef _ _ b ..=>b
  | _=>[]
noncomputable def sScope:Stmt→Scope
  | .FunctionDef _ _ _ _ _ _ sc ..=>sc
  | _=>default
noncomputable abbrev tu (l:List Value) (n:Nat):Obj:=.mk (.type "tuple") none (.seq l.toArray n) #[]
noncomputable abbrev fl (l:List Value):Obj:=.mk .none none (.fields l.toArray) #[]
noncomputable abbrev co (l:List Value):Obj:=.mk (.type "code") none (.fields l.toArray) #[]
noncomputable abbrev nn:Value:=.none
noncomputable abbrev bF:Value:=.bool false
noncomputable abbrev fd (z y:Str) (j:Nat):Obj:=.mk .none none (.func (.mk z y (sArgs (ct j)) (.stmts (sBody (ct j))) (sScope (ct j)) 0 [] .none .none .none .none none .none .none 0)) #[]
noncomputable abbrev fs (z y:Str) (j:Nat):Obj:=.mk .none none (.func (.mk z y (sArgs (st j)) (.stmts (sBody (st j))) (sScope (st j)) 0 [] .none .none .none .none none .none .none 0)) #[]
abbrev PO:Type:=Params→Obj
abbrev PT:Type:=Params→BT
noncomputable abbrev N:Obj→BT→BT→BT:=BT.node
noncomputable abbrev Z:BT:=BT.nil
noncomputable abbrev L (o:Obj):BT:=N o Z Z
noncomputable abbrev S (l:List Nat):Str:=⟨⟨l⟩⟩
noncomputable def z0:=S [95,95,110,97,109,101,95,95]
noncomputable def z1:=S [98,117,105,108,116,105,110,115]
noncomputable def z2:=S [95,95,100,111,99,95,95]
noncomputable def z3:=S [95,95,112,97,99,107,97,103,101,95,95]
noncomputable def z4:=S [95,95,108,111,97,100,101,114,95,95]
noncomputable def z5:=S [95,95,115,112,101,99,95,95]
noncomputable def z6:=S [95,95,98,117,105,108,100,95,99,108,97,115,115,95,95]
noncomputable def z7:=S [95,95,105,109,112,111,114,116,95,95]
noncomputable def z8:=S [97,98,115]
noncomputable def z9:=S [97,108,108]
noncomputable def z10:=S [97,110,121]
noncomputable def z11:=S [97,115,99,105,105]
noncomputable def z12:=S [98,105,110]
noncomputable def z13:=S [98,114,101,97,107,112,111,105,110,116]
noncomputable def z14:=S [99,97,108,108,97,98,108,101]
noncomputable def z15:=S [99,104,114]
noncomputable def z16:=S [99,111,109,112,105,108,101]
noncomputable def z17:=S [100,101,108,97,116,116,114]
noncomputable def z18:=S [100,105,114]
noncomputable def z19:=S [100,105,118,109,111,100]
noncomputable def z20:=S [101,118,97,108]
noncomputable def z21:=S [101,120,101,99]
noncomputable def z22:=S [102,111,114,109,97,116]
noncomputable def z23:=S [103,101,116,97,116,116,114]
noncomputable def z24:=S [103,108,111,98,97,108,115]
noncomputable def z25:=S [104,97,115,97,116,116,114]
noncomputable def z26:=S [104,97,115,104]
noncomputable def z27:=S [104,101,120]
noncomputable def z28:=S [105,100]
noncomputable def z29:=S [105,110,112,117,116]
noncomputable def z30:=S [105,115,105,110,115,116,97,110,99,101]
noncomputable def z31:=S [105,115,115,117,98,99,108,97,115,115]
noncomputable def z32:=S [105,116,101,114]
noncomputable def z33:=S [97,105,116,101,114]
noncomputable def z34:=S [108,101,110]
noncomputable def z35:=S [108,111,99,97,108,115]
noncomputable def z36:=S [109,97,120]
noncomputable def z37:=S [109,105,110]
noncomputable def z38:=S [110,101,120,116]
noncomputable def z39:=S [97,110,101,120,116]
noncomputable def z40:=S [111,99,116]
noncomputable def z41:=S [111,114,100]
noncomputable def z42:=S [112,111,119]
noncomputable def z43:=S [112,114,105,110,116]
noncomputable def z44:=S [114,101,112,114]
noncomputable def z45:=S [114,111,117,110,100]
noncomputable def z46:=S [115,101,116,97,116,116,114]
noncomputable def z47:=S [115,111,114,116,101,100]
noncomputable def z48:=S [115,117,109]
noncomputable def z49:=S [118,97,114,115]
noncomputable def z50:=S [78,111,110,101]
noncomputable def z51:=S [69,108,108,105,112,115,105,115]
noncomputable def z52:=S [78,111,116,73,109,112,108,101,109,101,110,116,101,100]
noncomputable def z53:=S [70,97,108,115,101]
noncomputable def z54:=S [84,114,117,101]
noncomputable def z55:=S [98,111,111,108]
noncomputable def z56:=S [109,101,109,111,114,121,118,105,101,119]
noncomputable def z57:=S [98,121,116,101,97,114,114,97,121]
noncomputable def z58:=S [98,121,116,101,115]
noncomputable def z59:=S [99,108,97,115,115,109,101,116,104,111,100]
noncomputable def z60:=S [99,111,109,112,108,101,120]
noncomputable def z61:=S [100,105,99,116]
noncomputable def z62:=S [101,110,117,109,101,114,97,116,101]
noncomputable def z63:=S [102,105,108,116,101,114]
noncomputable def z64:=S [102,108,111,97,116]
noncomputable def z65:=S [102,114,111,122,101,110,115,101,116]
noncomputable def z66:=S [112,114,111,112,101,114,116,121]
noncomputable def z67:=S [105,110,116]
noncomputable def z68:=S [108,105,115,116]
noncomputable def z69:=S [109,97,112]
noncomputable def z70:=S [111,98,106,101,99,116]
noncomputable def z71:=S [114,97,110,103,101]
noncomputable def z72:=S [114,101,118,101,114,115,101,100]
noncomputable def z73:=S [115,101,116]
noncomputable def z74:=S [115,108,105,99,101]
noncomputable def z75:=S [115,116,97,116,105,99,109,101,116,104,111,100]
noncomputable def z76:=S [115,116,114]
noncomputable def z77:=S [115,117,112,101,114]
noncomputable def z78:=S [116,117,112,108,101]
noncomputable def z79:=S [116,121,112,101]
noncomputable def z80:=S [122,105,112]
noncomputable def z81:=S [95,95,100,101,98,117,103,95,95]
noncomputable def z82:=S [66,97,115,101,69,120,99,101,112,116,105,111,110]
noncomputable def z83:=S [66,97,115,101,69,120,99,101,112,116,105,111,110,71,114,111,117,112]
noncomputable def z84:=S [69,120,99,101,112,116,105,111,110]
noncomputable def z85:=S [71,101,110,101,114,97,116,111,114,69,120,105,116]
noncomputable def z86:=S [75,101,121,98,111,97,114,100,73,110,116,101,114,114,117,112,116]
noncomputable def z87:=S [83,121,115,116,101,109,69,120,105,116]
noncomputable def z88:=S [65,114,105,116,104,109,101,116,105,99,69,114,114,111,114]
noncomputable def z89:=S [65,115,115,101,114,116,105,111,110,69,114,114,111,114]
noncomputable def z90:=S [65,116,116,114,105,98,117,116,101,69,114,114,111,114]
noncomputable def z91:=S [66,117,102,102,101,114,69,114,114,111,114]
noncomputable def z92:=S [69,79,70,69,114,114,111,114]
noncomputable def z93:=S [73,109,112,111,114,116,69,114,114,111,114]
noncomputable def z94:=S [76,111,111,107,117,112,69,114,114,111,114]
noncomputable def z95:=S [77,101,109,111,114,121,69,114,114,111,114]
noncomputable def z96:=S [78,97,109,101,69,114,114,111,114]
noncomputable def z97:=S [79,83,69,114,114,111,114]
noncomputable def z98:=S [82,101,102,101,114,101,110,99,101,69,114,114,111,114]
noncomputable def z99:=S [82,117,110,116,105,109,101,69,114,114,111,114]
noncomputable def z100:=S [83,116,111,112,65,115,121,110,99,73,116,101,114,97,116,105,111,110]
noncomputable def z101:=S [83,116,111,112,73,116,101,114,97,116,105,111,110]
noncomputable def z102:=S [83,121,110,116,97,120,69,114,114,111,114]
noncomputable def z103:=S [83,121,115,116,101,109,69,114,114,111,114]
noncomputable def z104:=S [84,121,112,101,69,114,114,111,114]
noncomputable def z105:=S [86,97,108,117,101,69,114,114,111,114]
noncomputable def z106:=S [87,97,114,110,105,110,103]
noncomputable def z107:=S [70,108,111,97,116,105,110,103,80,111,105,110,116,69,114,114,111,114]
noncomputable def z108:=S [79,118,101,114,102,108,111,119,69,114,114,111,114]
noncomputable def z109:=S [90,101,114,111,68,105,118,105,115,105,111,110,69,114,114,111,114]
noncomputable def z110:=S [66,121,116,101,115,87,97,114,110,105,110,103]
noncomputable def z111:=S [68,101,112,114,101,99,97,116,105,111,110,87,97,114,110,105,110,103]
noncomputable def z112:=S [69,110,99,111,100,105,110,103,87,97,114,110,105,110,103]
noncomputable def z113:=S [70,117,116,117,114,101,87,97,114,110,105,110,103]
noncomputable def z114:=S [73,109,112,111,114,116,87,97,114,110,105,110,103]
noncomputable def z115:=S [80,101,110,100,105,110,103,68,101,112,114,101,99,97,116,105,111,110,87,97,114,110,105,110,103]
noncomputable def z116:=S [82,101,115,111,117,114,99,101,87,97,114,110,105,110,103]
noncomputable def z117:=S [82,117,110,116,105,109,101,87,97,114,110,105,110,103]
noncomputable def z118:=S [83,121,110,116,97,120,87,97,114,110,105,110,103]
noncomputable def z119:=S [85,110,105,99,111,100,101,87,97,114,110,105,110,103]
noncomputable def z120:=S [85,115,101,114,87,97,114,110,105,110,103]
noncomputable def z121:=S [66,108,111,99,107,105,110,103,73,79,69,114,114,111,114]
noncomputable def z122:=S [67,104,105,108,100,80,114,111,99,101,115,115,69,114,114,111,114]
noncomputable def z123:=S [67,111,110,110,101,99,116,105,111,110,69,114,114,111,114]
noncomputable def z124:=S [70,105,108,101,69,120,105,115,116,115,69,114,114,111,114]
noncomputable def z125:=S [70,105,108,101,78,111,116,70,111,117,110,100,69,114,114,111,114]
noncomputable def z126:=S [73,110,116,101,114,114,117,112,116,101,100,69,114,114,111,114]
noncomputable def z127:=S [73,115,65,68,105,114,101,99,116,111,114,121,69,114,114,111,114]
noncomputable def z128:=S [78,111,116,65,68,105,114,101,99,116,111,114,121,69,114,114,111,114]
noncomputable def z129:=S [80,101,114,109,105,115,115,105,111,110,69,114,114,111,114]
noncomputable def z130:=S [80,114,111,99,101,115,115,76,111,111,107,117,112,69,114,114,111,114]
noncomputable def z131:=S [84,105,109,101,111,117,116,69,114,114,111,114]
noncomputable def z132:=S [73,110,100,101,110,116,97,116,105,111,110,69,114,114,111,114]
noncomputable def z133:=S [95,73,110,99,111,109,112,108,101,116,101,73,110,112,117,116,69,114,114,111,114]
noncomputable def z134:=S [73,110,100,101,120,69,114,114,111,114]
noncomputable def z135:=S [75,101,121,69,114,114,111,114]
noncomputable def z136:=S [77,111,100,117,108,101,78,111,116,70,111,117,110,100,69,114,114,111,114]
noncomputable def z137:=S [78,111,116,73,109,112,108,101,109,101,110,116,101,100,69,114,114,111,114]
noncomputable def z138:=S [80,121,116,104,111,110,70,105,110,97,108,105,122,97,116,105,111,110,69,114,114,111,114]
noncomputable def z139:=S [82,101,99,117,114,115,105,111,110,69,114,114,111,114]
noncomputable def z140:=S [85,110,98,111,117,110,100,76,111,99,97,108,69,114,114,111,114]
noncomputable def z141:=S [85,110,105,99,111,100,101,69,114,114,111,114]
noncomputable def z142:=S [66,114,111,107,101,110,80,105,112,101,69,114,114,111,114]
noncomputable def z143:=S [67,111,110,110,101,99,116,105,111,110,65,98,111,114,116,101,100,69,114,114,111,114]
noncomputable def z144:=S [67,111,110,110,101,99,116,105,111,110,82,101,102,117,115,101,100,69,114,114,111,114]
noncomputable def z145:=S [67,111,110,110,101,99,116,105,111,110,82,101,115,101,116,69,114,114,111,114]
noncomputable def z146:=S [84,97,98,69,114,114,111,114]
noncomputable def z147:=S [85,110,105,99,111,100,101,68,101,99,111,100,101,69,114,114,111,114]
noncomputable def z148:=S [85,110,105,99,111,100,101,69,110,99,111,100,101,69,114,114,111,114]
noncomputable def z149:=S [85,110,105,99,111,100,101,84,114,97,110,115,108,97,116,101,69,114,114,111,114]
noncomputable def z150:=S [69,120,99,101,112,116,105,111,110,71,114,111,117,112]
noncomputable def z151:=S [69,110,118,105,114,111,110,109,101,110,116,69,114,114,111,114]
noncomputable def z152:=S [73,79,69,114,114,111,114]
noncomputable def z153:=S [111,112,101,110]
noncomputable def z154:=S [113,117,105,116]
noncomputable def z155:=S [101,120,105,116]
noncomputable def z156:=S [99,111,112,121,114,105,103,104,116]
noncomputable def z157:=S [99,114,101,100,105,116,115]
noncomputable def z158:=S [108,105,99,101,110,115,101]
noncomputable def z159:=S [104,101,108,112]
noncomputable def z160:=S [95,95,109,97,105,110,95,95]
noncomputable def z161:=S [95,115,114,101]
noncomputable def z162:=S [95,95,97,110,110,111,116,97,116,105,111,110,115,95,95]
noncomputable def z163:=S [95,95,98,117,105,108,116,105,110,115,95,95]
noncomputable def z164:=S [95,95,102,105,108,101,95,95]
noncomputable def z165:=S [47,99,108,97,105,109,47,99,117,116,46,112,121]
noncomputable def z166:=S [95,95,99,97,99,104,101,100,95,95]
noncomputable def z167:=S [95,99,97,99,104,101,100]
noncomputable def z168:=S [95,115,101,116,95,102,105,108,101,97,116,116,114]
noncomputable def z169:=S [95,117,110,105,110,105,116,105,97,108,105,122,101,100,95,115,117,98,109,111,100,117,108,101,115]
noncomputable def z170:=S [108,111,97,100,101,114]
noncomputable def z171:=S [108,111,97,100,101,114,95,115,116,97,116,101]
noncomputable def z172:=S [110,97,109,101]
noncomputable def z173:=S [111,114,105,103,105,110]
noncomputable def z174:=S [115,117,98,109,111,100,117,108,101,95,115,101,97,114,99,104,95,108,111,99,97,116,105,111,110,115]
noncomputable def z175:=S []
noncomputable def z176:=S [116,101,109,112,108,97,116,101]
noncomputable def z177:=S [103,101,116,99,111,100,101,115,105,122,101]
noncomputable def z178:=S [97,115,99,105,105,95,105,115,99,97,115,101,100]
noncomputable def z179:=S [117,110,105,99,111,100,101,95,105,115,99,97,115,101,100]
noncomputable def z180:=S [97,115,99,105,105,95,116,111,108,111,119,101,114]
noncomputable def z181:=S [117,110,105,99,111,100,101,95,116,111,108,111,119,101,114]
noncomputable def z182:=S [77,65,71,73,67]
noncomputable def z183:=S [67,79,68,69,83,73,90,69]
noncomputable def z184:=S [77,65,88,82,69,80,69,65,84]
noncomputable def z185:=S [77,65,88,71,82,79,85,80,83]
noncomputable def z186:=S [32,83,82,69,32,50,46,50,46,50,32,67,111,112,121,114,105,103,104,116,32,40,99,41,32,49,57,57,55,45,50,48,48,50,32,98,121,32,83,101,99,114,101,116,32,76,97,98,115,32,65,66,32]
noncomputable def z187:=S [60,109,111,100,117,108,101,62]
noncomputable def z188:=S [95,95,119,101,97,107,114,101,102,95,95]
noncomputable def z189:=S [95,95,109,111,100,117,108,101,95,95]
noncomputable def z190:=S [95,102,114,111,122,101,110,95,105,109,112,111,114,116,108,105,98]
noncomputable def z191:=S [95,95,102,105,114,115,116,108,105,110,101,110,111,95,95]
noncomputable def z192:=S [95,79,82,73,71,73,78]
noncomputable def z193:=S [98,117,105,108,116,45,105,110]
noncomputable def z194:=S [102,105,110,100,95,115,112,101,99]
noncomputable def z195:=S [99,114,101,97,116,101,95,109,111,100,117,108,101]
noncomputable def z196:=S [101,120,101,99,95,109,111,100,117,108,101]
noncomputable def z197:=S [103,101,116,95,99,111,100,101]
noncomputable def z198:=S [103,101,116,95,115,111,117,114,99,101]
noncomputable def z199:=S [105,115,95,112,97,99,107,97,103,101]
noncomputable def z200:=S [108,111,97,100,95,109,111,100,117,108,101]
noncomputable def z201:=S [95,95,115,116,97,116,105,99,95,97,116,116,114,105,98,117,116,101,115,95,95]
noncomputable def z202:=S [95,95,100,105,99,116,95,95]
noncomputable def z203:=S [95,95,105,110,105,116,95,95]
noncomputable def z204:=S [95,95,114,101,112,114,95,95]
noncomputable def z205:=S [95,95,101,113,95,95]
noncomputable def z206:=S [99,97,99,104,101,100]
noncomputable def z207:=S [112,97,114,101,110,116]
noncomputable def z208:=S [104,97,115,95,108,111,99,97,116,105,111,110]
noncomputable def z209:=S [95,95,104,97,115,104,95,95]
noncomputable def z210:=S [105,109,112,111,114,116,46,108,111,97,100,101,100,46,95,115,114,101]
noncomputable def z211:=S [99,108,97,115,115,46,95,102,114,111,122,101,110,95,105,109,112,111,114,116,108,105,98,46,66,117,105,108,116,105,110,73,109,112,111,114,116,101,114]
noncomputable def z212:=S [119,97,116,99,104,101,100,46,105,109,112,111,114,116]
noncomputable def z213:=S [99,108,97,115,115,46,95,102,114,111,122,101,110,95,105,109,112,111,114,116,108,105,98,46,77,111,100,117,108,101,83,112,101,99]
noncomputable def z214:=S [115,121,115,46,109,111,100,117,108,101,115,46,98,111,111,107,101,100,45,101,112,111,99,104]
noncomputable def z215:=S [105,109,112,111,114,116,46,108,97,116,101,114,45,108,97,105,100,46,95,115,114,101]
noncomputable def z216:=S [119,97,116,99,104,101,100,46,108,105,98,114,97,114,121]
noncomputable def z217:=S [119,97,116,99,104,101,100,46,108,105,98,114,97,114,121,45,111,98,106,101,99,116,115]
noncomputable def z218:=S [12]
noncomputable def z219:=S [119,97,116,99,104,101,100,46,108,105,98,114,97,114,121,45,100,101,101,112,46,95,115,114,101]
noncomputable def z220:=S [4,0,0,11,4,0,0,11,4,0,0,3,4,0,0,11,8,4,100,105,99,116,2]
noncomputable def z221:=S [95,105,110,105,116,105,97,108,105,122,105,110,103]
noncomputable def z222:=S [6,189,10,95,95,109,111,100,117,108,101,95,95,6,186,17,95,102,114,111,122,101,110,95,105,109,112,111,114,116,108,105,98,6,190,15,95,95,102,105,114,115,116,108,105,110,101,110,111,95,95,4,187,0,971,6,191,7,95,95,100,111,99,95,95,9,52,95,102,114,111,122,101,110,95,105,109,112,111,114,116,108,105,98,46,66,117,105,108,116,105,110,73,109,112,111,114,116,101,114,46,95,95,100,111,99,95,95,58,115,116,114,35,111,112,97,113,117,101,6,192,7,95,79,82,73,71,73,78,6,188,8,98,117,105,108,116,45,105,110,6,193,9,102,105,110,100,95,115,112,101,99,9,50,95,102,114,111,122,101,110,95,105,109,112,111,114,116,108,105,98,46,66,117,105,108,116,105,110,73,109,112,111,114,116,101,114,46,102,105,110,100,95,115,112,101,99,35,111,112,97,113,117,101,6,194,13,99,114,101,97,116,101,95,109,111,100,117,108,101,9,54,95,102,114,111,122,101,110,95,105,109,112,111,114,116,108,105,98,46,66,117,105,108,116,105,110,73,109,112,111,114,116,101,114,46,99,114,101,97,116,101,95,109,111,100,117,108,101,35,111,112,97,113,117,101,6,195,11,101,120,101,99,95,109,111,100,117,108,101,9,52,95,102,114,111,122,101,110,95,105,109,112,111,114,116,108,105,98,46,66,117,105,108,116,105,110,73,109,112,111,114,116,101,114,46,101,120,101,99,95,109,111,100,117,108,101,35,111,112,97,113,117,101,6,196,8,103,101,116,95,99,111,100,101,9,49,95,102,114,111,122,101,110,95,105,109,112,111,114,116,108,105,98,46,66,117,105,108,116,105,110,73,109,112,111,114,116,101,114,46,103,101,116,95,99,111,100,101,35,111,112,97,113,117,101,6,197,10,103,101,116,95,115,111,117,114,99,101,9,51,95,102,114,111,122,101,110,95,105,109,112,111,114,116,108,105,98,46,66,117,105,108,116,105,110,73,109,112,111,114,116,101,114,46,103,101,116,95,115,111,117,114,99,101,35,111,112,97,113,117,101,6,198,10,105,115,95,112,97,99,107,97,103,101,9,51,95,102,114,111,122,101,110,95,105,109,112,111,114,116,108,105,98,46,66,117,105,108,116,105,110,73,109,112,111,114,116,101,114,46,105,115,95,112,97,99,107,97,103,101,35,111,112,97,113,117,101,6,199,11,108,111,97,100,95,109,111,100,117,108,101,9,52,95,102,114,111,122,101,110,95,105,109,112,111,114,116,108,105,98,46,66,117,105,108,116,105,110,73,109,112,111,114,116,101,114,46,108,111,97,100,95,109,111,100,117,108,101,35,111,112,97,113,117,101,6,200,21,95,95,115,116,97,116,105,99,95,97,116,116,114,105,98,117,116,101,115,95,95,4,0,0,15,6,202,8,95,95,100,105,99,116,95,95,4,0,0,16,6,204,11,95,95,119,101,97,107,114,101,102,95,95,4,0,0,17]
noncomputable def z223:=S [6,227,10,95,95,109,111,100,117,108,101,95,95,6,217,17,95,102,114,111,122,101,110,95,105,109,112,111,114,116,108,105,98,6,228,15,95,95,102,105,114,115,116,108,105,110,101,110,111,95,95,4,218,0,562,6,229,7,95,95,100,111,99,95,95,9,47,95,102,114,111,122,101,110,95,105,109,112,111,114,116,108,105,98,46,77,111,100,117,108,101,83,112,101,99,46,95,95,100,111,99,95,95,58,115,116,114,35,111,112,97,113,117,101,6,230,8,95,95,105,110,105,116,95,95,9,44,95,102,114,111,122,101,110,95,105,109,112,111,114,116,108,105,98,46,77,111,100,117,108,101,83,112,101,99,46,95,95,105,110,105,116,95,95,35,111,112,97,113,117,101,6,231,8,95,95,114,101,112,114,95,95,9,44,95,102,114,111,122,101,110,95,105,109,112,111,114,116,108,105,98,46,77,111,100,117,108,101,83,112,101,99,46,95,95,114,101,112,114,95,95,35,111,112,97,113,117,101,6,232,6,95,95,101,113,95,95,9,42,95,102,114,111,122,101,110,95,105,109,112,111,114,116,108,105,98,46,77,111,100,117,108,101,83,112,101,99,46,95,95,101,113,95,95,35,111,112,97,113,117,101,6,233,6,99,97,99,104,101,100,9,42,95,102,114,111,122,101,110,95,105,109,112,111,114,116,108,105,98,46,77,111,100,117,108,101,83,112,101,99,46,99,97,99,104,101,100,35,111,112,97,113,117,101,6,234,6,112,97,114,101,110,116,9,42,95,102,114,111,122,101,110,95,105,109,112,111,114,116,108,105,98,46,77,111,100,117,108,101,83,112,101,99,46,112,97,114,101,110,116,35,111,112,97,113,117,101,6,235,12,104,97,115,95,108,111,99,97,116,105,111,110,9,48,95,102,114,111,122,101,110,95,105,109,112,111,114,116,108,105,98,46,77,111,100,117,108,101,83,112,101,99,46,104,97,115,95,108,111,99,97,116,105,111,110,35,111,112,97,113,117,101,6,236,21,95,95,115,116,97,116,105,99,95,97,116,116,114,105,98,117,116,101,115,95,95,4,0,0,23,6,238,8,95,95,100,105,99,116,95,95,4,0,0,24,6,240,11,95,95,119,101,97,107,114,101,102,95,95,4,0,0,25,6,241,8,95,95,104,97,115,104,95,95,0]
noncomputable def z224:=S [66,117,105,108,116,105,110,73,109,112,111,114,116,101,114]
noncomputable def z225:=S [77,111,100,117,108,101,83,112,101,99]
noncomputable def z226:=S [99,112,121,51,49,51,46,116,111,107,101,110]
noncomputable def z227:=S [95,119,97,108,108]
noncomputable def z228:=S [95,77,65,88,95,83,84,82,73,78,71,95,83,73,90,69]
noncomputable def z229:=S [95,77,79,86,69,95,67,79,83,84]
noncomputable def z230:=S [95,67,65,83,69,95,67,79,83,84]
noncomputable def z231:=S [95,115,117,98,115,116,105,116,117,116,105,111,110,95,99,111,115,116]
noncomputable def z232:=S [95,108,101,118,101,110,115,104,116,101,105,110,95,100,105,115,116,97,110,99,101]
noncomputable def z233:=S [67,79,77,80,73,76,69,82,95,70,76,65,71,95,78,65,77,69,83]
noncomputable def z234:=S [112,114,101,116,116,121,95,102,108,97,103,115]
noncomputable def z235:=S [95,112,97,114,115,101,95,118,97,114,105,110,116]
noncomputable def z236:=S [69,78,68,77,65,82,75,69,82]
noncomputable def z237:=S [76,80,65,82]
noncomputable def z238:=S [82,80,65,82]
noncomputable def z239:=S [76,83,81,66]
noncomputable def z240:=S [105,116,101,114,97,116,111,114]
noncomputable def z241:=S [98]
noncomputable def z242:=S [118,97,108]
noncomputable def z243:=S [99,112,121,51,49,51,46,100,105,115]
noncomputable def z244:=S [99,104,95,97]
noncomputable def z245:=S [99,104,95,98]
noncomputable def z246:=S [79,80,84,73,77,73,90,69,68]
noncomputable def z247:=S [78,69,87,76,79,67,65,76,83]
noncomputable def z248:=S [86,65,82,65,82,71,83]
noncomputable def z249:=S [86,65,82,75,69,89,87,79,82,68,83]
noncomputable def z250:=S [78,69,83,84,69,68]
noncomputable def z251:=S [71,69,78,69,82,65,84,79,82]
noncomputable def z252:=S [78,79,70,82,69,69]
noncomputable def z253:=S [67,79,82,79,85,84,73,78,69]
noncomputable def z254:=S [73,84,69,82,65,66,76,69,95,67,79,82,79,85,84,73,78,69]
noncomputable def z255:=S [65,83,89,78,67,95,71,69,78,69,82,65,84,79,82]
noncomputable def z256:=S [99,112,121,51,49,51,46,116,114,97,99,101,98,97,99,107]
noncomputable def z257:=S [97]
noncomputable def z258:=S [109,97,120,95,99,111,115,116]
noncomputable def z259:=S [112,114,101]
noncomputable def z260:=S [112,111,115,116]
noncomputable def z261:=S [114,111,119]
noncomputable def z262:=S [114,101,115,117,108,116]
noncomputable def z263:=S [98,105,110,100,101,120]
noncomputable def z264:=S [98,99,104,97,114]
noncomputable def z265:=S [100,105,115,116,97,110,99,101]
noncomputable def z266:=S [109,105,110,105,109,117,109]
noncomputable def z267:=S [105,110,100,101,120]
noncomputable def z268:=S [115,117,98,115,116,105,116,117,116,101]
noncomputable def z269:=S [105,110,115,101,114,116,95,100,101,108,101,116,101]
noncomputable def z270:=S [102,108,97,103,115]
noncomputable def z271:=S [110,97,109,101,115]
noncomputable def z272:=S [105]
noncomputable def z273:=S [102,108,97,103]
noncomputable def z274:=S [107]
noncomputable def z275:=S [82,83,81,66]
noncomputable def z276:=S [67,79,76,79,78]
noncomputable def z277:=S [67,79,77,77,65]
noncomputable def z278:=S [83,69,77,73]
noncomputable def z279:=S [80,76,85,83]
noncomputable def z280:=S [77,73,78,85,83]
noncomputable def z281:=S [83,84,65,82]
noncomputable def z282:=S [83,76,65,83,72]
noncomputable def z283:=S [86,66,65,82]
noncomputable def z284:=S [65,77,80,69,82]
noncomputable def z285:=S [76,69,83,83]
noncomputable def z286:=S [71,82,69,65,84,69,82]
noncomputable def z287:=S [69,81,85,65,76]
noncomputable def z288:=S [68,79,84]
noncomputable def z289:=S [80,69,82,67,69,78,84]
noncomputable def z290:=S [76,66,82,65,67,69]
noncomputable def z291:=S [82,66,82,65,67,69]
noncomputable def z292:=S [69,81,69,81,85,65,76]
noncomputable def z293:=S [78,79,84,69,81,85,65,76]
noncomputable def z294:=S [76,69,83,83,69,81,85,65,76]
noncomputable def z295:=S [71,82,69,65,84,69,82,69,81,85,65,76]
noncomputable def z296:=S [84,73,76,68,69]
noncomputable def z297:=S [67,73,82,67,85,77,70,76,69,88]
noncomputable def z298:=S [76,69,70,84,83,72,73,70,84]
noncomputable def z299:=S [82,73,71,72,84,83,72,73,70,84]
noncomputable def z300:=S [68,79,85,66,76,69,83,84,65,82]
noncomputable def z301:=S [80,76,85,83,69,81,85,65,76]
noncomputable def z302:=S [77,73,78,69,81,85,65,76]
noncomputable def z303:=S [83,84,65,82,69,81,85,65,76]
noncomputable def z304:=S [83,76,65,83,72,69,81,85,65,76]
noncomputable def z305:=S [80,69,82,67,69,78,84,69,81,85,65,76]
noncomputable def z306:=S [65,77,80,69,82,69,81,85,65,76]
noncomputable def z307:=S [86,66,65,82,69,81,85,65,76]
noncomputable def z308:=S [67,73,82,67,85,77,70,76,69,88,69,81,85,65,76]
noncomputable def z309:=S [76,69,70,84,83,72,73,70,84,69,81,85,65,76]
noncomputable def z310:=S [82,73,71,72,84,83,72,73,70,84,69,81,85,65,76]
noncomputable def z311:=S [68,79,85,66,76,69,83,84,65,82,69,81,85,65,76]
noncomputable def z312:=S [68,79,85,66,76,69,83,76,65,83,72]
noncomputable def z313:=S [68,79,85,66,76,69,83,76,65,83,72,69,81,85,65,76]
noncomputable def z314:=S [65,84]
noncomputable def z315:=S [65,84,69,81,85,65,76]
noncomputable def z316:=S [82,65,82,82,79,87]
noncomputable def z317:=S [69,76,76,73,80,83,73,83]
noncomputable def z318:=S [67,79,76,79,78,69,81,85,65,76]
noncomputable def z319:=S [69,88,67,76,65,77,65,84,73,79,78]
noncomputable def z320:=S [78,84,95,79,70,70,83,69,84]
noncomputable def z321:=S [69,88,65,67,84,95,84,79,75,69,78,95,84,89,80,69,83]
noncomputable def z322:=S [45,62]
noncomputable def z323:=S [46]
noncomputable def z324:=S [46,46,46]
noncomputable def z325:=S [47]
noncomputable def z326:=S [47,47]
noncomputable def z327:=S [47,47,61]
noncomputable def z328:=S [47,61]
noncomputable def z329:=S [58]
noncomputable def z330:=S [58,61]
noncomputable def z331:=S [59]
noncomputable def z332:=S [60]
noncomputable def z333:=S [60,60]
noncomputable def z334:=S [60,60,61]
noncomputable def z335:=S [60,61]
noncomputable def z336:=S [61]
noncomputable def z337:=S [61,61]
noncomputable def z338:=S [62]
noncomputable def z339:=S [33]
noncomputable def z340:=S [33,61]
noncomputable def z341:=S [37]
noncomputable def z342:=S [37,61]
noncomputable def z343:=S [38]
noncomputable def z344:=S [38,61]
noncomputable def z345:=S [40]
noncomputable def z346:=S [41]
noncomputable def z347:=S [42]
noncomputable def z348:=S [42,42]
noncomputable def z349:=S [42,42,61]
noncomputable def z350:=S [42,61]
noncomputable def z351:=S [43]
noncomputable def z352:=S [43,61]
noncomputable def z353:=S [44]
noncomputable def z354:=S [45]
noncomputable def z355:=S [45,61]
noncomputable def z356:=S [62,61]
noncomputable def z357:=S [62,62]
noncomputable def z358:=S [62,62,61]
noncomputable def z359:=S [64]
noncomputable def z360:=S [64,61]
noncomputable def z361:=S [91]
noncomputable def z362:=S [93]
noncomputable def z363:=S [94]
noncomputable def z364:=S [94,61]
noncomputable def z365:=S [123]
noncomputable def z366:=S [124]
noncomputable def z367:=S [124,61]
noncomputable def z368:=S [125]
noncomputable def z369:=S [126]
noncomputable def z370:=S [99,112,121,51,49,51,46,119,115,103,105,114,101,102,46,104,101,97,100,101,114,115]
noncomputable def z371:=S [73,83,78,79,78,84,69,82,77,73,78,65,76]
noncomputable def z372:=S [73,83,69,79,70]
noncomputable def z373:=S [116,115,112,101,99,105,97,108,115]
noncomputable def z374:=S [95,110,97,109,101,95,100,105,115,97,108,108,111,119,101,100,95,114,101]
noncomputable def z375:=S [95,118,97,108,117,101,95,100,105,115,97,108,108,111,119,101,100,95,114,101]
noncomputable def z376:=S [95,102,111,114,109,97,116,112,97,114,97,109]
noncomputable def z377:=S [112,97,114,97,109]
noncomputable def z378:=S [118,97,108,117,101]
noncomputable def z379:=S [113,117,111,116,101]
noncomputable def z380:=S [91,92,120,48,48,45,92,120,48,56,92,120,48,65,45,92,120,49,70,92,120,55,70,93]
noncomputable def z381:=S [120]
noncomputable def z382:=S [91,32,92,40,92,41,60,62,64,44,59,58,92,92,34,47,92,91,92,93,92,63,61,93]
noncomputable def z383:=S [91,92,120,48,48,45,92,120,49,70,92,120,55,70,93]
noncomputable def z384:=S [72,101,97,100,101,114,115]
noncomputable def z385:=S [95,99,111,110,118,101,114,116,95,115,116,114,105,110,103,95,116,121,112,101]
noncomputable def z386:=S [72,101,97,100,101,114,115,46,95,99,111,110,118,101,114,116,95,115,116,114,105,110,103,95,116,121,112,101]
noncomputable def z387:=S [105,116,101,109,115]
noncomputable def z388:=S [72,101,97,100,101,114,115,46,105,116,101,109,115]
noncomputable def z389:=S [97,100,100,95,104,101,97,100,101,114]
noncomputable def z390:=S [72,101,97,100,101,114,115,46,97,100,100,95,104,101,97,100,101,114]
noncomputable def z391:=S [95,95,115,101,116,105,116,101,109,95,95]
noncomputable def z392:=S [72,101,97,100,101,114,115,46,95,95,115,101,116,105,116,101,109,95,95]
noncomputable def z393:=S [115,101,108,102]
noncomputable def z394:=S [103,101,116]
noncomputable def z395:=S [72,101,97,100,101,114,115,46,103,101,116]
noncomputable def z396:=S [95,95,108,101,110,95,95]
noncomputable def z397:=S [72,101,97,100,101,114,115,46,95,95,108,101,110,95,95]
noncomputable def z398:=S [72,101,97,100,101,114,115,46,95,95,114,101,112,114,95,95]
noncomputable def z399:=S [103,101,116,95,97,108,108]
noncomputable def z400:=S [72,101,97,100,101,114,115,46,103,101,116,95,97,108,108]
noncomputable def z401:=S [118,97,108,117,101,115]
noncomputable def z402:=S [72,101,97,100,101,114,115,46,118,97,108,117,101,115]
noncomputable def z403:=S [95,95,100,101,108,105,116,101,109,95,95]
noncomputable def z404:=S [95,95,103,101,116,105,116,101,109,95,95]
noncomputable def z405:=S [95,95,99,111,110,116,97,105,110,115,95,95]
noncomputable def z406:=S [107,101,121,115]
noncomputable def z407:=S [95,95,115,116,114,95,95]
noncomputable def z408:=S [95,95,98,121,116,101,115,95,95]
noncomputable def z409:=S [115,101,116,100,101,102,97,117,108,116]
noncomputable def z410:=S [72,101,97,100,101,114,115,46,95,95,100,101,108,105,116,101,109,95,95]
noncomputable def z411:=S [72,101,97,100,101,114,115,46,95,95,98,121,116,101,115,95,95]
noncomputable def z412:=S [72,101,97,100,101,114,115,46,107,101,121,115]
noncomputable def z413:=S [72,101,97,100,101,114,115,46,95,95,115,116,114,95,95]
noncomputable def z414:=S [100,101,102,97,117,108,116]
noncomputable def z415:=S [118]
noncomputable def z416:=S [72,101,97,100,101,114,115,46,95,95,103,101,116,105,116,101,109,95,95]
noncomputable def z417:=S [72,101,97,100,101,114,115,46,95,95,99,111,110,116,97,105,110,115,95,95]
noncomputable def z418:=S [72,101,97,100,101,114,115,46,115,101,116,100,101,102,97,117,108,116]
noncomputable def z419:=S [72,101,97,100,101,114,115,46,95,95,105,110,105,116,95,95]
noncomputable def z420:=S [95,110,97,109,101]
noncomputable def z421:=S [95,118,97,108,117,101]
noncomputable def z422:=S [95,112,97,114,97,109,115]
noncomputable def z423:=S [112,97,114,116,115]
noncomputable def z424:=S [114,101,103,101,120]
noncomputable def z425:=S [95,104,101,97,100,101,114,115]
noncomputable def z426:=S [104,101,97,100,101,114,115]
noncomputable def z427:=S [95,95,113,117,97,108,110,97,109,101,95,95]
noncomputable def z428:=S [108,97,119,95,115,110,48,48,56,56,95,48,51]
noncomputable def z429:=S [95,108,97,119,95,111,99,116,101,116,115]
noncomputable def z430:=S [95,108,97,119,95,100,111,110,101]
noncomputable def z431:=S [95,108,97,119,95,110,97,109,101]
noncomputable def z432:=S [95,108,97,119,95,100,105,115,116,97,110,99,101,115]
noncomputable def z433:=S [95,108,97,119,95,115,113,117,97,114,101,115]
noncomputable def z434:=S [108,97,119]
noncomputable def z435:=S [99]
noncomputable def z436:=S [116,111,116,97,108]
noncomputable def z437:=S [106]
noncomputable def z438:=S [111,99,116,101,116,115]
noncomputable def z439:=S [115,105,103,110]
noncomputable def z440:=S [112,108,97,99,101]
noncomputable def z441:=S [116,97,98,108,101]
noncomputable def z442:=S [112,105,108,101]
noncomputable def z443:=S [110,117,109,98,101,114]
noncomputable def z444:=S [108,97,115,116]
noncomputable def z445:=S [117,110,100,101,114]
noncomputable def o_41:PO:=fun P=>Obj.mk (Value.type "dict") none (Data.dict (List.toArray (de P z0 1 (vs z1 160)::de P z2 2 (Value.builtin "builtins.__doc__:str#opaque")::de P z3 3 (Value.builtin "builtins.__package__:str#opaque")::de P z4 4 (Value.builtin "builtins.__loader__:shared#opaque")::de P z5 5 (Value.builtin "builtins.__spec__#opaque")::de P z6 6 (Value.builtin "__build_class__")::de P z7 7 (Value.builtin "__import__")::de P z8 8 (Value.builtin "abs")::de P z9 9 (Value.builtin "all")::de P z10 10 (Value.builtin "any")::de P z11 11 (Value.builtin "ascii")::de P z12 12 (Value.builtin "bin")::de P z13 13 (Value.builtin "breakpoint")::de P z14 14 (Value.builtin "callable")::de P z15 15 (Value.builtin "chr")::de P z16 16 (Value.builtin "compile")::de P z17 17 (Value.builtin "delattr")::de P z18 18 (Value.builtin "dir")::de P z19 19 (Value.builtin "divmod")::de P z20 20 (Value.builtin "eval")::de P z21 21 (Value.builtin "exec")::de P z22 22 (Value.builtin "format")::de P z23 23 (Value.builtin "getattr")::de P z24 24 (Value.builtin "globals")::de P z25 25 (Value.builtin "hasattr")::de P z26 26 (Value.builtin "hash")::de P z27 27 (Value.builtin "hex")::de P z28 28 (Value.builtin "id")::de P z29 29 (Value.builtin "input")::de P z30 30 (Value.builtin "isinstance")::de P z31 31 (Value.builtin "issubclass")::de P z32 32 (Value.builtin "iter")::de P z33 33 (Value.builtin "aiter")::de P z34 34 (Value.builtin "len")::de P z35 35 (Value.builtin "locals")::de P z36 36 (Value.builtin "max")::de P z37 37 (Value.builtin "min")::de P z38 38 (Value.builtin "next")::de P z39 39 (Value.builtin "anext")::de P z40 40 (Value.builtin "oct")::de P z41 41 (Value.builtin "ord")::de P z42 42 (Value.builtin "pow")::de P z43 43 (Value.builtin "print")::de P z44 44 (Value.builtin "repr")::de P z45 45 (Value.builtin "round")::de P z46 46 (Value.builtin "setattr")::de P z47 47 (Value.builtin "sorted")::de P z48 48 (Value.builtin "sum")::de P z49 49 (Value.builtin "vars")::de P z50 50 nn::(de P z51 51 Value.ellipsis)::(de P z52 52 Value.notImplemented)::de P z53 53 bF::de P z54 54 (Value.bool @Bool.true)::de P z55 55 (Value.type "bool")::de P z56 56 (Value.type "memoryview")::de P z57 57 (Value.type "bytearray")::de P z58 58 (Value.type "bytes")::de P z59 59 (Value.type "classmethod")::de P z60 60 (Value.type "complex")::de P z61 61 (Value.type "dict")::de P z62 62 (Value.type "enumerate")::de P z63 63 (Value.type "filter")::de P z64 64 (Value.type "float")::de P z65 65 (Value.type "frozenset")::de P z66 66 (Value.type "property")::de P z67 67 (Value.type "int")::de P z68 68 (Value.type "list")::de P z69 69 (Value.type "map")::de P z70 70 (Value.type "object")::de P z71 71 (Value.type "range")::de P z72 72 (Value.type "reversed")::de P z73 73 (Value.type "set")::de P z74 74 (Value.type "slice")::de P z75 75 (Value.type "staticmethod")::de P z76 76 (Value.type "str")::de P z77 77 (Value.type "super")::de P z78 78 (Value.type "tuple")::de P z79 79 (Value.type "type")::de P z80 80 (Value.type "zip")::de P z81 81 (Value.bool @Bool.true)::de P z82 82 (Value.type "BaseException")::de P z83 83 (Value.type "BaseExceptionGroup")::de P z84 84 (Value.type "Exception")::de P z85 85 (Value.type "GeneratorExit")::de P z86 86 (Value.type "KeyboardInterrupt")::de P z87 87 (Value.type "SystemExit")::de P z88 88 (Value.type "ArithmeticError")::de P z89 89 (Value.type "AssertionError")::de P z90 90 (Value.type "AttributeError")::de P z91 91 (Value.type "BufferError")::de P z92 92 (Value.type "EOFError")::de P z93 93 (Value.type "ImportError")::de P z94 94 (Value.type "LookupError")::de P z95 95 (Value.type "MemoryError")::de P z96 96 (Value.type "NameError")::de P z97 97 (Value.type "OSError")::de P z98 98 (Value.type "ReferenceError")::de P z99 99 (Value.type "RuntimeError")::de P z100 100 (Value.type "StopAsyncIteration")::de P z101 101 (Value.type "StopIteration")::de P z102 102 (Value.type "SyntaxError")::de P z103 103 (Value.type "SystemError")::de P z104 104 (Value.type "TypeError")::de P z105 105 (Value.type "ValueError")::de P z106 106 (Value.type "Warning")::de P z107 107 (Value.type "FloatingPointError")::de P z108 108 (Value.type "OverflowError")::de P z109 109 (Value.type "ZeroDivisionError")::de P z110 110 (Value.type "BytesWarning")::de P z111 111 (Value.type "DeprecationWarning")::de P z112 112 (Value.type "EncodingWarning")::de P z113 113 (Value.type "FutureWarning")::de P z114 114 (Value.type "ImportWarning")::de P z115 115 (Value.type "PendingDeprecationWarning")::de P z116 116 (Value.type "ResourceWarning")::de P z117 117 (Value.type "RuntimeWarning")::de P z118 118 (Value.type "SyntaxWarning")::de P z119 119 (Value.type "UnicodeWarning")::de P z120 120 (Value.type "UserWarning")::de P z121 121 (Value.type "BlockingIOError")::de P z122 122 (Value.type "ChildProcessError")::de P z123 123 (Value.type "ConnectionError")::de P z124 124 (Value.type "FileExistsError")::de P z125 125 (Value.type "FileNotFoundError")::de P z126 126 (Value.type "InterruptedError")::de P z127 127 (Value.type "IsADirectoryError")::de P z128 128 (Value.type "NotADirectoryError")::de P z129 129 (Value.type "PermissionError")::de P z130 130 (Value.type "ProcessLookupError")::de P z131 131 (Value.type "TimeoutError")::de P z132 132 (Value.type "IndentationError")::de P z133 133 (Value.type "_IncompleteInputError")::de P z134 134 (Value.type "IndexError")::de P z135 135 (Value.type "KeyError")::de P z136 136 (Value.type "ModuleNotFoundError")::de P z137 137 (Value.type "NotImplementedError")::de P z138 138 (Value.type "PythonFinalizationError")::de P z139 139 (Value.type "RecursionError")::de P z140 140 (Value.type "UnboundLocalError")::de P z141 141 (Value.type "UnicodeError")::de P z142 142 (Value.type "BrokenPipeError")::de P z143 143 (Value.type "ConnectionAbortedError")::de P z144 144 (Value.type "ConnectionRefusedError")::de P z145 145 (Value.type "ConnectionResetError")::de P z146 146 (Value.type "TabError")::de P z147 147 (Value.type "UnicodeDecodeError")::de P z148 148 (Value.type "UnicodeEncodeError")::de P z149 149 (Value.type "UnicodeTranslateError")::de P z150 150 (Value.type "ExceptionGroup")::de P z151 151 (Value.type "OSError")::de P z152 152 (Value.type "OSError")::de P z153 153 (Value.builtin "open")::de P z154 154 (Value.builtin "builtins.quit#opaque")::de P z155 155 (Value.builtin "builtins.exit#opaque")::de P z156 156 (Value.builtin "builtins.copyright#opaque")::de P z157 157 (Value.builtin "builtins.credits#opaque")::de P z158 158 (Value.builtin "builtins.license#opaque")::de P z159 159 (Value.builtin "builtins.help#opaque")::[])) 159) #[]
noncomputable def o_42:PO:=fun P=>Obj.mk (Value.type "dict") none (Data.dict (List.toArray [de P z1 162 (vr 4),de P z160 163 (vr 5),de P z161 244 (vr 12)]) 3) #[]
noncomputable def o_44:PO:=fun P=>Obj.mk (Value.type "dict") none (Data.dict (List.toArray [de P z0 165 (vs z160 164),de P z2 166 nn,de P z3 167 nn,de P z4 168 (Value.builtin "__main__.__loader__#opaque"),de P z5 169 nn,de P z162 170 (vr 6),de P z163 171 (vr 4),de P z164 173 (vs z165 172),de P z166 174 nn,de P z161 275 (vr 12)]) 10) #[]
noncomputable def o_48:PO:=fun P=>tu [] 0
noncomputable def o_56:PO:=fun P=>tu [] 0
noncomputable def o_72:PO:=fun P=>Obj.mk (Value.type "frame") none Data.plain (List.toArray [some (vr 30),some (vr 3),some (vr 3),none,some (vs z160 164),none,some (vr 0)])
noncomputable def o_64:PO:=fun P=>tu [vs z167 219,vs z168 220,vs z169 221,vs z170 222,vs z171 223,vs z172 224,vs z173 225,vs z174 226] 0
noncomputable def o_52:PO:=fun P=>Obj.mk (Value.type "dict") none (Data.dict (List.toArray [de P z0 247 (vs z161 246),de P z2 248 nn,de P z3 250 (vs z175 249),de P z4 251 (Value.builtin "off-the-table:_sre.__loader__:shared#opaque"),de P z5 252 (Value.builtin "off-the-table:_sre.__spec__:shared#opaque"),de P z16 253 (Value.builtin "_sre.compile"),de P z176 254 (Value.builtin "off-the-table:_sre.template:shared#opaque"),de P z177 255 (Value.builtin "off-the-table:_sre.getcodesize:shared#opaque"),de P z178 256 (Value.builtin "off-the-table:_sre.ascii_iscased:shared#opaque"),de P z179 257 (Value.builtin "off-the-table:_sre.unicode_iscased:shared#opaque"),de P z180 258 (Value.builtin "off-the-table:_sre.ascii_tolower:shared#opaque"),de P z181 259 (Value.builtin "off-the-table:_sre.unicode_tolower:shared#opaque"),de P z182 261 (vi 20230612 260),de P z183 263 (vi 4 262),de P z184 265 (vi 4294967295 264),de P z185 267 (vi 1073741823 266),de P z156 269 (vs z186 268)]) 17) #[]
noncomputable def o_60:PO:=fun P=>Obj.mk (Value.type "list") none (Data.seq (List.toArray []) 0) #[]
noncomputable def o_68:PO:=fun P=>Obj.mk nn none (Data.seq (List.toArray [vi 11 0,(Value.str (Str.mk (@List.toArray @Nat (6::247::8::95::95::110::97::109::101::95::95::6::246::4::95::115::114::101::6::248::7::95::95::100::111::99::95::95::0::6::250::11::95::95::112::97::99::107::97::103::101::95::95::6::249::0::6::251::10::95::95::108::111::97::100::101::114::95::95::4::0::0::14::6::252::8::95::95::115::112::101::99::95::95::4::0::0::26::6::253::7::99::111::109::112::105::108::101::9::12::95::115::114::101::46::99::111::109::112::105::108::101::6::254::8::116::101::109::112::108::97::116::101::9::13::95::115::114::101::46::116::101::109::112::108::97::116::101::6::255::11::103::101::116::99::111::100::101::115::105::122::101::9::16::95::115::114::101::46::103::101::116::99::111::100::101::115::105::122::101::6::256::13::97::115::99::105::105::95::105::115::99::97::115::101::100::9::18::95::115::114::101::46::97::115::99::105::105::95::105::115::99::97::115::101::100::6::257::15::117::110::105::99::111::100::101::95::105::115::99::97::115::101::100::9::20::95::115::114::101::46::117::110::105::99::111::100::101::95::105::115::99::97::115::101::100::6::258::13::97::115::99::105::105::95::116::111::108::111::119::101::114::9::18::95::115::114::101::46::97::115::99::105::105::95::116::111::108::111::119::101::114::6::259::15::117::110::105::99::111::100::101::95::116::111::108::111::119::101::114::9::20::95::115::114::101::46::117::110::105::99::111::100::101::95::116::111::108::111::119::101::114::6::261::5::77::65::71::73::67::4::260::0::20230612::6::263::8::67::79::68::69::83::73::90::69::4::262::0::4::6::265::9::77::65::88::82::69::80::69::65::84::4::264::0::4294967295::6::267::9::77::65::88::71::82::79::85::80::83::4::266::0::1073741823::6::269::9::99::111::112::121::114::105::103::104::116::6::268::53::32::83::82::69::32::50::46::50::46::50::32::67::111::112::121::114::105::103::104::116::32::40::99::41::32::49::57::57::55::45::50::48::48::50::32::98::121::32::83::101::99::114::101::116::32::76::97::98::115::32::65::66::32::[]))) 0),(Value.bool @Bool.true),bF,vs z161 271]) 0) #[]
noncomputable def o_46:PO:=fun P=>Obj.mk (Value.type "module") (@Option.some @Nat 3) Data.plain #[]
noncomputable def o_50:PO:=fun P=>co [vs z187 176,vs z187 177,vs z165 178,vi 1 0,vi 0 0,vi 0 0,vi 0 0,vi 0 0,vr 7,bF,vi 175 0,vr 8,nn,nn,nn,nn,vi 179 0,vi 1 0,vs z165 180]
noncomputable def o_58:PO:=fun P=>Obj.mk (Value.type "getset_descriptor") none (Data.fields (List.toArray [vs z188 203,vr 14,(Value.builtin "ExceptionGroup.__weakref__"),nn])) #[]
noncomputable def o_66:PO:=fun P=>Obj.mk (Value.type "getset_descriptor") none (Data.fields (List.toArray [vs z188 239,vr 22,(Value.builtin "ExceptionGroup.__weakref__"),nn])) #[]
noncomputable def o_54:PO:=fun P=>Obj.mk (Value.type "dict") none (Data.dict (List.toArray [de P z189 189 (vs z190 186),de P z191 190 (vi 971 187),de P z2 191 (Value.builtin "_frozen_importlib.BuiltinImporter.__doc__:str#opaque"),de P z192 192 (vs z193 188),de P z194 193 (Value.builtin "_frozen_importlib.BuiltinImporter.find_spec#opaque"),de P z195 194 (Value.builtin "_frozen_importlib.BuiltinImporter.create_module#opaque"),de P z196 195 (Value.builtin "_frozen_importlib.BuiltinImporter.exec_module#opaque"),de P z197 196 (Value.builtin "_frozen_importlib.BuiltinImporter.get_code#opaque"),de P z198 197 (Value.builtin "_frozen_importlib.BuiltinImporter.get_source#opaque"),de P z199 198 (Value.builtin "_frozen_importlib.BuiltinImporter.is_package#opaque"),de P z200 199 (Value.builtin "_frozen_importlib.BuiltinImporter.load_module#opaque"),de P z201 200 (vr 15),de P z202 202 (vr 16),de P z188 204 (vr 17)]) 14) #[]
noncomputable def o_62:PO:=fun P=>Obj.mk (Value.type "dict") none (Data.dict (List.toArray [de P z189 227 (vs z190 217),de P z191 228 (vi 562 218),de P z2 229 (Value.builtin "_frozen_importlib.ModuleSpec.__doc__:str#opaque"),de P z203 230 (Value.builtin "_frozen_importlib.ModuleSpec.__init__#opaque"),de P z204 231 (Value.builtin "_frozen_importlib.ModuleSpec.__repr__#opaque"),de P z205 232 (Value.builtin "_frozen_importlib.ModuleSpec.__eq__#opaque"),de P z206 233 (Value.builtin "_frozen_importlib.ModuleSpec.cached#opaque"),de P z207 234 (Value.builtin "_frozen_importlib.ModuleSpec.parent#opaque"),de P z208 235 (Value.builtin "_frozen_importlib.ModuleSpec.has_location#opaque"),de P z201 236 (vr 23),de P z202 238 (vr 24),de P z188 240 (vr 25),de P z209 241 nn]) 13) #[]
noncomputable def o_70:PO:=fun P=>fl []
noncomputable def o_43:PO:=fun P=>Obj.mk nn none (Data.dict (List.toArray [de P z210 183 (Value.bool @Bool.true),de P z211 185 (vr 14),de P z212 206 (vr 18),de P z213 216 (vr 22),de P z214 245 (vi 3 0),de P z215 270 (Value.bool @Bool.true),de P z216 272 (vr 27),de P z217 0 (vs z218 0),de P z219 273 (vs z220 0)]) 9) #[]
noncomputable def o_45:PO:=fun P=>Obj.mk (Value.type "module") (@Option.some @Nat 0) Data.plain #[]
noncomputable def o_49:PO:=fun P=>fl []
noncomputable def o_57:PO:=fun P=>Obj.mk (Value.type "getset_descriptor") none (Data.fields (List.toArray [vs z202 201,vr 14,(Value.builtin "function.__dict__"),(Value.builtin "function.__dict__#set")])) #[]
noncomputable def o_65:PO:=fun P=>Obj.mk (Value.type "getset_descriptor") none (Data.fields (List.toArray [vs z202 237,vr 22,(Value.builtin "function.__dict__"),(Value.builtin "function.__dict__#set")])) #[]
noncomputable def o_53:PO:=fun P=>Obj.mk (Value.type "module") (@Option.some @Nat 11) Data.plain #[]
noncomputable def o_61:PO:=fun P=>Obj.mk (Value.type "dict") none (Data.dict (List.toArray [de P z172 208 (vs z161 207),de P z170 209 (vr 14),de P z173 210 (vs z193 184),de P z171 211 nn,de P z174 212 nn,de P z169 213 (vr 19),de P z168 214 bF,de P z167 215 nn,de P z221 243 bF]) 9) #[]
noncomputable def o_69:PO:=fun P=>tu [] 0
noncomputable def o_47:PO:=fun P=>Obj.mk (Value.type "dict") none (Data.dict (List.toArray []) 0) #[]
noncomputable def o_51:PO:=fun P=>Obj.mk (Value.type "frame") none Data.plain (List.toArray [some (vr 9),some (vr 3),some (vr 3),none,some (vs z160 164),none,some (vr 0)])
noncomputable def o_59:PO:=fun P=>Obj.mk nn none (Data.seq (List.toArray [vi 13 0,vs z222 0,(Value.bool @Bool.true),(Value.bool @Bool.true),vs z175 205,vi 21 0,vs z223 0,(Value.bool @Bool.true),(Value.bool @Bool.true),vs z175 242]) 1) #[]
noncomputable def o_67:PO:=fun P=>Obj.mk (vr 22) (@Option.some @Nat 20) Data.plain #[]
noncomputable def o_55:PO:=fun P=>Obj.mk (Value.type "type") none (Data.cls (ClassData.mk z224 [(Value.type "object")] [vr 14,(Value.type "object")] 13 z224 @Bool.true [] [] @Bool.false (@Option.none @Bool) @Bool.false)) #[]
noncomputable def o_63:PO:=fun P=>Obj.mk (Value.type "type") none (Data.cls (ClassData.mk z225 [(Value.type "object")] [vr 22,(Value.type "object")] 21 z225 @Bool.true [] [] @Bool.false (@Option.none @Bool) @Bool.false)) #[]
noncomputable def o_71:PO:=fun P=>co [vs z187 277,vs z187 278,vs z165 279,vi 1 0,vi 0 0,vi 0 0,vi 0 0,vi 0 0,vr 28,bF,vi 276 0,vr 29,nn,nn,nn,nn,vi 280 0,vi 1 0,vs z165 281]
noncomputable def tree_73:PT:=fun P=>N (o_41 P) (N (o_42 P) (N (o_44 P) (N (o_48 P) (N (o_56 P) (L (o_72 P)) Z) (L (o_64 P))) (N (o_52 P) (L (o_60 P)) (L (o_68 P)))) (N (o_46 P) (N (o_50 P) (L (o_58 P)) (L (o_66 P))) (N (o_54 P) (L (o_62 P)) (L (o_70 P))))) (N (o_43 P) (N (o_45 P) (N (o_49 P) (L (o_57 P)) (L (o_65 P))) (N (o_53 P) (L (o_61 P)) (L (o_69 P)))) (N (o_47 P) (N (o_51 P) (L (o_59 P)) (L (o_67 P))) (N (o_55 P) (L (o_63 P)) (L (o_71 P)))))
noncomputable def o_75:PO:=fun P=>Obj.mk (Value.type "dict") none (Data.dict (List.toArray [de P z0 165 (vs z226 377),de P z2 166 nn,de P z3 167 nn,de P z4 168 (Value.builtin "__main__.__loader__#opaque"),de P z5 169 nn,de P z162 170 (vr 6),de P z163 171 (vr 4),de P z164 173 (vs z165 172),de P z166 174 nn,de P z161 275 (vr 12),de P z227 288 (vr 38),de P z228 292 (vi 40 291),de P z229 294 (vi 2 293),de P z230 296 (vi 1 295),de P z231 304 (vr 45),de P z232 324 (vr 52),de P z233 357 (vr 53),de P z234 367 (vr 60),de P z235 376 (vr 67),de P z236 380 (vi 0 379),de P z237 382 (vi 7 381),de P z238 384 (vi 8 383),de P z239 386 (vi 9 385)]) 23) #[]
noncomputable def o_108:PO:=fun P=>tu [vs z240 371,vs z241 372,vs z242 373] 0
noncomputable def o_92:PO:=fun P=>fl []
noncomputable def o_84:PO:=fun P=>tu [] 0
noncomputable def o_100:PO:=fun P=>fl []
noncomputable def o_80:PO:=fun P=>tu [] 0
noncomputable def o_112:PO:=fun P=>Obj.mk (Value.type "function") none (Data.func (FuncData.mk z235 z235 (sArgs (st 11)) (FuncBody.stmts (sBody (st 11))) (sScope (st 11)) 3 [] nn nn nn (vs z243 325) none (vr 66) nn 0)) #[]
noncomputable def o_96:PO:=fun P=>co [vs z232 305,vs z232 306,vs z165 307,vi 15 0,vi 3 0,vi 0 0,vi 0 0,vi 3 0,vr 46,(Value.bool @Bool.true),vi 276 0,vr 47,nn,vr 48,vr 49,vr 50,vi 322 0,vi 15 0,vs z165 323]
noncomputable def o_88:PO:=fun P=>fs z231 z231 6
noncomputable def o_104:PO:=fun P=>co [vs z234 358,vs z234 359,vs z165 360,vi 55 0,vi 1 0,vi 0 0,vi 0 0,vi 3 0,vr 54,(Value.bool @Bool.true),vi 276 0,vr 55,nn,vr 56,vr 57,vr 58,vi 365 0,vi 55 0,vs z165 366]
noncomputable def o_78:PO:=fun P=>fl []
noncomputable def o_110:PO:=fun P=>fs z235 z235 11
noncomputable def o_94:PO:=fun P=>tu [] 0
noncomputable def o_86:PO:=fun P=>tu [vs z244 300,vs z245 301] 0
noncomputable def o_102:PO:=fun P=>tu [] 0
noncomputable def o_82:PO:=fun P=>co [vs z227 282,vs z227 283,vs z165 284,vi 2 0,vi 1 0,vi 0 0,vi 0 0,vi 3 0,vr 32,(Value.bool @Bool.true),vi 276 0,vr 33,nn,vr 34,vr 35,vr 36,vi 286 0,vi 2 0,vs z165 287]
noncomputable def o_98:PO:=fun P=>Obj.mk (Value.type "dict") none (Data.dict (List.toArray [(DictEntry.mk (1:@Int) (vi 1 327) (vs z246 328)),(DictEntry.mk (2:@Int) (vi 2 329) (vs z247 330)),(DictEntry.mk (4:@Int) (vi 4 331) (vs z248 332)),(DictEntry.mk (8:@Int) (vi 8 333) (vs z249 334)),(DictEntry.mk (16:@Int) (vi 16 335) (vs z250 336)),(DictEntry.mk (32:@Int) (vi 32 337) (vs z251 338)),(DictEntry.mk (64:@Int) (vi 64 339) (vs z252 340)),(DictEntry.mk (128:@Int) (vi 128 341) (vs z253 342)),(DictEntry.mk (256:@Int) (vi 256 343) (vs z254 344)),(DictEntry.mk (512:@Int) (vi 512 345) (vs z255 346))]) 10) #[]
noncomputable def o_76:PO:=fun P=>fl [vi 2 0,vi 0 0,vr 37,vi 9 0,vi 0 0,vr 44,vi 15 0,vi 0 0,vr 51,vi 55 0,vi 0 0,vr 59,vi 67 0,vi 0 0,vr 66]
noncomputable def o_90:PO:=fun P=>Obj.mk (Value.type "function") none (Data.func (FuncData.mk z231 z231 (sArgs (st 6)) (FuncBody.stmts (sBody (st 6))) (sScope (st 6)) 3 [] nn nn nn (vs z256 289) none (vr 44) nn 0)) #[]
noncomputable def o_106:PO:=fun P=>tu [] 0
noncomputable def o_77:PO:=fun P=>tu [] 0
noncomputable def o_109:PO:=fun P=>tu [] 0
noncomputable def o_93:PO:=fun P=>tu [vs z257 308,vs z241 309,vs z258 310,vs z259 311,vs z260 312,vs z261 313,vs z262 314,vs z263 315,vs z264 316,vs z265 317,vs z266 318,vs z267 319,vs z268 320,vs z269 321] 0
noncomputable def o_85:PO:=fun P=>fl []
noncomputable def o_101:PO:=fun P=>tu [vs z270 361,vs z271 362,vs z272 363,vs z273 364] 0
noncomputable def o_81:PO:=fun P=>fs z227 z227 1
noncomputable def o_97:PO:=fun P=>Obj.mk (Value.type "function") none (Data.func (FuncData.mk z232 z232 (sArgs (st 7)) (FuncBody.stmts (sBody (st 7))) (sScope (st 7)) 3 [] nn nn nn (vs z256 289) none (vr 51) nn 0)) #[]
noncomputable def o_89:PO:=fun P=>co [vs z231 297,vs z231 298,vs z165 299,vi 9 0,vi 2 0,vi 0 0,vi 0 0,vi 3 0,vr 39,(Value.bool @Bool.true),vi 276 0,vr 40,nn,vr 41,vr 42,vr 43,vi 302 0,vi 9 0,vs z165 303]
noncomputable def o_105:PO:=fun P=>Obj.mk (Value.type "function") none (Data.func (FuncData.mk z234 z234 (sArgs (st 10)) (FuncBody.stmts (sBody (st 10))) (sScope (st 10)) 3 [] nn nn nn (vs z243 325) none (vr 59) nn 0)) #[]
noncomputable def o_79:PO:=fun P=>tu [vs z274 285] 0
noncomputable def o_111:PO:=fun P=>co [vs z235 368,vs z235 369,vs z165 370,vi 67 0,vi 1 0,vi 0 0,vi 0 0,vi 3 0,vr 61,(Value.bool @Bool.true),vi 276 0,vr 62,nn,vr 63,vr 64,vr 65,vi 374 0,vi 67 0,vs z165 375]
noncomputable def o_95:PO:=fun P=>fs z232 z232 7
noncomputable def o_87:PO:=fun P=>tu [] 0
noncomputable def o_103:PO:=fun P=>fs z234 z234 10
noncomputable def o_83:PO:=fun P=>Obj.mk (Value.type "function") none (Data.func (FuncData.mk z227 z227 (sArgs (st 1)) (FuncBody.stmts (sBody (st 1))) (sScope (st 1)) 3 [] nn nn nn (vs z160 164) none (vr 37) nn 0)) #[]
noncomputable def o_99:PO:=fun P=>tu [] 0
noncomputable def o_91:PO:=fun P=>tu [] 0
noncomputable def o_107:PO:=fun P=>fl []
noncomputable def tree_112:PT:=fun P=>N (o_41 P) (N (o_42 P) (N (o_75 P) (N (o_48 P) (N (o_56 P) (N (o_72 P) (L (o_108 P)) Z) (L (o_92 P))) (N (o_64 P) (L (o_84 P)) (L (o_100 P)))) (N (o_52 P) (N (o_60 P) (N (o_80 P) (L (o_112 P)) Z) (L (o_96 P))) (N (o_68 P) (L (o_88 P)) (L (o_104 P))))) (N (o_46 P) (N (o_50 P) (N (o_58 P) (N (o_78 P) (L (o_110 P)) Z) (L (o_94 P))) (N (o_66 P) (L (o_86 P)) (L (o_102 P)))) (N (o_54 P) (N (o_62 P) (L (o_82 P)) (L (o_98 P))) (N (o_76 P) (L (o_90 P)) (L (o_106 P)))))) (N (o_43 P) (N (o_45 P) (N (o_49 P) (N (o_57 P) (N (o_77 P) (L (o_109 P)) Z) (L (o_93 P))) (N (o_65 P) (L (o_85 P)) (L (o_101 P)))) (N (o_53 P) (N (o_61 P) (L (o_81 P)) (L (o_97 P))) (N (o_69 P) (L (o_89 P)) (L (o_105 P))))) (N (o_47 P) (N (o_51 P) (N (o_59 P) (N (o_79 P) (L (o_111 P)) Z) (L (o_95 P))) (N (o_67 P) (L (o_87 P)) (L (o_103 P)))) (N (o_55 P) (N (o_63 P) (L (o_83 P)) (L (o_99 P))) (N (o_71 P) (L (o_91 P)) (L (o_107 P))))))
noncomputable def o_115:PO:=fun P=>Obj.mk (Value.type "dict") none (Data.dict (List.toArray (de P z0 165 (vs z226 377)::de P z2 166 nn::de P z3 167 nn::de P z4 168 (Value.builtin "__main__.__loader__#opaque")::de P z5 169 nn::de P z162 170 (vr 6)::de P z163 171 (vr 4)::de P z164 173 (vs z165 172)::de P z166 174 nn::de P z161 275 (vr 12)::de P z227 288 (vr 38)::de P z228 292 (vi 40 291)::de P z229 294 (vi 2 293)::de P z230 296 (vi 1 295)::de P z231 304 (vr 45)::de P z232 324 (vr 52)::de P z233 357 (vr 53)::de P z234 367 (vr 60)::de P z235 376 (vr 67)::de P z236 380 (vi 0 379)::de P z237 382 (vi 7 381)::de P z238 384 (vi 8 383)::de P z239 386 (vi 9 385)::de P z275 388 (vi 10 387)::de P z276 390 (vi 11 389)::de P z277 392 (vi 12 391)::de P z278 394 (vi 13 393)::de P z279 396 (vi 14 395)::de P z280 398 (vi 15 397)::de P z281 400 (vi 16 399)::de P z282 402 (vi 17 401)::de P z283 404 (vi 18 403)::de P z284 406 (vi 19 405)::de P z285 408 (vi 20 407)::de P z286 410 (vi 21 409)::de P z287 412 (vi 22 411)::de P z288 414 (vi 23 413)::de P z289 416 (vi 24 415)::de P z290 418 (vi 25 417)::de P z291 420 (vi 26 419)::de P z292 422 (vi 27 421)::de P z293 424 (vi 28 423)::de P z294 426 (vi 29 425)::de P z295 428 (vi 30 427)::de P z296 430 (vi 31 429)::de P z297 432 (vi 32 431)::de P z298 434 (vi 33 433)::de P z299 436 (vi 34 435)::de P z300 438 (vi 35 437)::de P z301 440 (vi 36 439)::de P z302 442 (vi 37 441)::de P z303 444 (vi 38 443)::de P z304 446 (vi 39 445)::de P z305 448 (vi 40 447)::de P z306 450 (vi 41 449)::de P z307 452 (vi 42 451)::de P z308 454 (vi 43 453)::de P z309 456 (vi 44 455)::de P z310 458 (vi 45 457)::de P z311 460 (vi 46 459)::de P z312 462 (vi 47 461)::de P z313 464 (vi 48 463)::de P z314 466 (vi 49 465)::de P z315 468 (vi 50 467)::de P z316 470 (vi 51 469)::de P z317 472 (vi 52 471)::de P z318 474 (vi 53 473)::[])) 67) #[]
noncomputable def tree_115:PT:=fun P=>N (o_41 P) (N (o_42 P) (N (o_115 P) (N (o_48 P) (N (o_56 P) (N (o_72 P) (L (o_108 P)) Z) (L (o_92 P))) (N (o_64 P) (L (o_84 P)) (L (o_100 P)))) (N (o_52 P) (N (o_60 P) (N (o_80 P) (L (o_112 P)) Z) (L (o_96 P))) (N (o_68 P) (L (o_88 P)) (L (o_104 P))))) (N (o_46 P) (N (o_50 P) (N (o_58 P) (N (o_78 P) (L (o_110 P)) Z) (L (o_94 P))) (N (o_66 P) (L (o_86 P)) (L (o_102 P)))) (N (o_54 P) (N (o_62 P) (L (o_82 P)) (L (o_98 P))) (N (o_76 P) (L (o_90 P)) (L (o_106 P)))))) (N (o_43 P) (N (o_45 P) (N (o_49 P) (N (o_57 P) (N (o_77 P) (L (o_109 P)) Z) (L (o_93 P))) (N (o_65 P) (L (o_85 P)) (L (o_101 P)))) (N (o_53 P) (N (o_61 P) (L (o_81 P)) (L (o_97 P))) (N (o_69 P) (L (o_89 P)) (L (o_105 P))))) (N (o_47 P) (N (o_51 P) (N (o_59 P) (N (o_79 P) (L (o_111 P)) Z) (L (o_95 P))) (N (o_67 P) (L (o_87 P)) (L (o_103 P)))) (N (o_55 P) (N (o_63 P) (L (o_83 P)) (L (o_99 P))) (N (o_71 P) (L (o_91 P)) (L (o_107 P))))))
noncomputable def o_117:PO:=fun P=>Obj.mk (Value.type "dict") none (Data.dict (List.toArray (de P z0 165 (vs z226 377)::de P z2 166 nn::de P z3 167 nn::de P z4 168 (Value.builtin "__main__.__loader__#opaque")::de P z5 169 nn::de P z162 170 (vr 6)::de P z163 171 (vr 4)::de P z164 173 (vs z165 172)::de P z166 174 nn::de P z161 275 (vr 12)::de P z227 288 (vr 38)::de P z228 292 (vi 40 291)::de P z229 294 (vi 2 293)::de P z230 296 (vi 1 295)::de P z231 304 (vr 45)::de P z232 324 (vr 52)::de P z233 357 (vr 53)::de P z234 367 (vr 60)::de P z235 376 (vr 67)::de P z236 380 (vi 0 379)::de P z237 382 (vi 7 381)::de P z238 384 (vi 8 383)::de P z239 386 (vi 9 385)::de P z275 388 (vi 10 387)::de P z276 390 (vi 11 389)::de P z277 392 (vi 12 391)::de P z278 394 (vi 13 393)::de P z279 396 (vi 14 395)::de P z280 398 (vi 15 397)::de P z281 400 (vi 16 399)::de P z282 402 (vi 17 401)::de P z283 404 (vi 18 403)::de P z284 406 (vi 19 405)::de P z285 408 (vi 20 407)::de P z286 410 (vi 21 409)::de P z287 412 (vi 22 411)::de P z288 414 (vi 23 413)::de P z289 416 (vi 24 415)::de P z290 418 (vi 25 417)::de P z291 420 (vi 26 419)::de P z292 422 (vi 27 421)::de P z293 424 (vi 28 423)::de P z294 426 (vi 29 425)::de P z295 428 (vi 30 427)::de P z296 430 (vi 31 429)::de P z297 432 (vi 32 431)::de P z298 434 (vi 33 433)::de P z299 436 (vi 34 435)::de P z300 438 (vi 35 437)::de P z301 440 (vi 36 439)::de P z302 442 (vi 37 441)::de P z303 444 (vi 38 443)::de P z304 446 (vi 39 445)::de P z305 448 (vi 40 447)::de P z306 450 (vi 41 449)::de P z307 452 (vi 42 451)::de P z308 454 (vi 43 453)::de P z309 456 (vi 44 455)::de P z310 458 (vi 45 457)::de P z311 460 (vi 46 459)::de P z312 462 (vi 47 461)::de P z313 464 (vi 48 463)::de P z314 466 (vi 49 465)::de P z315 468 (vi 50 467)::de P z316 470 (vi 51 469)::de P z317 472 (vi 52 471)::de P z318 474 (vi 53 473)::de P z319 476 (vi 54 475)::de P z320 478 (vi 256 477)::[])) 69) #[]
noncomputable def tree_117:PT:=fun P=>N (o_41 P) (N (o_42 P) (N (o_117 P) (N (o_48 P) (N (o_56 P) (N (o_72 P) (L (o_108 P)) Z) (L (o_92 P))) (N (o_64 P) (L (o_84 P)) (L (o_100 P)))) (N (o_52 P) (N (o_60 P) (N (o_80 P) (L (o_112 P)) Z) (L (o_96 P))) (N (o_68 P) (L (o_88 P)) (L (o_104 P))))) (N (o_46 P) (N (o_50 P) (N (o_58 P) (N (o_78 P) (L (o_110 P)) Z) (L (o_94 P))) (N (o_66 P) (L (o_86 P)) (L (o_102 P)))) (N (o_54 P) (N (o_62 P) (L (o_82 P)) (L (o_98 P))) (N (o_76 P) (L (o_90 P)) (L (o_106 P)))))) (N (o_43 P) (N (o_45 P) (N (o_49 P) (N (o_57 P) (N (o_77 P) (L (o_109 P)) Z) (L (o_93 P))) (N (o_65 P) (L (o_85 P)) (L (o_101 P)))) (N (o_53 P) (N (o_61 P) (L (o_81 P)) (L (o_97 P))) (N (o_69 P) (L (o_89 P)) (L (o_105 P))))) (N (o_47 P) (N (o_51 P) (N (o_59 P) (N (o_79 P) (L (o_111 P)) Z) (L (o_95 P))) (N (o_67 P) (L (o_87 P)) (L (o_103 P)))) (N (o_55 P) (N (o_63 P) (L (o_83 P)) (L (o_99 P))) (N (o_71 P) (L (o_91 P)) (L (o_107 P))))))
noncomputable def o_119:PO:=fun P=>Obj.mk (Value.type "dict") none (Data.dict (List.toArray (de P z0 165 (vs z226 377)::de P z2 166 nn::de P z3 167 nn::de P z4 168 (Value.builtin "__main__.__loader__#opaque")::de P z5 169 nn::de P z162 170 (vr 6)::de P z163 171 (vr 4)::de P z164 173 (vs z165 172)::de P z166 174 nn::de P z161 275 (vr 12)::de P z227 288 (vr 38)::de P z228 292 (vi 40 291)::de P z229 294 (vi 2 293)::de P z230 296 (vi 1 295)::de P z231 304 (vr 45)::de P z232 324 (vr 52)::de P z233 357 (vr 53)::de P z234 367 (vr 60)::de P z235 376 (vr 67)::de P z236 380 (vi 0 379)::de P z237 382 (vi 7 381)::de P z238 384 (vi 8 383)::de P z239 386 (vi 9 385)::de P z275 388 (vi 10 387)::de P z276 390 (vi 11 389)::de P z277 392 (vi 12 391)::de P z278 394 (vi 13 393)::de P z279 396 (vi 14 395)::de P z280 398 (vi 15 397)::de P z281 400 (vi 16 399)::de P z282 402 (vi 17 401)::de P z283 404 (vi 18 403)::de P z284 406 (vi 19 405)::de P z285 408 (vi 20 407)::de P z286 410 (vi 21 409)::de P z287 412 (vi 22 411)::de P z288 414 (vi 23 413)::de P z289 416 (vi 24 415)::de P z290 418 (vi 25 417)::de P z291 420 (vi 26 419)::de P z292 422 (vi 27 421)::de P z293 424 (vi 28 423)::de P z294 426 (vi 29 425)::de P z295 428 (vi 30 427)::de P z296 430 (vi 31 429)::de P z297 432 (vi 32 431)::de P z298 434 (vi 33 433)::de P z299 436 (vi 34 435)::de P z300 438 (vi 35 437)::de P z301 440 (vi 36 439)::de P z302 442 (vi 37 441)::de P z303 444 (vi 38 443)::de P z304 446 (vi 39 445)::de P z305 448 (vi 40 447)::de P z306 450 (vi 41 449)::de P z307 452 (vi 42 451)::de P z308 454 (vi 43 453)::de P z309 456 (vi 44 455)::de P z310 458 (vi 45 457)::de P z311 460 (vi 46 459)::de P z312 462 (vi 47 461)::de P z313 464 (vi 48 463)::de P z314 466 (vi 49 465)::de P z315 468 (vi 50 467)::de P z316 470 (vi 51 469)::de P z317 472 (vi 52 471)::de P z318 474 (vi 53 473)::de P z319 476 (vi 54 475)::de P z320 478 (vi 256 477)::de P z321 575 (vr 68)::[])) 70) #[]
noncomputable def o_121:PO:=fun P=>Obj.mk (Value.type "dict") none (Data.dict (List.toArray [de P z322 513 (vi 51 469),de P z323 515 (vi 23 413),de P z324 517 (vi 52 471),de P z325 519 (vi 17 401),de P z326 521 (vi 47 461),de P z327 523 (vi 48 463),de P z328 525 (vi 39 445),de P z329 527 (vi 11 389),de P z330 529 (vi 53 473),de P z331 531 (vi 13 393),de P z332 533 (vi 20 407),de P z333 535 (vi 33 433),de P z334 537 (vi 44 455),de P z335 539 (vi 29 425),de P z336 541 (vi 22 411),de P z337 543 (vi 27 421),de P z338 545 (vi 21 409)]) 17) #[]
noncomputable def o_120:PO:=fun P=>Obj.mk (Value.type "dict") none (Data.dict (List.toArray (de P z339 479 (vi 54 475)::de P z340 481 (vi 28 423)::de P z341 483 (vi 24 415)::de P z342 485 (vi 40 447)::de P z343 487 (vi 19 405)::de P z344 489 (vi 41 449)::de P z345 491 (vi 7 381)::de P z346 493 (vi 8 383)::de P z347 495 (vi 16 399)::de P z348 497 (vi 35 437)::de P z349 499 (vi 46 459)::de P z350 501 (vi 38 443)::de P z351 503 (vi 14 395)::de P z352 505 (vi 36 439)::de P z353 507 (vi 12 391)::de P z354 509 (vi 15 397)::de P z355 511 (vi 37 441)::de P z322 513 (vi 51 469)::de P z323 515 (vi 23 413)::de P z324 517 (vi 52 471)::de P z325 519 (vi 17 401)::de P z326 521 (vi 47 461)::de P z327 523 (vi 48 463)::de P z328 525 (vi 39 445)::de P z329 527 (vi 11 389)::de P z330 529 (vi 53 473)::de P z331 531 (vi 13 393)::de P z332 533 (vi 20 407)::de P z333 535 (vi 33 433)::de P z334 537 (vi 44 455)::de P z335 539 (vi 29 425)::de P z336 541 (vi 22 411)::de P z337 543 (vi 27 421)::de P z338 545 (vi 21 409)::de P z356 547 (vi 30 427)::de P z357 548 (vi 34 435)::de P z358 549 (vi 45 457)::de P z359 550 (vi 49 465)::de P z360 551 (vi 50 467)::de P z361 552 (vi 9 385)::de P z362 553 (vi 10 387)::de P z363 554 (vi 32 431)::de P z364 555 (vi 43 453)::de P z365 556 (vi 25 417)::de P z366 557 (vi 18 403)::de P z367 558 (vi 42 451)::de P z368 559 (vi 26 419)::de P z369 560 (vi 31 429)::[])) 48) #[]
noncomputable def o_122:PO:=fun P=>Obj.mk (Value.type "dict") none (Data.dict (List.toArray [de P z356 547 (vi 30 427),de P z357 548 (vi 34 435),de P z358 549 (vi 45 457),de P z359 550 (vi 49 465),de P z360 551 (vi 50 467),de P z361 552 (vi 9 385),de P z362 553 (vi 10 387),de P z363 554 (vi 32 431),de P z364 555 (vi 43 453),de P z365 556 (vi 25 417),de P z366 557 (vi 18 403),de P z367 558 (vi 42 451),de P z368 559 (vi 26 419),de P z369 560 (vi 31 429)]) 14) #[]
noncomputable def tree_122:PT:=fun P=>N (o_41 P) (N (o_42 P) (N (o_119 P) (N (o_48 P) (N (o_56 P) (N (o_72 P) (L (o_108 P)) Z) (L (o_92 P))) (N (o_64 P) (L (o_84 P)) (L (o_100 P)))) (N (o_52 P) (N (o_60 P) (N (o_80 P) (L (o_112 P)) Z) (L (o_96 P))) (N (o_68 P) (L (o_88 P)) (L (o_104 P))))) (N (o_46 P) (N (o_50 P) (N (o_58 P) (N (o_78 P) (L (o_110 P)) Z) (L (o_94 P))) (N (o_66 P) (L (o_86 P)) (L (o_102 P)))) (N (o_54 P) (N (o_62 P) (N (o_82 P) (L (o_121 P)) Z) (L (o_98 P))) (N (o_76 P) (L (o_90 P)) (L (o_106 P)))))) (N (o_43 P) (N (o_45 P) (N (o_49 P) (N (o_57 P) (N (o_77 P) (L (o_109 P)) Z) (L (o_93 P))) (N (o_65 P) (L (o_85 P)) (L (o_101 P)))) (N (o_53 P) (N (o_61 P) (N (o_81 P) (L (o_120 P)) Z) (L (o_97 P))) (N (o_69 P) (L (o_89 P)) (L (o_105 P))))) (N (o_47 P) (N (o_51 P) (N (o_59 P) (N (o_79 P) (L (o_111 P)) Z) (L (o_95 P))) (N (o_67 P) (L (o_87 P)) (L (o_103 P)))) (N (o_55 P) (N (o_63 P) (N (o_83 P) (L (o_122 P)) Z) (L (o_99 P))) (N (o_71 P) (L (o_91 P)) (L (o_107 P))))))
noncomputable def o_126:PO:=fun P=>Obj.mk (Value.type "dict") none (Data.dict (List.toArray (de P z0 165 (vs z370 590)::de P z2 166 nn::de P z3 167 nn::de P z4 168 (Value.builtin "__main__.__loader__#opaque")::de P z5 169 nn::de P z162 170 (vr 6)::de P z163 171 (vr 4)::de P z164 173 (vs z165 172)::de P z166 174 nn::de P z161 275 (vr 12)::de P z227 288 (vr 38)::de P z228 292 (vi 40 291)::de P z229 294 (vi 2 293)::de P z230 296 (vi 1 295)::de P z231 304 (vr 45)::de P z232 324 (vr 52)::de P z233 357 (vr 53)::de P z234 367 (vr 60)::de P z235 376 (vr 67)::de P z236 380 (vi 0 379)::de P z237 382 (vi 7 381)::de P z238 384 (vi 8 383)::de P z239 386 (vi 9 385)::de P z275 388 (vi 10 387)::de P z276 390 (vi 11 389)::de P z277 392 (vi 12 391)::de P z278 394 (vi 13 393)::de P z279 396 (vi 14 395)::de P z280 398 (vi 15 397)::de P z281 400 (vi 16 399)::de P z282 402 (vi 17 401)::de P z283 404 (vi 18 403)::de P z284 406 (vi 19 405)::de P z285 408 (vi 20 407)::de P z286 410 (vi 21 409)::de P z287 412 (vi 22 411)::de P z288 414 (vi 23 413)::de P z289 416 (vi 24 415)::de P z290 418 (vi 25 417)::de P z291 420 (vi 26 419)::de P z292 422 (vi 27 421)::de P z293 424 (vi 28 423)::de P z294 426 (vi 29 425)::de P z295 428 (vi 30 427)::de P z296 430 (vi 31 429)::de P z297 432 (vi 32 431)::de P z298 434 (vi 33 433)::de P z299 436 (vi 34 435)::de P z300 438 (vi 35 437)::de P z301 440 (vi 36 439)::de P z302 442 (vi 37 441)::de P z303 444 (vi 38 443)::de P z304 446 (vi 39 445)::de P z305 448 (vi 40 447)::de P z306 450 (vi 41 449)::de P z307 452 (vi 42 451)::de P z308 454 (vi 43 453)::de P z309 456 (vi 44 455)::de P z310 458 (vi 45 457)::de P z311 460 (vi 46 459)::de P z312 462 (vi 47 461)::de P z313 464 (vi 48 463)::de P z314 466 (vi 49 465)::de P z315 468 (vi 50 467)::de P z316 470 (vi 51 469)::de P z317 472 (vi 52 471)::de P z318 474 (vi 53 473)::de P z319 476 (vi 54 475)::de P z320 478 (vi 256 477)::de P z321 575 (vr 68)::de P z371 582 (vr 77)::de P z372 589 (vr 84)::de P z373 625 (vr 89)::de P z374 651 (vr 94)::de P z375 685 (vr 99)::de P z376 695 (vr 107)::[])) 76) #[]
noncomputable def o_152:PO:=fun P=>Obj.mk (Value.type "list") none (Data.seq (List.toArray [vi 14 655,vi 14 656,vi 4 657,vi 1 658,vi 1 659,vi 9 660,vi 4294966783 661,vi 0 662,vi 0 663,vi 2147483648 664,vi 0 665,vi 0 666,vi 0 667,vi 0 668,vi 0 669,vi 13 670,vi 11 671,vi 9 672,vi 4294966783 673,vi 0 674,vi 0 675,vi 2147483648 676,vi 0 677,vi 0 678,vi 0 679,vi 0 680,vi 0 681,vi 1 682]) 0) #[]
noncomputable def o_136:PO:=fun P=>fl []
noncomputable def o_128:PO:=fun P=>tu [] 0
noncomputable def o_160:PO:=fun P=>tu [vs z377 690,vs z378 691,vs z379 692] 0
noncomputable def o_144:PO:=fun P=>tu [nn] 0
noncomputable def o_156:PO:=fun P=>Obj.mk (Value.type "re.Pattern") none (Data.fields (List.toArray [vs z380 653,vi 32 684,vi 0 0,nn,nn,vr 98,vi 0 0])) #[]
noncomputable def o_140:PO:=fun P=>co [vs z372 583,vs z372 584,vs z165 585,vi 129 0,vi 1 0,vi 0 0,vi 0 0,vi 3 0,vr 78,(Value.bool @Bool.true),vi 276 0,vr 79,nn,vr 80,vr 81,vr 82,vi 587 0,vi 129 0,vs z165 588]
noncomputable def o_132:PO:=fun P=>fs z371 z371 64
noncomputable def o_164:PO:=fun P=>Obj.mk (Value.type "function") none (Data.func (FuncData.mk z376 z376 (sArgs (st 70)) (FuncBody.stmts (sBody (st 70))) (sScope (st 70)) 3 [] (vr 100) nn nn (vs z370 590) none (vr 106) nn 0)) #[]
noncomputable def o_148:PO:=fun P=>Obj.mk (Value.type "dict") none (Data.dict (List.toArray []) 0) #[]
noncomputable def o_154:PO:=fun P=>tu [nn] 0
noncomputable def o_138:PO:=fun P=>tu [] 0
noncomputable def o_130:PO:=fun P=>tu [vs z381 579] 0
noncomputable def o_162:PO:=fun P=>fs z376 z376 70
noncomputable def o_146:PO:=fun P=>Obj.mk (Value.type "re.Pattern") none (Data.fields (List.toArray [vs z382 593,vi 32 624,vi 0 0,nn,nn,vr 88,vi 0 0])) #[]
noncomputable def o_158:PO:=fun P=>tu [] 0
noncomputable def o_142:PO:=fun P=>Obj.mk (Value.type "list") none (Data.seq (List.toArray [vi 14 595,vi 14 596,vi 4 597,vi 1 598,vi 1 599,vi 9 600,vi 0 601,vi 4227896069 602,vi 939524097 603,vi 0 604,vi 0 605,vi 0 606,vi 0 607,vi 0 608,vi 0 609,vi 13 610,vi 11 611,vi 9 612,vi 0 613,vi 4227896069 614,vi 939524097 615,vi 0 616,vi 0 617,vi 0 618,vi 0 619,vi 0 620,vi 0 621,vi 1 622]) 0) #[]
noncomputable def o_127:PO:=fun P=>fl [vi 2 0,vi 0 0,vr 37,vi 9 0,vi 0 0,vr 44,vi 15 0,vi 0 0,vr 51,vi 55 0,vi 0 0,vr 59,vi 67 0,vi 0 0,vr 66,vi 127 0,vi 0 0,vr 76,vi 129 0,vi 0 0,vr 83,vi 135 0,vi 0 0,vr 106]
noncomputable def o_134:PO:=fun P=>Obj.mk (Value.type "function") none (Data.func (FuncData.mk z371 z371 (sArgs (st 64)) (FuncBody.stmts (sBody (st 64))) (sScope (st 64)) 3 [] nn nn nn (vs z226 377) none (vr 76) nn 0)) #[]
noncomputable def o_150:PO:=fun P=>tu [vi 14 0,vi 10 0,vi 4 0,vi 1 0,vi 1 0,vi 22 0,vi 0 0,vi 31 0,vi 16 0,vi 127 0,vi 0 0,vi 13 0,vi 7 0,vi 22 0,vi 0 0,vi 31 0,vi 16 0,vi 127 0,vi 0 0,vi 1 0] 0
noncomputable def o_153:PO:=fun P=>Obj.mk (Value.type "dict") none (Data.dict (List.toArray []) 0) #[]
noncomputable def o_137:PO:=fun P=>tu [vs z381 586] 0
noncomputable def o_129:PO:=fun P=>fl []
noncomputable def o_161:PO:=fun P=>tu [] 0
noncomputable def o_145:PO:=fun P=>tu [vi 14 0,vi 14 0,vi 4 0,vi 1 0,vi 1 0,vi 9 0,vi 0 0,vi 4227896069 0,vi 939524097 0,vi 0 0,vi 0 0,vi 0 0,vi 0 0,vi 0 0,vi 0 0,vi 13 0,vi 11 0,vi 9 0,vi 0 0,vi 4227896069 0,vi 939524097 0,vi 0 0,vi 0 0,vi 0 0,vi 0 0,vi 0 0,vi 0 0,vi 1 0] 0
noncomputable def o_157:PO:=fun P=>tu [nn,vi 1 686] 0
noncomputable def o_141:PO:=fun P=>Obj.mk (Value.type "function") none (Data.func (FuncData.mk z372 z372 (sArgs (st 65)) (FuncBody.stmts (sBody (st 65))) (sScope (st 65)) 3 [] nn nn nn (vs z226 377) none (vr 83) nn 0)) #[]
noncomputable def o_133:PO:=fun P=>co [vs z371 576,vs z371 577,vs z165 578,vi 127 0,vi 1 0,vi 0 0,vi 0 0,vi 3 0,vr 71,(Value.bool @Bool.true),vi 276 0,vr 72,nn,vr 73,vr 74,vr 75,vi 580 0,vi 127 0,vs z165 581]
noncomputable def o_149:PO:=fun P=>tu [nn] 0
noncomputable def o_155:PO:=fun P=>tu [vi 14 0,vi 14 0,vi 4 0,vi 1 0,vi 1 0,vi 9 0,vi 4294966783 0,vi 0 0,vi 0 0,vi 2147483648 0,vi 0 0,vi 0 0,vi 0 0,vi 0 0,vi 0 0,vi 13 0,vi 11 0,vi 9 0,vi 4294966783 0,vi 0 0,vi 0 0,vi 2147483648 0,vi 0 0,vi 0 0,vi 0 0,vi 0 0,vi 0 0,vi 1 0] 0
noncomputable def o_139:PO:=fun P=>fs z372 z372 65
noncomputable def o_131:PO:=fun P=>tu [] 0
noncomputable def o_163:PO:=fun P=>co [vs z376 687,vs z376 688,vs z165 689,vi 135 0,vi 3 0,vi 0 0,vi 0 0,vi 3 0,vr 101,(Value.bool @Bool.true),vi 276 0,vr 102,nn,vr 103,vr 104,vr 105,vi 693 0,vi 135 0,vs z165 694]
noncomputable def o_147:PO:=fun P=>Obj.mk (Value.type "list") none (Data.seq (List.toArray [vi 14 629,vi 10 630,vi 4 631,vi 1 632,vi 1 633,vi 22 634,vi 0 635,vi 31 636,vi 16 637,vi 127 638,vi 0 639,vi 13 640,vi 7 641,vi 22 642,vi 0 643,vi 31 644,vi 16 645,vi 127 646,vi 0 647,vi 1 648]) 0) #[]
noncomputable def o_159:PO:=fun P=>fl []
noncomputable def o_143:PO:=fun P=>Obj.mk (Value.type "dict") none (Data.dict (List.toArray []) 0) #[]
noncomputable def o_135:PO:=fun P=>tu [] 0
noncomputable def o_151:PO:=fun P=>Obj.mk (Value.type "re.Pattern") none (Data.fields (List.toArray [vs z383 627,vi 32 650,vi 0 0,nn,nn,vr 93,vi 0 0])) #[]
noncomputable def tree_164:PT:=fun P=>N (o_41 P) (N (o_42 P) (N (o_126 P) (N (o_48 P) (N (o_56 P) (N (o_72 P) (L (o_108 P)) (L (o_152 P))) (N (o_92 P) (L (o_136 P)) Z)) (N (o_64 P) (N (o_84 P) (L (o_128 P)) (L (o_160 P))) (N (o_100 P) (L (o_144 P)) Z))) (N (o_52 P) (N (o_60 P) (N (o_80 P) (L (o_112 P)) (L (o_156 P))) (N (o_96 P) (L (o_140 P)) Z)) (N (o_68 P) (N (o_88 P) (L (o_132 P)) (L (o_164 P))) (N (o_104 P) (L (o_148 P)) Z)))) (N (o_46 P) (N (o_50 P) (N (o_58 P) (N (o_78 P) (L (o_110 P)) (L (o_154 P))) (N (o_94 P) (L (o_138 P)) Z)) (N (o_66 P) (N (o_86 P) (L (o_130 P)) (L (o_162 P))) (N (o_102 P) (L (o_146 P)) Z))) (N (o_54 P) (N (o_62 P) (N (o_82 P) (L (o_121 P)) (L (o_158 P))) (N (o_98 P) (L (o_142 P)) Z)) (N (o_127 P) (N (o_90 P) (L (o_134 P)) Z) (N (o_106 P) (L (o_150 P)) Z))))) (N (o_43 P) (N (o_45 P) (N (o_49 P) (N (o_57 P) (N (o_77 P) (L (o_109 P)) (L (o_153 P))) (N (o_93 P) (L (o_137 P)) Z)) (N (o_65 P) (N (o_85 P) (L (o_129 P)) (L (o_161 P))) (N (o_101 P) (L (o_145 P)) Z))) (N (o_53 P) (N (o_61 P) (N (o_81 P) (L (o_120 P)) (L (o_157 P))) (N (o_97 P) (L (o_141 P)) Z)) (N (o_69 P) (N (o_89 P) (L (o_133 P)) Z) (N (o_105 P) (L (o_149 P)) Z)))) (N (o_47 P) (N (o_51 P) (N (o_59 P) (N (o_79 P) (L (o_111 P)) (L (o_155 P))) (N (o_95 P) (L (o_139 P)) Z)) (N (o_67 P) (N (o_87 P) (L (o_131 P)) (L (o_163 P))) (N (o_103 P) (L (o_147 P)) Z))) (N (o_55 P) (N (o_63 P) (N (o_83 P) (L (o_122 P)) (L (o_159 P))) (N (o_99 P) (L (o_143 P)) Z)) (N (o_71 P) (N (o_91 P) (L (o_135 P)) Z) (N (o_107 P) (L (o_151 P)) Z)))))
noncomputable def o_165:PO:=fun P=>Obj.mk (Value.type "dict") none (Data.dict (List.toArray (de P z0 165 (vs z370 590)::de P z2 166 nn::de P z3 167 nn::de P z4 168 (Value.builtin "__main__.__loader__#opaque")::de P z5 169 nn::de P z162 170 (vr 6)::de P z163 171 (vr 4)::de P z164 173 (vs z165 172)::de P z166 174 nn::de P z161 275 (vr 12)::de P z227 288 (vr 38)::de P z228 292 (vi 40 291)::de P z229 294 (vi 2 293)::de P z230 296 (vi 1 295)::de P z231 304 (vr 45)::de P z232 324 (vr 52)::de P z233 357 (vr 53)::de P z234 367 (vr 60)::de P z235 376 (vr 67)::de P z236 380 (vi 0 379)::de P z237 382 (vi 7 381)::de P z238 384 (vi 8 383)::de P z239 386 (vi 9 385)::de P z275 388 (vi 10 387)::de P z276 390 (vi 11 389)::de P z277 392 (vi 12 391)::de P z278 394 (vi 13 393)::de P z279 396 (vi 14 395)::de P z280 398 (vi 15 397)::de P z281 400 (vi 16 399)::de P z282 402 (vi 17 401)::de P z283 404 (vi 18 403)::de P z284 406 (vi 19 405)::de P z285 408 (vi 20 407)::de P z286 410 (vi 21 409)::de P z287 412 (vi 22 411)::de P z288 414 (vi 23 413)::de P z289 416 (vi 24 415)::de P z290 418 (vi 25 417)::de P z291 420 (vi 26 419)::de P z292 422 (vi 27 421)::de P z293 424 (vi 28 423)::de P z294 426 (vi 29 425)::de P z295 428 (vi 30 427)::de P z296 430 (vi 31 429)::de P z297 432 (vi 32 431)::de P z298 434 (vi 33 433)::de P z299 436 (vi 34 435)::de P z300 438 (vi 35 437)::de P z301 440 (vi 36 439)::de P z302 442 (vi 37 441)::de P z303 444 (vi 38 443)::de P z304 446 (vi 39 445)::de P z305 448 (vi 40 447)::de P z306 450 (vi 41 449)::de P z307 452 (vi 42 451)::de P z308 454 (vi 43 453)::de P z309 456 (vi 44 455)::de P z310 458 (vi 45 457)::de P z311 460 (vi 46 459)::de P z312 462 (vi 47 461)::de P z313 464 (vi 48 463)::de P z314 466 (vi 49 465)::de P z315 468 (vi 50 467)::de P z316 470 (vi 51 469)::de P z317 472 (vi 52 471)::de P z318 474 (vi 53 473)::de P z319 476 (vi 54 475)::de P z320 478 (vi 256 477)::de P z321 575 (vr 68)::de P z371 582 (vr 77)::de P z372 589 (vr 84)::de P z373 625 (vr 89)::de P z374 651 (vr 94)::de P z375 685 (vr 99)::de P z376 695 (vr 107)::de P z384 852 (vr 228)::[])) 77) #[]
noncomputable def o_186:PO:=fun P=>fd z385 z386 1
noncomputable def o_250:PO:=fun P=>co [vs z387 795,vs z388 796,vs z165 797,vi 198 0,vi 1 0,vi 0 0,vi 0 0,vi 3 0,vr 186,(Value.bool @Bool.true),vi 276 0,vr 187,nn,vr 188,vr 189,vr 190,vi 799 0,vi 198 0,vs z165 800]
noncomputable def o_218:PO:=fun P=>tu [] 0
noncomputable def o_282:PO:=fun P=>fd z389 z390 16
noncomputable def o_202:PO:=fun P=>Obj.mk (Value.type "function") none (Data.func (FuncData.mk z391 z392 (sArgs (ct 3)) (FuncBody.stmts (sBody (ct 3))) (sScope (ct 3)) 3 [] nn nn nn (vs z370 590) none (vr 142) nn 0)) #[]
noncomputable def o_266:PO:=fun P=>tu [vs z393 818] 0
noncomputable def o_170:PO:=fun P=>tu [] 0
noncomputable def o_234:PO:=fun P=>Obj.mk (Value.type "function") none (Data.func (FuncData.mk z394 z395 (sArgs (ct 8)) (FuncBody.stmts (sBody (ct 8))) (sScope (ct 8)) 3 [] (vr 168) nn nn (vs z370 590) none (vr 174) nn 0)) #[]
noncomputable def o_194:PO:=fun P=>co [vs z396 728,vs z397 729,vs z165 730,vi 164 0,vi 1 0,vi 0 0,vi 0 0,vi 3 0,vr 130,(Value.bool @Bool.true),vi 276 0,vr 131,nn,vr 132,vr 133,vr 134,vi 732 0,vi 164 0,vs z165 733]
noncomputable def o_258:PO:=fun P=>Obj.mk (Value.type "function") none (Data.func (FuncData.mk z204 z398 (sArgs (ct 12)) (FuncBody.stmts (sBody (ct 12))) (sScope (ct 12)) 3 [] nn nn nn (vs z370 590) none (vr 198) nn 0)) #[]
noncomputable def o_226:PO:=fun P=>Obj.mk (Value.type "function") none (Data.func (FuncData.mk z399 z400 (sArgs (ct 7)) (FuncBody.stmts (sBody (ct 7))) (sScope (ct 7)) 3 [] nn nn nn (vs z370 590) none (vr 166) nn 0)) #[]
noncomputable def o_290:PO:=fun P=>Obj.mk (Value.type "super") none (Data.fields (List.toArray [vr 228,vr 228,vr 228])) #[]
noncomputable def o_210:PO:=fun P=>tu [vs z393 753,vs z172 754] 0
noncomputable def o_274:PO:=fun P=>tu [] 0
noncomputable def o_178:PO:=fun P=>tu [] 0
noncomputable def o_242:PO:=fun P=>fd z401 z402 10
noncomputable def o_190:PO:=fun P=>fl []
noncomputable def o_254:PO:=fun P=>tu [vs z393 805] 0
noncomputable def o_222:PO:=fun P=>tu [] 0
noncomputable def o_286:PO:=fun P=>Obj.mk (Value.type "dict") none (Data.dict (List.toArray [de P z189 703 (vs z370 590),de P z191 707 (vi 144 706),de P z203 717 (vr 122),de P z385 727 (vr 129),de P z396 734 (vr 136),de P z391 743 (vr 143),de P z403 749 (vr 148),de P z404 757 (vr 155),de P z405 765 (vr 162),de P z399 771 (vr 167),de P z394 782 (vr 175),de P z406 788 (vr 180),de P z401 794 (vr 185),de P z387 801 (vr 192),de P z204 808 (vr 199),de P z407 814 (vr 204),de P z408 821 (vr 211),de P z409 830 (vr 218),de P z389 843 (vr 225),de P z201 845 (vr 226),de P z202 847 (vr 229),de P z188 849 (vr 230),de P z2 850 nn]) 4) #[]
noncomputable def o_206:PO:=fun P=>co [vs z403 744,vs z410 745,vs z165 746,vi 171 0,vi 2 0,vi 0 0,vi 0 0,vi 3 0,vr 144,(Value.bool @Bool.true),vi 276 0,vr 145,nn,nn,nn,vr 146,vi 747 0,vi 171 0,vs z165 748]
noncomputable def o_270:PO:=fun P=>Obj.mk (Value.type "function") none (Data.func (FuncData.mk z408 z411 (sArgs (ct 14)) (FuncBody.stmts (sBody (ct 14))) (sScope (ct 14)) 3 [] nn nn nn (vs z370 590) none (vr 210) nn 0)) #[]
noncomputable def o_174:PO:=fun P=>tu [nn] 0
noncomputable def o_238:PO:=fun P=>co [vs z406 783,vs z412 784,vs z165 785,vi 192 0,vi 1 0,vi 0 0,vi 0 0,vi 3 0,vr 176,(Value.bool @Bool.true),vi 276 0,vr 177,nn,nn,nn,vr 178,vi 786 0,vi 192 0,vs z165 787]
noncomputable def o_198:PO:=fun P=>tu [vs z393 738,vs z172 739,vs z242 740] 0
noncomputable def o_262:PO:=fun P=>co [vs z407 809,vs z413 810,vs z165 811,vi 204 0,vi 1 0,vi 0 0,vi 0 0,vi 3 0,vr 200,(Value.bool @Bool.true),vi 276 0,vr 201,nn,nn,nn,vr 202,vi 812 0,vi 204 0,vs z165 813]
noncomputable def o_230:PO:=fun P=>tu [vs z393 775,vs z172 776,vs z414 777,vs z274 778,vs z415 779] 0
noncomputable def o_214:PO:=fun P=>Obj.mk (Value.type "function") none (Data.func (FuncData.mk z404 z416 (sArgs (ct 5)) (FuncBody.stmts (sBody (ct 5))) (sScope (ct 6)) 3 [] nn nn nn (vs z370 590) none (vr 154) nn 0)) #[]
noncomputable def o_278:PO:=fun P=>tu [] 0
noncomputable def o_182:PO:=fun P=>tu [] 0
noncomputable def o_246:PO:=fun P=>fl []
noncomputable def o_188:PO:=fun P=>Obj.mk (Value.type "function") none (Data.func (FuncData.mk z385 z386 (sArgs (ct 1)) (FuncBody.stmts (sBody (ct 1))) (sScope (ct 1)) 3 [] nn nn nn (vs z370 590) none (vr 128) nn 0)) #[]
noncomputable def o_252:PO:=fun P=>tu [] 0
noncomputable def o_220:PO:=fun P=>co [vs z405 758,vs z417 759,vs z165 760,vi 178 0,vi 2 0,vi 0 0,vi 0 0,vi 3 0,vr 156,(Value.bool @Bool.true),vi 276 0,vr 157,nn,vr 158,vr 159,vr 160,vi 763 0,vi 178 0,vs z165 764]
noncomputable def o_284:PO:=fun P=>Obj.mk (Value.type "function") none (Data.func (FuncData.mk z389 z390 (sArgs (ct 16)) (FuncBody.stmts (sBody (ct 16))) (sScope (ct 16)) 3 [] nn nn nn (vs z370 590) none (vr 224) nn 0)) #[]
noncomputable def o_204:PO:=fun P=>fl []
noncomputable def o_268:PO:=fun P=>fd z408 z411 14
noncomputable def o_172:PO:=fun P=>co [vs z384 698,vs z384 699,vs z165 700,vi 144 0,vi 0 0,vi 0 0,vi 0 0,vi 0 0,vr 111,bF,vi 276 0,vr 112,nn,nn,nn,nn,vi 701 0,vi 144 0,vs z165 702]
noncomputable def o_236:PO:=fun P=>fl []
noncomputable def o_196:PO:=fun P=>tu [] 0
noncomputable def o_260:PO:=fun P=>fl []
noncomputable def o_228:PO:=fun P=>tu [] 0
noncomputable def o_212:PO:=fun P=>Obj.mk nn none (Data.func (FuncData.mk z404 z416 (sArgs (ct 5)) (FuncBody.stmts (sBody (ct 5))) (sScope (ct 6)) 0 [] nn nn nn nn none nn nn 0)) #[]
noncomputable def o_276:PO:=fun P=>co [vs z409 822,vs z418 823,vs z165 824,vi 210 0,vi 3 0,vi 0 0,vi 0 0,vi 3 0,vr 212,(Value.bool @Bool.true),vi 276 0,vr 213,nn,vr 214,vr 215,vr 216,vi 828 0,vi 210 0,vs z165 829]
noncomputable def o_180:PO:=fun P=>co [vs z203 708,vs z419 709,vs z165 710,vi 146 0,vi 2 0,vi 0 0,vi 0 0,vi 3 0,vr 116,(Value.bool @Bool.true),vi 276 0,vr 117,nn,vr 118,vr 119,vr 120,vi 715 0,vi 146 0,vs z165 716]
noncomputable def o_244:PO:=fun P=>Obj.mk (Value.type "function") none (Data.func (FuncData.mk z401 z402 (sArgs (ct 10)) (FuncBody.stmts (sBody (ct 10))) (sScope (ct 10)) 3 [] nn nn nn (vs z370 590) none (vr 184) nn 0)) #[]
noncomputable def o_192:PO:=fun P=>tu [] 0
noncomputable def o_256:PO:=fun P=>fd z204 z398 12
noncomputable def o_224:PO:=fun P=>fd z399 z400 7
noncomputable def o_288:PO:=fun P=>Obj.mk (Value.type "getset_descriptor") none (Data.fields (List.toArray [vs z202 846,vr 228,(Value.builtin "function.__dict__"),(Value.builtin "function.__dict__#set")])) #[]
noncomputable def o_208:PO:=fun P=>tu [] 0
noncomputable def o_272:PO:=fun P=>fl []
noncomputable def o_176:PO:=fun P=>fl []
noncomputable def o_240:PO:=fun P=>tu [] 0
noncomputable def o_166:PO:=fun P=>fl [vi 2 0,vi 0 0,vr 37,vi 9 0,vi 0 0,vr 44,vi 15 0,vi 0 0,vr 51,vi 55 0,vi 0 0,vr 59,vi 67 0,vi 0 0,vr 66,vi 127 0,vi 0 0,vr 76,vi 129 0,vi 0 0,vr 83,vi 135 0,vi 0 0,vr 106,vi 144 0,vi 0 0,vr 113]
noncomputable def o_200:PO:=fun P=>fd z391 z392 3
noncomputable def o_264:PO:=fun P=>tu [] 0
noncomputable def o_168:PO:=fun P=>Obj.mk (Value.type "builtin_function_or_method") none (Data.fields (List.toArray [(Value.builtin "type.__prepare__"),(Value.type "type")])) #[]
noncomputable def o_232:PO:=fun P=>fd z394 z395 8
noncomputable def o_216:PO:=fun P=>fl []
noncomputable def o_280:PO:=fun P=>tu [vs z393 834,vs z420 835,vs z421 836,vs z422 837,vs z423 838,vs z274 839,vs z415 840] 0
noncomputable def o_184:PO:=fun P=>tu [vs z393 721,vs z378 722,vs z172 723,vs z424 724] 0
noncomputable def o_248:PO:=fun P=>tu [] 0
noncomputable def o_187:PO:=fun P=>co [vs z385 718,vs z386 719,vs z165 720,vi 156 0,vi 2 0,vi 0 0,vi 1 0,vi 3 0,vr 123,(Value.bool @Bool.true),vi 276 0,vr 124,nn,vr 125,vr 126,vr 127,vi 725 0,vi 156 0,vs z165 726]
noncomputable def o_251:PO:=fun P=>Obj.mk (Value.type "function") none (Data.func (FuncData.mk z387 z388 (sArgs (ct 11)) (FuncBody.stmts (sBody (ct 11))) (sScope (ct 12)) 3 [] nn nn nn (vs z370 590) none (vr 191) nn 0)) #[]
noncomputable def o_219:PO:=fun P=>fd z405 z417 6
noncomputable def o_283:PO:=fun P=>co [vs z389 831,vs z390 832,vs z165 833,vi 213 0,vi 3 0,vi 0 0,vi 0 0,vi 11 0,vr 219,(Value.bool @Bool.true),vi 276 0,vr 220,nn,vr 221,vr 222,vr 223,vi 841 0,vi 213 0,vs z165 842]
noncomputable def o_203:PO:=fun P=>tu [] 0
noncomputable def o_267:PO:=fun P=>tu [] 0
noncomputable def o_171:PO:=fun P=>Obj.mk nn none (Data.fields (List.toArray (vi 146 0::vi 4 0::vr 121::vi 156 0::vi 4 0::vr 128::vi 164 0::vi 4 0::vr 135::vi 167 0::vi 4 0::vr 142::vi 171 0::vi 4 0::vr 147::vi 175 0::vi 4 0::vr 154::vi 178 0::vi 4 0::vr 161::vi 181 0::vi 4 0::vr 166::vi 185 0::vi 4 0::vr 174::vi 192 0::vi 4 0::vr 179::vi 195 0::vi 4 0::vr 184::vi 198 0::vi 4 0::vr 191::vi 201 0::vi 4 0::vr 198::vi 204 0::vi 4 0::vr 203::vi 207 0::vi 4 0::vr 210::vi 210 0::vi 4 0::vr 217::vi 213 0::vi 4 0::vr 224::[]))) #[]
noncomputable def o_235:PO:=fun P=>tu [] 0
noncomputable def o_195:PO:=fun P=>Obj.mk (Value.type "function") none (Data.func (FuncData.mk z396 z397 (sArgs (ct 2)) (FuncBody.stmts (sBody (ct 2))) (sScope (ct 2)) 3 [] nn nn nn (vs z370 590) none (vr 135) nn 0)) #[]
noncomputable def o_259:PO:=fun P=>tu [] 0
noncomputable def o_227:PO:=fun P=>tu [nn] 0
noncomputable def o_291:PO:=fun P=>Obj.mk (Value.type "builtin_function_or_method") none (Data.fields (List.toArray [(Value.builtin "object.__init_subclass__"),vr 228])) #[]
noncomputable def o_211:PO:=fun P=>tu [] 0
noncomputable def o_275:PO:=fun P=>fd z409 z418 15
noncomputable def o_179:PO:=fun P=>fd z203 z419 0
noncomputable def o_243:PO:=fun P=>co [vs z401 789,vs z402 790,vs z165 791,vi 195 0,vi 1 0,vi 0 0,vi 0 0,vi 3 0,vr 181,(Value.bool @Bool.true),vi 276 0,vr 182,nn,nn,nn,vr 183,vi 792 0,vi 195 0,vs z165 793]
noncomputable def o_191:PO:=fun P=>tu [vs z393 731] 0
noncomputable def o_255:PO:=fun P=>tu [] 0
noncomputable def o_223:PO:=fun P=>fl []
noncomputable def o_287:PO:=fun P=>Obj.mk (Value.type "type") none (Data.cls (ClassData.mk z384 [(Value.type "object")] [vr 228,(Value.type "object")] 227 z384 @Bool.true [] [] @Bool.false (@Option.none @Bool) @Bool.false)) (List.toArray [none,none,some (vs z384 696),some (vs z384 704),(some (Value.builtin "object.__new__")),(some (Value.bool @Bool.true))])
noncomputable def o_207:PO:=fun P=>Obj.mk (Value.type "function") none (Data.func (FuncData.mk z403 z410 (sArgs (ct 4)) (FuncBody.stmts (sBody (ct 4))) (sScope (ct 7)) 3 [] nn nn nn (vs z370 590) none (vr 147) nn 0)) #[]
noncomputable def o_271:PO:=fun P=>tu [] 0
noncomputable def o_175:PO:=fun P=>tu [] 0
noncomputable def o_239:PO:=fun P=>Obj.mk (Value.type "function") none (Data.func (FuncData.mk z406 z412 (sArgs (ct 9)) (FuncBody.stmts (sBody (ct 9))) (sScope (ct 10)) 3 [] nn nn nn (vs z370 590) none (vr 179) nn 0)) #[]
noncomputable def o_199:PO:=fun P=>tu [] 0
noncomputable def o_263:PO:=fun P=>Obj.mk (Value.type "function") none (Data.func (FuncData.mk z407 z413 (sArgs (ct 13)) (FuncBody.stmts (sBody (ct 13))) (sScope (ct 13)) 3 [] nn nn nn (vs z370 590) none (vr 203) nn 0)) #[]
noncomputable def o_167:PO:=fun P=>tu [] 0
noncomputable def o_231:PO:=fun P=>tu [] 0
noncomputable def o_215:PO:=fun P=>tu [] 0
noncomputable def o_279:PO:=fun P=>fl []
noncomputable def o_183:PO:=fun P=>fl []
noncomputable def o_247:PO:=fun P=>tu [vs z393 798] 0
noncomputable def o_189:PO:=fun P=>tu [] 0
noncomputable def o_253:PO:=fun P=>fl []
noncomputable def o_221:PO:=fun P=>Obj.mk (Value.type "function") none (Data.func (FuncData.mk z405 z417 (sArgs (ct 6)) (FuncBody.stmts (sBody (ct 6))) (sScope (ct 6)) 3 [] nn nn nn (vs z370 590) none (vr 161) nn 0)) #[]
noncomputable def o_285:PO:=fun P=>tu [vs z425 844] 0
noncomputable def o_205:PO:=fun P=>Obj.mk nn none (Data.func (FuncData.mk z403 z410 (sArgs (ct 4)) (FuncBody.stmts (sBody (ct 4))) (sScope (ct 7)) 0 [] nn nn nn nn none nn nn 0)) #[]
noncomputable def o_269:PO:=fun P=>co [vs z408 815,vs z411 816,vs z165 817,vi 207 0,vi 1 0,vi 0 0,vi 0 0,vi 3 0,vr 205,(Value.bool @Bool.true),vi 276 0,vr 206,nn,vr 207,vr 208,vr 209,vi 819 0,vi 207 0,vs z165 820]
noncomputable def o_173:PO:=fun P=>Obj.mk (Value.type "frame") none Data.plain (List.toArray [some (vr 113),some (vr 3),some (vr 110),none,some (vs z370 590),none,some (vr 0)])
noncomputable def o_237:PO:=fun P=>Obj.mk nn none (Data.func (FuncData.mk z406 z412 (sArgs (ct 9)) (FuncBody.stmts (sBody (ct 9))) (sScope (ct 10)) 0 [] nn nn nn nn none nn nn 0)) #[]
noncomputable def o_197:PO:=fun P=>fl []
noncomputable def o_261:PO:=fun P=>fd z407 z413 13
noncomputable def o_229:PO:=fun P=>fl []
noncomputable def o_213:PO:=fun P=>co [vs z404 750,vs z416 751,vs z165 752,vi 175 0,vi 2 0,vi 0 0,vi 0 0,vi 3 0,vr 149,(Value.bool @Bool.true),vi 276 0,vr 150,nn,vr 151,vr 152,vr 153,vi 755 0,vi 175 0,vs z165 756]
noncomputable def o_277:PO:=fun P=>Obj.mk (Value.type "function") none (Data.func (FuncData.mk z409 z418 (sArgs (ct 15)) (FuncBody.stmts (sBody (ct 15))) (sScope (ct 15)) 3 [] nn nn nn (vs z370 590) none (vr 217) nn 0)) #[]
noncomputable def o_181:PO:=fun P=>Obj.mk (Value.type "function") none (Data.func (FuncData.mk z203 z419 (sArgs (ct 0)) (FuncBody.stmts (sBody (ct 0))) (sScope (ct 0)) 3 [] (vr 115) nn nn (vs z370 590) none (vr 121) nn 0)) #[]
noncomputable def o_245:PO:=fun P=>tu [] 0
noncomputable def o_193:PO:=fun P=>fd z396 z397 2
noncomputable def o_257:PO:=fun P=>co [vs z204 802,vs z398 803,vs z165 804,vi 201 0,vi 1 0,vi 0 0,vi 0 0,vi 3 0,vr 193,(Value.bool @Bool.true),vi 276 0,vr 194,nn,vr 195,vr 196,vr 197,vi 806 0,vi 201 0,vs z165 807]
noncomputable def o_225:PO:=fun P=>co [vs z399 766,vs z400 767,vs z165 768,vi 181 0,vi 2 0,vi 0 0,vi 0 0,vi 3 0,vr 163,(Value.bool @Bool.true),vi 276 0,vr 164,nn,nn,nn,vr 165,vi 769 0,vi 181 0,vs z165 770]
noncomputable def o_289:PO:=fun P=>Obj.mk (Value.type "getset_descriptor") none (Data.fields (List.toArray [vs z188 848,vr 228,(Value.builtin "ExceptionGroup.__weakref__"),nn])) #[]
noncomputable def o_209:PO:=fun P=>fl []
noncomputable def o_273:PO:=fun P=>tu [vs z393 825,vs z172 826,vs z378 827] 0
noncomputable def o_177:PO:=fun P=>tu [vs z393 711,vs z426 712,vs z274 713,vs z415 714] 0
noncomputable def o_241:PO:=fun P=>fl []
noncomputable def o_201:PO:=fun P=>co [vs z391 735,vs z392 736,vs z165 737,vi 167 0,vi 3 0,vi 0 0,vi 0 0,vi 3 0,vr 137,(Value.bool @Bool.true),vi 276 0,vr 138,nn,vr 139,vr 140,vr 141,vi 741 0,vi 167 0,vs z165 742]
noncomputable def o_265:PO:=fun P=>fl []
noncomputable def o_169:PO:=fun P=>Obj.mk (Value.type "dict") none (Data.dict (List.toArray [de P z189 703 (vs z370 590),de P z427 705 (vs z384 704),de P z191 707 (vi 144 706),de P z203 717 (vr 122),de P z385 727 (vr 129),de P z396 734 (vr 136),de P z391 743 (vr 143),de P z403 749 (vr 148),de P z404 757 (vr 155),de P z405 765 (vr 162),de P z399 771 (vr 167),de P z394 782 (vr 175),de P z406 788 (vr 180),de P z401 794 (vr 185),de P z387 801 (vr 192),de P z204 808 (vr 199),de P z407 814 (vr 204),de P z408 821 (vr 211),de P z409 830 (vr 218),de P z389 843 (vr 225),de P z201 845 (vr 226)]) 21) #[]
noncomputable def o_233:PO:=fun P=>co [vs z394 772,vs z395 773,vs z165 774,vi 185 0,vi 3 0,vi 0 0,vi 0 0,vi 3 0,vr 169,(Value.bool @Bool.true),vi 276 0,vr 170,nn,vr 171,vr 172,vr 173,vi 780 0,vi 185 0,vs z165 781]
noncomputable def o_217:PO:=fun P=>tu [vs z393 761,vs z172 762] 0
noncomputable def o_281:PO:=fun P=>tu [] 0
noncomputable def o_185:PO:=fun P=>tu [] 0
noncomputable def o_249:PO:=fun P=>Obj.mk nn none (Data.func (FuncData.mk z387 z388 (sArgs (ct 11)) (FuncBody.stmts (sBody (ct 11))) (sScope (ct 12)) 0 [] nn nn nn nn none nn nn 0)) #[]
noncomputable def tree_291:PT:=fun P=>N (o_41 P) (N (o_42 P) (N (o_165 P) (N (o_48 P) (N (o_56 P) (N (o_72 P) (N (o_108 P) (L (o_186 P)) (L (o_250 P))) (N (o_152 P) (L (o_218 P)) (L (o_282 P)))) (N (o_92 P) (N (o_136 P) (L (o_202 P)) (L (o_266 P))) (N (o_170 P) (L (o_234 P)) Z))) (N (o_64 P) (N (o_84 P) (N (o_128 P) (L (o_194 P)) (L (o_258 P))) (N (o_160 P) (L (o_226 P)) (L (o_290 P)))) (N (o_100 P) (N (o_144 P) (L (o_210 P)) (L (o_274 P))) (N (o_178 P) (L (o_242 P)) Z)))) (N (o_52 P) (N (o_60 P) (N (o_80 P) (N (o_112 P) (L (o_190 P)) (L (o_254 P))) (N (o_156 P) (L (o_222 P)) (L (o_286 P)))) (N (o_96 P) (N (o_140 P) (L (o_206 P)) (L (o_270 P))) (N (o_174 P) (L (o_238 P)) Z))) (N (o_68 P) (N (o_88 P) (N (o_132 P) (L (o_198 P)) (L (o_262 P))) (N (o_164 P) (L (o_230 P)) Z)) (N (o_104 P) (N (o_148 P) (L (o_214 P)) (L (o_278 P))) (N (o_182 P) (L (o_246 P)) Z))))) (N (o_46 P) (N (o_50 P) (N (o_58 P) (N (o_78 P) (N (o_110 P) (L (o_188 P)) (L (o_252 P))) (N (o_154 P) (L (o_220 P)) (L (o_284 P)))) (N (o_94 P) (N (o_138 P) (L (o_204 P)) (L (o_268 P))) (N (o_172 P) (L (o_236 P)) Z))) (N (o_66 P) (N (o_86 P) (N (o_130 P) (L (o_196 P)) (L (o_260 P))) (N (o_162 P) (L (o_228 P)) Z)) (N (o_102 P) (N (o_146 P) (L (o_212 P)) (L (o_276 P))) (N (o_180 P) (L (o_244 P)) Z)))) (N (o_54 P) (N (o_62 P) (N (o_82 P) (N (o_121 P) (L (o_192 P)) (L (o_256 P))) (N (o_158 P) (L (o_224 P)) (L (o_288 P)))) (N (o_98 P) (N (o_142 P) (L (o_208 P)) (L (o_272 P))) (N (o_176 P) (L (o_240 P)) Z))) (N (o_166 P) (N (o_90 P) (N (o_134 P) (L (o_200 P)) (L (o_264 P))) (N (o_168 P) (L (o_232 P)) Z)) (N (o_106 P) (N (o_150 P) (L (o_216 P)) (L (o_280 P))) (N (o_184 P) (L (o_248 P)) Z)))))) (N (o_43 P) (N (o_45 P) (N (o_49 P) (N (o_57 P) (N (o_77 P) (N (o_109 P) (L (o_187 P)) (L (o_251 P))) (N (o_153 P) (L (o_219 P)) (L (o_283 P)))) (N (o_93 P) (N (o_137 P) (L (o_203 P)) (L (o_267 P))) (N (o_171 P) (L (o_235 P)) Z))) (N (o_65 P) (N (o_85 P) (N (o_129 P) (L (o_195 P)) (L (o_259 P))) (N (o_161 P) (L (o_227 P)) (L (o_291 P)))) (N (o_101 P) (N (o_145 P) (L (o_211 P)) (L (o_275 P))) (N (o_179 P) (L (o_243 P)) Z)))) (N (o_53 P) (N (o_61 P) (N (o_81 P) (N (o_120 P) (L (o_191 P)) (L (o_255 P))) (N (o_157 P) (L (o_223 P)) (L (o_287 P)))) (N (o_97 P) (N (o_141 P) (L (o_207 P)) (L (o_271 P))) (N (o_175 P) (L (o_239 P)) Z))) (N (o_69 P) (N (o_89 P) (N (o_133 P) (L (o_199 P)) (L (o_263 P))) (N (o_167 P) (L (o_231 P)) Z)) (N (o_105 P) (N (o_149 P) (L (o_215 P)) (L (o_279 P))) (N (o_183 P) (L (o_247 P)) Z))))) (N (o_47 P) (N (o_51 P) (N (o_59 P) (N (o_79 P) (N (o_111 P) (L (o_189 P)) (L (o_253 P))) (N (o_155 P) (L (o_221 P)) (L (o_285 P)))) (N (o_95 P) (N (o_139 P) (L (o_205 P)) (L (o_269 P))) (N (o_173 P) (L (o_237 P)) Z))) (N (o_67 P) (N (o_87 P) (N (o_131 P) (L (o_197 P)) (L (o_261 P))) (N (o_163 P) (L (o_229 P)) Z)) (N (o_103 P) (N (o_147 P) (L (o_213 P)) (L (o_277 P))) (N (o_181 P) (L (o_245 P)) Z)))) (N (o_55 P) (N (o_63 P) (N (o_83 P) (N (o_122 P) (L (o_193 P)) (L (o_257 P))) (N (o_159 P) (L (o_225 P)) (L (o_289 P)))) (N (o_99 P) (N (o_143 P) (L (o_209 P)) (L (o_273 P))) (N (o_177 P) (L (o_241 P)) Z))) (N (o_71 P) (N (o_91 P) (N (o_135 P) (L (o_201 P)) (L (o_265 P))) (N (o_169 P) (L (o_233 P)) Z)) (N (o_107 P) (N (o_151 P) (L (o_217 P)) (L (o_281 P))) (N (o_185 P) (L (o_249 P)) Z))))))
noncomputable def o_375:PO:=fun P=>Obj.mk (Value.type "dict") none (Data.dict (List.toArray (de P z0 165 (vs z428 853)::de P z2 166 nn::de P z3 167 nn::de P z4 168 (Value.builtin "__main__.__loader__#opaque")::de P z5 169 nn::de P z162 170 (vr 6)::de P z163 171 (vr 4)::de P z164 173 (vs z165 172)::de P z166 174 nn::de P z161 275 (vr 12)::de P z227 288 (vr 38)::de P z228 292 (vi 40 291)::de P z229 294 (vi 2 293)::de P z230 296 (vi 1 295)::de P z231 304 (vr 45)::de P z232 324 (vr 52)::de P z233 357 (vr 53)::de P z234 367 (vr 60)::de P z235 376 (vr 67)::de P z236 380 (vi 0 379)::de P z237 382 (vi 7 381)::de P z238 384 (vi 8 383)::de P z239 386 (vi 9 385)::de P z275 388 (vi 10 387)::de P z276 390 (vi 11 389)::de P z277 392 (vi 12 391)::de P z278 394 (vi 13 393)::de P z279 396 (vi 14 395)::de P z280 398 (vi 15 397)::de P z281 400 (vi 16 399)::de P z282 402 (vi 17 401)::de P z283 404 (vi 18 403)::de P z284 406 (vi 19 405)::de P z285 408 (vi 20 407)::de P z286 410 (vi 21 409)::de P z287 412 (vi 22 411)::de P z288 414 (vi 23 413)::de P z289 416 (vi 24 415)::de P z290 418 (vi 25 417)::de P z291 420 (vi 26 419)::de P z292 422 (vi 27 421)::de P z293 424 (vi 28 423)::de P z294 426 (vi 29 425)::de P z295 428 (vi 30 427)::de P z296 430 (vi 31 429)::de P z297 432 (vi 32 431)::de P z298 434 (vi 33 433)::de P z299 436 (vi 34 435)::de P z300 438 (vi 35 437)::de P z301 440 (vi 36 439)::de P z302 442 (vi 37 441)::de P z303 444 (vi 38 443)::de P z304 446 (vi 39 445)::de P z305 448 (vi 40 447)::de P z306 450 (vi 41 449)::de P z307 452 (vi 42 451)::de P z308 454 (vi 43 453)::de P z309 456 (vi 44 455)::de P z310 458 (vi 45 457)::de P z311 460 (vi 46 459)::de P z312 462 (vi 47 461)::de P z313 464 (vi 48 463)::de P z314 466 (vi 49 465)::de P z315 468 (vi 50 467)::de P z316 470 (vi 51 469)::de P z317 472 (vi 52 471)::de P z318 474 (vi 53 473)::de P z319 476 (vi 54 475)::de P z320 478 (vi 256 477)::de P z321 575 (vr 68)::de P z371 582 (vr 77)::de P z372 589 (vr 84)::de P z373 625 (vr 89)::de P z374 651 (vr 94)::de P z375 685 (vr 99)::de P z376 695 (vr 107)::de P z384 852 (vr 228)::de P z429 863 (vr 239)::de P z430 875 (vr 246)::de P z431 881 (vr 251)::de P z432 887 (vr 256)::de P z433 900 (vr 263)::de P z434 906 (vr 268)::[])) 83) #[]
noncomputable def o_399:PO:=fun P=>co [vs z432 882,vs z432 883,vs z165 884,vi 253 0,vi 2 0,vi 0 0,vi 0 0,vi 3 0,vr 252,(Value.bool @Bool.true),vi 276 0,vr 253,nn,nn,nn,vr 254,vi 885 0,vi 253 0,vs z165 886]
noncomputable def o_383:PO:=fun P=>Obj.mk (Value.type "function") none (Data.func (FuncData.mk z429 z429 (sArgs (st 73)) (FuncBody.stmts (sBody (st 73))) (sScope (st 73)) 3 [] nn nn nn (vs z428 853) none (vr 238) nn 0)) #[]
noncomputable def o_407:PO:=fun P=>Obj.mk (Value.type "function") none (Data.func (FuncData.mk z433 z433 (sArgs (st 77)) (FuncBody.stmts (sBody (st 77))) (sScope (st 77)) 3 [] nn nn nn (vs z428 853) none (vr 262) nn 0)) #[]
noncomputable def o_391:PO:=fun P=>tu [] 0
noncomputable def o_403:PO:=fun P=>tu [vs z257 891,vs z241 892,vs z435 893,vs z436 894,vs z272 895,vs z437 896,vs z274 897] 0
noncomputable def o_387:PO:=fun P=>tu [] 0
noncomputable def o_411:PO:=fun P=>co [vs z434 901,vs z434 902,vs z165 903,vi 268 0,vi 1 0,vi 0 0,vi 0 0,vi 3 0,vr 264,(Value.bool @Bool.true),vi 276 0,vr 265,nn,nn,nn,vr 266,vi 904 0,vi 268 0,vs z165 905]
noncomputable def o_379:PO:=fun P=>tu [vs z438 858,vs z439 859,vs z440 860] 0
noncomputable def o_395:PO:=fun P=>Obj.mk (Value.type "function") none (Data.func (FuncData.mk z431 z431 (sArgs (st 75)) (FuncBody.stmts (sBody (st 75))) (sScope (st 75)) 3 [] nn nn nn (vs z428 853) none (vr 250) nn 0)) #[]
noncomputable def o_401:PO:=fun P=>tu [] 0
noncomputable def o_385:PO:=fun P=>fl []
noncomputable def o_409:PO:=fun P=>fl []
noncomputable def o_377:PO:=fun P=>tu [] 0
noncomputable def o_393:PO:=fun P=>fs z431 z431 75
noncomputable def o_405:PO:=fun P=>fs z433 z433 77
noncomputable def o_389:PO:=fun P=>co [vs z430 864,vs z430 865,vs z165 866,vi 236 0,vi 2 0,vi 0 0,vi 0 0,vi 3 0,vr 240,(Value.bool @Bool.true),vi 276 0,vr 241,nn,vr 242,vr 243,vr 244,vi 873 0,vi 236 0,vs z165 874]
noncomputable def o_376:PO:=fun P=>Obj.mk nn none (Data.fields (List.toArray (vi 2 0::vi 0 0::vr 37::vi 9 0::vi 0 0::vr 44::vi 15 0::vi 0 0::vr 51::vi 55 0::vi 0 0::vr 59::vi 67 0::vi 0 0::vr 66::vi 127 0::vi 0 0::vr 76::vi 129 0::vi 0 0::vr 83::vi 135 0::vi 0 0::vr 106::vi 144 0::vi 0 0::vr 113::vi 227 0::vi 0 0::vr 238::vi 236 0::vi 0 0::vr 245::vi 249 0::vi 0 0::vr 250::vi 253 0::vi 0 0::vr 255::vi 261 0::vi 0 0::vr 262::vi 268 0::vi 0 0::vr 267::[]))) #[]
noncomputable def o_381:PO:=fun P=>fs z429 z429 73
noncomputable def o_397:PO:=fun P=>fl []
noncomputable def o_400:PO:=fun P=>Obj.mk (Value.type "function") none (Data.func (FuncData.mk z432 z432 (sArgs (st 76)) (FuncBody.stmts (sBody (st 76))) (sScope (st 76)) 3 [] nn nn nn (vs z428 853) none (vr 255) nn 0)) #[]
noncomputable def o_384:PO:=fun P=>tu [] 0
noncomputable def o_408:PO:=fun P=>tu [] 0
noncomputable def o_392:PO:=fun P=>fl []
noncomputable def o_404:PO:=fun P=>tu [] 0
noncomputable def o_388:PO:=fun P=>fs z430 z430 74
noncomputable def o_412:PO:=fun P=>Obj.mk (Value.type "function") none (Data.func (FuncData.mk z434 z434 (sArgs (st 78)) (FuncBody.stmts (sBody (st 78))) (sScope (st 78)) 3 [] nn nn nn (vs z428 853) none (vr 267) nn 0)) #[]
noncomputable def o_380:PO:=fun P=>tu [] 0
noncomputable def o_396:PO:=fun P=>tu [] 0
noncomputable def o_402:PO:=fun P=>fl []
noncomputable def o_386:PO:=fun P=>tu [vs z441 867,vs z438 868,vs z442 869,vs z443 870,vs z444 871,vs z445 872] 0
noncomputable def o_410:PO:=fun P=>fs z434 z434 78
noncomputable def o_378:PO:=fun P=>fl []
noncomputable def o_394:PO:=fun P=>co [vs z431 876,vs z431 877,vs z165 878,vi 249 0,vi 1 0,vi 0 0,vi 0 0,vi 3 0,vr 247,(Value.bool @Bool.true),vi 276 0,vr 248,nn,nn,nn,vr 249,vi 879 0,vi 249 0,vs z165 880]
noncomputable def o_406:PO:=fun P=>co [vs z433 888,vs z433 889,vs z165 890,vi 261 0,vi 3 0,vi 0 0,vi 0 0,vi 3 0,vr 257,(Value.bool @Bool.true),vi 276 0,vr 258,nn,vr 259,vr 260,vr 261,vi 898 0,vi 261 0,vs z165 899]
noncomputable def o_390:PO:=fun P=>Obj.mk (Value.type "function") none (Data.func (FuncData.mk z430 z430 (sArgs (st 74)) (FuncBody.stmts (sBody (st 74))) (sScope (st 74)) 3 [] nn nn nn (vs z428 853) none (vr 245) nn 0)) #[]
noncomputable def o_382:PO:=fun P=>co [vs z429 855,vs z429 856,vs z165 857,vi 227 0,vi 0 0,vi 0 0,vi 0 0,vi 3 0,vr 233,(Value.bool @Bool.true),vi 276 0,vr 234,nn,vr 235,vr 236,vr 237,vi 861 0,vi 227 0,vs z165 862]
noncomputable def o_398:PO:=fun P=>fs z432 z432 76
noncomputable def tree_412:PT:=fun P=>N (o_41 P) (N (o_42 P) (N (o_375 P) (N (o_48 P) (N (o_56 P) (N (o_72 P) (N (o_108 P) (N (o_186 P) (L (o_399 P)) Z) (L (o_250 P))) (N (o_152 P) (L (o_218 P)) (L (o_282 P)))) (N (o_92 P) (N (o_136 P) (L (o_202 P)) (L (o_266 P))) (N (o_170 P) (L (o_234 P)) (L (o_383 P))))) (N (o_64 P) (N (o_84 P) (N (o_128 P) (N (o_194 P) (L (o_407 P)) Z) (L (o_258 P))) (N (o_160 P) (L (o_226 P)) (L (o_290 P)))) (N (o_100 P) (N (o_144 P) (L (o_210 P)) (L (o_274 P))) (N (o_178 P) (L (o_242 P)) (L (o_391 P)))))) (N (o_52 P) (N (o_60 P) (N (o_80 P) (N (o_112 P) (N (o_190 P) (L (o_403 P)) Z) (L (o_254 P))) (N (o_156 P) (L (o_222 P)) (L (o_286 P)))) (N (o_96 P) (N (o_140 P) (L (o_206 P)) (L (o_270 P))) (N (o_174 P) (L (o_238 P)) (L (o_387 P))))) (N (o_68 P) (N (o_88 P) (N (o_132 P) (N (o_198 P) (L (o_411 P)) Z) (L (o_262 P))) (N (o_164 P) (L (o_230 P)) (L (o_379 P)))) (N (o_104 P) (N (o_148 P) (L (o_214 P)) (L (o_278 P))) (N (o_182 P) (L (o_246 P)) (L (o_395 P))))))) (N (o_46 P) (N (o_50 P) (N (o_58 P) (N (o_78 P) (N (o_110 P) (N (o_188 P) (L (o_401 P)) Z) (L (o_252 P))) (N (o_154 P) (L (o_220 P)) (L (o_284 P)))) (N (o_94 P) (N (o_138 P) (L (o_204 P)) (L (o_268 P))) (N (o_172 P) (L (o_236 P)) (L (o_385 P))))) (N (o_66 P) (N (o_86 P) (N (o_130 P) (N (o_196 P) (L (o_409 P)) Z) (L (o_260 P))) (N (o_162 P) (L (o_228 P)) (L (o_377 P)))) (N (o_102 P) (N (o_146 P) (L (o_212 P)) (L (o_276 P))) (N (o_180 P) (L (o_244 P)) (L (o_393 P)))))) (N (o_54 P) (N (o_62 P) (N (o_82 P) (N (o_121 P) (N (o_192 P) (L (o_405 P)) Z) (L (o_256 P))) (N (o_158 P) (L (o_224 P)) (L (o_288 P)))) (N (o_98 P) (N (o_142 P) (L (o_208 P)) (L (o_272 P))) (N (o_176 P) (L (o_240 P)) (L (o_389 P))))) (N (o_376 P) (N (o_90 P) (N (o_134 P) (L (o_200 P)) (L (o_264 P))) (N (o_168 P) (L (o_232 P)) (L (o_381 P)))) (N (o_106 P) (N (o_150 P) (L (o_216 P)) (L (o_280 P))) (N (o_184 P) (L (o_248 P)) (L (o_397 P)))))))) (N (o_43 P) (N (o_45 P) (N (o_49 P) (N (o_57 P) (N (o_77 P) (N (o_109 P) (N (o_187 P) (L (o_400 P)) Z) (L (o_251 P))) (N (o_153 P) (L (o_219 P)) (L (o_283 P)))) (N (o_93 P) (N (o_137 P) (L (o_203 P)) (L (o_267 P))) (N (o_171 P) (L (o_235 P)) (L (o_384 P))))) (N (o_65 P) (N (o_85 P) (N (o_129 P) (N (o_195 P) (L (o_408 P)) Z) (L (o_259 P))) (N (o_161 P) (L (o_227 P)) (L (o_291 P)))) (N (o_101 P) (N (o_145 P) (L (o_211 P)) (L (o_275 P))) (N (o_179 P) (L (o_243 P)) (L (o_392 P)))))) (N (o_53 P) (N (o_61 P) (N (o_81 P) (N (o_120 P) (N (o_191 P) (L (o_404 P)) Z) (L (o_255 P))) (N (o_157 P) (L (o_223 P)) (L (o_287 P)))) (N (o_97 P) (N (o_141 P) (L (o_207 P)) (L (o_271 P))) (N (o_175 P) (L (o_239 P)) (L (o_388 P))))) (N (o_69 P) (N (o_89 P) (N (o_133 P) (N (o_199 P) (L (o_412 P)) Z) (L (o_263 P))) (N (o_167 P) (L (o_231 P)) (L (o_380 P)))) (N (o_105 P) (N (o_149 P) (L (o_215 P)) (L (o_279 P))) (N (o_183 P) (L (o_247 P)) (L (o_396 P))))))) (N (o_47 P) (N (o_51 P) (N (o_59 P) (N (o_79 P) (N (o_111 P) (N (o_189 P) (L (o_402 P)) Z) (L (o_253 P))) (N (o_155 P) (L (o_221 P)) (L (o_285 P)))) (N (o_95 P) (N (o_139 P) (L (o_205 P)) (L (o_269 P))) (N (o_173 P) (L (o_237 P)) (L (o_386 P))))) (N (o_67 P) (N (o_87 P) (N (o_131 P) (N (o_197 P) (L (o_410 P)) Z) (L (o_261 P))) (N (o_163 P) (L (o_229 P)) (L (o_378 P)))) (N (o_103 P) (N (o_147 P) (L (o_213 P)) (L (o_277 P))) (N (o_181 P) (L (o_245 P)) (L (o_394 P)))))) (N (o_55 P) (N (o_63 P) (N (o_83 P) (N (o_122 P) (N (o_193 P) (L (o_406 P)) Z) (L (o_257 P))) (N (o_159 P) (L (o_225 P)) (L (o_289 P)))) (N (o_99 P) (N (o_143 P) (L (o_209 P)) (L (o_273 P))) (N (o_177 P) (L (o_241 P)) (L (o_390 P))))) (N (o_71 P) (N (o_91 P) (N (o_135 P) (L (o_201 P)) (L (o_265 P))) (N (o_169 P) (L (o_233 P)) (L (o_382 P)))) (N (o_107 P) (N (o_151 P) (L (o_217 P)) (L (o_281 P))) (N (o_185 P) (L (o_249 P)) (L (o_398 P))))))))
noncomputable def vL:PySem.Params→PySem.Heap:=(fun P=>(Heap.mk (@Array.mk Obj [(o_41 P),(o_42 P),(o_43 P),(o_44 P),(o_45 P),(o_46 P),(o_47 P),(o_48 P),(o_49 P),(o_50 P),(o_51 P),(o_52 P),(o_53 P),(o_54 P),(o_55 P),(o_56 P),(o_57 P),(o_58 P),(o_59 P),(o_60 P),(o_61 P),(o_62 P),(o_63 P),(o_64 P),(o_65 P),(o_66 P),(o_67 P),(o_68 P)]) (Life.mk [] [] [] 0 [] [] @Bool.false (@List.toArray @Nat []) [] 0 @Bool.false @Bool.false @Bool.false (0:@Int) [(2000:@Int),(10:@Int),(10:@Int)] @Bool.false 0 @Bool.true [] [] 0 @Bool.false)))
noncomputable def heap_72:PySem.Params→PySem.Heap:=(fun P=>(Heap.mk (@Array.mk Obj [(o_41 P),(o_42 P),(o_43 P),(o_44 P),(o_45 P),(o_46 P),(o_47 P),(o_48 P),(o_49 P),(o_50 P),(o_51 P),(o_52 P),(o_53 P),(o_54 P),(o_55 P),(o_56 P),(o_57 P),(o_58 P),(o_59 P),(o_60 P),(o_61 P),(o_62 P),(o_63 P),(o_64 P),(o_65 P),(o_66 P),(o_67 P),(o_68 P),(o_69 P),(o_70 P),(o_71 P),(o_72 P)]) (Life.mk [] [] [] 0 [] [] @Bool.false (@List.toArray @Nat []) [] 0 @Bool.false @Bool.false @Bool.false (0:@Int) [(2000:@Int),(10:@Int),(10:@Int)] @Bool.false 0 @Bool.true [] [] 0 @Bool.false)))
noncomputable def vC:PySem.Params→PySem.Heap:=(fun P=>(Heap.mk (@Array.mk Obj ((o_41 P)::(o_42 P)::(o_43 P)::(o_375 P)::(o_45 P)::(o_46 P)::(o_47 P)::(o_48 P)::(o_49 P)::(o_50 P)::(o_51 P)::(o_52 P)::(o_53 P)::(o_54 P)::(o_55 P)::(o_56 P)::(o_57 P)::(o_58 P)::(o_59 P)::(o_60 P)::(o_61 P)::(o_62 P)::(o_63 P)::(o_64 P)::(o_65 P)::(o_66 P)::(o_67 P)::(o_68 P)::(o_69 P)::(o_376 P)::(o_71 P)::(o_72 P)::(o_77 P)::(o_78 P)::(o_79 P)::(o_80 P)::(o_81 P)::(o_82 P)::(o_83 P)::(o_84 P)::(o_85 P)::(o_86 P)::(o_87 P)::(o_88 P)::(o_89 P)::(o_90 P)::(o_91 P)::(o_92 P)::(o_93 P)::(o_94 P)::(o_95 P)::(o_96 P)::(o_97 P)::(o_98 P)::(o_99 P)::(o_100 P)::(o_101 P)::(o_102 P)::(o_103 P)::(o_104 P)::(o_105 P)::(o_106 P)::(o_107 P)::(o_108 P)::(o_109 P)::(o_110 P)::(o_111 P)::(o_112 P)::(o_120 P)::(o_121 P)::(o_122 P)::(o_128 P)::(o_129 P)::(o_130 P)::(o_131 P)::(o_132 P)::(o_133 P)::(o_134 P)::(o_135 P)::(o_136 P)::(o_137 P)::(o_138 P)::(o_139 P)::(o_140 P)::(o_141 P)::(o_142 P)::(o_143 P)::(o_144 P)::(o_145 P)::(o_146 P)::(o_147 P)::(o_148 P)::(o_149 P)::(o_150 P)::(o_151 P)::(o_152 P)::(o_153 P)::(o_154 P)::(o_155 P)::(o_156 P)::(o_157 P)::(o_158 P)::(o_159 P)::(o_160 P)::(o_161 P)::(o_162 P)::(o_163 P)::(o_164 P)::(o_167 P)::(o_168 P)::(o_169 P)::(o_170 P)::(o_171 P)::(o_172 P)::(o_173 P)::(o_174 P)::(o_175 P)::(o_176 P)::(o_177 P)::(o_178 P)::(o_179 P)::(o_180 P)::(o_181 P)::(o_182 P)::(o_183 P)::(o_184 P)::(o_185 P)::(o_186 P)::(o_187 P)::(o_188 P)::(o_189 P)::(o_190 P)::(o_191 P)::(o_192 P)::(o_193 P)::(o_194 P)::(o_195 P)::(o_196 P)::(o_197 P)::(o_198 P)::(o_199 P)::(o_200 P)::(o_201 P)::(o_202 P)::(o_203 P)::(o_204 P)::(o_205 P)::(o_206 P)::(o_207 P)::(o_208 P)::(o_209 P)::(o_210 P)::(o_211 P)::(o_212 P)::(o_213 P)::(o_214 P)::(o_215 P)::(o_216 P)::(o_217 P)::(o_218 P)::(o_219 P)::(o_220 P)::(o_221 P)::(o_222 P)::(o_223 P)::(o_224 P)::(o_225 P)::(o_226 P)::(o_227 P)::(o_228 P)::(o_229 P)::(o_230 P)::(o_231 P)::(o_232 P)::(o_233 P)::(o_234 P)::(o_235 P)::(o_236 P)::(o_237 P)::(o_238 P)::(o_239 P)::(o_240 P)::(o_241 P)::(o_242 P)::(o_243 P)::(o_244 P)::(o_245 P)::(o_246 P)::(o_247 P)::(o_248 P)::(o_249 P)::(o_250 P)::(o_251 P)::(o_252 P)::(o_253 P)::(o_254 P)::(o_255 P)::(o_256 P)::(o_257 P)::(o_258 P)::(o_259 P)::(o_260 P)::(o_261 P)::(o_262 P)::(o_263 P)::(o_264 P)::(o_265 P)::(o_266 P)::(o_267 P)::(o_268 P)::(o_269 P)::(o_270 P)::(o_271 P)::(o_272 P)::(o_273 P)::(o_274 P)::(o_275 P)::(o_276 P)::(o_277 P)::(o_278 P)::(o_279 P)::(o_280 P)::(o_281 P)::(o_282 P)::(o_283 P)::(o_284 P)::(o_285 P)::(o_286 P)::(o_287 P)::(o_288 P)::(o_289 P)::(o_290 P)::(o_291 P)::(o_377 P)::(o_378 P)::(o_379 P)::(o_380 P)::(o_381 P)::(o_382 P)::(o_383 P)::(o_384 P)::(o_385 P)::(o_386 P)::(o_387 P)::(o_388 P)::(o_389 P)::(o_390 P)::(o_391 P)::(o_392 P)::(o_393 P)::(o_394 P)::(o_395 P)::(o_396 P)::(o_397 P)::(o_398 P)::(o_399 P)::(o_400 P)::(o_401 P)::(o_402 P)::(o_403 P)::(o_404 P)::(o_405 P)::(o_406 P)::(o_407 P)::(o_408 P)::(o_409 P)::(o_410 P)::(o_411 P)::(o_412 P)::[])) (Life.mk [] [] [] 0 [] [] @Bool.false (@List.toArray @Nat []) [] 0 @Bool.false @Bool.false @Bool.false (0:@Int) [(2000:@Int),(10:@Int),(10:@Int)] @Bool.false 0 @Bool.true [] [] 0 @Bool.false)))
noncomputable def o_433:PO:=fun P=>Obj.mk (Value.type "dict") none (Data.dict (List.toArray (de P z0 1 (vs z1 160)::de P z2 2 (Value.builtin "builtins.__doc__:str#opaque")::de P z3 3 (Value.builtin "builtins.__package__:str#opaque")::de P z4 4 (Value.builtin "builtins.__loader__:shared#opaque")::de P z5 5 (Value.builtin "builtins.__spec__#opaque")::de P z6 6 (Value.builtin "__build_class__")::de P z7 7 (Value.builtin "__import__")::de P z8 8 (Value.builtin "abs")::de P z9 9 (Value.builtin "all")::de P z10 10 (Value.builtin "any")::de P z11 11 (Value.builtin "ascii")::de P z12 12 (Value.builtin "bin")::de P z13 13 (Value.builtin "breakpoint")::de P z14 14 (Value.builtin "callable")::de P z15 15 (Value.builtin "chr")::de P z16 16 (Value.builtin "compile")::de P z17 17 (Value.builtin "delattr")::de P z18 18 (Value.builtin "dir")::de P z19 19 (Value.builtin "divmod")::de P z20 20 (Value.builtin "eval")::de P z21 21 (Value.builtin "exec")::de P z22 22 (Value.builtin "format")::de P z23 23 (Value.builtin "getattr")::de P z24 24 (Value.builtin "globals")::de P z25 25 (Value.builtin "hasattr")::de P z26 26 (Value.builtin "hash")::de P z27 27 (Value.builtin "hex")::de P z28 28 (Value.builtin "id")::de P z29 29 (Value.builtin "input")::de P z30 30 (Value.builtin "isinstance")::de P z31 31 (Value.builtin "issubclass")::de P z32 32 (Value.builtin "iter")::de P z33 33 (Value.builtin "aiter")::de P z34 34 (Value.builtin "len")::de P z35 35 (Value.builtin "locals")::de P z36 36 (Value.builtin "max")::de P z37 37 (Value.builtin "min")::de P z38 38 (Value.builtin "next")::de P z39 39 (Value.builtin "anext")::de P z40 40 (Value.builtin "oct")::de P z41 41 (Value.builtin "ord")::de P z42 42 (Value.builtin "pow")::de P z43 43 (Value.builtin "print")::de P z44 44 (Value.builtin "repr")::de P z45 45 (Value.builtin "round")::de P z46 46 (Value.builtin "setattr")::de P z47 47 (Value.builtin "sorted")::de P z48 48 (Value.builtin "sum")::de P z49 49 (Value.builtin "vars")::de P z50 50 nn::(de P z51 51 Value.ellipsis)::(de P z52 52 Value.notImplemented)::de P z53 53 bF::de P z54 54 (Value.bool @Bool.true)::de P z55 55 (Value.type "bool")::de P z56 56 (Value.type "memoryview")::de P z57 57 (Value.type "bytearray")::de P z58 58 (Value.type "bytes")::de P z59 59 (Value.type "classmethod")::de P z60 60 (Value.type "complex")::de P z61 61 (Value.type "dict")::de P z62 62 (Value.type "enumerate")::de P z63 63 (Value.type "filter")::de P z64 64 (Value.type "float")::de P z65 65 (Value.type "frozenset")::de P z66 66 (Value.type "property")::de P z67 67 (Value.type "int")::de P z68 68 (Value.type "list")::de P z69 69 (Value.type "map")::de P z70 70 (Value.type "object")::de P z71 71 (Value.type "range")::de P z72 72 (Value.type "reversed")::de P z73 73 (Value.type "set")::de P z74 74 (Value.type "slice")::de P z75 75 (Value.type "staticmethod")::de P z76 76 (Value.type "str")::de P z77 77 (Value.type "super")::de P z78 78 (Value.type "tuple")::de P z79 79 (Value.type "type")::de P z80 80 (Value.type "zip")::de P z81 81 (Value.bool @Bool.true)::de P z82 82 (Value.type "BaseException")::de P z83 83 (Value.type "BaseExceptionGroup")::de P z84 84 (Value.type "Exception")::de P z85 85 (Value.type "GeneratorExit")::de P z86 86 (Value.type "KeyboardInterrupt")::de P z87 87 (Value.type "SystemExit")::de P z88 88 (Value.type "ArithmeticError")::de P z89 89 (Value.type "AssertionError")::de P z90 90 (Value.type "AttributeError")::de P z91 91 (Value.type "BufferError")::de P z92 92 (Value.type "EOFError")::de P z93 93 (Value.type "ImportError")::de P z94 94 (Value.type "LookupError")::de P z95 95 (Value.type "MemoryError")::de P z96 96 (Value.type "NameError")::de P z97 97 (Value.type "OSError")::de P z98 98 (Value.type "ReferenceError")::de P z99 99 (Value.type "RuntimeError")::de P z100 100 (Value.type "StopAsyncIteration")::de P z101 101 (Value.type "StopIteration")::de P z102 102 (Value.type "SyntaxError")::de P z103 103 (Value.type "SystemError")::de P z104 104 (Value.type "TypeError")::de P z105 105 (Value.type "ValueError")::de P z106 106 (Value.type "Warning")::de P z107 107 (Value.type "FloatingPointError")::de P z108 108 (Value.type "OverflowError")::de P z109 109 (Value.type "ZeroDivisionError")::de P z110 110 (Value.type "BytesWarning")::de P z111 111 (Value.type "DeprecationWarning")::de P z112 112 (Value.type "EncodingWarning")::de P z113 113 (Value.type "FutureWarning")::de P z114 114 (Value.type "ImportWarning")::de P z115 115 (Value.type "PendingDeprecationWarning")::de P z116 116 (Value.type "ResourceWarning")::de P z117 117 (Value.type "RuntimeWarning")::de P z118 118 (Value.type "SyntaxWarning")::de P z119 119 (Value.type "UnicodeWarning")::de P z120 120 (Value.type "UserWarning")::de P z121 121 (Value.type "BlockingIOError")::de P z122 122 (Value.type "ChildProcessError")::de P z123 123 (Value.type "ConnectionError")::de P z124 124 (Value.type "FileExistsError")::de P z125 125 (Value.type "FileNotFoundError")::de P z126 126 (Value.type "InterruptedError")::de P z127 127 (Value.type "IsADirectoryError")::de P z128 128 (Value.type "NotADirectoryError")::de P z129 129 (Value.type "PermissionError")::de P z130 130 (Value.type "ProcessLookupError")::de P z131 131 (Value.type "TimeoutError")::de P z132 132 (Value.type "IndentationError")::de P z133 133 (Value.type "_IncompleteInputError")::de P z134 134 (Value.type "IndexError")::de P z135 135 (Value.type "KeyError")::de P z136 136 (Value.type "ModuleNotFoundError")::de P z137 137 (Value.type "NotImplementedError")::de P z138 138 (Value.type "PythonFinalizationError")::de P z139 139 (Value.type "RecursionError")::de P z140 140 (Value.type "UnboundLocalError")::de P z141 141 (Value.type "UnicodeError")::de P z142 142 (Value.type "BrokenPipeError")::de P z143 143 (Value.type "ConnectionAbortedError")::de P z144 144 (Value.type "ConnectionRefusedError")::de P z145 145 (Value.type "ConnectionResetError")::de P z146 146 (Value.type "TabError")::de P z147 147 (Value.type "UnicodeDecodeError")::de P z148 148 (Value.type "UnicodeEncodeError")::de P z149 149 (Value.type "UnicodeTranslateError")::de P z150 150 (Value.type "ExceptionGroup")::de P z151 151 (Value.type "OSError")::de P z152 152 (Value.type "OSError")::de P z153 153 (Value.builtin "open")::de P z154 154 (Value.builtin "builtins.quit#opaque")::de P z155 155 (Value.builtin "builtins.exit#opaque")::de P z156 156 (Value.builtin "builtins.copyright#opaque")::de P z157 157 (Value.builtin "builtins.credits#opaque")::de P z158 158 (Value.builtin "builtins.license#opaque")::de P z159 159 (Value.builtin "builtins.help#opaque")::[])) 159) #[]
noncomputable def o_469:PO:=fun P=>Obj.mk (Value.type "dict") none (Data.dict (List.toArray [de P z1 162 (vr 4),de P z160 163 (vr 5),de P z161 244 (vr 12)]) 3) #[]
noncomputable def o_478:PO:=fun P=>Obj.mk (Value.type "dict") none (Data.dict (List.toArray [de P z0 165 (vs z160 164),de P z2 166 nn,de P z3 167 nn,de P z4 168 (Value.builtin "__main__.__loader__#opaque"),de P z5 169 nn,de P z162 170 (vr 6),de P z163 171 (vr 4),de P z164 173 (vs z165 172),de P z166 174 nn,de P z161 275 (vr 12)]) 10) #[]
noncomputable def o_440:PO:=fun P=>tu [] 0
noncomputable def o_451:PO:=fun P=>tu [] 0
noncomputable def o_463:PO:=fun P=>tu [vs z167 219,vs z168 220,vs z169 221,vs z170 222,vs z171 223,vs z172 224,vs z173 225,vs z174 226] 0
noncomputable def o_475:PO:=fun P=>Obj.mk (Value.type "dict") none (Data.dict (List.toArray [de P z0 247 (vs z161 246),de P z2 248 nn,de P z3 250 (vs z175 249),de P z4 251 (vr 14),de P z5 252 (vr 26),de P z16 253 (Value.builtin "_sre.compile"),de P z176 254 (Value.builtin "_sre.template"),de P z177 255 (Value.builtin "_sre.getcodesize"),de P z178 256 (Value.builtin "_sre.ascii_iscased"),de P z179 257 (Value.builtin "_sre.unicode_iscased"),de P z180 258 (Value.builtin "_sre.ascii_tolower"),de P z181 259 (Value.builtin "_sre.unicode_tolower"),de P z182 261 (vi 20230612 260),de P z183 263 (vi 4 262),de P z184 265 (vi 4294967295 264),de P z185 267 (vi 1073741823 266),de P z156 269 (vs z186 268)]) 17) #[]
noncomputable def o_457:PO:=fun P=>Obj.mk (Value.type "list") none (Data.seq (List.toArray []) 0) #[]
noncomputable def o_477:PO:=fun P=>Obj.mk nn none (Data.seq (List.toArray [vi 11 0,(Value.str (Str.mk (@List.toArray @Nat (6::247::8::95::95::110::97::109::101::95::95::6::246::4::95::115::114::101::6::248::7::95::95::100::111::99::95::95::0::6::250::11::95::95::112::97::99::107::97::103::101::95::95::6::249::0::6::251::10::95::95::108::111::97::100::101::114::95::95::4::0::0::14::6::252::8::95::95::115::112::101::99::95::95::4::0::0::26::6::253::7::99::111::109::112::105::108::101::9::12::95::115::114::101::46::99::111::109::112::105::108::101::6::254::8::116::101::109::112::108::97::116::101::9::13::95::115::114::101::46::116::101::109::112::108::97::116::101::6::255::11::103::101::116::99::111::100::101::115::105::122::101::9::16::95::115::114::101::46::103::101::116::99::111::100::101::115::105::122::101::6::256::13::97::115::99::105::105::95::105::115::99::97::115::101::100::9::18::95::115::114::101::46::97::115::99::105::105::95::105::115::99::97::115::101::100::6::257::15::117::110::105::99::111::100::101::95::105::115::99::97::115::101::100::9::20::95::115::114::101::46::117::110::105::99::111::100::101::95::105::115::99::97::115::101::100::6::258::13::97::115::99::105::105::95::116::111::108::111::119::101::114::9::18::95::115::114::101::46::97::115::99::105::105::95::116::111::108::111::119::101::114::6::259::15::117::110::105::99::111::100::101::95::116::111::108::111::119::101::114::9::20::95::115::114::101::46::117::110::105::99::111::100::101::95::116::111::108::111::119::101::114::6::261::5::77::65::71::73::67::4::260::0::20230612::6::263::8::67::79::68::69::83::73::90::69::4::262::0::4::6::265::9::77::65::88::82::69::80::69::65::84::4::264::0::4294967295::6::267::9::77::65::88::71::82::79::85::80::83::4::266::0::1073741823::6::269::9::99::111::112::121::114::105::103::104::116::6::268::53::32::83::82::69::32::50::46::50::46::50::32::67::111::112::121::114::105::103::104::116::32::40::99::41::32::49::57::57::55::45::50::48::48::50::32::98::121::32::83::101::99::114::101::116::32::76::97::98::115::32::65::66::32::[]))) 0),(Value.bool @Bool.true),bF,vs z161 271]) 0) #[]
noncomputable def o_437:PO:=fun P=>Obj.mk (Value.type "module") (@Option.some @Nat 3) Data.plain #[]
noncomputable def o_442:PO:=fun P=>co [vs z187 176,vs z187 177,vs z165 178,vi 1 0,vi 0 0,vi 0 0,vi 0 0,vi 0 0,vr 7,bF,vi 175 0,vr 8,nn,nn,nn,nn,vi 179 0,vi 1 0,vs z165 180]
noncomputable def o_455:PO:=fun P=>Obj.mk (Value.type "getset_descriptor") none (Data.fields (List.toArray [vs z188 203,vr 14,(Value.builtin "ExceptionGroup.__weakref__"),nn])) #[]
noncomputable def o_467:PO:=fun P=>Obj.mk (Value.type "getset_descriptor") none (Data.fields (List.toArray [vs z188 239,vr 22,(Value.builtin "ExceptionGroup.__weakref__"),nn])) #[]
noncomputable def o_453:PO:=fun P=>Obj.mk (Value.type "dict") none (Data.dict (List.toArray [de P z189 189 (vs z190 186),de P z191 190 (vi 971 187),de P z2 191 (Value.builtin "_frozen_importlib.BuiltinImporter.__doc__:str#opaque"),de P z192 192 (vs z193 188),de P z194 193 (Value.builtin "_frozen_importlib.BuiltinImporter.find_spec#opaque"),de P z195 194 (Value.builtin "_frozen_importlib.BuiltinImporter.create_module#opaque"),de P z196 195 (Value.builtin "_frozen_importlib.BuiltinImporter.exec_module#opaque"),de P z197 196 (Value.builtin "_frozen_importlib.BuiltinImporter.get_code#opaque"),de P z198 197 (Value.builtin "_frozen_importlib.BuiltinImporter.get_source#opaque"),de P z199 198 (Value.builtin "_frozen_importlib.BuiltinImporter.is_package#opaque"),de P z200 199 (Value.builtin "_frozen_importlib.BuiltinImporter.load_module#opaque"),de P z201 200 (vr 15),de P z202 202 (vr 16),de P z188 204 (vr 17)]) 14) #[]
noncomputable def o_465:PO:=fun P=>Obj.mk (Value.type "dict") none (Data.dict (List.toArray [de P z189 227 (vs z190 217),de P z191 228 (vi 562 218),de P z2 229 (Value.builtin "_frozen_importlib.ModuleSpec.__doc__:str#opaque"),de P z203 230 (Value.builtin "_frozen_importlib.ModuleSpec.__init__#opaque"),de P z204 231 (Value.builtin "_frozen_importlib.ModuleSpec.__repr__#opaque"),de P z205 232 (Value.builtin "_frozen_importlib.ModuleSpec.__eq__#opaque"),de P z206 233 (Value.builtin "_frozen_importlib.ModuleSpec.cached#opaque"),de P z207 234 (Value.builtin "_frozen_importlib.ModuleSpec.parent#opaque"),de P z208 235 (Value.builtin "_frozen_importlib.ModuleSpec.has_location#opaque"),de P z201 236 (vr 23),de P z202 238 (vr 24),de P z188 240 (vr 25),de P z209 241 nn]) 13) #[]
noncomputable def o_474:PO:=fun P=>Obj.mk nn none (Data.dict (List.toArray [de P z210 183 (Value.bool @Bool.true),de P z211 185 (vr 14),de P z212 206 (vr 18),de P z213 216 (vr 22),de P z214 245 (vi 3 0),de P z215 270 (Value.bool @Bool.true),de P z216 272 (vr 27),de P z217 0 (vs z218 0),de P z219 273 (vs z220 0)]) 9) #[]
noncomputable def o_436:PO:=fun P=>Obj.mk (Value.type "module") (@Option.some @Nat 0) Data.plain #[]
noncomputable def o_441:PO:=fun P=>fl []
noncomputable def o_454:PO:=fun P=>Obj.mk (Value.type "getset_descriptor") none (Data.fields (List.toArray [vs z202 201,vr 14,(Value.builtin "function.__dict__"),(Value.builtin "function.__dict__#set")])) #[]
noncomputable def o_466:PO:=fun P=>Obj.mk (Value.type "getset_descriptor") none (Data.fields (List.toArray [vs z202 237,vr 22,(Value.builtin "function.__dict__"),(Value.builtin "function.__dict__#set")])) #[]
noncomputable def o_446:PO:=fun P=>Obj.mk (Value.type "module") (@Option.some @Nat 11) Data.plain #[]
noncomputable def o_476:PO:=fun P=>Obj.mk (Value.type "dict") none (Data.dict (List.toArray [de P z172 208 (vs z161 207),de P z170 209 (vr 14),de P z173 210 (vs z193 184),de P z171 211 nn,de P z174 212 nn,de P z169 213 (vr 19),de P z168 214 bF,de P z167 215 nn,de P z221 243 bF]) 9) #[]
noncomputable def o_438:PO:=fun P=>Obj.mk (Value.type "dict") none (Data.dict (List.toArray []) 0) #[]
noncomputable def o_443:PO:=fun P=>Obj.mk (Value.type "frame") none Data.plain (List.toArray [some (vr 9),some (vr 3),some (vr 3),none,some (vs z160 164),none,some (vr 0)])
noncomputable def o_464:PO:=fun P=>Obj.mk nn none (Data.seq (List.toArray [vi 13 0,vs z222 0,(Value.bool @Bool.true),(Value.bool @Bool.true),vs z175 205,vi 21 0,vs z223 0,(Value.bool @Bool.true),(Value.bool @Bool.true),vs z175 242]) 1) #[]
noncomputable def o_468:PO:=fun P=>Obj.mk (vr 22) (@Option.some @Nat 20) Data.plain #[]
noncomputable def o_448:PO:=fun P=>Obj.mk (Value.type "type") none (Data.cls (ClassData.mk z224 [(Value.type "object")] [vr 14,(Value.type "object")] 13 z224 @Bool.true [] [] @Bool.false (@Option.none @Bool) @Bool.false)) #[]
noncomputable def o_460:PO:=fun P=>Obj.mk (Value.type "type") none (Data.cls (ClassData.mk z225 [(Value.type "object")] [vr 22,(Value.type "object")] 21 z225 @Bool.true [] [] @Bool.false (@Option.none @Bool) @Bool.false)) #[]
noncomputable def tree_478:PT:=fun P=>N (o_433 P) (N (o_469 P) (N (o_478 P) (N (o_440 P) (L (o_451 P)) (L (o_463 P))) (N (o_475 P) (L (o_457 P)) (L (o_477 P)))) (N (o_437 P) (N (o_442 P) (L (o_455 P)) (L (o_467 P))) (N (o_453 P) (L (o_465 P)) Z))) (N (o_474 P) (N (o_436 P) (N (o_441 P) (L (o_454 P)) (L (o_466 P))) (N (o_446 P) (L (o_476 P)) Z)) (N (o_438 P) (N (o_443 P) (L (o_464 P)) (L (o_468 P))) (N (o_448 P) (L (o_460 P)) Z)))
noncomputable def env_41:PySem.Env:=(Env.mk twp.main.scope mainNs mainNs [] Str.empty (@Option.none Addr) (vr 30) (@Option.some Addr 31) 0)
noncomputable abbrev Cd:Code:=.body (behindTheImports twp) env_41
noncomputable abbrev B0:List Frame:=[topFrame { line:=0,col:=0,endLine:=0,endCol:=0 }]
theorem pc1 (w:World):∀ os:OsState,segRunT treeTable twp w 28 (some (.ref 6)) 1 395 ⟨tree_73 w.params,32,{},#[],{},282,os⟩ (piecesOf ((twp.main.body.drop 1).take 16) env_41 Cd { line:=0,col:=0,endLine:=0,endCol:=0 } B0) =
    some (Flow.next,⟨tree_112 w.params,68,{},#[],{},387,os⟩,Cd,{ line:=79,col:=0,endLine:=79,endCol:=4 }):=by
  revert w
  rw [PySem.W.Fast.te10110043849684766642,PySem.W.Fast.te14364793385576792824]
  refine byRow2 "special-get-raises" (fun w os=>?_) (fun w os=>?_)
  · kernel_rfl
  · kernel_rfl
theorem pc2 (w:World) (os:OsState):segRunT treeTable twp w 28 (some (.ref 6)) 1 397 ⟨tree_112 w.params,68,{},#[],{},387,os⟩ (piecesOf ((twp.main.body.drop 17).take 44) env_41 Cd { line:=79,col:=0,endLine:=79,endCol:=4 } B0) =
    some (Flow.next,⟨tree_115 w.params,68,{},#[],{},475,os⟩,Cd,{ line:=123,col:=0,endLine:=123,endCol:=10 }):=by
  rw [PySem.W.Fast.te10110043849684766642,PySem.W.Fast.te14364793385576792824]
  kernel_rfl
theorem pc3 (w:World) (os:OsState):segRunT treeTable twp w 28 (some (.ref 6)) 1 19 ⟨tree_115 w.params,68,{},#[],{},475,os⟩ (piecesOf ((twp.main.body.drop 61).take 2) env_41 Cd { line:=123,col:=0,endLine:=123,endCol:=10 } B0) =
    some (Flow.next,⟨tree_117 w.params,68,{},#[],{},479,os⟩,Cd,{ line:=125,col:=0,endLine:=125,endCol:=9 }):=by
  rw [PySem.W.Fast.te10110043849684766642,PySem.W.Fast.te14364793385576792824]
  kernel_rfl
theorem pc4 (w:World):∀ os:OsState,segRunT treeTable twp w 28 (some (.ref 6)) 1 979 ⟨tree_117 w.params,68,{},#[],{},479,os⟩ (piecesOf ((twp.main.body.drop 63).take 1) env_41 Cd { line:=125,col:=0,endLine:=125,endCol:=9 } B0) =
    some (Flow.next,⟨tree_122 w.params,71,{},#[],{},576,os⟩,Cd,{ line:=126,col:=0,endLine:=126,endCol:=17 }):=by
  revert w
  rw [PySem.W.Fast.te10110043849684766642,PySem.W.Fast.te14364793385576792824]
  refine byRow2 "special-get-raises" (fun w os=>?_) (fun w os=>?_)
  · kernel_rfl
  · kernel_rfl
theorem pc5 (w:World) (os:OsState):segRunT treeTable twp w 28 (some (.ref 6)) 1 324 ⟨tree_122 w.params,71,{},#[],{},576,os⟩ (piecesOf ((twp.main.body.drop 64).take 7) env_41 Cd { line:=126,col:=0,endLine:=126,endCol:=17 } B0) =
    some (Flow.next,⟨tree_164 w.params,108,{},#[],{},696,os⟩,Cd,{ line:=135,col:=0,endLine:=143,endCol:=20 }):=by
  rw [PySem.W.Fast.te10110043849684766642,PySem.W.Fast.te14364793385576792824]
  kernel_rfl
theorem pc6 (w:World) (os:OsState):segRunT treeTable twp w 28 (some (.ref 6)) 1 727 ⟨tree_164 w.params,108,{},#[],{},696,os⟩ (piecesOf ((twp.main.body.drop 71).take 1) env_41 Cd { line:=135,col:=0,endLine:=143,endCol:=20 } B0) =
    some (Flow.next,⟨tree_291 w.params,233,{},#[],{},853,os⟩,Cd,{ line:=144,col:=0,endLine:=225,endCol:=93 }):=by
  rw [PySem.W.Fast.te10110043849684766642,PySem.W.Fast.te14364793385576792824]
  kernel_rfl
theorem pc7 (w:World) (os:OsState):segRunT treeTable twp w 28 (some (.ref 6)) 1 188 ⟨tree_291 w.params,233,{},#[],{},853,os⟩ (piecesOf ((twp.main.body.drop 72).take 7) env_41 Cd { line:=144,col:=0,endLine:=225,endCol:=93 } B0) =
    some (Flow.next,⟨tree_412 w.params,269,{},#[],{},907,os⟩,Cd,{ line:=268,col:=0,endLine:=284,endCol:=69 }):=by
  rw [PySem.W.Fast.te10110043849684766642,PySem.W.Fast.te14364793385576792824]
  kernel_rfl
theorem fin0 (w:World) (os:OsState):topRun treeTable twp w 28 (some (.ref 6)) 2 (SharedT.abs ⟨tree_412 w.params,269,{},#[],{},907,os⟩) ⟨doneF Flow.next,Cd,{ line:=268,col:=0,endLine:=284,endCol:=69 },B0⟩=some ⟨vC w.params,#[],{},907,os⟩:=by
  rw [PySem.W.Fast.te14082659384304107361,PySem.W.Fast.te14364793385576792824]
  kernel_rfl
theorem pre0 (w:World) (os:OsState):topGo treeTable twp w 28 (some (.ref 6)) 12 ⟨vL w.params,#[],{},276,os⟩ (topStub twp)=some (⟨heap_72 w.params,#[],{},282,os⟩,⟨denote treeTable Cd,Cd,{ line:=0,col:=0,endLine:=0,endCol:=0 },B0⟩):=by
  kernel_rfl
theorem block0 (w:World) (os:OsState):segRun treeTable twp w 28 (some (.ref 6)) 1 1 ⟨heap_72 w.params,#[],{},282,os⟩ (blockOf (behindTheImports twp) env_41 Cd { line:=0,col:=0,endLine:=0,endCol:=0 } B0)=some (Flow.next,SharedT.abs ⟨tree_73 w.params,32,{},#[],{},282,os⟩,Cd,{ line:=0,col:=0,endLine:=0,endCol:=0 }):=by
  kernel_rfl
theorem open0 (w:World):importEnds treeTable (opening twp) w 900 (start (opening twp)).1 (start (opening twp)).2=some ⟨absHeap (tree_478 w.params) 28 {},#[],{},276,(start (opening twp)).1.os⟩:=by
  rw [PySem.W.Fast.te10274390034422433532,PySem.W.Fast.te14364793385576792824]
  kernel_rfl
theorem run0 (w:World) (os:OsState):topRun treeTable twp w 28 (some (.ref 6)) (12+(1+(395+(397+(19+(979+(324+(727+(188+2))))))))) ⟨vL w.params,#[],{},276,os⟩ (topStub twp)=some ⟨vC w.params,#[],{},907,os⟩:=by
  have e:behindTheImports twp=(twp.main.body.drop 1).take 16++((twp.main.body.drop 17).take 44++((twp.main.body.drop 61).take 2++((twp.main.body.drop 63).take 1++((twp.main.body.drop 64).take 7++((twp.main.body.drop 71).take 1++((twp.main.body.drop 72).take 7++[])))))):=by kernel_rfl
  refine go_top (pre0 w os) (piece_block (block0 w os) ?_)
  rw [show restOf (behindTheImports twp)=restOf ((twp.main.body.drop 1).take 16++((twp.main.body.drop 17).take 44++((twp.main.body.drop 61).take 2++((twp.main.body.drop 63).take 1++((twp.main.body.drop 64).take 7++((twp.main.body.drop 71).take 1++((twp.main.body.drop 72).take 7++[]))))))) from congrArg restOf e]
  refine piece_app (segRun_of (pc1 w os)) (piece_app (segRun_of (pc2 w os)) (piece_app (segRun_of (pc3 w os)) (piece_app (segRun_of (pc4 w os)) (piece_app (segRun_of (pc5 w os)) (piece_app (segRun_of (pc6 w os)) (piece_app (segRun_of (pc7 w os)) (?_)))))))
  exact fin0 w os
theorem fence0 (w:World):(fun os=>(fenceModules? twp ⟨absHeap (tree_478 w.params) 28 {},#[],{},276,os⟩).map (fun s=>(s.heap,s.gens,s.drawn,s.toks)))=fun _=>some (vL w.params,#[],{},276):=by
  kernel_rfl
theorem opened (w:World):(fencedOpening treeTable twp w 6000).map (fun s=>(s.heap,s.gens,s.drawn,s.toks))=some (vL w.params,#[],{},276) :=
  open_cut (M:=900) (He:=fun P=>absHeap (tree_478 P) 28 {}) open0 (by decide) fence0 w
theorem size0 (w:World):((vL w.params).isNs mainGlobals&&(#[]:Array GenState).size == 0,(vL w.params).objs.size,(vL w.params).nsMap mainGlobals "__annotations__")=(true,28,some (.ref 6)):=by
  kernel_rfl
noncomputable def q0:Program:={ twp with main:={ twp.main with body:=[st 6,st 7,st 10,st 11,st 64,st 65,st 73,st 74,st 75,st 76,st 77,st 78] } }
noncomputable def loose0:List Str:=twp.boundNames.filter fun x=>!((recsOf q0).map (·.name)).contains x
noncomputable def K0:Params→Frag:=fun P=>[(nat_lit 3,o_375 P),(nat_lit 53,o_98 P),(nat_lit 68,o_120 P),(nat_lit 93,o_150 P),(nat_lit 94,o_151 P),(nat_lit 98,o_155 P),(nat_lit 99,o_156 P),(nat_lit 115,o_174 P),(nat_lit 116,o_175 P),(nat_lit 117,o_176 P),(nat_lit 118,o_177 P),(nat_lit 119,o_178 P),(nat_lit 120,o_179 P),(nat_lit 121,o_180 P),(nat_lit 122,o_181 P),(nat_lit 123,o_182 P),(nat_lit 124,o_183 P),(nat_lit 125,o_184 P),(nat_lit 126,o_185 P),(nat_lit 127,o_186 P),(nat_lit 128,o_187 P),(nat_lit 129,o_188 P),(nat_lit 130,o_189 P),(nat_lit 131,o_190 P),(nat_lit 132,o_191 P),(nat_lit 133,o_192 P),(nat_lit 134,o_193 P),(nat_lit 135,o_194 P),(nat_lit 136,o_195 P),(nat_lit 137,o_196 P),(nat_lit 138,o_197 P),(nat_lit 139,o_198 P),(nat_lit 140,o_199 P),(nat_lit 141,o_200 P),(nat_lit 142,o_201 P),(nat_lit 143,o_202 P),(nat_lit 144,o_203 P),(nat_lit 145,o_204 P),(nat_lit 146,o_205 P),(nat_lit 147,o_206 P),(nat_lit 148,o_207 P),(nat_lit 149,o_208 P),(nat_lit 150,o_209 P),(nat_lit 151,o_210 P),(nat_lit 152,o_211 P),(nat_lit 153,o_212 P),(nat_lit 154,o_213 P),(nat_lit 155,o_214 P),(nat_lit 156,o_215 P),(nat_lit 157,o_216 P),(nat_lit 158,o_217 P),(nat_lit 159,o_218 P),(nat_lit 160,o_219 P),(nat_lit 161,o_220 P),(nat_lit 162,o_221 P),(nat_lit 163,o_222 P),(nat_lit 164,o_223 P),(nat_lit 165,o_224 P),(nat_lit 166,o_225 P),(nat_lit 167,o_226 P),(nat_lit 168,o_227 P),(nat_lit 169,o_228 P),(nat_lit 170,o_229 P),(nat_lit 171,o_230 P),(nat_lit 172,o_231 P),(nat_lit 173,o_232 P),(nat_lit 174,o_233 P),(nat_lit 175,o_234 P),(nat_lit 176,o_235 P),(nat_lit 177,o_236 P),(nat_lit 178,o_237 P),(nat_lit 179,o_238 P),(nat_lit 180,o_239 P),(nat_lit 181,o_240 P),(nat_lit 182,o_241 P),(nat_lit 183,o_242 P),(nat_lit 184,o_243 P),(nat_lit 185,o_244 P),(nat_lit 186,o_245 P),(nat_lit 187,o_246 P),(nat_lit 188,o_247 P),(nat_lit 189,o_248 P),(nat_lit 190,o_249 P),(nat_lit 191,o_250 P),(nat_lit 192,o_251 P),(nat_lit 193,o_252 P),(nat_lit 194,o_253 P),(nat_lit 195,o_254 P),(nat_lit 196,o_255 P),(nat_lit 197,o_256 P),(nat_lit 198,o_257 P),(nat_lit 199,o_258 P),(nat_lit 200,o_259 P),(nat_lit 201,o_260 P),(nat_lit 202,o_261 P),(nat_lit 203,o_262 P),(nat_lit 204,o_263 P),(nat_lit 205,o_264 P),(nat_lit 206,o_265 P),(nat_lit 207,o_266 P),(nat_lit 208,o_267 P),(nat_lit 209,o_268 P),(nat_lit 210,o_269 P),(nat_lit 211,o_270 P),(nat_lit 212,o_271 P),(nat_lit 213,o_272 P),(nat_lit 214,o_273 P),(nat_lit 215,o_274 P),(nat_lit 216,o_275 P),(nat_lit 217,o_276 P),(nat_lit 218,o_277 P),(nat_lit 219,o_278 P),(nat_lit 220,o_279 P),(nat_lit 221,o_280 P),(nat_lit 222,o_281 P),(nat_lit 223,o_282 P),(nat_lit 224,o_283 P),(nat_lit 225,o_284 P),(nat_lit 226,o_285 P),(nat_lit 227,o_286 P),(nat_lit 228,o_287 P),(nat_lit 229,o_288 P),(nat_lit 230,o_289 P)]
noncomputable def as0:List Addr:=[3,53,68,93,94,98,99,115,116,117,118,119,120,121,122,123,124,125,126,127,128,129,130,131,132,133,134,135,136,137,138,139,140,141,142,143,144,145,146,147,148,149,150,151,152,153,154,155,156,157,158,159,160,161,162,163,164,165,166,167,168,169,170,171,172,173,174,175,176,177,178,179,180,181,182,183,184,185,186,187,188,189,190,191,192,193,194,195,196,197,198,199,200,201,202,203,204,205,206,207,208,209,210,211,212,213,214,215,216,217,218,219,220,221,222,223,224,225,226,227,228,229,230]
noncomputable def H0:Hook:=kHook K0 as0 (fun _=>rfl)
theorem looks1 (w:World) (os:OsState):(staticsOk (importedModules twp.main.body) (vL w.params) (vC w.params)&&namesBound twp (vC w.params)&&gensDone ⟨vC w.params,#[],{},907,os⟩&&laidKept (vL w.params) (vC w.params))=true:=by
  kernel_rfl
theorem looks3 (w:World) (os:OsState):Hook.obs H0 ⟨vC w.params,#[],{},907,os⟩=Hook.val H0 w:=by
  kernel_rfl
noncomputable abbrev X0:Shared→Bool:=fun s=>xlAt q0 [] s&&recOk (RowW.records (OpenRow.toRowW PySem.Challenge.rw_sn0088_03.row)) s
theorem looks2 (w:World) (os:OsState):openSeen q0 loose0 (importedModules twp.main.body) X0 true ⟨vC w.params,#[],{},907,os⟩=openGood q0 loose0:=by
  rw [PySem.W.Fast.te4187177175401517315]
  kernel_rfl
theorem tep:PySem.Challenge.pw_sn0088_03=twp:=rfl
theorem left0:LeftO twp q0 loose0 X0 (Hook.obs H0) (Hook.val H0) 6000 true :=
  LeftO.of_pieces opened size0 run0 (by decide) (fun w=>funext fun os=>by
    rw [looks1 w os,looks2 w os,looks3 w os])
noncomputable def d0:DefRec:=⟨"law",sArgs (st 78),sBody (st 78),sScope (st 78),{ line:=268,col:=0,endLine:=284,endCol:=69 }⟩
theorem hdef0:defOf q0 (Str.ofString "law")=some (d0,[]):=by kernel_rfl
theorem hp0:twp.theDef (Str.ofString "law")=some (d0.params,d0.body,d0.scope):=by kernel_rfl
theorem hk0:kwWritten? d0.params.kwonlyargs d0.params.kw_defaults=some []:=by kernel_rfl
theorem ok0:(chainsOk q0&&opensWell twp)=true:=by kernel_rfl
theorem said0:PySem.Challenge.rw_sn0088_03.wellSaid=true:=by kernel_rfl
end Hd
open PySem PySem.W PyProof.Rows
set_option maxRecDepth 100000 in
theorem PySem.Challenge.cw_sn0088_03_holds : PySem.Challenge.rw_sn0088_03.Holds := by
  w_on
  refine holds_law Hd.said0 fun said=>?_
  have hl:LeftO PySem.Challenge.rw_sn0088_03.row.prog Hd.q0 Hd.loose0 Hd.X0 (Hook.obs Hd.H0) (Hook.val Hd.H0) 6000 true:=by
    rw [show PySem.Challenge.rw_sn0088_03.row.prog=Hd.twp from Hd.tep]
    exact Hd.left0
  refine holds_open (d:=Hd.d0) (kwd:=[]) (q:=Hd.q0) (loose:=Hd.loose0) (Xt:=Hd.X0) (XP:=XL Hd.q0 []) (Yf:=Hook.obs Hd.H0) (Ya:=Hook.val Hd.H0) (YP:=Hook.says Hd.H0) (N:=6000) hl (Hook.of Hd.H0) (Hook.keeps Hd.H0) (fun s e=>xl_of s (Bool.and_eq_true_iff.mp e).1) XL.keeps Hd.hdef0 (by show PySem.Challenge.pw_sn0088_03.theDef (Str.ofString "law")=_; rw [Hd.tep]; exact Hd.hp0) Hd.hk0
    (fun s e=>recFacts_of (Bool.and_eq_true_iff.mp e).2) (by rfl) (by assumption) (by rw [show PySem.Challenge.rw_sn0088_03.row.prog=Hd.twp from Hd.tep,Hd.ok0]; rfl) ⟨rfl,rfl,rfl,rfl,rfl,by decide +kernel⟩ ?hw ?hc
  case hw=>w_witness2
  intro w s₀ s₁ mg mb G Y fa o pm cd doc dV kV ho hd hcd hD hmg hg args vals as hpre hlay hrd hwl hlo
  have KX:(Hd.K0 w.params).In s₁.heap:=kIn_of Y
  refine Ground.open G ?_
  intro T B D TE TW
  clear hcd hD hd ho B D TE TW G Y
  wrow_args hpre hlay hrd hwl hlo
  rename_i ns _ _ _ _ _ _ _ a vs _ hL ra w1 r0 hI hr hc1 hc2
  refine Ab.law03 KX T ?fact03 hmg w1 (by omega) ?done03
  case fact03=>exact ⟨228,168,115,94,99,{
    hmg:=by kernel_rfl
    r1:=by kernel_rfl
    r2:=by kernel_rfl
    blt:=⟨⟨by kernel_rfl,by kernel_rfl⟩,⟨by kernel_rfl,by kernel_rfl⟩,⟨by kernel_rfl,by kernel_rfl⟩,⟨by kernel_rfl,by kernel_rfl⟩,⟨by kernel_rfl,by kernel_rfl⟩,⟨by kernel_rfl,by kernel_rfl⟩,⟨by kernel_rfl,by kernel_rfl⟩,⟨by kernel_rfl,by kernel_rfl⟩,⟨by kernel_rfl,by kernel_rfl⟩,⟨by kernel_rfl,by kernel_rfl⟩,⟨by kernel_rfl,by kernel_rfl⟩,⟨by kernel_rfl,by kernel_rfl⟩,⟨by kernel_rfl,by kernel_rfl⟩,⟨by kernel_rfl,by kernel_rfl⟩⟩
    m_MOVE_COST:=⟨293,by kernel_rfl⟩
    m_CASE_COST:=⟨295,by kernel_rfl⟩
    m_MAX:=⟨291,by kernel_rfl⟩
    m_NT:=⟨477,by kernel_rfl⟩
    m_END:=⟨379,by kernel_rfl⟩
    tI:=⟨53,_,_,by kernel_rfl,by rfl,by kernel_rfl,by kernel_rfl,Ab.nodup_of (by kernel_rfl),by
      intro p hp
      simp only [Ab.tabI3,List.mem_cons,List.not_mem_nil,or_false] at hp
      rcases hp with rfl | rfl | rfl | rfl | rfl <;> kernel_rfl⟩
    tS:=⟨68,_,_,by kernel_rfl,by rfl,by kernel_rfl,by kernel_rfl,Ab.nodup_of (by kernel_rfl),by
      intro p hp
      simp only [Ab.tabS3,List.mem_cons,List.not_mem_nil,or_false] at hp
      rcases hp with rfl | rfl | rfl | rfl <;> kernel_rfl⟩
    f10:=by unfold Ab.FnIs; kernel_rfl
    f11:=by unfold Ab.FnIs; kernel_rfl
    f64:=by unfold Ab.FnIs; kernel_rfl
    f65:=by unfold Ab.FnIs; kernel_rfl
    f6:=by unfold Ab.FnIs; kernel_rfl
    f7:=by unfold Ab.FnIs; kernel_rfl
    f73:=by unfold Ab.FnIs; kernel_rfl
    f74:=by unfold Ab.FnIs; kernel_rfl
    f75:=by unfold Ab.FnIs; kernel_rfl
    f76:=by unfold Ab.FnIs; kernel_rfl
    f77:=by unfold Ab.FnIs; kernel_rfl
    f78:=by unfold Ab.FnIs; kernel_rfl
    hin:=⟨by kernel_rfl,by kernel_rfl,by kernel_rfl⟩
    nos:=by kernel_rfl
    new:=⟨122,_,_,_,_,by kernel_rfl,by kernel_rfl,by kernel_rfl,by kernel_rfl,by kernel_rfl,by kernel_rfl,by kernel_rfl,by kernel_rfl,by rfl,by kernel_rfl,by kernel_rfl,by kernel_rfl,by kernel_rfl,by kernel_rfl,by kernel_rfl,by rfl,by rfl,by kernel_rfl⟩
    none':=⟨_,_,_,_,by rfl⟩
    none0:=⟨_,_,_,_,by rfl⟩
    conv:=⟨129,_,_,_,_,by kernel_rfl,by kernel_rfl,by kernel_rfl,by rfl,by kernel_rfl,by kernel_rfl,by kernel_rfl,by kernel_rfl,by kernel_rfl,by kernel_rfl,by rfl,by rfl,by kernel_rfl⟩
    ga:=⟨167,_,_,_,_,by kernel_rfl,by kernel_rfl,by kernel_rfl,by rfl,by kernel_rfl,by kernel_rfl,by kernel_rfl,by kernel_rfl,by kernel_rfl,by kernel_rfl,by rfl,by rfl,by kernel_rfl⟩
    ah:=⟨225,_,_,_,_,by kernel_rfl,by kernel_rfl,by kernel_rfl,by rfl,by kernel_rfl,by kernel_rfl,by kernel_rfl,by kernel_rfl,by kernel_rfl,by kernel_rfl,by rfl,by rfl,by kernel_rfl⟩
    items:=⟨192,_,_,_,_,by kernel_rfl,by kernel_rfl,by kernel_rfl,by rfl,by kernel_rfl,by kernel_rfl,by kernel_rfl,by kernel_rfl,by kernel_rfl,by kernel_rfl,by rfl,by rfl,by kernel_rfl⟩
    get:=⟨175,_,_,_,_,by kernel_rfl,by kernel_rfl,by kernel_rfl,by rfl,by kernel_rfl,by kernel_rfl,by kernel_rfl,by kernel_rfl,by kernel_rfl,by kernel_rfl,by rfl,by rfl,by kernel_rfl⟩
    keys:=⟨180,_,_,_,_,by kernel_rfl,by kernel_rfl,by kernel_rfl,by rfl,by kernel_rfl,by kernel_rfl,by kernel_rfl,by kernel_rfl,by kernel_rfl,by kernel_rfl,by rfl,by rfl,by kernel_rfl⟩
    si:=⟨143,_,_,_,_,by kernel_rfl,by kernel_rfl,by kernel_rfl,by rfl,by kernel_rfl,by kernel_rfl,by kernel_rfl,by kernel_rfl,by kernel_rfl,by kernel_rfl,by rfl,by rfl,by kernel_rfl⟩
    di:=⟨148,_,_,_,_,by kernel_rfl,by kernel_rfl,by kernel_rfl,by rfl,by kernel_rfl,by kernel_rfl,by kernel_rfl,by kernel_rfl,by kernel_rfl,by kernel_rfl,by rfl,by rfl,by kernel_rfl⟩
    o1:=⟨_,93,_,_,_,_,_,_,by rfl,by kernel_rfl,by kernel_rfl,by rfl,by rfl,by kernel_rfl⟩
    o2:=⟨_,98,_,_,_,_,_,_,by rfl,by kernel_rfl,by kernel_rfl,by rfl,by rfl,by kernel_rfl⟩
    ne:=by decide }⟩
  case done03 =>
    intro s' sh keep
    obtain ⟨h',t',rfl,_⟩:=sh
    refine GoodW.toG ⟨.inl ⟨_,_,[],rfl,fun _=>rfl,ReadsW.bool true,?post03,fun _=>⟨List.nodup_nil,fun _ hm=>(nomatch hm)⟩⟩,keep,rfl,hg⟩
    wrow_post
