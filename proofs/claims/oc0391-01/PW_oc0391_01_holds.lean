import PyProof.Rows.All
import PyProof.ExcFactsAll.ValueError
import PyProof.RaisesMany
import KE.KxPercent
import KE.KSortTup
import Wide.FinOn
import OpenK.AllK
import Wide.All
import Lean
import PySem.Challenge.RW_oc0391_01
set_option Elab.async false
set_option maxRecDepth 100000
set_option maxHeartbeats 1000000
set_option linter.all false
set_option compiler.extract_closed false
set_option tactic.hygienic false
section
namespace Mine
open Lean
def way (w:String):MacroM (TSyntax `tactic) :=
 match w.splitOn ":" with
 | [n, s] => do
   let (ar,cs) ← s.toList.foldlM (fun (st:Array Term×List (TSyntax `tactic)) c=>do
    if c=='_' then return (st.1.push (← `(?_)),st.2)
    else if c=='u' then return (st.1.push (← `(_)),st.2)
    else
     let i:=mkIdent (← Macro.addMacroScope (.mkSimple s!"h{st.1.size}"))
     return (st.1.push (← `(?$i)),(← `(tactic| case $i:ident=>walk_at $(quote s!"{c}2")))::st.2)) (#[],[])
   let t:=Syntax.mkApp (mkIdent n.toName) ar
   match cs with
   | []=>`(tactic| with_reducible refine $t)
   | c :: cs => do
     let e ← cs.foldlM (fun (a b:TSyntax `tactic)=>`(tactic| ($b;$a))) c
     `(tactic| ((with_reducible refine' $t);$e))
 | _=>`(tactic| walk_at $(quote w))
def alts (ws:String):MacroM (TSyntax `tactic):=do
 let ts ← (ws.splitOn " ").mapM way
 `(tactic| first $[| $(ts.toArray):tactic]*)
end Mine
end
section
namespace Mine
open PySem PySem.Spec PySem.Calls PyProof.Rows
inductive V where
 | none
 | bool (b:Bool)
 | int (i:Int)
 | str (s:Str)
 | tup (xs:List V)
 | mat (xs:List V)
 | obj (a:Addr)
 | lit (v:Value)
 | bm (id:String) (a:Addr)
 deriving Inhabited
inductive O where
 | list (xs:List V)
 | dS (kvs:List (Str×V))
 | dI (kvs:List (Int×V))
 | set0
 | inst (d:Addr)
 | ns (kvs:List (Str×V))
noncomputable abbrev Hp:=Addr→Option O
noncomputable def Hp.set (H:Hp) (a:Addr) (o:O):Hp:=fun b=>if b=a then some o else H b
@[simp] theorem Hp.set_self (H:Hp) (a:Addr) (o:O):(H.set a o) a=some o:=if_pos rfl
theorem Hp.set_ne (H:Hp) {a b:Addr} (o:O) (h:b≠a):(H.set a o) b=H b:=if_neg h
set_option genInjectivity false in
set_option genSizeOf false in
structure TI where
 prog:Program
 w:World
 B:Addr→Option Obj
 os:OsState
 cM:Addr
 cS:Addr
 gs:Array GenState→Prop
mutual
inductive VR (T:TI) (h:Heap):V→Value→Prop where
 | none:VR T h .none .none
 | bool (b:Bool):VR T h (.bool b) (.bool b)
 | int (i:Int) (t:Tok):VR T h (.int i) (.int i t)
 | str (s:Str) (t:Tok):VR T h (.str s) (.str s t)
 | tup {xs:List V} {vs:List Value} {a:Addr}:IsTup h a vs.toArray→VRs T h xs vs→VR T h (.tup xs) (.ref a)
 | mat {xs:List V} {vs:List Value} {a:Addr} {n:Nat} {d:Option Addr}:h.get? a=some { cls:=.ref T.cM,dict:=d,data:=.seq vs.toArray n }→VRs T h xs vs→VR T h (.mat xs) (.ref a)
 | obj (a:Addr):VR T h (.obj a) (.ref a)
 | lit (v:Value):VR T h (.lit v) v
 | bm {id:String} {a b:Addr}:h.get? b=some { cls:=.type "builtin_function_or_method",data:=.fields #[.builtin id,.ref a] }→VR T h (.bm id a) (.ref b)
inductive VRs (T:TI) (h:Heap):List V→List Value→Prop where
 | nil:VRs T h [] []
 | cons {x:V} {v:Value} {xs:List V} {vs:List Value}:VR T h x v→VRs T h xs vs→VRs T h (x::xs) (v::vs)
end
theorem nn {α:Type} {v:α} {P:Prop} (h:none=some v):P:=nomatch h
theorem nf {P:Prop} (h:false=true):P:=nomatch h
theorem nt {P:Prop} (h:true=false):P:=nomatch h
theorem nmem {α:Type} {a b:α} (q:b ∉ [a]):b≠a:=fun e=>q (e▸.head _)
theorem inm {α:Type} {a b:α} (q:b≠a):b ∉ [a]:=fun m=>q (List.mem_singleton.mp m)
theorem all1 {α:Type} {a:α} {P:α→Prop} (h:P a):∀ b∈[a],P b:=fun b m=>List.mem_singleton.mp m▸h
theorem ns_ne {h:Heap} {a b:Addr} {o:Obj} (n:h.get? b=none) (e:h.get? a=some o):a≠b:=fun q=>by rw [q,n] at e;cases e
theorem ite_some {α:Type} {b:Prop} [Decidable b] {o:Option α} {v:α} (h:(if b then o else none)=some v):b∧o=some v:=by
 by_cases c:b
 ·exact ⟨c,(if_pos c).symm.trans h⟩
 ·exact nomatch (if_neg c).symm.trans h
def Fixed (T:TI) (o:Obj):Prop :=
 ((o.cls=.type "tuple" ∨ o.cls=.ref T.cM)∧∃ xs n,o.data=.seq xs n)∨(o.cls=.type "builtin_function_or_method" ∧ ∃ vs,o.data=.fields vs)
def FixKeep (T:TI) (h h':Heap):Prop:=∀ a o,h.get? a=some o→Fixed T o→h'.get? a=some o
theorem FixKeep.refl (T:TI) (h:Heap):FixKeep T h h:=fun Z Z e Z=>e
theorem FixKeep.trans {T:TI} {h₁ h₂ h₃:Heap} (x:FixKeep T h₁ h₂) (y:FixKeep T h₂ h₃):FixKeep T h₁ h₃:=fun a o e f=>y a o (x a o e f) f
theorem FixKeep.push (T:TI) (h:Heap) (o:Obj):FixKeep T h (h.push o):=fun Z Z e Z=>Heap.get?_push_of_some o e
theorem VR.mono {T:TI} {h h':Heap} (k:FixKeep T h h') {x:V} {v:Value} (r:VR T h x v):VR T h' x v :=
 VR.rec (motive_1:=fun x v Z=>VR T h' x v) (motive_2:=fun xs vs Z=>VRs T h' xs vs) .none .bool .int .str (fun z0 Z hs=>(by obtain ⟨o,e,c,n,d⟩:=z0;exact .tup ⟨o,k _ _ e (.inl ⟨.inl c,_,_,d⟩),c,n,d⟩ hs))
  (fun e Z hs=>.mat (k _ _ e (.inl ⟨.inr rfl,_,_,rfl⟩)) hs) .obj .lit (fun e=>.bm (k _ _ e (.inr ⟨rfl,_,rfl⟩))) .nil (fun Z Z a b=>.cons a b) r
section
variable {T:TI} {h:Heap} {v:Value}
theorem VR.iO {a:Addr} (r:VR T h (.obj a) v):v=.ref a:=by cases r;rfl
theorem VR.iL {x:Value} (r:VR T h (.lit x) v):v=x:=by cases r;rfl
theorem VR.iN (r:VR T h .none v):v=.none:=by cases r;rfl
theorem VR.iB {b:Bool} (r:VR T h (.bool b) v):v=.bool b:=by cases r;rfl
theorem VR.iI {i:Int} (r:VR T h (.int i) v):∃ t,v=.int i t:=by cases r;exact ⟨_,rfl⟩
theorem VR.iS {i:Str} (r:VR T h (.str i) v):∃ t,v=.str i t:=by cases r;exact ⟨_,rfl⟩
theorem VR.iT {xs:List V} (r:VR T h (.tup xs) v):∃ vs a,v=.ref a∧IsTup h a vs.toArray∧VRs T h xs vs:=by cases r;exact ⟨_,_,rfl,‹_›,‹_›⟩
theorem VR.iM {xs:List V} (r:VR T h (.mat xs) v):∃ vs a n d,v=.ref a∧h.get? a=some { cls:=.ref T.cM,dict:=d,data:=.seq vs.toArray n }∧VRs T h xs vs:=by cases r;exact ⟨_,_,_,_,rfl,‹_›,‹_›⟩
theorem VR.iF {id:String} {a:Addr} (r:VR T h (.bm id a) v):∃ b,v=.ref b∧h.get? b=some { cls:=.type "builtin_function_or_method",data:=.fields #[.builtin id,.ref a] }:=by cases r;exact ⟨_,rfl,‹_›⟩
end
theorem noneOf {α:Type} {x:Option α} (h:∀ o,x=some o→False):x=none:=Option.eq_none_iff_forall_ne_some.mpr fun o e=>h o e
theorem getNone {h h':Heap} {a:Addr} (k:∀ b o,h.get? b=some o→h'.get? b=some o) (e:h'.get? a=none):h.get? a=none:=noneOf fun o q=>nomatch e.symm.trans (k a o q)
theorem VRs.cut {T:TI} {h:Heap} {x:V} {xs:List V} {us:List Value} (r:VRs T h (x::xs) us):∃ v vs,us=v::vs∧VR T h x v∧VRs T h xs vs:=by cases r with | cons a b=>exact ⟨_,_,rfl,a,b⟩
theorem VRs.nil_eq {T:TI} {h:Heap} {us:List Value} (r:VRs T h [] us):us=[]:=by cases r;rfl
theorem VRs.mono {T:TI} {h h':Heap} (k:FixKeep T h h') {xs:List V}:∀ {vs:List Value},VRs T h xs vs→VRs T h' xs vs:=by
 induction xs with
 | nil=>intro vs r;exact r.nil_eq.symm▸.nil
 | cons x xs ih=>intro us r;obtain ⟨v,vs,rfl,a,b⟩:=r.cut;exact .cons (a.mono k) (ih b)
theorem VRs.length {T:TI} {h:Heap} {xs:List V}:∀ {vs:List Value},VRs T h xs vs→xs.length=vs.length:=by
 induction xs with
 | nil=>intro vs r;refine r.nil_eq.symm▸?_;rfl
 | cons x xs ih=>intro us r;obtain ⟨v,vs,rfl,a,b⟩:=r.cut;exact congrArg (·+1) (ih b)
theorem VRs.get {T:TI} {h:Heap} {xs:List V}:∀ {vs:List Value},VRs T h xs vs→∀ {i:Nat} {x:V},xs[i]?=some x→∃ v,vs[i]?=some v∧VR T h x v:=by
 induction xs with
 | nil=>intro vs r i x e;cases e
 | cons x xs ih =>
   intro us r i y e
   obtain ⟨v,vs,rfl,a,b⟩:=r.cut
   cases i with
   | zero=>cases e;exact ⟨v,rfl,a⟩
   | succ i=>exact ih b e
theorem VRs.append {T:TI} {h:Heap} {xs:List V} {vs:List Value} {ys:List V} {us:List Value} (r:VRs T h xs vs) (q:VRs T h ys us):VRs T h (xs++ys) (vs++us):=by
 induction xs generalizing vs with
 | nil=>exact r.nil_eq.symm▸q
 | cons x xs ih=>obtain ⟨v,vs,rfl,a,b⟩:=r.cut;exact .cons a (ih b)
theorem VRs.set {T:TI} {h:Heap} {y:V} {u:Value} (hy:VR T h y u) {xs:List V}:∀ {vs:List Value},VRs T h xs vs→∀ i,VRs T h (xs.set i y) (vs.set i u):=by
 induction xs with
 | nil=>intro vs r i;exact r.nil_eq.symm▸.nil
 | cons x xs ih =>
   intro us r i
   obtain ⟨v,vs,rfl,a,b⟩:=r.cut
   cases i with
   | zero=>exact .cons hy b
   | succ i=>exact .cons a (ih b i)
theorem VRs.take {T:TI} {h:Heap} {xs:List V}:∀ {vs:List Value},VRs T h xs vs→∀ i,VRs T h (xs.take i) (vs.take i):=by
 induction xs with
 | nil=>intro vs r i;exact r.nil_eq.symm▸List.take_nil.symm▸List.take_nil.symm▸.nil
 | cons x xs ih =>
   intro us r i
   obtain ⟨v,vs,rfl,a,b⟩:=r.cut
   cases i with
   | zero=>exact .nil
   | succ i=>exact .cons a (ih b i)
theorem VRs.drop {T:TI} {h:Heap} {xs:List V}:∀ {vs:List Value},VRs T h xs vs→∀ i,VRs T h (xs.drop i) (vs.drop i):=by
 induction xs with
 | nil=>intro vs r i;exact r.nil_eq.symm▸List.drop_nil.symm▸List.drop_nil.symm▸.nil
 | cons x xs ih =>
   intro us r i
   obtain ⟨v,vs,rfl,a,b⟩:=r.cut
   cases i with
   | zero=>exact .cons a b
   | succ i=>exact ih b i
noncomputable def getK {K:Type} [DecidableEq K] (kvs:List (K×V)) (k:K):Option V:=(kvs.find? fun kv=>kv.1=k).map (·.2)
noncomputable def putK {K:Type} [DecidableEq K] (kvs:List (K×V)) (k:K) (v:V):List (K×V) :=
 if kvs.any (fun kv=>kv.1=k) then kvs.map (fun kv=>if kv.1=k then (kv.1,v) else kv) else kvs++[(k,v)]
def DR (T:TI) (h:Heap) (a:Addr) {K:Type} [DecidableEq K] (knd:KeyKind T.prog T.w K) (kvs:List (K×V)):Prop :=
 ∃ ps:List (K×Value),h.DictOf knd a ps∧ps.map (·.1)=kvs.map (·.1)∧VRs T h (kvs.map (·.2)) (ps.map (·.2))
theorem DR.mono {T:TI} {h h':Heap} {a:Addr} {K:Type} [DecidableEq K] {knd:KeyKind T.prog T.w K} {kvs:List (K×V)} (k:FixKeep T h h') (e:h'.get? a=h.get? a) (r:DR T h a knd kvs):DR T h' a knd kvs :=
 (by obtain ⟨ps,⟨o,es,ep,ho,z⟩,p,q⟩:=r;exact ⟨ps,⟨o,es,ep,e.trans ho,z⟩,p,q.mono k⟩)
theorem DR.notFix {T:TI} {h:Heap} {a:Addr} {K:Type} [DecidableEq K] {knd:KeyKind T.prog T.w K} {kvs:List (K×V)} (r:DR T h a knd kvs):∃ ob,h.get? a=some ob∧¬ Fixed T ob:=by
 obtain ⟨ps,⟨o,es,ep,ho,hx,hd,_⟩,_⟩:=r
 refine ⟨_,ho,fun f=>?_⟩
 rcases f with ⟨_,xs,n,f⟩ | ⟨_,vs,f⟩ <;> rw [hd] at f <;> cases f
noncomputable def OR (T:TI) (h:Heap) (a:Addr):O→Prop
 | .list xs=>∃ vs n,h.get? a=some { cls:=.type "list",data:=.seq (List.toArray vs) n }∧VRs T h xs vs
 | .dS kvs=>DR T h a (strKind T.prog T.w) kvs
 | .dI kvs=>DR T h a (intKind T.prog T.w) kvs
 | .set0=>∃ led,h.get? a=some { cls:=.type "set",data:=.set #[] 0 (.fresh 0 0 led) }
 | .inst d=>∃ o,h.get? a=some o∧o.cls=.ref T.cS∧o.dict=some d∧d≠a∧(∀ c,o.data≠.cls c)∧¬ Fixed T o
 | .ns kvs=>∃ m,h.Ns1 a m∧(∀ k x,getK kvs k=some x→∃ v,m k=some v∧VR T h x v)∧(∀ k,getK kvs k=Option.none→m k=Option.none)
theorem OR.there {T:TI} {h:Heap} {a:Addr} {o:O} (r:OR T h a o):∃ ob,h.get? a=some ob∧¬ Fixed T ob:=by
 cases o with
 | inst d=>obtain ⟨o,ho,_,_,_,_,nf⟩:=r;exact ⟨o,ho,nf⟩
 | list xs =>
   obtain ⟨vs,n,e,_⟩:=r
   refine ⟨_,e,fun f=>?_⟩
   rcases f with ⟨f | f,_⟩ | ⟨f,_⟩ <;> simp at f
 | dS kvs=>exact DR.notFix r
 | dI kvs=>exact DR.notFix r
 | set0 =>
   obtain ⟨led,e⟩:=r
   refine ⟨_,e,fun f=>?_⟩
   rcases f with ⟨_,xs,n,f⟩ | ⟨_,vs,f⟩ <;> cases f
 | ns f =>
   obtain ⟨m,⟨o,es,ep,ho,hd,_⟩,_⟩:=r
   refine ⟨_,ho,fun f=>?_⟩
   rcases f with ⟨_,xs,n,f⟩ | ⟨_,vs,f⟩ <;> rw [hd] at f <;> cases f
theorem OR.mono {T:TI} {h h':Heap} {a:Addr} {o:O} (k:FixKeep T h h') (e:h'.get? a=h.get? a) (r:OR T h a o):OR T h' a o:=by
 cases o with
 | inst d=>obtain ⟨o,ho,z⟩:=r;exact ⟨o,e.trans ho,z⟩
 | list xs=>obtain ⟨vs,n,g,q⟩:=r;exact ⟨vs,n,e.trans g,q.mono k⟩
 | dS kvs=>exact DR.mono k e r
 | dI kvs=>exact DR.mono k e r
 | set0=>obtain ⟨led,g⟩:=r;exact ⟨led,e.trans g⟩
 | ns f =>
   obtain ⟨m,⟨o,es,ep,ho,r⟩,p,q⟩:=r
   exact ⟨m,⟨o,es,ep,e.trans ho,r⟩,fun k' x hk=>(by obtain ⟨v,a,b⟩:=p k' x hk;exact ⟨v,a,b.mono k⟩),q⟩
structure Rel (T:TI) (H:Hp) (s:Shared):Prop where
 base:∀ a o,T.B a=some o→s.heap.get? a=some o
 objs:∀ a o,H a=some o→OR T s.heap a o
 new:∀ a o,H a=some o→T.B a=none
 os:s.os=T.os
 gens:T.gs s.gens
structure Ev (H:Hp) (h:Heap) (H':Hp) (h':Heap):Prop where
 keep:∀ a o,h.get? a=some o→H a=none→h'.get? a=some o
 dom:∀ a o,H' a=some o→(∃ o',H a=some o')∨h.get? a=none
 live:∀ a o,h.get? a=some o→∃ o',h'.get? a=some o'
theorem Ev.refl (H:Hp) (h:Heap):Ev H h H h:=⟨fun Z Z e Z=>e,fun a o e=>.inl ⟨o,e⟩,fun a o e=>⟨o,e⟩⟩
theorem Ev.trans {H H₁ H₂:Hp} {h h₁ h₂:Heap} (x:Ev H h H₁ h₁) (y:Ev H₁ h₁ H₂ h₂):Ev H h H₂ h₂ where
 keep a o e n:=by
  refine y.keep a o (x.keep a o e n) ?_
  cases q:H₁ a with
  | none=>rfl
  | some o' =>
    rcases x.dom a o' q with ⟨o2,e2⟩ | l
    ·rw [n] at e2;cases e2
    ·rw [l] at e;cases e
 dom a o e:=by
  rcases y.dom a o e with ⟨o',e'⟩ | l
  ·exact x.dom a o' e'
  ·refine .inr ?_
   cases q:h.get? a with
   | none=>rfl
   | some ob =>
     obtain ⟨o',e'⟩:=x.live a ob q
     rw [l] at e';cases e'
 live a o e:=(by obtain ⟨o',e'⟩:=x.live a o e;exact y.live a o' e')
theorem Rel.fixNone {T:TI} {H:Hp} {s:Shared} (R:Rel T H s) {a:Addr} {o:Obj} (e:s.heap.get? a=some o) (f:Fixed T o):H a=none:=by
 cases q:H a with
 | none=>rfl
 | some o' =>
   obtain ⟨ob,e',nf⟩:=(R.objs a o' q).there
   rw [e] at e';cases e';exact absurd f nf
theorem Rel.fix {T:TI} {H H':Hp} {s:Shared} {h':Heap} (R:Rel T H s) (x:Ev H s.heap H' h'):FixKeep T s.heap h' :=
 fun a o e f=>x.keep a o e (R.fixNone e f)
theorem Rel.lt {T:TI} {H:Hp} {s:Shared} (R:Rel T H s) {a:Addr} {o:O} (e:H a=some o):a < s.heap.objs.size :=
 (by obtain ⟨_,g,_⟩:=(R.objs a o e).there;exact Heap.lt_size g)
theorem Rel.top {T:TI} {H:Hp} {s:Shared} (R:Rel T H s):H s.heap.objs.size=none:=by
 cases q:H s.heap.objs.size with
 | none=>rfl
 | some o=>exact absurd (R.lt q) (Nat.lt_irrefl _)
theorem Rel.noneH {T:TI} {H:Hp} {s:Shared} (R:Rel T H s) {a:Addr} (e:s.heap.get? a=none):H a=none:=noneOf fun o q=>(by obtain ⟨_,g,_⟩:=(R.objs a o q).there;exact nomatch e.symm.trans g)
theorem Rel.noneB {T:TI} {H:Hp} {s:Shared} (R:Rel T H s) {a:Addr} (e:s.heap.get? a=none):T.B a=none:=noneOf fun o q=>nomatch e.symm.trans (R.base a o q)
theorem Ev.noneS {H H':Hp} {h h':Heap} (x:Ev H h H' h') {a:Addr} (e:h'.get? a=none):h.get? a=none:=noneOf fun o q=>(by obtain ⟨_,g⟩:=x.live a o q;exact nomatch e.symm.trans g)
theorem Rel.baseNone {T:TI} {H:Hp} {s:Shared} (R:Rel T H s) {a:Addr} {o:Obj} (e:T.B a=some o):H a=none:=by
 cases q:H a with
 | none=>rfl
 | some o'=>have:=R.new a o' q;rw [e] at this;cases this
theorem Rel.topB {T:TI} {H:Hp} {s:Shared} (R:Rel T H s) {a:Addr} (l:s.heap.objs.size≤a):T.B a=none:=by
 cases q:T.B a with
 | none=>rfl
 | some o=>exact absurd (Heap.lt_size (R.base a o q)) (Nat.not_lt.mpr l)
theorem Rel.less {T:TI} {H H':Hp} {s:Shared} (R:Rel T H s) (hs:∀ a o,H' a=some o→H a=some o):Rel T H' s :=
 ⟨R.base,fun a o e=>R.objs a o (hs a o e),fun a o e=>R.new a o (hs a o e),R.os,R.gens⟩
theorem Rel.toks {T:TI} {H:Hp} {s:Shared} (R:Rel T H s) (n:Nat):Rel T H { s with toks:=n }:=⟨R.base,R.objs,R.new,R.os,R.gens⟩
theorem Rel.keeps {T:TI} {H:Hp} {s:Shared} (R:Rel T H s) {h':Heap} {n:Nat} (k:∀ a o,s.heap.get? a=some o→h'.get? a=some o):Rel T H { s with heap:=h',toks:=n } where
 base a o e:=k a o (R.base a o e)
 objs a o e:=by
  obtain ⟨ob,g,_⟩:=(R.objs a o e).there
  exact (R.objs a o e).mono (fun a o e Z=>k a o e) ((k a ob g).trans g.symm)
 new:=R.new
 os:=R.os
 gens:=R.gens
theorem Ev.keeps {H:Hp} {h h':Heap} (k:∀ a o,h.get? a=some o→h'.get? a=some o):Ev H h H h' :=
 ⟨fun a o e Z=>k a o e,fun a o e=>.inl ⟨o,e⟩,fun a o e=>⟨o,k a o e⟩⟩
theorem Rel.alloc {T:TI} {H:Hp} {s:Shared} (R:Rel T H s) {ob:Obj} {n:Nat} {o:O} (ho:OR T (s.heap.push ob) s.heap.objs.size o):Rel T (H.set s.heap.objs.size o) { s with heap:=s.heap.push ob,toks:=n } where
 base a o' e:=Heap.get?_push_of_some _ (R.base a o' e)
 objs a o' e:=by
  by_cases q:a=s.heap.objs.size
  ·subst q;rw [Hp.set_self] at e;cases e;exact ho
  ·rw [Hp.set_ne _ _ q] at e
   obtain ⟨ob',g,_⟩:=(R.objs a o' e).there
   exact (R.objs a o' e).mono (FixKeep.push T _ _) ((Heap.get?_push_of_some ob g).trans g.symm)
 new a o' e:=by
  by_cases q:a=s.heap.objs.size
  ·subst q;exact R.topB (Nat.le_refl _)
  ·rw [Hp.set_ne _ _ q] at e;exact R.new a o' e
 os:=R.os
 gens:=R.gens
theorem Ev.alloc {H:Hp} {h:Heap} (ob:Obj) (o:O):Ev H h (H.set h.objs.size o) (h.push ob) where
 keep a o' e _:=Heap.get?_push_of_some _ e
 dom a o' e:=by
  by_cases q:a=h.objs.size
  ·exact .inr (Heap.get?_none_of_le (Nat.le_of_eq q.symm))
  ·rw [Hp.set_ne _ _ q] at e;exact .inl ⟨o',e⟩
 live a o' e:=⟨o',Heap.get?_push_of_some _ e⟩
theorem Rel.turn {T:TI} {H:Hp} {s:Shared} (R:Rel T H s) {a:Addr} {h':Heap} {n:Nat} {o o₀:O} (e₀:H a=some o₀) (hs:∀ b,b≠a→h'.get? b=s.heap.get? b) (ho:OR T h' a o):Rel T (H.set a o) { s with heap:=h',toks:=n }:=by
 have ra:=R.objs a o₀ e₀
 have fk:FixKeep T s.heap h':=fun b ob e f=>by
  have:b≠a:=by
   rintro rfl
   exact nomatch (R.fixNone e f).symm.trans e₀
  exact (hs b this).trans e
 refine ⟨fun b ob e=>?_,fun b o' e=>?_,fun b o' e=>?_,R.os,R.gens⟩
 ·have:b≠a:=by rintro rfl;exact nomatch (R.baseNone e).symm.trans e₀
  exact (hs b this).trans (R.base b ob e)
 ·by_cases q:b=a
  ·subst q;rw [Hp.set_self] at e;cases e;exact ho
  ·rw [Hp.set_ne _ _ q] at e;exact (R.objs b o' e).mono fk (hs b q)
 ·by_cases q:b=a
  ·subst q;exact R.new _ _ e₀
  ·rw [Hp.set_ne _ _ q] at e;exact R.new b o' e
theorem Rel.turnFix {T : TI} {H : Hp} {s : Shared} (R : Rel T H s) {a : Addr} {h' : Heap} {o₀ : O} (e₀ : H a = some o₀) (hs : ∀ b, b ≠ a → h'.get? b = s.heap.get? b) : FixKeep T s.heap h' := fun b ob e f => by
  have:b≠a:=by
   rintro rfl
   exact nomatch (R.fixNone e f).symm.trans e₀
  exact (hs b this).trans e
theorem Ev.turn {H:Hp} {h h':Heap} {a:Addr} {o o₀:O} (e₀:H a=some o₀) (hs:∀ b,b≠a→h'.get? b=h.get? b) (l:∃ ob,h'.get? a=some ob):Ev H h (H.set a o) h' where
 keep b ob e n:=by
  have:b≠a:=by rintro rfl;rw [n] at e₀;cases e₀
  exact (hs b this).trans e
 dom b o' e:=by
  by_cases q:b=a
  ·subst q;exact .inl ⟨_,e₀⟩
  ·rw [Hp.set_ne _ _ q] at e;exact .inl ⟨_,e⟩
 live b ob e:=by
  by_cases q:b=a
  ·subst q;exact l
  ·exact ⟨ob,(hs b q).trans e⟩
noncomputable abbrev Loc:=List (Str×Option V)
noncomputable def Loc.get:Loc→Str→Option V
 | [],_=>none
 | (y,v)::r,x=>if y=x then v else Loc.get r x
noncomputable def Loc.put:Loc→Str→V→Loc
 | [],x,v=>[(x,some v)]
 | (y,u)::r,x,v=>if y=x then (y,some v)::r else (y,u)::Loc.put r x v
theorem Loc.get_put (l:Loc) (x:Str) (v:V) (y:Str):(l.put x v).get y=if x=y then some v else l.get y:=by
 induction l with
 | nil=>dsimp [Loc.put,Loc.get]
 | cons p r ih =>
   obtain ⟨z,u⟩:=p
   by_cases h:z=x
   ·subst h
    rw [show Loc.put ((z,u)::r) z v=(z,some v)::r from if_pos rfl]
    refine (?_:(if z=y then some v else Loc.get r y)=if z=y then some v else if z=y then u else Loc.get r y)
    by_cases q:z=y
    ·rw [if_pos q,if_pos q]
    ·rw [if_neg q,if_neg q,if_neg q]
   ·rw [show Loc.put ((z,u)::r) x v=(z,u)::Loc.put r x v from if_neg h]
    refine (?_:(if z=y then u else Loc.get (Loc.put r x v) y)=if x=y then some v else if z=y then u else Loc.get r y)
    by_cases q:z=y
    ·rw [if_pos q,if_pos q,if_neg fun e=>h (q.trans e.symm)]
    ·rw [if_neg q,if_neg q,ih]
structure Frm (T:TI) (env:Env) (loc:Loc) (H:Hp) (h:Heap):Prop where
 ns:∃ m,h.Ns env.locals m∧∀ x v,loc.get x=some v→env.scope.names.lookup x=some .local→∃ u,m x=some u∧VR T h v u
 new:T.B env.locals=none
 out:H env.locals=none
 cel:∀ x v,loc.get x=some v→env.scope.names.lookup x=some .cell→∃ c u,env.cells.lookup x=some c∧h.IsCell c (some u)∧VR T h v u∧H c=none∧c≠env.locals
theorem Ev.outs {H H':Hp} {h h':Heap} (x:Ev H h H' h') {a:Addr} {o:Obj} (e:h.get? a=some o) (n:H a=none):H' a=none:=by
 cases q:H' a with
 | none=>rfl
 | some o' =>
   rcases x.dom a o' q with ⟨o',e'⟩ | l
   ·exact nomatch n.symm.trans e'
   ·exact nomatch e.symm.trans l
theorem Frm.ev {T:TI} {env:Env} {loc:Loc} {H H':Hp} {s:Shared} {h':Heap} (F:Frm T env loc H s.heap) (R:Rel T H s) (x:Ev H s.heap H' h'):Frm T env loc H' h' where
 ns:=by
  obtain ⟨m,⟨o,es,ep,ho,r⟩,q⟩:=F.ns
  exact ⟨m,⟨o,es,ep,x.keep _ _ ho F.out,r⟩,fun y v e k=>(by obtain ⟨u,a,b⟩:=q y v e k;exact ⟨u,a,b.mono (R.fix x)⟩)⟩
 new:=F.new
 out:=by
  obtain ⟨m,⟨o,es,ep,ho,r⟩,q⟩:=F.ns
  exact x.outs ho F.out
 cel:=fun y v e k=>(by obtain ⟨c,u,a,⟨o,b,b'⟩,d,n,l⟩:=F.cel y v e k;exact ⟨c,u,a,⟨o,x.keep _ _ b n,b'⟩,d.mono (R.fix x),x.outs b n,l⟩)
noncomputable abbrev KV:=V→Hp→Prop
noncomputable abbrev KB:=Bool→Hp→Prop
noncomputable abbrev CS:=V→List V→Hp→KV→Prop
inductive Fl where
 | next | brk | cont
 | ret (v:V)
noncomputable abbrev KS:=Fl→Loc→Hp→Prop
set_option genInjectivity false in
set_option genSizeOf false in
structure Sy where
 C:CS
 G:Str→Option V
 cl:Str→Option Addr
 L:Scope→Expr→Loc→Hp→KV→Prop:=fun Z Z Z Z Z=>False
 LS:Scope→Stmt→Loc→Hp→KS→Prop:=fun Z Z Z Z Z=>False
 /-- the room that the oracles want -/
 r:Nat:=0
noncomputable def mids:List (String×Str×String):=[("list", "append", "list.append"),("list", "extend", "list.extend"),("list", "pop", "list.pop"),("list", "sort", "list.sort"),("list", "index", "list.index"),
 ("dict", "setdefault", "dict.setdefault"),("dict", "get", "dict.get"),("str", "join", "str.join"),("str", "format", "str.format")]
noncomputable def midOf (k:String) (name:Str):Option String:=(mids.find? fun e=>e.1==k&&e.2.1==name).map (·.2.2)
inductive kindV (H:Hp):V→String→Prop where
 | str {x:Str}:kindV H (.str x) "str"
 | list {a:Addr} {xs:List V}:H a=some (.list xs)→kindV H (.obj a) "list"
 | dS {a:Addr} {kvs:List (Str×V)}:H a=some (.dS kvs)→kindV H (.obj a) "dict"
 | dI {a:Addr} {kvs:List (Int×V)}:H a=some (.dI kvs)→kindV H (.obj a) "dict"
 | set {a:Addr}:H a=some .set0→kindV H (.obj a) "set"
inductive calleeM (cl:Str→Option Addr) (H:Hp) (name:Str):V→V→Prop where
 | kind {ov:V} {k id:String}:kindV H ov k→midOf k name=some id→calleeM cl H name ov (.lit (.builtin id))
 | cls {a d fa:Addr} {kvs:List (Str×V)}:H a=some (.inst d)→H d=some (.ns kvs)→getK kvs name=none→cl name=some fa→calleeM cl H name (.obj a) (.lit (.ref fa))
noncomputable def attrs:List Str:=["isjunk", "a", "b", "autojunk", "matching_blocks", "opcodes", "fullbcount", "b2j", "bjunk", "bpopular"]
noncomputable def plainV:V→Bool
 | .lit _=>false
 | _=>true
inductive wAttr (H:Hp) (name:Str) (K:KV):V→Prop where
 | dS {a:Addr} {kvs:List (Str×V)}:H a=some (.dS kvs)→name = "get" → K (.bm "dict.get" a) H→wAttr H name K (.obj a)
 | dI {a:Addr} {kvs:List (Int×V)}:H a=some (.dI kvs)→name = "get" → K (.bm "dict.get" a) H→wAttr H name K (.obj a)
 | set {a:Addr}:H a=some .set0→name = "__contains__" → K (.bm "set.__contains__" a) H→wAttr H name K (.obj a)
 | inst {a d:Addr} {kvs:List (Str×V)} {v:V}:attrs.contains name=true→H a=some (.inst d)→H d=some (.ns kvs)→getK kvs name=some v→plainV v=true→K v H→wAttr H name K (.obj a)
noncomputable def baseOk:Expr→Bool
 | .Call _ [] _ _=>false
 | _=>true
noncomputable def notSet (e:Expr):Bool:=!(e.ctorIdx.beq 7)
noncomputable def notStar (e:Expr):Bool:=!(e.ctorIdx.beq 22)
noncomputable def small:Int:=2 ^ 62
noncomputable def special:Expr→Bool
 | .Call (.Name x _) [.Call ..] [] _=>x==("list" : Str)
 | _=>false
noncomputable def isComp (e:Expr):Bool:=e.ctorIdx.beq 8||(e.ctorIdx.beq 9||e.ctorIdx.beq 10)
def ii (a b:V) (P:Int→Int→Prop):Prop:=match a,b with
 | .int x,.int y=>P x y
 | _,_=>False
def wAdd (a b:V) (H:Hp) (K:KV):Prop:=match a,b with
 | .int x,.int y=>K (.int (x+y)) H
 | .str x,.str y=>x.length+y.length≤sizeLine∧K (.str (x++y)) H
 | .obj a,.obj b=>∃ xs ys,H a=some (.list xs)∧H b=some (.list ys)∧xs.length+ys.length≤4096∧∀ c,H c=none→K (.obj c) (H.set c (.list (xs++ys)))
 | _,_=>False
def wMul (a b:V) (H:Hp) (K:KV):Prop:=match a,b with
 | .int x,.int y=>(-small < x∧x < small∧-small < y∧y < small)∧K (.int (x * y)) H
 | .obj a,.bool b=>∃ xs,H a=some (.list xs)∧xs.length≤4096∧∀ c,H c=none→K (.obj c) (H.set c (.list (if b then xs else [])))
 | _,_=>False
def wBin (op:Operator) (a b:V) (H:Hp) (K:KV):Prop:=match op with
 | .Add=>wAdd a b H K
 | .Mult=>wMul a b H K
 | .Sub=>ii a b fun x y=>K (.int (x - y)) H
 | .FloorDiv=>ii a b fun x y=>(0 < y∧y < small)∧K (.int (x.fdiv y)) H
 | .Mod=>ii a b fun x y=>(0 < y∧y < small)∧K (.int (x.fmod y)) H
 | .Pow=>ii a b fun x y=>(0≤x∧x < 1024∧0≤y∧y < 1024)∧K (.int (x ^ y.toNat)) H
 | .BitAnd=>ii a b fun x y=>K (.int (Builtin.bitAnd x y)) H
 | .BitOr=>ii a b fun x y=>K (.int (Builtin.bitOr x y)) H
 | .RShift=>ii a b fun x y=>0≤y∧K (.int (x.fdiv (2 ^ y.toNat))) H
 | _=>False
noncomputable def dataOf (H:Hp):Nat→V→Option PyData
 | 0,_=>none
 | n + 1, x => match x with
   | .int a=>some (.int a)
   | .str a=>some (.str a)
   | .tup xs=>(datasOf (dataOf H n) xs).map .tuple
   | .obj a => match H a with
     | some (.list xs)=>(datasOf (dataOf H n) xs).map .list
     | _=>none
   | _=>none
where
 datasOf (f:V→Option PyData):List V→Option (List PyData)
 | []=>some []
 | x :: xs => match f x, datasOf f xs with
   | some d,some ds=>some (d::ds)
   | _,_=>none
theorem datas_cons {f:V→Option PyData} {x:V} {xs:List V} {d:PyData} {ds:List PyData} (h1:f x=some d) (h2:dataOf.datasOf f xs=some ds):dataOf.datasOf f (x::xs)=some (d::ds):=by
 refine (?_:(match f x,dataOf.datasOf f xs with
  | some d,some ds=>some (d::ds)
  | _,_=>none)=_)
 rw [h1,h2]
noncomputable def strsOf:List V→Option (List Str)
 | []=>some []
 | .str s::r=>(strsOf r).map (s::·)
 | _::_=>none
noncomputable def slt (a b:Str):Bool:=decide (a.cps.toList < b.cps.toList)
noncomputable def matRow (p:Int×Int×Int):V:=.mat [.int p.1,.int p.2.1,.int p.2.2]
noncomputable def tupRow (p:Int×Int×Int):V:=.tup [.int p.1,.int p.2.1,.int p.2.2]
def wEq (a b:V) (H:Hp) (K:KV):Prop:=match a,b with
 | .int x,.int y=>K (.bool (x==y)) H
 | .str x,.str y=>K (.bool (x==y)) H
 | .obj x,.obj y=>∃ da db,dataOf H 3 (.obj x)=some da∧dataOf H 3 (.obj y)=some db∧da.canLay0=true∧db.canLay0=true∧min da.depth db.depth≤16∧K (.bool (PyData.eqv da db)) H
 | _,_=>False
def wNe (a b:V) (H:Hp) (K:KV):Prop:=match a,b with
 | .int x,.int y=>K (.bool (!(x==y))) H
 | .obj x, .obj y => (∃ da db, dataOf H 3 (.obj x) = some da ∧ dataOf H 3 (.obj y) = some db ∧ da.canLay0 = true ∧ db.canLay0 = true ∧ min da.depth db.depth ≤ 16 ∧ K (.bool (!PyData.eqv da db)) H) ∨
   (∃ rows:List (Int×Int×Int),H x=some (.list (rows.map matRow))∧H y=some (.list (rows.map tupRow))∧rows.length≤100∧K (.bool false) H)
 | _,_=>False
noncomputable def strV:V→Option Str
 | .str x=>some x
 | _=>none
noncomputable def pair2:Option Str→Option Str→Option (Str×Str)
 | some x,some y=>some (x,y)
 | _,_=>none
noncomputable def ss2:V→Option (Str×Str)
 | .tup [a,b]=>pair2 (strV a) (strV b)
 | _=>none
def wLt (a b:V) (H:Hp) (K:KV):Prop:=match a,b with
 | .int x,.int y=>K (.bool (decide (x < y))) H
 | .tup xs, .tup ys => match ss2 (.tup xs), ss2 (.tup ys) with
   | some (x,u),some (y,v)=>K (.bool (if x==y then (if u==v then false else slt u v) else slt x y)) H
   | _,_=>False
 | _,_=>False
def wIn (a b:V) (H:Hp) (P:Bool→Prop):Prop:=match a,b with
 | .str x,.obj a=>∃ xs ss,H a=some (.list xs)∧strsOf xs=some ss∧P (ss.any (·==x))
 | _,_=>False
def wIs (a b:V) (P:Bool→Prop):Prop:=match b with
 | .none => match a with
   | .none=>P true
   | .int _=>P false
   | .obj _=>P false
   | _=>False
 | _=>False
def wCmp (op:CmpOp) (a b:V) (H:Hp) (K:KV):Prop:=match op with
 | .Eq=>wEq a b H K
 | .NotEq=>wNe a b H K
 | .Lt=>wLt a b H K
 | .Gt=>ii a b fun x y=>K (.bool (decide (y < x))) H
 | .LtE=>ii a b fun x y=>K (.bool (decide (x≤y))) H
 | .GtE=>ii a b fun x y=>K (.bool (decide (y≤x))) H
 | .In=>wIn a b H fun c=>K (.bool c) H
 | .NotIn=>wIn a b H fun c=>K (.bool (!c)) H
 | .Is=>wIs a b fun c=>K (.bool c) H
 | .IsNot=>wIs a b fun c=>K (.bool (!c)) H
noncomputable def truthV (H:Hp):V→Option Bool
 | .none=>some false
 | .bool b=>some b
 | .int i=>some (!(i==0))
 | .obj a => match H a with
   | some (.list xs)=>if xs.length≤4096 then some (!xs.isEmpty) else none
   | _=>none
 | _=>none
def wGet (o i:V) (H:Hp) (K:KV):Prop:=match o,i with
 | .obj a,.int k=>∃ xs j v,H a=some (.list xs)∧(-small < k∧k < small)∧seqIndex? k xs.length=some j∧xs[j]?=some v∧K v H
 | .tup xs,.int k=>∃ j v,(-small < k∧k < small)∧seqIndex? k xs.length=some j∧xs[j]?=some v∧K v H
 | .str s,.int k=>∃ c,0≤k∧k < small∧s.cps[k.toNat]?=some c∧K (.str ⟨#[c]⟩) H
 | _,_=>False
def wPut (o i v:V) (H:Hp) (K:Hp→Prop):Prop:=match o,i with
 | .obj a, .int k => (∃ xs j, H a = some (.list xs) ∧ (-small < k ∧ k < small) ∧ seqIndex? k xs.length = some j ∧ K (H.set a (.list (xs.set j v)))) ∨
   (∃ kvs,H a=some (.dI kvs)∧kvs.length≤4096∧K (H.set a (.dI (putK kvs k v))))
 | _,_=>False
def wPutA (o:V) (name:Str) (v:V) (H:Hp) (K:Hp→Prop):Prop:=match o with
 | .obj a=>∃ d kvs,attrs.contains name=true∧H a=some (.inst d)∧H d=some (.ns kvs)∧kvs.length≤100∧K (H.set d (.ns (putK kvs name v)))
 | _=>False
noncomputable def itemsV:V→Option (List V)
 | .tup xs=>some xs
 | .mat xs=>some xs
 | _=>none
section
variable (S:Sy) (sc:Scope)
noncomputable def nameV (loc:Loc) (x:Str):Option V:=match sc.names.lookup x with
 | some .local=>loc.get x
 | some .cell=>loc.get x
 | some .globalImplicit=>S.G x
 | _=>none
mutual
noncomputable def wE:Expr→Loc→Hp→KV→Prop
 | .Constant c _ _, _, H, K => match c with
   | .none=>K .none H
   | .bool b=>K (.bool b) H
   | .int i=>K (.int i) H
   | .str s=>K (.str s) H
   | _=>False
 | .Name x _,loc,H,K=>∃ v,nameV S sc loc x=some v∧K v H
 | .BinOp l op r _,loc,H,K=>wE l loc H fun a H₁=>wE r loc H₁ fun b H₂=>wBin op a b H₂ K
 | .UnaryOp .USub (.Constant (.int i) _ _) _,_,H,K=>K (.int (-i)) H
 | .Compare l [op] [r] _,loc,H,K=>notSet r=true∧wE l loc H fun a H₁=>wE r loc H₁ fun b H₂=>wCmp op a b H₂ K
 | .IfExp t b o _,loc,H,K=>wT t loc (fun H K=>wE t loc H K) H fun x H₁=>(x=true→wE b loc H₁ K)∧(x=false→wE o loc H₁ K)
 | .Call (.Name x p) args [] p',loc,H,K=>if special (.Call (.Name x p) args [] p')=true then S.L sc (.Call (.Name x p) args [] p') loc H K else ∃ f,nameV S sc loc x=some f∧args.all notStar=true∧args.length≤20∧wEs args loc H fun vs H₁=>S.C f vs H₁ K
 | .ListComp e g c p,loc,H,K=>S.L sc (.ListComp e g c p) loc H K
 | .Subscript o (.Slice none (some u) none p) p',loc,H,K=>S.L sc (.Subscript o (.Slice none (some u) none p) p') loc H K
 | .Call (.Attribute o name apos) args [] pos,loc,H,K=>baseOk o=true∧apos.endLine=pos.line∧args.all notStar=true∧args.length≤20∧wE o loc H fun ov H₁=>∃ f,calleeM S.cl H₁ name ov f∧wEs args loc H₁ fun vs H₂=>S.C f (ov::vs) H₂ K
 | .Attribute o name _,loc,H,K=>baseOk o=true∧wE o loc H fun ov H₁=>wAttr H₁ name K ov
 | .Subscript o (.Slice (some l) (some u) none _) _, loc, H, K => wE o loc H fun ov H₁ => wE l loc H₁ fun lv H₂ => wE u loc H₂ fun uv H₃ =>
   ∃ a xs i j,ov=.obj a∧H₃ a=some (.list xs)∧lv=.int i∧uv=.int j∧0≤i∧i≤j∧j≤xs.length∧xs.length≤4096∧∀ c,H₃ c=none→K (.obj c) (H₃.set c (.list ((xs.drop i.toNat).take (j - i).toNat)))
 | .Subscript o i _,loc,H,K=>wE o loc H fun ov H₁=>wE i loc H₁ fun iv H₂=>wGet ov iv H₂ K
 | .List es _,loc,H,K=>wEs es loc H fun vs H₁=>vs.length≤4096∧∀ a,H₁ a=none→K (.obj a) (H₁.set a (.list vs))
 | .Tuple es _ _,loc,H,K=>wEs es loc H fun vs H₁=>vs.length≤4096∧K (.tup vs) H₁
 | .Dict [] [] _,_,H,K=>(∀ a,H a=none→K (.obj a) (H.set a (.dS [])))∨(∀ a,H a=none→K (.obj a) (H.set a (.dI [])))
 | _,_,_,_=>False
noncomputable def wT:Expr→Loc→(Hp→KV→Prop)→Hp→KB→Prop
 | .UnaryOp .Not x _,loc,_,H,K=>wT x loc (fun H K=>wE x loc H K) H fun b H₁=>K (!b) H₁
 | .BoolOp op vs _,loc,_,H,K=>wAll op vs loc H K
 | .Compare l [op] [r] _,loc,_,H,K=>notSet r=true∧wE l loc H fun a H₁=>wE r loc H₁ fun b H₂=>wCmp op a b H₂ fun c H₃=>∃ b,c=.bool b∧K b H₃
 | .IfExp ..,_,_,_,_=>False
 | .Compare ..,_,_,_,_=>False
 | _,_,whole,H,K=>whole H fun v H₁=>∃ b,truthV H₁ v=some b∧K b H₁
noncomputable def wEs:List Expr→Loc→Hp→(List V→Hp→Prop)→Prop
 | [],_,H,K=>K [] H
 | .Starred ..::_,_,_,_=>False
 | e::r,loc,H,K=>wE e loc H fun v H₁=>wEs r loc H₁ fun vs H₂=>K (v::vs) H₂
noncomputable def wAll:BoolOp→List Expr→Loc→Hp→KB→Prop
 | .And,[],_,H,K=>K true H
 | .Or,[],_,H,K=>K false H
 | .And,x::r,loc,H,K=>wT x loc (fun H K=>wE x loc H K) H fun b H₁=>(b=true→wAll .And r loc H₁ K)∧(b=false→K false H₁)
 | .Or,x::r,loc,H,K=>wT x loc (fun H K=>wE x loc H K) H fun b H₁=>(b=true→K true H₁)∧(b=false→wAll .Or r loc H₁ K)
end
noncomputable def putNames:List Expr→List V→Loc→Option Loc
 | [],[],loc=>some loc
 | .Name x _::ts,v::vs,loc=>if sc.names.lookup x=some .local then putNames ts vs (loc.put x v) else none
 | _,_,_=>none
noncomputable def wA:Expr→V→Loc→Hp→(Loc→Hp→Prop)→Prop
 | .Name x _,v,loc,H,K=>sc.names.lookup x=some .local∧K (loc.put x v) H
 | .Tuple ts _ _,v,loc,H,K=>∃ xs loc',itemsV v=some xs∧putNames sc ts xs loc=some loc'∧K loc' H
 | .Subscript o i _,v,loc,H,K=>wE S sc o loc H fun ov H₁=>wE S sc i loc H₁ fun iv H₂=>wPut ov iv v H₂ fun H₃=>K loc H₃
 | .Attribute o name _,v,loc,H,K=>wE S sc o loc H fun ov H₁=>wPutA ov name v H₁ fun H₂=>K loc H₂
 | _,_,_,_,_=>False
noncomputable def wAs:List Expr→V→Loc→Hp→(Loc→Hp→Prop)→Prop
 | [],_,loc,H,K=>K loc H
 | t::r,v,loc,H,K=>wA S sc t v loc H fun loc₁ H₁=>wAs r v loc₁ H₁ K
noncomputable def tupEs:Expr→Option (List Expr)
 | .Tuple vs _ _=>some vs
 | _=>none
noncomputable def swapOk:List Expr→Expr→Bool
 | [t], e => !(t.ctorIdx.beq 24) && (!(t.ctorIdx.beq 25) || match tupEs e with
   | some vs=>!(vs.all (constantsAlone 8))||vs.all (foldedForSure 8)
   | none=>true)
 | _,_=>true
noncomputable def wItems (g:Hp→Prop) (P:V→Loc→Hp→KS→Prop) (fin:Loc→Hp→KS→Prop):List V→Loc→Hp→KS→Prop
 | [],loc,H,K=>g H∧fin loc H K
 | x :: r, loc, H, K => g H ∧ P x loc H fun fl loc₁ H₁ => match fl with
   | .next=>wItems g P fin r loc₁ H₁ K
   | .cont=>wItems g P fin r loc₁ H₁ K
   | .brk=>K .next loc₁ H₁
   | .ret v=>K (.ret v) loc₁ H₁
noncomputable def wWh (T:Loc→Hp→KB→Prop) (P:Loc→Hp→KS→Prop):Nat→Loc→Hp→KS→Prop
 | 0,_,_,_=>False
 | n + 1, loc, H, K => T loc H fun b H₁ => (b = false → K .next loc H₁) ∧ (b = true → P loc H₁ fun fl loc₂ H₂ => match fl with
   | .next=>wWh T P n loc₂ H₂ K
   | .cont=>wWh T P n loc₂ H₂ K
   | .brk=>K .next loc₂ H₂
   | .ret v=>K (.ret v) loc₂ H₂)
noncomputable def upFrom (i:Int):Nat→List V
 | 0=>[]
 | k+1=>.int i::upFrom (i+1) k
noncomputable def pairsFrom (i:Int):List V→List V
 | []=>[]
 | x::r=>.tup [.int i,x]::pairsFrom (i+1) r
noncomputable def isTupE:Expr→Bool
 | .Tuple ..=>true
 | _=>false
noncomputable def enumOk (t it:Expr):Bool:=match it with
 | .Call (.Name x _) [_] [] _=>if x=("enumerate" : Str) then isTupE t else true
 | _=>true
def wIter (it:Expr) (loc:Loc) (H:Hp) (K:List V→(Hp→Prop)→Hp→Prop):Prop:=match it with
 | .Call (.Name x _) [e] [] _ => if x = ("range" : Str) then notStar e = true ∧ S.G "range" = some (.lit (.type "range")) ∧ sc.names.lookup x = some .globalImplicit ∧ wE S sc e loc H fun v H₁ => ∃ n, v = .int n ∧ -small < n ∧ n < small ∧ K (upFrom 0 n.toNat) (fun Z => True) H₁
   else if x=("enumerate" : Str) then notStar e=true∧S.G "enumerate" = some (.lit (.type "enumerate"))∧sc.names.lookup x=some .globalImplicit∧wE S sc e loc H fun v H₁ =>
    (∃ a xs,v=.obj a∧H₁ a=some (.list xs)∧K (pairsFrom 0 xs) (fun H=>H a=some (.list xs)) H₁)∨(∃ xs,v=.tup xs∧K (pairsFrom 0 xs) (fun Z=>True) H₁)
   else False
 | .Call (.Name x _) [e, e'] [] _ => if x = ("range" : Str) then notStar e = true ∧ notStar e' = true ∧ S.G "range" = some (.lit (.type "range")) ∧ sc.names.lookup x = some .globalImplicit ∧ wE S sc e loc H fun v H₁ => wE S sc e' loc H₁ fun v' H₂ => ∃ n n', v = .int n ∧ v' = .int n' ∧ -small < n ∧ n < small ∧ -small < n' ∧ n' < small ∧ K (upFrom n (n' - n).toNat) (fun Z => True) H₂
   else False
 | e=>wE S sc e loc H fun v H₁=>(∃ a xs,v=.obj a∧H₁ a=some (.list xs)∧K xs (fun H=>H a=some (.list xs)) H₁)∨(∃ xs,v=.tup xs∧K xs (fun Z=>True) H₁)
mutual
noncomputable def wS:Stmt→Loc→Hp→KS→Prop
 | .Expr (.Constant (.str _) _ _) _,loc,H,K=>K .next loc H
 | .Expr (.ListComp ..) _,_,_,_=>False
 | .Expr e _,loc,H,K=>wE S sc e loc H fun Z H₁=>K .next loc H₁
 | .Pass _,loc,H,K=>K .next loc H
 | .Break _,loc,H,K=>K .brk loc H
 | .Continue _,loc,H,K=>K .cont loc H
 | .Return none _,loc,H,K=>K (.ret .none) loc H
 | .Return (some e) _,loc,H,K=>wE S sc e loc H fun v H₁=>K (.ret v) loc H₁
 | .Assign ts e p,loc,H,K=>if isComp e=true then S.LS sc (.Assign ts e p) loc H K else swapOk ts e=true∧wE S sc e loc H fun v H₁=>wAs S sc ts v loc H₁ fun loc₂ H₂=>K .next loc₂ H₂
 | .AugAssign (.Name x _) op e _,loc,H,K=>∃ v,sc.names.lookup x=some .local∧loc.get x=some v∧wE S sc e loc H fun u H₁=>(op=.Add∨op=.Sub)∧∃ i j,v=.int i∧u=.int j∧wBin op (.int i) (.int j) H₁ fun r H₂=>K .next (loc.put x r) H₂
 | .If t b o _,loc,H,K=>wT S sc t loc (fun H K=>wE S sc t loc H K) H fun x H₁=>(x=true→wSs b loc H₁ K)∧(x=false→wSs o loc H₁ K)
 | .While t b [] _,loc,H,K=>∃ n,wWh (fun loc H K=>wT S sc t loc (fun H K=>wE S sc t loc H K) H K) (fun loc H K=>wSs b loc H K) n loc H K
 | .For t it b o _,loc,H,K=>notSet it=true∧enumOk t it=true∧wIter S sc it loc H fun xs g H₁=>wItems g (fun x loc H K=>wA S sc t x loc H fun loc₁ H₁=>wSs b loc₁ H₁ K) (fun loc H K=>wSs o loc H K) xs loc H₁ K
 | _,_,_,_=>False
noncomputable def wSs:List Stmt→Loc→Hp→KS→Prop
 | [],loc,H,K=>K .next loc H
 | s :: r, loc, H, K => wS s loc H fun fl loc₁ H₁ => match fl with
   | .next=>wSs r loc₁ H₁ K
   | f=>K f loc₁ H₁
end
end
noncomputable abbrev TI.M (T:TI):Model:=model T.prog T.w
def Rm (n:Nat) (A:Around):Prop:=A.handled=none∧A.depth+4 * n < recursionLimit∧A.units+32 * n < cLine
theorem Rm.h {n:Nat} {A:Around} (r:Rm n A):A.handled=none:=r.1
theorem Rm.le {n m:Nat} {A:Around} (r:Rm n A) (h:m≤n):Rm m A:=⟨r.1,Nat.lt_of_le_of_lt (Nat.add_le_add_left (Nat.mul_le_mul_left 4 h) _) r.2.1,Nat.lt_of_le_of_lt (Nat.add_le_add_left (Nat.mul_le_mul_left 32 h) _) r.2.2⟩
theorem Rm.dep {n:Nat} {A:Around} (r:Rm n A):A.depth < recursionLimit:=Nat.lt_of_le_of_lt (Nat.le_add_right _ _) r.2.1
theorem rm_add {a b c d k n:Nat} (h:b+c * (n+k) < d) (q:a≤b+c * k):a+c * n < d :=
 Nat.lt_of_le_of_lt (Nat.le_trans (Nat.add_le_add_right q _) (Nat.le_of_eq ((Nat.add_assoc _ _ _).trans (congrArg (b+·) ((Nat.mul_add c k n).symm.trans (congrArg (c * ·) (Nat.add_comm k n))))))) h
theorem Rm.sub {n:Nat} {A A':Around} (k:Nat) (r:Rm (n+k) A) (hh:A'.handled=none) (d:A'.depth≤A.depth+4 * k) (u:A'.units≤A.units+32 * k):Rm n A':=⟨hh,rm_add r.2.1 d,rm_add r.2.2 u⟩
def Goes (T:TI) (H:Hp) (s:Shared) (K:KV) (Q:Value→Shared→Prop):Prop :=
 ∀ x H' v s',K x H'→Rel T H' s'→VR T s'.heap x v→Ev H s.heap H' s'.heap→Q v s'
def GoesB (T:TI) (H:Hp) (s:Shared) (K:KB) (Q:Bool→Shared→Prop):Prop :=
 ∀ b H' s',K b H'→Rel T H' s'→Ev H s.heap H' s'.heap→Q b s'
theorem Goes.after {T:TI} {H H₁:Hp} {s s₁:Shared} {K:KV} {Q:Value→Shared→Prop} (g:Goes T H s K Q) (e:Ev H s.heap H₁ s₁.heap):Goes T H₁ s₁ K Q :=
 fun x H' v s' k r vr e'=>g x H' v s' k r vr (e.trans e')
theorem GoesB.after {T:TI} {H H₁:Hp} {s s₁:Shared} {K:KB} {Q:Bool→Shared→Prop} (g:GoesB T H s K Q) (e:Ev H s.heap H₁ s₁.heap):GoesB T H₁ s₁ K Q :=
 fun b H' s' k r e'=>g b H' s' k r (e.trans e')
def SoundC (T:TI) (C:CS) (n:Nat):Prop:=∀ A,Rm n A→∀ f args H K,C f args H K→∀ s fv vs,Rel T H s→VR T s.heap f fv→VRs T s.heap args vs→∀ Q E,Goes T H s K Q→wpAny T.M A (call fv vs) Q E s
abbrev SoundS (T:TI) (S:Sy) (n:Nat):Prop:=S.r≤n∧SoundC T S.C n
def KeepOk (T:TI) (s:Shared) (fv:Value):Prop:=∀ A (Q:Keeper→Shared→Prop) (E:Value→Shared→Prop),(∀ k,k≠Keeper.boundFrame→Q k s)→wpAny T.M A (keeperOf fv) Q E s
def seqV (H:Hp) (o:V):Prop:=(∃ a xs,o=.obj a∧H a=some (.list xs))∨(∃ xs,o=.tup xs)∨∃ x,o=.str x
theorem seqV_of {o i:V} {H:Hp} {K:KV} (h:wGet o i H K):seqV H o:=by
 cases o with
 | obj a =>
   cases i with
   | int k=>obtain ⟨xs,_,_,h,_⟩:=h;exact .inl ⟨_,_,rfl,h⟩
   | _=>exact False.elim h
 | tup xs=>exact .inr (.inl ⟨_,rfl⟩)
 | str x=>exact .inr (.inr ⟨_,rfl⟩)
 | _=>exact False.elim h
structure ScOk (sc:Scope):Prop where
 kind:sc.kind=.function
 debug:sc.names.lookup ("__debug__" : Str)=none
structure EnvOk (env:Env):Prop extends ScOk env.scope where
 glob:env.globals=mainGlobals
 bltn:env.builtins=builtinsNs
structure Prims (T:TI) (S:Sy):Prop where
 glob:∀ x v,S.G x=some v→∀ A H s,Rel T H s→∀ (env:Env),env.globals=mainGlobals→env.builtins=builtinsNs→∀ Q E,(∀ u,VR T s.heap v u→Q u s)→wpAny T.M A (loadGlobal env x) Q E s
 keeper:∀ f args H K,S.C f args H K→∀ s fv,Rel T H s→VR T s.heap f fv→KeepOk T s fv
 bin:∀ A,Rm 1 A→∀ op a b H K,wBin op a b H K→∀ s va vb,Rel T H s→VR T s.heap a va→VR T s.heap b vb→∀ Q E,Goes T H s K Q→wpAny T.M A (binaryOp op va vb) Q E s
 ibin:∀ A,Rm 1 A→∀ op i j H K,op=.Add∨op=.Sub→wBin op (.int i) (.int j) H K→∀ s va vb,Rel T H s→VR T s.heap (.int i) va→VR T s.heap (.int j) vb→∀ Q E,Goes T H s K Q→wpAny T.M A (inplaceOp op va vb) Q E s
 cmp:∀ A,Rm 1 A→∀ op a b H K,wCmp op a b H K→∀ s va vb,Rel T H s→VR T s.heap a va→VR T s.heap b vb→∀ Q E,Goes T H s K Q→wpAny T.M A (compareOp op va vb) Q E s
 inPy:∀ A o H,seqV H o→∀ s vo,Rel T H s→VR T s.heap o vo→∀ Q E,Q false s→wpAny T.M A (getitemInPython vo) Q E s
 get:∀ A,Rm 1 A→∀ o i H K,wGet o i H K→∀ s vo vi,Rel T H s→VR T s.heap o vo→VR T s.heap i vi→∀ Q E,Goes T H s K Q→wpAny T.M A (getItem vo vi) Q E s
 put:∀ A,Rm 1 A→∀ o i x H K,wPut o i x H K→∀ s vo vi vx,Rel T H s→VR T s.heap o vo→VR T s.heap i vi→VR T s.heap x vx→∀ Q E,
  (∀ H' s',K H'→Rel T H' s'→Ev H s.heap H' s'.heap→Q () s')→wpAny T.M A (setItem vo vi vx) Q E s
 putA:∀ A,Rm 1 A→∀ o name x H K,wPutA o name x H K→∀ s vo vx,Rel T H s→VR T s.heap o vo→VR T s.heap x vx→∀ Q E,
  (∀ H' s',K H'→Rel T H' s'→Ev H s.heap H' s'.heap→Q () s')→wpAny T.M A (setAttr vo name vx) Q E s
 attr:∀ A,Rm 1 A→∀ o name H K,wAttr H name K o→∀ s vo,Rel T H s→VR T s.heap o vo→∀ Q E,Goes T H s K Q→wpAny T.M A (getAttr vo name true) Q E s
 slice:∀ A,Rm 1 A→∀ a xs i j H K,H a=some (.list xs)→0≤i→i≤j→j≤(xs.length:Int)→xs.length≤4096→(∀ c,H c=none→K (.obj c) (H.set c (.list ((xs.drop i.toNat).take (j - i).toNat)))) →
  ∀ s sl ti tj,Rel T H s→s.heap.IsSliceOf sl (.int i ti) (.int j tj) .none→∀ Q E,Goes T H s K Q→wpAny T.M A (getItem (.ref a) (.ref sl)) Q E s
 meth:∀ A,Rm 1 A→∀ o name H f,calleeM S.cl H name o f→∀ s vo,Rel T H s→VR T s.heap o vo→∀ pl Q E,(∀ fv,VR T s.heap f fv→Q (fv,[vo]) s)→wpAny T.M A (getMethod vo name pl) Q E s
 ext:∀ A,Rm (S.r+1) A→∀ env,EnvOk env→∀ e loc H K,S.L env.scope e loc H K→∀ s,Rel T H s→Frm T env loc H s.heap→∀ Q E,Goes T H s K Q→wpAny T.M A (eval e env) Q E s
 truth:∀ A,Rm 1 A→∀ x H b,truthV H x=some b→∀ s v,Rel T H s→VR T s.heap x v→∀ Q E,(∀ tk,Q b { s with toks:=tk })→wpAny T.M A (truthy v) Q E s
theorem ScOk.ne {sc:Scope} (o:ScOk sc) {x:Str} {k:NameKind} (e:sc.names.lookup x=some k):(x==("__debug__" : Str))=false:=by
 cases q:(x==("__debug__" : Str)) with
 | false=>rfl
 | true=>rw [eq_of_beq q,o.debug] at e;cases e
theorem attributeBase_ok {o:Expr} (h:baseOk o=true) (name:Str) (env:Env) (t:Sem Value):attributeBase o name env t=t:=by
 cases o with
 | Call f a k p =>
   cases a with
   | nil=>cases h
   | cons=>cases f <;> rfl
 | _=>rfl
theorem wpAny_Slice2 {M : Model} {A : Around} {E : Value → Shared → Prop} {s : Shared} {env : Env} {l u : Expr} {p : Pos} {Q : Value → Shared → Prop}
  (h:wpAny M A (eval l env) (fun lv s₁=>wpAny M A (eval u env) (fun uv s₂=>Q (.ref s₂.heap.objs.size) { s₂ with heap:=s₂.heap.push { cls:=.type "slice",data:=.fields #[lv,uv,.none] } }) E s₁) E s) :
  wpAny M A (eval (.Slice (some l) (some u) none p) env) Q E s:=by
 rw [arm_eval_Slice]
 refine wpAny_bind (m:=eval l env) (wpAny_mono h (fun lv s₁ h₁=>?_) fun Z Z x=>x)
 refine wpAny_bind (wpAny_holding (wpAny_mono h₁ (fun uv s₂ h₂=>?_) fun Z Z x=>x))
 refine wpAny_bind (wpAny_holding (wpAny_pure ?_))
 exact wpAny_newObj_type h₂ (by size_fits)
theorem nameV_inv {S:Sy} {sc:Scope} {loc:Loc} {x:Str} {v:V} {P:Prop} (e:nameV S sc loc x=some v) (h1:sc.names.lookup x=some .local→loc.get x=some v→P) (h2:sc.names.lookup x=some .cell→loc.get x=some v→P) (h3:sc.names.lookup x=some .globalImplicit→S.G x=some v→P):P:=by
 unfold nameV at e
 cases q:sc.names.lookup x with
 | none=>rw [q] at e;exact nomatch e
 | some k=>rw [q] at e;cases k <;> first | exact h1 q e | exact h2 q e | exact h3 q e | exact nomatch e
theorem sName {T : TI} {S : Sy} (P : Prims T S) {A : Around} {env : Env} (hsc : EnvOk env) {x : Str} {p : Pos} {loc : Loc} {H : Hp} {v : V} (e : nameV S env.scope loc x = some v) {s : Shared} (R : Rel T H s) (F : Frm T env loc H s.heap) {Q : Value → Shared → Prop} {E : Value → Shared → Prop}
  (g:∀ u,VR T s.heap v u→Q u s):wpAny T.M A (eval (.Name x p) env) Q E s:=by
 refine nameV_inv e (fun hl e=>?_) (fun hl e=>?_) fun hl e=>Calls.Name_function_global (env:=env) hsc.kind hl (P.glob x v e A H s R _ hsc.glob hsc.bltn Q E g) (hsc.toScOk.ne hl)
 ·obtain ⟨m,hn,hm⟩:=F.ns
  obtain ⟨u,hu,vu⟩:=hm x v e hl
  exact wpAny_Name (wpAny_loadName_local (env:=env) hsc.kind hl hn hu (g u vu)) (hsc.toScOk.ne hl)
 ·obtain ⟨c,u,hc,ho,vu,_⟩:=F.cel x v e hl
  exact wpAny_Name (wpAny_loadName_cell hsc.kind hl hc ho (g u vu)) (hsc.toScOk.ne hl)
theorem sNameL {T : TI} {S : Sy} (P : Prims T S) {A : Around} {env : Env} (hsc : EnvOk env) {x : Str} {p : Pos} {loc : Loc} {H : Hp} {c : Value} (e : nameV S env.scope loc x = some (.lit c)) {s : Shared} (R : Rel T H s) (F : Frm T env loc H s.heap) {Q : Value → Shared → Prop} {E : Value → Shared → Prop}
  (g:Q c s):wpAny T.M A (eval (.Name x p) env) Q E s:=sName P hsc e R F fun Z vu=>vu.iL▸g
theorem sNameO {T : TI} {S : Sy} (P : Prims T S) {A : Around} {env : Env} (hsc : EnvOk env) {x : Str} {p : Pos} {loc : Loc} {H : Hp} {a : Addr} (e : nameV S env.scope loc x = some (.obj a)) {s : Shared} (R : Rel T H s) (F : Frm T env loc H s.heap) {Q : Value → Shared → Prop} {E : Value → Shared → Prop}
  (g:Q (.ref a) s):wpAny T.M A (eval (.Name x p) env) Q E s:=sName P hsc e R F fun Z vu=>vu.iO▸g
section
variable {T:TI} {S:Sy} {n:Nat} (P:Prims T S) (HC:SoundS T S n) {A:Around} (HA:Rm (n+1) A) {env:Env} (hsc:EnvOk env) {E:Value→Shared→Prop}
include P HC HA hsc
theorem soundName {x : Str} {p : Pos} {loc : Loc} {H : Hp} {v : V} (e : nameV S env.scope loc x = some v) {s : Shared} (R : Rel T H s) (F : Frm T env loc H s.heap) {Q : Value → Shared → Prop}
  (g:∀ u,VR T s.heap v u→Q u s):wpAny T.M A (eval (.Name x p) env) Q E s:=sName P hsc e R F g
theorem nameL {x : Str} {p : Pos} {loc : Loc} {H : Hp} {c : Value} (e : nameV S env.scope loc x = some (.lit c)) {s : Shared} (R : Rel T H s) (F : Frm T env loc H s.heap) {Q : Value → Shared → Prop}
  (g:Q c s):wpAny T.M A (eval (.Name x p) env) Q E s:=sNameL P hsc e R F g
theorem nameO {x : Str} {p : Pos} {loc : Loc} {H : Hp} {a : Addr} (e : nameV S env.scope loc x = some (.obj a)) {s : Shared} (R : Rel T H s) (F : Frm T env loc H s.heap) {Q : Value → Shared → Prop}
  (g:Q (.ref a) s):wpAny T.M A (eval (.Name x p) env) Q E s:=sNameO P hsc e R F g
theorem callWith_V {pos : Pos} {f : V} {fv : Value} {first : List Value} {trees : List (Bool × Sem Value)} (hst : trees.any (·.1) = false) (hlen : trees.length ≤ 20) {s : Shared} {Q : Value → Shared → Prop}
  (h:wpAny T.M A (evalArgs fv true trees []) (fun a s₁=>a.kw=[]∧KeepOk T s₁ fv∧wpAny T.M A (call fv (first++a.pos)) Q E s₁) E s) :
  wpAny T.M A (callWith pos fv first trees []) Q E s:=by
 unfold callWith
 refine wpAny_bind (wpAny_holding (wpAny_mono h (fun a s₁ h₁=>wpAny_bind (wpAny_standAt ?_)) fun Z Z x=>x))
 obtain ⟨hkw,hk,hc⟩:=h₁
 have tail:∀ {t:Sem Value},wpAny T.M A t Q E s₁→wpAny T.M A (t >>= fun r=>holding [r] point >>= fun Z=>pure r) Q E s₁ :=
  fun ht=>wpAny_bind (wpAny_mono ht (fun r s₂ hr=>wpAny_bind (wpAny_holding (wpAny_point (wpAny_pure hr)))) fun Z Z x=>x)
 rw [hst,hkw]
 refine wpAny_bind (hk A _ E fun k hkb=>?_)
 have hl30:¬ (trees.length+2 * ([]:List (Option Str×Sem Value)).length > 30):=Nat.not_lt.mpr (Nat.le_trans hlen (by decide))
 cases k with
 | boundFrame=>exact absurd rfl hkb
 | frame =>
   refine (?_:wpAny T.M A (if trees.length+2 * ([]:List (Option Str×Sem Value)).length > 30 then call fv (first++a.pos) [] >>= fun r=>holding [r] point >>= fun Z=>pure r else callMarked plainCall fv (first++a.pos) [] >>= fun r=>holding [r] point >>= fun Z=>pure r) Q E s₁)
   rw [if_neg hl30]
   exact tail (by unfold callMarked;exact wpAny_keep hc)
 | machine=>exact tail hc
 | caller=>exact tail (wpAny_operating hc)
omit P HC HA hsc in
theorem starEach_ok {env:Env} {e:Expr} {r:List Expr} (h:notStar e=true):starEach (e::r) env=(false,eval e env)::starEach r env:=by
 cases e <;> first | rfl | cases h
omit P HC HA hsc in
theorem trees_ok {env:Env} {pos:Pos}:∀ {es:List Expr},es.all notStar=true→(backTo pos (starEach es env)).any (·.1)=false∧(backTo pos (starEach es env)).length=es.length
 | [],_=>⟨rfl,rfl⟩
 | e :: r, h => by
   rw [List.all_cons,Bool.and_eq_true] at h
   rw [starEach_ok h.1]
   have:=trees_ok (env:=env) (pos:=pos) h.2
   constructor
   ·show (false||(backTo pos (starEach r env)).any (·.1))=false
    rw [this.1];rfl
   ·show (backTo pos (starEach r env)).length+1=r.length+1
    exact this.2.symm▸rfl
omit P HC HA hsc in
theorem evalArgs_V {M : Model} {env : Env} {pos : Pos} {f : Value} {s : Shared} : ∀ {es : List Expr}, es.all notStar = true → ∀ {Q : Args → Shared → Prop},
  wpAny M A (spliced (backTo pos (starEach es env))) (fun vs s'=>Q ⟨vs,[]⟩ s') E s→wpAny M A (evalArgs f true (backTo pos (starEach es env)) []) Q E s
 | [], _, Q, h => by
   unfold evalArgs
   refine wpAny_bind (wpAny_mono (Q:=fun vs s'=>Q ⟨vs,[]⟩ s') h (fun vs s' h'=>?_) fun Z Z x=>x)
   refine wpAny_bind (wpAny_pure ?_)
   refine wpAny_holding ?_
   exact wpAny_bind (wpAny_pure (wpAny_bind (wpAny_pure (wpAny_pure h'))))
 | e :: r, h, Q, g => by
   rw [List.all_cons,Bool.and_eq_true] at h
   rw [starEach_ok h.1] at g ⊢
   exact evalArgs_plain g
omit P HC HA hsc in
theorem subscripted_false (sl:Expr) (o i:Value):∃ vs,subscripted sl false o i=operate vs (getItem o i):=by
 cases sl with
 | Slice l u st p=>cases st <;> exact ⟨_,rfl⟩
 | _=>exact ⟨_,rfl⟩
omit P HC HA hsc in
theorem wpAny_Compare1' {M : Model} {env : Env} {s : Shared} {l r : Expr} {op : CmpOp} {pos : Pos} {Q : Value → Shared → Prop} (hr : notSet r = true)
  (h:wpAny M A (eval l env) (fun a s₁=>wpAny M A (eval r env) (fun b s₂=>wpAny M A (compareOp op a b) Q E s₂) E s₁) E s):wpAny M A (eval (.Compare l [op] [r] pos) env) Q E s :=
 wpAny_Compare1 h (by cases r <;> first | rfl | cases hr)
omit P HC HA hsc in
theorem wpAny_isTrue_Compare1' {M : Model} {env : Env} {s : Shared} {l r : Expr} {op : CmpOp} {pos : Pos} {whole : Sem Value} {Q : Bool → Shared → Prop} (hr : notSet r = true)
  (h:wpAny M A (eval l env) (fun a s₁=>wpAny M A (eval r env) (fun b s₂=>wpAny M A (compareOp op a b) (fun c s₃=>wpAny M A (truthy c) Q E s₃) E s₂) E s₁) E s):wpAny M A (isTrue (.Compare l [op] [r] pos) env whole) Q E s :=
 wpAny_isTrue_Compare1 h (by cases r <;> first | rfl | cases hr)
omit P HC HA hsc in
def SE (T:TI) (S:Sy) (A:Around) (env:Env) (E:Value→Shared→Prop) (e:Expr):Prop:=∀ ⦃loc:Loc⦄ ⦃H:Hp⦄ ⦃K:KV⦄,wE S env.scope e loc H K→∀ ⦃s:Shared⦄,Rel T H s→Frm T env loc H s.heap→∀ ⦃Q:Value→Shared→Prop⦄,Goes T H s K Q→wpAny T.M A (eval e env) Q E s
def ST (T : TI) (S : Sy) (A : Around) (env : Env) (E : Value → Shared → Prop) (e : Expr) : Prop := ∀ ⦃loc : Loc⦄ ⦃H : Hp⦄ ⦃K : KB⦄ ⦃whole : Hp → KV → Prop⦄, wT S env.scope e loc whole H K → ∀ ⦃s : Shared⦄, Rel T H s → Frm T env loc H s.heap →
  (∀ H' K' (s':Shared),whole H' K'→Rel T H' s'→Frm T env loc H' s'.heap→∀ Q',Goes T H' s' K' Q'→wpAny T.M A (eval e env) Q' E s')→∀ ⦃Q:Bool→Shared→Prop⦄,GoesB T H s K Q→wpAny T.M A (isTrue e env (eval e env)) Q E s
def SAll (T:TI) (S:Sy) (A:Around) (env:Env) (E:Value→Shared→Prop) (es:List Expr):Prop:=∀ (op:BoolOp) ⦃loc:Loc⦄ ⦃H:Hp⦄ ⦃K:KB⦄,wAll S env.scope op es loc H K→∀ ⦃s:Shared⦄,Rel T H s→Frm T env loc H s.heap→∀ ⦃Q:Bool→Shared→Prop⦄,GoesB T H s K Q→wpAny T.M A (allTrue op es env) Q E s
def SEs (T : TI) (S : Sy) (A : Around) (env : Env) (E : Value → Shared → Prop) (es : List Expr) : Prop := ∀ ⦃loc : Loc⦄ ⦃H : Hp⦄ ⦃K : List V → Hp → Prop⦄, wEs S env.scope es loc H K → ∀ ⦃s : Shared⦄, Rel T H s → Frm T env loc H s.heap → ∀ ⦃p : Pos⦄ ⦃Q : List Value → Shared → Prop⦄,
  (∀ xs H' vs s',K xs H'→Rel T H' s'→VRs T s'.heap xs vs→Ev H s.heap H' s'.heap→Q vs s')→wpAny T.M A (spliced (backTo p (starEach es env))) Q E s
theorem se_Constant (c:Const) (k:Nat) (p:Pos):SE T S A env E (.Constant c k p):=fun loc H K h s R F Q g=>by
 cases c
 case none=>exact wpAny_Constant_none (g _ _ _ _ h R .none (Ev.refl _ _))
 case bool=>exact wpAny_Constant_bool (g _ _ _ _ h R (.bool _) (Ev.refl _ _))
 case int=>exact wpAny_Constant_int (g _ _ _ _ h (R.toks _) (.int _ _) (Ev.refl _ _))
 case str=>exact wpAny_Constant_str (g _ _ _ _ h (R.toks _) (.str _ _) (Ev.refl _ _))
 all_goals exact False.elim h
theorem se_Name (x:Str) (p:Pos):SE T S A env E (.Name x p):=fun loc H K h s R F Q g =>
 have ⟨v,e,k⟩:∃ v,nameV S env.scope loc x=some v∧K v H:=h
 soundName P HC HA hsc e R F fun u vu=>g _ _ _ _ k R vu (Ev.refl _ _)
theorem se_BinOp {l r:Expr} (il:SE T S A env E l) (ir:SE T S A env E r) (op:Operator) (p:Pos):SE T S A env E (.BinOp l op r p):=fun loc H K h s R F Q g =>
 have h:wE S env.scope l loc H fun a H₁=>wE S env.scope r loc H₁ fun b H₂=>wBin op a b H₂ K:=h
 wpAny_BinOp (il h R F fun a H₁ va s₁ k₁ R₁ ra e₁ => ir k₁ R₁ (F.ev R e₁) fun b H₂ vb s₂ k₂ R₂ rb e₂ =>
   P.bin A (HA.le (Nat.le_add_left 1 n)) op a b H₂ K k₂ s₂ va vb R₂ (ra.mono (R₁.fix e₂)) rb Q E (g.after (e₁.trans e₂)))
theorem se_UnaryOp (op:UnaryOp) (x:Expr) (p:Pos):SE T S A env E (.UnaryOp op x p):=fun loc H K h s R F Q g=>by
 cases op with
 | USub =>
   cases x with
   | Constant c k p' =>
     cases c with
     | int i =>
       have h:K (.int (-i)) H:=h
       exact wpAny_UnaryOp (wpAny_Constant_int (PyProof.Rows.neg_int (g _ _ _ _ h ((R.toks _).toks _) (.int _ _) (Ev.refl _ _))))
     | _=>exact False.elim h
   | _=>exact False.elim h
 | _=>exact False.elim h
theorem se_Compare {l r:Expr} (il:SE T S A env E l) (ir:SE T S A env E r) (op:CmpOp) (p:Pos):SE T S A env E (.Compare l [op] [r] p):=fun loc H K h s R F Q g =>
 have ⟨hr,h⟩:notSet r=true∧wE S env.scope l loc H fun a H₁=>wE S env.scope r loc H₁ fun b H₂=>wCmp op a b H₂ K:=h
 wpAny_Compare1' hr (il h R F fun a H₁ va s₁ k₁ R₁ ra e₁ => ir k₁ R₁ (F.ev R e₁) fun b H₂ vb s₂ k₂ R₂ rb e₂ =>
   P.cmp A (HA.le (Nat.le_add_left 1 n)) op a b H₂ K k₂ s₂ va vb R₂ (ra.mono (R₁.fix e₂)) rb Q E (g.after (e₁.trans e₂)))
theorem se_IfExp {t b o:Expr} (it:SE T S A env E t) (tt:ST T S A env E t) (ib:SE T S A env E b) (io:SE T S A env E o) (p:Pos):SE T S A env E (.IfExp t b o p):=fun loc H K h s R F Q g=>by
 have h:wT S env.scope t loc (fun H K=>wE S env.scope t loc H K) H fun x H₁=>(x=true→wE S env.scope b loc H₁ K)∧(x=false→wE S env.scope o loc H₁ K):=h
 refine wpAny_IfExp (tt h R F (fun H' K' s' h' R' F' Q' g'=>it h' R' F' g') fun x H₁ s₁ k₁ R₁ e₁=>?_)
 cases x with
 | true=>exact ib (k₁.1 rfl) R₁ (F.ev R e₁) (g.after e₁)
 | false=>exact io (k₁.2 rfl) R₁ (F.ev R e₁) (g.after e₁)
theorem se_CallN {args:List Expr} (ia:SEs T S A env E args) (x:Str) (p' p:Pos):SE T S A env E (.Call (.Name x p') args [] p):=fun loc H K h s R F Q g=>by
 have h:if special (.Call (.Name x p') args [] p)=true then S.L env.scope (.Call (.Name x p') args [] p) loc H K else ∃ f,nameV S env.scope loc x=some f∧args.all notStar=true∧args.length≤20∧wEs S env.scope args loc H fun vs H₁=>S.C f vs H₁ K:=h
 by_cases hsp:special (.Call (.Name x p') args [] p)=true
 case pos=>rw [if_pos hsp] at h;exact P.ext A (HA.le (Nat.succ_le_succ HC.1)) env hsc _ loc H K h s R F Q E g
 rw [if_neg hsp] at h
 obtain ⟨f,hf,hs,hl,h⟩:=h
 refine wpAny_Call_NameR (soundName P HC HA hsc hf R F fun u vu=>?_)
 have tk:=trees_ok (env:=env) (pos:=p) hs
 refine callWith_V P HC HA hsc (f:=f) tk.1 (by refine tk.2.symm▸?_;exact hl) (evalArgs_V hs (ia h R F fun xs H₁ vs s₁ k₁ R₁ rs e₁=>?_))
 have vu':=vu.mono (R.fix e₁)
 exact ⟨rfl,P.keeper f xs H₁ K k₁ s₁ u R₁ vu',HC.2 A (HA.le (Nat.le_succ n)) f xs H₁ K k₁ s₁ u vs R₁ vu' rs Q E (g.after e₁)⟩
omit P HC HA hsc in
theorem mform {args:List Expr} {p:Pos} {env:Env} (hs:(backTo p (starEach args env)).any (·.1)=false) (hl:args.length≤20):methodCallForm (args.length+([]:List Keyword).length) (backTo p (starEach args env)) (backToKw p (keywordEach [] env))=true:=by
 unfold methodCallForm
 have h1:(backTo p (starEach args env)).all (fun x=>!x.1)=true:=by
  refine List.all_eq_not_any_not.symm▸?_
  simpa using hs
 have h2:(backToKw p (keywordEach [] env))=[]:=rfl
 refine h1.symm▸?_;refine h2.symm▸?_
 simp
 omega
theorem se_CallA {o:Expr} {args:List Expr} (io:SE T S A env E o) (ia:SEs T S A env E args) (name:Str) (apos p:Pos):SE T S A env E (.Call (.Attribute o name apos) args [] p):=fun loc H K h s R F Q g=>by
 obtain ⟨hb,hap,hs,hl,h⟩:baseOk o=true∧apos.endLine=p.line∧args.all notStar=true∧args.length≤20∧wE S env.scope o loc H fun ov H₁=>∃ f,calleeM S.cl H₁ name ov f∧wEs S env.scope args loc H₁ fun vs H₂=>S.C f (ov::vs) H₂ K:=h
 rw [arm_eval_Call,attributeBase_ok hb]
 refine wpAny_bind (io h R F fun ov H₁ vo s₁ k₁ R₁ ro e₁=>wpAny_bind (wpAny_standAt ?_))
 obtain ⟨f,hf,k₁⟩:=k₁
 have tk:=trees_ok (env:=env) (pos:=p) hs
 have hpos:methodCallPos true o env apos p=pure p:=by unfold methodCallPos;simp [hap]
 unfold methodCall
 refine (mform tk.1 hl).symm▸?_
 refine wpAny_bind (wpAny_holding (P.meth A (HA.le (Nat.le_add_left 1 n)) ov name H₁ f hf s₁ vo R₁ ro _ _ _ fun fv rf=>?_))
 refine wpAny_bind (wpAny_of_eq hpos ?_)
 refine callWith_V P HC HA hsc (f:=f) tk.1 (by refine tk.2.symm▸?_;exact hl) (evalArgs_V hs (ia k₁ R₁ (F.ev R e₁) fun xs H₂ vs s₂ k₂ R₂ rs e₂=>?_))
 have rf':=rf.mono (R₁.fix e₂)
 exact ⟨rfl,P.keeper f (ov::xs) H₂ K k₂ s₂ fv R₂ rf',HC.2 A (HA.le (Nat.le_succ n)) f (ov::xs) H₂ K k₂ s₂ fv (vo::vs) R₂ rf' (.cons (ro.mono (R₁.fix e₂)) rs) Q E (g.after (e₁.trans e₂))⟩
theorem se_Attr {o:Expr} (io:SE T S A env E o) (name:Str) (p:Pos):SE T S A env E (.Attribute o name p):=fun loc H K h s R F Q g=>by
 obtain ⟨hb,h⟩:baseOk o=true∧wE S env.scope o loc H fun ov H₁=>wAttr H₁ name K ov:=h
 rw [arm_eval_Attribute,attributeBase_ok hb]
 exact wpAny_bind (io h R F fun ov H₁ vo s₁ k₁ R₁ ro e₁ => wpAny_bind (wpAny_standAt (wpAny_bind (wpAny_holding (P.attr A (HA.le (Nat.le_add_left 1 n)) ov name H₁ K k₁ s₁ vo R₁ ro _ E
   fun x H₂ v s₂ k₂ R₂ rv e₂=>wpAny_bind (wpAny_letTemporaryGo (wpAny_pure (g _ _ _ _ k₂ R₂ rv (e₁.trans e₂)))))))))
theorem se_Sub {o i:Expr} (io:SE T S A env E o) (ii:SE T S A env E i) (p:Pos) {loc:Loc} {H:Hp} {K:KV} (h:wE S env.scope o loc H fun ov H₁=>wE S env.scope i loc H₁ fun iv H₂=>wGet ov iv H₂ K) {s:Shared} (R:Rel T H s) (F:Frm T env loc H s.heap) {Q:Value→Shared→Prop} (g:Goes T H s K Q):wpAny T.M A (eval (.Subscript o i p) env) Q E s:=by
 rw [eval_Subscript]
 refine wpAny_bind (io h R F fun ov H₁ vo s₁ k₁ R₁ ro e₁=>wpAny_bind (wpAny_holding (ii k₁ R₁ (F.ev R e₁) fun iv H₂ vi s₂ k₂ R₂ ri e₂=>?_)))
 have ro':=ro.mono (R₁.fix e₂)
 refine wpAny_bind (wpAny_standAt (wpAny_bind (P.inPy A ov H₂ (seqV_of k₂) s₂ vo R₂ ro' _ _ ?_)))
 obtain ⟨vs,hsub⟩:=subscripted_false i vo vi
 refine hsub.symm▸?_
 exact wpAny_bind (wpAny_operating (P.get A (HA.le (Nat.le_add_left 1 n)) ov iv H₂ K k₂ s₂ vo vi R₂ ro' ri _ _ fun x H₃ v s₃ k₃ R₃ rv e₃=>wpAny_bind (wpAny_letTemporaryGo (wpAny_pure (g _ _ _ _ k₃ R₃ rv (e₁.trans (e₂.trans e₃)))))))
theorem se_Slice {o l u:Expr} (io:SE T S A env E o) (il:SE T S A env E l) (iu:SE T S A env E u) (p p':Pos):SE T S A env E (.Subscript o (.Slice (some l) (some u) none p') p):=fun loc H K h s R F Q g=>by
 rw [eval_Subscript]
 have h:wE S env.scope o loc H fun ov H₁=>wE S env.scope l loc H₁ fun lv H₂=>wE S env.scope u loc H₂ fun uv H₃ =>
  ∃ a xs i j,ov=.obj a∧H₃ a=some (.list xs)∧lv=.int i∧uv=.int j∧0≤i∧i≤j∧j≤xs.length∧xs.length≤4096∧∀ c,H₃ c=none→K (.obj c) (H₃.set c (.list ((xs.drop i.toNat).take (j - i).toNat))):=h
 refine wpAny_bind (io h R F fun ov H₁ vo s₁ k₁ R₁ ro e₁=>wpAny_bind (wpAny_holding (wpAny_Slice2 (il k₁ R₁ (F.ev R e₁) fun lv H₂ vl s₂ k₂ R₂ rl e₂ =>
  iu k₂ R₂ (F.ev R (e₁.trans e₂)) fun uv H₃ vu s₃ k₃ R₃ ru e₃=>?_))))
 obtain ⟨a,xs,i,j,rfl,ha,rfl,rfl,h0,hij,hj,hsz,k⟩:=k₃
 obtain ⟨ti,rfl⟩:=rl.iI
 obtain ⟨tj,rfl⟩:=ru.iI
 obtain rfl:=ro.iO
 have R₄:=R₃.keeps (h':=s₃.heap.push { cls:=.type "slice",data:=.fields #[.int i ti,.int j tj,.none] }) (n:=s₃.toks) (fun Z Z e=>Heap.get?_push_of_some _ e)
 have e₄:Ev H₃ s₃.heap H₃ (s₃.heap.push { cls:=.type "slice",data:=.fields #[.int i ti,.int j tj,.none] }):=Ev.keeps (fun Z Z e=>Heap.get?_push_of_some _ e)
 refine wpAny_bind (wpAny_standAt (wpAny_bind (P.inPy A (.obj a) H₃ (.inl ⟨a,xs,rfl,ha⟩) _ (.ref a) R₄ (.obj a) _ _ ?_)))
 obtain ⟨vs,hsub⟩:=subscripted_false (.Slice (some l) (some u) none p') (.ref a) (.ref s₃.heap.objs.size)
 refine hsub.symm▸?_
 exact wpAny_bind (wpAny_operating (P.slice A (HA.le (Nat.le_add_left 1 n)) a xs i j H₃ K ha h0 hij hj hsz k _ _ ti tj R₄ (Heap.IsSliceOf.new ..) _ _ fun x H₅ v s₅ k₅ R₅ rv e₅ =>
  wpAny_bind (wpAny_letTemporaryGo (wpAny_pure (g _ _ _ _ k₅ R₅ rv (e₁.trans (e₂.trans (e₃.trans (e₄.trans e₅)))))))))
theorem se_List {es:List Expr} (ie:SEs T S A env E es) (p:Pos):SE T S A env E (.List es p):=fun loc H K h s R F Q g=>by
 have h:wEs S env.scope es loc H fun vs H₁=>vs.length≤4096∧∀ a,H₁ a=none→K (.obj a) (H₁.set a (.list vs)):=h
 refine wpAny_List (ie h R F fun xs H₁ vs s₁ k₁ R₁ rs e₁=>⟨?_,?_⟩)
 ·exact rs.length▸(Nat.le_trans k₁.1 (Nat.le_of_ble_eq_true rfl))
 ·exact g _ _ _ _ (k₁.2 _ R₁.top) (R₁.alloc (n:=s₁.toks) ⟨vs,0,Heap.get?_push_size _ rfl,rs.mono (FixKeep.push T _ _)⟩) (.obj _) (e₁.trans (Ev.alloc _ _))
theorem se_Tuple {es:List Expr} (ie:SEs T S A env E es) (k:Nat) (p:Pos):SE T S A env E (.Tuple es k p):=fun loc H K h s R F Q g=>by
 have h:wEs S env.scope es loc H fun vs H₁=>vs.length≤4096∧K (.tup vs) H₁:=h
 refine wpAny_Tuple (ie h R F fun xs H₁ vs s₁ k₁ R₁ rs e₁=>⟨?_,?_⟩)
 ·exact rs.length▸(Nat.le_trans k₁.1 (Nat.le_of_ble_eq_true rfl))
 ·exact g _ _ _ _ k₁.2 (R₁.keeps fun Z Z e=>Heap.get?_push_of_some _ e) (.tup (IsTup.new _ _) (rs.mono (FixKeep.push T _ _))) (e₁.trans (Ev.keeps (fun Z Z e=>Heap.get?_push_of_some _ e)))
theorem se_Dict (p:Pos):SE T S A env E (.Dict [] [] p):=fun loc H K h s R F Q g=>by
 have h:(∀ a,H a=none→K (.obj a) (H.set a (.dS [])))∨(∀ a,H a=none→K (.obj a) (H.set a (.dI []))):=h
 refine wpAny_Dict_empty ?_
 rcases h with h | h
 ·exact g _ _ _ _ (h _ R.top) (R.alloc (n:=s.toks) ⟨[],Heap.DictOf.new _,rfl,.nil⟩) (.obj _) (Ev.alloc _ _)
 ·exact g _ _ _ _ (h _ R.top) (R.alloc (n:=s.toks) ⟨[],Heap.DictOf.new _,rfl,.nil⟩) (.obj _) (Ev.alloc _ _)
theorem se_ext {e:Expr} (h':∀ loc H K,wE S env.scope e loc H K→S.L env.scope e loc H K):SE T S A env E e:=fun loc H K h s R F Q g=>P.ext A (HA.le (Nat.succ_le_succ HC.1)) env hsc _ loc H K (h' _ _ _ h) s R F Q E g
theorem st_plain (e : Expr) {loc : Loc} {H : Hp} {K : KB} {whole : Hp → KV → Prop} (h : whole H fun v H₁ => ∃ b, truthV H₁ v = some b ∧ K b H₁) {s : Shared} (R : Rel T H s) (F : Frm T env loc H s.heap)
  (hw:∀ H' K' (s':Shared),whole H' K'→Rel T H' s'→Frm T env loc H' s'.heap→∀ Q',Goes T H' s' K' Q'→wpAny T.M A (eval e env) Q' E s') {Q:Bool→Shared→Prop} (g:GoesB T H s K Q):wpAny T.M A (do let v ← eval e env;standAt e.pos;holding [v] (truthy v)) Q E s :=
  wpAny_bind (hw H _ s h R F _ fun x H₁ v s₁ k₁ R₁ rv e₁=>wpAny_bind (wpAny_standAt (wpAny_holding (
   have ⟨b,hb,k⟩:=k₁
   P.truth A (HA.le (Nat.le_add_left 1 n)) x H₁ b hb s₁ v R₁ rv _ _ fun tk=>g _ _ _ k (R₁.toks tk) e₁))))
theorem st_Not {x:Expr} (ix:SE T S A env E x) (tx:ST T S A env E x) (p:Pos):ST T S A env E (.UnaryOp .Not x p):=fun loc H K whole h s R F hw Q g =>
 have h:wT S env.scope x loc (fun H K=>wE S env.scope x loc H K) H fun b H₁=>K (!b) H₁:=h
 wpAny_isTrue_Not (tx h R F (fun H' K' s' h' R' F' Q' g'=>ix h' R' F' g') fun b H₁ s₁ k₁ R₁ e₁=>g _ _ _ k₁ R₁ e₁)
theorem st_Compare {l r:Expr} (il:SE T S A env E l) (ir:SE T S A env E r) (op:CmpOp) (p:Pos):ST T S A env E (.Compare l [op] [r] p):=fun loc H K whole h s R F hw Q g=>by
 obtain ⟨hr,h⟩:notSet r=true∧wE S env.scope l loc H fun a H₁=>wE S env.scope r loc H₁ fun b H₂=>wCmp op a b H₂ fun c H₃=>∃ b,c=.bool b∧K b H₃:=h
 refine wpAny_isTrue_Compare1' hr (il h R F fun a H₁ va s₁ k₁ R₁ ra e₁=>ir k₁ R₁ (F.ev R e₁) fun b H₂ vb s₂ k₂ R₂ rb e₂ =>
  P.cmp A (HA.le (Nat.le_add_left 1 n)) op a b H₂ _ k₂ s₂ va vb R₂ (ra.mono (R₁.fix e₂)) rb _ E fun c H₃ v s₃ k₃ R₃ rc e₃=>?_)
 obtain ⟨b',rfl,k⟩:=k₃
 exact P.truth A (HA.le (Nat.le_add_left 1 n)) (.bool b') H₃ b' rfl s₃ v R₃ rc _ _ fun tk=>g _ _ _ k (R₃.toks tk) (e₁.trans (e₂.trans e₃))
theorem sall_nil:SAll T S A env E []:=fun op loc H K h s R F Q g=>by
 cases op
 ·exact wpAny_allTrue_And_nil (g _ _ _ h R (Ev.refl _ _))
 ·exact wpAny_allTrue_Or_nil (g _ _ _ h R (Ev.refl _ _))
theorem sall_cons {x:Expr} {r:List Expr} (ix:SE T S A env E x) (tx:ST T S A env E x) (ir:SAll T S A env E r):SAll T S A env E (x::r):=fun op loc H K h s R F Q g=>by
 cases op
 ·have h:wT S env.scope x loc (fun H K=>wE S env.scope x loc H K) H fun b H₁=>(b=true→wAll S env.scope .And r loc H₁ K)∧(b=false→K false H₁):=h
  refine wpAny_allTrue_And_cons (tx h R F (fun H' K' s' h' R' F' Q' g'=>ix h' R' F' g') fun b H₁ s₁ k₁ R₁ e₁=>?_)
  cases b with
  | true=>exact ir .And (k₁.1 rfl) R₁ (F.ev R e₁) (g.after e₁)
  | false=>exact g _ _ _ (k₁.2 rfl) R₁ e₁
 ·have h:wT S env.scope x loc (fun H K=>wE S env.scope x loc H K) H fun b H₁=>(b=true→K true H₁)∧(b=false→wAll S env.scope .Or r loc H₁ K):=h
  refine wpAny_allTrue_Or_cons (tx h R F (fun H' K' s' h' R' F' Q' g'=>ix h' R' F' g') fun b H₁ s₁ k₁ R₁ e₁=>?_)
  cases b with
  | true=>exact g _ _ _ (k₁.1 rfl) R₁ e₁
  | false=>exact ir .Or (k₁.2 rfl) R₁ (F.ev R e₁) (g.after e₁)
theorem ses_nil:SEs T S A env E []:=fun loc H K h s R F p Q g=>spliced_nil (g _ _ _ _ h R .nil (Ev.refl _ _))
theorem ses_cons {e:Expr} {r:List Expr} (ie:SE T S A env E e) (ir:SEs T S A env E r):SEs T S A env E (e::r):=fun loc H K h s R F p Q g=>by
 have hn:notStar e=true:=by cases e <;> first | rfl | exact False.elim h
 have h:wE S env.scope e loc H fun v H₁=>wEs S env.scope r loc H₁ fun vs H₂=>K (v::vs) H₂:=by cases e <;> first | exact h | cases hn
 refine (starEach_ok hn).symm▸?_
 exact spliced_cons (ie h R F fun x H₁ v s₁ k₁ R₁ rv e₁=>ir k₁ R₁ (F.ev R e₁) fun xs H₂ vs s₂ k₂ R₂ rs e₂=>g _ _ _ _ k₂ R₂ (.cons (rv.mono (R₁.fix e₂)) rs) (e₁.trans e₂))
omit P HC HA hsc in
theorem se_dead {e:Expr} (h':∀ loc H K,wE S env.scope e loc H K→False):SE T S A env E e:=fun loc H K h s R F Q g=>(h' _ _ _ h).elim
theorem st_pl {e:Expr} (h':∀ loc H K whole,wT S env.scope e loc whole H K→whole H fun v H₁=>∃ b,truthV H₁ v=some b∧K b H₁) (he:isTrue e env (eval e env)=(do let v ← eval e env;standAt e.pos;holding [v] (truthy v))):ST T S A env E e:=fun loc H K whole h s R F hw Q g=>by
 refine he.symm▸?_
 exact st_plain P HC HA hsc e (h' _ _ _ _ h) R F hw g
omit P HC HA hsc in
theorem st_dead {e:Expr} (h':∀ loc H K whole,wT S env.scope e loc whole H K→False):ST T S A env E e:=fun loc H K whole h s R F hw Q g=>(h' _ _ _ _ h).elim
omit P HC HA hsc in
theorem szr {x a b:Nat} (h:x < a):x < a+b:=Nat.lt_add_right b h
omit P HC HA hsc in
theorem szl {x a:Nat} (h:0 < a):x < a+x:=Nat.lt_add_of_pos_left h
omit P HC HA hsc in
theorem sz0 {a b:Nat} (h:0 < a):0 < a+b:=Nat.add_pos_left h b
local macro_rules | `(tactic| walk_at "sz")=>`(tactic| (repeat (first | exact szl Nat.one_pos | exact szl (sz0 Nat.one_pos) | exact szl (sz0 (sz0 Nat.one_pos)) | exact szl (sz0 (sz0 (sz0 Nat.one_pos))) | apply szr)))
omit P HC HA hsc in
theorem sz_in {a b n:Nat} (h:a < b) (hn:b < n+1):a < n:=Nat.lt_of_lt_of_le h (Nat.le_of_lt_succ hn)
structure AllOk (T:TI) (S:Sy) (A:Around) (env:Env) (E:Value→Shared→Prop) (n:Nat):Prop where
 e:∀ e:Expr,sizeOf e < n→SE T S A env E e
 t:∀ e:Expr,sizeOf e < n→ST T S A env E e
 a:∀ es:List Expr,sizeOf es < n→SAll T S A env E es
 s:∀ es:List Expr,sizeOf es < n→SEs T S A env E es
theorem all_e {m:Nat} (ih:AllOk T S A env E m) (e:Expr) (hn:sizeOf e < m+1):SE T S A env E e:=by
 cases e with
 | Constant c k p=>exact se_Constant P HC HA hsc c k p
 | Name x p=>exact se_Name P HC HA hsc x p
 | BinOp l op r p=>rw [Expr.BinOp.sizeOf_spec] at hn;exact se_BinOp P HC HA hsc (ih.e l (sz_in (by walk_at "sz") hn)) (ih.e r (sz_in (by walk_at "sz") hn)) op p
 | UnaryOp op x p=>rw [Expr.UnaryOp.sizeOf_spec] at hn;exact se_UnaryOp P HC HA hsc op x p
 | Compare l ops rs p =>
   rw [Expr.Compare.sizeOf_spec] at hn
   cases ops with
   | nil=>(refine se_dead ?_;exact fun Z Z Z h=>h)
   | cons op ops => cases ops with
     | cons _ _=>(refine se_dead ?_;exact fun Z Z Z h=>h)
     | nil => cases rs with
       | nil=>(refine se_dead ?_;exact fun Z Z Z h=>h)
       | cons r rs => cases rs with
         | cons _ _=>(refine se_dead ?_;exact fun Z Z Z h=>h)
         | nil=>exact se_Compare P HC HA hsc (ih.e l (sz_in (by walk_at "sz") hn)) (ih.e r (Nat.lt_trans (Nat.lt_of_lt_of_eq (by walk_at "sz") (List.cons.sizeOf_spec r []).symm) (sz_in (by walk_at "sz") hn))) op p
 | IfExp t b o p=>rw [Expr.IfExp.sizeOf_spec] at hn;exact se_IfExp P HC HA hsc (ih.e t (sz_in (by walk_at "sz") hn)) (ih.t t (sz_in (by walk_at "sz") hn)) (ih.e b (sz_in (by walk_at "sz") hn)) (ih.e o (sz_in (by walk_at "sz") hn)) p
 | Call f args kw p =>
   rw [Expr.Call.sizeOf_spec] at hn
   have ia:SEs T S A env E args:=ih.s args (sz_in (by walk_at "sz") hn)
   cases f with
   | Name x p' => cases kw with
     | nil=>exact se_CallN P HC HA hsc ia x p' p
     | cons _ _=>(refine se_dead ?_;exact fun Z Z Z h=>h)
   | Attribute o name apos => cases kw with
     | nil=>exact se_CallA P HC HA hsc (ih.e o (Nat.lt_trans (Nat.lt_of_lt_of_eq (by walk_at "sz") (Expr.Attribute.sizeOf_spec o name apos).symm) (sz_in (by walk_at "sz") hn))) ia name apos p
     | cons _ _=>(refine se_dead ?_;exact fun Z Z Z h=>h)
   | _=>(refine se_dead ?_;exact fun Z Z Z h=>h)
 | Attribute o name p=>rw [Expr.Attribute.sizeOf_spec] at hn;exact se_Attr P HC HA hsc (ih.e o (sz_in (by walk_at "sz") hn)) name p
 | Subscript o i p =>
   rw [Expr.Subscript.sizeOf_spec] at hn
   have io:SE T S A env E o:=ih.e o (sz_in (by walk_at "sz") hn)
   have ii:SE T S A env E i:=ih.e i (sz_in (by walk_at "sz") hn)
   have pl:=fun loc H K h s R F Q g=>se_Sub P HC HA hsc io ii p (loc:=loc) (H:=H) (K:=K) h (s:=s) R F (Q:=Q) g
   cases i with
   | Slice l u st p' =>
     cases l with
     | none => cases u with
       | none=>exact pl
       | some u => cases st with
         | none=>(refine se_ext P HC HA hsc ?_;exact fun Z Z Z h=>h)
         | some st=>exact pl
     | some l => cases u with
       | none=>exact pl
       | some u => cases st with
         | none =>
           have hs:sizeOf (Expr.Slice (some l) (some u) none p') < m:=sz_in (by walk_at "sz") hn
           have so:∀ x:Expr,sizeOf x < sizeOf (some x):=fun x=>Nat.lt_of_lt_of_eq (by walk_at "sz") (Option.some.sizeOf_spec x).symm
           exact se_Slice P HC HA hsc io (ih.e l (Nat.lt_trans (Nat.lt_trans (so l) (Nat.lt_of_lt_of_eq (by walk_at "sz") (Expr.Slice.sizeOf_spec ..).symm)) hs)) (ih.e u (Nat.lt_trans (Nat.lt_trans (so u) (Nat.lt_of_lt_of_eq (by walk_at "sz") (Expr.Slice.sizeOf_spec ..).symm)) hs)) p p'
         | some st=>exact pl
   | _=>exact pl
 | List es p=>rw [Expr.List.sizeOf_spec] at hn;exact se_List P HC HA hsc (ih.s es (sz_in (by walk_at "sz") hn)) p
 | Tuple es k p=>rw [Expr.Tuple.sizeOf_spec] at hn;exact se_Tuple P HC HA hsc (ih.s es (sz_in (by walk_at "sz") hn)) k p
 | Dict ks vs p =>
   cases ks with
   | cons _ _=>(refine se_dead ?_;exact fun Z Z Z h=>h)
   | nil => cases vs with
     | cons _ _=>(refine se_dead ?_;exact fun Z Z Z h=>h)
     | nil=>exact se_Dict P HC HA hsc p
 | ListComp e g' c p=>(refine se_ext P HC HA hsc ?_;exact fun Z Z Z h=>h)
 | _=>(refine se_dead ?_;exact fun Z Z Z h=>h)
theorem all_t {m:Nat} (ih:AllOk T S A env E m) (e:Expr) (hn:sizeOf e < m+1):ST T S A env E e:=by
 cases e with
 | UnaryOp op x p =>
   rw [Expr.UnaryOp.sizeOf_spec] at hn
   cases op with
   | Not=>exact st_Not P HC HA hsc (ih.e x (sz_in (by walk_at "sz") hn)) (ih.t x (sz_in (by walk_at "sz") hn)) p
   | _=>(refine st_pl P HC HA hsc ?_ rfl;exact fun Z Z Z Z h=>h)
 | BoolOp op vs p =>
   rw [Expr.BoolOp.sizeOf_spec] at hn
   exact fun loc H K whole h s R F hw Q g=>wpAny_isTrue_BoolOp (ih.a vs (sz_in (by walk_at "sz") hn) op h R F g)
 | IfExp t b o p=>(refine st_dead ?_;exact fun Z Z Z Z h=>h)
 | Compare l ops rs p =>
   rw [Expr.Compare.sizeOf_spec] at hn
   cases ops with
   | nil=>(refine st_dead ?_;exact fun Z Z Z Z h=>h)
   | cons op ops => cases ops with
     | cons _ _=>(refine st_dead ?_;exact fun Z Z Z Z h=>h)
     | nil => cases rs with
       | nil=>(refine st_dead ?_;exact fun Z Z Z Z h=>h)
       | cons r rs => cases rs with
         | cons _ _=>(refine st_dead ?_;exact fun Z Z Z Z h=>h)
         | nil=>exact st_Compare P HC HA hsc (ih.e l (sz_in (by walk_at "sz") hn)) (ih.e r (Nat.lt_trans (Nat.lt_of_lt_of_eq (by walk_at "sz") (List.cons.sizeOf_spec r []).symm) (sz_in (by walk_at "sz") hn))) op p
 | _=>(refine st_pl P HC HA hsc ?_ rfl;exact fun Z Z Z Z h=>h)
theorem all_ok:∀ n,AllOk T S A env E n
 | 0=>⟨fun Z h=>absurd h (Nat.not_lt_zero _),fun Z h=>absurd h (Nat.not_lt_zero _),fun Z h=>absurd h (Nat.not_lt_zero _),fun Z h=>absurd h (Nat.not_lt_zero _)⟩
 | n + 1 => by
   have ih:=all_ok n
   refine ⟨all_e P HC HA hsc ih,all_t P HC HA hsc ih,fun es hn=>?_,fun es hn=>?_⟩
   ·cases es with
    | nil=>exact sall_nil P HC HA hsc
    | cons x r =>
      rw [List.cons.sizeOf_spec] at hn
      have hx:=sz_in (a:=sizeOf x) (by walk_at "sz") hn
      exact sall_cons P HC HA hsc (ih.e x hx) (ih.t x hx) (ih.a r (sz_in (by walk_at "sz") hn))
   ·cases es with
    | nil=>exact ses_nil P HC HA hsc
    | cons x r =>
      rw [List.cons.sizeOf_spec] at hn
      exact ses_cons P HC HA hsc (ih.e x (sz_in (by walk_at "sz") hn)) (ih.s r (sz_in (by walk_at "sz") hn))
theorem soundE (e:Expr) {loc:Loc} {H:Hp} {K:KV} (h:wE S env.scope e loc H K) {s:Shared} (R:Rel T H s) (F:Frm T env loc H s.heap) {Q:Value→Shared→Prop} (g:Goes T H s K Q):wpAny T.M A (eval e env) Q E s:=(all_ok P HC HA hsc _).e e (Nat.lt_succ_self _) h R F g
theorem soundT (e : Expr) {loc : Loc} {H : Hp} {K : KB} {whole : Hp → KV → Prop} (h : wT S env.scope e loc whole H K) {s : Shared} (R : Rel T H s) (F : Frm T env loc H s.heap)
  (hw:∀ H' K' (s':Shared),whole H' K'→Rel T H' s'→Frm T env loc H' s'.heap→∀ Q',Goes T H' s' K' Q'→wpAny T.M A (eval e env) Q' E s')
  {Q:Bool→Shared→Prop} (g:GoesB T H s K Q):wpAny T.M A (isTrue e env (eval e env)) Q E s:=(all_ok P HC HA hsc _).t e (Nat.lt_succ_self _) h R F hw g
theorem soundEs (es : List Expr) {loc : Loc} {H : Hp} {K : List V → Hp → Prop} (h : wEs S env.scope es loc H K) {s : Shared} (R : Rel T H s) (F : Frm T env loc H s.heap) {p : Pos} {Q : List Value → Shared → Prop}
  (g:∀ xs H' vs s',K xs H'→Rel T H' s'→VRs T s'.heap xs vs→Ev H s.heap H' s'.heap→Q vs s'):wpAny T.M A (spliced (backTo p (starEach es env))) Q E s:=(all_ok P HC HA hsc _).s es (Nat.lt_succ_self _) h R F g
end
structure EvL (L:Addr) (H:Hp) (h:Heap) (H':Hp) (h':Heap):Prop where
 keep:∀ a o,h.get? a=some o→H a=none→a≠L→h'.get? a=some o
 dom:∀ a o,H' a=some o→(∃ o',H a=some o')∨h.get? a=none
 live:∀ a o,h.get? a=some o→∃ o',h'.get? a=some o'
theorem Ev.toL {L:Addr} {H H':Hp} {h h':Heap} (x:Ev H h H' h'):EvL L H h H' h':=⟨fun a o e n Z=>x.keep a o e n,x.dom,x.live⟩
theorem EvL.refl (L:Addr) (H:Hp) (h:Heap):EvL L H h H h:=(Ev.refl H h).toL
theorem EvL.trans {L:Addr} {H H₁ H₂:Hp} {h h₁ h₂:Heap} (x:EvL L H h H₁ h₁) (y:EvL L H₁ h₁ H₂ h₂):EvL L H h H₂ h₂ where
 keep a o e n l:=by
  refine y.keep a o (x.keep a o e n l) ?_ l
  cases q:H₁ a with
  | none=>rfl
  | some o' =>
    rcases x.dom a o' q with ⟨o2,e2⟩ | l
    ·rw [n] at e2;cases e2
    ·rw [l] at e;cases e
 dom a o e:=by
  rcases y.dom a o e with ⟨o',e'⟩ | l
  ·exact x.dom a o' e'
  ·refine .inr ?_
   cases q:h.get? a with
   | none=>rfl
   | some ob =>
     obtain ⟨o',e'⟩:=x.live a ob q
     rw [l] at e';cases e'
 live a o e:=(by obtain ⟨o',e'⟩:=x.live a o e;exact y.live a o' e')
theorem Frm.notFix {T:TI} {env:Env} {loc:Loc} {H:Hp} {h:Heap} (F:Frm T env loc H h) {o:Obj} (e:h.get? env.locals=some o):¬ Fixed T o:=by
 obtain ⟨m,⟨o',es,ep,ho,hd,_⟩,_⟩:=F.ns
 obtain rfl:=Option.some.inj (ho.symm.trans e)
 intro f
 rcases f with ⟨_,xs,n,f⟩ | ⟨_,vs,f⟩ <;> rw [hd] at f <;> cases f
theorem Rel.fixL {T:TI} {env:Env} {loc:Loc} {H H':Hp} {s:Shared} {h':Heap} (R:Rel T H s) (F:Frm T env loc H s.heap) (x:EvL env.locals H s.heap H' h'):FixKeep T s.heap h' :=
 fun a o e f=>x.keep a o e (R.fixNone e f) fun q=>F.notFix (q▸e) f
theorem store_ok {T : TI} {env : Env} {loc : Loc} {H : Hp} {s : Shared} (R : Rel T H s) (F : Frm T env loc H s.heap) {x : Str} {v : V} {u : Value} (hx : env.scope.names.lookup x = some .local) (hv : VR T s.heap v u) {m : Str → Option Value} (hm : s.heap.Ns env.locals m)
  (hmv:∀ y w,loc.get y=some w→env.scope.names.lookup y=some .local→∃ u,m y=some u∧VR T s.heap w u) {h':Heap} {n:Nat} (hn:h'.Ns env.locals (fun y=>if y=x then some u else m y)) (hs:Heap.SameBut env.locals s.heap h') :
  Rel T H { s with heap:=h',toks:=n }∧Frm T env (loc.put x v) H h'∧EvL env.locals H s.heap H h':=by
 have ev:EvL env.locals H s.heap H h':=⟨fun a o e Z l=>(hs.2 a l).trans e,fun a o e=>.inl ⟨o,e⟩,fun a o e=>by
  by_cases q:a=env.locals
  ·subst q;obtain ⟨ob,_,_,ho,_⟩:=hn;exact ⟨ob,ho⟩
  ·exact ⟨o,(hs.2 a q).trans e⟩⟩
 have fk:=R.fixL F ev
 refine ⟨⟨fun a o e=>?_,fun a o e=>?_,R.new,R.os,R.gens⟩,⟨⟨_,hn,fun y w e hy=>?_⟩,F.new,F.out,fun y w e hy=>?_⟩,ev⟩
 ·have:a≠env.locals:=by rintro rfl;exact nomatch F.new.symm.trans e
  exact (hs.2 a this).trans (R.base a o e)
 ·have:a≠env.locals:=by rintro rfl;exact nomatch F.out.symm.trans e
  exact (R.objs a o e).mono fk (hs.2 a this)
 ·rw [Loc.get_put] at e
  by_cases q:x=y
  ·subst q
   obtain rfl:=Option.some.inj ((if_pos rfl).symm.trans e)
   exact ⟨u,by simp,hv.mono fk⟩
  ·rw [if_neg q] at e
   obtain ⟨u',a,b⟩:=hmv y w e hy
   exact ⟨u',by simp [Ne.symm q,a],b.mono fk⟩
 ·rw [Loc.get_put] at e
  by_cases q:x=y
  ·subst q;exact nomatch hx.symm.trans hy
  ·rw [if_neg q] at e
   obtain ⟨c,u',a,⟨o,b,b'⟩,d,n,l⟩:=F.cel y w e hy
   exact ⟨c,u',a,⟨o,(hs.2 c l).trans b,b'⟩,d.mono fk,n,l⟩
structure Itr (T:TI) (A:Around) (I:Addr) (t:Expr) (xs:List V) (g:Hp→Prop) (own:List Addr) (St:Nat→Heap→Prop):Prop where
 frame:∀ i h h',St i h→(∀ b∈own,∀ o,h.get? b=some o→h'.get? b=some o)→FixKeep T h h'→St i h'
 nofix:∀ i h,St i h→∀ b∈own,∃ o,h.get? b=some o∧¬ Fixed T o
 item:∀ i x,xs[i]?=some x→∀ H s,Rel T H s→g H→St i s.heap→(∀ b∈own,H b=none)→∀ (Q:Value→Shared→Prop) (E:Value→Shared→Prop),
  (∀ v h' tk,VR T h' x v→St (i+1) h'→(∀ b o,b ∉ own→s.heap.get? b=some o→h'.get? b=some o)→Q v { s with heap:=h',toks:=tk }) →
  wpAny T.M A (pyNext (.ref I)) (fun r s₁=>∃ v,r=some v∧wpAny T.M A (letOwnedTupleGo t (.ref I) v) (fun Z s₂=>Q v s₂) E s₁) E s
 done:∀ H s,Rel T H s→g H→St xs.length s.heap→(∀ b∈own,H b=none)→∀ (Q:Shared→Prop) (E:Value→Shared→Prop),
  (∀ h' tk,(∀ b o,b ∉ own→s.heap.get? b=some o→h'.get? b=some o)→Q { s with heap:=h',toks:=tk }) →
  wpAny T.M A (pyNext (.ref I)) (fun r s₁=>r=none∧Q s₁) E s
 self:∀ i (s:Shared) (Q:Value→Shared→Prop) (E:Value→Shared→Prop),St i s.heap→Q (.ref I) s→wpAny T.M A (pyIter (.ref I)) Q E s
theorem codeAny_forLoop2 {prog : Program} {w : World} {A : Around} {s : Shared} {R : Result → Shared → Prop} {target : Expr} {it : Value} {body orelse : List Stmt} {env : Env} (I : Nat → Shared → Prop)
  (turn:∀ n s,I n s→wpAny (model prog w) A (pyNext it) (fun r s₁=>match r with
   | none=>wpAny (model prog w) A (execs orelse env) (fun f s₃=>R (.ok f) s₃) (notedBy (model prog w) A env fun e s'=>R (.error e) s') s₁
   | some v => wpAny (model prog w) A (letOwnedTupleGo target it v) (fun Z s₁' => wpAny (model prog w) A (assign target env v) (fun Z s₂ => wpAny (model prog w) A (execs body env) (fun f s₃ => match f with
     | .next | .cont=>∃ m,m < n∧I m s₃
     | .brk=>R (.ok .next) s₃
     | .ret v=>R (.ok (.ret v)) s₃) (notedBy (model prog w) A env fun e s'=>R (.error e) s') s₂) (notedBy (model prog w) A env fun e s'=>R (.error e) s') s₁') (notedBy (model prog w) A env fun e s'=>R (.error e) s') s₁) (notedBy (model prog w) A env fun e s'=>R (.error e) s') s)
  (n:Nat) (h:I n s):codeAny (model prog w) A (.forLoop target it body orelse env) R s:=by
 refine codeAny_loop' rfl I (fun n s hI=>?_) n h
 show wpAny _ _ ((forTurn target it body orelse env).onRaise (fun x=>do noteFrame x env;theTreesLotGoes x)) _ _ s
 refine wpAny_noted ?_
 simp only [forTurn]
 refine wpAny_bind (wpAny_standAt (wpAny_bind (wpAny_onRaise (wpAny_mono (turn n s hI) (fun r s₁ h₁=>?_) fun Z Z h'=>wpAny_standAt h'))))
 cases r with
 | none=>exact wpAny_pure (.inr ⟨rfl,codeAny_block h₁⟩)
 | some v =>
   refine wpAny_bind (wpAny_mono h₁ (fun Z s₁' h₁'=>?_) fun Z Z h'=>h')
   refine wpAny_bind (wpAny_mono h₁' (fun Z s₂ h₂=>wpAny_bind (wpAny_mono h₂ (fun f s₃ h₃=>?_) fun Z Z h'=>h')) fun Z Z h'=>h')
   cases f with
   | next=>exact wpAny_pure (.inl ⟨rfl,h₃⟩)
   | cont=>exact wpAny_pure (.inl ⟨rfl,h₃⟩)
   | brk=>exact wpAny_pure h₃
   | ret v=>exact wpAny_pure h₃
inductive FlR (T:TI) (h:Heap):Fl→Flow→Prop where
 | next:FlR T h .next .next
 | brk:FlR T h .brk .brk
 | cont:FlR T h .cont .cont
 | ret {x:V} {v:Value}:VR T h x v→FlR T h (.ret x) (.ret v)
theorem FlR.iN {T:TI} {h:Heap} {f:Flow} (r:FlR T h .next f):f=.next:=by cases r;rfl
def GoesS (T:TI) (env:Env) (H:Hp) (s:Shared) (K:KS) (Q:Flow→Shared→Prop):Prop :=
 ∀ fl loc' H' f s',K fl loc' H'→Rel T H' s'→Frm T env loc' H' s'.heap→FlR T s'.heap fl f→EvL env.locals H s.heap H' s'.heap→Q f s'
theorem GoesS.after {T:TI} {env:Env} {H H₁:Hp} {s s₁:Shared} {K:KS} {Q:Flow→Shared→Prop} (g:GoesS T env H s K Q) (e:EvL env.locals H s.heap H₁ s₁.heap):GoesS T env H₁ s₁ K Q :=
 fun fl loc' H' f s' k r fr flr e'=>g fl loc' H' f s' k r fr flr (e.trans e')
structure Prims2 (T:TI) (S:Sy):Prop where
 extS:∀ A,Rm (S.r+1) A→∀ env,EnvOk env→∀ st loc H K,S.LS env.scope st loc H K→∀ s,Rel T H s→Frm T env loc H s.heap→∀ Q E,GoesS T env H s K Q→wpAny T.M A (exec st env) Q E s
 unpack:∀ A,Rm 1 A→∀ x xs,itemsV x=some xs→∀ H s v,Rel T H s→VR T s.heap x v→∀ Q E,(∀ vs s',VRs T s'.heap xs vs→Rel T H s'→Ev H s.heap H s'.heap→Q vs s')→wpAny T.M A (unpackItems v xs.length none) Q E s
 iterL:∀ A,Rm 1 A→∀ a xs (t:Expr) H s,H a=some (.list xs)→Rel T H s→∀ Q E,
  (∀ I s' own St,Itr T A I t xs (fun H=>H a=some (.list xs)) own St→St 0 s'.heap→Rel T H s'→Ev H s.heap H s'.heap→(∀ b∈own,s.heap.objs.size≤b)→Q (.ref I) s')→wpAny T.M A (pyIter (.ref a)) Q E s
 iterT:∀ A,Rm 1 A→∀ xs (t:Expr) H s v,Rel T H s→VR T s.heap (.tup xs) v→∀ Q E,
  (∀ I s' own St,Itr T A I t xs (fun Z=>True) own St→St 0 s'.heap→Rel T H s'→Ev H s.heap H s'.heap→(∀ b∈own,s.heap.objs.size≤b)→Q (.ref I) s')→wpAny T.M A (pyIter v) Q E s
 iterE:∀ A,Rm 1 A→∀ x xs g (t:Expr) H s v,isTupE t=true→((∃ a,x=.obj a∧H a=some (.list xs)∧g=fun H=>H a=some (.list xs))∨(x=.tup xs∧g=fun Z=>True))→Rel T H s→VR T s.heap x v→∀ Q E,
  (∀ I s' own St,Itr T A I t (pairsFrom 0 xs) g own St→St 0 s'.heap→Rel T H s'→Ev H s.heap H s'.heap→(∀ b∈own,s.heap.objs.size≤b)→Q (.ref I) s') →
  wpAny T.M A (call (.type "enumerate") [v]) (fun e s'=>wpAny T.M A (pyIter e) Q E s') E s
 iterR1:∀ A,Rm 1 A→∀ n tn (t:Expr) H s,-small < n→n < small→Rel T H s→∀ Q E,
  (∀ I s' own St,Itr T A I t (upFrom 0 n.toNat) (fun Z=>True) own St→St 0 s'.heap→Rel T H s'→Ev H s.heap H s'.heap→(∀ b∈own,s.heap.objs.size≤b)→Q (.ref I) s') →
  wpAny T.M A (call (.type "range") [.int n tn]) (fun e s'=>wpAny T.M A (pyIter e) Q E s') E s
 iterR2:∀ A,Rm 1 A→∀ n n' tn tn' (t:Expr) H s,-small < n→n < small→-small < n'→n' < small→Rel T H s→∀ Q E,
  (∀ I s' own St,Itr T A I t (upFrom n (n' - n).toNat) (fun Z=>True) own St→St 0 s'.heap→Rel T H s'→Ev H s.heap H s'.heap→(∀ b∈own,s.heap.objs.size≤b)→Q (.ref I) s') →
  wpAny T.M A (call (.type "range") [.int n tn,.int n' tn']) (fun e s'=>wpAny T.M A (pyIter e) Q E s') E s
theorem Frm.congr {T:TI} {env:Env} {loc loc':Loc} {H:Hp} {h:Heap} (F:Frm T env loc H h) (e:∀ x,loc'.get x=loc.get x):Frm T env loc' H h :=
 ⟨(by obtain ⟨m,a,b⟩:=F.ns;exact ⟨m,a,fun x v q=>b x v ((e x).symm.trans q)⟩),F.new,F.out,fun x v q=>F.cel x v ((e x).symm.trans q)⟩
noncomputable def putAll:Loc→List (Str×V)→Loc
 | loc,[]=>loc
 | loc,(x,v)::r=>putAll (loc.put x v) r
theorem putAll_get (ps:List (Str×V)):∀ (loc:Loc) (y:Str),(ps.map (·.1)).Nodup→(putAll loc ps).get y=(ps.lookup y).or (loc.get y):=by
 induction ps with
 | nil=>exact fun Z Z Z=>rfl
 | cons p r ih =>
   intro loc y hn
   have hn:=List.nodup_cons.mp hn
   refine (ih (loc.put p.1 p.2) y hn.2).trans ?_
   rw [List.lookup_cons,Loc.get_put]
   by_cases q:y=p.1
   ·have:r.lookup y=none:=List.lookup_eq_none_iff.mpr fun z hz=>bne_iff_ne.mpr fun e=>hn.1 ((q.symm.trans e).symm▸List.mem_map_of_mem (f:=(·.1)) hz:p.1∈r.map (·.1))
    rw [this,if_pos q.symm,beq_iff_eq.mpr q];rfl
   ·rw [if_neg (Ne.symm q),beq_eq_false_iff_ne.mpr q]
theorem look_mem {α β:Type} [BEq α] [LawfulBEq α] {x:α} {k:β} {l:List (α×β)} (e:l.lookup x=some k):(x,k)∈l:=by
 induction l with
 | nil=>exact nomatch e
 | cons p r ih =>
   rw [List.lookup_cons] at e
   cases h:x==p.1 with
   | true=>rw [h] at e;exact eq_of_beq h▸Option.some.inj e▸.head _
   | false=>rw [h] at e;exact .tail _ (ih e)
theorem mem_look {l:List (Str×V)} {y:Str} {v:V} (hn:(l.map (·.1)).Nodup) (h:(y,v)∈l):l.lookup y=some v:=by
 induction l with
 | nil=>exact nomatch h
 | cons p r ih =>
   have hn:=List.nodup_cons.mp hn
   rw [List.lookup_cons]
   cases List.mem_cons.mp h with
   | inl e=>rw [← e,beq_self_eq_true]
   | inr h =>
     rw [beq_eq_false_iff_ne.mpr (fun q=>hn.1 (q▸List.mem_map_of_mem (f:=(·.1)) h:p.1∈r.map (·.1)):y≠p.1)]
     exact ih hn.2 h
theorem lookup_reverse (ps:List (Str×V)) (y:Str) (hn:(ps.map (·.1)).Nodup):ps.reverse.lookup y=ps.lookup y:=by
 have hn':(ps.reverse.map (·.1)).Nodup:=by rw [List.map_reverse];exact List.pairwise_reverse.mpr (hn.imp Ne.symm)
 cases h:ps.lookup y with
 | some v=>exact mem_look hn' (List.mem_reverse.mpr (look_mem h))
 | none =>
   cases h':ps.reverse.lookup y with
   | none=>rfl
   | some v=>exact nomatch h.symm.trans (mem_look hn (List.mem_reverse.mp (look_mem h')))
theorem eraseDups_sub (n:Nat):∀ (l:List Str),l.length≤n→List.Sublist l.eraseDups l∧l.eraseDups.Nodup:=by
 induction n with
 | zero=>exact fun l h=>List.eq_nil_of_length_eq_zero (Nat.le_zero.mp h)▸⟨.slnil,.nil⟩
 | succ n ih =>
   intro l h
   cases l with
   | nil=>exact ⟨.slnil,.nil⟩
   | cons a l =>
     obtain ⟨s,d⟩:=ih (l.filter fun b=>!b==a) (Nat.le_trans (List.length_filter_le _ _) (Nat.le_of_succ_le_succ h))
     rw [List.eraseDups_cons]
     refine ⟨(s.trans List.filter_sublist).cons₂ a,List.nodup_cons.mpr ⟨fun hm=>?_,d⟩⟩
     have q:=(List.mem_filter.mp (s.subset hm)).2
     rw [beq_self_eq_true] at q;cases q
theorem nodup_of_eraseDups (l:List Str) (e:l.eraseDups.length=l.length):l.Nodup :=
 (eraseDups_sub _ l (Nat.le_refl _)).elim fun s d=>List.Sublist.eq_of_length s e▸d
noncomputable def isNm:Expr→Bool
 | .Name ..=>true
 | _=>false
theorem nm_form {t:Expr} (h:isNm t=true):∃ y p,t=.Name y p:=by
 cases t with
 | Name y p=>exact ⟨y,p,rfl⟩
 | _=>cases h
theorem put_nm {sc:Scope} {t:Expr} {ts:List Expr} {xs:List V} {loc:Loc}:isNm t=true∨putNames sc (t::ts) xs loc=none:=by
 cases t with
 | Name y p=>exact .inl rfl
 | _=>exact .inr rfl
theorem put_cons {sc:Scope} {t:Expr} {ts:List Expr} {xs:List V} {loc loc':Loc} (e:putNames sc (t::ts) xs loc=some loc'):∃ y p x r,t=.Name y p∧xs=x::r∧sc.names.lookup y=some .local∧putNames sc ts r (loc.put y x)=some loc':=by
 obtain ⟨y,p,rfl⟩:=nm_form (put_nm.resolve_right fun q=>by exact nomatch q.symm.trans e)
 cases xs with
 | nil=>cases e
 | cons x r =>
   have e:(if sc.names.lookup y=some .local then putNames sc ts r (loc.put y x) else none)=some loc':=e
   by_cases hy:sc.names.lookup y=some .local
   ·rw [if_pos hy] at e;exact ⟨y,p,x,r,rfl,rfl,hy,e⟩
   ·exact nomatch (if_neg hy).symm.trans e
noncomputable def nameIn (sc:Scope) (line:Nat):Expr→Option Str
 | .Name id pos=>if sc.names.lookup id==some .local&&pos.line==line then some id else none
 | _=>none
theorem filterMap_all (sc : Scope) (line : Nat) (es : List Expr) : (es.filterMap (nameIn sc line)).length = es.length → ∀ (xs : List V) (loc loc' : Loc), putNames sc es xs loc = some loc' →
  (∀ n∈es.filterMap (nameIn sc line),sc.names.lookup n=some .local)∧(es.filterMap (nameIn sc line)).length=xs.length∧loc'=putAll loc ((es.filterMap (nameIn sc line)).zip xs):=by
 induction es with
 | nil => intro _ xs loc loc' e; cases xs with
   | nil=>exact ⟨(fun Z h=>nomatch h),rfl,(Option.some.inj e).symm⟩
   | cons=>exact nomatch e
 | cons t es ih =>
   intro hl xs loc loc' e
   obtain ⟨y,p,x,r,rfl,rfl,hy,e⟩:=put_cons e
   have hn:nameIn sc line (.Name y p)=if (sc.names.lookup y==some .local&&p.line==line)=true then some y else none:=rfl
   rw [List.filterMap_cons,hn] at hl
   by_cases hc:(sc.names.lookup y==some .local&&p.line==line)=true
   ·rw [if_pos hc] at hl
    rw [List.filterMap_cons,hn,if_pos hc]
    obtain ⟨a,b,c⟩:=ih (Nat.succ.inj hl) r _ _ e
    exact ⟨List.forall_mem_cons.mpr ⟨hy,a⟩,congrArg (·+1) b,c⟩
   ·rw [if_neg hc] at hl
    exact absurd (Nat.le_trans (Nat.le_of_eq hl.symm) (List.length_filterMap_le (nameIn sc line) es)) (Nat.not_succ_le_self _)
section
variable {T:TI} {S:Sy} {n:Nat} (P:Prims T S) (P2:Prims2 T S) (HC:SoundS T S n) {A:Around} (HA:Rm (n+1) A) {env:Env} (hsc:EnvOk env)
include P P2 HC HA hsc
theorem soundStore {x : Str} (hx : env.scope.names.lookup x = some .local) {v : V} {u : Value} {loc : Loc} {H : Hp} {s : Shared} (R : Rel T H s) (F : Frm T env loc H s.heap) (hv : VR T s.heap v u) {Q : Unit → Shared → Prop} {E : Value → Shared → Prop}
  (g:∀ s',Rel T H s'→Frm T env (loc.put x v) H s'.heap→EvL env.locals H s.heap H s'.heap→Q () s'):wpAny T.M A (storeName env x u) Q E s:=by
 obtain ⟨m,hn,hm⟩:=F.ns
 refine wpAny_storeName_local (env:=env) hx hn (fun h' hn' hs=>?_) (by refine hsc.kind.symm▸?_;rfl)
 obtain ⟨a,b,c⟩:=store_ok R F hx hv hn hm (n:=s.toks+1) hn' hs
 exact g _ a b c
theorem soundNames (ts : List Expr) : ∀ (xs : List V) {loc loc' : Loc}, putNames env.scope ts xs loc = some loc' → ∀ {vs : List Value} {H : Hp} {s : Shared}, Rel T H s → Frm T env loc H s.heap → VRs T s.heap xs vs → ∀ {Q : Unit → Shared → Prop} {E : Value → Shared → Prop},
  (∀ s',Rel T H s'→Frm T env loc' H s'.heap→EvL env.locals H s.heap H s'.heap→Q () s')→wpAny T.M A (assignInOrder ((assignEach ts env).map (·.2)) vs) Q E s:=by
 induction ts with
 | nil => intro xs loc loc' e vs H s R F rs Q E g; cases xs with
   | nil=>exact rs.nil_eq▸wpAny_pure (g s R (Option.some.inj e▸F) (EvL.refl _ _ _))
   | cons _ _=>exact nomatch e
 | cons t ts ih =>
   intro xs loc loc' e vs H s R F rs Q E g
   obtain ⟨y,p,x,r,rfl,rfl,hy,e⟩:=put_cons e
   obtain ⟨v,vs,rfl,rv,rr⟩:=rs.cut
   exact wpAny_bind (wpAny_holding (wpAny_assign_Name (soundStore P P2 HC HA hsc hy R F rv fun s₁ R₁ F₁ e₁=>ih r e R₁ F₁ (rr.mono (R.fixL F e₁)) fun s₂ R₂ F₂ e₂=>g s₂ R₂ F₂ (e₁.trans e₂))))
theorem soundBinds (ps : List (Str × V)) : ∀ (hl : ∀ p ∈ ps, env.scope.names.lookup p.1 = some .local) {loc : Loc} {vs : List Value} {H : Hp} {s : Shared}, Rel T H s → Frm T env loc H s.heap → VRs T s.heap (ps.map (·.2)) vs → ∀ {Q : Unit → Shared → Prop} {E : Value → Shared → Prop},
  (∀ s',Rel T H s'→Frm T env (putAll loc ps) H s'.heap→EvL env.locals H s.heap H s'.heap→Q () s')→wpAny T.M A (assignInOrder ((ps.map (·.1)).map fun n=>bindName env n) vs) Q E s:=by
 induction ps with
 | nil=>exact fun hl loc vs H s R F rs Q E g=>rs.nil_eq▸wpAny_pure (g s R F (EvL.refl _ _ _))
 | cons p ps ih =>
   intro hl loc vs H s R F rs Q E g
   obtain ⟨v,vs,rfl,rv,rr⟩:=rs.cut
   exact wpAny_bind (wpAny_holding (wpAny_bindName (soundStore P P2 HC HA hsc (hl _ (.head _)) R F rv fun s₁ R₁ F₁ e₁=>ih (fun p hp=>hl p (.tail _ hp)) R₁ F₁ (rr.mono (R.fixL F e₁)) fun s₂ R₂ F₂ e₂=>g s₂ R₂ F₂ (e₁.trans e₂))))
omit P P2 HC HA hsc in
theorem put_len (ts:List Expr):∀ (xs:List V) (loc loc':Loc),putNames env.scope ts xs loc=some loc'→(assignEach ts env).length=xs.length∧(assignEach ts env).findIdx? (·.1)=none:=by
 induction ts with
 | nil => intro xs loc loc' e; cases xs with
   | nil=>exact ⟨rfl,rfl⟩
   | cons=>exact nomatch e
 | cons t ts ih =>
   intro xs loc loc' e
   obtain ⟨y,p,x,r,rfl,rfl,hy,e⟩:=put_cons e
   obtain ⟨a,b⟩:=ih r _ _ e
   exact ⟨congrArg Nat.succ a,(List.findIdx?_cons (x:=(false,assign (.Name y p) env)) (xs:=assignEach ts env)).trans (congrArg (Option.map _) b)⟩
def SA (T : TI) (S : Sy) (A : Around) (env : Env) (t : Expr) : Prop := ∀ ⦃v : V⦄ ⦃loc : Loc⦄ ⦃H : Hp⦄ ⦃K : Loc → Hp → Prop⦄, wA S env.scope t v loc H K → ∀ ⦃s : Shared⦄ ⦃u : Value⦄, Rel T H s → Frm T env loc H s.heap → VR T s.heap v u → ∀ ⦃Q : Unit → Shared → Prop⦄ ⦃E : Value → Shared → Prop⦄,
  (∀ loc' H' s',K loc' H'→Rel T H' s'→Frm T env loc' H' s'.heap→EvL env.locals H s.heap H' s'.heap→Q () s')→wpAny T.M A (assign t env u) Q E s
theorem sa_Tuple (ts:List Expr) (k:Nat) (p:Pos):SA T S A env (.Tuple ts k p):=fun v loc H K h s u R F hv Q E g=>by
 obtain ⟨xs,loc',hi,hp,k⟩:∃ xs loc',itemsV v=some xs∧putNames env.scope ts xs loc=some loc'∧K loc' H:=h
 rw [arm_assign_Tuple]
 refine wpAny_bind (wpAny_standAt ?_)
 unfold unpack
 obtain ⟨l1,l2⟩:=put_len ts xs loc loc' hp
 refine l1.symm▸?_;refine l2.symm▸?_
 refine wpAny_bind (wpAny_holding (P2.unpack A (HA.le (Nat.le_add_left 1 n)) v xs hi H s u R hv _ _ fun vs s₁ rs R₁ e₁=>?_))
 exact soundNames P P2 HC HA hsc ts xs hp R₁ (F.ev R e₁) rs fun s₂ R₂ F₂ e₂=>g _ _ _ k R₂ F₂ (e₁.toL.trans e₂)
theorem sa_Sub (o i:Expr) (p:Pos):SA T S A env (.Subscript o i p):=fun v loc H K h s u R F hv Q E g=>by
 have h:wE S env.scope o loc H fun ov H₁=>wE S env.scope i loc H₁ fun iv H₂=>wPut ov iv v H₂ fun H₃=>K loc H₃:=h
 rw [arm_assign_Subscript]
 refine wpAny_bind (wpAny_holding (soundE P HC HA hsc o h R F fun ov H₁ vo s₁ k₁ R₁ ro e₁=>wpAny_bind (wpAny_holding (soundE P HC HA hsc i k₁ R₁ (F.ev R e₁) fun iv H₂ vi s₂ k₂ R₂ ri e₂=>?_))))
 refine wpAny_bind (wpAny_standAt (wpAny_bind (wpAny_holding (P.put A (HA.le (Nat.le_add_left 1 n)) ov iv v H₂ _ k₂ s₂ vo vi u R₂ (ro.mono (R₁.fix e₂)) ri ((hv.mono (R.fix e₁)).mono (R₁.fix e₂)) _ _ fun H₃ s₃ k₃ R₃ e₃=>?_))))
 exact wpAny_release (g _ _ _ k₃ R₃ (F.ev R (e₁.trans (e₂.trans e₃))) (e₁.trans (e₂.trans e₃)).toL)
theorem sa_Attr (o:Expr) (name:Str) (p:Pos):SA T S A env (.Attribute o name p):=fun v loc H K h s u R F hv Q E g=>by
 have h:wE S env.scope o loc H fun ov H₁=>wPutA ov name v H₁ fun H₂=>K loc H₂:=h
 rw [arm_assign_Attribute]
 refine wpAny_bind (wpAny_holding (soundE P HC HA hsc o h R F fun ov H₁ vo s₁ k₁ R₁ ro e₁=>?_))
 refine wpAny_bind (wpAny_standAt (wpAny_bind (wpAny_holding (P.putA A (HA.le (Nat.le_add_left 1 n)) ov name v H₁ _ k₁ s₁ vo u R₁ ro (hv.mono (R.fix e₁)) _ _ fun H₂ s₂ k₂ R₂ e₂=>?_))))
 exact wpAny_release (g _ _ _ k₂ R₂ (F.ev R (e₁.trans e₂)) (e₁.trans e₂).toL)
omit P P2 HC HA hsc in
theorem sa_dead {t:Expr} (h':∀ v loc H K,wA S env.scope t v loc H K→False):SA T S A env t:=fun v loc H K h s u R F hv Q E g=>(h' _ _ _ _ h).elim
theorem soundA' (t:Expr):SA T S A env t:=by
 cases t with
 | Name x p => exact fun v loc H K h s u R F hv Q E g => have ⟨hx, k⟩ : env.scope.names.lookup x = some .local ∧ K (loc.put x v) H := h
          wpAny_assign_Name (soundStore P P2 HC HA hsc hx R F hv fun s' R' F' e'=>g _ _ _ k R' F' e')
 | Tuple ts k p=>exact sa_Tuple P P2 HC HA hsc ts k p
 | Subscript o i p=>exact sa_Sub P P2 HC HA hsc o i p
 | Attribute o name p=>exact sa_Attr P P2 HC HA hsc o name p
 | _=>(refine sa_dead ?_;exact fun Z Z Z Z h=>h)
theorem soundA (t : Expr) {v : V} {loc : Loc} {H : Hp} {K : Loc → Hp → Prop} (h : wA S env.scope t v loc H K) {s : Shared} {u : Value} (R : Rel T H s) (F : Frm T env loc H s.heap) (hv : VR T s.heap v u) {Q : Unit → Shared → Prop} {E : Value → Shared → Prop}
  (g:∀ loc' H' s',K loc' H'→Rel T H' s'→Frm T env loc' H' s'.heap→EvL env.locals H s.heap H' s'.heap→Q () s'):wpAny T.M A (assign t env u) Q E s:=soundA' P P2 HC HA hsc t h R F hv g
omit P P2 HC HA hsc in
theorem ea_cons {t:Expr} {v:V} {loc:Loc} {H:Hp} {K:Loc→Hp→Prop} (h:wA S env.scope t v loc H K) (ts:List Expr):∃ b,assignEach (t::ts) env=(b,assign t env)::assignEach ts env:=by
 cases t <;> first | exact ⟨false,rfl⟩ | exact False.elim h
omit P P2 HC HA hsc in
theorem ea_ne (t:Expr) (ts:List Expr):∃ y r,(assignEach (t::ts) env).map (·.2)=y::r:=by cases t <;> exact ⟨_,_,rfl⟩
theorem soundAs (ts : List Expr) : ∀ {v : V} {loc : Loc} {H : Hp} {K : Loc → Hp → Prop}, wAs S env.scope ts v loc H K → ∀ {s : Shared} {u : Value}, Rel T H s → Frm T env loc H s.heap → VR T s.heap v u → ∀ {Q : Unit → Shared → Prop} {E : Value → Shared → Prop},
  (∀ loc' H' s',K loc' H'→Rel T H' s'→Frm T env loc' H' s'.heap→EvL env.locals H s.heap H' s'.heap→Q () s')→wpAny T.M A (assignAll u ((assignEach ts env).map (·.2))) Q E s:=by
 induction ts with
 | nil=>exact fun h s u R F hv Q E g=>wpAny_pure (g _ _ _ h R F (EvL.refl _ _ _))
 | cons t ts ih =>
   intro v loc H K h s u R F hv Q E g
   cases ts with
   | nil =>
     obtain ⟨b,ht⟩:=ea_cons (S:=S) (v:=v) (loc:=loc) (H:=H) (K:=fun loc₁ H₁=>K loc₁ H₁) h []
     rw [ht]
     exact soundA P P2 HC HA hsc t h R F hv g
   | cons t' ts =>
     obtain ⟨b,ht⟩:=ea_cons (S:=S) (v:=v) (loc:=loc) (H:=H) (K:=fun loc₁ H₁=>wAs S env.scope (t'::ts) v loc₁ H₁ K) h (t'::ts)
     obtain ⟨y,r,ht'⟩:=ea_ne (env:=env) t' ts
     have key:wpAny T.M A (assign t env u) (fun Z s₁=>wpAny T.M A (assignAll u ((assignEach (t'::ts) env).map (·.2))) Q E s₁) E s :=
      soundA P P2 HC HA hsc t h R F hv fun loc₁ H₁ s₁ k₁ R₁ F₁ e₁=>ih k₁ R₁ F₁ (hv.mono (R.fixL F e₁)) fun loc₂ H₂ s₂ k₂ R₂ F₂ e₂=>g _ _ _ k₂ R₂ F₂ (e₁.trans e₂)
     rw [ht'] at key
     rw [ht]
     refine (?_:wpAny T.M A (assignAll u (assign t env::(assignEach (t'::ts) env).map (·.2))) Q E s)
     rw [ht']
     exact wpAny_bind (wpAny_holding key)
omit P P2 HC HA hsc in
def SwOk (env : Env) (ts : List Expr) (e : Expr) : Prop := swappedStores ts e env = pure none ∨
  ∃ names es k p,ts=[.Tuple es k p]∧swappedStores ts e env=pure (some names)∧names.Nodup∧names.length=es.length ∧
   ∀ (xs:List V) (loc loc':Loc),putNames env.scope es xs loc=some loc'→(∀ n∈names,env.scope.names.lookup n=some .local)∧names.length=xs.length∧loc'=putAll loc (names.zip xs)
omit P P2 HC HA hsc in
theorem SwOk.no {env:Env} {ts:List Expr} {e:Expr} (h:swappedStores ts e env=pure none):SwOk env ts e:=.inl h
omit P P2 HC HA hsc in
theorem ifs5 {α:Type} {c1 c2 c3 c4 c5:Prop} [Decidable c1] [Decidable c2] [Decidable c3] [Decidable c4] [Decidable c5] {x n u s:α} (e:x=if c1 then n else if c2 then n else if c3 then n else if c4 then n else if c5 then u else s) (h:¬ c4→¬ c5):x=n∨(¬ c3∧x=s):=by
 by_cases h1:c1
 ·exact .inl (e.trans (if_pos h1))
 by_cases h2:c2
 ·exact .inl (e.trans ((if_neg h1).trans (if_pos h2)))
 by_cases h3:c3
 ·exact .inl (e.trans ((if_neg h1).trans ((if_neg h2).trans (if_pos h3))))
 by_cases h4:c4
 ·exact .inl (e.trans ((if_neg h1).trans ((if_neg h2).trans ((if_neg h3).trans (if_pos h4)))))
 ·exact .inr ⟨h3,e.trans ((if_neg h1).trans ((if_neg h2).trans ((if_neg h3).trans ((if_neg h4).trans (if_neg (h h4))))))⟩
omit P P2 HC HA hsc in
theorem sw_tup {es vs:List Expr} {k k':Nat} {p p':Pos} (h:swapOk [.Tuple es k p] (.Tuple vs k' p')=true):SwOk env [.Tuple es k p] (.Tuple vs k' p'):=by
 have hconst (hfold:¬ vs.all (foldedForSure 8)=true):¬ (vs.all (constantsAlone 8)=true):=by
  have h:(!(vs.all (constantsAlone 8))||vs.all (foldedForSure 8))=true:=h
  rw [Bool.or_eq_true,Bool.not_eq_true'] at h
  cases h with
  | inl h=>exact h.symm▸Bool.false_ne_true
  | inr h=>exact absurd h hfold
 rcases ifs5 (x:=swappedStores [.Tuple es k p] (.Tuple vs k' p') env) (c4:=vs.all (foldedForSure 8)=true) (c5:=vs.all (constantsAlone 8)=true) rfl hconst with e | ⟨hl,e⟩
 ·exact .inl e
 ·have hl:=Bool.or_eq_false_iff.mp (Bool.eq_false_iff.mpr hl)
  have h1:(es.filterMap (nameIn env.scope ((es.head?.map (·.pos.line)).getD 0))).length=es.length:=bne_eq_false_iff_eq.mp hl.1
  exact .inr ⟨_,es,k,p,rfl,e,nodup_of_eraseDups _ (bne_eq_false_iff_eq.mp hl.2),h1,fun xs loc loc' hp=>filterMap_all env.scope _ es h1 xs loc loc' hp⟩
theorem swapped_says {ts:List Expr} {e:Expr} (h:swapOk ts e=true):SwOk env ts e:=by
 cases ts with
 | nil=>exact .no rfl
 | cons t r =>
   cases t with
   | Tuple es k p => cases r with
     | cons _ _=>exact .no rfl
     | nil =>
       cases e with
       | Tuple vs k' p'=>exact sw_tup h
       | _=>exact .no rfl
   | List es p => cases r with
     | cons _ _=>exact .no rfl
     | nil=>cases h
   | _=>exact .no rfl
end
theorem swaps_false {e:Expr} (h:isComp e=false) (t:Option Expr) (l:Nat) (env:Env):swapsWith e t l env=pure false:=by
 cases e <;> first | rfl | cases h
theorem swapsSole_false {e:Expr} (h:isComp e=false) (ts:List Expr) (l:Nat) (env:Env):swapsWithSole ts e l env=pure false:=by
 cases ts with
 | nil=>rfl
 | cons t r => cases r with
   | nil=>exact swaps_false h _ _ _
   | cons=>rfl
theorem VRs.reverse {T:TI} {h:Heap} {xs:List V}:∀ {vs:List Value},VRs T h xs vs→VRs T h xs.reverse vs.reverse:=by
 induction xs with
 | nil=>intro vs r;exact r.nil_eq.symm▸.nil
 | cons x xs ih=>intro us r;obtain ⟨v,vs,rfl,a,b⟩:=r.cut;exact List.reverse_cons.symm▸List.reverse_cons.symm▸((ih b).append (.cons a .nil))
theorem foldedSet_ok {e:Expr} (h:notSet e=true) (env:Env) (x:Value):foldedSetIterable e env x=pure x:=by
 cases e <;> first | rfl | cases h
theorem Rel.own {T : TI} {H : Hp} {s : Shared} (R : Rel T H s) {own : List Addr} {h' : Heap} {n : Nat} (ho : ∀ b ∈ own, H b = none ∧ T.B b = none ∧ ∃ o, s.heap.get? b = some o ∧ ¬ Fixed T o)
  (k:∀ b o,b ∉ own→s.heap.get? b=some o→h'.get? b=some o):Rel T H { s with heap:=h',toks:=n }∧FixKeep T s.heap h':=by
 have fk:FixKeep T s.heap h':=fun a o e f=>k a o (fun hm=>by
  obtain ⟨_,_,o',e',nf⟩:=ho a hm
  rw [e] at e';cases e';exact nf f) e
 refine ⟨⟨fun a o e=>k a o (fun hm=>?_) (R.base a o e),fun a o e=>?_,R.new,R.os,R.gens⟩,fk⟩
 ·have:=(ho a hm).2.1;rw [e] at this;cases this
 ·obtain ⟨ob,g,_⟩:=(R.objs a o e).there
  exact (R.objs a o e).mono fk ((k a ob (fun hm=>by have:=(ho a hm).1;rw [e] at this;cases this) g).trans g.symm)
theorem Frm.kept {T : TI} {env : Env} {loc : Loc} {H : Hp} {h h' : Heap} (F : Frm T env loc H h) (fk : FixKeep T h h') (kl : ∀ o, h.get? env.locals = some o → h'.get? env.locals = some o)
  (kc:∀ x c o,env.scope.names.lookup x=some .cell→env.cells.lookup x=some c→h.get? c=some o→h'.get? c=some o):Frm T env loc H h' where
 ns:=let ⟨m,⟨o,es,ep,e,r⟩,hm⟩:=F.ns;⟨m,⟨o,es,ep,kl o e,r⟩,fun y v e kk=>(by obtain ⟨u,a,b⟩:=hm y v e kk;exact ⟨u,a,b.mono fk⟩)⟩
 new:=F.new
 out:=F.out
 cel y v e kk:=(by obtain ⟨c,u,a,⟨o,b,b'⟩,d,n,l⟩:=F.cel y v e kk;exact ⟨c,u,a,⟨o,kc y c o kk a b,b'⟩,d.mono fk,n,l⟩)
theorem Ev.kept {H₀ H:Hp} {h₀ h h':Heap} {own:List Addr} (e:Ev H₀ h₀ H h) (hown:∀ b∈own,h₀.get? b=none) (k:∀ b o,b ∉ own→h.get? b=some o→h'.get? b=some o):Ev H₀ h₀ H h' :=
 ⟨fun a o q n=>k a o (fun hm=>nomatch (hown a hm).symm.trans q) (e.keep a o q n),e.dom,fun a o q=>(by obtain ⟨o',q'⟩:=e.live a o q;exact ⟨o',k a o' (fun hm=>nomatch (hown a hm).symm.trans q) q'⟩)⟩
theorem EvL.kept {L:Addr} {H₀ H:Hp} {h₀ h h':Heap} {own:List Addr} (e:EvL L H₀ h₀ H h) (hown:∀ b∈own,h₀.get? b=none) (k:∀ b o,b ∉ own→h.get? b=some o→h'.get? b=some o):EvL L H₀ h₀ H h' :=
 ⟨fun a o q n l=>k a o (fun hm=>nomatch (hown a hm).symm.trans q) (e.keep a o q n l),e.dom,fun a o q=>(by obtain ⟨o',q'⟩:=e.live a o q;exact ⟨o',k a o' (fun hm=>nomatch (hown a hm).symm.trans q) q'⟩)⟩
theorem at_pre {α:Type} {pre r xs:List α} {x:α} {i:Nat} (h:pre.length=i) (e:pre++x::r=xs):xs[i]?=some x:=by subst h e;simp
theorem end_pre {α:Type} {pre xs:List α} {i:Nat} (h:pre.length=i) (e:pre++[]=xs):i=xs.length:=by subst h e;simp
theorem nx_pre {α:Type} {pre r xs:List α} {x:α} (e:pre++x::r=xs):(pre++[x])++r=xs:=by subst e;simp
theorem nx_len {α:Type} {pre:List α} {x:α} {i:Nat} (h:pre.length=i):(pre++[x]).length=i+1:=by subst h;simp
inductive ItI (T:TI) (env:Env) (W:List V→Loc→Hp→Prop) (St:Nat→Heap→Prop) (own:List Addr) (xs:List V) (H₀:Hp) (h₀:Heap):Nat→Shared→Prop
 | mk {i:Nat} {pre r:List V} {loc:Loc} {H:Hp} {s:Shared}:pre.length=i→pre++r=xs→W r loc H→Rel T H s→Frm T env loc H s.heap→St i s.heap→EvL env.locals H₀ h₀ H s.heap→(∀ b∈own,H b=none∧T.B b=none∧b≠env.locals)→ItI T env W St own xs H₀ h₀ r.length s
section
variable {T:TI} {S:Sy} {n:Nat} (P:Prims T S) (P2:Prims2 T S) (HC:SoundS T S n) {A:Around} (HA:Rm (n+1) A) {env:Env} (hsc:EnvOk env)
include P P2 HC HA hsc
theorem keep_type (t:String) (s:Shared):KeepOk T s (.type t):=fun A Q E h=>wpAny_pure (h _ (by intro x;cases x))
omit P P2 HC HA hsc in
def ItU (T:TI) (A:Around) (env:Env) (t:Expr) (H:Hp) (s:Shared) (KI:List V→(Hp→Prop)→Hp→Prop) (Q:Value→Shared→Prop):Prop :=
 ∀ xs gd H₁ I s₁ own St,KI xs gd H₁→Itr T A I t xs gd own St→St 0 s₁.heap→Rel T H₁ s₁→Ev H s.heap H₁ s₁.heap→(∀ b∈own,(H₁ b=none∧T.B b=none∧b≠env.locals)∧s.heap.get? b=none)→Q (.ref I) s₁
def IterE (T:TI) (A:Around) (env:Env) (s:Shared) (Q:Value→Shared→Prop) (E:Value→Shared→Prop) (it:Expr):Prop:=wpAny T.M A (eval it env) (fun x s'=>wpAny T.M A (pyIter x) Q E s') E s
omit P P2 HC HA hsc in
theorem it_out {loc:Loc} {H H₁:Hp} {s s₁:Shared} (F:Frm T env loc H s.heap) (R₁:Rel T H₁ s₁) (e₁:Ev H s.heap H₁ s₁.heap) (b:Addr) (hb:s₁.heap.objs.size≤b):(H₁ b=none∧T.B b=none∧b≠env.locals)∧s.heap.get? b=none := 
 have hn1:s₁.heap.get? b=none:=Heap.get?_none_of_le hb
 ⟨⟨R₁.noneH hn1,R₁.topB hb,fun q=>(by obtain ⟨_,⟨_,_,_,ho2,_⟩,_⟩:=F.ns;exact nomatch (q▸e₁.noneS hn1).symm.trans ho2)⟩,e₁.noneS hn1⟩
section
variable {t:Expr} {loc:Loc} {H:Hp} {KI:List V→(Hp→Prop)→Hp→Prop} {s:Shared} (R:Rel T H s) (F:Frm T env loc H s.heap) {Q:Value→Shared→Prop} {E:Value→Shared→Prop} (g:ItU T A env t H s KI Q)
include R F g
theorem it_plain {it:Expr} (h:wE S env.scope it loc H fun v H₁=>(∃ a xs,v=.obj a∧H₁ a=some (.list xs)∧KI xs (fun H=>H a=some (.list xs)) H₁)∨(∃ xs,v=.tup xs∧KI xs (fun Z=>True) H₁)):IterE T A env s Q E it:=by
 refine soundE P HC HA hsc it h R F fun x H₁ v s₁ k₁ R₁ rv e₁=>?_
 rcases k₁ with ⟨a,xs,rfl,ha,k⟩ | ⟨xs,rfl,k⟩
 ·obtain rfl:=rv.iO
  exact P2.iterL A (HA.le (Nat.le_add_left 1 n)) a xs t H₁ s₁ ha R₁ _ _ fun I s₂ own St it' st R₂ e₂ ho=>g _ _ _ _ _ _ _ k it' st R₂ (e₁.trans e₂) fun b hb=>it_out F R₁ e₁ b (ho b hb)
 ·exact P2.iterT A (HA.le (Nat.le_add_left 1 n)) xs t H₁ s₁ v R₁ rv _ _ fun I s₂ own St it' st R₂ e₂ ho=>g _ _ _ _ _ _ _ k it' st R₂ (e₁.trans e₂) fun b hb=>it_out F R₁ e₁ b (ho b hb)
omit P2 g in
theorem it_one {e : Expr} {p p' : Pos} {x : Str} {c : Value} {K : KV} (hx : env.scope.names.lookup x = some .globalImplicit) (hv : S.G x = some (.lit c)) (hst : notStar e = true) (h : wE S env.scope e loc H K) (hk : ∀ s', KeepOk T s' c)
  (hc:∀ x H₁ v s₁,K x H₁→Rel T H₁ s₁→VR T s₁.heap x v→Ev H s.heap H₁ s₁.heap→wpAny T.M A (call c [v]) (fun x s'=>wpAny T.M A (pyIter x) Q E s') E s₁):IterE T A env s Q E (.Call (.Name x p') [e] [] p):=by
 refine wpAny_Call_NameR (nameL P HC HA hsc (c:=c) (by unfold nameV;refine hx.symm▸?_;exact hv) R F ?_)
 have hst':[e].all notStar=true:=by refine List.all_cons.symm▸?_;refine hst.symm▸?_;rfl
 have tk:=trees_ok (env:=env) (pos:=p) hst'
 refine callWith_V P HC HA hsc (f:=.none) tk.1 (by refine tk.2.symm▸?_;exact Nat.le_of_ble_eq_true rfl) (evalArgs_V hst' ?_)
 refine (starEach_ok hst).symm▸?_
 exact spliced_cons (soundE P HC HA hsc e h R F fun x H₁ v s₁ k₁ R₁ rv e₁=>spliced_nil ⟨rfl,hk _,hc x H₁ v s₁ k₁ R₁ rv e₁⟩)
omit P2 g in
theorem it_two {e e' : Expr} {p p' : Pos} {x : Str} {c : Value} {K : V → V → Hp → Prop} (hx : env.scope.names.lookup x = some .globalImplicit) (hv : S.G x = some (.lit c)) (hst : notStar e = true) (hst2 : notStar e' = true) (h : wE S env.scope e loc H fun v H₁ => wE S env.scope e' loc H₁ fun v' H₂ => K v v' H₂) (hk : ∀ s', KeepOk T s' c)
  (hc:∀ x x' H₁ v v' s₁,K x x' H₁→Rel T H₁ s₁→VR T s₁.heap x v→VR T s₁.heap x' v'→Ev H s.heap H₁ s₁.heap→wpAny T.M A (call c [v,v']) (fun x s'=>wpAny T.M A (pyIter x) Q E s') E s₁):IterE T A env s Q E (.Call (.Name x p') [e,e'] [] p):=by
 refine wpAny_Call_NameR (nameL P HC HA hsc (c:=c) (by unfold nameV;refine hx.symm▸?_;exact hv) R F ?_)
 have hst':[e,e'].all notStar=true:=by refine List.all_cons.symm▸?_;refine List.all_cons.symm▸?_;refine hst.symm▸?_;refine hst2.symm▸?_;rfl
 have tk:=trees_ok (env:=env) (pos:=p) hst'
 refine callWith_V P HC HA hsc (f:=.none) tk.1 (by refine tk.2.symm▸?_;exact Nat.le_of_ble_eq_true rfl) (evalArgs_V hst' ?_)
 refine (starEach_ok hst).symm▸?_;refine (starEach_ok hst2).symm▸?_
 exact spliced_cons (soundE P HC HA hsc e h R F fun x H₁ v s₁ k₁ R₁ rv e₁=>spliced_cons (soundE P HC HA hsc e' k₁ R₁ (F.ev R e₁) fun x' H₂ v' s₂ k₂ R₂ rv' e₂ =>
  spliced_nil ⟨rfl,hk _,hc x x' H₂ v v' s₂ k₂ R₂ (rv.mono (R₁.fix e₂)) rv' (e₁.trans e₂)⟩))
theorem it_call1 {e:Expr} {p p':Pos} {x:Str} (ht:enumOk t (.Call (.Name x p') [e] [] p)=true) (h:wIter S env.scope (.Call (.Name x p') [e] [] p) loc H KI):IterE T A env s Q E (.Call (.Name x p') [e] [] p):=by
 have h : if x = ("range" : Str) then notStar e = true ∧ S.G "range" = some (.lit (.type "range")) ∧ env.scope.names.lookup x = some .globalImplicit ∧ wE S env.scope e loc H fun v H₁ => ∃ n, v = .int n ∧ -small < n ∧ n < small ∧ KI (upFrom 0 n.toNat) (fun Z => True) H₁
   else if x=("enumerate" : Str) then notStar e=true∧S.G "enumerate" = some (.lit (.type "enumerate"))∧env.scope.names.lookup x=some .globalImplicit∧wE S env.scope e loc H fun v H₁ =>
    (∃ a xs,v=.obj a∧H₁ a=some (.list xs)∧KI (pairsFrom 0 xs) (fun H=>H a=some (.list xs)) H₁)∨(∃ xs,v=.tup xs∧KI (pairsFrom 0 xs) (fun Z=>True) H₁)
   else False:=h
 by_cases hx:x=("range" : Str)
 ·rw [if_pos hx] at h
  subst hx
  obtain ⟨hst,hG,hsx,h⟩:=h
  refine it_one P HC HA hsc R F hsx hG hst h (keep_type P P2 HC HA hsc _) fun x H₁ v s₁ k₁ R₁ rv e₁=>?_
  obtain ⟨n,rfl,h1,h2,k⟩:=k₁
  obtain ⟨_,rfl⟩:=rv.iI
  exact P2.iterR1 A (HA.le (Nat.le_add_left 1 _)) n _ t H₁ s₁ h1 h2 R₁ _ _ fun I s₂ own St it' st R₂ e₂ ho=>g _ _ _ _ _ _ _ k it' st R₂ (e₁.trans e₂) fun b hb=>it_out F R₁ e₁ b (ho b hb)
 ·rw [if_neg hx] at h
  by_cases hx:x=("enumerate" : Str)
  ·rw [if_pos hx] at h
   subst hx
   obtain ⟨hst,hG,hsx,h⟩:=h
   have ht':isTupE t=true:=ht
   refine it_one P HC HA hsc R F hsx hG hst h (keep_type P P2 HC HA hsc _) fun x H₁ v s₁ k₁ R₁ rv e₁=>?_
   rcases k₁ with ⟨a,xs,rfl,ha,k⟩ | ⟨xs,rfl,k⟩
   ·exact P2.iterE A (HA.le (Nat.le_add_left 1 n)) _ xs _ t H₁ s₁ v ht' (.inl ⟨a,rfl,ha,rfl⟩) R₁ rv _ _ fun I s₂ own St it' st R₂ e₂ ho=>g _ _ _ _ _ _ _ k it' st R₂ (e₁.trans e₂) fun b hb=>it_out F R₁ e₁ b (ho b hb)
   ·exact P2.iterE A (HA.le (Nat.le_add_left 1 n)) _ xs _ t H₁ s₁ v ht' (.inr ⟨rfl,rfl⟩) R₁ rv _ _ fun I s₂ own St it' st R₂ e₂ ho=>g _ _ _ _ _ _ _ k it' st R₂ (e₁.trans e₂) fun b hb=>it_out F R₁ e₁ b (ho b hb)
  ·rw [if_neg hx] at h;exact h.elim
theorem it_call2 {e e':Expr} {p p':Pos} {x:Str} (h:wIter S env.scope (.Call (.Name x p') [e,e'] [] p) loc H KI):IterE T A env s Q E (.Call (.Name x p') [e,e'] [] p):=by
 have h : if x = ("range" : Str) then notStar e = true ∧ notStar e' = true ∧ S.G "range" = some (.lit (.type "range")) ∧ env.scope.names.lookup x = some .globalImplicit ∧ wE S env.scope e loc H fun v H₁ => wE S env.scope e' loc H₁ fun v' H₂ => ∃ n n', v = .int n ∧ v' = .int n' ∧ -small < n ∧ n < small ∧ -small < n' ∧ n' < small ∧ KI (upFrom n (n' - n).toNat) (fun Z => True) H₂
   else False:=h
 by_cases hx:x=("range" : Str)
 ·rw [if_pos hx] at h
  subst hx
  obtain ⟨hst,hst2,hG,hsx,h⟩:=h
  refine it_two P HC HA hsc R F (K:=fun v v' H₂=>∃ n n',v=.int n∧v'=.int n'∧-small < n∧n < small∧-small < n'∧n' < small∧KI (upFrom n (n' - n).toNat) (fun Z=>True) H₂) hsx hG hst hst2 h (keep_type P P2 HC HA hsc _) fun x x' H₁ v v' s₁ k₁ R₁ rv rv' e₁=>?_
  obtain ⟨n,n',rfl,rfl,h1,h2,h3,h4,k⟩:=k₁
  obtain ⟨_,rfl⟩:=rv.iI
  obtain ⟨_,rfl⟩:=rv'.iI
  exact P2.iterR2 A (HA.le (Nat.le_add_left 1 _)) n n' _ _ t H₁ s₁ h1 h2 h3 h4 R₁ _ _ fun I s₂ own St it' st R₂ e₂ ho=>g _ _ _ _ _ _ _ k it' st R₂ (e₁.trans e₂) fun b hb=>it_out F R₁ e₁ b (ho b hb)
 ·rw [if_neg hx] at h;exact h.elim
theorem it_all (it:Expr) (ht:enumOk t it=true) (h:wIter S env.scope it loc H KI):IterE T A env s Q E it:=by
 cases it with
 | Call f args kw p =>
   cases f with
   | Name x p' =>
     cases args with
     | nil=>exact it_plain P P2 HC HA hsc R F g h
     | cons e r => cases r with
       | nil => cases kw with
         | nil=>exact it_call1 P P2 HC HA hsc R F g ht h
         | cons _ _=>exact it_plain P P2 HC HA hsc R F g h
       | cons e' r => cases r with
         | nil => cases kw with
           | nil=>exact it_call2 P P2 HC HA hsc R F g h
           | cons _ _=>exact it_plain P P2 HC HA hsc R F g h
         | cons _ _=>exact it_plain P P2 HC HA hsc R F g h
   | _=>exact it_plain P P2 HC HA hsc R F g h
 | _=>exact it_plain P P2 HC HA hsc R F g h
end
theorem soundIter (it t : Expr) (ht : enumOk t it = true) {loc : Loc} {H : Hp} {KI : List V → (Hp → Prop) → Hp → Prop} (h : wIter S env.scope it loc H KI) {s : Shared} (R : Rel T H s) (F : Frm T env loc H s.heap) {Q : Value → Shared → Prop} {E : Value → Shared → Prop}
  (g:∀ xs gd H₁ I s₁ own St,KI xs gd H₁→Itr T A I t xs gd own St→St 0 s₁.heap→Rel T H₁ s₁→Ev H s.heap H₁ s₁.heap→(∀ b∈own,(H₁ b=none∧T.B b=none∧b≠env.locals)∧s.heap.get? b=none)→Q (.ref I) s₁) :
  wpAny T.M A (eval it env) (fun x s'=>wpAny T.M A (pyIter x) Q E s') E s:=it_all P P2 HC HA hsc R F g it ht h
theorem soundItems (hnc : ∀ x, env.scope.names.lookup x ≠ some .cell) {t : Expr} {body orelse : List Stmt} {I : Addr} {xs : List V} {gd : Hp → Prop} {own : List Addr} {St : Nat → Heap → Prop} (X : Itr T A I t xs gd own St) {E : Value → Shared → Prop}
  (hb:∀ {x:V} {loc:Loc} {H:Hp} {K:KS},(wA S env.scope t x loc H fun loc₁ H₁=>wSs S env.scope body loc₁ H₁ K)→∀ {s:Shared} {v:Value},Rel T H s→Frm T env loc H s.heap→VR T s.heap x v→∀ {Q:Flow→Shared→Prop} {E:Value→Shared→Prop},GoesS T env H s K Q →
   wpAny T.M A (assign t env v) (fun Z s₂=>wpAny T.M A (execs body env) Q E s₂) E s)
  (he:∀ {loc:Loc} {H:Hp} {K:KS},wSs S env.scope orelse loc H K→∀ {s:Shared},Rel T H s→Frm T env loc H s.heap→∀ {Q:Flow→Shared→Prop} {E:Value→Shared→Prop},GoesS T env H s K Q→wpAny T.M A (execs orelse env) Q E s)
  {loc:Loc} {H:Hp} {K:KS} (h:wItems gd (fun x loc H K=>wA S env.scope t x loc H fun loc₁ H₁=>wSs S env.scope body loc₁ H₁ K) (fun loc H K=>wSs S env.scope orelse loc H K) xs loc H K)
  {s:Shared} (R:Rel T H s) (F:Frm T env loc H s.heap) (st:St 0 s.heap) (ho:∀ b∈own,H b=none∧T.B b=none∧b≠env.locals) {H₀:Hp} {s₀:Shared} (ev₀:EvL env.locals H₀ s₀.heap H s.heap) (hown:∀ b∈own,s₀.heap.get? b=none) {Q:Flow→Shared→Prop} (g:GoesS T env H₀ s₀ K Q) :
  codeAny T.M A (.forLoop t (.ref I) body orelse env) (fun r s'=>match r with | .ok f=>Q f s' | .error e=>cameBackBy T.M A env E e s') s:=by
 let Inv:=ItI T env (fun r loc H=>wItems gd (fun x loc H K=>wA S env.scope t x loc H fun loc₁ H₁=>wSs S env.scope body loc₁ H₁ K) (fun loc H K=>wSs S env.scope orelse loc H K) r loc H K) St own xs H₀ s₀.heap
 refine codeAny_forLoop2 Inv ?_ xs.length (.mk (pre:=[]) rfl rfl h R F st ev₀ ho)
 intro m s' hI
 cases hI with | @mk i pre r loc' H' _ hp hxs h' R' F' st' ev' ho'=>?_
 have kp:∀ {h2:Heap} {tk:Nat} {C:Prop},(∀ b o,b ∉ own→s'.heap.get? b=some o→h2.get? b=some o)→(Rel T H' { s' with heap:=h2,toks:=tk }→Frm T env loc' H' h2→EvL env.locals H₀ s₀.heap H' h2→C)→C:=fun hk k =>
  let ⟨R2,fk⟩:=R'.own (fun b hb=>⟨(ho' b hb).1,(ho' b hb).2.1,X.nofix i _ st' b hb⟩) hk
  k R2 (F'.kept fk (fun o=>hk _ o fun hm=>(ho' _ hm).2.2 rfl) fun x Z Z q=>absurd q (hnc x)) (ev'.kept hown hk)
 cases r with
 | nil =>
   obtain rfl:=end_pre hp hxs
   exact wpAny_mono (X.done H' s' R' h'.1 st' (fun b hb=>(ho' b hb).1) (fun s₁=>wpAny T.M A (execs orelse env) (fun f s₃=>Q f s₃) (notedBy T.M A env fun e s'=>cameBackBy T.M A env E e s') s₁) _ fun h2 tk hk=>kp (tk:=tk) hk fun R2 F2 e2=>he h'.2 R2 F2 (g.after e2))
    (fun r s₁ z0=>by obtain ⟨e,hr⟩:=z0;refine e.symm▸?_;exact hr) fun Z Z x=>x
 | cons x r =>
   refine wpAny_mono (X.item i x (at_pre hp hxs) H' s' R' h'.1 st' (fun b hb => (ho' b hb).1) (fun v s₂ => wpAny T.M A (assign t env v) (fun Z s₃ => wpAny T.M A (execs body env) (fun f s₄ => match f with
      | .next | .cont=>∃ m,m < (x::r).length∧Inv m s₄
      | .brk=>Q .next s₄
      | .ret v=>Q (.ret v) s₄) (notedBy T.M A env fun e s'=>cameBackBy T.M A env E e s') s₃) (notedBy T.M A env fun e s'=>cameBackBy T.M A env E e s') s₂) _ fun v h2 tk hv st2 hk=>kp (tk:=tk) hk fun R2 F2 e2=>?_) (fun rr s₁ z0=>by obtain ⟨v,e,hr'⟩:=z0;refine e.symm▸?_;exact hr') fun Z Z x=>x
   refine hb h'.2 R2 F2 hv fun fl loc₃ H₃ f s₃ k₃ R₃ F₃ fr₃ e₃=>?_
   have ho4 : ∀ b ∈ own, H₃ b = none ∧ T.B b = none ∧ b ≠ env.locals := fun b hb => ⟨noneOf fun o hq => by
     rcases e₃.dom b o hq with ⟨o',e⟩ | l
     ·exact nomatch (ho' b hb).1.symm.trans e
     ·obtain ⟨o',e',_⟩:=X.nofix (i+1) _ st2 b hb
      exact (nomatch l.symm.trans e'),(ho' b hb).2⟩
   have st3:St (i+1) s₃.heap:=X.frame (i+1) _ _ st2 (fun b hb o e=>e₃.keep b o e (ho' b hb).1 (ho' b hb).2.2) (R2.fixL F2 e₃)
   have go:wItems gd (fun x loc H K=>wA S env.scope t x loc H fun loc₁ H₁=>wSs S env.scope body loc₁ H₁ K) (fun loc H K=>wSs S env.scope orelse loc H K) r loc₃ H₃ K→∃ m,m < (x::r).length∧Inv m s₃:=fun k =>
    ⟨r.length,Nat.lt_succ_self _,.mk (nx_len hp) (nx_pre hxs) k R₃ F₃ st3 (e2.trans e₃) ho4⟩
   cases fr₃ with
   | next=>exact go k₃
   | cont=>exact go k₃
   | brk=>exact g _ _ _ _ _ k₃ R₃ F₃ .next (e2.trans e₃)
   | ret rv=>exact g _ _ _ _ _ k₃ R₃ F₃ (.ret rv) (e2.trans e₃)
end
theorem zip_fst:∀ (a:List Str) (b:List V),a.length=b.length→(a.zip b).map (·.1)=a
 | [],_,_=>rfl
 | _::_,[],h=>by simp at h
 | x::a,y::b,h=>by simp [zip_fst a b (by simpa using h)]
theorem zip_snd:∀ (a:List Str) (b:List V),a.length=b.length→(a.zip b).map (·.2)=b
 | [],[],_=>rfl
 | [],_::_,h=>by simp at h
 | _::_,[],h=>by simp at h
 | x::a,y::b,h=>by simp [zip_snd a b (by simpa using h)]
section
variable {T:TI} {S:Sy} {n:Nat} (P:Prims T S) (P2:Prims2 T S) (HC:SoundS T S n) {A:Around} (HA:Rm (n+1) A) {env:Env} (hsc:EnvOk env)
include P P2 HC HA hsc
theorem soundAssign {ts : List Expr} {e : Expr} (hsw : swapOk ts e = true) {v : V} {loc : Loc} {H : Hp} {K : Loc → Hp → Prop} (h : wAs S env.scope ts v loc H K) {s : Shared} {u : Value} (R : Rel T H s) (F : Frm T env loc H s.heap) (hv : VR T s.heap v u) {Q : Flow → Shared → Prop} {E : Value → Shared → Prop}
  (g:∀ loc' H' s',K loc' H'→Rel T H' s'→Frm T env loc' H' s'.heap→EvL env.locals H s.heap H' s'.heap→Q .next s') :
  wpAny T.M A (do assignStores env u (← swappedStores ts e env) ((assignEach ts env).map (·.2))) Q E s:=by
 rcases swapped_says P P2 HC HA hsc hsw with hn | ⟨names,es,k,p,rfl,hn,hnd,hlen,hall⟩
 ·refine wpAny_bind (wpAny_of_eq hn ?_)
  show wpAny T.M A (do assignAll u ((assignEach ts env).map (·.2));pure Flow.next) Q E s
  exact wpAny_bind (soundAs P P2 HC HA hsc ts h R F hv fun loc' H' s' k R' F' e'=>wpAny_pure (g _ _ _ k R' F' e'))
 ·refine wpAny_bind (wpAny_of_eq hn ?_)
  obtain ⟨xs,loc',hi,hp,kk⟩:∃ xs loc',itemsV v=some xs∧putNames env.scope es xs loc=some loc'∧K loc' H:=h
  obtain ⟨hloc,hl2,hput⟩:=hall xs loc loc' hp
  show wpAny T.M A (do
   rule "assign.swapped-stores"
   let items ← unpackItems u names.length none
   assignInOrder (names.reverse.map fun n=>bindName env n) items.reverse
   pure Flow.next) Q E s
  refine wpAny_bind (wpAny_rule ?_)
  rw [hl2]
  refine wpAny_bind (P2.unpack A (HA.le (by omega)) v xs hi H s u R hv _ _ fun vs s₁ rs R₁ e₁=>?_)
  have hz1:=zip_fst names xs hl2
  have hz2:=zip_snd names xs hl2
  have hb:=soundBinds P P2 HC HA hsc ((names.zip xs).reverse) (fun p hp=>by
   rw [List.mem_reverse] at hp
   exact hloc p.1 (by rw [← hz1];exact List.mem_map_of_mem (f:=(·.1)) hp)) R₁ (F.ev R e₁) (vs:=vs.reverse) (by rw [List.map_reverse,hz2];exact rs.reverse)
   (Q:=fun Z s₂=>Q .next s₂) (E:=E) (fun s₂ R₂ F₂ e₂=>g loc' H s₂ kk R₂ (F₂.congr fun x=>by
    rw [hput,putAll_get _ _ _ (by rw [hz1];exact hnd),putAll_get _ _ _ (by rw [List.map_reverse,hz1];exact List.pairwise_reverse.mpr (hnd.imp Ne.symm)),lookup_reverse _ _ (by rw [hz1];exact hnd)]) (e₁.toL.trans e₂))
  rw [List.map_reverse,hz1] at hb
  exact wpAny_bind (wpAny_mono hb (fun Z s₂ h₂=>wpAny_pure h₂) fun Z Z x=>x)
variable (hnc:∀ x,env.scope.names.lookup x≠some .cell)
include hnc
omit P P2 HC HA hsc hnc in
def SS (T:TI) (S:Sy) (A:Around) (env:Env) (st:Stmt):Prop:=∀ ⦃loc:Loc⦄ ⦃H:Hp⦄ ⦃K:KS⦄,wS S env.scope st loc H K→∀ ⦃s:Shared⦄,Rel T H s→Frm T env loc H s.heap→∀ ⦃Q:Flow→Shared→Prop⦄ ⦃E:Value→Shared→Prop⦄,GoesS T env H s K Q→wpAny T.M A (exec st env) Q E s
def SSs (T:TI) (S:Sy) (A:Around) (env:Env) (sts:List Stmt):Prop:=∀ ⦃loc:Loc⦄ ⦃H:Hp⦄ ⦃K:KS⦄,wSs S env.scope sts loc H K→∀ ⦃s:Shared⦄,Rel T H s→Frm T env loc H s.heap→∀ ⦃Q:Flow→Shared→Prop⦄ ⦃E:Value→Shared→Prop⦄,GoesS T env H s K Q→wpAny T.M A (execs sts env) Q E s
omit P P2 HC HA hsc hnc in
theorem dropV {e:Expr} {p:Pos} {v:Value} {s:Shared} {Q:Flow→Shared→Prop} {E:Value→Shared→Prop} (h:Q .next s):wpAny T.M A (dropValue e p v) Q E s:=by
 cases v with
 | ref a =>
   have key:wpAny T.M A (do standAt p;let _ ← runValue (.builtin "proto.let_go" {});pure Flow.next) Q E s :=
    wpAny_bind (wpAny_standAt (wpAny_bind (wpAny_runValue (codeAny_builtin entry_let_go (show wpAny _ _ (ret .none) _ _ s from wpAny_pure (wpAny_pure h))))))
   cases e <;> first | exact key | exact wpAny_pure h
 | _=>(rw [dropValue_plain (by intro a q;cases q)];exact wpAny_pure h)
theorem ss_Expr (e:Expr) (p:Pos):SS T S A env (.Expr e p):=fun loc H K h s R F Q E g=>by
 have hc:isComp e=false:=by cases e <;> first | rfl | exact False.elim h | exact False.elim h.1
 have h':wE S env.scope e loc H fun Z H₁=>K .next loc H₁:=by
  cases e with
  | Constant c _ _=>cases c <;> exact h
  | _=>first | exact h | exact False.elim h
 have hi:interactive env=false:=by
  refine (?_:(env.scope.kind==.module&&_)=false)
  refine hsc.kind.symm▸?_;rfl
 refine (exec_Expr _ e p hi (swaps_false hc _ _ _)).symm▸?_
 exact wpAny_bind (wpAny_standAt (wpAny_bind (soundE P HC HA hsc e h' R F fun x H₁ v s₁ k₁ R₁ rv e₁=>dropV (g _ _ _ _ _ k₁ R₁ (F.ev R e₁) .next e₁.toL))))
theorem ss_Assign (ts:List Expr) (e:Expr) (p:Pos):SS T S A env (.Assign ts e p):=fun loc H K h s R F Q E g=>by
 have h:if isComp e=true then S.LS env.scope (.Assign ts e p) loc H K else swapOk ts e=true∧wE S env.scope e loc H fun v H₁=>wAs S env.scope ts v loc H₁ fun loc₂ H₂=>K .next loc₂ H₂:=h
 by_cases hic:isComp e=true
 case pos=>rw [if_pos hic] at h;exact P2.extS A (HA.le (Nat.succ_le_succ HC.1)) env hsc _ loc H K h s R F Q E g
 rw [if_neg hic] at h
 obtain ⟨hsw,h⟩:=h
 have hic:isComp e=false:=Bool.eq_false_iff.mpr hic
 rw [arm_exec_Assign]
 refine wpAny_bind (wpAny_standAt (wpAny_bind (wpAny_of_eq (swapsSole_false hic _ _ _) ?_)))
 refine wpAny_bind (soundE P HC HA hsc e h R F fun x H₁ v s₁ k₁ R₁ rv e₁=>?_)
 exact soundAssign P P2 HC HA hsc hsw k₁ R₁ (F.ev R e₁) rv fun loc' H' s' k R' F' e'=>g _ _ _ _ _ k R' F' .next (e₁.toL.trans e')
theorem ss_Aug (x:Str) (p':Pos) (op:Operator) (e:Expr) (p:Pos):SS T S A env (.AugAssign (.Name x p') op e p):=fun loc H K h s R F Q E g=>by
 obtain ⟨v,hx,hv,h⟩:∃ v,env.scope.names.lookup x=some .local∧loc.get x=some v∧wE S env.scope e loc H fun u H₁=>(op=.Add∨op=.Sub)∧∃ i j,v=.int i∧u=.int j∧wBin op (.int i) (.int j) H₁ fun r H₂=>K .next (loc.put x r) H₂:=h
 obtain ⟨m,hn,hm⟩:=F.ns
 obtain ⟨u,hu,vu⟩:=hm x v hv hx
 refine wpAny_AugAssign_Name (wpAny_loadName_local (env:=env) hsc.kind hx hn hu (soundE P HC HA hsc e h R F fun y H₁ w s₁ k₁ R₁ rw₁ e₁=>?_))
 obtain ⟨hop,i,j,rfl,rfl,kb⟩:=k₁
 refine P.ibin A (HA.le (Nat.le_add_left 1 n)) op i j H₁ _ hop kb s₁ u w R₁ (vu.mono (R.fix e₁)) rw₁ _ _ fun r H₂ z s₂ k₂ R₂ rz e₂=>?_
 exact soundStore P P2 HC HA hsc hx R₂ (F.ev R (e₁.trans e₂)) rz fun s₃ R₃ F₃ e₃=>g _ _ _ _ _ k₂ R₃ F₃ .next ((e₁.trans e₂).toL.trans e₃)
theorem ss_If {b o:List Stmt} (ib:SSs T S A env b) (io:SSs T S A env o) (t:Expr) (p:Pos):SS T S A env (.If t b o p):=fun loc H K h s R F Q E g=>by
 have h:wT S env.scope t loc (fun H K=>wE S env.scope t loc H K) H fun x H₁=>(x=true→wSs S env.scope b loc H₁ K)∧(x=false→wSs S env.scope o loc H₁ K):=h
 refine wpAny_If (soundT P HC HA hsc t h R F (fun H' K' s' h' R' F' Q' g'=>soundE P HC HA hsc t h' R' F' g') fun x H₁ s₁ k₁ R₁ e₁=>?_)
 cases x with
 | true=>exact ib (k₁.1 rfl) R₁ (F.ev R e₁) (g.after e₁.toL)
 | false=>exact io (k₁.2 rfl) R₁ (F.ev R e₁) (g.after e₁.toL)
theorem ss_While {b:List Stmt} (ib:SSs T S A env b) (t:Expr) (p:Pos):SS T S A env (.While t b [] p):=fun loc H K h s R F Q E g=>by
 obtain ⟨WT,hWT⟩:∃ WT,WT=(fun loc H K=>wT S env.scope t loc (fun H K=>wE S env.scope t loc H K) H K):=⟨_,rfl⟩
 obtain ⟨WB,hWB⟩:∃ WB,WB=(fun loc H K=>wSs S env.scope b loc H K):=⟨_,rfl⟩
 obtain ⟨m,h⟩:∃ n,wWh (fun loc H K=>wT S env.scope t loc (fun H K=>wE S env.scope t loc H K) H K) (fun loc H K=>wSs S env.scope b loc H K) n loc H K:=h
 rw [← hWT,← hWB] at h
 have hT:∀ loc H K,WT loc H K→wT S env.scope t loc (fun H K=>wE S env.scope t loc H K) H K:=fun Z Z Z h=>by rw [hWT] at h;exact h
 have hB:∀ loc H K,WB loc H K→wSs S env.scope b loc H K:=fun Z Z Z h=>by rw [hWB] at h;exact h
 clear hWT hWB
 refine wpAny_While (codeAny_whileLoop (fun m s'=>∃ loc' H',wWh WT WB m loc' H' K∧Rel T H' s'∧Frm T env loc' H' s'.heap∧EvL env.locals H s.heap H' s'.heap) ?_ m ⟨loc,H,h,R,F,EvL.refl _ _ _⟩)
 rintro m' s' ⟨loc',H',h',R',F',e'⟩
 cases m' with
 | zero=>exact False.elim h'
 | succ m' =>
   have h':WT loc' H' fun b' H₁=>(b'=false→K .next loc' H₁)∧(b'=true→WB loc' H₁ fun fl loc₂ H₂=>match fl with
    | .next=>wWh WT WB m' loc₂ H₂ K
    | .cont=>wWh WT WB m' loc₂ H₂ K
    | .brk=>K .next loc₂ H₂
    | .ret v=>K (.ret v) loc₂ H₂):=h'
   refine soundT P HC HA hsc t (hT _ _ _ h') R' F' (fun H' K' s' h' R' F' Q' g'=>soundE P HC HA hsc t h' R' F' g') fun x H₁ s₁ k₁ R₁ e₁=>?_
   cases x with
   | false=>exact wpAny_execs_nil (g _ _ _ _ _ (k₁.1 rfl) R₁ (F'.ev R' e₁) .next (e'.trans e₁.toL))
   | true =>
     refine ib (hB _ _ _ (k₁.2 rfl)) R₁ (F'.ev R' e₁) fun fl loc₂ H₂ f s₂ k₂ R₂ F₂ fr₂ e₂=>?_
     have e3:=e'.trans (e₁.toL.trans e₂)
     cases fr₂ with
     | next=>exact ⟨m',Nat.lt_succ_self _,loc₂,H₂,k₂,R₂,F₂,e3⟩
     | cont=>exact ⟨m',Nat.lt_succ_self _,loc₂,H₂,k₂,R₂,F₂,e3⟩
     | brk=>exact g _ _ _ _ _ k₂ R₂ F₂ .next e3
     | ret rv=>exact g _ _ _ _ _ k₂ R₂ F₂ (.ret rv) e3
theorem ss_For {b o:List Stmt} (ib:SSs T S A env b) (io:SSs T S A env o) (t it:Expr) (p:Pos):SS T S A env (.For t it b o p):=fun loc H K h s R F Q E g=>by
 obtain ⟨hns,hen,h⟩:notSet it=true∧enumOk t it=true∧wIter S env.scope it loc H fun xs g H₁=>wItems g (fun x loc H K=>wA S env.scope t x loc H fun loc₁ H₁=>wSs S env.scope b loc₁ H₁ K) (fun loc H K=>wSs S env.scope o loc H K) xs loc H₁ K:=h
 refine wpAny_For (soundIter P P2 HC HA hsc it t hen h R F fun xs gd H₁ I s₁ own St k₁ X st R₁ e₁ ho=>?_) (foldedSet_ok hns _)
 exact soundItems P P2 HC HA hsc hnc X (E:=E)
  (fun {x loc H K} h' {s v} R' F' rv {Q E} g'=>soundA P P2 HC HA hsc t h' R' F' rv fun loc₂ H₂ s₂ k₂ R₂ F₂ e₂=>ib k₂ R₂ F₂ (g'.after e₂))
  (fun {loc H K} h' {s} R' F' {Q E} g'=>io h' R' F' g') k₁ R₁ (F.ev R e₁) st (fun b hb=>(ho b hb).1) e₁.toL (fun b hb=>(ho b hb).2) g
omit P P2 HC HA hsc hnc in
theorem ss_dead {st:Stmt} (h':∀ loc H K,wS S env.scope st loc H K→False):SS T S A env st:=fun loc H K h s R F Q E g=>(h' _ _ _ h).elim
omit P P2 HC HA hsc hnc in
theorem sss_nil:SSs T S A env []:=fun loc H K h s R F Q E g=>wpAny_execs_nil (g _ _ _ _ _ h R F .next (EvL.refl _ _ _))
omit P P2 HC HA hsc hnc in
theorem sss_cons {st:Stmt} {r:List Stmt} (is:SS T S A env st) (ir:SSs T S A env r):SSs T S A env (st::r):=fun loc H K h s R F Q E g=>by
 have h:wS S env.scope st loc H fun fl loc₁ H₁=>match fl with
  | .next=>wSs S env.scope r loc₁ H₁ K
  | f=>K f loc₁ H₁:=h
 refine wpAny_execs_cons (is h R F fun fl loc₁ H₁ f s₁ k₁ R₁ F₁ fr₁ e₁=>?_)
 cases fr₁ with
 | next=>exact ir k₁ R₁ F₁ (g.after e₁)
 | brk=>exact g _ _ _ _ _ k₁ R₁ F₁ .brk e₁
 | cont=>exact g _ _ _ _ _ k₁ R₁ F₁ .cont e₁
 | ret rv=>exact g _ _ _ _ _ k₁ R₁ F₁ (.ret rv) e₁
mutual
theorem soundS' (st:Stmt):SS T S A env st:=by
 cases st with
 | Expr e p=>exact ss_Expr P P2 HC HA hsc hnc e p
 | Pass p=>exact fun loc H K h s R F Q E g=>wpAny_Pass (g _ _ _ _ _ h R F .next (EvL.refl _ _ _))
 | Break p=>exact fun loc H K h s R F Q E g=>wpAny_Break (g _ _ _ _ _ h R F .brk (EvL.refl _ _ _))
 | Continue p=>exact fun loc H K h s R F Q E g=>wpAny_Continue (g _ _ _ _ _ h R F .cont (EvL.refl _ _ _))
 | Return e p =>
   cases e with
   | none=>exact fun loc H K h s R F Q E g=>wpAny_Return_none (g _ _ _ _ _ h R F (.ret .none) (EvL.refl _ _ _))
   | some e=>exact fun loc H K h s R F Q E g=>wpAny_Return_some (soundE P HC HA hsc e h R F fun x H₁ v s₁ k₁ R₁ rv e₁=>g _ _ _ _ _ k₁ R₁ (F.ev R e₁) (.ret rv) e₁.toL)
 | Assign ts e p=>exact ss_Assign P P2 HC HA hsc hnc ts e p
 | AugAssign t op e p =>
   cases t with
   | Name x p'=>exact ss_Aug P P2 HC HA hsc hnc x p' op e p
   | _=>(refine ss_dead ?_;exact fun Z Z Z h=>h)
 | If t b o p=>exact ss_If P P2 HC HA hsc hnc (soundSs' b) (soundSs' o) t p
 | While t b o p =>
   cases o with
   | nil=>exact ss_While P P2 HC HA hsc hnc (soundSs' b) t p
   | cons _ _=>(refine ss_dead ?_;exact fun Z Z Z h=>h)
 | For t it b o p=>exact ss_For P P2 HC HA hsc hnc (soundSs' b) (soundSs' o) t it p
 | _=>(refine ss_dead ?_;exact fun Z Z Z h=>h)
termination_by sizeOf st
decreasing_by
 all_goals first
  | ((first | refine Nat.lt_of_lt_of_eq ?_ (Stmt.If.sizeOf_spec ..).symm | refine Nat.lt_of_lt_of_eq ?_ (Stmt.While.sizeOf_spec ..).symm | refine Nat.lt_of_lt_of_eq ?_ (Stmt.For.sizeOf_spec ..).symm)
     repeat (first | exact szl Nat.one_pos | exact szl (sz0 Nat.one_pos) | exact szl (sz0 (sz0 Nat.one_pos)) | exact szl (sz0 (sz0 (sz0 Nat.one_pos))) | apply szr)
     done)
  | (simp;omega)
theorem soundSs' (sts:List Stmt):SSs T S A env sts:=by
 cases sts with
 | nil=>exact sss_nil
 | cons st r=>exact sss_cons (soundS' st) (soundSs' r)
termination_by sizeOf sts
decreasing_by
 all_goals
  refine Nat.lt_of_lt_of_eq ?_ (List.cons.sizeOf_spec ..).symm
  repeat (first | exact szl Nat.one_pos | exact szl (sz0 Nat.one_pos) | apply szr)
end
theorem soundS (st:Stmt) {loc:Loc} {H:Hp} {K:KS} (h:wS S env.scope st loc H K) {s:Shared} (R:Rel T H s) (F:Frm T env loc H s.heap) {Q:Flow→Shared→Prop} {E:Value→Shared→Prop} (g:GoesS T env H s K Q):wpAny T.M A (exec st env) Q E s:=soundS' P P2 HC HA hsc hnc st h R F g
theorem soundSs (sts:List Stmt) {loc:Loc} {H:Hp} {K:KS} (h:wSs S env.scope sts loc H K) {s:Shared} (R:Rel T H s) (F:Frm T env loc H s.heap) {Q:Flow→Shared→Prop} {E:Value→Shared→Prop} (g:GoesS T env H s K Q):wpAny T.M A (execs sts env) Q E s:=soundSs' P P2 HC HA hsc hnc sts h R F g
end
theorem int_rmul_bool_list (b : Bool) (l : Addr) (items : Array Value) (n : Nat) :
  Meets (Builtin.«int.__rmul__» ⟨[.bool b,.ref l],[]⟩) (fun Z R s=>s.heap.get? l=some { cls:=.type "list",dict:=none,data:=.seq items n,slots:=#[] }∧R (.ok (.ret Value.notImplemented)) s) :=
 .of_wp fun prog w A R s h=>by obtain ⟨hp,g,d,tk,os⟩:=s;obtain ⟨hl,h⟩:=h;wp_walk;exact ⟨_,rfl,h⟩
theorem joined_bool (items:Array Value) (b:Bool):(List.foldl (fun x1 x2=>x1++x2) #[] (List.replicate (if items.isEmpty=true then 0 else (if b then (1:Int) else 0).toNat) items))=(if b then items else #[]):=by
 cases b
 ·simp
 ·by_cases he:items.isEmpty=true
  ·simp at he;simp [he]
  ·simp [he]
theorem list_mul_bool (l : Addr) (items : Array Value) (n : Nat) (b : Bool) (hsz : items.size ≤ 4096) :
  Meets (Builtin.«list.__mul__» ⟨[.ref l,.bool b],[]⟩) (fun Z R s=>s.heap.get? l=some { cls:=.type "list",dict:=none,data:=.seq items n,slots:=#[] } ∧ 
   R (.ok (.ret (.ref s.heap.objs.size))) { s with heap:=s.heap.push { cls:=.type "list",data:=.seq (if b then items else #[]) } }) :=
 .of_wp fun prog w A R s h=>by
  obtain ⟨hp,g,d,tk,os⟩:=s;obtain ⟨hl,h⟩:=h
  rw [← joined_bool] at h
  have hx:(if b then (1:Int) else 0).toNat≤1:=by cases b <;> simp
  have hm:items.size * (if b then (1:Int) else 0).toNat≤4096:=Nat.le_trans (Nat.mul_le_mul_left _ hx) (Nat.le_trans (Nat.le_of_eq (Nat.mul_one _)) hsz)
  have hc0:¬(!Builtin.List.listFitsIndex (if b then (1:Int) else 0))=true:=by cases b <;> decide
  have hc1:¬items.size * (if b then (1:Int) else 0).toNat > (2 ^ 63 - 1) / 8:=Nat.not_lt.mpr (Nat.le_trans hm (by decide))
  have hc2:¬Builtin.List.listTooLong (items.size * (if b then (1:Int) else 0).toNat)=true:=fun q=>absurd (of_decide_eq_true q) (Nat.not_lt.mpr (Nat.le_trans hm (by decide)))
  have hsz:=PySem.AutoListH.joined_fits hc2
  wp_walk;refine wpAny_ite_false (decide_eq_false (Nat.not_lt.mpr hsz)) ?_;wp_walk;exact ⟨_,rfl,h⟩
section
variable {T:TI} {A:Around} {H:Hp} {s:Shared} {Q:Value→Shared→Prop} {E:Value→Shared→Prop}
theorem mul_list_bool {l : Addr} {items : Array Value} {k : Nat} {b : Bool} (hl : IsL s.heap l items k) (hsz : items.size ≤ 4096)
  (h:Q (.ref s.heap.objs.size) { s with heap:=s.heap.push { cls:=.type "list",data:=.seq (if b then items else #[]) } }) :
  wpAny T.M A (binaryOp .Mult (.ref l) (.bool b)) Q E s :=
 wpAny_binaryOp_repeat_ref (T := "list") (U := "bool") rfl ⟨_,hl,rfl⟩ (fun s'=>typeIs_bool' s' b) noFill_list_mul F.fills_bool_mul F.slot_bool_rmul repeat_list F.slot_bool_index.lookup
  (call_meets F.slot_bool_rmul (typeIs_bool' s b) F.entry_int_rmul (F.args_int_rmul_2 _ _) (int_rmul_bool_list b l items k)
   ⟨hl,rfl,⟨_,hl,rfl⟩,call_meets F.slot_list_mul ⟨_,hl,rfl⟩ F.entry_list_mul (F.args_list_mul_2 _ _)
    (list_mul_bool l items k b hsz) ⟨hl,h⟩⟩)
omit T A s Q E H in
theorem ii_inv {a b:V} {P:Int→Int→Prop} (h:ii a b P):∃ x y,a=.int x∧b=.int y∧P x y:=by
 cases a with
 | int x =>
   cases b with
   | int y=>exact ⟨x,y,rfl,rfl,h⟩
   | _=>exact False.elim h
 | _=>exact False.elim h
def BinG (T:TI) (A:Around) (s:Shared) (Q:Value→Shared→Prop) (E:Value→Shared→Prop) (op:Operator) (a b:V):Prop:=∀ va vb,VR T s.heap a va→VR T s.heap b vb→wpAny T.M A (binaryOp op va vb) Q E s
theorem bin_ii {op:Operator} {a b:V} {P:Int→Int→Prop} (h:ii a b P) (k:∀ x y t u,P x y→wpAny T.M A (binaryOp op (.int x t) (.int y u)) Q E s):BinG T A s Q E op a b:=fun va vb ra rb=>by
 obtain ⟨x,y,rfl,rfl,h⟩:=ii_inv h
 obtain ⟨_,rfl⟩:=ra.iI;obtain ⟨_,rfl⟩:=rb.iI
 exact k _ _ _ _ h
theorem bin_int {K:KV} (R:Rel T H s) (g:Goes T H s K Q) {i:Int} (h:K (.int i) H):Q (.int i s.toks) { s with toks:=s.toks+1 }:=g _ _ _ _ h (R.toks _) (.int _ _) (Ev.refl _ _)
theorem small_log {y:Int} (h1:0 < y) (h2:y < small):y.natAbs.log2 < 62:=by
 unfold small at h2
 exact (Nat.log2_lt (Int.natAbs_ne_zero.mpr (Int.ne_of_gt h1))).mpr (Int.ofNat_lt.mp (by rw [Int.natAbs_of_nonneg (Int.le_of_lt h1)];exact Int.lt_of_lt_of_le h2 (by decide)))
theorem pow_small {x y:Int} (h1:0≤x) (h2:x < 1024) (h3:0≤y) (h4:y < 1024):(Builtin.Int.intBits x:Int) * y≤64 * 1024:=by
 have:Builtin.Int.intBits x≤64:=intBits_le_64 (by omega) (by omega)
 exact Int.mul_le_mul (by omega) (by omega) h3 (by omega)
theorem bin_add {a b:V} {K:KV} (h:wAdd a b H K) (R:Rel T H s) (g:Goes T H s K Q):BinG T A s Q E .Add a b:=by
 cases a with
 | int x =>
   cases b with
   | int y=>exact fun va vb ra rb=>by obtain ⟨_,rfl⟩:=ra.iI;obtain ⟨_,rfl⟩:=rb.iI;exact wpAny_add_int (bin_int R g h)
   | _=>exact False.elim h
 | str x =>
   cases b with
   | str y=>exact fun va vb ra rb=>by obtain ⟨_,rfl⟩:=ra.iS;obtain ⟨_,rfl⟩:=rb.iS;exact PyProof.Rows.add_str (fun t' tk=>g _ _ _ _ h.2 (R.toks _) (.str _ _) (Ev.refl _ _)) h.1
   | _=>exact False.elim h
 | obj x =>
   cases b with
   | obj y =>
     intro va vb ra rb
     obtain rfl:=ra.iO;obtain rfl:=rb.iO
     obtain ⟨xs,ys,ha,hb,hsz,h⟩:=h
     obtain ⟨vs,n,ga,rs⟩:=R.objs _ _ ha
     obtain ⟨us,m,gb,rt⟩:=R.objs _ _ hb
     refine PySem.P.add_list ga gb ?_ (by show vs.length+us.length≤_;rw [← rs.length,← rt.length];exact Nat.le_trans hsz (by decide))
     refine g _ _ _ _ (h _ R.top) (R.alloc (n:=s.toks) ⟨vs++us,0,?_,(rs.append rt).mono (FixKeep.push T _ _)⟩) (.obj _) (Ev.alloc _ _)
     rw [Heap.get?_push_size _ rfl];simp
   | _=>exact False.elim h
 | _=>exact False.elim h
theorem bin_mul {a b:V} {K:KV} (h:wMul a b H K) (R:Rel T H s) (g:Goes T H s K Q):BinG T A s Q E .Mult a b:=by
 cases a with
 | int x =>
   cases b with
   | int y =>
     intro va vb ra rb
     obtain ⟨_,rfl⟩:=ra.iI;obtain ⟨_,rfl⟩:=rb.iI
     obtain ⟨⟨h1,h2,h3,h4⟩,h⟩:=h
     exact PyProof.Rows.mul_int (bin_int R g h) (IntMulOk.of_left (intBits_le_64 (Int.lt_trans (by decide) h1) (Int.lt_trans h2 (by decide))))
   | _=>exact False.elim h
 | obj x =>
   cases b with
   | bool b =>
     intro va vb ra rb
     obtain rfl:=ra.iO;obtain rfl:=rb.iB
     obtain ⟨xs,ha,hsz,h⟩:=h
     obtain ⟨vs,n,ga,rs⟩:=R.objs _ _ ha
     refine mul_list_bool ga (Nat.le_trans (Nat.le_of_eq rs.length.symm) hsz) ?_
     refine g _ _ _ _ (h _ R.top) (R.alloc (n:=s.toks) ⟨if b then vs else [],0,?_,?_⟩) (.obj _) (Ev.alloc _ _)
     ·rw [Heap.get?_push_size _ rfl];cases b <;> simp
     ·cases b
      ·exact .nil
      ·exact rs.mono (FixKeep.push T _ _)
   | _=>exact False.elim h
 | _=>exact False.elim h
theorem prim_bin (HA : Rm 1 A) {op : Operator} {a b : V} {K : KV} (h : wBin op a b H K) {va vb : Value} (R : Rel T H s) (ra : VR T s.heap a va) (rb : VR T s.heap b vb) (g : Goes T H s K Q) :
  wpAny T.M A (binaryOp op va vb) Q E s:=by
 refine (?_:BinG T A s Q E op a b) va vb ra rb
 cases op
 case Add=>exact bin_add h R g
 case Mult=>exact bin_mul h R g
 case Sub=>exact bin_ii h fun x y t u h=>PyProof.Rows.sub_int (bin_int R g h)
 case FloorDiv=>exact bin_ii h fun x y t u h=>floordiv_int (by omega) (bin_int R g h.2) (Or.inl (PyProof.noPylong_of_log2 (Nat.lt_of_lt_of_le (small_log h.1.1 h.1.2) (by decide))))
 case Mod=>exact bin_ii h fun x y t u h=>mod_int' (by omega) (bin_int R g h.2)
 case Pow=>exact bin_ii h fun x y t u h=>pow_int h.1.2.2.1 (Int.le_trans (pow_small h.1.1 h.1.2.1 h.1.2.2.1 h.1.2.2.2) (by decide)) (bin_int R g h.2)
 case BitAnd=>exact bin_ii h fun x y t u h=>and_int (bin_int R g h)
 case BitOr=>exact bin_ii h fun x y t u h=>or_int (bin_int R g h)
 case RShift=>exact bin_ii h fun x y t u h=>rshift_int h.1 (bin_int R g h.2)
 all_goals exact False.elim h
theorem prim_ibin (HA : Rm 1 A) {op : Operator} {i j : Int} {K : KV} (ho : op = .Add ∨ op = .Sub) (h : wBin op (.int i) (.int j) H K) {va vb : Value} (R : Rel T H s) (ra : VR T s.heap (.int i) va) (rb : VR T s.heap (.int j) vb) (g : Goes T H s K Q) :
  wpAny T.M A (inplaceOp op va vb) Q E s:=by
 obtain ⟨_,rfl⟩:=ra.iI;obtain ⟨_,rfl⟩:=rb.iI
 rcases ho with rfl | rfl
 ·exact wpAny_iadd_int (g _ _ _ _ h (R.toks _) (.int _ _) (Ev.refl _ _))
 ·exact PyProof.Rows.isub_int (g _ _ _ _ h (R.toks _) (.int _ _) (Ev.refl _ _))
theorem truth_inv {x:V} {b:Bool} {P:V→Bool→Prop} (h0:P .none false) (h1:∀ b,P (.bool b) b) (h2:∀ i,P (.int i) (!(i==0))) (h3:∀ a xs,H a=some (.list xs)→xs.length≤4096→P (.obj a) (!xs.isEmpty)) (h:truthV H x=some b):P x b:=by
 cases x with
 | none=>exact Option.some.inj h▸h0
 | bool=>exact Option.some.inj h▸h1 _
 | int=>exact Option.some.inj h▸h2 _
 | obj a =>
   unfold truthV at h
   dsimp only at h
   cases q:H a with
   | none=>rw [q] at h;exact nomatch h
   | some o =>
     rw [q] at h
     cases o with
     | list xs =>
       obtain ⟨h4,e⟩:=ite_some h
       exact Option.some.inj e▸h3 a xs q h4
     | _=>first | exact nn h
 | _=>first | exact nn h
theorem prim_truth {x:V} {b:Bool} (h:truthV H x=some b) {v:Value} (R:Rel T H s) (rx:VR T s.heap x v) {Q:Bool→Shared→Prop} (g:∀ tk,Q b { s with toks:=tk }):wpAny T.M A (truthy v) Q E s:=by
 refine truth_inv (P:=fun x b=>VR T s.heap x v→(∀ tk,Q b { s with toks:=tk })→wpAny T.M A (truthy v) Q E s) (fun rx g=>?_) (fun b rx g=>?_) (fun i rx g=>?_) (fun a xs hx hl rx g=>?_) h rx g
 ·exact rx.iN▸truthy_none (g s.toks)
 ·exact rx.iB▸wpAny_truthy_bool (g s.toks)
 ·obtain ⟨_,rfl⟩:=rx.iI;exact PyProof.Rows.truthy_int (g s.toks)
 ·obtain rfl:=rx.iO
  obtain ⟨vs,n,ga,rs⟩:=R.objs _ _ hx
  have e:(!xs.isEmpty)=!vs.toArray.isEmpty:=by
   cases rs with
   | nil=>rfl
   | cons a b=>rfl
  exact wpAny_truthy_list (items:=vs.toArray) ⟨_,ga,rfl,n,rfl⟩ (Int.lt_of_le_of_lt (Int.ofNat_le.mpr (Nat.le_trans (Nat.le_of_eq rs.length.symm) hl)) (by decide)) (e▸g _)
end
open AutoSeq1 (wpAny_loadPart')
theorem rc_lt_str {prog : Program} {w : World} {A : Around} {E : Value → Shared → Prop} {s : Shared} {x y : Str} {t u : Tok} {Q : Value → Shared → Prop} (h : Q (.bool (slt x y)) s) :
  wpAny (model prog w) A (richCompare .Lt (.str x t) (.str y u)) Q E s:=PyProof.Rows.lt_str (A:=A) (by unfold slt at h;exact h)
noncomputable def ltStrs (x u y v:Str):Bool:=if x==y then (if u==v then false else slt u v) else slt x y
theorem tuple_lt_strs (l b : Addr) (n n2 : Nat) (dd dd2 : Option Addr) (sl sl2 : Array (Option Value)) (x u y v : Str) (t1 t2 t3 t4 : Tok) :
  Meets (Builtin.«tuple.__lt__» ⟨[.ref l,.ref b],[]⟩)
   (fun A R s=>s.heap.get? l=some { cls:=.type "tuple",dict:=dd,data:=.seq #[.str x t1,.str u t2] n,slots:=sl }∧s.heap.get? b=some { cls:=.type "tuple",dict:=dd2,data:=.seq #[.str y t3,.str v t4] n2,slots:=sl2 } ∧
    R (.ok (.ret (.bool (ltStrs x u y v)))) s) :=
 .of_wp fun prog w A R s h=>by
  obtain ⟨hp,g,d,tk,os⟩:=s;obtain ⟨hl,hb,h⟩:=h
  have f2:=AutoSeq1.sub_tuple_tuple
  wp_walk using wpAny_loadPart' hl,wpAny_loadPart' hb,wpAny_forIn_list _ (fun rest b s'=>b.1=none∧s'=⟨hp,g,d,tk,os⟩ ∧
   (rest=[(Value.str x t1,Value.str y t3),(Value.str u t2,Value.str v t4)]∨((x==y)=true∧rest=[(Value.str u t2,Value.str v t4)])∨((x==y)=true∧(u==v)=true∧rest=[]))) _
  case turn =>
   rintro ⟨a1,a2⟩ rest b s' ⟨hb',rfl,hr⟩
   rcases hr with hr | ⟨e1,hr⟩ | ⟨e1,e2,hr⟩
   ·cases hr
    refine wpAny_bind (eqBool_str ?_)
    cases e1:(x==y) with
    | true=>exact wpAny_pure ⟨rfl,rfl,.inr (.inl ⟨rfl,rfl⟩)⟩
    | false =>
      refine wpAny_bind (wpAny_rule (wpAny_bind (rc_lt_str (wpAny_bind (wpAny_pure (wpAny_pure ?_))))))
      refine wpAny_pure ⟨_,rfl,?_⟩
      unfold ltStrs at h
      rw [e1] at h
      exact h
   ·cases hr
    refine wpAny_bind (eqBool_str ?_)
    cases e2:(u==v) with
    | true=>exact wpAny_pure ⟨rfl,rfl,.inr (.inr ⟨e1,rfl,rfl⟩)⟩
    | false =>
      refine wpAny_bind (wpAny_rule (wpAny_bind (rc_lt_str (wpAny_bind (wpAny_pure (wpAny_pure ?_))))))
      refine wpAny_pure ⟨_,rfl,?_⟩
      unfold ltStrs at h
      rw [e1,e2] at h
      exact h
   ·cases hr
  case fin =>
   rintro ⟨b1,b2⟩ s' ⟨hb',rfl,hr⟩
   rcases hr with hr | ⟨e1,hr⟩ | ⟨e1,e2,hr⟩
   ·cases hr
   ·cases hr
   ·simp only at hb'
    subst hb'
    refine wpAny_pure ⟨_,rfl,?_⟩
    unfold ltStrs at h
    rw [e1,e2] at h
    exact h
  case h=>exact ⟨rfl,rfl,.inl rfl⟩
section
variable {T:TI} {A:Around} {H:Hp} {s:Shared} {Q:Value→Shared→Prop} {E:Value→Shared→Prop}
theorem lt_tuple_strs {l b : Addr} {x u y v : Str} {t1 t2 t3 t4 : Tok} (hl : IsTup s.heap l #[.str x t1, .str u t2]) (hb : IsTup s.heap b #[.str y t3, .str v t4]) (hu : A.units < cLine)
  (h:Q (.bool (ltStrs x u y v)) s):wpAny T.M A (compareOp .Lt (.ref l) (.ref b)) Q E s:=by
 refine (?_:wpAny _ _ (richCompare .Lt (.ref l) (.ref b)) Q E s)
 have hl':=hl;have hb':=hb
 obtain ⟨⟨c,dd,dt,sl⟩,ho,hc,n,hd⟩:=hl'
 obtain ⟨⟨c2,dd2,dt2,sl2⟩,ho2,hc2,n2,hd2⟩:=hb'
 cases hc;cases hd;cases hc2;cases hd2
 refine wpAny_richCompare_same_room (op:=.Lt) (T := "tuple") hl.typeIs hb.typeIs F.slot_tuple_lt ?_ hu
 refine call_meets F.slot_tuple_lt hl.typeIs F.entry_tuple_lt (F.args_tuple_lt_2 _ _) (tuple_lt_strs l b n n2 dd dd2 sl sl2 x u y v t1 t2 t3 t4) ?_
 exact ⟨ho,ho2,by simp,h⟩
theorem datasOf_reads {f:V→Option PyData} (hf:∀ {x:V} {d:PyData} {v:Value},f x=some d→VR T s.heap x v→∃ as,Reads s.heap v d as) {xs:List V}:∀ {ds:List PyData} {vs:List Value},dataOf.datasOf f xs=some ds→VRs T s.heap xs vs→∃ as,ReadsAll s.heap vs ds as:=by
 induction xs with
 | nil=>intro ds vs e r;cases r;cases e;exact ⟨_,.nil⟩
 | cons x xs ih =>
   intro ds vs e r
   cases r with
   | cons a b =>
     have e:(match f x,dataOf.datasOf f xs with | some d,some ds=>some (d::ds) | _,_=>none)=some ds:=e
     cases e1:f x with
     | none=>rw [e1] at e;cases e
     | some d => cases e2 : dataOf.datasOf f xs with
       | none=>rw [e1,e2] at e;cases e
       | some ds' =>
         rw [e1,e2] at e;cases e
         obtain ⟨as,ra⟩:=hf e1 a
         obtain ⟨bs,rb⟩:=ih e2 b
         exact ⟨_,.cons ra rb⟩
theorem dataOf_reads (R:Rel T H s) (n:Nat):∀ {x:V} {d:PyData} {v:Value},dataOf H n x=some d→VR T s.heap x v→∃ as,Reads s.heap v d as:=by
 induction n with
 | zero=>intro x d v e;cases e
 | succ n ih =>
   intro x d v e r
   cases r with
   | int i t=>cases e;exact ⟨_,.int _ _⟩
   | str i t=>cases e;exact ⟨_,.str _ _⟩
   | @tup xs _ _ ht hs =>
     have e:(dataOf.datasOf (dataOf H n) xs).map .tuple=some d:=e
     obtain ⟨ds,q,rfl⟩:=Option.map_eq_some_iff.mp e
     obtain ⟨as,ra⟩:=datasOf_reads ih q hs
     obtain ⟨o,ho,hc,k,hd⟩:=ht
     exact ⟨_,.tuple ho hc hd (by simpa using ra)⟩
   | obj a =>
     have e:(match H a with | some (.list xs)=>(dataOf.datasOf (dataOf H n) xs).map .list | _=>none)=some d:=e
     cases hx:H a with
     | none=>rw [hx] at e;cases e
     | some o =>
       rw [hx] at e
       cases o
       case list xs =>
        obtain ⟨ds,q,rfl⟩:=Option.map_eq_some_iff.mp e
        obtain ⟨vs,k,ga,rs⟩:=R.objs _ _ hx
        obtain ⟨as,ra⟩:=datasOf_reads ih q rs
        exact ⟨_,.list ga rfl rfl (by simpa using ra)⟩
       all_goals cases e
   | none=>cases e
   | bool b=>cases e
   | mat a b=>cases e
   | lit v=>cases e
   | bm h=>cases e
theorem strsOf_cons {x:V} {xs:List V} {ss:List Str} (e:strsOf (x::xs)=some ss):∃ a l,x=.str a∧strsOf xs=some l∧a::l=ss:=by
 cases x with
 | str a =>
   have e:(strsOf xs).map (a::·)=some ss:=e
   obtain ⟨l,q,h⟩:=Option.map_eq_some_iff.mp e
   exact ⟨a,l,rfl,q,h⟩
 | _=>first | cases e
theorem strsOf_mem {xs:List V}:∀ {ss:List Str} {vs:List Value},strsOf xs=some ss→VRs T s.heap xs vs→StrsAre vs ss:=by
 induction xs with
 | nil=>exact fun e r=>r.nil_eq▸Option.some.inj e▸.nil
 | cons x xs ih =>
   intro ss vs e r
   obtain ⟨a,l,rfl,q,rfl⟩:=strsOf_cons e
   obtain ⟨v,vs,rfl,rv,rr⟩:=r.cut
   obtain ⟨_,rfl⟩:=rv.iS
   exact .cons _ _ (ih q rr)
end
section
variable {T:TI} {A:Around} {H:Hp} {s:Shared} {Q:Value→Shared→Prop} {E:Value→Shared→Prop}
theorem VRs.strs2 {h:Heap} {x u:Str} {vs:List Value} (r:VRs T h [.str x,.str u] vs):∃ t1 t2,vs=[.str x t1,.str u t2]:=by
 obtain ⟨v,vs,rfl,a,b⟩:=r.cut
 obtain ⟨u,us,rfl,b,c⟩:=b.cut
 refine c.nil_eq.symm▸?_
 obtain ⟨_,rfl⟩:=a.iS;obtain ⟨_,rfl⟩:=b.iS
 exact ⟨_,_,rfl⟩
def NeM (T:TI):Prop:=∀ A,Rm 1 A→∀ (x y:Addr) (rows:List (Int×Int×Int)) H s,Rel T H s→H x=some (.list (rows.map matRow))→H y=some (.list (rows.map tupRow))→rows.length≤100 →
 ∀ Q E,Q (.bool false) s→wpAny T.M A (compareOp .NotEq (.ref x) (.ref y)) Q E s
def CmpG (T:TI) (A:Around) (s:Shared) (Q:Value→Shared→Prop) (E:Value→Shared→Prop) (op:CmpOp) (a b:V):Prop:=∀ va vb,VR T s.heap a va→VR T s.heap b vb→wpAny T.M A (compareOp op va vb) Q E s
theorem cmp_ii {op:CmpOp} {a b:V} {P:Int→Int→Prop} (h:ii a b P) (k:∀ x y t u,P x y→wpAny T.M A (compareOp op (.int x t) (.int y u)) Q E s):CmpG T A s Q E op a b:=fun va vb ra rb=>by
 obtain ⟨x,y,rfl,rfl,h⟩:=ii_inv h
 obtain ⟨_,rfl⟩:=ra.iI;obtain ⟨_,rfl⟩:=rb.iI
 exact k _ _ _ _ h
theorem cmp_eq (hu:A.units+32 < cLine) {a b:V} {K:KV} (h:wEq a b H K) (R:Rel T H s) (gb:∀ {c:Bool},K (.bool c) H→Q (.bool c) s):CmpG T A s Q E .Eq a b:=by
 cases a with
 | int x =>
   cases b with
   | int y=>exact fun va vb ra rb=>by obtain ⟨_,rfl⟩:=ra.iI;obtain ⟨_,rfl⟩:=rb.iI;exact PySem.P.eq_int (gb h)
   | _=>exact False.elim h
 | str x =>
   cases b with
   | str y=>exact fun va vb ra rb=>by obtain ⟨_,rfl⟩:=ra.iS;obtain ⟨_,rfl⟩:=rb.iS;exact PyProof.Rows.eq_str (gb h)
   | _=>exact False.elim h
 | obj x =>
   cases b with
   | obj y =>
     intro va vb ra rb
     obtain ⟨da,db,ea,eb,la,lb,hd,k⟩:=h
     obtain ⟨as,xa⟩:=dataOf_reads R _ ea ra
     obtain ⟨bs,xb⟩:=dataOf_reads R _ eb rb
     exact SeqAt.compareEq_reads xa xb la lb (by omega) (gb k)
   | _=>exact False.elim h
 | _=>exact False.elim h
theorem cmp_ne (HM:NeM T) (HA:Rm 1 A) {a b:V} {K:KV} (h:wNe a b H K) (R:Rel T H s) (gb:∀ {c:Bool},K (.bool c) H→Q (.bool c) s):CmpG T A s Q E .NotEq a b:=by
 have hu:=HA.2.2
 cases a with
 | int x =>
   cases b with
   | int y=>exact fun va vb ra rb=>by obtain ⟨_,rfl⟩:=ra.iI;obtain ⟨_,rfl⟩:=rb.iI;exact PySem.P.ne_int (gb h)
   | _=>exact False.elim h
 | obj x =>
   cases b with
   | obj y =>
     intro va vb ra rb
     rcases h with ⟨da,db,ea,eb,la,lb,hd,k⟩ | ⟨rows,hx,hy,hl,k⟩
     ·obtain ⟨as,xa⟩:=dataOf_reads R _ ea ra
      obtain ⟨bs,xb⟩:=dataOf_reads R _ eb rb
      exact SeqAt.compareNe_reads xa xb la lb (by omega) (gb k)
     ·obtain rfl:=ra.iO;obtain rfl:=rb.iO
      exact HM _ HA _ _ rows _ _ R hx hy hl _ _ (gb k)
   | _=>exact False.elim h
 | _=>exact False.elim h
omit T A H s Q E in
theorem ss2_inv {xs:List V} {p:Str×Str} (h:ss2 (.tup xs)=some p):xs=[.str p.1,.str p.2]:=by
 have sv:∀ {a:V} {x:Str},strV a=some x→a=.str x:=fun {a x} e=>by cases a <;> first | (cases e;rfl) | cases e
 cases xs with
 | nil=>cases h
 | cons a xs => cases xs with
   | nil=>cases h
   | cons b xs => cases xs with
     | cons=>cases h
     | nil =>
       have h:pair2 (strV a) (strV b)=some p:=h
       cases ea:strV a with
       | none=>rw [ea] at h;cases h
       | some x => cases eb : strV b with
         | none=>rw [ea,eb] at h;cases h
         | some y=>rw [ea,eb] at h;cases h;exact (sv ea).symm▸(sv eb).symm▸rfl
theorem cmp_lt (hu:A.units+32 < cLine) {a b:V} {K:KV} (h:wLt a b H K) (gb:∀ {c:Bool},K (.bool c) H→Q (.bool c) s):CmpG T A s Q E .Lt a b:=by
 cases a with
 | int x =>
   cases b with
   | int y=>exact fun va vb ra rb=>by obtain ⟨_,rfl⟩:=ra.iI;obtain ⟨_,rfl⟩:=rb.iI;exact PySem.P.lt_int (gb h)
   | _=>exact False.elim h
 | tup xs =>
   cases b with
   | tup ys =>
     intro va vb ra rb
     have h:match ss2 (.tup xs),ss2 (.tup ys) with
      | some (x,u),some (y,v)=>K (.bool (if x==y then (if u==v then false else slt u v) else slt x y)) H
      | _,_=>False:=h
     cases e1:ss2 (.tup xs) with
     | none=>rw [e1] at h;exact False.elim h
     | some p => cases e2 : ss2 (.tup ys) with
       | none=>rw [e1,e2] at h;exact False.elim h
       | some q =>
         rw [e1,e2] at h
         cases ss2_inv e1;cases ss2_inv e2
         obtain ⟨_,_,rfl,ha,xa⟩:=ra.iT
         obtain ⟨_,_,rfl,hb,xb⟩:=rb.iT
         obtain ⟨t1,t2,rfl⟩:=VRs.strs2 xa
         obtain ⟨t3,t4,rfl⟩:=VRs.strs2 xb
         exact lt_tuple_strs ha hb (by omega) (gb h)
   | _=>exact False.elim h
 | _=>exact False.elim h
theorem cmp_in {op:CmpOp} {a b:V} {P:Bool→Prop} (h:wIn a b H P) (k:∀ x a t xs ss,H a=some (.list xs)→strsOf xs=some ss→P (ss.any (·==x))→wpAny T.M A (compareOp op (.str x t) (.ref a)) Q E s):CmpG T A s Q E op a b:=by
 cases a with
 | str x =>
   cases b with
   | obj y =>
     intro va vb ra rb
     obtain ⟨_,rfl⟩:=ra.iS;obtain rfl:=rb.iO
     obtain ⟨xs,ss,hx,hs,h⟩:=h
     exact k _ _ _ _ _ hx hs h
   | _=>exact False.elim h
 | _=>exact False.elim h
theorem cmp_is {op:CmpOp} {a b:V} {P:Bool→Prop} (h:wIs a b P) (k1:P true→wpAny T.M A (compareOp op .none .none) Q E s) (k2:∀ v,v≠.none→P false→wpAny T.M A (compareOp op v .none) Q E s):CmpG T A s Q E op a b:=by
 cases b with
 | none =>
   cases a with
   | none=>exact fun va vb ra rb=>by obtain rfl:=ra.iN;obtain rfl:=rb.iN;exact k1 h
   | int x=>exact fun va vb ra rb=>by obtain ⟨_,rfl⟩:=ra.iI;obtain rfl:=rb.iN;exact k2 _ (by intro q;cases q) h
   | obj x=>exact fun va vb ra rb=>by obtain rfl:=ra.iO;obtain rfl:=rb.iN;exact k2 _ (by intro q;cases q) h
   | _=>exact False.elim h
 | _=>exact False.elim h
theorem prim_cmp (HM : NeM T) (HA : Rm 1 A) {op : CmpOp} {a b : V} {K : KV} (h : wCmp op a b H K) {va vb : Value} (R : Rel T H s) (ra : VR T s.heap a va) (rb : VR T s.heap b vb) (g : Goes T H s K Q) :
  wpAny T.M A (compareOp op va vb) Q E s:=by
 have hu:=HA.2.2
 have gb:∀ {c:Bool},K (.bool c) H→Q (.bool c) s:=fun k=>g _ _ _ _ k R (.bool _) (Ev.refl _ _)
 refine (?_:CmpG T A s Q E op a b) va vb ra rb
 cases op
 case Eq=>exact cmp_eq hu h R gb
 case NotEq=>exact cmp_ne HM HA h R gb
 case Lt=>exact cmp_lt hu h gb
 case Gt=>exact cmp_ii h fun x y t u h=>PySem.P.gt_int (gb h)
 case LtE=>exact cmp_ii h fun x y t u h=>PySem.P.le_int (gb h)
 case GtE=>exact cmp_ii h fun x y t u h=>PySem.P.ge_int (gb h)
 case In =>
  refine cmp_in (P:=fun c=>K (.bool c) H) h fun x a t xs ss hx hs k=>?_
  obtain ⟨vs,n,ga,rs⟩:=R.objs _ _ hx
  exact in_list_strs ⟨_,ga,rfl,n,rfl⟩ (strsOf_mem hs rs) (gb k)
 case NotIn =>
  refine cmp_in (P:=fun c=>K (.bool (!c)) H) h fun x a t xs ss hx hs k=>?_
  obtain ⟨vs,n,ga,rs⟩:=R.objs _ _ hx
  exact notin_list_strs ⟨_,ga,rfl,n,rfl⟩ (strsOf_mem hs rs) (gb k)
 case Is=>exact cmp_is (P:=fun c=>K (.bool c) H) h (fun h=>is_none_none (gb h)) (fun v hv h=>is_none_ne hv (gb h))
 case IsNot=>exact cmp_is (P:=fun c=>K (.bool (!c)) H) h (fun h=>isnot_none_none (gb h)) (fun v hv h=>isnot_none_ne hv (gb h))
theorem seq_neg {k:Int} {n j:Nat} (h:seqIndex? k n=some j) (hk:k < 0):-(n:Int)≤k∧(k+n).toNat=j:=by
 have h:(if (decide (0≤(if k < 0 then k+n else k))&&decide ((if k < 0 then k+n else k) < n))=true then some (if k < 0 then k+n else k).toNat else none)=some j:=h
 rw [if_pos hk] at h
 obtain ⟨c,e⟩:=ite_some h
 have c:=Int.add_le_add_right (of_decide_eq_true (Bool.and_eq_true_iff.mp c).1) (-(n:Int))
 rw [Int.zero_add,Int.add_neg_cancel_right] at c
 exact ⟨c,Option.some.inj e⟩
theorem seq_pos {k:Int} {n j:Nat} (h:seqIndex? k n=some j) (hk:¬ k < 0):k.toNat=j:=by
 have h:(if (decide (0≤(if k < 0 then k+n else k))&&decide ((if k < 0 then k+n else k) < n))=true then some (if k < 0 then k+n else k).toNat else none)=some j:=h
 rw [if_neg hk] at h
 exact Option.some.inj (ite_some h).2
theorem seq_nat {k:Int} {n:Nat} (h0:0≤k) (h:k.toNat < n):seqIndex? k n=some k.toNat:=by
 refine (?_:(if (decide (0≤(if k < 0 then k+n else k))&&decide ((if k < 0 then k+n else k) < n))=true then some (if k < 0 then k+n else k).toNat else none)=_)
 rw [if_neg (Int.not_lt.mpr h0),if_pos (Bool.and_eq_true_iff.mpr ⟨decide_eq_true h0,decide_eq_true ((Int.toNat_lt h0).mp h)⟩)]
theorem sm_hi {k:Int} (h:k < small):k < 2 ^ 63:=Int.lt_of_lt_of_le h (by decide)
theorem sm_lo {k:Int} (h:-small < k):-(2 ^ 63)≤k:=Int.le_trans (by decide) (Int.le_of_lt h)
theorem wGet_inv {o i:V} {K:KV} {P:V→V→Prop} (h1:∀ a k,wGet (.obj a) (.int k) H K→P (.obj a) (.int k)) (h2:∀ xs k,wGet (.tup xs) (.int k) H K→P (.tup xs) (.int k)) (h3:∀ x k,wGet (.str x) (.int k) H K→P (.str x) (.int k)):wGet o i H K→P o i:=by
 cases o <;> first | exact False.elim | (cases i <;> first | exact False.elim | exact h1 _ _ | exact h2 _ _ | exact h3 _ _)
theorem prim_get {o i : V} {K : KV} (h : wGet o i H K) {vo vi : Value} (R : Rel T H s) (ro : VR T s.heap o vo) (ri : VR T s.heap i vi) (g : Goes T H s K Q) :
  wpAny T.M A (getItem vo vi) Q E s:=by
 refine wGet_inv (P:=fun o i=>VR T s.heap o vo→VR T s.heap i vi→wpAny T.M A (getItem vo vi) Q E s) (fun a k h ro ri=>?_) (fun xs k h ro ri=>?_) (fun x k h ro ri=>?_) h ro ri
 ·obtain rfl:=ro.iO;obtain ⟨_,rfl⟩:=ri.iI
  obtain ⟨xs,j,v,hx,⟨h1,h2⟩,hj,hv,kk⟩:=h
  obtain ⟨vs,n,ga,rs⟩:=R.objs _ _ hx
  obtain ⟨u,hu,ru⟩:=rs.get hv
  have gq:=g _ _ _ _ kk R ru (Ev.refl _ _)
  have hl:s.heap.IsList _ vs.toArray:=⟨_,ga,rfl,n,rfl⟩
  have hj:seqIndex? k vs.toArray.size=some j:=(congrArg (seqIndex? k) rs.length.symm).trans hj
  have hu:=List.getElem?_toArray.trans hu
  by_cases hk:k < 0
  ·obtain ⟨c,rfl⟩:=seq_neg hj hk
   exact wpAny_getItem_list_neg hl hk c (sm_lo h1) hu gq
  ·cases seq_pos hj hk
   exact wpAny_getItem_list hl (Int.not_lt.mp hk) (sm_hi h2) hu gq
 ·obtain ⟨_,rfl⟩:=ri.iI
  obtain ⟨_,_,rfl,ht,rs⟩:=ro.iT
  obtain ⟨j,v,⟨h1,h2⟩,hj,hv,kk⟩:=h
  obtain ⟨u,hu,ru⟩:=rs.get hv
  exact PyProof.Rows.getItem_tuple (j:=j) ht (sm_lo h1) (sm_hi h2) ((congrArg (seqIndex? k) rs.length.symm).trans hj) (List.getElem?_toArray.trans hu) (g _ _ _ _ kk R ru (Ev.refl _ _))
 ·obtain ⟨_,rfl⟩:=ri.iI;obtain ⟨_,rfl⟩:=ro.iS
  obtain ⟨c,h0,h1,hc,kk⟩:=h
  exact getItem_str (Bool.or_eq_false_iff.mpr ⟨decide_eq_false (Int.not_lt.mpr (Int.le_trans (by decide) h0)),decide_eq_false (Int.not_le.mpr (sm_hi h1))⟩)
   ((congrArg (Option.bind · (x.cps[·]?)) (seq_nat h0 (Array.getElem?_eq_some_iff.mp hc).1)).trans hc) (g _ _ _ _ kk (R.toks _) (.str _ _) (Ev.refl _ _))
theorem prim_slice {a : Addr} {xs : List V} {i j : Int} {K : KV} (ha : H a = some (.list xs)) (h0 : 0 ≤ i) (hij : i ≤ j) (hj : j ≤ (xs.length : Int)) (hsz : xs.length ≤ 4096)
  (k:∀ c,H c=none→K (.obj c) (H.set c (.list ((xs.drop i.toNat).take (j - i).toNat)))) {sl:Addr} {ti tj:Tok} (R:Rel T H s) (hs:s.heap.IsSliceOf sl (.int i ti) (.int j tj) .none) (g:Goes T H s K Q) :
  wpAny T.M A (getItem (.ref a) (.ref sl)) Q E s:=by
 obtain ⟨vs,n,ga,rs⟩:=R.objs _ _ ha
 have hl:vs.toArray.size≤xs.length:=Nat.le_of_eq rs.length.symm
 obtain ⟨i',rfl⟩:=Int.eq_ofNat_of_zero_le h0
 obtain ⟨j',rfl⟩:=Int.eq_ofNat_of_zero_le (Int.le_trans h0 hij)
 refine wpAny_getItem_list_slice (lo:=some i') (hi:=some j') (st:=none) ⟨_,ga,rfl,n,rfl⟩ hs (.int _ _) (.int _ _) .none nofun ?_ (Nat.le_trans hl (Nat.le_trans hsz (by decide)))
 rw [slicePick_run _ _ _ (Nat.le_trans (Int.ofNat_le.mp hj) (Nat.le_of_eq rs.length)) (Int.ofNat_le.mp hij)]
 refine g _ _ _ _ (k _ R.top) (R.alloc (n:=s.toks) ⟨_,0,Heap.get?_push_size _ rfl,?_⟩) (.obj _) (Ev.alloc _ _)
 rw [(Int.toNat_sub j' i':((j':Int) - (i':Int)).toNat=j' - i')]
 exact ((rs.drop _).take _).mono (FixKeep.push T _ _)
theorem prim_inPy {o:V} (h:seqV H o) {vo:Value} (R:Rel T H s) (ro:VR T s.heap o vo) {Q:Bool→Shared→Prop} (g:Q false s):wpAny T.M A (getitemInPython vo) Q E s:=by
 have key:∀ {Ty id:String},s.TypeIs vo Ty→typeLookup (.type Ty) "__getitem__" = pure (some (.builtin id))→wpAny T.M A (getitemInPython vo) Q E s:=fun ht hl=>by
  refine (getitemInPython_of_ne ht.not_modules).symm▸?_
  exact wpAny_bind (wpAny_specialOf ht hl (wpAny_pure g))
 rcases h with ⟨a,xs,rfl,hx⟩ | ⟨xs,rfl⟩ | ⟨x,rfl⟩
 ·obtain rfl:=ro.iO
  obtain ⟨vs,n,ga,rs⟩:=R.objs _ _ hx
  exact key (Ty := "list") ⟨_,ga,rfl⟩ slot_list_getitem.lookup
 ·obtain ⟨_,_,rfl,ht,rs⟩:=ro.iT
  exact key (Ty := "tuple") ht.typeIs slot_tuple_getitem.lookup
 ·obtain ⟨_,rfl⟩:=ro.iS;exact key (Ty := "str") (typeIs_str _ _ _) slot_str_getitem.lookup
end
section
variable {prog:Program} {w:World} {A:Around} {E:Value→Shared→Prop} {s:Shared}
theorem setItem_list_exact {l : Addr} {items : Array Value} {n : Nat} {k : Int} {t : Tok} {v : Value} {j : Nat} {Q : Unit → Shared → Prop} (hl : IsL s.heap l items n)
  (hlo:-(2 ^ 63)≤k) (hhi:k < 2 ^ 63) (hj:seqIndex? k items.size=some j) (hsz:j < items.size)
  (hQ:Q () { s with heap:=s.heap.update l (Obj.mapSeq (·.setIfInBounds j v)) }) :
  wpAny (model prog w) A (setItem (.ref l) (.int k t) v) Q E s:=by
 have hT:s.TypeIs (.ref l) "list" := ⟨_,hl,rfl⟩
 unfold setItem
 try with_reducible refine wpAny_holding ?_
 first | refine wpAny_bind (wpAny_pure ?_) | skip
 refine wpAny_bind (wpAny_sequenceKey hT rfl ?_)
 refine wpAny_bind (wpAny_callSpecial?_slot (name:=Str.ofString "__setitem__") hT slot_list_setitem
  (wpAny_call_entry slot_list_setitem hT entry_list_setitem ?_ (args_list_setitem _ _ _)))
 refine (?_:wpAny _ _ (Builtin.List.listSubscript? (.int k t) >>= _) _ _ s)
 have hx':items[j]?=some items[j]:=Array.getElem?_eq_getElem hsz
 have hfit:Builtin.List.listFitsIndex k=true:=by
  unfold Builtin.List.listFitsIndex
  simp only [Bool.and_eq_true,decide_eq_true_eq]
  omega
 refine wpAny_bind (wpAny_listSubscript_int hfit ?_)
 clear hfit
 cases k with
 | ofNat m =>
   have hjm:j=m:=by
    unfold seqIndex? at hj
    have:¬ ((Int.ofNat m) < 0):=Int.not_lt.mpr (Int.ofNat_nonneg m)
    rw [if_neg this] at hj
    dsimp only at hj
    split at hj
    ·cases hj;rfl
    ·cases hj
   subst hjm
   refine (?_:wpAny _ _ ((seqItemAt l j >>= fun r=>pure (r.map (j,·))) >>= _) _ _ s)
   refine wpAny_bind (wpAny_bind (wpAny_seqItemAt hl rfl (wpAny_pure ?_)))
   refine hx'.symm▸?_
   refine (?_:wpAny _ _ (setSeqItemAt l j v >>= _) _ _ s)
   refine wpAny_bind (wpAny_setSeqItemAt hl rfl ?_)
   first
    | exact wpAny_bind (wpAny_pure (wpAny_pure ⟨.none,rfl,wpAny_pure hQ⟩))
    | exact wpAny_pure ⟨.none,rfl,wpAny_pure hQ⟩
 | negSucc m =>
   refine (?_:wpAny _ _ ((Builtin.List.listItems (.ref l) >>= fun xs=>pure ((seqIndex? (Int.negSucc m) xs.size).bind fun i=>xs[i]?.map (i,·))) >>= _) _ _ s)
   refine wpAny_bind (wpAny_bind ?_)
   refine (?_:wpAny _ _ (seqItems? (.ref l) >>= _) _ _ s)
   refine wpAny_bind (wpAny_seqItems hl rfl (wpAny_pure (wpAny_pure ?_)))
   refine hj.symm▸?_
   simp only [Option.bind_some,hx',Option.map_some]
   show wpAny _ _ (setSeqItemAt l j v >>= _) _ _ s
   refine wpAny_bind (wpAny_setSeqItemAt hl rfl ?_)
   first
    | exact wpAny_bind (wpAny_pure (wpAny_pure ⟨.none,rfl,wpAny_pure hQ⟩))
    | exact wpAny_pure ⟨.none,rfl,wpAny_pure hQ⟩
end
section
variable {T:TI} {h:Heap} {a:Addr} {K:Type} [DecidableEq K] {knd:KeyKind T.prog T.w K}
theorem rows_of {ps : List (K × Value)} : ∀ {kvs : List (K × V)}, ps.map (·.1) = kvs.map (·.1) → VRs T h (kvs.map (·.2)) (ps.map (·.2)) →
  ∃ L:List (K×V×Value),kvs=L.map (fun r=>(r.1,r.2.1))∧ps=L.map (fun r=>(r.1,r.2.2))∧∀ r∈L,VR T h r.2.1 r.2.2:=by
 induction ps with
 | nil=>exact fun e Z=>⟨[],List.map_eq_nil_iff.mp e.symm,rfl,List.forall_mem_nil _⟩
 | cons p ps ih =>
   intro kvs e r
   cases kvs with
   | nil=>exact absurd e (List.cons_ne_nil _ _)
   | cons q kvs =>
     have e:=List.cons.inj e
     obtain ⟨v,vs,e1,rv,rs⟩:=r.cut
     have e1:=List.cons.inj e1
     obtain ⟨L,h1,h2,h3⟩:=ih e.2 (e1.2▸rs)
     have er:p.2=v:=e1.1
     exact ⟨(q.1,q.2,p.2)::L,congrArg (q::·) h1,List.cons.injEq ..▸⟨Prod.ext e.1 rfl,h2⟩,List.forall_mem_cons.mpr ⟨er▸rv,h3⟩⟩
theorem VRs.ofRows {α:Type} {f:α→V} {g:α→Value} {L:List α}:(∀ r∈L,VR T h (f r) (g r))→VRs T h (L.map f) (L.map g):=by
 induction L with
 | nil=>exact fun Z=>.nil
 | cons r L ih=>exact fun k=>.cons (k r (.head _)) (ih fun q hq=>k q (.tail _ hq))
theorem getK_rows (L:List (K×V×Value)) (k:K):getK (L.map fun r=>(r.1,r.2.1)) k=(L.find? fun r=>r.1=k).map (·.2.1) :=
 (congrArg (Option.map _) List.find?_map).trans (Option.map_map _ _ _)
theorem valueAt_rows (L:List (K×V×Value)) (k:K):valueAt (L.map fun r=>(r.1,r.2.2)) k=(L.find? fun r=>r.1=k).map (·.2.2) :=
 (congrArg (Option.map _) List.find?_map).trans (Option.map_map _ _ _)
theorem getK_some {kvs:List (K×V)} {ps:List (K×Value)} {k:K} {x:V} (e:ps.map (·.1)=kvs.map (·.1)) (r:VRs T h (kvs.map (·.2)) (ps.map (·.2))) (g:getK kvs k=some x):∃ v,valueAt ps k=some v∧VR T h x v:=by
 obtain ⟨L,rfl,rfl,hL⟩:=rows_of e r
 rw [getK_rows] at g
 obtain ⟨q,hq,rfl⟩:=Option.map_eq_some_iff.mp g
 exact ⟨_,(valueAt_rows L k).trans (congrArg _ hq),hL q (List.mem_of_find?_eq_some hq)⟩
theorem getK_none {kvs:List (K×V)} {ps:List (K×Value)} {k:K} (e:ps.map (·.1)=kvs.map (·.1)) (r:VRs T h (kvs.map (·.2)) (ps.map (·.2))) (g:getK kvs k=none):valueAt ps k=none:=by
 obtain ⟨L,rfl,rfl,hL⟩:=rows_of e r
 rw [getK_rows] at g
 exact (valueAt_rows L k).trans (congrArg _ (Option.map_eq_none_iff.mp g))
theorem any_keys {β:Type} (ps:List (K×β)) (k:K):(ps.any fun kv=>kv.1=k)=(ps.map (·.1)).any fun x=>x=k:=(List.any_map (p:=fun x=>decide (x=k))).symm
theorem upd {β:Type} (k:K) (y:β) (p:K×β):(if p.1=k then (p.1,y) else p)=(p.1,if p.1=k then y else p.2):=by
 by_cases h:p.1=k
 ·rw [if_pos h,if_pos h]
 ·rw [if_neg h,if_neg h]
theorem put_old {k : K} {x : V} {v : Value} (hx : VR T h x v) {kvs : List (K × V)} {ps : List (K × Value)} (e : ps.map (·.1) = kvs.map (·.1)) (r : VRs T h (kvs.map (·.2)) (ps.map (·.2))) :
  (ps.map fun kv=>if kv.1=k then (kv.1,v) else kv).map (·.1)=(kvs.map fun kv=>if kv.1=k then (kv.1,x) else kv).map (·.1)∧VRs T h ((kvs.map fun kv=>if kv.1=k then (kv.1,x) else kv).map (·.2)) ((ps.map fun kv=>if kv.1=k then (kv.1,v) else kv).map (·.2)):=by
 obtain ⟨L,rfl,rfl,hL⟩:=rows_of e r
 rw [List.map_map,List.map_map,List.map_map,List.map_map,List.map_map,List.map_map,List.map_map,List.map_map]
 refine ⟨List.map_congr_left fun q Z=>(congrArg Prod.fst (upd k v (q.1,q.2.2))).trans (congrArg Prod.fst (upd k x (q.1,q.2.1))).symm,VRs.ofRows fun q hq=>?_⟩
 refine (?_:VR T h (if q.1=k then (q.1,x) else (q.1,q.2.1)).2 (if q.1=k then (q.1,v) else (q.1,q.2.2)).2)
 by_cases hk:q.1=k
 ·rw [if_pos hk,if_pos hk];exact hx
 ·rw [if_neg hk,if_neg hk];exact hL q hq
theorem put_rel {kvs : List (K × V)} {ps : List (K × Value)} {k : K} {x : V} {v : Value} (hx : VR T h x v) (e : ps.map (·.1) = kvs.map (·.1)) (r : VRs T h (kvs.map (·.2)) (ps.map (·.2))) :
  (stored ps k v).map (·.1)=(putK kvs k x).map (·.1)∧VRs T h ((putK kvs k x).map (·.2)) ((stored ps k v).map (·.2)):=by
 unfold stored putK
 rw [any_keys,any_keys,e]
 by_cases hk:((kvs.map (·.1)).any fun x=>decide (x=k))=true
 ·rw [if_pos hk,if_pos hk]
  exact put_old hx e r
 ·rw [if_neg hk,if_neg hk]
  simp only [List.map_append,List.map_cons,List.map_nil]
  exact ⟨by rw [e],r.append (.cons hx .nil)⟩
theorem keys_len {kvs:List (K×V)} {ps:List (K×Value)} (e:ps.map (·.1)=kvs.map (·.1)):ps.length=kvs.length:=by
 have:=congrArg List.length e
 simpa using this
end
section
variable {T:TI} {A:Around} {H:Hp} {s:Shared} {E:Value→Shared→Prop}
theorem setSeq_toArray (vs:List Value) (j:Nat) (v:Value):vs.toArray.setIfInBounds j v=(vs.set j v).toArray:=by simp
theorem seqIndex_lt {k:Int} {n j:Nat} (h:seqIndex? k n=some j):j < n:=PyProof.Rows.lt_of_seqIndex h
theorem turn_list (R : Rel T H s) {a : Addr} {xs ys : List V} {vs us : List Value} {m : Nat} {f : Array Value → Array Value} (hx : H a = some (.list xs)) (n : Nat) (ga : IsL s.heap a vs.toArray m)
  (hf:f vs.toArray=us.toArray) (hy:VRs T s.heap ys us) :
  Rel T (H.set a (.list ys)) { s with heap:=s.heap.update a (Obj.mapSeq f),toks:=n }∧Ev H s.heap (H.set a (.list ys)) (s.heap.update a (Obj.mapSeq f)):=by
 have hsame:∀ b,b≠a→(s.heap.update a (Obj.mapSeq f)).get? b=s.heap.get? b:=fun b hb=>Heap.get?_update_other _ _ (Ne.symm hb)
 have fk:=R.turnFix hx hsame
 have hg:IsL (s.heap.update a (Obj.mapSeq f)) a (f vs.toArray) _:=IsL.update ga f
 rw [hf] at hg
 exact ⟨R.turn hx hsame ⟨us,_,hg,hy.mono fk⟩,Ev.turn hx hsame ⟨_,hg⟩⟩
theorem wPut_inv {o i x:V} {K:Hp→Prop} {P:V→V→Prop} (h1:∀ a k,wPut (.obj a) (.int k) x H K→P (.obj a) (.int k)):wPut o i x H K→P o i:=by
 cases o <;> first | exact False.elim | (cases i <;> first | exact False.elim | exact h1 _ _)
theorem prim_put {o i x : V} {K : Hp → Prop} (h : wPut o i x H K) {vo vi vx : Value} (R : Rel T H s) (ro : VR T s.heap o vo) (ri : VR T s.heap i vi) (rx : VR T s.heap x vx) {Q : Unit → Shared → Prop}
  (g:∀ H' s',K H'→Rel T H' s'→Ev H s.heap H' s'.heap→Q () s'):wpAny T.M A (setItem vo vi vx) Q E s:=by
 refine wPut_inv (P:=fun o i=>VR T s.heap o vo→VR T s.heap i vi→wpAny T.M A (setItem vo vi vx) Q E s) (fun a kk h ro ri=>?_) h ro ri
 obtain rfl:=ro.iO;obtain ⟨_,rfl⟩:=ri.iI
 cases h with
 | inl h =>
   obtain ⟨xs,j,hx,⟨h1,h2⟩,hj,k⟩:=h
   obtain ⟨vs,n,ga,rs⟩:=R.objs _ _ hx
   have hl:xs.length=vs.toArray.size:=rs.length
   obtain ⟨R',e'⟩:=turn_list (f:=fun y=>y.setIfInBounds j vx) (ys:=xs.set j x) (us:=vs.set j vx) R hx s.toks ga (setSeq_toArray vs j vx) (rs.set rx j)
   exact setItem_list_exact ga (sm_lo h1) (sm_hi h2) (hl▸hj) (hl▸seqIndex_lt hj) (g _ _ k R' e')
 | inr h =>
   obtain ⟨kvs,hx,hl,k⟩:=h
   obtain ⟨ps,hd,hk,rs⟩:=R.objs _ _ hx
   refine wpAny_setItem_pairs (intKind_is _ _ _ _) hd (fun h' hd' hs'=>?_) (Nat.le_trans (Nat.le_of_eq (keys_len hk)) (Nat.le_trans hl (by decide)))
   have fk:=R.turnFix hx hs'.2
   obtain ⟨p1,p2⟩:=put_rel (rx.mono fk) hk (rs.mono fk)
   exact g _ _ k (R.turn hx hs'.2 ⟨_,hd',p1,p2⟩) (Ev.turn hx hs'.2 (by obtain ⟨o,_,_,ho,_⟩:=hd';exact ⟨o,ho⟩))
end
def Above (T:TI) (h:Heap):Prop:=∀ a o,T.B a=some o→h.get? a=some o
noncomputable def methNames:List Str:=["__init__", "set_seqs", "set_seq1", "set_seq2", "_SequenceMatcher__chain_b", "find_longest_match", "get_matching_blocks"]
structure Wld (T:TI) (S:Sy):Prop where
 sysm:∃ o,T.B sysModules=some o
 cSB:∃ o,T.B T.cS=some o
 cls:∃ N mN,(∀ h,Above T h→ClsAt h T.cS N mN)∧mN "__setattr__" = none∧mN "__getattribute__" = none∧mN "__getattr__" = none∧(∀ name,attrs.contains name=true→mN name=none) ∧
  (∀ name f,S.cl name=some f→methNames.contains name=true∧mN name=some (.ref f)∧∃ of,T.B f=some of∧of.cls=.type "function")
 glob:∃ mg mb,(∀ h,Above T h→h.Ns mainGlobals mg∧h.Ns builtinsNs mb) ∧
  ∀ x v,S.G x=some v→∃ u,(mg x=some u∨(mg x=none∧mb x=some u))∧∀ h,Above T h→VR T h v u
theorem attrs_object {name:Str} (h:attrs.contains name=true):typeLookup (.type "object") name=pure none:=by
 have:name∈attrs:=by simpa using h
 unfold attrs at this
 simp only [List.mem_cons,List.not_mem_nil,or_false] at this
 rcases this with rfl | rfl | rfl | rfl | rfl | rfl | rfl | rfl | rfl | rfl <;> (rw [typeLookup_type,builtinLookup_eq_fast];kernel_rfl)
theorem meth_object {name:Str} (h:methNames.contains name=true):∃ y,typeLookup (.type "object") name=pure y:=by
 have:name∈methNames:=by simpa using h
 unfold methNames at this
 simp only [List.mem_cons,List.not_mem_nil,or_false] at this
 rcases this with rfl | rfl | rfl | rfl | rfl | rfl | rfl
 ·exact ⟨some (.builtin "object.__init__"),by rw [typeLookup_type,builtinLookup_eq_fast];kernel_rfl⟩
 all_goals exact ⟨none,by rw [typeLookup_type,builtinLookup_eq_fast];kernel_rfl⟩
section
open Builtin Builtin.ObjectAttr
variable {prog:Program} {w:World} {A:Around} {E:Value→Shared→Prop} {h:Heap} {g:Array GenState} {d:Drawn} {t:Nat} {os:OsState} {C N x dx:Addr} {mN mA:Str→Option Value} {name:Str} {v:Value} {o:Obj} {ns:List Str}
theorem setAttr_in {B sa owner : String} {bm : List Value} {nm q : Str} {bs sub : List Value} {sn : List Str} {ab : Bool} {col : Option Bool} {dd : Option Addr} {k0 k1 k2 k3 k5 : Option Value} {newId : String} {Q : Unit → Shared → Prop} (SF : StoreFacts B bm sa owner)
  (hC:h.get? C=some (excClassObj nm q C N bs bm true sn sub ab col dd k0 k1 k2 k3 k5 newId)) (hn:h.Ns N mN) (hns:mN "__setattr__" = none) (hna:mN name=none) (hB:typeLookup (.type B) name=pure none)
  (hx:h.get? x=some o) (hc:o.cls=.ref C) (hd:o.dict=some dx) (hm:h.Ns1 dx mA) (hw:Within mA ns) (hsz:ns.length≤1000)
  (hq:∀ h' tk',h'.Ns1 dx (fun y=>if y=name then some v else mA y)→Heap.SameBut dx h h'→Q () ⟨h',g,d,tk',os⟩) :
  wpAny (model prog w) A (setAttr (.ref x) name v) Q E ⟨h,g,d,t,os⟩:=by
 have f3:=SF.slot.bind (.ref x)
 have hpass:=SF.passes (.ref x)
 unfold setAttr callSpecial? specialOf
 repeat (any_goals (first | assumption | (with_reducible refine wpAny_loadPart_at hx ?_;refine hc.symm▸?_) | (with_reducible refine wpAny_typeLookup_exc hC hn SF.mro SF.slot.lookup ?_;refine hns.symm▸?_) | wp_step))
 refine codeAny_call_builtin SF.slot.plain SF.entry (wpAny_check_sa SF hC hx hc ?_)
 unfold Builtin.«object.__setattr__»
 repeat (first | rw [refuse_eq] | (rw [refuseLoop_ref,hpass]) | (with_reducible refine wpAny_loadPart_at hx ?_;rw [hc]) | with_reducible refine wpAny_mroOf_exc hC ?_ | (with_reducible refine wpAny_typeLookup_exc hC hn SF.mro hB ?_;rw [hna]) | wp_step)
 rw [hd]
 refine wpAny_pure ?_
 refine (?_:wpAny _ _ (storeInDict dx (.str name _) name v) _ _ _)
 unfold storeInDict newKeyGuard
 refine wpAny_bind (wpAny_pure (wpAny_bind (wpAny_nsSet1 hm fun h' hn' hs=>?_)))
 obtain ⟨oD,esD,epD,hoD,hdD,hcD⟩:=hn'.count (Within.cons name v hw)
 refine wpAny_bind (wpAny_lookBehind hoD (by refine hdD.symm▸?_;exact pastItsLine_dict (Nat.le_trans hcD (by refine List.length_cons.symm▸?_;refine sizeLine_eq.symm▸?_;omega))) ?_)
 wp_walk
 repeat (any_goals (first | assumption | wp_step))
 exact hq h' _ hn' hs
theorem setAttr_at {Q : Unit → Shared → Prop} (X : ClsAt h C N mN) (hns : mN "__setattr__" = none) (hna : mN name = none) (hB : typeLookup (.type "object") name = pure none)
  (hx:h.get? x=some o) (hc:o.cls=.ref C) (hd:o.dict=some dx) (hm:h.Ns1 dx mA) (hw:Within mA ns) (hsz:ns.length≤1000)
  (hq:∀ h' tk',h'.Ns1 dx (fun y=>if y=name then some v else mA y)→Heap.SameBut dx h h'→Q () ⟨h',g,d,tk',os⟩) :
  wpAny (model prog w) A (setAttr (.ref x) name v) Q E ⟨h,g,d,t,os⟩:=by
 obtain ⟨nm,q,bs,sn,sub,col,dd,k0,k1,k2,k3,k5,hC⟩:=X.obj
 exact setAttr_in PySem.F.store_object hC X.ns hns hna hB hx hc hd hm hw hsz hq
end
section
variable {T:TI} {S:Sy} (W:Wld T S) {A:Around} {H:Hp} {s:Shared} {E:Value→Shared→Prop}
include W
theorem prim_glob {x : Str} {v : V} (e : S.G x = some v) (R : Rel T H s) {env : Env} (hg : env.globals = mainGlobals) (hb : env.builtins = builtinsNs) {Q : Value → Shared → Prop} (g : ∀ u, VR T s.heap v u → Q u s) :
  wpAny T.M A (loadGlobal env x) Q E s:=by
 obtain ⟨mg,mb,hn,hv⟩:=W.glob
 obtain ⟨n1,n2⟩:=hn s.heap R.base
 obtain ⟨u,hu,hr⟩:=hv x v e
 rw [← hg] at n1
 rw [← hb] at n2
 rcases hu with hu | ⟨h0,hu⟩
 ·exact loadGlobal_global n1 hu (g u (hr _ R.base))
 ·exact loadGlobal_builtin n1 h0 n2 hu (g u (hr _ R.base))
omit W in
theorem inst_of (R:Rel T H s) {a d:Addr} {kvs:List (Str×V)} (ha:H a=some (.inst d)) (hd:H d=some (.ns kvs)):∃ m,s.heap.Inst a T.cS m∧(∀ k x,getK kvs k=some x→∃ v,m k=some v∧VR T s.heap x v)∧(∀ k,getK kvs k=none→m k=none)∧s.heap.Ns1 d m:=by
 obtain ⟨o,ho,hc,hdd,hne,hnc,_⟩:=R.objs _ _ ha
 obtain ⟨m,hm,p,q⟩:=R.objs _ _ hd
 exact ⟨m,⟨o,ho,hc,hnc,.inr ⟨d,hdd,hne,hm⟩⟩,p,q,hm⟩
omit W in
theorem getK_upd {K:Type} [DecidableEq K] (kvs:List (K×V)) (k:K) (v:V) (y:K):getK (kvs.map fun kv=>if kv.1=k then (kv.1,v) else kv) y=(kvs.find? fun kv=>decide (kv.1=y)).map fun kv=>if kv.1=k then v else kv.2:=by
 rw [show (fun kv:K×V=>if kv.1=k then (kv.1,v) else kv)=fun kv=>(kv.1,if kv.1=k then v else kv.2) from funext fun kv=>upd k v kv]
 exact (congrArg (Option.map _) List.find?_map).trans (Option.map_map _ _ _)
omit W in
theorem getK_put {K:Type} [DecidableEq K] (kvs:List (K×V)) (k:K) (v:V) (y:K):getK (putK kvs k v) y=if y=k then some v else getK kvs y:=by
 unfold putK
 by_cases hk:(kvs.any fun kv=>decide (kv.1=k))=true
 ·rw [if_pos hk,getK_upd]
  unfold getK
  cases f:kvs.find? fun kv=>decide (kv.1=y) with
  | none =>
    by_cases hy:y=k
    ·obtain ⟨p,hp,q⟩:=List.any_eq_true.mp hk
     exact absurd (hy▸q) (List.find?_eq_none.mp f p hp)
    ·rw [if_neg hy];rfl
  | some p =>
    have hp:p.1=y:=of_decide_eq_true (List.find?_some (p:=fun kv:K×V=>decide (kv.1=y)) f)
    refine (?_:some (if p.1=k then v else p.2)=if y=k then some v else some p.2)
    rw [hp]
    by_cases hy:y=k
    ·rw [if_pos hy,if_pos hy]
    ·rw [if_neg hy,if_neg hy]
 ·rw [if_neg hk]
  refine (congrArg (Option.map Prod.snd) List.find?_append).trans ?_
  by_cases hy:y=k
  ·rw [hy,List.find?_eq_none.mpr fun p hp e=>hk (List.any_eq_true.mpr ⟨p,hp,e⟩),if_pos rfl]
   exact congrArg (Option.map Prod.snd) (List.find?_cons_of_pos (p:=fun kv:K×V=>decide (kv.1=k)) (a:=(k,v)) (decide_eq_true rfl))
  ·rw [if_neg hy,show [(k,v)].find? (fun kv=>decide (kv.1=y))=none from List.find?_cons_of_neg (p:=fun kv:K×V=>decide (kv.1=y)) (a:=(k,v)) fun q=>hy (of_decide_eq_true q).symm,Option.or_none];rfl
theorem prim_putA {o : V} {name : Str} {x : V} {K : Hp → Prop} (h : wPutA o name x H K) {vo vx : Value} (R : Rel T H s) (ro : VR T s.heap o vo) (rx : VR T s.heap x vx) {Q : Unit → Shared → Prop}
  (g:∀ H' s',K H'→Rel T H' s'→Ev H s.heap H' s'.heap→Q () s'):wpAny T.M A (setAttr vo name vx) Q E s:=by
 cases o with
 | obj a =>
   obtain rfl:=ro.iO
   obtain ⟨d,kvs,hat,ha,hd,hl,k⟩:=h
   obtain ⟨m,I,p,q,hns⟩:=inst_of R ha hd
   obtain ⟨N,mN,hcl,h1,h2,h3,h4,_⟩:=W.cls
   have X:=hcl s.heap R.base
   obtain ⟨nm,q',bs,sn,sub,col,dd,k0,k1,k2,k3,k5,hC⟩:=X.obj
   obtain ⟨oa,hoa,hca,hda,hne,hnca,hnf⟩:=R.objs _ _ ha
   have hac:a≠T.cS:=by
    rintro rfl
    obtain ⟨oc,hoc⟩:=W.cSB
    rw [R.new _ _ ha] at hoc;cases hoc
   have hw:Within m (kvs.map (·.1)):=fun y hy=>by
    cases hg:getK kvs y with
    | none=>exact absurd (q y hg) hy
    | some z =>
      unfold getK at hg
      cases hf:kvs.find? fun kv=>decide (kv.1=y) with
      | none=>rw [hf] at hg;cases hg
      | some p =>
        have h1:=List.mem_of_find?_eq_some hf
        have h2:=List.find?_some hf
        exact List.mem_map.mpr ⟨p,h1,by simpa using h2⟩
   obtain ⟨hh,gg,dr,tk,os⟩:=s
   refine setAttr_at X h1 (h4 name hat) (attrs_object hat) hoa hca hda hns hw (by rw [List.length_map];omega) fun h' tk' hn' hs'=>?_
   have fk:=R.turnFix hd hs'.2
   refine g _ _ k (R.turn (h':=h') (n:=tk') hd hs'.2 ⟨_,hn',fun y z hz=>?_,fun y hy=>?_⟩) (Ev.turn hd hs'.2 ((by obtain ⟨o,_,_,ho,_⟩:=hn';exact ⟨o,ho⟩)))
   ·rw [getK_put] at hz
    by_cases hy:y=name
    ·rw [if_pos hy] at hz
     cases hz
     exact ⟨vx,by simp [hy],rx.mono fk⟩
    ·rw [if_neg hy] at hz
     obtain ⟨u,hu,ru⟩:=p y z hz
     exact ⟨u,by simp [hy,hu],ru.mono fk⟩
   ·rw [getK_put] at hy
    by_cases hyn:y=name
    ·rw [if_pos hyn] at hy;cases hy
    ·rw [if_neg hyn] at hy
     simp [hyn,q y hy]
 | _=>first | exact False.elim h
end
theorem md_get:typeLookup (.type "method_descriptor") "__get__" = pure (some (.builtin "method_descriptor.__get__")):=by rw [typeLookup_type,builtinLookup_eq_fast];kernel_rfl
theorem md_sub:isSubtype (.type "method_descriptor") (.type "method_descriptor")=pure true:=by rw [isSubtype_type];kernel_rfl
theorem slot_md_get:Slot "method_descriptor" "__get__" "method_descriptor.__get__" :=
 Slot.of (owner := "method_descriptor") (n := "__get__") md_get (by decide +kernel) (by decide +kernel) (by decide +kernel) (by decide +kernel) md_sub
theorem entry_md_get:entryFor table "method_descriptor.__get__" = some Builtin.«method_descriptor.__get__»:=entryFor_of_tree (by kernel_rfl)
theorem args_md_get (a b c:Value):argsOk "method_descriptor.__get__" ⟨[a,b,c],[]⟩:=by unfold argsOk;kernel_rfl
theorem md_set:typeLookup (.type "method_descriptor") "__set__" = pure none:=by rw [typeLookup_type,builtinLookup_eq_fast];kernel_rfl
theorem md_del:typeLookup (.type "method_descriptor") "__delete__" = pure none:=by rw [typeLookup_type,builtinLookup_eq_fast];kernel_rfl
section
variable {prog:Program} {w:World} {A:Around} {E:Value→Shared→Prop} {h:Heap} {g:Array GenState} {d:Drawn} {t:Nat} {os:OsState}
theorem dg_sub:isSubtype (.type "dict") (.type (".".intercalate ("dict.get".cutAt '.').dropLast))=pure true:=by
 rw [show ".".intercalate ("dict.get".cutAt '.').dropLast = "dict" by decide +kernel,isSubtype_type];kernel_rfl
theorem dg_noHook:typeLookup (.type "dict") "__getattr__" = pure none:=PySem.am_dict_getattr_none
theorem dg_bind (a : Addr) (es : Array DictEntry) (k : Nat) :
  Meets (Builtin.«method_descriptor.__get__» ⟨[.builtin "dict.get",.ref a,.type "dict"],[]⟩) (fun Z R s=>s.heap.get? a=some { cls:=.type "dict",data:=.dict es k } ∧
   R (.ok (.ret (.ref s.heap.objs.size))) { s with heap:=s.heap.push { cls:=.type "builtin_function_or_method",data:=.fields #[.builtin "dict.get",.ref a] } }) :=
 .of_wp fun prog w A R s h=>by
  obtain ⟨hp,g,d,tk,os⟩:=s;obtain ⟨hx,h⟩:=h
  have hT:∀ tk',(⟨hp,g,d,tk',os⟩:Shared).TypeIs (.ref a) "dict" := fun Z=>⟨_,hx,rfl⟩
  have f6:=dg_sub
  wp_walk using AutoSeq1.wpAny_loadPart' hx
  exact ⟨_,rfl,h⟩
theorem dg_ga (a : Addr) (es : Array DictEntry) (k : Nat) (tk : Tok) :
  Meets (Builtin.«object.__getattribute__» ⟨[.ref a,.str "get" tk],[]⟩) (fun Z R s=>s.heap.get? a=some { cls:=.type "dict",data:=.dict es k } ∧
   R (.ok (.ret (.ref s.heap.objs.size))) { s with heap:=s.heap.push { cls:=.type "builtin_function_or_method",data:=.fields #[.builtin "dict.get",.ref a] } }) :=
 .of_wp fun prog w A R s h=>by
  obtain ⟨hp,g,d,tk,os⟩:=s;obtain ⟨hx,h⟩:=h
  have hT:∀ tk',(⟨hp,g,d,tk',os⟩:Shared).TypeIs (.ref a) "dict" := fun Z=>⟨_,hx,rfl⟩
  have f6:=F.slot_dict_get.lookup
  have f7:=F.type_dict_get
  have f8:=md_get
  have f9:=md_set
  have f10:=md_del
  repeat (any_goals (first | assumption | ((with_reducible show wpAny _ _ (call (Value.builtin "method_descriptor.__get__") _ _) _ _ _);refine call_meets slot_md_get F.type_dict_get entry_md_get (args_md_get _ _ _) (dg_bind a es k) ⟨hx,?_⟩) | wp_step))
  exact wpAny_pure ⟨_,rfl,h⟩
theorem dg_attr {a : Addr} {es : Array DictEntry} {k : Nat} {Q : Value → Shared → Prop} (hx : h.get? a = some { cls := .type "dict", data := .dict es k })
  (hq:∀ tk,Q (.ref h.objs.size) ⟨h.push { cls:=.type "builtin_function_or_method",data:=.fields #[.builtin "dict.get",.ref a] },g,d,tk,os⟩) :
  wpAny (model prog w) A (getAttr (.ref a) "get" true) Q E ⟨h,g,d,t,os⟩:=by
 have hT:∀ tk',(⟨h,g,d,tk',os⟩:Shared).TypeIs (.ref a) "dict" := fun Z=>⟨_,hx,rfl⟩
 have f3:=F.slot_dict_getattribute.lookup
 have f4:=F.slot_dict_getattribute.bind (.ref a)
 have f5:=dg_noHook
 unfold getAttr getAttrBy
 repeat (any_goals (first | assumption | exact hT _ | ((with_reducible show wpAny _ _ (call (Value.builtin "dict.__getattribute__") _ _) _ _ _);refine call_meets F.slot_dict_getattribute (hT _) am_entry_dict_getattribute (F.args_dict_getattribute_2 _ _) (dg_ga a es k _) ⟨hx,?_⟩) | wp_step))
 exact wpAny_pure (hq _)
end
section
variable {prog:Program} {w:World} {A:Around} {E:Value→Shared→Prop} {h:Heap} {g:Array GenState} {d:Drawn} {t:Nat} {os:OsState}
theorem sc_sub:isSubtype (.type "set") (.type (".".intercalate ("set.__contains__".cutAt '.').dropLast))=pure true:=by
 rw [show ".".intercalate ("set.__contains__".cutAt '.').dropLast = "set" by decide +kernel,isSubtype_type];kernel_rfl
theorem sc_noHook:typeLookup (.type "set") "__getattr__" = pure none:=by rw [typeLookup_type,builtinLookup_eq_fast];kernel_rfl
theorem sc_bind (a : Addr) (n : Nat) (tb : SetTable) :
  Meets (Builtin.«method_descriptor.__get__» ⟨[.builtin "set.__contains__",.ref a,.type "set"],[]⟩) (fun Z R s=>s.heap.get? a=some { cls:=.type "set",data:=.set #[] n tb } ∧
   R (.ok (.ret (.ref s.heap.objs.size))) { s with heap:=s.heap.push { cls:=.type "builtin_function_or_method",data:=.fields #[.builtin "set.__contains__",.ref a] } }) :=
 .of_wp fun prog w A R s h=>by
  obtain ⟨hp,g,d,tk,os⟩:=s;obtain ⟨hx,h⟩:=h
  have hT:∀ tk',(⟨hp,g,d,tk',os⟩:Shared).TypeIs (.ref a) "set" := fun Z=>⟨_,hx,rfl⟩
  have f6:=sc_sub
  wp_walk using AutoSeq1.wpAny_loadPart' hx
  exact ⟨_,rfl,h⟩
theorem sc_ga (a : Addr) (n : Nat) (tb : SetTable) (tk : Tok) :
  Meets (Builtin.«object.__getattribute__» ⟨[.ref a,.str "__contains__" tk],[]⟩) (fun Z R s=>s.heap.get? a=some { cls:=.type "set",data:=.set #[] n tb } ∧
   R (.ok (.ret (.ref s.heap.objs.size))) { s with heap:=s.heap.push { cls:=.type "builtin_function_or_method",data:=.fields #[.builtin "set.__contains__",.ref a] } }) :=
 .of_wp fun prog w A R s h=>by
  obtain ⟨hp,g,d,tk,os⟩:=s;obtain ⟨hx,h⟩:=h
  have hT:∀ tk',(⟨hp,g,d,tk',os⟩:Shared).TypeIs (.ref a) "set" := fun Z=>⟨_,hx,rfl⟩
  have f6:=F.slot_set_contains.lookup
  have f7:=F.type_set_contains
  have f8:=md_get
  have f9:=md_set
  have f10:=md_del
  repeat (any_goals (first | assumption | ((with_reducible show wpAny _ _ (call (Value.builtin "method_descriptor.__get__") _ _) _ _ _);refine call_meets slot_md_get F.type_set_contains entry_md_get (args_md_get _ _ _) (sc_bind a n tb) ⟨hx,?_⟩) | wp_step))
  exact wpAny_pure ⟨_,rfl,h⟩
theorem sc_attr {a : Addr} {n : Nat} {tb : SetTable} {Q : Value → Shared → Prop} (hx : h.get? a = some { cls := .type "set", data := .set #[] n tb })
  (hq:∀ tk,Q (.ref h.objs.size) ⟨h.push { cls:=.type "builtin_function_or_method",data:=.fields #[.builtin "set.__contains__",.ref a] },g,d,tk,os⟩) :
  wpAny (model prog w) A (getAttr (.ref a) "__contains__" true) Q E ⟨h,g,d,t,os⟩:=by
 have hT:∀ tk',(⟨h,g,d,tk',os⟩:Shared).TypeIs (.ref a) "set" := fun Z=>⟨_,hx,rfl⟩
 have f3:=F.slot_set_getattribute.lookup
 have f4:=F.slot_set_getattribute.bind (.ref a)
 have f5:=sc_noHook
 unfold getAttr getAttrBy
 repeat (any_goals (first | assumption | exact hT _ | ((with_reducible show wpAny _ _ (call (Value.builtin "set.__getattribute__") _ _) _ _ _);refine call_meets F.slot_set_getattribute (hT _) F.entry_set_ga (F.args_set_getattribute_2 _ _) (sc_ga a n tb _) ⟨hx,?_⟩) | wp_step))
 exact wpAny_pure (hq _)
end
section
variable {T:TI} {S:Sy} (W:Wld T S) {A:Around} {H:Hp} {s:Shared} {E:Value→Shared→Prop}
include W
omit W in
theorem VR.handed {h:Heap} {x:V} {v:Value} (r:VR T h x v) (hp:plainV x=true):handedOut v=pure v:=by
 cases r <;> first | rfl | cases hp
omit W in
theorem DR.obj {h:Heap} {a:Addr} {K:Type} [DecidableEq K] {knd:KeyKind T.prog T.w K} {kvs:List (K×V)} (r:DR T h a knd kvs):∃ es k,h.get? a=some { cls:=.type "dict",data:=.dict es k }:=by
 obtain ⟨ps,⟨⟨c,dd,dt,sl⟩,es,ep,ho,⟨h1,h2,h3⟩,hd,_⟩,_⟩:=r
 cases h1;cases h2;cases h3;cases hd
 exact ⟨es,ep,ho⟩
theorem prim_attr {o : V} {name : Str} {K : KV} (h : wAttr H name K o) {vo : Value} (R : Rel T H s) (ro : VR T s.heap o vo) {Q : Value → Shared → Prop} (g : Goes T H s K Q) :
  wpAny T.M A (getAttr vo name true) Q E s:=by
 have bound:∀ {id:String} {a:Addr} (tk:Nat),K (.bm id a) H→Q (.ref s.heap.objs.size) { s with heap:=s.heap.push { cls:=.type "builtin_function_or_method",data:=.fields #[.builtin id,.ref a] },toks:=tk }:=fun tk k =>
  g _ _ _ _ k (R.keeps (n:=tk) fun Z Z e=>Heap.get?_push_of_some _ e) (.bm (Heap.get?_push_size _ rfl)) (Ev.keeps (fun Z Z e=>Heap.get?_push_of_some _ e))
 cases h with
 | dS hx hn k =>
   obtain rfl:=ro.iO
   obtain ⟨es,kk,ho⟩:=DR.obj (R.objs _ _ hx)
   exact hn▸dg_attr ho fun tk=>bound tk k
 | dI hx hn k =>
   obtain rfl:=ro.iO
   obtain ⟨es,kk,ho⟩:=DR.obj (R.objs _ _ hx)
   exact hn▸dg_attr ho fun tk=>bound tk k
 | set hx hn k =>
   obtain rfl:=ro.iO
   obtain ⟨led,ho⟩:=R.objs _ _ hx
   exact hn▸sc_attr ho fun tk=>bound tk k
 | inst hat ha hd hv hp k =>
   obtain rfl:=ro.iO
   obtain ⟨m,I,p,q,hns⟩:=inst_of R ha hd
   obtain ⟨N,mN,hcl,h1,h2,h3,h4,_⟩:=W.cls
   have X:=hcl s.heap R.base
   obtain ⟨nm,q',bs,sn,sub,col,dd,k0,k1,k2,k3,k5,hC⟩:=X.obj
   obtain ⟨u,hu,ru⟩:=p name _ hv
   exact load_attr hC X.ns h2 (h4 name hat) (attrs_object hat) I hu (ru.handed hp) (g _ _ _ _ k (R.toks _) ru (Ev.refl _ _))
omit W in
theorem mid_slot {k:String} {name:Str} {id:String} (h:midOf k name=some id):Slot k name id∧typeOf (.builtin id)=pure (.type "method_descriptor")∧PlainAttrs k:=by
 unfold midOf at h
 cases hf:mids.find? (fun e=>e.1==k&&e.2.1==name) with
 | none=>rw [hf] at h;cases h
 | some e =>
   rw [hf] at h
   have hm:=List.mem_of_find?_eq_some hf
   have hp:=List.find?_some hf
   simp only [Bool.and_eq_true,beq_iff_eq] at hp
   obtain ⟨rfl,rfl⟩:=hp
   simp only [Option.map_some,Option.some.injEq] at h
   subst h
   unfold mids at hm
   simp only [List.mem_cons,List.not_mem_nil,or_false] at hm
   rcases hm with rfl | rfl | rfl | rfl | rfl | rfl | rfl | rfl | rfl
   ·exact ⟨F.slot_list_append,F.type_list_append,F.plainAttrs_list⟩
   ·exact ⟨F.slot_list_extend,F.type_list_extend,F.plainAttrs_list⟩
   ·exact ⟨F.slot_list_pop,F.type_list_pop,F.plainAttrs_list⟩
   ·exact ⟨F.slot_list_sort,F.type_list_sort,F.plainAttrs_list⟩
   ·exact ⟨F.slot_list_index,F.type_list_index,F.plainAttrs_list⟩
   ·exact ⟨F.slot_dict_setdefault,F.type_dict_setdefault,F.plainAttrs_dict⟩
   ·exact ⟨F.slot_dict_get,F.type_dict_get,F.plainAttrs_dict⟩
   ·exact ⟨F.slot_str_join,F.type_str_join,F.plainAttrs_str⟩
   ·exact ⟨F.slot_str_format_m,F.type_str_format_m,F.plainAttrs_str⟩
theorem prim_meth {o : V} {name : Str} {f : V} (h : calleeM S.cl H name o f) {vo : Value} (R : Rel T H s) (ro : VR T s.heap o vo) {pl : Sem Bool} {Q : Value × List Value → Shared → Prop}
  (g:∀ fv,VR T s.heap f fv→Q (fv,[vo]) s):wpAny T.M A (getMethod vo name pl) Q E s:=by
 cases h with
 | kind hk hm =>
   obtain ⟨sl,ty,pa⟩:=mid_slot hm
   have fin:=fun h1 h2=>getMethod_builtin (M:=T.M) (A:=A) (E:=E) (pl:=pl) (Q:=Q) h1 pa sl ty h2 (g _ (.lit _))
   have fo:∀ {a:Addr} {o:Obj},s.heap.get? a=some o→o.dict=none→∀ b,Value.ref a=.ref b→∃ o,s.heap.get? b=some o∧o.dict=none:=fun h q Z e=>⟨_,Value.ref.inj e▸h,q⟩
   cases hk with
   | str=>obtain ⟨_,rfl⟩:=ro.iS;exact fin (typeIs_str _ _ _) nofun
   | list hx =>
     obtain rfl:=ro.iO
     obtain ⟨vs,n,ga,rs⟩:=R.objs _ _ hx
     exact fin ⟨_,ga,rfl⟩ (fo ga rfl)
   | dS hx =>
     obtain rfl:=ro.iO
     obtain ⟨es,kk,ho⟩:=DR.obj (R.objs _ _ hx)
     exact fin ⟨_,ho,rfl⟩ (fo ho rfl)
   | dI hx =>
     obtain rfl:=ro.iO
     obtain ⟨es,kk,ho⟩:=DR.obj (R.objs _ _ hx)
     exact fin ⟨_,ho,rfl⟩ (fo ho rfl)
   | set hx =>
     obtain rfl:=ro.iO
     obtain ⟨led,ho⟩:=R.objs _ _ hx
     exact fin ⟨_,ho,rfl⟩ (fo ho rfl)
 | cls ha hd hn hc =>
   obtain rfl:=ro.iO
   obtain ⟨m,I,p,q,hns⟩:=inst_of R ha hd
   obtain ⟨N,mN,hcl,h1,h2,h3,h4,h5⟩:=W.cls
   obtain ⟨hmn,hmf,of,hof,hfc⟩:=h5 name _ hc
   have X:=hcl s.heap R.base
   obtain ⟨nm,q',bs,sn,sub,col,dd,k0,k1,k2,k3,k5,hC⟩:=X.obj
   obtain ⟨y,hy⟩:=meth_object hmn
   exact method_of hC X.ns h2 h3 hmf (R.base _ _ hof) hfc hy I (q name hn) (g _ (.lit _))
end
section
variable {prog:Program} {w:World} {A:Around} {E:Value→Shared→Prop} {s:Shared}
theorem letGo_plain {t : Expr} {I : Addr} {v : Value} {o : Obj} {n : String} {vs : Array Value} {Q : Unit → Shared → Prop} (ho : s.heap.get? I = some o) (hc : o.cls = .type n) (hd : o.data = .fields vs)
  (hn:["enumerate", "zip", "dict_itemiterator", "dict_reverseitemiterator", "odict_iterator", "itertools.zip_longest", "itertools.pairwise"].contains n=false) (h:Q () s) :
  wpAny (model prog w) A (letOwnedTupleGo t (.ref I) v) Q E s:=by
 have key : wpAny (model prog w) A (do
   let (.ref r,.ref a):=((Value.ref I),v) | return
   let o ← load r
   match o.cls,o.data with
   | .type n, .fields vs =>
     if ["enumerate", "zip", "dict_itemiterator", "dict_reverseitemiterator", "odict_iterator", "itertools.zip_longest", "itertools.pairwise"].contains n&&vs[0]?==some (rawInt a) then
      rule "for.unpacks-the-owned-tuple"
      updateField r 0 .none
   | _,_=>pure ()) Q E s:=by
  cases v with
  | ref a =>
    refine wpAny_bind (wpAny_load ho ?_)
    refine hc.symm▸?_;refine hd.symm▸?_
    dsimp only
    rw [if_neg (by refine hn.symm▸?_;simp)]
    exact wpAny_pure h
  | _=>exact wpAny_pure h
 cases t <;> first | exact key | exact wpAny_pure h
end
section
variable {T:TI} {A:Around} (HA:Rm 1 A) {H:Hp} {s:Shared} {Q:Value→Shared→Prop} {E:Value→Shared→Prop}
include HA
omit HA in
theorem notFix_of {o:Obj} {n:String} (hc:o.cls=.type n) (h1:n ≠ "tuple") (h2:n ≠ "builtin_function_or_method"):¬ Fixed T o:=by
 intro f
 rcases f with ⟨f | f,_⟩ | ⟨f,_⟩
 ·rw [hc] at f;exact h1 (by simpa using f)
 ·rw [hc] at f;cases f
 ·rw [hc] at f;exact h2 (by simpa using f)
omit HA in
theorem fix_same {h h':Heap} {I:Addr} {o:Obj} (e:h.get? I=some o) (nf:¬ Fixed T o) (hs:∀ b,b≠I→h'.get? b=h.get? b):FixKeep T h h':=fun a ob ea fa=>by
 have:a≠I:=by rintro rfl;rw [e] at ea;cases ea;exact nf fa
 exact (hs a this).trans ea
theorem prim_iterL {a : Addr} {xs : List V} (t : Expr) (ha : H a = some (.list xs)) (R : Rel T H s)
  (g:∀ I s' own St,Itr T A I t xs (fun H=>H a=some (.list xs)) own St→St 0 s'.heap→Rel T H s'→Ev H s.heap H s'.heap→(∀ b∈own,s.heap.objs.size≤b)→Q (.ref I) s'):wpAny T.M A (pyIter (.ref a)) Q E s:=by
 obtain ⟨vs,n,ga,rs⟩:=R.objs _ _ ha
 refine wpAny_pyIter_list (items:=vs.toArray) ⟨_,ga,rfl,n,rfl⟩ ?_
 generalize hI:s.heap.objs.size=I
 refine g I { s with heap:=s.heap.push { cls:=.type "list_iterator",data:=.fields #[.ref a,.int 0 0] } } [I] (fun i h=>h.IsListIter I a i) ?_ ?_ (R.keeps (n:=s.toks) fun Z Z e=>Heap.get?_push_of_some _ e) (Ev.keeps fun Z Z e=>Heap.get?_push_of_some _ e) (by simp [← hI])
 ·refine ⟨fun i h h' st k Z=>?_,fun i h st b hb=>?_,fun i x hx H' s' R' hg st ho Q' E' k=>?_,fun H' s' R' hg st ho Q' E' k=>?_,fun i s' Q' E' st k=>wpAny_pyIter_listiter st k⟩
  ·obtain ⟨o,e,r⟩:=st;exact ⟨o,k I (.head _) o e,r⟩
  ·obtain ⟨o,e,hc,hd⟩:=st
   cases hb with
   | head=>exact ⟨o,e,notFix_of hc (by decide) (by decide)⟩
   | tail _ h=>cases h
  ·obtain ⟨vs',n',ga',rs'⟩:=R'.objs _ _ hg
   obtain ⟨v,hv,rv⟩:=rs'.get hx
   refine wpAny_pyNext_list_item st (items:=vs'.toArray) ⟨_,ga',rfl,n',rfl⟩ (by rw [List.getElem?_toArray];exact hv) fun h' st' hs'=>⟨v,rfl,?_⟩
   obtain ⟨o,e,hc,hd⟩:=st
   obtain ⟨o',e',hc',hd'⟩:=id st'
   refine letGo_plain (s:={ s' with heap:=h' }) e' hc' hd' (by decide) (k v h' s'.toks (rv.mono (fix_same e (notFix_of hc (by decide) (by decide)) hs'.2)) st' fun b ob hb eb=>?_)
   exact (hs'.2 b (fun q=>hb (q▸.head _))).trans eb
  ·obtain ⟨vs',n',ga',rs'⟩:=R'.objs _ _ hg
   refine wpAny_pyNext_list_end HA.h st (items:=vs'.toArray) ⟨_,ga',rfl,n',rfl⟩ (by rw [rs'.length];simp) fun h' hx'=>⟨rfl,k h' s'.toks fun b ob hb eb=>hx' b ob (fun q=>hb (q▸.head _)) eb⟩
 ·exact ⟨_,by rw [← hI];exact Heap.get?_push_size _ rfl,rfl,rfl⟩
theorem prim_iterT {xs : List V} (t : Expr) {v : Value} (R : Rel T H s) (rv : VR T s.heap (.tup xs) v)
  (g:∀ I s' own St,Itr T A I t xs (fun Z=>True) own St→St 0 s'.heap→Rel T H s'→Ev H s.heap H s'.heap→(∀ b∈own,s.heap.objs.size≤b)→Q (.ref I) s'):wpAny T.M A (pyIter v) Q E s:=by
 obtain ⟨vs,a,rfl,hta,rs⟩:=rv.iT
 refine wpAny_pyIter_tuple (items:=vs.toArray) hta ?_
 generalize hI:s.heap.objs.size=I
 have ftup:∀ {h h':Heap},FixKeep T h h'→h.IsTuple a vs.toArray→h'.IsTuple a vs.toArray:=fun k z0=>(by obtain ⟨o,e,c,n,d⟩:=z0;exact ⟨o,k _ _ e (.inl ⟨.inl c,_,_,d⟩),c,n,d⟩)
 refine g I { s with heap:=s.heap.push { cls:=.type "tuple_iterator",data:=.fields #[.ref a,.int 0 0] } } [I] (fun i h=>h.IsTupleIter I a i∧h.IsTuple a vs.toArray∧VRs T h xs vs) ?_ ?_ (R.keeps (n:=s.toks) fun Z Z e=>Heap.get?_push_of_some _ e) (Ev.keeps fun Z Z e=>Heap.get?_push_of_some _ e) (by simp [← hI])
 ·refine ⟨fun i h h' st k fk=>?_,fun i h st b hb=>?_,fun i x hx H' s' R' hg st ho Q' E' k=>?_,fun H' s' R' hg st ho Q' E' k=>?_,fun i s' Q' E' st k=>wpAny_pyIter_tupleiter st.1 k⟩
  ·obtain ⟨⟨o,e,r⟩,t1,t2⟩:=st;exact ⟨⟨o,k I (.head _) o e,r⟩,ftup fk t1,t2.mono fk⟩
  ·obtain ⟨⟨o,e,hc,hd⟩,_,_⟩:=st
   cases hb with
   | head=>exact ⟨o,e,notFix_of hc (by decide) (by decide)⟩
   | tail _ h=>cases h
  ·obtain ⟨st,t1,t2⟩:=st
   obtain ⟨v,hv,rv⟩:=t2.get hx
   refine wpAny_pyNext_tuple_item st t1 (by rw [List.getElem?_toArray];exact hv) fun h' st' hs'=>⟨v,rfl,?_⟩
   obtain ⟨o,e,hc,hd⟩:=st
   obtain ⟨o',e',hc',hd'⟩:=id st'
   have fk:FixKeep T s'.heap h':=fix_same e (notFix_of hc (by decide) (by decide)) hs'.2
   refine letGo_plain (s:={ s' with heap:=h' }) e' hc' hd' (by decide) (k v h' s'.toks (rv.mono fk) ⟨st',ftup fk t1,t2.mono fk⟩ fun b ob hb eb=>?_)
   exact (hs'.2 b (fun q=>hb (q▸.head _))).trans eb
  ·obtain ⟨st,t1,t2⟩:=st
   refine wpAny_pyNext_tuple_end HA.h st t1 (by rw [t2.length];simp) fun h' hx'=>⟨rfl,k h' s'.toks fun b ob hb eb=>hx' b ob (fun q=>hb (q▸.head _)) eb⟩
 ·exact ⟨⟨_,by rw [← hI];exact Heap.get?_push_size _ rfl,rfl,rfl⟩,hta.push _,rs.mono (FixKeep.push T _ _)⟩
omit HA in
theorem cast1 (k:Int) (i:Nat):k+1+(i:Int)=k+((i+1:Nat):Int):=(Int.add_assoc k 1 i).trans (congrArg (k+·) (Int.add_comm 1 i))
omit HA in
theorem up_at (k:Nat):∀ (i:Int) (n:Nat),n < k→(upFrom i k)[n]?=some (.int (i+n)):=by
 induction k with
 | zero=>exact fun i n h=>absurd h (Nat.not_lt_zero n)
 | succ k ih =>
   intro i n h
   cases n with
   | zero=>exact congrArg (fun z=>some (V.int z)) (Int.add_zero i).symm
   | succ n=>exact (ih (i+1) n (Nat.lt_of_succ_lt_succ h)).trans (congrArg (fun z=>some (V.int z)) (cast1 i n))
omit HA in
theorem upFrom_len (n:Int) (k:Nat):(upFrom n k).length=k:=by
 induction k generalizing n with
 | zero=>rfl
 | succ k ih=>exact congrArg Nat.succ (ih (n+1))
omit HA in
theorem upFrom_get (n:Int) (k i:Nat) {x:V} (h:(upFrom n k)[i]?=some x):x=.int (n+i)∧i < k:=by
 have hl:i < k:=upFrom_len n k▸(List.getElem?_eq_some_iff.mp h).1
 exact ⟨Option.some.inj (h.symm.trans (up_at k n i hl)),hl⟩
theorem prim_range (t : Expr) {r : Addr} {a b : Int} {t1 t2 t3 : Tok} (h1 : -small < a) (h2 : a < small) (h3 : -small < b) (h4 : b < small) (R : Rel T H s) (hr : IsRange s.heap r a b 1 t1 t2 t3)
  (g:∀ I s' own St,Itr T A I t (upFrom a (b - a).toNat) (fun Z=>True) own St→St 0 s'.heap→Rel T H s'→Ev H s.heap H s'.heap→(∀ b∈own,s.heap.objs.size≤b)→Q (.ref I) s'):wpAny T.M A (pyIter (.ref r)) Q E s:=by
 unfold small at *
 refine wpAny_pyIter_range hr (small_one (Int.le_of_lt h1) h2 (Int.le_of_lt h3) h4) ?_
 have hsz:Builtin.Range.rangeSize a b 1=((b - a).toNat:Int):=by
  rw [rangeSize_one]
  by_cases c:a < b
  ·rw [if_pos c];exact (Int.toNat_of_nonneg (Int.sub_nonneg_of_le (Int.le_of_lt c))).symm
  ·rw [if_neg c,Int.toNat_of_nonpos (Int.sub_nonpos_of_le (Int.not_lt.mp c))];rfl
 rw [hsz]
 generalize hk:(b - a).toNat=kk at *
 generalize hI:s.heap.objs.size=I
 refine g I { s with heap:=s.heap.push { cls:=.type "range_iterator",data:=.fields #[rawInt a,rawInt (kk:Int),rawInt 1] } } [I] (fun i h=>IsRangeIter h I (a+i) ((kk:Int) - i) 1) ?_ ?_ (R.keeps (n:=s.toks) fun Z Z e=>Heap.get?_push_of_some _ e) (Ev.keeps fun Z Z e=>Heap.get?_push_of_some _ e) (by simp [← hI])
 ·refine ⟨fun i h h' st k fk=>k I (.head _) _ st,fun i h st b hb=>?_,fun i x hx H' s' R' hg st ho Q' E' k=>?_,fun H' s' R' hg st ho Q' E' k=>?_,fun i s' Q' E' st k=>wpAny_pyIter_rangeiter st k⟩
  ·cases hb with
   | head=>exact ⟨_,st,notFix_of rfl (by decide) (by decide)⟩
   | tail _ h=>cases h
  ·obtain ⟨rfl,hlt⟩:=upFrom_get _ _ _ hx
   refine wpAny_pyNext_range_item st (Int.sub_pos.mpr (Int.ofNat_lt.mpr hlt)) fun h' st' hs'=>⟨_,rfl,?_⟩
   refine letGo_plain (s:={ s' with heap:=h',toks:=s'.toks+1 }) st' rfl rfl (by decide) (k _ h' (s'.toks+1) (.int _ _) ?_ fun b ob hb eb=>?_)
   ·rw [Int.add_assoc,Int.sub_sub] at st';exact st'
   ·exact (hs'.2 b (fun q=>hb (q▸.head _))).trans eb
  ·rw [upFrom_len] at st
   refine wpAny_pyNext_range_end HA.h st (Int.le_of_eq (Int.sub_self _)) fun h' hx'=>⟨rfl,k h' s'.toks fun b ob hb eb=>hx' b ob (fun q=>hb (q▸.head _)) eb⟩
 ·show IsRangeIter _ I (a+((0:Nat):Int)) ((kk:Int) - ((0:Nat):Int)) 1
  have e1:a+((0:Nat):Int)=a:=by simp
  have e2:(kk:Int) - ((0:Nat):Int)=kk:=by simp
  rw [e1,e2,← hI]
  exact Heap.get?_push_size _ rfl
theorem prim_iterR1 {n : Int} {tn : Tok} (t : Expr) (h1 : -small < n) (h2 : n < small) (R : Rel T H s)
  (g:∀ I s' own St,Itr T A I t (upFrom 0 n.toNat) (fun Z=>True) own St→St 0 s'.heap→Rel T H s'→Ev H s.heap H s'.heap→(∀ b∈own,s.heap.objs.size≤b)→Q (.ref I) s') :
  wpAny T.M A (call (.type "range") [.int n tn]) (fun e s'=>wpAny T.M A (pyIter e) Q E s') E s:=by
 refine call_range_1 ?_
 have R':=R.keeps (h':=s.heap.push { cls:=.type "range",data:=.fields #[.int 0 s.toks,.int n tn,.int 1 (s.toks+1)] }) (n:=s.toks+1+1) fun Z Z e=>Heap.get?_push_of_some _ e
 refine prim_range HA t (a:=0) (b:=n) (by decide) (by decide) h1 h2 R' (IsRange.new _ _ _ _ _ _ _) fun I s' own St X st R₁ e₁ ho=>?_
 have e0:(n - 0).toNat=n.toNat:=congrArg Int.toNat (Int.sub_zero n)
 rw [e0] at X
 exact g I s' own St X st R₁ ((Ev.keeps fun Z Z e=>Heap.get?_push_of_some _ e).trans e₁) fun b hb=>by
  have:=ho b hb
  rw [Heap.size_push] at this
  exact Nat.le_of_succ_le this
theorem prim_iterR2 {n n' : Int} {tn tn' : Tok} (t : Expr) (h1 : -small < n) (h2 : n < small) (h3 : -small < n') (h4 : n' < small) (R : Rel T H s)
  (g:∀ I s' own St,Itr T A I t (upFrom n (n' - n).toNat) (fun Z=>True) own St→St 0 s'.heap→Rel T H s'→Ev H s.heap H s'.heap→(∀ b∈own,s.heap.objs.size≤b)→Q (.ref I) s') :
  wpAny T.M A (call (.type "range") [.int n tn,.int n' tn']) (fun e s'=>wpAny T.M A (pyIter e) Q E s') E s:=by
 refine call_range_2 ?_
 have R':=R.keeps (h':=s.heap.push { cls:=.type "range",data:=.fields #[.int n tn,.int n' tn',.int 1 s.toks] }) (n:=s.toks+1) fun Z Z e=>Heap.get?_push_of_some _ e
 refine prim_range HA t h1 h2 h3 h4 R' (IsRange.new _ _ _ _ _ _ _) fun I s' own St X st R₁ e₁ ho=>?_
 exact g I s' own St X st R₁ ((Ev.keeps fun Z Z e=>Heap.get?_push_of_some _ e).trans e₁) fun b hb=>by
  have:=ho b hb
  rw [Heap.size_push] at this
  exact Nat.le_of_succ_le this
end
open AutoSeq1 (wpAny_loadPart')
theorem pairs_at (xs:List V):∀ (k:Int) (i:Nat),(pairsFrom k xs)[i]?=(xs[i]?).map fun x=>.tup [.int (k+i),x]:=by
 induction xs with
 | nil=>exact fun Z Z=>rfl
 | cons x r ih =>
   intro k i
   cases i with
   | zero=>exact congrArg (fun z=>some (V.tup [.int z,x])) (Int.add_zero k).symm
   | succ i=>exact (ih (k+1) i).trans (congrArg (fun z=>(r[i]?).map fun x=>V.tup [.int z,x]) (cast1 k i))
theorem pairs_get (n:Int) (xs:List V) (i:Nat) {y:V} (h:(pairsFrom n xs)[i]?=some y):∃ x,xs[i]?=some x∧y=.tup [.int (n+i),x]:=by
 obtain ⟨x,a,b⟩:=Option.map_eq_some_iff.mp ((pairs_at xs n i).symm.trans h)
 exact ⟨x,a,b.symm⟩
theorem pairs_len (n:Int) (xs:List V):(pairsFrom n xs).length=xs.length:=by
 induction xs generalizing n with
 | nil=>rfl
 | cons x xs ih=>exact congrArg Nat.succ (ih (n+1))
section
variable {prog:Program} {w:World} {A:Around} {E:Value→Shared→Prop} {s:Shared}
theorem nextOf_tuple_item {it t : Addr} {i : Nat} {items} {x : Value} {Q : Value → Shared → Prop} (hit : s.heap.IsTupleIter it t i) (ht : s.heap.IsTuple t items) (hx : items[i]? = some x)
  (hQ:∀ h',h'.IsTupleIter it t (i+1)→Heap.SameBut it s.heap h'→Q x { s with heap:=h' }):wpAny (model prog w) A (Builtin.SmallTypes.nextOf (.ref it)) Q E s:=by
 obtain ⟨o,ho,hc,hd⟩:=id hit
 obtain ⟨ol,hol,_,nl,hdl⟩:=ht
 unfold Builtin.SmallTypes.nextOf
 refine wpAny_bind (wpAny_callSpecial?_slot (name:=Str.ofString "__next__") hit.typeIs F.slot_tuple_iterator_next
  (wpAny_call_entry F.slot_tuple_iterator_next hit.typeIs F.entry_tuple_iterator_next ?_ (F.args_tuple_iterator_next_1 _)))
 show wpAny _ _ (field (.ref it) 0 >>= _) _ _ s
 refine wpAny_bind (wpAny_field ho hd (x:=.ref t) rfl ?_)
 show wpAny _ _ (if (Value.ref t==Value.none)=true then _ else _) _ _ s
 rw [if_neg (show ¬ ((Value.ref t==Value.none)=true) from Bool.false_ne_true)]
 show wpAny _ _ (field (.ref it) 1 >>= _) _ _ s
 refine wpAny_bind (wpAny_field ho hd (x:=.int i 0) rfl ?_)
 show wpAny _ _ (seqItems? (.ref t) >>= _) _ _ s
 refine wpAny_bind (wpAny_seqItems hol hdl ?_)
 simp only [Int.toNat_natCast,hx]
 refine wpAny_bind (wpAny_setField ho hd (by simp) (wpAny_pure ⟨x,rfl,wpAny_pure (hQ _ ?_ (Heap.SameBut.update ..))⟩))
 exact ⟨_,Heap.get?_update_self _ ho (Obj.isFreed_of_fields (Obj.data_mapFields hd _)),(Obj.cls_mapFields ..).trans hc,by
  rw [Obj.data_mapFields hd];simp [rawInt]⟩
theorem nextOf_tuple_end {it t : Addr} {i : Nat} {items} {Q : Value → Shared → Prop} (hh : A.handled = none) (hit : s.heap.IsTupleIter it t i) (ht : s.heap.IsTuple t items) (hx : items[i]? = none)
  (hE:∀ h' e,Heap.ExtBut it s.heap h'→(∃ o,h'.get? e=some o∧o.cls=.type "StopIteration")→E (.ref e) { s with heap:=h' }):wpAny (model prog w) A (Builtin.SmallTypes.nextOf (.ref it)) Q E s:=by
 obtain ⟨o,ho,hc,hd⟩:=id hit
 obtain ⟨ol,hol,_,nl,hdl⟩:=ht
 unfold Builtin.SmallTypes.nextOf
 refine wpAny_bind (wpAny_callSpecial?_slot (name:=Str.ofString "__next__") hit.typeIs F.slot_tuple_iterator_next
  (wpAny_call_entry F.slot_tuple_iterator_next hit.typeIs F.entry_tuple_iterator_next ?_ (F.args_tuple_iterator_next_1 _)))
 refine (?_:wpAny _ _ (field (.ref it) 0 >>= _) _ _ s)
 refine wpAny_bind (wpAny_field ho hd (x:=.ref t) rfl ?_)
 refine (?_:wpAny _ _ (if (Value.ref t==Value.none)=true then _ else _) _ _ s)
 rw [if_neg (show ¬ ((Value.ref t==Value.none)=true) from Bool.false_ne_true)]
 refine (?_:wpAny _ _ (field (.ref it) 1 >>= _) _ _ s)
 refine wpAny_bind (wpAny_field ho hd (x:=.int i 0) rfl ?_)
 refine (?_:wpAny _ _ (seqItems? (.ref t) >>= _) _ _ s)
 refine wpAny_bind (wpAny_seqItems hol hdl ?_)
 simp only [Int.toNat_natCast,hx]
 refine wpAny_bind (wpAny_rule (wpAny_bind (wpAny_setField ho hd (by simp) ?_)))
 refine (?_:wpAny _ _ (newExc (.type "StopIteration") [] >>= _) _ _ _)
 refine wpAny_bind ?_
 dsimp only [newExc,newTuple]
 refine wpAny_bind (wpAny_newObj_type ?_ (by size_fits))
 refine wpAny_bind (m:=firstArgMember _ _) (wpAny_of_eq (a:=Value.none) (by first | rfl | (dsimp only [firstArgMember];rfl)) ?_)
 refine wpAny_newObj_type ?_ (by size_fits)
 dsimp only [raiseNew]
 refine wpAny_bind (wpAny_handled ?_)
 first | rw [show A.in1.handled=none from hh] | refine hh.symm▸?_
 refine wpAny_bind (wpAny_pure (wpAny_throw ?_))
 exact hE _ _ (((Heap.SameBut.update ..).extBut.push _).push _) ⟨_,Heap.get?_push_size _ rfl,rfl⟩
theorem draws_tuple (hh : A.handled = none) (it l : Addr) (hne : l ≠ it) (items : Array Value) :
  Draws prog w A it [it,l] items.size (fun i v=>items[i]?=some v) (fun i h=>h.IsTupleIter it l i∧h.IsTuple l items) where
 live:=fun i h st=>let ⟨⟨o,e,_⟩,_⟩:=st;⟨o,e⟩
 frame:=fun i h h' st k=>let ⟨⟨o,e,r⟩,⟨o2,e2,r2⟩⟩:=st;⟨⟨o,k it (.head _) o e,r⟩,⟨o2,k l (.tail _ (.head _)) o2 e2,r2⟩⟩
 item:=fun i s Q E hlt st hQ=>by
  obtain ⟨st,ht⟩:=st
  refine nextOf_tuple_item st ht (Array.getElem?_eq_getElem hlt) fun h' st' hs'=>?_
  exact hQ _ h' s.toks (Array.getElem?_eq_getElem hlt) ⟨st',(by obtain ⟨o,e,r⟩:=ht;exact ⟨o,(hs'.2 l hne).trans e,r⟩)⟩ hs'
 done:=fun s Q E st hE=>nextOf_tuple_end hh st.1 st.2 (by simp) hE
theorem called_any {M:Model} {cls:Value} {Q:Bool→Shared→Prop} (h:∀ b,Q b s):wpAny M A (Builtin.SmallTypes.calledThroughType cls) Q E s:=by
 unfold Builtin.SmallTypes.calledThroughType
 exact wpAny_bind (wpAny_stack_any fun st=>wpAny_pure (h _))
theorem meets_enumerate_newT (l : Addr) (items : Array Value) (n : Nat) (dct : Option Addr) (sl : Array (Option Value)) :
  Meets (Builtin.«enumerate.__new__» ⟨[.type "enumerate",.ref l],[]⟩) (fun Z R s=>s.heap.get? l=some { cls:=.type "tuple",dict:=dct,data:=.seq items n,slots:=sl } ∧
   R (.ok (.ret (.ref (s.heap.push { cls:=.type "tuple_iterator",data:=.fields #[.ref l,.int 0 0] }).objs.size)))
    { s with heap:=(s.heap.push { cls:=.type "tuple_iterator",data:=.fields #[.ref l,.int 0 0] }).push { cls:=.type "enumerate",data:=.fields #[.none,.bool false,.ref s.heap.objs.size,rawInt 0,.none,.none] } }) :=
 .of_wp fun prog w A R s h=>by
  obtain ⟨hp,g,d,tk,os⟩:=s;obtain ⟨hl,h⟩:=h
  have hsub:=sub_enumerate
  have hL:Heap.IsTuple (Shared.heap ⟨hp,g,d,tk,os⟩) l items:=⟨_,hl,rfl,n,rfl⟩
  wp_walk using wpAny_loadPart' hl,called_any
  intro b
  cases b <;> (wp_walk using wpAny_loadPart' hl,wpAny_pyIter_tuple hL;exact ⟨_,rfl,h⟩)
theorem call_enumerate_tuple {l : Addr} {items : Array Value} {Q : Value → Shared → Prop} (hL : s.heap.IsTuple l items)
  (h:∀ h',IsEnum h' (s.heap.objs.size+1) s.heap.objs.size 0 .none→h'.IsTupleIter s.heap.objs.size l 0→h'.objs.size=s.heap.objs.size+2 →
   (∀ b o,s.heap.get? b=some o→h'.get? b=some o)→Q (.ref (s.heap.objs.size+1)) { s with heap:=h' }) :
  wpAny (model prog w) A (call (.type "enumerate") [.ref l]) Q E s:=by
 obtain ⟨⟨c,dct,dt,sl⟩,hl,hc,n,hd⟩:=hL
 replace hc:c=.type "tuple" := hc
 replace hd:dt=.seq items n:=hd
 subst hc hd
 refine callType_new F.called_enumerate rfl (F.typeCall_enumerate_1 _) (F.newCall_enumerate_1 _) (fun obj=>F.args_object_init_2 obj _) F.entry_enumerate_new
  (meets_enumerate_newT l items n dct sl) ⟨hl,?_⟩
 have hz:(s.heap.push { cls:=.type "tuple_iterator",data:=.fields #[.ref l,.int 0 0] }).objs.size=s.heap.objs.size+1:=Heap.size_push ..
 refine (?_:_∧_)
 refine hz.symm▸?_
 have he : IsEnum ((s.heap.push { cls := .type "tuple_iterator", data := .fields #[.ref l, .int 0 0] }).push
   { cls:=.type "enumerate",data:=.fields #[.none,.bool false,.ref s.heap.objs.size,rawInt 0,.none,.none] }) (s.heap.objs.size+1) s.heap.objs.size 0 .none:=by
  have:=Heap.get?_push_size (s.heap.push { cls:=.type "tuple_iterator",data:=.fields #[.ref l,.int 0 0] })
   (o:={ cls:=.type "enumerate",data:=.fields #[.none,.bool false,.ref s.heap.objs.size,rawInt 0,.none,.none] }) rfl
  rw [hz] at this;exact this
 refine ⟨⟨_,he,rfl⟩,h _ he ⟨_,Heap.get?_push_of_some _ (Heap.get?_push_size _ rfl),rfl,rfl⟩ (by rw [Heap.size_push,hz]) fun b o x=>Heap.get?_push_of_some _ (Heap.get?_push_of_some _ x)⟩
end
section
variable {T:TI} {A:Around} (HA:Rm 1 A) {H:Hp} {s:Shared} {Q:Value→Shared→Prop} {E:Value→Shared→Prop}
include HA
omit HA in
theorem fix_same2 {h h':Heap} {I J:Addr} {o o':Obj} (e:h.get? I=some o) (nf:¬ Fixed T o) (e':h.get? J=some o') (nf':¬ Fixed T o') (hs:∀ b ob,b≠I→b≠J→h.get? b=some ob→h'.get? b=some ob):FixKeep T h h':=fun a ob ea fa=>by
 have h1:a≠I:=by rintro rfl;rw [e] at ea;cases ea;exact nf fa
 have h2:a≠J:=by rintro rfl;rw [e'] at ea;cases ea;exact nf' fa
 exact hs a ob h1 h2 ea
omit HA in
theorem enum_out {e it : Addr} {i : Nat} {u : Value} {h h' : Heap} {tk tk' : Nat} {sh : Shared} {elts : List Expr} {c} {p : Pos} {Q' : Value → Shared → Prop} (hlt : e < h.objs.size)
  (ho:IsEnumOut h' e it ((i:Int)+1) u h.objs.size) (ht:h'.get? h.objs.size=some { cls:=.type "tuple",data:=.seq #[.int i tk,u] })
  (k:∀ h'',IsEnum h'' e it ((i:Int)+1) u→Heap.SameBut e h' h''→IsTup h'' h.objs.size #[.int i tk,u]→Q' (.ref h.objs.size) { sh with heap:=h'',toks:=tk' }) :
  wpAny T.M A (letOwnedTupleGo (.Tuple elts c p) (.ref e) (.ref h.objs.size)) (fun Z s₂=>Q' (.ref h.objs.size) s₂) E { sh with heap:=h',toks:=tk' }:=by
 refine wpAny_letOwnedTupleGo_enum (s:={ sh with heap:=h',toks:=tk' }) ho fun h'' he hs=>?_
 exact k h'' he hs ⟨_,(hs.2 _ (Nat.ne_of_gt hlt)).trans ht,rfl,_,rfl⟩
omit HA in
theorem enum_itr {it : Addr} {xs : List V} {gd : Hp → Prop} {D : Nat → Heap → Prop} {elts : List Expr} {c} {p : Pos} (hf : ∀ i h h', D i h → (∀ o, h.get? it = some o → h'.get? it = some o) → FixKeep T h h' → D i h')
  (hn:∀ i h,D i h→∃ o,h.get? it=some o∧¬ Fixed T o)
  (item:∀ (i:Nat) x,xs[i]?=some x→∀ (H:Hp) (s:Shared),Rel T H s→gd H→∀ old,IsEnum s.heap (it+1) it i old→D i s.heap→∀ (Q:Option Value→Shared→Prop) (E:Value→Shared→Prop),
   (∀ u h' tk,VR T s.heap x u→IsEnumOut h' (it+1) it ((i:Int)+1) u s.heap.objs.size→h'.get? s.heap.objs.size=some { cls:=.type "tuple",data:=.seq #[.int i tk,u] }→D (i+1) h' →
    (∀ b ob,b≠it+1→b≠it→s.heap.get? b=some ob→h'.get? b=some ob)→Q (some (.ref s.heap.objs.size)) { s with heap:=h',toks:=tk+1 })→wpAny T.M A (pyNext (.ref (it+1))) Q E s)
  (done:∀ (H:Hp) (s:Shared),Rel T H s→gd H→∀ old,IsEnum s.heap (it+1) it xs.length old→D xs.length s.heap→∀ (Q:Option Value→Shared→Prop) (E:Value→Shared→Prop),
   (∀ h',(∀ b ob,b≠it→s.heap.get? b=some ob→h'.get? b=some ob)→Q none { s with heap:=h' })→wpAny T.M A (pyNext (.ref (it+1))) Q E s) :
  Itr T A (it+1) (.Tuple elts c p) (pairsFrom 0 xs) gd [it+1,it] fun i h=>(∃ old,IsEnum h (it+1) it i old)∧D i h where
 frame:=fun i h h' st k fk=>st.1.elim fun old e=>⟨⟨old,k _ (.head _) _ e⟩,hf _ _ _ st.2 (k _ (.tail _ (.head _))) fk⟩
 nofix:=fun i h st=>List.forall_mem_cons.mpr ⟨st.1.elim fun old e=>⟨_,e,notFix_of rfl (by decide) (by decide)⟩,List.forall_mem_cons.mpr ⟨hn i h st.2,List.forall_mem_nil _⟩⟩
 item:=fun i y hy H' s' R' hg st ho Q' E' k=>by
  obtain ⟨z,hz,rfl⟩:=pairs_get _ _ _ hy
  obtain ⟨⟨old,e⟩,d⟩:=st
  refine item i z hz H' s' R' hg old e d _ _ fun u h' tk ru eo ht d' hk=>⟨_,rfl,?_⟩
  refine enum_out (Heap.lt_size e) eo ht fun h'' he'' hs'' htup=>?_
  obtain ⟨oi,ei,nf⟩:=hn i _ d
  have fk2:FixKeep T h' h'':=fix_same eo (notFix_of rfl (by decide) (by decide)) hs''.2
  refine k _ h'' (tk+1) (.tup (vs:=[.int i tk,u]) htup (.cons ((Int.zero_add (i:Int)).symm▸.int _ _) (.cons (ru.mono ((fix_same2 e (notFix_of rfl (by decide) (by decide)) ei nf hk).trans fk2)) .nil))) ⟨⟨u,he''⟩,hf _ _ _ d' (fun o q=>(hs''.2 _ (Ne.symm (Nat.succ_ne_self it))).trans q) fk2⟩ fun b ob hb eb=>?_
  have hb1:b≠it+1:=fun q=>hb (q▸.head _)
  exact (hs''.2 b hb1).trans (hk b ob hb1 (fun q=>hb (q▸.tail _ (.head _))) eb)
 done:=fun H' s' R' hg st ho Q' E' k=>by
  obtain ⟨⟨old,e⟩,d⟩:=st
  rw [pairs_len] at e d
  exact done H' s' R' hg old e d _ _ fun h' hk=>⟨rfl,k h' s'.toks fun b ob hb eb=>hk b ob (fun q=>hb (q▸.tail _ (.head _))) eb⟩
 self:=fun i s' Q' E' st k=>st.1.elim fun old e=>wpAny_pyIter_enum e k
theorem prim_iterE {x : V} {xs : List V} {gd : Hp → Prop} (t : Expr) {v : Value} (htt : isTupE t = true) (hx : (∃ a, x = .obj a ∧ H a = some (.list xs) ∧ gd = fun H => H a = some (.list xs)) ∨ (x = .tup xs ∧ gd = fun Z => True)) (R : Rel T H s) (rv : VR T s.heap x v)
  (g:∀ I s' own St,Itr T A I t (pairsFrom 0 xs) gd own St→St 0 s'.heap→Rel T H s'→Ev H s.heap H s'.heap→(∀ b∈own,s.heap.objs.size≤b)→Q (.ref I) s') :
  wpAny T.M A (call (.type "enumerate") [v]) (fun e s'=>wpAny T.M A (pyIter e) Q E s') E s:=by
 obtain ⟨elts,c,p,rfl⟩:∃ elts c p,t=.Tuple elts c p:=by
  cases t <;> first | exact ⟨_,_,_,rfl⟩ | exact nf htt
 have own:∀ b∈[s.heap.objs.size+1,s.heap.objs.size],s.heap.objs.size≤b:=List.forall_mem_cons.mpr ⟨Nat.le_succ _,List.forall_mem_cons.mpr ⟨Nat.le_refl _,List.forall_mem_nil _⟩⟩
 cases hx with
 | inl hx =>
   obtain ⟨a,rfl,ha,rfl⟩:=hx
   obtain rfl:=rv.iO
   obtain ⟨vs,n,ga,rs⟩:=R.objs _ _ ha
   refine call_enumerate_list (items:=vs.toArray) ⟨_,ga,rfl,n,rfl⟩ fun h₁ he hit hz hk=>?_
   refine wpAny_pyIter_enum (s:={ s with heap:=h₁ }) he ?_
   refine g _ { s with heap:=h₁ } _ _ (enum_itr (D:=fun i h=>h.IsListIter s.heap.objs.size a i) (fun i h h' d k Z=>d.elim fun o r=>⟨o,k o r.1,r.2⟩) (fun i h d=>d.elim fun o r=>⟨o,r.1,notFix_of r.2.1 (by decide) (by decide)⟩) (fun i x hx H s R hg old e d Q E k=>?_) fun H s R hg old e d Q E k=>?_) ⟨⟨_,he⟩,hit⟩ (R.keeps (n:=s.toks) hk) (Ev.keeps hk) own
   ·obtain ⟨vs',n',ga',rs'⟩:=R.objs _ _ hg
    obtain ⟨u,hu,ru⟩:=rs'.get hx
    exact wpAny_pyNext_enum_item e d (items:=vs'.toArray) ⟨_,ga',rfl,n',rfl⟩ (List.getElem?_toArray.trans hu) (Nat.succ_ne_self _) fun h' eo hi' ht' hz2 hk'=>k u h' s.toks ru eo ht' hi' hk'
   ·obtain ⟨vs',n',ga',rs'⟩:=R.objs _ _ hg
    exact wpAny_pyNext_enum_end HA.h e d (items:=vs'.toArray) ⟨_,ga',rfl,n',rfl⟩ (Array.getElem?_eq_none (Nat.le_of_eq rs'.length.symm)) fun h' hx'=>k h' hx'
 | inr hx =>
   obtain ⟨rfl,rfl⟩:=hx
   obtain ⟨vs,a,rfl,hta,rs⟩:=rv.iT
   have hat:a < s.heap.objs.size:=hta.lt
   refine call_enumerate_tuple (items:=vs.toArray) hta fun h₁ he hit hz hk=>?_
   refine wpAny_pyIter_enum (s:={ s with heap:=h₁ }) he ?_
   have fk0:FixKeep T s.heap h₁:=fun a o e Z=>hk a o e
   have ftup:∀ {h h':Heap},FixKeep T h h'→h.IsTuple a vs.toArray→h'.IsTuple a vs.toArray:=fun k z0=>(by obtain ⟨o,e,c,n,d⟩:=z0;exact ⟨o,k _ _ e (.inl ⟨.inl c,_,_,d⟩),c,n,d⟩)
   have hai:a≠s.heap.objs.size:=Nat.ne_of_lt hat
   refine g _ { s with heap:=h₁ } _ _ (enum_itr (D:=fun i h=>h.IsTupleIter s.heap.objs.size a i∧h.IsTuple a vs.toArray∧VRs T h xs vs) (fun i h h' d k fk=>⟨d.1.elim fun o r=>⟨o,k o r.1,r.2⟩,ftup fk d.2.1,d.2.2.mono fk⟩) (fun i h d=>d.1.elim fun o r=>⟨o,r.1,notFix_of r.2.1 (by decide) (by decide)⟩) (fun i x hx H s' R hg old e d Q E k=>?_) fun H s' R hg old e d Q E k=>?_) ⟨⟨_,he⟩,hit,ftup fk0 hta,rs.mono fk0⟩ (R.keeps (n:=s.toks) hk) (Ev.keeps hk) own
   ·obtain ⟨e2,t1,t2⟩:=d
    obtain ⟨u,hu,ru⟩:=t2.get hx
    refine wpAny_pyNext_enum_itemD (draws_tuple (prog:=T.prog) (w:=T.w) (A:=A.in1) HA.h s.heap.objs.size a hai vs.toArray) e ⟨e2,t1⟩ (List.getElem?_eq_some_iff.mp hu).1 (Nat.succ_ne_self _) (fun q=>?_) fun u' h' tk hu' eo hi' ht' hz2 hk'=>?_
    ·rcases List.mem_cons.mp q with q | q
     ·exact Nat.succ_ne_self _ q
     ·exact Nat.ne_of_gt (Nat.lt_succ_of_lt hat) (List.mem_singleton.mp q)
    ·have q:u'=u:=Option.some.inj (hu'.symm.trans (List.getElem?_toArray.trans hu))
     have fk:FixKeep T s'.heap h':=e2.elim fun oi r=>fix_same2 e (notFix_of rfl (by decide) (by decide)) r.1 (notFix_of r.2.1 (by decide) (by decide)) hk'
     exact k u' h' tk (q▸ru) eo ht' ⟨hi'.1,ftup fk t1,t2.mono fk⟩ hk'
   ·exact wpAny_pyNext_enum_endD (draws_tuple (prog:=T.prog) (w:=T.w) (A:=A.in1) HA.h s.heap.objs.size a hai vs.toArray) e ⟨(congrArg (s'.heap.IsTupleIter s.heap.objs.size a ·) d.2.2.length).mp d.1,d.2.1⟩ fun h' hx'=>k h' hx'
end
structure FI where
 fd:FuncData
 body:List Stmt
 names:List Str
 dfl:List V
structure FOk (T:TI) (fa:Addr) (fi:FI):Prop where
 obj:∃ o,T.B fa=some o∧o.data=.func fi.fd
 code:∀ h,Above T h→h.CodeRec fi.fd.code fi.fd.qualname
 stmts:fi.fd.body=.stmts fi.body
 env:∀ L,callEnv fi.fd L fa=envOf fi.fd.qualname fi.fd.scope L fa fi.fd.code
 bind:∀ s,Above T s.heap→∀ vs:List Value,vs.length+fi.dfl.length=fi.names.length→∃ us,VRs T s.heap fi.dfl us∧BindsTo s fi.fd ⟨vs,[]⟩ (fi.names.zip (vs++us))
 cell:∀ x∈fi.fd.scope.names,x.2≠.cell
 loc:∀ x∈fi.names,fi.fd.scope.names.lookup x=some .local
 nd:fi.names.Nodup
 sc:ScOk fi.fd.scope
 co:fi.fd.scope.isCoroutine=false
 gen:fi.fd.scope.isGenerator=false
noncomputable def locOf (names:List Str) (vs:List V):Loc:=names.zip (vs.map some)
def wFn (S:Sy) (fi:FI) (args:List V) (H:Hp) (K:KV):Prop :=
 args.length+fi.dfl.length=fi.names.length∧wSs S fi.fd.scope fi.body (locOf fi.names (args++fi.dfl)) H fun fl Z H' =>
  ∃ H'',(∀ a o,H'' a=some o→H' a=some o)∧match fl with
   | .next=>K .none H''
   | .ret v=>K v H''
   | _=>False
theorem zip_get {names:List Str}:∀ {xs:List V} {us:List Value} {T:TI} {h:Heap},names.Nodup→VRs T h xs us→∀ x v,(locOf names xs).get x=some v→∃ u,(names.zip us).reverse.lookup x=some u∧VR T h v u:=by
 induction names with
 | nil=>exact fun Z Z Z Z e=>nomatch e
 | cons n names ih =>
   intro xs us T h nd rs x v e
   cases xs with
   | nil=>exact nomatch e
   | cons x' xs =>
     obtain ⟨u',us,rfl,r,rs⟩:=rs.cut
     have nd:=List.nodup_cons.mp nd
     have e:(if n=x then some x' else (locOf names xs).get x)=some v:=e
     rw [List.zip_cons_cons,List.reverse_cons,List.lookup_append]
     by_cases q:n=x
     ·have:(names.zip us).reverse.lookup x=none:=List.lookup_eq_none_iff.mpr fun p hp=>bne_iff_ne.mpr fun e=>nd.1 (q▸e▸(List.of_mem_zip (List.mem_reverse.mp hp)).1)
      rw [if_pos q] at e
      rw [this]
      exact ⟨u',by rw [Option.none_or,List.lookup_cons,beq_iff_eq.mpr q.symm],Option.some.inj e▸r⟩
     ·rw [if_neg q] at e
      obtain ⟨u,hu,ru⟩:=ih nd.2 rs x v e
      exact ⟨u,by rw [hu];rfl,ru⟩
theorem Rm.deeper {n:Nat} {A:Around} {env:Env} (r:Rm (n+1) A):Rm n (A.deeper env) :=
 r.sub 1 r.1 (depth_deeper ..▸Nat.add_le_add_left (by decide:1≤4) A.depth) (PySem.Around.deeper_units ..▸Nat.add_le_add_left (by decide:3≤32) A.units)
noncomputable def retK (K : KV) : KS := fun fl Z H' => ∃ H'', (∀ a o, H'' a = some o → H' a = some o) ∧ match fl with
   | .next=>K .none H''
   | .ret v=>K v H''
   | _=>False
section
variable {T:TI} {n:Nat}
theorem codeFnW (hlim : ∀ h, Above T h → h.NoLimit) {fa : Addr} {fi : FI} (FO : FOk T fa fi) {A : Around} (HA : Rm (n + 2) A) {args : List V} {H : Hp} {K : KV} (hl : args.length + fi.dfl.length = fi.names.length) {s : Shared} {vs : List Value} (R : Rel T H s) (ra : VRs T s.heap args vs)
  (hb:∀ A env s₀,Rm (n+1) A→EnvOk env→(∀ x,env.scope.names.lookup x≠some .cell)→env.scope=fi.fd.scope→Rel T H s₀→Frm T env (locOf fi.names (args++fi.dfl)) H s₀.heap→∀ Q E,GoesS T env H s₀ (retK K) Q→wpAny T.M A (execs fi.body env) Q E s₀)
  {Q:Value→Shared→Prop} {E:Value→Shared→Prop} (g:Goes T H s K Q):codeAny T.M A (.call (.ref fa) ⟨vs,[]⟩) (fun r s'=>match r with | .ok (.ret v)=>Q v s' | .ok _=>False | .error e=>E e s') s:=by
 obtain ⟨o,ho,hd⟩:=FO.obj
 have hvl:vs.length+fi.dfl.length=fi.names.length:=by rw [← ra.length];exact hl
 obtain ⟨us,ru,hbd⟩:=FO.bind s R.base vs hvl
 refine codeAny_call_def (fd:=fi.fd) (body:=fi.body) (binds:=fi.names.zip (vs++us)) (Rm.dep HA) (R.base _ _ ho) hd (hlim _ R.base) (FO.code _ R.base) FO.stmts hbd FO.cell
  (fun x hx=>FO.loc _ (List.of_mem_zip hx).1) (fun h₀ hns hk=>?_) FO.co FO.gen FO.sc.kind
 rw [FO.env]
 have R₀:Rel T H { s with heap:=h₀,toks:=s.toks+(fi.names.zip (vs++us)).length }:=R.keeps hk
 have fk:FixKeep T s.heap h₀:=fun a o e Z=>hk a o e
 have hnc:∀ x,fi.fd.scope.names.lookup x≠some .cell:=fun x e=>FO.cell (x,.cell) (look_mem e) rfl
 have he:EnvOk (envOf fi.fd.qualname fi.fd.scope s.heap.objs.size fa fi.fd.code):={ toScOk:=FO.sc,glob:=rfl,bltn:=rfl }
 have F₀:Frm T (envOf fi.fd.qualname fi.fd.scope s.heap.objs.size fa fi.fd.code) (locOf fi.names (args++fi.dfl)) H h₀:=⟨⟨_,hns,fun x v e Z=>zip_get FO.nd ((ra.append ru).mono fk) x v e⟩,R.topB (Nat.le_refl _),R.top,fun x v e k=>absurd k (hnc x)⟩
 refine hb _ _ _ (HA.deeper (n:=n+1)) he hnc rfl R₀ F₀ _ _ fun fl loc' H' f s' k' R' F' fr e'=>?_
 obtain ⟨H'',hs,k'⟩:=k'
 have ev:Ev H s.heap H'' s'.heap:=by
  have h0:s.heap.get? s.heap.objs.size=none:=Heap.get?_none_of_le (Nat.le_refl _)
  refine ⟨fun a ob e hn=>e'.keep a ob (hk a ob e) hn (fun q=>by subst q;have e:s.heap.get? s.heap.objs.size=some ob:=e;rw [h0] at e;cases e),fun a ob e=>?_,fun a ob e=>e'.live a ob (hk a ob e)⟩
  rcases e'.dom a ob (hs a ob e) with x | x
  ·exact .inl x
  ·refine .inr ?_
   cases q:s.heap.get? a with
   | none=>rfl
   | some o2 => have x' : h₀.get? a = none := x
                rw [hk a o2 q] at x';cases x'
 cases fr with
 | next=>exact g _ _ _ _ k' (R'.less hs) .none ev
 | ret rv=>exact g _ _ _ _ k' (R'.less hs) rv ev
 | brk=>cases k'
 | cont=>cases k'
theorem soundFnW (hlim : ∀ h, Above T h → h.NoLimit) {fa : Addr} {fi : FI} (FO : FOk T fa fi) {A : Around} (HA : Rm (n + 2) A) {args : List V} {H : Hp} {K : KV} (hl : args.length + fi.dfl.length = fi.names.length) {s : Shared} {vs : List Value} (R : Rel T H s) (ra : VRs T s.heap args vs)
  (hb:∀ A env s₀,Rm (n+1) A→EnvOk env→(∀ x,env.scope.names.lookup x≠some .cell)→env.scope=fi.fd.scope→Rel T H s₀→Frm T env (locOf fi.names (args++fi.dfl)) H s₀.heap→∀ Q E,GoesS T env H s₀ (retK K) Q→wpAny T.M A (execs fi.body env) Q E s₀)
  {Q:Value→Shared→Prop} {E:Value→Shared→Prop} (g:Goes T H s K Q):wpAny T.M A (call (.ref fa) vs) Q E s:=wpAny_call (codeFnW hlim FO HA hl R ra hb g)
end
section
variable {T:TI} {S:Sy} (P:Prims T S) (P2:Prims2 T S) {n:Nat} (HC:SoundS T S n)
include P P2 HC
theorem soundFn (hlim : ∀ h, Above T h → h.NoLimit) {fa : Addr} {fi : FI} (FO : FOk T fa fi) {A : Around} (HA : Rm (n + 2) A) {args : List V} {H : Hp} {K : KV} (h : wFn S fi args H K) {s : Shared} {vs : List Value} (R : Rel T H s) (ra : VRs T s.heap args vs)
  {Q:Value→Shared→Prop} {E:Value→Shared→Prop} (g:Goes T H s K Q):wpAny T.M A (call (.ref fa) vs) Q E s :=
 soundFnW hlim FO HA h.1 R ra (fun A env s₀ hA he hnc hsc R₀ F₀ Q E g=>soundSs P P2 HC hA he hnc fi.body (K:=retK K) (by refine hsc.symm▸?_;exact h.2) R₀ F₀ g) g
end
section
variable {prog:Program} {w:World} {K:Type} [DecidableEq K] {knd:KeyKind prog w K} {A:Around} {E:Value→Shared→Prop} {s:Shared} {d:Addr} {k:K} {key dflt:Value}
theorem dictSetDefault_pairs {kvs : List (K × Value)} {Q : Value → Shared → Prop} (hkey : knd.is k key = true) (hm : s.heap.DictOf knd d kvs)
  (hthere:∀ v,valueAt kvs k=some v→Q v { s with toks:=s.toks+1 })
  (hnew:valueAt kvs k=none→∀ h',h'.DictOf knd d (stored kvs k dflt)→Heap.SameBut d s.heap h'→Q dflt { s with heap:=h',toks:=s.toks+1 })
  (hsz:kvs.length≤sizeLine):wpAny (model prog w) A (dictSetDefault d key dflt) Q E s:=by
 obtain ⟨o,es,ep,ho,hc,hd,hk,hp,hn⟩:=hm
 have hes : es.size ≤ sizeLine := by have e1 := hp.length; have e2 : es.toList.length = es.size := by rfl
                                     omega
 unfold dictSetDefault
 try with_reducible refine wpAny_holding ?_
 refine wpAny_bind (knd.pyHash hkey ?_)
 refine wpAny_bind (wpAny_dictFind_of (s:={ s with toks:=s.toks+1 }) hkey ho hd hk ?_)
 have hl:(es.toList.findIdx? fun e=>knd.is k e.key)=es.findIdx? fun e=>knd.is k e.key:=by obtain ⟨l⟩:=es;simp
 cases hi:es.findIdx? fun e=>knd.is k e.key with
 | some i =>
   obtain ⟨e,he,_,hv⟩:=hp.at (hl.trans hi)
   refine wpAny_bind (wpAny_dictEntries (s:={ s with toks:=s.toks+1 }) ho hd ?_)
   have he':es[i]?=some e:=by exact Array.getElem?_toList▸he
   refine he'.symm▸?_
   exact wpAny_bind (wpAny_rule (wpAny_pure (hthere e.val hv)))
 | none =>
   have hidx:(kvs.findIdx? fun kv=>decide (kv.1=k))=none:=by exact (hp.findIdx k)▸hl.symm▸hi
   have hnot:k ∉ kvs.map (·.1):=not_mem_of_findIdx_none hidx
   have hany:¬ (kvs.any fun kv=>decide (kv.1=k))=true:=by
    rw [List.any_eq_true];rintro ⟨kv,hkv,he⟩
    exact hnot (List.mem_map.mpr ⟨kv,hkv,of_decide_eq_true he⟩)
   have hv:valueAt kvs k=none:=valueAt_none_of_not_mem hnot
   refine wpAny_bind (wpAny_rule (wpAny_bind (wpAny_updateDictKeys (hz:=hes) (s:={ s with toks:=s.toks+1 }) ho hd (wpAny_pure (hnew hv _ ⟨_,_,ep+1,Heap.get?_update_self _ ho (Obj.isFreed_of_dict (Obj.data_mapDictKeys hd _)),
    hc.mapDictKeys _,Obj.data_mapDictKeys hd _,hk.push hkey _,?_,?_⟩ (Heap.SameBut.update ..))))))
   ·rw [stored,if_neg hany]
    have:=hp.append hkey (knd.hash k) dflt
    obtain ⟨l⟩:=es
    simpa using this
   ·rw [stored,if_neg hany,List.map_append,List.nodup_append]
    refine ⟨hn,by simp,?_⟩
    intro a ha b hb
    simp only [List.map_cons,List.map_nil,List.mem_singleton] at hb
    subst hb
    exact fun e=>hnot (e▸ha)
theorem setdefault_pairs {kvs : List (K × Value)} {Q : Value → Shared → Prop} (hds : (d == sysModules) = false) (hkey : knd.is k key = true) (hm : s.heap.DictOf knd d kvs)
  (hthere:∀ v,valueAt kvs k=some v→Q v { s with toks:=s.toks+1 })
  (hnew:valueAt kvs k=none→∀ h',h'.DictOf knd d (stored kvs k dflt)→Heap.SameBut d s.heap h'→Q dflt { s with heap:=h',toks:=s.toks+1 })
  (hsz:kvs.length≤sizeLine):wpAny (model prog w) A (call (.builtin "dict.setdefault") [.ref d,key,dflt]) Q E s:=by
 refine wpAny_call_entry F.slot_dict_setdefault hm.typeIs F.entry_dict_setdefault ?_ (F.args_dict_setdefault_3 _ _ _)
 unfold Builtin.«dict.setdefault»
 refine wpAny_bind ?_
 unfold Builtin.Dict.keyAndDefault
 refine wpAny_bind (wpAny_notOrdered_dict hm.typeIs ?_)
 refine (?_:wpAny _ _ (pure (d,key,some dflt)) _ _ s)
 refine wpAny_pure ?_
 refine (?_:wpAny _ _ (if (d==sysModules)=true then _ else (dictSetDefault d key dflt >>= _)) _ _ s)
 rw [if_neg (by refine hds.symm▸?_;exact Bool.false_ne_true)]
 exact wpAny_bind (dictSetDefault_pairs hkey hm (fun v hv=>wpAny_pure ⟨v,rfl,hthere v hv⟩) (fun hn h' hm' hs'=>wpAny_pure ⟨dflt,rfl,hnew hn h' hm' hs'⟩) hsz)
theorem get_pairs {kvs : List (K × Value)} {Q : Value → Shared → Prop} (hds : (d == sysModules) = false) (hkey : knd.is k key = true) (hm : s.heap.DictOf knd d kvs)
  (h:Q ((valueAt kvs k).getD dflt) { s with toks:=s.toks+1 }):wpAny (model prog w) A (call (.builtin "dict.get") [.ref d,key,dflt]) Q E s :=
 call_meetsIn F.slot_dict_get hm.typeIs F.entry_dict_get (F.args_dict_get_3 _ _ _) (meets_dict_get_default knd d hkey hds dflt) ⟨_,hm.mapOf,h⟩
end
section
variable {prog:Program} {w:World} {A:Around} {E:Value→Shared→Prop} {h:Heap} {g:Array GenState} {dr:Drawn} {t:Nat} {os:OsState} {d b:Addr}
theorem sub_dict_module:isSubtype (.type "dict") (.type "module")=pure false:=by rw [isSubtype_type];kernel_rfl
theorem sub_dict_type:isSubtype (.type "dict") (.type "type")=pure false:=by rw [isSubtype_type];kernel_rfl
theorem check_dict_get {x y : Value} {es : Array DictEntry} {n : Nat} {Q : Unit → Shared → Prop} (ho : h.get? d = some { cls := .type "dict", data := .dict es n }) (hq : Q () ⟨h, g, dr, t, os⟩) :
  wpAny (model prog w) A (checkBoundCall "dict.get" ⟨[.ref d,x,y],[]⟩) Q E ⟨h,g,dr,t,os⟩:=by
 have f1:=sub_dict_module
 have f2:=sub_dict_type
 have hT:∀ tk,(⟨h,g,dr,tk,os⟩:Shared).TypeIs (.ref d) "dict" := fun Z=>⟨_,ho,rfl⟩
 unfold checkBoundCall
 wp_walk using AutoSeq1.wpAny_loadPart' ho
 exact hq
theorem sub_set_module:isSubtype (.type "set") (.type "module")=pure false:=by rw [isSubtype_type];kernel_rfl
theorem sub_set_type:isSubtype (.type "set") (.type "type")=pure false:=by rw [isSubtype_type];kernel_rfl
theorem check_set_contains {x : Value} {n : Nat} {tb : SetTable} {Q : Unit → Shared → Prop} (ho : h.get? d = some { cls := .type "set", data := .set #[] n tb }) (hq : Q () ⟨h, g, dr, t, os⟩) :
  wpAny (model prog w) A (checkBoundCall "set.__contains__" ⟨[.ref d,x],[]⟩) Q E ⟨h,g,dr,t,os⟩:=by
 have f1:=sub_set_module
 have f2:=sub_set_type
 have hT:∀ tk,(⟨h,g,dr,tk,os⟩:Shared).TypeIs (.ref d) "set" := fun Z=>⟨_,ho,rfl⟩
 unfold checkBoundCall
 wp_walk using AutoSeq1.wpAny_loadPart' ho
 exact hq
theorem bm_get {K : Type} [DecidableEq K] {knd : KeyKind prog w K} {k : K} {key dflt : Value} {kvs : List (K × Value)} {Q : Value → Shared → Prop} (hb : h.get? b = some { cls := .type "builtin_function_or_method", data := .fields #[.builtin "dict.get", .ref d] }) (hds : (d == sysModules) = false) (hkey : knd.is k key = true) (hm : h.DictOf knd d kvs)
  (hq:Q ((valueAt kvs k).getD dflt) ⟨h,g,dr,t+1,os⟩):wpAny (model prog w) A (call (.ref b) [key,dflt]) Q E ⟨h,g,dr,t,os⟩:=by
 obtain ⟨es,n,ho⟩:∃ es n,h.get? d=some { cls:=.type "dict",data:=.dict es n }:=by
  obtain ⟨⟨c,dd,dt,sl⟩,es,ep,ho,⟨h1,h2,h3⟩,hd,_⟩:=hm
  cases h1;cases h2;cases h3;cases hd
  exact ⟨es,ep,ho⟩
 refine wpAny_call (codeAny_of_tree ?_)
 show wpAny _ _ (callAny (.ref b) _) _ _ _
 unfold callAny
 refine wpAny_bind (wpAny_load' hb ?_)
 dsimp only
 rw [if_pos (by decide)]
 refine (?_:wpAny _ _ (checkBoundCall "dict.get" ⟨[.ref d,key,dflt],[]⟩ >>= fun Z=>again (.builtin "dict.get" ⟨[.ref d,key,dflt],[]⟩)) _ _ _)
 refine wpAny_bind (check_dict_get ho (wpAny_pure ⟨plainId_quiet F.slot_dict_get.plain _,codeAny_builtin F.entry_dict_get ?_⟩))
 refine (Around.under_plainId F.slot_dict_get.plain _).symm▸?_
 exact meets_dict_get_default knd d hkey hds dflt A (wants Q E) ⟨h,g,dr,t,os⟩ ⟨_,hm.mapOf,hq⟩
theorem bm_contains {knd : KeyKind prog w Str} {x : Str} {u : Tok} {n : Nat} {tb : SetTable} {Q : Value → Shared → Prop} (hb : h.get? b = some { cls := .type "builtin_function_or_method", data := .fields #[.builtin "set.__contains__", .ref d] }) (ho : h.get? d = some { cls := .type "set", data := .set #[] n tb })
  (hS:h.SetOf knd d (fun Z=>false) 0) (hkey:knd.is x (.str x u)=true) (hq:Q (.bool false) ⟨h,g,dr,t+1,os⟩):wpAny (model prog w) A (call (.ref b) [.str x u]) Q E ⟨h,g,dr,t,os⟩:=by
 refine wpAny_call (codeAny_of_tree ?_)
 show wpAny _ _ (callAny (.ref b) _) _ _ _
 unfold callAny
 refine wpAny_bind (wpAny_load' hb ?_)
 dsimp only
 rw [if_pos (by decide)]
 refine (?_:wpAny _ _ (checkBoundCall "set.__contains__" ⟨[.ref d,.str x u],[]⟩ >>= fun Z=>again (.builtin "set.__contains__" ⟨[.ref d,.str x u],[]⟩)) _ _ _)
 refine wpAny_bind (check_set_contains ho (wpAny_pure ⟨plainId_quiet F.slot_set_contains.plain _,codeAny_builtin entry_set_contains ?_⟩))
 refine (Around.under_plainId F.slot_set_contains.plain _).symm▸?_
 unfold Builtin.«frozenset.__contains__» Builtin.Frozenset.oneOther
 simp only [List.isEmpty_nil,bind_assoc]
 unfold Builtin.Frozenset.addrOf Builtin.Frozenset.withSetAsKey setContains
 refine wpAny_bind (wpAny_pure ?_)
 try dsimp only
 refine wpAny_bind (wpAny_pure ?_)
 try dsimp only
 refine wpAny_bind (wpAny_tryCatch ?_)
 refine wpAny_holding ?_
 refine wpAny_bind (knd.pyHash hkey ?_)
 refine wpAny_bind (wpAny_setFind_of (s:=⟨h,g,dr,t+1,os⟩) hkey rfl hS fun r hr=>?_)
 refine wpAny_pure ?_
 refine (?_:wpAny _ _ (ret (Value.bool r.isSome)) _ _ _)
 refine hr.symm▸?_
 exact wpAny_pure hq
end
theorem Rel.allocK {T : TI} {H : Hp} {s : Shared} (R : Rel T H s) {h' : Heap} {a : Addr} {o : O} (n : Nat) (hk : ∀ b ob, s.heap.get? b = some ob → h'.get? b = some ob) (ha : s.heap.get? a = none) (ho : OR T h' a o) :
  Rel T (H.set a o) { s with heap:=h',toks:=n }∧Ev H s.heap (H.set a o) h':=by
 have hB:T.B a=none:=by
  cases q:T.B a with
  | none=>rfl
  | some ob=>have:=R.base _ _ q;rw [ha] at this;cases this
 refine ⟨⟨fun b ob e=>hk _ _ (R.base b ob e),fun b o' e=>?_,fun b o' e=>?_,R.os,R.gens⟩,⟨fun b ob e Z=>hk b ob e,fun b o' e=>?_,fun b ob e=>⟨ob,hk b ob e⟩⟩⟩
 ·by_cases q:b=a
  ·subst q;rw [Hp.set_self] at e;cases e;exact ho
  ·rw [Hp.set_ne _ _ q] at e
   obtain ⟨ob',g,_⟩:=(R.objs b o' e).there
   exact (R.objs b o' e).mono (fun a o e Z=>hk a o e) ((hk _ _ g).trans g.symm)
 ·by_cases q:b=a
  ·subst q;exact hB
  ·rw [Hp.set_ne _ _ q] at e;exact R.new b o' e
 ·by_cases q:b=a
  ·subst q;exact .inr ha
  ·rw [Hp.set_ne _ _ q] at e;exact .inl ⟨_,e⟩
theorem VRs.snoc {T:TI} {h:Heap} {x:V} {xs:List V}:∀ {us:List Value},VRs T h (xs++[x]) us→∃ us' u,us=us'++[u]∧VRs T h xs us'∧VR T h x u:=by
 induction xs with
 | nil=>intro us r;obtain ⟨v,vs,rfl,a,b⟩:=r.cut;exact ⟨[],v,congrArg _ b.nil_eq,.nil,a⟩
 | cons y xs ih=>intro us r;obtain ⟨v,vs,rfl,a,b⟩:=r.cut;obtain ⟨us',u,rfl,p,q⟩:=ih b;exact ⟨v::us',u,rfl,.cons a p,q⟩
inductive BIp (H:Hp) (K:KV):V→List V→Prop where
 | len {a:Addr} {xs:List V}:H a=some (.list xs)→xs.length≤4096→K (.int xs.length) H→BIp H K (.lit (.builtin "len")) [.obj a]
 | copy {a:Addr} {xs:List V}:H a=some (.list xs)→xs.length≤4096→(∀ c,H c=none→K (.obj c) (H.set c (.list xs)))→BIp H K (.lit (.type "list")) [.obj a]
 | strI {i:Int}:-small < i→i < small→K (.str (toString i)) H→BIp H K (.lit (.type "str")) [.int i]
 | set0:(∀ c,H c=none→K (.obj c) (H.set c .set0))→BIp H K (.lit (.type "set")) []
 | append {a:Addr} {xs:List V} {x:V}:H a=some (.list xs)→xs.length≤4096→K .none (H.set a (.list (xs++[x])))→BIp H K (.lit (.builtin "list.append")) [.obj a,x]
 | extend {a b:Addr} {xs ys:List V}:H a=some (.list xs)→H b=some (.list ys)→xs.length+ys.length≤4096→K .none (H.set a (.list (xs++ys)))→BIp H K (.lit (.builtin "list.extend")) [.obj a,.obj b]
 | pop {a:Addr} {xs:List V} {x:V}:H a=some (.list (xs++[x]))→xs.length≤4096→K x (H.set a (.list xs))→BIp H K (.lit (.builtin "list.pop")) [.obj a]
 | index {a:Addr} {xs:List V} {ss:List Str} {x:Str} {j:Nat}:H a=some (.list xs)→strsOf xs=some ss→xs.length≤4096→ss[j]?=some x→(∀ m,m < j→ss[m]?≠some x)→K (.int j) H→BIp H K (.lit (.builtin "list.index")) [.obj a,.str x]
 | setdefault {d:Addr} {kvs:List (Str×V)} {k:Str} {x:V}:H d=some (.dS kvs)→kvs.length≤4096→(∀ y,getK kvs k=some y→K y H)→(getK kvs k=none→K x (H.set d (.dS (putK kvs k x))))→BIp H K (.lit (.builtin "dict.setdefault")) [.obj d,.str k,x]
 | get {d:Addr} {kvs:List (Str×V)} {k:Str} {x:V}:H d=some (.dS kvs)→K ((getK kvs k).getD x) H→BIp H K (.lit (.builtin "dict.get")) [.obj d,.str k,x]
 | bmGet {d:Addr} {kvs:List (Int×V)} {k:Int} {x:V}:H d=some (.dI kvs)→K ((getK kvs k).getD x) H→BIp H K (.bm "dict.get" d) [.int k,x]
 | bmHas {d:Addr} {k:Str}:H d=some .set0→K (.bool false) H→BIp H K (.bm "set.__contains__" d) [.str k]
 | join {a:Addr} {xs:List V} {ss:List Str} {sep:Str}:H a=some (.list xs)→strsOf xs=some ss→(ss.map (·.length)).sum+ss.length * sep.length≤16777216→K (.str (Txt.join sep ss)) H→BIp H K (.lit (.builtin "str.join")) [.str sep,.obj a]
noncomputable abbrev BI:CS:=fun f args H K=>BIp H K f args
section
variable {T:TI} {S:Sy} (W:Wld T S) {A:Around} (HA:Rm 1 A) {H:Hp} {s:Shared} {Q:Value→Shared→Prop} {E:Value→Shared→Prop}
include W
theorem notSys {d:Addr} {o:O} (R:Rel T H s) (e:H d=some o):(d==sysModules)=false:=by
 cases q:(d==sysModules) with
 | false=>rfl
 | true =>
   obtain ⟨o',h'⟩:=W.sysm
   rw [← eq_of_beq q,R.new _ _ e] at h'
   cases h'
omit W in
theorem strs_get {vs:List Value} {ss:List Str} (h:StrsAre vs ss):∀ {j:Nat} {v:Value},vs[j]?=some v→∃ y t,ss[j]?=some y∧v=.str y t:=by
 induction h with
 | nil=>intro j v e;cases e
 | cons y t h ih =>
   intro j v e
   cases j with
   | zero=>exact ⟨y,t,rfl,(Option.some.inj e).symm⟩
   | succ j=>exact ih e
omit W in
theorem vrs_one {h:Heap} {x:V} {vs:List Value} (r:VRs T h [x] vs):∃ v,vs=[v]∧VR T h x v:=by
 obtain ⟨v,us,rfl,a,b⟩:=r.cut
 obtain rfl:=b.nil_eq
 exact ⟨v,rfl,a⟩
omit W in
theorem vrs_two {h:Heap} {x y:V} {vs:List Value} (r:VRs T h [x,y] vs):∃ v u,vs=[v,u]∧VR T h x v∧VR T h y u:=by
 obtain ⟨v,us,rfl,a,b⟩:=r.cut
 obtain ⟨u,rfl,c⟩:=vrs_one b
 exact ⟨v,u,rfl,a,c⟩
omit W in
theorem vrs_three {h:Heap} {x y z:V} {vs:List Value} (r:VRs T h [x,y,z] vs):∃ v u w,vs=[v,u,w]∧VR T h x v∧VR T h y u∧VR T h z w:=by
 obtain ⟨v,us,rfl,a,b⟩:=r.cut
 obtain ⟨u,w,rfl,c,d⟩:=vrs_two b
 exact ⟨v,u,w,rfl,a,c,d⟩
omit W in
def CallG (T:TI) (A:Around) (s:Shared) (Q:Value→Shared→Prop) (E:Value→Shared→Prop) (f:V) (args:List V):Prop:=∀ fv vs,VR T s.heap f fv→VRs T s.heap args vs→wpAny T.M A (call fv vs) Q E s
omit W in
theorem callG1 {c:Value} {x:V} (k:∀ v,VR T s.heap x v→wpAny T.M A (call c [v]) Q E s):CallG T A s Q E (.lit c) [x]:=fun fv vs rf ra=>by
 cases rf.iL
 obtain ⟨v,rfl,r⟩:=vrs_one ra
 exact k v r
omit W in
theorem callG2 {c:Value} {x y:V} (k:∀ v u,VR T s.heap x v→VR T s.heap y u→wpAny T.M A (call c [v,u]) Q E s):CallG T A s Q E (.lit c) [x,y]:=fun fv vs rf ra=>by
 cases rf.iL
 obtain ⟨v,u,rfl,r,r'⟩:=vrs_two ra
 exact k v u r r'
omit W in
theorem callG3 {c:Value} {x y z:V} (k:∀ v u w,VR T s.heap x v→VR T s.heap y u→VR T s.heap z w→wpAny T.M A (call c [v,u,w]) Q E s):CallG T A s Q E (.lit c) [x,y,z]:=fun fv vs rf ra=>by
 cases rf.iL
 obtain ⟨v,u,w,rfl,r,r',r2⟩:=vrs_three ra
 exact k v u w r r' r2
section
variable {K:KV} (R:Rel T H s) (g:Goes T H s K Q)
include R g
omit W R g in
theorem VRs.sz {xs:List V} {us:List Value} {h:Heap} {k n:Nat} (r:VRs T h xs us) (hl:xs.length≤k) (hn:k≤n):us.toArray.size≤n:=Nat.le_trans (Nat.le_of_eq r.length.symm) (Nat.le_trans hl hn)
omit W in
theorem bi_len {a:Addr} {xs:List V} (hx:H a=some (.list xs)) (hl:xs.length≤4096) (k:K (.int xs.length) H):wpAny T.M A (call (.builtin "len") [.ref a]) Q E s:=by
 obtain ⟨us,n,ga,rs⟩:=R.objs _ _ hx
 refine call_len_list (items:=us.toArray) ⟨_,ga,rfl,n,rfl⟩ (Int.lt_of_le_of_lt (Int.ofNat_le.mpr (rs.sz hl (Nat.le_refl _))) (by decide)) ?_
 refine List.size_toArray.symm▸?_;refine rs.length▸?_
 exact g _ _ _ _ k (R.toks _) (.int _ _) (Ev.refl _ _)
omit W in
theorem bi_copy {a:Addr} {xs:List V} (hx:H a=some (.list xs)) (hl:xs.length≤4096) (k:∀ c,H c=none→K (.obj c) (H.set c (.list xs))):wpAny T.M A (call (.type "list") [.ref a]) Q E s:=by
 obtain ⟨us,n,ga,rs⟩:=R.objs _ _ hx
 refine call_list_seq (items:=us.toArray) a (.inl rfl) ga rfl rfl (fun h' c' hk hD=>?_) (rs.sz hl (by decide))
 obtain ⟨R',e'⟩:=R.allocK (h':=h') (o:=.list xs) s.toks hk (Heap.get?_none_of_le (Nat.le_refl _)) ⟨us,c',hD,rs.mono fun a o e Z=>hk a o e⟩
 exact g _ _ _ _ (k _ R.top) R' (.obj _) e'
omit W in
theorem bi_strI {i:Int} {t:Tok} (h1:-small < i) (h2:i < small) (k:K (.str (toString i)) H):wpAny T.M A (call (.type "str") [.int i t]) Q E s:=by
 refine PySem.P.str_of_int ?_ (g _ _ _ _ k (R.toks _) (.str _ _) (Ev.refl _ _))
 unfold small at *
 by_cases h0:i.natAbs=0
 ·refine h0.symm▸?_;decide
 ·have hb : i.natAbs < 2 ^ 62 := by
   cases i with
   | ofNat n=>exact Int.ofNat_lt.mp h2
   | negSucc n=>exact Int.ofNat_lt.mp (Int.lt_of_neg_lt_neg h1)
  exact Nat.lt_trans ((Nat.log2_lt (k:=62) h0).mpr hb) (by decide)
omit W in
theorem bi_append {a:Addr} {xs:List V} {x:V} {vx:Value} (hx:H a=some (.list xs)) (hl:xs.length≤4096) (k:K .none (H.set a (.list (xs++[x])))) (r2:VR T s.heap x vx):wpAny T.M A (call (.builtin "list.append") [.ref a,vx]) Q E s:=by
 obtain ⟨us,n,ga,rs⟩:=R.objs _ _ hx
 obtain ⟨R',e'⟩:=turn_list (f:=fun y=>y.push vx) (ys:=xs++[x]) (us:=us++[vx]) R hx s.toks ga (by simp) (rs.append (.cons r2 .nil))
 exact call_meets F.slot_list_append ⟨_,ga,rfl⟩ F.entry_list_append (F.args_list_append_2 _ _) (list_append a us.toArray n _ (rs.sz hl (by decide))) ⟨ga,g _ _ _ _ k R' .none e'⟩
omit W in
theorem bi_extend {a b:Addr} {xs ys:List V} (hx:H a=some (.list xs)) (hy:H b=some (.list ys)) (hl:xs.length+ys.length≤4096) (k:K .none (H.set a (.list (xs++ys)))):wpAny T.M A (call (.builtin "list.extend") [.ref a,.ref b]) Q E s:=by
 obtain ⟨us,n,ga,rs⟩:=R.objs _ _ hx
 obtain ⟨ws,m,gb,rt⟩:=R.objs _ _ hy
 obtain ⟨R',e'⟩:=turn_list (f:=fun y=>y++ws.toArray) (ys:=xs++ys) (us:=us++ws) R hx s.toks ga (by simp) (rs.append rt)
 have S:us.toArray.size+ws.toArray.size≤sizeLine:=by
  show us.length+ws.length≤_
  rw [← rs.length,← rt.length];exact Nat.le_trans hl (by decide)
 exact call_meets F.slot_list_extend ⟨_,ga,rfl⟩ F.entry_list_extend (F.args_list_extend_2 _ _) (AutoSeq1.list_extend_list_list_0 a us.toArray n b ws.toArray m (fun q=>absurd (of_decide_eq_true (Bool.and_eq_true_iff.mp q).2) (Nat.not_lt.mpr S)) (Nat.le_trans (Nat.le_add_right _ _) S) (Nat.le_succ_of_le S)) ⟨ga,gb,g _ _ _ _ k R' .none e'⟩
omit W in
theorem bi_pop {a:Addr} {xs:List V} {x:V} (hx:H a=some (.list (xs++[x]))) (hl:xs.length≤4096) (k:K x (H.set a (.list xs))):wpAny T.M A (call (.builtin "list.pop") [.ref a]) Q E s:=by
 obtain ⟨us,n,ga,rs⟩:=R.objs _ _ hx
 obtain ⟨us',u,rfl,ru,rx⟩:=rs.snoc
 obtain ⟨R',e'⟩:=turn_list (f:=fun y=>y.eraseIdxIfInBounds ((us'++[u]).toArray.size - 1)) (ys:=xs) (us:=us') R hx s.toks ga (by rw [List.eraseIdxIfInBounds_toArray,List.size_toArray,List.length_append,List.length_singleton,Nat.add_sub_cancel,List.eraseIdx_append_of_length_le (Nat.le_refl _)];simp) ru
 have fk:=R.fix e'
 have l1:=ru.length
 exact call_meets F.slot_list_pop ⟨_,ga,rfl⟩ F.entry_list_pop (F.args_list_pop_1 _) (MeetsSeq.list_pop_last a _ n u (by simp) (by show (us'++[u]).length≤_;rw [List.length_append,← l1];exact Nat.le_trans (Nat.add_le_add_right hl 1) (by decide))) ⟨ga,g _ _ _ _ k R' (rx.mono fk) e'⟩
omit W in
theorem bi_index {a:Addr} {xs:List V} {ss:List Str} {x:Str} {tk:Tok} {j:Nat} (hx:H a=some (.list xs)) (hs:strsOf xs=some ss) (hl:xs.length≤4096) (hj:ss[j]?=some x) (hno:∀ m,m < j→ss[m]?≠some x) (k:K (.int j) H):wpAny T.M A (call (.builtin "list.index") [.ref a,.str x tk]) Q E s:=by
 obtain ⟨us,n,ga,rs⟩:=R.objs _ _ hx
 have sa:=strsOf_mem hs rs
 have l1:=rs.length
 have l2:=sa.len_eq
 have hjl:j < ss.length:=(List.getElem?_eq_some_iff.mp hj).1
 have hju:j < us.toArray.size:=Nat.lt_of_lt_of_eq hjl l2.symm
 refine call_meets F.slot_list_index ⟨_,ga,rfl⟩ F.entry_list_index (F.args_list_index_2 _ _) (MeetsSeq.list_index a us.toArray n _ (isStrOf x) (fun y hy=>eq_isStrOf x tk sa y (by simpa using hy)) j hju (Int.lt_of_lt_of_le (Int.ofNat_lt.mpr hju) (Int.le_trans (Int.ofNat_le.mpr (rs.sz hl (Nat.le_refl _))) (by decide))) ?_ ?_) ⟨ga,g _ _ _ _ k (R.toks _) (.int _ _) (Ev.refl _ _)⟩
 ·obtain ⟨t',ht'⟩:=sa.at hj
  have:us.toArray[j]=.str x t':=by
   have:=List.getElem?_eq_some_iff.mp ht'
   obtain ⟨_,e⟩:=this
   simpa using e
  rw [this];simp [isStrOf]
 ·intro m hm hmj
  have hm':m < us.length:=by simpa using hm
  have e1:us[m]?=some us[m]:=List.getElem?_eq_getElem hm'
  obtain ⟨y,t',e2,e3⟩:=strs_get sa e1
  have hne:y≠x:=fun q=>hno m hmj (q▸e2)
  have:us.toArray[m]=.str y t':=by simpa using e3
  refine this.symm▸?_;simpa [isStrOf] using hne
theorem bi_setdefault {d:Addr} {kvs:List (Str×V)} {kk:Str} {x:V} {t:Tok} {w:Value} (hd:H d=some (.dS kvs)) (hl:kvs.length≤4096) (h1:∀ y,getK kvs kk=some y→K y H) (h2:getK kvs kk=none→K x (H.set d (.dS (putK kvs kk x)))) (r3:VR T s.heap x w):wpAny T.M A (call (.builtin "dict.setdefault") [.ref d,.str kk t,w]) Q E s:=by
 obtain ⟨ps,hm,hk,rs⟩:=R.objs _ _ hd
 refine setdefault_pairs (notSys W R hd) (strKind_is _ _ _ _) hm (fun v hv=>?_) (fun hn h' hm' hs'=>?_) (Nat.le_trans (Nat.le_of_eq (keys_len hk)) (Nat.le_trans hl (by decide)))
 ·cases hg:getK kvs kk with
  | none=>rw [getK_none hk rs hg] at hv;cases hv
  | some y =>
    obtain ⟨v',hv',rv'⟩:=getK_some hk rs hg
    rw [hv] at hv';cases hv'
    exact g _ _ _ _ (h1 y hg) (R.toks _) rv' (Ev.refl _ _)
 ·have hg : getK kvs kk = none := by
   cases hg:getK kvs kk with
   | none=>rfl
   | some y =>
     obtain ⟨v',hv',rv'⟩:=getK_some hk rs hg
     rw [hn] at hv';cases hv'
  have fk:=R.turnFix hd hs'.2
  obtain ⟨p1,p2⟩:=put_rel (k:=kk) (r3.mono fk) hk (rs.mono fk)
  exact g _ _ _ _ (h2 hg) (R.turn hd hs'.2 ⟨_,hm',p1,p2⟩) (r3.mono fk) (Ev.turn hd hs'.2 (by obtain ⟨o,_,_,ho,_⟩:=hm';exact ⟨o,ho⟩))
theorem bi_get {d:Addr} {kvs:List (Str×V)} {kk:Str} {x:V} {t:Tok} {w:Value} (hd:H d=some (.dS kvs)) (k:K ((getK kvs kk).getD x) H) (r3:VR T s.heap x w):wpAny T.M A (call (.builtin "dict.get") [.ref d,.str kk t,w]) Q E s:=by
 obtain ⟨ps,hm,hk,rs⟩:=R.objs _ _ hd
 refine get_pairs (notSys W R hd) (strKind_is _ _ _ _) hm (g _ _ _ _ k (R.toks _) ?_ (Ev.refl _ _))
 cases hg:getK kvs kk with
 | none=>rw [getK_none hk rs hg];exact r3
 | some y =>
   obtain ⟨v',hv',rv'⟩:=getK_some hk rs hg
   rw [hv'];exact rv'
theorem bi_bmGet {d:Addr} {kvs:List (Int×V)} {kk:Int} {x:V} (hd:H d=some (.dI kvs)) (k:K ((getK kvs kk).getD x) H):CallG T A s Q E (.bm "dict.get" d) [.int kk,x]:=fun fv vs rf ra=>by
 obtain ⟨v,w,rfl,r1,r2⟩:=vrs_two ra
 obtain ⟨t,rfl⟩:=r1.iI
 obtain ⟨_,rfl,hb⟩:=rf.iF
 obtain ⟨ps,hm,hk,rs⟩:=R.objs _ _ hd
 have ns:=notSys W R hd
 have gq:Q ((valueAt ps kk).getD _) { s with toks:=s.toks+1 }:=g _ _ _ _ k (R.toks _) (by
  cases hg:getK kvs kk with
  | none=>rw [getK_none hk rs hg];exact r2
  | some y =>
    obtain ⟨v',hv',rv'⟩:=getK_some hk rs hg
    rw [hv'];exact rv') (Ev.refl _ _)
 obtain ⟨hh,gg,dr,tk,os⟩:=s
 exact bm_get hb ns (intKind_is _ _ _ _) hm gq
omit W in
theorem bi_bmHas {d:Addr} {kk:Str} (hd:H d=some .set0) (k:K (.bool false) H):CallG T A s Q E (.bm "set.__contains__" d) [.str kk]:=fun fv vs rf ra=>by
 obtain ⟨v,rfl,r1⟩:=vrs_one ra
 obtain ⟨t,rfl⟩:=r1.iS
 obtain ⟨_,rfl,hb⟩:=rf.iF
 obtain ⟨led,ho⟩:=R.objs _ _ hd
 have gq:=g _ _ _ _ k (R.toks (s.toks+1)) (.bool _) (Ev.refl _ _)
 have hS:s.heap.SetOf (strKind T.prog T.w) d (fun Z=>false) 0:=⟨_,#[],0,_,ho,⟨rfl,rfl,rfl⟩,rfl,fun e he=>by simp at he,fun k=>by simp,by decide,rfl,rfl⟩
 obtain ⟨hh,gg,dr,tk,os⟩:=s
 exact bm_contains hb ho hS (strKind_is _ _ _ _) gq
end
section
omit W HA
variable {c:Value} {a b:Addr} {x y:V} {k:Str} {i:Int}
theorem cO (h:wpAny T.M A (call c [.ref a]) Q E s):CallG T A s Q E (.lit c) [.obj a]:=callG1 fun v r=>r.iO.symm▸h
theorem cI (h:∀ t,wpAny T.M A (call c [.int i t]) Q E s):CallG T A s Q E (.lit c) [.int i]:=callG1 fun v r=>by obtain ⟨t,rfl⟩:=r.iI;exact h t
theorem cOV (h:∀ u,VR T s.heap y u→wpAny T.M A (call c [.ref a,u]) Q E s):CallG T A s Q E (.lit c) [.obj a,y]:=callG2 fun v u r r'=>r.iO.symm▸h u r'
theorem cOO (h:wpAny T.M A (call c [.ref a,.ref b]) Q E s):CallG T A s Q E (.lit c) [.obj a,.obj b]:=cOV fun u r=>r.iO.symm▸h
theorem cOS (h:∀ t,wpAny T.M A (call c [.ref a,.str k t]) Q E s):CallG T A s Q E (.lit c) [.obj a,.str k]:=cOV fun u r=>by obtain ⟨t,rfl⟩:=r.iS;exact h t
theorem cSO (h:∀ t,wpAny T.M A (call c [.str k t,.ref a]) Q E s):CallG T A s Q E (.lit c) [.str k,.obj a]:=callG2 fun v u r r'=>by obtain ⟨t,rfl⟩:=r.iS;exact r'.iO.symm▸h t
theorem cOSV (h:∀ t u,VR T s.heap y u→wpAny T.M A (call c [.ref a,.str k t,u]) Q E s):CallG T A s Q E (.lit c) [.obj a,.str k,y]:=callG3 fun v u w r r' r2=>by obtain ⟨t,rfl⟩:=r'.iS;exact r.iO.symm▸h t w r2
end
theorem soundBI' {f:V} {args:List V} {K:KV} (h:BI f args H K) (R:Rel T H s) (g:Goes T H s K Q):CallG T A s Q E f args:=by
 cases h with
 | len hx hl k=>exact cO (bi_len R g hx hl k)
 | copy hx hl k=>exact cO (bi_copy R g hx hl k)
 | strI h1 h2 k=>exact cI fun t=>bi_strI R g h1 h2 k
 | set0 k =>
   intro fv vs rf ra
   cases rf.iL;cases ra.nil_eq
   exact call_set_0 fun led=>g _ _ _ _ (k _ R.top) (R.alloc (n:=s.toks) ⟨led,Heap.get?_push_size _ rfl⟩) (.obj _) (Ev.alloc _ _)
 | append hx hl k=>exact cOV fun u r'=>bi_append R g hx hl k r'
 | extend hx hy hl k=>exact cOO (bi_extend R g hx hy hl k)
 | pop hx hl k=>exact cO (bi_pop R g hx hl k)
 | index hx hs hl hj hno k=>exact cOS fun t=>bi_index R g hx hs hl hj hno k
 | setdefault hd hl h1 h2=>exact cOSV fun t u r2=>bi_setdefault W R g hd hl h1 h2 r2
 | get hd k=>exact cOSV fun t u r2=>bi_get W R g hd k r2
 | bmGet hd k=>exact bi_bmGet W R g hd k
 | bmHas hd k=>exact bi_bmHas R g hd k
 | join hx hs hl k =>
   refine cSO fun t=>?_
   obtain ⟨us,n,ga,rs⟩:=R.objs _ _ hx
   exact join_list (items:=us.toArray) ⟨_,ga,rfl,n,rfl⟩ (strsOf_mem hs rs) hl fun t' kk=>g _ _ _ _ k (R.toks _) (.str _ _) (Ev.refl _ _)
theorem soundBI {f:V} {args:List V} {K:KV} (h:BI f args H K) {fv:Value} {vs:List Value} (R:Rel T H s) (rf:VR T s.heap f fv) (ra:VRs T s.heap args vs) (g:Goes T H s K Q):wpAny T.M A (call fv vs) Q E s:=soundBI' W h R g fv vs rf ra
end
theorem formatOf_int {prog : Program} {w : World} {A : Around} {E : Value → Shared → Prop} {s : Shared} {i : Int} {u : Tok} {Q : Value → Shared → Prop} (hi : i.natAbs.log2 < 1920) (h : ∀ t' tk, Q (.str (toString i) t') { s with toks := tk }) :
  wpAny (model prog w) A (Builtin.Str.formatOf (.int i u) ⟨#[]⟩) Q E s:=by
 unfold Builtin.Str.formatOf
 rw [if_neg (show ¬ (((⟨#[]⟩:Str).length==0&&Builtin.Str.isExactStr (Value.int i u))=true) from Bool.false_ne_true)]
 refine wpAny_bind (wpAny_mkStr ?_)
 refine wpAny_bind (wpAny_callSpecial?_slot (name:=Str.ofString "__format__") (typeIs_int _ i u) F.slot_int_format
  (call_gives F.slot_int_format (typeIs_int _ i u) F.entry_int_format (F.args_int_format_2 _ _) (gives_int_format_empty i u _ hi) ⟨int_text_fits hi,?_⟩))
 exact wpAny_bind (wpAny_pure (wpAny_pure (h _ _)))
theorem formatOf_any {prog : Program} {w : World} {A : Around} {E : Value → Shared → Prop} {s : Shared} {i : Int} {u : Tok} {v : Value} {spec : Str} {Q : Value → Shared → Prop} (hi : i.natAbs.log2 < 1920) (h : ∀ t' tk, Q (.str (toString i) t') { s with toks := tk }) (hv : v = .int i u := by rfl) (hs : spec = ⟨#[]⟩ := by rfl) :
  wpAny (model prog w) A (Builtin.Str.formatOf v spec) Q E s:=by
 subst hv hs;exact formatOf_int hi h
theorem finish_add {prog : Program} {w : World} {A : Around} {E : Value → Shared → Prop} {s : Shared} {X : Str} {t' : Tok} {Q : Value → Shared → Prop} (hX : X.length ≤ sizeLine) (h : ∀ t'' tk, Q (.str X t'') { s with toks := tk }) :
  wpAny (model prog w) A (Builtin.Str.Writer.finish "str.format" (Builtin.Str.Writer.add {} X (some (.str X t')))) (fun fin s'=>∃ v,fin=Fin.done (.ret v)∧Q v s') E s:=by
 unfold Builtin.Str.Writer.finish Builtin.Str.Writer.add
 cases hl:(X.length==0) with
 | true =>
   have e:X=⟨#[]⟩:=by
    obtain ⟨c⟩:=X
    have:c=#[]:=Array.eq_empty_of_size_eq_zero (by simpa [Str.length] using hl)
    exact this.symm▸rfl
   subst e
   exact wpAny_bind (wpAny_mkStr (wpAny_pure ⟨_,rfl,h _ _⟩) (show (0:Nat)≤sizeLine from Nat.zero_le _))
 | false=>exact wpAny_bind (wpAny_rule (wpAny_pure ⟨_,rfl,h _ s.toks⟩))
theorem wpAny_range {M:Model} {A:Around} {E:Value→Shared→Prop} {s:Shared} {β:Type} {n:Nat} {b:β} {f:Nat→β→Sem (ForInStep β)} {Q:β→Shared→Prop} (h:wpAny M A (forIn (List.range' 0 n 1) b f) Q E s):wpAny M A (forIn [:n] b f) Q E s:=by
 rw [Std.Legacy.Range.forIn_eq_forIn_range']
 have:Std.Legacy.Range.size [:n]=n:=by simp [Std.Legacy.Range.size]
 exact this.symm▸h
set_option maxHeartbeats 4000000 in
theorem fmt1 (i : Int) (t u : Tok) (hi : i.natAbs.log2 < 1920) :
  Meets (Builtin.«str.format» ⟨[.str "{}" t,.int i u],[]⟩) (fun Z R s=>∀ t' tk,R (.ok (.ret (.str (toString i) t'))) { s with toks:=tk }) :=
 .of_wp fun prog w A R s h=>by
  obtain ⟨hp,g,d,tk,os⟩:=s
  unfold Builtin.«str.format»
  repeat (any_goals (first | assumption | ((with_reducible show wpAny _ _ (Builtin.Str.formatOf _ _) _ _ _);refine formatOf_any (i:=i) (u:=u) hi fun t' tk'=>?_) | (with_reducible refine wpAny_range ?_) | wp_step))
  refine (?_:wpAny _ _ (Builtin.Str.Writer.finish "str.format" (Builtin.Str.Writer.add {} (Str.ofString (toString i)) (some (.str (Str.ofString (toString i)) t')))) _ _ _)
  exact finish_add (int_text_fits hi) fun t'' tk''=>h t'' tk''
theorem formatOf_c {prog : Program} {w : World} {A : Around} {E : Value → Shared → Prop} {s : Shared} {i : Int} {u : Tok} {c : Nat} {v : Value} {spec : Str} {Q : Value → Shared → Prop} (hi : i.natAbs.log2 < 1920) (hc : Str.ofString (toString i) = ⟨#[c]⟩)
  (h:∀ t' tk,Q (.str ⟨#[c]⟩ t') { s with toks:=tk }) (hv:v=.int i u:=by rfl) (hs:spec=⟨#[]⟩:=by rfl) :
  wpAny (model prog w) A (Builtin.Str.formatOf v spec) Q E s:=by
 subst hv hs;exact formatOf_int hi fun t' tk=>by exact hc.symm▸(h t' tk)
set_option maxHeartbeats 4000000 in
theorem fmt2 (i j : Int) (t u v : Tok) (c e : Nat) (hi : i.natAbs.log2 < 1920) (hj : j.natAbs.log2 < 1920) (hc : Str.ofString (toString i) = ⟨#[c]⟩) (he : Str.ofString (toString j) = ⟨#[e]⟩) :
  Meets (Builtin.«str.format» ⟨[.str "{},{}" t,.int i u,.int j v],[]⟩) (fun Z R s=>∀ t' tk,R (.ok (.ret (.str ⟨#[c,44,e]⟩ t'))) { s with toks:=tk }) :=
 .of_wp fun prog w A R s h=>by
  obtain ⟨hp,g,d,tk,os⟩:=s
  unfold Builtin.«str.format»
  repeat (any_goals (first | assumption | ((with_reducible show wpAny _ _ (Builtin.Str.formatOf _ _) _ _ _);first | refine formatOf_c (i:=i) (u:=u) hi hc fun t' tk'=>?_ | refine formatOf_c (i:=j) (u:=v) hj he fun t' tk'=>?_) | (with_reducible refine wpAny_range ?_) | wp_step))
  exact ⟨_,rfl,h _ _⟩
section
variable {T:TI} {A:Around} (HA:Rm 1 A) {H:Hp} {s:Shared} {E:Value→Shared→Prop}
include HA
theorem unpack_tup {xs : List V} {v : Value} (R : Rel T H s) (rv : VR T s.heap (.tup xs) v) {Q : List Value → Shared → Prop} (g : ∀ vs s', VRs T s'.heap xs vs → Rel T H s' → Ev H s.heap H s'.heap → Q vs s') :
  wpAny T.M A (unpackItems v xs.length none) Q E s:=by
 obtain ⟨vs,a,rfl,hta,rs⟩:=rv.iT
 have hl:xs.length=vs.toArray.size:=by refine rs.length.symm▸?_;simp
 refine hl.symm▸?_
 refine wpAny_unpackItems_tuple HA.h hta fun h' hx=>?_
 have hk:∀ b o,s.heap.get? b=some o→h'.get? b=some o:=fun b o e=>hx b o (Nat.ne_of_lt (Heap.lt_size e)) e
 exact g _ _ (by simpa using rs.mono fun a o e Z=>hk a o e) (R.keeps (n:=s.toks) hk) (Ev.keeps hk)
end
section
variable {T:TI} {s:Shared}
theorem keep_builtin (id:String):KeepOk T s (.builtin id):=fun A Q E h=>wpAny_pure (h _ (by intro x;cases x))
theorem keep_ty (t:String):KeepOk T s (.type t):=fun A Q E h=>wpAny_pure (h _ nofun)
theorem keep_func {fa:Addr} {o:Obj} {fd:FuncData} (ho:s.heap.get? fa=some o) (hd:o.data=.func fd):KeepOk T s (.ref fa):=fun A Q E h=>by
 unfold keeperOf
 refine wpAny_bind (wpAny_load ho ?_)
 refine hd.symm▸?_
 exact wpAny_pure (h _ nofun)
theorem keep_bm {b:Addr} {id:String} {a:Addr} (ho:s.heap.get? b=some { cls:=.type "builtin_function_or_method",data:=.fields #[.builtin id,.ref a] }):KeepOk T s (.ref b):=fun A Q E h=>by
 unfold keeperOf
 refine wpAny_bind (wpAny_load ho ?_)
 dsimp only
 rw [if_pos (by decide)]
 exact wpAny_pure (h _ (by intro x;split at x <;> cases x))
end
noncomputable abbrev LE:=Scope→Expr→Loc→Hp→KV→Prop
noncomputable def wCall (G:Str→Option V) (cl:Str→Option Addr) (F:Addr→Option FI) (X:CS) (L:LE) (r:Nat):Nat→CS
 | 0=>fun f args H K=>BI f args H K∨X f args H K
 | n+1=>fun f args H K=>BI f args H K∨X f args H K∨∃ fa fi,f=.lit (.ref fa)∧F fa=some fi∧wFn { C:=wCall G cl F X L r n,G,cl,L,r } fi args H K
noncomputable abbrev syAt (G:Str→Option V) (cl:Str→Option Addr) (F:Addr→Option FI) (X:CS) (L:LE) (r n:Nat):Sy:={ C:=wCall G cl F X L r n,G,cl,L,r }
structure Sys (T:TI) (G:Str→Option V) (cl:Str→Option Addr) (F:Addr→Option FI) (X:CS) (L:LE) (r:Nat):Prop where
 wld:∀ C L LS r,Wld T ⟨C,G,cl,L,LS,r⟩
 ext:∀ A,Rm (r+1) A→∀ env,EnvOk env→∀ e loc H K,L env.scope e loc H K→∀ s,Rel T H s→Frm T env loc H s.heap→∀ Q E,Goes T H s K Q→wpAny T.M A (eval e env) Q E s
 lim:∀ h,Above T h→h.NoLimit
 fns:∀ fa fi,F fa=some fi→FOk T fa fi
 extra:SoundC T X (8+r)
 neM:NeM T
 keepX:∀ f args H K,X f args H K→∀ s fv,Rel T H s→VR T s.heap f fv→KeepOk T s fv
 mats:∀ A,Rm 1 A→∀ xs H s v,Rel T H s→VR T s.heap (.mat xs) v→∀ Q E,(∀ vs s',VRs T s'.heap xs vs→Rel T H s'→Ev H s.heap H s'.heap→Q vs s')→wpAny T.M A (unpackItems v xs.length none) Q E s
section
variable {T:TI} {G:Str→Option V} {cl:Str→Option Addr} {F:Addr→Option FI} {X:CS} {L:LE} {r:Nat} (Y:Sys T G cl F X L r)
include Y
theorem keepBI {f:V} {args:List V} {H:Hp} {K:KV} (h:BI f args H K) {s:Shared} {fv:Value} (rf:VR T s.heap f fv):KeepOk T s fv:=by
 cases h <;> first | (refine rf.iL.symm▸?_;exact keep_builtin _) | (refine rf.iL.symm▸?_;exact keep_ty _) | (obtain ⟨_,rfl,hb⟩:=rf.iF;exact keep_bm hb)
theorem sysPrims (n:Nat):Prims T (syAt G cl F X L r n) where
 glob x v e A H s R env hg hb Q E g:=prim_glob (Y.wld _ _ (fun Z Z Z Z Z=>False) _) e R hg hb g
 keeper f args H K h s fv R rf:=by
  cases n with
  | zero =>
    rcases h with h | h
    ·exact keepBI Y h rf
    ·exact Y.keepX f args H K h s fv R rf
  | succ n =>
    rcases h with h | h | ⟨fa,fi,rfl,hf,h⟩
    ·exact keepBI Y h rf
    ·exact Y.keepX f args H K h s fv R rf
    ·obtain rfl:=rf.iL
     obtain ⟨o,ho,hd⟩:=(Y.fns fa fi hf).obj
     exact keep_func (R.base _ _ ho) hd
 bin A HA op a b H K h s va vb R ra rb Q E g:=prim_bin HA h R ra rb g
 ibin A HA op i j H K ho h s va vb R ra rb Q E g:=prim_ibin HA ho h R ra rb g
 cmp A HA op a b H K h s va vb R ra rb Q E g:=prim_cmp Y.neM HA h R ra rb g
 inPy A o H h s vo R ro Q E g:=prim_inPy h R ro g
 get A HA o i H K h s vo vi R ro ri Q E g:=prim_get h R ro ri g
 put A HA o i x H K h s vo vi vx R ro ri rx Q E g:=prim_put h R ro ri rx g
 putA A HA o name x H K h s vo vx R ro rx Q E g:=prim_putA (Y.wld (wCall G cl F X L r n) L (fun Z Z Z Z Z=>False) r) h R ro rx g
 attr A HA o name H K h s vo R ro Q E g:=prim_attr (Y.wld (wCall G cl F X L r n) L (fun Z Z Z Z Z=>False) r) h R ro g
 slice A HA a xs i j H K ha h0 hij hj hsz k s sl ti tj R hs Q E g:=prim_slice ha h0 hij hj hsz k R hs g
 meth A HA o name H f h s vo R ro pl Q E g:=prim_meth (Y.wld _ _ (fun Z Z Z Z Z=>False) _) h R ro g
 ext A HA env he e loc H K h s R F Q E g:=Y.ext A HA env he e loc H K h s R F Q E g
 truth A HA x H b h s v R rx Q E g:=prim_truth h R rx g
theorem sysPrims2 (n:Nat):Prims2 T (syAt G cl F X L r n) where
 extS A HA env he e loc H K h s R F Q E g:=False.elim h
 unpack A HA x xs hx H s v R rv Q E g:=by
  cases x <;> first | cases hx | skip
  ·exact unpack_tup HA R rv g
  ·exact Y.mats A HA _ H s v R rv Q E g
 iterL A HA a xs t H s ha R Q E g:=prim_iterL HA t ha R g
 iterT A HA xs t H s v R rv Q E g:=prim_iterT HA t R rv g
 iterE A HA x xs gd t H s v ht hx R rv Q E g:=prim_iterE HA t ht hx R rv g
 iterR1 A HA n tn t H s h1 h2 R Q E g:=prim_iterR1 HA t h1 h2 R g
 iterR2 A HA n n' tn tn' t H s h1 h2 h3 h4 R Q E g:=prim_iterR2 HA t h1 h2 h3 h4 R g
theorem sysSound (n:Nat):SoundC T (wCall G cl F X L r n) (2 * n+8+r):=by
 induction n with
 | zero =>
   intro A HA f args H K h s fv vs R rf ra Q E g
   cases h with
   | inl h=>exact soundBI (Y.wld (fun Z Z Z Z=>True) (fun Z Z Z Z Z=>False) (fun Z Z Z Z Z=>False) 0) h R rf ra g
   | inr h=>exact Y.extra A (HA.le (Nat.add_le_add_right (Nat.le_add_left 8 _) r)) f args H K h s fv vs R rf ra Q E g
 | succ n ih =>
   intro A HA f args H K h s fv vs R rf ra Q E g
   rcases h with h | h | ⟨fa,fi,rfl,hf,h⟩
   ·exact soundBI (Y.wld (fun Z Z Z Z=>True) (fun Z Z Z Z Z=>False) (fun Z Z Z Z Z=>False) 0) h R rf ra g
   ·exact Y.extra A (HA.le (Nat.add_le_add_right (Nat.le_add_left 8 _) r)) f args H K h s fv vs R rf ra Q E g
   ·obtain rfl:=rf.iL
    exact soundFn (n:=2 * n+8+r) (sysPrims Y n) (sysPrims2 Y n) ⟨Nat.le_add_left _ _,ih⟩ Y.lim (Y.fns fa fi hf) (HA.le (Nat.le_of_eq (by rw [Nat.mul_succ,Nat.add_right_comm (2 * n) 2 8,Nat.add_right_comm (2 * n+8) 2 r]))) h R ra g
end
noncomputable def relabS (sc' sc:Scope):Scope :=
 { sc' with names:=sc'.names.map fun (n,k)=>if (k==.free&&sc.kind==.function&&sc.names.lookup n==some .cell) then (n,.cell) else (n,k) }
noncomputable def wTg (sc:Scope):Expr→V→Loc→Loc→Prop
 | .Name x _,v,loc,loc'=>(sc.names.lookup x=some .local∨sc.names.lookup x=some .cell)∧loc'=loc.put x v
 | .Tuple ts _ _,v,loc,loc'=>∃ xs,itemsV v=some xs∧putNames sc ts xs loc=some loc'
 | _,_,_,_=>False
noncomputable def wCs (S:Sy) (sc:Scope) (tgt elt:Expr) (g:Hp→Prop):List V→Loc→Hp→List V→(List V→Hp→Prop)→Prop
 | [],_,H,ys,K=>g H∧K ys H
 | x::r,loc,H,ys,K=>g H∧∃ loc',wTg sc tgt x loc loc'∧wE S sc elt loc' H fun y H'=>wCs S sc tgt elt g r loc' H' (ys++[y]) K
theorem codeAny_compLoop2 {prog : Program} {w : World} {A : Around} {s : Shared} {R : Result → Shared → Prop} {elt target iter : Expr} {scope : Scope} {pos : Pos} {it acc : Value} {env : Env} (I : Nat → Shared → Prop)
  (turn:∀ n s,I n s→wpAny (model prog w) A (pyNext it) (fun r s₁=>match r with
   | none=>R (.ok .next) s₁
   | some v => wpAny (model prog w) A (letOwnedTupleGo target it v) (fun Z s₁' => wpAny (model prog w) A (assign target env v) (fun Z s₂ => wpAny (model prog w) A (eval elt env) (fun x s₃ =>
     wpAny (model prog w) A (call (.builtin "list.append") [acc,x]) (fun Z s₄=>∃ m,m < n∧I m s₄) (notedBy (model prog w) A env fun e s'=>R (.error e) s') s₃)
     (notedBy (model prog w) A env fun e s'=>R (.error e) s') s₂) (notedBy (model prog w) A env fun e s'=>R (.error e) s') s₁') (notedBy (model prog w) A env fun e s'=>R (.error e) s') s₁) (notedBy (model prog w) A env fun e s'=>R (.error e) s') s)
  (n:Nat) (h:I n s) :
  codeAny (model prog w) A (.compLoop (.ListComp elt [⟨target,iter,[],0⟩] scope pos) 0 it acc env) R s:=by
 refine codeAny_loop rfl I (fun n s hI=>?_) n h
 show wpAny _ _ ((compTurn (.ListComp elt [⟨target,iter,[],0⟩] scope pos) 0 it acc env).onRaise (fun x=>do noteFrame x env;theTreesLotGoes x)) _ _ s
 refine wpAny_noted ?_
 rw [compTurn_list1]
 refine wpAny_bind (wpAny_standAt (wpAny_bind (wpAny_mono (turn n s hI) (fun r s₁ h₁=>?_) fun Z Z h'=>h')))
 cases r with
 | none=>exact wpAny_pure h₁
 | some v =>
   refine wpAny_bind (wpAny_mono h₁ (fun Z s₁' h₁'=>?_) fun Z Z h'=>h')
   exact wpAny_bind (wpAny_mono h₁' (fun Z s₂ h₂=>wpAny_bind (wpAny_bind (wpAny_mono h₂ (fun x s₃ h₃=>wpAny_bind (wpAny_mono h₃
    (fun Z s₄ h₄=>wpAny_pure (wpAny_pure ⟨rfl,h₄⟩)) fun Z Z h'=>h')) fun Z Z h'=>h'))) fun Z Z h'=>h')
inductive CInv (T:TI) (S:Sy) (env:Env) (tgt elt:Expr) (gd:Hp→Prop) (own W:List Addr) (St:Nat→Heap→Prop) (Wk:Addr→Obj→Prop) (D:Addr) (xs:List V) (K:List V→Hp→Prop) (H₀:Hp) (h₀:Heap):Nat→Shared→Prop
 | mk {i : Nat} {pre r : List V} {s : Shared} {loc : Loc} {H : Hp} {ys : List V} {us : List Value} : pre.length = i → pre ++ r = xs → ys.length = i → wCs S env.scope tgt elt gd r loc H ys K → Rel T H s → Frm T env loc H s.heap → St i s.heap → s.heap.PlainList D (List.toArray us) →
   VRs T s.heap ys us→Ev H₀ h₀ H s.heap→(∀ b∈own,H b=none)→(∀ b∈W,H b=none∧∃ o,s.heap.get? b=some o∧Wk b o)→H D=none→CInv T S env tgt elt gd own W St Wk D xs K H₀ h₀ r.length s
theorem lt_pre {α:Type} {pre r xs:List α} {x:α} {i:Nat} (h:pre.length=i) (e:pre++x::r=xs) (hn:xs.length≤4096):i≤sizeLine:=by
 subst h e;rw [List.length_append] at hn;exact Nat.le_trans (Nat.le_trans (Nat.le_add_right _ _) hn) (by decide)
def StoreOk (T:TI) (A:Around) (env:Env) (tgt:Expr) (W:List Addr) (Wk:Addr→Obj→Prop):Prop :=
 ∀ x loc loc' H (s:Shared) u,wTg env.scope tgt x loc loc'→Rel T H s→Frm T env loc H s.heap→VR T s.heap x u→(∀ b∈W,H b=none∧∃ o,s.heap.get? b=some o∧Wk b o)→∀ (Q:Unit→Shared→Prop) (E:Value→Shared→Prop),
  (∀ s',Rel T H s'→Frm T env loc' H s'.heap→(∀ a o,a ∉ W→H a=none→s.heap.get? a=some o→s'.heap.get? a=some o)→(∀ a o,s.heap.get? a=some o→∃ o',s'.heap.get? a=some o')→(∀ b∈W,∃ o,s'.heap.get? b=some o∧Wk b o)→Q () s')→wpAny T.M A (assign tgt env u) Q E s
section
variable {T:TI} {S:Sy} {n:Nat} (P:Prims T S) (P2:Prims2 T S) (HC:SoundS T S n) {A:Around} (HA:Rm (n+1) A) {env:Env} (hsc:EnvOk env)
include P P2 HC HA hsc
theorem comp_loop {tgt elt iter : Expr} {sc' : Scope} {pos : Pos} {I D : Addr} {xs : List V} {gd : Hp → Prop} {own W : List Addr} {St : Nat → Heap → Prop} (X : Itr T A I tgt xs gd own St) {Wk : Addr → Obj → Prop} (hWk : ∀ b o, Wk b o → ¬ Fixed T o) (hst : StoreOk T A env tgt W Wk)
  {loc₀:Loc} {H₁:Hp} {K:List V→Hp→Prop} (h:wCs S env.scope tgt elt gd xs loc₀ H₁ [] K) (hsz:xs.length≤4096)
  {s:Shared} (R:Rel T H₁ s) (F:Frm T env loc₀ H₁ s.heap) (st:St 0 s.heap) (hD:s.heap.PlainList D #[])
  {H₀:Hp} {h₀:Heap} (ev₀:Ev H₀ h₀ H₁ s.heap)
  (hown:∀ b∈own,(H₁ b=none∧T.B b=none∧b≠env.locals)∧h₀.get? b=none) (hWf:∀ b∈W,H₁ b=none∧T.B b=none∧h₀.get? b=none∧∃ o,s.heap.get? b=some o∧Wk b o)
  (hDf:H₁ D=none∧T.B D=none∧h₀.get? D=none) (hDW:D ∉ W) (hDo:D ∉ own) (hWo:∀ b∈W,b ∉ own) (hLW:env.locals∈W) (hcW:∀ x c,env.cells.lookup x=some c→c ∉ own∧c≠D)
  {RR:Result→Shared→Prop}
  (fin:∀ ys us H' loc' s',K ys H'→Rel T H' s'→Frm T env loc' H' s'.heap→s'.heap.PlainList D (List.toArray us)→VRs T s'.heap ys us→Ev H₀ h₀ H' s'.heap→H' D=none→RR (.ok .next) s') :
  codeAny T.M A (.compLoop (.ListComp elt [⟨tgt,iter,[],0⟩] sc' pos) 0 (.ref I) (.ref D) env) RR s:=by
 let Inv:=CInv T S env tgt elt gd own W St Wk D xs K H₀ h₀
 refine codeAny_compLoop2 Inv ?_ xs.length (.mk (pre:=[]) rfl rfl rfl h R F st hD .nil ev₀ (fun b hb=>(hown b hb).1.1) (fun b hb=>⟨(hWf b hb).1,(hWf b hb).2.2.2⟩) hDf.1)
 intro m s' hI
 cases hI with | @mk i pre r _ loc' H' ys us hp hxs hly h' R' F' st' hD' hy' ev' ho' hW' hDn=>?_
 have kp : ∀ {h2 : Heap} {tk : Nat} {C : Prop}, (∀ b o, b ∉ own → s'.heap.get? b = some o → h2.get? b = some o) →
   (Rel T H' { s' with heap:=h2,toks:=tk }→Frm T env loc' H' h2→Ev H₀ h₀ H' h2→h2.PlainList D (List.toArray us)→VRs T h2 ys us→(∀ b∈W,H' b=none∧∃ o,h2.get? b=some o∧Wk b o)→C)→C:=fun hk k =>
  let ⟨R2,fk⟩:=R'.own (fun b hb=>⟨ho' b hb,(hown b hb).1.2.1,X.nofix i _ st' b hb⟩) hk
  k R2 (F'.kept fk (fun o=>hk _ o (hWo _ hLW)) fun x c o Z q=>hk c o (hcW x c q).1) (ev'.kept (fun b hb=>(hown b hb).2) hk) (hD'.at fun o e=>hk D o hDo e) (hy'.mono fk)
   fun b hb=>let ⟨h1,o,e,nf⟩:=hW' b hb;⟨h1,o,hk b o (hWo b hb) e,nf⟩
 cases r with
 | nil =>
   obtain rfl:=end_pre hp hxs
   exact wpAny_mono (X.done H' s' R' h'.1 st' ho' (fun s₁=>RR (.ok .next) s₁) _ fun h2 tk hk=>kp (tk:=tk) hk fun R2 F2 e2 d2 v2 Z=>fin ys us H' loc' _ h'.2 R2 F2 d2 v2 e2 hDn) (fun r s₁ z0=>by obtain ⟨e,hr⟩:=z0;refine e.symm▸?_;exact hr) fun Z Z x=>x
 | cons x r =>
   obtain ⟨hg,loc₂,htg,h'⟩:=h'
   refine wpAny_mono (X.item i x (at_pre hp hxs) H' s' R' hg st' ho' (fun v s₂ => wpAny T.M A (assign tgt env v) (fun Z s₂ => wpAny T.M A (eval elt env) (fun x s₃ =>
      wpAny T.M A (call (.builtin "list.append") [.ref D,x]) (fun Z s₄=>∃ m,m < r.length+1∧Inv m s₄) (notedBy T.M A env fun e s'=>RR (.error e) s') s₃)
      (notedBy T.M A env fun e s'=>RR (.error e) s') s₂) (notedBy T.M A env fun e s'=>RR (.error e) s') s₂) _ fun v h2 tk hv st2 hk=>kp (tk:=tk) hk fun R2 F2 e2 d2 v2 w2=>?_) (fun rr s₁ z0=>by obtain ⟨v,e,hr'⟩:=z0;refine e.symm▸?_;exact hr') fun Z Z x=>x
   refine hst x loc' loc₂ H' _ v htg R2 F2 hv w2 _ _ fun s₃ R₃ F₃ k₃ l₃ w₃=>?_
   have fk3:FixKeep T h2 s₃.heap:=fun a o e f=>by
    by_cases q:a∈W
    ·exact let ⟨_,o',e',nf⟩:=w2 a q;absurd (Option.some.inj (e.symm.trans e')▸f) (hWk _ _ nf)
    ·exact k₃ a o q (R2.fixNone e f) e
   have st3:St (i+1) s₃.heap:=X.frame (i+1) _ _ st2 (fun b hb o e=>k₃ b o (fun q=>hWo b q hb) (ho' b hb) e) fk3
   have e3:Ev H₀ h₀ H' s₃.heap:=⟨fun a o e nn=>k₃ a o (fun q=>nomatch (hWf a q).2.2.1.symm.trans e) (e2.outs e nn) (e2.keep a o e nn),e2.dom,fun a o e=>(by obtain ⟨o',e'⟩:=e2.live a o e;exact l₃ a o' e')⟩
   have d3:s₃.heap.PlainList D (List.toArray us):=d2.at fun o e=>k₃ D o hDW hDn e
   refine soundE P HC HA hsc elt h' R₃ F₃ fun y H₄ u s₄ k₄ R₄ ru e₄=>?_
   have d4:s₄.heap.PlainList D (List.toArray us):=d3.at fun o e=>e₄.keep D o e hDn
   refine wpAny_list_append_plain d4 (fun h5 hl5 hs5=>?_) (by refine List.size_toArray.symm▸?_;refine hy'.length▸?_;refine hly.symm▸?_;exact lt_pre hp hxs hsz)
   have hD4:H₄ D=none:=let ⟨_,ho4⟩:=d3;e₄.outs ho4 hDn
   have kk:∀ b o,b≠D→s₄.heap.get? b=some o→h5.get? b=some o:=fun b o q e=>hs5.extBut b o q e
   have k5:∀ b o,b ∉ [D]→s₄.heap.get? b=some o→h5.get? b=some o:=fun b o q e=>kk b o (fun hq=>q (List.mem_singleton.mpr hq)) e
   obtain ⟨R5,fk5⟩:=R₄.own (n:=s₄.toks) (own:=[D]) (fun b hb=>by
    obtain rfl:=List.mem_singleton.mp hb
    obtain ⟨nn,ho⟩:=d4
    exact ⟨hD4,hDf.2.1,_,ho,notFix_of rfl nofun nofun⟩) k5
   have F5:Frm T env loc₂ H₄ h5:=(F₃.ev R₃ e₄).kept fk5 (fun o=>kk _ o fun q=>hDW (q▸hLW)) fun x c o Z q=>kk c o (hcW x c q).2
   have ho4:∀ b∈own,H₄ b=none:=fun b hb=>let ⟨o,e,_⟩:=X.nofix (i+1) _ st3 b hb;e₄.outs e (ho' b hb)
   have st4:St (i+1) s₄.heap:=X.frame (i+1) _ _ st3 (fun b hb o e=>e₄.keep b o e (ho' b hb)) (R₃.fix e₄)
   exact ⟨r.length,Nat.lt_succ_self _,.mk (nx_len hp) (nx_pre hxs) (nx_len hly) k₄ R5 F5 (X.frame (i+1) _ _ st4 (fun b hb o e=>kk b o (fun q=>hDo (q▸hb)) e) fk5) (by simpa using hl5)
    ((((v2.mono fk3).mono (R₃.fix e₄)).mono fk5).append (.cons (ru.mono fk5) .nil)) ((e3.trans e₄).kept (fun b hb=>(List.mem_singleton.mp hb).symm▸hDf.2.2) k5) ho4
    (fun b hb=>(by obtain ⟨o,e,nf⟩:=w₃ b hb;exact ⟨e₄.outs e (w2 b hb).1,o,kk b o (fun q=>hDW (q▸hb)) (e₄.keep b o e (w2 b hb).1),nf⟩)) hD4⟩
theorem store_locals {tgt:Expr} (hl:∀ x p,tgt=.Name x p→env.scope.names.lookup x=some .local):StoreOk T A env tgt [env.locals] fun Z o=>¬ Fixed T o:=by
 intro x loc loc' H s u htg R F hv hW Q E g
 have h:wA S env.scope tgt x loc H fun l H'=>l=loc'∧H'=H:=by
  cases tgt with
  | Name y p=>exact ⟨hl y p rfl,htg.2.symm,rfl⟩
  | Tuple _ _ _=>exact htg.elim fun xs h=>⟨xs,loc',h.1,h.2,rfl,rfl⟩
  | _=>exact False.elim htg
 refine soundA P P2 HC HA hsc tgt h R F hv fun l H' s' k R' F' ev=>?_
 obtain ⟨rfl,rfl⟩:=k
 refine g s' R' F' (fun a o q n e=>ev.keep a o e n (nmem q)) ev.live fun b hb=>?_
 obtain rfl:=List.mem_singleton.mp hb
 obtain ⟨m,⟨o,es,ep,ho,_⟩,_⟩:=F'.ns
 exact ⟨o,ho,F'.notFix ho⟩
theorem store_cell {x₀ : Str} {p₀ : Pos} {c : Addr} (hx : env.scope.names.lookup x₀ = some .cell) (hc : env.cells = [(x₀, c)]) (hB : T.B c = none) (hne : c ≠ env.locals) :
  StoreOk T A env (.Name x₀ p₀) [env.locals,c] fun b o=>¬ Fixed T o∧(b=c→∃ v,o.data=.cell v):=by
 intro x loc loc' H s u htg R F hv hW Q E g
 obtain ⟨_,rfl⟩:=htg
 obtain ⟨hHc,o,ho,hnf,hcell⟩:=hW c (.tail _ (.head _))
 obtain ⟨v₀,hd⟩:=hcell rfl
 have hlk:env.cells.lookup x₀=some c:=by refine hc.symm▸?_;simp
 refine wpAny_assign_Name (wpAny_storeName_cell hsc.kind hx hlk ⟨o,ho,hd⟩ fun h' hc' hs=>?_)
 obtain ⟨o',ho',hd'⟩:=hc'
 have nf':¬ Fixed T o':=by
  intro f
  rcases f with ⟨_,xs,n,f⟩ | ⟨_,vs,f⟩ <;> rw [hd'] at f <;> cases f
 have kk:∀ b ob,b ∉ [c]→s.heap.get? b=some ob→h'.get? b=some ob:=fun b ob q e=>(hs.2 b (nmem q)).trans e
 obtain ⟨R',fk⟩:=R.own (n:=s.toks) (own:=[c]) (all1 ⟨hHc,hB,o,ho,hnf⟩) kk
 refine g _ R' ⟨?_,F.new,F.out,?_⟩ (fun a ob q Z e=>kk a ob (fun hm=>q (.tail _ hm)) e) (fun a ob e=>?_) fun b hb=>?_
 ·obtain ⟨m,⟨ob,es,ep,hob,r⟩,q⟩:=F.ns
  refine ⟨m,⟨ob,es,ep,kk _ _ (inm (Ne.symm hne)) hob,r⟩,fun y v e k=>?_⟩
  rw [Loc.get_put] at e
  by_cases qq:x₀=y
  ·subst qq;exact nomatch hx.symm.trans k
  ·rw [if_neg qq] at e
   obtain ⟨u',a,b⟩:=q y v e k
   exact ⟨u',a,b.mono fk⟩
 ·intro y v e k
  rw [Loc.get_put] at e
  by_cases qq:x₀=y
  ·subst qq
   obtain rfl:=Option.some.inj ((if_pos rfl).symm.trans e)
   exact ⟨c,u,hlk,⟨o',ho',hd'⟩,hv.mono fk,hHc,hne⟩
  ·rw [if_neg qq] at e
   obtain ⟨c',u',a,_⟩:=F.cel y v e k
   rw [hc,List.lookup_cons] at a
   have:(y==x₀)=false:=beq_eq_false_iff_ne.mpr (Ne.symm qq)
   rw [this] at a;cases a
 ·by_cases q:a=c
  ·subst q;exact ⟨o',ho'⟩
  ·exact ⟨ob,kk a ob (inm q) e⟩
 ·obtain ⟨_,o2,ho2,n2,_⟩:=hW env.locals (.head _)
  rcases List.mem_cons.mp hb with rfl | hb
  ·exact ⟨o2,kk _ _ (inm (Ne.symm hne)) ho2,n2,fun q=>absurd q.symm hne⟩
  ·obtain rfl:=List.mem_singleton.mp hb
   exact ⟨o',ho',nf',fun Z=>⟨_,hd'⟩⟩
end
theorem nsucc (D:Nat):D+1≠D:=by omega
theorem nsucc1 (D:Nat):D+2≠D+1:=by omega
theorem nsucc2 (D:Nat):D+2≠D:=by omega
theorem nlt1 {c D:Nat} (h:c < D):c≠D+1:=by omega
theorem nlt0 {c D:Nat} (h:c < D):c≠D:=by omega
theorem comp_newEnv {M : Model} {A : Around} {E : Value → Shared → Prop} {s : Shared} {scope : Scope} {g : Addr} {cl : List (Str × Addr)} {q : Str} {env : Env} {Q : Env → Shared → Prop}
  (h:Q (newEnv scope s.heap.objs.size g (cellsFrom (s.heap.objs.size+1) scope.names cl) q none .none (some env) builtinsNs) { s with heap:=pushCells (s.heap.push { cls:=.type "dict",data:=.dict #[] }) scope.names }) :
  wpAny M A (newFunctionEnv scope g cl [] q none .none (some env)) Q E s:=by
 simp only [newFunctionEnv,Option.isSome_some,if_true]
 refine wpAny_bind (wpAny_alloc ?_)
 refine wpAny_bind (wpAny_layCells _ (fun name kind cells=>by cases hkc:kind==NameKind.cell <;> simp [hkc]) _ _ _ _ ?_)
 rw [show ({ s with heap:=s.heap.push { cls:=.type "dict",data:=.dict #[] } }:Shared).heap.objs.size=s.heap.objs.size+1 from Heap.size_push ..]
 exact wpAny_bind (wpAny_pure (wpAny_pure h))
inductive CK where
 | plain
 | cell (x:Str)
 | free (x:Str)
def noCF (l:List (Str×NameKind)):Prop:=∀ y∈l,y.2≠.cell∧y.2≠.free
noncomputable def CKOk (sc sc':Scope):CK→Prop
 | .plain=>noCF sc'.names
 | .cell x=>∃ a b,sc'.names=a++(x,.cell)::b∧noCF a∧noCF b
 | .free x=>(∃ a b,sc'.names=a++(x,.free)::b∧noCF a∧noCF b)∧sc.names.lookup x=some .cell
noncomputable def locIn (loc:Loc):CK→Loc
 | .free x=>[(x,loc.get x)]
 | _=>[]
theorem noCF.cells {l:List (Str×NameKind)} (h:noCF l):∀ n acc hp,cellsFrom n l acc=acc∧pushCells hp l=hp:=by
 induction l with
 | nil=>intro n acc hp;exact ⟨rfl,rfl⟩
 | cons y r ih =>
   intro n acc hp
   obtain ⟨x,k⟩:=y
   have hk:(k==NameKind.cell)=false:=by simpa using (h _ (.head _)).1
   unfold cellsFrom pushCells
   refine hk.symm▸?_
   exact ih (fun y hy=>h y (.tail _ hy)) n acc hp
theorem noCF.app {a b:List (Str×NameKind)} (h:noCF a):∀ n acc hp,cellsFrom n (a++b) acc=cellsFrom n b acc∧pushCells hp (a++b)=pushCells hp b:=by
 induction a with
 | nil=>intro n acc hp;exact ⟨rfl,rfl⟩
 | cons y r ih =>
   intro n acc hp
   obtain ⟨x,k⟩:=y
   have hk:(k==NameKind.cell)=false:=by simpa using (h _ (.head _)).1
   refine List.cons_append.symm▸?_
   have e1:cellsFrom n ((x,k)::(r++b)) acc=if k==.cell then cellsFrom (n+1) (r++b) ((x,n)::acc) else cellsFrom n (r++b) acc:=rfl
   have e2:pushCells hp ((x,k)::(r++b))=if k==.cell then pushCells (hp.push { cls:=.type "cell",data:=.cell none }) (r++b) else pushCells hp (r++b):=rfl
   refine e1.symm▸?_;refine e2.symm▸?_;refine hk.symm▸?_
   exact ih (fun y hy=>h y (.tail _ hy)) n acc hp
noncomputable def ckCl (cells:List (Str×Addr)):CK→List (Str×Addr)→Prop
 | .free x,cl=>∃ c,cl=[(x,c)]∧cells.lookup x=some c
 | _,cl=>cl=[]
noncomputable def ckCs (cells:List (Str×Addr)) (D:Addr) (hB:Heap):CK→List (Str×Addr)→Prop
 | .plain,cs=>cs=[]
 | .cell x,cs=>cs=[(x,D+2)]∧hB.get? (D+2)=some { cls:=.type "cell",data:=.cell none }
 | .free x,cs=>∃ c,cs=[(x,c)]∧cells.lookup x=some c
noncomputable def ckTg (sc:Scope) (x:Str):CK→Prop
 | .cell y=>x=y∧sc.names.lookup x=some .cell
 | _=>sc.names.lookup x=some .local
theorem closureFor_one {sc' : Scope} {env : Env} {x : Str} {c : Addr} {a b : List (Str × NameKind)} (e : sc'.names = a ++ (x, .free) :: b) (ha : noCF a) (hb : noCF b) (hc : env.cells.lookup x = some c) :
  closureFor sc' env=pure [(x,c)]:=by
 simp only [closureFor]
 rw [e]
 have key:∀ (l:List (Str×NameKind)) (acc:List (Str×Addr)),noCF l→forIn l acc (fun (y:Str×NameKind) cs=>(match y with | (name,kind)=>if (kind==NameKind.free)=true then do let c ← cellOf env name;pure (ForInStep.yield ((name,c)::cs)) else pure (ForInStep.yield cs):Sem (ForInStep (List (Str×Addr)))))=(pure acc:Sem _):=by
  intro l acc hl
  induction l with
  | nil=>rfl
  | cons y r ih =>
    obtain ⟨z,k⟩:=y
    have hk:(k==NameKind.free)=false:=by simpa using (hl _ (.head _)).2
    rw [List.forIn_cons]
    simp only [hk,Bool.false_eq_true,if_false]
    exact ih fun y hy=>hl y (.tail _ hy)
 have key2:∀ (a:List (Str×NameKind)),noCF a→forIn (a++(x,NameKind.free)::b) ([]:List (Str×Addr)) (fun (y:Str×NameKind) cs=>(match y with | (name,kind)=>if (kind==NameKind.free)=true then do let c ← cellOf env name;pure (ForInStep.yield ((name,c)::cs)) else pure (ForInStep.yield cs):Sem (ForInStep (List (Str×Addr)))))=(pure [(x,c)]:Sem _):=by
  intro a ha
  induction a with
  | nil =>
    rw [List.nil_append,List.forIn_cons]
    have:cellOf env x=pure c:=by unfold cellOf;exact hc.symm▸rfl
    simp only [beq_self_eq_true,if_true,this]
    exact key b _ hb
  | cons y r ih =>
    obtain ⟨z,k⟩:=y
    have hk:(k==NameKind.free)=false:=by simpa using (ha _ (.head _)).2
    rw [List.cons_append,List.forIn_cons]
    simp only [hk,Bool.false_eq_true,if_false]
    exact ih fun y hy=>ha y (.tail _ hy)
 have:=key2 a ha
 simpa using this
theorem relabS_cell {sc sc':Scope} {y:Str} (h:(relabS sc' sc).names.lookup y=some .cell):∃ k,(y,k)∈sc'.names∧(k=.cell∨k=.free):=by
 have hm:=look_mem h
 unfold relabS at hm
 rw [List.mem_map] at hm
 obtain ⟨⟨n,k⟩,hm,e⟩:=hm
 dsimp only at e
 split at e
 ·rename_i hc
  simp only [Bool.and_eq_true,beq_iff_eq] at hc
  cases e
  exact ⟨k,hm,.inr hc.1.1⟩
 ·cases e
  exact ⟨.cell,hm,.inl rfl⟩
theorem CKOk.one {sc sc':Scope} {ck:CK} (h:CKOk sc sc' ck) {y:Str} (hy:(relabS sc' sc).names.lookup y=some .cell):ck=.cell y∨ck=.free y:=by
 obtain ⟨k,hm,hk⟩:=relabS_cell hy
 have no:∀ {l},noCF l→(y,k)∈l→False:=fun hl hm=>by
  rcases hk with rfl | rfl
  ·exact (hl _ hm).1 rfl
  ·exact (hl _ hm).2 rfl
 cases ck with
 | plain=>exact (no h hm).elim
 | cell x =>
   obtain ⟨a,b,e,ha,hb⟩:=h
   rw [e,List.mem_append,List.mem_cons] at hm
   rcases hm with hm | hm | hm
   ·exact (no ha hm).elim
   ·cases hm;exact .inl rfl
   ·exact (no hb hm).elim
 | free x =>
   obtain ⟨⟨a,b,e,ha,hb⟩,_⟩:=h
   rw [e,List.mem_append,List.mem_cons] at hm
   rcases hm with hm | hm | hm
   ·exact (no ha hm).elim
   ·cases hm;exact .inr rfl
   ·exact (no hb hm).elim
theorem mem2 {α:Type} {a b c:α} (h:a∈[b,c]):a=b∨a=c:=(List.mem_cons.mp h).imp id List.mem_singleton.mp
theorem look1 {x y:Str} {c d:Addr} (h:([(y,d)]:List (Str×Addr)).lookup x=some c):d=c:=by
 have:=mem_of_lookup h
 simp at this
 exact this.2.symm
structure wComp (S:Sy) (sc:Scope) (ck:CK) (elt tgt iter:Expr) (sc':Scope) (loc:Loc) (H:Hp) (K:List V→Hp→Prop):Prop where
 a:CKOk sc sc' ck
 b:ScOk (relabS sc' sc)
 c:sc'.kind=.function
 d:∀ x∈sc'.names,x.2=.local→sc'.names.lookup x.1=some .local
 e:notSet iter=true
 f:enumOk tgt iter=true
 g:∀ x p,tgt=.Name x p→ckTg (relabS sc' sc) x ck
 h:∀ y,ck=.cell y→∃ x p,tgt=.Name x p
 i:∀ y,ck=.free y→(∃ v,loc.get y=some v)∧sc'.names.lookup y≠some .local
 j:wIter S sc iter loc H fun xs g H₁=>xs.length≤4096∧wCs S (relabS sc' sc) tgt elt g xs (locIn loc ck) H₁ [] K
noncomputable def cEnv (env:Env) (sc':Scope) (D:Addr) (cs:List (Str×Addr)):Env:={ scope:=relabS sc' env.scope,locals:=D+1,globals:=env.globals,cells:=cs,qual:=env.qual,func:=none,code:=env.code,frame:=env.frame,builtins:=env.builtins }
theorem comp_clos {T : TI} {env : Env} {ck : CK} {sc' : Scope} {loc : Loc} {H : Hp} {h : Heap} (hck : CKOk env.scope sc' ck) (F : Frm T env loc H h) (hfr : ∀ y, ck = .free y → (∃ v, loc.get y = some v) ∧ sc'.names.lookup y ≠ some .local) :
  ∃ cl,closureFor sc' env=pure cl∧ckCl env.cells ck cl:=by
 cases ck with
 | plain=>exact ⟨[],closureFor_none fun x hx=>(hck x hx).2,rfl⟩
 | cell y =>
   obtain ⟨a,b,e,ha,hb⟩:=hck
   refine ⟨[],closureFor_none fun x hx=>?_,rfl⟩
   rw [e,List.mem_append,List.mem_cons] at hx
   rcases hx with hx | rfl | hx
   ·exact (ha x hx).2
   ·exact nofun
   ·exact (hb x hx).2
 | free y =>
   obtain ⟨⟨a,b,e,ha,hb⟩,hl⟩:=hck
   obtain ⟨⟨v,hv⟩,_⟩:=hfr y rfl
   obtain ⟨c,u,hc,_⟩:=F.cel y v hv hl
   exact ⟨[(y,c)],closureFor_one e ha hb hc,c,rfl,hc⟩
theorem comp_cells {ck:CK} {sc sc':Scope} {cells cl:List (Str×Addr)} {D:Addr} {h2:Heap} (hck:CKOk sc sc' ck) (hcl:ckCl cells ck cl) (hs:h2.objs.size=D+2):ckCs cells D (pushCells h2 sc'.names) ck (cellsFrom (D+2) sc'.names cl):=by
 cases ck with
 | plain=>exact (noCF.cells hck _ _ h2).1.trans hcl
 | cell x =>
   obtain ⟨a,b,e,ha,hb⟩:=hck
   have hcl:cl=[]:=hcl
   refine e.symm▸?_;refine ((ha.app _ _ h2).1).symm▸?_;refine ((ha.app (D+2) cl _).2).symm▸?_;refine hcl.symm▸?_
   refine ⟨(hb.cells (D+2+1) _ h2).1,?_⟩
   refine hs▸?_
   exact (congrArg (fun y:Heap=>y.get? h2.objs.size) (hb.cells 0 [] _).2).trans (Heap.get?_push_size _ rfl)
 | free x =>
   obtain ⟨⟨a,b,e,ha,hb⟩,_⟩:=hck
   obtain ⟨c,hcl,hc⟩:=hcl
   refine e.symm▸?_;refine ((ha.app _ _ h2).1).symm▸?_
   exact ⟨c,(hb.cells (D+2) _ h2).1.trans hcl,hc⟩
theorem relab_local {sc sc':Scope} {y:Str} (hck:CKOk sc sc' (.free y)) (hk:sc.kind=.function) (hnames:∀ x∈sc'.names,x.2=.local→sc'.names.lookup x.1=some .local) (hl:(relabS sc' sc).names.lookup y=some .local):sc'.names.lookup y=some .local:=by
 obtain ⟨⟨a,b,e2,ha,hb⟩,hl2⟩:=hck
 have hm:(y,NameKind.local)∈(relabS sc' sc).names:=look_mem hl
 simp only [relabS,e2,List.map_append,List.map_cons,List.mem_append,List.mem_cons] at hm
 have hk0:∀ {l:List (Str×NameKind)},noCF l→(y,NameKind.local)∈l.map (fun (n,k)=>if (k==.free&&sc.kind==.function&&sc.names.lookup n==some .cell) then (n,.cell) else (n,k))→(y,NameKind.local)∈l:=by
  intro l hl hm
  rw [List.mem_map] at hm
  obtain ⟨⟨n,k⟩,hm,e⟩:=hm
  have hk:(k==NameKind.free)=false:=by simpa using (hl _ hm).2
  simp only [hk,Bool.false_and,Bool.false_eq_true,if_false] at e
  cases e;exact hm
 rcases hm with hm | hm | hm
 ·exact hnames _ (by rw [e2];exact List.mem_append_left _ (hk0 ha hm)) rfl
 ·simp [hk,hl2] at hm
 ·exact hnames _ (by rw [e2];exact List.mem_append_right _ (.tail _ (hk0 hb hm))) rfl
inductive FreeC (T:TI) (loc:Loc) (cs:List (Str×Addr)) (hB:Heap) (H:Hp) (D:Addr) (own:List Addr) (x:Str):Prop
 | mk {v:V} {c:Addr} {u:Value}:loc.get x=some v→cs=[(x,c)]→hB.IsCell c (some u)→VR T hB v u→H c=none→c < D→c ∉ own→FreeC T loc cs hB H D own x
theorem freeC {T : TI} {env : Env} {sc' : Scope} {loc : Loc} {H H₁ : Hp} {h h₁ hB : Heap} {D : Addr} {own : List Addr} {cs : List (Str × Addr)} {x : Str} (hl : env.scope.names.lookup x = some .cell) (hv : ∃ v, loc.get x = some v) (hcs : ckCs env.cells D hB (.free x) cs)
  (F:Frm T env loc H h) (F1:Frm T env loc H₁ h₁) (k:∀ b o,h₁.get? b=some o→hB.get? b=some o) (hD:h₁.objs.size=D) (ho:∀ b∈own,h.get? b=none):FreeC T loc cs hB H₁ D own x:=by
 obtain ⟨v,hv⟩:=hv
 obtain ⟨c,e1,e2⟩:=hcs
 obtain ⟨c',u,hc',⟨o,ho',hd'⟩,vu,hn,_⟩:=F1.cel x v hv hl
 obtain rfl:c=c':=Option.some.inj (e2.symm.trans hc')
 obtain ⟨c0,u0,hc0,⟨o0,ho0,_⟩,_⟩:=F.cel x v hv hl
 obtain rfl:c=c0:=Option.some.inj (e2.symm.trans hc0)
 exact .mk hv e1 ⟨o,k _ _ ho',hd'⟩ (vu.mono fun a o e Z=>k a o e) hn (hD▸Heap.lt_size ho') fun hm=>nomatch (ho c hm).symm.trans ho0
theorem not_fixD {T:TI} {d:Array DictEntry}:¬ Fixed T { cls:=.type "dict",data:=.dict d }:=notFix_of rfl (by decide) (by decide)
theorem not_fixC {T:TI} {v:Option Value}:¬ Fixed T { cls:=.type "cell",data:=.cell v }:=notFix_of rfl (by decide) (by decide)
theorem comp_frm {T : TI} {env : Env} {ck : CK} {sc' : Scope} {loc : Loc} {H : Hp} {hB : Heap} {D : Addr} {own : List Addr} {cs : List (Str × Addr)} (hsc : EnvOk env) (hck : CKOk env.scope sc' ck) (hnames : ∀ x ∈ sc'.names, x.2 = .local → sc'.names.lookup x.1 = some .local)
  (hfr:∀ y,ck=.free y→(∃ v,loc.get y=some v)∧sc'.names.lookup y≠some .local) (hns:hB.Ns (D+1) fun Z=>none) (hBn:T.B (D+1)=none) (hHn:H (D+1)=none) (cel:∀ x,ck=.free x→FreeC T loc cs hB H D own x):Frm T (cEnv env sc' D cs) (locIn loc ck) H hB where
 ns:=⟨_,hns,fun x v e hl=>by
  cases ck with
  | plain=>exact nomatch e
  | cell y=>exact nomatch e
  | free y =>
    by_cases q:y=x
    ·subst q;exact absurd (relab_local hck hsc.kind hnames hl) (hfr y rfl).2
    ·exact nomatch (if_neg q).symm.trans e⟩
 new:=hBn
 out:=hHn
 cel x v e hl:=by
  rcases hck.one hl with rfl | rfl
  ·exact nomatch e
  ·cases cel x rfl with
   | @mk v' c u hv ec hcell vu hn hlt _ =>
     have e:loc.get x=some v:=(if_pos rfl).symm.trans e
     obtain rfl:v'=v:=Option.some.inj (hv.symm.trans e)
     exact ⟨c,u,by show cs.lookup x=some c;rw [ec];simp,hcell,vu,hn,nlt1 hlt⟩
section
variable {T:TI} {S:Sy} {n:Nat} (P:Prims T S) (P2:Prims2 T S) (HC:SoundS T S n) {A:Around} (HA:Rm (n+1) A) {env:Env} (hsc:EnvOk env)
include P P2 HC HA hsc
theorem comp_go {ck : CK} {elt tgt iter : Expr} {sc' : Scope} {pos : Pos} {loc : Loc} {H H₁ : Hp} {K : List V → Hp → Prop} {s s₁ : Shared} {hB : Heap} {cs : List (Str × Addr)} {xs : List V} {gd : Hp → Prop} {own : List Addr} {St : Nat → Heap → Prop} {I : Addr}
  (hck:CKOk env.scope sc' ck) (hso:ScOk (relabS sc' env.scope)) (hnames:∀ x∈sc'.names,x.2=.local→sc'.names.lookup x.1=some .local) (htg:∀ x p,tgt=.Name x p→ckTg (relabS sc' env.scope) x ck) (hct:∀ y,ck=.cell y→∃ x p,tgt=.Name x p)
  (hfr:∀ y,ck=.free y→(∃ v,loc.get y=some v)∧sc'.names.lookup y≠some .local) (k₁:wCs S (relabS sc' env.scope) tgt elt gd xs (locIn loc ck) H₁ [] K) (hsz:xs.length≤4096) (X:Itr T A I tgt xs gd own St) (st:St 0 s₁.heap) (R:Rel T H s) (R₁:Rel T H₁ s₁) (F:Frm T env loc H s.heap)
  (e₁:Ev H s.heap H₁ s₁.heap) (ho:∀ b∈own,(H₁ b=none∧T.B b=none∧b≠env.locals)∧s.heap.get? b=none) (kB1:∀ b o,s₁.heap.get? b=some o→hB.get? b=some o) (hcs:ckCs env.cells s₁.heap.objs.size hB ck cs) (hns:hB.Ns (s₁.heap.objs.size+1) fun Z=>none)
  (hDo:hB.get? s₁.heap.objs.size=some { cls:=.type "list",dict:=none,data:=.seq ([]:List Value).toArray }) (hC:hB.get? (s₁.heap.objs.size+1)=some { cls:=.type "dict",data:=.dict #[] })
  {use:Option (Value→Sem Unit)} {Q:Value→Shared→Prop} {E:Value→Shared→Prop}
  (fin:∀ ys us H' s' D C,K ys H'→Rel T H' s'→s'.heap.PlainList D (List.toArray us)→VRs T s'.heap ys us→Ev H s.heap H' s'.heap→H' D=none→s.heap.get? D=none→(∃ m,s'.heap.Ns C m)→H' C=none→T.B C=none→T.B D=none→s.heap.get? C=none→C≠D →
   compPost T.M A E use Q (.ref D) C (.ok .next) s') :
  codeAny T.M A (.compStart (.ListComp elt [⟨tgt,iter,[],0⟩] sc' pos) 0 (.ref I) (.ref s₁.heap.objs.size) (cEnv env sc' s₁.heap.objs.size cs)) (compPost T.M A E use Q (.ref s₁.heap.objs.size) (s₁.heap.objs.size+1)) { s₁ with heap:=hB }:=by
 have nosz:∀ a,s₁.heap.objs.size≤a→H₁ a=none∧T.B a=none∧s.heap.get? a=none:=fun a ha=>⟨R₁.noneH (Heap.get?_none_of_le ha),R₁.topB ha,e₁.noneS (Heap.get?_none_of_le ha)⟩
 have ownlt:∀ b∈own,b < s₁.heap.objs.size:=fun b hb=>let ⟨o,e,_⟩:=X.nofix 0 _ st b hb;Heap.lt_size e
 have cel0:∀ x,ck=.free x→FreeC T loc cs hB H₁ s₁.heap.objs.size own x:=fun x q=>by subst q;exact freeC (sc':=sc') hck.2 (hfr x rfl).1 hcs F (F.ev R e₁) kB1 rfl fun b hb=>(ho b hb).2
 have F₂:=comp_frm hsc hck hnames hfr hns (nosz _ (Nat.le_succ _)).2.1 (nosz _ (Nat.le_succ _)).1 cel0
 have R₂:Rel T H₁ { s₁ with heap:=hB }:=R₁.keeps (n:=s₁.toks) kB1
 have st₂:St 0 hB:=X.frame 0 _ _ st (fun b Z o e=>kB1 b o e) fun a o e Z=>kB1 a o e
 have ev₂:Ev H s.heap H₁ hB:=e₁.trans (Ev.keeps kB1)
 generalize s₁.heap.objs.size=D at *
 have he':EnvOk (cEnv env sc' D cs):={ toScOk:=hso,glob:=hsc.glob,bltn:=hsc.bltn }
 have fin':∀ ys us H' loc' s',K ys H'→Rel T H' s'→Frm T (cEnv env sc' D cs) loc' H' s'.heap→s'.heap.PlainList D (List.toArray us)→VRs T s'.heap ys us→Ev H s.heap H' s'.heap→H' D=none→compPost T.M A E use Q (.ref D) (D+1) (.ok .next) s':=fun ys us H' loc' s' k R' F' hp hv ev hd =>
  let ⟨m,hm,_⟩:=F'.ns
  fin ys us H' s' D (D+1) k R' hp hv ev hd (nosz D (Nat.le_refl _)).2.2 ⟨m,hm⟩ F'.out F'.new (nosz D (Nat.le_refl _)).2.1 (nosz (D+1) (Nat.le_succ _)).2.2 (nsucc _)
 have hown:∀ b∈own,(H₁ b=none∧T.B b=none∧b≠D+1)∧s.heap.get? b=none:=fun b hb=>⟨⟨(ho b hb).1.1,(ho b hb).1.2.1,nlt1 (ownlt b hb)⟩,(ho b hb).2⟩
 have notown:∀ a,D≤a→a ∉ own:=fun a ha hm=>absurd (ownlt a hm) (Nat.not_lt.mpr ha)
 have loop:codeAny T.M A (.compLoop (.ListComp elt [⟨tgt,iter,[],0⟩] sc' pos) 0 (.ref I) (.ref D) (cEnv env sc' D cs)) (compPost T.M A E use Q (.ref D) (D+1)) { s₁ with heap:=hB }:=by
  have plain:(∀ x p,tgt=.Name x p→(relabS sc' env.scope).names.lookup x=some .local)→(∀ x c,cs.lookup x=some c→c ∉ own∧c≠D)→codeAny T.M A (.compLoop (.ListComp elt [⟨tgt,iter,[],0⟩] sc' pos) 0 (.ref I) (.ref D) (cEnv env sc' D cs)) (compPost T.M A E use Q (.ref D) (D+1)) { s₁ with heap:=hB }:=fun hl hc=>by
   refine comp_loop P P2 HC HA he' (W:=[D+1]) X (fun b o q=>q) (store_locals P P2 HC HA he' hl) k₁ hsz R₂ F₂ st₂ ⟨0,hDo⟩ ev₂ hown (fun b hb=>?_) (nosz D (Nat.le_refl _)) (fun q=>nsucc D (List.mem_singleton.mp q).symm) (notown D (Nat.le_refl _)) (fun b hb=>?_) (.head _) hc fin'
   ·exact (List.mem_singleton.mp hb).symm▸(⟨(nosz _ (Nat.le_succ _)).1,(nosz _ (Nat.le_succ _)).2.1,(nosz _ (Nat.le_succ _)).2.2,_,hC,not_fixD⟩)
   ·exact (List.mem_singleton.mp hb).symm▸(notown _ (Nat.le_succ _))
  cases ck with
  | cell y =>
    obtain ⟨x,p,rfl⟩:=hct y rfl
    obtain ⟨rfl,hlk⟩:=htg x p rfl
    obtain ⟨rfl,hcell⟩:=hcs
    have n2:=nosz (D+2) (Nat.le_add_right _ _)
    refine comp_loop P P2 HC HA he' (W:=[D+1,D+2]) X (Wk:=fun b o=>¬ Fixed T o∧(b=D+2→∃ v,o.data=.cell v)) (fun b o q=>q.1)
     (store_cell P P2 HC HA he' (c:=D+2) hlk rfl n2.2.1 (nsucc1 D)) k₁ hsz R₂ F₂ st₂ ⟨0,hDo⟩ ev₂ hown (fun b hb=>?_) (nosz D (Nat.le_refl _)) (fun q=>?_) (notown D (Nat.le_refl _)) (fun b hb=>?_) (.head _) (fun x' c hc=>?_) fin'
    ·rcases mem2 hb with rfl | rfl
     ·exact ⟨(nosz _ (Nat.le_succ _)).1,(nosz _ (Nat.le_succ _)).2.1,(nosz _ (Nat.le_succ _)).2.2,_,hC,not_fixD,fun q=>absurd q.symm (nsucc1 _)⟩
     ·exact ⟨n2.1,n2.2.1,n2.2.2,_,hcell,not_fixC,fun q=>⟨_,rfl⟩⟩
    ·rcases mem2 q with q | q
     ·exact nsucc _ q.symm
     ·exact nsucc2 _ q.symm
    ·rcases mem2 hb with rfl | rfl
     ·exact notown _ (Nat.le_succ _)
     ·exact notown _ (Nat.le_add_right _ _)
    ·obtain rfl:=look1 hc
     exact ⟨notown _ (Nat.le_add_right _ _),nsucc2 _⟩
  | plain=>exact plain htg fun x' c hc=>by rw [show cs=[] from hcs] at hc;exact nomatch hc
  | free y =>
    refine plain htg fun x' c hc=>?_
    cases cel0 y rfl with
    | mk hv ec _ _ _ hlt hno=>rw [ec] at hc;obtain rfl:=look1 hc;exact ⟨hno,nlt0 hlt⟩
 exact codeAny_compStart_list loop (X.self 0 _ _ _ st₂ loop)
theorem comp_core {ck : CK} {elt tgt iter : Expr} {sc' : Scope} {pos pos' : Pos} {loc : Loc} {H : Hp} {K : List V → Hp → Prop} (h : wComp S env.scope ck elt tgt iter sc' loc H K) {s : Shared} (R : Rel T H s) (F : Frm T env loc H s.heap)
  {use:Option (Value→Sem Unit)} {Q:Value→Shared→Prop} {E:Value→Shared→Prop}
  (fin:∀ ys us H' s' D C,K ys H'→Rel T H' s'→s'.heap.PlainList D (List.toArray us)→VRs T s'.heap ys us→Ev H s.heap H' s'.heap→H' D=none→s.heap.get? D=none→(∃ m,s'.heap.Ns C m)→H' C=none→T.B C=none→T.B D=none→s.heap.get? C=none→C≠D →
   compPost T.M A E use Q (.ref D) C (.ok .next) s') :
  wpAny T.M A (comprehension (.ListComp elt [⟨tgt,iter,[],0⟩] sc' pos) sc' env pos' (newList []) false (eval iter env) use) Q E s:=by
 obtain ⟨hck,hso,hkind,hnames,hns,hen,htg,hct,hfr,h⟩:=h
 obtain ⟨cl,hclos,hcl⟩:=comp_clos hck F hfr
 refine wpAny_comprehension_free rfl (foldedSet_ok hns env) hclos hkind hnames (soundIter P P2 HC HA hsc iter tgt hen h R F fun xs gd H₁ I s₁ own St k₁ X st R₁ e₁ ho=>?_)
 obtain ⟨hsz,k₁⟩:=k₁
 refine wpAny_newObj_type (comp_newEnv ?_) (by size_fits)
 have hs1:(s₁.heap.push { cls:=.type "list",dict:=none,data:=.seq ([]:List Value).toArray }).objs.size=s₁.heap.objs.size+1:=Heap.size_push ..
 have hDo:=Heap.get?_push_size s₁.heap (o:={ cls:=.type "list",dict:=none,data:=.seq ([]:List Value).toArray }) rfl
 have kB0:∀ b o,s₁.heap.get? b=some o→(s₁.heap.push { cls:=.type "list",dict:=none,data:=.seq ([]:List Value).toArray }).get? b=some o:=fun b o e=>Heap.get?_push_of_some _ e
 generalize s₁.heap.push { cls:=.type "list",dict:=none,data:=.seq ([]:List Value).toArray }=h1 at *
 have hs2:(h1.push { cls:=.type "dict",data:=.dict #[] }).objs.size=s₁.heap.objs.size+2:=(Heap.size_push ..).trans (congrArg (·+1) hs1)
 have hcs:=comp_cells (D:=s₁.heap.objs.size) hck hcl hs2
 have hns:=Heap.Ns.new h1 (.type "dict")
 have hC:=Heap.get?_push_size h1 (o:={ cls:=.type "dict",data:=.dict #[] }) rfl
 have kB:=pushCells_keeps sc'.names (h1.push { cls:=.type "dict",data:=.dict #[] })
 have kB1:∀ b o,s₁.heap.get? b=some o→(pushCells (h1.push { cls:=.type "dict",data:=.dict #[] }) sc'.names).get? b=some o:=fun b o e=>kB b o (Heap.get?_push_of_some _ (kB0 b o e))
 rw [hs1] at hns hC
 have hns:=(fun ⟨o,es,ep,e,r⟩=>⟨o,es,ep,kB _ _ e,r⟩:Heap.Ns _ _ _→Heap.Ns (pushCells (h1.push { cls:=.type "dict",data:=.dict #[] }) sc'.names) _ _) hns
 have hDo:=kB _ _ (Heap.get?_push_of_some _ hDo)
 have hC:=kB _ _ hC
 dsimp only [newEnv]
 refine hs1.symm▸?_
 exact comp_go P P2 HC HA hsc hck hso hnames htg hct hfr k₁ hsz X st R R₁ F e₁ ho kB1 hcs hns hDo hC fin
omit P P2 HC HA hsc in
theorem Rel.adopt {H:Hp} {s:Shared} (R:Rel T H s) {a:Addr} {o:O} (hB:T.B a=none) (ho:OR T s.heap a o):Rel T (H.set a o) s where
 base:=R.base
 objs b o' e:=by
  by_cases q:b=a
  ·subst q;rw [Hp.set_self] at e;cases e;exact ho
  ·rw [Hp.set_ne _ _ q] at e;exact R.objs b o' e
 new b o' e:=by
  by_cases q:b=a
  ·subst q;exact hB
  ·rw [Hp.set_ne _ _ q] at e;exact R.new b o' e
 os:=R.os
 gens:=R.gens
omit P P2 HC HA hsc in
theorem Ev.adopt {H H':Hp} {h h':Heap} (x:Ev H h H' h') {a:Addr} {o:O} (n:h.get? a=none):Ev H h (H'.set a o) h' where
 keep:=x.keep
 dom b o' e:=by
  by_cases q:b=a
  ·subst q;exact .inr n
  ·rw [Hp.set_ne _ _ q] at e;exact x.dom b o' e
 live:=x.live
omit P P2 HC HA hsc in
theorem comp_end {H H' : Hp} {s : Shared} {s' : Shared} {D C : Addr} {ys : List V} {us : List Value} {h' : Heap} (R' : Rel T H' s') (hp : s'.heap.PlainList D (List.toArray us)) (hv : VRs T s'.heap ys us) (ev : Ev H s.heap H' s'.heap)
  (hsD:s.heap.get? D=none) (hm:∃ m,s'.heap.Ns C m) (hC:H' C=none) (hCB:T.B C=none) (hDB:T.B D=none) (hsC:s.heap.get? C=none) (hCD:C≠D) (hs:Heap.SameBut C s'.heap h') :
  Rel T (H'.set D (.list ys)) { s' with heap:=h' }∧Ev H s.heap (H'.set D (.list ys)) h'∧FixKeep T s'.heap h':=by
 have kk:∀ b ob,b ∉ [C]→s'.heap.get? b=some ob→h'.get? b=some ob:=fun b ob q e=>(hs.2 b (nmem q)).trans e
 obtain ⟨m,o,es,ep,ho,hd,_⟩:=hm
 have nf:¬ Fixed T o:=fun f=>by rcases f with ⟨_,xs,n,f⟩ | ⟨_,vs,f⟩ <;> rw [hd] at f <;> cases f
 obtain ⟨R2,fk⟩:=R'.own (n:=s'.toks) (own:=[C]) (all1 ⟨hC,hCB,o,ho,nf⟩) kk
 obtain ⟨nn,hD⟩:=hp
 refine ⟨R2.adopt hDB ⟨us,nn,kk D _ (inm hCD.symm) hD,hv.mono fk⟩,Ev.adopt ⟨fun a ob e n=>kk a ob (inm (ns_ne hsC e)) (ev.keep a ob e n),ev.dom,fun a ob e=>?_⟩ hsD,fk⟩
 obtain ⟨o',e'⟩:=ev.live a ob e
 exact ⟨o',kk a o' (inm (ns_ne hsC e)) e'⟩
theorem comp_eval {ck : CK} {elt tgt iter : Expr} {sc' : Scope} {pos : Pos} {loc : Loc} {H : Hp} {K : KV} (h : wComp S env.scope ck elt tgt iter sc' loc H fun ys H' => ∀ a, H' a = none → K (.obj a) (H'.set a (.list ys))) {s : Shared} (R : Rel T H s) (F : Frm T env loc H s.heap)
  {Q:Value→Shared→Prop} {E:Value→Shared→Prop} (g:Goes T H s K Q):wpAny T.M A (eval (.ListComp elt [⟨tgt,iter,[],0⟩] sc' pos) env) Q E s:=by
 rw [eval_ListComp]
 refine comp_core P P2 HC HA hsc (use:=none) h R F fun ys us H' s' D C k R' hp hv ev hd hsD hm hC hCB hDB hsC hCD=>?_
 obtain ⟨m,hn⟩:=id hm
 refine ⟨m,hn,fun h' hs=>?_⟩
 obtain ⟨R2,e2,_⟩:=comp_end (s:=s) R' hp hv ev hsD hm hC hCB hDB hsC hCD hs
 exact g _ _ _ _ (k D hd) R2 (.obj _) e2
inductive wCompA (S:Sy) (sc:Scope):Stmt→Loc→Hp→KS→Prop
 | mk {y : Str} {py : Pos} {elt tgt iter : Expr} {sc' : Scope} {pos p : Pos} {loc : Loc} {H : Hp} {K : KS} (ck : CK) : sc.names.lookup y = some .local → (py.line == pos.line) = true → (sc'.names.any fun (n, k) => n == y && (k == .local || k == .cell)) = false →
   (wComp S sc ck elt tgt iter sc' loc H fun ys H'=>∀ a,H' a=none→K .next (loc.put y (.obj a)) (H'.set a (.list ys)))→wCompA S sc (.Assign [.Name y py] (.ListComp elt [⟨tgt,iter,[],0⟩] sc' pos) p) loc H K
theorem comp_assign {st : Stmt} {loc : Loc} {H : Hp} {K : KS} (h : wCompA S env.scope st loc H K) {s : Shared} (R : Rel T H s) (F : Frm T env loc H s.heap)
  {Q:Flow→Shared→Prop} {E:Value→Shared→Prop} (g:GoesS T env H s K Q):wpAny T.M A (exec st env) Q E s:=by
 cases h with
 | @mk y py elt tgt iter sc' pos p _ _ _ ck hy hline hany h =>
   have hsw:swapsWith (.ListComp elt [⟨tgt,iter,[],0⟩] sc' pos) (some (.Name y py)) p.line env=pure true:=by
    unfold swapsWith
    dsimp only
    have hb:env.blockKind=.function:=by unfold Env.blockKind;refine hsc.kind.symm▸?_;rfl
    have hk:env.kindOf y=some .local:=hy
    refine hb.symm▸?_;refine hk.symm▸?_;refine hany.symm▸?_
    refine (?_:(pure (((ScopeKind.function==ScopeKind.function&&some NameKind.local==some NameKind.local)&&py.line==pos.line)&&!false):Sem Bool)=pure true)
    refine hline.symm▸?_
    rfl
   refine (exec_Assign_Name_used _ _ _ _ hsw).symm▸?_
   refine wpAny_bind (wpAny_standAt (wpAny_bind ?_))
   refine (?_:wpAny _ A (do let _ ← comprehension (.ListComp elt [⟨tgt,iter,[],0⟩] sc' pos) sc' env _ (newList []) false (eval iter env) (some (assign (.Name y py) env))) _ _ s)
   refine wpAny_bind (comp_core P P2 HC HA hsc (use:=some (assign (.Name y py) env)) h R F fun ys us H' s' D C k R' hp hv ev hd hsD hm hC hCB hDB hsC hCD=>?_)
   refine (?_:wpAny _ A (assign (.Name y py) env (.ref D)) _ _ s')
   obtain ⟨nn,hD0⟩:=id hp
   have R1:Rel T (H'.set D (.list ys)) s':=R'.adopt hDB ⟨us,nn,hD0,hv⟩
   have ev1:Ev H s.heap (H'.set D (.list ys)) s'.heap:=ev.adopt hsD
   have F1:=F.ev R ev1
   obtain ⟨mL,hnL,_⟩:=F.ns
   obtain ⟨oL,_,_,hoL,_⟩:=hnL
   have hLC:env.locals≠C:=by rintro rfl;exact nomatch hsC.symm.trans hoL
   have hLD:env.locals≠D:=by rintro rfl;exact nomatch hsD.symm.trans hoL
   refine wpAny_assign_Name (soundStore P P2 HC HA hsc hy R1 F1 (.obj D) fun s2 R2 F2 e2=>?_)
   obtain ⟨m,hn⟩:=hm
   have hHC:(H'.set D (.list ys)) C=none:=by exact (Hp.set_ne _ _ hCD).symm▸hC
   obtain ⟨oC,esC,epC,hoC,rC⟩:=hn
   have hn2:s2.heap.Ns C m:=⟨oC,esC,epC,e2.keep C oC hoC hHC hLC.symm,rC⟩
   refine ⟨m,hn2,fun h' hs=>?_⟩
   have kk:∀ b ob,b ∉ [C]→s2.heap.get? b=some ob→h'.get? b=some ob:=fun b ob q e=>(hs.2 b (nmem q)).trans e
   have nf:¬ Fixed T oC:=fun f=>by rcases f with ⟨_,xs,n,f⟩ | ⟨_,vs,f⟩ <;> rw [rC.1] at f <;> cases f
   obtain ⟨R3,fk⟩:=R2.own (n:=s2.toks) (own:=[C]) (all1 ⟨hHC,hCB,oC,e2.keep _ oC hoC hHC hLC.symm,nf⟩) kk
   have F3:Frm T env (loc.put y (.obj D)) (H'.set D (.list ys)) h':=by
    refine ⟨?_,F2.new,F2.out,?_⟩
    ·obtain ⟨mm,⟨o,es,ep,ho4,r⟩,hm⟩:=F2.ns
     exact ⟨mm,⟨o,es,ep,kk _ o (inm hLC) ho4,r⟩,fun y v e kk=>(by obtain ⟨u,a,b⟩:=hm y v e kk;exact ⟨u,a,b.mono fk⟩)⟩
    ·intro y' v e kq
     obtain ⟨c,u,a,⟨o,b,b'⟩,d,n,l⟩:=F2.cel y' v e kq
     refine ⟨c,u,a,⟨o,kk c o (fun q=>?_) b,b'⟩,d.mono fk,n,l⟩
     simp at q;subst q
     obtain rfl:=Option.some.inj ((e2.keep _ oC hoC hHC hLC.symm).symm.trans b)
     exact nomatch rC.1.symm.trans b'
   refine wpAny_pure (wpAny_pure (g _ _ _ _ _ (k D hd) R3 F3 .next ?_))
   have e12:=ev1.toL (L:=env.locals) |>.trans e2
   refine ⟨fun a ob e n l=>kk a ob (inm (ns_ne hsC e)) (e12.keep a ob e n l),e12.dom,fun a ob e=>?_⟩
   obtain ⟨o',e'⟩:=e12.live a ob e
   exact ⟨o',kk a o' (inm (ns_ne hsC e)) e'⟩
end
section
variable {M:Model} {A:Around} {R:GenEnd} {Y:Protocol} {n:Nat} {s₀:Shared} {c:Code} {fs:List Frame} {s:Shared} {env:Env}
 {K:Flow→Sem PySem.Fin} {H:Value→Sem PySem.Fin} {gd:Bool→Bool} {lv:List Value→List Value}
theorem seg_stmt {st : Stmt} {rest : List Stmt} (h : wpAny M (A.over c fs) (exec st env) (fun f s' => f = .next ∧ Seg M A R Y n s₀ c ((execs rest env).wrap K H gd lv) fs s') (fun x s' => Seg M A R Y n s₀ c (H x) fs s') s) :
  Seg M A R Y n s₀ c ((execs (st::rest) env).wrap K H gd lv) fs s:=by
 refine seg_execs_cons (seg_wrap (wpAny_mono h (fun f s' h'=>?_) fun Z Z x=>x))
 obtain ⟨rfl,h'⟩:=h'
 exact h'
noncomputable abbrev ownK (env:Env) (K:Flow→Sem PySem.Fin) (H:Value→Sem PySem.Fin) (gd:Bool→Bool) (lv:List Value→List Value) (r:Result):Sem PySem.Fin :=
 ((match r with | .ok f => (.pure f : Sem Flow) | .error e => .raise e).onRaise fun (x : Value) => do
    if (← field x 1)==Value.none then unsupported "frame.own-activation:exception-without-traceback"
    setFlight x env.frame).wrap K H gd lv
theorem seg_For {target iter : Expr} {body orelse : List Stmt} {pos : Pos} (hs : ∀ x, foldedSetIterable iter env x = pure x)
  (h : wpAny M (A.over c fs) (eval iter env) (fun x s₁ => wpAny M (A.over c fs) (pyIter x) (fun it s₂ => ∀ p, Seg M A R Y n s₀ (.forLoop target it body orelse env) (M.den (.forLoop target it body orelse env))
    (.ret (ownK env K H gd lv) none (gd false) (lv []) c p []::fs) s₂) (fun x s'=>Seg M A R Y n s₀ c (H x) fs s') s₁) (fun x s'=>Seg M A R Y n s₀ c (H x) fs s') s) :
  Seg M A R Y n s₀ c ((exec (.For target iter body orelse pos) env).wrap K H gd lv) fs s:=by
 rw [arm_exec_For]
 refine seg_bind_wrap (wpAny_standAt (seg_bind_wrap (wpAny_mono h (fun x s₁ h₁=>?_) fun Z Z x=>x)))
 refine seg_bind_wrap (wpAny_of_eq (hs x) ?_)
 refine seg_bind_wrap (wpAny_standAt ?_)
 refine seg_bind_wrap (wpAny_holding (wpAny_mono h₁ (fun it s₂ h₂=>?_) fun Z Z x=>x))
 exact seg_call h₂
end
section
variable {prog:Program} {w:World} {A:Around} {R:GenEnd} {Y:Protocol} {n:Nat} {s₀:Shared} {fs:List Frame} {s:Shared} {env:Env}
theorem seg_forYield {target : Expr} {it : Value} {test e : Expr} {ip yp ep : Pos} {fk : Result → Sem PySem.Fin} {fh fg fl fc fp kp} (hfg : fg = false) (hfs : splitAtGen fs = none) (hfs' : fs.any Frame.guarded = false) (hco : env.scope.isCoroutine = false) (hi : interactive env = false)
  (hend:wpAny (model prog w) (A.over (.forLoop target it [.If test [.Expr (.Yield (some e) yp) ep] [] ip] [] env) (.ret fk fh fg fl fc fp kp::fs)) (pyNext it) (fun r s₁=>match r with
   | none=>Seg (model prog w) A R Y n s₀ fc (fk (.ok .next)) fs s₁
   | some v => wpAny (model prog w) (A.over (.forLoop target it [.If test [.Expr (.Yield (some e) yp) ep] [] ip] [] env) (.ret fk fh fg fl fc fp kp :: fs)) (letOwnedTupleGo target it v) (fun Z s₁' => wpAny (model prog w) (A.over (.forLoop target it [.If test [.Expr (.Yield (some e) yp) ep] [] ip] [] env) (.ret fk fh fg fl fc fp kp :: fs)) (assign target env v) (fun Z s₂ =>
     wpAny (model prog w) (A.over (.forLoop target it [.If test [.Expr (.Yield (some e) yp) ep] [] ip] [] env) (.ret fk fh fg fl fc fp kp::fs)) (isTrue test env (eval test env)) (fun b s₃ =>
      (b=false→Seg (model prog w) A R Y n s₀ (.forLoop target it [.If test [.Expr (.Yield (some e) yp) ep] [] ip] [] env) ((model prog w).den (.forLoop target it [.If test [.Expr (.Yield (some e) yp) ep] [] ip] [] env)) (.ret fk fh fg fl fc fp kp::fs) s₃) ∧
      (b=true→∃ n',n=n'+1∧wpAny (model prog w) (A.over (.forLoop target it [.If test [.Expr (.Yield (some e) yp) ep] [] ip] [] env) (.ret fk fh fg fl fc fp kp::fs)) (eval e env) (fun v s₄ =>
       ∀ kap:Resume→Shared→Prop,(∀ s'',Seg (model prog w) A R Y n' s'' (.forLoop target it [.If test [.Expr (.Yield (some e) yp) ep] [] ip] [] env) ((model prog w).den (.forLoop target it [.If test [.Expr (.Yield (some e) yp) ep] [] ip] [] env)) (.ret fk fh fg fl fc fp kp::fs) s''→kap (.send .none) s'')→Y n' s₀ v s₄ kap)
       (fun Z Z=>False) s₃)) (fun Z Z=>False) s₂) (fun Z Z=>False) s₁') (fun Z Z=>False) s₁) (fun Z Z=>False) s) :
  Seg (model prog w) A R Y n s₀ (.forLoop target it [.If test [.Expr (.Yield (some e) yp) ep] [] ip] [] env) ((model prog w).den (.forLoop target it [.If test [.Expr (.Yield (some e) yp) ep] [] ip] [] env)) (.ret fk fh fg fl fc fp kp::fs) s:=by
 show Seg _ A R Y n s₀ _ ((forTurn target it [.If test [.Expr (.Yield (some e) yp) ep] [] ip] [] env).onRaise (fun x=>do noteFrame x env;theTreesLotGoes x)) _ s
 unfold forTurn
 rw [Sem.onRaise_eq_wrap]
 refine seg_bind_wrap (wpAny_standAt (seg_bind_wrap (wpAny_onRaise (wpAny_mono hend (fun r s₁ h₁=>?_) fun Z Z x=>x.elim))))
 cases r with
 | none =>
   refine seg_again rfl ?_
   show Seg _ A R Y n s₀ _ (((execs [] env).onRaise (fun x=>do noteFrame x env;theTreesLotGoes x)) >>= fun f=>(Sem.pure (PySem.Fin.done f):Sem PySem.Fin)) _ s₁
   exact seg_leaf (.ok .next) h₁
 | some v =>
   refine seg_bind_wrap (wpAny_mono h₁ (fun Z s₁' h₁'=>?_) fun Z Z x=>x.elim)
   refine seg_bind_wrap (wpAny_mono h₁' (fun Z s₂ h₂=>?_) fun Z Z x=>x.elim)
   rw [Sem.bind_eq_wrap',Sem.wrap_wrap]
   refine seg_execs_cons ?_
   rw [arm_exec_If]
   refine seg_bind_wrap (wpAny_standAt (seg_bind_wrap (wpAny_mono h₂ (fun b s₃ h₃=>?_) fun Z Z x=>x.elim)))
   cases b with
   | false=>exact seg_again rfl (h₃.1 rfl)
   | true =>
     obtain ⟨n',rfl,h₄⟩:=h₃.2 rfl
     refine seg_execs_cons (seg_Expr_Yield (by simp [splitAtGen,hfs]) rfl (by simp only [List.any_cons,hfs'];subst hfg;rfl) (wpAny_mono h₄ (fun v s₄ h₄ kap hk=>?_) fun Z Z x=>x.elim) hco hi)
     refine h₄ kap fun s'' hs=>hk .none s'' ?_
     exact seg_again rfl hs
end
structure GW (T:TI) (A:Around) (I S:Addr) (ty:String) (xs:List V) (St:Nat→Shared→Prop) (Sf:Shared→Prop):Prop where
 typ:∀ i s,St i s→s.TypeIs (.ref I) ty
 frame:∀ i (s:Shared) h' tk,St i s→(∀ b o,b≠S→s.heap.get? b=some o→h'.get? b=some o)→(∃ vs c,h'.get? S=some { cls:=.type "list",data:=.seq vs c })→St i { s with heap:=h',toks:=tk }
 item:∀ i x (s:Shared) (Q:Option Value→Shared→Prop) (E:Value→Shared→Prop),xs[i]?=some x→St i s→(∃ vs c,s.heap.get? S=some { cls:=.type "list",data:=.seq vs c })→(∀ v s',VR T s'.heap x v→St (i+1) s'→s'.heap.get? S=s.heap.get? S→FixKeep T s.heap s'.heap→Q (some v) s')→wpAny T.M A (pyNext (.ref I)) Q E s
 done:∀ (s:Shared) (Q:Option Value→Shared→Prop) (E:Value→Shared→Prop),St xs.length s→(∃ vs c,s.heap.get? S=some { cls:=.type "list",data:=.seq vs c })→(∀ s',Sf s'→s'.heap.get? S=s.heap.get? S→FixKeep T s.heap s'.heap→Q none s')→wpAny T.M A (pyNext (.ref I)) Q E s
 self:∀ i (s:Shared) (Q:Value→Shared→Prop) (E:Value→Shared→Prop),St i s→Q (.ref I) s→wpAny T.M A (pyIter (.ref I)) Q E s
 ne:I≠S
 seq:(Value.type ty==Value.type "list")=false∧(Value.type ty==Value.type "tuple")=false
 nolen:typeLookup (.type ty) "__len__" = pure none
 nohint:typeLookup (.type ty) "__length_hint__" = pure none
section
variable {T:TI} {A:Around} {I S:Addr} {ty:String} {xs:List V} {St:Nat→Shared→Prop} {Sf:Shared→Prop} {R:Result→Shared→Prop}
theorem fix_update {h:Heap} {S:Addr} {f:Obj→Obj} {vs:Array Value} {c:Nat} (hS:h.get? S=some { cls:=.type "list",data:=.seq vs c }):FixKeep T h (h.update S f):=fun a o e fx=>by
 have:S≠a:=by
  rintro rfl
  obtain rfl:=Option.some.inj (hS.symm.trans e)
  rcases fx with ⟨f | f,_⟩ | ⟨f,_⟩ <;> simp at f
 exact (Heap.get?_update_other _ _ this).trans e
theorem gw_loop (W : GW T A.in1 I S ty xs St Sf) (hn : xs.length ≤ 4096) (res : Value) :
  ∀ (k i:Nat) (s:Shared) (us:List Value) (c:Nat),xs.length - i=k→i≤xs.length→St i s→s.heap.get? S=some { cls:=.type "list",data:=.seq us.toArray c }→VRs T s.heap (xs.take i) us →
  (∀ s' us' c',Sf s'→s'.heap.get? S=some { cls:=.type "list",data:=.seq (List.toArray us') c' }→VRs T s'.heap xs us'→R (.ok (.ret res)) s') →
  codeAny T.M A (.builtin "list.extend.loop" ⟨[.ref S,.ref I,res],[]⟩) R s:=by
 intro k
 induction k with
 | zero =>
   intro i s us c hk hi hst hS hv hR
   have hin:i=xs.length:=Nat.le_antisymm hi (Nat.le_of_sub_eq_zero hk)
   subst hin
   refine codeAny_builtin F.entry_extend_loop ?_
   rw [Around.under_plainId F.plain_extend_loop _]
   show wpAny _ A.in1 (pyNext (.ref I) >>= _) _ _ s
   refine wpAny_bind (W.done s _ _ hst ⟨_,_,hS⟩ fun s' hf e fk=>?_)
   exact wpAny_pure (hR s' us c hf (e.trans hS) (by simpa using hv.mono fk))
 | succ k ih =>
   intro i s us c hk hi hst hS hv hR
   have hlt:i < xs.length:=Nat.lt_of_sub_eq_succ hk
   have hlen:us.length=i:=by exact hv.length▸(List.length_take_of_le hi).symm▸rfl
   refine codeAny_builtin F.entry_extend_loop ?_
   refine (Around.under_plainId F.plain_extend_loop _).symm▸?_
   refine (?_:wpAny _ A.in1 (pyNext (.ref I) >>= _) _ _ s)
   refine wpAny_bind (W.item i xs[i] s _ _ (List.getElem?_eq_getElem hlt) hst ⟨_,_,hS⟩ fun v s' rv hst' e fk=>?_)
   have hS':=e.trans hS
   refine (?_:wpAny _ A.in1 (updateSeq S (·.push v) >>= _) _ _ _)
   refine wpAny_bind ?_
   obtain ⟨c',hc'⟩:∃ c',(s'.heap.update S (Obj.mapSeq (·.push v))).get? S=some { cls:=.type "list",data:=.seq (us++[v]).toArray c' }:=by
    have:=Heap.get?_update_self (Obj.mapSeq (·.push v)) hS' rfl
    refine this.symm▸?_
    exact ⟨_,by simp only [Obj.mapSeq,List.push_toArray];rfl⟩
   refine wpAny_updateSeq hS' rfl (wpAny_pure ⟨plainId_quiet F.plain_extend_loop _,ih (i+1) _ (us++[v]) c' (congrArg Nat.pred hk) hlt (W.frame _ s' _ s'.toks hst' (fun b o hb e=>?_) ⟨_,_,hc'⟩) hc' ?_ hR⟩)
    (by simp only [List.size_toArray,hlen,sizeLine];omega) (by refine (?_:(us.toArray.push v).size≤sizeLine+1);rw [Array.size_push];simp only [List.size_toArray,hlen,sizeLine];omega)
   ·exact (Heap.get?_update_other _ _ (fun h:S=b=>hb h.symm)).trans e
   ·have fu:FixKeep T s'.heap (s'.heap.update S (Obj.mapSeq (·.push v))):=fix_update hS'
    refine (List.take_succ_eq_append_getElem hlt).symm▸?_
    exact ((hv.mono fk).mono fu).append (.cons (rv.mono fu) .nil)
theorem gw_list {s : Shared} {Q : Value → Shared → Prop} {E : Value → Shared → Prop} (W : GW T A.in1.in1 I s.heap.objs.size ty xs St Sf) (hn : xs.length ≤ 4096) (hst : St 0 s)
  (hQ:∀ s' us c,Sf s'→s'.heap.get? s.heap.objs.size=some { cls:=.type "list",data:=.seq (List.toArray us) c }→VRs T s'.heap xs us→Q (.ref s.heap.objs.size) s') :
  wpAny T.M A (call (.type "list") [.ref I]) Q E s:=by
 generalize hSS:s.heap.objs.size=S at *
 refine callType_codes (Q₁:=fun obj s₁=>obj=.ref S∧s₁={ s with heap:=s.heap.push { cls:=.type "list",data:=.seq #[] } }) F.called_list (F.typeCall_list_1 _) F.entry_list_init
  (code_list_new _ ⟨by rw [hSS],rfl⟩) fun obj s₁ h₁=>?_
 obtain ⟨rfl,rfl⟩:=h₁
 have hS:(s.heap.push { cls:=.type "list",data:=.seq #[] }).get? S=some { cls:=.type "list",data:=.seq #[] }:=by rw [← hSS];exact Heap.get?_push_size _ rfl
 have hst1:=W.frame 0 s (s.heap.push { cls:=.type "list",data:=.seq #[] }) s.toks hst (fun b o Z e=>Heap.get?_push_of_some _ e) ⟨_,_,hS⟩
 refine ⟨⟨_,hS,rfl⟩,F.args_list_init_2 _ _,?_⟩
 show wpAny _ A.in1.in1 (do let old ← Builtin.List.listItems (.ref S);Builtin.List.listUpdate (.ref S) (fun Z=>#[]);letGo old.toList.reverse;Builtin.List.listExtendWith (.ref S) (.ref I) .none) _ _ _
 refine wpAny_bind ?_
 unfold Builtin.List.listItems
 refine wpAny_bind (wpAny_seqItems hS rfl (wpAny_pure ?_))
 show wpAny _ A.in1.in1 (updateSeq S (fun Z=>#[]) >>= fun Z=>letGo (#[]:Array Value).toList.reverse >>= fun Z=>Builtin.List.listExtendWith (.ref S) (.ref I) .none) _ _ _
 refine wpAny_bind (wpAny_updateSeq hS rfl ?_)
 generalize hh2:(s.heap.push { cls:=.type "list",data:=.seq #[] }).update S (Obj.mapSeq (fun Z=>(#[]:Array Value)))=h2
 obtain ⟨c2,hS2⟩:∃ c2,h2.get? S=some { cls:=.type "list",data:=.seq #[] c2 }:=by
  rw [← hh2];exact ⟨_,Heap.get?_update_self (Obj.mapSeq (fun Z=>(#[]:Array Value))) hS rfl⟩
 have hst2:St 0 { s with heap:=h2 }:=by
  have:=W.frame 0 _ h2 s.toks hst1 (fun b o hb e=>by rw [← hh2];exact (Heap.get?_update_other _ _ (fun h:S=b=>hb h.symm)).trans e) ⟨_,_,hS2⟩
  exact this
 refine wpAny_bind (wpAny_letGo ?_)
 unfold Builtin.List.listExtendWith
 refine wpAny_bind (wpAny_typeOf (W.typ 0 _ hst2) ?_)
 have h1:Builtin.List.listSameRef (.ref S) (.ref I)=false:=by simp [Builtin.List.listSameRef,W.ne.symm]
 simp only [h1,W.seq.1,W.seq.2,Bool.or_false,Bool.false_eq_true,if_false]
 refine wpAny_bind (W.self 0 _ _ _ hst2 ?_)
 refine wpAny_bind (wpAny_holding ?_)
 unfold Builtin.List.listLengthHint
 refine wpAny_bind (wpAny_specialOf (W.typ 0 _ hst2) W.nolen ?_)
 refine (?_:wpAny _ A.in1.in1 (specialOf (Value.ref I) (Str.ofString "__length_hint__") >>= _) _ _ _)
 refine wpAny_bind (wpAny_specialOf (W.typ 0 _ hst2) W.nohint ?_)
 refine wpAny_pure ?_
 show wpAny _ A.in1.in1 (rule "list.extend.makes-room" >>= fun Z=>Builtin.List.listTouch (.ref S) >>= fun Z =>
  again (.builtin "list.extend.loop" ⟨[.ref S,.ref I,.none],[]⟩)) _ _ _
 refine wpAny_bind (wpAny_rule ?_)
 refine wpAny_bind ?_
 refine (?_:wpAny _ A.in1.in1 (updateSeq S (·.push .none) >>= fun Z=>updateSeq S (·.pop)) _ _ _)
 refine wpAny_bind (wpAny_updateSeq hS2 rfl ?_)
 have hS₂:=Heap.get?_update_self (Obj.mapSeq (·.push Value.none)) hS2 rfl
 refine wpAny_updateSeq (hz:=by seq_fits) hS₂ rfl ?_
 have hS₃:=Heap.get?_update_self (Obj.mapSeq (·.pop)) hS₂ rfl
 refine wpAny_pure ⟨plainId_quiet F.plain_extend_loop _,gw_loop W hn _ xs.length 0 _ [] _ rfl (Nat.zero_le _)
  (W.frame 0 _ _ s.toks (W.frame 0 _ _ s.toks hst2 (fun b o hb e=>(Heap.get?_update_other _ _ (fun h:S=b=>hb h.symm)).trans e) ⟨_,_,hS₂⟩) (fun b o hb e=>(Heap.get?_update_other _ _ (fun h:S=b=>hb h.symm)).trans e) ⟨_,_,hS₃⟩) hS₃ (by simpa using VRs.nil) fun s' us' c' hf hS' hv=>?_⟩
 exact ⟨rfl,hQ s' us' c' hf hS' hv⟩
end
section
variable {T:TI} {S:Sy} {n:Nat} (P:Prims T S) (HC:SoundS T S n) {A:Around} (HA:Rm (n+1) A) {env:Env} (hsc:EnvOk env)
include P HC HA hsc
theorem slice_ns {y : Str} {yp sp p cp : Pos} {ck : Nat} {k : Int} {loc : Loc} {H : Hp} {x : Str} (hy : nameV S env.scope loc y = some (.str x)) (hsz : x.length ≤ 4096) {s : Shared} (R : Rel T H s) (F : Frm T env loc H s.heap) {Q : Value → Shared → Prop} {E : Value → Shared → Prop}
  (g:∀ t s',Rel T H s'→Ev H s.heap H s'.heap→Q (.str (Txt.slice x none (some k)) t) s') :
  wpAny T.M A (eval (.Subscript (.Name y yp) (.Slice none (some (.Constant (.int k) ck cp)) none sp) p) env) Q E s:=by
 refine wpAny_Subscript_str_slice (soundName P HC HA hsc hy R F fun u vu=>?_)
 obtain ⟨t,rfl⟩:=vu.iS
 rw [evalPart_none]
 refine wpAny_pure ?_
 refine wpAny_Constant_int (k:=ck) (pos:=cp) ?_
 refine ⟨x,t,none,some (k,s.toks),rfl,rfl,rfl,post_val_or_str ⟨Nat.le_trans (Txt.slice_le x none (some k)) (by rw [sizeLine];omega),fun t' kk=>g t' _ (R.keeps fun Z Z e=>Heap.get?_push_of_some _ e) (Ev.keeps fun Z Z e=>Heap.get?_push_of_some _ e)⟩⟩
theorem slice_sn {y : Str} {yp sp p cp : Pos} {ck : Nat} {k : Int} {loc : Loc} {H : Hp} {x : Str} (hy : nameV S env.scope loc y = some (.str x)) (hsz : x.length ≤ 4096) {s : Shared} (R : Rel T H s) (F : Frm T env loc H s.heap) {Q : Value → Shared → Prop} {E : Value → Shared → Prop}
  (g:∀ t s',Rel T H s'→Ev H s.heap H s'.heap→Q (.str (Txt.slice x (some k) none) t) s') :
  wpAny T.M A (eval (.Subscript (.Name y yp) (.Slice (some (.Constant (.int k) ck cp)) none none sp) p) env) Q E s:=by
 refine wpAny_Subscript_str_slice (soundName P HC HA hsc hy R F fun u vu=>?_)
 obtain ⟨t,rfl⟩:=vu.iS
 refine wpAny_Constant_int (k:=ck) (pos:=cp) ?_
 rw [evalPart_none]
 refine wpAny_pure ?_
 refine ⟨x,t,some (k,s.toks),none,rfl,rfl,rfl,post_val_or_str ⟨Nat.le_trans (Txt.slice_le x (some k) none) (by rw [sizeLine];omega),fun t' kk=>g t' _ (R.keeps fun Z Z e=>Heap.get?_push_of_some _ e) (Ev.keeps fun Z Z e=>Heap.get?_push_of_some _ e)⟩⟩
theorem slice_in {y pn : Str} {yp sp p cp pp qp : Pos} {ck : Nat} {k : Int} {loc : Loc} {H : Hp} {x a b : Str} (hy : nameV S env.scope loc y = some (.str x)) (hp : nameV S env.scope loc pn = some (.tup [.str a, .str b])) (hsz : x.length ≤ 4096) {s : Shared} (R : Rel T H s) (F : Frm T env loc H s.heap) {Q : Bool → Shared → Prop} {E : Value → Shared → Prop}
  (g:∀ s',Rel T H s'→Ev H s.heap H s'.heap→Q (a==Txt.slice x none (some k)||b==Txt.slice x none (some k)) s') :
  wpAny T.M A (isTrue (.Compare (.Subscript (.Name y yp) (.Slice none (some (.Constant (.int k) ck cp)) none sp) p) [.In] [.Name pn pp] qp) env (eval (.Compare (.Subscript (.Name y yp) (.Slice none (some (.Constant (.int k) ck cp)) none sp) p) [.In] [.Name pn pp] qp) env)) Q E s:=by
 refine wpAny_isTrue_Compare1' rfl (slice_ns P HC HA hsc hy hsz R F fun t s₁ R₁ e₁=>?_)
 refine soundName P HC HA hsc hp R₁ (F.ev R e₁) fun u vu=>?_
 obtain ⟨vs,c,rfl,htc,rs⟩:=vu.iT
 obtain ⟨t1,t2,rfl⟩:=VRs.strs2 rs
 refine SeqAt.in_tupleAt (fun v=>match v with | .str y _=>y==Txt.slice x none (some k) | _=>false) htc (fun y hy=>?_) ?_
 ·simp at hy
  rcases hy with rfl | rfl
  ·exact SeqAt.EqAt.str_str _ _ _ _
  ·exact SeqAt.EqAt.str_str _ _ _ _
 ·refine wpAny_truthy_bool ?_
  have e:(([Value.str a t1,Value.str b t2].toArray).any fun v=>match v with | .str y _=>y==Txt.slice x none (some k) | _=>false)=(a==Txt.slice x none (some k)||b==Txt.slice x none (some k)):=by
   simp
  refine e.symm▸?_
  exact g _ R₁ e₁
end
section
variable {T:TI} {S:Sy} {n:Nat} (P:Prims T S) (HC:SoundS T S n) {A:Around} (HA:Rm (n+1) A) {env:Env} (hsc:EnvOk env)
include P HC HA hsc
theorem tag_eval {xi xw : Str} {x y : Str} {p0 p1 p2 p3 p4 p5 p6 p7 p8 : Pos} {c1 c2 c3 c4 : Nat} {k : Int} {loc : Loc} {H : Hp} (hi : nameV S env.scope loc xi = some (.lit (.type "int"))) (hw : nameV S env.scope loc xw = some (.int k)) {s : Shared} (R : Rel T H s) (F : Frm T env loc H s.heap)
  (hsys:∀ s':Shared,Rel T H s'→∃ o,s'.heap.get? sysModules=some o) {Q:Value→Shared→Prop} {E:Value→Shared→Prop}
  (hok:∀ t s',k=1∨k=2→Rel T H s'→Ev H s.heap H s'.heap→Q (.str (if k=1 then x else y) t) s')
  (her:k≠1→k≠2→∀ s₁ h' e tk,Rel T H s₁→Ev H s.heap H s₁.heap→Heap.NewExc s₁.heap h' e "KeyError" → E (.ref e) { s₁ with heap:=h',toks:=tk }) :
  wpAny T.M A (eval (.Subscript (.Dict [some (.Constant (.int 1) c1 p1),some (.Constant (.int 2) c2 p2)] [.Constant (.str x) c3 p3,.Constant (.str y) c4 p4] p5) (.Call (.Name xi p6) [.Name xw p7] [] p8) p0) env) Q E s:=by
 rw [eval_Subscript]
 refine wpAny_bind ?_
 refine wpAny_Dict_walk (knd:=intKind T.prog T.w) ?_ ?_ ?_ ?_ ?_
 ·rfl
 ·rfl
 ·intro e;cases e
 ·show 2≤15;omega
 generalize hD:s.heap.objs.size=D
 have hDn:s.heap.get? D=none:=by rw [← hD];exact Heap.get?_none_of_le (Nat.le_refl _)
 refine pairTrees_cons_walk (wpAny_Constant_int (wpAny_Constant_str (pairTrees_cons_walk (wpAny_Constant_int (wpAny_Constant_str (pairTrees_nil_walk ?_))))))
 refine ⟨[(1,.str x (s.toks+1)),(2,.str y (s.toks+1+1+1))],?_,?_,fun h' hdo hsb=>?_⟩
 ·exact ⟨rfl,rfl,rfl,rfl,trivial⟩
 ·rw [← hD];exact Heap.DictOf.new _
 have hkeep:∀ b o,s.heap.get? b=some o→h'.get? b=some o:=fun b o e=>by
  have hb:b≠D:=by rintro rfl;rw [hDn] at e;cases e
  exact (hsb.2 b hb).trans (Heap.get?_push_of_some _ e)
 have hm:=hdo.mapOf
 have R₁:∀ tk,Rel T H { s with heap:=h',toks:=tk }:=fun tk=>R.keeps hkeep
 have e₁:Ev H s.heap H h':=Ev.keeps hkeep
 dsimp only
 refine wpAny_bind (wpAny_holding ?_)
 refine wpAny_Call_NameR (nameL P HC HA hsc hi (R₁ _) (F.ev R e₁) ?_)
 have tk:=trees_ok (env:=env) (pos:=p8) (es:=[.Name xw p7]) rfl
 refine callWith_V P HC HA hsc (f:=.none) tk.1 (by rw [tk.2];simp) (evalArgs_V rfl ?_)
 rw [starEach_ok rfl]
 refine spliced_cons (soundName P HC HA hsc hw (R₁ _) (F.ev R e₁) fun u vu=>spliced_nil ⟨rfl,keep_ty _,?_⟩)
 obtain ⟨ti,rfl⟩:=vu.iI
 refine call_int_int ?_
 refine wpAny_bind (wpAny_standAt (wpAny_bind ?_))
 rw [getitemInPython_of_ne (Shared.TypeIs.not_modules (s:={ s with heap:=h',toks:=s.toks+1+1+1+1+2 }) hm.typeIs)]
 refine wpAny_bind (wpAny_specialOf (s:={ s with heap:=h',toks:=s.toks+1+1+1+1+2 }) hm.typeIs slot_dict_getitem.lookup (wpAny_pure ?_))
 obtain ⟨vs,hsub⟩:=subscripted_false (.Call (.Name xi p6) [.Name xw p7] [] p8) (.ref D) (.int k ti)
 rw [hsub]
 have hkk:(intKind T.prog T.w).is k (.int k ti)=true:=by show (k==k)=true;simp
 by_cases h1:k=1
 ·subst h1
  refine wpAny_bind (wpAny_operating (wpAny_getItem_of (v:=.str x (s.toks+1)) hkk hm rfl ?_))
  exact wpAny_bind (wpAny_letTemporaryGo (wpAny_pure (hok _ _ (.inl rfl) (R₁ _) e₁)))
 ·by_cases h2:k=2
  ·subst h2
   refine wpAny_bind (wpAny_operating (wpAny_getItem_of (v:=.str y (s.toks+1+1+1)) hkk hm rfl ?_))
   exact wpAny_bind (wpAny_letTemporaryGo (wpAny_pure (hok _ _ (.inr rfl) (R₁ _) e₁)))
  ·have hD2 : (D == sysModules) = false := by
    cases q:(D==sysModules) with
    | false=>rfl
    | true =>
      obtain ⟨o,ho⟩:=hsys s R
      rw [← eq_of_beq q,hDn] at ho;cases ho
   refine wpAny_bind (wpAny_operating (wpAny_getItem_missing_of hkk hD2 HA.h hm ?_ fun h2' e hx=>?_))
   ·show valueAt [((1:Int),Value.str x (s.toks+1)),(2,Value.str y (s.toks+1+1+1))] k=none
    simp [valueAt,Ne.symm h1,Ne.symm h2]
   ·exact her h1 h2 { s with heap:=h',toks:=_ } h2' e _ (R₁ _) e₁ hx
end
noncomputable abbrev TI.withG (T:TI) (p:Array GenState→Prop):TI:={ T with gs:=p }
section
variable {T:TI} {p:Array GenState→Prop}
theorem VR.toG {h:Heap} {x:V} {v:Value} (r:VR T h x v):VR (T.withG p) h x v :=
 VR.rec (T:=T) (motive_1:=fun x v Z=>VR (T.withG p) h x v) (motive_2:=fun xs vs Z=>VRs (T.withG p) h xs vs) .none .bool .int .str (fun e Z hs=>.tup e hs) (fun e Z hs=>.mat e hs) .obj .lit (fun e=>.bm e) .nil (fun Z Z a b=>.cons a b) r
theorem VRs.toG {h:Heap} {xs:List V}:∀ {vs:List Value},VRs T h xs vs→VRs (T.withG p) h xs vs:=by
 induction xs with
 | nil=>intro vs r;exact r.nil_eq.symm▸.nil
 | cons x xs ih=>intro us r;obtain ⟨v,vs,rfl,a,b⟩:=r.cut;exact .cons a.toG (ih b)
theorem OR.toG {h:Heap} {a:Addr} {o:O} (r:OR T h a o):OR (T.withG p) h a o:=by
 cases o with
 | list xs=>obtain ⟨vs,n,e,q⟩:=r;exact ⟨vs,n,e,q.toG⟩
 | dS kvs=>obtain ⟨ps,a,b,c⟩:=r;exact ⟨ps,a,b,c.toG⟩
 | dI kvs=>obtain ⟨ps,a,b,c⟩:=r;exact ⟨ps,a,b,c.toG⟩
 | set0=>exact r
 | inst d=>exact r
 | ns kvs=>obtain ⟨m,a,b,c⟩:=r;exact ⟨m,a,fun k x e=>(by obtain ⟨v,y,z⟩:=b k x e;exact ⟨v,y,z.toG⟩),c⟩
theorem Rel.toG {H:Hp} {s:Shared} (R:Rel T H s) {gens:Array GenState} (hp:p gens):Rel (T.withG p) H { s with gens:=gens } :=
 ⟨R.base,fun a o e=>(R.objs a o e).toG,R.new,R.os,hp⟩
theorem Frm.toG {env:Env} {loc:Loc} {H:Hp} {h:Heap} (F:Frm T env loc H h):Frm (T.withG p) env loc H h :=
 ⟨(by obtain ⟨m,a,b⟩:=F.ns;exact ⟨m,a,fun x v e k=>(by obtain ⟨u,y,z⟩:=b x v e k;exact ⟨u,y,z.toG⟩)⟩),F.new,F.out,fun x v e k=>(by obtain ⟨c,u,a,b,d,n,l⟩:=F.cel x v e k;exact ⟨c,u,a,b,d.toG,n,l⟩)⟩
end
noncomputable def pass (tag x:Str):Bool:=("  " : Str)==Txt.slice x none (some 2)||tag==Txt.slice x none (some 2)
noncomputable def kept (tag:Str) (L:List Str):List Str:=(L.filter (pass tag)).map fun x=>Txt.slice x (some 2) none
theorem kept_here {tag x:Str} {L:List Str} {j:Nat} (hx:L[j]?=some x) (hp:pass tag x=true):(kept tag L)[(kept tag L).length - 1 - (kept tag (L.drop (j+1))).length]?=some (Txt.slice x (some 2) none):=by
 have hj:j < L.length:=by
  rcases Nat.lt_or_ge j L.length with h | h
  ·exact h
  ·rw [List.getElem?_eq_none h] at hx;cases hx
 have e:L=L.take j++x::L.drop (j+1):=by
  have h2:L[j]=x:=by rw [List.getElem?_eq_getElem hj] at hx;exact Option.some.inj hx
  rw [← h2,← List.drop_eq_getElem_cons hj,List.take_append_drop]
 have e2:kept tag L=kept tag (L.take j)++Txt.slice x (some 2) none::kept tag (L.drop (j+1)):=by
  conv=>lhs;rw [e]
  unfold kept
  rw [List.filter_append,List.filter_cons_of_pos hp,List.map_append,List.map_cons]
 refine e2.symm▸?_
 refine List.length_append.symm▸?_;refine List.length_cons.symm▸?_
 have:(kept tag (L.take j)).length+((kept tag (L.drop (j+1))).length+1) - 1 - (kept tag (L.drop (j+1))).length=(kept tag (L.take j)).length:=Nat.add_sub_cancel _ _
 rw [this,List.getElem?_append_right (Nat.le_refl _),Nat.sub_self];rfl
theorem kept_drop {tag x:Str} {L:List Str} {j:Nat} (hx:L[j]?=some x):kept tag (L.drop j)=if pass tag x then Txt.slice x (some 2) none::kept tag (L.drop (j+1)) else kept tag (L.drop (j+1)):=by
 have hj:j < L.length:=by
  rcases Nat.lt_or_ge j L.length with h | h
  ·exact h
  ·rw [List.getElem?_eq_none h] at hx;cases hx
 have h2:L[j]=x:=by rw [List.getElem?_eq_getElem hj] at hx;exact Option.some.inj hx
 rw [List.drop_eq_getElem_cons hj,h2]
 unfold kept
 rw [List.filter_cons]
 split <;> simp
structure Mid (T:TI) (H:Hp) (h₀:Heap) (a g Sx:Nat) (s₀ s:Shared):Prop where
 rel:Rel T H s
 ev:Ev H h₀ H s.heap
 gen:s.heap.IsGen a g
 lst:s.heap.get? Sx=s₀.heap.get? Sx
 fix:FixKeep T s₀.heap s.heap
 nof:∃ o,s.heap.get? Sx=some o∧¬ Fixed T o
structure Slept (T:TI) (Sx:Nat) (s s'':Shared):Prop where
 gens:s''.gens=s.gens
 os:s''.os=s.os
 keep:∀ b o,b≠Sx→s.heap.get? b=some o→s''.heap.get? b=some o
 nof:∃ o,s''.heap.get? Sx=some o∧¬ Fixed T o
theorem Mid.slept {T:TI} {H:Hp} {h₀:Heap} {a g Sx:Nat} {s₀ s s'':Shared} (m:Mid T H h₀ a g Sx s₀ s) (hH:H Sx=none) (hB:T.B Sx=none) (h0:h₀.get? Sx=none) (ha:a≠Sx) (r:Slept T Sx s s''):Mid T H h₀ a g Sx s'' s''∧FixKeep T s.heap s''.heap:=by
 have fk:FixKeep T s.heap s''.heap:=fun b o e f=>r.keep b o (fun q=>by
  obtain ⟨o',e',nf⟩:=m.nof
  subst q;rw [e] at e';cases e';exact nf f) e
 refine ⟨⟨⟨fun b o e=>r.keep b o (fun q=>by rw [q,hB] at e;cases e) (m.rel.base b o e),fun b o e=>?_,m.rel.new,r.os.trans m.rel.os,by refine r.gens.symm▸?_;exact m.rel.gens⟩,⟨fun b o e n=>r.keep b o (fun q=>by rw [q,h0] at e;cases e) (m.ev.keep b o e n),m.ev.dom,fun b o e=>?_⟩,?_,rfl,FixKeep.refl _ _,r.nof⟩,fk⟩
 ·have hb:b≠Sx:=fun q=>by rw [q,hH] at e;cases e
  obtain ⟨ob,g',_⟩:=(m.rel.objs b o e).there
  exact (m.rel.objs b o e).mono fk ((r.keep b ob hb g').trans g'.symm)
 ·obtain ⟨o',e'⟩:=m.ev.live b o e
  exact ⟨o',r.keep b o' (fun q=>by rw [q,h0] at e;cases e) e'⟩
 ·obtain ⟨o,nm,qn,ho,rr⟩:=m.gen
  exact ⟨o,nm,qn,r.keep a o ha ho,rr⟩
theorem Mid.go {T : TI} {H : Hp} {h₀ : Heap} {a g Sx : Nat} {s₀ s s' : Shared} (m : Mid T H h₀ a g Sx s₀ s) (R' : Rel T H s') (hkeep : ∀ b o o₀, h₀.get? b = some o₀ → H b = none → s.heap.get? b = some o → s'.heap.get? b = some o) (hlive : ∀ b o o₀, h₀.get? b = some o₀ → s.heap.get? b = some o → ∃ o', s'.heap.get? b = some o')
  (hka:∀ o,s.heap.get? a=some o→s'.heap.get? a=some o) (hkS:∀ o,s.heap.get? Sx=some o→s'.heap.get? Sx=some o) (fk:FixKeep T s.heap s'.heap):Mid T H h₀ a g Sx s₀ s':=by
 obtain ⟨oS,eS,nS⟩:=m.nof
 refine ⟨R',⟨fun b o e n=>hkeep b o o e n (m.ev.keep b o e n),m.ev.dom,fun b o e=>?_⟩,?_,(hkS _ eS).trans (eS.symm.trans m.lst),m.fix.trans fk,⟨oS,hkS _ eS,nS⟩⟩
 ·obtain ⟨o',e'⟩:=m.ev.live b o e
  exact hlive b o' o e e'
 ·obtain ⟨o,nm,qn,ho,rr⟩:=m.gen
  exact ⟨o,nm,qn,hka o ho,rr⟩
def InOk (T:TI) (S:Sy) (A:Around) (env:Env) (test:Expr) (ln pn tag:Str):Prop:=∀ ⦃loc:Loc⦄ ⦃H:Hp⦄ ⦃x:Str⦄,nameV S env.scope loc ln=some (.str x)→nameV S env.scope loc pn=some (.tup [.str "  ",.str tag])→x.length≤4096→∀ ⦃s:Shared⦄,Rel T H s→Frm T env loc H s.heap→∀ ⦃Q:Bool→Shared→Prop⦄ ⦃E:Value→Shared→Prop⦄,
 (∀ s',Rel T H s'→Ev H s.heap H s'.heap→Q (pass tag x) s')→wpAny T.M A (isTrue test env (eval test env)) Q E s
def SnOk (T:TI) (S:Sy) (A:Around) (env:Env) (e:Expr) (ln:Str):Prop:=∀ ⦃loc:Loc⦄ ⦃H:Hp⦄ ⦃x:Str⦄,nameV S env.scope loc ln=some (.str x)→x.length≤4096→∀ ⦃s:Shared⦄,Rel T H s→Frm T env loc H s.heap→∀ ⦃Q:Value→Shared→Prop⦄ ⦃E:Value→Shared→Prop⦄,
 (∀ t s',Rel T H s'→Ev H s.heap H s'.heap→Q (.str (Txt.slice x (some 2) none) t) s')→wpAny T.M A (eval e env) Q E s
noncomputable def ifY (test e:Expr) (yp ep ip:Pos):List Stmt:=[.If test [.Expr (.Yield (some e) yp) ep] [] ip]
section
variable {T:TI} {S:Sy} {n:Nat} (P:Prims T S) (P2:Prims2 T S) (HC:SoundS T S n) {A:Around} {env:Env} (hsc:EnvOk env)
include P P2 HC hsc
theorem restore_loop (hnc : ∀ x, env.scope.names.lookup x ≠ some .cell) (hco : env.scope.isCoroutine = false) (hin : interactive env = false) {L : List Str} (hsz : ∀ x ∈ L, x.length ≤ 4096) {tag : Str} {H : Hp} {I a g Sx : Nat} {own : List Addr} {gd : Hp → Prop} {St : Nat → Heap → Prop}
  {ln pn:Str} {q0 ip yp ep:Pos} {test e:Expr} {fk:Result→Sem PySem.Fin} {fc:Code} {fp:Pos}
  (hln:env.scope.names.lookup ln=some .local) (hpn:ln≠pn) (hlp:env.scope.names.lookup pn=some .local) (hIn:∀ A',Rm (n+1) A'→InOk T S A' env test ln pn tag) (hSn:∀ A',Rm (n+1) A'→SnOk T S A' env e ln) (HA:Rm (n+1) (A.over (.forLoop (.Name ln q0) (.ref I) (ifY test e yp ep ip) [] env) [.ret fk none false [] fc fp []]))
  (X:Itr T (A.over (.forLoop (.Name ln q0) (.ref I) (ifY test e yp ep ip) [] env) [.ret fk none false [] fc fp []]) I (.Name ln q0) (L.map .str) gd own St) (hg:gd H) {h₀:Heap}
  (hown:∀ b∈own,H b=none∧T.B b=none∧b≠env.locals∧b≠a∧b≠Sx∧h₀.get? b=none) (ha:H a=none∧a≠env.locals∧a≠Sx) (hS:H Sx=none∧Sx≠env.locals∧T.B Sx=none) (hC0:h₀.get? env.locals=none) (hS0:h₀.get? Sx=none) {R:GenEnd} {Y:Protocol}
  (hend:∀ s₀ s,Mid T H h₀ a g Sx s₀ s→Seg T.M A R Y 0 s₀ fc (fk (.ok .next)) [] s)
  (hy:∀ m s₀ s v x,Mid T H h₀ a g Sx s₀ s→(kept tag L)[(kept tag L).length - 1 - m]?=some x→VR T s.heap (.str x) v→∀ kap:Resume→Shared→Prop,(∀ s'',Slept T Sx s s''→kap (.send .none) s'')→Y m s₀ v s kap) :
  ∀ (k j:Nat) (s₀ s:Shared) (loc:Loc),L.length - j=k→j≤L.length→loc.get pn=some (.tup [.str "  ",.str tag])→Frm T env loc H s.heap→St j s.heap→Mid T H h₀ a g Sx s₀ s →
   Seg T.M A R Y (kept tag (L.drop j)).length s₀ (.forLoop (.Name ln q0) (.ref I) (ifY test e yp ep ip) [] env)
    (T.M.den (.forLoop (.Name ln q0) (.ref I) (ifY test e yp ep ip) [] env)) [.ret fk none false [] fc fp []] s:=by
 intro k
 induction k with
 | zero =>
   intro j s₀ s loc hk hj hp F st m
   have hjn:j=L.length:=Nat.le_antisymm hj (Nat.le_of_sub_eq_zero hk)
   subst hjn
   have e0:kept tag (L.drop L.length)=[]:=by refine (List.drop_of_length_le (Nat.le_refl _)).symm▸?_;rfl
   refine e0.symm▸?_
   have ho3:∀ b∈own,H b=none∧T.B b=none∧∃ o,s.heap.get? b=some o∧¬ Fixed T o:=fun b hb=>⟨(hown b hb).1,(hown b hb).2.1,X.nofix _ _ st b hb⟩
   refine seg_forYield rfl rfl rfl hco hin ?_
   refine wpAny_mono (X.done H s m.rel hg (by simpa using st) (fun b hb=>(hown b hb).1) (fun s₁=>Seg T.M A R Y 0 s₀ fc (fk (.ok .next)) [] s₁) _ fun h2 tk hk2=>?_) (fun r s₁ hr=>?_) fun Z Z x=>x
   ·obtain ⟨R2,fk2⟩:=m.rel.own (n:=tk) ho3 hk2
    exact hend _ _ (m.go R2 (fun b o o₀ e Z e'=>hk2 b o (fun q=>by exact nomatch ((hown b q).2.2.2.2.2).symm.trans e) e') (fun b o o₀ e e'=>⟨o,hk2 b o (fun q=>by exact nomatch ((hown b q).2.2.2.2.2).symm.trans e) e'⟩) (fun o e=>hk2 a o (fun q=>(hown a q).2.2.2.1 rfl) e) (fun o e=>hk2 Sx o (fun q=>(hown Sx q).2.2.2.2.1 rfl) e) fk2)
   ·obtain ⟨rfl,hr⟩:=hr
    exact hr
 | succ k ih =>
   intro j s₀ s loc hk hj hp F st m
   have hlt:j < L.length:=Nat.lt_of_sub_eq_succ hk
   have hx:L[j]?=some L[j]:=List.getElem?_eq_getElem hlt
   generalize hxx:L[j]=x at hx
   have hxm:x∈L:=by exact hxx▸(List.getElem_mem hlt)
   have hx':(L.map V.str)[j]?=some (.str x):=by refine List.getElem?_map.symm▸?_;refine hx.symm▸?_;rfl
   have ho3:∀ b∈own,H b=none∧T.B b=none∧∃ o,s.heap.get? b=some o∧¬ Fixed T o:=fun b hb=>⟨(hown b hb).1,(hown b hb).2.1,X.nofix _ _ st b hb⟩
   refine seg_forYield rfl rfl rfl hco hin ?_
   refine wpAny_mono (X.item j _ hx' H s m.rel hg st (fun b hb=>(hown b hb).1) ?QQ _ ?hh) (fun r s₁ hr=>?gg) fun Z Z x=>x
   case gg =>
    obtain ⟨v,rfl,hr⟩:=hr
    exact hr
   intro v h2 tk hv st2 hk2
   obtain ⟨R2,fk2⟩:=m.rel.own (n:=tk) ho3 hk2
   have m2:Mid T H h₀ a g Sx s₀ { s with heap:=h2,toks:=tk }:=m.go R2 (fun b o o₀ e Z e'=>hk2 b o (fun q=>by exact nomatch ((hown b q).2.2.2.2.2).symm.trans e) e') (fun b o o₀ e e'=>⟨o,hk2 b o (fun q=>by exact nomatch ((hown b q).2.2.2.2.2).symm.trans e) e'⟩) (fun o e=>hk2 a o (fun q=>(hown a q).2.2.2.1 rfl) e) (fun o e=>hk2 Sx o (fun q=>(hown Sx q).2.2.2.2.1 rfl) e) fk2
   have F2:Frm T env loc H h2:=by
    refine ⟨?_,F.new,F.out,?_⟩
    ·obtain ⟨mm,⟨o,es,ep,ho4,r⟩,hm⟩:=F.ns
     exact ⟨mm,⟨o,es,ep,hk2 env.locals o (fun q=>(hown _ q).2.2.1 rfl) ho4,r⟩,fun y v e kk=>(by obtain ⟨u,a,b⟩:=hm y v e kk;exact ⟨u,a,b.mono fk2⟩)⟩
    ·intro y v e kk
     exact absurd kk (hnc y)
   refine wpAny_assign_Name (soundStore P P2 HC HA hsc hln R2 F2 hv fun s₃ R₃ F₃ e₃=>?_)
   have fk3:=R2.fixL F2 e₃
   have m3:Mid T H h₀ a g Sx s₀ s₃:=m2.go R₃ (fun b o o₀ e nb e'=>e₃.keep b o e' nb (fun q=>by rw [q,hC0] at e;cases e)) (fun b o o₀ Z e'=>e₃.live b o e') (fun o e=>e₃.keep a o e ha.1 ha.2.1) (fun o e=>e₃.keep Sx o e hS.1 hS.2.1) fk3
   have st3:St (j+1) s₃.heap:=X.frame _ _ _ st2 (fun b hb o e=>e₃.keep b o e (hown b hb).1 (hown b hb).2.2.1) fk3
   have nl:nameV S env.scope (loc.put ln (.str x)) ln=some (.str x):=by unfold nameV;refine hln.symm▸?_;show (loc.put ln (.str x)).get ln=_;rw [Loc.get_put,if_pos rfl]
   have gp:(loc.put ln (.str x)).get pn=some (.tup [.str "  ",.str tag]):=by rw [Loc.get_put,if_neg hpn];exact hp
   have np:nameV S env.scope (loc.put ln (.str x)) pn=some (.tup [.str "  ",.str tag]):=by unfold nameV;exact hlp.symm▸gp
   refine hIn _ HA nl np (hsz x hxm) R₃ F₃ fun s₄ R₄ e₄=>?_
   have F₄:=F₃.ev R₃ e₄
   have fk4:=R₃.fix e₄
   have m4:Mid T H h₀ a g Sx s₀ s₄:=m3.go R₄ (fun b o o₀ e nb e'=>e₄.keep b o e' nb) (fun b o o₀ Z e'=>e₄.live b o e') (fun o e=>e₄.keep a o e ha.1) (fun o e=>e₄.keep Sx o e hS.1) fk4
   have st4:St (j+1) s₄.heap:=X.frame _ _ _ st3 (fun b hb o e=>e₄.keep b o e (hown b hb).1) fk4
   have hkd:=kept_drop (tag:=tag) hx
   refine ⟨fun hb=>?_,fun hb=>?_⟩
   ·have hpf:pass tag x=false:=hb
    rw [hkd,hpf,if_neg (by decide)]
    exact ih (j+1) s₀ s₄ _ (congrArg Nat.pred hk) hlt gp F₄ st4 m4
   ·have hpt:pass tag x=true:=hb
    rw [hkd,hpt,if_pos rfl]
    refine ⟨(kept tag (L.drop (j+1))).length,rfl,hSn _ HA nl (hsz x hxm) R₄ F₄ fun t s₅ R₅ e₅=>?_⟩
    have F₅:=F₄.ev R₄ e₅
    have fk5:=R₄.fix e₅
    have m5:Mid T H h₀ a g Sx s₀ s₅:=m4.go R₅ (fun b o o₀ e nb e'=>e₅.keep b o e' nb) (fun b o o₀ Z e'=>e₅.live b o e') (fun o e=>e₅.keep a o e ha.1) (fun o e=>e₅.keep Sx o e hS.1) fk5
    have st5:St (j+1) s₅.heap:=X.frame _ _ _ st4 (fun b hb o e=>e₅.keep b o e (hown b hb).1) fk5
    intro kap hkap
    refine hy _ s₀ s₅ _ _ m5 (kept_here hx hpt) (.str _ _) kap fun s'' hs''=>hkap s'' ?_
    obtain ⟨m6,fk6⟩:=m5.slept hS.1 hS.2.2 hS0 ha.2.2 hs''
    have F6:Frm T env (loc.put ln (.str x)) H s''.heap:=by
     refine ⟨?_,F₅.new,F₅.out,fun y v e kk=>absurd kk (hnc y)⟩
     obtain ⟨mm,⟨o,es,ep,ho4,r⟩,hm⟩:=F₅.ns
     exact ⟨mm,⟨o,es,ep,hs''.keep env.locals o (Ne.symm hS.2.1) ho4,r⟩,fun y v e kk=>(by obtain ⟨u,a,b⟩:=hm y v e kk;exact ⟨u,a,b.mono fk6⟩)⟩
    exact ih (j+1) s'' s'' _ (congrArg Nat.pred hk) hlt gp F6 (X.frame _ _ _ st5 (fun b hb o e=>hs''.keep b o (hown b hb).2.2.2.2.1 e) fk6) m6
end
end Mine
end
section
namespace Mine
open PySem PySem.W PyProof.Rows
noncomputable abbrev pp:Program:=PySem.Challenge.pw_oc0391_01
noncomputable def anyL {α:Type} (as:Array α) (p:α→Bool) (s:Nat:=0) (e:Nat:=as.size):Bool :=
 match Nat.beq s 0 with
 | true => match Nat.beq e as.toList.length with
   | true=>as.toList.any p
   | false=>as.any p s e
 | false=>as.any p s e
theorem anyL_eq:@Array.any.{0}=@anyL:=by
 funext α as p s e
 unfold anyL
 cases h:Nat.beq s 0 with
 | false=>rfl
 | true =>
   have:=Nat.eq_of_beq_eq_true h
   subst this
   cases h':Nat.beq e as.toList.length with
   | false=>rfl
   | true =>
     have:=Nat.eq_of_beq_eq_true h'
     subst this
     exact (Array.any_toList).symm
noncomputable abbrev AnyT:={α:Type}→Array α→(α→Bool)→Nat→Nat→Bool
noncomputable def tbQ (b:Builtin) (id:String):Option Builtin:=@Bool.rec (fun Z=>Option Builtin) (Fast.tw14364793385576792824 id) (some b) (Fast.eqLit 29827186395103491166823348853 id)
theorem tbQ_eq {b:Builtin} (h:Builtin.«type.__new__»=b):treeTable=tbQ b:=by
 funext id
 unfold tbQ
 refine (congrFun (Fast.eqLit_eq "type.__new__" 29827186395103491166823348853 (by kernel_rfl!)) id)▸?_
 cases q:id == "type.__new__" with
 | false=>exact congrFun Fast.te14364793385576792824 id
 | true =>
   refine (eq_of_beq q).symm▸?_
   refine (?_:treeTable "type.__new__" = some b)
   refine h▸?_
   kernel_rfl!
noncomputable def obj11:Obj:={ cls:=Value.type "tuple",data:=Data.seq #[] }
noncomputable def obj12:Obj:={ cls:=Value.none,data:=Data.fields #[] }
noncomputable def obj13 : Obj := { cls := Value.type "code", data := Data.fields #[Value.str (Str.ofString "<module>") 182, Value.str (Str.ofString "<module>") 183,
     Value.str (Str.ofString "/claim/cut.py") 184,Value.int 1 0,Value.int 0 0,Value.int 0 0,Value.int 0 0,
     Value.int 0 0,Value.ref 11,Value.bool false,Value.int 181 0,Value.ref 12,Value.none,Value.none,
     Value.none,Value.none,Value.int 185 0,Value.int 1 0,Value.str (Str.ofString "/claim/cut.py") 186] }
noncomputable def obj14 : Obj := { cls := Value.type "frame", slots := #[some (Value.ref 13), some (Value.ref 3), some (Value.ref 3), none,
    some (Value.str (Str.ofString "__main__") 164),none,some (Value.ref 0)] }
noncomputable def treeOf:List Obj→Nat→BT→BT
 | [],_,t=>t
 | o::r,i,t=>treeOf r (i+1) (t.ins i o)
noncomputable def SbT (w:World) (os:OsState):SharedT :=
 { tree := treeOf [boot_o_0 w.params, boot_o_1 w.params, boot_o_2 w.params, boot_o_3 w.params, boot_o_4 w.params, boot_o_5 w.params, boot_o_6 w.params, boot_o_7 w.params, boot_o_8 w.params, boot_o_9 w.params, boot_o_10 w.params, obj11, obj12, obj13, obj14] 0 .nil,
   n:=15,life:={},gens:=⟨[]⟩,drawn:={},toks:=187,os:=os }
noncomputable def envM:Env:={ scope:=pp.main.scope,locals:=mainNs,globals:=mainNs,cells:=[],code:=Value.ref 13,frame:=some 14 }
noncomputable def pos0:Pos:=⟨0,0,0,0⟩
noncomputable def posZ:Pos:=⟨584,0,604,15⟩
noncomputable abbrev cdM:Code:=Code.body (behindTheImports pp) envM
noncomputable abbrev ann6:Option Value:=some (.ref 6)
noncomputable def ofCs (cs:List Char):Str:=⟨(cs.map Char.toNat).toArray⟩
noncomputable def docS:List Stmt→Str
 | .ClassDef _ _ _ (.Expr (.Constant (.str s) _ _) _::_) _ _ _ _ _ _ _::_=>s
 | _::r=>docS r
 | [] => "x"
noncomputable def setDoc (s:Str):Nat→List Stmt→List Stmt
 | _,[]=>[]
 | 0,.ClassDef n b k (.Expr (.Constant _ c q) q'::r) d t sc ts bi st p::l=>.ClassDef n b k (.Expr (.Constant (.str s) c q) q'::r) d t sc ts bi st p::l
 | 0,s::l=>s::l
 | i+1,s'::l=>s'::setDoc s i l
theorem setDoc_self:setDoc (docS (pp.main.body.drop 5)) 5 (behindTheImports pp)=behindTheImports pp:=by
 kernel_rfl!
theorem pre_run (w:World) (os:OsState):topGo treeTable pp w 11 ann6 12 ⟨boot_heap w.params,⟨[]⟩,boot_drawn,boot_toks,os⟩ (topStub pp)=some ((SbT w os).abs,⟨denote treeTable cdM,cdM,pos0,[topFrame pos0]⟩):=by
 refine Fast.te15667345088766844465.symm▸?_;refine Fast.te11892475500146522536.symm▸?_;refine Fast.te14364793385576792824.symm▸?_
 kernel_rfl!
theorem block_run (w:World) (os:OsState):segRun treeTable pp w 11 ann6 1 1 (SbT w os).abs (blockOf (behindTheImports pp) envM cdM pos0 [topFrame pos0])=some (.next,(SbT w os).abs,cdM,pos0):=by
 refine Fast.te14374325043358763698.symm▸?_;refine Fast.te14364793385576792824.symm▸?_
 kernel_rfl!
theorem fin_run (w:World) (s:Shared):topRun treeTable pp w 11 ann6 2 s ⟨doneF .next,cdM,posZ,[topFrame pos0]⟩=some s:=by
 obtain ⟨h,g,d,k,os⟩:=s
 kernel_rfl!
noncomputable def qq:Program:={ pp with main:={ pp.main with body:=pp.main.body.drop 43 } }
noncomputable def looseN:List Str:=[Str.ofString "_wall",Str.ofString "_tuplegetter",Str.ofString "Match",Str.ofString "_calculate_ratio",Str.ofString "SequenceMatcher",Str.ofString "_format_range_unified",Str.ofString "restore",Str.ofString "heappush",Str.ofString "heappop",Str.ofString "_siftdown",Str.ofString "_siftup",Str.ofString "S_IFMT",Str.ofString "S_IFDIR",Str.ofString "S_IFCHR",Str.ofString "S_IFBLK",Str.ofString "S_IFREG",Str.ofString "S_IFIFO",Str.ofString "S_IFLNK",Str.ofString "S_IFSOCK",Str.ofString "S_ISUID",Str.ofString "S_ISGID",Str.ofString "S_ISVTX",Str.ofString "S_IRUSR",Str.ofString "S_IWUSR",Str.ofString "S_IXUSR",Str.ofString "S_IRGRP",Str.ofString "S_IWGRP",Str.ofString "S_IXGRP",Str.ofString "S_IROTH",Str.ofString "S_IWOTH",Str.ofString "S_IXOTH",Str.ofString "_filemode_table",Str.ofString "filemode",Str.ofString "_law_done",Str.ofString "_law_signs",Str.ofString "_law_delta",Str.ofString "_law_runs",Str.ofString "_law_refused",Str.ofString "_law_range"]
noncomputable abbrev topB:List Stmt:=pp.main.body
noncomputable def fnBody (name:Str):List Stmt→List Stmt
 | []=>[]
 | .FunctionDef n _ b _ _ _ _ _ _ _::r=>if n=name then b else fnBody name r
 | _::r=>fnBody name r
noncomputable def partsOf:Stmt→List Stmt×List Stmt
 | .For _ _ b o _=>(b,o)
 | .While _ b o _=>(b,o)
 | .If _ b o _=>(b,o)
 | _=>([],[])
noncomputable def bodyOf (s:Stmt):List Stmt:=(partsOf s).1
noncomputable def elseOf (s:Stmt):List Stmt:=(partsOf s).2
noncomputable def stAt (l:List Stmt) (k:Nat):Stmt:=(l[k]?).getD (.Pass ⟨0,0,0,0⟩)
noncomputable def fnScope (name:Str):List Stmt→Scope
 | []=>default
 | .FunctionDef n _ _ _ _ _ s _ _ _::r=>if n=name then s else fnScope name r
 | _::r=>fnScope name r
noncomputable def fnArgs (name:Str):List Stmt→Arguments
 | []=>default
 | .FunctionDef n a _ _ _ _ _ _ _ _::r=>if n=name then a else fnArgs name r
 | _::r=>fnArgs name r
noncomputable def clBody (name:Str):List Stmt→List Stmt
 | []=>[]
 | .ClassDef n _ _ b _ _ _ _ _ _ _::r=>if n=name then b else clBody name r
 | _::r=>clBody name r
noncomputable def docB:List Stmt→Str
 | .Expr (.Constant (.str s) _ _) _::_=>s
 | _ => "x"
noncomputable abbrev smB:List Stmt:=clBody "SequenceMatcher" topB
noncomputable abbrev maB:List Stmt:=clBody "Match" topB
noncomputable def fd_fmt:FuncData:={ name := "_format_range_unified",qualname := "_format_range_unified",params:=fnArgs "_format_range_unified" topB,body:=.stmts (fnBody "_format_range_unified" topB),scope:=fnScope "_format_range_unified" topB,globals:=3,closure:=[],defaults:=.none,kwdefaults:=.none,doc:=(.str (docB (fnBody "_format_range_unified" topB)) 584),pyModule:=(.str "cpy313.difflib" 194),code:=.ref 252 }
noncomputable def fd_restore:FuncData:={ name := "restore",qualname := "restore",params:=fnArgs "restore" topB,body:=.stmts (fnBody "restore" topB),scope:=fnScope "restore" topB,globals:=3,closure:=[],defaults:=.none,kwdefaults:=.none,doc:=(.str (docB (fnBody "restore" topB)) 596),pyModule:=(.str "cpy313.difflib" 194),code:=.ref 259 }
noncomputable def fd_push:FuncData:={ name := "heappush",qualname := "heappush",params:=fnArgs "heappush" topB,body:=.stmts (fnBody "heappush" topB),scope:=fnScope "heappush" topB,globals:=3,closure:=[],defaults:=.none,kwdefaults:=.none,doc:=(.str (docB (fnBody "heappush" topB)) 607),pyModule:=(.str "cpy313.heapq" 598),code:=.ref 266 }
noncomputable def fd_pop:FuncData:={ name := "heappop",qualname := "heappop",params:=fnArgs "heappop" topB,body:=.stmts (fnBody "heappop" topB),scope:=fnScope "heappop" topB,globals:=3,closure:=[],defaults:=.none,kwdefaults:=.none,doc:=(.str (docB (fnBody "heappop" topB)) 617),pyModule:=(.str "cpy313.heapq" 598),code:=.ref 273 }
noncomputable def fd_sdown:FuncData:={ name := "_siftdown",qualname := "_siftdown",params:=fnArgs "_siftdown" topB,body:=.stmts (fnBody "_siftdown" topB),scope:=fnScope "_siftdown" topB,globals:=3,closure:=[],defaults:=.none,kwdefaults:=.none,doc:=.none,pyModule:=(.str "cpy313.heapq" 598),code:=.ref 280 }
noncomputable def fd_sup:FuncData:={ name := "_siftup",qualname := "_siftup",params:=fnArgs "_siftup" topB,body:=.stmts (fnBody "_siftup" topB),scope:=fnScope "_siftup" topB,globals:=3,closure:=[],defaults:=.none,kwdefaults:=.none,doc:=.none,pyModule:=(.str "cpy313.heapq" 598),code:=.ref 287 }
noncomputable def fd_ifmt:FuncData:={ name := "S_IFMT",qualname := "S_IFMT",params:=fnArgs "S_IFMT" topB,body:=.stmts (fnBody "S_IFMT" topB),scope:=fnScope "S_IFMT" topB,globals:=3,closure:=[],defaults:=.none,kwdefaults:=.none,doc:=(.str (docB (fnBody "S_IFMT" topB)) 652),pyModule:=(.str "cpy313.stat" 644),code:=.ref 294 }
noncomputable def fd_fmode:FuncData:={ name := "filemode",qualname := "filemode",params:=fnArgs "filemode" topB,body:=.stmts (fnBody "filemode" topB),scope:=fnScope "filemode" topB,globals:=3,closure:=[],defaults:=.none,kwdefaults:=.none,doc:=(.str (docB (fnBody "filemode" topB)) 729),pyModule:=(.str "cpy313.stat" 644),code:=.ref 334 }
noncomputable def fd_done:FuncData:={ name := "_law_done",qualname := "_law_done",params:=fnArgs "_law_done" topB,body:=.stmts (fnBody "_law_done" topB),scope:=fnScope "_law_done" topB,globals:=3,closure:=[],defaults:=.none,kwdefaults:=.none,doc:=.none,pyModule:=(.str "law_oc0391_01" 731),code:=.ref 341 }
noncomputable def fd_signs:FuncData:={ name := "_law_signs",qualname := "_law_signs",params:=fnArgs "_law_signs" topB,body:=.stmts (fnBody "_law_signs" topB),scope:=fnScope "_law_signs" topB,globals:=3,closure:=[],defaults:=.none,kwdefaults:=.none,doc:=.none,pyModule:=(.str "law_oc0391_01" 731),code:=.ref 348 }
noncomputable def fd_delta:FuncData:={ name := "_law_delta",qualname := "_law_delta",params:=fnArgs "_law_delta" topB,body:=.stmts (fnBody "_law_delta" topB),scope:=fnScope "_law_delta" topB,globals:=3,closure:=[],defaults:=.none,kwdefaults:=.none,doc:=.none,pyModule:=(.str "law_oc0391_01" 731),code:=.ref 355 }
noncomputable def fd_runs:FuncData:={ name := "_law_runs",qualname := "_law_runs",params:=fnArgs "_law_runs" topB,body:=.stmts (fnBody "_law_runs" topB),scope:=fnScope "_law_runs" topB,globals:=3,closure:=[],defaults:=.none,kwdefaults:=.none,doc:=.none,pyModule:=(.str "law_oc0391_01" 731),code:=.ref 362 }
noncomputable def fd_refused:FuncData:={ name := "_law_refused",qualname := "_law_refused",params:=fnArgs "_law_refused" topB,body:=.stmts (fnBody "_law_refused" topB),scope:=fnScope "_law_refused" topB,globals:=3,closure:=[],defaults:=.none,kwdefaults:=.none,doc:=.none,pyModule:=(.str "law_oc0391_01" 731),code:=.ref 369 }
noncomputable def fd_range:FuncData:={ name := "_law_range",qualname := "_law_range",params:=fnArgs "_law_range" topB,body:=.stmts (fnBody "_law_range" topB),scope:=fnScope "_law_range" topB,globals:=3,closure:=[],defaults:=.none,kwdefaults:=.none,doc:=.none,pyModule:=(.str "law_oc0391_01" 731),code:=.ref 376 }
noncomputable def fd_law:FuncData:={ name := "law",qualname := "law",params:=fnArgs "law" topB,body:=.stmts (fnBody "law" topB),scope:=fnScope "law" topB,globals:=3,closure:=[],defaults:=.none,kwdefaults:=.none,doc:=.none,pyModule:=(.str "law_oc0391_01" 731),code:=.ref 381 }
noncomputable def fd_init:FuncData:={ name := "__init__",qualname := "SequenceMatcher.__init__",params:=fnArgs "__init__" smB,body:=.stmts (fnBody "__init__" smB),scope:=fnScope "__init__" smB,globals:=3,closure:=[],defaults:=(.ref 153),kwdefaults:=.none,doc:=(.str (docB (fnBody "__init__" smB)) 416),pyModule:=(.str "cpy313.difflib" 194),code:=.ref 159 }
noncomputable def fd_seqs:FuncData:={ name := "set_seqs",qualname := "SequenceMatcher.set_seqs",params:=fnArgs "set_seqs" smB,body:=.stmts (fnBody "set_seqs" smB),scope:=fnScope "set_seqs" smB,globals:=3,closure:=[],defaults:=.none,kwdefaults:=.none,doc:=(.str (docB (fnBody "set_seqs" smB)) 426),pyModule:=(.str "cpy313.difflib" 194),code:=.ref 166 }
noncomputable def fd_seq1:FuncData:={ name := "set_seq1",qualname := "SequenceMatcher.set_seq1",params:=fnArgs "set_seq1" smB,body:=.stmts (fnBody "set_seq1" smB),scope:=fnScope "set_seq1" smB,globals:=3,closure:=[],defaults:=.none,kwdefaults:=.none,doc:=(.str (docB (fnBody "set_seq1" smB)) 435),pyModule:=(.str "cpy313.difflib" 194),code:=.ref 173 }
noncomputable def fd_seq2:FuncData:={ name := "set_seq2",qualname := "SequenceMatcher.set_seq2",params:=fnArgs "set_seq2" smB,body:=.stmts (fnBody "set_seq2" smB),scope:=fnScope "set_seq2" smB,globals:=3,closure:=[],defaults:=.none,kwdefaults:=.none,doc:=(.str (docB (fnBody "set_seq2" smB)) 444),pyModule:=(.str "cpy313.difflib" 194),code:=.ref 180 }
noncomputable def fd_chain:FuncData:={ name := "__chain_b",qualname := "SequenceMatcher.__chain_b",params:=fnArgs "__chain_b" smB,body:=.stmts (fnBody "__chain_b" smB),scope:=fnScope "__chain_b" smB,globals:=3,closure:=[],defaults:=.none,kwdefaults:=.none,doc:=.none,pyModule:=(.str "cpy313.difflib" 194),code:=.ref 187 }
noncomputable def fd_flm:FuncData:={ name := "find_longest_match",qualname := "SequenceMatcher.find_longest_match",params:=fnArgs "find_longest_match" smB,body:=.stmts (fnBody "find_longest_match" smB),scope:=fnScope "find_longest_match" smB,globals:=3,closure:=[],defaults:=(.ref 189),kwdefaults:=.none,doc:=(.str (docB (fnBody "find_longest_match" smB)) 490),pyModule:=(.str "cpy313.difflib" 194),code:=.ref 195 }
noncomputable def fd_gmb:FuncData:={ name := "get_matching_blocks",qualname := "SequenceMatcher.get_matching_blocks",params:=fnArgs "get_matching_blocks" smB,body:=.stmts (fnBody "get_matching_blocks" smB),scope:=fnScope "get_matching_blocks" smB,globals:=3,closure:=[],defaults:=.none,kwdefaults:=.none,doc:=(.str (docB (fnBody "get_matching_blocks" smB)) 517),pyModule:=(.str "cpy313.difflib" 194),code:=.ref 202 }
noncomputable def fd_mnew:FuncData:={ name := "__new__",qualname := "Match.__new__",params:=fnArgs "__new__" maB,body:=.stmts (fnBody "__new__" maB),scope:=fnScope "__new__" maB,globals:=3,closure:=[],defaults:=.none,kwdefaults:=.none,doc:=(.str (docB (fnBody "__new__" maB)) 283),pyModule:=(.str "cpy313.difflib" 194),code:=.ref 81 }
noncomputable def fd_make:FuncData:={ name := "_make",qualname := "Match._make",params:=fnArgs "_make" maB,body:=.stmts (fnBody "_make" maB),scope:=fnScope "_make" maB,globals:=3,closure:=[],defaults:=.none,kwdefaults:=.none,doc:=(.str (docB (fnBody "_make" maB)) 293),pyModule:=(.str "cpy313.difflib" 194),code:=.ref 88,annotations:=some 92 }
noncomputable def fnRows:List (Addr×FuncData):=[(253,fd_fmt),(260,fd_restore),(267,fd_push),(274,fd_pop),(281,fd_sdown),(288,fd_sup),(295,fd_ifmt),(335,fd_fmode),(342,fd_done),(349,fd_signs),(356,fd_delta),(363,fd_runs),(370,fd_refused),(377,fd_range),(382,fd_law),(160,fd_init),(167,fd_seqs),(174,fd_seq1),(181,fd_seq2),(188,fd_chain),(196,fd_flm),(203,fd_gmb),(82,fd_mnew),(89,fd_make)]
noncomputable def obRows:List (Addr×Obj):=[
 (153,{ cls:=.type "tuple",data:=.seq #[.none,.str "" 404,.str "" 405,.bool true] }),
 (189,{ cls:=.type "tuple",data:=.seq #[.int 0 464,.none,.int 0 465,.none] }),
 (296,{ cls:=.type "tuple",data:=.seq #[.int 40960 664,.str "l" 692] }),
 (297,{ cls:=.type "tuple",data:=.seq #[.int 49152 666,.str "s" 693] }),
 (298,{ cls:=.type "tuple",data:=.seq #[.int 32768 660,.str "-" 694] }),
 (299,{ cls:=.type "tuple",data:=.seq #[.int 24576 658,.str "b" 695] }),
 (300,{ cls:=.type "tuple",data:=.seq #[.int 16384 654,.str "d" 696] }),
 (301,{ cls:=.type "tuple",data:=.seq #[.int 8192 656,.str "c" 697] }),
 (302,{ cls:=.type "tuple",data:=.seq #[.int 4096 662,.str "p" 698] }),
 (303,{ cls:=.type "tuple",data:=.seq #[.ref 296,.ref 297,.ref 298,.ref 299,.ref 300,.ref 301,.ref 302] }),
 (304,{ cls:=.type "tuple",data:=.seq #[.int 256 674,.str "r" 699] }),
 (305,{ cls:=.type "tuple",data:=.seq #[.ref 304] }),
 (306,{ cls:=.type "tuple",data:=.seq #[.int 128 676,.str "w" 700] }),
 (307,{ cls:=.type "tuple",data:=.seq #[.ref 306] }),
 (308,{ cls:=.type "tuple",data:=.seq #[.int 2112 701,.str "s" 702] }),
 (309,{ cls:=.type "tuple",data:=.seq #[.int 2048 668,.str "S" 703] }),
 (310,{ cls:=.type "tuple",data:=.seq #[.int 64 678,.str "x" 704] }),
 (311,{ cls:=.type "tuple",data:=.seq #[.ref 308,.ref 309,.ref 310] }),
 (312,{ cls:=.type "tuple",data:=.seq #[.int 32 680,.str "r" 705] }),
 (313,{ cls:=.type "tuple",data:=.seq #[.ref 312] }),
 (314,{ cls:=.type "tuple",data:=.seq #[.int 16 682,.str "w" 706] }),
 (315,{ cls:=.type "tuple",data:=.seq #[.ref 314] }),
 (316,{ cls:=.type "tuple",data:=.seq #[.int 1032 707,.str "s" 708] }),
 (317,{ cls:=.type "tuple",data:=.seq #[.int 1024 670,.str "S" 709] }),
 (318,{ cls:=.type "tuple",data:=.seq #[.int 8 684,.str "x" 710] }),
 (319,{ cls:=.type "tuple",data:=.seq #[.ref 316,.ref 317,.ref 318] }),
 (320,{ cls:=.type "tuple",data:=.seq #[.int 4 686,.str "r" 711] }),
 (321,{ cls:=.type "tuple",data:=.seq #[.ref 320] }),
 (322,{ cls:=.type "tuple",data:=.seq #[.int 2 688,.str "w" 712] }),
 (323,{ cls:=.type "tuple",data:=.seq #[.ref 322] }),
 (324,{ cls:=.type "tuple",data:=.seq #[.int 513 713,.str "t" 714] }),
 (325,{ cls:=.type "tuple",data:=.seq #[.int 512 672,.str "T" 715] }),
 (326,{ cls:=.type "tuple",data:=.seq #[.int 1 690,.str "x" 716] }),
 (327,{ cls:=.type "tuple",data:=.seq #[.ref 324,.ref 325,.ref 326] }),
 (328,{ cls:=.type "tuple",data:=.seq #[.ref 303,.ref 305,.ref 307,.ref 311,.ref 313,.ref 315,.ref 319,.ref 321,.ref 323,.ref 327] }),
 (379,{ cls:=.none,data:=.fields #[] }),
 (136,{ cls:=.type "staticmethod",data:=.fields #[.ref 82] }),
 (91,{ cls:=.type "classmethod",dict:=some 90,data:=.fields #[.ref 89,.bool false] }),
 (135,{ cls:=.type "type",data:=.cls { name := "Match",bases:=[.type "tuple"],mro:=[.ref 135,.type "tuple",.type "object"],ns:=134,qualname := "Match",hasDict:=false },slots:=#[some (.ref 65),none,some (.str "Match" 253),some (.str "Match" 261),some .none,some (.bool false)] }),
 (242,{ cls:=.type "type",data:=.cls { name := "SequenceMatcher",bases:=[.type "object"],mro:=[.ref 242,.type "object"],ns:=241,qualname := "SequenceMatcher" },slots:=#[none,none,some (.str "SequenceMatcher" 389),some (.str "SequenceMatcher" 397),some (.builtin "object.__new__"),some (.bool true)] })]
noncomputable def glRows:List (Str×Option Value):=[("Match",some (.ref 135)),("SequenceMatcher",some (.ref 242)),("_filemode_table",some (.ref 328)),("_format_range_unified",some (.ref 253)),("restore",some (.ref 260)),("heappush",some (.ref 267)),("heappop",some (.ref 274)),("_siftdown",some (.ref 281)),("_siftup",some (.ref 288)),("S_IFMT",some (.ref 295)),("filemode",some (.ref 335)),("_law_done",some (.ref 342)),("_law_signs",some (.ref 349)),("_law_delta",some (.ref 356)),("_law_runs",some (.ref 363)),("_law_refused",some (.ref 370)),("_law_range",some (.ref 377)),("law",some (.ref 382)),("len",none),("list",none),("str",none),("set",none),("range",none),("enumerate",none),("sorted",none),("map",none),("tuple",none),("int",none),("ValueError",none),("KeyError",none)]
noncomputable def smRows:List (Str×Option Value):=[("__init__",some (.ref 160)),("set_seqs",some (.ref 167)),("set_seq1",some (.ref 174)),("set_seq2",some (.ref 181)),("_SequenceMatcher__chain_b",some (.ref 188)),("find_longest_match",some (.ref 196)),("get_matching_blocks",some (.ref 203)),("__setattr__",none),("__getattribute__",none),("__getattr__",none),("__new__",none),("isjunk",none),("a",none),("b",none),("autojunk",none),("matching_blocks",none),("opcodes",none),("fullbcount",none),("b2j",none),("bjunk",none),("bpopular",none)]
noncomputable def maRows:List (Str×Option Value):=[("__new__",some (.ref 136)),("_make",some (.ref 91)),("__init__",none),("__iter__",none),("__lt__",none),("__eq__",none),("__ne__",none),("__len__",none),("__getitem__",none),("__getattribute__",none),("__getattr__",none),("__hash__",none),("__le__",none),("__gt__",none),("__ge__",none)]
noncomputable def codeName (h:Heap) (c:Addr):Option Str:=match h.get? c with
 | some ⟨_, _, .fields vs, _⟩ => (match vs.toList with
   | _::.str q _::_=>some q
   | _=>none)
 | _=>none
noncomputable def Yf (s:Shared) :=
 (fnRows.map fun r=>(s.heap.get? r.1,codeName s.heap (r.1 - 1)),obRows.map fun r=>s.heap.get? r.1,glRows.map fun r=>s.heap.nsMap mainGlobals r.1,
  (s.heap.isNs 241,s.heap.isNs 134),smRows.map fun r=>s.heap.nsMap 241 r.1,maRows.map fun r=>s.heap.nsMap 134 r.1,(s.heap.isNs cStatics,s.heap.isNs mainGlobals&&s.heap.isNs sysModules),s.heap.nsMap cStatics "thirdparty.any")
noncomputable def Ya :=
 (fnRows.map fun r=>(some ({ cls:=.type "function",data:=.func r.2 }:Obj),some r.2.qualname),obRows.map fun r=>some r.2,glRows.map fun r=>r.2,
  (true,true),smRows.map fun r=>r.2,maRows.map fun r=>r.2,(true,true),(none:Option Value))
noncomputable def sight (P:Params) (s:Shared) :=
 ((staticsOk [] (boot_heap P) s.heap&&namesBound pp s.heap&&gensDone s&&laidKept (boot_heap P) s.heap),openSeen qq looseN [] (fun Z=>true) true s,Yf s)
noncomputable def sightGood:=(true,openGood qq looseN,Ya)
theorem top_runs : ∃ (cs : List Char) (F : AnyT → Builtin), docS (pp.main.body.drop 5) = ofCs cs ∧ Fast.tw4202317264376624991 = F @Array.any ∧ ∀ (w : World) (os : OsState),
  (Fast.tw10110043849684766642 (tbQ (F @anyL)) pp w 11 ann6 1 3000 (SbT w os) (piecesOf (setDoc (ofCs cs) 5 (behindTheImports pp)) envM cdM pos0 [topFrame pos0])).map (fun x=>(x.1,x.2.2.1,x.2.2.2,sight w.params x.2.1.abs))
   = some (Flow.next,cdM,posZ,sightGood):=by
 have key:∀ (s:Str) (cs:List Char),s=Str.ofString (String.ofList cs)→s=ofCs cs:=fun s cs h=>h.trans (Fast.ofString_ofList cs)
 refine ⟨?cs,?F,key _ _ ?h0,?h,?g⟩
 case h0 =>
  with_unfolding_all exact rfl
 case h =>
  delta PySem.W.Fast.tw4202317264376624991
  generalize @Array.any.{0}=any
  exact rfl
 case g =>
  intro w os
  unfold sight Yf
  refine Fast.te4187177175401517315.symm▸?_;refine Fast.te8920871248978507458.symm▸?_
  kernel_rfl!
theorem top_map (w:World) (os:OsState):∃ s:Shared,topRun treeTable pp w 11 ann6 3015 ⟨boot_heap w.params,⟨[]⟩,boot_drawn,boot_toks,os⟩ (topStub pp)=some s∧sight w.params s=sightGood:=by
 obtain ⟨cs,F,hd,hF,run⟩:=top_runs
 have hb:Builtin.«type.__new__»=F @anyL:=Fast.te4202317264376624991.trans (hF.trans (congrArg (fun f:AnyT=>F @f) anyL_eq))
 have r:=run w os
 rw [← tbQ_eq hb,← Fast.te10110043849684766642,← hd,setDoc_self] at r
 obtain ⟨⟨f,sT,c,q⟩,hr,hv⟩:=Option.map_eq_some_iff.mp r
 simp only [Prod.mk.injEq] at hv
 obtain ⟨rfl,rfl,rfl,hv⟩:=hv
 have h1:=segRun_of hr
 have h2:=piece_app (rest:=[]) h1 (piece_nil (fin_run w sT.abs))
 rw [List.append_nil] at h2
 have h3:=piece_block (block_run w os) h2
 have h4:=go_top (pre_run w os) h3
 exact ⟨sT.abs,h4,hv⟩
theorem left_of {p q : Program} {loose mods : List Str} {Xt : Shared → Bool} {α : Type} {Yf : Shared → α} {Ya : World → α} {N : Nat} {H₀ : Params → Heap} {gs₀ : Array GenState} {d₀ : Drawn} {k₀ : Nat} {m₀ : Nat} {ann : Option Value}
  (hm:importedModules p.main.body=mods)
  (open_:∀ w:World,(fencedOpening treeTable p w N).map (fun s=>(s.heap,s.gens,s.drawn,s.toks))=some (H₀ w.params,gs₀,d₀,k₀))
  (size:∀ w:World,((H₀ w.params).isNs mainGlobals&&gs₀.size==0,(H₀ w.params).objs.size,(H₀ w.params).nsMap mainGlobals "__annotations__")=(true,m₀,ann))
  (run:∀ (w:World) (os:OsState),∃ s,topRun treeTable p w m₀ ann N ⟨H₀ w.params,gs₀,d₀,k₀,os⟩ (topStub p)=some s ∧
   (staticsOk mods (H₀ w.params) s.heap&&namesBound p s.heap&&gensDone s&&laidKept (H₀ w.params) s.heap)=true∧openSeen q loose mods Xt true s=openGood q loose∧Yf s=Ya w):LeftO p q loose Xt Yf Ya N:=fun w=>by
 subst hm
 obtain ⟨⟨h,gs,d,k,os⟩,e,e'⟩:=Option.map_eq_some_iff.mp (open_ w)
 obtain ⟨rfl,rfl,rfl,rfl⟩:h=H₀ w.params∧gs=gs₀∧d=d₀∧k=k₀:=by simpa using e'
 obtain ⟨z1,z2,z3⟩:_∧_∧_:=by simpa only [Prod.mk.injEq] using size w
 obtain ⟨s,r,l1,l2,l3⟩:=run w os
 have t:topFrom treeTable p w N ⟨H₀ w.params,gs,d,k,os⟩=some s:=by
  unfold topFrom
  dsimp only
  rw [z1,z2,z3,r]
  show (match staticsOk (importedModules p.main.body) (H₀ w.params) s.heap&&namesBound p s.heap&&gensDone s&&laidKept (H₀ w.params) s.heap with | true=>_ | false=>_)=_
  exact l1.symm▸rfl
 unfold openEnds
 refine e.symm▸?_
 refine (?_:(topFrom treeTable p w N _).map _=_)
 refine t.symm▸?_
 exact congrArg some (Prod.ext l2 l3)
theorem left_open (w:World):(fencedOpening treeTable pp w 6000).map (fun s=>(s.heap,s.gens,s.drawn,s.toks))=some (boot_heap w.params,Array.mk [],boot_drawn,boot_toks) :=
 boot_open (p:=pp) (N:=6000) (by kernel_rfl!) rfl (fun s=>by kernel_rfl!) w
theorem left_size (w:World):((boot_heap w.params).isNs mainGlobals&&(Array.mk []:Array GenState).size==0,(boot_heap w.params).objs.size,(boot_heap w.params).nsMap mainGlobals "__annotations__")=(true,11,ann6):=by kernel_rfl!
theorem left_mods:importedModules pp.main.body=[]:=by kernel_rfl!
theorem left_run (w : World) (os : OsState) : ∃ s, topRun treeTable pp w 11 ann6 6000 ⟨boot_heap w.params, Array.mk [], boot_drawn, boot_toks, os⟩ (topStub pp) = some s ∧
   (staticsOk [] (boot_heap w.params) s.heap&&namesBound pp s.heap&&gensDone s&&laidKept (boot_heap w.params) s.heap)=true∧openSeen qq looseN [] (fun Z=>true) true s=openGood qq looseN∧Yf s=Ya:=by
 obtain ⟨s,hs,hv⟩:=top_map w os
 have key:∀ (N:Nat),N=3015+2985→topRun treeTable pp w 11 ann6 N ⟨boot_heap w.params,Array.mk [],boot_drawn,boot_toks,os⟩ (topStub pp)=some s:=by
  intro N e
  refine e.symm▸?_
  exact topRun_mono 2985 _ _ _ _ hs
 unfold sight sightGood at hv
 simp only [Prod.mk.injEq] at hv
 exact ⟨s,key 6000 rfl,hv.1,hv.2.1,hv.2.2⟩
theorem left:LeftO pp qq looseN (fun Z=>true) Yf (fun Z=>Ya) 6000:=left_of left_mods left_open left_size left_run
def YP (_:World) (h:Heap):Prop:=∃ s:Shared,Yf s=Ya∧∀ b o,s.heap.get? b=some o→h.get? b=some o
noncomputable abbrev lawRow:RowW:=PySem.Challenge.rw_oc0391_01.row.toRowW
noncomputable def lawD:DefRec:={ name := "law",params:=fnArgs "law" topB,body:=fnBody "law" topB,scope:=fnScope "law" topB,pos:=⟨584,0,604,15⟩ }
theorem law_def:defOf qq PySem.Challenge.rw_oc0391_01.row.name=some (lawD,[]):=by kernel_rfl!
theorem law_the:PySem.Challenge.rw_oc0391_01.row.prog.theDef PySem.Challenge.rw_oc0391_01.row.name=some (lawD.params,lawD.body,lawD.scope):=by kernel_rfl!
theorem law_kw:kwWritten? lawD.params.kwonlyargs lawD.params.kw_defaults=some []:=by kernel_rfl!
theorem law_said:PySem.Challenge.rw_oc0391_01.wellSaid=true:=by
 refine Fast.te9446332074065402090.symm▸?_
 decide +kernel
theorem holds_by (walk:WalkO qq looseN (fun Z Z=>True) YP lawRow lawD [] fun f vs=>PySem.call f vs):PySem.Challenge.rw_oc0391_01.Holds :=
 holds_law law_said fun said =>
 PySem.W.holds_open (r:=PySem.Challenge.rw_oc0391_01.row) (Xt:=fun Z=>true) (XP:=fun Z Z=>True) (YP:=YP) left (fun w s e=>⟨s,e,fun Z Z x=>x⟩) (fun w h h' ⟨s,e,k⟩ kk=>⟨s,e,fun b o x=>kk b o (k b o x)⟩)
  (fun Z Z=>trivial) (fun Z Z Z Z Z=>trivial) law_def law_the law_kw (fun s Z=>recFacts_nil rfl) rfl said (by decide +kernel) ⟨rfl,rfl,rfl,rfl,rfl,by decide +kernel⟩ (by w_witness2) walk
end Mine
end
section
namespace Mine
open PySem PySem.Spec PySem.Calls PyProof.Rows
theorem itr_list {T:TI} {A:Around} (hh:A.handled=none) (I a:Addr) (xs:List V) (t:Expr):Itr T A I t xs (fun H=>H a=some (.list xs)) [I] (fun i h=>h.IsListIter I a i):=by
 refine ⟨fun i h h' st k Z=>?_,fun i h st b hb=>?_,fun i x hx H' s' R' hg st ho Q' E' k=>?_,fun H' s' R' hg st ho Q' E' k=>?_,fun i s' Q' E' st k=>wpAny_pyIter_listiter st k⟩
 ·obtain ⟨o,e,r⟩:=st;exact ⟨o,k I (.head _) o e,r⟩
 ·obtain ⟨o,e,hc,hd⟩:=st
  cases hb with
  | head=>exact ⟨o,e,notFix_of hc (by decide) (by decide)⟩
  | tail _ h=>cases h
 ·obtain ⟨vs',n',ga',rs'⟩:=R'.objs _ _ hg
  obtain ⟨v,hv,rv⟩:=rs'.get hx
  refine wpAny_pyNext_list_item st (items:=vs'.toArray) ⟨_,ga',rfl,n',rfl⟩ (by rw [List.getElem?_toArray];exact hv) fun h' st' hs'=>⟨v,rfl,?_⟩
  obtain ⟨o,e,hc,hd⟩:=st
  obtain ⟨o',e',hc',hd'⟩:=id st'
  refine letGo_plain (s:={ s' with heap:=h' }) e' hc' hd' (by decide) (k v h' s'.toks (rv.mono (fix_same e (notFix_of hc (by decide) (by decide)) hs'.2)) st' fun b ob hb eb=>?_)
  exact (hs'.2 b (fun q=>hb (q▸.head _))).trans eb
 ·obtain ⟨vs',n',ga',rs'⟩:=R'.objs _ _ hg
  refine wpAny_pyNext_list_end hh st (items:=vs'.toArray) ⟨_,ga',rfl,n',rfl⟩ (by rw [rs'.length];simp) fun h' hx'=>⟨rfl,k h' s'.toks fun b ob hb eb=>hx' b ob (fun q=>hb (q▸.head _)) eb⟩
noncomputable abbrev rEnv (C:Addr) (cd:Value):Env:=envOf "restore" (fnScope "restore" topB) C 260 cd
theorem rScope:ScOk (fnScope "restore" topB):=⟨rfl,rfl⟩
theorem rEnvOk (C:Addr) (cd:Value):EnvOk (rEnv C cd):={ toScOk:=rScope,glob:=rfl,bltn:=rfl }
theorem rNoCell:∀ x,(fnScope "restore" topB).names.lookup x≠some .cell:=fun x e=>by
 have:=look_mem e
 revert this
 refine (?_:(x,NameKind.cell)∈(fnScope "restore" topB).names→False)
 have:∀ y∈(fnScope "restore" topB).names,y.2≠.cell:=by decide +kernel
 exact fun h=>this _ h rfl
noncomputable abbrev rLoc (d:Addr) (k:Int):Loc:=[("delta",some (.obj d)),("which",some (.int k))]
noncomputable def tagOf (k:Int):Str:=if k=1 then "- " else "+ "
theorem rLk : (fnScope "restore" topB).names.lookup ("tag" : Str) = some .local ∧ (fnScope "restore" topB).names.lookup ("prefixes" : Str) = some .local ∧ (fnScope "restore" topB).names.lookup ("line" : Str) = some .local ∧ (fnScope "restore" topB).names.lookup ("delta" : Str) = some .local ∧
  (fnScope "restore" topB).names.lookup ("which" : Str)=some .local∧(fnScope "restore" topB).names.lookup ("int" : Str)=some .globalImplicit:=by decide +kernel
theorem rCo:(fnScope "restore" topB).isCoroutine=false:=by decide +kernel
theorem rIn {C:Addr} {cd:Value}:interactive (rEnv C cd)=false:=by with_unfolding_all rfl
theorem nameV_local {S:Sy} {sc:Scope} {loc:Loc} {x:Str} (h:sc.names.lookup x=some .local):nameV S sc loc x=loc.get x:=by unfold nameV;exact h.symm▸rfl
theorem nameV_global {S:Sy} {sc:Scope} {loc:Loc} {x:Str} (h:sc.names.lookup x=some .globalImplicit):nameV S sc loc x=S.G x:=by unfold nameV;exact h.symm▸rfl
theorem rLocs (d:Addr) (k:Int):(rLoc d k).get "delta" = some (.obj d)∧(rLoc d k).get "which" = some (.int k):=⟨rfl,rfl⟩
noncomputable abbrev tagB (x y:Str) (c1 c2 c3 c4:Nat) (p0 p1 p2 p3 p4 p5 p6 p7 p8 a1 a2:Pos):Stmt:=.Assign [.Name "tag" a1] (.Subscript (.Dict [some (.Constant (.int 1) c1 p1),some (.Constant (.int 2) c2 p2)] [.Constant (.str x) c3 p3,.Constant (.str y) c4 p4] p5) (.Call (.Name "int" p6) [.Name "which" p7] [] p8) p0) a2
noncomputable def rS (k:Nat):Stmt:=stAt (fnBody "restore" topB) k
theorem rBody:fnBody "restore" topB=[rS 0,rS 1,rS 2,rS 3]:=by with_unfolding_all rfl
theorem rS0_w {S:Sy} {sc:Scope} {loc:Loc} {H:Hp} {K:KS} (h:K .next loc H):wS S sc (rS 0) loc H K:=by with_unfolding_all exact h
section
variable {T:TI} {S:Sy} {n:Nat} (P:Prims T S) (P2:Prims2 T S) (HC:SoundS T S n) {A:Around}
include P P2 HC
theorem exec_Assign_of {A : Around} {env : Env} {ts : List Expr} {e : Expr} {pos : Pos} (hic : isComp e = false) {s : Shared} {Q : Flow → Shared → Prop} {E : Value → Shared → Prop}
  (h:wpAny T.M A (eval e env) (fun u s₁=>wpAny T.M A (do assignStores env u (← swappedStores ts e env) ((assignEach ts env).map (·.2))) Q E s₁) E s):wpAny T.M A (exec (.Assign ts e pos) env) Q E s:=by
 rw [arm_exec_Assign]
 exact wpAny_bind (wpAny_standAt (wpAny_bind (wpAny_of_eq (swapsSole_false hic _ _ _) (wpAny_bind h))))
theorem tag_try {A : Around} (HA : Rm (n + 1) A) {env : Env} (hsc : EnvOk env) (htg : env.scope.names.lookup ("tag" : Str) = some .local) {x y : Str} {c1 c2 c3 c4 : Nat} {p0 p1 p2 p3 p4 p5 p6 p7 p8 a1 a2 t1 : Pos} {h0 : ExceptHandler} {k : Int} {loc : Loc} {H : Hp} (hi : nameV S env.scope loc "int" = some (.lit (.type "int"))) (hw : nameV S env.scope loc "which" = some (.int k)) (hk : k = 1 ∨ k = 2) {s : Shared} (R : Rel T H s) (F : Frm T env loc H s.heap)
  (hsys:∀ s':Shared,Rel T H s'→∃ o,s'.heap.get? sysModules=some o) {Q:Flow→Shared→Prop} {E:Value→Shared→Prop}
  (hok:∀ s',Rel T H s'→Frm T env (loc.put "tag" (.str (if k=1 then x else y))) H s'.heap→EvL env.locals H s.heap H s'.heap→Q .next s') :
  wpAny T.M A (exec (.Try [tagB x y c1 c2 c3 c4 p0 p1 p2 p3 p4 p5 p6 p7 p8 a1 a2] [h0] [] [] t1) env) Q E s:=by
 refine wpAny_Try_except ?_
 refine wpAny_execs_cons ?_
 refine exec_Assign_of P P2 HC rfl ?_
 refine tag_eval P HC HA hsc hi hw R F hsys ?_ ?_
 ·intro t s₂ _ R₂ e₂
  refine soundAssign P P2 HC HA hsc rfl (v:=.str (if k=1 then x else y)) (loc:=loc) (H:=H) (K:=fun l H'=>l=loc.put "tag" (.str (if k=1 then x else y))∧H'=H) ?_ R₂ (F.ev R e₂) (.str _ _) fun l H' s₃ kk R₃ F₃ e₃=>?_
  ·exact ⟨htg,rfl,rfl⟩
  ·obtain ⟨rfl,rfl⟩:=kk
   exact wpAny_execs_nil (wpAny_execs_nil (hok _ R₃ F₃ (e₂.toL.trans e₃)))
 ·intro h1 h2
  rcases hk with rfl | rfl
  ·exact absurd rfl h1
  ·exact absurd rfl h2
end
section
variable {T:TI} {S:Sy} {n:Nat} (P:Prims T S) (P2:Prims2 T S) (HC:SoundS T S n) {A:Around}
include P P2 HC
theorem restore_seg {env : Env} (he : EnvOk env) (hnc : ∀ x, env.scope.names.lookup x ≠ some .cell) (hlt : env.scope.names.lookup ("tag" : Str) = some .local) (hlp : env.scope.names.lookup ("prefixes" : Str) = some .local) (hll : env.scope.names.lookup ("line" : Str) = some .local) (hld : env.scope.names.lookup ("delta" : Str) = some .local) (hlw : env.scope.names.lookup ("which" : Str) = some .local) (hli : env.scope.names.lookup ("int" : Str) = some .globalImplicit)
  (hco:env.scope.isCoroutine=false) (hin:interactive env=false)
  (hint:S.G "int" = some (.lit (.type "int"))) (HA1:∀ b,Rm (n+1) (A.over (.func b env) [])) (HA2:∀ t it b o e fk bb fp,Rm (n+1) (A.over (.forLoop t it b o e) [.ret fk none false [] (.func bb env) fp []])) {L:List Str} (hsz:∀ x∈L,x.length≤4096) {k:Int} (hk:k=1∨k=2) {H:Hp} {d a g Sx:Nat} {h₀:Heap} (hd:H d=some (.list (L.map .str)))
  (ha:H a=none∧a≠env.locals∧a≠Sx) (hS:H Sx=none∧Sx≠env.locals∧T.B Sx=none) (hC0:h₀.get? env.locals=none) (hS0:h₀.get? Sx=none) (hsys:∀ s':Shared,Rel T H s'→∃ o,s'.heap.get? sysModules=some o) {R:GenEnd} {Y:Protocol}
  (hend:∀ s₀ s,Mid T H h₀ a g Sx s₀ s→R 0 s₀ (.ok (.ret .none)) s)
  (hy:∀ m s₀ s v x,Mid T H h₀ a g Sx s₀ s→(kept (tagOf k) L)[(kept (tagOf k) L).length - 1 - m]?=some x→VR T s.heap (.str x) v→∀ kap:Resume→Shared→Prop,(∀ s'',Slept T Sx s s''→kap (.send .none) s'')→Y m s₀ v s kap)
  {s₀ s:Shared} (F:Frm T env (rLoc d k) H s.heap) (m:Mid T H h₀ a g Sx s₀ s) :
  Seg T.M A R Y (kept (tagOf k) L).length s₀ (.func (fnBody "restore" topB) env) (T.M.den (.func (fnBody "restore" topB) env)) [] s:=by
 have hni:∀ loc,nameV S env.scope loc "int" = some (.lit (.type "int")):=fun loc=>(nameV_global hli).trans hint
 have hnw:nameV S env.scope (rLoc d k) "which" = some (.int k):=(nameV_local hlw).trans (rLocs d k).2
 have hnd:∀ v w,nameV S env.scope (((rLoc d k).put "tag" v).put "prefixes" w) "delta" = some (.obj d):=fun v w=>(nameV_local hld).trans (by rw [Loc.get_put,if_neg (by decide),Loc.get_put,if_neg (by decide)];exact (rLocs d k).1)
 have hnt:∀ loc v,nameV S env.scope (Loc.put loc "tag" v) "tag" = some v:=fun loc v=>(nameV_local hlt).trans (by rw [Loc.get_put,if_pos rfl])
 have hgp:∀ loc w,(Loc.put loc "prefixes" w).get "prefixes" = some w:=fun loc w=>by rw [Loc.get_put,if_pos rfl]
 generalize rLoc d k=loc0 at *
 rw [rBody]
 refine seg_func ?_
 have goL:∀ {s s':Shared},Mid T H h₀ a g Sx s₀ s→Rel T H s'→FixKeep T s.heap s'.heap→EvL env.locals H s.heap H s'.heap→Mid T H h₀ a g Sx s₀ s':=fun {s s'} m R' fk e=>m.go R' (fun b o o₀ e0 nb e'=>e.keep b o e' nb (fun q=>by rw [q,hC0] at e0;cases e0)) (fun b o o₀ Z e'=>e.live b o e') (fun o e'=>e.keep a o e' ha.1 ha.2.1) (fun o e'=>e.keep Sx o e' hS.1 hS.2.1) fk
 refine seg_stmt ?_
 refine soundS P P2 HC (HA1 _) he hnc _ (loc:=loc0) (H:=H) (K:=fun fl l H'=>fl=.next∧l=loc0∧H'=H) ?_ m.rel F fun fl loc' H' f s₁ kk R₁ F₁ fr₁ e₁=>?_
 ·exact rS0_w ⟨rfl,rfl,rfl⟩
 obtain ⟨rfl,rfl,rfl⟩:=kk
 obtain rfl:=fr₁.iN
 have m1:=goL m R₁ (m.rel.fixL F e₁) e₁
 refine ⟨rfl,?_⟩
 refine seg_stmt ?_
 with_unfolding_all refine @tag_try T S n P P2 HC _ (HA1 _) env he hlt "- " "+ " _ _ _ _ _ _ _ _ _ _ _ _ _ _ _ _ _ _ _ _ (hni _) hnw hk _ R₁ F₁ hsys _ _ ?_
 intro s₂ R₂ F₂ e₂
 have m2:=goL m1 R₂ (R₁.fixL F₁ e₂) e₂
 refine ⟨rfl,?_⟩
 have htag:(if k=1 then ("- " : Str) else "+ ")=tagOf k:=rfl
 rw [htag] at F₂
 generalize tagOf k=tg at *
 refine seg_stmt ?_
 refine soundS P P2 HC (HA1 _) he hnc _ (H:=H') (K:=fun fl l H''=>fl=.next∧l=(loc'.put "tag" (.str tg)).put "prefixes" (.tup [.str "  ",.str tg])∧H''=H') ?_ R₂ F₂ fun fl loc3 H3 f s₃ kk R₃ F₃ fr₃ e₃=>?_
 ·with_unfolding_all exact ⟨rfl,_,hnt _ _,Nat.le_of_ble_eq_true rfl,hlp,rfl,rfl,rfl⟩
 obtain ⟨rfl,rfl,rfl⟩:=kk
 obtain rfl:=fr₃.iN
 have m3:=goL m2 R₃ (R₂.fixL F₂ e₃) e₃
 refine ⟨rfl,?_⟩
 refine seg_execs_cons ?_
 with_unfolding_all refine seg_For ?_ ?_
 ·intro x;rfl
 refine nameO P HC (HA1 _) he (hnd _ _) R₃ F₃ ?_
 obtain ⟨vs,nn,ga,rs⟩:=R₃.objs _ _ hd
 refine wpAny_pyIter_list (items:=vs.toArray) ⟨_,ga,rfl,nn,rfl⟩ ?_
 have hIz:s₃.heap.get? s₃.heap.objs.size=none:=Heap.get?_none_of_le (Nat.le_refl _)
 have stI:(s₃.heap.push { cls:=.type "list_iterator",data:=.fields #[.ref d,.int 0 0] }).IsListIter s₃.heap.objs.size d 0:=⟨_,Heap.get?_push_size _ rfl,rfl,rfl⟩
 have hkp:∀ b o,s₃.heap.get? b=some o→(s₃.heap.push { cls:=.type "list_iterator",data:=.fields #[.ref d,.int 0 0] }).get? b=some o:=fun b o e=>Heap.get?_push_of_some _ e
 generalize hI:s₃.heap.objs.size=I at *
 generalize hP:s₃.heap.push { cls:=.type "list_iterator",data:=.fields #[.ref d,.int 0 0] }=h4 at *
 have R4:Rel T H3 { s₃ with heap:=h4 }:=R₃.keeps (n:=s₃.toks) hkp
 have e4:Ev H3 s₃.heap H3 h4:=Ev.keeps hkp
 have m4:Mid T H3 h₀ a g Sx s₀ { s₃ with heap:=h4 }:=goL m3 R4 (R₃.fix e4) e4.toL
 intro p
 have hI0:h₀.get? I=none:=by
  cases q:h₀.get? I with
  | none=>rfl
  | some o=>obtain ⟨o',e'⟩:=m3.ev.live I o q;rw [hIz] at e';cases e'
 have hIH:H3 I=none:=by
  cases q:H3 I with
  | none=>rfl
  | some o=>obtain ⟨ob,g',_⟩:=(R₃.objs I o q).there;rw [hIz] at g';cases g'
 have hIB:T.B I=none:=R₃.topB (Nat.le_of_eq hI)
 have hIC:I≠env.locals:=fun q=>by
  obtain ⟨mm,⟨o,es,ep,ho4,r⟩,hm⟩:=F₃.ns
  rw [← q,hIz] at ho4;cases ho4
 have hIa:I≠a:=fun q=>by
  obtain ⟨o,nm,qn,ho,rr⟩:=m3.gen
  rw [← q,hIz] at ho;cases ho
 have hIS:I≠Sx:=fun q=>by
  obtain ⟨o,ho,_⟩:=m3.nof
  rw [← q,hIz] at ho;cases ho
 refine @restore_loop T S n P P2 HC A env he hnc hco hin L hsz tg H3 I a g Sx [I] _ _ _ _ _ _ _ _ _ _ _ _ _ hll (by decide) hlp (fun A' HA' loc H x hy hp hz s R F Q E g=>slice_in P HC HA' he hy hp hz R F g) (fun A' HA' loc H x hy hz s R F Q E g=>slice_sn P HC HA' he hy hz R F g) (HA2 _ _ _ _ _ _ _ _) (itr_list (HA2 _ _ _ _ _ _ _ _).h I d (L.map .str) _) hd h₀ ?_ ha hS hC0 hS0 R Y ?_ hy L.length 0 _ _ _ rfl (Nat.zero_le _) (hgp _ _) (F₃.ev R₃ e4) stI m4
 ·intro b hb
  cases hb with
  | head=>exact ⟨hIH,hIB,hIC,hIa,hIS,hI0⟩
  | tail _ h=>cases h
 ·intro s₀' s' m'
  exact seg_end (.ok (.ret .none)) (hend _ _ m')
end
noncomputable abbrev gT (T:TI) (G:Array GenState):TI:=T.withG (·=G.push .running)
noncomputable abbrev gY (T:TI) (G:Array GenState) (H:Hp) (h₀:Heap) (a g Sx:Nat) (xs:List Str):Protocol:=fun m s₀ v s kap =>
 ∃ x,xs[xs.length - 1 - m]?=some x∧VR (gT T G) s.heap (.str x) v∧Mid (gT T G) H h₀ a g Sx s₀ s∧∀ s'',Slept (gT T G) Sx s s''→kap (.send .none) s''
noncomputable abbrev gR (T:TI) (G:Array GenState) (H:Hp) (h₀:Heap) (a g Sx:Nat):GenEnd:=fun n s₀ r s₁=>r=.ok (.ret .none)∧(n=0∧Mid (gT T G) H h₀ a g Sx s₀ s₁)
structure GSt (T:TI) (A:Around) (G:Array GenState) (H:Hp) (h₀:Heap) (a Sx:Nat) (xs:List Str) (i:Nat) (s:Shared):Prop where
 gen:s.heap.IsGen a G.size
 rel:Rel (T.withG fun Z=>True) H s
 nof:∀ o,s.heap.get? Sx=some o→¬ Fixed T o
 goes:∃ gs,s.gens=G.push gs∧∀ h' tk,(∀ b o,b≠Sx→s.heap.get? b=some o→h'.get? b=some o)→(∃ vs c,h'.get? Sx=some { cls:=.type "list",data:=.seq vs c }) →
  gs.Goes T.M A.in1 (gR T G H h₀ a G.size Sx) (gY T G H h₀ a G.size Sx xs) (xs.length - i) (.send .none) (({ s with heap:=h',toks:=tk }:Shared).setGen G.size .running)
structure GFin (T:TI) (G:Array GenState) (H:Hp) (h₀:Heap) (s:Shared):Prop where
 rel:Rel (T.withG (·=G.push .finished)) H s
 ev:Ev H h₀ H s.heap
theorem setGen_push {s:Shared} {G:Array GenState} {x y:GenState} (h:s.gens=G.push x):(s.setGen G.size y).gens=G.push y:=by
 refine (?_:s.gens.setIfInBounds G.size y=_)
 refine h.symm▸?_
 apply Array.ext'
 simp
theorem notFix_list {T:TI} {vs:Array Value} {c:Nat}:¬ Fixed T { cls:=.type "list",data:=.seq vs c }:=fun fx=>by
 rcases fx with ⟨f | f,_⟩ | ⟨f,_⟩ <;> simp at f
theorem Rel.gens' {T:TI} {H:Hp} {s:Shared} (R:Rel T H s) {p:Array GenState→Prop} {g:Nat} {y:GenState} (hp:p (s.setGen g y).gens):Rel (T.withG p) H (s.setGen g y):=R.toG hp
theorem gen_nolen:typeLookup (.type "generator") "__len__" = pure none:=PySem.F.gen_no_len
theorem gen_nohint:typeLookup (.type "generator") "__length_hint__" = pure none:=PySem.F.gen_no_hint
theorem gen_GW {T : TI} {A : Around} {G : Array GenState} {H : Hp} {h₀ : Heap} {a Sx : Nat} {xs : List Str} (hh : A.handled = none) (hroom : A.depth < recursionLimit) (hlim : ∀ s, Rel (T.withG fun Z => True) H s → s.heap.NoLimit)
  (hH:H Sx=none) (hB:T.B Sx=none) (haS:a≠Sx):GW T A a Sx "generator" (xs.map .str) (GSt T A G H h₀ a Sx xs) (GFin T G H h₀) where
 typ i s st:=st.gen.typeIs
 frame i s h' tk st k l:=by
  have fk:FixKeep T s.heap h':=fun b o e f=>k b o (fun q=>by subst q;exact st.nof o e f) e
  refine ⟨?_,?_,?_,?_⟩
  ·obtain ⟨o,nm,qn,ho,rr⟩:=st.gen
   exact ⟨o,nm,qn,k a o haS ho,rr⟩
  ·refine ⟨fun b o e=>k b o (fun q=>by have e:T.B b=some o:=e;rw [q,hB] at e;cases e) (st.rel.base b o e),fun b o e=>?_,st.rel.new,st.rel.os,trivial⟩
   have hb:b≠Sx:=fun q=>by rw [q,hH] at e;cases e
   obtain ⟨ob,g',_⟩:=(st.rel.objs b o e).there
   exact (st.rel.objs b o e).mono fk ((k b ob hb g').trans g'.symm)
  ·intro o e
   obtain ⟨vs,c,l⟩:=l
   have e:h'.get? Sx=some o:=e
   rw [l] at e;cases e
   exact notFix_list
  ·obtain ⟨gs,hgs,go⟩:=st.goes
   exact ⟨gs,hgs,fun h2 tk2 k2 l2=>go h2 tk2 (fun b o q e=>k2 b o q (k b o q e)) l2⟩
 item i x s Q E hx st l g:=by
  rw [List.getElem?_map] at hx
  obtain ⟨x',hx',rfl⟩:=Option.map_eq_some_iff.mp hx
  have hi:i < xs.length:=(List.getElem?_eq_some_iff.mp hx').1
  obtain ⟨m,hm⟩:∃ m,xs.length - i=m+1:=Nat.exists_eq_succ_of_ne_zero (Nat.sub_ne_zero_of_lt hi)
  have hl:xs.length=m+i+1:=(Nat.sub_add_cancel (Nat.le_of_lt hi)).symm.trans (by rw [hm,Nat.add_right_comm])
  obtain ⟨gs,hgs,go⟩:=st.goes
  have go':=go s.heap s.toks (fun Z Z Z e=>e) l
  rw [hm] at go'
  refine wpAny_pyNext_gen (g:=G.size) (gs:=gs) (n:=m+1) (P:=fun n s₀ s₁=>n=0∧Mid (gT T G) H h₀ a G.size Sx s₀ s₁) hh (hlim s st.rel) hroom st.gen (by rw [hgs];simp) go' (fun v s₁ gs' hy=>?_) (fun s₁ hp h' hk=>?_)
  ·obtain ⟨y,hy1,hy2,hy3,hy4⟩:=hy
   have:xs.length - 1 - (m+1 - 1)=i:=by rw [hl];exact Nat.add_sub_cancel_left m i
   rw [this,hx'] at hy1
   cases hy1
   have hgens:s₁.gens=G.push .running:=hy3.rel.gens
   refine g v _ (VR.toG (T:=gT T G) (p:=T.gs) hy2) ⟨hy3.gen,hy3.rel.gens' trivial,?_,gs',setGen_push hgens,fun h' tk k2 l2=>?_⟩ hy3.lst hy3.fix
   ·intro o e
    obtain ⟨o',e',nf⟩:=hy3.nof
    have e:s₁.heap.get? Sx=some o:=e
    rw [e'] at e;cases e
    exact nf
   ·have h1:xs.length - (i+1)=m:=congrArg Nat.pred hm
    rw [h1]
    refine hy4 _ ⟨?_,rfl,k2,?_⟩
    ·show (({ s₁.setGen G.size gs' with heap:=h',toks:=tk }:Shared).setGen G.size .running).gens=_
     have:({ s₁.setGen G.size gs' with heap:=h',toks:=tk }:Shared).gens=G.push gs':=setGen_push hgens
     exact (setGen_push this).symm▸hgens.symm▸rfl
    ·obtain ⟨vs,c,l2⟩:=l2
     exact ⟨_,l2,notFix_list⟩
  ·exact absurd hp.1 (Nat.succ_ne_zero _)
 done s Q E st l g:=by
  rw [List.length_map] at st
  obtain ⟨gs,hgs,go⟩:=st.goes
  have go':=go s.heap s.toks (fun Z Z Z e=>e) l
  rw [Nat.sub_self] at go'
  refine wpAny_pyNext_gen (g:=G.size) (gs:=gs) (n:=0) (P:=fun n s₀ s₁=>n=0∧Mid (gT T G) H h₀ a G.size Sx s₀ s₁) hh (hlim s st.rel) hroom st.gen (by refine hgs.symm▸?_;simp) go' (fun v s₁ gs' hy=>?_) (fun s₁ hp h' hk=>?_)
  ·obtain ⟨y,hy1,hy2,hy3,hy4⟩:=hy
   exact (hy4 s₁ ⟨rfl,rfl,fun Z Z Z e=>e,hy3.nof⟩).elim
  ·obtain ⟨_,mm⟩:=hp
   have hgens:s₁.gens=G.push .running:=mm.rel.gens
   obtain ⟨oS,eS,nS⟩:=mm.nof
   have R1:Rel (T.withG (·=G.push .finished)) H (s₁.setGen G.size .finished):=mm.rel.gens' (setGen_push hgens)
   refine g _ ⟨R1.keeps (n:=s₁.toks) hk,mm.ev.trans (Ev.keeps hk)⟩ ((hk _ _ eS).trans (eS.symm.trans mm.lst)) ?_
   exact FixKeep.trans (fun b o e f=>mm.fix b o e f) (fun b o e f=>hk b o e)
 self i s Q E st h:=wpAny_pyIter_gen st.gen h
 ne:=haS
 seq:=⟨rfl,rfl⟩
 nolen:=gen_nolen
 nohint:=gen_nohint
theorem rm_func {n:Nat} {A:Around} {b:List Stmt} {env:Env} (h:Rm (n+1) A):Rm n (A.in1.in1.in1.over (.func b env) []) :=
 h.sub 1 h.1 (Nat.add_le_add_left (by decide:1≤4) A.depth) (Nat.add_le_add_left (by decide:6≤32) A.units)
theorem rm_for {n:Nat} {A:Around} {t:Expr} {it:Value} {b o:List Stmt} {e:Env} {fk:Result→Sem PySem.Fin} {bb:List Stmt} {env:Env} {fp:Pos} (h:Rm (n+1) A):Rm n (A.in1.in1.in1.over (.forLoop t it b o e) [.ret fk none false [] (.func bb env) fp []]) :=
 h.sub 1 h.1 (Nat.add_le_add_left (by decide:1≤4) A.depth) (Nat.add_le_add_left (by decide:6≤32) A.units)
structure ROk (T:TI):Prop where
 obj:∃ o,T.B 260=some o∧o.data=.func fd_restore
 code:∀ h,Above T h→h.CodeRec fd_restore.code fd_restore.qualname
 sysm:∃ o,T.B sysModules=some o
 lim:∀ h,Above T h→h.NoLimit
theorem r_bind (s:Shared) (u v:Value):BindsTo s fd_restore ⟨[u,v],[]⟩ [("delta",u),("which",v)]:=BindsTo.of_eq (by with_unfolding_all rfl)
theorem r_cell:∀ x∈fd_restore.scope.names,x.2≠.cell:=by refine (?_:∀ y∈(fnScope "restore" topB).names,y.2≠.cell);decide +kernel
theorem r_gen:fd_restore.scope.isGenerator=true:=by refine (?_:(fnScope "restore" topB).isGenerator=true);decide +kernel
theorem r_kind:fd_restore.scope.kind=.function:=by refine (?_:(fnScope "restore" topB).kind=.function);decide +kernel
section
variable {T:TI} {S:Sy} {n:Nat} (P:∀ p,Prims (T.withG p) S) (P2:∀ p,Prims2 (T.withG p) S) (HC:∀ p,SoundS (T.withG p) S n) (RO:ROk T) (hint:S.G "int" = some (.lit (.type "int"))) (hgs:∀ G,T.gs G→T.gs (G.push .finished)) {A:Around} (HA:Rm (n+2) A)
include P P2 HC RO hint hgs HA
theorem restore_list {H : Hp} {d : Addr} {L : List Str} {k : Int} {t : Tok} (hd : H d = some (.list (L.map .str))) (hsz : ∀ x ∈ L, x.length ≤ 4096) (hlen : L.length ≤ 4096) (hk : k = 1 ∨ k = 2) {s : Shared} (R : Rel T H s) {K : KV} (kk : ∀ c, H c = none → K (.obj c) (H.set c (.list ((kept (tagOf k) L).map .str)))) {Q : Value → Shared → Prop} {E E' : Value → Shared → Prop} (g : Goes T H s K Q) :
  wpAny T.M A (call (.ref 260) [.ref d,.int k t]) (fun v s₁=>wpAny T.M A (call (.type "list") [v]) Q E s₁) E' s:=by
 obtain ⟨o,ho,hod⟩:=RO.obj
 refine wpAny_call (codeAny_call_generator (Rm.dep HA) (R.base _ _ ho) hod rCo r_gen rfl (RO.code _ R.base) (r_bind _ _ _ _ _ _ _ ?_))
 refine wpAny_newFunctionEnv r_cell ?_ (fun h₁ hns hsb=>⟨(RO.lim _ R.base).fresh _ hsb,?_⟩) r_kind
 ·intro x hx
  simp at hx
  rcases hx with rfl | rfl
  ·exact rLk.2.2.2.1
  ·exact rLk.2.2.2.2.1
 have hsz1:h₁.objs.size=s.heap.objs.size+1:=by rw [hsb.1,Heap.size_push]
 have hk1:∀ b o,s.heap.get? b=some o→h₁.get? b=some o:=fun b o e=>hsb.extBut b o (Nat.ne_of_lt (Heap.lt_size e)) (Heap.get?_push_of_some _ e)
 have hC0:s.heap.get? s.heap.objs.size=none:=Heap.get?_none_of_le (Nat.le_refl _)
 have hHs:∀ b,s.heap.objs.size≤b→H b=none∧T.B b=none∧s.heap.get? b=none:=fun b hb=>by
  refine ⟨?_,R.topB hb,Heap.get?_none_of_le hb⟩
  cases q:H b with
  | none=>rfl
  | some o=>exact absurd (R.lt q) (Nat.not_lt.mpr hb)
 obtain ⟨gob,hgob⟩:∃ gob:Obj,gob={ cls:=.type "generator",data:=.fields #[.int s.gens.size 0,.str fd_restore.name (s.toks+2),.str fd_restore.qualname (s.toks+2+1)] }:=⟨_,rfl⟩
 obtain ⟨h2,hh2⟩:∃ h2,h2=h₁.push gob:=⟨_,rfl⟩
 have hk2:∀ b o,h₁.get? b=some o→h2.get? b=some o:=fun b o e=>by rw [hh2];exact Heap.get?_push_of_some _ e
 have hsz2:h2.objs.size=s.heap.objs.size+2:=by rw [hh2,Heap.size_push,hsz1]
 have hgen:h2.IsGen (s.heap.objs.size+1) s.gens.size:=⟨gob,_,_,by rw [hh2,← hsz1];exact Heap.get?_push_size _ (by rw [hgob];rfl),by rw [hgob],by rw [hgob],by exact hgob.symm▸rfl⟩
 obtain ⟨env,henv⟩:∃ env,env=rEnv s.heap.objs.size fd_restore.code:=⟨_,rfl⟩
 have goal:wpAny T.M A (call (.type "list") [.ref (s.heap.objs.size+1)]) Q E { heap:=h2,gens:=s.gens.push (.fresh (.func (fnBody "restore" topB) env)),drawn:=s.drawn,toks:=s.toks+2+1+1,os:=s.os }:=by
  have R2:Rel (T.withG fun Z=>True) H { heap:=h2,gens:=s.gens.push (.fresh (.func (fnBody "restore" topB) env)),drawn:=s.drawn,toks:=s.toks+2+1+1,os:=s.os } :=
   (R.keeps (n:=s.toks+2+1+1) fun b o e=>hk2 b o (hk1 b o e)).toG trivial
  have S0:s.heap.objs.size≤h2.objs.size:=Nat.le_trans (Nat.le_add_right _ 2) (Nat.le_of_eq hsz2.symm)
  have hlimG:∀ s',Rel (T.withG fun Z=>True) H s'→s'.heap.NoLimit:=fun s' R'=>RO.lim _ R'.base
  have W:GW T A.in1.in1 (s.heap.objs.size+1) h2.objs.size "generator" ((kept (tagOf k) L).map .str) (GSt T A.in1.in1 s.gens H s.heap (s.heap.objs.size+1) h2.objs.size (kept (tagOf k) L)) (GFin T s.gens H s.heap) :=
   gen_GW HA.h (Rm.dep (A:=A) HA) hlimG (hHs _ S0).1 (hHs _ S0).2.1 (by omega)
  refine gw_list (s:={ heap:=h2,gens:=s.gens.push (.fresh (.func (fnBody "restore" topB) env)),drawn:=s.drawn,toks:=s.toks+2+1+1,os:=s.os }) W ?_ ⟨hgen,R2,?_,_,rfl,fun h' tk kp lst=>⟨rfl,?_⟩⟩ ?_
  ·rw [List.length_map]
   unfold kept
   rw [List.length_map]
   exact Nat.le_trans (List.length_filter_le _ _) hlen
  ·intro o e
   have:h2.get? h2.objs.size=none:=Heap.get?_none_of_le (Nat.le_refl _)
   have e:h2.get? h2.objs.size=some o:=e
   exact nomatch this.symm.trans e
  ·have hkk:∀ b o,s.heap.get? b=some o→h'.get? b=some o:=fun b o e=>kp b o (fun q=>by rw [q,(hHs _ S0).2.2] at e;cases e) (hk2 b o (hk1 b o e))
   have hlc:env.locals=s.heap.objs.size:=by refine henv.symm▸?_;rfl
   have hes:env.scope=fnScope "restore" topB:=by refine henv.symm▸?_;rfl
   refine restore_seg (T:=gT T s.gens) (P _) (P2 _) (HC _) (env:=env) (a:=s.heap.objs.size+1) (g:=s.gens.size) (Sx:=h2.objs.size) (h₀:=s.heap) (by refine henv.symm▸?_;exact rEnvOk _ _) (by refine henv.symm▸?_;exact rNoCell) (by refine hes.symm▸?_;exact rLk.1) (by refine hes.symm▸?_;exact rLk.2.1) (by refine hes.symm▸?_;exact rLk.2.2.1) (by refine hes.symm▸?_;exact rLk.2.2.2.1) (by refine hes.symm▸?_;exact rLk.2.2.2.2.1) (by refine hes.symm▸?_;exact rLk.2.2.2.2.2) (by refine hes.symm▸?_;exact rCo) (by refine henv.symm▸?_;exact rIn) hint (fun b=>rm_func HA) (fun t it b o e fk bb fp=>rm_for HA) hsz hk hd
    ⟨(hHs _ (Nat.le_succ _)).1,by refine hlc.symm▸?_;exact Nat.succ_ne_self _,by refine hsz2.symm▸?_;exact Nat.ne_of_lt (Nat.lt_succ_self _)⟩ ⟨(hHs _ S0).1,by refine hlc.symm▸?_;refine hsz2.symm▸?_;exact Nat.ne_of_gt (by omega),(hHs _ S0).2.1⟩ (by refine hlc.symm▸?_;exact hC0) (hHs _ S0).2.2 (fun s' R'=>(by obtain ⟨o,ho⟩:=RO.sysm;exact ⟨o,R'.base _ _ ho⟩)) ?_ ?_ ?_ ?_
   ·exact fun s₀ s₁ m=>⟨rfl,rfl,m⟩
   ·exact fun m s₀ s₁ v x md hx vx kap hkap=>⟨x,hx,vx,md,hkap⟩
   ·refine ⟨⟨_,?_,fun x v e Z=>zip_get (names:=["delta", "which"]) (xs:=[.obj d,.int k]) (by decide) (.cons (.obj d) (.cons (.int k t) .nil)) x v e⟩,by refine hlc.symm▸?_;exact (hHs _ (Nat.le_refl _)).2.1,by refine hlc.symm▸?_;exact (hHs _ (Nat.le_refl _)).1,fun x v e kq=>absurd kq (by refine henv.symm▸?_;exact rNoCell x)⟩
    obtain ⟨o,es,epp,hoo,r⟩:=hns
    exact ⟨o,es,epp,by refine hlc.symm▸?_;exact kp _ o (by omega) (hk2 _ _ hoo),r⟩
   ·refine ⟨(R.keeps (n:=tk) hkk).toG (setGen_push rfl),Ev.keeps hkk,?_,rfl,FixKeep.refl _ _,?_⟩
    ·obtain ⟨o,nm,qn,hoo,rr⟩:=hgen
     exact ⟨o,nm,qn,kp _ o (by omega) hoo,rr⟩
    ·obtain ⟨vs,c,l⟩:=lst
     exact ⟨_,l,notFix_list⟩
  ·intro s' us c hf hS hv
   have hB2:=(hHs _ S0).2.1
   have RR:Rel T H s':=(hf.rel.toG (p:=T.gs) (gens:=s'.gens) (by have:s'.gens=s.gens.push .finished:=hf.rel.gens;refine this.symm▸?_;exact hgs _ R.gens))
   exact g _ _ _ _ (kk _ (hHs _ S0).1) (RR.adopt hB2 ⟨us,c,hS,hv⟩) (.obj _) (hf.ev.adopt (hHs _ S0).2.2)
 rw [hh2,hgob,henv] at goal
 rw [show s.heap.objs.size+1=h₁.objs.size from hsz1.symm] at goal
 exact goal
end
structure WY (T:TI):Prop where
 prog:T.prog=pp
 cM:T.cM=135
 cS:T.cS=242
 fns:∀ r∈fnRows,T.B r.1=some { cls:=.type "function",data:=.func r.2 }
 code:∀ r∈fnRows,∀ h,Above T h→h.CodeRec r.2.code r.2.qualname
 obs:∀ r∈obRows,T.B r.1=some r.2
 sm:∃ m,(∀ h,Above T h→h.Ns 241 m)∧∀ r∈smRows,m r.1=r.2
 ma:∃ m,(∀ h,Above T h→h.Ns 134 m)∧∀ r∈maRows,m r.1=r.2
 gl:∃ mg mb,(∀ h,Above T h→h.Ns mainGlobals mg∧h.Ns builtinsNs mb)∧(∀ r∈glRows,mg r.1=r.2)∧∀ x:Str,x ≠ "__name__" → mb x=bootBuiltins x
 sysm:∃ o,T.B sysModules=some o
 lim:∀ h,Above T h→h.NoLimit
 stat:∃ m,(∀ h,Above T h→h.Ns cStatics m)∧m "thirdparty.any" = none
theorem map_eq {α β:Type} {f g:α→β} {l:List α} (e:l.map f=l.map g):∀ a∈l,f a=g a:=by
 induction l with
 | nil=>intro a h;cases h
 | cons x r ih =>
   simp only [List.map_cons,List.cons.injEq] at e
   intro a h
   cases h with
   | head=>exact e.1
   | tail _ h=>exact ih e.2 a h
theorem code_next:∀ r∈fnRows,r.2.code=.ref (r.1 - 1):=by
 have:(fnRows.all fun r=>r.2.code==.ref (r.1 - 1))=true:=by decide +kernel
 intro r hr
 exact eq_of_beq (List.all_eq_true.mp this r hr)
theorem codeName_rec {h:Heap} {c:Addr} {q:Str} (e:codeName h c=some q):h.CodeRec (.ref c) q:=by
 unfold codeName at e
 cases hg:h.get? c with
 | none=>rw [hg] at e;exact nomatch e
 | some o =>
   rw [hg] at e
   obtain ⟨cl,d,dt,sl⟩:=o
   cases dt with
   | fields vs =>
     have l:∃ v t r,vs.toList=v::.str q t::r:=by
      dsimp only at e
      cases hl:vs.toList with
      | nil=>rw [hl] at e;exact nomatch e
      | cons v r => cases r with
        | nil=>rw [hl] at e;exact nomatch e
        | cons u r =>
          rw [hl] at e
          cases u <;> first | exact nn e | exact ⟨v,_,r,(by cases e;rfl)⟩
     obtain ⟨v,t,r,hl⟩:=l
     have:vs.toList[1]?=some (.str q t):=hl▸rfl
     exact ⟨c,_,vs,t,rfl,hg,rfl,Array.getElem?_toList.symm.trans this⟩
   | _=>first | exact nn e
theorem wy_of {w : World} {h : Heap} {os : OsState} {gs : Array GenState → Prop} {s : Shared} (hy : Yf s = Ya) (hk : ∀ b o, s.heap.get? b = some o → h.get? b = some o) {mg mb : Str → Option Value} (hg : h.Ns mainGlobals mg) (hb : h.Ns builtinsNs mb)
  (hbb:∀ x:Str,x ≠ "__name__" → mb x=bootBuiltins x) (hl:h.NoLimit):WY { prog:=pp,w:=w,B:=fun a=>h.get? a,os:=os,cM:=135,cS:=242,gs:=gs }:=by
 unfold Yf Ya at hy
 simp only [Prod.mk.injEq] at hy
 obtain ⟨y1,y2,y3,⟨y4,y5⟩,y6,y7,⟨y8,hgs⟩,y9⟩:=hy
 rw [Bool.and_eq_true] at hgs
 obtain ⟨hgs,hsys⟩:=hgs
 obtain ⟨oS,_,_,hoS,_⟩:=Heap.Ns.of_isNs hsys
 have y1:=map_eq y1
 have y2:=map_eq y2
 have y3:=map_eq y3
 have y6:=map_eq y6
 have y7:=map_eq y7
 have up:∀ {a:Addr},s.heap.isNs a=true→∀ h':Heap,(∀ b o,h.get? b=some o→h'.get? b=some o)→h'.Ns a (s.heap.nsMap a):=fun hn h' k=>(Heap.Ns.of_isNs hn).keeps fun b o e=>k b o (hk b o e)
 have eg:mg=s.heap.nsMap mainGlobals:=by
  have:h.Ns mainGlobals (s.heap.nsMap mainGlobals):=up hgs h fun Z Z e=>e
  exact hg.eq_nsMap.symm▸this.eq_nsMap.symm▸rfl
 refine ⟨rfl,rfl,rfl,fun r hr=>?_,fun r hr h' ha=>?_,fun r hr=>?_,⟨_,fun h' ha=>up y4 h' ha,fun r hr=>y6 r hr⟩,⟨_,fun h' ha=>up y5 h' ha,fun r hr=>y7 r hr⟩,⟨mg,mb,fun h' ha=>⟨hg.keeps ha,hb.keeps ha⟩,fun r hr=>?_,hbb⟩,⟨oS,hk _ _ hoS⟩,fun h' ha=>hl.keeps ha,⟨_,fun h' ha=>up y8 h' ha,y9⟩⟩
 ·have:=y1 r hr
  simp only [Prod.mk.injEq] at this
  exact hk _ _ this.1
 ·have:=y1 r hr
  simp only [Prod.mk.injEq] at this
  refine (code_next r hr).symm▸?_
  exact (codeName_rec this.2).keeps fun b o e=>ha b o (hk b o e)
 ·exact hk _ _ (y2 r hr)
 ·exact eg.symm▸(y3 r hr)
theorem WY.toG {T:TI} (Y:WY T) (p:Array GenState→Prop):WY (T.withG p):=⟨Y.prog,Y.cM,Y.cS,Y.fns,Y.code,Y.obs,Y.sm,Y.ma,Y.gl,Y.sysm,Y.lim,Y.stat⟩
noncomputable def thenS (S:Sy) (sc:Scope) (r:List Stmt) (K:KS):KS:=fun fl loc H=>match fl with
 | .next=>wSs S sc r loc H K
 | f=>K f loc H
section
variable {S:Sy} {sc:Scope} {loc:Loc} {H:Hp} {K:KV} {KB':KB} {KS':KS} {r:List Stmt} {p p':Pos} {c:Nat}
theorem x_nilT (h:wSs S sc r loc H KS'):wSs S sc [] loc H (thenS S sc r KS'):=h
theorem x_retT {v:V} (h:KS' (.ret v) loc H):thenS S sc r KS' (.ret v) loc H:=h
theorem x_brkT (h:KS' .brk loc H):thenS S sc r KS' .brk loc H:=h
theorem x_conT (h:KS' .cont loc H):thenS S sc r KS' .cont loc H:=h
theorem x_nextT (h:wSs S sc r loc H KS'):thenS S sc r KS' .next loc H:=h
theorem x_doc {D:Str} (h:wSs S sc r loc H KS'):wSs S sc (.Expr (.Constant (.str D) c p) p'::r) loc H KS':=h
theorem x_Expr {f:Expr} {args:List Expr} (h:wE S sc (.Call f args [] p) loc H fun Z H₁=>wSs S sc r loc H₁ KS'):wSs S sc (.Expr (.Call f args [] p) p'::r) loc H KS':=h
theorem x_Ret {e:Expr} (h:wE S sc e loc H fun v H₁=>KS' (.ret v) loc H₁):wSs S sc (.Return (some e) p::r) loc H KS':=h
theorem x_Brk (h:KS' .brk loc H):wSs S sc (.Break p::r) loc H KS':=h
theorem x_Con (h:KS' .cont loc H):wSs S sc (.Continue p::r) loc H KS':=h
theorem x_Assign {ts:List Expr} {e:Expr} (h:wE S sc e loc H fun v H₁=>wAs S sc ts v loc H₁ fun loc₂ H₂=>wSs S sc r loc₂ H₂ KS') (h1:swapOk ts e=true:=by rfl) (h2:isComp e=false:=by rfl):wSs S sc (.Assign ts e p::r) loc H KS':=by
 show (if isComp e=true then _ else _)
 rw [h2,if_neg (by decide)]
 exact ⟨h1,h⟩
theorem x_AugAdd {x:Str} {e:Expr} {i:Int} (hl:sc.names.lookup x=some .local) (hx:loc.get x=some (.int i)) (h:wE S sc e loc H fun u H₁=>∃ j,u=.int j∧wSs S sc r (loc.put x (.int (i+j))) H₁ KS'):wSs S sc (.AugAssign (.Name x p) .Add e p'::r) loc H KS':=by
 refine ⟨_,hl,hx,?_⟩
 have:(fun u H₁=>∃ j,u=V.int j∧wSs S sc r (loc.put x (.int (i+j))) H₁ KS')=fun u H₁=>(Operator.Add=.Add∨Operator.Add=.Sub)∧∃ i' j,V.int i=.int i'∧u=.int j∧wBin .Add (.int i') (.int j) H₁ fun rr H₂=>wSs S sc r (loc.put x rr) H₂ KS':=by
  funext u H₁
  apply propext
  constructor
  ·rintro ⟨j,rfl,h⟩;exact ⟨.inl rfl,i,j,rfl,rfl,h⟩
  ·rintro ⟨_,i',j,e,rfl,h⟩;cases e;exact ⟨j,rfl,h⟩
 rw [this] at h
 exact h
theorem x_AugSub {x:Str} {e:Expr} {i:Int} (hl:sc.names.lookup x=some .local) (hx:loc.get x=some (.int i)) (h:wE S sc e loc H fun u H₁=>∃ j,u=.int j∧wSs S sc r (loc.put x (.int (i - j))) H₁ KS'):wSs S sc (.AugAssign (.Name x p) .Sub e p'::r) loc H KS':=by
 refine ⟨_,hl,hx,?_⟩
 have:(fun u H₁=>∃ j,u=V.int j∧wSs S sc r (loc.put x (.int (i - j))) H₁ KS')=fun u H₁=>(Operator.Sub=.Add∨Operator.Sub=.Sub)∧∃ i' j,V.int i=.int i'∧u=.int j∧wBin .Sub (.int i') (.int j) H₁ fun rr H₂=>wSs S sc r (loc.put x rr) H₂ KS':=by
  funext u H₁
  apply propext
  constructor
  ·rintro ⟨j,rfl,h⟩;exact ⟨.inr rfl,i,j,rfl,rfl,h⟩
  ·rintro ⟨_,i',j,e,rfl,h⟩;cases e;exact ⟨j,rfl,h⟩
 rw [this] at h
 exact h
theorem x_If {t:Expr} {b o:List Stmt} (h:wT S sc t loc (fun H K=>wE S sc t loc H K) H fun x H₁=>(x=true→wSs S sc b loc H₁ (thenS S sc r KS'))∧(x=false→wSs S sc o loc H₁ (thenS S sc r KS'))):wSs S sc (.If t b o p::r) loc H KS':=h
theorem x_For {t it : Expr} {b o : List Stmt} (h : wIter S sc it loc H fun xs g H₁ => wItems g (fun x loc H K => wA S sc t x loc H fun loc₁ H₁ => wSs S sc b loc₁ H₁ K) (fun loc H K => wSs S sc o loc H K) xs loc H₁ (thenS S sc r KS'))
  (h1:notSet it=true:=by rfl) (h2:enumOk t it=true:=by rfl):wSs S sc (.For t it b o p::r) loc H KS':=⟨h1,h2,h⟩
theorem x_While {t:Expr} {b:List Stmt} (n:Nat) (h:wWh (fun loc H K=>wT S sc t loc (fun H K=>wE S sc t loc H K) H K) (fun loc H K=>wSs S sc b loc H K) n loc H (thenS S sc r KS')):wSs S sc (.While t b [] p::r) loc H KS':=⟨n,h⟩
noncomputable abbrev ItK:=List V→(Hp→Prop)→Hp→Prop
noncomputable abbrev ItG (IK:ItK):KV:=fun v H₁=>(∃ a xs,v=.obj a∧H₁ a=some (.list xs)∧IK xs (fun H=>H a=some (.list xs)) H₁)∨(∃ xs,v=.tup xs∧IK xs (fun Z=>True) H₁)
theorem x_itN {x:Str} {IK:ItK} (h:wE S sc (.Name x p) loc H (ItG IK)):wIter S sc (.Name x p) loc H IK:=h
theorem x_itM {o:Expr} {n:Str} {ap:Pos} {args:List Expr} {IK:ItK} (h:wE S sc (.Call (.Attribute o n ap) args [] p) loc H (ItG IK)):wIter S sc (.Call (.Attribute o n ap) args [] p) loc H IK:=h
theorem x_itL {es:List Expr} {IK:ItK} (h:wE S sc (.List es p) loc H (ItG IK)):wIter S sc (.List es p) loc H IK:=h
theorem x_itR1 {e : Expr} {IK : ItK} (hl : sc.names.lookup ("range" : Str) = some .globalImplicit) (hx : S.G "range" = some (.lit (.type "range"))) (h : wE S sc e loc H fun v H₁ => ∃ n, v = .int n ∧ -small < n ∧ n < small ∧ IK (upFrom 0 n.toNat) (fun Z => True) H₁) (h1 : notStar e = true) :
  wIter S sc (.Call (.Name "range" p) [e] [] p') loc H IK:=⟨h1,hx,hl,h⟩
theorem x_itR2 {e e' : Expr} {IK : ItK} (hl : sc.names.lookup ("range" : Str) = some .globalImplicit) (hx : S.G "range" = some (.lit (.type "range"))) (h : wE S sc e loc H fun v H₁ => wE S sc e' loc H₁ fun v' H₂ => ∃ n n', v = .int n ∧ v' = .int n' ∧ -small < n ∧ n < small ∧ -small < n' ∧ n' < small ∧ IK (upFrom n (n' - n).toNat) (fun Z => True) H₂)
  (h1:notStar e=true) (h2:notStar e'=true):wIter S sc (.Call (.Name "range" p) [e,e'] [] p') loc H IK:=⟨h1,h2,hx,hl,h⟩
theorem x_itE {e : Expr} {IK : ItK} (hl : sc.names.lookup ("enumerate" : Str) = some .globalImplicit) (hx : S.G "enumerate" = some (.lit (.type "enumerate"))) (h : wE S sc e loc H fun v H₁ =>
    (∃ a xs,v=.obj a∧H₁ a=some (.list xs)∧IK (pairsFrom 0 xs) (fun H=>H a=some (.list xs)) H₁)∨(∃ xs,v=.tup xs∧IK (pairsFrom 0 xs) (fun Z=>True) H₁)) (h1:notStar e=true) :
  wIter S sc (.Call (.Name "enumerate" p) [e] [] p') loc H IK:=by
 unfold wIter
 dsimp only
 rw [if_neg (by decide:¬ ("enumerate" : Str) = "range"),if_pos rfl]
 exact ⟨h1,hx,hl,h⟩
theorem x_as0 {v:V} {KL:Loc→Hp→Prop} (h:KL loc H):wAs S sc [] v loc H KL:=h
theorem x_as {t:Expr} {ts:List Expr} {v:V} {KL:Loc→Hp→Prop} (h:wA S sc t v loc H fun loc₁ H₁=>wAs S sc ts v loc₁ H₁ KL):wAs S sc (t::ts) v loc H KL:=h
theorem x_aN {x:Str} {v:V} {KL:Loc→Hp→Prop} (hl:sc.names.lookup x=some .local) (h:KL (loc.put x v) H):wA S sc (.Name x p) v loc H KL:=⟨hl,h⟩
theorem x_aT {ts:List Expr} {v:V} {xs:List V} {loc':Loc} {KL:Loc→Hp→Prop} (h1:itemsV v=some xs) (h2:putNames sc ts xs loc=some loc') (h:KL loc' H):wA S sc (.Tuple ts c p) v loc H KL:=⟨xs,loc',h1,h2,h⟩
theorem x_aS {o i:Expr} {v:V} {KL:Loc→Hp→Prop} (h:wE S sc o loc H fun ov H₁=>wE S sc i loc H₁ fun iv H₂=>wPut ov iv v H₂ fun H₃=>KL loc H₃):wA S sc (.Subscript o i p) v loc H KL:=h
theorem x_aA {o:Expr} {n:Str} {v:V} {KL:Loc→Hp→Prop} (h:wE S sc o loc H fun ov H₁=>wPutA ov n v H₁ fun H₂=>KL loc H₂):wA S sc (.Attribute o n p) v loc H KL:=h
theorem x_pn0:putNames sc [] [] loc=some loc:=rfl
theorem x_pn {x:Str} {v:V} {ts:List Expr} {vs:List V} {loc':Loc} (hl:sc.names.lookup x=some .local) (h:putNames sc ts vs (loc.put x v)=some loc'):putNames sc (.Name x p::ts) (v::vs) loc=some loc':=by
 show (if _ then _ else _)=_
 rw [if_pos hl];exact h
theorem x_none (h:K .none H):wE S sc (.Constant .none c p) loc H K:=h
theorem x_int {i:Int} (h:K (.int i) H):wE S sc (.Constant (.int i) c p) loc H K:=h
theorem x_str {s:Str} (h:K (.str s) H):wE S sc (.Constant (.str s) c p) loc H K:=h
theorem x_NL {x:Str} {v:V} (hl:sc.names.lookup x=some .local) (hx:loc.get x=some v) (h:K v H):wE S sc (.Name x p) loc H K:=⟨v,by unfold nameV;refine hl.symm▸?_;exact hx,h⟩
theorem x_NC {x:Str} {v:V} (hl:sc.names.lookup x=some .cell) (hx:loc.get x=some v) (h:K v H):wE S sc (.Name x p) loc H K:=⟨v,by unfold nameV;refine hl.symm▸?_;exact hx,h⟩
theorem x_NG {x:Str} {v:V} (hl:sc.names.lookup x=some .globalImplicit) (hx:S.G x=some v) (h:K v H):wE S sc (.Name x p) loc H K:=⟨v,by unfold nameV;refine hl.symm▸?_;exact hx,h⟩
theorem x_Bin {l r:Expr} {op:Operator} (h:wE S sc l loc H fun a H₁=>wE S sc r loc H₁ fun b H₂=>wBin op a b H₂ K):wE S sc (.BinOp l op r p) loc H K:=h
theorem x_Neg {i:Int} (h:K (.int (-i)) H):wE S sc (.UnaryOp .USub (.Constant (.int i) c p) p') loc H K:=h
theorem x_Cmp {l r:Expr} {op:CmpOp} (h:wE S sc l loc H fun a H₁=>wE S sc r loc H₁ fun b H₂=>wCmp op a b H₂ K) (h1:notSet r=true:=by rfl):wE S sc (.Compare l [op] [r] p) loc H K:=⟨h1,h⟩
theorem x_IfE {t b o:Expr} (h:wT S sc t loc (fun H K=>wE S sc t loc H K) H fun x H₁=>(x=true→wE S sc b loc H₁ K)∧(x=false→wE S sc o loc H₁ K)):wE S sc (.IfExp t b o p) loc H K:=h
theorem x_IfS {t:Expr} {sa sb:Str} {c':Nat} {q q':Pos} (h:wT S sc t loc (fun H K=>wE S sc t loc H K) H fun x H₁=>K (.str (if x=true then sa else sb)) H₁):wE S sc (.IfExp t (.Constant (.str sa) c p) (.Constant (.str sb) c' q) q') loc H K:=by
 refine x_IfE ?_
 have:(fun (x:Bool) H₁=>(x=true→wE S sc (.Constant (.str sa) c p) loc H₁ K)∧(x=false→wE S sc (.Constant (.str sb) c' q) loc H₁ K))=fun x H₁=>K (.str (if x=true then sa else sb)) H₁:=by
  funext x H₁
  apply propext
  cases x
  ·exact ⟨fun h=>h.2 rfl,fun h=>⟨fun e=>(nomatch e),fun Z=>h⟩⟩
  ·exact ⟨fun h=>h.1 rfl,fun h=>⟨fun Z=>h,fun e=>(nomatch e)⟩⟩
 exact this.symm▸h
theorem x_Call {x : Str} {f : V} {args : List Expr} (hn : nameV S sc loc x = some f) (h : wEs S sc args loc H fun vs H₁ => S.C f vs H₁ K) (h1 : special (.Call (.Name x p) args [] p') = false := by rfl) (h2 : args.all notStar = true := by rfl) (h3 : args.length ≤ 20 := by decide) :
  wE S sc (.Call (.Name x p) args [] p') loc H K:=by
 show (if _ then _ else _)
 rw [h1,if_neg nofun]
 exact ⟨f,hn,h2,h3,h⟩
theorem x_CallG {x : Str} {f : V} {args : List Expr} (hl : sc.names.lookup x = some .globalImplicit) (hx : S.G x = some f) (h : wEs S sc args loc H fun vs H₁ => S.C f vs H₁ K) (h1 : special (.Call (.Name x p) args [] p') = false) (h2 : args.all notStar = true) (h3 : args.length ≤ 20) :
  wE S sc (.Call (.Name x p) args [] p') loc H K:=x_Call (by unfold nameV;refine hl.symm▸?_;exact hx) h h1 h2 h3
theorem x_CallL {x : Str} {f : V} {args : List Expr} (hl : sc.names.lookup x = some .local) (hx : loc.get x = some f) (h : wEs S sc args loc H fun vs H₁ => S.C f vs H₁ K) (h1 : special (.Call (.Name x p) args [] p') = false) (h2 : args.all notStar = true) (h3 : args.length ≤ 20) :
  wE S sc (.Call (.Name x p) args [] p') loc H K:=x_Call (by unfold nameV;refine hl.symm▸?_;exact hx) h h1 h2 h3
theorem x_Meth {o : Expr} {n : Str} {ap : Pos} {args : List Expr} (hp : ap.endLine = p.endLine ∧ ap.endLine = p.line) (h : wE S sc o loc H fun ov H₁ => ∃ f, calleeM S.cl H₁ n ov f ∧ wEs S sc args loc H₁ fun vs H₂ => S.C f (ov :: vs) H₂ K)
  (h1:baseOk o=true:=by rfl) (h2:args.all notStar=true:=by rfl) (h3:args.length≤20:=by decide):wE S sc (.Call (.Attribute o n ap) args [] p) loc H K:=⟨h1,hp.2,h2,h3,h⟩
theorem x_Attr {o:Expr} {n:Str} (h:wE S sc o loc H fun ov H₁=>wAttr H₁ n K ov) (h1:baseOk o=true:=by rfl):wE S sc (.Attribute o n p) loc H K:=⟨h1,h⟩
noncomputable def noSlice:Expr→Bool
 | .Slice ..=>false
 | _=>true
theorem x_Sub {o i:Expr} (h:wE S sc o loc H fun ov H₁=>wE S sc i loc H₁ fun iv H₂=>wGet ov iv H₂ K) (h1:noSlice i=true:=by rfl):wE S sc (.Subscript o i p) loc H K:=by
 cases i <;> first | exact h | cases h1
theorem x_SubS {o l u : Expr} {q : Pos} (h : wE S sc o loc H fun ov H₁ => wE S sc l loc H₁ fun lv H₂ => wE S sc u loc H₂ fun uv H₃ =>
   ∃ a xs i j,ov=.obj a∧H₃ a=some (.list xs)∧lv=.int i∧uv=.int j∧0≤i∧i≤j∧j≤xs.length∧xs.length≤4096∧∀ c,H₃ c=none→K (.obj c) (H₃.set c (.list ((xs.drop i.toNat).take (j - i).toNat)))):wE S sc (.Subscript o (.Slice (some l) (some u) none q) p) loc H K:=h
theorem x_List {es:List Expr} (h:wEs S sc es loc H fun vs H₁=>vs.length≤4096∧∀ a,H₁ a=none→K (.obj a) (H₁.set a (.list vs))):wE S sc (.List es p) loc H K:=h
theorem x_Tup {es:List Expr} (h:wEs S sc es loc H fun vs H₁=>vs.length≤4096∧K (.tup vs) H₁):wE S sc (.Tuple es c p) loc H K:=h
theorem x_DS (h:∀ a,H a=none→K (.obj a) (H.set a (.dS []))):wE S sc (.Dict [] [] p) loc H K:=.inl h
theorem x_DI (h:∀ a,H a=none→K (.obj a) (H.set a (.dI []))):wE S sc (.Dict [] [] p) loc H K:=.inr h
theorem x_es0 {KL:List V→Hp→Prop} (h:KL [] H):wEs S sc [] loc H KL:=h
theorem x_es {e:Expr} {r:List Expr} {KL:List V→Hp→Prop} (h:wE S sc e loc H fun v H₁=>wEs S sc r loc H₁ fun vs H₂=>KL (v::vs) H₂) (h1:notStar e=true:=by rfl):wEs S sc (e::r) loc H KL:=by
 cases e <;> first | exact h | cases h1
theorem x_tAll {op:BoolOp} {vs:List Expr} {w:Hp→KV→Prop} (h:wAll S sc op vs loc H KB'):wT S sc (.BoolOp op vs p) loc w H KB':=h
theorem x_tCmp {l r:Expr} {op:CmpOp} {w:Hp→KV→Prop} (h:wE S sc l loc H fun a H₁=>wE S sc r loc H₁ fun b H₂=>wCmp op a b H₂ fun c H₃=>∃ b,c=.bool b∧KB' b H₃) (h1:notSet r=true:=by rfl):wT S sc (.Compare l [op] [r] p) loc w H KB':=⟨h1,h⟩
theorem x_tName {x:Str} {w:Hp→KV→Prop} (h:w H fun v H₁=>∃ b,truthV H₁ v=some b∧KB' b H₁):wT S sc (.Name x p) loc w H KB':=h
theorem x_tCall {f:Expr} {a:List Expr} {k:List Keyword} {w:Hp→KV→Prop} (h:w H fun v H₁=>∃ b,truthV H₁ v=some b∧KB' b H₁):wT S sc (.Call f a k p) loc w H KB':=h
theorem x_tAttr {o:Expr} {n:Str} {w:Hp→KV→Prop} (h:w H fun v H₁=>∃ b,truthV H₁ v=some b∧KB' b H₁):wT S sc (.Attribute o n p) loc w H KB':=h
theorem x_and0 (h:KB' true H):wAll S sc .And [] loc H KB':=h
theorem kv_list {a:Addr} {xs:List V} (h:H a=some (.list xs)):kindV H (.obj a) "list" := .list h
theorem kv_dS {a:Addr} {xs:List (Str×V)} (h:H a=some (.dS xs)):kindV H (.obj a) "dict" := .dS h
theorem cm_kind {ov:V} {n:Str} {k id:String} (h:kindV H ov k) (h2:midOf k n=some id) {R:V→Prop} (r:R (.lit (.builtin id))):∃ f,calleeM S.cl H n ov f∧R f :=
 ⟨_,.kind h h2,r⟩
theorem cm_append {a:Addr} {xs:List V} (h:H a=some (.list xs)) {R:V→Prop} (r:R (.lit (.builtin "list.append"))):∃ f,calleeM S.cl H "append" (.obj a) f∧R f:=cm_kind (kv_list h) rfl r
theorem cm_extend {a:Addr} {xs:List V} (h:H a=some (.list xs)) {R:V→Prop} (r:R (.lit (.builtin "list.extend"))):∃ f,calleeM S.cl H "extend" (.obj a) f∧R f:=cm_kind (kv_list h) rfl r
theorem cm_pop {a:Addr} {xs:List V} (h:H a=some (.list xs)) {R:V→Prop} (r:R (.lit (.builtin "list.pop"))):∃ f,calleeM S.cl H "pop" (.obj a) f∧R f:=cm_kind (kv_list h) rfl r
theorem cm_sort {a:Addr} {xs:List V} (h:H a=some (.list xs)) {R:V→Prop} (r:R (.lit (.builtin "list.sort"))):∃ f,calleeM S.cl H "sort" (.obj a) f∧R f:=cm_kind (kv_list h) rfl r
theorem cm_index {a:Addr} {xs:List V} (h:H a=some (.list xs)) {R:V→Prop} (r:R (.lit (.builtin "list.index"))):∃ f,calleeM S.cl H "index" (.obj a) f∧R f:=cm_kind (kv_list h) rfl r
theorem cm_setdefault {a:Addr} {xs:List (Str×V)} (h:H a=some (.dS xs)) {R:V→Prop} (r:R (.lit (.builtin "dict.setdefault"))):∃ f,calleeM S.cl H "setdefault" (.obj a) f∧R f:=cm_kind (kv_dS h) rfl r
theorem cm_get {a:Addr} {xs:List (Str×V)} (h:H a=some (.dS xs)) {R:V→Prop} (r:R (.lit (.builtin "dict.get"))):∃ f,calleeM S.cl H "get" (.obj a) f∧R f:=cm_kind (kv_dS h) rfl r
theorem cm_join {x:Str} {R:V→Prop} (r:R (.lit (.builtin "str.join"))):∃ f,calleeM S.cl H "join" (.str x) f∧R f:=cm_kind .str rfl r
theorem len_ok {vs:List V} {P:Prop} (h1:Nat.ble vs.length 4096=true) (h:P):vs.length≤4096∧P:=⟨Nat.le_of_ble_eq_true h1,h⟩
theorem b_add {x y:Int} (h:K (.int (x+y)) H):wBin .Add (.int x) (.int y) H K:=h
theorem b_sub {x y:Int} (h:K (.int (x - y)) H):wBin .Sub (.int x) (.int y) H K:=h
theorem b_mul {x y:Int} (h1:-small < x∧x < small∧-small < y∧y < small) (h:K (.int (x * y)) H):wBin .Mult (.int x) (.int y) H K:=⟨h1,h⟩
theorem b_fdiv {x y:Int} (h1:0 < y∧y < small) (h:K (.int (x.fdiv y)) H):wBin .FloorDiv (.int x) (.int y) H K:=⟨h1,h⟩
theorem b_mod {x y:Int} (h1:0 < y∧y < small) (h:K (.int (x.fmod y)) H):wBin .Mod (.int x) (.int y) H K:=⟨h1,h⟩
theorem b_pow {x y:Int} (h1:0≤x∧x < 1024∧0≤y∧y < 1024) (h:K (.int (x ^ y.toNat)) H):wBin .Pow (.int x) (.int y) H K:=⟨h1,h⟩
theorem b_shr {x y:Int} (h1:0≤y) (h:K (.int (x.fdiv (2 ^ y.toNat))) H):wBin .RShift (.int x) (.int y) H K:=⟨h1,h⟩
theorem b_cat {x y:Str} (h1:x.length+y.length≤sizeLine) (h:K (.str (x++y)) H):wBin .Add (.str x) (.str y) H K:=⟨h1,h⟩
theorem b_lcat {a b:Addr} {xs ys:List V} (h1:H a=some (.list xs)) (h2:H b=some (.list ys)) (h3:xs.length+ys.length≤4096) (h:∀ c,H c=none→K (.obj c) (H.set c (.list (xs++ys)))):wBin .Add (.obj a) (.obj b) H K:=⟨xs,ys,h1,h2,h3,h⟩
theorem b_lmul {a:Addr} {b:Bool} {xs:List V} (h1:H a=some (.list xs)) (h3:xs.length≤4096) (h:∀ c,H c=none→K (.obj c) (H.set c (.list (if b then xs else [])))):wBin .Mult (.obj a) (.bool b) H K:=⟨xs,h1,h3,h⟩
theorem g_list {a:Addr} {xs:List V} {k:Int} {j:Nat} {v:V} (h1:H a=some (.list xs)) (h2:-small < k∧k < small) (h3:seqIndex? k xs.length=some j) (h4:xs[j]?=some v) (h:K v H):wGet (.obj a) (.int k) H K:=⟨xs,j,v,h1,h2,h3,h4,h⟩
theorem g_tup {xs:List V} {k:Int} {j:Nat} {v:V} (h2:-small < k∧k < small) (h3:seqIndex? k xs.length=some j) (h4:xs[j]?=some v) (h:K v H):wGet (.tup xs) (.int k) H K:=⟨j,v,h2,h3,h4,h⟩
theorem g_str {s:Str} {k:Int} {c:Nat} (h1:0≤k) (h2:k < small) (h3:s.cps[k.toNat]?=some c) (h:K (.str ⟨#[c]⟩) H):wGet (.str s) (.int k) H K:=⟨c,h1,h2,h3,h⟩
theorem p_list {a:Addr} {xs:List V} {k:Int} {j:Nat} {v:V} {KH:Hp→Prop} (h1:H a=some (.list xs)) (h2:-small < k∧k < small) (h3:seqIndex? k xs.length=some j) (h:KH (H.set a (.list (xs.set j v)))):wPut (.obj a) (.int k) v H KH:=.inl ⟨xs,j,h1,h2,h3,h⟩
theorem p_dI {a:Addr} {kvs:List (Int×V)} {k:Int} {v:V} {KH:Hp→Prop} (h1:H a=some (.dI kvs)) (h2:kvs.length≤4096) (h:KH (H.set a (.dI (putK kvs k v)))):wPut (.obj a) (.int k) v H KH:=.inr ⟨kvs,h1,h2,h⟩
noncomputable abbrev TB (KB':KB):KV:=fun c H₃=>∃ b,c=.bool b∧KB' b H₃
theorem t_eqI {x y:Int} (h:KB' (x==y) H):wCmp .Eq (.int x) (.int y) H (TB KB'):=⟨_,rfl,h⟩
theorem t_neI {x y:Int} (h:KB' (!(x==y)) H):wCmp .NotEq (.int x) (.int y) H (TB KB'):=⟨_,rfl,h⟩
theorem t_eqS {x y:Str} (h:KB' (x==y) H):wCmp .Eq (.str x) (.str y) H (TB KB'):=⟨_,rfl,h⟩
theorem t_isON {a:Addr} (h:KB' false H):wCmp .Is (.obj a) .none H (TB KB'):=⟨_,rfl,h⟩
theorem t_inNN (h:KB' false H):wCmp .IsNot .none .none H (TB KB'):=⟨_,rfl,h⟩
theorem t_in {a:Addr} {x:Str} {xs:List V} {ss:List Str} (h1:H a=some (.list xs)) (h2:strsOf xs=some ss) (h:KB' (ss.any (·==x)) H):wCmp .In (.str x) (.obj a) H (TB KB'):=⟨xs,ss,h1,h2,_,rfl,h⟩
theorem t_nin {a:Addr} {x:Str} {xs:List V} {ss:List Str} (h1:H a=some (.list xs)) (h2:strsOf xs=some ss) (h:KB' (!ss.any (·==x)) H):wCmp .NotIn (.str x) (.obj a) H (TB KB'):=⟨xs,ss,h1,h2,_,rfl,h⟩
theorem v_int {i:Int} {P:Bool→Prop} (h:P (!(i==0))):∃ b,truthV H (.int i)=some b∧P b:=⟨_,rfl,h⟩
theorem v_bool {i:Bool} {P:Bool→Prop} (h:P i):∃ b,truthV H (.bool i)=some b∧P b:=⟨_,rfl,h⟩
theorem v_none {P:Bool→Prop} (h:P false):∃ b,truthV H .none=some b∧P b:=⟨_,rfl,h⟩
theorem v_list {a:Addr} {xs:List V} {P:Bool→Prop} (h1:H a=some (.list xs)) (h2:xs.length≤4096) (h:P (!xs.isEmpty)):∃ b,truthV H (.obj a)=some b∧P b:=⟨_,by unfold truthV;dsimp only;rw [h1];exact if_pos h2,h⟩
theorem i_list {a:Addr} {xs:List V} {IK:ItK} (h1:H a=some (.list xs)) (h:IK xs (fun H=>H a=some (.list xs)) H):ItG IK (.obj a) H:=.inl ⟨a,xs,rfl,h1,h⟩
theorem i_tup {xs:List V} {IK:ItK} (h:IK xs (fun Z=>True) H):ItG IK (.tup xs) H:=.inr ⟨xs,rfl,h⟩
end
noncomputable def afterW (R:Loc→Hp→Prop) (K:KS):KS:=fun fl loc H=>match fl with
 | .next=>R loc H
 | .cont=>R loc H
 | .brk=>K .next loc H
 | .ret v=>K (.ret v) loc H
theorem x_contW {R:Loc→Hp→Prop} {K:KS} {loc:Loc} {H:Hp} (h:R loc H):afterW R K .cont loc H:=h
theorem x_brkW {R:Loc→Hp→Prop} {K:KS} {loc:Loc} {H:Hp} (h:K .next loc H):afterW R K .brk loc H:=h
theorem wWh_rule {T : Loc → Hp → KB → Prop} {P : Loc → Hp → KS → Prop} {K : KS} (Inv : Nat → Loc → Hp → Prop)
  (step:∀ m loc H (R:Loc→Hp→Prop),Inv m loc H→(∀ m' loc' H',m' < m→Inv m' loc' H'→R loc' H')→T loc H fun b H₁=>(b=false→K .next loc H₁)∧(b=true→P loc H₁ (afterW R K))) :
  ∀ n m loc H,m < n→Inv m loc H→wWh T P n loc H K
 | 0,m,loc,H,hm,hI=>absurd hm (Nat.not_lt_zero _)
 | n+1,m,loc,H,hm,hI=>step m loc H (fun loc H=>wWh T P n loc H K) hI fun m' loc' H' hm' hI'=>wWh_rule Inv step n m' loc' H' (by omega) hI'
theorem wWh_rule2 {T : Loc → Hp → KB → Prop} {P : Loc → Hp → KS → Prop} {K : KS} (Inv : Nat → Loc → Hp → Prop) (Ex : Loc → Hp → Prop)
  (step:∀ m loc H (R:Loc→Hp→Prop) (K':KS),Inv m loc H→(∀ m' loc' H',m' < m→Inv m' loc' H'→R loc' H')→(∀ loc' H',Ex loc' H'→K' .next loc' H')→T loc H fun b H₁=>(b=false→K' .next loc H₁)∧(b=true→P loc H₁ (afterW R K')))
  (exit:∀ loc H,Ex loc H→K .next loc H):∀ n m loc H,m < n→Inv m loc H→wWh T P n loc H K :=
 wWh_rule Inv fun m loc H R hI hR=>step m loc H R K hI hR exit
theorem Loc.get_self {l:Loc} {x:Str} {v:V}:(l.put x v).get x=some v:=by rw [Loc.get_put,if_pos rfl]
theorem Loc.get_other {l:Loc} {x y:Str} {v u:V} (h:x≠y) (e:l.get y=some u):(l.put x v).get y=some u:=by rw [Loc.get_put,if_neg h];exact e
theorem Hp.old {H:Hp} {c a:Addr} {o o':O} (hc:H c=none) (ha:H a=some o):(H.set c o') a=some o:=(Hp.set_ne _ _ (fun q=>by rw [q,hc] at ha;cases ha)).trans ha
theorem Hp.oldN {H:Hp} {c a:Addr} {o':O} (hc:(H.set c o') a=none):H a=none∧a≠c:=by
 by_cases q:a=c
 ·rw [q,Hp.set_self] at hc;cases hc
 ·exact ⟨(Hp.set_ne _ _ q).symm.trans hc,q⟩
theorem wItems_one {g:Hp→Prop} {P:V→Loc→Hp→KS→Prop} {fin:Loc→Hp→KS→Prop} {K:KS} {x:V} {loc:Loc} {H:Hp} (hg:g H) (h:∀ K':KS,(∀ loc H,(g H∧fin loc H K)→K' .next loc H)→(∀ loc H,(g H∧fin loc H K)→K' .cont loc H)→(∀ loc H,K .next loc H→K' .brk loc H)→P x loc H K'):wItems g P fin [x] loc H K :=
 ⟨hg,h _ (fun Z Z q=>q) (fun Z Z q=>q) (fun Z Z q=>q)⟩
theorem wItems_inv {g : Hp → Prop} {P : V → Loc → Hp → KS → Prop} {fin : Loc → Hp → KS → Prop} {K : KS} (Inv : Nat → Loc → Hp → Prop) (xs : List V) : ∀ (ys : List V) (loc : Loc) (H : Hp),
  (∀ i loc H,Inv i loc H→g H)→(∀ i x loc H K',(ys++xs)[i]?=some x→Inv i loc H→(∀ fl loc' H',(fl=.next∨fl=.cont)→Inv (i+1) loc' H'→K' fl loc' H')→P x loc H K') →
  (∀ loc H,Inv (ys++xs).length loc H→fin loc H K)→Inv ys.length loc H→wItems g P fin xs loc H K:=by
 induction xs with
 | nil=>exact fun ys loc H hg st fi hI=>⟨hg _ _ _ hI,fi _ _ ((List.append_nil ys).symm▸hI)⟩
 | cons x r ih =>
   intro ys loc H hg st fi hI
   have e:ys++x::r=(ys++[x])++r:=List.append_cons ys x r
   refine ⟨hg _ _ _ hI,st ys.length x loc H _ (List.getElem?_append_right (Nat.le_refl _) |>.trans (by rw [Nat.sub_self];rfl)) hI fun fl loc' H' hf hI'=>?_⟩
   have:=ih (ys++[x]) loc' H' hg (e▸st) (e▸fi) (List.length_append▸hI')
   rcases hf with rfl | rfl <;> exact this
end Mine
end
section
namespace Mine
open PySem PyProof.Rows
theorem band_nat (x y:Nat):Builtin.bitAnd (x:Int) (y:Int)=((x &&& y:Nat):Int):=by simp [Builtin.bitAnd]
theorem bor_nat (x y:Nat):Builtin.bitOr (x:Int) (y:Int)=((x ||| y:Nat):Int):=by
 unfold Builtin.bitOr
 have h:∀ z:Nat,¬ (0:Int)≤Builtin.bitNot (z:Int):=fun z=>by unfold Builtin.bitNot;omega
 have hn:∀ z:Int,Builtin.bitNot (Builtin.bitNot z)=z:=fun z=>by unfold Builtin.bitNot;omega
 rw [bitAnd_nn (h x) (h y),hn,hn,hn]
 simp
theorem lo_tb {k b i:Nat} (hb:b < 4096):(k * 4096+b).testBit i=if i < 12 then b.testBit i else k.testBit (i - 12):=by
 have:=Nat.testBit_two_pow_mul_add k (b:=b) (i:=12) (by simpa using hb) i
 rw [show (2:Nat) ^ 12 * k=k * 4096 from by omega] at this
 exact this
theorem lo_hi {c i:Nat} (hc:c < 4096) (hi:¬ i < 12):c.testBit i=false :=
 Nat.testBit_lt_two_pow (Nat.lt_of_lt_of_le hc (by have:(2:Nat) ^ 12≤2 ^ i:=Nat.pow_le_pow_right (by decide) (by omega);simpa using this))
theorem lo_or {k b c:Nat} (hb:b < 4096) (hc:c < 4096):(k * 4096+b) ||| c=k * 4096+(b ||| c):=by
 have hbc:b ||| c < 4096:=Nat.or_lt_two_pow (n:=12) hb hc
 apply Nat.eq_of_testBit_eq
 intro i
 rw [Nat.testBit_or,lo_tb hb,lo_tb hbc]
 by_cases h:i < 12
 ·simp [h]
 ·simp [h,lo_hi hc h]
theorem lo_and {k b c:Nat} (hb:b < 4096) (hc:c < 4096):(k * 4096+b) &&& c=b &&& c:=by
 apply Nat.eq_of_testBit_eq
 intro i
 rw [Nat.testBit_and,Nat.testBit_and,lo_tb hb]
 by_cases h:i < 12
 ·simp [h]
 ·simp [lo_hi hc h]
theorem fd_nat (x y:Nat):(x:Int).fdiv (y:Int)=((x / y:Nat):Int):=by simp [Int.fdiv_eq_ediv]
theorem fm_nat (x y:Nat):(x:Int).fmod (y:Int)=((x % y:Nat):Int):=by rw [Int.fmod_eq_emod];simp
theorem fd_lit (x n:Nat):(x:Int).fdiv (@OfNat.ofNat Int n _)=((x / @OfNat.ofNat Nat n _:Nat):Int):=fd_nat x n
theorem fm_lit (x n:Nat):(x:Int).fmod (@OfNat.ofNat Int n _)=((x % @OfNat.ofNat Nat n _:Nat):Int):=fm_nat x n
theorem fmod_nat (x:Int) {y:Int} (hy:0 < y):∃ n:Nat,x.fmod y=(n:Int)∧(n:Int) < y:=by
 have h1:=Int.fmod_nonneg_of_pos x hy
 have h2:=Int.fmod_lt_of_pos x hy
 exact ⟨(x.fmod y).toNat,(Int.toNat_of_nonneg h1).symm,by rw [Int.toNat_of_nonneg h1];exact h2⟩
end Mine
end
section
namespace Mine
open PySem PySem.Spec PySem.Calls PyProof.Rows
noncomputable abbrev En:=List (Str×V)
noncomputable section
noncomputable def look:En→Str→Option V
 | [],_=>none
 | (y,v)::r,x=>if y=x then some v else look r x
noncomputable def hasS:List Str→Str→Bool
 | [],_=>false
 | y::r,x=>if y=x then true else hasS r x
noncomputable def pick (E:En):List Str→En
 | []=>[]
 | x :: r => match look E x with
   | some v=>(x,v)::pick E r
   | none=>pick E r
noncomputable def puts:Loc→List Str→List V→Loc
 | loc,x::xs,v::vs=>puts (loc.put x v) xs vs
 | loc,_,_=>loc
noncomputable def penv:En→List Str→List V→En
 | E,x::xs,v::vs=>penv ((x,v)::E) xs vs
 | E,_,_=>E
noncomputable def tN (N:List Str):List Expr→List V→Option (List Str)
 | [],[]=>some []
 | .Name x _::ts,_::vs=>if hasS N x=true then (tN N ts vs).map (x::·) else none
 | _,_=>none
noncomputable def toI:V→Option Int
 | .int i=>some i
 | _=>none
noncomputable def toS:V→Option Str
 | .str i=>some i
 | _=>none
noncomputable def i2 {α:Type} (g:Int→Int→Option α) (a b:V):Option α:=match toI a,toI b with
 | some x,some y=>g x y
 | _,_=>none
noncomputable def s2 (g:Str→Str→Option Bool) (a b:V):Option Bool:=match toS a,toS b with
 | some x,some y=>g x y
 | _,_=>none
noncomputable def pBinI (op:Operator) (x y:Int):Option V:=match op with
 | .Add=>some (.int (x+y))
 | .Sub=>some (.int (x - y))
 | .BitAnd=>some (.int (Builtin.bitAnd x y))
 | .BitOr=>some (.int (Builtin.bitOr x y))
 | _=>none
noncomputable def pBin (op:Operator) (a b:V):Option V:=i2 (pBinI op) a b
noncomputable def pIs:V→Option Bool
 | .none=>some true
 | .int _=>some false
 | .obj _=>some false
 | _=>none
noncomputable def pIsB (a:V):V→Option Bool
 | .none=>pIs a
 | _=>none
noncomputable def pEqS (x y:Str):Option Bool:=some (x==y)
noncomputable def pCmpI (op:CmpOp) (x y:Int):Option Bool:=match op with
 | .Eq=>some (x==y)
 | .NotEq=>some (!(x==y))
 | .Lt=>some (decide (x < y))
 | .Gt=>some (decide (y < x))
 | .LtE=>some (decide (x≤y))
 | .GtE=>some (decide (y≤x))
 | _=>none
noncomputable def pCmp (op:CmpOp) (a b:V):Option Bool:=match op with
 | .Is=>pIsB a b
 | .IsNot=>(pIsB a b).map (!·)
 | .Eq=>(i2 (pCmpI .Eq) a b).or (s2 pEqS a b)
 | op=>i2 (pCmpI op) a b
noncomputable def pEs (f:Expr→Option V):List Expr→Option (List V)
 | []=>some []
 | e :: r => if notStar e = true then match f e, pEs f r with
   | some v,some vs=>some (v::vs)
   | _,_=>none
   else none
noncomputable def pConst:Const→Option V
 | .none=>some .none
 | .bool b=>some (.bool b)
 | .int i=>some (.int i)
 | .str s=>some (.str s)
 | _=>none
noncomputable def opt2 {α:Type} (f:V→V→Option α):Option V→Option V→Option α
 | some a,some b=>f a b
 | _,_=>none
noncomputable def pCo (f:Expr→Option V) (l:Expr):List CmpOp→List Expr→Option V
 | [op],[r]=>if notSet r=true then (opt2 (pCmp op) (f l) (f r)).map .bool else none
 | _,_=>none
noncomputable def pE (N:List Str) (E:En):Nat→Expr→Option V
 | 0,_=>none
 | n + 1, e => match e with
   | .Name x _=>if hasS N x=true then look E x else none
   | .Constant c _ _=>pConst c
   | .BinOp l op r _=>opt2 (pBin op) (pE N E n l) (pE N E n r)
   | .Compare l ops rs _=>pCo (pE N E n) l ops rs
   | .Tuple es _ _=>if es.length≤100 then (pEs (pE N E n) es).map .tup else none
   | _=>none
end
structure Kn (sc:Scope) (N:List Str) (E:En) (loc:Loc):Prop where
 nm:∀ x,hasS N x=true→sc.names.lookup x=some .local
 lk:∀ x v,look E x=some v→loc.get x=some v
section
variable {S:Sy} {sc:Scope} {N:List Str} {E E':En} {loc:Loc} {H:Hp} {K:KV} {KB':KB} {KS':KS} {r:List Stmt} {p p' q:Pos} {c:Nat} {x:Str} {v:V} {e:Expr}
theorem nm_of (h:N.all (fun x=>decide (sc.names.lookup x=some .local))=true):∀ x,hasS N x=true→sc.names.lookup x=some .local:=by
 induction N with
 | nil=>exact fun x q=>Bool.noConfusion q
 | cons y r ih =>
   intro x q
   rw [List.all_cons,Bool.and_eq_true] at h
   have q:(if y=x then true else hasS r x)=true:=q
   by_cases e:y=x
   ·exact e▸of_decide_eq_true h.1
   ·rw [if_neg e] at q;exact ih h.2 x q
theorem look_pick (ns:List Str):look (pick E ns) x=some v→look E x=some v:=by
 induction ns with
 | nil=>exact nn
 | cons y r ih =>
   intro h
   unfold pick at h
   cases g:look E y with
   | none=>rw [g] at h;exact ih h
   | some u =>
     rw [g] at h
     have h:(if y=x then some u else look (pick E r) x)=some v:=h
     by_cases e:y=x
     ·rw [if_pos e] at h;exact h▸e▸g
     ·rw [if_neg e] at h;exact ih h
theorem Kn.sub (ns:List Str) (k:Kn sc N E loc) (h:pick E ns=E'):Kn sc N E' loc:=⟨k.nm,fun x v e=>k.lk x v (look_pick ns (h▸e))⟩
theorem Kn.put (k:Kn sc N E loc):Kn sc N ((x,v)::E) (loc.put x v):=⟨k.nm,fun y u e=>by
 rw [Loc.get_put]
 have e:(if x=y then some v else look E y)=some u:=e
 by_cases h:x=y
 ·rw [if_pos h] at e ⊢;exact e
 ·rw [if_neg h] at e ⊢;exact k.lk y u e⟩
theorem Kn.puts:∀ {xs:List Str} {vs:List V} {E:En} {loc:Loc},Kn sc N E loc→Kn sc N (penv E xs vs) (puts loc xs vs)
 | [],_,_,_,k=>k
 | _::_,[],_,_,k=>k
 | _::xs,_::vs,_,_,k=>Kn.puts (xs:=xs) (vs:=vs) k.put
theorem Kn.init (h:∀ x,hasS N x=true→sc.names.lookup x=some .local):Kn sc N E (E.map fun p=>(p.1,some p.2)):=⟨h,fun x v e=>by
 induction E with
 | nil=>exact nn e
 | cons y r ih =>
   have e:(if y.1=x then some y.2 else look r x)=some v:=e
   show (if _ then _ else _)=_
   by_cases h:y.1=x
   ·rw [if_pos h] at e ⊢;exact e
   ·rw [if_neg h] at e ⊢;exact ih e⟩
theorem Kn.get (k:Kn sc N E loc) (h:look E x=some v):loc.get x=some v:=k.lk x v h
theorem toI_some {a:V} {i:Int} (h:toI a=some i):a=.int i:=by
 cases a <;> first | exact nn h | exact congrArg _ (Option.some.inj h)
theorem toS_some {a:V} {i:Str} (h:toS a=some i):a=.str i:=by
 cases a <;> first | exact nn h | exact congrArg _ (Option.some.inj h)
theorem so {α:Type} {a b:α} {P:α→Prop} (h:some a=some b) (k:P b):P a:=(Option.some.inj h).symm▸k
theorem opt2_some {α:Type} {f:V→V→Option α} {u:α} {a b:Option V} (h:opt2 f a b=some u):∃ x y,a=some x∧b=some y∧f x y=some u:=by
 cases a with
 | none=>exact nn h
 | some x => cases b with
   | none=>exact nn h
   | some y=>exact ⟨x,y,rfl,rfl,h⟩
theorem i2_ok {α:Type} {g:Int→Int→Option α} {a b:V} {u:α} (h:i2 g a b=some u):∃ x y,a=.int x∧b=.int y∧g x y=some u:=by
 unfold i2 at h
 cases ha:toI a with
 | none=>rw [ha] at h;exact nn h
 | some x => cases hb : toI b with
   | none=>rw [ha,hb] at h;exact nn h
   | some y=>rw [ha,hb] at h;exact ⟨x,y,toI_some ha,toI_some hb,h⟩
theorem s2_ok {g:Str→Str→Option Bool} {a b:V} {u:Bool} (h:s2 g a b=some u):∃ x y,a=.str x∧b=.str y∧g x y=some u:=by
 unfold s2 at h
 cases ha:toS a with
 | none=>rw [ha] at h;exact nn h
 | some x => cases hb : toS b with
   | none=>rw [ha,hb] at h;exact nn h
   | some y=>rw [ha,hb] at h;exact ⟨x,y,toS_some ha,toS_some hb,h⟩
theorem pBin_ok {op:Operator} {a b:V} (h:pBin op a b=some v) (k:K v H):wBin op a b H K:=by
 obtain ⟨x,y,rfl,rfl,h⟩:=i2_ok h
 cases op <;> first | exact nn h | exact so (P:=fun v=>K v H) h k
theorem pIs_ok {a b:V} {u:Bool} {P:Bool→Prop} (h:pIsB a b=some u) (k:P u):wIs a b P:=by
 cases b <;> first | exact nn h | (cases a <;> first | exact nn h | (have q:=so h k;exact q))
theorem pCmp_ok {op:CmpOp} {a b:V} {u:Bool} (h:pCmp op a b=some u) (k:K (.bool u) H):wCmp op a b H K:=by
 have key:∀ {op},i2 (pCmpI op) a b=some u→wCmp op a b H K:=fun {op} h=>by
  obtain ⟨x,y,rfl,rfl,h⟩:=i2_ok h
  cases op <;> first | exact nn h | exact so (P:=fun c=>K (.bool c) H) h k
 cases op <;> first | exact key h | skip
 case Is=>exact pIs_ok (P:=fun c=>K (.bool c) H) h k
 case IsNot =>
  obtain ⟨w,h1,h2⟩:=Option.map_eq_some_iff.mp h
  exact pIs_ok (P:=fun c=>K (.bool (!c)) H) h1 (h2▸k)
 case Eq =>
  cases Option.or_eq_some_iff.mp h with
  | inl h=>exact key h
  | inr h =>
    obtain ⟨x,y,rfl,rfl,q⟩:=s2_ok h.2
    exact so (P:=fun c=>K (.bool c) H) q k
theorem pEs_some {f:Expr→Option V} {e:Expr} {r:List Expr} {us:List V} (h:pEs f (e::r)=some us):∃ v vs,notStar e=true∧f e=some v∧pEs f r=some vs∧v::vs=us:=by
 obtain ⟨h0,h⟩:=ite_some h
 cases he:f e with
 | none=>rw [he] at h;exact nn h
 | some v => cases hr : pEs f r with
   | none=>rw [he,hr] at h;exact nn h
   | some vs=>rw [he,hr] at h;exact ⟨v,vs,h0,rfl,rfl,Option.some.inj h⟩
theorem pEs_len {f:Expr→Option V} {es:List Expr}:∀ {vs:List V},pEs f es=some vs→vs.length=es.length:=by
 induction es with
 | nil=>exact fun h=>Option.some.inj h▸rfl
 | cons e r ih =>
   intro vs h
   obtain ⟨_,_,_,_,h1,e⟩:=pEs_some h
   exact e▸congrArg Nat.succ (ih h1)
theorem pCo_some {f:Expr→Option V} {l:Expr} {ops:List CmpOp} {rs:List Expr} (h:pCo f l ops rs=some v):∃ op r u,ops=[op]∧rs=[r]∧notSet r=true∧opt2 (pCmp op) (f l) (f r)=some u∧V.bool u=v:=by
 cases ops with
 | nil=>exact nn h
 | cons op ops => cases ops with
   | cons _ _=>exact nn h
   | nil => cases rs with
     | nil=>exact nn h
     | cons r rs => cases rs with
       | cons _ _=>exact nn h
       | nil =>
         obtain ⟨h0,h⟩:=ite_some h
         obtain ⟨u,h1,h2⟩:=Option.map_eq_some_iff.mp h
         exact ⟨op,r,u,rfl,rfl,h0,h1,h2⟩
def PEok (S:Sy) (sc:Scope) (N:List Str) (E:En) (n:Nat) (e:Expr):Prop:=∀ ⦃v:V⦄ ⦃loc:Loc⦄ ⦃H:Hp⦄ ⦃K:KV⦄,pE N E n e=some v→Kn sc N E loc→K v H→wE S sc e loc H K
theorem pEs_ok {n:Nat} (ih:∀ e,PEok S sc N E n e) (k:Kn sc N E loc) {es:List Expr}:∀ {vs:List V} {KL:List V→Hp→Prop},pEs (pE N E n) es=some vs→KL vs H→wEs S sc es loc H KL:=by
 induction es with
 | nil=>exact fun {_ KL} h hk=>so (P:=fun vs=>KL vs _) h hk
 | cons e r ihr =>
   intro vs KL h hk
   obtain ⟨v,us,h0,h1,h2,e⟩:=pEs_some h
   exact x_es (ih _ h1 k (ihr h2 (e▸hk))) h0
theorem pE_ok (n:Nat):∀ (e:Expr),PEok S sc N E n e:=by
 induction n with
 | zero=>exact fun Z Z Z Z Z h Z Z=>nn h
 | succ n ih =>
   intro e v loc H K h k hk
   cases e with
   | Name x p =>
     obtain ⟨h0,h⟩:=ite_some h
     exact x_NL (k.nm x h0) (k.get h) hk
   | Constant c _ _ =>
     have h:pConst c=some v:=h
     cases c <;> first | exact nn h | exact so (P:=fun v=>K v H) h hk
   | BinOp l op r _ =>
     obtain ⟨a,b,h1,h2,h3⟩:=opt2_some h
     exact x_Bin (ih l h1 k (ih r h2 k (pBin_ok h3 hk)))
   | Compare l ops rs _ =>
     obtain ⟨op,r,u,rfl,rfl,h0,h1,rfl⟩:=pCo_some h
     obtain ⟨a,b,h1,h2,h3⟩:=opt2_some h1
     exact x_Cmp (ih l h1 k (ih r h2 k (pCmp_ok h3 hk))) h0
   | Tuple es _ _ =>
     obtain ⟨h0,h⟩:=ite_some h
     obtain ⟨u,h1,rfl⟩:=Option.map_eq_some_iff.mp h
     exact x_Tup (pEs_ok ih k h1 ⟨pEs_len h1▸Nat.le_trans h0 (by decide),hk⟩)
   | _=>first | exact nn h
theorem x_P (k:Kn sc N E loc) (h:pE N E 9 e=some v) (hk:K v H):wE S sc e loc H K:=pE_ok 9 e h k hk
theorem x_Ps {es:List Expr} {vs:List V} {KL:List V→Hp→Prop} (k:Kn sc N E loc) (h:pEs (pE N E 9) es=some vs) (hk:KL vs H):wEs S sc es loc H KL:=pEs_ok (pE_ok 9) k h hk
theorem x_tP {l r:Expr} {op:CmpOp} {w:Hp→KV→Prop} {b:Bool} (k:Kn sc N E loc) (h:pE N E 9 (.Compare l [op] [r] p)=some (.bool b)) (hk:KB' b H):wT S sc (.Compare l [op] [r] p) loc w H KB' :=
 pE_ok 9 _ h k (K:=TB KB') ⟨b,rfl,hk⟩
theorem x_asg (k:Kn sc N E loc) (h:pE N E 9 e=some v) (hx:hasS N x=true) (h1:isComp e=false) (hk:wSs S sc r (loc.put x v) H KS'):wSs S sc (.Assign [.Name x q] e p::r) loc H KS' :=
 x_Assign (pE_ok 9 e h k (x_as (x_aN (k.nm x hx) hk))) rfl h1
theorem tN_some {e:Expr} {ts:List Expr} {v:V} {vs:List V} {xs:List Str} (h:tN N (e::ts) (v::vs)=some xs):∃ x p ys,e=.Name x p∧hasS N x=true∧tN N ts vs=some ys∧x::ys=xs:=by
 cases e with
 | Name x p =>
   obtain ⟨h0,h⟩:=ite_some h
   obtain ⟨ys,h1,h2⟩:=Option.map_eq_some_iff.mp h
   exact ⟨x,p,ys,rfl,h0,h1,h2⟩
 | _=>first | exact nn h
theorem tN_ok (k:∀ x,hasS N x=true→sc.names.lookup x=some .local) {ts:List Expr}:∀ {vs:List V} {xs:List Str} {loc:Loc},tN N ts vs=some xs→putNames sc ts vs loc=some (puts loc xs vs):=by
 induction ts with
 | nil => intro vs xs loc h; cases vs with
   | nil=>exact Option.some.inj h▸rfl
   | cons _ _=>exact nn h
 | cons e ts ih => intro vs xs loc h; cases vs with
   | nil=>cases e <;> exact nn h
   | cons v vs =>
     obtain ⟨x,p,ys,rfl,h0,h1,rfl⟩:=tN_some h
     exact x_pn (k x h0) (ih h1)
theorem x_aTN {ts:List Expr} {xs:List V} {ns:List Str} {KL:Loc→Hp→Prop} (k:Kn sc N E loc) (h1:itemsV v=some xs) (h2:tN N ts xs=some ns) (h:KL (puts loc ns xs) H):wA S sc (.Tuple ts c p) v loc H KL:=x_aT h1 (tN_ok k.nm h2) h
theorem x_asgT {ts:List Expr} {vs:List V} {ns:List Str} (k:Kn sc N E loc) (h:pE N E 9 e=some (.tup vs)) (h2:tN N ts vs=some ns) (h1:isComp e=false) (h0:swapOk [.Tuple ts c q] e=true) (hk:wSs S sc r (puts loc ns vs) H KS'):wSs S sc (.Assign [.Tuple ts c q] e p::r) loc H KS' :=
 x_Assign (pE_ok 9 e h k (x_as (x_aTN k rfl h2 hk))) h0 h1
theorem x_augP {i j:Int} (k:Kn sc N E loc) (hN:hasS N x=true) (hx:look E x=some (.int i)) (h:pE N E 9 e=some (.int j)) (hk:wSs S sc r (loc.put x (.int (i+j))) H KS'):wSs S sc (.AugAssign (.Name x p) .Add e p'::r) loc H KS' :=
 x_AugAdd (k.nm x hN) (k.get hx) (pE_ok 9 e h k ⟨j,rfl,hk⟩)
theorem x_subP {i j:Int} (k:Kn sc N E loc) (hN:hasS N x=true) (hx:look E x=some (.int i)) (h:pE N E 9 e=some (.int j)) (hk:wSs S sc r (loc.put x (.int (i - j))) H KS'):wSs S sc (.AugAssign (.Name x p) .Sub e p'::r) loc H KS' :=
 x_AugSub (k.nm x hN) (k.get hx) (pE_ok 9 e h k ⟨j,rfl,hk⟩)
theorem x_retP (k:Kn sc N E loc) (h:pE N E 9 e=some v) (hk:KS' (.ret v) loc H):wSs S sc (.Return (some e) p::r) loc H KS':=x_Ret (pE_ok 9 e h k hk)
noncomputable abbrev ifK (S:Sy) (sc:Scope) (b o:List Stmt) (loc:Loc) (K:KS):KB:=fun x H=>(x=true→wSs S sc b loc H K)∧(x=false→wSs S sc o loc H K)
noncomputable abbrev ieK (S:Sy) (sc:Scope) (b o:Expr) (loc:Loc) (K:KV):KB:=fun x H=>(x=true→wE S sc b loc H K)∧(x=false→wE S sc o loc H K)
noncomputable abbrev andK (S:Sy) (sc:Scope) (r:List Expr) (loc:Loc) (K:KB):KB:=fun x H=>(x=true→wAll S sc .And r loc H K)∧(x=false→K false H)
noncomputable abbrev notK (K:KB):KB:=fun x H=>K (!x) H
noncomputable abbrev whK (S:Sy) (sc:Scope) (b:List Stmt) (R:Loc→Hp→Prop) (K:KS) (loc:Loc):KB:=fun x H=>(x=false→K .next loc H)∧(x=true→wSs S sc b loc H (afterW R K))
section
variable {b:Bool} {bd o:List Stmt} {K:KS} {R:Loc→Hp→Prop} {es:List Expr} {x' y':Expr} {KE:KV} {w:Hp→KV→Prop} {t:Expr}
theorem z_If (h:wT S sc t loc (wE S sc t loc) H (ifK S sc bd o loc (thenS S sc r KS'))):wSs S sc (.If t bd o p::r) loc H KS':=h
theorem z_IfE (h:wT S sc t loc (wE S sc t loc) H (ieK S sc x' y' loc KE)):wE S sc (.IfExp t x' y' p) loc H KE:=h
theorem z_and (h:wT S sc t loc (wE S sc t loc) H (andK S sc es loc KB')):wAll S sc .And (t::es) loc H KB':=h
theorem z_not (h:wT S sc t loc (wE S sc t loc) H (notK KB')):wT S sc (.UnaryOp .Not t p) loc w H KB':=h
theorem k_if (h1:b=true→wSs S sc bd loc H K) (h2:b=false→wSs S sc o loc H K):ifK S sc bd o loc K b H:=⟨h1,h2⟩
theorem k_ifT (h1:wSs S sc bd loc H K):ifK S sc bd o loc K true H:=⟨fun Z=>h1,nt⟩
theorem k_ifF (h1:wSs S sc o loc H K):ifK S sc bd o loc K false H:=⟨nf,fun Z=>h1⟩
theorem k_ie (h1:b=true→wE S sc x' loc H KE) (h2:b=false→wE S sc y' loc H KE):ieK S sc x' y' loc KE b H:=⟨h1,h2⟩
theorem k_ieP {v1 v2:V} (k:Kn sc N E loc) (hx:pE N E 9 x'=some v1) (hy:pE N E 9 y'=some v2) (h:KE (if b=true then v1 else v2) H):ieK S sc x' y' loc KE b H :=
 ⟨fun e=>pE_ok 9 _ hx k (by rw [if_pos e] at h;exact h),fun e=>pE_ok 9 _ hy k (by rw [e] at h;exact h)⟩
theorem k_and (h1:b=true→wAll S sc .And es loc H KB') (h2:b=false→KB' false H):andK S sc es loc KB' b H:=⟨h1,h2⟩
theorem k_andT (h1:wAll S sc .And es loc H KB'):andK S sc es loc KB' true H:=⟨fun Z=>h1,nt⟩
theorem k_andF (h1:KB' false H):andK S sc es loc KB' false H:=⟨nf,fun Z=>h1⟩
theorem k_not (h:KB' (!b) H):notK KB' b H:=h
theorem k_notT (h:KB' false H):notK KB' true H:=h
theorem k_notF (h:KB' true H):notK KB' false H:=h
theorem k_wh (h1:b=true→wSs S sc bd loc H (afterW R K)) (h2:b=false→K .next loc H):whK S sc bd R K loc b H:=⟨h2,h1⟩
theorem k_whT (h1:wSs S sc bd loc H (afterW R K)):whK S sc bd R K loc true H:=⟨nt,fun Z=>h1⟩
theorem k_whF (h2:K .next loc H):whK S sc bd R K loc false H:=⟨fun Z=>h2,nf⟩
theorem z_While (n : Nat) (Inv : Nat → Loc → Hp → Prop) (Ex : Loc → Hp → Prop) (m : Nat) (hm : m < n) (h0 : Inv m loc H)
  (step:∀ m loc H (R:Loc→Hp→Prop) (K':KS),Inv m loc H→(∀ m' loc' H',m' < m→Inv m' loc' H'→R loc' H')→(∀ loc' H',Ex loc' H'→K' .next loc' H')→wT S sc t loc (wE S sc t loc) H (whK S sc bd R K' loc))
  (exit:∀ loc H,Ex loc H→wSs S sc r loc H KS'):wSs S sc (.While t bd [] p::r) loc H KS' :=
 x_While n (wWh_rule2 Inv Ex step exit n m loc H hm h0)
end
theorem z_Off (h:wT S sc t loc (wE S sc t loc) H (whK S sc bd (fun Z Z=>False) (thenS S sc r KS') loc)):wSs S sc (.While t bd [] p::r) loc H KS' :=
 x_While 1 h
end
abbrev Keep (H H':Hp):Prop:=∀ b ob,H b=some ob→H' b=some ob
theorem sm_nat {n:Nat} (h:n≤100):-small < (n:Int)∧(n:Int) < small:=⟨Int.lt_of_lt_of_le (by decide) (Int.natCast_nonneg n),Int.lt_of_le_of_lt (Int.ofNat_le.mpr h) (by decide)⟩
theorem at_lt {α:Type} {l:List α} {i:Nat} (h:i < l.length):∃ y,l[i]?=some y:=⟨_,List.getElem?_eq_getElem h⟩
theorem dT {a b:Nat} (h:decide ((a:Int) < (b:Int))=true):a < b:=Int.ofNat_lt.mp (of_decide_eq_true h)
theorem dF {a b:Nat} (h:decide ((a:Int) < (b:Int))=false):¬ a < b:=fun q=>of_decide_eq_false h (Int.ofNat_lt.mpr q)
theorem dlT {a b:Nat} (h:decide ((a:Int)≤(b:Int))=true):a≤b:=Int.ofNat_le.mp (of_decide_eq_true h)
theorem dlF {a b:Nat} (h:decide ((a:Int)≤(b:Int))=false):¬ a≤b:=fun q=>of_decide_eq_false h (Int.ofNat_le.mpr q)
theorem csub {a b:Nat} (h:b≤a):(a:Int) - (b:Int)=((a - b:Nat):Int):=(Int.ofNat_sub h).symm
theorem csub1 {a:Nat} (h:0 < a):(a:Int) - 1=((a - 1:Nat):Int):=csub h
theorem keep_none {H H':Hp} {a:Addr} (k:Keep H H') (h:H' a=none):H a=none:=by
 cases q:H a with
 | none=>rfl
 | some ob=>rw [k _ _ q] at h;cases h
theorem ad_ne {H:Hp} {a b:Addr} {o:O} (h:H a=some o) (n:H b=none):a≠b:=fun q=>by rw [q,n] at h;cases h
theorem nzT {n:Nat} (h:(!((n:Int)==0))=true):¬ n=0:=fun q=>by rw [q] at h;cases h
theorem nzF {n:Nat} (h:(!((n:Int)==0))=false):n=0:=by
 cases n with
 | zero=>rfl
 | succ n=>cases h
theorem map_len {α β:Type} {f:α→β} {l:List α} {n:Nat} (h:l.length≤n):(l.map f).length≤n:=Nat.le_trans (Nat.le_of_eq (List.length_map f)) h
theorem len1 {α:Type} {l:List α} {x:α}:(l++[x]).length=l.length+1:=List.length_append
theorem Hp.set_id {H:Hp} {a:Addr} {o:O} (h:H a=some o):H.set a o=H:=by
 funext b
 by_cases q:b=a
 ·rw [q,Hp.set_self,h]
 ·exact Hp.set_ne _ _ q
theorem lenS {α:Type} {P:List α→Prop} {n:Nat} (k:∀ a r,r.length=n→P (a::r)) (l:List α) (e:l.length=n+1):P l:=by
 cases l with
 | nil=>cases e
 | cons a r=>exact k a r (Nat.succ.inj e)
theorem l1 {α:Type} {P:List α→Prop} (k:∀ a,P [a]):∀ l,l.length=1→P l:=lenS fun a r e=>(List.eq_nil_of_length_eq_zero e).symm▸k a
theorem l2 {α:Type} {P:List α→Prop} (k:∀ a b,P [a,b]):∀ l,l.length=2→P l:=lenS fun a=>l1 (P:=fun r=>P (a::r)) (k a)
theorem l3 {α:Type} {P:List α→Prop} (k:∀ a b c,P [a,b,c]):∀ l,l.length=3→P l:=lenS fun a=>l2 (P:=fun r=>P (a::r)) (k a)
theorem l4 {α:Type} {P:List α→Prop} (k:∀ a b c d,P [a,b,c,d]):∀ l,l.length=4→P l:=lenS fun a=>l3 (P:=fun r=>P (a::r)) (k a)
theorem l5 {α:Type} {P:List α→Prop} (k:∀ a b c d x,P [a,b,c,d,x]):∀ l,l.length=5→P l:=lenS fun a=>l4 (P:=fun r=>P (a::r)) (k a)
theorem wItems_fold {α σ : Type} {g : Hp → Prop} {P : V → Loc → Hp → KS → Prop} {fin : Loc → Hp → KS → Prop} {K : KS} (emb : α → V) (f : σ → α → σ) (I : σ → Loc → Hp → Prop) (n : σ → Nat) (hg : ∀ s loc H, I s loc H → g H) (hn : ∀ s r, n (f s r) ≤ n s + 1) (rows : List α) : ∀ (s : σ) (loc : Loc) (H : Hp) (m : Nat), n s + rows.length ≤ m →
  (∀ r∈rows,∀ s loc H K',n s < m→I s loc H→(∀ fl loc' H',(fl=.next∨fl=.cont)→I (f s r) loc' H'→K' fl loc' H')→P (emb r) loc H K')→(∀ loc H,I (rows.foldl f s) loc H→fin loc H K)→I s loc H→wItems g P fin (rows.map emb) loc H K:=by
 induction rows with
 | nil=>exact fun s loc H m hm st fi hI=>⟨hg _ _ _ hI,fi _ _ hI⟩
 | cons r rows ih =>
   intro s loc H m hm st fi hI
   refine ⟨hg _ _ _ hI,st r (.head _) s loc H _ (Nat.lt_of_lt_of_le (Nat.lt_add_of_pos_right (Nat.succ_pos _)) hm) hI fun fl loc' H' hf hI'=>?_⟩
   have:=ih (f s r) loc' H' m (Nat.le_trans (Nat.add_le_add_right (hn s r) _) (Nat.le_trans (Nat.le_of_eq (Nat.succ_add_eq_add_succ _ _)) hm)) (fun r hr=>st r (.tail _ hr)) fi hI'
   rcases hf with rfl | rfl <;> exact this
theorem blt_nat {n:Nat} (h:(Nat.blt 0 n&&Nat.ble n 1000000)=true):0 < (n:Int)∧(n:Int) < small:=by
 obtain ⟨a,b⟩:=Bool.and_eq_true_iff.mp h
 exact ⟨Int.natCast_pos.mpr (Nat.le_of_ble_eq_true a),Int.lt_of_le_of_lt (Int.ofNat_le.mpr (Nat.le_of_ble_eq_true b)) (by decide)⟩
theorem b_fdN {x n:Nat} {H:Hp} {K:KV} (h:0 < n∧n≤1000000) (k:K (.int ((x / n:Nat):Int)) H):wBin .FloorDiv (.int x) (.int n) H K :=
 b_fdiv (blt_nat (Bool.and_eq_true_iff.mpr ⟨Nat.ble_eq_true_of_le h.1,Nat.ble_eq_true_of_le h.2⟩)) (by rw [fd_nat];exact k)
theorem b_fdL {x n:Nat} {H:Hp} {K:KV} (h:(Nat.blt 0 n&&Nat.ble n 1000000)=true) (k:K (.int ((x / @OfNat.ofNat Nat n _:Nat):Int)) H):wBin .FloorDiv (.int x) (.int (@OfNat.ofNat Int n _)) H K :=
 b_fdiv (blt_nat h) (by rw [fd_lit];exact k)
theorem b_mdL {x n:Nat} {H:Hp} {K:KV} (h:(Nat.blt 0 n&&Nat.ble n 1000000)=true) (k:K (.int ((x % @OfNat.ofNat Nat n _:Nat):Int)) H):wBin .Mod (.int x) (.int (@OfNat.ofNat Int n _)) H K :=
 b_mod (blt_nat h) (by rw [fm_lit];exact k)
theorem b_powN {a n:Nat} {H:Hp} {K:KV} (h:n≤10) (ha:Nat.ble a 1000=true) (k:K (.int ((a ^ n:Nat):Int)) H):wBin .Pow (.int (@OfNat.ofNat Int a _)) (.int n) H K :=
 b_pow ⟨Int.natCast_nonneg a,Int.lt_of_le_of_lt (Int.ofNat_le.mpr (Nat.le_of_ble_eq_true ha)) (by decide),Int.natCast_nonneg n,Int.lt_of_le_of_lt (Int.ofNat_le.mpr h) (by decide)⟩ (by
  have:((a ^ n:Nat):Int)=(a:Int) ^ n:=Int.natCast_pow a n
  rw [this] at k;exact k)
theorem sm_mil {n:Nat} (h:n≤1000000):-small < (n:Int)∧(n:Int) < small:=⟨Int.lt_of_lt_of_le (by decide) (Int.natCast_nonneg n),Int.lt_of_le_of_lt (Int.ofNat_le.mpr h) (by decide)⟩
theorem b_mulN {a b:Nat} {H:Hp} {K:KV} (ha:a≤1000000) (hb:b≤1000000) (k:K (.int ((a * b:Nat):Int)) H):wBin .Mult (.int a) (.int b) H K :=
 b_mul ⟨(sm_mil ha).1,(sm_mil ha).2,sm_mil hb⟩ (Int.natCast_mul a b▸k)
end Mine
end
open Mine PySem PySem.Spec PySem.Calls PyProof.Rows PySem.W PySem.SeqAt
set_option compiler.extract_closed false
local macro_rules | `(tactic| walk_at "a2") => `(tactic| with_reducible assumption)
local macro_rules | `(tactic| walk_at "A2") => `(tactic| assumption)
local macro_rules | `(tactic| walk_at "r2") => `(tactic| rfl)
local macro_rules | `(tactic| walk_at "d2") => `(tactic| decide)
local macro_rules | `(tactic| walk_at "e2") => `(tactic| exact ⟨rfl, rfl⟩)
local macro_rules | `(tactic| walk_at "k2") => alts "a2 Kn.put:k Kn.puts:k"
local macro_rules | `(tactic| walk_at "g2") => alts "a2 Kn.get:kr Loc.get_self: Loc.get_other:dg r2"
local macro_rules | `(tactic| walk_at "h2") => alts "a2 Hp.set_self:uuu Hp.old:ah"
local macro_rules | `(tactic| walk_at "n2") => alts "a2 Kn.nm:aur"
local macro_rules | `(tactic| walk_at "p2") => `(tactic| first | exact x_pn0 | ((refine' x_pn ?n1 ?n2); (case n1 => with_reducible assumption); (case n2 => walk_at "p2")))
local macro_rules | `(tactic| walk_at "m2") => alts "x_NL:ag_ x_NG:aa_ x_NC:ag_"
local macro_rules | `(tactic| walk_at "l2") => alts "b_add:_ b_sub:_ b_and:_ b_fdL:r_ b_mdL:r_ b_fdiv:d_ b_mod:d_ b_pow:d_ b_shr:d_ b_mul:d_ t_eqI:_ t_neI:_ t_eqS:_ t_isON:_ t_inNN:_ k_ifT:_ k_ifF:_ k_andT:_ k_andF:_ k_notT:_ k_notF:_ k_not:_ k_whT:_ k_whF:_ v_int:_ v_bool:_ v_none:_ i_tup:_"
local macro_rules | `(tactic| walk_at "ex2") => alts "x_P:kr_ x_Ps:kr_ x_tP:kr_ m2 l2 x_int:_ x_str:_ x_none:_ x_Bin:_ x_Neg:_ x_Cmp:_r x_IfS:_ z_IfE:_ x_CallG:AA_rrd x_CallL:ng_rrd x_Meth:e_rrd x_Attr:_r x_SubS:_ x_Sub:_r x_List:_ x_Tup:_ x_es0:_ x_es:_r z_not:_ x_tAll:_ x_tCmp:_r x_tName:_ x_tCall:_ x_tAttr:_ x_and0:_ z_and:_"
local macro_rules | `(tactic| walk_at "st2") => alts "ex2 x_asg:krrr_ x_asgT:krrrr_ x_augP:krrr_ x_retP:kr_ x_nilT:_ x_retT:_ x_brkT:_ x_conT:_ x_nextT:_ x_contW:_ x_brkW:_ x_doc:_ x_Expr:_ x_Ret:_ x_Brk:_ x_Con:_ x_Assign:_rr x_AugAdd:ag_ x_AugSub:ag_ z_If:_ x_For:_rr x_as0:_ x_as:_ x_aN:n_ x_aS:_ x_aA:_ x_aTN:krr_ x_aT:rp_ len_ok:r_ x_itN:_ x_itM:_ x_itL:_ x_itR1:AA_r x_itR2:AA_rr x_itE:AA_r"
section
namespace Mine
open PySem PySem.Spec PySem.Calls PyProof.Rows
structure SB (S:Sy):Prop where
 bi:∀ {f args H K},BI f args H K→S.C f args H K
 len:S.G "len" = some (.lit (.builtin "len"))
 list:S.G "list" = some (.lit (.type "list"))
 str:S.G "str" = some (.lit (.type "str"))
 set:S.G "set" = some (.lit (.type "set"))
 range:S.G "range" = some (.lit (.type "range"))
 enum:S.G "enumerate" = some (.lit (.type "enumerate"))
noncomputable abbrev ifS:Scope:=fnScope "S_IFMT" topB
theorem nm_if:∀ x,hasS ["mode"] x=true→ifS.names.lookup x=some .local:=nm_of (by decide +kernel)
theorem c_ifmt (S:Sy) {i:Int} (H:Hp) (K:KS) (hK:∀ loc,K (.ret (.int (Builtin.bitAnd i 61440))) loc H):wSs S (fnScope "S_IFMT" topB) (fnBody "S_IFMT" topB) [("mode",some (.int i))] H K:=by
 have k:Kn ifS ["mode"] [("mode",.int i)] [("mode",some (.int i))]:=Kn.init nm_if
 with_unfolding_all refine x_doc ?_
 repeat walk_at "st2"
 exact hK _
noncomputable def kinds5:List Nat:=[8,4,8,4,8]
noncomputable def wordsOf (bs:List Nat):List V:=(kinds5.zip bs).map fun kb=>.int ((kb.1 * 4096+kb.2:Nat):Int)
def Bits5 (bs:List Nat):Prop:=bs.length=5∧∀ b∈bs,b < 4096
theorem words_len {bs:List Nat} (h:Bits5 bs):(wordsOf bs).length=5:=by
 unfold wordsOf;rw [List.length_map,List.length_zip,h.1];rfl
theorem bits_set {bs:List Nat} (h:Bits5 bs) {b1:Nat} (h1:b1 < 4096) (n:Nat):Bits5 (bs.set n b1) :=
 ⟨List.length_set.trans h.1,fun b hb=>(List.mem_or_eq_of_mem_set hb).elim (h.2 b) fun e=>e▸h1⟩
theorem words_ps {bs : List Nat} (h5 : Bits5 bs) {pl : Nat} (hp : pl < 5) : ∃ k0 b0, k0 ≤ 8 ∧ b0 < 4096 ∧ (wordsOf bs)[pl]? = some (.int ((k0 * 4096 + b0 : Nat) : Int)) ∧
  ∀ b1,b1 < 4096→(wordsOf bs).set pl (.int ((k0 * 4096+b1:Nat):Int))=wordsOf (bs.set pl b1)∧Bits5 (bs.set pl b1):=by
 have hs:=fun b1 h=>bits_set (b1:=b1) h5 h pl
 obtain ⟨hl,hb⟩:=h5
 refine (l5 (P:=fun bs=>(∀ b1,b1 < 4096→Bits5 (bs.set pl b1))→(∀ b∈bs,b < 4096)→∃ k0 b0,k0≤8∧b0 < 4096∧(wordsOf bs)[pl]?=some (.int ((k0 * 4096+b0:Nat):Int))∧∀ b1,b1 < 4096→(wordsOf bs).set pl (.int ((k0 * 4096+b1:Nat):Int))=wordsOf (bs.set pl b1)∧Bits5 (bs.set pl b1)) (fun a b c d e hs hb=>?_) bs hl) hs hb
 rcases pl with _ | _ | _ | _ | _ | pl
 ·exact ⟨8,a,by decide,hb _ (.head _),rfl,fun b1 h=>⟨rfl,hs b1 h⟩⟩
 ·exact ⟨4,b,by decide,hb _ (.tail _ (.head _)),rfl,fun b1 h=>⟨rfl,hs b1 h⟩⟩
 ·exact ⟨8,c,by decide,hb _ (.tail _ (.tail _ (.head _))),rfl,fun b1 h=>⟨rfl,hs b1 h⟩⟩
 ·exact ⟨4,d,by decide,hb _ (.tail _ (.tail _ (.tail _ (.head _)))),rfl,fun b1 h=>⟨rfl,hs b1 h⟩⟩
 ·exact ⟨8,e,by decide,hb _ (.tail _ (.tail _ (.tail _ (.tail _ (.head _))))),rfl,fun b1 h=>⟨rfl,hs b1 h⟩⟩
 ·exact absurd hp (Nat.not_lt_of_le (Nat.le_add_left 5 pl))
theorem set_set (H:Hp) (a:Addr) (o o':O):(H.set a o).set a o'=H.set a o':=by
 funext b
 by_cases q:b=a
 ·rw [q,Hp.set_self,Hp.set_self]
 ·rw [Hp.set_ne _ _ q,Hp.set_ne _ _ q,Hp.set_ne _ _ q]
theorem si_n {i n:Nat} (h:i < n):seqIndex? (i:Int) n=some i:=by rw [seqIndex_of (Int.natCast_nonneg i) (Int.ofNat_lt.mpr h)];simp
theorem fd_word {k b:Nat} (hb:b < 4096):(k * 4096+b) / 4096=k:=by
 rw [Nat.mul_comm,Nat.mul_add_div (by decide),Nat.div_eq_of_lt hb];rfl
noncomputable abbrev dnS:Scope:=fnScope "_law_done" topB
noncomputable abbrev dnN:List Str:=["words", "numbers", "after", "x", "bits", "word", "kind"]
theorem nm_dn:∀ x,hasS dnN x=true→dnS.names.lookup x=some .local:=nm_of (by decide +kernel)
theorem gl_dn:dnS.names.lookup ("list" : Str)=some .globalImplicit:=by decide +kernel
theorem c_done {S : Sy} (B : SB S) {a b : Addr} {bs : List Nat} {ns : List Int} {H : Hp} {K : KS} (ha : H a = some (.list (wordsOf bs))) (hb : H b = some (.list (ns.map .int))) (h5 : Bits5 bs) 
  (hK:∀ loc bs' c,Bits5 bs'→H c=none→K (.ret (.obj c)) loc (H.set c (.list (wordsOf bs')))) : 
  wSs S (fnScope "_law_done" topB) (fnBody "_law_done" topB) [("words",some (.obj a)),("numbers",some (.obj b))] H K:=by
 have k:Kn dnS dnN [("words",.obj a),("numbers",.obj b)] [("words",some (.obj a)),("numbers",some (.obj b))]:=Kn.init nm_dn
 have l1:=gl_dn
 have g1:=B.list
 with_unfolding_all refine x_Assign ?_ rfl rfl
 repeat walk_at "st2"
 refine B.bi (.copy ha (words_len h5▸by decide) fun c hc=>?_)
 repeat walk_at "st2"
 have hbc:∀ o,(H.set c o) b=some (.list (ns.map .int)):=fun o=>Hp.old hc hb
 refine .inl ⟨b,_,rfl,hbc _,?_⟩
 refine wItems_inv (fun i loc H'=>∃ bs',Kn dnS dnN [("after",.obj c)] loc∧Bits5 bs'∧H'=H.set c (.list (wordsOf bs'))) _ [] _ _ ?_ ?_ ?_ ⟨bs,Kn.sub ["after"] (by walk_at "k2") rfl,h5,rfl⟩
 ·rintro i loc H' ⟨bs',_,_,rfl⟩
  exact hbc _
 ·clear k
  rintro i x loc H' K' hx ⟨bs',k,hb',rfl⟩ k'
  rw [List.nil_append,List.getElem?_map] at hx
  obtain ⟨n,_,rfl⟩:=Option.map_eq_some_iff.mp hx
  obtain ⟨bits,eb,lb⟩:=fmod_nat (n.fdiv 15) (y:=4096) (by decide)
  obtain ⟨pl,ep,lp⟩:=fmod_nat n (y:=5) (by decide)
  have lp:pl < 5:=Int.ofNat_lt.mp lp
  have hbits:bits < 4096:=Int.ofNat_lt.mp lb
  have hsi:seqIndex? ((pl:Nat):Int) (wordsOf bs').length=some pl:=words_len hb'▸si_n lp
  have hsm:=sm_nat (Nat.le_trans (Nat.le_of_lt lp) (by decide):pl≤100)
  obtain ⟨k0,b0,hk0,hb0,hwv,hws⟩:=words_ps hb' lp
  repeat walk_at "st2"
  rw [eb]
  repeat walk_at "st2"
  rw [ep]
  refine g_list (Hp.set_self _ _ _) hsm hsi hwv ?_
  repeat walk_at "st2"
  have pt:∀ {b1:Nat} {v:Int} {KH:Hp→Prop},v=((k0 * 4096+b1:Nat):Int)→b1 < 4096→(Bits5 (bs'.set pl b1)→KH (H.set c (.list (wordsOf (bs'.set pl b1)))))→wPut (.obj c) (.int (n.fmod 5)) (.int v) (H.set c (.list (wordsOf bs'))) KH:=fun {b1 v KH} hv h3 hk=>by
   rw [hv,ep]
   refine p_list (Hp.set_self _ _ _) hsm hsi ?_
   rw [set_set,(hws b1 h3).1]
   exact hk (hws b1 h3).2
  refine k_ie (fun Z=>?_) fun Z=>?_
  ·repeat walk_at "st2"
   refine pt (b1:=b0 ||| bits) (by rw [bor_nat,lo_or hb0 hbits]) (Nat.or_lt_two_pow (n:=12) hb0 hbits) fun h6=>?_
   repeat walk_at "st2"
   exact k' _ _ _ (.inl rfl) ⟨_,Kn.sub ["after"] (by walk_at "k2") rfl,h6,rfl⟩
  ·repeat walk_at "st2"
   refine k_ie (fun Z=>?_) fun Z=>?_
   ·repeat walk_at "st2"
    have hle:b0 &&& bits≤b0:=Nat.and_le_left
    refine pt (b1:=b0 - (b0 &&& bits)) (by rw [band_nat,lo_and hb0 hbits,csub (Nat.le_trans hle (Nat.le_add_left _ _)),Nat.add_sub_assoc hle]) (Nat.lt_of_le_of_lt (Nat.sub_le _ _) hb0) fun h6=>?_
    repeat walk_at "st2"
    exact k' _ _ _ (.inl rfl) ⟨_,Kn.sub ["after"] (by walk_at "k2") rfl,h6,rfl⟩
   ·repeat walk_at "st2"
    rw [fd_word hb0]
    have h8:=sm_nat (Nat.le_trans hk0 (by decide):k0≤100)
    refine b_mul ⟨h8.1,h8.2,by decide,by decide⟩ ?_
    repeat walk_at "st2"
    refine pt (b1:=bits) rfl hbits fun h6=>?_
    repeat walk_at "st2"
    exact k' _ _ _ (.inl rfl) ⟨_,Kn.sub ["after"] (by walk_at "k2") rfl,h6,rfl⟩
 ·rintro loc H' ⟨bs',k,hb',rfl⟩
  repeat walk_at "st2"
  exact hK _ _ _ hb' hc
noncomputable def chrS (s:Str) (i:Nat):Str:=⟨#[s.cps.getD i 0]⟩
theorem chr_get {s:Str} {i:Nat} (h:i < s.cps.size):s.cps[i]?=some (s.cps.getD i 0):=by simp [Array.getD,h]
theorem str_len1 (s:Str) (i:Nat):(chrS s i).length=1:=rfl
theorem str_app_len (x y:Str):(x++y).length=x.length+y.length:=PySem.strLen_append x y
theorem g_chr {s:Str} {n:Nat} {H:Hp} {K:KV} (h:n < s.cps.size) (hs:s.cps.size≤1000) (k:K (.str (chrS s n)) H):wGet (.str s) (.int n) H K :=
 g_str (Int.natCast_nonneg n) (sm_mil (Nat.le_trans (Nat.le_of_lt h) (Nat.le_trans hs (by decide)))).2 (by simpa using chr_get h) k
noncomputable def sgHd (w:Nat):Str:=if w / 4096=4 then "d" else "-"
noncomputable def sgPl (w pl:Nat) (acc:Str):Str:=((acc++chrS "-r" (w / 8 ^ pl % 8 / 4))++chrS "-w" (w / 8 ^ pl % 8 / 2 % 2))++chrS (if pl=0 then ("-xTt" : Str) else ("-xSs" : Str)) (w / (512 * 2 ^ pl) % 2 * 2+w / 8 ^ pl % 8 % 2)
noncomputable def sgK (w:Nat):Nat→Str
 | 0=>sgHd w
 | i+1=>sgPl w (2 - i) (sgK w i)
noncomputable def sgS (w:Nat):Str:=sgK w 3
theorem sgHd_len (w:Nat):(sgHd w).length=1:=by
 unfold sgHd
 by_cases q:w / 4096=4
 ·rw [if_pos q];rfl
 ·rw [if_neg q];rfl
theorem sgPl_len (w pl:Nat) (s:Str):(sgPl w pl s).length=s.length+3:=by
 unfold sgPl;rw [str_app_len,str_app_len,str_app_len,str_len1,str_len1,str_len1]
theorem big_line {n:Nat} (h:n≤100):n≤sizeLine:=Nat.le_trans h (by decide)
noncomputable abbrev sgSc:Scope:=fnScope "_law_signs" topB
noncomputable abbrev sgN:List Str:=["word", "signs", "place", "bits", "marks"]
theorem nm_sg:∀ x,hasS sgN x=true→sgSc.names.lookup x=some .local:=nm_of (by decide +kernel)
noncomputable def sgE (w:Nat) (s:Str):En:=[("word",.int w),("signs",.str s)]
noncomputable abbrev sgL:List Str:=["word", "signs"]
noncomputable def sgFor:List Stmt:=bodyOf (stAt (fnBody "_law_signs" topB) 1)
theorem pow_le {a p m:Nat} (ha:0 < a) (h:p≤2) (hm:a ^ 2≤m):0 < a ^ p∧a ^ p≤m:=⟨Nat.pow_pos ha,Nat.le_trans (Nat.pow_le_pow_right ha h) hm⟩
theorem m2 {a:Nat}:a % 2 * 2≤2:=Nat.mul_le_mul_right 2 (Nat.le_of_lt_succ (Nat.mod_lt a (by decide)))
theorem cat3 {x:Str} {n:Nat} {y:Str} {i:Nat} {H:Hp} {K:KV} (hx:x.length=n) (hn:n≤50) (k:K (.str (x++chrS y i)) H):wBin .Add (.str x) (.str (chrS y i)) H K :=
 b_cat (big_line (by rw [hx,str_len1];exact Nat.le_trans (Nat.succ_le_succ hn) (by decide))) k
theorem sg_turn {S:Sy} {w pl n:Nat} {s:Str} {loc:Loc} {H:Hp} {K:KS} (hp:pl≤2) (hs:s.length=n) (hn:n≤40) (k:Kn sgSc sgN (("place",.int pl)::sgE w s) loc) (hK:∀ loc,Kn sgSc sgN (sgE w (sgPl w pl s)) loc→K .next loc H):wSs S sgSc sgFor loc H K:=by
 obtain ⟨h80,h8⟩:=pow_le (a:=8) (m:=1000) (by decide) hp (by decide)
 obtain ⟨h20,h2⟩:=pow_le (a:=2) (m:=4) (by decide) hp (by decide)
 with_unfolding_all refine x_Assign ?_ rfl rfl
 repeat walk_at "st2"
 refine b_powN (Nat.le_trans hp (by decide)) rfl ?_
 refine b_fdN ⟨h80,Nat.le_trans h8 (by decide)⟩ ?_
 repeat walk_at "st2"
 have hb8:w / 8 ^ pl % 8 < 8:=Nat.mod_lt _ (by decide)
 have hd4:w / 8 ^ pl % 8 / 4 < 2:=Nat.div_lt_of_lt_mul hb8
 refine g_chr hd4 (by decide) ?_
 refine cat3 hs (Nat.le_trans hn (by decide)) ?_
 have l1:(s++chrS "-r" (w / 8 ^ pl % 8 / 4)).length=n+1:=by rw [str_app_len,hs];rfl
 repeat walk_at "st2"
 refine g_chr (Nat.mod_lt _ (by decide):w / 8 ^ pl % 8 / 2 % 2 < 2) (by decide) ?_
 refine cat3 l1 (Nat.le_trans (Nat.succ_le_succ hn) (by decide)) ?_
 have l2:(s++chrS "-r" (w / 8 ^ pl % 8 / 4)++chrS "-w" (w / 8 ^ pl % 8 / 2 % 2)).length=n+2:=by rw [str_app_len,l1];rfl
 repeat walk_at "st2"
 refine b_powN (Nat.le_trans hp (by decide)) rfl ?_
 refine b_mulN (a:=512) (b:=2 ^ pl) (by decide) (Nat.le_trans h2 (by decide)) ?_
 refine b_fdN ⟨Nat.mul_pos (by decide) h20,Nat.le_trans (Nat.mul_le_mul_left 512 h2) (by decide)⟩ ?_
 repeat walk_at "st2"
 refine b_mulN (b:=2) (Nat.le_trans (Nat.le_of_lt (Nat.mod_lt _ (by decide))) (by decide)) (by decide) ?_
 repeat walk_at "st2"
 have e3:(if ((pl:Int)==0)=true then ("-xTt" : Str) else "-xSs")=if pl=0 then ("-xTt" : Str) else ("-xSs" : Str):=by
  cases pl <;> rfl
 rw [e3]
 have hm:(if pl=0 then ("-xTt" : Str) else ("-xSs" : Str)).cps.size=4:=by cases pl <;> rfl
 refine g_chr (n:=w / (512 * 2 ^ pl) % 2 * 2+w / 8 ^ pl % 8 % 2) ?_ (hm▸by decide) ?_
 ·rw [hm];exact Nat.lt_of_le_of_lt (Nat.add_le_add m2 (Nat.le_of_lt_succ (Nat.mod_lt _ (by decide)))) (by decide)
 refine cat3 l2 (Nat.le_trans (Nat.add_le_add_right hn 2) (by decide)) ?_
 repeat walk_at "st2"
 exact hK _ (Kn.sub sgL (by walk_at "k2") rfl)
theorem c_signs {S : Sy} {w : Nat} (hw : w < 1000000) {H : Hp} {K : KS} (hK : ∀ loc H', (∀ a o, H a = some o → H' a = some o) → K (.ret (.str (sgS w))) loc H') :
  wSs S (fnScope "_law_signs" topB) (fnBody "_law_signs" topB) [("word",some (.int w))] H K:=by
 have k:Kn sgSc sgN [("word",.int w)] [("word",some (.int w))]:=Kn.init nm_sg
 with_unfolding_all refine x_Assign ?_ rfl rfl
 repeat walk_at "st2"
 have e1:(if (((w / 4096:Nat):Int)==4)=true then ("d" : Str) else "-")=sgHd w:=by
  unfold sgHd
  by_cases q:w / 4096=4
  ·rw [if_pos q,if_pos (by rw [q];rfl)]
  ·rw [if_neg q];exact if_neg (c:=(((w / 4096:Nat):Int)==4)=true) fun h=>q (Int.ofNat.inj (eq_of_beq h))
 rw [e1]
 repeat walk_at "st2"
 intro c hc
 refine i_list (Hp.set_self _ _ _) ?_
 refine wItems_fold (fun p:Nat=>V.int p) (fun (s:Str×Nat) p=>(sgPl w p s.1,s.2+1)) (fun s loc H'=>H'=H.set c (.list [.int 2,.int 1,.int 0])∧Kn sgSc sgN (sgE w s.1) loc∧s.1.length=1+3 * s.2) (fun s=>s.2) (fun s loc H' i=>i.1▸Hp.set_self _ _ _) (fun Z Z=>Nat.le_refl _) [2,1,0] (sgHd w,0) _ _ 3 (Nat.le_refl 3) ?_ ?_ ⟨rfl,Kn.sub sgL (by walk_at "k2") rfl,sgHd_len w⟩
 ·rintro p hp ⟨s,n⟩ loc H' K' hn ⟨rfl,k,hl⟩ k'
  refine x_aN (k.nm "place" rfl) (sg_turn (n:=1+3 * n) ((by decide:∀ p∈[2,1,0],p≤2) p hp) hl (Nat.le_trans (Nat.add_le_add_left (Nat.mul_le_mul_left 3 (Nat.le_of_lt hn)) 1) (by decide)) (Kn.sub ("place" :: sgL) k.put rfl) fun loc k=>?_)
  exact k' _ _ _ (.inl rfl) ⟨rfl,k,(sgPl_len w p s).trans (congrArg (·+3) hl)⟩
 ·rintro loc H' ⟨rfl,k,_⟩
  repeat walk_at "st2"
  exact hK _ _ fun a o ha=>Hp.old hc ha
noncomputable def fmTab:List (List (Nat×Str)):=[[(40960, "l"),(49152, "s"),(32768, "-"),(24576, "b"),(16384, "d"),(8192, "c"),(4096, "p")],[(256, "r")],[(128, "w")],[(2112, "s"),(2048, "S"),(64, "x")],[(32, "r")],[(16, "w")],[(1032, "s"),(1024, "S"),(8, "x")],[(4, "r")],[(2, "w")],[(513, "t"),(512, "T"),(1, "x")]]
noncomputable def fmRow (r:Nat×Str):V:=.tup [.int r.1,.str r.2]
noncomputable def fmV:V:=.tup (fmTab.map fun t=>.tup (t.map fmRow))
noncomputable def fmHit (i w:Nat) (r:Nat×Str):Bool:=if i=0 then (w &&& 61440)==r.1 else (w &&& r.1)==r.1
noncomputable def fmPick (i w:Nat) (t:List (Nat×Str)):Str:=match t.find? (fmHit i w) with
 | some r=>r.2
 | none=>if i=0 then "?" else "-"
noncomputable def fmL (w:Nat):Nat→List (List (Nat×Str))→List Str
 | _,[]=>[]
 | i,t::r=>fmPick i w t::fmL w (i+1) r
noncomputable def fmS (w:Nat):Str:=Txt.join "" (fmL w 0 fmTab)
theorem wItems_find {α : Type} {g : Hp → Prop} {P : V → Loc → Hp → KS → Prop} {fin : Loc → Hp → KS → Prop} {K : KS} (f : α → V) (hit : α → Bool) (I : Loc → Prop) (Hx : α → Hp) {H : Hp} (hg : g H) (rows : List α) : ∀ (loc : Loc),
  (∀ x∈rows,∀ loc K',I loc→(hit x=true→∀ loc',I loc'→K' .brk loc' (Hx x))→(hit x=false→∀ loc',I loc'→K' .next loc' H)→P (f x) loc H K') →
  (rows.find? hit=none→∀ loc,I loc→fin loc H K)→(∀ x,rows.find? hit=some x→∀ loc,I loc→K .next loc (Hx x))→I loc→wItems g P fin (rows.map f) loc H K:=by
 induction rows with
 | nil=>exact fun loc st fi fo hI=>⟨hg,fi rfl _ hI⟩
 | cons x r ih => exact fun loc st fi fo hI => ⟨hg, st x (.head _) loc _ hI (fun hh => fo x (List.find?_cons_of_pos hh)) fun hh loc' hI' =>
   have e:(x::r).find? hit=r.find? hit:=List.find?_cons_of_neg (hh▸nofun)
   ih loc' (fun y hy=>st y (.tail _ hy)) (fun q=>fi (e.trans q)) (fun y q=>fo y (e.trans q)) hI'⟩
noncomputable abbrev fmSc:Scope:=fnScope "filemode" topB
noncomputable abbrev fmN:List Str:=["mode", "perm", "index", "table", "bit", "char"]
theorem nm_fm:∀ x,hasS fmN x=true→fmSc.names.lookup x=some .local:=nm_of (by decide +kernel)
theorem gl_fm:fmSc.names.lookup ("enumerate" : Str)=some .globalImplicit∧fmSc.names.lookup ("_filemode_table" : Str)=some .globalImplicit∧fmSc.names.lookup ("S_IFMT" : Str)=some .globalImplicit:=by decide +kernel
noncomputable def fmA (w:Nat) (c:Addr):En:=[("mode",.int w),("perm",.obj c)]
noncomputable def fmE (w:Nat) (c:Addr) (i:Nat):En:=[("mode",.int w),("perm",.obj c),("index",.int i)]
noncomputable abbrev fmLs:List Str:=["mode", "perm", "index"]
theorem fmL_at (w:Nat):∀ (ts:List (List (Nat×Str))) (k i:Nat),(fmL w k ts)[i]?=(ts[i]?).map (fmPick (k+i) w)
 | [],_,_=>rfl
 | t::r,k,0=>rfl
 | t::r,k,i+1=>(fmL_at w r (k+1) i).trans (by rw [Nat.succ_add_eq_add_succ];rfl)
theorem fmPick_len {w k:Nat} {t:List (Nat×Str)} (h:∀ r∈t,r.2.length≤1):(fmPick k w t).length≤1:=by
 unfold fmPick
 cases e:t.find? (fmHit k w) with
 | some r'=>exact h _ (List.mem_of_find?_eq_some e)
 | none =>
   show (if k=0 then ("?" : Str) else "-").length≤1
   by_cases q:k=0
   ·rw [if_pos q];decide
   ·rw [if_neg q];decide
theorem fmL_sum (w:Nat):∀ (ts:List (List (Nat×Str))) (k:Nat),(∀ t∈ts,∀ r∈t,r.2.length≤1)→((fmL w k ts).map (·.length)).sum≤ts.length
 | [],k,_=>Nat.le_refl _
 | t::r,k,h=>Nat.le_trans (Nat.add_le_add (fmPick_len (h t (.head _))) (fmL_sum w r (k+1) fun t' ht'=>h t' (.tail _ ht'))) (Nat.le_of_eq (Nat.add_comm _ _))
theorem strsOf_strs:∀ (l:List Str),strsOf (l.map V.str)=some l
 | []=>rfl
 | a::r=>by show (strsOf (r.map V.str)).map (a::·)=_;rw [strsOf_strs r];rfl
theorem beq_nat {a b:Nat}:((a:Int)==(b:Int))=(a==b):=by
 rw [Bool.eq_iff_iff,beq_iff_eq,beq_iff_eq]
 exact ⟨Int.ofNat.inj,congrArg _⟩
theorem c_filemode {S : Sy} (B : SB S) {w : Nat} (hw : w < 1000000) {H : Hp} {K : KS} (gt : S.G "_filemode_table" = some fmV) (gi : S.G "S_IFMT" = some (.lit (.ref 295)))
  (ci:∀ {i:Int} {H:Hp} {K:KV},K (.int (Builtin.bitAnd i 61440)) H→S.C (.lit (.ref 295)) [.int i] H K) (hK:∀ loc H',(∀ a o,H a=some o→H' a=some o)→K (.ret (.str (fmS w))) loc H') :
  wSs S (fnScope "filemode" topB) (fnBody "filemode" topB) [("mode",some (.int w))] H K:=by
 have k:Kn fmSc fmN [("mode",.int w)] [("mode",some (.int w))]:=Kn.init nm_fm
 obtain ⟨l1,l2,l3⟩:=gl_fm
 have g1:=B.enum
 with_unfolding_all refine x_doc ?_
 repeat walk_at "st2"
 intro c hc
 repeat walk_at "st2"
 refine .inr ⟨_,rfl,?_⟩
 have ll:(fmL w 0 fmTab).length=10:=rfl
 refine wItems_inv (fun i loc H'=>H'=H.set c (.list (((fmL w 0 fmTab).take i).map .str))∧Kn fmSc fmN (fmA w c) loc) _ [] _ _ (fun Z Z Z Z=>trivial) ?_ ?_ ⟨rfl,Kn.sub ["mode", "perm"] (by walk_at "k2") rfl⟩
 ·clear k
  rintro i x loc H' K' hx ⟨rfl,k⟩ k'
  rw [List.nil_append,pairs_at,List.getElem?_map,Int.zero_add] at hx
  obtain ⟨v,hv,rfl⟩:=Option.map_eq_some_iff.mp hx
  obtain ⟨t,ht,rfl⟩:=Option.map_eq_some_iff.mp hv
  have hp:(fmL w 0 fmTab)[i]?=some (fmPick i w t):=(fmL_at w fmTab 0 i).trans (by rw [ht,Nat.zero_add];rfl)
  have hi:i < 10:=ll▸(List.getElem?_eq_some_iff.mp hp).1
  have fin:∀ {loc' ch},fmPick i w t=ch→Kn fmSc fmN (fmE w c i) loc'→K' .next loc' ((H.set c (.list (((fmL w 0 fmTab).take i).map .str))).set c (.list (((fmL w 0 fmTab).take i).map .str++[.str ch]))):=fun {loc' ch} hch k=>by
   refine k' _ _ _ (.inl rfl) ⟨?_,k.sub ["mode", "perm"] rfl⟩
   rw [set_set,List.take_add_one,hp,hch,Option.toList,List.map_append];rfl
  have hpl:(((fmL w 0 fmTab).take i).map V.str).length≤4096:=map_len (Nat.le_trans (List.length_take_le i _) (Nat.le_trans (Nat.le_of_lt hi) (by decide)))
  generalize ((fmL w 0 fmTab).take i).map V.str=P at *
  repeat walk_at "st2"
  refine wItems_find fmRow (fmHit i w) (fun loc'=>Kn fmSc fmN (fmE w c i) loc') (fun r=>(H.set c (.list P)).set c (.list (P++[V.str r.2]))) trivial t _ ?_ ?_ (fun r hr loc' k=>x_nextT (show wSs S fmSc [] _ _ K' from fin (ch:=r.2) (by unfold fmPick;rw [hr]) k)) (Kn.sub fmLs (by walk_at "k2") rfl)
  ·clear k
   intro r hr loc' K2 k kt kf
   have leaf:∀ {x:Bool},fmHit i w r=x→∀ {loc'},Kn fmSc fmN (fmE w c i) loc'→(x=true→K2 .brk loc' ((H.set c (.list P)).set c (.list (P++[.str r.2]))))∧(x=false→K2 .next loc' (H.set c (.list P))):=fun e Z k=>⟨fun q=>kt (e.trans q) _ k,fun q=>kf (e.trans q) _ k⟩
   repeat walk_at "st2"
   refine k_if (fun hz=>?_) fun hz=>?_
   ·have hz:i=0:=Int.ofNat.inj (eq_of_beq hz)
    repeat walk_at "st2"
    refine ci ?_
    repeat walk_at "st2"
    have hh:fmHit i w r=(Builtin.bitAnd (w:Int) 61440==(r.1:Int)):=by
     rw [show (61440:Int)=((61440:Nat):Int) from rfl,band_nat,beq_nat];exact if_pos hz
    refine k_if (fun h=>?_) fun h=>?_
    ·repeat walk_at "st2"
     refine cm_append (Hp.set_self _ _ _) ?_
     repeat walk_at "st2"
     refine B.bi (.append (Hp.set_self _ _ _) hpl ?_)
     repeat walk_at "st2"
     exact (leaf hh (Kn.sub fmLs (by walk_at "k2") rfl)).1 h
    ·repeat walk_at "st2"
     exact (leaf hh (Kn.sub fmLs (by walk_at "k2") rfl)).2 h
   ·have hz:¬ i=0:=fun q=>by rw [q] at hz;cases hz
    repeat walk_at "st2"
    have hh:fmHit i w r=(Builtin.bitAnd (w:Int) (r.1:Int)==(r.1:Int)):=by
     rw [band_nat,beq_nat];exact if_neg hz
    refine k_if (fun h=>?_) fun h=>?_
    ·repeat walk_at "st2"
     refine cm_append (Hp.set_self _ _ _) ?_
     repeat walk_at "st2"
     refine B.bi (.append (Hp.set_self _ _ _) hpl ?_)
     repeat walk_at "st2"
     exact (leaf hh (Kn.sub fmLs (by walk_at "k2") rfl)).1 h
    ·repeat walk_at "st2"
     exact (leaf hh (Kn.sub fmLs (by walk_at "k2") rfl)).2 h
  ·clear k
   intro hn loc' k
   repeat walk_at "st2"
   refine k_if (fun h=>?_) fun h=>?_
   ·repeat walk_at "st2"
    refine cm_append (Hp.set_self _ _ _) ?_
    repeat walk_at "st2"
    refine B.bi (.append (Hp.set_self _ _ _) hpl ?_)
    repeat walk_at "st2"
    exact fin (by unfold fmPick;rw [hn];exact if_pos (Int.ofNat.inj (eq_of_beq h))) k
   ·repeat walk_at "st2"
    refine cm_append (Hp.set_self _ _ _) ?_
    repeat walk_at "st2"
    refine B.bi (.append (Hp.set_self _ _ _) hpl ?_)
    repeat walk_at "st2"
    exact fin (by unfold fmPick;rw [hn];exact if_neg fun q=>by rw [q] at h;cases h) k
 ·rintro loc H' ⟨rfl,k⟩
  rw [List.nil_append,pairs_len,List.length_map,show (fmL w 0 fmTab).take fmTab.length=fmL w 0 fmTab from List.take_of_length_le (Nat.le_of_eq ll)]
  repeat walk_at "st2"
  refine cm_join ?_
  repeat walk_at "st2"
  refine B.bi (.join (Hp.set_self _ _ _) (strsOf_strs _) ?_ (hK _ _ fun a o ha=>Hp.old hc ha))
  exact Nat.le_trans (Nat.add_le_add (fmL_sum w fmTab 0 (by decide)) (Nat.le_of_eq (Nat.mul_zero _))) (by decide)
theorem and_pow (w k:Nat):((w &&& 2 ^ k)==2 ^ k)=decide (w / 2 ^ k % 2=1):=by
 rw [← Nat.testBit_eq_decide_div_mod_eq]
 cases h:w.testBit k with
 | true =>
   have:w &&& 2 ^ k=2 ^ k:=by
    apply Nat.eq_of_testBit_eq
    intro i
    rw [Nat.testBit_and,Nat.testBit_two_pow]
    by_cases q:k=i
    ·subst q;simp [h]
    ·simp [q]
   simp [this]
 | false =>
   rw [beq_eq_false_iff_ne]
   intro e
   have:=congrArg (fun x=>x.testBit k) e
   simp [Nat.testBit_and,h] at this
theorem and_pow2 (w j k:Nat) (hjk:j≠k):((w &&& (2 ^ j ||| 2 ^ k))==(2 ^ j ||| 2 ^ k))=(decide (w / 2 ^ j % 2=1)&&decide (w / 2 ^ k % 2=1)):=by
 rw [← Nat.testBit_eq_decide_div_mod_eq,← Nat.testBit_eq_decide_div_mod_eq]
 rw [Bool.eq_iff_iff,beq_iff_eq,Bool.and_eq_true]
 constructor
 ·intro e
  have h1:=congrArg (fun x=>x.testBit j) e
  have h2:=congrArg (fun x=>x.testBit k) e
  simp [Nat.testBit_and,Nat.testBit_or,Nat.testBit_two_pow] at h1 h2
  exact ⟨h1,h2⟩
 ·intro ⟨h1,h2⟩
  apply Nat.eq_of_testBit_eq
  intro i
  rw [Nat.testBit_and,Nat.testBit_or,Nat.testBit_two_pow,Nat.testBit_two_pow]
  by_cases q:j=i
  ·subst q;simp [h1]
  ·by_cases q':k=i
   ·subst q';simp [h2]
   ·simp [q,q']
end Mine
end
section
namespace Mine
open PySem PyProof.Rows
theorem two_mod (n:Nat):n % 2=0∨n % 2=1:=Nat.mod_two_eq_zero_or_one n
theorem hd_pick {k b:Nat} (hb:b < 4096) (hk:k=4∨k=8):fmPick 0 (k * 4096+b) (fmTab[0])=sgHd (k * 4096+b):=by
 have ea:(k * 4096+b) &&& 61440=k * 4096:=by
  have hk15:k &&& 15=k:=by rcases hk with rfl | rfl <;> rfl
  apply Nat.eq_of_testBit_eq
  intro i
  rw [Nat.testBit_and,lo_tb hb,show k * 4096=k * 4096+0 from rfl,lo_tb (b:=0) (by decide),show (61440:Nat)=15 * 4096+0 from rfl,lo_tb (b:=0) (by decide)]
  by_cases h:i < 12
  ·rw [if_pos h,if_pos h,if_pos h,Nat.zero_testBit,Bool.and_false]
  ·rw [if_neg h,if_neg h,if_neg h,← Nat.testBit_and,hk15]
 have eh:fmHit 0 (k * 4096+b)=fun r=>k * 4096==r.1:=by
  funext r
  unfold fmHit
  rw [if_pos rfl,ea]
 have ed:(k * 4096+b) / 4096=k:=by rw [Nat.mul_comm,Nat.mul_add_div (by decide),Nat.div_eq_of_lt hb];rfl
 unfold fmPick sgHd
 rw [eh,ed]
 rcases hk with rfl | rfl <;> rfl
theorem fm_place {w i:Nat} (hi:i≠0) (m:Nat) (c:Str) {j:Nat} (hm:m=2 ^ j) {s:Str} (h0:chrS s 0 = "-") (h1:chrS s 1=c):fmPick i w [(m,c)]=chrS s (w / 2 ^ j % 2):=by
 subst hm
 unfold fmPick
 have e:fmHit i w (2 ^ j,c)=decide (w / 2 ^ j % 2=1):=by
  unfold fmHit
  rw [if_neg hi]
  exact and_pow w j
 rcases two_mod (w / 2 ^ j) with h | h
 ·simp [List.find?,e,h,hi,h0]
 ·simp [List.find?,e,h,h1]
theorem fm_exec {w i : Nat} (hi : i ≠ 0) {m1 m2 m3 : Nat} {c1 c2 c3 : Str} {j k : Nat} (hjk : k ≠ j) (hm1 : m1 = (2 ^ k ||| 2 ^ j)) (hm2 : m2 = 2 ^ j) (hm3 : m3 = 2 ^ k) {s : Str} (h0 : chrS s 0 = "-") (h1 : chrS s 1 = c3) (h2 : chrS s 2 = c2) (h3 : chrS s 3 = c1) :
  fmPick i w [(m1,c1),(m2,c2),(m3,c3)]=chrS s (w / 2 ^ j % 2 * 2+w / 2 ^ k % 2):=by
 subst hm1 hm2 hm3
 unfold fmPick
 have e1:fmHit i w (2 ^ k ||| 2 ^ j,c1)=(decide (w / 2 ^ k % 2=1)&&decide (w / 2 ^ j % 2=1)):=by
  unfold fmHit;rw [if_neg hi];exact and_pow2 w k j hjk
 have e2:fmHit i w (2 ^ j,c2)=decide (w / 2 ^ j % 2=1):=by
  unfold fmHit;rw [if_neg hi];exact and_pow w j
 have e3:fmHit i w (2 ^ k,c3)=decide (w / 2 ^ k % 2=1):=by
  unfold fmHit;rw [if_neg hi];exact and_pow w k
 rcases two_mod (w / 2 ^ j) with h | h <;> rcases two_mod (w / 2 ^ k) with h' | h' <;> simp [List.find?,e1,e2,e3,h,h',hi,h0,h1,h2,h3]
theorem str_ext {x y:Str} (h:x.cps.toList=y.cps.toList):x=y:=PyProof.Rows.str_of_list h
theorem app_cps (x y:Str):(x++y).cps.toList=x.cps.toList++y.cps.toList:=PyProof.Rows.cps_toList_append x y
theorem glue10 (a b c d e f g h i j:Str):Txt.join "" [a,b,c,d,e,f,g,h,i,j]=((((((((a++b)++c)++d)++e)++f)++g)++h)++i)++j:=by
 apply str_ext
 simp only [app_cps]
 show (Builtin.Str.glued "" _).cps.toList=_
 unfold Builtin.Str.glued
 have e0:(("" : Str).cps:Array Nat)=#[]:=rfl
 simp [e0]
theorem bt4 (w a:Nat):w / a % 8 / 4=w / (a * 4) % 2:=by rw [← Nat.div_div_eq_div_mul];exact Nat.mod_mul_right_div_self (w / a) 4 2
theorem bt2 (w a:Nat):w / a % 8 / 2 % 2=w / (a * 2) % 2:=by rw [← Nat.div_div_eq_div_mul,show w / a % 8 / 2=w / a / 2 % 4 from Nat.mod_mul_right_div_self (w / a) 2 4];exact Nat.mod_mod_of_dvd _ (by decide)
theorem bt1 (x:Nat):x % 8 % 2=x % 2:=Nat.mod_mod_of_dvd x (by decide)
theorem fm_sg {k b:Nat} (hb:b < 4096) (hk:k=4∨k=8):fmS (k * 4096+b)=sgS (k * 4096+b):=by
 have h0:=hd_pick hb hk
 generalize k * 4096+b=w at *
 unfold fmS
 have el:fmL w 0 fmTab=[fmPick 0 w fmTab[0],fmPick 1 w [(256, "r")],fmPick 2 w [(128, "w")],fmPick 3 w [(2112, "s"),(2048, "S"),(64, "x")],fmPick 4 w [(32, "r")],fmPick 5 w [(16, "w")],fmPick 6 w [(1032, "s"),(1024, "S"),(8, "x")],fmPick 7 w [(4, "r")],fmPick 8 w [(2, "w")],fmPick 9 w [(513, "t"),(512, "T"),(1, "x")]]:=rfl
 rw [el,glue10,h0,
  fm_place (i:=1) (by decide) 256 "r" (j:=8) (by decide) (s := "-r") rfl rfl,fm_place (i:=2) (by decide) 128 "w" (j:=7) (by decide) (s := "-w") rfl rfl,
  fm_exec (i:=3) (by decide) (m1:=2112) (m2:=2048) (m3:=64) (c1 := "s") (c2 := "S") (c3 := "x") (j:=11) (k:=6) (by decide) (by decide) (by decide) (by decide) (s := "-xSs") rfl rfl rfl rfl,
  fm_place (i:=4) (by decide) 32 "r" (j:=5) (by decide) (s := "-r") rfl rfl,fm_place (i:=5) (by decide) 16 "w" (j:=4) (by decide) (s := "-w") rfl rfl,
  fm_exec (i:=6) (by decide) (m1:=1032) (m2:=1024) (m3:=8) (c1 := "s") (c2 := "S") (c3 := "x") (j:=10) (k:=3) (by decide) (by decide) (by decide) (by decide) (s := "-xSs") rfl rfl rfl rfl,
  fm_place (i:=7) (by decide) 4 "r" (j:=2) (by decide) (s := "-r") rfl rfl,fm_place (i:=8) (by decide) 2 "w" (j:=1) (by decide) (s := "-w") rfl rfl,
  fm_exec (i:=9) (by decide) (m1:=513) (m2:=512) (m3:=1) (c1 := "t") (c2 := "T") (c3 := "x") (j:=9) (k:=0) (by decide) (by decide) (by decide) (by decide) (s := "-xTt") rfl rfl rfl rfl]
 unfold sgS
 simp only [sgK,sgPl]
 have a1:w / 8 ^ (2 - 0) % 8 / 4=w / 2 ^ 8 % 2:=bt4 w (8 ^ (2 - 0))
 have a2:w / 8 ^ (2 - 0) % 8 / 2 % 2=w / 2 ^ 7 % 2:=bt2 w (8 ^ (2 - 0))
 have a3:w / (512 * 2 ^ (2 - 0)) % 2 * 2+w / 8 ^ (2 - 0) % 8 % 2=w / 2 ^ 11 % 2 * 2+w / 2 ^ 6 % 2:=congrArg (w / 2 ^ 11 % 2 * 2+·) (bt1 _)
 have b1:w / 8 ^ (2 - 1) % 8 / 4=w / 2 ^ 5 % 2:=bt4 w (8 ^ (2 - 1))
 have b2:w / 8 ^ (2 - 1) % 8 / 2 % 2=w / 2 ^ 4 % 2:=bt2 w (8 ^ (2 - 1))
 have b3:w / (512 * 2 ^ (2 - 1)) % 2 * 2+w / 8 ^ (2 - 1) % 8 % 2=w / 2 ^ 10 % 2 * 2+w / 2 ^ 3 % 2:=congrArg (w / 2 ^ 10 % 2 * 2+·) (bt1 _)
 have c1:w / 8 ^ (2 - 2) % 8 / 4=w / 2 ^ 2 % 2:=bt4 w (8 ^ (2 - 2))
 have c2:w / 8 ^ (2 - 2) % 8 / 2 % 2=w / 2 ^ 1 % 2:=bt2 w (8 ^ (2 - 2))
 have c3:w / (512 * 2 ^ (2 - 2)) % 2 * 2+w / 8 ^ (2 - 2) % 8 % 2=w / 2 ^ 9 % 2 * 2+w / 2 ^ 0 % 2:=congrArg (w / 2 ^ 9 % 2 * 2+·) (bt1 _)
 rw [a1,a2,a3,b1,b2,b3,c1,c2,c3]
 rfl
end Mine
end
section
namespace Mine
section
variable {α:Type} [DecidableEq α] [Inhabited α]
noncomputable def atH (h:List α) (i:Nat):α:=h.getD i default
theorem atH_set {h:List α} {i j:Nat} {x:α} (hi:i < h.length):atH (h.set i x) j=if i=j then x else atH h j:=by
 unfold atH
 simp only [List.getD_eq_getElem?_getD,List.getElem?_set]
 by_cases q:i=j
 ·subst q;simp [hi]
 ·simp [q]
theorem atH_get {h:List α} {i:Nat} (hi:i < h.length):h[i]?=some (atH h i):=by
 unfold atH;simp [hi]
theorem atH_app {h:List α} {x:α} {i:Nat} (hi:i < h.length):atH (h++[x]) i=atH h i:=by
 unfold atH;simp only [List.getD_eq_getElem?_getD];rw [List.getElem?_append_left hi]
noncomputable def sdownF (lt:α→α→Bool) (x:α):Nat→Nat→List α→List α
 | 0,_,h=>h
 | n + 1, p, h => match p with
   | 0=>h.set 0 x
   | p+1=>if lt x (atH h (p / 2))=true then sdownF lt x n (p / 2) (h.set (p+1) (atH h (p / 2))) else h.set (p+1) x
noncomputable def sdown (lt:α→α→Bool) (x:α) (p:Nat) (h:List α):List α:=sdownF lt x (p+1) p h
theorem sdown0 (lt:α→α→Bool) (x:α) (h:List α):sdown lt x 0 h=h.set 0 x:=rfl
theorem sdown_fuel (lt:α→α→Bool) (x:α) (n:Nat):∀ (m p:Nat) (h:List α),p < n→p < m→sdownF lt x n p h=sdownF lt x m p h:=by
 induction n with
 | zero=>exact fun m p h hn=>absurd hn (Nat.not_lt_zero p)
 | succ n ih =>
   intro m p h hn hm
   cases m with
   | zero=>exact absurd hm (Nat.not_lt_zero p)
   | succ m => cases p with
     | zero=>rfl
     | succ p=>exact congrArg (fun z=>if lt x (atH h (p / 2))=true then z else h.set (p+1) x) (ih m (p / 2) _ (Nat.lt_of_le_of_lt (Nat.div_le_self p 2) (Nat.lt_of_succ_lt_succ hn)) (Nat.lt_of_le_of_lt (Nat.div_le_self p 2) (Nat.lt_of_succ_lt_succ hm)))
theorem sdownS (lt:α→α→Bool) (x:α) (p:Nat) (h:List α):sdown lt x (p+1) h=if lt x (atH h (p / 2))=true then sdown lt x (p / 2) (h.set (p+1) (atH h (p / 2))) else h.set (p+1) x :=
 congrArg (fun z=>if lt x (atH h (p / 2))=true then z else h.set (p+1) x) (sdown_fuel lt x (p+1) (p / 2+1) (p / 2) _ (Nat.lt_succ_of_le (Nat.div_le_self p 2)) (Nat.lt_succ_self _))
theorem sdown_len (lt:α→α→Bool) (x:α):∀ (p:Nat) (h:List α),(sdown lt x p h).length=h.length:=by
 intro p
 induction p using Nat.strongRecOn with
 | _ p ih =>
   intro h
   cases p with
   | zero=>exact List.length_set
   | succ p =>
     rw [sdownS]
     split
     ·exact (ih _ (Nat.lt_succ_of_le (Nat.div_le_self p 2)) _).trans List.length_set
     ·exact List.length_set
def okAt (lt:α→α→Bool) (h:List α) (i:Nat):Prop:=0 < i→i < h.length→lt (atH h i) (atH h ((i - 1) / 2))=false
def IsHeap (lt:α→α→Bool) (h:List α):Prop:=∀ i,okAt lt h i
structure Hole (lt:α→α→Bool) (h:List α) (pos:Nat):Prop where
 lt_:pos < h.length
 ok:∀ i,i≠pos→(i - 1) / 2≠pos∨i=0→okAt lt h i
 up:∀ i,0 < i→i < h.length→(i - 1) / 2=pos→0 < pos→lt (atH h i) (atH h ((pos - 1) / 2))=false
theorem atH_eq {h:List α} {j:Nat} (hj:j < h.length):atH h j=h[j]:=by
 unfold atH;rw [List.getD_eq_getElem?_getD,List.getElem?_eq_getElem hj];rfl
theorem set_perm {h:List α} {i j:Nat} {x:α} (hi:i < h.length) (hj:j < h.length) (hij:i≠j):((h.set i (atH h j)).set j x).Perm (h.set i x):=by
 have:=List.set_set_perm (as:=h.set i x) (i:=i) (j:=j) (by refine List.length_set.symm▸?_;exact hi) (by refine List.length_set.symm▸?_;exact hj)
 rw [List.getElem_set_self,List.getElem_set_ne hij,List.set_set,← atH_eq hj] at this
 exact this
omit [DecidableEq α] [Inhabited α] in
theorem par_lt {i n:Nat} (h:i < n):(i - 1) / 2 < n:=Nat.lt_of_le_of_lt (Nat.le_trans (Nat.div_le_self _ _) (Nat.sub_le _ _)) h
theorem half1 (p:Nat):(2 * p+1 - 1) / 2=p:=Nat.mul_div_cancel_left p (by decide)
theorem half2 (p:Nat):(2 * p+2 - 1) / 2=p:=Nat.mul_add_div (by decide:0 < 2) p 1
theorem plt {c p:Nat} (h:c=2 * p+1∨c=2 * p+2):p < c:=by
 have:=Nat.le_mul_of_pos_left p (by decide:0 < 2)
 rcases h with rfl | rfl
 ·exact Nat.lt_succ_of_le this
 ·exact Nat.lt_succ_of_le (Nat.le_succ_of_le this)
theorem par_two {i p:Nat} (h0:0 < i) (h:(i - 1) / 2=p):i=2 * p+1∨i=2 * p+2:=by
 cases i with
 | zero=>exact absurd h0 (Nat.lt_irrefl 0)
 | succ k =>
   have h:k / 2=p:=h
   have e:=Nat.div_add_mod k 2
   rw [h] at e
   rcases Nat.mod_two_eq_zero_or_one k with q | q <;> rw [q] at e
   ·exact .inl (congrArg Nat.succ e.symm)
   ·exact .inr (congrArg Nat.succ e.symm)
theorem half_lt {p n:Nat} (h:p+1 < n):p / 2 < n:=Nat.lt_of_le_of_lt (Nat.div_le_self _ _) (Nat.lt_of_succ_lt h)
theorem half_ne {p:Nat}:p / 2≠p+1:=Nat.ne_of_lt (Nat.lt_succ_of_le (Nat.div_le_self _ _))
theorem half_par {p:Nat}:¬ p+1=(p / 2 - 1) / 2:=Nat.ne_of_gt (Nat.lt_succ_of_le (Nat.le_trans (Nat.div_le_self _ _) (Nat.le_trans (Nat.sub_le _ _) (Nat.div_le_self _ _))))
theorem half_par' {p:Nat}:(p / 2 - 1) / 2≠p+1:=Ne.symm half_par
theorem kid {c p:Nat} (h:c=2 * p+1∨c=2 * p+2):(c - 1) / 2=p∧c≠p∧0 < c:=by
 refine ⟨?_,Nat.ne_of_gt (plt h),Nat.zero_lt_of_lt (plt h)⟩
 rcases h with rfl | rfl
 ·exact half1 p
 ·exact half2 p
theorem kid2 {c p i:Nat} (h:c=2 * p+1∨c=2 * p+2) (hp:(i - 1) / 2=c):p≠i:=Nat.ne_of_lt (Nat.lt_of_lt_of_le (plt h) (hp▸Nat.le_trans (Nat.div_le_self _ _) (Nat.sub_le _ _)))
theorem kid3 {c p n l:Nat} (h:c=2 * p+1∨c=2 * p+2) (hn:l≤n+1+p):l≤n+c:=Nat.le_trans hn (Nat.le_trans (Nat.le_of_eq (by rw [Nat.add_assoc,Nat.add_comm 1 p])) (Nat.add_le_add_left (plt h) n))
theorem par_lt2 {i:Nat} (h0:0 < i):(i - 1) / 2 < i:=Nat.lt_of_le_of_lt (Nat.div_le_self _ _) (Nat.sub_lt h0 Nat.one_pos)
theorem par_self {i:Nat} (h0:0 < i):(i - 1) / 2≠i:=Nat.ne_of_lt (Nat.lt_of_le_of_lt (Nat.div_le_self _ _) (Nat.sub_lt h0 Nat.one_pos))
variable {lt:α→α→Bool} (asym:∀ a b,lt a b=true→lt b a=false) (trans:∀ a b c,lt b a=false→lt c b=false→lt c a=false)
include asym trans
theorem sdown_ok (x:α):∀ (p:Nat) (h:List α),Hole lt h p→(∀ i,0 < i→i < h.length→(i - 1) / 2=p→lt (atH h i) x=false)→IsHeap lt (sdown lt x p h)∧(sdown lt x p h).Perm (h.set p x):=by
 intro p
 induction p using Nat.strongRecOn with
 | _ p ih =>
   intro h hh hx
   cases p with
   | zero =>
     rw [sdown0]
     refine ⟨fun i h0 hl=>?_,.rfl⟩
     rw [List.length_set] at hl
     have hl0:=hh.lt_
     rw [atH_set hl0,atH_set hl0,if_neg (Nat.ne_of_lt h0)]
     split
     ·rename_i q
      exact hx i h0 hl q.symm
     ·rename_i q
      exact hh.ok i (Nat.ne_of_gt h0) (.inl (Ne.symm q)) h0 hl
   | succ p =>
     have hl1:=hh.lt_
     have hpp:p / 2 < h.length:=half_lt hl1
     rw [sdownS]
     split
     ·rename_i hlt
      have hh':Hole lt (h.set (p+1) (atH h (p / 2))) (p / 2):=by
       refine ⟨by simpa using hpp,fun i hi hor=>fun h0 hl=>?_,fun i h0 hl hpar hp0=>?_⟩
       ·rw [List.length_set] at hl
        refine (atH_set hl1).symm▸?_;refine (atH_set hl1).symm▸?_
        have hne:(i - 1) / 2≠p / 2:=hor.resolve_right (Nat.ne_of_gt h0)
        by_cases q:p+1=i
        ·exact absurd (by refine q▸?_;simp) hne
        ·rw [if_neg q]
         by_cases q2:p+1=(i - 1) / 2
         ·rw [if_pos q2]
          have:=hh.up i h0 hl q2.symm (Nat.succ_pos _)
          simpa using this
         ·rw [if_neg q2]
          exact hh.ok i (Ne.symm q) (.inl (Ne.symm q2)) h0 hl
       ·rw [List.length_set] at hl
        rw [atH_set hl1,atH_set hl1,if_neg half_par]
        by_cases q:p+1=i
        ·rw [if_pos q]
         exact hh.ok (p / 2) half_ne (.inl half_par') hp0 hpp
        ·rw [if_neg q]
         have k1:=hh.ok i (Ne.symm q) (.inl (by refine hpar.symm▸?_;exact half_ne)) h0 hl
         have k2:=hh.ok (p / 2) half_ne (.inl half_par') hp0 hpp
         rw [hpar] at k1
         exact trans _ _ _ k2 k1
      have hx':∀ i,0 < i→i < (h.set (p+1) (atH h (p / 2))).length→(i - 1) / 2=p / 2→lt (atH (h.set (p+1) (atH h (p / 2))) i) x=false:=by
       intro i h0 hl hpar
       rw [List.length_set] at hl
       refine (atH_set hl1).symm▸?_
       by_cases q:p+1=i
       ·rw [if_pos q];exact asym _ _ hlt
       ·rw [if_neg q]
        have k1:=hh.ok i (Ne.symm q) (.inl (by refine hpar.symm▸?_;exact half_ne)) h0 hl
        rw [hpar] at k1
        exact trans _ _ _ (asym _ _ hlt) k1
      obtain ⟨r1,r2⟩:=ih (p / 2) (Nat.lt_succ_of_le (Nat.div_le_self _ _)) _ hh' hx'
      exact ⟨r1,r2.trans (set_perm hl1 hpp half_ne.symm)⟩
     ·rename_i hlt
      have hlt:lt x (atH h (p / 2))=false:=by simpa using hlt
      refine ⟨fun i h0 hl=>?_,.rfl⟩
      rw [List.length_set] at hl
      refine (atH_set hl1).symm▸?_;refine (atH_set hl1).symm▸?_
      by_cases q:p+1=i
      ·rw [if_pos q,if_neg (fun e=>par_self h0 (e.symm.trans q))]
       subst q;simpa using hlt
      ·rw [if_neg q]
       by_cases q2:p+1=(i - 1) / 2
       ·rw [if_pos q2];exact hx i h0 hl q2.symm
       ·rw [if_neg q2];exact hh.ok i (Ne.symm q) (.inl (Ne.symm q2)) h0 hl
omit asym trans in
noncomputable def minC (lt:α→α→Bool) (h:List α) (pos:Nat):Nat:=if 2 * pos+2 < h.length∧lt (atH h (2 * pos+1)) (atH h (2 * pos+2))=false then 2 * pos+2 else 2 * pos+1
omit asym trans in
noncomputable def sup (lt:α→α→Bool):Nat→Nat→List α→List α×Nat
 | 0,pos,h=>(h,pos)
 | n+1,pos,h=>if 2 * pos+1 < h.length then sup lt n (minC lt h pos) (h.set pos (atH h (minC lt h pos))) else (h,pos)
omit asym trans in
theorem supS (n pos:Nat) (h:List α):sup lt (n+1) pos h=if 2 * pos+1 < h.length then sup lt n (minC lt h pos) (h.set pos (atH h (minC lt h pos))) else (h,pos):=rfl
omit asym trans in
theorem sup_len (n pos:Nat) (h:List α):(sup lt n pos h).1.length=h.length:=by
 induction n generalizing pos h with
 | zero=>rfl
 | succ n ih =>
   rw [supS]
   split
   ·rw [ih];simp
   ·rfl
theorem sup_ok (x:α):∀ (n pos:Nat) (h:List α),h.length≤n+pos→Hole lt h pos→Hole lt (sup lt n pos h).1 (sup lt n pos h).2∧(∀ i,0 < i→i < h.length→(i - 1) / 2≠(sup lt n pos h).2)∧((sup lt n pos h).1.set (sup lt n pos h).2 x).Perm (h.set pos x):=by
 intro n
 induction n with
 | zero=>intro pos h hn hh;exact absurd hh.lt_ (Nat.not_lt.mpr (by rwa [Nat.zero_add] at hn))
 | succ n ih =>
   intro pos h hn hh
   have hl:=hh.lt_
   rw [supS]
   split
   ·rename_i hc
    have hm:(minC lt h pos=2 * pos+1∨(minC lt h pos=2 * pos+2∧2 * pos+2 < h.length))∧(∀ i,0 < i→i < h.length→(i - 1) / 2=pos→lt (atH h i) (atH h (minC lt h pos))=false):=by
     unfold minC
     split
     ·rename_i q
      refine ⟨.inr ⟨rfl,q.1⟩,fun i h0 hi hp=>?_⟩
      rcases par_two h0 hp with rfl | rfl
      ·exact q.2
      ·cases e:lt (atH h (2 * pos+2)) (atH h (2 * pos+2)) with
       | false=>rfl
       | true=>have:=asym _ _ e;exact nomatch e.symm.trans this
     ·rename_i q
      refine ⟨.inl rfl,fun i h0 hi hp=>?_⟩
      rcases par_two h0 hp with rfl | rfl
      ·cases e:lt (atH h (2 * pos+1)) (atH h (2 * pos+1)) with
       | false=>rfl
       | true=>have:=asym _ _ e;exact nomatch e.symm.trans this
      ·have : lt (atH h (2 * pos + 1)) (atH h (2 * pos + 2)) = true := by
        cases e:lt (atH h (2 * pos+1)) (atH h (2 * pos+2)) with
        | true=>rfl
        | false=>exact absurd ⟨hi,e⟩ q
       exact asym _ _ this
    obtain ⟨hm1,hm2⟩:=hm
    generalize minC lt h pos=c at *
    have hk:c=2 * pos+1∨c=2 * pos+2:=hm1.imp id (·.1)
    have hcl:c < h.length:=by rcases hm1 with q | ⟨q,q'⟩ <;> (refine q.symm▸?_;assumption)
    have hcp:=(kid hk).1
    have hcn:=(kid hk).2.1
    have hh':Hole lt (h.set pos (atH h c)) c:=by
     refine ⟨by simpa using hcl,fun i hi hor=>fun h0 hil=>?_,fun i h0 hil hpar hp0=>?_⟩
     ·rw [List.length_set] at hil
      refine (atH_set hl).symm▸?_;refine (atH_set hl).symm▸?_
      have hne:(i - 1) / 2≠c:=hor.resolve_right (Nat.ne_of_gt h0)
      by_cases q:pos=i
      ·rw [if_pos q,if_neg (fun e=>par_self h0 (e.symm.trans q))]
       have:=hh.up c (kid hk).2.2 hcl hcp (by refine q.symm▸?_;exact h0)
       rw [q] at this;exact this
      ·rw [if_neg q]
       by_cases q2:pos=(i - 1) / 2
       ·rw [if_pos q2];exact hm2 i h0 hil q2.symm
       ·rw [if_neg q2];exact hh.ok i (Ne.symm q) (.inl (Ne.symm q2)) h0 hil
     ·rw [List.length_set] at hil
      rw [atH_set hl,atH_set hl,if_neg (kid2 hk hpar),if_pos hcp.symm]
      have:=hh.ok i (kid2 hk hpar).symm (.inl (by refine hpar.symm▸?_;exact hcn)) h0 hil
      rw [hpar] at this;exact this
    obtain ⟨r1,r2,r3⟩:=ih c _ (by refine List.length_set.symm▸?_;exact kid3 hk hn) hh'
    refine ⟨r1,fun i h0 hil=>r2 i h0 (by refine List.length_set.symm▸?_;exact hil),r3.trans (set_perm hl hcl (Ne.symm hcn))⟩
   ·rename_i hc
    exact ⟨hh,fun i h0 hil e=>hc (Nat.lt_of_le_of_lt ((par_two h0 e).elim (fun q=>Nat.le_of_eq q.symm) (fun q=>q▸Nat.le_succ _)) hil),.rfl⟩
noncomputable def hpush (lt:α→α→Bool) (h:List α) (x:α):List α:=sdown lt x h.length (h++[x])
theorem hpush_ok {h:List α} (hh:IsHeap lt h) (x:α):IsHeap lt (hpush lt h x)∧(hpush lt h x).Perm (h++[x]):=by
 have h1:Hole lt (h++[x]) h.length:=by
  refine ⟨by simp,fun i hi hor=>fun h0 hl=>?_,fun i h0 hl hp hp0=>?_⟩
  ·rw [List.length_append,List.length_singleton] at hl
   have hil:=Nat.lt_of_le_of_ne (Nat.le_of_lt_succ hl) hi
   rw [atH_app hil,atH_app (par_lt hil)]
   exact hh i h0 hil
  ·rw [List.length_append,List.length_singleton] at hl
   exact absurd hp (Nat.ne_of_lt (Nat.lt_of_lt_of_le (par_lt2 h0) (Nat.le_of_lt_succ hl)))
 have h2:∀ i,0 < i→i < (h++[x]).length→(i - 1) / 2=h.length→lt (atH (h++[x]) i) x=false:=by
  intro i h0 hl hp
  rw [List.length_append,List.length_singleton] at hl
  exact absurd hp (Nat.ne_of_lt (Nat.lt_of_lt_of_le (par_lt2 h0) (Nat.le_of_lt_succ hl)))
 obtain ⟨r1,r2⟩:=sdown_ok asym trans x h.length (h++[x]) h1 h2
 refine ⟨r1,r2.trans ?_⟩
 have:(h++[x]).set h.length x=h++[x]:=by
  rw [List.set_append_right _ _ (Nat.le_refl _)];simp
 rw [this]
noncomputable def hpop (lt:α→α→Bool) (h:List α):α×List α:=match h.getLast? with
 | none=>(default,[])
 | some x => match h.dropLast with
   | []=>(x,[])
   | r::t=>(r,let p:=sup lt (t.length+2) 0 (x::t);sdown lt x p.2 p.1)
omit [DecidableEq α] asym in
theorem heap_root {h:List α} (hh:IsHeap lt h) (irr:∀ a,lt a a=false):∀ i,i < h.length→lt (atH h i) (atH h 0)=false:=by
 intro i
 induction i using Nat.strongRecOn with
 | _ i ih =>
   intro hi
   by_cases q:i=0
   ·exact q.symm▸(irr _)
   ·exact trans _ _ _ (ih ((i - 1) / 2) (par_lt2 (Nat.pos_of_ne_zero q)) (par_lt hi)) (hh i (Nat.pos_of_ne_zero q) hi)
theorem hpop_ok {h:List α} (hh:IsHeap lt h) (hne:h≠[]) (irr:∀ a,lt a a=false):IsHeap lt (hpop lt h).2∧h.Perm ((hpop lt h).1::(hpop lt h).2)∧(∀ y∈h,lt y (hpop lt h).1=false)∧(hpop lt h).2.length+1=h.length:=by
 obtain ⟨i,x,rfl⟩:∃ i x,h=i++[x]:=⟨h.dropLast,h.getLast hne,(List.dropLast_concat_getLast hne).symm⟩
 have root:=heap_root trans hh irr
 unfold hpop
 simp only [List.getLast?_concat,List.dropLast_concat]
 cases i with
 | nil =>
   refine ⟨fun i h0 hl=>absurd hl (Nat.not_lt_zero _),.rfl,fun y hy=>?_,rfl⟩
   simp at hy;subst hy;exact irr _
 | cons r t =>
   have h0:Hole lt (x::t) 0:=by
    refine ⟨by simp,fun i hi hor h0 hl=>?_,fun i h0 hl hp hp0=>absurd hp0 (Nat.lt_irrefl _)⟩
    have e:∀ j,0 < j→j < (x::t).length→atH (x::t) j=atH (r::t++[x]) j:=by
     intro j hj hjl
     cases j with
     | zero=>exact absurd hj (Nat.lt_irrefl 0)
     | succ j =>
       have:j < t.length:=by simpa using hjl
       unfold atH;simp only [List.getD_eq_getElem?_getD,List.cons_append,List.getElem?_cons_succ]
       rw [List.getElem?_append_left this]
    have hp:0 < (i - 1) / 2:=Nat.pos_of_ne_zero (hor.resolve_right (Nat.ne_of_gt h0))
    rw [e i h0 hl,e _ hp (par_lt hl)]
    exact hh i h0 (by rw [List.length_append];exact Nat.lt_succ_of_lt hl)
   obtain ⟨s1,s2,s3⟩:=sup_ok asym trans x (t.length+2) 0 (x::t) (Nat.le_succ _) h0
   have sl:=sup_len (lt:=lt) (t.length+2) 0 (x::t)
   dsimp only
   generalize sup lt (t.length+2) 0 (x::t)=p at *
   obtain ⟨r1,r2⟩:=sdown_ok asym trans x p.2 p.1 s1 fun i h0 hl hp=>absurd hp (s2 i h0 (by rw [← sl];exact hl))
   have pm:(sdown lt x p.2 p.1).Perm (x::t):=r2.trans s3
   refine ⟨r1,?_,fun y hy=>?_,?_⟩
   ·exact (List.Perm.cons r (List.perm_append_comm (l₁:=t) (l₂:=[x]))).trans (List.Perm.cons r pm.symm)
   ·obtain ⟨j,hj,rfl⟩:=List.mem_iff_getElem.mp hy
    have:=root j hj
    have e1:atH (r::t++[x]) j=(r::t++[x])[j]:=by unfold atH;rw [List.getD_eq_getElem?_getD,List.getElem?_eq_getElem hj];rfl
    rw [e1] at this
    exact this
   ·have:=pm.length_eq
    show (sdown lt x p.2 p.1).length+1=_
    rw [this];simp
noncomputable def hpops (lt:α→α→Bool):Nat→List α→List α
 | 0,_=>[]
 | n+1,h=>if h=[] then [] else (hpop lt h).1::hpops lt n (hpop lt h).2
theorem hpops_ok (irr:∀ a,lt a a=false) (n:Nat):∀ (h:List α),h.length≤n→IsHeap lt h→(hpops lt n h).Perm h∧(hpops lt n h).Pairwise fun a b=>lt b a=false:=by
 induction n with
 | zero=>exact fun h hn hh=>List.eq_nil_of_length_eq_zero (Nat.le_zero.mp hn)▸⟨.rfl,.nil⟩
 | succ n ih =>
   intro h hn hh
   by_cases q:h=[]
   ·exact q▸⟨.rfl,.nil⟩
   ·obtain ⟨k1,k2,k3,k4⟩:=hpop_ok asym trans hh q irr
    obtain ⟨i1,i2⟩:=ih (hpop lt h).2 (Nat.le_of_succ_le_succ (Nat.le_trans (Nat.le_of_eq k4) hn)) k1
    have e:hpops lt (n+1) h=(hpop lt h).1::hpops lt n (hpop lt h).2:=if_neg q
    rw [e]
    exact ⟨(List.Perm.cons _ i1).trans k2.symm,List.pairwise_cons.mpr ⟨fun y hy=>k3 y (k2.mem_iff.mpr (.tail _ (i1.mem_iff.mp hy))),i2⟩⟩
end
end Mine
end
section
namespace Mine
open PySem PySem.Spec PySem.Calls PyProof.Rows
noncomputable def pV (p:Str×Str):V:=.tup [.str p.1,.str p.2]
noncomputable def ltP (p q:Str×Str):Bool:=if p.1==q.1 then (if p.2==q.2 then false else slt p.2 q.2) else slt p.1 q.1
theorem t_ltP {p q:Str×Str} {H:Hp} {KB':KB} (h:KB' (ltP p q) H):wCmp .Lt (pV p) (pV q) H (TB KB'):=⟨_,rfl,h⟩
theorem pV_get {h:List (Str×Str)} {i:Nat} (hi:i < h.length):(h.map pV)[i]?=some (pV (atH h i)):=by rw [List.getElem?_map,atH_get hi];rfl
theorem si_nat {i n:Nat} (h:i < n):seqIndex? (i:Int) n=some i:=by rw [seqIndex_of (by omega) (by omega)];simp
theorem pV_set (h:List (Str×Str)) (i:Nat) (x:Str×Str):(h.map pV).set i (pV x)=(h.set i x).map pV:=by rw [List.map_set]
theorem hp_set2 (H:Hp) (a:Addr) (o o':O):(H.set a o).set a o'=H.set a o':=by
 funext b;simp only [Hp.set];split <;> rfl
def SpSd (S:Sy):Prop:=∀ a h (pos:Nat) H K,H a=some (.list (h.map pV))→pos < h.length→h.length≤100→K .none (H.set a (.list ((sdown ltP (atH h pos) pos h).map pV)))→S.C (.lit (.ref 281)) [.obj a,.int 0,.int pos] H K
noncomputable abbrev sdS:Scope:=fnScope "_siftdown" topB
noncomputable abbrev sdN:List Str:=["heap", "startpos", "pos", "newitem", "parentpos", "parent"]
theorem nm_sd:∀ x,hasS sdN x=true→sdS.names.lookup x=some .local:=nm_of (by decide +kernel)
noncomputable def sdE (a:Addr) (m:Nat) (x:Str×Str):En:=[("heap",.obj a),("startpos",.int 0),("pos",.int m),("newitem",pV x)]
noncomputable abbrev sdL:List Str:=["heap", "startpos", "pos", "newitem"]
theorem g_pV {a:Addr} {h:List (Str×Str)} {i:Nat} {H:Hp} {K:KV} (ha:H a=some (.list (h.map pV))) (hi:i < h.length) (hl:h.length≤100) (k:K (pV (atH h i)) H):wGet (.obj a) (.int i) H K :=
 g_list ha (sm_nat (Nat.le_of_lt (Nat.lt_of_lt_of_le hi hl))) (by rw [List.length_map];exact si_nat hi) (pV_get hi) k
theorem p_pV {a:Addr} {h:List (Str×Str)} {i:Nat} {x:Str×Str} {H:Hp} {K:Hp→Prop} (hi:i < h.length) (hl:h.length≤100) (k:K (H.set a (.list ((h.set i x).map pV)))):wPut (.obj a) (.int i) (pV x) (H.set a (.list (h.map pV))) K :=
 p_list (Hp.set_self _ _ _) (sm_nat (Nat.le_of_lt (Nat.lt_of_lt_of_le hi hl))) (by rw [List.length_map];exact si_nat hi) (by rw [hp_set2,pV_set];exact k)
theorem hlf {m:Nat}:m / 2 < m+1:=Nat.lt_succ_of_le (Nat.div_le_self m 2)
theorem c_sdown {S : Sy} {a : Addr} {h : List (Str × Str)} {pos : Nat} {H : Hp} {K : KS} (ha : H a = some (.list (h.map pV))) (hp : pos < h.length) (hl : h.length ≤ 100)
  (hK:∀ loc,K .next loc (H.set a (.list ((sdown ltP (atH h pos) pos h).map pV)))) :
  wSs S (fnScope "_siftdown" topB) (fnBody "_siftdown" topB) [("heap",some (.obj a)),("startpos",some (.int 0)),("pos",some (.int pos))] H K:=by
 have k:Kn sdS sdN [("heap",.obj a),("startpos",.int 0),("pos",.int pos)] [("heap",some (.obj a)),("startpos",some (.int 0)),("pos",some (.int pos))]:=Kn.init nm_sd
 with_unfolding_all refine x_Assign ?_ rfl rfl
 repeat walk_at "st2"
 refine g_pV ha hp hl ?_
 with_reducible refine x_as ?_
 with_reducible refine x_aN (k.nm _ rfl) ?_
 with_reducible refine x_as0 ?_
 generalize atH h pos=x at *
 refine z_While (pos+1) (fun m loc H'=>∃ h':List (Str×Str),Kn sdS sdN (sdE a m x) loc∧H'=H.set a (.list (h'.map pV))∧m < h'.length∧h'.length≤100∧sdown ltP x m h'=sdown ltP x pos h)
  (fun loc H'=>∃ (m:Nat) (h':List (Str×Str)),Kn sdS sdN (sdE a m x) loc∧H'=H.set a (.list (h'.map pV))∧m < h'.length∧h'.length≤100∧h'.set m x=sdown ltP x pos h) pos (Nat.lt_succ_self _) ⟨h,Kn.sub sdL k.put rfl,(Hp.set_id ha).symm,hp,hl,rfl⟩ ?_ ?_
 ·clear hK k
  rintro m loc H' R K' ⟨h',k,rfl,hm,hl',hs⟩ hR hE
  cases m with
  | zero =>
    repeat walk_at "st2"
    have e0:sdown ltP x 0 h'=h'.set 0 x:=rfl
    exact k_wh (fun q=>absurd (of_decide_eq_true q) (Int.lt_irrefl 0)) fun Z=>hE _ _ ⟨0,h',k,rfl,hm,hl',e0.symm.trans hs⟩
  | succ m =>
    repeat walk_at "st2"
    refine k_wh (fun Z=>?_) fun q=>absurd (Int.ofNat_lt.mpr (Nat.succ_pos m)) (of_decide_eq_false q)
    repeat walk_at "st2"
    have ep:(((m+1:Nat):Int) - 1).fdiv (2 ^ (1:Int).toNat)=((m / 2:Nat):Int):=by
     rw [csub1 (Nat.succ_pos m)]
     exact fd_nat m 2
    rw [ep]
    have hq:=Nat.lt_trans (hlf (m:=m)) hm
    repeat walk_at "st2"
    refine g_pV (Hp.set_self _ _ _) hq hl' ?_
    repeat walk_at "st2"
    refine t_ltP ?_
    have hsd:sdown ltP x (m+1) h'=if ltP x (atH h' (m / 2))=true then sdown ltP x (m / 2) (h'.set (m+1) (atH h' (m / 2))) else h'.set (m+1) x:=sdownS _ _ _ _
    refine k_if (fun hlt=>?_) fun hlt=>?_
    ·repeat walk_at "st2"
     refine p_pV hm hl' ?_
     repeat walk_at "st2"
     exact hR (m / 2) _ _ hlf ⟨_,Kn.sub sdL (by walk_at "k2") rfl,rfl,List.length_set.symm▸hq,List.length_set.symm▸hl',((if_pos hlt).symm.trans hsd.symm).trans hs⟩
    ·repeat walk_at "st2"
     exact hE _ _ ⟨m+1,h',Kn.sub sdL (by walk_at "k2") rfl,rfl,hm,hl',((if_neg (hlt▸nofun)).symm.trans hsd.symm).trans hs⟩
 ·rintro loc H' ⟨m,h',k,rfl,hm,hl',hs⟩
  repeat walk_at "st2"
  refine p_pV hm hl' ?_
  rw [hs]
  repeat walk_at "st2"
  exact hK _
theorem sdown_set (lt:(Str×Str)→(Str×Str)→Bool) (x y:Str×Str) (p:Nat) (h:List (Str×Str)):sdown lt x p (h.set p y)=sdown lt x p h:=by
 cases p with
 | zero=>exact List.set_set ..
 | succ p =>
   have e:atH (h.set (p+1) y) (p / 2)=atH h (p / 2):=by
    unfold atH;simp only [List.getD_eq_getElem?_getD];rw [List.getElem?_set_ne (Nat.ne_of_gt (Nat.lt_succ_of_le (Nat.div_le_self p 2)))]
   rw [sdownS,sdownS,e,List.set_set,List.set_set]
def SpSu (S:Sy):Prop:=∀ a h H K,H a=some (.list (h.map pV))→0 < h.length→h.length≤100→K .none (H.set a (.list ((sdown ltP (atH h 0) (sup ltP (h.length+1) 0 h).2 (sup ltP (h.length+1) 0 h).1).map pV)))→S.C (.lit (.ref 288)) [.obj a,.int 0] H K
noncomputable abbrev suS:Scope:=fnScope "_siftup" topB
noncomputable abbrev suN:List Str:=["heap", "pos", "endpos", "startpos", "newitem", "childpos", "rightpos"]
theorem nm_su:∀ x,hasS suN x=true→suS.names.lookup x=some .local:=nm_of (by decide +kernel)
theorem gl_su:suS.names.lookup ("len" : Str)=some .globalImplicit∧suS.names.lookup ("_siftdown" : Str)=some .globalImplicit:=by decide +kernel
noncomputable def suE (a:Addr) (n p c:Nat) (x:Str×Str):En:=[("heap",.obj a),("startpos",.int 0),("endpos",.int n),("pos",.int p),("childpos",.int c),("newitem",pV x)]
noncomputable abbrev suL:List Str:=["heap", "startpos", "endpos", "pos", "childpos", "newitem"]
noncomputable def suAt:Stmt:=stAt (fnBody "_siftup" topB) 4
noncomputable def suB (k:Nat):List Stmt:=(bodyOf suAt).drop k
theorem su_tail {S : Sy} {a : Addr} {n p c : Nat} {x : Str × Str} {h' : List (Str × Str)} {H : Hp} {loc : Loc} {K : KS} (k : Kn suS suN (suE a n p c x) loc) (hc : c < h'.length) (hp : p < h'.length) (hl : h'.length ≤ 100)
  (hK:∀ loc',Kn suS suN (suE a n c (2 * c+1) x) loc'→K .next loc' (H.set a (.list ((h'.set p (atH h' c)).map pV)))):wSs S suS (suB 2) loc (H.set a (.list (h'.map pV))) K:=by
 with_unfolding_all refine x_Assign ?_ rfl rfl
 repeat walk_at "st2"
 refine g_pV (Hp.set_self _ _ _) hc hl ?_
 repeat walk_at "st2"
 refine p_pV hp hl ?_
 repeat walk_at "st2"
 refine b_mul ⟨by decide,by decide,sm_nat (Nat.le_of_lt (Nat.lt_of_lt_of_le hc hl))⟩ ?_
 repeat walk_at "st2"
 exact hK _ (Kn.sub suL (by walk_at "k2") rfl)
structure SI (a:Addr) (H:Hp) (n:Nat) (x:Str×Str) (hf:List (Str×Str)×Nat) (m:Nat) (loc:Loc) (H':Hp) (h':List (Str×Str)) (p:Nat):Prop where
 k:Kn suS suN (suE a n p (2 * p+1) x) loc
 e:H'=H.set a (.list (h'.map pV))
 hp:p < n
 hl:h'.length=n
 hm:n+1≤m+p
 hs:sup ltP m p h'=hf
theorem minC_of {lt:(Str×Str)→(Str×Str)→Bool} {h:List (Str×Str)} {p:Nat} (hp:2 * p+1 < h.length):minC lt h p < h.length∧p+1≤minC lt h p:=by
 have h1:p+1≤2 * p+1:=Nat.succ_le_succ (Nat.le_mul_of_pos_left p (by decide))
 unfold minC
 by_cases q:2 * p+2 < h.length∧lt (atH h (2 * p+1)) (atH h (2 * p+2))=false
 ·rw [if_pos q];exact ⟨q.1,Nat.le_succ_of_le h1⟩
 ·rw [if_neg q];exact ⟨hp,h1⟩
theorem su_while {S : Sy} {a : Addr} {H : Hp} {n : Nat} {x : Str × Str} {hf h0 : List (Str × Str) × Nat} {loc : Loc} {H' : Hp} {h : List (Str × Str)} {K : KS} {r : List Stmt} (hn : n ≤ 100) (i : SI a H n x hf (n + 1) loc H' h 0)
  (hK:∀ loc H' h' p,Kn suS suN (suE a n p (2 * p+1) x) loc→H'=H.set a (.list (h'.map pV))→p < n→h'.length=n→hf=(h',p)→wSs S suS r loc H' K):wSs S suS (suAt::r) loc H' K:=by
 with_unfolding_all refine z_While (n+2) (fun m loc H'=>∃ h' p,SI a H n x hf m loc H' h' p) (fun loc H'=>∃ (h':List (Str×Str)) (p:Nat),Kn suS suN (suE a n p (2 * p+1) x) loc∧H'=H.set a (.list (h'.map pV))∧p < n∧h'.length=n∧hf=(h',p)) (n+1) (Nat.lt_succ_self _) ⟨h,0,i⟩ ?_ (fun loc H' z0=>(by obtain ⟨h',p,k,e,h1,h2,h3⟩:=z0;exact hK _ _ _ _ k e h1 h2 h3))
 clear hK i
 rintro m loc H' R K' ⟨h',p,k,rfl,hp,hl,hm,hs⟩ hR hE
 repeat walk_at "st2"
 refine k_wh (fun hz=>?_) fun hz=>?_
 ·have hz:2 * p+1 < n:=dT hz
  cases m with
  | zero=>exact absurd (Nat.le_trans hm (Nat.le_of_eq (Nat.zero_add p))) (Nat.not_le_of_lt (Nat.lt_succ_of_lt hp))
  | succ m =>
    subst hl
    obtain ⟨hc,hc1⟩:=minC_of (lt:=ltP) hz
    have hs:sup ltP m (minC ltP h' p) (h'.set p (atH h' (minC ltP h' p)))=hf:=(if_pos hz).symm.trans hs
    have nx:∀ {loc:Loc} {c:Nat},minC ltP h' p=c→Kn suS suN (suE a h'.length p c x) loc→wSs S suS (suB 2) loc (H.set a (.list (h'.map pV))) (afterW R K'):=fun {loc c} e k=>by
     subst e
     refine su_tail k hc hp hn fun loc' k'=>?_
     exact hR m _ _ (Nat.lt_succ_self m) ⟨_,_,k',rfl,hc,List.length_set,Nat.le_trans hm (Nat.le_trans (Nat.le_of_eq (Nat.succ_add_eq_add_succ m p)) (Nat.add_le_add_left hc1 m)),hs⟩
    repeat walk_at "st2"
    refine k_and (fun hr=>?_) fun hr=>k_ifF (x_nilT (nx (if_neg fun q=>dF hr q.1) ?_))
    rotate_left
    ·exact Kn.sub suL (by walk_at "k2") rfl
    have hr:2 * p+2 < h'.length:=dT hr
    repeat walk_at "st2"
    refine g_pV (i:=2 * p+1) (Hp.set_self _ _ _) hz hn ?_
    repeat walk_at "st2"
    refine g_pV (i:=2 * p+2) (Hp.set_self _ _ _) hr hn ?_
    repeat walk_at "st2"
    refine t_ltP ?_
    cases hlt:ltP (atH h' (2 * p+1)) (atH h' (2 * p+2)) with
    | true =>
      repeat walk_at "l2"
      refine x_nilT (nx (if_neg fun q=>Bool.noConfusion (hlt.symm.trans q.2)) ?_)
      exact Kn.sub suL (by walk_at "k2") rfl
    | false =>
      repeat walk_at "l2"
      with_reducible refine x_and0 ?_
      refine k_ifT ?_
      refine x_asg (by walk_at "k2") rfl rfl rfl (x_nilT ?_)
      refine nx (if_pos ⟨hr,hlt⟩) ?_
      exact Kn.sub suL (by walk_at "k2") rfl
 ·have hz:¬ 2 * p+1 < n:=dF hz
  refine hE _ _ ⟨h',p,k,rfl,hp,hl,hs.symm.trans ?_⟩
  cases m with
  | zero=>rfl
  | succ m=>exact if_neg (hl.symm▸hz)
theorem c_sup {S : Sy} (B : SB S) (csd : SpSd S) (gs : S.G "_siftdown" = some (.lit (.ref 281))) {a : Addr} {h : List (Str × Str)} {H : Hp} {K : KS} (ha : H a = some (.list (h.map pV))) (hp : 0 < h.length) (hl : h.length ≤ 100)
  (hK:∀ loc,K .next loc (H.set a (.list ((sdown ltP (atH h 0) (sup ltP (h.length+1) 0 h).2 (sup ltP (h.length+1) 0 h).1).map pV)))) :
  wSs S (fnScope "_siftup" topB) (fnBody "_siftup" topB) [("heap",some (.obj a)),("pos",some (.int 0))] H K:=by
 have k:Kn suS suN [("heap",.obj a),("pos",.int 0)] [("heap",some (.obj a)),("pos",some (.int 0))]:=Kn.init nm_su
 have g1:=B.len
 obtain ⟨l1,l2⟩:=gl_su
 with_unfolding_all refine x_Assign ?_ rfl rfl
 repeat walk_at "st2"
 refine B.bi (.len ha (map_len (Nat.le_trans hl (by decide))) ?_)
 rw [List.length_map]
 repeat walk_at "st2"
 refine g_pV (i:=0) ha hp hl ?_
 repeat walk_at "st2"
 refine su_while (x:=atH h 0) (n:=h.length) (h0:=(h,0)) hl ⟨Kn.sub suL (by walk_at "k2") rfl,(Hp.set_id ha).symm,hp,rfl,Nat.le_refl _,rfl⟩ fun loc H' h' p k e hp hl' hs=>?_
 rw [hs] at hK
 subst e
 rw [← hl'] at hp hl
 repeat walk_at "st2"
 refine p_pV hp hl ?_
 repeat walk_at "st2"
 refine csd a (h'.set p (atH h 0)) p _ _ (Hp.set_self _ _ _) (List.length_set.symm▸hp) (List.length_set.symm▸hl) ?_
 rw [hp_set2,sdown_set,atH_set hp,if_pos rfl]
 repeat walk_at "st2"
 exact hK _
end Mine
end
section
namespace Mine
open PySem
theorem slt_irr (a:Str):slt a a=false:=by
 unfold slt;simp [List.lt_irrefl]
theorem slt_asym {a b:Str} (h:slt a b=true):slt b a=false:=by
 unfold slt at *
 simp only [decide_eq_true_eq,decide_eq_false_iff_not] at *
 exact List.lt_asymm h
theorem slt_trans {a b c:Str} (h:slt a b=true) (h':slt b c=true):slt a c=true:=by
 unfold slt at *
 simp only [decide_eq_true_eq] at *
 exact List.lt_trans h h'
theorem slt_tri {a b:Str} (h:slt a b=false) (h':slt b a=false):a=b:=by
 unfold slt at *
 simp only [decide_eq_false_iff_not] at *
 obtain ⟨a⟩:=a;obtain ⟨b⟩:=b
 congr 1
 apply Array.ext'
 exact List.le_antisymm (List.not_lt.mp h') (List.not_lt.mp h)
theorem slt_neg_trans {a b c:Str} (h:slt b a=false) (h':slt c b=false):slt c a=false:=by
 cases q:slt c a with
 | false=>rfl
 | true =>
   cases q1:slt a b with
   | true=>have:=slt_trans q q1;exact nomatch h'.symm.trans this
   | false=>have:=slt_tri q1 h;subst this;exact nomatch h'.symm.trans q
theorem ltP_irr (p:Str×Str):ltP p p=false:=by simp [ltP]
theorem ltP_asym (p q:Str×Str) (h:ltP p q=true):ltP q p=false:=by
 unfold ltP at *
 by_cases e:p.1=q.1
 ·simp only [e,beq_self_eq_true,if_true] at *
  by_cases e2:p.2=q.2
  ·simp [e2] at h
  ·have e2':q.2≠p.2:=Ne.symm e2
   simp only [beq_iff_eq,e2,e2',if_false] at *
   exact slt_asym h
 ·have e':q.1≠p.1:=Ne.symm e
  simp only [beq_iff_eq,e,e',if_false] at *
  exact slt_asym h
theorem ltP_lt {p q:Str×Str}:ltP p q=true↔slt p.1 q.1=true∨(p.1=q.1∧slt p.2 q.2=true):=by
 unfold ltP
 by_cases e:p.1=q.1
 ·simp only [e,beq_self_eq_true,if_true,slt_irr]
  by_cases e2:p.2=q.2
  ·simp [e2,slt_irr]
  ·simp [e2]
 ·simp [e]
theorem bool_f {b:Bool} (h:¬ b=true):b=false:=by cases b <;> first | rfl | exact absurd rfl h
theorem ltP_tri {p q:Str×Str} (h:ltP p q=false) (h':ltP q p=false):p=q:=by
 have h1:¬ (slt p.1 q.1=true∨(p.1=q.1∧slt p.2 q.2=true)):=fun x=>by exact nomatch (ltP_lt.mpr x).symm.trans h
 have h2:¬ (slt q.1 p.1=true∨(q.1=p.1∧slt q.2 p.2=true)):=fun x=>by exact nomatch (ltP_lt.mpr x).symm.trans h'
 have e:p.1=q.1:=slt_tri (bool_f fun x=>h1 (.inl x)) (bool_f fun x=>h2 (.inl x))
 exact Prod.ext e (slt_tri (bool_f fun x=>h1 (.inr ⟨e,x⟩)) (bool_f fun x=>h2 (.inr ⟨e.symm,x⟩)))
theorem ltP_trans' {p q r:Str×Str} (h:ltP p q=true) (h':ltP q r=true):ltP p r=true:=by
 rw [ltP_lt] at *
 rcases h with h | ⟨e,h⟩ <;> rcases h' with h' | ⟨e',h'⟩
 ·exact .inl (slt_trans h h')
 ·exact .inl (e'▸h)
 ·exact .inl (e▸h')
 ·exact .inr ⟨e.trans e',slt_trans h h'⟩
theorem ltP_trans (p q r:Str×Str) (h:ltP q p=false) (h':ltP r q=false):ltP r p=false:=by
 cases k:ltP r p with
 | false=>rfl
 | true =>
   cases q1:ltP p q with
   | true=>have:=ltP_trans' k q1;exact nomatch h'.symm.trans this
   | false=>have:=ltP_tri q1 h;subst this;exact nomatch h'.symm.trans k
end Mine
end
section
namespace Mine
open PySem PySem.Spec PySem.Calls PyProof.Rows
def SpPush (S:Sy):Prop:=∀ a h x H K,H a=some (.list (h.map pV))→h.length < 100→K .none (H.set a (.list ((hpush ltP h x).map pV)))→S.C (.lit (.ref 267)) [.obj a,pV x] H K
def SpPop (S:Sy):Prop:=∀ a h H K,H a=some (.list (h.map pV))→h≠[]→h.length≤100→K (pV (hpop ltP h).1) (H.set a (.list ((hpop ltP h).2.map pV)))→S.C (.lit (.ref 274)) [.obj a] H K
noncomputable abbrev hpS:Scope:=fnScope "heappush" topB
noncomputable abbrev hpN:List Str:=["heap", "item"]
theorem nm_hp:∀ x,hasS hpN x=true→hpS.names.lookup x=some .local:=nm_of (by decide +kernel)
theorem gl_hp:hpS.names.lookup ("_siftdown" : Str)=some .globalImplicit∧hpS.names.lookup ("len" : Str)=some .globalImplicit:=by decide +kernel
theorem c_push {S : Sy} (B : SB S) (csd : SpSd S) (gs : S.G "_siftdown" = some (.lit (.ref 281))) {a : Addr} {h : List (Str × Str)} {x : Str × Str} {H : Hp} {K : KS} (ha : H a = some (.list (h.map pV))) (hl : h.length < 100)
  (hK:∀ loc,K .next loc (H.set a (.list ((hpush ltP h x).map pV)))):wSs S (fnScope "heappush" topB) (fnBody "heappush" topB) [("heap",some (.obj a)),("item",some (pV x))] H K:=by
 have k:Kn hpS hpN [("heap",.obj a),("item",pV x)] [("heap",some (.obj a)),("item",some (pV x))]:=Kn.init nm_hp
 have g1:=B.len
 obtain ⟨l1,l2⟩:=gl_hp
 with_unfolding_all refine x_doc ?_
 repeat walk_at "st2"
 refine cm_append ha ?_
 repeat walk_at "st2"
 refine B.bi (.append ha (map_len (Nat.le_trans (Nat.le_of_lt hl) (by decide))) ?_)
 have e:h.map pV++[pV x]=(h++[x]).map pV:=by rw [List.map_append];rfl
 have hl1:(h++[x]).length≤100:=Nat.le_trans (Nat.le_of_eq len1) hl
 have f:=Hp.set_self H a (.list ((h++[x]).map pV))
 rw [e]
 repeat walk_at "st2"
 refine B.bi (.len f (map_len (Nat.le_trans hl1 (by decide))) ?_)
 repeat walk_at "st2"
 have e2:(((h++[x]).map pV).length:Int) - 1=(h.length:Int):=by rw [List.length_map,List.length_append];exact Int.add_sub_cancel (h.length:Int) 1
 rw [e2]
 have hlt:h.length < (h++[x]).length:=Nat.lt_of_lt_of_le (Nat.lt_succ_self _) (Nat.le_of_eq len1.symm)
 refine csd a (h++[x]) h.length _ _ f hlt hl1 ?_
 have e3:atH (h++[x]) h.length=x:=by unfold atH;simp
 rw [hp_set2,e3]
 exact hK _
noncomputable abbrev hqS:Scope:=fnScope "heappop" topB
noncomputable abbrev hqN:List Str:=["heap", "lastelt", "returnitem"]
theorem nm_hq:∀ x,hasS hqN x=true→hqS.names.lookup x=some .local:=nm_of (by decide +kernel)
theorem gl_hq:hqS.names.lookup ("_siftup" : Str)=some .globalImplicit:=by decide +kernel
theorem si0 {n:Nat} (h:0 < n):seqIndex? 0 n=some 0:=PyProof.Rows.seqIndex?_zero h
theorem c_pop {S : Sy} (B : SB S) (csu : SpSu S) (gs : S.G "_siftup" = some (.lit (.ref 288))) {a : Addr} {h : List (Str × Str)} {H : Hp} {K : KS} (ha : H a = some (.list (h.map pV))) (hne : h ≠ []) (hl : h.length ≤ 100)
  (hK:∀ loc,K (.ret (pV (hpop ltP h).1)) loc (H.set a (.list ((hpop ltP h).2.map pV)))):wSs S (fnScope "heappop" topB) (fnBody "heappop" topB) [("heap",some (.obj a))] H K:=by
 have k:Kn hqS hqN [("heap",.obj a)] [("heap",some (.obj a))]:=Kn.init nm_hq
 have l1:=gl_hq
 obtain ⟨i,x,rfl⟩:∃ i x,h=i++[x]:=⟨h.dropLast,h.getLast hne,(List.dropLast_concat_getLast hne).symm⟩
 rw [List.map_append] at ha
 have hil:i.length+1≤100:=Nat.le_trans (Nat.le_of_eq len1.symm) hl
 have hil2:(i.map pV).length≤4096:=map_len (Nat.le_trans (Nat.le_of_lt hil) (by decide))
 with_unfolding_all refine x_doc ?_
 repeat walk_at "st2"
 refine cm_pop ha ?_
 repeat walk_at "st2"
 refine B.bi (.pop ha hil2 ?_)
 repeat walk_at "st2"
 refine v_list (xs:=i.map pV) (Hp.set_self _ _ _) hil2 ?_
 unfold hpop at hK
 rw [List.getLast?_concat] at hK
 dsimp only at hK
 rw [List.dropLast_concat] at hK
 cases i with
 | nil =>
   refine k_ifF ?_
   repeat walk_at "st2"
   exact hK _
 | cons r t =>
   refine k_ifT ?_
   repeat walk_at "st2"
   refine g_list (Hp.set_self _ _ _) (by decide) (si0 (Nat.succ_pos _)) (v:=pV r) rfl ?_
   repeat walk_at "st2"
   refine p_list (Hp.set_self _ _ _) (by decide) (si0 (Nat.succ_pos _)) ?_
   have e4:((r::t).map pV).set 0 (pV x)=(x::t).map pV:=rfl
   rw [hp_set2,e4]
   repeat walk_at "st2"
   refine csu a (x::t) _ _ (Hp.set_self _ _ _) (Nat.succ_pos _) (Nat.le_of_succ_le hil) ?_
   rw [hp_set2]
   repeat walk_at "st2"
   exact hK _
theorem strOk_of {s:Str} (h:s.cps.toList.all (· < 0x110000)=true):PyData.strOk s=true:=by
 unfold PyData.strOk;rw [← Array.all_toList];exact h
def Good (s:Str):Prop:=PyData.strOk s=true∧s.length≤50
noncomputable def itemsOf (old new:List Str):List (Str×Str):=(old.map fun r=>(r,if new.any (·==r) then ("  " : Str) else ("- " : Str)))++(new.filter fun r=>!old.any (·==r)).map fun r=>(r,("+ " : Str))
noncomputable def linesOf (p:Str×Str):List Str:=(p.2++p.1)::(if p.2 == "- " then ["? ^"] else [])
noncomputable def deltaOf (old new:List Str):List Str:=(hpops ltP 20 ((itemsOf old new).foldl (hpush ltP) [])).flatMap linesOf
theorem strsOf_map:∀ (l:List Str),strsOf (l.map .str)=some l
 | []=>rfl
 | a::r=>by simp only [List.map_cons,strsOf,strsOf_map r,Option.map_some]
theorem datas_pV (H:Hp) (n:Nat) (h:List (Str×Str)):dataOf.datasOf (dataOf H (n+2)) (h.map pV)=some (h.map fun p=>.tuple [.str p.1,.str p.2]):=by
 induction h with
 | nil=>rfl
 | cons p r ih=>exact datas_cons rfl ih
theorem dataOf_obj {H:Hp} {a:Addr} {xs:List V} {n:Nat} (h:H a=some (.list xs)):dataOf H (n+1) (.obj a)=(dataOf.datasOf (dataOf H n) xs).map .list:=by
 show (match H a with | some (.list xs)=>_ | _=>none)=_
 rw [h]
theorem can_pV:∀ {h:List (Str×Str)},(∀ p∈h,PyData.strOk p.1=true∧PyData.strOk p.2=true)→PyData.canLayAll0 (h.map fun p=>.tuple [.str p.1,.str p.2])=true
 | [],_=>rfl
 | p :: r, hg => by
   simp only [List.map_cons,PyData.canLayAll0,PyData.canLay0,Bool.and_true,Bool.and_eq_true]
   exact ⟨hg p (.head _),can_pV fun p hp=>hg p (.tail _ hp)⟩
theorem t_neNil {a c:Addr} {h:List (Str×Str)} {H:Hp} {KB':KB} (ha:H a=some (.list (h.map pV))) (hc:H c=some (.list [])) (hg:∀ p∈h,PyData.strOk p.1=true∧PyData.strOk p.2=true) (k:KB' (!h.isEmpty) H):wCmp .NotEq (.obj a) (.obj c) H (TB KB'):=by
 refine .inl ⟨.list (h.map fun p=>.tuple [.str p.1,.str p.2]),.list [],?_,?_,?_,rfl,?_,_,rfl,?_⟩
 ·rw [dataOf_obj ha,datas_pV];rfl
 ·rw [dataOf_obj hc];rfl
 ·show PyData.canLayAll0 _=true
  exact can_pV hg
 ·exact Nat.le_trans (Nat.min_le_right _ _) (by decide)
 ·cases h <;> exact k
theorem hpush_len (h:List (Str×Str)) (x:Str×Str):(hpush ltP h x).length=h.length+1:=by unfold hpush;rw [sdown_len];simp
theorem foldl_len:∀ (l h:List (Str×Str)),(l.foldl (hpush ltP) h).length=h.length+l.length
 | [],h=>rfl
 | x::r,h=>by rw [List.foldl_cons,foldl_len r,hpush_len,List.length_cons];exact Nat.add_right_comm _ 1 _
theorem set_keep {H H':Hp} {a:Addr} {o:O} (k:∀ b ob,H b=some ob→H' b=some ob) (n:H a=none):∀ b ob,H b=some ob→(H'.set a o) b=some ob:=fun b ob e=>(Hp.set_ne _ _ (fun q=>by rw [q,n] at e;cases e)).trans (k b ob e)
structure DSt (H:Hp) (c1 c2:Addr) (h:List (Str×Str)) (d:List Str) (H':Hp):Prop where
 keep:∀ b ob,H b=some ob→H' b=some ob
 n1:H c1=none
 n2:H c2=none
 ne:c1≠c2
 h1:H' c1=some (.list (h.map pV))
 h2:H' c2=some (.list (d.map .str))
theorem DSt.heap {H H':Hp} {c1 c2:Addr} {h h':List (Str×Str)} {d:List Str} (s:DSt H c1 c2 h d H'):DSt H c1 c2 h' d (H'.set c1 (.list (h'.map pV))) :=
 ⟨set_keep s.keep s.n1,s.n1,s.n2,s.ne,Hp.set_self _ _ _,(Hp.set_ne _ _ (Ne.symm s.ne)).trans s.h2⟩
theorem DSt.delta {H H':Hp} {c1 c2:Addr} {h:List (Str×Str)} {d d':List Str} (s:DSt H c1 c2 h d H'):DSt H c1 c2 h d' (H'.set c2 (.list (d'.map .str))) :=
 ⟨set_keep s.keep s.n2,s.n1,s.n2,s.ne,(Hp.set_ne _ _ s.ne).trans s.h1,Hp.set_self _ _ _⟩
theorem DSt.new {H H':Hp} {c1 c2 c:Addr} {h:List (Str×Str)} {d:List Str} {o:O} (s:DSt H c1 c2 h d H') (n:H' c=none):DSt H c1 c2 h d (H'.set c o) :=
 ⟨fun b ob e=>Hp.old n (s.keep b ob e),s.n1,s.n2,s.ne,Hp.old n s.h1,Hp.old n s.h2⟩
theorem hpop_len {h:List (Str×Str)} (hne:h≠[]):(hpop ltP h).2.length+1=h.length:=by
 obtain ⟨i,x,rfl⟩:∃ i x,h=i++[x]:=⟨h.dropLast,h.getLast hne,(List.dropLast_concat_getLast hne).symm⟩
 unfold hpop
 simp only [List.getLast?_concat,List.dropLast_concat]
 cases i with
 | nil=>rfl
 | cons r t =>
   show (sdown ltP x _ _).length+1=_
   rw [sdown_len,sup_len];simp
theorem heap_of:∀ (l h:List (Str×Str)),IsHeap ltP h→IsHeap ltP (l.foldl (hpush ltP) h)∧(l.foldl (hpush ltP) h).Perm (h++l)
 | [],h,hh=>⟨hh,by rw [List.append_nil];exact .rfl⟩
 | x :: r, h, hh => by
   obtain ⟨k1,k2⟩:=hpush_ok ltP_asym ltP_trans hh x
   obtain ⟨i1,i2⟩:=heap_of r (hpush ltP h x) k1
   refine ⟨i1,i2.trans ?_⟩
   have:=k2.append_right r
   rwa [List.append_assoc] at this
theorem item_of {old new:List Str} (hgo:∀ s∈old,Good s) (hgn:∀ s∈new,Good s) {p:Str×Str} (h:p∈itemsOf old new):Good p.1∧(p.2 = "  " ∨ p.2 = "- " ∨ p.2 = "+ "):=by
 rcases List.mem_append.mp h with h | h
 ·obtain ⟨r,hr,rfl⟩:=List.mem_map.mp h
  refine ⟨hgo r hr,?_⟩
  by_cases q:new.any (·==r)=true
  ·exact .inl (if_pos q)
  ·exact .inr (.inl (if_neg q))
 ·obtain ⟨r,hr,rfl⟩:=List.mem_map.mp h
  exact ⟨hgn r (List.mem_filter.mp hr).1,.inr (.inr rfl)⟩
theorem items_len {old new:List Str} (h1:old.length≤5) (h2:new.length≤5):(itemsOf old new).length≤10:=by
 unfold itemsOf
 rw [List.length_append,List.length_map,List.length_map]
 exact Nat.add_le_add h1 (Nat.le_trans (List.length_filter_le _ _) h2)
noncomputable abbrev dlS:Scope:=fnScope "_law_delta" topB
noncomputable abbrev dlN:List Str:=["old", "new", "heap", "delta", "row", "mark"]
theorem nm_dl:∀ x,hasS dlN x=true→dlS.names.lookup x=some .local:=nm_of (by decide +kernel)
theorem gl_dl:dlS.names.lookup ("heappush" : Str)=some .globalImplicit∧dlS.names.lookup ("heappop" : Str)=some .globalImplicit:=by decide +kernel
noncomputable def dlE (ao an c1 c2:Addr):En:=[("old",.obj ao),("new",.obj an),("heap",.obj c1),("delta",.obj c2)]
noncomputable abbrev dlL:List Str:=["old", "new", "heap", "delta"]
noncomputable def dlAt (k:Nat):Stmt:=stAt (fnBody "_law_delta" topB) k
structure DI (ao an c1 c2:Addr) (H:Hp) (h:List (Str×Str)) (d:List Str) (loc:Loc) (H':Hp):Prop where
 k:Kn dlS dlN (dlE ao an c1 c2) loc
 s:DSt H c1 c2 h d H'
structure DW (ao an c1 c2:Addr) (H:Hp) (D:List Str) (m:Nat) (loc:Loc) (H':Hp) (h:List (Str×Str)) (d:List Str) (n:Nat):Prop extends DI ao an c1 c2 H h d loc H' where
 hm:h.length=m
 hn:m≤n
 hd:d.length+2 * m≤20
 hh:IsHeap ltP h
 hg:∀ p∈h,Good p.1∧(p.2 = "  " ∨ p.2 = "- " ∨ p.2 = "+ ")
 e:D=d++(hpops ltP n h).flatMap linesOf
section
variable {S:Sy} (B:SB S) (cpu:SpPush S) (cpo:SpPop S) (gp:S.G "heappush" = some (.lit (.ref 267))) (gq:S.G "heappop" = some (.lit (.ref 274))) {ao an c1 c2:Addr} {old new D:List Str} {H:Hp} {K:KS} {h:List (Str×Str)} {d:List Str} {loc:Loc} {H':Hp} {r:List Stmt}
theorem dl_for1 (cpu : SpPush S) (gp : S.G "heappush" = some (.lit (.ref 267))) (ho : H ao = some (.list (old.map .str))) (hn : H an = some (.list (new.map .str))) (hl : h.length + old.length ≤ 50) (i : DI ao an c1 c2 H h d loc H')
  (hK:∀ loc H',DI ao an c1 c2 H ((old.map fun r=>(r,if new.any (·==r) then ("  " : Str) else ("- " : Str))).foldl (hpush ltP) h) d loc H'→wSs S dlS r loc H' K):wSs S dlS (dlAt 1::r) loc H' K:=by
 have l1:=gl_dl.1;have l2:=gl_dl.2
 have k:=i.k
 with_unfolding_all refine x_For ?_ rfl rfl
 repeat walk_at "st2"
 refine i_list (i.s.keep _ _ ho) ?_
 refine wItems_fold V.str (fun h r=>hpush ltP h (r,if new.any (·==r) then ("  " : Str) else ("- " : Str))) (fun h=>DI ao an c1 c2 H h d) List.length (fun h loc H' i=>i.s.keep _ _ ho) (fun h r=>Nat.le_of_eq (hpush_len h _)) old h _ _ 50 hl ?_ (fun loc H' i=>hK _ _ (by rw [List.foldl_map];exact i)) i
 clear hK k i
 intro row hr h loc H' K' hl i k'
 have k:=i.k
 repeat walk_at "st2"
 refine t_in (i.s.keep _ _ hn) (strsOf_map new) ?_
 repeat walk_at "st2"
 refine cpu c1 _ (row,if new.any (·==row) then ("  " : Str) else ("- " : Str)) _ _ i.s.h1 (Nat.lt_trans hl (by decide)) ?_
 repeat walk_at "st2"
 exact k' _ _ _ (.inl rfl) ⟨Kn.sub dlL (by walk_at "k2") rfl,i.s.heap⟩
theorem dl_for2 (cpu : SpPush S) (gp : S.G "heappush" = some (.lit (.ref 267))) (ho : H ao = some (.list (old.map .str))) (hn : H an = some (.list (new.map .str))) (hl : h.length + new.length ≤ 50) (i : DI ao an c1 c2 H h d loc H')
  (hK:∀ loc H',DI ao an c1 c2 H (((new.filter fun r=>!old.any (·==r)).map fun r=>(r,("+ " : Str))).foldl (hpush ltP) h) d loc H'→wSs S dlS r loc H' K):wSs S dlS (dlAt 2::r) loc H' K:=by
 have l1:=gl_dl.1;have l2:=gl_dl.2
 have k:=i.k
 with_unfolding_all refine x_For ?_ rfl rfl
 repeat walk_at "st2"
 refine i_list (i.s.keep _ _ hn) ?_
 refine wItems_fold V.str (fun h r=>if (!old.any (·==r))=true then hpush ltP h (r, "+ ") else h) (fun h=>DI ao an c1 c2 H h d) List.length (fun h loc H' i=>i.s.keep _ _ hn) (fun h r=>?_) new h _ _ 50 hl ?_ (fun loc H' i=>hK _ _ (by rw [List.foldl_map,List.foldl_filter];exact i)) i
 ·by_cases q:(!old.any (·==r))=true
  ·rw [if_pos q];exact Nat.le_of_eq (hpush_len h _)
  ·rw [if_neg q];exact Nat.le_succ _
 clear hK k i
 intro row hr h loc H' K' hl i k'
 have k:=i.k
 repeat walk_at "st2"
 refine t_nin (i.s.keep _ _ ho) (strsOf_map old) ?_
 refine k_if (fun hb=>?_) fun hb=>?_
 ·repeat walk_at "st2"
  refine cpu c1 _ (row, "+ ") _ _ i.s.h1 (Nat.lt_trans hl (by decide)) ?_
  repeat walk_at "st2"
  refine k' _ _ _ (.inl rfl) ?_
  rw [if_pos hb]
  exact ⟨Kn.sub dlL (by walk_at "k2") rfl,i.s.heap⟩
 ·repeat walk_at "st2"
  refine k' _ _ _ (.inl rfl) ?_
  rw [if_neg (by rw [hb];exact nofun)]
  exact ⟨Kn.sub dlL (by walk_at "k2") rfl,i.s⟩
theorem lines_eq (mark row:Str):[V.str (mark++row)]++(if (mark == "- ")=true then [V.str "? ^"] else [])=(linesOf (row,mark)).map .str:=by
 show _=((mark++row)::(if (mark == "- ")=true then [("? ^" : Str)] else [])).map V.str
 by_cases q:(mark == "- ")=true
 ·rw [if_pos q,if_pos q];rfl
 ·rw [if_neg q,if_neg q];rfl
theorem lines_len (p:Str×Str):(linesOf p).length≤2:=by
 show ((p.2++p.1)::(if (p.2 == "- ")=true then [("? ^" : Str)] else [])).length≤2
 by_cases q:(p.2 == "- ")=true
 ·rw [if_pos q];exact Nat.le_refl _
 ·rw [if_neg q];exact Nat.le_succ 1
include B cpo gq
theorem dl_while {n:Nat} (w:DW ao an c1 c2 H D h.length loc H' h d n) (hl:h.length≤10) (hK:∀ loc H',Kn dlS dlN (dlE ao an c1 c2) loc→Keep H H'→H c2=none→H' c2=some (.list (D.map .str))→wSs S dlS r loc H' K):wSs S dlS (dlAt 3::r) loc H' K:=by
 have l1:=gl_dl.1;have l2:=gl_dl.2
 with_unfolding_all refine z_While 11 (fun m loc H'=>∃ h d n,DW ao an c1 c2 H D m loc H' h d n) (fun loc H'=>∃ h,DI ao an c1 c2 H h D loc H') _ (Nat.lt_succ_of_le hl) ⟨h,d,n,w⟩ ?_ (fun loc H' z0=>(by obtain ⟨h,i⟩:=z0;exact hK _ _ i.k i.s.keep i.s.n2 i.s.h2))
 clear hK w hl
 rintro m loc H' R K' ⟨h,d,n,w⟩ hR hE
 have k:=w.k
 repeat walk_at "st2"
 intro c3 hc3
 have s1:=w.s.new (o:=.list []) hc3
 refine t_neNil s1.h1 (Hp.set_self _ _ _) (fun p hp=>⟨(w.hg p hp).1.1,?_⟩) ?_
 ·rcases (w.hg p hp).2 with e | e | e <;> rw [e] <;> exact strOk_of (by decide)
 cases h with
 | nil =>
   refine k_whF (hE _ _ ⟨[],k,?_⟩)
   have e:D=d++(hpops ltP n []).flatMap linesOf:=w.e
   have e:D=d:=e.trans (by cases n <;> exact List.append_nil d)
   exact e▸s1
 | cons p0 h0 =>
   refine k_whT ?_
   have hne:p0::h0≠[]:=nofun
   obtain ⟨p1,p2,p3,p4⟩:=hpop_ok ltP_asym ltP_trans w.hh hne ltP_irr
   have hgp:=w.hg _ (p2.mem_iff.mpr (.head _))
   have hg2:=fun p hp=>w.hg p (p2.mem_iff.mpr (.tail _ hp))
   have hlen:=hpop_len hne
   have he:=w.e
   have hm:=w.hm
   have hn:=w.hn
   have hd:=w.hd
   generalize p0::h0=h at *
   have hl:h.length≤100:=hm▸Nat.le_trans (Nat.le_trans (Nat.le_mul_of_pos_left m (by decide)) (Nat.le_trans (Nat.le_add_left _ _) hd)) (by decide)
   repeat walk_at "st2"
   refine cpo c1 h _ _ s1.h1 hne hl ?_
   have s2:=s1.heap (h':=(hpop ltP h).2)
   cases n with
   | zero=>exact absurd (List.eq_nil_of_length_eq_zero (hm▸Nat.le_zero.mp hn)) hne
   | succ n =>
     have hpe:hpops ltP (n+1) h=(hpop ltP h).1::hpops ltP n (hpop ltP h).2:=if_neg hne
     rw [hpe,List.flatMap_cons,← List.append_assoc] at he
     rw [← hm,← hlen] at hn hd
     generalize (hpop ltP h).2=h' at *
     generalize (hpop ltP h).1=p at *
     obtain ⟨row,mark⟩:=p
     have hmk:mark.length=2:=by rcases hgp.2 with e | e | e <;> rw [show mark=_ from e] <;> rfl
     have hrl:row.length≤50:=hgp.1.2
     repeat walk_at "st2"
     refine cm_extend s2.h2 ?_
     repeat walk_at "st2"
     refine b_cat (x:=mark) (y:=row) (big_line (Nat.le_trans (Nat.add_le_add (Nat.le_of_eq hmk) hrl) (by decide))) ?_
     repeat walk_at "st2"
     intro c4 hc4
     have s3:=s2.new (o:=.list [.str (mark++row)]) hc4
     have f4:=Hp.set_self ((((H'.set c3 (.list [])).set c1 (.list (h'.map pV))))) c4 (.list [.str (mark++row)])
     repeat walk_at "st2"
     intro c5 hc5
     have s4:=s3.new (o:=.list [.str "? ^"]) hc5
     have f5:=Hp.old (o':=.list [.str "? ^"]) hc5 f4
     repeat walk_at "st2"
     refine b_lmul (Hp.set_self _ _ _) (by decide) fun c6 hc6=>?_
     have s5:=s4.new (o:=.list (if (mark == "- ")=true then [.str "? ^"] else [])) hc6
     have f6:=Hp.old (o':=.list (if (mark == "- ")=true then [.str "? ^"] else [])) hc6 f5
     have hle:=lines_len (row,mark)
     refine b_lcat f6 (Hp.set_self _ _ _) ?_ fun c7 hc7=>?_
     ·rw [← List.length_append,lines_eq];exact map_len (Nat.le_trans hle (by decide))
     rw [lines_eq]
     have s6:=s5.new (o:=.list ((linesOf (row,mark)).map .str)) hc7
     repeat walk_at "st2"
     refine B.bi (.extend s6.h2 (Hp.set_self _ _ _) ?_ ?_)
     ·rw [List.length_map,List.length_map]
      exact Nat.le_trans (Nat.add_le_add (Nat.le_trans (Nat.le_add_right _ _) hd) hle) (by decide)
     rw [← List.map_append]
     repeat walk_at "st2"
     refine hR h'.length _ _ (by rw [← hm,← hlen];exact Nat.lt_succ_self _) ⟨h',_,n,⟨Kn.sub dlL (by walk_at "k2") rfl,s6.delta⟩,rfl,Nat.le_of_succ_le_succ hn,?_,p1,hg2,he⟩
     rw [List.length_append]
     exact Nat.le_trans (Nat.le_trans (Nat.add_le_add_right (Nat.add_le_add_left hle _) _) (Nat.le_of_eq (by rw [Nat.mul_succ,Nat.add_assoc,Nat.add_comm 2]))) hd
end
theorem c_delta {S : Sy} (B : SB S) (cpu : SpPush S) (cpo : SpPop S) (gp : S.G "heappush" = some (.lit (.ref 267))) (gq : S.G "heappop" = some (.lit (.ref 274))) {ao an : Addr} {old new : List Str} {H : Hp} {K : KS}
  (ho:H ao=some (.list (old.map .str))) (hn:H an=some (.list (new.map .str))) (hlo:old.length≤5) (hln:new.length≤5) (hgo:∀ s∈old,Good s) (hgn:∀ s∈new,Good s)
  (hK:∀ loc c H',H c=none→(∀ a o,(H.set c (.list ((deltaOf old new).map .str))) a=some o→H' a=some o)→K (.ret (.obj c)) loc H') :
  wSs S (fnScope "_law_delta" topB) (fnBody "_law_delta" topB) [("old",some (.obj ao)),("new",some (.obj an))] H K:=by
 have k:Kn dlS dlN [("old",.obj ao),("new",.obj an)] [("old",some (.obj ao)),("new",some (.obj an))]:=Kn.init nm_dl
 with_unfolding_all refine x_Assign ?_ rfl rfl
 repeat walk_at "st2"
 intro c1 hc1
 repeat walk_at "st2"
 intro c2 hc2
 obtain ⟨hc2',hne⟩:=Hp.oldN hc2
 have s0:DSt H c1 c2 [] [] ((H.set c1 (.list [])).set c2 (.list [])):=⟨fun b ob e=>Hp.old hc2 (Hp.old hc1 e),hc1,hc2',Ne.symm hne,(Hp.set_ne _ _ (Ne.symm hne)).trans (Hp.set_self _ _ _),Hp.set_self _ _ _⟩
 with_reducible refine x_es0 ?_
 with_reducible refine len_ok rfl ?_
 with_reducible refine x_as ?_
 with_reducible refine x_aTN (ns:=["heap", "delta"]) k rfl rfl ?_
 with_reducible refine x_as0 ?_
 refine dl_for1 cpu gp ho hn (Nat.le_trans (Nat.le_of_eq (Nat.zero_add _)) (Nat.le_trans hlo (by decide))) ⟨Kn.sub dlL (by walk_at "k2") rfl,s0⟩ fun loc H1 i=>dl_for2 cpu gp ho hn ?_ i fun loc H2 i=>?_
 ·rw [foldl_len,List.length_map]
  exact Nat.le_trans (Nat.add_le_add (Nat.le_trans (Nat.le_of_eq (Nat.zero_add _)) hlo) hln) (by decide)
 rw [← List.foldl_append] at i
 have i:DI ao an c1 c2 H ((itemsOf old new).foldl (hpush ltP) []) [] loc H2:=i
 obtain ⟨hh,hp⟩:=heap_of (itemsOf old new) [] (fun i h0 hl=>absurd hl (Nat.not_lt_zero _))
 have hl:=Nat.le_trans (Nat.le_of_eq (hp.length_eq.trans (congrArg _ (List.nil_append _)))) (items_len hlo hln)
 have hg:=fun p q=>item_of hgo hgn (p:=p) (List.nil_append (itemsOf old new)▸hp.mem_iff.mp q)
 refine dl_while B cpo gq (D:=deltaOf old new) (n:=20) ⟨i,rfl,Nat.le_trans hl (by decide),Nat.le_trans (Nat.le_of_eq (Nat.zero_add _)) (Nat.mul_le_mul_left 2 hl),hh,hg,rfl⟩ hl fun loc H3 k kp n2 f=>?_
 repeat walk_at "st2"
 refine hK _ _ _ n2 fun b ob e=>?_
 by_cases q:b=c2
 ·rw [q,Hp.set_self] at e;cases e;rw [q];exact f
 ·rw [Hp.set_ne _ _ q] at e;exact kp b ob e
noncomputable abbrev T3:=Nat×Nat×Nat
noncomputable def castT (p:T3):Int×Int×Int:=(p.1,p.2.1,p.2.2)
noncomputable def t3V (p:T3):V:=tupRow (castT p)
noncomputable def mOf (old new:List Str):List (Option Nat):=old.map fun r=>new.findIdx? (·==r)
noncomputable def runStep (rs:List T3) (i:Nat):Option Nat→List T3
 | none=>rs
 | some j => match rs.getLast? with
   | some p=>if p.1+p.2.2=i∧p.2.1+p.2.2=j then rs.dropLast++[(p.1,p.2.1,p.2.2+1)] else rs++[(i,j,1)]
   | none=>rs++[(i,j,1)]
noncomputable def runsP (i:Nat) (rs:List T3):List (Option Nat)→List T3
 | []=>rs
 | o::r=>runsP (i+1) (runStep rs i o) r
theorem runsP_snoc (l:List (Option Nat)):∀ (i:Nat) (rs:List T3) (o:Option Nat),runsP i rs (l++[o])=runStep (runsP i rs l) (i+l.length) o:=by
 induction l with
 | nil=>exact fun Z Z Z=>rfl
 | cons x r ih=>exact fun i rs o=>(ih (i+1) (runStep rs i x) o).trans (congrArg (fun n=>runStep (runsP (i+1) (runStep rs i x) r) n o) (Nat.add_right_comm i 1 r.length))
theorem datas_t3 (H:Hp) (n:Nat) (h:List T3):dataOf.datasOf (dataOf H (n+2)) (h.map t3V)=some (h.map fun p=>.tuple [.int p.1,.int p.2.1,.int p.2.2]):=by
 induction h with
 | nil=>rfl
 | cons p r ih=>exact datas_cons rfl ih
theorem can_t3:∀ (h:List T3),PyData.canLayAll0 (h.map fun p=>.tuple [.int p.1,.int p.2.1,.int p.2.2])=true
 | []=>rfl
 | p :: r => by
   simp only [List.map_cons,PyData.canLayAll0,PyData.canLay0,Bool.and_true,can_t3 r]
theorem t_neNil3 {a c:Addr} {h:List T3} {H:Hp} {KB':KB} (ha:H a=some (.list (h.map t3V))) (hc:H c=some (.list [])) (k:KB' (!h.isEmpty) H):wCmp .NotEq (.obj a) (.obj c) H (TB KB'):=by
 refine .inl ⟨.list (h.map fun p=>.tuple [.int p.1,.int p.2.1,.int p.2.2]),.list [],?_,?_,?_,rfl,?_,_,rfl,?_⟩
 ·rw [dataOf_obj ha,datas_t3];rfl
 ·rw [dataOf_obj hc];rfl
 ·exact can_t3 h
 ·exact Nat.le_trans (Nat.min_le_right _ _) (by decide)
 ·cases h <;> exact k
theorem t_eqII {a c:Addr} {x y u v:Int} {H:Hp} {KB':KB} (ha:H a=some (.list [.int x,.int y])) (hc:H c=some (.list [.int u,.int v])) (k:KB' (decide (x=u∧y=v)) H):wCmp .Eq (.obj a) (.obj c) H (TB KB'):=by
 refine ⟨.list [.int x,.int y],.list [.int u,.int v],?_,?_,rfl,rfl,?_,_,rfl,?_⟩
 ·rw [dataOf_obj ha];rfl
 ·rw [dataOf_obj hc];rfl
 ·exact Nat.le_trans (Nat.min_le_right _ _) (by simp [PyData.depth,PyData.depthAll])
 ·have : PyData.eqv (.list [.int x, .int y]) (.list [.int u, .int v]) = decide (x = u ∧ y = v) := by
   show ((x==u)&&((y==v)&&true))=_
   rw [Bool.and_true,Bool.eq_iff_iff];simp
  rw [this];exact k
theorem si_neg {n:Nat} (h:0 < n):seqIndex? (-1) n=some (n - 1):=PyProof.Rows.seqIndex?_neg_one h
theorem find_some {l:List Str} {x:Str} {j:Nat} (h:l.findIdx? (·==x)=some j):l[j]?=some x∧(∀ m,m < j→l[m]?≠some x)∧l.any (·==x)=true∧j < l.length:=by
 rw [List.findIdx?_eq_some_iff_getElem] at h
 obtain ⟨hj,e,no⟩:=h
 refine ⟨by rw [List.getElem?_eq_getElem hj,eq_of_beq e],fun m hm q=>?_,?_,hj⟩
 ·have:=no m hm
  rw [List.getElem?_eq_getElem (by omega)] at q
  cases q;simp at this
 ·rw [List.any_eq_true];exact ⟨_,List.getElem_mem hj,e⟩
theorem find_none {l:List Str} {x:Str} (h:l.findIdx? (·==x)=none):l.any (·==x)=false:=by
 rw [List.findIdx?_eq_none_iff] at h
 rw [List.any_eq_false]
 intro y hy
 rw [h y hy];decide
theorem g_t0 {p:T3} {H:Hp} {K:KV} (k:K (.int p.1) H):wGet (t3V p) (.int 0) H K:=⟨0,_,by decide,rfl,rfl,k⟩
theorem g_t1 {p:T3} {H:Hp} {K:KV} (k:K (.int p.2.1) H):wGet (t3V p) (.int 1) H K:=⟨1,_,by decide,rfl,rfl,k⟩
theorem g_t2 {p:T3} {H:Hp} {K:KV} (k:K (.int p.2.2) H):wGet (t3V p) (.int 2) H K:=⟨2,_,by decide,rfl,rfl,k⟩
theorem g_last {a:Addr} {init:List T3} {p:T3} {H:Hp} {K:KV} (h:H a=some (.list ((init++[p]).map t3V))) (k:K (t3V p) H):wGet (.obj a) (.int (-1)) H K :=
 g_list h (by decide) (si_neg (by simp)) (v:=t3V p) (by simp) k
noncomputable abbrev ruS:Scope:=fnScope "_law_runs" topB
noncomputable abbrev ruN:List Str:=["old", "new", "runs", "i", "row", "j"]
theorem nm_ru:∀ x,hasS ruN x=true→ruS.names.lookup x=some .local:=nm_of (by decide +kernel)
theorem gl_ru:ruS.names.lookup ("len" : Str)=some .globalImplicit∧ruS.names.lookup ("enumerate" : Str)=some .globalImplicit:=by decide +kernel
noncomputable def ruE (ao an c:Addr):En:=[("old",.obj ao),("new",.obj an),("runs",.obj c)]
noncomputable abbrev ruL:List Str:=["old", "new", "runs"]
noncomputable def ruF (ao an c:Addr) (i j:Nat):En:=("i",.int i)::("j",.int j)::ruE ao an c
noncomputable def ruFor:Stmt:=stAt (fnBody "_law_runs" topB) 1
theorem m_len (old new:List Str):(mOf old new).length=old.length:=List.length_map _
theorem t3_snoc (rs:List T3) (p:T3):(rs++[p]).map t3V=rs.map t3V++[.tup [.int p.1,.int p.2.1,.int p.2.2]]:=by rw [List.map_append];rfl
theorem run_last (init:List T3) (p:T3) (i j:Nat):runStep (init++[p]) i (some j)=if p.1+p.2.2=i∧p.2.1+p.2.2=j then init++[(p.1,p.2.1,p.2.2+1)] else init++[p]++[(i,j,1)]:=by
 unfold runStep
 rw [List.getLast?_concat]
 dsimp only
 rw [List.dropLast_concat]
theorem cast2 {a b c d i j:Nat}:((a:Int)+b=i∧(c:Int)+d=j)↔(a+b=i∧c+d=j):=⟨fun h=>⟨Int.ofNat.inj h.1,Int.ofNat.inj h.2⟩,fun h=>⟨congrArg _ h.1,congrArg _ h.2⟩⟩
section
variable {S:Sy} (B:SB S) {ao an c:Addr} {old new:List Str} {H:Hp} {K:KS} {loc:Loc} {H':Hp} {i j:Nat} {rs:List T3}
include B
theorem ru_elif (k:Kn ruS ruN (ruF ao an c i j) loc) (hr:H' c=some (.list (rs.map t3V))) (hl:rs.length≤50) (hK:K .next loc (H'.set c (.list ((rs++[(i,j,1)]).map t3V)))):wSs S ruS (elseOf (stAt (bodyOf ruFor) 1)) loc H' K:=by
 with_unfolding_all refine z_If ?_
 repeat walk_at "st2"
 refine k_if (fun Z=>?_) fun q=>absurd (Int.natCast_nonneg j) (of_decide_eq_false q)
 repeat walk_at "st2"
 refine cm_append hr ?_
 repeat walk_at "st2"
 refine B.bi (.append hr (map_len (Nat.le_trans hl (by decide))) ?_)
 repeat walk_at "st2"
 rw [t3_snoc] at hK
 exact hK
theorem ru_if {r : Str} (k : Kn ruS ruN (ruF ao an c i j) loc) (hr : H' c = some (.list (rs.map t3V))) (hl : rs.length ≤ 50)
  (hK:∀ H2,(∀ b ob,b≠c→H' b=some ob→H2 b=some ob)→H2 c=some (.list ((runStep rs i (some j)).map t3V))→K .next loc H2):wSs S ruS (stAt (bodyOf ruFor) 1::[]) loc H' K:=by
 with_unfolding_all refine z_If ?_
 repeat walk_at "st2"
 refine k_and (fun Z=>?_) fun q=>absurd (Int.natCast_nonneg j) (of_decide_eq_false q)
 repeat walk_at "st2"
 intro c2 hc2
 have hr2:=Hp.old (o':=.list []) hc2 hr
 refine t_neNil3 hr2 (Hp.set_self _ _ _) ?_
 have k2:=fun b ob e=>Hp.old (o':=.list []) (a:=b) (o:=ob) hc2 e
 rcases List.eq_nil_or_concat rs with rfl | ⟨init,p,rfl⟩
 ·refine k_andF (k_ifF ?_)
  exact ru_elif B k hr2 hl (hK _ (fun b ob q e=>(Hp.set_ne _ _ q).trans (k2 b ob e)) (Hp.set_self _ _ _))
 rw [List.concat_eq_append] at *
 rw [show (!(init++[p]).isEmpty)=true from by cases init <;> rfl]
 repeat (first | walk_at "st2" | with_reducible refine g_last hr2 ?_ | with_reducible refine g_t0 ?_ | with_reducible refine g_t1 ?_ | with_reducible refine g_t2 ?_)
 intro c3 hc3
 have hr3:=Hp.old (o':=.list [.int ((p.1:Int)+p.2.2),.int ((p.2.1:Int)+p.2.2)]) hc3 hr2
 have f3:=Hp.set_self (H'.set c2 (.list [])) c3 (.list [.int ((p.1:Int)+p.2.2),.int ((p.2.1:Int)+p.2.2)])
 have k3:=fun b ob e=>Hp.old (o':=.list [.int ((p.1:Int)+p.2.2),.int ((p.2.1:Int)+p.2.2)]) hc3 (k2 b ob e)
 repeat walk_at "st2"
 intro c4 hc4
 refine t_eqII (Hp.old hc4 f3) (Hp.set_self _ _ _) ?_
 have hr4:=Hp.old (o':=.list [.int i,.int j]) hc4 hr3
 have k4:=fun b ob e=>Hp.old (o':=.list [.int i,.int j]) hc4 (k3 b ob e)
 have hs:=run_last init p i j
 refine k_and (fun hq=>?_) fun hq=>?_
 ·rw [if_pos (cast2.mp (of_decide_eq_true hq))] at hs
  repeat (first | walk_at "st2" | with_reducible refine g_last hr4 ?_ | with_reducible refine g_t0 ?_ | with_reducible refine g_t1 ?_ | with_reducible refine g_t2 ?_)
  refine p_list hr4 (by decide) (si_neg (by rw [List.length_map,List.length_append];exact Nat.succ_pos _)) ?_
  have es:((init++[p]).map t3V).set (((init++[p]).map t3V).length - 1) (.tup [.int p.1,.int p.2.1,.int ((p.2.2:Int)+1)])=(init++[(p.1,p.2.1,p.2.2+1)]).map t3V:=by
   simp [t3V,tupRow,castT]
  rw [es]
  repeat walk_at "st2"
  exact hK _ (fun b ob q e=>(Hp.set_ne _ _ q).trans (k4 b ob e)) (hs▸Hp.set_self _ _ _)
 ·rw [if_neg fun q=>of_decide_eq_false hq (cast2.mpr q)] at hs
  refine k_ifF (ru_elif B k hr4 hl ?_)
  exact hK _ (fun b ob q e=>(Hp.set_ne _ _ q).trans (k4 b ob e)) (hs▸Hp.set_self _ _ _)
structure RI (ao an c:Addr) (H:Hp) (m:List (Option Nat)) (i:Nat) (loc:Loc) (H':Hp) (rs:List T3):Prop where
 k:Kn ruS ruN (ruE ao an c) loc
 kp:Keep H H'
 hr:H' c=some (.list (rs.map t3V))
 lr:rs.length≤i
 e:runsP 0 [] (m.take i)=rs
omit B in
theorem step_len (rs:List T3) (i:Nat) (o:Option Nat):(runStep rs i o).length≤rs.length+1:=by
 cases o with
 | none=>exact Nat.le_succ _
 | some j =>
   rcases List.eq_nil_or_concat rs with rfl | ⟨init,p,rfl⟩
   ·exact Nat.le_refl _
   ·rw [List.concat_eq_append,run_last]
    by_cases q:p.1+p.2.2=i∧p.2.1+p.2.2=j
    ·rw [if_pos q,len1,len1];exact Nat.le_succ _
    ·rw [if_neg q,len1,len1];exact Nat.le_refl _
theorem ru_for (ho : H ao = some (.list (old.map .str))) (hn : H an = some (.list (new.map .str))) (hlo : old.length ≤ 5) (hln : new.length ≤ 5) (nc : H c = none) {r : List Stmt} (i0 : RI ao an c H (mOf old new) 0 loc H' [])
  (hK:∀ loc H',RI ao an c H (mOf old new) old.length loc H' (runsP 0 [] (mOf old new))→wSs S ruS r loc H' K):wSs S ruS (ruFor::r) loc H' K:=by
 have l1:=gl_ru.1;have l2:=gl_ru.2
 have g2:=B.enum
 have k:=i0.k
 with_unfolding_all refine x_For ?_ rfl rfl
 repeat walk_at "st2"
 refine .inl ⟨_,_,rfl,i0.kp _ _ ho,?_⟩
 refine wItems_inv (fun i loc H'=>∃ rs,RI ao an c H (mOf old new) i loc H' rs) _ [] _ _ (fun i loc H' z0=>(by obtain ⟨rs,x⟩:=z0;exact x.kp _ _ ho)) ?_ ?_ ⟨_,i0⟩
 ·clear hK i0 k
  rintro i x loc H' K' hx ⟨rs,i0⟩ k'
  rw [List.nil_append,pairs_at,List.getElem?_map,Int.zero_add] at hx
  obtain ⟨v,hv,rfl⟩:=Option.map_eq_some_iff.mp hx
  obtain ⟨r,hor,rfl⟩:=Option.map_eq_some_iff.mp hv
  have hi:=(List.getElem?_eq_some_iff.mp hor).1
  have hstep:runsP 0 [] ((mOf old new).take (i+1))=runStep rs i (new.findIdx? (·==r)):=by
   rw [List.take_add_one,show (mOf old new)[i]?=some (new.findIdx? (·==r)) from by unfold mOf;rw [List.getElem?_map,hor];rfl]
   show runsP 0 [] (_++[_])=_
   rw [runsP_snoc,i0.e,List.length_take_of_le (m_len old new▸Nat.le_of_lt hi),Nat.zero_add]
  have hl:=Nat.le_trans (step_len rs i (new.findIdx? (·==r))) (Nat.succ_le_succ i0.lr)
  have k:=i0.k
  repeat walk_at "st2"
  refine t_in (i0.kp _ _ hn) (strsOf_map new) ?_
  cases hf:new.findIdx? (·==r) with
  | none =>
    rw [hf] at hstep hl
    rw [find_none hf]
    refine k_ie nofun fun Z=>?_
    repeat walk_at "st2"
    refine k_and (fun q=>absurd q (by decide)) fun Z=>k_ifF ?_
    repeat walk_at "st2"
    refine k_if (fun q=>absurd q (by decide)) fun Z=>?_
    repeat walk_at "st2"
    exact k' _ _ _ (.inl rfl) ⟨rs,Kn.sub ruL (by walk_at "k2") rfl,i0.kp,i0.hr,hl,hstep⟩
  | some j =>
    rw [hf] at hstep hl
    obtain ⟨f1,f2,f3,f4⟩:=find_some hf
    rw [f3]
    refine k_ie (fun Z=>?_) nofun
    repeat walk_at "st2"
    refine cm_index (i0.kp _ _ hn) ?_
    repeat walk_at "st2"
    refine B.bi (.index (i0.kp _ _ hn) (strsOf_map new) (map_len (Nat.le_trans hln (by decide))) f1 f2 ?_)
    with_reducible refine x_as ?_
    with_reducible refine x_aN (k.nm "j" rfl) ?_
    with_reducible refine x_as0 ?_
    refine ru_if B (r:=r) (i:=i) (j:=j) (Kn.sub ("i" :: "j" :: ruL) (by walk_at "k2") rfl) i0.hr (Nat.le_trans i0.lr (Nat.le_trans (Nat.le_of_lt (Nat.lt_of_lt_of_le hi hlo)) (by decide))) fun H2 kp hr=>?_
    exact k' _ _ _ (.inl rfl) ⟨_,Kn.sub ruL (by walk_at "k2") rfl,fun b ob e=>kp b ob (ad_ne e nc) (i0.kp b ob e),hr,hl,hstep⟩
 ·rintro loc H' ⟨rs,i⟩
  rw [List.nil_append,pairs_len,List.length_map] at i
  have e:=i.e
  rw [List.take_of_length_le (Nat.le_of_eq (m_len old new))] at e
  repeat walk_at "st2"
  exact hK _ _ (e▸⟨i.k,i.kp,e▸i.hr,e▸i.lr,e▸(by rw [List.take_of_length_le (Nat.le_of_eq (m_len old new))])⟩)
end
theorem c_runs {S : Sy} (B : SB S) {ao an : Addr} {old new : List Str} {H : Hp} {K : KS}
  (ho:H ao=some (.list (old.map .str))) (hn:H an=some (.list (new.map .str))) (hlo:old.length≤5) (hln:new.length≤5)
  (hK:∀ loc c H',H c=none→(∀ a o,(H.set c (.list ((runsP 0 [] (mOf old new)++[(old.length,new.length,0)]).map t3V))) a=some o→H' a=some o)→K (.ret (.obj c)) loc H') :
  wSs S (fnScope "_law_runs" topB) (fnBody "_law_runs" topB) [("old",some (.obj ao)),("new",some (.obj an))] H K:=by
 have k:Kn ruS ruN [("old",.obj ao),("new",.obj an)] [("old",some (.obj ao)),("new",some (.obj an))]:=Kn.init nm_ru
 have g1:=B.len
 have l1:=gl_ru.1;have l2:=gl_ru.2
 with_unfolding_all refine x_Assign ?_ rfl rfl
 repeat walk_at "st2"
 intro c hc
 with_reducible refine x_as ?_
 with_reducible refine x_aN (k.nm "runs" rfl) ?_
 with_reducible refine x_as0 ?_
 refine ru_for B (c:=c) ho hn hlo hln hc ⟨Kn.sub ruL (by walk_at "k2") rfl,fun b ob e=>Hp.old hc e,Hp.set_self _ _ _,Nat.le_refl _,rfl⟩ fun loc H1 i=>?_
 have k:=i.k
 repeat walk_at "st2"
 refine B.bi (.len (i.kp _ _ ho) (map_len (Nat.le_trans hlo (by decide))) ?_)
 repeat walk_at "st2"
 refine B.bi (.len (i.kp _ _ hn) (map_len (Nat.le_trans hln (by decide))) ?_)
 rw [List.length_map,List.length_map]
 repeat walk_at "st2"
 intro c5 hc5
 have hr5:=Hp.old (o':=.list [.tup [.int old.length,.int new.length,.int 0]]) hc5 i.hr
 have hl5:(List.map t3V (runsP 0 [] (mOf old new))).length≤5:=map_len (Nat.le_trans i.lr hlo)
 refine b_lcat hr5 (Hp.set_self _ _ _) (Nat.le_trans (Nat.succ_le_succ hl5) (by decide)) fun c6 hc6=>?_
 refine hK _ _ _ (keep_none i.kp (Hp.oldN hc6).1) fun b ob e=>?_
 by_cases q:b=c6
 ·rw [q,Hp.set_self,t3_snoc] at e
  rw [q]
  exact (Hp.set_self _ _ _).trans e
 ·rw [Hp.set_ne _ _ q] at e
  rw [Hp.set_ne _ _ q]
  exact Hp.old hc5 (i.kp _ _ e)
theorem at_inst {s d:Addr} {kvs:List (Str×V)} {n:Str} {v:V} {H:Hp} {K:KV} (hs:H s=some (.inst d)) (hd:H d=some (.ns kvs)) (hg:getK kvs n=some v) (ha:attrs.contains n=true) (hp:plainV v=true) (k:K v H):wAttr H n K (.obj s) :=
 .inst ha hs hd hg hp k
theorem pa_inst {s d:Addr} {kvs:List (Str×V)} {n:Str} {v:V} {H:Hp} {KH:Hp→Prop} (hs:H s=some (.inst d)) (hd:H d=some (.ns kvs)) (ha:attrs.contains n=true) (hl:kvs.length≤100) (k:KH (H.set d (.ns (putK kvs n v)))):wPutA (.obj s) n v H KH :=
 ⟨d,kvs,ha,hs,hd,hl,k⟩
theorem cm_inst {S:Sy} {s d f:Addr} {kvs:List (Str×V)} {n:Str} {H:Hp} (hs:H s=some (.inst d)) (hd:H d=some (.ns kvs)) (hg:getK kvs n=none) (hc:S.cl n=some f) {R:V→Prop} (r:R (.lit (.ref f))):∃ f,calleeM S.cl H n (.obj s) f∧R f :=
 ⟨.lit (.ref f),.cls hs hd hg hc,r⟩
noncomputable def tabK (ys:List Str) (ls:List Addr):List (Str×V):=ys.zip (ls.map V.obj)
theorem tabK_none {ys:List Str} {ls:List Addr} {k:Str} (h:k ∉ ys):getK (tabK ys ls) k=none:=by
 unfold getK tabK
 rw [Option.map_eq_none_iff,List.find?_eq_none]
 intro kv hkv
 simp only [decide_eq_true_eq]
 intro e
 exact h (e▸(List.of_mem_zip hkv).1)
theorem tabK_some {ys:List Str}:∀ {ls:List Addr} {j:Nat} {k:Str} {l:Addr},ys.Nodup→ys[j]?=some k→ls[j]?=some l→getK (tabK ys ls) k=some (.obj l):=by
 induction ys with
 | nil=>exact fun Z e Z=>nomatch e
 | cons y ys ih =>
   intro ls j k l nd e e'
   cases ls with
   | nil=>exact nomatch e'
   | cons l' ls =>
     cases j with
     | zero=>exact congrArg (Option.map Prod.snd) (List.find?_cons_of_pos (p:=fun kv:Str×V=>decide (kv.1=k)) (a:=(y,V.obj l')) (decide_eq_true (Option.some.inj e))) |>.trans (congrArg (some ∘ V.obj) (Option.some.inj e'))
     | succ j =>
       have nd:=List.nodup_cons.mp nd
       have e:ys[j]?=some k:=e
       exact (congrArg (Option.map Prod.snd) (List.find?_cons_of_neg (p:=fun kv:Str×V=>decide (kv.1=k)) (a:=(y,V.obj l')) (fun q=>nd.1 ((show y=k from of_decide_eq_true q)▸List.mem_of_getElem? e)))).trans (ih nd.2 e e')
theorem tabK_put {ys:List Str} {ls:List Addr} {k:Str} {c:Addr} (hl:ys.length=ls.length) (h:k ∉ ys):putK (tabK ys ls) k (.obj c)=tabK (ys++[k]) (ls++[c]):=by
 unfold putK
 have:((tabK ys ls).any fun kv=>decide (kv.1=k))=false:=by
  rw [List.any_eq_false]
  intro kv hkv
  simp only [decide_eq_true_eq]
  intro e
  exact h (e▸(List.of_mem_zip hkv).1)
 rw [this,if_neg (by decide)]
 unfold tabK
 rw [List.map_append,List.zip_append (by simpa using hl)]
 rfl
theorem tabK_len {ys:List Str} {ls:List Addr}:(tabK ys ls).length≤ys.length:=by unfold tabK;rw [List.length_zip];exact Nat.min_le_left _ _
structure JTab (H:Hp) (db:Addr) (ls:List Addr) (ys:List Str):Prop where
 tab:H db=some (.dS (tabK ys ls))
 len:ls.length=ys.length
 at_:∀ (j:Nat) (l:Addr),ls[j]?=some l→H l=some (.list [.int j])
theorem JTab.new {H:Hp} {db c:Addr} {ls:List Addr} {ys:List Str} {o:O} (t:JTab H db ls ys) (n:H c=none):JTab (H.set c o) db ls ys :=
 ⟨Hp.old n t.tab,t.len,fun j l e=>Hp.old n (t.at_ j l e)⟩
theorem JTab.other {H:Hp} {db c:Addr} {ls:List Addr} {ys:List Str} {o:O} (t:JTab H db ls ys) (h1:c≠db) (h2:∀ l∈ls,c≠l):JTab (H.set c o) db ls ys :=
 ⟨(Hp.set_ne _ _ (Ne.symm h1)).trans t.tab,t.len,fun j l e=>(Hp.set_ne _ _ (Ne.symm (h2 l (List.mem_of_getElem? e)))).trans (t.at_ j l e)⟩
def SpChain (S:Sy):Prop:=∀ (s d an:Addr) (kvs:List (Str×V)) (new:List Str) (H:Hp) (K:KV),H s=some (.inst d)→H d=some (.ns kvs)→H an=some (.list (new.map .str))→new.length≤5→new.Nodup→kvs.length≤50 →
 getK kvs "b" = some (.obj an)→getK kvs "isjunk" = some .none→getK kvs "autojunk" = some (.bool true) →
 (∀ (db j1 j2:Addr) (ls:List Addr) (H':Hp),(∀ b ob,b≠d→H b=some ob→H' b=some ob)→H' d=some (.ns (putK (putK (putK kvs ("b2j" : Str) (.obj db)) ("bjunk" : Str) (.obj j1)) ("bpopular" : Str) (.obj j2)))→JTab H' db ls new→H' j1=some .set0→(∀ l∈ls,H l=none)→H db=none→H j1=none→K .none H')→S.C (.lit (.ref 188)) [.obj s] H K
theorem getK_ne {K:Type} [DecidableEq K] {kvs:List (K×V)} {k k':K} {v:V} (h:k≠k'):getK (putK kvs k v) k'=getK kvs k':=by
 unfold putK
 split
 ·unfold getK
  congr 1
  induction kvs with
  | nil=>rfl
  | cons p r ih =>
    rw [List.map_cons,List.find?_cons,List.find?_cons]
    have e:(if p.1=k then (p.1,v) else p).1=p.1:=by split <;> rfl
    rw [e]
    by_cases q:p.1=k'
    ·have:p.1≠k:=fun q2=>h (q2.symm.trans q)
     simp [q,this]
     intro e2;exact absurd (e2▸rfl) (Ne.symm h)
    ·simp only [q,decide_false]
     rename_i hany
     by_cases hr:(r.any fun kv=>decide (kv.1=k))=true
     ·exact ih hr
     ·have : r.map (fun kv => if kv.1 = k then (kv.1, v) else kv) = r := by
       have hh:∀ kv∈r,kv.1≠k:=by
        intro kv hkv e
        exact hr (List.any_eq_true.mpr ⟨kv,hkv,by simp [e]⟩)
       exact (List.map_congr_left (fun kv hkv=>if_neg (hh kv hkv))).trans (List.map_id _)
      rw [this]
 ·unfold getK
  rw [List.find?_append]
  cases kvs.find? fun kv=>decide (kv.1=k') with
  | some p=>rfl
  | none=>simp [h]
theorem putK_le {K:Type} [DecidableEq K] (kvs:List (K×V)) (k:K) (v:V):(putK kvs k v).length≤kvs.length+1:=by
 unfold putK;split <;> simp
theorem getK_me {K:Type} [DecidableEq K] {kvs:List (K×V)} {k:K} {v:V}:getK (putK kvs k v) k=some v:=by
 unfold putK
 split
 ·rename_i h
  unfold getK
  induction kvs with
  | nil=>simp at h
  | cons p r ih =>
    rw [List.map_cons,List.find?_cons]
    by_cases q:p.1=k
    ·simp [q]
    ·simp only [q,if_false,decide_false]
     exact ih (by simpa [q] using h)
 ·rename_i h
  unfold getK
  rw [List.find?_append]
  have:kvs.find? (fun kv=>decide (kv.1=k))=none:=by
   rw [List.find?_eq_none]
   intro kv hkv e
   exact h (List.any_eq_true.mpr ⟨kv,hkv,e⟩)
  rw [this];simp
noncomputable abbrev chS:Scope:=fnScope "__chain_b" smB
noncomputable abbrev chN:List Str:=["self", "b", "b2j", "i", "elt", "indices", "junk", "isjunk", "popular", "n"]
theorem nm_ch:∀ x,hasS chN x=true→chS.names.lookup x=some .local:=nm_of (by decide +kernel)
theorem gl_ch:chS.names.lookup ("enumerate" : Str)=some .globalImplicit∧chS.names.lookup ("set" : Str)=some .globalImplicit∧chS.names.lookup ("len" : Str)=some .globalImplicit:=by decide +kernel
noncomputable def chE (s an db:Addr):En:=[("self",.obj s),("b",.obj an),("b2j",.obj db)]
noncomputable abbrev chL:List Str:=["self", "b", "b2j"]
noncomputable def chFor:Stmt:=stAt (fnBody "__chain_b" smB) 2
abbrev KeepX (d:Addr) (H H':Hp):Prop:=∀ b ob,b≠d→H b=some ob→H' b=some ob
structure CI (s d an db:Addr) (kvs:List (Str×V)) (H:Hp) (new:List Str) (i:Nat) (loc:Loc) (H':Hp) (ls:List Addr):Prop where
 k:Kn chS chN (chE s an db) loc
 kp:KeepX d H H'
 hd:H' d=some (.ns kvs)
 t:JTab H' db ls (new.take i)
 nl:∀ l∈ls,H l=none
theorem JTab.ne {H:Hp} {db c:Addr} {ls:List Addr} {ys:List Str} (t:JTab H db ls ys) (n:∀ j,H c≠some (.list [.int j])):∀ l∈ls,c≠l:=fun l hl q=>by
 obtain ⟨j,hj,e⟩:=List.mem_iff_getElem.mp hl
 exact n _ (q▸t.at_ j l (e▸List.getElem?_eq_getElem hj))
theorem JTab.snoc {H:Hp} {db c:Addr} {ls:List Addr} {ys:List Str} (t:JTab H db ls ys) (n:H c=none) (r:Str):JTab (((H.set c (.list [])).set db (.dS (tabK (ys++[r]) (ls++[c])))).set c (.list [.int ys.length])) db (ls++[c]) (ys++[r]):=by
 have hcdb:db≠c:=ad_ne t.tab n
 have hcls:=t.ne (c:=c) (fun j q=>by rw [n] at q;cases q)
 have hdb:=t.ne (c:=db) (fun j q=>by rw [t.tab] at q;cases q)
 refine ⟨(Hp.set_ne _ _ hcdb).trans (Hp.set_self _ _ _),by rw [len1,len1,t.len],fun j l e=>?_⟩
 rcases Nat.lt_trichotomy j ls.length with h | h | h
 ·rw [List.getElem?_append_left h] at e
  have hm:=List.mem_of_getElem? e
  rw [Hp.set_ne _ _ (Ne.symm (hcls l hm)),Hp.set_ne _ _ (Ne.symm (hdb l hm)),Hp.set_ne _ _ (Ne.symm (hcls l hm))]
  exact t.at_ j l e
 ·subst h
  rw [List.getElem?_concat_length] at e
  cases e
  rw [t.len]
  exact Hp.set_self _ _ _
 ·rw [List.getElem?_eq_none (by rw [len1];exact h)] at e;cases e
theorem not_take {new:List Str} {i:Nat} {r:Str} (nd:new.Nodup) (h:new[i]?=some r):r ∉ new.take i:=fun hm=>by
 obtain ⟨m,hm',e⟩:=List.mem_iff_getElem.mp hm
 obtain ⟨hi,e2⟩:=List.getElem?_eq_some_iff.mp h
 rw [List.getElem_take] at e
 have hmi:m < i:=Nat.lt_of_lt_of_le hm' (List.length_take_le i new)
 exact List.pairwise_iff_getElem.mp nd m i (Nat.lt_trans hmi hi) hi hmi (e.trans e2.symm)
section
variable {S:Sy} (B:SB S) {s d an db:Addr} {kvs:List (Str×V)} {new:List Str} {H:Hp} {K:KS} {loc:Loc} {H':Hp} {r:List Stmt}
include B
theorem ch_for (had : an ≠ d) (hdd : H d = some (.ns kvs)) {kvs' : List (Str × V)} (hdb : H db = none) (hn : H an = some (.list (new.map .str))) (hl : new.length ≤ 5) (nd : new.Nodup) (i0 : CI s d an db kvs' H new 0 loc H' [])
  (hK:∀ loc H' ls,CI s d an db kvs' H new new.length loc H' ls→wSs S chS r loc H' K):wSs S chS (chFor::r) loc H' K:=by
 have l1:=gl_ch.1;have l2:=gl_ch.2.1;have l3:=gl_ch.2.2
 have g2:=B.enum
 have k:=i0.k
 with_unfolding_all refine x_For ?_ rfl rfl
 repeat walk_at "st2"
 refine .inl ⟨_,_,rfl,i0.kp _ _ had hn,?_⟩
 refine wItems_inv (fun i loc H'=>∃ ls,CI s d an db kvs' H new i loc H' ls) _ [] _ _ (fun i loc H' z0=>(by obtain ⟨ls,x⟩:=z0;exact x.kp _ _ had hn)) ?_ ?_ ⟨_,i0⟩
 ·clear hK i0 k
  rintro i x loc H' K' hx ⟨ls,i0⟩ k'
  rw [List.nil_append,pairs_at,List.getElem?_map,Int.zero_add] at hx
  obtain ⟨v,hv,rfl⟩:=Option.map_eq_some_iff.mp hx
  obtain ⟨r,hor,rfl⟩:=Option.map_eq_some_iff.mp hv
  have hi:=(List.getElem?_eq_some_iff.mp hor).1
  have hnotin:=not_take nd hor
  have t:=i0.t
  have htl:(new.take i).length=i:=List.length_take_of_le (Nat.le_of_lt hi)
  have k:=i0.k
  repeat walk_at "st2"
  refine cm_setdefault t.tab ?_
  repeat walk_at "st2"
  intro c hc
  have tl:(tabK (new.take i) ls).length≤100:=Nat.le_trans tabK_len (Nat.le_trans (List.length_take_le i new) (Nat.le_trans (Nat.le_trans (Nat.le_of_lt hi) hl) (by decide)))
  have hcd:d≠c:=ad_ne i0.hd hc
  have hc0:H c=none:=by
   cases q:H c with
   | none=>rfl
   | some ob=>rw [i0.kp _ _ hcd.symm q] at hc;cases hc
  refine B.bi (.setdefault (t.new (o:=.list []) hc).tab (Nat.le_trans tl (by decide)) (fun y e=>by rw [tabK_none hnotin] at e;cases e) fun Z=>?_)
  rw [tabK_put (by rw [t.len]) hnotin]
  have hcdb:db≠c:=ad_ne t.tab hc
  have f1:=(Hp.set_ne (H'.set c (.list [])) (.dS (tabK (new.take i++[r]) (ls++[c]))) hcdb.symm).trans (Hp.set_self H' c (.list []))
  repeat walk_at "st2"
  refine cm_append f1 ?_
  repeat walk_at "st2"
  refine B.bi (.append f1 (by decide) ?_)
  repeat walk_at "st2"
  have ts:=t.snoc hc r
  rw [htl,show new.take i++[r]=new.take (i+1) from by rw [List.take_add_one,hor];rfl] at ts
  refine k' _ _ _ (.inl rfl) ⟨ls++[c],Kn.sub chL (by walk_at "k2") rfl,fun b ob q e=>?_,?_,?_,fun l hl=>?_⟩
  ·have hbc:=ad_ne e hc0
   rw [Hp.set_ne _ _ hbc,Hp.set_ne _ _ (ad_ne e hdb),Hp.set_ne _ _ hbc]
   exact i0.kp b ob q e
  ·rw [Hp.set_ne _ _ hcd,Hp.set_ne _ _ (ad_ne hdd hdb),Hp.set_ne _ _ hcd]
   exact i0.hd
  ·rw [show new.take i++[r]=new.take (i+1) from by rw [List.take_add_one,hor];rfl]
   exact ts
  ·rcases List.mem_append.mp hl with h | h
   ·exact i0.nl l h
   ·exact List.mem_singleton.mp h▸hc0
 ·rintro loc H' ⟨ls,i⟩
  rw [List.nil_append,pairs_len,List.length_map] at i
  repeat walk_at "st2"
  exact hK _ _ _ i
end
structure CJ (s d an db:Addr) (kvs:List (Str×V)) (H:Hp) (new:List Str) (ls:List Addr) (H':Hp):Prop where
 kp:KeepX d H H'
 hd:H' d=some (.ns kvs)
 t:JTab H' db ls new
theorem CJ.put {s d an db j : Addr} {kvs : List (Str × V)} {H : Hp} {new : List Str} {ls : List Addr} {H' : Hp} (x : CJ s d an db kvs H new ls H') (hj : H' j = none) (hdb : d ≠ db) (hls : ∀ l ∈ ls, d ≠ l) (n : Str) (v : V) :
  CJ s d an db (putK kvs n v) H new ls ((H'.set j .set0).set d (.ns (putK kvs n v))) :=
 ⟨fun b ob q e=>(Hp.set_ne _ _ q).trans (Hp.old hj (x.kp b ob q e)),Hp.set_self _ _ _,(x.t.new hj).other hdb hls⟩
theorem c_chain {S : Sy} (B : SB S) {s d an : Addr} {kvs : List (Str × V)} {new : List Str} {H : Hp} {K : KS} (hs : H s = some (.inst d)) (hd : H d = some (.ns kvs)) (hn : H an = some (.list (new.map .str))) (hl : new.length ≤ 5) (nd : new.Nodup) (hkl : kvs.length ≤ 50)
  (gb:getK kvs "b" = some (.obj an)) (gj:getK kvs "isjunk" = some .none) (ga:getK kvs "autojunk" = some (.bool true))
  (hK:∀ loc (db j1 j2:Addr) (ls:List Addr) (H':Hp),(∀ b ob,b≠d→H b=some ob→H' b=some ob)→H' d=some (.ns (putK (putK (putK kvs ("b2j" : Str) (.obj db)) ("bjunk" : Str) (.obj j1)) ("bpopular" : Str) (.obj j2)))→JTab H' db ls new→H' j1=some .set0→(∀ l∈ls,H l=none)→H db=none→H j1=none→K .next loc H') :
  wSs S (fnScope "__chain_b" smB) (fnBody "__chain_b" smB) [("self",some (.obj s))] H K:=by
 have k:Kn chS chN [("self",.obj s)] [("self",some (.obj s))]:=Kn.init nm_ch
 have l1:=gl_ch.1;have l2:=gl_ch.2.1;have l3:=gl_ch.2.2
 have g1:=B.len
 have g3:=B.set
 have hsd:s≠d:=fun q=>by rw [q,hd] at hs;cases hs
 have had:an≠d:=fun q=>by rw [q,hd] at hn;cases hn
 with_unfolding_all refine x_Assign ?_ rfl rfl
 repeat walk_at "st2"
 refine at_inst hs hd gb (by decide) rfl ?_
 repeat walk_at "st2"
 refine x_DS fun db hdb=>?_
 have hdbd:d≠db:=ad_ne hd hdb
 repeat walk_at "ex2"
 with_reducible refine x_as ?_
 with_reducible refine x_aA ?_
 repeat walk_at "ex2"
 refine pa_inst (Hp.old hdb hs) (Hp.old hdb hd) (by decide) (Nat.le_trans hkl (by decide)) ?_
 with_reducible refine x_as ?_
 with_reducible refine x_aN (k.nm "b2j" rfl) ?_
 with_reducible refine x_as0 ?_
 refine ch_for B had hd hdb hn hl nd ⟨Kn.sub chL (by walk_at "k2") rfl,fun b ob q e=>(Hp.set_ne _ _ q).trans (Hp.old hdb e),Hp.set_self _ _ _,⟨(Hp.set_ne _ _ hdbd.symm).trans (Hp.set_self _ _ _),rfl,nofun⟩,nofun⟩ fun loc H1 ls i=>?_
 have k:=i.k
 have hls:∀ l∈ls,d≠l:=fun l hl=>ad_ne hd (i.nl l hl)
 have x0:CJ s d an db (putK kvs ("b2j" : Str) (.obj db)) H new ls H1:=⟨i.kp,i.hd,List.take_length (l:=new)▸i.t⟩
 have nlj:∀ {H':Hp} {j:Addr} {kvs:List (Str×V)},CJ s d an db kvs H new ls H'→H' j=none→H j=none:=fun {H' j kvs} x h=>by
  cases q:H j with
  | none=>rfl
  | some ob=>rw [x.kp _ _ (Ne.symm (ad_ne x.hd h)) q] at h;cases h
 have hkl1:=Nat.le_trans (putK_le kvs ("b2j" : Str) (.obj db)) (Nat.succ_le_succ hkl)
 have hnl:=i.nl
 clear i
 repeat walk_at "st2"
 refine B.bi (.set0 fun j1 hj1=>?_)
 have x1:=x0.put hj1 hdbd hls "bjunk" (.obj j1)
 have hkl2:=Nat.le_trans (putK_le (putK kvs ("b2j" : Str) (.obj db)) ("bjunk" : Str) (.obj j1)) (Nat.succ_le_succ hkl1)
 have f1:=(Hp.set_ne (H1.set j1 .set0) (.ns (putK (putK kvs ("b2j" : Str) (.obj db)) ("bjunk" : Str) (.obj j1))) (Ne.symm (ad_ne x0.hd hj1))).trans (Hp.set_self _ _ _)
 repeat walk_at "st2"
 refine pa_inst (Hp.old hj1 (x0.kp _ _ hsd hs)) (Hp.old hj1 x0.hd) (by decide) (Nat.le_trans hkl1 (by decide)) ?_
 repeat walk_at "st2"
 refine at_inst (x1.kp _ _ hsd hs) x1.hd (v:=.none) ((getK_ne (by decide)).trans ((getK_ne (by decide)).trans gj)) (by decide) rfl ?_
 repeat walk_at "st2"
 refine B.bi (.set0 fun j2 hj2=>?_)
 have x2:=x1.put hj2 hdbd hls "bpopular" (.obj j2)
 have f2:=(Hp.set_ne (((H1.set j1 .set0).set d (.ns (putK (putK kvs ("b2j" : Str) (.obj db)) ("bjunk" : Str) (.obj j1)))).set j2 .set0) (.ns (putK (putK (putK kvs ("b2j" : Str) (.obj db)) ("bjunk" : Str) (.obj j1)) ("bpopular" : Str) (.obj j2))) (Ne.symm (ad_ne x0.hd hj1))).trans (Hp.old hj2 f1)
 repeat walk_at "st2"
 refine pa_inst (Hp.old hj2 (x1.kp _ _ hsd hs)) (Hp.old hj2 x1.hd) (by decide) (Nat.le_trans hkl2 (by decide)) ?_
 repeat walk_at "st2"
 refine B.bi (.len (x2.kp _ _ had hn) (map_len (Nat.le_trans hl (by decide))) ?_)
 rw [List.length_map]
 repeat walk_at "st2"
 refine at_inst (x2.kp _ _ hsd hs) x2.hd (v:=.bool true) ((getK_ne (by decide)).trans ((getK_ne (by decide)).trans ((getK_ne (by decide)).trans ga))) (by decide) rfl ?_
 repeat walk_at "st2"
 refine k_and (fun q=>absurd (Int.ofNat_le.mp (of_decide_eq_true q)) (Nat.not_le_of_lt (Nat.lt_of_le_of_lt hl (by decide)))) fun Z=>k_ifF ?_
 repeat walk_at "st2"
 exact hK _ db j1 j2 ls _ x2.kp x2.hd x2.t f2 hnl hdb (nlj x0 hj1)
noncomputable def kv1 (kvs:List (Str×V)) (n:Str) (ao:Addr):List (Str×V):=putK (putK (putK kvs n (.obj ao)) ("matching_blocks" : Str) .none) ("opcodes" : Str) .none
def SpSeq1 (S:Sy):Prop:=∀ (s d ao:Addr) (kvs:List (Str×V)) (H:Hp) (K:KV),H s=some (.inst d)→H d=some (.ns kvs)→getK kvs "a" = some .none→kvs.length≤50→K .none (H.set d (.ns (kv1 kvs "a" ao)))→S.C (.lit (.ref 174)) [.obj s,.obj ao] H K
noncomputable def kv2 (kvs:List (Str×V)) (an db j1 j2:Addr):List (Str×V):=putK (putK (putK (putK (kv1 kvs "b" an) ("fullbcount" : Str) .none) ("b2j" : Str) (.obj db)) ("bjunk" : Str) (.obj j1)) ("bpopular" : Str) (.obj j2)
structure SMres (H:Hp) (d:Addr) (new:List Str) (kvs:Addr→Addr→Addr→List (Str×V)) (H':Hp) (db j1 j2:Addr) (ls:List Addr):Prop where
 keep:∀ b ob,b≠d→H b=some ob→H' b=some ob
 dict:H' d=some (.ns (kvs db j1 j2))
 tab:JTab H' db ls new
 junk:H' j1=some .set0
 nls:∀ l∈ls,H l=none
 ndb:H db=none
 nj:H j1=none
def SpSeq2 (S:Sy):Prop:=∀ (s d an:Addr) (kvs:List (Str×V)) (new:List Str) (H:Hp) (K:KV),H s=some (.inst d)→H d=some (.ns kvs)→H an=some (.list (new.map .str))→new.length≤5→new.Nodup→getK kvs "b" = some .none→kvs.length≤40 →
 getK kvs "isjunk" = some .none→getK kvs "autojunk" = some (.bool true)→getK kvs "_SequenceMatcher__chain_b" = none →
 (∀ db j1 j2 ls H',SMres H d new (kv2 kvs an) H' db j1 j2 ls→K .none H')→S.C (.lit (.ref 181)) [.obj s,.obj an] H K
def SpSeqs (S:Sy):Prop:=∀ (s d ao an:Addr) (kvs:List (Str×V)) (new:List Str) (H:Hp) (K:KV),H s=some (.inst d)→H d=some (.ns kvs)→H an=some (.list (new.map .str))→new.length≤5→new.Nodup→getK kvs "a" = some .none→getK kvs "b" = some .none→kvs.length≤30 →
 getK kvs "isjunk" = some .none→getK kvs "autojunk" = some (.bool true)→getK kvs "_SequenceMatcher__chain_b" = none→getK kvs "set_seq1" = none→getK kvs "set_seq2" = none →
 (∀ db j1 j2 ls H',SMres H d new (kv2 (kv1 kvs "a" ao) an) H' db j1 j2 ls→K .none H')→S.C (.lit (.ref 167)) [.obj s,.obj ao,.obj an] H K
theorem kv1_len (kvs:List (Str×V)) (n:Str) (ao:Addr):(kv1 kvs n ao).length≤kvs.length+3:=by
 exact Nat.le_trans (putK_le _ _ _) (Nat.succ_le_succ (Nat.le_trans (putK_le _ _ _) (Nat.succ_le_succ (putK_le _ _ _))))
theorem kv1_get {kvs:List (Str×V)} {n m:Str} {ao:Addr} (h1:n≠m) (h2:("matching_blocks" : Str)≠m) (h3:("opcodes" : Str)≠m):getK (kv1 kvs n ao) m=getK kvs m:=by
 unfold kv1;rw [getK_ne h3,getK_ne h2,getK_ne h1]
theorem pk_le {kvs:List (Str×V)} {n m:Nat} {x:Str} {v:V} (h:kvs.length≤n) (hm:Nat.ble (n+1) m=true):(putK kvs x v).length≤m:=Nat.le_trans (putK_le _ _ _) (Nat.le_trans (Nat.succ_le_succ h) (Nat.le_of_ble_eq_true hm))
theorem c_seq1 {S : Sy} {s d ao : Addr} {kvs : List (Str × V)} {H : Hp} {K : KS} (hs : H s = some (.inst d)) (hd : H d = some (.ns kvs)) (ga : getK kvs "a" = some .none) (hl : kvs.length ≤ 50) (hK : ∀ loc, K .next loc (H.set d (.ns (kv1 kvs "a" ao)))) :
  wSs S (fnScope "set_seq1" smB) (fnBody "set_seq1" smB) [("self",some (.obj s)),("a",some (.obj ao))] H K:=by
 have k:Kn (fnScope "set_seq1" smB) ["self", "a"] [("self",.obj s),("a",.obj ao)] [("self",some (.obj s)),("a",some (.obj ao))]:=Kn.init (nm_of (by decide +kernel))
 have hsd:s≠d:=fun q=>by rw [q,hd] at hs;cases hs
 with_unfolding_all refine x_doc ?_
 repeat walk_at "st2"
 refine at_inst hs hd ga (by decide) rfl ?_
 repeat walk_at "st2"
 refine pa_inst hs hd (by decide) (Nat.le_trans hl (by decide)) ?_
 repeat walk_at "st2"
 have h1:(putK kvs ("a" : Str) (.obj ao)).length≤51:=pk_le hl rfl
 refine pa_inst ((Hp.set_ne _ _ hsd).trans hs) (Hp.set_self _ _ _) (by decide) (Nat.le_trans h1 (by decide)) ?_
 rw [hp_set2]
 repeat walk_at "st2"
 refine pa_inst ((Hp.set_ne _ _ hsd).trans hs) (Hp.set_self _ _ _) (by decide) (pk_le h1 rfl) ?_
 rw [hp_set2]
 repeat walk_at "st2"
 exact hK _
theorem c_seq2 {S : Sy} (cch : SpChain S) (gc : S.cl "_SequenceMatcher__chain_b" = some 188) {s d an : Addr} {kvs : List (Str × V)} {new : List Str} {H : Hp} {K : KS} (hs : H s = some (.inst d)) (hd : H d = some (.ns kvs)) (hn : H an = some (.list (new.map .str))) (hnl : new.length ≤ 5) (nd : new.Nodup)
  (gb:getK kvs "b" = some .none) (hl:kvs.length≤40) (gi:getK kvs "isjunk" = some .none) (ga:getK kvs "autojunk" = some (.bool true)) (gm:getK kvs "_SequenceMatcher__chain_b" = none)
  (hK:∀ loc db j1 j2 ls H',SMres H d new (kv2 kvs an) H' db j1 j2 ls→K .next loc H') :
  wSs S (fnScope "set_seq2" smB) (fnBody "set_seq2" smB) [("self",some (.obj s)),("b",some (.obj an))] H K:=by
 have k:Kn (fnScope "set_seq2" smB) ["self", "b"] [("self",.obj s),("b",.obj an)] [("self",some (.obj s)),("b",some (.obj an))]:=Kn.init (nm_of (by decide +kernel))
 have hsd:s≠d:=fun q=>by rw [q,hd] at hs;cases hs
 have hand:an≠d:=fun q=>by rw [q,hd] at hn;cases hn
 with_unfolding_all refine x_doc ?_
 repeat walk_at "st2"
 refine at_inst hs hd gb (by decide) rfl ?_
 repeat walk_at "st2"
 refine pa_inst hs hd (by decide) (Nat.le_trans hl (by decide)) ?_
 repeat walk_at "st2"
 have h1:(putK kvs ("b" : Str) (.obj an)).length≤41:=pk_le hl rfl
 refine pa_inst ((Hp.set_ne _ _ hsd).trans hs) (Hp.set_self _ _ _) (by decide) (Nat.le_trans h1 (by decide)) ?_
 rw [hp_set2]
 repeat walk_at "st2"
 refine pa_inst ((Hp.set_ne _ _ hsd).trans hs) (Hp.set_self _ _ _) (by decide) (pk_le h1 rfl) ?_
 rw [hp_set2]
 have hk1:=Nat.le_trans (kv1_len kvs "b" an) (Nat.add_le_add_right hl 3)
 have ek:putK (putK (putK kvs ("b" : Str) (.obj an)) ("matching_blocks" : Str) .none) ("opcodes" : Str) .none=kv1 kvs "b" an:=rfl
 rw [ek]
 repeat walk_at "st2"
 refine pa_inst ((Hp.set_ne _ _ hsd).trans hs) (Hp.set_self _ _ _) (by decide) (Nat.le_trans hk1 (by decide)) ?_
 rw [hp_set2]
 have gg:∀ m,("b" : Str)≠m→("matching_blocks" : Str)≠m→("opcodes" : Str)≠m→("fullbcount" : Str)≠m→getK (putK (kv1 kvs "b" an) ("fullbcount" : Str) .none) m=getK kvs m:=fun m q1 q2 q3 q4=>by rw [getK_ne q4,kv1_get q1 q2 q3]
 have gb':getK (putK (kv1 kvs "b" an) ("fullbcount" : Str) .none) "b" = some (.obj an):=by
  rw [getK_ne (by decide)];unfold kv1;rw [getK_ne (by decide),getK_ne (by decide),getK_me]
 repeat walk_at "st2"
 refine cm_inst ((Hp.set_ne _ _ hsd).trans hs) (Hp.set_self _ _ _) ((gg _ (by decide) (by decide) (by decide) (by decide)).trans gm) gc ?_
 repeat walk_at "st2"
 refine cch s d an _ new _ _ ((Hp.set_ne _ _ hsd).trans hs) (Hp.set_self _ _ _) ((Hp.set_ne _ _ hand).trans hn) hnl nd (pk_le hk1 rfl) gb' ((gg _ (by decide) (by decide) (by decide) (by decide)).trans gi) ((gg _ (by decide) (by decide) (by decide) (by decide)).trans ga) fun db j1 j2 ls H' r1 r2 r3 r4 r5 r6 r7=>?_
 have nn:∀ b,(H.set d (.ns (putK (kv1 kvs "b" an) ("fullbcount" : Str) .none))) b=none→H b=none:=fun b e=>(Hp.oldN e).1
 repeat walk_at "st2"
 exact hK _ db j1 j2 ls H' ⟨fun b ob q e=>r1 b ob q ((Hp.set_ne _ _ q).trans e),r2,r3,r4,fun l hl=>nn l (r5 l hl),nn _ r6,nn _ r7⟩
theorem c_seqs {S : Sy} (c1 : SpSeq1 S) (c2 : SpSeq2 S) (g1 : S.cl "set_seq1" = some 174) (g2 : S.cl "set_seq2" = some 181) {s d ao an : Addr} {kvs : List (Str × V)} {new : List Str} {H : Hp} {K : KS} (hs : H s = some (.inst d)) (hd : H d = some (.ns kvs)) (hn : H an = some (.list (new.map .str))) (hnl : new.length ≤ 5) (nd : new.Nodup)
  (gA:getK kvs "a" = some .none) (gb:getK kvs "b" = some .none) (hl:kvs.length≤30) (gi:getK kvs "isjunk" = some .none) (ga:getK kvs "autojunk" = some (.bool true)) (gm:getK kvs "_SequenceMatcher__chain_b" = none) (gs1:getK kvs "set_seq1" = none) (gs2:getK kvs "set_seq2" = none)
  (hK:∀ loc db j1 j2 ls H',SMres H d new (kv2 (kv1 kvs "a" ao) an) H' db j1 j2 ls→K .next loc H') :
  wSs S (fnScope "set_seqs" smB) (fnBody "set_seqs" smB) [("self",some (.obj s)),("a",some (.obj ao)),("b",some (.obj an))] H K:=by
 have k:Kn (fnScope "set_seqs" smB) ["self", "a", "b"] [("self",.obj s),("a",.obj ao),("b",.obj an)] [("self",some (.obj s)),("a",some (.obj ao)),("b",some (.obj an))]:=Kn.init (nm_of (by decide +kernel))
 have hsd:s≠d:=fun q=>by rw [q,hd] at hs;cases hs
 have hand:an≠d:=fun q=>by rw [q,hd] at hn;cases hn
 with_unfolding_all refine x_doc ?_
 repeat walk_at "st2"
 refine cm_inst hs hd gs1 g1 ?_
 repeat walk_at "st2"
 refine c1 s d ao kvs _ _ hs hd gA (Nat.le_trans hl (by decide)) ?_
 repeat walk_at "st2"
 have gg:∀ m,("a" : Str)≠m→("matching_blocks" : Str)≠m→("opcodes" : Str)≠m→getK (kv1 kvs "a" ao) m=getK kvs m:=fun m q1 q2 q3=>kv1_get q1 q2 q3
 refine cm_inst ((Hp.set_ne _ _ hsd).trans hs) (Hp.set_self _ _ _) ((gg _ (by decide) (by decide) (by decide)).trans gs2) g2 ?_
 repeat walk_at "st2"
 refine c2 s d an _ new _ _ ((Hp.set_ne _ _ hsd).trans hs) (Hp.set_self _ _ _) ((Hp.set_ne _ _ hand).trans hn) hnl nd ((gg _ (by decide) (by decide) (by decide)).trans gb) (Nat.le_trans (kv1_len kvs "a" ao) (Nat.le_trans (Nat.add_le_add_right hl 3) (by decide))) ((gg _ (by decide) (by decide) (by decide)).trans gi) ((gg _ (by decide) (by decide) (by decide)).trans ga) ((gg _ (by decide) (by decide) (by decide)).trans gm) fun db j1 j2 ls H' r=>?_
 have nn:∀ b,(H.set d (.ns (kv1 kvs "a" ao))) b=none→H b=none:=fun b e=>(Hp.oldN e).1
 repeat walk_at "st2"
 exact hK _ db j1 j2 ls H' ⟨fun b ob q e=>r.keep b ob q ((Hp.set_ne _ _ q).trans e),r.dict,r.tab,r.junk,fun l hl=>nn l (r.nls l hl),nn _ r.ndb,nn _ r.nj⟩
noncomputable def kvF (ao an db j1 j2:Addr):List (Str×V):=kv2 (kv1 (putK (putK (putK (putK [] ("isjunk" : Str) .none) ("a" : Str) .none) ("b" : Str) .none) ("autojunk" : Str) (.bool true)) "a" ao) an db j1 j2
theorem c_init {S : Sy} (cs : SpSeqs S) (g1 : S.cl "set_seqs" = some 167) {s d ao an : Addr} {new : List Str} {H : Hp} {K : KS} (hs : H s = some (.inst d)) (hd : H d = some (.ns [])) (hn : H an = some (.list (new.map .str))) (hnl : new.length ≤ 5) (nd : new.Nodup)
  (hK:∀ loc db j1 j2 ls H',SMres H d new (kvF ao an) H' db j1 j2 ls→K .next loc H') :
  wSs S (fnScope "__init__" smB) (fnBody "__init__" smB) [("self",some (.obj s)),("isjunk",some .none),("a",some (.obj ao)),("b",some (.obj an)),("autojunk",some (.bool true))] H K:=by
 have k:Kn (fnScope "__init__" smB) ["self", "isjunk", "a", "b", "autojunk"] [("self",.obj s),("isjunk",.none),("a",.obj ao),("b",.obj an),("autojunk",.bool true)] [("self",some (.obj s)),("isjunk",some .none),("a",some (.obj ao)),("b",some (.obj an)),("autojunk",some (.bool true))]:=Kn.init (nm_of (by decide +kernel))
 have hsd:s≠d:=fun q=>by rw [q,hd] at hs;cases hs
 have hand:an≠d:=fun q=>by rw [q,hd] at hn;cases hn
 with_unfolding_all refine x_doc ?_
 repeat walk_at "st2"
 refine pa_inst hs hd (by decide) (by decide) ?_
 repeat walk_at "st2"
 refine pa_inst ((Hp.set_ne _ _ hsd).trans hs) (Hp.set_self _ _ _) (by decide) (by decide) ?_
 rw [hp_set2]
 repeat walk_at "st2"
 refine pa_inst ((Hp.set_ne _ _ hsd).trans hs) (Hp.set_self _ _ _) (by decide) (by decide) ?_
 rw [hp_set2]
 repeat walk_at "st2"
 refine pa_inst ((Hp.set_ne _ _ hsd).trans hs) (Hp.set_self _ _ _) (by decide) (by decide) ?_
 rw [hp_set2]
 repeat walk_at "st2"
 refine cm_inst ((Hp.set_ne _ _ hsd).trans hs) (Hp.set_self _ _ _) rfl g1 ?_
 repeat walk_at "st2"
 refine cs s d ao an _ new _ _ ((Hp.set_ne _ _ hsd).trans hs) (Hp.set_self _ _ _) ((Hp.set_ne _ _ hand).trans hn) hnl nd rfl rfl (by decide) rfl rfl rfl rfl rfl fun db j1 j2 ls H' r=>?_
 have nn:∀ b kv,(H.set d (.ns kv)) b=none→H b=none:=fun b kv e=>(Hp.oldN e).1
 repeat walk_at "st2"
 exact hK _ db j1 j2 ls H' ⟨fun b ob q e=>r.keep b ob q ((Hp.set_ne _ _ q).trans e),r.dict,r.tab,r.junk,fun l hl=>nn l _ (r.nls l hl),nn _ _ r.ndb,nn _ _ r.nj⟩
theorem at_dictI {a:Addr} {kvs:List (Int×V)} {H:Hp} {K:KV} (h:H a=some (.dI kvs)) (k:K (.bm "dict.get" a) H):wAttr H "get" K (.obj a):=.dI h rfl k
theorem at_set {a:Addr} {H:Hp} {K:KV} (h:H a=some .set0) (k:K (.bm "set.__contains__" a) H):wAttr H "__contains__" K (.obj a):=.set h rfl k
noncomputable def mAt (m:List (Option Nat)) (i:Nat):Option Nat:=m.getD i none
noncomputable def pvGet (pv:Option (Nat×Nat)) (j:Nat):Nat:=match pv with
 | some p=>if p.1+1=j then p.2 else 0
 | none=>0
noncomputable def dpStep (m:List (Option Nat)) (blo bhi i:Nat) (st:T3) (pv:Option (Nat×Nat)):T3×Option (Nat×Nat):=match mAt m i with
 | none=>(st,none)
 | some j => if j < blo then (st, none) else if bhi ≤ j then (st, none) else
   let k:=pvGet pv j+1
   (if st.2.2 < k then (i+1 - k,j+1 - k,k) else st,some (j,k))
noncomputable def dp (m:List (Option Nat)) (blo bhi:Nat):Nat→Nat→T3→Option (Nat×Nat)→T3
 | 0,_,st,_=>st
 | n+1,i,st,pv=>dp m blo bhi n (i+1) (dpStep m blo bhi i st pv).1 (dpStep m blo bhi i st pv).2
noncomputable def extL (m:List (Option Nat)) (alo blo:Nat):Nat→T3→T3
 | 0,t=>t
 | n+1,t=>if alo < t.1∧blo < t.2.1∧mAt m (t.1 - 1)=some (t.2.1 - 1) then extL m alo blo n (t.1 - 1,t.2.1 - 1,t.2.2+1) else t
noncomputable def extR (m:List (Option Nat)) (ahi bhi:Nat):Nat→T3→T3
 | 0,t=>t
 | n+1,t=>if t.1+t.2.2 < ahi∧t.2.1+t.2.2 < bhi∧mAt m (t.1+t.2.2)=some (t.2.1+t.2.2) then extR m ahi bhi n (t.1,t.2.1,t.2.2+1) else t
noncomputable def flmP (m:List (Option Nat)) (alo ahi blo bhi:Nat):T3:=extR m ahi bhi 10 (extL m alo blo 10 (dp m blo bhi (ahi - alo) alo (alo,blo,0) none))
structure StOk (alo ahi blo bhi:Nat) (t:T3):Prop where
 a:alo≤t.1
 b:t.1+t.2.2≤ahi
 c:blo≤t.2.1
 d:t.2.1+t.2.2≤bhi
def PvOk (alo blo bhi i:Nat) (pv:Option (Nat×Nat)):Prop:=∀ p,pv=some p→1≤p.2∧p.2+alo≤i∧p.2+blo≤p.1+1∧p.1 < bhi
theorem le_sub {a b k:Nat} (h:k+a≤b):a≤b - k:=Nat.le_sub_of_add_le (Nat.add_comm k a▸h)
theorem pred_add {a k:Nat} (h:0 < a):a - 1+(k+1)=a+k:=by
 cases a with
 | zero=>exact absurd h (Nat.lt_irrefl _)
 | succ a=>exact (Nat.succ_add a k).symm▸rfl
theorem le_pred {a b:Nat} (h:a < b):a≤b - 1:=Nat.le_sub_one_of_lt h
theorem pv_k {alo blo bhi i j:Nat} {pv:Option (Nat×Nat)} (h:PvOk alo blo bhi i pv) (ha:alo≤i) (hb:blo≤j):pvGet pv j+1+alo≤i+1∧pvGet pv j+1+blo≤j+1:=by
 have z:∀ {a b:Nat},a≤b→0+1+a≤b+1:=fun h=>by rw [Nat.zero_add,Nat.add_comm];exact Nat.succ_le_succ h
 cases pv with
 | none=>exact ⟨z ha,z hb⟩
 | some p =>
   have h:=h p rfl
   show (if _ then _ else _)+1+_≤_∧(if _ then _ else _)+1+_≤_
   by_cases e:p.1+1=j
   ·rw [if_pos e,Nat.add_right_comm p.2 1 alo,Nat.add_right_comm p.2 1 blo]
    exact ⟨Nat.succ_le_succ h.2.1,Nat.succ_le_succ (e▸h.2.2.1)⟩
   ·rw [if_neg e];exact ⟨z ha,z hb⟩
theorem dpStep_ok {m:List (Option Nat)} {alo ahi blo bhi i:Nat} {st:T3} {pv:Option (Nat×Nat)} (h1:StOk alo ahi blo bhi st) (h2:PvOk alo blo bhi i pv) (hi:i < ahi) (ha:alo≤i):StOk alo ahi blo bhi (dpStep m blo bhi i st pv).1∧PvOk alo blo bhi (i+1) (dpStep m blo bhi i st pv).2:=by
 have e:dpStep m blo bhi i st pv=match mAt m i with
  | none=>(st,none)
  | some j=>if j < blo then (st,none) else if bhi≤j then (st,none) else (if st.2.2 < pvGet pv j+1 then (i+1 - (pvGet pv j+1),j+1 - (pvGet pv j+1),pvGet pv j+1) else st,some (j,pvGet pv j+1)):=rfl
 rw [e]
 cases mAt m i with
 | none=>exact ⟨h1,nofun⟩
 | some j =>
   dsimp only
   by_cases q1:j < blo
   ·rw [if_pos q1];exact ⟨h1,nofun⟩
   rw [if_neg q1]
   by_cases q2:bhi≤j
   ·rw [if_pos q2];exact ⟨h1,nofun⟩
   rw [if_neg q2]
   have q1:=Nat.le_of_not_lt q1
   have q2:=Nat.lt_of_not_le q2
   obtain ⟨k2,k3⟩:=pv_k h2 ha q1
   have k1:1≤pvGet pv j+1:=Nat.le_add_left _ _
   generalize pvGet pv j+1=k at *
   refine ⟨?_,fun p e=>?_⟩
   ·by_cases q:st.2.2 < k
    ·rw [if_pos q]
     exact ⟨le_sub k2,(Nat.sub_add_cancel (Nat.le_trans (Nat.le_add_right _ _) k2)).symm▸hi,le_sub k3,(Nat.sub_add_cancel (Nat.le_trans (Nat.le_add_right _ _) k3)).symm▸q2⟩
    ·rw [if_neg q];exact h1
   ·cases e;exact ⟨k1,k2,k3,q2⟩
theorem StOk.left {alo ahi blo bhi:Nat} {t:T3} (h:StOk alo ahi blo bhi t) (c1:alo < t.1) (c2:blo < t.2.1):StOk alo ahi blo bhi (t.1 - 1,t.2.1 - 1,t.2.2+1) :=
 ⟨le_pred c1,Nat.le_trans (Nat.le_of_eq (pred_add (Nat.zero_lt_of_lt c1))) h.b,le_pred c2,Nat.le_trans (Nat.le_of_eq (pred_add (Nat.zero_lt_of_lt c2))) h.d⟩
theorem StOk.right {alo ahi blo bhi:Nat} {t:T3} (h:StOk alo ahi blo bhi t) (c1:t.1+t.2.2 < ahi) (c2:t.2.1+t.2.2 < bhi):StOk alo ahi blo bhi (t.1,t.2.1,t.2.2+1):=⟨h.a,c1,h.c,c2⟩
theorem mAt_of {old new:List Str} {i:Nat} {r:Str} (h:old[i]?=some r):mAt (mOf old new) i=new.findIdx? (·==r):=by
 unfold mAt mOf
 rw [List.getD_eq_getElem?_getD,List.getElem?_map,h];rfl
theorem eq_m {new:List Str} (nd:new.Nodup) {r y:Str} {j:Nat} (hj:new[j]?=some y):(r==y)=decide (new.findIdx? (·==r)=some j):=by
 rw [Bool.eq_iff_iff,beq_iff_eq,decide_eq_true_eq]
 constructor
 ·rintro rfl
  rw [List.findIdx?_eq_some_iff_getElem]
  obtain ⟨hl,e⟩:=List.getElem?_eq_some_iff.mp hj
  refine ⟨hl,by simp [e],fun m hm=>?_⟩
  have:=(List.pairwise_iff_getElem.mp nd) m j (by omega) hl hm
  rw [e] at this
  simp [this]
 ·intro h
  have:=(find_some h).1
  rw [hj] at this
  exact (Option.some.inj this).symm
structure SMok (H:Hp) (s d ao an db j1:Addr) (kvs:List (Str×V)) (ls:List Addr) (old new:List Str):Prop where
 hs:H s=some (.inst d)
 hd:H d=some (.ns kvs)
 ga:getK kvs "a" = some (.obj ao)
 gb:getK kvs "b" = some (.obj an)
 gt:getK kvs "b2j" = some (.obj db)
 gj:getK kvs "bjunk" = some (.obj j1)
 tab:JTab H db ls new
 junk:H j1=some .set0
 ho:H ao=some (.list (old.map .str))
 hn:H an=some (.list (new.map .str))
theorem SMok.keep {H H':Hp} {s d ao an db j1:Addr} {kvs:List (Str×V)} {ls:List Addr} {old new:List Str} (x:SMok H s d ao an db j1 kvs ls old new) (k:∀ b ob,H b=some ob→H' b=some ob):SMok H' s d ao an db j1 kvs ls old new :=
 ⟨k _ _ x.hs,k _ _ x.hd,x.ga,x.gb,x.gt,x.gj,⟨k _ _ x.tab.tab,x.tab.len,fun j l e=>k _ _ (x.tab.at_ j l e)⟩,k _ _ x.junk,k _ _ x.ho,k _ _ x.hn⟩
def SpMatch (S:Sy):Prop:=∀ (i j k:Int) (H:Hp) (K:KV),K (.mat [.int i,.int j,.int k]) H→S.C (.lit (.ref 135)) [.int i,.int j,.int k] H K
noncomputable def pvK:Option (Nat×Nat)→List (Int×V)
 | none=>[]
 | some p=>[((p.1:Int),.int p.2)]
set_option genInjectivity false in
set_option genSizeOf false in
structure FC where
 s:Addr
 d:Addr
 ao:Addr
 an:Addr
 db:Addr
 j1:Addr
 kvs:List (Str×V)
 ls:List Addr
 old:List Str
 new:List Str
 alo:Nat
 ahi:Nat
 blo:Nat
 bhi:Nat
noncomputable abbrev flS:Scope:=fnScope "find_longest_match" smB
noncomputable abbrev flN:List Str:=["self", "alo", "ahi", "blo", "bhi", "a", "b", "b2j", "isbjunk", "besti", "bestj", "bestsize", "j2len", "nothing", "i", "j2lenget", "newj2len", "j", "k"]
theorem nm_fl:∀ x,hasS flN x=true→flS.names.lookup x=some .local:=nm_of (by decide +kernel)
theorem gl_fl:flS.names.lookup ("range" : Str)=some .globalImplicit∧flS.names.lookup ("Match" : Str)=some .globalImplicit:=by decide +kernel
structure FX (S:Sy) (H:Hp) (c:FC):Prop where
 B:SB S
 X:SMok H c.s c.d c.ao c.an c.db c.j1 c.kvs c.ls c.old c.new
 nd:c.new.Nodup
 hol:c.old.length≤5
 hnl:c.new.length≤5
 h1:c.alo≤c.ahi
 h2:c.ahi≤c.old.length
 h3:c.blo≤c.bhi
 h4:c.bhi≤c.new.length
noncomputable abbrev FC.m (c:FC):List (Option Nat):=mOf c.old c.new
abbrev FC.St (c:FC) (t:T3):Prop:=StOk c.alo c.ahi c.blo c.bhi t
noncomputable def flE (c:FC) (t:T3):En:=[("a",.obj c.ao),("b",.obj c.an),("isbjunk",.bm "set.__contains__" c.j1),("alo",.int c.alo),("ahi",.int c.ahi),("blo",.int c.blo),("bhi",.int c.bhi),("besti",.int t.1),("bestj",.int t.2.1),("bestsize",.int t.2.2)]
noncomputable abbrev flL:List Str:=["a", "b", "isbjunk", "alo", "ahi", "blo", "bhi", "besti", "bestj", "bestsize"]
noncomputable def flF (c:FC) (nt jl:Addr) (t:T3):En:=("b2j",.obj c.db)::("j2len",.obj jl)::("nothing",.obj nt)::flE c t
noncomputable def flG (c:FC) (nt nl:Addr) (t:T3):En:=("b2j",.obj c.db)::("newj2len",.obj nl)::("nothing",.obj nt)::flE c t
noncomputable def flAt (k:Nat):Stmt:=stAt (fnBody "find_longest_match" smB) k
noncomputable def flB (k:Nat):List Stmt:=(bodyOf (flAt 7)).drop k
structure WI (c:FC) (H:Hp) (t:T3) (loc:Loc) (H':Hp):Prop where
 k:Kn flS flN (flE c t) loc
 kp:Keep H H'
 so:c.St t
def WQ (c:FC) (H:Hp) (Q:T3→Prop) (loc:Loc) (H':Hp):Prop:=∃ t,WI c H t loc H'∧Q t
theorem get_at {a:Addr} {l:List Str} {H:Hp} {i:Nat} {y:Str} {K:KV} (h:H a=some (.list (l.map .str))) (hl:l.length≤5) (hy:l[i]?=some y) (k:K (.str y) H):wGet (.obj a) (.int i) H K:=by
 have hi:=(List.getElem?_eq_some_iff.mp hy).1
 exact g_list h (sm_nat (Nat.le_trans (Nat.le_of_lt (Nat.lt_of_lt_of_le hi hl)) (by decide))) (by rw [List.length_map];exact si_nat hi) (v:=.str y) (by rw [List.getElem?_map,hy];rfl) k
section
variable {S:Sy} {H:Hp} {c:FC} (F:FX S H c) {loc:Loc} {H':Hp} {t:T3} (w:WI c H t loc H') {K:KS} {r:List Stmt}
include F
theorem FX.tests (k : Keep H H') {i j : Nat} (hi : i < c.ahi) (hj : j < c.bhi) : ∃ y, c.new[j]? = some y ∧ (∀ {K : KV}, K (.str y) H' → wGet (.obj c.an) (.int j) H' K) ∧ (∀ {K : KV}, K (.bool false) H' → S.C (.bm "set.__contains__" c.j1) [.str y] H' K) ∧
  ∃ z,(∀ {K:KV},K (.str z) H'→wGet (.obj c.ao) (.int i) H' K)∧(z==y)=decide (mAt c.m i=some j):=by
 obtain ⟨y,hy⟩:=at_lt (Nat.lt_of_lt_of_le hj F.h4)
 obtain ⟨z,hz⟩:=at_lt (Nat.lt_of_lt_of_le hi F.h2)
 exact ⟨y,hy,get_at (k _ _ F.X.hn) F.hnl hy,fun h=>F.B.bi (.bmHas (k _ _ F.X.junk) h),z,get_at (k _ _ F.X.ho) F.hol hz,(mAt_of (new:=c.new) hz)▸eq_m F.nd hy⟩
include w
theorem fl_w1 (hK:∀ loc H',WI c H (extL c.m c.alo c.blo 10 t) loc H'→wSs S flS r loc H' K):wSs S flS (flAt 8::r) loc H' K:=by
 have hb:=w.so.b
 have hl:t.1≤10+c.alo:=Nat.le_trans (Nat.le_trans (Nat.le_add_right _ _) hb) (Nat.le_trans (Nat.le_trans F.h2 F.hol) (Nat.le_trans (by decide) (Nat.le_add_right _ _)))
 with_unfolding_all refine z_While 11 (fun m=>WQ c H fun u=>u.1≤m+c.alo∧extL c.m c.alo c.blo m u=extL c.m c.alo c.blo 10 t) (WQ c H fun u=>u=extL c.m c.alo c.blo 10 t) 10 (by decide) ⟨t,w,hl,rfl⟩ ?_ ?_
 ·clear hK w hb hl
  rintro m loc H' R K' ⟨u,w,hm,hx⟩ hR hE
  have k:=w.k
  have hout:¬ (c.alo < u.1∧c.blo < u.2.1∧mAt c.m (u.1 - 1)=some (u.2.1 - 1))→K' .next loc H':=fun hc=>hE _ _ ⟨u,w,hx▸by
   cases m with
   | zero=>rfl
   | succ m=>exact (if_neg hc).symm⟩
  repeat walk_at "st2"
  refine k_and (fun c1=>?_) fun c1=>k_whF (hout fun q=>dF c1 q.1)
  have c1:=dT c1
  repeat walk_at "st2"
  refine k_and (fun c2=>?_) fun c2=>k_whF (hout fun q=>dF c2 q.2.1)
  have c2:=dT c2
  obtain ⟨y,hy,gy,gj,z,gz,ez⟩:=F.tests w.kp (i:=u.1 - 1) (j:=u.2.1 - 1) (Nat.lt_of_lt_of_le (Nat.pred_lt_of_lt c1) (Nat.le_trans (Nat.le_add_right _ _) w.so.b)) (Nat.lt_of_lt_of_le (Nat.pred_lt_of_lt c2) (Nat.le_trans (Nat.le_add_right _ _) w.so.d))
  have e1:=csub1 (Nat.zero_lt_of_lt c1)
  have e2:=csub1 (Nat.zero_lt_of_lt c2)
  repeat walk_at "st2"
  refine e2▸gy ?_
  repeat walk_at "st2"
  refine gj ?_
  repeat walk_at "st2"
  refine e1▸gz ?_
  repeat walk_at "st2"
  refine e2▸gy ?_
  repeat walk_at "st2"
  rw [ez]
  refine k_and (fun c3=>?_) fun c3=>k_whF (hout fun q=>of_decide_eq_false c3 q.2.2)
  have c3:=of_decide_eq_true c3
  repeat walk_at "st2"
  rw [e1,e2]
  cases m with
  | zero=>exact absurd c1 (Nat.not_lt_of_le (Nat.zero_add c.alo▸hm))
  | succ m =>
    refine hR m _ _ (Nat.lt_succ_self _) ⟨(u.1 - 1,u.2.1 - 1,u.2.2+1),⟨Kn.sub flL (by walk_at "k2") rfl,w.kp,w.so.left c1 c2⟩,Nat.sub_le_of_le_add (Nat.le_trans hm (Nat.le_of_eq (Nat.succ_add m c.alo))),?_⟩
    exact (if_pos ⟨c1,c2,c3⟩).symm.trans hx
 ·rintro loc H' ⟨u,w,rfl⟩
  exact hK _ _ w
theorem fl_w2 (hK:∀ loc H',WI c H (extR c.m c.ahi c.bhi 10 t) loc H'→wSs S flS r loc H' K):wSs S flS (flAt 9::r) loc H' K:=by
 have hl:c.ahi≤10+(t.1+t.2.2):=Nat.le_trans (Nat.le_trans F.h2 F.hol) (Nat.le_trans (by decide) (Nat.le_add_right _ _))
 with_unfolding_all refine z_While 11 (fun m=>WQ c H fun u=>c.ahi≤m+(u.1+u.2.2)∧extR c.m c.ahi c.bhi m u=extR c.m c.ahi c.bhi 10 t) (WQ c H fun u=>u=extR c.m c.ahi c.bhi 10 t) 10 (by decide) ⟨t,w,hl,rfl⟩ ?_ ?_
 ·clear hK w hl
  rintro m loc H' R K' ⟨u,w,hm,hx⟩ hR hE
  have k:=w.k
  have hout:¬ (u.1+u.2.2 < c.ahi∧u.2.1+u.2.2 < c.bhi∧mAt c.m (u.1+u.2.2)=some (u.2.1+u.2.2))→K' .next loc H':=fun hc=>hE _ _ ⟨u,w,hx▸by
   cases m with
   | zero=>rfl
   | succ m=>exact (if_neg hc).symm⟩
  repeat walk_at "st2"
  refine k_and (fun c1=>?_) fun c1=>k_whF (hout fun q=>dF c1 q.1)
  have c1:u.1+u.2.2 < c.ahi:=dT c1
  repeat walk_at "st2"
  refine k_and (fun c2=>?_) fun c2=>k_whF (hout fun q=>dF c2 q.2.1)
  have c2:u.2.1+u.2.2 < c.bhi:=dT c2
  obtain ⟨y,hy,gy,gj,z,gz,ez⟩:=F.tests w.kp c1 c2
  repeat walk_at "st2"
  refine gy ?_
  repeat walk_at "st2"
  refine gj ?_
  repeat walk_at "st2"
  refine gz ?_
  repeat walk_at "st2"
  refine gy ?_
  repeat walk_at "st2"
  rw [ez]
  refine k_and (fun c3=>?_) fun c3=>k_whF (hout fun q=>of_decide_eq_false c3 q.2.2)
  have c3:=of_decide_eq_true c3
  repeat walk_at "st2"
  cases m with
  | zero=>exact absurd c1 (Nat.not_lt_of_le (Nat.zero_add (u.1+u.2.2)▸hm))
  | succ m =>
    refine hR m _ _ (Nat.lt_succ_self _) ⟨(u.1,u.2.1,u.2.2+1),⟨Kn.sub flL (by walk_at "k2") rfl,w.kp,w.so.right c1 c2⟩,Nat.le_trans hm (Nat.le_of_eq (Nat.succ_add m _)),?_⟩
    exact (if_pos ⟨c1,c2,c3⟩).symm.trans hx
 ·rintro loc H' ⟨u,w,rfl⟩
  exact hK _ _ w
theorem fl_w3 (hK:wSs S flS r loc H' K):wSs S flS (flAt 10::r) loc H' K:=by
 have k:=w.k
 with_unfolding_all refine z_Off ?_
 repeat walk_at "st2"
 refine k_and (fun c1=>?_) fun c1=>k_whF hK
 have c1:=dT c1
 repeat walk_at "st2"
 refine k_and (fun c2=>?_) fun c2=>k_whF hK
 have c2:=dT c2
 obtain ⟨y,hy,gy,gj,-⟩:=F.tests w.kp (i:=t.1 - 1) (j:=t.2.1 - 1) (Nat.lt_of_lt_of_le (Nat.pred_lt_of_lt c1) (Nat.le_trans (Nat.le_add_right _ _) w.so.b)) (Nat.lt_of_lt_of_le (Nat.pred_lt_of_lt c2) (Nat.le_trans (Nat.le_add_right _ _) w.so.d))
 repeat walk_at "st2"
 refine csub1 (Nat.zero_lt_of_lt c2)▸gy ?_
 repeat walk_at "st2"
 refine gj ?_
 repeat walk_at "st2"
 exact hK
theorem fl_w4 (hK:wSs S flS r loc H' K):wSs S flS (flAt 11::r) loc H' K:=by
 have k:=w.k
 with_unfolding_all refine z_Off ?_
 repeat walk_at "st2"
 refine k_and (fun c1=>?_) fun c1=>k_whF hK
 have c1:t.1+t.2.2 < c.ahi:=dT c1
 repeat walk_at "st2"
 refine k_and (fun c2=>?_) fun c2=>k_whF hK
 have c2:t.2.1+t.2.2 < c.bhi:=dT c2
 obtain ⟨y,hy,gy,gj,-⟩:=F.tests w.kp c1 c2
 repeat walk_at "st2"
 refine gy ?_
 repeat walk_at "st2"
 refine gj ?_
 repeat walk_at "st2"
 exact hK
end
structure NI (H:Hp) (nt nl:Addr) (pv:Option (Nat×Nat)) (H2:Hp):Prop where
 kp:Keep H H2
 f1:H2 nl=some (.dI (pvK pv))
 f2:H2 nt=some (.list [])
 n:H nl=none
 ne:nt≠nl
theorem NI.new {H H':Hp} {nt nl:Addr} (kp:Keep H H') (f:H' nt=some (.list [])) (h:H' nl=none):NI H nt nl none (H'.set nl (.dI [])) :=
 ⟨fun b ob e=>Hp.old h (kp b ob e),Hp.set_self _ _ _,Hp.old h f,keep_none kp h,ad_ne f h⟩
theorem NI.put {H H':Hp} {nt nl:Addr} {pv:Option (Nat×Nat)} (x:NI H nt nl pv H') (pv':Option (Nat×Nat)):NI H nt nl pv' (H'.set nl (.dI (pvK pv'))) :=
 ⟨set_keep x.kp x.n,Hp.set_self _ _ _,(Hp.set_ne _ _ x.ne).trans x.f2,x.n,x.ne⟩
theorem csk {a k:Nat} (h:k≤a):(a:Int) - ((k:Int)+1)+1=((a+1 - (k+1):Nat):Int):=by rw [Nat.add_sub_add_right,Int.ofNat_sub h];omega
structure FI2 (c:FC) (H:Hp) (nt:Addr) (dt:T3) (n:Nat) (loc:Loc) (H':Hp) (st:T3) (pv:Option (Nat×Nat)) (jl:Addr):Prop where
 k:Kn flS flN (flF c nt jl st) loc
 kp:Keep H H'
 fj:H' jl=some (.dI (pvK pv))
 fn:H' nt=some (.list [])
 so:c.St st
 po:PvOk c.alo c.blo c.bhi (c.alo+n) pv
 dq:dp c.m c.blo c.bhi (c.ahi - c.alo - n) (c.alo+n) st pv=dt
def FR (c:FC) (H:Hp) (nt:Addr) (dt:T3) (n:Nat) (loc:Loc) (H':Hp):Prop:=∃ st pv jl,FI2 c H nt dt n loc H' st pv jl
theorem pv_get {pv:Option (Nat×Nat)} {j:Nat}:(getK (pvK pv) ((j:Int) - 1)).getD (.int 0)=.int ((pvGet pv j:Nat):Int):=by
 cases pv with
 | none=>rfl
 | some p =>
   unfold getK pvK pvGet
   by_cases q:p.1+1=j
   ·have:(p.1:Int)=(j:Int) - 1:=q▸(Int.add_sub_cancel (p.1:Int) 1).symm
    simp [this,q]
   ·have:¬ (p.1:Int)=(j:Int) - 1:=fun e=>q (Int.ofNat.inj ((congrArg (·+1) e).trans (Int.sub_add_cancel _ _)))
    simp [this,q]
theorem dp_at {m:List (Option Nat)} {blo bhi i j:Nat} {st:T3} {pv:Option (Nat×Nat)} (h:mAt m i=some j):dpStep m blo bhi i st pv=if j < blo then (st,none) else if bhi≤j then (st,none) else (if st.2.2 < pvGet pv j+1 then (i+1 - (pvGet pv j+1),j+1 - (pvGet pv j+1),pvGet pv j+1) else st,some (j,pvGet pv j+1)):=by
 unfold dpStep;rw [h]
theorem dp_no {m:List (Option Nat)} {blo bhi i:Nat} {st:T3} {pv:Option (Nat×Nat)} (h:mAt m i=none):dpStep m blo bhi i st pv=(st,none):=by
 unfold dpStep;rw [h]
theorem FI2.step {c : FC} {H H' : Hp} {nt jl nl : Addr} {dt st st' : T3} {n : Nat} {loc loc' : Loc} {H'' : Hp} {pv pv' : Option (Nat × Nat)} (i : FI2 c H nt dt n loc H' st pv jl) (hlt : n < c.ahi - c.alo)
  (e:dpStep c.m c.blo c.bhi (c.alo+n) st pv=(st',pv')) (k:Kn flS flN (flF c nt nl st') loc') (x:NI H nt nl pv' H''):FI2 c H nt dt (n+1) loc' H'' st' pv' nl:=by
 obtain ⟨s1,s2⟩:=dpStep_ok (m:=c.m) i.so i.po (Nat.add_lt_of_lt_sub' hlt) (Nat.le_add_right _ _)
 have hd:=i.dq
 rw [show c.ahi - c.alo - n=c.ahi - c.alo - (n+1)+1 from (Nat.sub_add_cancel (Nat.sub_pos_of_lt hlt)).symm] at hd
 have hd:dp c.m c.blo c.bhi (c.ahi - c.alo - (n+1)) (c.alo+n+1) (dpStep c.m c.blo c.bhi (c.alo+n) st pv).1 (dpStep c.m c.blo c.bhi (c.alo+n) st pv).2=dt:=hd
 rw [e] at s1 s2 hd
 exact ⟨k,x.kp,x.f1,x.f2,s1,s2,hd⟩
noncomputable abbrev flM:List Str := "b2j" :: "j2len" :: "nothing" :: flL
theorem fl_row {S : Sy} {H : Hp} {c : FC} (F : FX S H c) {loc : Loc} {H' : Hp} {K : KS} {nt jl : Addr} {dt st : T3} {n : Nat} {pv : Option (Nat × Nat)} (i : FI2 c H nt dt n loc H' st pv jl) (hlt : n < c.ahi - c.alo)
  (hK:∀ fl loc H',fl=.next∨fl=.cont→FR c H nt dt (n+1) loc H'→K fl loc H'):wSs S flS (flB 0) (loc.put "i" (.int ((c.alo+n:Nat):Int))) H' K:=by
 have k:=i.k.put (x := "i") (v:=.int ((c.alo+n:Nat):Int))
 with_unfolding_all refine x_Assign ?_ rfl rfl
 repeat walk_at "st2"
 refine at_dictI i.fj ?_
 repeat walk_at "st2"
 refine x_DI fun nl hnl=>?_
 have x:=NI.new i.kp i.fn hnl
 have fjl:=Hp.old (o':=.dI []) hnl i.fj
 have X:=F.X.keep x.kp
 have hio:c.alo+n < c.ahi:=Nat.add_lt_of_lt_sub' hlt
 obtain ⟨z,hz⟩:=at_lt (Nat.lt_of_lt_of_le hio F.h2)
 have hma:=mAt_of (new:=c.new) hz
 have fin:∀ {loc':Loc} {H'':Hp} (st':T3) (pv':Option (Nat×Nat)),dpStep c.m c.blo c.bhi (c.alo+n) st pv=(st',pv')→Kn flS flN (flG c nt nl st') loc'→NI H nt nl pv' H''→K .next (loc'.put "j2len" (.obj nl)) H'' :=
  fun st' pv' e k x=>hK _ _ _ (.inl rfl) ⟨st',pv',nl,i.step hlt e (k.put.sub flM rfl) x⟩
 repeat walk_at "st2"
 refine cm_get X.tab.tab ?_
 repeat walk_at "st2"
 refine get_at X.ho F.hol hz ?_
 repeat walk_at "st2"
 refine F.B.bi (.get X.tab.tab ?_)
 cases hf:c.new.findIdx? (·==z) with
 | none =>
   have hnm:z ∉ c.new:=fun hm=>by
    have:=List.any_eq_false.mp (find_none hf) z hm
    exact this (beq_self_eq_true z)
   rw [tabK_none hnm]
   refine i_list x.f2 ⟨x.f2,?_⟩
   repeat walk_at "st2"
   exact fin st none (dp_no (hma.trans hf)) (Kn.sub ("b2j" :: "newj2len" :: "nothing" :: flL) (by walk_at "k2") rfl) x
 | some j =>
   obtain ⟨f1,f2,f3,f4⟩:=find_some hf
   have hd:=dp_at (blo:=c.blo) (bhi:=c.bhi) (st:=st) (pv:=pv) (hma.trans hf)
   obtain ⟨l,hlj⟩:=at_lt (X.tab.len.symm▸f4:j < c.ls.length)
   rw [tabK_some F.nd f1 hlj]
   have hlt:=X.tab.at_ j l hlj
   refine i_list hlt ?_
   refine wItems_one hlt fun K2 kn kc kb=>?_
   repeat walk_at "st2"
   refine k_if (fun hb=>?_) fun hb=>?_
   ·repeat walk_at "st2"
    refine kc _ _ ⟨hlt,?_⟩
    repeat walk_at "st2"
    exact fin st none (hd.trans (if_pos (dT hb))) (Kn.sub ("b2j" :: "newj2len" :: "nothing" :: flL) (by walk_at "k2") rfl) x
   rw [if_neg (dF hb)] at hd
   repeat walk_at "st2"
   refine k_if (fun hb=>?_) fun hb=>?_
   ·repeat walk_at "st2"
    refine kb _ _ ?_
    repeat walk_at "st2"
    exact fin st none (hd.trans (if_pos (dlT hb))) (Kn.sub ("b2j" :: "newj2len" :: "nothing" :: flL) (by walk_at "k2") rfl) x
   rw [if_neg (dlF hb)] at hd
   have hk:=pv_k i.po (Nat.le_add_right _ _) (Nat.le_of_not_lt (dF (by assumption)))
   repeat walk_at "st2"
   refine F.B.bi (.bmGet fjl (pv_get (pv:=pv)▸?_))
   repeat walk_at "st2"
   refine p_dI x.f1 (by decide) ?_
   have x2:=x.put (some (j,pvGet pv j+1))
   have hl2:((H'.set nl (.dI [])).set nl (.dI (pvK (some (j,pvGet pv j+1))))) l=some (.list [.int j]):=(Hp.set_ne _ _ (ad_ne (F.X.tab.at_ j l hlj) x.n)).trans hlt
   repeat walk_at "st2"
   refine k_if (fun hb=>?_) fun hb=>?_
   ·rw [if_pos (dT hb)] at hd
    repeat walk_at "st2"
    rw [csk (Nat.le_of_succ_le_succ (Nat.le_trans (Nat.le_add_right _ _) hk.1)),csk (Nat.le_of_succ_le_succ (Nat.le_trans (Nat.le_add_right _ _) hk.2))]
    refine kn _ _ ⟨hl2,?_⟩
    repeat walk_at "st2"
    exact fin _ _ hd (Kn.sub ("b2j" :: "newj2len" :: "nothing" :: flL) (by walk_at "k2") rfl) x2
   ·rw [if_neg (dF hb)] at hd
    repeat walk_at "st2"
    refine kn _ _ ⟨hl2,?_⟩
    repeat walk_at "st2"
    exact fin _ _ hd (Kn.sub ("b2j" :: "newj2len" :: "nothing" :: flL) (by walk_at "k2") rfl) x2
theorem up_lt {i:Int} {k n:Nat} {x:V} (h:(upFrom i k)[n]?=some x):n < k:=upFrom_len i k▸(List.getElem?_eq_some_iff.mp h).1
theorem fl_main {S : Sy} {H : Hp} {c : FC} (F : FX S H c) (cm : SpMatch S) (gm : S.G "Match" = some (.lit (.ref 135))) {K : KS} (hK : ∀ loc H', Keep H H' → K (.ret (matRow (castT (flmP c.m c.alo c.ahi c.blo c.bhi)))) loc H') :
  wSs S flS (fnBody "find_longest_match" smB) [("self",some (.obj c.s)),("alo",some (.int c.alo)),("ahi",some (.int c.ahi)),("blo",some (.int c.blo)),("bhi",some (.int c.bhi))] H K:=by
 have k:Kn flS flN [("self",.obj c.s),("alo",.int c.alo),("ahi",.int c.ahi),("blo",.int c.blo),("bhi",.int c.bhi)] [("self",some (.obj c.s)),("alo",some (.int c.alo)),("ahi",some (.int c.ahi)),("blo",some (.int c.blo)),("bhi",some (.int c.bhi))]:=Kn.init nm_fl
 obtain ⟨lr,lm⟩:=gl_fl
 have g2:=F.B.range
 with_unfolding_all refine x_doc ?_
 repeat walk_at "st2"
 refine at_inst F.X.hs F.X.hd F.X.ga (by decide) rfl ?_
 repeat walk_at "st2"
 refine at_inst F.X.hs F.X.hd F.X.gb (by decide) rfl ?_
 repeat walk_at "st2"
 refine at_inst F.X.hs F.X.hd F.X.gt (by decide) rfl ?_
 repeat walk_at "st2"
 refine at_inst F.X.hs F.X.hd F.X.gj (by decide) rfl ?_
 refine at_set F.X.junk ?_
 repeat walk_at "st2"
 refine x_DI fun jl hjl=>?_
 repeat walk_at "st2"
 intro nt hnt
 repeat walk_at "st2"
 have ha:c.ahi≤100:=Nat.le_trans F.h2 (Nat.le_trans F.hol (by decide))
 have hl:=sm_nat (Nat.le_trans F.h1 ha)
 have hh:=sm_nat ha
 refine ⟨_,_,rfl,rfl,hl.1,hl.2,hh.1,hh.2,?_⟩
 rw [Int.toNat_sub]
 refine wItems_inv (FR c H nt (dp c.m c.blo c.bhi (c.ahi - c.alo) c.alo (c.alo,c.blo,0) none)) _ [] _ _ (fun Z Z Z Z=>trivial) ?_ ?_
  ⟨(c.alo,c.blo,0),none,jl,Kn.sub flM (by walk_at "k2") rfl,fun b ob e=>Hp.old hnt (Hp.old hjl e),Hp.old hnt (Hp.set_self _ _ _),Hp.set_self _ _ _,⟨Nat.le_refl _,F.h1,Nat.le_refl _,F.h3⟩,nofun,rfl⟩
 ·rintro n x loc H' K' hx ⟨st,pv,jl,i⟩ k'
  rw [List.nil_append] at hx
  have hlt:=up_lt hx
  rw [up_at _ _ _ hlt] at hx
  cases hx
  exact x_aN (i.k.nm "i" rfl) (fl_row F i hlt k')
 ·rintro loc H' ⟨st,pv,jl,i⟩
  have e:=i.dq
  rw [List.nil_append,upFrom_len,Nat.sub_self] at e
  have e:st=_:=e
  have hf:flmP c.m c.alo c.ahi c.blo c.bhi=extR c.m c.ahi c.bhi 10 (extL c.m c.alo c.blo 10 st):=e▸rfl
  rw [hf] at hK
  repeat walk_at "st2"
  refine fl_w1 F ⟨i.k.sub flL rfl,i.kp,i.so⟩ fun loc H' w=>fl_w2 F w fun loc H' w=>fl_w3 F w (fl_w4 F w ?_)
  have k:=w.k
  repeat walk_at "st2"
  refine cm _ _ _ _ _ ?_
  repeat walk_at "st2"
  exact hK _ _ w.kp
theorem c_flm {S : Sy} (B : SB S) (cm : SpMatch S) (gm : S.G "Match" = some (.lit (.ref 135))) {s d ao an db j1 : Addr} {kvs : List (Str × V)} {ls : List Addr} {old new : List Str} {H : Hp} {K : KS} (X : SMok H s d ao an db j1 kvs ls old new) (nd : new.Nodup) (hol : old.length ≤ 5) (hnl : new.length ≤ 5)
  {alo ahi blo bhi:Nat} (h1:alo≤ahi) (h2:ahi≤old.length) (h3:blo≤bhi) (h4:bhi≤new.length)
  (hK:∀ loc H',(∀ b ob,H b=some ob→H' b=some ob)→K (.ret (matRow (castT (flmP (mOf old new) alo ahi blo bhi)))) loc H') :
  wSs S (fnScope "find_longest_match" smB) (fnBody "find_longest_match" smB) [("self",some (.obj s)),("alo",some (.int alo)),("ahi",some (.int ahi)),("blo",some (.int blo)),("bhi",some (.int bhi))] H K :=
 fl_main (c:=⟨s,d,ao,an,db,j1,kvs,ls,old,new,alo,ahi,blo,bhi⟩) ⟨B,X,nd,hol,hnl,h1,h2,h3,h4⟩ cm gm hK
theorem dp_ok {m:List (Option Nat)} {alo ahi blo bhi:Nat}:∀ (n i:Nat) (st:T3) (pv:Option (Nat×Nat)),i+n≤ahi→alo≤i→StOk alo ahi blo bhi st→PvOk alo blo bhi i pv→StOk alo ahi blo bhi (dp m blo bhi n i st pv)
 | 0,i,st,pv,_,_,h,_=>h
 | n + 1, i, st, pv, hi, ha, h, hp => by
   obtain ⟨a,b⟩:=dpStep_ok (m:=m) h hp (Nat.lt_of_lt_of_le (Nat.lt_add_of_pos_right (Nat.succ_pos n)) hi) ha
   exact dp_ok n (i+1) _ _ (Nat.le_trans (Nat.le_of_eq (Nat.succ_add i n)) hi) (Nat.le_succ_of_le ha) a b
theorem extL_ok {m:List (Option Nat)} {alo ahi blo bhi:Nat}:∀ (n:Nat) (t:T3),StOk alo ahi blo bhi t→StOk alo ahi blo bhi (extL m alo blo n t)
 | 0,t,h=>h
 | n + 1, t, h => by
   show StOk alo ahi blo bhi (if _ then _ else _)
   by_cases c:alo < t.1∧blo < t.2.1∧mAt m (t.1 - 1)=some (t.2.1 - 1)
   ·rw [if_pos c];exact extL_ok n _ (h.left c.1 c.2.1)
   ·rw [if_neg c];exact h
theorem extR_ok {m:List (Option Nat)} {alo ahi blo bhi:Nat}:∀ (n:Nat) (t:T3),StOk alo ahi blo bhi t→StOk alo ahi blo bhi (extR m ahi bhi n t)
 | 0,t,h=>h
 | n + 1, t, h => by
   show StOk alo ahi blo bhi (if _ then _ else _)
   by_cases c:t.1+t.2.2 < ahi∧t.2.1+t.2.2 < bhi∧mAt m (t.1+t.2.2)=some (t.2.1+t.2.2)
   ·rw [if_pos c];exact extR_ok n _ (h.right c.1 c.2.1)
   ·rw [if_neg c];exact h
theorem flm_ok {m:List (Option Nat)} {alo ahi blo bhi:Nat} (h1:alo≤ahi) (h2:blo≤bhi):StOk alo ahi blo bhi (flmP m alo ahi blo bhi) :=
 extR_ok _ _ (extL_ok _ _ (dp_ok _ _ _ _ (Nat.le_of_eq (Nat.add_sub_cancel' h1)) (Nat.le_refl _) ⟨Nat.le_refl _,h1,Nat.le_refl _,h2⟩ nofun))
noncomputable abbrev Q4:=Nat×Nat×Nat×Nat
noncomputable def q4V (q:Q4):V:=.tup [.int q.1,.int q.2.1,.int q.2.2.1,.int q.2.2.2]
noncomputable def m3V (p:T3):V:=matRow (castT p)
noncomputable def pushes (q:Q4) (t:T3):List Q4:=(if q.1 < t.1∧q.2.2.1 < t.2.1 then [(q.1,t.1,q.2.2.1,t.2.1)] else [])++(if t.1+t.2.2 < q.2.1∧t.2.1+t.2.2 < q.2.2.2 then [(t.1+t.2.2,q.2.1,t.2.1+t.2.2,q.2.2.2)] else [])
noncomputable def gl (m:List (Option Nat)):Nat→List Q4→List T3→Option (List T3)
 | n,[],bs=>some bs
 | 0,_::_,_=>none
 | n + 1, q :: r, bs =>
   let t:=flmP m q.1 q.2.1 q.2.2.1 q.2.2.2
   if t.2.2=0 then gl m n r bs else gl m n ((pushes q t).reverse++r) (bs++[t])
noncomputable def naStep (s:T3×List T3) (p:T3):T3×List T3 :=
 if s.1.1+s.1.2.2=p.1∧s.1.2.1+s.1.2.2=p.2.1 then ((s.1.1,s.1.2.1,s.1.2.2+p.2.2),s.2)
 else (p,if s.1.2.2=0 then s.2 else s.2++[s.1])
noncomputable def naP (l:List T3) (la lb:Nat):List T3 :=
 let s:=l.foldl naStep ((0,0,0),[])
 (if s.1.2.2=0 then s.2 else s.2++[s.1])++[(la,lb,0)]
noncomputable def lt3 (p q:T3):Bool:=decide (p.1 < q.1∨(p.1=q.1∧(p.2.1 < q.2.1∨(p.2.1=q.2.1∧p.2.2 < q.2.2))))
def SpFlm (S:Sy) (m:List (Option Nat)) (s:Addr) (H0:Hp) (lo ln:Nat):Prop:=∀ (alo ahi blo bhi:Nat) (H:Hp) (K:KV),(∀ b ob,H0 b=some ob→H b=some ob)→alo≤ahi→ahi≤lo→blo≤bhi→bhi≤ln→K (m3V (flmP m alo ahi blo bhi)) H→S.C (.lit (.ref 196)) [.obj s,.int alo,.int ahi,.int blo,.int bhi] H K
def SpSort (S:Sy):Prop:=∀ (a:Addr) (rows:List T3) (H:Hp) (K:KV),H a=some (.list (rows.map m3V))→rows.Nodup→rows.length≤5→(∀ rows':List T3,rows'.Perm rows→rows'.Pairwise (fun p q=>lt3 q p=false)→K .none (H.set a (.list (rows'.map m3V))))→S.C (.lit (.builtin "list.sort")) [.obj a] H K
def SpMake (S:Sy):Prop:=∀ (sc:Scope) (p0 p1 p2 p3 p4 p5 p6:Pos) (loc:Loc) (H:Hp) (K:KV) (a:Addr) (rows:List T3),sc.names.lookup ("list" : Str)=some .globalImplicit→sc.names.lookup ("map" : Str)=some .globalImplicit→sc.names.lookup ("Match" : Str)=some .globalImplicit→sc.names.lookup ("non_adjacent" : Str)=some .local →
 loc.get "non_adjacent" = some (.obj a)→H a=some (.list (rows.map t3V))→rows.length≤20→(∀ c,H c=none→K (.obj c) (H.set c (.list (rows.map m3V))))→S.L sc (.Call (.Name "list" p0) [.Call (.Name "map" p1) [.Attribute (.Name "Match" p2) "_make" p3,.Name "non_adjacent" p4] [] p5] [] p6) loc H K
theorem x_spec {S:Sy} {sc:Scope} {loc:Loc} {H:Hp} {K:KV} {x:Str} {p p':Pos} {args:List Expr} (h1:special (.Call (.Name x p) args [] p')=true) (h:S.L sc (.Call (.Name x p) args [] p') loc H K):wE S sc (.Call (.Name x p) args [] p') loc H K:=by
 show if _ then _ else _
 rw [if_pos h1];exact h
noncomputable abbrev gmS:Scope:=fnScope "get_matching_blocks" smB
noncomputable abbrev gmN:List Str:=["self", "la", "lb", "queue", "matching_blocks", "alo", "ahi", "blo", "bhi", "i", "j", "k", "x", "i1", "j1", "k1", "non_adjacent", "i2", "j2", "k2"]
theorem nm_gm:∀ x,hasS gmN x=true→gmS.names.lookup x=some .local:=nm_of (by decide +kernel)
theorem gl_gm:gmS.names.lookup ("list" : Str)=some .globalImplicit∧gmS.names.lookup ("len" : Str)=some .globalImplicit∧gmS.names.lookup ("map" : Str)=some .globalImplicit∧gmS.names.lookup ("Match" : Str)=some .globalImplicit:=by decide +kernel
theorem gl_na:gmS.names.lookup ("non_adjacent" : Str)=some .local:=by decide +kernel
noncomputable def gmAt (k:Nat):Stmt:=stAt (fnBody "get_matching_blocks" smB) k
noncomputable def gmIf:List Stmt:=bodyOf (stAt (bodyOf (gmAt 5)) 2)
structure Ok4 (c:FC) (e:Q4):Prop where
 p1:e.1≤e.2.1
 p2:e.2.1≤c.old.length
 p3:e.2.2.1≤e.2.2.2
 p4:e.2.2.2≤c.new.length
structure QH (H:Hp) (qa ma:Addr) (q:List Q4) (cs:List T3) (H':Hp):Prop where
 kp:Keep H H'
 fq:H' qa=some (.list (q.reverse.map q4V))
 fm:H' ma=some (.list (cs.map m3V))
 nq:H qa=none
 nm:H ma=none
 ne:qa≠ma
section
variable {H H':Hp} {qa ma:Addr} {q:List Q4} {cs:List T3}
theorem rev_q (e:Q4) (q:List Q4):(e::q).reverse.map q4V=q.reverse.map q4V++[q4V e]:=by rw [List.reverse_cons,List.map_append];rfl
theorem QH.push (h:QH H qa ma q cs H') (e:Q4):QH H qa ma (e::q) cs (H'.set qa (.list (q.reverse.map q4V++[q4V e]))) :=
 ⟨set_keep h.kp h.nq,(Hp.set_self _ _ _).trans (rev_q e q▸rfl),(Hp.set_ne _ _ h.ne.symm).trans h.fm,h.nq,h.nm,h.ne⟩
theorem QH.pop {e:Q4} (h:QH H qa ma (e::q) cs H'):QH H qa ma q cs (H'.set qa (.list (q.reverse.map q4V))) :=
 ⟨set_keep h.kp h.nq,Hp.set_self _ _ _,(Hp.set_ne _ _ h.ne.symm).trans h.fm,h.nq,h.nm,h.ne⟩
theorem QH.add (h:QH H qa ma q cs H') (t:T3):QH H qa ma q (cs++[t]) (H'.set ma (.list (cs.map m3V++[m3V t]))) :=
 ⟨set_keep h.kp h.nm,(Hp.set_ne _ _ h.ne).trans h.fq,(Hp.set_self _ _ _).trans (by rw [List.map_append];rfl),h.nq,h.nm,h.ne⟩
end
noncomputable def qE (c:FC) (qa ma:Addr):En:=[("self",.obj c.s),("la",.int c.old.length),("lb",.int c.new.length),("queue",.obj qa),("matching_blocks",.obj ma)]
noncomputable abbrev qL:List Str:=["self", "la", "lb", "queue", "matching_blocks"]
noncomputable def qF (c:FC) (qa ma:Addr) (e:Q4) (t:T3):En:=("alo",.int e.1)::("ahi",.int e.2.1)::("blo",.int e.2.2.1)::("bhi",.int e.2.2.2)::("i",.int t.1)::("j",.int t.2.1)::("k",.int t.2.2)::qE c qa ma
noncomputable abbrev qM:List Str := "alo" :: "ahi" :: "blo" :: "bhi" :: "i" :: "j" :: "k" :: qL
structure GX (S:Sy) (H:Hp) (c:FC):Prop where
 B:SB S
 X:SMok H c.s c.d c.ao c.an c.db c.j1 c.kvs c.ls c.old c.new
 hol:c.old.length≤5
 hnl:c.new.length≤5
 cf:SpFlm S c.m c.s H c.old.length c.new.length
 cs:SpSort S
 ck:SpMake S
 gf:S.cl "find_longest_match" = some 196
 hk1:getK c.kvs "matching_blocks" = some .none
 hk2:getK c.kvs "find_longest_match" = none
 hkl:c.kvs.length≤50
structure QI (c:FC) (H:Hp) (qa ma:Addr) (bs:List T3) (n:Nat) (loc:Loc) (H':Hp) (q:List Q4) (cs:List T3):Prop where
 k:Kn gmS gmN (qE c qa ma) loc
 h:QH H qa ma q cs H'
 ok:∀ e∈q,Ok4 c e
 ql:q.length+2 * n≤25
 cl:cs.length+n≤12
 g:gl c.m n q cs=some bs
theorem len_rev {q:List Q4} {n:Nat} (h:q.length≤n) (h2:Nat.ble n 4096=true):(q.reverse.map q4V).length≤4096:=by
 rw [List.length_map,List.length_reverse];exact Nat.le_trans h (Nat.le_of_ble_eq_true h2)
section
variable {S:Sy} {H:Hp} {c:FC} (G:GX S H c) {loc:Loc} {H':Hp} {qa ma:Addr} {e:Q4} {t:T3} {q:List Q4} {cs:List T3} {K:KS} {r:List Stmt}
theorem gm_if1 (B:SB S) (k:Kn gmS gmN (qF c qa ma e t) loc) (h:QH H qa ma q cs H') (hl:q.length≤50) (hK:∀ H'' q',q'=(if e.1 < t.1∧e.2.2.1 < t.2.1 then [(e.1,t.1,e.2.2.1,t.2.1)] else []).reverse++q→QH H qa ma q' cs H''→wSs S gmS r loc H'' K):wSs S gmS (stAt gmIf 1::r) loc H' K:=by
 with_unfolding_all refine z_If ?_
 repeat walk_at "st2"
 refine k_and (fun c1=>?_) fun c1=>k_ifF (hK _ _ (by rw [if_neg fun x=>dF c1 x.1];rfl) h)
 repeat walk_at "st2"
 refine k_and (fun c2=>?_) fun c2=>k_ifF (hK _ _ (by rw [if_neg fun x=>dF c2 x.2];rfl) h)
 repeat walk_at "st2"
 refine cm_append h.fq ?_
 repeat walk_at "st2"
 refine B.bi (.append h.fq (len_rev hl rfl) ?_)
 exact hK _ _ (by rw [if_pos ⟨dT c1,dT c2⟩];rfl) (h.push (e.1,t.1,e.2.2.1,t.2.1))
theorem gm_if2 (B:SB S) (k:Kn gmS gmN (qF c qa ma e t) loc) (h:QH H qa ma q cs H') (hl:q.length≤50) (hK:∀ H'' q',q'=(if t.1+t.2.2 < e.2.1∧t.2.1+t.2.2 < e.2.2.2 then [(t.1+t.2.2,e.2.1,t.2.1+t.2.2,e.2.2.2)] else []).reverse++q→QH H qa ma q' cs H''→wSs S gmS r loc H'' K):wSs S gmS (stAt gmIf 2::r) loc H' K:=by
 with_unfolding_all refine z_If ?_
 repeat walk_at "st2"
 refine k_and (fun c1=>?_) fun c1=>k_ifF (hK _ _ (by rw [if_neg fun x=>dF c1 x.1];rfl) h)
 repeat walk_at "st2"
 refine k_and (fun c2=>?_) fun c2=>k_ifF (hK _ _ (by rw [if_neg fun x=>dF c2 x.2];rfl) h)
 repeat walk_at "st2"
 refine cm_append h.fq ?_
 repeat walk_at "st2"
 refine B.bi (.append h.fq (len_rev hl rfl) ?_)
 exact hK _ _ (by rw [if_pos ⟨dT c1,dT c2⟩];rfl) (h.push (t.1+t.2.2,e.2.1,t.2.1+t.2.2,e.2.2.2))
theorem pushes_ok {e:Q4} {t:T3} (he:Ok4 c e) (ht:StOk e.1 e.2.1 e.2.2.1 e.2.2.2 t):∀ x∈pushes e t,Ok4 c x:=by
 intro x hx
 rcases List.mem_append.mp hx with h | h
 ·by_cases q:e.1 < t.1∧e.2.2.1 < t.2.1
  ·rw [if_pos q] at h
   cases List.mem_singleton.mp h
   exact ⟨ht.a,Nat.le_trans (Nat.le_add_right _ _) (Nat.le_trans ht.b he.p2),ht.c,Nat.le_trans (Nat.le_add_right _ _) (Nat.le_trans ht.d he.p4)⟩
  ·rw [if_neg q] at h;cases h
 ·by_cases q:t.1+t.2.2 < e.2.1∧t.2.1+t.2.2 < e.2.2.2
  ·rw [if_pos q] at h
   cases List.mem_singleton.mp h
   exact ⟨ht.b,he.p2,ht.d,he.p4⟩
  ·rw [if_neg q] at h;cases h
theorem pushes_len (e:Q4) (t:T3):(pushes e t).length≤2:=by
 have:∀ (p:Prop) [Decidable p] (x:Q4),(if p then [x] else []).length≤1:=fun p Z x=>by by_cases h:p <;> simp [h]
 exact Nat.le_trans (Nat.le_of_eq List.length_append) (Nat.add_le_add (this _ _) (this _ _))
theorem QI.next {bs : List T3} {n : Nat} (i : QI c H qa ma bs (n + 1) loc H' (e :: q) cs) (k : Kn gmS gmN (qE c qa ma) loc) (ht : StOk e.1 e.2.1 e.2.2.1 e.2.2.2 (flmP c.m e.1 e.2.1 e.2.2.1 e.2.2.2)) {loc' : Loc} {H'' : Hp} {q' : List Q4} {cs' : List T3}
  (hq:if (flmP c.m e.1 e.2.1 e.2.2.1 e.2.2.2).2.2=0 then q'=q∧cs'=cs else q'=(pushes e (flmP c.m e.1 e.2.1 e.2.2.1 e.2.2.2)).reverse++q∧cs'=cs++[flmP c.m e.1 e.2.1 e.2.2.1 e.2.2.2])
  (k':Kn gmS gmN (qE c qa ma) loc') (h:QH H qa ma q' cs' H''):QI c H qa ma bs n loc' H'' q' cs':=by
 have g:(if (flmP c.m e.1 e.2.1 e.2.2.1 e.2.2.2).2.2=0 then gl c.m n q cs else gl c.m n ((pushes e (flmP c.m e.1 e.2.1 e.2.2.1 e.2.2.2)).reverse++q) (cs++[flmP c.m e.1 e.2.1 e.2.2.1 e.2.2.2]))=some bs:=i.g
 have ql:q.length+2 * n+3≤25:=Nat.le_trans (Nat.le_of_eq (by rw [List.length_cons,Nat.mul_succ];exact (Nat.add_add_add_comm _ 1 _ 2).symm)) i.ql
 have cl:cs.length+n+1≤12:=i.cl
 have pl:=pushes_len e (flmP c.m e.1 e.2.1 e.2.2.1 e.2.2.2)
 have po:=pushes_ok (i.ok e (.head _)) ht
 have ok:=fun x hx=>i.ok x (.tail _ hx)
 generalize flmP c.m e.1 e.2.1 e.2.2.1 e.2.2.2=t at *
 by_cases z:t.2.2=0
 ·rw [if_pos z] at g hq
  obtain ⟨rfl,rfl⟩:=hq
  exact ⟨k',h,ok,Nat.le_trans (Nat.le_add_right _ 3) ql,Nat.le_of_succ_le cl,g⟩
 ·rw [if_neg z] at g hq
  obtain ⟨rfl,rfl⟩:=hq
  refine ⟨k',h,fun x hx=>?_,?_,?_,g⟩
  ·rcases List.mem_append.mp hx with hx | hx
   ·exact po x (List.mem_reverse.mp hx)
   ·exact ok x hx
  ·rw [List.length_append,List.length_reverse]
   exact Nat.le_trans (Nat.add_le_add_right (Nat.add_le_add_right pl _) _) (by rw [Nat.add_comm 2,Nat.add_right_comm];exact Nat.le_of_succ_le ql)
  ·rw [List.length_append];exact Nat.le_trans (Nat.le_of_eq (Nat.add_right_comm _ 1 _)) cl
include G
theorem gm_while {bs:List T3} (i:QI c H qa ma bs 12 loc H' q cs) (hK:∀ loc H',Kn gmS gmN (qE c qa ma) loc→QH H qa ma [] bs H'→wSs S gmS r loc H' K):wSs S gmS (gmAt 5::r) loc H' K:=by
 with_unfolding_all refine z_While 13 (fun n loc H'=>∃ q cs,QI c H qa ma bs n loc H' q cs) (fun loc H'=>Kn gmS gmN (qE c qa ma) loc∧QH H qa ma [] bs H') 12 (by decide) ⟨q,cs,i⟩ ?_ fun loc H' x=>hK _ _ x.1 x.2
 clear i hK
 rintro n loc H' R K' ⟨q,cs,i⟩ hR hE
 have k:=i.k
 have hql:q.length≤25:=Nat.le_trans (Nat.le_add_right _ _) i.ql
 repeat walk_at "st2"
 refine v_list i.h.fq (Nat.le_trans (len_rev hql rfl) (by decide)) ?_
 cases q with
 | nil =>
   refine k_whF (hE _ _ ⟨k,?_⟩)
   have e:cs=bs:=by cases n <;> exact Option.some.inj i.g
   exact e▸i.h
 | cons e q =>
   rw [show (!(((e::q).reverse).map q4V).isEmpty)=true from by simp]
   cases n with
   | zero=>exact nn i.g
   | succ n =>
     have hf:=i.h.fq
     rw [rev_q] at hf
     have hl:q.length≤24:=Nat.le_of_succ_le_succ hql
     repeat walk_at "st2"
     refine cm_pop hf ?_
     repeat walk_at "st2"
     refine G.B.bi (.pop (x:=q4V e) hf (Nat.le_trans (len_rev hl rfl) (by decide)) ?_)
     have h1:=i.h.pop
     have X:=G.X.keep h1.kp
     have he:=i.ok e (.head _)
     repeat walk_at "st2"
     refine cm_inst X.hs X.hd G.hk2 G.gf ?_
     repeat walk_at "st2"
     have ht:=flm_ok (m:=c.m) he.p1 he.p3
     refine G.cf e.1 e.2.1 e.2.2.1 e.2.2.2 _ _ h1.kp he.p1 he.p2 he.p3 he.p4 ?_
     have nx:=fun loc' H'' q' cs'=>QI.next (loc':=loc') (H'':=H'') (q':=q') (cs':=cs') i k ht
     generalize flmP c.m e.1 e.2.1 e.2.2.1 e.2.2.2=t at *
     repeat walk_at "st2"
     refine k_if (fun hz=>?_) fun hz=>?_
     ·have hz:=nzT (n:=t.2.2) hz
      repeat walk_at "st2"
      refine cm_append h1.fm ?_
      repeat walk_at "st2"
      refine G.B.bi (.append h1.fm (by rw [List.length_map];exact Nat.le_trans (Nat.le_add_right _ _) (Nat.le_trans i.cl (by decide))) ?_)
      refine gm_if1 (e:=e) (t:=t) G.B (Kn.sub qM (by walk_at "k2") rfl) (h1.add t) (Nat.le_trans hl (by decide)) fun H2 q1 e1 h2=>gm_if2 (e:=e) (t:=t) G.B (Kn.sub qM (by walk_at "k2") rfl) h2 ?_ fun H3 q2 e2 h3=>?_
      ·rw [e1,List.length_append]
       have:=pushes_len e t
       rw [pushes,List.length_append] at this
       rw [List.length_reverse]
       omega
      ·repeat walk_at "st2"
       refine hR n _ _ (Nat.lt_succ_self n) ⟨q2,_,nx _ _ _ _ ?_ (Kn.sub qL (by walk_at "k2") rfl) h3⟩
       rw [if_neg hz]
       exact ⟨by rw [e2,e1,pushes,List.reverse_append,List.append_assoc],rfl⟩
     ·repeat walk_at "st2"
      refine hR n _ _ (Nat.lt_succ_self n) ⟨q,cs,nx _ _ _ _ ?_ (Kn.sub qL (by walk_at "k2") rfl) h1⟩
      rw [if_pos (nzF (n:=t.2.2) hz)]
      exact ⟨rfl,rfl⟩
end
structure NH (H:Hp) (ma na:Addr) (bs' acc:List T3) (H':Hp):Prop where
 kp:Keep H H'
 fm:H' ma=some (.list (bs'.map m3V))
 fn:H' na=some (.list (acc.map t3V))
 nn:H na=none
 ne:ma≠na
theorem NH.add {H H':Hp} {ma na:Addr} {bs' acc:List T3} (h:NH H ma na bs' acc H') (t:T3):NH H ma na bs' (acc++[t]) (H'.set na (.list (acc.map t3V++[t3V t]))) :=
 ⟨set_keep h.kp h.nn,(Hp.set_ne _ _ h.ne).trans h.fm,(Hp.set_self _ _ _).trans (by rw [List.map_append];rfl),h.nn,h.ne⟩
noncomputable def nE (c:FC) (ma na:Addr) (st:T3):En:=[("self",.obj c.s),("la",.int c.old.length),("lb",.int c.new.length),("matching_blocks",.obj ma),("non_adjacent",.obj na),("i1",.int st.1),("j1",.int st.2.1),("k1",.int st.2.2)]
noncomputable abbrev nL:List Str:=["self", "la", "lb", "matching_blocks", "non_adjacent", "i1", "j1", "k1"]
structure NA (c:FC) (H:Hp) (ma na:Addr) (bs':List T3) (n:Nat) (loc:Loc) (H':Hp) (st:T3) (acc:List T3):Prop where
 k:Kn gmS gmN (nE c ma na st) loc
 h:NH H ma na bs' acc H'
 al:acc.length≤n
 e:(bs'.take n).foldl naStep ((0,0,0),[])=(st,acc)
theorem eT {a b k:Nat} (h:((a:Int)+(k:Int)==(b:Int))=true):a+k=b:=Int.ofNat.inj (eq_of_beq h)
theorem eF {a b k:Nat} (h:((a:Int)+(k:Int)==(b:Int))=false):¬ a+k=b:=fun q=>by rw [← q] at h;exact absurd (beq_self_eq_true ((a:Int)+(k:Int))) (fun e=>Bool.noConfusion (e.symm.trans h))
section
variable {S:Sy} {H:Hp} {c:FC} {loc:Loc} {H':Hp} {ma na:Addr} {st:T3} {acc bs':List T3} {K:KS} {r:List Stmt}
theorem na_app {p1 p2 p3 p4 p5 p6 p7 p8 p9 p10 : Pos} {c0 : Nat} (B : SB S) (hp : p3.endLine = p8.endLine ∧ p3.endLine = p8.line) (k : Kn gmS gmN (nE c ma na st) loc) (h : NH H ma na bs' acc H') (hl : acc.length ≤ 50)
  (hK:∀ H'' acc',acc'=(if st.2.2=0 then acc else acc++[st])→NH H ma na bs' acc' H''→wSs S gmS r loc H'' K) :
  wSs S gmS (.If (.Name "k1" p1) [.Expr (.Call (.Attribute (.Name "non_adjacent" p2) "append" p3) [.Tuple [.Name "i1" p4,.Name "j1" p5,.Name "k1" p6] c0 p7] [] p8) p9] [] p10::r) loc H' K:=by
 repeat walk_at "st2"
 refine k_if (fun hz=>?_) fun hz=>?_
 ·refine x_Expr (x_Meth hp ?_ rfl rfl (Nat.le_of_ble_eq_true rfl))
  repeat walk_at "st2"
  refine cm_append h.fn ?_
  repeat walk_at "st2"
  refine B.bi (.append h.fn (by rw [List.length_map];exact Nat.le_trans hl (by decide)) ?_)
  exact hK _ _ (by rw [if_neg (nzT hz)]) (h.add st)
 ·exact hK _ _ (by rw [if_pos (nzF hz)]) h
theorem na_len {acc':List T3} {n:Nat} (e:acc'=if st.2.2=0 then acc else acc++[st]) (h:acc.length≤n):acc'.length≤n+1:=by
 rw [e]
 by_cases z:st.2.2=0
 ·rw [if_pos z];exact Nat.le_succ_of_le h
 ·rw [if_neg z,List.length_append];exact Nat.succ_le_succ h
theorem gm_for (B:SB S) (hb:bs'.length≤5) (i:NA c H ma na bs' 0 loc H' (0,0,0) []) (hK:∀ loc H' st acc,NA c H ma na bs' bs'.length loc H' st acc→wSs S gmS r loc H' K):wSs S gmS (gmAt 9::r) loc H' K:=by
 have k:=i.k
 with_unfolding_all refine x_For ?_ rfl rfl
 repeat walk_at "st2"
 refine i_list i.h.fm ?_
 refine wItems_inv (fun n loc H'=>∃ st acc,NA c H ma na bs' n loc H' st acc) _ [] _ _ (fun n loc H' z0=>(by obtain ⟨st,acc,i⟩:=z0;exact i.h.fm)) ?_ ?_ ⟨_,_,i⟩
 ·clear i hK k
  rintro n x loc H' K' hx ⟨st,acc,i⟩ k'
  rw [List.nil_append,List.getElem?_map] at hx
  obtain ⟨p,hp,rfl⟩:=Option.map_eq_some_iff.mp hx
  have hn:=Nat.lt_of_lt_of_le (List.getElem?_eq_some_iff.mp hp).1 hb
  have e1:(bs'.take (n+1)).foldl naStep ((0,0,0),[])=naStep (st,acc) p:=by
   rw [List.take_succ,hp,List.foldl_append,i.e];rfl
  have k:=i.k
  have h:=i.h
  have other:¬ (st.1+st.2.2=p.1∧st.2.1+st.2.2=p.2.1)→∀ {loc':Loc} {H4:Hp} {acc':List T3},acc'=(if st.2.2=0 then acc else acc++[st])→Kn gmS gmN (nE c ma na p) loc'→NH H ma na bs' acc' H4→K' .next loc' H4 :=
   fun hc loc' H4 acc' e kn h=>k' _ _ _ (.inl rfl) ⟨p,acc',kn,h,na_len e i.al,e1.trans ((if_neg hc).trans (e▸rfl))⟩
  repeat walk_at "st2"
  refine k_and (fun h1=>?_) fun h1=>?_
  ·repeat walk_at "st2"
   refine k_and (fun h2=>?_) fun h2=>?_
   ·repeat walk_at "st2"
    exact k' _ _ _ (.inl rfl) ⟨(st.1,st.2.1,st.2.2+p.2.2),acc,Kn.sub nL (by walk_at "k2") rfl,h,Nat.le_succ_of_le i.al,e1.trans (if_pos ⟨eT h1,eT h2⟩)⟩
   ·repeat walk_at "l2"
    refine na_app B ⟨rfl,rfl⟩ (Kn.sub nL (by walk_at "k2") rfl) h (Nat.le_trans i.al (Nat.le_trans (Nat.le_of_lt hn) (by decide))) fun H4 acc' e h=>?_
    repeat walk_at "st2"
    exact other (fun q=>eF h2 q.2) e (Kn.sub nL (by walk_at "k2") rfl) h
  ·repeat walk_at "l2"
   refine na_app B ⟨rfl,rfl⟩ (Kn.sub nL (by walk_at "k2") rfl) h (Nat.le_trans i.al (Nat.le_trans (Nat.le_of_lt hn) (by decide))) fun H4 acc' e h=>?_
   repeat walk_at "st2"
   exact other (fun q=>eF h1 q.1) e (Kn.sub nL (by walk_at "k2") rfl) h
 ·rintro loc H' ⟨st,acc,i⟩
  rw [List.nil_append,List.length_map] at i
  repeat walk_at "st2"
  exact hK _ _ _ _ i
theorem gm_main (G : GX S H c) {bs : List T3} (hg : gl c.m 12 [(0, c.old.length, 0, c.new.length)] [] = some bs) (hbl : bs.length ≤ 5) (hbn : bs.Nodup)
  (hK:∀ loc (a:Addr) (H':Hp) bs',bs'.Perm bs→bs'.Pairwise (fun p q=>lt3 q p=false)→H a=none→(∀ b ob,b≠c.d→H b=some ob→H' b=some ob)→H' a=some (.list ((naP bs' c.old.length c.new.length).map m3V))→K (.ret (.obj a)) loc H') :
  wSs S gmS (fnBody "get_matching_blocks" smB) [("self",some (.obj c.s))] H K:=by
 have k:Kn gmS gmN [("self",.obj c.s)] [("self",some (.obj c.s))]:=Kn.init nm_gm
 obtain ⟨l1,l2,l3,l4⟩:=gl_gm
 have g1:=G.B.len
 have X:=G.X
 with_unfolding_all refine x_doc ?_
 repeat walk_at "st2"
 refine at_inst X.hs X.hd G.hk1 (by decide) rfl ?_
 repeat walk_at "st2"
 refine at_inst X.hs X.hd X.ga (by decide) rfl ?_
 repeat walk_at "st2"
 refine G.B.bi (.len X.ho (by rw [List.length_map];exact Nat.le_trans G.hol (by decide)) ?_)
 repeat walk_at "st2"
 refine at_inst X.hs X.hd X.gb (by decide) rfl ?_
 repeat walk_at "st2"
 refine G.B.bi (.len X.hn (by rw [List.length_map];exact Nat.le_trans G.hnl (by decide)) ?_)
 rw [List.length_map,List.length_map]
 repeat walk_at "st2"
 intro qa hqa
 repeat walk_at "st2"
 intro ma hma
 repeat walk_at "st2"
 have h0:QH H qa ma [(0,c.old.length,0,c.new.length)] [] ((H.set qa (.list [.tup [.int 0,.int c.old.length,.int 0,.int c.new.length]])).set ma (.list [])) :=
  ⟨fun b ob e=>Hp.old hma (Hp.old hqa e),Hp.old hma (Hp.set_self _ _ _),Hp.set_self _ _ _,hqa,(Hp.oldN hma).1,Ne.symm (Hp.oldN hma).2⟩
 refine gm_while G ⟨Kn.sub qL (by walk_at "k2") rfl,h0,fun e he=>List.mem_singleton.mp he▸⟨Nat.zero_le _,Nat.le_refl _,Nat.zero_le _,Nat.le_refl _⟩,Nat.le_refl _,Nat.le_refl _,hg⟩ fun loc H1 k h=>?_
 clear h0 hqa hma
 repeat walk_at "st2"
 refine cm_sort h.fm ?_
 repeat walk_at "st2"
 refine G.cs _ _ _ _ h.fm hbn hbl fun bs' hp hs=>?_
 have hb':bs'.length≤5:=hp.length_eq▸hbl
 repeat walk_at "st2"
 intro na hna
 have hna:=Hp.oldN hna
 have h1:NH H ma na bs' [] ((H1.set ma (.list (bs'.map m3V))).set na (.list [])) :=
  ⟨fun b ob e=>Hp.old ((Hp.set_ne _ _ hna.2).trans hna.1) (set_keep h.kp h.nm b ob e),(Hp.set_ne _ _ hna.2.symm).trans (Hp.set_self _ _ _),Hp.set_self _ _ _,keep_none h.kp hna.1,hna.2.symm⟩
 with_reducible refine x_as ?_
 with_reducible refine x_aN (k.nm "non_adjacent" rfl) ?_
 with_reducible refine x_as0 ?_
 refine gm_for (c:=c) (H:=H) (ma:=ma) (na:=na) G.B hb' ⟨Kn.sub nL (by walk_at "k2") rfl,h1,Nat.le_refl _,rfl⟩ fun loc H2 st acc i=>?_
 clear h1
 have k:=i.k
 have hna':naP bs' c.old.length c.new.length=(if st.2.2=0 then acc else acc++[st])++[(c.old.length,c.new.length,0)]:=by
  have e:=i.e
  rw [List.take_length] at e
  unfold naP;rw [e]
 refine na_app G.B ⟨rfl,rfl⟩ k i.h (Nat.le_trans i.al (Nat.le_trans hb' (by decide))) fun H3 acc' ea h3=>?_
 have hl:=Nat.le_trans (na_len ea i.al) (Nat.succ_le_succ hb')
 rw [← ea] at hna'
 repeat walk_at "st2"
 refine cm_append h3.fn ?_
 repeat walk_at "st2"
 refine G.B.bi (.append h3.fn (by rw [List.length_map];exact Nat.le_trans hl (by decide)) ?_)
 have h4:=h3.add (c.old.length,c.new.length,0)
 rw [← hna'] at h4
 have hl4:(naP bs' c.old.length c.new.length).length≤20:=by rw [hna',List.length_append];exact Nat.le_trans (Nat.succ_le_succ hl) (by decide)
 repeat walk_at "st2"
 refine x_spec rfl ?_
 refine G.ck _ _ _ _ _ _ _ _ _ _ _ na _ (by assumption) (by assumption) (by assumption) (gl_na) (by walk_at "g2") h4.fn hl4 fun a ha=>?_
 have haH:=keep_none h4.kp ha
 have kp5:=fun b ob e=>Hp.old (o':=.list ((naP bs' c.old.length c.new.length).map m3V)) ha (h4.kp b ob e)
 repeat walk_at "st2"
 refine pa_inst (kp5 _ _ X.hs) (kp5 _ _ X.hd) (by decide) (Nat.le_trans G.hkl (by decide)) ?_
 repeat walk_at "st2"
 have hsd:c.s≠c.d:=fun q=>by have:=X.hs.symm.trans (q▸X.hd);cases this
 refine at_inst ((Hp.set_ne _ _ hsd).trans (kp5 _ _ X.hs)) (Hp.set_self _ _ _) getK_me (by decide) rfl ?_
 exact hK _ a _ bs' hp hs haH (fun b ob q e=>(Hp.set_ne _ _ q).trans (kp5 b ob e)) ((Hp.set_ne _ _ (Ne.symm (ad_ne X.hd haH))).trans (Hp.set_self _ _ _))
end
theorem c_gmb {S : Sy} (B : SB S) {s d ao an db j1 : Addr} {kvs : List (Str × V)} {ls : List Addr} {old new : List Str} {H : Hp} {K : KS} (X : SMok H s d ao an db j1 kvs ls old new) (hol : old.length ≤ 5) (hnl : new.length ≤ 5)
  (cf:∀ H1,(∀ b ob,H b=some ob→H1 b=some ob)→SpFlm S (mOf old new) s H1 old.length new.length) (cs:SpSort S) (ck:SpMake S) (gf:S.cl "find_longest_match" = some 196) (hk1:getK kvs "matching_blocks" = some .none) (hk2:getK kvs "find_longest_match" = none) (hkl:kvs.length≤50)
  {bs:List T3} (hg:gl (mOf old new) 12 [(0,old.length,0,new.length)] []=some bs) (hbl:bs.length≤5) (hbn:bs.Nodup)
  (hK:∀ loc (c:Addr) (H':Hp) bs',bs'.Perm bs→bs'.Pairwise (fun p q=>lt3 q p=false)→H c=none→(∀ b ob,b≠d→H b=some ob→H' b=some ob)→H' c=some (.list ((naP bs' old.length new.length).map m3V))→K (.ret (.obj c)) loc H') :
  wSs S (fnScope "get_matching_blocks" smB) (fnBody "get_matching_blocks" smB) [("self",some (.obj s))] H K :=
 gm_main (c:=⟨s,d,ao,an,db,j1,kvs,ls,old,new,0,0,0,0⟩) ⟨B,X,hol,hnl,cf H fun Z Z e=>e,cs,ck,gf,hk1,hk2,hkl⟩ hg hbl hbn hK
end Mine
end
section
namespace Mine
open PySem PySem.Spec PySem.Calls PyProof.Rows PySem.W
noncomputable def matCD:ClassData:={ name := "Match",bases:=[.type "tuple"],mro:=[.ref 135,.type "tuple",.type "object"],ns:=134,qualname := "Match",hasDict:=false }
noncomputable def matO:Obj:={ cls:=.type "type",data:=.cls matCD,slots:=#[some (.ref 65),none,some (.str "Match" 253),some (.str "Match" 261),some .none,some (.bool false)] }
structure MatAt (h:Heap):Prop where
 cls:h.get? 135=some matO
 ns:∃ m,h.Ns 134 m∧∀ r∈maRows,m r.1=r.2
 sm:h.get? 136=some { cls:=.type "staticmethod",data:=.fields #[.ref 82] }
 cm:h.get? 91=some { cls:=.type "classmethod",dict:=some 90,data:=.fields #[.ref 89,.bool false] }
 nw:h.get? 82=some { cls:=.type "function",data:=.func fd_mnew }
 st:∃ m,h.Ns cStatics m∧m "thirdparty.any" = none
 mkf:h.get? 89=some { cls:=.type "function",data:=.func fd_make }
theorem MatAt.keeps {h h':Heap} (Y:MatAt h) (k:∀ b o,h.get? b=some o→h'.get? b=some o):MatAt h' :=
 ⟨k _ _ Y.cls,(by obtain ⟨m,a,b⟩:=Y.ns;exact ⟨m,a.keeps k,b⟩),k _ _ Y.sm,k _ _ Y.cm,k _ _ Y.nw,((by obtain ⟨m,a,b⟩:=Y.st;exact ⟨m,a.keeps k,b⟩)),k _ _ Y.mkf⟩
theorem mem_ob {k:Nat} {r:Addr×Obj} (h:obRows[k]?=some r):r∈obRows:=List.mem_of_getElem? h
theorem mem_fn {k:Nat} {r:Addr×FuncData} (h:fnRows[k]?=some r):r∈fnRows:=List.mem_of_getElem? h
theorem matAt_of {T:TI} (Y:WY T) {h:Heap} (a:Above T h):MatAt h:=by
 refine ⟨a _ _ (Y.obs (135,matO) (mem_ob (k:=38) rfl)),?_,a _ _ (Y.obs _ (mem_ob (k:=36) rfl)),a _ _ (Y.obs _ (mem_ob (k:=37) rfl)),a _ _ (Y.fns (82,fd_mnew) (mem_fn (k:=22) rfl)),((by obtain ⟨m,h1,h2⟩:=Y.stat;exact ⟨m,h1 h a,h2⟩)),a _ _ (Y.fns (89,fd_make) (mem_fn (k:=23) rfl))⟩
 obtain ⟨m,h1,h2⟩:=Y.ma
 exact ⟨m,h1 h a,h2⟩
section
variable {M:Model} {h:Heap} (Y:MatAt h)
include Y
theorem mat_cd:Looks M h (classData 135) matCD:=(Looks.ld (part:=none) Y.cls).andThen .now
theorem mat_mro:Looks M h (mroOf (.ref 135)) matCD.mro:=(mat_cd Y).andThen .now
theorem mat_own {name:Str} {v:Option Value} (hr:(name,v)∈maRows):Looks M h (classOwn (.ref 135) name) v:=by
 obtain ⟨m,hn,hm⟩:=Y.ns
 intro A Q E s k q
 refine wpAny_bind ((mat_cd Y) A _ E s k ?_)
 exact wpAny_nsGet (hn.keeps k) (by rw [hm _ hr];exact q)
theorem mat_tl0 {name:Str} {v:Option Value} (hr:(name,none)∈maRows) (hv:typeLookup (.type "tuple") name=pure v):Looks M h (typeLookup (.ref 135) name) v:=by
 have hv':lookupAlong [.type "tuple",.type "object"] name=pure v:=by
  have:typeLookup (.type "tuple") name=lookupAlong [.type "tuple",.type "object"] name:=by
   rw [typeLookup_eq]
   have:mroOf (.type "tuple")=pure [.type "tuple",.type "object"]:=by
    unfold mroOf
    dsimp only
    rw [show builtinMro "tuple" = some [.type "tuple",.type "object"] from by rw [builtinMro_eq_fast];kernel_rfl]
   rw [this];rfl
  rw [← this,hv]
 rw [typeLookup_eq]
 refine (mat_mro Y).andThen ?_
 show Looks M h (lookupAlong (.ref 135::[.type "tuple",.type "object"]) name) _
 rw [lookupAlong_cons]
 exact (mat_own Y hr).andThen (Looks.of_pure hv')
end
theorem mat_call1 {M:Model} {h:Heap} (Y:MatAt h):Looks M h (specialOf (.ref 135) "__call__") (some (.builtin "type.__call__")) :=
 ((Looks.ld Y.cls).andThen .now).andThen (Looks.of_pure (by show typeLookup (.type "type") "__call__" = _;rw [typeLookup_type,builtinLookup_eq_fast];kernel_rfl))
theorem mat_typ {M:Model} {h:Heap} (Y:MatAt h):Looks M h (isInstance (.ref 135) (.type "type")) true :=
 ((Looks.ld Y.cls).andThen .now).andThen (Looks.of_pure (by show isSubtype (.type "type") (.type "type")=_;rw [isSubtype_type];kernel_rfl))
theorem mat_made {M:Model} {h:Heap} (Y:MatAt h):Looks M h (Bind.madeBy (.ref 135)) none:=by
 intro A Q E s k q
 unfold Bind.madeBy
 refine wpAny_bind ((mat_mro Y) A _ E s k ?_)
 have e:matCD.mro=.ref 135::[.type "tuple",.type "object"]:=rfl
 rw [e,List.forIn_cons]
 refine wpAny_bind (wpAny_bind (wpAny_bind (wpAny_bind (wpAny_loadPart (k _ _ Y.cls) (wpAny_pure ?_)))))
 dsimp only
 exact wpAny_pure (wpAny_pure (wpAny_pure q))
theorem mat_opq {M:Model} {h:Heap} (Y:MatAt h):Looks M h (opaqueClassAbove (.ref 135)) none:=by
 obtain ⟨m,hn,hm⟩:=Y.st
 have L:Looks M h (nsGet cStatics ("thirdparty.any" : Str)) none:=fun A Q E s k q=>wpAny_nsGet (hn.keeps k) (by rw [hm];exact q)
 exact Looks.andThen (a:=false) (L.andThen .now) (by show Looks M h (if (!false)=true then pure none else _) none;rw [if_pos (show (!false)=true from rfl)];exact .now)
theorem nsIn_of {K:Frag} {ns:Addr} {o:Obj} {es:Array DictEntry} {ep:Nat} {name:Str} {r:Option Value} (hk:K.lookup ns=some o) (hd:o.data=.dict es ep) (hs:StrKeys es) (hf:nsFind es name=r):nsIn K ns name=some r:=by
 obtain ⟨c,d,dt,sl⟩:=o
 dsimp only at hd
 subst hd
 unfold nsIn
 rw [hk]
 dsimp only
 subst hf
 unfold nsFind findBy
 rw [Array.find?_toList]
 cases q:es.find? (fun e=>e.key.isStr name) with
 | some e=>simp [q]
 | none =>
   have:es.toList.any (·.refKey)=false:=by
    rw [List.any_eq_false]
    intro e he
    obtain ⟨n,t,hn⟩:=hs e (by simpa using he)
    unfold DictEntry.refKey
    rw [hn];simp
   simp [this,q]
noncomputable def smO:Obj:={ cls:=.type "staticmethod",data:=.fields #[.ref 82] }
noncomputable def cmO:Obj:={ cls:=.type "classmethod",dict:=some 90,data:=.fields #[.ref 89,.bool false] }
theorem mat_K {h:Heap} (Y:MatAt h):∃ o:Obj,Frag.In [(135,matO),(136,smO),(91,cmO),(134,o)] h∧∀ r∈maRows,nsIn [(135,matO),(136,smO),(91,cmO),(134,o)] 134 r.1=some r.2:=by
 obtain ⟨m,⟨o,es,ep,ho,hd,hs,hf⟩,hm⟩:=Y.ns
 refine ⟨o,fun a ob e=>?_,fun r hr=>nsIn_of (o:=o) rfl hd hs ((hf r.1).trans (hm r hr))⟩
 simp only [List.lookup] at e
 split at e
 ·rename_i q;cases e;rw [eq_of_beq q];exact Y.cls
 ·split at e
  ·rename_i q;cases e;rw [eq_of_beq q];exact Y.sm
  ·split at e
   ·rename_i q;cases e;rw [eq_of_beq q];exact Y.cm
   ·split at e
    ·rename_i q;cases e;rw [eq_of_beq q];exact ho
    ·cases e
theorem fc_new {o:Obj} (hn:nsIn [(135,matO),(136,smO),(91,cmO),(134,o)] 134 "__new__" = some (some (.ref 136))):findCls [(135,matO),(136,smO),(91,cmO),(134,o)] (.ref 135) (.type "type") "__new__" = some (.get (.builtin "staticmethod.__get__") (.ref 136) .none (.ref 135)):=by
 have h1:findIn [(135,matO),(136,smO),(91,cmO),(134,o)] (.ref 135) "__new__" = some (some (.ref 136)):=by
  show alongIn _ _ (.ref 135::[.type "tuple",.type "object"])=_
  unfold alongIn
  have:ownIn [(135,matO),(136,smO),(91,cmO),(134,o)] "__new__" (.ref 135)=some (some (.ref 136)):=hn
  rw [this]
 unfold findCls
 rw [h1]
 kernel_rfl
section
variable {prog:Program} {w:World} {A:Around} {E:Value→Shared→Prop} {s:Shared} {Q:Value→Shared→Prop}
theorem mat_new (Y:MatAt s.heap) {e:Bool} (q:Q (.ref 82) { s with toks:=s.toks+1 }):wpAny (model prog w) A (getAttr (.ref 135) "__new__" e) Q E s:=by
 obtain ⟨o,X,hm⟩:=mat_K Y
 have hn:=hm ("__new__",some (.ref 136)) (.head _)
 refine cls_open (K:=[(135,matO),(136,smO),(91,cmO),(134,o)]) (hook:=none) X (mat_opq Y) ((Looks.ld Y.cls).andThen .now) (by kernel_rfl) (looks_hook X (by kernel_rfl)) (by kernel_rfl) (fc_new hn) ?_
 show wpAny _ _ (do ret (← holding [.ref 136] (call (.builtin "staticmethod.__get__") [.ref 136,.none,.ref 135]))) _ _ _
 refine wpAny_bind (wpAny_holding (wpAny_call (sm_get (K:=[(135,matO),(136,smO),(91,cmO),(134,o)]) (rest:=[]) X rfl ?_)))
 exact wpAny_pure (handed_on rfl q)
end
def IsMat (h:Heap) (a:Addr) (vs:Array Value):Prop:=∃ d n,h.get? a=some { cls:=.ref 135,dict:=d,data:=.seq vs n }
theorem IsMat.keeps {h h':Heap} {a:Addr} {vs:Array Value} (x:IsMat h a vs) (k:∀ o,h.get? a=some o→h'.get? a=some o):IsMat h' a vs :=
 (by obtain ⟨d,n,e⟩:=x;exact ⟨d,n,k _ e⟩)
section
variable {prog:Program} {w:World} {A:Around} {E:Value→Shared→Prop} {s:Shared}
theorem mat_nextItem {it t : Addr} {i : Nat} {vs : Array Value} {x : Value} {Q : Option Value → Shared → Prop} (hit : s.heap.IsTupleIter it t i) (ht : IsMat s.heap t vs) (hx : vs[i]? = some x)
  (k:∀ h',h'.IsTupleIter it t (i+1)→Heap.SameBut it s.heap h'→Q (some x) { s with heap:=h' }):wpAny (model prog w) A (pyNext (.ref it)) Q E s:=by
 obtain ⟨dd,n,et⟩:=ht
 obtain ⟨o,ho,hc,hd⟩:=id hit
 have hup:(s.heap.update it (Obj.mapFields (·.setIfInBounds 1 (.int ((i:Int)+1) 0)))).IsTupleIter it t (i+1) :=
  ⟨_,Heap.get?_update_self _ ho (Obj.isFreed_of_fields (Obj.data_mapFields hd _)),(Obj.cls_mapFields ..).trans hc,by rw [Obj.data_mapFields hd];simp⟩
 have hq:=k _ hup (Heap.SameBut.update ..)
 unfold pyNext
 refine wpAny_bind (wpAny_attempt (wpAny_callSpecial?_slot (name:=Str.ofString "__next__") hit.typeIs F.slot_tuple_iterator_next (wpAny_call_entry F.slot_tuple_iterator_next hit.typeIs F.entry_tuple_iterator_next ?_ (F.args_tuple_iterator_next_1 _))))
 refine wpAny_bind (m:=field (.ref it) 0) (wpAny_field ho hd (x:=.ref t) rfl ?_)
 refine wpAny_bind (m:=field (.ref it) 1) (wpAny_field ho hd (x:=.int i 0) rfl ?_)
 refine wpAny_bind (m:=seqItems? (.ref t)) (wpAny_seqItems et rfl ?_)
 simp only [Int.toNat_natCast,hx]
 exact wpAny_bind (wpAny_setField ho hd (by simp) (wpAny_pure ⟨x,rfl,wpAny_pure hq⟩))
theorem mat_nextEnd {it t : Addr} {i : Nat} {vs : Array Value} {Q : Option Value → Shared → Prop} (hh : A.handled = none) (hit : s.heap.IsTupleIter it t i) (ht : IsMat s.heap t vs) (hx : vs[i]? = none)
  (k:∀ h',Heap.ExtBut it s.heap h'→Q none { s with heap:=h' }):wpAny (model prog w) A (pyNext (.ref it)) Q E s:=by
 obtain ⟨dd,n,et⟩:=ht
 obtain ⟨o,ho,hc,hd⟩:=id hit
 unfold pyNext
 refine wpAny_bind (wpAny_attempt (wpAny_callSpecial?_slot (name:=Str.ofString "__next__") hit.typeIs F.slot_tuple_iterator_next (wpAny_call_entry F.slot_tuple_iterator_next hit.typeIs F.entry_tuple_iterator_next ?_ (F.args_tuple_iterator_next_1 _))))
 refine wpAny_bind (m:=field (.ref it) 0) (wpAny_field ho hd (x:=.ref t) rfl ?_)
 refine wpAny_bind (m:=field (.ref it) 1) (wpAny_field ho hd (x:=.int i 0) rfl ?_)
 refine wpAny_bind (m:=seqItems? (.ref t)) (wpAny_seqItems et rfl ?_)
 simp only [Int.toNat_natCast,hx]
 refine wpAny_bind (wpAny_rule (wpAny_bind (wpAny_setField ho hd (by simp) ?_)))
 refine wpAny_bind (m:=newExc (.type "StopIteration") []) ?_
 simp only [newExc,newTuple]
 refine wpAny_bind (wpAny_newObj_type ?_ (by size_fits))
 refine wpAny_bind (m:=firstArgMember _ _) (wpAny_of_eq (a:=Value.none) (by first | rfl | (simp only [firstArgMember];rfl)) ?_)
 refine wpAny_newObj_type ?_ (by size_fits)
 refine wpAny_raiseNew_none hh ?_
 refine wpAny_bind (wpAny_isInstance (T := "StopIteration") (b:=true) ⟨_,Heap.get?_push_size _ rfl,rfl⟩ isSubtype_stop ?_)
 exact wpAny_pure (k _ fun b o hb e=>Heap.get?_push_of_some _ (Heap.get?_push_of_some _ ((Heap.SameBut.update ..).extBut b o hb e)))
theorem mat_draw {it t : Addr} {vs : Array Value} (hne : t ≠ it) (n : Nat) : ∀ (i : Nat) (s : Shared) (Q : List Value → Shared → Prop), s.heap.IsTupleIter it t i → IsMat s.heap t vs → i + n ≤ vs.size →
  (∀ h',h'.IsTupleIter it t (i+n)→Heap.SameBut it s.heap h'→Q ((vs.toList.drop i).take n) { s with heap:=h' })→wpAny (model prog w) A (draw (.ref it) n) Q E s:=by
 induction n with
 | zero=>exact fun i s Q hit Z Z k=>wpAny_pure (k s.heap hit (Heap.SameBut.refl ..))
 | succ n ih =>
   intro i s Q hit ht hle k
   have hs:i+(n+1)=i+1+n:=(Nat.add_right_comm i n 1).trans rfl
   have hlt:i < vs.size:=Nat.lt_of_lt_of_le (Nat.lt_add_of_pos_right (Nat.succ_pos n)) hle
   refine wpAny_bind (m:=pyNext (.ref it)) (mat_nextItem hit ht (x:=vs[i]) (Array.getElem?_eq_getElem hlt) fun h₁ hit₁ hs₁=>?_)
   refine wpAny_bind (wpAny_holding (ih (i+1) _ _ hit₁ (ht.keeps fun o e=>hs₁.extBut t o hne e) (hs▸hle) fun h₂ hit₂ hs₂=>wpAny_pure ?_))
   have e1:(vs.toList.drop i).take (n+1)=vs[i]::(vs.toList.drop (i+1)).take n:=by
    rw [List.drop_eq_getElem_cons (by exact hlt),List.take_succ_cons];rfl
   have:=k h₂ (hs▸hit₂) (hs₁.trans hs₂)
   rw [e1] at this
   exact this
theorem mat_iter {t : Addr} {vs : Array Value} {Q : Value → Shared → Prop} (Y : MatAt s.heap) (ht : IsMat s.heap t vs)
  (k:Q (.ref s.heap.objs.size) { s with heap:=s.heap.push { cls:=.type "tuple_iterator",data:=.fields #[.ref t,.int 0 0] } }):wpAny (model prog w) A (pyIter (.ref t)) Q E s:=by
 obtain ⟨dd,nn,et⟩:=id ht
 obtain ⟨h,g,d,tk,os⟩:=s
 dsimp only at *
 have Lt:Looks (model prog w) h (typeOf (.ref t)) (.ref 135):=(Looks.ld et).andThen .now
 have Li:Looks (model prog w) h (specialOf (.ref t) "__iter__") (some (.builtin "tuple.__iter__")):=Lt.andThen (mat_tl0 Y (name := "__iter__") (v:=some (.builtin "tuple.__iter__")) (by decide +kernel) (by rw [typeLookup_type,builtinLookup_eq_fast];kernel_rfl))
 have Ls:Looks (model prog w) h (isInstance (.ref t) (.type "tuple")) true:=Lt.andThen (by
  intro A Q E s k q
  unfold isSubtype
  exact wpAny_bind ((mat_mro Y) A _ E s k (by show wpAny _ _ (pure _) _ _ _;exact wpAny_pure q)))
 have Lb:bindSpecial (.builtin "tuple.__iter__") (.ref t)=pure (.builtin "tuple.__iter__",[.ref t]):=F.slot_tuple_iter.bind _
 unfold pyIter
 refine wpAny_bind (Li.at ?_)
 dsimp only
 unfold callSpecialIfBoundUnlessNone? 
 refine wpAny_bind (wpAny_holding (wpAny_bind ?_))
 have Lbd:∀ (Q':Option (Value×List Value)→Shared→Prop) (E':Value→Shared→Prop),Q' (some (.builtin "tuple.__iter__",[.ref t])) ⟨h,g,d,tk,os⟩→wpAny (model prog w) A (bindSpecialIfBound? (.ref t) "__iter__") Q' E' ⟨h,g,d,tk,os⟩:=by
  intro Q' E' q
  unfold bindSpecialIfBound?
  refine wpAny_bind (Li.at ?_)
  dsimp only
  rw [Lb]
  refine wpAny_bind (wpAny_askSetting ?_)
  split
  ·exact wpAny_pure q
  ·exact wpAny_pure q
 refine Lbd _ _ ?_
 dsimp only
 rw [if_neg (show ¬ ((Value.builtin "tuple.__iter__" == Value.none)=true) from Bool.false_ne_true)]
 refine wpAny_bind ?_
 refine wpAny_call ?_
 refine codeAny_call_builtin F.slot_tuple_iter.plain F.entry_tuple_iter (check_slot (owner := "tuple") (n := "__iter__") (by decide +kernel) (by decide +kernel) Ls (F.args_tuple_iter_1 _) ?_)
 show wpAny _ _ (do ret (← newFields "tuple_iterator" [.ref t,rawInt 0])) _ _ _
 refine wpAny_bind (wpAny_newObj_type (wpAny_pure (wpAny_pure ?_)))
 dsimp only
 refine wpAny_bind (wpAny_specialOf (T := "tuple_iterator") ⟨_,Heap.get?_push_size _ rfl,rfl⟩ F.slot_tuple_iterator_next.lookup ?_)
 exact wpAny_pure k
theorem mat_unpack {t : Addr} {vs : Array Value} {Q : List Value → Shared → Prop} (hh : A.handled = none) (Y : MatAt s.heap) (ht : IsMat s.heap t vs)
  (k:∀ h',Heap.ExtBut s.heap.objs.size s.heap h'→Q vs.toList { s with heap:=h' }):wpAny (model prog w) A (unpackItems (.ref t) vs.size none) Q E s:=by
 obtain ⟨dd,nn,et⟩:=id ht
 have hlt:t≠s.heap.objs.size:=Nat.ne_of_lt (Heap.lt_size et)
 have Lt:Looks (model prog w) s.heap (typeOf (.ref t)) (.ref 135):=(Looks.ld et).andThen .now
 have Li:Looks (model prog w) s.heap (specialOf (.ref t) "__iter__") (some (.builtin "tuple.__iter__")):=Lt.andThen (mat_tl0 Y (name := "__iter__") (v:=some (.builtin "tuple.__iter__")) (by decide +kernel) (by rw [typeLookup_type,builtinLookup_eq_fast];kernel_rfl))
 unfold unpackItems
 refine wpAny_bind ?_
 unfold notIterableAtAll
 refine wpAny_bind (Li.here ?_)
 refine wpAny_pure ?_
 simp only [Bool.false_eq_true,if_false]
 refine wpAny_bind (wpAny_holding (mat_iter Y ht ?_))
 refine wpAny_bind (wpAny_holding (mat_draw hlt vs.size 0 _ _ ⟨_,Heap.get?_push_size _ rfl,rfl,rfl⟩ (ht.keeps fun o e=>Heap.get?_push_of_some _ e) (by omega) fun h₁ hit₁ hs₁=>?_))
 have hall:(vs.toList.drop 0).take vs.size=vs.toList:=by rw [List.drop_zero];exact List.take_of_length_le (by simp)
 rw [hall,if_neg (by simp)]
 have ht₁:IsMat h₁ t vs:=ht.keeps fun o e=>hs₁.extBut t o hlt (Heap.get?_push_of_some _ e)
 refine wpAny_bind (wpAny_holding (mat_nextEnd hh hit₁ ht₁ (by simp) fun h₂ he₂=>?_))
 simp only [Option.isSome_none,Bool.false_eq_true,if_false]
 exact wpAny_pure (k h₂ fun b o hb e=>he₂ b o hb (hs₁.extBut b o hb (Heap.get?_push_of_some _ e)))
end
end Mine
end
section
namespace Mine
open PySem PySem.Spec PySem.Calls PyProof.Rows PySem.W PySem.SeqAt
section
variable {prog:Program} {w:World} {A:Around} {E:Value→Shared→Prop} {s:Shared}
theorem mat_slot {name : Str} {bi : String} {t : Addr} {vs : Array Value} {Q : Option (Value × List Value) → Shared → Prop} (Y : MatAt s.heap) (ht : IsMat s.heap t vs) (hm : (name, none) ∈ maRows) (f : Slot "tuple" name bi)
  (q:Q (some (.builtin bi,[.ref t])) s):wpAny (model prog w) A (bindSpecialIfBound? (.ref t) name) Q E s:=by
 obtain ⟨dd,nn,et⟩:=id ht
 have Lt:Looks (model prog w) s.heap (typeOf (.ref t)) (.ref 135):=(Looks.ld et).andThen .now
 have Li:Looks (model prog w) s.heap (specialOf (.ref t) name) (some (.builtin bi)):=Lt.andThen (mat_tl0 Y (name:=name) (v:=some (.builtin bi)) hm f.lookup)
 unfold bindSpecialIfBound?
 refine wpAny_bind (Li.here ?_)
 dsimp only
 rw [f.bind]
 refine wpAny_bind (wpAny_askSetting ?_)
 split
 ·exact wpAny_pure q
 ·exact wpAny_pure q
theorem mat_sub {t:Addr} {vs:Array Value} (Y:MatAt s.heap) (ht:IsMat s.heap t vs):Looks (model prog w) s.heap (isInstance (.ref t) (.type "tuple")) true:=by
 obtain ⟨dd,nn,et⟩:=ht
 exact ((Looks.ld et).andThen .now:Looks (model prog w) s.heap (typeOf (.ref t)) (.ref 135)).andThen (by
  intro A Q E s k q
  unfold isSubtype
  exact wpAny_bind ((mat_mro Y) A _ E s k (by show wpAny _ _ (pure _) _ _ _;exact wpAny_pure q)))
theorem mat_eq {a b : Addr} {i j k : Int} {t1 t2 t3 u1 u2 u3 : Tok} (Y : MatAt s.heap) (ha : IsMat s.heap a #[.int i t1, .int j t2, .int k t3]) (hb : IsTup s.heap b #[.int i u1, .int j u2, .int k u3]) (hu : A.units + 4 < cLine) :
  RcAt A s (.ref a) (.ref b) true:=fun prog w E Q h=>by
 obtain ⟨dd,nn,ea⟩:=id ha
 obtain ⟨ob,eb,cb,nb,db⟩:=id hb
 have tb:s.TypeIs (.ref b) "tuple" := ⟨_,eb,cb⟩
 have Lt:Looks (model prog w) s.heap (typeOf (.ref a)) (.ref 135):=(Looks.ld ea).andThen .now
 simp only [richCompare,cmpInfo,oneThing?]
 refine wpAny_holding (wpAny_bind (wpAny_cRoomFor_or (.inr (by omega)) ?_))
 refine wpAny_bind (Lt.here ?_)
 refine wpAny_bind (wpAny_typeOf tb ?_)
 have e1:(Value.ref 135 != Value.type "tuple")=true:=by decide
 simp only [e1,if_true]
 refine wpAny_bind (wpAny_of_eq (show isSubtype (.type "tuple") (.ref 135)=pure false from by rw [isSubtype_type];kernel_rfl) ?_)
 simp only [Bool.false_eq_true,if_false]
 refine wpAny_bind ?_
 unfold tryCompare callSpecialIfBound?
 refine wpAny_bind (wpAny_holding (wpAny_bind (mat_slot Y ha (by decide +kernel) F.slot_tuple_eq ?_)))
 dsimp only
 refine wpAny_bind (wpAny_call (codeAny_call_builtin F.slot_tuple_eq.plain F.entry_tuple_eq (check_slot (owner := "tuple") (n := "__eq__") (by decide +kernel) (by decide +kernel) (mat_sub Y ha) (F.args_tuple_eq_2 _ _) ?_)))
 show wpAny _ _ (isInstance (.ref b) (.type "tuple") >>= _) _ _ s
 refine wpAny_bind (wpAny_isInstance tb isSubtype_tuple_tuple ?_)
 simp only [Bool.not_true,Bool.false_eq_true,if_false]
 refine wpAny_bind (wpAny_tupleItemsOf ea rfl ?_)
 refine wpAny_bind (wpAny_tupleItemsOf eb db ?_)
 have z:(#[Value.int i t1,.int j t2,.int k t3].toList.zip #[Value.int i u1,.int j u2,.int k u3].toList)=[(.int i t1,.int i u1),(.int j t2,.int j u2),(.int k t3,.int k u3)]:=rfl
 rw [z]
 refine wpAny_bind ?_
 rw [List.forIn_cons]
 refine wpAny_bind (wpAny_bind (EqAt.int_int i t1 i u1 prog w _ _ ?_))
 simp only [beq_self_eq_true,Bool.not_true,Bool.false_eq_true,if_false]
 refine wpAny_pure ?_
 dsimp only
 rw [List.forIn_cons]
 refine wpAny_bind (wpAny_bind (EqAt.int_int j t2 j u2 prog w _ _ ?_))
 simp only [beq_self_eq_true,Bool.not_true,Bool.false_eq_true,if_false]
 refine wpAny_pure ?_
 dsimp only
 rw [List.forIn_cons]
 refine wpAny_bind (wpAny_bind (EqAt.int_int k t3 k u3 prog w _ _ ?_))
 simp only [beq_self_eq_true,Bool.not_true,Bool.false_eq_true,if_false]
 refine wpAny_pure ?_
 dsimp only
 rw [List.forIn_nil]
 refine wpAny_pure ?_
 dsimp only
 exact wpAny_pure (wpAny_pure (wpAny_pure (wpAny_pure h)))
end
theorem VRs.ints3 {T:TI} {h:Heap} {i j k:Int} {vs:List Value} (r:VRs T h [.int i,.int j,.int k] vs):∃ t1 t2 t3,vs=[.int i t1,.int j t2,.int k t3]:=by
 obtain ⟨v,u,w,rfl,a,b,c⟩:=vrs_three r
 obtain ⟨t1,rfl⟩:=a.iI;obtain ⟨t2,rfl⟩:=b.iI;obtain ⟨t3,rfl⟩:=c.iI
 exact ⟨t1,t2,t3,rfl⟩
theorem VRs.nth {T:TI} {h:Heap} {xs:List V} {vs:List Value} (j:Nat) {x:V} {v:Value} (r:VRs T h xs vs) (hx:xs[j]?=some x) (hv:vs[j]?=some v):VR T h x v:=by
 obtain ⟨u,hu,r⟩:=r.get hx
 exact Option.some.inj (hu.symm.trans hv)▸r
theorem neM_of {T:TI} (Y:WY T):NeM T:=by
 intro A HA x y rows H s R hx hy hl Q E q
 obtain ⟨vs,n,ga,rs⟩:=R.objs _ _ hx
 obtain ⟨us,m,gb,rt⟩:=R.objs _ _ hy
 have YM:=matAt_of Y R.base
 have z:=RcNeAt.lists (A:=A) (s:=s) (l:=x) (b:=y) (items:=vs.toArray) (items2:=us.toArray) (e:=fun Z=>true) ⟨_,ga,rfl,n,rfl⟩ ⟨_,gb,rfl,m,rfl⟩ ((rs.length.symm.trans ((List.length_map _).trans (List.length_map _).symm)).trans rt.length) (Nat.lt_of_le_of_lt (Nat.le_add_right _ _) HA.2.2) ?_
 ·exact z T.prog T.w E Q (by rw [show ((List.range vs.toArray.size).all fun Z=>true)=true from List.all_eq_true.mpr fun Z Z=>rfl];exact q)
 ·intro j h1 h2
  simp only [List.size_toArray] at h1 h2
  have l1:=rs.length
  have hj:j < rows.length:=Nat.lt_of_lt_of_eq h1 (l1.symm.trans (List.length_map _))
  have p1:=rs.nth j (x:=matRow rows[j]) (v:=vs[j]) (by simp [hj]) (by simp [h1])
  have p2:=rt.nth j (x:=tupRow rows[j]) (v:=us[j]) (by simp [hj]) (by simp [h2])
  simp only [List.getElem_toArray]
  revert p1 p2
  generalize vs[j]=v
  generalize us[j]=u
  generalize rows[j]=r
  intro p1 p2
  obtain ⟨i,j,k⟩:=r
  obtain ⟨_,_,_,_,rfl,e1,r1⟩:=p1.iM
  obtain ⟨_,_,rfl,e2,r2⟩:=p2.iT
  obtain ⟨t1,t2,t3,rfl⟩:=r1.ints3
  obtain ⟨u1,u2,u3,rfl⟩:=r2.ints3
  rw [Y.cM] at e1
  refine EqAt.of_refs ?_ (mat_eq YM ⟨_,_,e1⟩ e2 (Nat.lt_of_le_of_lt (Nat.add_le_add_left (by decide:5≤32) A.units) HA.2.2))
  rintro rfl
  obtain ⟨o,e,c,_⟩:=e2
  rw [e1] at e;cases e;cases c
theorem best_tuple:Builtin.Slots.bestBase [.type "tuple"]=pure (.type "tuple"):=by kernel_rfl
theorem madeBy_tuple:Bind.madeBy (.type "tuple")=pure (some "tuple.__new__"):=F.called_tuple.made
theorem mat_static {M:Model} {h:Heap} (Y:MatAt h):Looks M h (Bind.staticBase (.ref 135)) (.type "tuple"):=by
 intro A Q E s k q
 unfold Bind.staticBase
 refine wpAny_bind ((mat_mro Y) A _ E s k ?_)
 have e:matCD.mro=.ref 135::.type "tuple" :: [.type "object"]:=rfl
 rw [e,List.forIn_cons]
 refine wpAny_bind (wpAny_bind (wpAny_bind ((mat_made Y) A _ E s k ?_)))
 simp only [Option.isSome_none,Bool.false_eq_true,if_false]
 refine wpAny_bind ((mat_cd Y) A _ E s k ?_)
 refine wpAny_bind (wpAny_of_eq best_tuple ?_)
 refine wpAny_pure ?_
 dsimp only
 rw [List.forIn_cons]
 refine wpAny_bind (wpAny_bind (wpAny_of_eq madeBy_tuple ?_))
 refine wpAny_pure (wpAny_pure ?_)
 exact wpAny_pure q
theorem mat_madeHere {M:Model} {h:Heap} (Y:MatAt h):Looks M h (Bind.madeHere "tuple.__new__" (.ref 135)) ():=by
 refine (mat_static Y).andThen (Looks.andThen (Looks.of_pure madeBy_tuple) ?_)
 exact Looks.of_pure (by simp only [Option.map_some,bne_self_eq_false,Bool.false_eq_true,if_false])
theorem mat_subtype {M:Model} {h:Heap} (Y:MatAt h):Looks M h (isSubtype (.ref 135) (.type "tuple")) true:=by
 intro A Q E s k q
 unfold isSubtype
 exact wpAny_bind ((mat_mro Y) A _ E s k (by show wpAny _ _ (pure _) _ _ _;exact wpAny_pure q))
theorem mat_self {M:Model} {h:Heap} (Y:MatAt h):Looks M h (isSubtype (.ref 135) (.ref 135)) true:=by
 intro A Q E s k q
 unfold isSubtype
 exact wpAny_bind ((mat_mro Y) A _ E s k (by show wpAny _ _ (pure _) _ _ _;exact wpAny_pure q))
theorem mat_isType {M:Model} {h:Heap} (Y:MatAt h):Looks M h (isType (.ref 135)) true:=(Looks.ld Y.cls).andThen .now
theorem mat_init {M:Model} {h:Heap} (Y:MatAt h):Looks M h (typeLookup (.ref 135) "__init__") (some (.builtin "object.__init__")):=mat_tl0 Y (by decide +kernel) init_tuple_lookup
noncomputable def tnSig:Manifest.Signature:=⟨.constructor, "tuple", "tuple",.cls,[⟨"iterable",.posOnly,false⟩]⟩
theorem tn_sig:Manifest.signature? "tuple.__new__" = some tnSig:=by kernel_rfl
theorem tn_kind:builtinKind "tuple.__new__" = some .builtinFn:=by decide +kernel
theorem tn_split:splitId "tuple.__new__" = some ("tuple", "__new__"):=by decide +kernel
theorem tn_args (a b:Value):Bind.checkArgs "tuple.__new__" tnSig ⟨[a,b],[]⟩=pure ():=by kernel_rfl
section
variable {prog:Program} {w:World} {A:Around} {E:Value→Shared→Prop} {s:Shared}
noncomputable def matObj (d:Addr) (vs:List Value):Obj:={ cls:=.ref 135,dict:=some d,data:=.seq vs.toArray }
theorem tnew {t : Addr} {o : Obj} {n : Nat} {vs : List Value} {Q : Value → Shared → Prop} (Y : MatAt s.heap) (ho : s.heap.get? t = some o) (hc : o.cls = .type "tuple") (hd : o.data = .seq vs.toArray n) (hl : vs.length ≤ 100)
  (q:∀ h' d x,(∀ b o',s.heap.get? b=some o'→h'.get? b=some o')→s.heap.get? x=none→h'.get? x=some (matObj d vs)→Q (.ref x) { s with heap:=h' }):wpAny (model prog w) A (call (.builtin "tuple.__new__") [.ref 135,.ref t]) Q E s:=by
 refine wpAny_call ?_
 refine codeAny_call_builtin_code (Code.quiet_builtin _ (by decide +kernel)) ?_
 simp only [checkBuiltinCall,tn_kind,tn_split,tn_sig]
 rw [tn_args]
 have l1:=mat_isType (M:=model prog w) Y
 have l2:=mat_subtype (M:=model prog w) Y
 have l3:=mat_static (M:=model prog w) Y
 have l4:Looks (model prog w) s.heap (Bind.madeBy (.type "tuple")) _:=Looks.of_pure madeBy_tuple
 have l5:=mat_madeHere (M:=model prog w) Y
 have l6:=mat_init (M:=model prog w) Y
 obtain ⟨h,g,d,tk,os⟩:=s
 dsimp only at *
 repeat (first | simp only [bne_self_eq_false,Bool.false_eq_true,if_false] | lk)
 refine codeAny_builtin F.entry_tuple_new ?_
 unfold Builtin.«tuple.__new__»
 repeat (first | with_reducible refine wpAny_collect_seq t (T := "tuple") (.inr rfl) ho hc hd ?_ (by simp;unfold sizeLine;omega) | simp only [bne_self_eq_false,Bool.false_eq_true,if_false] | lk)
 intro h' k
 have Y':=Y.keeps k
 repeat (first | simp only [bne_self_eq_false,Bool.false_eq_true,if_false] | lk)
 rw [if_neg (by simp;unfold sizeLine;omega)]
 unfold newObjAsIs classHasDel
 refine wpAny_bind (wpAny_alloc (wpAny_bind (wpAny_bind (wpAny_load (o:=matO) (Heap.get?_push_of_some _ (Heap.get?_push_of_some _ Y'.cls)) (wpAny_pure ?_)))))
 show wpAny _ _ (if false=true then _ else _) _ _ _
 rw [if_neg Bool.false_ne_true]
 refine wpAny_pure (wpAny_pure ?_)
 refine q _ h'.objs.size _ (fun b o' e=>Heap.get?_push_of_some _ (Heap.get?_push_of_some _ (k _ _ e))) ?_ (Heap.get?_push_size _ rfl)
 cases e:h.get? (h'.push { cls:=Value.type "dict",data:=Data.dict #[] }).objs.size with
 | none=>rfl
 | some o' =>
   have:=Heap.lt_size (Heap.get?_push_of_some { cls:=Value.type "dict",data:=Data.dict #[] } (k _ _ e))
   exact absurd this (Nat.lt_irrefl _)
end
theorem tt_found:findCls [] (.type "tuple") (.type "type") "__new__" = some (.val (.builtin "tuple.__new__")):=by kernel_rfl
theorem tt_opq {M:Model} {h:Heap}:Looks M h (opaqueClassAbove (.type "tuple")) none:=Looks.of_pure (by kernel_rfl)
section
variable {prog:Program} {w:World} {A:Around} {E:Value→Shared→Prop} {s:Shared}
theorem tt_attr (Y:MatAt s.heap) {ex:Bool} {Q:Value→Shared→Prop} (q:Q (.builtin "tuple.__new__") { s with toks:=s.toks+1 }):wpAny (model prog w) A (getAttr (.type "tuple") "__new__" ex) Q E s:=by
 have X:Frag.In [] s.heap:=fun a o e=>nomatch e
 refine cls_open (K:=[]) (hook:=none) (mc:=.type "type") X tt_opq (Looks.of_pure (by kernel_rfl)) (by kernel_rfl) (looks_hook X (by kernel_rfl)) (by kernel_rfl) tt_found ?_
 exact wpAny_pure (by show wpAny _ _ (handedOut _) _ _ _;rw [handedOut_of (by decide +kernel)];exact wpAny_pure q)
theorem tt_meth (Y:MatAt s.heap) {pl:Sem Bool} {Q:Value×List Value→Shared→Prop} (q:Q (.builtin "tuple.__new__",[]) { s with toks:=s.toks+1 }):wpAny (model prog w) A (getMethod (.type "tuple") "__new__" pl) Q E s:=by
 unfold getMethod
 refine wpAny_bind (wpAny_of_eq (show specialOf (.type "tuple") "__getattribute__" = pure (some (.builtin "type.__getattribute__")) from ?_) ?_)
 ·show typeOf (.type "tuple") >>= _=_
  rw [show typeOf (.type "tuple")=pure (.type "type") from by kernel_rfl]
  show typeLookup (.type "type") "__getattribute__" = _
  rw [typeLookup_type,builtinLookup_eq_fast];kernel_rfl
 dsimp only
 rw [if_pos (by decide +kernel)]
 exact wpAny_bind (tt_attr Y (wpAny_pure q))
end
section
variable {T:TI} {S:Sy} {n:Nat} (Y:WY T) (P:Prims T S) (HC:SoundS T S n) {A:Around} (HA:Rm (n+1) A) {env:Env} (hsc:EnvOk env) {E:Value→Shared→Prop}
include Y P HC HA hsc
theorem ev_tnew {pn pa p : Pos} {args : List Expr} {loc : Loc} {H : Hp} {K : KV} (hap : pa.endLine = p.line) (hs : args.all notStar = true) (hl : args.length ≤ 20) (hn : nameV S env.scope loc "tuple" = some (.lit (.type "tuple")))
  (h:wEs S env.scope args loc H fun vs H₁=>∃ xs,vs=[.lit (.ref 135),.tup xs]∧xs.length≤100∧K (.mat xs) H₁) {s:Shared} (R:Rel T H s) (F:Frm T env loc H s.heap) {Q:Value→Shared→Prop} (g:Goes T H s K Q) :
  wpAny T.M A (eval (.Call (.Attribute (.Name "tuple" pn) "__new__" pa) args [] p) env) Q E s:=by
 rw [arm_eval_Call,attributeBase_ok (o:=.Name "tuple" pn) rfl]
 refine wpAny_bind (nameL P HC HA hsc hn R F (wpAny_bind (wpAny_standAt ?_)))
 have tk:=trees_ok (env:=env) (pos:=p) hs
 have hform:methodCallForm (args.length+([]:List Keyword).length) (backTo p (starEach args env)) (backToKw p (keywordEach [] env))=true:=by
  unfold methodCallForm
  have h1:(backTo p (starEach args env)).all (fun x=>!x.1)=true:=by
   rw [List.all_eq_not_any_not]
   simpa using tk.1
  have h2:(backToKw p (keywordEach [] env))=[]:=rfl
  rw [h1,h2]
  simp
  omega
 have hpos:methodCallPos true (.Name "tuple" pn) env pa p=pure p:=by unfold methodCallPos;simp [hap]
 unfold methodCall
 rw [hform]
 refine wpAny_bind (wpAny_holding (tt_meth (matAt_of Y R.base) ?_))
 refine wpAny_bind (wpAny_of_eq hpos ?_)
 have R':Rel T H { s with toks:=s.toks+1 }:=R.keeps fun Z Z e=>e
 refine callWith_V P HC HA hsc (f:=.lit (.builtin "tuple.__new__")) tk.1 (by rw [tk.2];exact hl) (evalArgs_V hs (soundEs P HC HA hsc args h R' F fun xs H₂ vs s₂ k₂ R₂ rs e₂=>?_))
 refine ⟨rfl,keep_builtin _,?_⟩
 obtain ⟨xs,rfl,hx,k⟩:=k₂
 obtain ⟨_,_,rfl,r1,rs⟩:=rs.cut
 obtain ⟨_,_,rfl,r2,rs⟩:=rs.cut
 obtain rfl:=rs.nil_eq;obtain rfl:=r1.iL
 obtain ⟨_,_,rfl,ht,hv⟩:=r2.iT
 obtain ⟨o,ho,hc,nn,hd⟩:=ht
 refine tnew (matAt_of Y R₂.base) ho hc hd (by rw [← hv.length];exact hx) fun h' d x hk hf hg=>?_
 have ev:Ev H₂ s₂.heap H₂ h':=.keeps hk
 refine g _ _ _ _ k (R₂.keeps hk) (.mat (d:=some d) (n:=0) ?_ (hv.mono fun a o e Z=>hk _ _ e)) (e₂.trans ev)
 rw [Y.cM]
 exact hg
end
theorem lk_new:(fnScope "__new__" maB).names.lookup ("_cls" : Str)=some .local∧(fnScope "__new__" maB).names.lookup ("a" : Str)=some .local∧(fnScope "__new__" maB).names.lookup ("b" : Str)=some .local∧(fnScope "__new__" maB).names.lookup ("size" : Str)=some .local∧(fnScope "__new__" maB).names.lookup ("tuple" : Str)=some .globalImplicit:=by decide +kernel
theorem lk_make:(fnScope "_make" maB).names.lookup ("cls" : Str)=some .local∧(fnScope "_make" maB).names.lookup ("iterable" : Str)=some .local∧(fnScope "_make" maB).names.lookup ("result" : Str)=some .local∧(fnScope "_make" maB).names.lookup ("tuple" : Str)=some .globalImplicit∧(fnScope "_make" maB).names.lookup ("len" : Str)=some .globalImplicit:=by decide +kernel
noncomputable def nwS (k:Nat):Stmt:=stAt (fnBody "__new__" maB) k
noncomputable def mkS (k:Nat):Stmt:=stAt (fnBody "_make" maB) k
theorem nwBody:fnBody "__new__" maB=[nwS 0,nwS 1]:=by with_unfolding_all rfl
theorem mkBody:fnBody "_make" maB=mkS 0::mkS 1::(fnBody "_make" maB).drop 2:=by with_unfolding_all rfl
theorem nw0 {S:Sy} {sc:Scope} {loc:Loc} {H:Hp} {K:KS} (h:K .next loc H):wS S sc (nwS 0) loc H K:=by with_unfolding_all exact h
theorem mk0 {S:Sy} {sc:Scope} {loc:Loc} {H:Hp} {K:KS} (h:K .next loc H):wS S sc (mkS 0) loc H K:=by with_unfolding_all exact h
section
variable {T:TI} {S:Sy} {n:Nat} (Y:WY T) (P:Prims T S) (P2:Prims2 T S) (HC:SoundS T S n) (gT:S.G "tuple" = some (.lit (.type "tuple")))
include Y P P2 HC gT
theorem new_body {A : Around} (HA : Rm (n + 1) A) {env : Env} (he : EnvOk env) (hnc : ∀ x, env.scope.names.lookup x ≠ some .cell) (hsc : env.scope = fnScope "__new__" maB) {i j k : Int} {H : Hp} {K : KV} (hk : K (matRow (i, j, k)) H) {s : Shared} (R : Rel T H s)
  (F:Frm T env (locOf ["_cls", "a", "b", "size"] [.lit (.ref 135),.int i,.int j,.int k]) H s.heap) {Q:Flow→Shared→Prop} {E:Value→Shared→Prop} (g:GoesS T env H s (retK K) Q):wpAny T.M A (execs (fnBody "__new__" maB) env) Q E s:=by
 have l1:=lk_new.1;have l2:=lk_new.2.1;have l3:=lk_new.2.2.1;have l4:=lk_new.2.2.2.1;have l5:=lk_new.2.2.2.2
 rw [nwBody]
 refine wpAny_execs_cons (soundS P P2 HC HA he hnc (K:=fun fl loc₁ H₁=>fl=.next∧loc₁=locOf ["_cls", "a", "b", "size"] [.lit (.ref 135),.int i,.int j,.int k]∧H₁=H) _ ?_ R F fun fl loc₁ H₁ f s₁ k₁ R₁ F₁ fr₁ e₁=>?_)
 ·exact nw0 ⟨rfl,rfl,rfl⟩
 obtain ⟨rfl,rfl,rfl⟩:=k₁
 obtain rfl:=fr₁.iN
 with_unfolding_all refine wpAny_execs_cons (wpAny_Return_some (ev_tnew Y P HC HA he (K:=fun v H₂=>v=matRow (i,j,k)∧H₂=H₁) rfl rfl (by simp) ?_ ?_ R₁ F₁ fun x H₂ v s₂ k₂ R₂ rv e₂=>?_))
 ·rw [hsc];unfold nameV;rw [l5];exact gT
 ·rw [hsc]
  refine x_NL (v:=.lit (.ref 135)) l1 (by rfl) ?_
  refine x_Tup ?_
  refine x_NL (v:=.int i) l2 (by rfl) (x_NL (v:=.int j) l3 (by rfl) (x_NL (v:=.int k) l4 (by rfl) ?_))
  exact ⟨by simp,_,rfl,by simp,rfl,rfl⟩
 ·obtain ⟨rfl,rfl⟩:=k₂
  exact g _ _ _ _ _ ⟨_,fun Z Z e=>e,hk⟩ R₂ (F₁.ev R₁ e₂) (.ret rv) (e₁.trans e₂.toL)
theorem make_body (gL : S.G "len" = some (.lit (.builtin "len"))) (hlen : ∀ xs H K, xs.length ≤ 100 → K (.int xs.length) H → S.C (.lit (.builtin "len")) [.mat xs] H K) {A : Around} (HA : Rm (n + 1) A) {env : Env} (he : EnvOk env) (hnc : ∀ x, env.scope.names.lookup x ≠ some .cell) (hsc : env.scope = fnScope "_make" maB) {r : Int × Int × Int} {H : Hp} {K : KV} (hk : K (matRow r) H) {s : Shared} (R : Rel T H s)
  (F:Frm T env (locOf ["cls", "iterable"] [.lit (.ref 135),tupRow r]) H s.heap) {Q:Flow→Shared→Prop} {E:Value→Shared→Prop} (g:GoesS T env H s (retK K) Q):wpAny T.M A (execs (fnBody "_make" maB) env) Q E s:=by
 have l1:=lk_make.1;have l2:=lk_make.2.1;have l3:=lk_make.2.2.1;have l4:=lk_make.2.2.2.1;have l5:=lk_make.2.2.2.2
 rw [mkBody]
 refine wpAny_execs_cons (soundS P P2 HC HA he hnc (K:=fun fl loc₁ H₁=>fl=.next∧loc₁=locOf ["cls", "iterable"] [.lit (.ref 135),tupRow r]∧H₁=H) _ ?_ R F fun fl loc₁ H₁ f s₁ k₁ R₁ F₁ fr₁ e₁=>?_)
 ·exact mk0 ⟨rfl,rfl,rfl⟩
 obtain ⟨rfl,rfl,rfl⟩:=k₁
 obtain rfl:=fr₁.iN
 refine wpAny_execs_cons ?_
 with_unfolding_all refine exec_Assign_of P P2 HC rfl ?_
 refine (ev_tnew Y P HC HA he (K:=fun v H₂=>v=matRow r∧H₂=H₁) rfl rfl (by simp) ?_ ?_ R₁ F₁ fun x H₂ v s₂ k₂ R₂ rv e₂=>?_)
 ·rw [hsc];unfold nameV;rw [l4];exact gT
 ·rw [hsc]
  refine x_NL (v:=.lit (.ref 135)) l1 (by rfl) (x_NL (v:=tupRow r) l2 (by rfl) ?_)
  exact ⟨_,rfl,by simp,rfl,rfl⟩
 obtain ⟨rfl,rfl⟩:=k₂
 refine soundAssign P P2 HC HA he (K:=fun loc H'=>loc=Loc.put (locOf ["cls", "iterable"] [.lit (.ref 135),tupRow r]) "result" (matRow r)∧H'=H₂) rfl ?_ R₂ (F₁.ev R₁ e₂) rv fun loc' H' s' k' R' F' e'=>?_
 ·exact ⟨by rw [hsc];exact l3,rfl,rfl⟩
 obtain ⟨rfl,rfl⟩:=k'
 refine soundSs P P2 HC HA he hnc _ (K:=retK K) ?_ R' F' fun fl loc'' H'' f s'' k'' R'' F'' fr'' e''=>g _ _ _ _ _ k'' R'' F'' fr'' (e₁.trans (e₂.toL.trans (e'.trans e'')))
 rw [hsc]
 generalize fnScope "_make" maB=sc at *
 generalize hL:Loc.put (locOf ["cls", "iterable"] [.lit (.ref 135),tupRow r]) "result" (matRow r)=loc
 have hx:loc.get "result" = some (matRow r):=by rw [← hL];exact Loc.get_self
 with_unfolding_all refine x_If ?_
 repeat walk_at "st2"
 refine hlen _ _ _ (by simp) ?_
 repeat walk_at "st2"
 refine ⟨fun e=>absurd e (by simp),fun Z=>?_⟩
 repeat walk_at "st2"
 exact ⟨_,fun Z Z e=>e,hk⟩
end
noncomputable def fchk (fd:FuncData) (names:List Str):Bool:=fd.scope.names.all (fun x=>x.2 != .cell)&&names.all (fun x=>fd.scope.names.lookup x==some .local)&&decide names.Nodup&&(fd.scope.kind==.function) &&
 (fd.scope.names.lookup ("__debug__" : Str)).isNone&&!fd.scope.isCoroutine&&!fd.scope.isGenerator
theorem fok {T : TI} (Y : WY T) {fa : Addr} {fd : FuncData} {body : List Stmt} {names : List Str} {dfl : List V} (hm : (fa, fd) ∈ fnRows) (hb : fd.body = .stmts body) (he : ∀ L, callEnv fd L fa = envOf fd.qualname fd.scope L fa fd.code) (hc : fchk fd names = true)
  (hbd:∀ s,Above T s.heap→∀ vs:List Value,vs.length+dfl.length=names.length→∃ us,VRs T s.heap dfl us∧BindsTo s fd ⟨vs,[]⟩ (names.zip (vs++us))):FOk T fa ⟨fd,body,names,dfl⟩:=by
 simp only [fchk,Bool.and_eq_true,List.all_eq_true,bne_iff_ne,ne_eq,beq_iff_eq,decide_eq_true_eq,Option.isNone_iff_eq_none,Bool.not_eq_true'] at hc
 obtain ⟨⟨⟨⟨⟨⟨c1,c2⟩,c3⟩,c4⟩,c5⟩,c6⟩,c7⟩:=hc
 exact ⟨⟨_,Y.fns _ hm,rfl⟩,fun h ha=>Y.code _ hm h ha,hb,he,hbd,fun x hx=>c1 x hx,fun x hx=>c2 x hx,c3,⟨c4,c5⟩,c6,c7⟩
section
variable {T:TI} {fd:FuncData} {names:List Str} {s:Shared}
theorem bd1 (hn:names.length=1) (h:∀ a,bindArgs fd ⟨[a],[]⟩=pure (names.zip [a])) (s:Shared) (_:Above T s.heap) (vs:List Value) (e:vs.length+([]:List V).length=names.length):∃ us,VRs T s.heap [] us∧BindsTo s fd ⟨vs,[]⟩ (names.zip (vs++us)):=by
 replace e:vs.length=1:=e.trans hn
 revert vs
 exact l1 fun a=>⟨[],.nil,.of_eq (h a)⟩
theorem bd2 (hn:names.length=2) (h:∀ a b,bindArgs fd ⟨[a,b],[]⟩=pure (names.zip [a,b])) (s:Shared) (_:Above T s.heap) (vs:List Value) (e:vs.length+([]:List V).length=names.length):∃ us,VRs T s.heap [] us∧BindsTo s fd ⟨vs,[]⟩ (names.zip (vs++us)):=by
 replace e:vs.length=2:=e.trans hn
 revert vs
 exact l2 fun a b=>⟨[],.nil,.of_eq (h a b)⟩
theorem bd3 (hn:names.length=3) (h:∀ a b c,bindArgs fd ⟨[a,b,c],[]⟩=pure (names.zip [a,b,c])) (s:Shared) (_:Above T s.heap) (vs:List Value) (e:vs.length+([]:List V).length=names.length):∃ us,VRs T s.heap [] us∧BindsTo s fd ⟨vs,[]⟩ (names.zip (vs++us)):=by
 replace e:vs.length=3:=e.trans hn
 revert vs
 exact l3 fun a b c=>⟨[],.nil,.of_eq (h a b c)⟩
theorem bd4 (hn:names.length=4) (h:∀ a b c d,bindArgs fd ⟨[a,b,c,d],[]⟩=pure (names.zip [a,b,c,d])) (s:Shared) (_:Above T s.heap) (vs:List Value) (e:vs.length+([]:List V).length=names.length):∃ us,VRs T s.heap [] us∧BindsTo s fd ⟨vs,[]⟩ (names.zip (vs++us)):=by
 replace e:vs.length=4:=e.trans hn
 revert vs
 exact l4 fun a b c d=>⟨[],.nil,.of_eq (h a b c d)⟩
end
section
variable {T:TI} (Y:WY T)
include Y
theorem fo_new:FOk T 82 ⟨fd_mnew,fnBody "__new__" maB,["_cls", "a", "b", "size"],[]⟩ :=
 fok Y (mem_fn (k:=22) rfl) rfl (fun Z=>rfl) (by decide +kernel) (bd4 rfl fun Z Z Z Z=>by with_unfolding_all rfl)
theorem fo_make:FOk T 89 ⟨fd_make,fnBody "_make" maB,["cls", "iterable"],[]⟩ :=
 fok Y (mem_fn (k:=23) rfl) rfl (fun Z=>rfl) (by decide +kernel) (bd2 rfl fun Z Z=>by with_unfolding_all rfl)
end
noncomputable def fi_fmt:FI:=⟨fd_fmt,fnBody "_format_range_unified" topB,["start", "stop"],[]⟩
theorem fo_fmt {T:TI} (Y:WY T):FOk T 253 fi_fmt :=
 fok Y (mem_fn (k:=0) rfl) rfl (fun Z=>rfl) (by decide +kernel) (bd2 rfl fun Z Z=>by with_unfolding_all rfl)
noncomputable def fi_push:FI:=⟨fd_push,fnBody "heappush" topB,["heap", "item"],[]⟩
theorem fo_push {T:TI} (Y:WY T):FOk T 267 fi_push :=
 fok Y (mem_fn (k:=2) rfl) rfl (fun Z=>rfl) (by decide +kernel) (bd2 rfl fun Z Z=>by with_unfolding_all rfl)
noncomputable def fi_pop:FI:=⟨fd_pop,fnBody "heappop" topB,["heap"],[]⟩
theorem fo_pop {T:TI} (Y:WY T):FOk T 274 fi_pop :=
 fok Y (mem_fn (k:=3) rfl) rfl (fun Z=>rfl) (by decide +kernel) (bd1 rfl fun Z=>by with_unfolding_all rfl)
noncomputable def fi_sdown:FI:=⟨fd_sdown,fnBody "_siftdown" topB,["heap", "startpos", "pos"],[]⟩
theorem fo_sdown {T:TI} (Y:WY T):FOk T 281 fi_sdown :=
 fok Y (mem_fn (k:=4) rfl) rfl (fun Z=>rfl) (by decide +kernel) (bd3 rfl fun Z Z Z=>by with_unfolding_all rfl)
noncomputable def fi_sup:FI:=⟨fd_sup,fnBody "_siftup" topB,["heap", "pos"],[]⟩
theorem fo_sup {T:TI} (Y:WY T):FOk T 288 fi_sup :=
 fok Y (mem_fn (k:=5) rfl) rfl (fun Z=>rfl) (by decide +kernel) (bd2 rfl fun Z Z=>by with_unfolding_all rfl)
noncomputable def fi_ifmt:FI:=⟨fd_ifmt,fnBody "S_IFMT" topB,["mode"],[]⟩
theorem fo_ifmt {T:TI} (Y:WY T):FOk T 295 fi_ifmt :=
 fok Y (mem_fn (k:=6) rfl) rfl (fun Z=>rfl) (by decide +kernel) (bd1 rfl fun Z=>by with_unfolding_all rfl)
noncomputable def fi_fmode:FI:=⟨fd_fmode,fnBody "filemode" topB,["mode"],[]⟩
theorem fo_fmode {T:TI} (Y:WY T):FOk T 335 fi_fmode :=
 fok Y (mem_fn (k:=7) rfl) rfl (fun Z=>rfl) (by decide +kernel) (bd1 rfl fun Z=>by with_unfolding_all rfl)
noncomputable def fi_done:FI:=⟨fd_done,fnBody "_law_done" topB,["words", "numbers"],[]⟩
theorem fo_done {T:TI} (Y:WY T):FOk T 342 fi_done :=
 fok Y (mem_fn (k:=8) rfl) rfl (fun Z=>rfl) (by decide +kernel) (bd2 rfl fun Z Z=>by with_unfolding_all rfl)
noncomputable def fi_signs:FI:=⟨fd_signs,fnBody "_law_signs" topB,["word"],[]⟩
theorem fo_signs {T:TI} (Y:WY T):FOk T 349 fi_signs :=
 fok Y (mem_fn (k:=9) rfl) rfl (fun Z=>rfl) (by decide +kernel) (bd1 rfl fun Z=>by with_unfolding_all rfl)
noncomputable def fi_delta:FI:=⟨fd_delta,fnBody "_law_delta" topB,["old", "new"],[]⟩
theorem fo_delta {T:TI} (Y:WY T):FOk T 356 fi_delta :=
 fok Y (mem_fn (k:=10) rfl) rfl (fun Z=>rfl) (by decide +kernel) (bd2 rfl fun Z Z=>by with_unfolding_all rfl)
noncomputable def fi_runs:FI:=⟨fd_runs,fnBody "_law_runs" topB,["old", "new"],[]⟩
theorem fo_runs {T:TI} (Y:WY T):FOk T 363 fi_runs :=
 fok Y (mem_fn (k:=11) rfl) rfl (fun Z=>rfl) (by decide +kernel) (bd2 rfl fun Z Z=>by with_unfolding_all rfl)
noncomputable def fi_range:FI:=⟨fd_range,fnBody "_law_range" topB,["rows", "start", "stop"],[]⟩
theorem fo_range {T:TI} (Y:WY T):FOk T 377 fi_range :=
 fok Y (mem_fn (k:=13) rfl) rfl (fun Z=>rfl) (by decide +kernel) (bd3 rfl fun Z Z Z=>by with_unfolding_all rfl)
noncomputable def fi_seqs:FI:=⟨fd_seqs,fnBody "set_seqs" smB,["self", "a", "b"],[]⟩
theorem fo_seqs {T:TI} (Y:WY T):FOk T 167 fi_seqs :=
 fok Y (mem_fn (k:=16) rfl) rfl (fun Z=>rfl) (by decide +kernel) (bd3 rfl fun Z Z Z=>by with_unfolding_all rfl)
noncomputable def fi_seq1:FI:=⟨fd_seq1,fnBody "set_seq1" smB,["self", "a"],[]⟩
theorem fo_seq1 {T:TI} (Y:WY T):FOk T 174 fi_seq1 :=
 fok Y (mem_fn (k:=17) rfl) rfl (fun Z=>rfl) (by decide +kernel) (bd2 rfl fun Z Z=>by with_unfolding_all rfl)
noncomputable def fi_seq2:FI:=⟨fd_seq2,fnBody "set_seq2" smB,["self", "b"],[]⟩
theorem fo_seq2 {T:TI} (Y:WY T):FOk T 181 fi_seq2 :=
 fok Y (mem_fn (k:=18) rfl) rfl (fun Z=>rfl) (by decide +kernel) (bd2 rfl fun Z Z=>by with_unfolding_all rfl)
noncomputable def fi_chain:FI:=⟨fd_chain,fnBody "__chain_b" smB,["self"],[]⟩
theorem fo_chain {T:TI} (Y:WY T):FOk T 188 fi_chain :=
 fok Y (mem_fn (k:=19) rfl) rfl (fun Z=>rfl) (by decide +kernel) (bd1 rfl fun Z=>by with_unfolding_all rfl)
noncomputable def fi_flm:FI:=⟨fd_flm,fnBody "find_longest_match" smB,["self", "alo", "ahi", "blo", "bhi"],[]⟩
theorem fo_flm {T:TI} (Y:WY T):FOk T 196 fi_flm:=fok Y (mem_fn (k:=20) rfl) rfl (fun Z=>rfl) (by decide +kernel) fun s ha vs e=>by
 replace e:vs.length=5:=e
 revert vs
 refine l5 fun a b c d x=>?_
 refine ⟨[],.nil,BindsTo.of_defaults (T:=189) (k:=?k) rfl (ha _ _ (Y.obs (189,_) (mem_ob (k:=1) rfl))) rfl (?h1) ?h2⟩
 case h1=>with_unfolding_all rfl
 case h2=>with_unfolding_all rfl
noncomputable def fi_gmb:FI:=⟨fd_gmb,fnBody "get_matching_blocks" smB,["self"],[]⟩
theorem fo_gmb {T:TI} (Y:WY T):FOk T 203 fi_gmb :=
 fok Y (mem_fn (k:=21) rfl) rfl (fun Z=>rfl) (by decide +kernel) (bd1 rfl fun Z=>by with_unfolding_all rfl)
noncomputable def fi_init:FI:=⟨fd_init,fnBody "__init__" smB,["self", "isjunk", "a", "b", "autojunk"],[.bool true]⟩
theorem fo_init {T:TI} (Y:WY T):FOk T 160 fi_init:=fok Y (mem_fn (k:=15) rfl) rfl (fun Z=>rfl) (by decide +kernel) fun s ha vs e=>by
 replace e:vs.length=4:=Nat.succ.inj e
 revert vs
 refine l4 fun a b c d=>?_
 refine ⟨[.bool true],.cons (.bool true) .nil,BindsTo.of_defaults (T:=153) (k:=?k) rfl (ha _ _ (Y.obs (153,_) (mem_ob (k:=0) rfl))) rfl (?h1) ?h2⟩
 case h1=>with_unfolding_all rfl
 case h2=>with_unfolding_all rfl
noncomputable def ftab:List (Addr×FI):=[(253,fi_fmt),(267,fi_push),(274,fi_pop),(281,fi_sdown),(288,fi_sup),(295,fi_ifmt),(335,fi_fmode),(342,fi_done),(349,fi_signs),(356,fi_delta),(363,fi_runs),(377,fi_range),(167,fi_seqs),(174,fi_seq1),(181,fi_seq2),(188,fi_chain),(196,fi_flm),(203,fi_gmb),(160,fi_init)]
theorem ftab_all {T:TI} (Y:WY T):∀ x∈ftab,FOk T x.1 x.2:=by
 unfold ftab
 refine List.forall_mem_cons.mpr ⟨fo_fmt Y,List.forall_mem_cons.mpr ⟨fo_push Y,List.forall_mem_cons.mpr ⟨fo_pop Y,List.forall_mem_cons.mpr ⟨fo_sdown Y,List.forall_mem_cons.mpr ⟨fo_sup Y,List.forall_mem_cons.mpr ⟨fo_ifmt Y,List.forall_mem_cons.mpr ⟨fo_fmode Y,List.forall_mem_cons.mpr ⟨fo_done Y,List.forall_mem_cons.mpr ⟨fo_signs Y,List.forall_mem_cons.mpr ⟨fo_delta Y,List.forall_mem_cons.mpr ⟨fo_runs Y,List.forall_mem_cons.mpr ⟨fo_range Y,List.forall_mem_cons.mpr ⟨fo_seqs Y,List.forall_mem_cons.mpr ⟨fo_seq1 Y,List.forall_mem_cons.mpr ⟨fo_seq2 Y,List.forall_mem_cons.mpr ⟨fo_chain Y,List.forall_mem_cons.mpr ⟨fo_flm Y,List.forall_mem_cons.mpr ⟨fo_gmb Y,List.forall_mem_cons.mpr ⟨fo_init Y,fun Z h=>nomatch h⟩⟩⟩⟩⟩⟩⟩⟩⟩⟩⟩⟩⟩⟩⟩⟩⟩⟩⟩
theorem ftab_ok {T:TI} (Y:WY T):∀ fa fi,ftab.lookup fa=some fi→FOk T fa fi:=by
 intro fa fi h
 have hm:(fa,fi)∈ftab:=by
  generalize ftab=l at h
  induction l with
  | nil=>cases h
  | cons x r ih =>
    obtain ⟨y,j⟩:=x
    rw [List.lookup_cons] at h
    cases q:fa==y with
    | true=>rw [q] at h;cases h;rw [eq_of_beq q];exact .head _
    | false=>rw [q] at h;exact .tail _ (ih h)
 exact ftab_all Y _ hm
section
variable {prog:Program} {w:World} {A:Around} {E:Value→Shared→Prop} {s:Shared}
theorem mat_spec {name:Str} {bi:String} {t:Addr} {vs:Array Value} (Y:MatAt s.heap) (ht:IsMat s.heap t vs) (hm:(name,none)∈maRows) (f:Slot "tuple" name bi):Looks (model prog w) s.heap (specialOf (.ref t) name) (some (.builtin bi)):=by
 obtain ⟨dd,nn,et⟩:=id ht
 have Lt:Looks (model prog w) s.heap (typeOf (.ref t)) (.ref 135):=(Looks.ld et).andThen .now
 exact Lt.andThen (mat_tl0 Y (name:=name) (v:=some (.builtin bi)) hm f.lookup)
theorem mat_len {t : Addr} {vs : Array Value} {Q : Value → Shared → Prop} (Y : MatAt s.heap) (ht : IsMat s.heap t vs) (hl : vs.size ≤ 100)
  (h:Q (.int vs.size (s.toks+1)) { s with toks:=s.toks+1+1 }):wpAny (model prog w) A (call (.builtin "len") [.ref t]) Q E s:=by
 obtain ⟨dd,nn,et⟩:=id ht
 refine call_function_entry kind_len plain_len entry_len (args_len1 _) ?_
 unfold Builtin.«len»
 refine wpAny_bind (m:=oneArg "len" _) (wpAny_pure ?_)
 refine wpAny_bind (m:=callSpecial? (.ref t) (Str.ofString "__len__")) ?_
 unfold callSpecial?
 refine wpAny_bind ((mat_spec Y ht (by decide +kernel) F.slot_tuple_len).here ?_)
 dsimp only
 refine wpAny_holding ?_
 rw [F.slot_tuple_len.bind]
 refine wpAny_bind (wpAny_pure ?_)
 refine wpAny_bind (wpAny_call (codeAny_call_builtin F.slot_tuple_len.plain F.entry_tuple_len (check_slot (owner := "tuple") (n := "__len__") (by decide +kernel) (by decide +kernel) (mat_sub Y ht) (F.args_tuple_len_1 _) ?_)))
 show wpAny _ _ (do retInt (← Builtin.Tuple.tupleItemsOf (.ref t)).size) _ _ s
 refine wpAny_bind (wpAny_tupleItemsOf et rfl ?_)
 refine wpAny_bind (wpAny_mkInt (wpAny_pure (wpAny_pure ?_)))
 dsimp only
 refine wpAny_bind (wpAny_holding (wpAny_pure ?_))
 refine wpAny_bind (wpAny_letGo ?_)
 rw [if_neg (by omega),if_neg (by omega)]
 exact wpAny_bind (wpAny_mkInt (wpAny_pure ⟨_,rfl,h⟩))
end
inductive XM:CS
 | len {xs:List V} {H:Hp} {K:KV}:xs.length≤100→K (.int xs.length) H→XM (.lit (.builtin "len")) [.mat xs] H K
theorem xm_sound {T:TI} (Y:WY T):SoundC T XM 1:=by
 intro A HA f args H K h s fv vs R rf ra Q E g
 cases h with
 | len hl k =>
   obtain rfl:=rf.iL
   obtain ⟨_,_,rfl,r1,r2⟩:=ra.cut
   obtain rfl:=r2.nil_eq
   obtain ⟨_,_,_,_,rfl,e1,r1⟩:=r1.iM
   rw [Y.cM] at e1
   refine mat_len (matAt_of Y R.base) ⟨_,_,e1⟩ (by rw [List.size_toArray,← r1.length];exact hl) ?_
   rw [List.size_toArray,← r1.length]
   exact g _ _ _ _ k (R.toks _) (.int _ _) (Ev.refl _ _)
noncomputable def vI (i:Int):Value→Bool
 | .int j _=>i==j
 | _=>false
noncomputable def vS (i:Str):Value→Bool
 | .str j _=>i==j
 | _=>false
noncomputable def isTp:Value→Bool
 | .type n=>n == "tuple"
 | _=>false
noncomputable def seqD (f:List Value→Bool):Data→Bool
 | .seq vs _=>f vs.toList
 | _=>false
noncomputable def vT (rows:List (Addr×Obj)) (f:List Value→Bool):Value→Bool
 | .ref a => match rows.lookup a with
   | some o=>isTp o.cls&&seqD f o.data
   | none=>false
 | _=>false
noncomputable def all2 (f:V→Value→Bool):List V→List Value→Bool
 | [],[]=>true
 | x::xs,v::vs=>f x v&&all2 f xs vs
 | _,_=>false
noncomputable def vrChk (rows:List (Addr×Obj)):Nat→V→Value→Bool
 | 0,_,_=>false
 | n + 1, x, v => match x with
   | .int i=>vI i v
   | .str s=>vS s v
   | .tup xs=>vT rows (all2 (vrChk rows n) xs) v
   | _=>false
theorem all2_ok {T:TI} {h:Heap} {f:V→Value→Bool} (hf:∀ x v,f x v=true→VR T h x v):∀ (xs:List V) (vs:List Value),all2 f xs vs=true→VRs T h xs vs
 | [],[],_=>.nil
 | x::xs,v::vs,e=>have e:(f x v&&all2 f xs vs)=true:=e;.cons (hf x v (Bool.and_eq_true_iff.mp e).1) (all2_ok hf xs vs (Bool.and_eq_true_iff.mp e).2)
 | [],_::_,e=>nomatch e
 | _::_,[],e=>nomatch e
theorem vI_eq {i:Int} {v:Value} (h:vI i v=true):∃ t,v=.int i t:=by
 cases v <;> first | exact nf h | exact ⟨_,congrArg (Value.int · _) (eq_of_beq h).symm⟩
theorem vS_eq {i:Str} {v:Value} (h:vS i v=true):∃ t,v=.str i t:=by
 cases v <;> first | exact nf h | exact ⟨_,congrArg (Value.str · _) (eq_of_beq h).symm⟩
theorem isTp_eq {v:Value} (h:isTp v=true):v=.type "tuple" := by
 cases v <;> first | exact nf h | exact congrArg _ (eq_of_beq h)
theorem seqD_eq {f:List Value→Bool} {d:Data} (h:seqD f d=true):∃ vs n,d=.seq vs n∧f vs.toList=true:=by
 cases d <;> first | exact nf h | exact ⟨_,_,rfl,h⟩
theorem vT_eq {rows:List (Addr×Obj)} {f:List Value→Bool} {v:Value} (h:vT rows f v=true):∃ a o,v=.ref a∧rows.lookup a=some o∧(isTp o.cls&&seqD f o.data)=true:=by
 cases v with
 | ref a =>
   refine ⟨a,?_⟩
   have h : (match rows.lookup a with
     | some o=>isTp o.cls&&seqD f o.data
     | none=>false)=true:=h
   cases q:rows.lookup a with
   | none=>rw [q] at h;exact nf h
   | some o=>rw [q] at h;exact ⟨o,rfl,rfl,h⟩
 | _=>first | exact nf h
theorem vrChk_ok {T:TI} {h:Heap} {rows:List (Addr×Obj)} (hr:∀ r∈rows,h.get? r.1=some r.2) (n:Nat):∀ (x:V) (v:Value),vrChk rows n x v=true→VR T h x v:=by
 induction n with
 | zero=>exact fun Z Z e=>nf e
 | succ n ih =>
   intro x v e
   cases x with
   | int i=>obtain ⟨t,rfl⟩:=vI_eq e;exact .int _ _
   | str i=>obtain ⟨t,rfl⟩:=vS_eq e;exact .str _ _
   | tup xs =>
     obtain ⟨a,o,rfl,q,e⟩:=vT_eq e
     obtain ⟨e1,e2⟩:=Bool.and_eq_true_iff.mp e
     obtain ⟨vs,m,e3,e4⟩:=seqD_eq e2
     exact .tup ⟨o,hr _ (look_mem q),isTp_eq e1,m,e3⟩ (all2_ok ih _ _ e4)
   | _=>first | exact nf e
theorem vr_fm {T:TI} (Y:WY T) {h:Heap} (a:Above T h):VR T h fmV (.ref 328) :=
 vrChk_ok (rows:=obRows) (fun r hr=>a _ _ (Y.obs r hr)) 30 _ _ (by decide +kernel)
noncomputable def clTab:List (Str×Addr):=[("__init__",160),("set_seqs",167),("set_seq1",174),("set_seq2",181),("_SequenceMatcher__chain_b",188),("find_longest_match",196),("get_matching_blocks",203)]
noncomputable def clF (x:Str):Option Addr:=clTab.lookup x
noncomputable def gRefs:List (Str×Addr):=[("Match",135),("SequenceMatcher",242),("_format_range_unified",253),("restore",260),("heappush",267),("heappop",274),("_siftdown",281),("_siftup",288),("S_IFMT",295),("filemode",335),("_law_done",342),("_law_signs",349),("_law_delta",356),("_law_runs",363),("_law_refused",370),("_law_range",377)]
noncomputable def gBlt:List (Str×Value):=[("len",.builtin "len"),("list",.type "list"),("str",.type "str"),("set",.type "set"),("range",.type "range"),("enumerate",.type "enumerate"),("sorted",.builtin "sorted"),("map",.type "map"),("tuple",.type "tuple"),("int",.type "int"),("ValueError",.type "ValueError"),("KeyError",.type "KeyError")]
noncomputable def gF (x:Str):Option V:=if x = "_filemode_table" then some fmV else match gRefs.lookup x with
 | some a=>some (.lit (.ref a))
 | none=>(gBlt.lookup x).map .lit
theorem gRefs_ok:∀ r∈gRefs,(r.1,some (Value.ref r.2))∈glRows:=by decide +kernel
theorem gBlt_ok:∀ r∈gBlt,(r.1,none)∈glRows∧r.1 ≠ "__name__" ∧ bootBuiltins r.1=some r.2:=by decide +kernel
theorem cl_ok:∀ r∈clTab,methNames.contains r.1=true∧(r.1,some (Value.ref r.2))∈smRows∧∃ fd,(r.2,fd)∈fnRows:=by
 intro r hr
 unfold clTab at hr
 simp only [List.mem_cons,List.not_mem_nil,or_false] at hr
 rcases hr with rfl | rfl | rfl | rfl | rfl | rfl | rfl
 ·exact ⟨by decide +kernel,by decide +kernel,_,mem_fn (k:=15) rfl⟩
 ·exact ⟨by decide +kernel,by decide +kernel,_,mem_fn (k:=16) rfl⟩
 ·exact ⟨by decide +kernel,by decide +kernel,_,mem_fn (k:=17) rfl⟩
 ·exact ⟨by decide +kernel,by decide +kernel,_,mem_fn (k:=18) rfl⟩
 ·exact ⟨by decide +kernel,by decide +kernel,_,mem_fn (k:=19) rfl⟩
 ·exact ⟨by decide +kernel,by decide +kernel,_,mem_fn (k:=20) rfl⟩
 ·exact ⟨by decide +kernel,by decide +kernel,_,mem_fn (k:=21) rfl⟩
theorem at_ok:∀ x∈attrs,(x,none)∈smRows:=by decide +kernel
theorem wld_of {T:TI} (Y:WY T) (C:CS) (L) (LS) (r):Wld T ⟨C,gF,clF,L,LS,r⟩:=by
 refine ⟨Y.sysm,?_,?_,?_⟩
 ·rw [Y.cS];exact ⟨_,Y.obs (242,_) (mem_ob (k:=39) rfl)⟩
 ·obtain ⟨m,hm,hr⟩:=Y.sm
  refine ⟨241,m,fun h ha=>⟨?_,hm h ha⟩,?_,?_,?_,fun name ha=>?_,fun name f hf=>?_⟩
  ·rw [Y.cS]
   have e:=ha _ _ (Y.obs (242,_) (mem_ob (k:=39) rfl))
   exact ⟨"SequenceMatcher", "SequenceMatcher",_,_,_,_,_,none,none,some (.str "SequenceMatcher" 389),some (.str "SequenceMatcher" 397),some (.bool true),e⟩
  ·exact hr ("__setattr__",none) (by decide +kernel)
  ·exact hr ("__getattribute__",none) (by decide +kernel)
  ·exact hr ("__getattr__",none) (by decide +kernel)
  ·exact hr _ (at_ok name (by simpa using ha))
  ·obtain ⟨c1,c2,fd,c3⟩:=cl_ok _ (look_mem hf)
   exact ⟨c1,hr _ c2,_,Y.fns _ c3,rfl⟩
 ·obtain ⟨mg,mb,h1,h2,h3⟩:=Y.gl
  refine ⟨mg,mb,h1,fun x v hx=>?_⟩
  have hx:gF x=some v:=hx
  unfold gF at hx
  split at hx
  ·rename_i e
   cases hx
   subst e
   exact ⟨.ref 328,.inl (h2 ("_filemode_table",_) (by decide +kernel)),fun h ha=>vr_fm Y ha⟩
  ·split at hx
   ·rename_i a e
    cases hx
    exact ⟨.ref a,.inl (h2 _ (gRefs_ok _ (look_mem e))),fun h ha=>.lit _⟩
   ·cases q:gBlt.lookup x with
    | none=>rw [q] at hx;cases hx
    | some u =>
      rw [q] at hx;cases hx
      obtain ⟨b1,b2,b3⟩:=gBlt_ok _ (look_mem q)
      exact ⟨u,.inr ⟨h2 _ b1,(h3 x b2).trans b3⟩,fun h ha=>.lit _⟩
section
variable {T:TI} (Y:WY T)
include Y
theorem mats_of {A : Around} (HA : Rm 1 A) {xs : List V} {H : Hp} {s : Shared} {v : Value} (R : Rel T H s) (rv : VR T s.heap (.mat xs) v) {Q : List Value → Shared → Prop} {E : Value → Shared → Prop}
  (g:∀ vs s',VRs T s'.heap xs vs→Rel T H s'→Ev H s.heap H s'.heap→Q vs s'):wpAny T.M A (unpackItems v xs.length none) Q E s:=by
 obtain ⟨vs,a,n,d,rfl,e1,r1⟩:=rv.iM
 rw [Y.cM] at e1
 have:=mat_unpack (prog:=T.prog) (w:=T.w) (A:=A) (E:=E) (Q:=Q) HA.h (matAt_of Y R.base) (⟨_,_,e1⟩:IsMat s.heap a vs.toArray) fun h' k=>?_
 ·rw [List.size_toArray,← r1.length] at this;exact this
 ·have hk:∀ b o,s.heap.get? b=some o→h'.get? b=some o:=fun b o e=>k b o (Nat.ne_of_lt (Heap.lt_size e)) e
  exact g _ _ (r1.mono fun a o e Z=>hk a o e) (R.keeps hk) (.keeps hk)
noncomputable abbrev L0:LE:=fun Z Z Z Z Z=>False
theorem sys0:Sys T gF clF (fun Z=>none) XM L0 0 where
 wld C L LS r:=wld_of Y C L LS r
 ext A HA env he e loc H K h:=False.elim h
 lim:=Y.lim
 fns fa fi h:=by cases h
 extra A HA:=xm_sound Y A (HA.le (by omega))
 neM:=neM_of Y
 keepX f args H K h s fv R rf:=by cases h with | len _ _=>rw [rf.iL];exact keep_builtin _
 mats A HA xs H s v R rv Q E g:=mats_of Y HA R rv g
theorem code_make {A : Around} (HA : Rm 10 A) {r : Int × Int × Int} {H : Hp} {K : KV} (hk : K (matRow r) H) {s : Shared} {vs : List Value} (R : Rel T H s) (ra : VRs T s.heap [.lit (.ref 135), tupRow r] vs) {Q : Value → Shared → Prop} {E : Value → Shared → Prop} (g : Goes T H s K Q) :
  codeAny T.M A (.call (.ref 89) ⟨vs,[]⟩) (fun r s'=>match r with | .ok (.ret v)=>Q v s' | .ok _=>False | .error e=>E e s') s:=by
 have z:SoundS T (syAt gF clF (fun Z=>none) XM L0 0 0) 8:=⟨Nat.zero_le _,sysSound (sys0 Y) 0⟩
 refine codeFnW (n:=8) Y.lim (fo_make Y) HA (args:=[.lit (.ref 135),tupRow r]) rfl R ra (fun A env s₀ hA he hnc hsc R₀ F₀ Q E g=>?_) g
 exact make_body Y (sysPrims (sys0 Y) 0) (sysPrims2 (sys0 Y) 0) z rfl rfl (fun xs H K hl k=>.inr (.len hl k)) hA he hnc hsc hk R₀ F₀ g
theorem call_mnew {A : Around} (HA : Rm 10 A) {i j k : Int} {H : Hp} {K : KV} (hk : K (matRow (i, j, k)) H) {s : Shared} {vs : List Value} (R : Rel T H s) (ra : VRs T s.heap [.lit (.ref 135), .int i, .int j, .int k] vs) {Q : Value → Shared → Prop} {E : Value → Shared → Prop} (g : Goes T H s K Q) :
  wpAny T.M A (call (.ref 82) vs) Q E s:=by
 have z:SoundS T (syAt gF clF (fun Z=>none) XM L0 0 0) 8:=⟨Nat.zero_le _,sysSound (sys0 Y) 0⟩
 refine soundFnW (n:=8) Y.lim (fo_new Y) HA (args:=[.lit (.ref 135),.int i,.int j,.int k]) rfl R ra (fun A env s₀ hA he hnc hsc R₀ F₀ Q E g=>?_) g
 exact new_body Y (sysPrims (sys0 Y) 0) (sysPrims2 (sys0 Y) 0) z rfl hA he hnc hsc hk R₀ F₀ g
end
theorem oi_args4 (a b c d:Value):argsOk "object.__init__" ⟨[a,b,c,d],[]⟩:=PySem.F.initArgs_range_3 a b c d
theorem oi_mat {M : Model} {A : Around} {P : Fin → Shared → Prop} {E : Value → Shared → Prop} {s : Shared} {a : Addr} {b c d : Value} (t0 : Looks M s.heap (typeOf (.ref a)) (.ref 135)) (m2 : Looks M s.heap (typeLookup (.ref 135) "__init__") (some (.builtin "object.__init__"))) (m3 : Looks M s.heap (Bind.madeBy (.ref 135)) none)
  (p:P (.done (.ret .none)) s):wpAny M A (Builtin.«object.__init__» ⟨[.ref a,b,c,d],[]⟩) P E s:=by
 unfold Builtin.«object.__init__»
 refine wpAny_bind ?_
 show wpAny _ _ (typeOf (.ref a)) _ _ _
 refine t0.here ?_
 refine wpAny_bind (m2.here ?_)
 refine wpAny_bind (m3.here ?_)
 exact wpAny_pure p
section
variable {T:TI} (Y:WY T)
include Y
theorem call_match {A : Around} (HA : Rm 12 A) {i j k : Int} {H : Hp} {K : KV} (hk : K (matRow (i, j, k)) H) {s : Shared} {vs : List Value} (R : Rel T H s) (ra : VRs T s.heap [.int i, .int j, .int k] vs) {Q : Value → Shared → Prop} {E : Value → Shared → Prop} (g : Goes T H s K Q) :
  wpAny T.M A (call (.ref 135) vs) Q E s:=by
 have YM:=matAt_of Y R.base
 have hS:∀ s',Rel T H s'→∀ A',Rm 10 A'→∀ Q' E',Goes T H s' (fun v H'=>v=matRow (i,j,k)∧H'=H) Q'→VRs T s'.heap [.int i,.int j,.int k] vs→wpAny (model T.prog T.w) A' (call (.ref 82) (.ref 135::vs)) Q' E' s' :=
  fun s' R' A' HA' Q' E' g' rv=>call_mnew Y HA' (K:=fun v H'=>v=matRow (i,j,k)∧H'=H) ⟨rfl,rfl⟩ R' (.cons (.lit _) rv) g'
 have R0:Rel T H { s with toks:=s.toks+1 }:=R.keeps fun Z Z e=>e
 have hU:Rm 10 (A.under (.builtin "type.__call__" ⟨.ref 135::vs,[]⟩)):=Rm.sub 2 HA HA.1 (Nat.add_le_add_left (by decide:1≤8) A.depth) (Nat.add_le_add_left (by decide:1≤64) A.units)
 refine wpAny_call (codeAny_of_tree ?_)
 show wpAny _ _ (callAny (.ref 135) _) _ _ _
 have l1:=mat_call1 (M:=T.M) YM
 have l2:=mat_typ (M:=T.M) YM
 have l3:=mat_mro (M:=T.M) YM
 have l4:=mat_made (M:=T.M) YM
 obtain ⟨h,gs,d,tk,os⟩:=s
 dsimp only at *
 refine nd_load YM.cls ?_
 show wpAny _ _ (callAny.viaDunder (.ref 135) _) _ _ _
 unfold callAny.viaDunder
 refine wpAny_bind (l1.at ?_)
 dsimp only
 rw [tc_bind]
 refine wpAny_bind (wpAny_pure (wpAny_bind (wpAny_pure ?_)))
 refine wpAny_pure (a:=Fin.again (.call (.builtin "type.__call__") ⟨.ref 135::vs,[]⟩)) (And.intro rfl ?_)
 have hc:∀ A E (Q:Unit→Shared→Prop),Q () ⟨h,gs,d,tk,os⟩→wpAny T.M A (checkBuiltinCall "type.__call__" ⟨.ref 135::vs,[]⟩) Q E ⟨h,gs,d,tk,os⟩:=by
  intro A E Q q
  with_reducible exact check_slot tc_kind tc_split l2 (tc_args _ _ _) q
 refine codeAny_call_builtin_at (Code.quiet_builtin _ (by decide +kernel)) entry_typeCall (hc _ _ _ ?_)
 unfold Builtin.«type.__call__»
 repeat (first | with_reducible refine mat_new YM ?_ | with_reducible refine hS _ R0 _ hU _ _ ?_ ra | simp only [Bool.false_eq_true,if_false] | lk)
 rintro _ _ v s₁ ⟨rfl,rfl⟩ R₁ rv e₁
 have Y1:=matAt_of Y R₁.base
 obtain ⟨us,a,n,dd,rfl,e1,r1⟩:=rv.iM
 have r1':=VR.mat e1 r1
 rw [Y.cM] at e1
 obtain ⟨t1,t2,t3,rfl⟩:=VRs.ints3 ra
 have m1:=mat_self (M:=T.M) Y1
 have m2:=mat_init (M:=T.M) Y1
 have m3:=mat_made (M:=T.M) Y1
 have t0:Looks T.M s₁.heap (typeOf (.ref a)) (.ref 135):=(Looks.ld e1).andThen .now
 obtain ⟨h1,gs1,d1,tk1,os1⟩:=s₁
 dsimp only at *
 have m4:Looks T.M h1 (isInstance (.ref a) (.type "object")) true:=t0.andThen (by
  intro A Q E s k q
  unfold isSubtype
  exact wpAny_bind ((mat_mro Y1) A _ E s k (by show wpAny _ _ (pure _) _ _ _;exact wpAny_pure q)))
 unfold isInstance callSpecial? specialOf
 repeat (first | with_reducible refine wpAny_call ?_ | simp only [Bool.false_eq_true,if_false,Bool.not_true] | lk)
 have hc:∀ A E (Q:Unit→Shared→Prop),Q () ⟨h1,gs1,d1,tk1,os1⟩→wpAny T.M A (checkBuiltinCall "object.__init__" ⟨[.ref a,.int i t1,.int j t2,.int k t3],[]⟩) Q E ⟨h1,gs1,d1,tk1,os1⟩:=by
  intro A E Q q
  with_reducible exact check_slot oi_kind oi_split m4 (oi_args4 _ _ _ _) q
 show codeAny T.M _ (.call (.builtin "object.__init__") ⟨[.ref a,.int i t1,.int j t2,.int k t3],[]⟩) _ _
 refine codeAny_call_builtin oi_plain entry_oi (hc _ _ _ ?_)
 refine oi_mat t0 m2 m3 ?_
 exact wpAny_pure (wpAny_pure (g _ _ _ _ hk R₁ r1' e₁))
end
theorem mro_map:mroOf (.type "map")=pure [.type "map",.type "object"]:=by rw [mroOf_type];kernel_rfl
theorem lookup_map_new:typeLookup (.type "map") "__new__" = pure (some (.builtin "map.__new__")):=by rw [typeLookup_type,builtinLookup_eq_fast];kernel_rfl
theorem lookup_map_init:typeLookup (.type "map") "__init__" = pure (some (.builtin "object.__init__")):=by rw [typeLookup_type,builtinLookup_eq_fast];kernel_rfl
theorem lookup_map_next:typeLookup (.type "map") "__next__" = pure (some (.builtin "map.__next__")):=by rw [typeLookup_type,builtinLookup_eq_fast];kernel_rfl
theorem lookup_map_iter:typeLookup (.type "map") "__iter__" = pure (some (.builtin "map.__iter__")):=by rw [typeLookup_type,builtinLookup_eq_fast];kernel_rfl
theorem entry_map_new:entryFor table "map.__new__" = some Builtin.«map.__new__»:=entryFor_of_tree (by kernel_rfl)
theorem entry_map_next:entryFor table "map.__next__" = some Builtin.«map.__next__»:=entryFor_of_tree (by kernel_rfl)
theorem typeCall_map (a b:Value):checkTypeCall "map" ⟨[a,b],[]⟩=pure ():=by kernel_rfl
theorem newCall_map (a b:Value):checkBuiltinCall "map.__new__" ⟨[.type "map",a,b],[]⟩=pure ():=by kernel_rfl
theorem slot_map_init:Slot "map" "__init__" "object.__init__" :=
 .of (owner := "object") (n := "__init__") lookup_map_init (by decide +kernel) (by decide +kernel) (by decide +kernel) (by first | exact .inl (by decide +kernel) | exact .inr (by decide +kernel)) (by rw [isSubtype_type];kernel_rfl)
theorem called_map:TypeCalled "map" "map.__new__" "object.__init__" :=
 ⟨by decide +kernel,by decide +kernel,⟨_,_,mro_map⟩,madeBy_type mro_map lookup_map_new (by decide +kernel),by decide +kernel,by rw [isSubtype_type];kernel_rfl,slot_map_init⟩
theorem sub_map:isSubtype (.type "map") (.type "map")=pure true:=by rw [isSubtype_type];kernel_rfl
section
variable {prog:Program} {w:World} {A:Around} {E:Value→Shared→Prop} {s:Shared}
def IsMap (h:Heap) (m it t:Addr) (f:Value):Prop:=h.get? m=some { cls:=.type "map",data:=.fields #[.ref t,f] }∧∃ n,h.get? t=some { cls:=.type "tuple",data:=.seq #[.ref it] n }
theorem map_new {l : Addr} {items : Array Value} {f : Value} {P : Fin → Shared → Prop} (hl : s.heap.IsList l items)
  (q:∀ h' m it t,(∀ b o,s.heap.get? b=some o→h'.get? b=some o)→s.heap.get? m=none→s.heap.get? it=none→s.heap.get? t=none→h'.IsListIter it l 0→IsMap h' m it t f→P (.done (.ret (.ref m))) { s with heap:=h' }) :
  wpAny (model prog w) A (Builtin.«map.__new__» ⟨[.type "map",f,.ref l],[]⟩) P E s:=by
 unfold Builtin.«map.__new__»
 have e:Builtin.SmallTypes.newClass "map" ⟨[.type "map",f,.ref l],[]⟩=pure (.type "map",[f,.ref l]):=by
  unfold Builtin.SmallTypes.newClass
  show (isType (.type "map") >>= _)=_
  rw [show isType (.type "map")=pure true from rfl]
  show (isSubtype (.type "map") (.type "map") >>= _)=_
  rw [sub_map];rfl
 refine wpAny_bind (wpAny_of_eq e ?_)
 refine wpAny_bind (wpAny_of_eq (show Builtin.SmallTypes.refuseKeywords "map" (.type "map") ⟨[.type "map",f,.ref l],[]⟩=pure () from rfl) ?_)
 dsimp only
 rw [if_neg (by simp)]
 show wpAny _ _ (Builtin.SmallTypes.iterAll [.ref l] >>= _) _ _ _
 refine wpAny_bind ?_
 unfold Builtin.SmallTypes.iterAll
 refine wpAny_bind ?_
 rw [List.forIn_cons]
 refine wpAny_bind (wpAny_bind (wpAny_holding (wpAny_pyIter_list hl ?_)))
 refine wpAny_pure ?_
 dsimp only
 rw [List.forIn_nil]
 refine wpAny_pure (wpAny_pure ?_)
 simp only [newTuple]
 refine wpAny_bind (wpAny_newObj_type ?_ (by show (1:Nat)≤sizeLine;decide))
 dsimp only
 refine wpAny_bind ?_
 show wpAny _ _ (newObj (.type "map") (.fields #[_,_])) _ _ _
 refine wpAny_newObj_type ?_ (by show (2:Nat)≤sizeLine+2;decide)
 have none_of:∀ (h:Heap) (x:Addr),(∀ b o,s.heap.get? b=some o→h.get? b=some o)→h.get? x=none→s.heap.get? x=none:=fun h x k e=>by
  cases q:s.heap.get? x with
  | none=>rfl
  | some o=>rw [k _ _ q] at e;cases e
 generalize hh1:s.heap.push { cls:=Value.type "list_iterator",data:=Data.fields #[Value.ref l,Value.int 0 0] }=h1
 have k1:∀ b o,s.heap.get? b=some o→h1.get? b=some o:=fun b o e=>by rw [← hh1];exact Heap.get?_push_of_some _ e
 have i1:h1.get? s.heap.objs.size=some { cls:=Value.type "list_iterator",data:=Data.fields #[Value.ref l,Value.int 0 0] }:=by rw [← hh1];exact Heap.get?_push_size _ rfl
 refine wpAny_pure (q _ _ s.heap.objs.size h1.objs.size (fun b o e=>Heap.get?_push_of_some _ (Heap.get?_push_of_some _ (k1 _ _ e))) (none_of (h1.push _) _ (fun b o e=>Heap.get?_push_of_some _ (k1 _ _ e)) (Heap.get?_none_of_le (Nat.le_refl _))) (Heap.get?_none_of_le (Nat.le_refl _)) (none_of h1 _ k1 (Heap.get?_none_of_le (Nat.le_refl _))) ?_ ⟨Heap.get?_push_size _ rfl,_,Heap.get?_push_of_some _ (Heap.get?_push_size _ rfl)⟩)
 exact ⟨_,Heap.get?_push_of_some _ (Heap.get?_push_of_some _ i1),rfl,rfl⟩
end
theorem oi_args3 (a b c:Value):argsOk "object.__init__" ⟨[a,b,c],[]⟩:=PySem.F.initArgs_range_2 a b c
theorem plain_map_new:plainId "map.__new__" = true:=by decide +kernel
section
variable {prog:Program} {w:World} {A:Around} {E:Value→Shared→Prop} {s:Shared}
theorem map_call {l : Addr} {items : Array Value} {f : Value} {Q : Value → Shared → Prop} (hl : s.heap.IsList l items)
  (q:∀ h' m it t,(∀ b o,s.heap.get? b=some o→h'.get? b=some o)→s.heap.get? m=none→s.heap.get? it=none→s.heap.get? t=none→h'.IsListIter it l 0→IsMap h' m it t f→Q (.ref m) { s with heap:=h' }) :
  wpAny (model prog w) A (call (.type "map") [f,.ref l]) Q E s:=by
 refine callType_codes (Q₁:=fun obj s₁=>∃ h' m it t,obj=.ref m∧s₁={ s with heap:=h' }∧IsMap h' m it t f∧Q (.ref m) { s with heap:=h' }) called_map (typeCall_map _ _) entry_oi ?_ fun obj s₁ h₁=>?_
 ·refine codeAny_of_tree ?_
  show wpAny _ A.in1.in1 (do checkBuiltinCall "map.__new__" ⟨[.type "map",f,.ref l],[]⟩;again (.builtin "map.__new__" ⟨[.type "map",f,.ref l],[]⟩)) _ _ s
  refine wpAny_bind (wpAny_of_eq (newCall_map f (.ref l)) (wpAny_pure ⟨plainId_quiet plain_map_new _,codeAny_builtin entry_map_new ?_⟩))
  rw [Around.under_plainId plain_map_new _]
  exact map_new hl fun h' m it t k a b c d e=>⟨h',m,it,t,rfl,rfl,e,q h' m it t k a b c d e⟩
 ·obtain ⟨h',m,it,t,rfl,rfl,hm,hq⟩:=h₁
  refine ⟨⟨_,hm.1,rfl⟩,oi_args3 _ _ _,?_⟩
  unfold Builtin.«object.__init__»
  refine wpAny_bind ?_
  show wpAny _ _ (typeOf (.ref m)) _ _ _
  refine wpAny_typeOf (T := "map") ⟨_,hm.1,rfl⟩ ?_
  refine wpAny_bind (wpAny_of_eq lookup_map_init ?_)
  refine wpAny_bind (wpAny_of_eq called_map.made ?_)
  exact wpAny_pure ⟨rfl,hq⟩
end
theorem fc_make {o:Obj} (hn:nsIn [(135,matO),(136,smO),(91,cmO),(134,o)] 134 "_make" = some (some (.ref 91))):findCls [(135,matO),(136,smO),(91,cmO),(134,o)] (.ref 135) (.type "type") "_make" = some (.get (.builtin "classmethod.__get__") (.ref 91) .none (.ref 135)):=by
 have h1:findIn [(135,matO),(136,smO),(91,cmO),(134,o)] (.ref 135) "_make" = some (some (.ref 91)):=by
  show alongIn _ _ (.ref 135::[.type "tuple",.type "object"])=_
  unfold alongIn
  have:ownIn [(135,matO),(136,smO),(91,cmO),(134,o)] "_make" (.ref 135)=some (some (.ref 91)):=hn
  rw [this]
 unfold findCls
 rw [h1]
 kernel_rfl
section
variable {prog:Program} {w:World} {A:Around} {E:Value→Shared→Prop} {s:Shared} {Q:Value→Shared→Prop}
theorem mat_make (Y:MatAt s.heap) {e:Bool} (q:Q (.ref s.heap.objs.size) { s with heap:=s.heap.push (methodObj (.ref 89) (.ref 135)),toks:=s.toks+1 }):wpAny (model prog w) A (getAttr (.ref 135) "_make" e) Q E s:=by
 obtain ⟨o,X,hm⟩:=mat_K Y
 have hn:=hm ("_make",some (.ref 91)) (.tail _ (.head _))
 refine cls_open (K:=[(135,matO),(136,smO),(91,cmO),(134,o)]) (hook:=none) X (mat_opq Y) ((Looks.ld Y.cls).andThen .now) (by kernel_rfl) (looks_hook X (by kernel_rfl)) (by kernel_rfl) (fc_make hn) ?_
 show wpAny _ _ (do ret (← holding [.ref 91] (call (.builtin "classmethod.__get__") [.ref 91,.none,.ref 135]))) _ _ _
 refine wpAny_bind (wpAny_holding (wpAny_call (PySem.W.cm_get (K:=[(135,matO),(136,smO),(91,cmO),(134,o)]) (rest:=[.bool false]) X rfl ?_)))
 exact wpAny_pure (handed_on rfl q)
end
section
variable {prog:Program} {w:World} {A:Around} {E:Value→Shared→Prop} {s:Shared}
theorem li_item {it l : Addr} {i : Nat} {items : Array Value} {x : Value} {Q : Value → Shared → Prop} (hit : s.heap.IsListIter it l i) (hl : s.heap.IsList l items) (hx : items[i]? = some x)
  (q:∀ h',h'.IsListIter it l (i+1)→Heap.SameBut it s.heap h'→Q x { s with heap:=h' }):wpAny (model prog w) A (Builtin.SmallTypes.nextOf (.ref it)) Q E s:=wpAny_nextOf_list_item hit hl hx q
theorem li_end {it l : Addr} {i : Nat} {items : Array Value} {Q : Value → Shared → Prop} (hh : A.handled = none) (hit : s.heap.IsListIter it l i) (hl : s.heap.IsList l items) (hx : items[i]? = none)
  (q:∀ h' e,Heap.ExtBut it s.heap h'→({ s with heap:=h' }:Shared).TypeIs e "StopIteration" → E e { s with heap:=h' }):wpAny (model prog w) A (Builtin.SmallTypes.nextOf (.ref it)) Q E s:=wpAny_nextOf_list_end hh hit hl hx fun h' e b c=>q h' (.ref e) b c
end
theorem slot_map_next:Slot "map" "__next__" "map.__next__" :=
 .of (owner := "map") (n := "__next__") lookup_map_next (by decide +kernel) (by decide +kernel) (by decide +kernel) (by first | exact .inl (by decide +kernel) | exact .inr (by decide +kernel)) (by rw [isSubtype_type];kernel_rfl)
theorem slot_map_iter:Slot "map" "__iter__" "map.__iter__" :=
 .of (owner := "map") (n := "__iter__") lookup_map_iter (by decide +kernel) (by decide +kernel) (by decide +kernel) (by first | exact .inl (by decide +kernel) | exact .inr (by decide +kernel)) (by rw [isSubtype_type];kernel_rfl)
theorem entry_map_iter:entryFor table "map.__iter__" = some Builtin.«dict_keyiterator.__iter__» :=
 entryFor_alias (id' := "dict_keyiterator.__iter__") (by kernel_rfl) rfl (by decide +kernel) (by kernel_rfl)
theorem args_map_next (a:Value):argsOk "map.__next__" ⟨[a],[]⟩:=by unfold argsOk;kernel_rfl
theorem args_map_iter (a:Value):argsOk "map.__iter__" ⟨[a],[]⟩:=by unfold argsOk;kernel_rfl
theorem map_nolen:typeLookup (.type "map") "__len__" = pure none:=by rw [typeLookup_type,builtinLookup_eq_fast];kernel_rfl
theorem map_nohint:typeLookup (.type "map") "__length_hint__" = pure none:=by rw [typeLookup_type,builtinLookup_eq_fast];kernel_rfl
section
variable {prog:Program} {w:World} {A:Around} {E:Value→Shared→Prop} {s:Shared}
theorem IsMap.typ {m it t:Addr} {f:Value} (h:IsMap s.heap m it t f):s.TypeIs (.ref m) "map" := ⟨_,h.1,rfl⟩
theorem map_iter {m it t:Addr} {f:Value} {Q:Value→Shared→Prop} (h:IsMap s.heap m it t f) (q:Q (.ref m) s):wpAny (model prog w) A (pyIter (.ref m)) Q E s:=by
 refine wpAny_pyIter_slot h.typ slot_map_iter (wpAny_call_entry slot_map_iter h.typ entry_map_iter ?_ (args_map_iter _))
 show wpAny _ _ (ret (.ref m)) _ _ s
 exact wpAny_pure ⟨_,rfl, "map",_,h.typ,slot_map_next.lookup,q⟩
theorem map_next {m it t l : Addr} {i : Nat} {items : Array Value} {x f : Value} {Q : Option Value → Shared → Prop} (h : IsMap s.heap m it t f) (hit : s.heap.IsListIter it l i) (hl : s.heap.IsList l items) (hx : items[i]? = some x) (hm : m ≠ it)
  (q:∀ h',h'.IsListIter it l (i+1)→Heap.SameBut it s.heap h'→wpAny (model prog w) A.in1 (call f [x]) (fun v s'=>Q (some v) s') (fun Z Z=>False) { s with heap:=h' }):wpAny (model prog w) A (pyNext (.ref m)) Q E s:=by
 unfold pyNext
 refine wpAny_bind (wpAny_attempt (wpAny_callSpecial?_slot (name:=Str.ofString "__next__") h.typ slot_map_next (wpAny_call_entry slot_map_next h.typ entry_map_next ?_ (args_map_next _))))
 obtain ⟨h1,n,h2⟩:=id h
 show wpAny _ _ (field (.ref m) 0 >>= _) _ _ s
 refine wpAny_bind (wpAny_field h1 rfl (x:=.ref t) rfl ?_)
 show wpAny _ _ (seqItems? (.ref t) >>= _) _ _ s
 refine wpAny_bind (wpAny_seqItems h2 rfl ?_)
 dsimp only
 refine wpAny_bind ?_
 rw [← Array.forIn_toList,List.forIn_cons]
 refine wpAny_bind (wpAny_bind (wpAny_holding (li_item hit hl hx fun h' hit' hs=>?_)))
 refine wpAny_pure ?_
 dsimp only
 rw [List.forIn_nil]
 refine wpAny_pure ?_
 have h1':h'.get? m=some { cls:=.type "map",data:=.fields #[.ref t,f] }:=(hs.2 m hm).trans h1
 refine wpAny_bind (m:=field (.ref m) 1) (wpAny_field (s:={ s with heap:=h' }) h1' rfl (x:=f) rfl ?_)
 refine wpAny_bind (wpAny_holding (wpAny_mono (q h' hit' hs) (fun v s' k=>?_) fun Z Z k=>k.elim))
 refine wpAny_bind (wpAny_letGo ?_)
 exact wpAny_pure ⟨_,rfl,wpAny_pure k⟩
theorem map_end {m it t l : Addr} {i : Nat} {items : Array Value} {f : Value} {Q : Option Value → Shared → Prop} (hh : A.handled = none) (h : IsMap s.heap m it t f) (hit : s.heap.IsListIter it l i) (hl : s.heap.IsList l items) (hx : items[i]? = none)
  (q:∀ h',Heap.ExtBut it s.heap h'→Q none { s with heap:=h' }):wpAny (model prog w) A (pyNext (.ref m)) Q E s:=by
 unfold pyNext
 refine wpAny_bind (wpAny_attempt (wpAny_callSpecial?_slot (name:=Str.ofString "__next__") h.typ slot_map_next (wpAny_call_entry slot_map_next h.typ entry_map_next ?_ (args_map_next _))))
 obtain ⟨h1,n,h2⟩:=id h
 show wpAny _ _ (field (.ref m) 0 >>= _) _ _ s
 refine wpAny_bind (wpAny_field h1 rfl (x:=.ref t) rfl ?_)
 show wpAny _ _ (seqItems? (.ref t) >>= _) _ _ s
 refine wpAny_bind (wpAny_seqItems h2 rfl ?_)
 dsimp only
 refine wpAny_bind ?_
 rw [← Array.forIn_toList,List.forIn_cons]
 refine wpAny_bind (wpAny_bind (wpAny_holding (li_end (by exact hh) hit hl hx fun h' e he ht=>?_)))
 refine wpAny_bind (wpAny_isInstance (T := "StopIteration") (b:=true) ht isSubtype_stop ?_)
 exact wpAny_pure (q h' he)
end
theorem Rm.in1 {n:Nat} {A:Around} (h:Rm (n+1) A):Rm n A.in1:=h.sub 1 h.1 (Nat.le_add_right _ _) (Nat.add_le_add_left (by decide:1≤32) A.units)
structure MapSt (T:TI) (H:Hp) (h₀:Heap) (m it t mo a S:Addr) (i:Nat) (s:Shared):Prop where
 li:s.heap.IsListIter it a i
 mp:IsMap s.heap m it t (.ref mo)
 me:s.heap.get? mo=some (methodObj (.ref 89) (.ref 135))
 rel:Rel T H s
 nof:∀ o,s.heap.get? S=some o→¬ Fixed T o
 ev:Ev H h₀ H s.heap
theorem Ev.own {H:Hp} {h₀ h h':Heap} (x:Ev H h₀ H h) {I:Addr} (hI:h₀.get? I=none) (k:∀ b o,b≠I→h.get? b=some o→h'.get? b=some o):Ev H h₀ H h' :=
 ⟨fun a o e n=>k a o (fun q=>by rw [q,hI] at e;cases e) (x.keep a o e n),x.dom,fun a o e=>(by obtain ⟨o',e'⟩:=x.live a o e;exact ⟨o',k a o' (fun q=>by rw [q,hI] at e;cases e) e'⟩)⟩
theorem notFix_type {T:TI} {o:Obj} {n:String} (hc:o.cls=.type n) (h1:n ≠ "tuple") (h2:n ≠ "builtin_function_or_method"):¬ Fixed T o:=by
 intro f
 rcases f with ⟨f | f,_⟩ | ⟨f,_⟩
 ·rw [hc] at f;exact h1 (by simpa using f)
 ·rw [hc] at f;cases f
 ·rw [hc] at f;exact h2 (by simpa using f)
section
variable {T:TI} (Y:WY T)
include Y
theorem map_GW {A : Around} (HA : Rm 11 A) {H : Hp} {h₀ : Heap} {m it t mo a S : Addr} {rows : List T3} (ha : H a = some (.list (rows.map t3V))) (hS : H S = none ∧ T.B S = none ∧ h₀.get? S = none) (hI : H it = none ∧ T.B it = none ∧ h₀.get? it = none)
  (hm:H m=none∧m≠S∧m≠it) (ht:H t=none∧t≠S∧t≠it) (hmo:H mo=none∧mo≠S∧mo≠it) (hiS:it≠S) :
  GW T A m S "map" (rows.map m3V) (MapSt T H h₀ m it t mo a S) (fun s=>Rel T H s∧Ev H h₀ H s.heap) where
 typ i s st:=st.mp.typ
 frame i s h' tk st k l:=by
  have fk:FixKeep T s.heap h':=fun b o e f=>k b o (fun q=>by subst q;exact st.nof o e f) e
  have R':Rel T H { s with heap:=h',toks:=tk }:=by
   refine ⟨fun b o e=>k b o (fun q=>by rw [q,hS.2.1] at e;cases e) (st.rel.base b o e),fun b o e=>?_,st.rel.new,st.rel.os,st.rel.gens⟩
   have hb:b≠S:=fun q=>by rw [q,hS.1] at e;cases e
   obtain ⟨ob,g',_⟩:=(st.rel.objs b o e).there
   exact (st.rel.objs b o e).mono fk ((k b ob hb g').trans g'.symm)
  obtain ⟨o,ho,z⟩:=st.li
  obtain ⟨m1,n,m2⟩:=st.mp
  exact ⟨⟨o,k _ _ hiS ho,z⟩,⟨k _ _ hm.2.1 m1,n,k _ _ ht.2.1 m2⟩,k _ _ hmo.2.1 st.me,R',fun o e=>by obtain ⟨vs,c,l⟩:=l;have e:h'.get? S=some o:=e;rw [l] at e;cases e;exact notFix_type rfl (by decide) (by decide),st.ev.own hS.2.2 k⟩
 item i x s Q E hx st l g:=by
  rw [List.getElem?_map] at hx
  obtain ⟨r,hr,rfl⟩:=Option.map_eq_some_iff.mp hx
  obtain ⟨vs,n,ga,rs⟩:=st.rel.objs _ _ ha
  obtain ⟨v,hv,rv⟩:=rs.get (i:=i) (x:=t3V r) (by rw [List.getElem?_map,hr];rfl)
  obtain ⟨vs',c,l⟩:=l
  have hp:=Y.prog
  refine map_next (items:=vs.toArray) st.mp st.li ⟨_,ga,rfl,n,rfl⟩ (by rw [List.getElem?_toArray];exact hv) hm.2.2 fun h' hit' hs=>?_
  obtain ⟨oi,ei,hci,hdi⟩:=st.li
  have hRF:=st.rel.own (own:=[it]) (h':=h') (n:=s.toks) (fun b hb=>by cases hb with | head=>exact ⟨hI.1,hI.2.1,_,ei,notFix_type hci (by decide) (by decide)⟩ | tail _ h=>cases h) (fun b o hb e=>(hs.2 b (fun q=>hb (q▸.head _))).trans e)
  refine wpAny_call (method_call (f:=.ref 89) (self:=.ref 135) (p:=mo) ((hs.2 mo hmo.2.2).trans st.me) ?_)
  have e1:Ev H h₀ H h':=st.ev.own hI.2.2 fun b o hb e=>(hs.2 b hb).trans e
  refine code_make Y (HA.in1) (r:=castT r) (K:=fun v H'=>v=m3V r∧H'=H) ⟨rfl,rfl⟩ hRF.1 (.cons (.lit _) (.cons (rv.mono hRF.2) .nil)) fun x H' v' s' k R' rv' e'=>?_
  obtain ⟨rfl,rfl⟩:=k
  have kp:∀ b o,h'.get? b=some o→H' b=none→s'.heap.get? b=some o:=e'.keep
  have hSl:h'.get? S=some { cls:=.type "list",data:=.seq vs' c }:=(hs.2 S (Ne.symm hiS)).trans l
  have hSl':=kp S _ hSl hS.1
  refine g v' s' rv' ⟨?_,⟨kp _ _ ((hs.2 m hm.2.2).trans st.mp.1) hm.1,?_⟩,kp _ _ ((hs.2 mo hmo.2.2).trans st.me) hmo.1,R',fun o e=>?_,e1.trans e'⟩ (hSl'.trans l.symm) (hRF.2.trans (hRF.1.fix e'))
  ·obtain ⟨o,ho,z⟩:=hit'
   exact ⟨o,kp _ _ ho hI.1,z⟩
  ·obtain ⟨n,m2⟩:=st.mp.2
   exact ⟨n,kp _ _ ((hs.2 t ht.2.2).trans m2) ht.1⟩
  ·rw [hSl'] at e;cases e;exact notFix_type rfl (by decide) (by decide)
 done s Q E st l g:=by
  rw [List.length_map] at st
  obtain ⟨vs,n,ga,rs⟩:=st.rel.objs _ _ ha
  obtain ⟨oi,ei,hci,hdi⟩:=st.li
  obtain ⟨vs',c,l⟩:=l
  refine map_end HA.h st.mp st.li (items:=vs.toArray) ⟨_,ga,rfl,n,rfl⟩ (by rw [List.getElem?_toArray,List.getElem?_eq_none];rw [← rs.length,List.length_map];exact Nat.le_refl _) fun h' hx=>?_
  have hRF:=st.rel.own (own:=[it]) (h':=h') (n:=s.toks) (fun b hb=>by cases hb with | head=>exact ⟨hI.1,hI.2.1,_,ei,notFix_type hci (by decide) (by decide)⟩ | tail _ h=>cases h) (fun b o hb e=>hx b o (fun q=>hb (q▸.head _)) e)
  exact g _ ⟨hRF.1,st.ev.own hI.2.2 fun b o hb e=>hx b o hb e⟩ ((hx S _ (Ne.symm hiS) l).trans l.symm) hRF.2
 self i s Q E st h:=map_iter st.mp h
 ne:=hm.2.1
 seq:=⟨rfl,rfl⟩
 nolen:=map_nolen
 nohint:=map_nohint
end
noncomputable def LMake:LE:=fun sc e loc H K=>∃ (p0 p1 p2 p3 p4 p5 p6:Pos) (a:Addr) (rows:List T3),e=.Call (.Name "list" p0) [.Call (.Name "map" p1) [.Attribute (.Name "Match" p2) "_make" p3,.Name "non_adjacent" p4] [] p5] [] p6 ∧
 sc.names.lookup ("list" : Str)=some .globalImplicit∧sc.names.lookup ("map" : Str)=some .globalImplicit∧sc.names.lookup ("Match" : Str)=some .globalImplicit∧sc.names.lookup ("non_adjacent" : Str)=some .local ∧
 loc.get "non_adjacent" = some (.obj a)∧H a=some (.list (rows.map t3V))∧rows.length≤20∧(∀ c,H c=none→K (.obj c) (H.set c (.list (rows.map m3V))))
theorem spMake_of {S:Sy} (h:S.L=LMake):SpMake S:=by
 intro sc p0 p1 p2 p3 p4 p5 p6 loc H K a rows h1 h2 h3 h4 h5 h6 h7 h8
 rw [h]
 exact ⟨p0,p1,p2,p3,p4,p5,p6,a,rows,rfl,h1,h2,h3,h4,h5,h6,h7,h8⟩
section
variable {T:TI} (Y:WY T)
include Y
theorem lmake_sound {A:Around} (HA:Rm 17 A) {env:Env} (he:EnvOk env) {e:Expr} {loc:Loc} {H:Hp} {K:KV} (h:LMake env.scope e loc H K) {s:Shared} (R:Rel T H s) (F:Frm T env loc H s.heap) {Q:Value→Shared→Prop} {E:Value→Shared→Prop} (g:Goes T H s K Q):wpAny T.M A (eval e env) Q E s:=by
 obtain ⟨p0,p1,p2,p3,p4,p5,p6,a,rows,rfl,h1,h2,h3,h4,h5,h6,h7,h8⟩:=h
 have P:=sysPrims (sys0 Y) 0
 have HC:SoundS T (syAt gF clF (fun Z=>none) XM L0 0 0) 8:=⟨Nat.zero_le _,sysSound (sys0 Y) 0⟩
 have HA9:Rm 9 A:=HA.le (by omega)
 have glob:∀ {x:Str} {v:V},env.scope.names.lookup x=some .globalImplicit→gF x=some v→nameV (syAt gF clF (fun Z=>none) XM L0 0 0) env.scope loc x=some v:=fun e1 e2=>by unfold nameV;rw [e1];exact e2
 refine wpAny_Call_NameR (nameL P HC HA9 he (c:=.type "list") (glob h1 rfl) R F ?_)
 with_reducible refine callWith_V P HC HA9 he (f:=.lit (.type "list")) rfl ?hlen (evalArgs_V rfl ?_)
 case hlen=>show (1:Nat)≤20;decide
 rw [starEach_ok rfl]
 refine spliced_cons ?_
 refine wpAny_Call_NameR (nameL P HC HA9 he (c:=.type "map") (glob h2 rfl) R F ?_)
 with_reducible refine callWith_V P HC HA9 he (f:=.lit (.type "map")) rfl ?hlen (evalArgs_V rfl ?_)
 case hlen=>show (2:Nat)≤20;decide
 rw [starEach_ok rfl]
 refine spliced_cons ?_
 rw [arm_eval_Attribute,attributeBase_ok rfl]
 refine wpAny_bind (nameL P HC HA9 he (c:=.ref 135) (glob h3 rfl) R F ?_)
 refine wpAny_bind (wpAny_standAt (wpAny_bind (wpAny_holding (mat_make (matAt_of Y R.base) ?_))))
 refine wpAny_bind (wpAny_letTemporaryGo (wpAny_pure ?_))
 have k1:∀ b o,s.heap.get? b=some o→(s.heap.push (methodObj (.ref 89) (.ref 135))).get? b=some o:=fun b o e=>Heap.get?_push_of_some _ e
 have hmoN:s.heap.get? s.heap.objs.size=none:=Heap.get?_none_of_le (Nat.le_refl _)
 have hmo:(s.heap.push (methodObj (.ref 89) (.ref 135))).get? s.heap.objs.size=some (methodObj (.ref 89) (.ref 135)):=Heap.get?_push_size _ rfl
 generalize s.heap.objs.size=mo at *
 generalize s.heap.push (methodObj (.ref 89) (.ref 135))=hp1 at *
 have R1:Rel T H { s with heap:=hp1,toks:=s.toks+1 }:=R.keeps k1
 have F1:Frm T env loc H hp1:=F.ev R (.keeps k1)
 rw [starEach_ok rfl]
 refine spliced_cons (nameO P HC HA9 he (a:=a) (by unfold nameV;rw [h4];exact h5) R1 F1 ?_)
 refine spliced_nil ?_
 refine ⟨rfl,keep_ty _,?_⟩
 obtain ⟨us,n,ga,rs⟩:=R1.objs _ _ h6
 refine map_call (items:=us.toArray) ⟨_,ga,rfl,n,rfl⟩ fun h' m it t k2 hmN hitN htN hit hmp=>?_
 have kk:∀ b o,s.heap.get? b=some o→h'.get? b=some o:=fun b o e=>k2 b o (k1 b o e)
 have R2:Rel T H { s with heap:=h',toks:=s.toks+1 }:=R.keeps kk
 refine spliced_nil ⟨rfl,keep_ty _,?_⟩
 have fr:∀ x:Addr,hp1.get? x=none→H x=none∧T.B x=none∧s.heap.get? x=none:=fun x e=>by
  exact ⟨R1.noneH e,R1.noneB e,getNone k1 e⟩
 have top:h'.get? h'.objs.size=none:=Heap.get?_none_of_le (Nat.le_refl _)
 have ne:∀ {x:Addr} {o:Obj},h'.get? x=some o→x≠h'.objs.size:=fun e q=>by rw [q,top] at e;cases e
 obtain ⟨oi,ei,hci,hdi⟩:=id hit
 obtain ⟨m1,nn,m2⟩:=id hmp
 have hmo':=k2 _ _ hmo
 have moN:∀ {x:Addr},hp1.get? x=none→s.heap.get? x=none:=fun e=>(fr _ e).2.2
 have hmoF:H mo=none∧T.B mo=none:=by
  exact ⟨R.noneH hmoN,R.noneB hmoN⟩
 have neq:∀ {x y:Addr} {o o':Obj},h'.get? x=some o→h'.get? y=some o'→o.cls≠o'.cls→x≠y:=fun e e' hc q=>by rw [q,e'] at e;cases e;exact hc rfl
 have topF:H h'.objs.size=none∧T.B h'.objs.size=none∧s.heap.get? h'.objs.size=none:=by
  exact ⟨R2.top,R2.topB (Nat.le_refl _),getNone kk top⟩
 have W:=map_GW Y (A:=A.in1.in1) (HA:=(HA.le (m:=13) (by omega)).in1.in1) (h₀:=s.heap) (S:=h'.objs.size) h6 topF (fr _ hitN) ⟨(fr _ hmN).1,ne m1,neq m1 ei (by rw [hci];intro q;exact absurd (Value.type.inj q) (by decide))⟩ ⟨(fr _ htN).1,ne m2,neq m2 ei (by rw [hci];intro q;exact absurd (Value.type.inj q) (by decide))⟩ ⟨hmoF.1,ne hmo',neq hmo' ei (by rw [hci];intro q;exact absurd (Value.type.inj q) (by decide))⟩ (ne ei)
 have st:MapSt T H s.heap m it t mo a h'.objs.size 0 { s with heap:=h',toks:=s.toks+1 }:=⟨hit,hmp,hmo',R2,fun o e=>(by have e:h'.get? h'.objs.size=some o:=e;rw [top] at e;cases e),Ev.keeps kk⟩
 refine gw_list (s:={ s with heap:=h',toks:=s.toks+1 }) W (by rw [List.length_map];omega) st fun s' us' c hf hS hv=>?_
 exact g _ _ _ _ (h8 _ topF.1) (hf.1.adopt topF.2.1 ⟨us',c,hS,hv⟩) (.obj _) (hf.2.adopt topF.2.2)
end
end Mine
end
section
namespace Mine
open PySem PySem.W PyProof.Rows
noncomputable def tRun {α:Type} (n:Nat) (lt:Nat→Nat→Bool):KasT α→Option α
 | .ret a=>some a
 | .ask i j k=>if Nat.blt i n&&Nat.blt j n then tRun n lt (k (lt i j)) else none
theorem tRun_wp {α:Type} {n:Nat} {lt:Nat→Nat→Bool} {cmp:Nat→Nat→(Bool→Shared→Prop)→Shared→Prop} {G:α→Shared→Prop} {s:Shared} (hc:∀ i j C,i < n→j < n→C (lt i j) s→cmp i j C s) {a:α} (hG:G a s) (t:KasT α):tRun n lt t=some a→t.kasWp cmp G s:=by
 induction t with
 | ret b=>exact fun h=>Option.some.inj h▸hG
 | ask i j k ih =>
   intro h
   obtain ⟨e,h⟩:=ite_some h
   have e:=Bool.and_eq_true_iff.mp e
   exact hc i j _ (Nat.le_of_ble_eq_true e.1) (Nat.le_of_ble_eq_true e.2) (ih _ h)
noncomputable def rkLt (rs:List Nat) (i j:Nat):Bool:=Nat.blt (rs.getD i 0) (rs.getD j 0)
noncomputable def tChk (n:Nat) (rs:List Nat):Bool:=match tRun n (rkLt rs) (kas_sort n) with
 | some p=>p.toList.isPerm (List.range n)&&(p.toList.zip (p.toList.drop 1)).all fun q=>!rkLt rs q.2 q.1
 | none=>false
noncomputable def vecs (m:Nat):Nat→List (List Nat)
 | 0=>[[]]
 | k+1=>(vecs m k).flatMap fun r=>((List.range m).filter fun x=>!r.contains x).map (·::r)
theorem vecs_mem {m:Nat}:∀ {rs:List Nat},rs.Nodup→(∀ x∈rs,x < m)→rs∈vecs m rs.length
 | [],_,_=>.head _
 | x :: r, hn, h => by
   rw [List.nodup_cons] at hn
   refine List.mem_flatMap.mpr ⟨r,vecs_mem hn.2 fun y hy=>h y (.tail _ hy),List.mem_map.mpr ⟨x,List.mem_filter.mpr ⟨List.mem_range.mpr (h x (.head _)),?_⟩,rfl⟩⟩
   simpa using hn.1
theorem chk_all:([2,3,4,5].all fun n=>(vecs n n).all (tChk n))=true:=by decide +kernel
theorem lt3_irr (p:T3):lt3 p p=false:=by simp [lt3]
theorem lex_trans {a b c:Nat} {x y z:Prop} (f:x→y→z) (h:a < b∨(a=b∧x)) (k:b < c∨(b=c∧y)):a < c∨(a=c∧z):=by
 rcases h with h | ⟨rfl,h⟩
 ·rcases k with k | ⟨rfl,k⟩
  ·exact .inl (Nat.lt_trans h k)
  ·exact .inl h
 ·rcases k with k | ⟨rfl,k⟩
  ·exact .inl k
  ·exact .inr ⟨rfl,f h k⟩
theorem lex_tot {a b:Nat} {x y:Prop} (h:¬ (a < b∨(a=b∧x))) (k:¬ (b < a∨(b=a∧y))):a=b∧¬ x∧¬ y:=by
 have e:a=b:=Nat.le_antisymm (Nat.not_lt.mp fun q=>k (.inl q)) (Nat.not_lt.mp fun q=>h (.inl q))
 subst e
 exact ⟨rfl,fun q=>h (.inr ⟨rfl,q⟩),fun q=>k (.inr ⟨rfl,q⟩)⟩
theorem lt3_t {p q:T3} (a:lt3 p q=true):p.1 < q.1∨(p.1=q.1∧(p.2.1 < q.2.1∨(p.2.1=q.2.1∧p.2.2 < q.2.2))):=of_decide_eq_true a
theorem lt3_f {p q:T3} (a:lt3 p q=false):¬ (p.1 < q.1∨(p.1=q.1∧(p.2.1 < q.2.1∨(p.2.1=q.2.1∧p.2.2 < q.2.2)))):=of_decide_eq_false a
theorem lt3_trans {p q r:T3} (a:lt3 p q=true) (b:lt3 q r=true):lt3 p r=true :=
 decide_eq_true (lex_trans (fun h k=>lex_trans Nat.lt_trans h k) (lt3_t a) (lt3_t b))
theorem lt3_tot {p q:T3} (a:lt3 p q=false) (b:lt3 q p=false):p=q:=by
 obtain ⟨e1,a,b⟩:=lex_tot (lt3_f a) (lt3_f b)
 obtain ⟨e2,a,b⟩:=lex_tot a b
 exact Prod.ext e1 (Prod.ext e2 (Nat.le_antisymm (Nat.not_lt.mp b) (Nat.not_lt.mp a)))
noncomputable def rk (rows:List T3) (p:T3):Nat:=rows.countP fun q=>lt3 q p
theorem rk_lt {rows:List T3} {p q:T3} (hp:p∈rows) (h:lt3 p q=true):rk rows p < rk rows q:=by
 unfold rk
 have h1:∀ l:List T3,l.countP (fun x=>lt3 x p)≤l.countP (fun x=>lt3 x q):=fun l=>List.countP_mono_left fun x Z hx=>lt3_trans hx h
 obtain ⟨l,r,rfl⟩:=List.append_of_mem hp
 rw [List.countP_append,List.countP_append,List.countP_cons,List.countP_cons,lt3_irr,h]
 exact Nat.add_lt_add_of_le_of_lt (h1 l) (Nat.lt_succ_of_le (h1 r))
theorem rk_iff {rows:List T3} {p q:T3} (hp:p∈rows) (hq:q∈rows):Nat.blt (rk rows p) (rk rows q)=lt3 p q:=by
 cases h:lt3 p q with
 | true=>exact (Nat.blt_eq).mpr (rk_lt hp h)
 | false =>
   cases h':lt3 q p with
   | true=>rw [← Bool.not_eq_true,Nat.blt_eq];exact Nat.not_lt.mpr (Nat.le_of_lt (rk_lt hq h'))
   | false=>rw [lt3_tot h h',← Bool.not_eq_true,Nat.blt_eq];exact Nat.lt_irrefl _
theorem rk_bound {rows:List T3} {p:T3} (hp:p∈rows):rk rows p < rows.length:=by
 unfold rk
 obtain ⟨l,r,rfl⟩:=List.append_of_mem hp
 rw [List.countP_append,List.countP_cons,lt3_irr]
 rw [List.length_append]
 exact Nat.add_lt_add_of_le_of_lt List.countP_le_length (Nat.lt_succ_of_le List.countP_le_length)
theorem zip_tail_pairwise {α:Type} {R:α→α→Prop} (tr:∀ a b c,R a b→R b c→R a c) (l:List α):(∀ q∈l.zip (l.drop 1),R q.1 q.2)→l.Pairwise R:=by
 induction l with
 | nil=>exact fun Z=>.nil
 | cons a l ih => cases l with
   | nil=>exact fun Z=>.cons (List.forall_mem_nil _) .nil
   | cons b l =>
     intro h
     have ih:=ih fun q hq=>h q (.tail _ hq)
     have ab:R a b:=h (a,b) (.head _)
     exact .cons (List.forall_mem_cons.mpr ⟨ab,fun c hc=>tr a b c ab ((List.pairwise_cons.mp ih).1 c hc)⟩) ih
theorem tRun_congr {α:Type} {n:Nat} {lt lt':Nat→Nat→Bool} (h:∀ i j,i < n→j < n→lt i j=lt' i j) (t:KasT α):tRun n lt t=tRun n lt' t:=by
 induction t with
 | ret _=>rfl
 | ask i j k ih =>
   refine (?_:(if (Nat.blt i n&&Nat.blt j n)=true then tRun n lt (k (lt i j)) else none)=if (Nat.blt i n&&Nat.blt j n)=true then tRun n lt' (k (lt' i j)) else none)
   by_cases e:(Nat.blt i n&&Nat.blt j n)=true
   ·have e':=Bool.and_eq_true_iff.mp e
    rw [if_pos e,if_pos e,h i j (Nat.le_of_ble_eq_true e'.1) (Nat.le_of_ble_eq_true e'.2)]
    exact ih _
   ·rw [if_neg e,if_neg e]
theorem lt3_ntrans {p q r:T3} (a:lt3 q p=false) (b:lt3 r q=false):lt3 r p=false:=by
 cases e:lt3 r p with
 | false=>rfl
 | true =>
   cases e2:lt3 q r with
   | true=>rw [lt3_trans e2 e] at a;cases a
   | false=>rw [← lt3_tot e2 b,a] at e;cases e
theorem map_getD {α:Type} (d:α) (l:List α):(List.range l.length).map (fun i=>l.getD i d)=l:=by
 apply List.ext_getElem
 ·simp
 ·intro i h1 h2;simp [h2]
theorem tree_rows {rows : List T3} (hn : rows.Nodup) (h2 : 2 ≤ rows.length) (h5 : rows.length ≤ 5) : ∃ p : Array Nat, tRun rows.length (fun i j => lt3 (rows.getD i (0, 0, 0)) (rows.getD j (0, 0, 0))) (kas_sort rows.length) = some p ∧
  ((∀ i∈p.toList,i < rows.length)∧p.toList.length=rows.length)∧(p.toList.map fun i=>rows.getD i (0,0,0)).Perm rows∧(p.toList.map fun i=>rows.getD i (0,0,0)).Pairwise (fun a b=>lt3 b a=false):=by
 have gd:∀ i,i < rows.length→∃ h:i < rows.length,rows.getD i (0,0,0)=rows[i]:=fun i h=>⟨h,by simp [h]⟩
 have rl:(rows.map (rk rows)).length=rows.length:=List.length_map ..
 have rd:(rows.map (rk rows)).Nodup:=by
  refine List.pairwise_map.mpr (hn.imp_of_mem fun {a b} ha hb hab e=>hab ?_)
  cases h1:lt3 a b with
  | true=>exact absurd (rk_lt ha h1) (by omega)
  | false =>
    cases h2:lt3 b a with
    | true=>exact absurd (rk_lt hb h2) (by omega)
    | false=>exact lt3_tot h1 h2
 have hm:=vecs_mem (m:=rows.length) rd fun x hx=>by obtain ⟨p,hp,rfl⟩:=List.mem_map.mp hx;exact rk_bound hp
 rw [rl] at hm
 have hlt:∀ i j,i < rows.length→j < rows.length→rkLt (rows.map (rk rows)) i j=lt3 (rows.getD i (0,0,0)) (rows.getD j (0,0,0)):=fun i j hi hj=>by
  obtain ⟨_,ei⟩:=gd i hi;obtain ⟨_,ej⟩:=gd j hj
  rw [ei,ej,← rk_iff (rows:=rows) (List.getElem_mem hi) (List.getElem_mem hj)]
  unfold rkLt
  simp [hi,hj]
 have hc:tChk rows.length (rows.map (rk rows))=true:=by
  have hn:rows.length∈[2,3,4,5]:=by
   have:rows.length=2∨rows.length=3∨rows.length=4∨rows.length=5:=(by decide:∀ n≤5,2≤n→n=2∨n=3∨n=4∨n=5) _ (by assumption) (by assumption)
   simpa using this
  exact List.all_eq_true.mp (List.all_eq_true.mp chk_all _ hn) _ hm
 unfold tChk at hc
 rw [tRun_congr hlt] at hc
 cases e:tRun rows.length (fun i j=>lt3 (rows.getD i (0,0,0)) (rows.getD j (0,0,0))) (kas_sort rows.length) with
 | none=>rw [e] at hc;cases hc
 | some p =>
   rw [e] at hc
   dsimp only at hc
   rw [Bool.and_eq_true,List.isPerm_iff,List.all_eq_true] at hc
   refine ⟨p,rfl,⟨fun i hi=>List.mem_range.mp ((hc.1.mem_iff).mp hi),by rw [hc.1.length_eq,List.length_range]⟩,?_,?_⟩
   ·have:=hc.1.map fun i=>rows.getD i (0,0,0)
    rwa [map_getD] at this
   ·refine zip_tail_pairwise (R:=fun a b=>lt3 b a=false) (fun a b c x y=>lt3_ntrans x y) _ fun q hq=>?_
    rw [← List.map_drop,List.zip_map] at hq
    obtain ⟨⟨i,j⟩,hij,rfl⟩:=List.mem_map.mp hq
    have hz:=hc.2 _ hij
    have hi:i∈p.toList:=(List.of_mem_zip hij).1
    have hj:j∈p.toList:=List.mem_of_mem_drop (List.of_mem_zip hij).2
    rw [hlt j i (List.mem_range.mp ((hc.1.mem_iff).mp hj)) (List.mem_range.mp ((hc.1.mem_iff).mp hi))] at hz
    simpa using hz
end Mine
end
section
namespace Mine
open PySem PySem.Spec PySem.Calls PyProof.Rows PySem.W PySem.SeqAt
noncomputable def ltI3 (p q:Int×Int×Int):Bool:=if p.1==q.1 then (if p.2.1==q.2.1 then (if p.2.2==q.2.2 then false else decide (p.2.2 < q.2.2)) else decide (p.2.1 < q.2.1)) else decide (p.1 < q.1)
section
variable {prog:Program} {w:World} {A:Around} {E:Value→Shared→Prop} {s:Shared}
theorem mat_ltF {a b : Addr} {i j k i' j' k' : Int} {t1 t2 t3 u1 u2 u3 : Tok} (Y : MatAt s.heap) (ha : IsMat s.heap a #[.int i t1, .int j t2, .int k t3]) (hb : IsMat s.heap b #[.int i' u1, .int j' u2, .int k' u3])
  {P:Fin→Shared→Prop} (h:P (.done (.ret (.bool (ltI3 (i,j,k) (i',j',k'))))) s):wpAny (model prog w) A (Builtin.«tuple.__lt__» ⟨[.ref a,.ref b],[]⟩) P E s:=by
 obtain ⟨dd,nn,ea⟩:=id ha
 obtain ⟨de,ne,eb⟩:=id hb
 show wpAny _ _ (isInstance (.ref b) (.type "tuple") >>= _) _ _ s
 refine wpAny_bind ((mat_sub Y hb).here ?_)
 simp only [Bool.not_true,Bool.false_eq_true,if_false]
 refine wpAny_bind (wpAny_tupleItemsOf ea rfl ?_)
 refine wpAny_bind (wpAny_tupleItemsOf eb rfl ?_)
 have z:(#[Value.int i t1,.int j t2,.int k t3].toList.zip #[Value.int i' u1,.int j' u2,.int k' u3].toList)=[(.int i t1,.int i' u1),(.int j t2,.int j' u2),(.int k t3,.int k' u3)]:=rfl
 rw [z]
 unfold ltI3 at h
 dsimp only at h
 refine wpAny_bind ?_
 rw [List.forIn_cons]
 refine wpAny_bind (wpAny_bind (wpAny_eqBool_int ?_))
 cases e1:(i==i') with
 | false =>
   rw [e1] at h
   simp only [Bool.not_false,Bool.false_eq_true,if_true,if_false] at h ⊢
   exact wpAny_bind (wpAny_rule (wpAny_bind (lt_int (wpAny_bind (wpAny_pure (wpAny_pure (wpAny_pure (wpAny_pure h))))))))
 | true =>
 rw [e1] at h
 simp only [Bool.not_true,Bool.false_eq_true,if_true,if_false] at h ⊢
 refine wpAny_pure ?_
 dsimp only
 rw [List.forIn_cons]
 refine wpAny_bind (wpAny_bind (wpAny_eqBool_int ?_))
 cases e2:(j==j') with
 | false =>
   rw [e2] at h
   simp only [Bool.not_false,Bool.false_eq_true,if_true,if_false] at h ⊢
   exact wpAny_bind (wpAny_rule (wpAny_bind (lt_int (wpAny_bind (wpAny_pure (wpAny_pure (wpAny_pure (wpAny_pure h))))))))
 | true =>
 rw [e2] at h
 simp only [Bool.not_true,Bool.false_eq_true,if_true,if_false] at h ⊢
 refine wpAny_pure ?_
 dsimp only
 rw [List.forIn_cons]
 refine wpAny_bind (wpAny_bind (wpAny_eqBool_int ?_))
 cases e3:(k==k') with
 | false =>
   rw [e3] at h
   simp only [Bool.not_false,Bool.false_eq_true,if_true,if_false] at h ⊢
   exact wpAny_bind (wpAny_rule (wpAny_bind (lt_int (wpAny_bind (wpAny_pure (wpAny_pure (wpAny_pure (wpAny_pure h))))))))
 | true =>
 rw [e3] at h
 simp only [Bool.not_true,Bool.false_eq_true,if_true,if_false] at h ⊢
 refine wpAny_pure ?_
 dsimp only
 rw [List.forIn_nil]
 refine wpAny_pure ?_
 dsimp only
 exact wpAny_pure h
theorem mat_lt1 {a b : Addr} {i j k i' j' k' : Int} {t1 t2 t3 u1 u2 u3 : Tok} (Y : MatAt s.heap) (ha : IsMat s.heap a #[.int i t1, .int j t2, .int k t3]) (hb : IsMat s.heap b #[.int i' u1, .int j' u2, .int k' u3]) (hu : A.units < cLine)
  {Q:Bool→Shared→Prop} (h:Q (ltI3 (i,j,k) (i',j',k')) s):wpAny (model prog w) A (keyLt' oneType' (.ref a) (.ref b)) Q E s:=by
 rw [keyLt'_oneType,oneLt'_eq]
 simp only [if_true]
 refine wpAny_bind (wpAny_cRoomFor hu ?_)
 unfold callSpecialIfBound?
 refine wpAny_bind (wpAny_holding (wpAny_bind (mat_slot Y ha (by decide +kernel) F.slot_tuple_lt ?_)))
 dsimp only
 refine wpAny_bind (wpAny_call (codeAny_call_builtin F.slot_tuple_lt.plain F.entry_tuple_lt (check_slot (owner := "tuple") (n := "__lt__") (by decide +kernel) (by decide +kernel) (mat_sub Y ha) (F.args_tuple_lt_2 _ _) ?_)))
 refine mat_ltF Y ha hb ?_
 refine wpAny_pure ?_
 exact wpAny_truthy_bool h
end
theorem VRs.pick {T:TI} {hp:Heap} {rows:List T3} {vs:List Value} (r:VRs T hp (rows.map m3V) vs) (p:List Nat) (h:∀ i∈p,i < rows.length):VRs T hp ((p.map fun i=>rows.getD i (0,0,0)).map m3V) (p.map fun i=>vs.getD i Value.none):=by
 rw [List.map_map]
 refine VRs.ofRows fun i hi=>?_
 have hi:=h i hi
 have hl:i < vs.length:=by rw [← r.length,List.length_map];exact hi
 refine (?_:VR T hp (m3V (rows.getD i (0,0,0))) (vs.getD i Value.none))
 rw [show rows.getD i (0,0,0)=rows[i] by simp [hi],show vs.getD i Value.none=vs[i] by simp [hl]]
 exact r.nth i (by simp [hi]) (by simp [hl])
section
variable {T:TI} (Y:WY T)
include Y
theorem mats_at {h:Heap} {rows:List T3} {vs:List Value} (r:VRs T h (rows.map m3V) vs) {i:Nat} (hi:i < rows.length):∃ a t1 t2 t3,vs.getD i Value.none=.ref a∧IsMat h a #[.int (castT (rows.getD i (0,0,0))).1 t1,.int (castT (rows.getD i (0,0,0))).2.1 t2,.int (castT (rows.getD i (0,0,0))).2.2 t3]:=by
 have hl:i < vs.length:=by rw [← r.length,List.length_map];exact hi
 have p:=r.nth i (x:=m3V rows[i]) (v:=vs[i]) (by simp [hi]) (by simp [hl])
 rw [show rows.getD i (0,0,0)=rows[i] by simp [hi],show vs.getD i Value.none=vs[i] by simp [hl]]
 generalize vs[i]=v at *
 generalize rows[i]=q at *
 obtain ⟨_,_,_,_,rfl,e1,r1⟩:=p.iM
 obtain ⟨t1,t2,t3,rfl⟩:=r1.ints3
 rw [Y.cM] at e1
 exact ⟨_,t1,t2,t3,rfl,_,_,e1⟩
omit Y in
theorem beq_cast (a b:Nat):((a:Int)==(b:Int))=(a==b):=by
 rw [Bool.eq_iff_iff,beq_iff_eq,beq_iff_eq];exact Int.ofNat_inj
omit Y in
theorem lt_cast (a b:Nat):decide ((a:Int) < (b:Int))=decide (a < b):=decide_eq_decide.mpr Int.ofNat_lt
omit Y in
theorem lex0 {a b:Nat}:(if (a==b)=true then false else decide (a < b))=decide (a < b):=by
 by_cases e:a=b
 ·rw [if_pos (beq_iff_eq.mpr e),decide_eq_false (e▸Nat.lt_irrefl a)]
 ·exact if_neg (mt beq_iff_eq.mp e)
omit Y in
theorem lex1 {a b:Nat} {R:Prop} [Decidable R]:(if (a==b)=true then decide R else decide (a < b))=decide (a < b∨(a=b∧R)):=by
 by_cases e:a=b
 ·rw [if_pos (beq_iff_eq.mpr e)];exact decide_eq_decide.mpr ⟨fun h=>.inr ⟨e,h⟩,fun h=>h.elim (fun l=>absurd e (Nat.ne_of_lt l)) (·.2)⟩
 ·rw [if_neg (mt beq_iff_eq.mp e)];exact decide_eq_decide.mpr ⟨.inl,fun h=>h.elim id fun c=>absurd c.1 e⟩
omit Y in
theorem ltI3_cast (p q:T3):ltI3 (castT p) (castT q)=lt3 p q:=by
 refine (?_:(if ((p.1:Int)==(q.1:Int))=true then (if ((p.2.1:Int)==(q.2.1:Int))=true then (if ((p.2.2:Int)==(q.2.2:Int))=true then false else decide ((p.2.2:Int) < (q.2.2:Int))) else decide ((p.2.1:Int) < (q.2.1:Int))) else decide ((p.1:Int) < (q.1:Int)))=_)
 rw [beq_cast,beq_cast,beq_cast,lt_cast,lt_cast,lt_cast,lex0,lex1,lex1];rfl
theorem sort_mats {A : Around} (hu : A.units < cLine) {a : Addr} {rows : List T3} {H : Hp} (ha : H a = some (.list (rows.map m3V))) (hn : rows.Nodup) (h5 : rows.length ≤ 5) {s : Shared} (R : Rel T H s) {P : Fin → Shared → Prop} {E : Value → Shared → Prop}
  (g:∀ (rows':List T3) vs' n' h',rows'.Perm rows→rows'.Pairwise (fun p q=>lt3 q p=false)→h'.get? a=some (seqObj "list" (List.toArray vs') n')→VRs T h' (rows'.map m3V) vs'→(∀ b o,b≠a→s.heap.get? b=some o→h'.get? b=some o)→P (.done (.ret .none)) { s with heap:=h' }) :
  wpAny T.M A (Builtin.«list.sort» ⟨[.ref a],[]⟩) P E s:=by
 obtain ⟨vs,n,ga,rs⟩:=R.objs _ _ ha
 have hvl:rows.length=vs.length:=by rw [← rs.length,List.length_map]
 have hs:vs.length≤sizeLine:=Nat.le_trans (Nat.le_of_eq hvl.symm) (Nat.le_trans h5 (by decide))
 have ho:s.heap.get? a=some (seqObj "list" vs.toArray n):=ga
 rw [list_sort_plain]
 have hlt:a < s.heap.objs.size:=Heap.lt_size ho
 refine wpAny_bind (listItems_at ho rfl ?_)
 refine wpAny_bind (listUpdate_at ho rfl ?_ hs (Nat.zero_le _))
 have s1:=Heap.SameBut.update s.heap a (Obj.mapSeq fun Z=>(#[]:Array Value))
 obtain ⟨e1,ho1⟩:∃ e1,(s.heap.update a (Obj.mapSeq fun Z=>#[])).get? a=some (seqObj "list" #[] e1):=⟨_,get?_update_seq ho (fun Z=>#[])⟩
 refine wpAny_bind (seqEpoch_at ho1 rfl ?_)
 refine wpAny_bind (wpAny_newTuple ?_ hs)
 refine wpAny_bind (wpAny_newList ?_ (Nat.zero_le _))
 refine wpAny_holding ?_
 obtain ⟨h2,hh2⟩:∃ h2,((s.heap.update a (Obj.mapSeq fun Z=>#[])).push (seqObj "tuple" vs.toArray 0)).push (seqObj "list" #[] 0)=h2:=⟨_,rfl⟩
 show wpAny T.M A _ P E { s with heap:=((s.heap.update a (Obj.mapSeq fun Z=>#[])).push (seqObj "tuple" vs.toArray 0)).push (seqObj "list" #[] 0) }
 have k2:∀ b o,b≠a→s.heap.get? b=some o→h2.get? b=some o:=fun b o hb e=>by rw [← hh2];exact Heap.get?_push_of_some _ (Heap.get?_push_of_some _ ((s1.2 b hb).trans e))
 have ho2:h2.get? a=some (seqObj "list" #[] e1):=by rw [← hh2];exact Heap.get?_push_of_some _ (Heap.get?_push_of_some _ ho1)
 rw [hh2]
 have nfa:∀ o,s.heap.get? a=some o→¬ Fixed T o:=fun o e f=>by rw [ho] at e;cases e;rcases f with ⟨f | f,_⟩ | ⟨f,_⟩ <;> simp at f
 have fk:FixKeep T s.heap h2:=fun b o e f=>k2 b o (fun q=>by subst q;exact nfa o e f) e
 have Y2:MatAt h2:=matAt_of Y fun b o e=>k2 b o (fun q=>by rw [q] at e;have:=R.baseNone e;rw [ha] at this;cases this) (R.base b o e)
 have rs2:=rs.mono fk
 have fin:∀ (out:List Value) (rows':List T3),rows'.Perm rows→rows'.Pairwise (fun p q=>lt3 q p=false)→VRs T h2 (rows'.map m3V) out→P (.done (.ret .none)) { s with heap:=h2.update a (Obj.mapSeq fun Z=>out.toArray) }:=fun out rows' hp hw hr=>by
  have s2:=Heap.SameBut.update h2 a (Obj.mapSeq fun Z=>out.toArray)
  refine g rows' out _ _ hp hw (get?_update_seq ho2 fun Z=>out.toArray) (hr.mono fun b o e f=>?_) fun b o hb e=>(s2.2 b hb).trans (k2 b o hb e)
  refine (s2.2 b (fun q=>?_)).trans e
  subst q;rw [ho2] at e;cases e;rcases f with ⟨f | f,_⟩ | ⟨f,_⟩ <;> simp at f
 dsimp only
 by_cases hlen:vs.toArray.size < 2
 ·rw [if_pos hlen,if_pos hlen]
  refine wpAny_bind (wpAny_pure ?_)
  rw [StateT.run_pure]
  refine wpAny_bind (wpAny_pure ?_)
  dsimp only
  have out:(arrOf (SortSt.mk' general' (vs.toArray.zip vs.toArray) #[] 7 none)).map (·.2)=vs.toArray:=by
   apply Array.toList_inj.mp
   rw [Array.toList_map]
   show ((pairsOf vs).toList).map (·.2)=vs
   rw [pairsOf_toList,List.map_snd_zip (Nat.le_refl _)]
  refine wpAny_bind (seqEpoch_at (s:={ s with heap:=h2 }) ho2 rfl ?_)
  rw [out]
  refine wpAny_bind (listUpdate_at (s:={ s with heap:=h2 }) ho2 rfl ?_ (Nat.zero_le _) (hsz2:=Nat.le_succ_of_le hs))
  simp only [bne_self_eq_false,Bool.false_eq_true,if_false]
  refine wpAny_pure ?_
  refine fin vs rows (List.Perm.refl _) ?_ rs2
  simp only [List.size_toArray] at hlen
  cases rows with
  | nil=>exact .nil
  | cons r rows => cases rows with
    | nil=>exact .cons (List.forall_mem_nil _) .nil
    | cons _ _=>exact absurd (Nat.lt_of_le_of_lt (Nat.le_of_eq hvl) hlen) (Nat.not_lt.mpr (Nat.le_add_left 2 _))
 ·rw [if_neg hlen,if_neg hlen]
  have hv2:2≤vs.length:=Nat.not_lt.mp hlen
  refine wpAny_bind (kas_kind (s:={ s with heap:=h2 }) (T:=.ref 135) hv2 (fun v hv=>?_) (by decide) (by decide) ?_)
  ·obtain ⟨i,hi,rfl⟩:=List.mem_iff_getElem.mp hv
   obtain ⟨x,t1,t2,t3,e,dd,nn,hx⟩:=mats_at Y rs2 (i:=i) (hvl▸hi)
   rw [show vs.getD i Value.none=vs[i] by simp [hi]] at e
   rw [e]
   exact (Looks.ld hx).andThen .now
  ·obtain ⟨p,hp1,⟨hpm,hpl⟩,hp2,hp3⟩:=tree_rows hn (hvl▸hv2) h5
   rw [hvl] at hp1
   refine wpAny_bind (wpAny_mono (kat_run (s:={ s with heap:=h2 }) (ks:=vs) (vs:=vs) (κ:=oneType') (G:=fun p' s'=>p'=p∧s'={ s with heap:=h2 }) (Q:=fun st' s'=>(arrOf st').map (·.2)=List.toArray (p.toList.map fun i=>vs.getD i Value.none)∧failedOf st'=none∧s'={ s with heap:=h2 }) rfl hv2 (Nat.lt_of_le_of_lt (Nat.le_trans (Nat.le_of_eq hvl.symm) h5) (by decide)) (fun p' st' s' a1 a2 a3 a4=>?_) ?_) ?_ fun Z Z e=>e)
   ·obtain ⟨rfl,rfl⟩:=a4
    exact ⟨kat_snds rfl a2,a3,rfl⟩
   ·refine tRun_wp (lt:=fun i j=>lt3 (rows.getD i (0,0,0)) (rows.getD j (0,0,0))) (fun i j C hi hj hC=>?_) ⟨rfl,rfl⟩ _ hp1
    unfold kas_ask
    obtain ⟨x,t1,t2,t3,e,hx⟩:=mats_at Y rs2 (i:=i) (hvl▸hi)
    obtain ⟨y,u1,u2,u3,e',hy⟩:=mats_at Y rs2 (i:=j) (hvl▸hj)
    rw [e,e']
    refine mat_lt1 Y2 hx hy hu ?_
    have:=ltI3_cast (rows.getD i (0,0,0)) (rows.getD j (0,0,0))
    unfold castT at this ⊢
    rw [this]
    exact hC
   ·rintro ⟨⟨⟩,st'⟩ s' ⟨b1,b2,rfl⟩
    dsimp only at b1 b2 ⊢
    refine wpAny_bind (seqEpoch_at (s:={ s with heap:=h2 }) ho2 rfl ?_)
    rw [b1]
    refine wpAny_bind (listUpdate_at (s:={ s with heap:=h2 }) ho2 rfl ?_ (Nat.zero_le _) (hsz2:=Nat.le_trans (Nat.le_of_eq ((List.length_map _).trans hpl)) (Nat.le_succ_of_le (hvl▸hs))))
    rw [b2]
    simp only [bne_self_eq_false,Bool.false_eq_true,if_false]
    exact wpAny_pure (fin _ _ hp2 hp3 (rs2.pick _ hpm))
omit Y in
theorem Rel.turnK {H:Hp} {s:Shared} (R:Rel T H s) {a:Addr} {h':Heap} {n:Nat} {o o₀:O} (e₀:H a=some o₀) (hs:∀ b ob,b≠a→s.heap.get? b=some ob→h'.get? b=some ob) (ho:OR T h' a o):Rel T (H.set a o) { s with heap:=h',toks:=n }∧Ev H s.heap (H.set a o) h':=by
 have ra:=(R.objs a o₀ e₀).there
 have na:∀ b,H b=none→b≠a:=fun b hb q=>by rw [q,e₀] at hb;cases hb
 have fk:FixKeep T s.heap h':=fun b ob e f=>hs b ob (na b (R.fixNone e f)) e
 refine ⟨⟨fun b ob e=>hs b ob (na b (R.baseNone e)) (R.base b ob e),fun b o' e=>?_,fun b o' e=>?_,R.os,R.gens⟩,⟨fun b ob e n=>hs b ob (na b n) e,fun b o' e=>?_,fun b ob e=>?_⟩⟩
 ·by_cases q:b=a
  ·subst q;rw [Hp.set_self] at e;cases e;exact ho
  ·rw [Hp.set_ne _ _ q] at e
   obtain ⟨ob,g,_⟩:=(R.objs b o' e).there
   exact (R.objs b o' e).mono fk ((hs b ob q g).trans g.symm)
 ·by_cases q:b=a
  ·subst q;exact R.new _ _ e₀
  ·rw [Hp.set_ne _ _ q] at e;exact R.new b o' e
 ·by_cases q:b=a
  ·subst q;exact .inl ⟨_,e₀⟩
  ·rw [Hp.set_ne _ _ q] at e;exact .inl ⟨_,e⟩
 ·by_cases q:b=a
  ·subst q;obtain ⟨ob',g,_⟩:=ho.there;exact ⟨ob',g⟩
  ·exact ⟨ob,hs b ob q e⟩
theorem call_sort {A : Around} (HA : Rm 2 A) {a : Addr} {rows : List T3} {H : Hp} {K : KV} (ha : H a = some (.list (rows.map m3V))) (hn : rows.Nodup) (h5 : rows.length ≤ 5) (hk : ∀ rows' : List T3, rows'.Perm rows → rows'.Pairwise (fun p q => lt3 q p = false) → K .none (H.set a (.list (rows'.map m3V)))) {s : Shared} (R : Rel T H s)
  {Q:Value→Shared→Prop} {E:Value→Shared→Prop} (g:Goes T H s K Q):wpAny T.M A (call (.builtin "list.sort") [.ref a]) Q E s:=by
 obtain ⟨vs,n,ga,rs⟩:=R.objs _ _ ha
 refine wpAny_call_entry slot_list_sort ⟨_,ga,rfl⟩ entry_list_sort (sort_mats Y (A:=A.in1) (Nat.lt_of_le_of_lt (Nat.add_le_add_left (by decide) A.units) HA.2.2) ha hn h5 R fun rows' vs' n' h' hp hw hg hv hkp=>⟨_,rfl,?_⟩) (args_list_sort _)
 have z:=R.turnK (n:=s.toks) (o:=.list (rows'.map m3V)) ha (fun b ob hb e=>hkp b ob hb e) ⟨vs',n',hg,hv⟩
 exact g _ _ _ _ (hk rows' hp hw) z.1 .none z.2
end
end Mine
end
section
namespace Mine
open PySem
/-! the blocks of two sorted listings of five rows: all patterns -/
noncomputable def ins3 (p:T3):List T3→List T3
 | []=>[p]
 | q::r=>if lt3 q p then q::ins3 p r else p::q::r
noncomputable def isort3:List T3→List T3
 | []=>[]
 | p::r=>ins3 p (isort3 r)
noncomputable def gen5:Nat→Nat→List (List (Option Nat))
 | 0,_=>[[]]
 | n+1,lo=>(gen5 n lo).map (none::·)++((List.range 5).filter (fun j=>lo≤j)).flatMap fun j=>(gen5 n (j+1)).map (some j::·)
noncomputable def Mono:Nat→List (Option Nat)→Prop
 | _,[]=>True
 | lo,none::r=>Mono lo r
 | lo,some j::r=>lo≤j∧j < 5∧Mono (j+1) r
theorem mem_gen:∀ (m:List (Option Nat)) (lo:Nat),Mono lo m→m∈gen5 m.length lo
 | [],lo,_=>.head _
 | none::r,lo,h=>List.mem_append.mpr (.inl (List.mem_map.mpr ⟨r,mem_gen r lo h,rfl⟩))
 | some j::r,lo,h=>List.mem_append.mpr (.inr (List.mem_flatMap.mpr ⟨j,List.mem_filter.mpr ⟨List.mem_range.mpr h.2.1,by simpa using h.1⟩,List.mem_map.mpr ⟨r,mem_gen r (j+1) h.2.2,rfl⟩⟩))
noncomputable def okRuns (rs:List T3) (i j:Nat):Bool:=match rs with
 | []=>true
 | p::r=>decide (i≤p.1∧j≤p.2.1∧p.1+p.2.2≤5∧p.2.1+p.2.2≤5)&&okRuns r (p.1+p.2.2) (p.2.1+p.2.2)
noncomputable def nod3:List T3→Bool
 | []=>true
 | p::r=>!r.contains p&&nod3 r
theorem nod3_of:∀ {l:List T3},nod3 l=true→l.Nodup
 | [],_=>.nil
 | p :: r, h => by
   unfold nod3 at h
   rw [Bool.and_eq_true] at h
   exact List.nodup_cons.mpr ⟨by simpa using h.1,nod3_of h.2⟩
noncomputable def okPat (m:List (Option Nat)):Bool:=(match gl m 12 [(0,5,0,5)] [] with
 | none=>false
 | some bs=>Nat.ble bs.length 5&&nod3 bs&&(naP (isort3 bs) 5 5==runsP 0 [] m++[(5,5,0)]))&&okRuns (runsP 0 [] m++[(5,5,0)]) 0 0&&Nat.ble (runsP 0 [] m++[(5,5,0)]).length 6
theorem all_pats:((gen5 5 0).all okPat)=true:=by decide +kernel
theorem ins3_perm (p:T3) (l:List T3):(ins3 p l).Perm (p::l):=by
 induction l with
 | nil=>exact .refl _
 | cons q r ih =>
   by_cases c:lt3 q p=true
   ·rw [show ins3 p (q::r)=_ from if_pos c];exact (ih.cons q).trans (.swap ..)
   ·rw [show ins3 p (q::r)=_ from if_neg c]
theorem isort3_perm:∀ l,(isort3 l).Perm l
 | []=>.refl _
 | p::r=>(ins3_perm p _).trans ((isort3_perm r).cons p)
theorem ins3_sorted (p:T3) (l:List T3):l.Pairwise (fun a b=>lt3 b a=false)→(ins3 p l).Pairwise (fun a b=>lt3 b a=false):=by
 induction l with
 | nil=>exact fun Z=>.cons (List.forall_mem_nil _) .nil
 | cons q r ih =>
   intro h
   have h1:=List.pairwise_cons.mp h
   by_cases c:lt3 q p=true
   ·rw [show ins3 p (q::r)=_ from if_pos c]
    refine .cons (fun x hx=>?_) (ih h1.2)
    cases (List.mem_cons.mp ((ins3_perm p r).mem_iff.mp hx)) with
    | inl e=>exact e▸bool_f fun e2=>nomatch (lt3_irr q).symm.trans (lt3_trans c e2)
    | inr hx=>exact h1.1 x hx
   ·have c':=bool_f c
    rw [show ins3 p (q::r)=_ from if_neg c]
    exact .cons (List.forall_mem_cons.mpr ⟨c',fun x hx=>lt3_ntrans c' (h1.1 x hx)⟩) h
theorem isort3_sorted:∀ l:List T3,(isort3 l).Pairwise (fun a b=>lt3 b a=false)
 | []=>.nil
 | p::r=>ins3_sorted p _ (isort3_sorted r)
theorem sorted_uniq {α:Type} {lt:α→α→Bool} (tot:∀ a b,lt a b=false→lt b a=false→a=b) {l:List α}:∀ {l':List α},l.Perm l'→l.Pairwise (fun a b=>lt b a=false)→l'.Pairwise (fun a b=>lt b a=false)→l=l':=by
 induction l with
 | nil=>exact fun p Z Z=>(List.nil_perm.mp p).symm
 | cons a r ih =>
   intro l' p h h'
   cases l' with
   | nil=>exact List.perm_nil.mp p
   | cons b r' =>
     have h1:=List.pairwise_cons.mp h
     have h2:=List.pairwise_cons.mp h'
     have e:a=b:=(List.mem_cons.mp (p.mem_iff.mp (.head _:a∈a::r))).elim id fun ha=>(List.mem_cons.mp (p.mem_iff.mpr (.head _:b∈b::r'))).elim Eq.symm fun hb=>tot _ _ (h2.1 a ha) (h1.1 b hb)
     subst e
     rw [ih (List.perm_cons a |>.mp p) h1.2 h2.2]
theorem pat_facts {m : List (Option Nat)} (hl : m.length = 5) (hm : Mono 0 m) : ∃ bs, gl m 12 [(0, 5, 0, 5)] [] = some bs ∧ bs.length ≤ 5 ∧ bs.Nodup ∧ (∀ bs' : List T3, bs'.Perm bs → bs'.Pairwise (fun p q => lt3 q p = false) → naP bs' 5 5 = runsP 0 [] m ++ [(5, 5, 0)]) ∧
  okRuns (runsP 0 [] m++[(5,5,0)]) 0 0=true∧(runsP 0 [] m++[(5,5,0)]).length≤6:=by
 have h:=mem_gen m 0 hm
 rw [hl] at h
 have h:=List.all_eq_true.mp all_pats m h
 unfold okPat at h
 cases e:gl m 12 [(0,5,0,5)] [] with
 | none=>rw [e] at h;cases h
 | some bs =>
   rw [e] at h
   simp only [Bool.and_eq_true,beq_iff_eq,Nat.ble_eq] at h
   obtain ⟨⟨⟨⟨a,b⟩,c⟩,d⟩,f⟩:=h
   exact ⟨bs,rfl,a,nod3_of b,fun bs' hp hs=>by rw [sorted_uniq (lt:=lt3) (fun Z Z=>lt3_tot) (hp.trans (isort3_perm bs).symm) hs (isort3_sorted bs)];exact c,d,f⟩
theorem mono_of {new:List Str} (h5:new.length≤5) (hn:new.Pairwise (fun a b=>slt a b=true)) (old:List Str):∀ (lo:Nat),old.Pairwise (fun a b=>slt a b=true)→(∀ r∈old,∀ j,new.findIdx? (·==r)=some j→lo≤j)→Mono lo (mOf old new):=by
 induction old with
 | nil=>exact fun Z Z Z=>trivial
 | cons a r ih =>
   intro lo ho hlo
   have h1:=List.pairwise_cons.mp ho
   refine (?_:Mono lo (new.findIdx? (·==a)::mOf r new))
   cases e:new.findIdx? (·==a) with
   | none=>exact ih lo h1.2 fun x hx=>hlo x (.tail _ hx)
   | some j =>
     obtain ⟨a1,_,_,a4⟩:=find_some e
     refine ⟨hlo a (.head _) j e,Nat.lt_of_lt_of_le a4 h5,ih (j+1) h1.2 fun x hx j' e'=>?_⟩
     obtain ⟨b1,_,_,b4⟩:=find_some e'
     have hax:=h1.1 x hx
     have a1:=Option.some.inj ((List.getElem?_eq_getElem a4).symm.trans a1)
     have b1:=Option.some.inj ((List.getElem?_eq_getElem b4).symm.trans b1)
     refine Nat.lt_of_not_le fun hle=>?_
     cases Nat.lt_or_eq_of_le hle with
     | inl hjj =>
       have:=List.pairwise_iff_getElem.mp hn j' j b4 a4 hjj
       rw [b1,a1] at this
       rw [slt_asym this] at hax;exact nomatch hax
     | inr hq =>
       have e:x=a:=b1.symm.trans (by subst hq;exact a1)
       rw [e,slt_irr] at hax;exact nomatch hax
end Mine
end
section
namespace Mine
open PySem PySem.Spec PySem.Calls PyProof.Rows PySem.W PySem.SeqAt
inductive XL:CS
 | mat {i j k:Int} {H:Hp} {K:KV}:K (matRow (i,j,k)) H→XL (.lit (.ref 135)) [.int i,.int j,.int k] H K
 | sort {a:Addr} {rows:List T3} {H:Hp} {K:KV}:H a=some (.list (rows.map m3V))→rows.Nodup→rows.length≤5→(∀ rows':List T3,rows'.Perm rows→rows'.Pairwise (fun p q=>lt3 q p=false)→K .none (H.set a (.list (rows'.map m3V))))→XL (.lit (.builtin "list.sort")) [.obj a] H K
 | sorted {a:Addr} {rows:List Str} {H:Hp} {K:KV}:H a=some (.list (rows.map .str))→rows.length≤60→(∀ (rows':List Str) c,rows'.Perm rows→rows'.Pairwise (fun p q=>slt q p=false)→H c=none→K (.obj c) (H.set c (.list (rows'.map .str))))→XL (.lit (.builtin "sorted")) [.obj a] H K
 | fmt1 {i:Int} {H:Hp} {K:KV}:i.natAbs.log2 < 1920→K (.str (toString i)) H→XL (.lit (.builtin "str.format")) [.str "{}",.int i] H K
 | fmt2 {i j:Int} {c e:Nat} {H:Hp} {K:KV}:i.natAbs.log2 < 1920→j.natAbs.log2 < 1920→Str.ofString (toString i)=⟨#[c]⟩→Str.ofString (toString j)=⟨#[e]⟩→K (.str ⟨#[c,44,e]⟩) H→XL (.lit (.builtin "str.format")) [.str "{},{}",.int i,.int j] H K
theorem VRs.strs {T:TI} {h:Heap} {rows:List Str}:∀ {vs:List Value},VRs T h (rows.map .str) vs→StrsAre vs rows:=by
 induction rows with
 | nil=>intro vs r;rw [r.nil_eq];exact .nil
 | cons x rows ih=>intro us r;obtain ⟨v,vs,rfl,a,b⟩:=VRs.cut r;obtain ⟨t,rfl⟩:=a.iS;exact .cons x t (ih b)
theorem StrsAre.vrs {T:TI} {h:Heap} {rows:List Str} {vs:List Value} (r:StrsAre vs rows):VRs T h (rows.map .str) vs:=by
 induction r with
 | nil=>exact .nil
 | cons x t r ih=>exact .cons (.str x t) ih
theorem rising_pw (l:List Str):∀ (p:Str),risingS p l=true→(p::l).Pairwise (fun a b=>slt b a=false):=by
 induction l with
 | nil=>exact fun Z Z=>.cons (List.forall_mem_nil _) .nil
 | cons x r ih =>
   intro p h
   have h:(!ltCps x.cps.toList p.cps.toList&&risingS x r)=true:=h
   rw [Bool.and_eq_true,ltCps_eq] at h
   have ih:=ih x h.2
   have hx:slt x p=false:=by have:=h.1;unfold slt;simpa using this
   exact .cons (List.forall_mem_cons.mpr ⟨hx,fun y hy=>slt_neg_trans hx ((List.pairwise_cons.mp ih).1 y hy)⟩) ih
theorem sortedS_pw:∀ l:List Str,sortedS l=true→l.Pairwise (fun a b=>slt b a=false)
 | [],_=>.nil
 | x::r,h=>rising_pw r x h
theorem VRs.one {T:TI} {h:Heap} {x:V} {vs:List Value} (r:VRs T h [x] vs):∃ v,vs=[v]∧VR T h x v:=vrs_one r
section
variable {T:TI} (Y:WY T)
include Y
theorem keep_mat {H:Hp} {s:Shared} (R:Rel T H s):KeepOk T s (.ref 135):=fun A Q E h=>by
 have YM:=matAt_of Y R.base
 unfold keeperOf
 refine wpAny_bind (wpAny_load YM.cls ?_)
 show wpAny _ _ (specialOf (.ref 135) "__call__" >>= _) _ _ _
 refine wpAny_bind ((mat_call1 YM).here ?_)
 exact wpAny_pure (h _ (by intro x;cases x))
theorem xl_sound {A:Around} (HA:Rm 24 A) {f:V} {args:List V} {H:Hp} {K:KV} (h:XL f args H K) {s:Shared} {fv:Value} {vs:List Value} (R:Rel T H s) (rf:VR T s.heap f fv) (ra:VRs T s.heap args vs) {Q:Value→Shared→Prop} {E:Value→Shared→Prop} (g:Goes T H s K Q):wpAny T.M A (call fv vs) Q E s:=by
 cases h with
 | mat k =>
   obtain rfl:=rf.iL
   exact call_match Y (HA.le (by omega)) k R ra g
 | sort ha hn h5 k =>
   obtain rfl:=rf.iL;obtain ⟨v,rfl,r1⟩:=ra.one;obtain rfl:=r1.iO
   exact call_sort Y (HA.le (by omega)) ha hn h5 k R g
 | @sorted a rows _ _ ha hl k =>
   obtain rfl:=rf.iL;obtain ⟨v,rfl,r1⟩:=ra.one;obtain rfl:=r1.iO
   obtain ⟨vs,n,ga,rs⟩:=R.objs _ _ ha
   have hvl:rows.length=vs.length:=by rw [← rs.length,List.length_map]
   refine sorted_strs ⟨_,ga,rfl,n,rfl⟩ rs.strs (by omega) fun out ss' a1 a2 a3=>?_
   obtain ⟨e,he⟩:=sortedAll_at s.heap vs out
   have hc:s.heap.get? (s.heap.objs.size+1)=none:=Heap.get?_none_of_le (Nat.le_succ _)
   have z:=R.allocK (h':=sortedAll s.heap vs out) (o:=.list (ss'.map .str)) s.toks (fun Z Z=>sortedAll_old) hc ⟨out.toList,e,he,StrsAre.vrs a1⟩
   refine g _ _ _ _ (k ss' _ a2 (sortedS_pw _ a3) ?_) z.1 (.obj _) z.2
   exact R.noneH hc
 | @fmt1 i _ _ hi k =>
   obtain rfl:=rf.iL;obtain ⟨v,us,rfl,r1,ra⟩:=ra.cut;obtain ⟨u,rfl,r2⟩:=ra.one;obtain ⟨_,rfl⟩:=r1.iS;obtain ⟨_,rfl⟩:=r2.iI
   exact call_meets F.slot_str_format_m (typeIs_str _ _ _) F.entry_str_format_m (F.args_str_format_m_2 _ _) (fmt1 i _ _ hi) fun t' tk=>g _ _ _ _ k (R.toks _) (.str _ _) (.refl _ _)
 | @fmt2 i j c e _ _ hi hj hc he k =>
   obtain rfl:=rf.iL;obtain ⟨v,us,rfl,r1,ra⟩:=ra.cut;obtain ⟨u,us,rfl,r2,ra⟩:=ra.cut;obtain ⟨x,rfl,r3⟩:=ra.one;obtain ⟨_,rfl⟩:=r1.iS;obtain ⟨_,rfl⟩:=r2.iI;obtain ⟨_,rfl⟩:=r3.iI
   exact call_meets F.slot_str_format_m (typeIs_str _ _ _) F.entry_str_format_m (by unfold argsOk;kernel_rfl) (fmt2 i j _ _ _ c e hi hj hc he) fun t' tk=>g _ _ _ _ k (R.toks _) (.str _ _) (.refl _ _)
noncomputable def fF (a:Addr):Option FI:=ftab.lookup a
theorem sysL:Sys T gF clF fF XL LMake 16 where
 wld C L LS r:=wld_of Y C L LS r
 ext A HA env he e loc H K h s R F Q E g:=lmake_sound Y HA he h R F g
 lim:=Y.lim
 fns:=ftab_ok Y
 extra A HA f args H K h s fv vs R rf ra Q E g:=xl_sound Y HA h R rf ra g
 neM:=neM_of Y
 keepX f args H K h s fv R rf:=by cases h <;> (rw [rf.iL];first | exact keep_builtin _ | exact keep_mat Y R)
 mats A HA xs H s v R rv Q E g:=mats_of Y HA R rv g
noncomputable abbrev SL (n:Nat):Sy:=syAt gF clF fF XL LMake 16 n
theorem cL_sound (n:Nat):SoundC T (SL n).C (2 * n+24):=sysSound (sysL Y) n
end
end Mine
end
section
namespace Mine
open PySem PySem.Spec PySem.Calls PyProof.Rows
noncomputable def dgS (k:Nat):Str:=⟨#[48+k]⟩
theorem dg_ofs:∀ k:Nat,k < 10→Str.ofString (toString (k:Int))=dgS k:=by decide
theorem dg_lg:∀ k:Nat,k < 10→((k:Int)).natAbs.log2 < 1920:=by decide
noncomputable def rngS (i x:Nat):Str:=if x=i+1 then dgS (i+1) else ⟨#[48+(if i < x then i+1 else i),44,48+(x - i)]⟩
def SpFmt1 (S:Sy):Prop:=∀ (i:Int) (H:Hp) (K:KV),i.natAbs.log2 < 1920→K (.str (toString i)) H→S.C (.lit (.builtin "str.format")) [.str "{}",.int i] H K
def SpFmt2 (S:Sy):Prop:=∀ (i j:Int) (c e:Nat) (H:Hp) (K:KV),i.natAbs.log2 < 1920→j.natAbs.log2 < 1920→Str.ofString (toString i)=⟨#[c]⟩→Str.ofString (toString j)=⟨#[e]⟩→K (.str ⟨#[c,44,e]⟩) H→S.C (.lit (.builtin "str.format")) [.str "{},{}",.int i,.int j] H K
theorem cm_fmt {S:Sy} {H:Hp} {s:Str} {P:V→Prop} (h:P (.lit (.builtin "str.format"))):∃ f,calleeM S.cl H "format" (.str s) f∧P f:=⟨_,.kind .str rfl,h⟩
noncomputable abbrev frS:Scope:=fnScope "_format_range_unified" topB
noncomputable abbrev frN:List Str:=["start", "stop", "beginning", "length"]
theorem nm_fr:∀ x,hasS frN x=true→frS.names.lookup x=some .local:=nm_of (by decide +kernel)
theorem eq1 {a b:Nat} (h:((a:Int)==(b:Int))=true):a=b:=Int.ofNat.inj (eq_of_beq h)
theorem ne1 {a b:Nat} (h:((a:Int)==(b:Int))=false):¬ a=b:=fun q=>by rw [q] at h;exact absurd (beq_self_eq_true (b:Int)) (fun e=>Bool.noConfusion (e.symm.trans h))
theorem rng1 {i x:Nat} (h:x - i=1) (h1:i≤x):x=i+1:=by rw [← Nat.sub_add_cancel h1,h,Nat.add_comm]
theorem rngS1 {i x:Nat} (h:x=i+1):rngS i x=dgS (i+1):=if_pos h
theorem rngS2 {i x m:Nat} (h:¬ x - i=1) (hm:(if i < x then i+1 else i)=m):rngS i x=⟨#[48+m,44,48+(x - i)]⟩:=by
 rw [← hm];exact if_neg fun q=>h (by rw [q];exact Nat.add_sub_cancel_left i 1)
theorem lt10 {a:Nat} (h:a≤5):a+1 < 10:=Nat.lt_of_le_of_lt (Nat.succ_le_succ h) (by decide)
theorem c_fmtr {S : Sy} (f1 : SpFmt1 S) (f2 : SpFmt2 S) {i x : Nat} (h1 : i ≤ x) (h2 : x ≤ 5) {H : Hp} {K : KS} (hK : ∀ loc, K (.ret (.str (rngS i x))) loc H) :
  wSs S (fnScope "_format_range_unified" topB) (fnBody "_format_range_unified" topB) [("start",some (.int i)),("stop",some (.int x))] H K:=by
 have k:Kn frS frN [("start",.int i),("stop",.int x)] [("start",some (.int i)),("stop",some (.int x))]:=Kn.init nm_fr
 have hi:=Nat.le_trans h1 h2
 have hi10:=lt10 hi
 have hx10:x - i < 10:=Nat.lt_of_le_of_lt (Nat.sub_le x i) (Nat.lt_of_le_of_lt h2 (by decide))
 with_unfolding_all refine x_doc ?_
 repeat walk_at "st2"
 rw [csub h1]
 refine k_if (fun c=>?_) fun c=>?_
 ·have c:=rng1 (eq1 (b:=1) c) h1
  repeat walk_at "st2"
  refine cm_fmt ?_
  repeat walk_at "st2"
  refine f1 _ _ _ (dg_lg _ hi10) ?_
  have hk:=hK
  rw [rngS1 c,← dg_ofs _ hi10] at hk
  exact hk _
 ·have c:=ne1 (b:=1) c
  repeat walk_at "st2"
  refine k_if (fun z=>?_) fun z=>?_
  ·rw [Bool.not_not] at z
   have z:=eq1 (b:=0) z
   have hx:¬ i < x:=Nat.not_lt_of_le (Nat.le_of_sub_eq_zero z)
   refine' x_subP ?k1 ?h1 ?h2 ?h3 ?_
   case k1=>walk_at "k2"
   case h1=>rfl
   case h2=>rfl
   case h3=>rfl
   repeat walk_at "st2"
   refine cm_fmt ?_
   repeat walk_at "st2"
   rw [show (i:Int)+1 - 1=((i+1 - 1:Nat):Int) from Int.add_sub_cancel _ _]
   have hi':i+1 - 1 < 10:=Nat.lt_of_le_of_lt hi (by decide)
   refine f2 _ _ _ _ _ _ (dg_lg _ hi') (dg_lg _ hx10) (dg_ofs _ hi') (dg_ofs _ hx10) ?_
   have hk:=hK
   rw [rngS2 c (if_neg hx)] at hk
   exact hk _
  ·have z:i < x:=Nat.lt_of_sub_ne_zero (fun q=>by rw [q] at z;cases z)
   repeat walk_at "st2"
   refine cm_fmt ?_
   repeat walk_at "st2"
   refine f2 _ _ _ _ _ _ (dg_lg _ hi10) (dg_lg _ hx10) (dg_ofs (i+1) hi10) (dg_ofs _ hx10) ?_
   have hk:=hK
   rw [rngS2 c (if_pos z)] at hk
   exact hk _
noncomputable def cntV (k:Nat):List Str→List V
 | []=>[]
 | s::r=>.tup [.str s,.int k]::cntV (k+1) r
theorem cnt_at:∀ (l:List Str) (k i:Nat),i < l.length→∃ s,(cntV k l)[i]?=some (.tup [.str s,.int ((k+i:Nat):Int)])
 | s::r,k,0,_=>⟨s,rfl⟩
 | s :: r, k, i + 1, h => by
   obtain ⟨t,e⟩:=cnt_at r (k+1) i (by simpa using h)
   exact ⟨t,by rw [show k+(i+1)=k+1+i from Nat.add_right_comm k i 1];exact e⟩
theorem cnt_len:∀ (l:List Str) (k:Nat),(cntV k l).length=l.length
 | [],_=>rfl
 | s::r,k=>by show (cntV (k+1) r).length+1=r.length+1;rw [cnt_len r]
theorem dg_str (k:Nat) (h:k < 10):(toString (k:Int):Str)=dgS k:=dg_ofs k h
noncomputable abbrev lrS:Scope:=fnScope "_law_range" topB
noncomputable abbrev lrN:List Str:=["rows", "start", "stop"]
theorem nm_lr:∀ x,hasS lrN x=true→lrS.names.lookup x=some .local:=nm_of (by decide +kernel)
theorem gl_lr:lrS.names.lookup ("str" : Str)=some .globalImplicit∧lrS.names.lookup ("len" : Str)=some .globalImplicit:=by decide +kernel
theorem strN {S:Sy} (B:SB S) {k:Nat} {H:Hp} {K:KV} (h:k < 10) (hk:K (.str (dgS k)) H):S.C (.lit (.type "str")) [.int k] H K :=
 B.bi (.strI (sm_nat (Nat.le_trans (Nat.le_of_lt h) (by decide))).1 (sm_nat (Nat.le_trans (Nat.le_of_lt h) (by decide))).2 (dg_str k h▸hk))
theorem c_range {S : Sy} (B : SB S) {a : Addr} {l : List Str} (hl : l.length = 5) {i x : Nat} (h1 : i ≤ x) (h2 : x ≤ 5) {H : Hp} {K : KS} (ha : H a = some (.list (cntV 1 l))) (hK : ∀ loc H', (∀ b ob, H b = some ob → H' b = some ob) → K (.ret (.str (rngS i x))) loc H') :
  wSs S (fnScope "_law_range" topB) (fnBody "_law_range" topB) [("rows",some (.obj a)),("start",some (.int i)),("stop",some (.int x))] H K:=by
 have k:Kn lrS lrN [("rows",.obj a),("start",.int i),("stop",.int x)] [("rows",some (.obj a)),("start",some (.int i)),("stop",some (.int x))]:=Kn.init nm_lr
 have g1:=B.len
 have g2:=B.str
 obtain ⟨l1,l2⟩:=gl_lr
 have hcl:(cntV 1 l).length=5:=(cnt_len l 1).trans hl
 have hi:=Nat.le_trans h1 h2
 have hi10:=lt10 hi
 have hx10:x - i < 10:=Nat.lt_of_le_of_lt (Nat.sub_le x i) (Nat.lt_of_le_of_lt h2 (by decide))
 with_unfolding_all refine x_If ?_
 repeat walk_at "st2"
 rw [csub h1]
 refine ⟨fun c=>?_,fun c=>?_⟩
 ·have c:=rng1 (eq1 (b:=1) c) h1
  repeat walk_at "st2"
  have hil:i < 5:=Nat.lt_of_lt_of_le (c▸Nat.lt_succ_self i) h2
  obtain ⟨t,ht⟩:=cnt_at l 1 i (hl.symm▸hil)
  refine g_list ha (sm_nat (Nat.le_trans hi (by decide))) (si_nat (hcl.symm▸hil)) ht ?_
  repeat walk_at "st2"
  refine g_tup (j:=1) (by decide) rfl rfl ?_
  repeat walk_at "st2"
  rw [Nat.add_comm 1 i]
  refine strN B hi10 ?_
  repeat walk_at "st2"
  have hk:=hK
  rw [rngS1 c] at hk
  exact hk _ _ fun Z Z e=>e
 ·have c:=ne1 (b:=1) c
  obtain ⟨m,hm⟩:∃ m,(if i < x then i+1 else i)=m:=⟨_,rfl⟩
  have hm10:m < 10:=by
   by_cases z:i < x
   ·rw [if_pos z] at hm;exact hm▸hi10
   ·rw [if_neg z] at hm;exact hm▸Nat.lt_of_succ_lt hi10
  repeat walk_at "st2"
  refine k_ieP k rfl rfl ?_
  have ev:(if decide ((i:Int) < (x:Int))=true then V.int ((i:Int)+1) else V.int i)=.int m:=by
   by_cases z:i < x
   ·rw [if_pos (decide_eq_true (Int.ofNat_lt.mpr z))];rw [if_pos z] at hm;exact hm▸rfl
   ·rw [if_neg fun q=>z (dT q)];rw [if_neg z] at hm;exact hm▸rfl
  rw [ev]
  repeat walk_at "st2"
  refine strN B hm10 ?_
  repeat walk_at "st2"
  refine b_cat (big_line (by show 1+1≤100;decide)) ?_
  repeat walk_at "st2"
  refine ⟨a,_,i,x,rfl,ha,rfl,rfl,Int.natCast_nonneg i,Int.ofNat_le.mpr h1,hcl.symm▸Int.ofNat_le.mpr h2,hcl.symm▸by decide,fun cc hcc=>?_⟩
  repeat walk_at "st2"
  have hlen:(((cntV 1 l).drop (i:Int).toNat).take ((x:Int) - (i:Int)).toNat).length=x - i:=by
   rw [List.length_take,List.length_drop,hcl,Int.toNat_sub]
   exact Nat.min_eq_left (Nat.sub_le_sub_right h2 i)
  refine B.bi (.len (Hp.set_self _ _ _) (by rw [hlen];exact Nat.le_trans (Nat.le_of_lt hx10) (by decide)) ?_)
  rw [hlen]
  repeat walk_at "st2"
  refine strN B hx10 ?_
  refine b_cat (big_line (by show 2+1≤100;decide)) ?_
  have hk:=hK
  rw [rngS2 c hm] at hk
  exact hk _ _ fun b ob e=>Hp.old hcc e
end Mine
end
section
namespace Mine
open PySem PySem.Spec PySem.Calls PyProof.Rows PySem.W PySem.SeqAt
theorem tw {n:Nat} {fa:Addr} {fi:FI} {args:List V} {H:Hp} {K:KV} (hf:fF fa=some fi) (hl:args.length+fi.dfl.length=fi.names.length) (h:wSs (SL n) fi.fd.scope fi.body (locOf fi.names (args++fi.dfl)) H (retK K)):(SL (n+1)).C (.lit (.ref fa)) args H K :=
 .inr (.inr ⟨fa,fi,rfl,hf,hl,h⟩)
theorem rk1 {K:KV} {v:V} {loc:Loc} {H:Hp} (h:K v H):retK K (.ret v) loc H:=⟨H,fun Z Z e=>e,h⟩
theorem rk0 {K:KV} {loc:Loc} {H:Hp} (h:K .none H):retK K .next loc H:=⟨H,fun Z Z e=>e,h⟩
theorem rk2 {K:KV} {v:V} {loc:Loc} {H H':Hp} (hs:∀ a o,H a=some o→H' a=some o) (h:K v H):retK K (.ret v) loc H':=⟨H,hs,h⟩
theorem sbL:∀ n,SB (SL n)
 | 0=>⟨fun h=>.inl h,rfl,rfl,rfl,rfl,rfl,rfl⟩
 | n+1=>⟨fun h=>.inl h,rfl,rfl,rfl,rfl,rfl,rfl⟩
theorem xL:∀ {n f args H K},XL f args H K→(SL n).C f args H K
 | 0,_,_,_,_,h=>.inr h
 | n+1,_,_,_,_,h=>.inr (.inl h)
theorem sd_L (n:Nat):SpSd (SL (n+1)):=fun a h pos H K ha hp hl k=>tw (fi:=fi_sdown) rfl rfl (c_sdown ha hp hl fun Z=>rk0 k)
theorem su_L (n:Nat):SpSu (SL (n+2)):=fun a h H K ha hp hl k=>tw (fi:=fi_sup) rfl rfl (c_sup (sbL _) (sd_L n) rfl ha hp hl fun Z=>rk0 k)
theorem push_L (n:Nat):SpPush (SL (n+2)):=fun a h x H K ha hl k=>tw (fi:=fi_push) rfl rfl (c_push (sbL _) (sd_L n) rfl ha hl fun Z=>rk0 k)
theorem pop_L (n:Nat):SpPop (SL (n+3)):=fun a h H K ha hne hl k=>tw (fi:=fi_pop) rfl rfl (c_pop (sbL _) (su_L n) rfl ha hne hl fun Z=>rk1 k)
def SpDelta (S:Sy):Prop:=∀ (ao an:Addr) (old new:List Str) (H:Hp) (K:KV),H ao=some (.list (old.map .str))→H an=some (.list (new.map .str))→old.length≤5→new.length≤5→(∀ s∈old,Good s)→(∀ s∈new,Good s) →
 (∀ c,H c=none→K (.obj c) (H.set c (.list ((deltaOf old new).map .str))))→S.C (.lit (.ref 356)) [.obj ao,.obj an] H K
theorem delta_L (n:Nat):SpDelta (SL (n+4)):=fun ao an old new H K ho hn hlo hln hgo hgn k=>tw (fi:=fi_delta) rfl rfl (c_delta (sbL _) (push_L (n+1)) (pop_L n) rfl rfl ho hn hlo hln hgo hgn fun Z c H' hc hs=>rk2 hs (k c hc))
def SpRuns (S:Sy):Prop:=∀ (ao an:Addr) (old new:List Str) (H:Hp) (K:KV),H ao=some (.list (old.map .str))→H an=some (.list (new.map .str))→old.length≤5→new.length≤5 →
 (∀ c,H c=none→K (.obj c) (H.set c (.list ((runsP 0 [] (mOf old new)++[(old.length,new.length,0)]).map t3V))))→S.C (.lit (.ref 363)) [.obj ao,.obj an] H K
theorem runs_L (n:Nat):SpRuns (SL (n+1)):=fun ao an old new H K ho hn hlo hln k=>tw (fi:=fi_runs) rfl rfl (c_runs (sbL _) ho hn hlo hln fun Z c H' hc hs=>rk2 hs (k c hc))
def SpDone (S:Sy):Prop:=∀ (a b:Addr) (bs:List Nat) (ns:List Int) (H:Hp) (K:KV),H a=some (.list (wordsOf bs))→H b=some (.list (ns.map .int))→Bits5 bs→(∀ bs' c,Bits5 bs'→H c=none→K (.obj c) (H.set c (.list (wordsOf bs'))))→S.C (.lit (.ref 342)) [.obj a,.obj b] H K
theorem done_L (n:Nat):SpDone (SL (n+1)):=fun a b bs ns H K ha hb h5 k=>tw (fi:=fi_done) rfl rfl (c_done (sbL _) ha hb h5 fun Z bs' c h1 h2=>rk1 (k bs' c h1 h2))
theorem ifmt_L (n:Nat) {i:Int} {H:Hp} {K:KV} (k:K (.int (Builtin.bitAnd i 61440)) H):(SL (n+1)).C (.lit (.ref 295)) [.int i] H K:=tw (fi:=fi_ifmt) rfl rfl (c_ifmt _ _ _ fun Z=>rk1 k)
def SpSigns (S:Sy):Prop:=∀ (w:Nat) (H:Hp) (K:KV),w < 1000000→K (.str (sgS w)) H→S.C (.lit (.ref 349)) [.int w] H K
theorem signs_L (n:Nat):SpSigns (SL (n+1)):=fun w H K hw k=>tw (fi:=fi_signs) rfl rfl (c_signs hw fun Z H' hs=>rk2 hs k)
def SpFmode (S:Sy):Prop:=∀ (w:Nat) (H:Hp) (K:KV),w < 1000000→K (.str (fmS w)) H→S.C (.lit (.ref 335)) [.int w] H K
theorem fmode_L (n:Nat):SpFmode (SL (n+2)):=fun w H K hw k=>tw (fi:=fi_fmode) rfl rfl (c_filemode (sbL _) hw rfl rfl (fun h=>ifmt_L n h) fun Z H' hs=>rk2 hs k)
theorem chain_L (n:Nat):SpChain (SL (n+1)):=fun s d an kvs new H K hs hd hn hl nd hkl gb gj ga k=>tw (fi:=fi_chain) rfl rfl (c_chain (sbL _) hs hd hn hl nd hkl gb gj ga fun Z db j1 j2 ls H' a b c d e f g=>rk0 (k db j1 j2 ls H' a b c d e f g))
theorem seq1_L (n:Nat):SpSeq1 (SL (n+1)):=fun s d ao kvs H K hs hd ga hl k=>tw (fi:=fi_seq1) rfl rfl (c_seq1 hs hd ga hl fun Z=>rk0 k)
theorem seq2_L (n:Nat):SpSeq2 (SL (n+2)):=fun s d an kvs new H K hs hd hn hnl nd gb hl gi ga gm k=>tw (fi:=fi_seq2) rfl rfl (c_seq2 (chain_L n) rfl hs hd hn hnl nd gb hl gi ga gm fun Z db j1 j2 ls H' r=>rk0 (k db j1 j2 ls H' r))
theorem seqs_L (n:Nat):SpSeqs (SL (n+3)):=fun s d ao an kvs new H K hs hd hn hnl nd gA gb hl gi ga gm g1 g2 k=>tw (fi:=fi_seqs) rfl rfl (c_seqs (seq1_L (n+1)) (seq2_L n) rfl rfl hs hd hn hnl nd gA gb hl gi ga gm g1 g2 fun Z db j1 j2 ls H' r=>rk0 (k db j1 j2 ls H' r))
theorem match_L (n:Nat):SpMatch (SL n):=fun i j k H K h=>xL (.mat h)
theorem sort_L (n:Nat):SpSort (SL n):=fun a rows H K ha hn h5 k=>xL (.sort ha hn h5 k)
theorem flm_L (n:Nat) {s d ao an db j1:Addr} {kvs:List (Str×V)} {ls:List Addr} {old new:List Str} {H1:Hp} (X:SMok H1 s d ao an db j1 kvs ls old new) (nd:new.Nodup) (hol:old.length≤5) (hnl:new.length≤5):SpFlm (SL (n+1)) (mOf old new) s H1 old.length new.length :=
 fun alo ahi blo bhi H K hk h1 h2 h3 h4 k=>tw (fi:=fi_flm) rfl rfl (c_flm (sbL _) (match_L n) rfl (X.keep hk) nd hol hnl h1 h2 h3 h4 fun Z H' hs=>rk2 hs k)
def SpFmtr (S:Sy):Prop:=∀ (i x:Nat) (H:Hp) (K:KV),i≤x→x≤5→K (.str (rngS i x)) H→S.C (.lit (.ref 253)) [.int i,.int x] H K
theorem fmtr_L (n:Nat):SpFmtr (SL (n+1)):=fun i x H K h1 h2 k=>tw (fi:=fi_fmt) rfl rfl (c_fmtr (fun Z Z Z a b=>xL (.fmt1 a b)) (fun Z Z Z Z Z Z a b c d e=>xL (.fmt2 a b c d e)) h1 h2 fun Z=>rk1 k)
def SpRange (S:Sy):Prop:=∀ (a:Addr) (l:List Str) (i x:Nat) (H:Hp) (K:KV),l.length=5→i≤x→x≤5→H a=some (.list (cntV 1 l))→K (.str (rngS i x)) H→S.C (.lit (.ref 377)) [.obj a,.int i,.int x] H K
theorem range_L (n:Nat):SpRange (SL (n+1)):=fun a l i x H K hl h1 h2 ha k=>tw (fi:=fi_range) rfl rfl (c_range (sbL _) hl h1 h2 ha fun Z H' hs=>rk2 hs k)
noncomputable def XSM (S:Sy):CS:=fun f args H K=>∃ ao an,f=.lit (.ref 242)∧args=[.none,.obj ao,.obj an] ∧
 ∀ d sA,H d=none→H sA=none→d≠sA→wFn S fi_init [.obj sA,.none,.obj ao,.obj an] ((H.set d (.ns [])).set sA (.inst d)) fun v H'=>v=.none∧K (.obj sA) H'
section
variable {T:TI} (Y:WY T)
include Y
theorem sm_makes {h:Heap} (ha:Above T h):Makes T.M h 242:=by
 have e:=ha _ _ (Y.obs (242,_) (mem_ob (k:=39) rfl))
 exact makes_of (K:=[(242,_)]) (fun a o q=>by
  have:(a,o)∈[((242:Addr),_)]:=look_mem q
  simp at this
  rw [this.1,this.2];exact e) (by kernel_rfl)
theorem sm_initL {h:Heap} (ha:Above T h):Looks T.M h (typeLookup (.ref 242) "__init__") (some (.ref 160)):=by
 have e:=ha _ _ (Y.obs (242,_) (mem_ob (k:=39) rfl))
 obtain ⟨m,hm,hr⟩:=Y.sm
 have hcd:Looks T.M h (classData 242) _:=(Looks.ld (part:=none) e).andThen .now
 rw [typeLookup_eq]
 refine (hcd.andThen .now:Looks T.M h (mroOf (.ref 242)) [.ref 242,.type "object"]).andThen ?_
 rw [lookupAlong_cons]
 refine Looks.andThen (show Looks T.M h (classOwn (.ref 242) "__init__") (some (.ref 160)) from ?_) .now
 intro A Q E s k q
 refine wpAny_bind (hcd A _ E s k ?_)
 exact wpAny_nsGet ((hm h ha).keeps k) (by have hi:m "__init__" = some (.ref 160):=hr ("__init__",some (.ref 160)) (by decide +kernel);rw [show m (Str.ofString "__init__")=_ from hi];exact q)
theorem sm_bind {h:Heap} (ha:Above T h) (self:Value):Looks T.M h (bindSpecial (.ref 160) self) (.ref 160,[self]):=by
 have e:=ha _ _ (Y.fns (160,_) (mem_fn (k:=15) rfl))
 exact bind_fn (K:=[(160,_)]) (fun a o q=>by
  have:(a,o)∈[((160:Addr),_)]:=look_mem q
  simp at this
  rw [this.1,this.2];exact e) self rfl
theorem call_sm {n:Nat} {A:Around} (HA:Rm (2 * n+27) A) {f:V} {args:List V} {H:Hp} {K:KV} (h:XSM (SL n) f args H K) {s:Shared} {fv:Value} {vs:List Value} (R:Rel T H s) (rf:VR T s.heap f fv) (ra:VRs T s.heap args vs) {Q:Value→Shared→Prop} {E:Value→Shared→Prop} (g:Goes T H s K Q):wpAny T.M A (call fv vs) Q E s:=by
 obtain ⟨ao,an,rfl,rfl,h⟩:=h
 obtain rfl:=rf.iL
 have z:=cL_sound Y n
 have hU:Rm (2 * n+26) (A.under (.builtin "type.__call__" ⟨.ref 242::vs,[]⟩)):=Rm.sub (n:=2 * n+26) 1 HA HA.1 (Nat.add_le_add_left (by decide:1≤4) A.depth) (Nat.add_le_add_left (by decide:1≤32) A.units)
 have R1:=R.alloc (ob:=emptyDict) (n:=s.toks) (o:=.ns []) ⟨fun Z=>none,?_,fun k x e=>(nomatch e),fun k Z=>rfl⟩
 have e1:Ev H s.heap (H.set s.heap.objs.size (.ns [])) (s.heap.push emptyDict):=.alloc _ _
 have hd:=R.top
 have hsz:(s.heap.push emptyDict).objs.size=s.heap.objs.size+1:=size_push' _ _
 have hs1:H (s.heap.objs.size+1)=none:=R.noneH (Heap.get?_none_of_le (Nat.le_succ _))
 have R2:=R1.alloc (ob:=instObj 242 s.heap.objs.size) (n:=s.toks) (o:=.inst s.heap.objs.size) ⟨_,Heap.get?_push_size _ rfl,by rw [Y.cS],rfl,fun q=>absurd (q.trans hsz) (Nat.ne_of_lt (Nat.lt_succ_self _)),fun c q=>(nomatch q),fun q=>by rcases q with ⟨_,_,_,q⟩ | ⟨_,_,q⟩ <;> cases q⟩
 have e2:=e1.trans (Ev.alloc (H:=H.set s.heap.objs.size (.ns [])) (h:=s.heap.push emptyDict) (instObj 242 s.heap.objs.size) (.inst s.heap.objs.size))
 have k2:∀ b o,s.heap.get? b=some o→((s.heap.push emptyDict).push (instObj 242 s.heap.objs.size)).get? b=some o:=fun b o e=>Heap.get?_push_of_some _ (Heap.get?_push_of_some _ e)
 dsimp only at R2 e2
 rw [hsz] at R2 e2
 have hw:=h s.heap.objs.size (s.heap.objs.size+1) hd hs1 (Nat.ne_of_lt (Nat.lt_succ_self _))
 have M:=sm_makes Y R.base
 have I:=sm_initL Y R.base
 have B:=sm_bind Y R.base
 have ra2:=ra.mono fun b o e Z=>k2 b o e
 obtain ⟨hh,gs,dr,tk,os⟩:=s
 dsimp only at *
 have hc:=codeFnW (n:=2 * n+24) Y.lim (fo_init Y) hU (args:=[.obj (hh.objs.size+1),.none,.obj ao,.obj an]) (K:=fun v H'=>v=.none∧K (.obj (hh.objs.size+1)) H') hw.1 R2 (.cons (.obj _) ra2) (fun A env s₀ hA he hnc hsc R₀ F₀ Q E g=>soundSs (sysPrims (sysL Y) n) (sysPrims2 (sysL Y) n) ⟨by show 16≤2 * n+24;omega,z⟩ hA he hnc fi_init.body (K:=retK _) (by rw [hsc];exact hw.2) R₀ F₀ g)
  (Q:=fun v s'=>v=.none∧Q (.ref (hh.objs.size+1)) s') (E:=E) fun x H' v s' k R' rv e'=>?_
 ·refine wpAny_call ?_
  with_reducible refine make_core M I B (.inl rfl) ?_
  with_reducible refine codeAny_mono hc fun r s' q=>?_
  rcases r with e | (v | _ | _ | _) <;> exact q
 ·obtain ⟨rfl,k⟩:=k
  obtain rfl:=rv.iN
  exact ⟨rfl,g _ _ _ _ k R' (.obj _) (e2.trans e')⟩
 ·exact ⟨_,_,_,Heap.get?_push_size _ rfl,rfl,fun b hb=>by simp at hb,by unfold UniqKeys;simp,fun Z=>rfl⟩
end
end Mine
end
section
namespace Mine
open PySem PyProof.Rows
theorem slice_hd {m r:Str} (hm:m.length=2):Txt.slice (m++r) none (some 2)=m:=by
 have hm':m.cps.toList.length=2:=by simpa [Str.length] using hm
 refine (StrLaws.sliceText_to (x:=m++r) (j:=2) ⟨by decide,by rw [Str.cps_append,Array.toList_append,List.length_append,hm'];exact Int.ofNat_le.mpr (Nat.le_add_right 2 _)⟩).trans ?_
 rw [Str.cps_append,Array.toList_append]
 show (⟨((m.cps.toList++r.cps.toList).take 2).toArray⟩:Str)=m
 rw [← hm',List.take_left']
 rfl
theorem slice_tl {m r:Str} (hm:m.length=2):Txt.slice (m++r) (some 2) none=r:=by
 have hm':m.cps.toList.length=2:=by simpa [Str.length] using hm
 refine (StrLaws.sliceText_from (x:=m++r) (i:=2) ⟨by decide,by rw [Str.cps_append,Array.toList_append,List.length_append,hm'];exact Int.ofNat_le.mpr (Nat.le_add_right 2 _)⟩).trans ?_
 rw [Str.cps_append,Array.toList_append]
 rw [show (2:Int).toNat=m.cps.toList.length from hm'.symm,List.drop_left,List.take_of_length_le (by rw [List.length_append];omega)]
noncomputable def popsOf (old new:List Str):List (Str×Str):=hpops ltP 20 ((itemsOf old new).foldl (hpush ltP) [])
theorem pops_ok {old new:List Str} (h1:old.length≤5) (h2:new.length≤5):(popsOf old new).Perm (itemsOf old new)∧(popsOf old new).Pairwise fun a b=>ltP b a=false:=by
 obtain ⟨i1,i2⟩:=heap_of (itemsOf old new) [] (fun i Z h=>by simp at h)
 have hl:(itemsOf old new).length≤20:=by
  unfold itemsOf
  rw [List.length_append,List.length_map,List.length_map]
  have:=List.length_filter_le (fun r=>!old.any (·==r)) new
  omega
 obtain ⟨p1,p2⟩:=hpops_ok ltP_asym ltP_trans ltP_irr 20 _ (by rw [i2.length_eq];simpa using hl) i1
 exact ⟨p1.trans i2,p2⟩
theorem marks_of {old new:List Str} {p:Str×Str} (h:p∈itemsOf old new):p.2 = "  " ∨ p.2 = "- " ∨ p.2 = "+ " := by
 unfold itemsOf at h
 rw [List.mem_append,List.mem_map,List.mem_map] at h
 rcases h with ⟨r,_,rfl⟩ | ⟨r,_,rfl⟩
 ·dsimp only;split
  ·exact .inl rfl
  ·exact .inr (.inl rfl)
 ·exact .inr (.inr rfl)
theorem kept_cons (tag x:Str) (l:List Str):kept tag (x::l)=(if pass tag x=true then [Txt.slice x (some 2) none] else [])++kept tag l:=by
 unfold kept
 rw [List.filter_cons]
 split <;> rfl
theorem kept_lines {tag:Str} (ht:tag = "- " ∨ tag = "+ ") (l:List (Str×Str)):(∀ p∈l,p.2 = "  " ∨ p.2 = "- " ∨ p.2 = "+ ")→kept tag (l.flatMap linesOf)=(l.filter fun p=>("  " : Str)==p.2||tag==p.2).map (·.1):=by
 induction l with
 | nil=>exact fun Z=>rfl
 | cons p r ih =>
   intro h
   have ih:=ih fun q hq=>h q (.tail _ hq)
   have hm:p.2.length=2:=by rcases h p (.head _) with e | e | e <;> rw [e] <;> rfl
   have hq:pass tag "? ^" = false:=by rcases ht with rfl | rfl <;> decide
   have e1:pass tag (p.2++p.1)=(("  " : Str)==p.2||tag==p.2):=by unfold pass;rw [slice_hd hm]
   have e2:kept tag ((if p.2 == "- " then [("? ^" : Str)] else [])++r.flatMap linesOf)=kept tag (r.flatMap linesOf):=by
    by_cases c:(p.2 == "- ")=true
    ·rw [if_pos c];exact (kept_cons _ _ _).trans (by rw [hq];rfl)
    ·rw [if_neg c];rfl
   refine (kept_cons tag (p.2++p.1) ((if p.2 == "- " then [("? ^" : Str)] else [])++r.flatMap linesOf)).trans ?_
   rw [e2,ih,e1,List.filter_cons,slice_tl hm]
   split <;> rfl
theorem slt_of_pops {l:List (Str×Str)} (h:l.Pairwise fun a b=>ltP b a=false):(l.map (·.1)).Pairwise fun a b=>slt b a=false:=by
 refine List.pairwise_map.mpr (h.imp fun {a b} hab=>?_)
 cases e:slt b.1 a.1 with
 | false=>rfl
 | true=>rw [ltP_lt.mpr (.inl e)] at hab;cases hab
theorem any_mem {l:List Str} {r:Str}:l.any (·==r)=true↔r∈l:=by simp
theorem delta_kept {old new ro rn : List Str} (h1 : old.length ≤ 5) (h2 : new.length ≤ 5) (n1 : old.Nodup) (n2 : new.Nodup) (po : ro.Perm old) (so : ro.Pairwise fun a b => slt b a = false) (pn : rn.Perm new) (sn : rn.Pairwise fun a b => slt b a = false) :
  kept "- " (deltaOf old new)=ro∧kept "+ " (deltaOf old new)=rn:=by
 obtain ⟨p1,p2⟩:=pops_ok h1 h2
 have key:∀ (tag:Str) (l ll:List Str),(tag = "- " ∨ tag = "+ ")→ll.Perm l→ll.Pairwise (fun a b=>slt b a=false)→(((itemsOf old new).filter fun p=>("  " : Str)==p.2||tag==p.2).map (·.1)).Perm l→kept tag (deltaOf old new)=ll:=fun tag l ll ht hp hs hi=>by
  show kept tag ((popsOf old new).flatMap linesOf)=ll
  rw [kept_lines ht _ fun p hp=>marks_of (p1.mem_iff.mp hp)]
  exact sorted_uniq (lt:=slt) (fun Z Z=>slt_tri) ((((p1.filter _).map _).trans hi).trans hp.symm) (slt_of_pops (p2.sublist List.filter_sublist)) hs
 refine ⟨key "- " old ro (.inl rfl) po so ?_,key "+ " new rn (.inr rfl) pn sn ?_⟩
 ·have : ((itemsOf old new).filter fun p => ("  " : Str) == p.2 || ("- " : Str) == p.2).map (·.1) = old := by
   unfold itemsOf
   rw [List.filter_append,List.filter_map,List.filter_map,List.map_append,List.map_map,List.map_map]
   rw [List.filter_eq_self.mpr,List.filter_eq_nil_iff.mpr]
   ·rw [List.map_nil,List.append_nil];exact List.map_id old
   ·intro r _ h;exact absurd h (by show ¬ (("  " : Str) == "+ " || ("- " : Str) == "+ ")=true;decide)
   ·intro r _
    simp only [Function.comp]
    split <;> rfl
  rw [this]
 ·have : ((itemsOf old new).filter fun p => ("  " : Str) == p.2 || ("+ " : Str) == p.2).map (·.1) = (old.filter fun r => new.any (· == r)) ++ new.filter fun r => !old.any (· == r) := by
   unfold itemsOf
   rw [List.filter_append,List.filter_map,List.filter_map,List.map_append,List.map_map,List.map_map]
   congr 1
   ·rw [show (fun p => ("  " : Str) == p.2 || ("+ " : Str) == p.2) ∘ (fun r => (r, if (new.any fun x => x == r) = true then ("  " : Str) else "- ")) = fun r => new.any (· == r) from by
     funext r
     simp only [Function.comp]
     cases new.any (·==r) <;> rfl]
    exact List.map_id _
   ·rw [List.filter_eq_self.mpr (fun r Z=>by show (("  " : Str) == "+ " || ("+ " : Str) == "+ ")=true;decide)]
    exact List.map_id _
  rw [this]
  refine (List.perm_ext_iff_of_nodup ?_ n2).mpr fun r=>?_
  ·refine List.nodup_append.mpr ⟨n1.sublist List.filter_sublist,n2.sublist List.filter_sublist,fun a ha b hb q=>?_⟩
   subst q
   have h1:=(List.mem_filter.mp ha).1
   have h2:=(List.mem_filter.mp hb).2
   rw [any_mem.mpr h1] at h2;cases h2
  ·rw [List.mem_append,List.mem_filter,List.mem_filter,any_mem]
   constructor
   ·rintro (⟨_,h⟩ | ⟨h,_⟩) <;> exact h
   ·intro h
    by_cases ho:r∈old
    ·exact .inl ⟨ho,h⟩
    ·exact .inr ⟨h,by rw [show old.any (·==r)=false from bool_f fun q=>ho (any_mem.mp q)];rfl⟩
end Mine
end
section
namespace Mine
open PySem PySem.Spec PySem.Calls PyProof.Rows PySem.W PySem.SeqAt
noncomputable def LScript (l:Addr) (ns:List Int):LE:=fun sc e loc H K=>∃ (x:Str) (p:Pos) (c:Nat) (q p1 p2:Pos),e=.Subscript (.Name x p) (.Slice none (some (.Constant (.int 5) c q)) none p1) p2∧sc.names.lookup x=some .local∧loc.get x=some (.lit (.ref l)) ∧
 ∀ a,H a=none→K (.obj a) (H.set a (.list ((ns.take 5).map .int)))
noncomputable def LRest:LE:=fun sc e loc H K=>∃ (x:Str) (p0 p1 p2 p3 p4 p5:Pos) (c:Nat) (k:Int) (d:Addr) (L:List Str),e=.Call (.Name "list" p0) [.Call (.Name "restore" p1) [.Name x p2,.Constant (.int k) c p3] [] p4] [] p5 ∧
 sc.names.lookup ("list" : Str)=some .globalImplicit∧sc.names.lookup ("restore" : Str)=some .globalImplicit∧sc.names.lookup x=some .local∧loc.get x=some (.obj d)∧H d=some (.list (L.map .str))∧(∀ s∈L,s.length≤4096)∧L.length≤4096∧(k=1∨k=2) ∧
 ∀ a,H a=none→K (.obj a) (H.set a (.list ((kept (tagOf k) L).map .str)))
section
variable {T:TI} (Y:WY T)
include Y
theorem lscript_sound {A : Around} (HA : Rm 9 A) {env : Env} (he : EnvOk env) {l : Addr} {ns : List Int} {vs : List Value} {n : Nat} {o : Obj} (hl : T.B l = some o) (hc : o.cls = .type "list") (hd : o.data = .seq vs.toArray n) (hv : ∀ h, VRs T h (ns.map .int) vs) (h63 : ns.length ≤ 4096) {e : Expr} {loc : Loc} {H : Hp} {K : KV} (h : LScript l ns env.scope e loc H K)
  {s:Shared} (R:Rel T H s) (F:Frm T env loc H s.heap) {Q:Value→Shared→Prop} {E:Value→Shared→Prop} (g:Goes T H s K Q):wpAny T.M A (eval e env) Q E s:=by
 obtain ⟨x,p,c,q,p1,p2,rfl,h1,h2,h3⟩:=h
 have P:=sysPrims (sys0 Y) 0
 have HC:SoundS T (syAt gF clF (fun Z=>none) XM L0 0 0) 8:=⟨Nat.zero_le _,sysSound (sys0 Y) 0⟩
 rw [eval_Subscript]
 refine wpAny_bind (nameL P HC HA he (c:=.ref l) (by unfold nameV;rw [h1];exact h2) R F ?_)
 refine wpAny_bind (wpAny_holding (wpAny_Slice (evalPart_none_step (evalPart_some_step (wpAny_Constant_int (evalPart_none_step ?_))))))
 have k1:∀ b ob,s.heap.get? b=some ob→(s.heap.push { cls:=.type "slice",data:=.fields #[.none,.int 5 s.toks,.none] }).get? b=some ob:=fun Z Z e=>Heap.get?_push_of_some _ e
 have R1:Rel T H { s with heap:=s.heap.push { cls:=.type "slice",data:=.fields #[.none,.int 5 s.toks,.none] },toks:=s.toks+1 }:=R.keeps k1
 have hs:(s.heap.push { cls:=.type "slice",data:=.fields #[.none,.int 5 s.toks,.none] }).IsSliceOf s.heap.objs.size .none (.int 5 s.toks) .none:=Heap.IsSliceOf.new ..
 have e1:Ev H s.heap H (s.heap.push { cls:=.type "slice",data:=.fields #[.none,.int 5 s.toks,.none] }):=.keeps k1
 refine wpAny_bind (wpAny_standAt (wpAny_bind ?_))
 have hL:=R1.base _ _ hl
 have hty:({ s with heap:=s.heap.push { cls:=.type "slice",data:=.fields #[.none,.int 5 s.toks,.none] },toks:=s.toks+1 }:Shared).TypeIs (.ref l) "list" := ⟨_,hL,hc⟩
 rw [getitemInPython_of_ne hty.not_modules]
 refine wpAny_bind (wpAny_specialOf hty slot_list_getitem.lookup (wpAny_pure ?_))
 obtain ⟨us,hsub⟩:=subscripted_false (.Slice none (some (.Constant (.int 5) c q)) none p1) (.ref l) (.ref s.heap.objs.size)
 show wpAny _ _ (subscripted _ false _ _ >>= _) _ _ _
 rw [hsub]
 refine wpAny_bind (wpAny_operating ?_)
 have hvl:ns.length=vs.length:=by have:=(hv s.heap).length;rwa [List.length_map] at this
 refine wpAny_getItem_list_slice (lo:=none) (hi:=some 5) (st:=none) ⟨_,hL,hc,n,hd⟩ hs .none (.int _ _) .none (by simp) ?_ (by simp only [List.size_toArray,sizeLine];omega)
 refine wpAny_bind (wpAny_letTemporaryGo (wpAny_pure ?_))
 rw [show (5:Int)=((5:Nat):Int) from rfl,slicePick_upto']
 have R2:=R1.alloc (n:=s.toks+1) (ob:={ cls:=.type "list",data:=.seq (vs.toArray.toList.take 5).toArray }) (o:=.list ((ns.take 5).map .int)) ⟨_,0,Heap.get?_push_size _ rfl,by
  have:=(hv (Heap.push (s.heap.push { cls:=.type "slice",data:=.fields #[.none,.int 5 s.toks,.none] }) { cls:=.type "list",data:=.seq (vs.toArray.toList.take 5).toArray })).take 5
  rwa [← List.map_take] at this⟩
 exact g _ _ _ _ (h3 _ R1.top) R2 (.obj _) (e1.trans (.alloc _ _))
theorem rok_of:ROk T:=⟨⟨_,Y.fns (260,_) (mem_fn (k:=1) rfl),rfl⟩,fun h ha=>Y.code (260,_) (mem_fn (k:=1) rfl) h ha,Y.sysm,Y.lim⟩
theorem lrest_sound (hgs:∀ G,T.gs G→T.gs (G.push .finished)) {A:Around} (HA:Rm 26 A) {env:Env} (he:EnvOk env) {e:Expr} {loc:Loc} {H:Hp} {K:KV} (h:LRest env.scope e loc H K) {s:Shared} (R:Rel T H s) (F:Frm T env loc H s.heap) {Q:Value→Shared→Prop} {E:Value→Shared→Prop} (g:Goes T H s K Q):wpAny T.M A (eval e env) Q E s:=by
 obtain ⟨x,p0,p1,p2,p3,p4,p5,c,k,d,L,rfl,h1,h2,h3,h4,h5,h6,h7,h8,h9⟩:=h
 have P:=sysPrims (sys0 Y) 0
 have HC:SoundS T (syAt gF clF (fun Z=>none) XM L0 0 0) 8:=⟨Nat.zero_le _,sysSound (sys0 Y) 0⟩
 have HA9:Rm 9 A:=HA.le (by omega)
 have glob:∀ {x:Str} {v:V},env.scope.names.lookup x=some .globalImplicit→gF x=some v→nameV (syAt gF clF (fun Z=>none) XM L0 0 0) env.scope loc x=some v:=fun e1 e2=>by unfold nameV;rw [e1];exact e2
 obtain ⟨o,ho,hod⟩:=(rok_of Y).obj
 refine wpAny_Call_NameR (nameL P HC HA9 he (c:=.type "list") (glob h1 rfl) R F ?_)
 with_reducible refine callWith_V P HC HA9 he (f:=.lit (.type "list")) rfl ?hlen (evalArgs_V rfl ?_)
 case hlen=>show (1:Nat)≤20;decide
 rw [starEach_ok rfl]
 refine spliced_cons ?_
 refine wpAny_Call_NameR (nameL P HC HA9 he (c:=.ref 260) (glob h2 rfl) R F ?_)
 with_reducible refine callWith_V P HC HA9 he (f:=.lit (.ref 260)) rfl ?hlen (evalArgs_V rfl ?_)
 case hlen=>show (2:Nat)≤20;decide
 rw [starEach_ok rfl]
 refine spliced_cons (nameO P HC HA9 he (a:=d) (by unfold nameV;rw [h3];exact h4) R F ?_)
 rw [starEach_ok rfl]
 refine spliced_cons (wpAny_Constant_int (i:=k) (k:=c) (pos:=p3) ?_)
 have R1:Rel T H { s with toks:=s.toks+1 }:=R.keeps fun Z Z e=>e
 refine spliced_nil ⟨rfl,keep_func (R1.base _ _ ho) hod,?_⟩
 refine wpAny_mono (restore_list (S:=SL 0) (n:=24) (fun p=>sysPrims (sysL (Y.toG p)) 0) (fun p=>sysPrims2 (sysL (Y.toG p)) 0) (fun p=>⟨by show 16≤24;decide,cL_sound (Y.toG p) 0⟩) (rok_of Y) rfl hgs HA h5 h6 h7 h8 R1 h9 (E:=E) (E':=E) (g.after (s₁:={ s with toks:=s.toks+1 }) (.refl _ _))) (fun v s' hv=>?_) fun Z Z e=>e
 exact spliced_nil ⟨rfl,keep_ty _,hv⟩
end
noncomputable def CLaw:CS:=fun f args H K=>(SL 6).C f args H K∨XSM (SL 6) f args H K
noncomputable abbrev LSy:=Scope→Stmt→Loc→Hp→KS→Prop
noncomputable abbrev syL (L:LE) (LS:LSy) (r:Nat):Sy:=⟨CLaw,gF,clF,L,LS,r⟩
noncomputable def LComp (S:Sy):LE:=fun sc e loc H K=>∃ ck elt tgt iter sc' pos,e=.ListComp elt [⟨tgt,iter,[],0⟩] sc' pos∧wComp S sc ck elt tgt iter sc' loc H fun ys H'=>∀ a,H' a=none→K (.obj a) (H'.set a (.list ys))
noncomputable def LBase (l:Addr) (ns:List Int):LE:=fun sc e loc H K=>LScript l ns sc e loc H K∨LRest sc e loc H K
noncomputable def LS0:LSy:=fun Z Z Z Z Z=>False
noncomputable abbrev SyA (l:Addr) (ns:List Int):Sy:=syL (LBase l ns) LS0 25
noncomputable abbrev SyB (l:Addr) (ns:List Int):Sy:=syL (fun sc e loc H K=>LBase l ns sc e loc H K∨LComp (SyA l ns) sc e loc H K) LS0 39
noncomputable abbrev SyC (l:Addr) (ns:List Int):Sy:=syL (fun sc e loc H K=>LBase l ns sc e loc H K∨LComp (SyB l ns) sc e loc H K) (wCompA (SyB l ns)) 39
structure ScrOk (T:TI) (l:Addr) (ns:List Int):Prop where
 at_:∃ o vs n,T.B l=some o∧o.cls=.type "list" ∧ o.data=.seq (List.toArray vs) n∧∀ h,VRs T h (ns.map .int) vs
 len:ns.length≤63
section
variable {T:TI} (Y:WY T)
include Y
theorem claw_sound:SoundC T CLaw 39:=fun A HA f args H K h s fv vs R rf ra Q E g=>by
 rcases h with h | h
 ·exact cL_sound Y 6 A (HA.le (by omega)) f args H K h s fv vs R rf ra Q E g
 ·exact call_sm Y (n:=6) HA h R rf ra g
theorem keep_sm {H:Hp} {s:Shared} (R:Rel T H s):KeepOk T s (.ref 242):=fun A Q E h=>by
 have e:=R.base _ _ (Y.obs (242,_) (mem_ob (k:=39) rfl))
 unfold keeperOf
 refine wpAny_bind (wpAny_load e ?_)
 show wpAny _ _ (specialOf (.ref 242) "__call__" >>= _) _ _ _
 refine wpAny_bind ((sm_makes Y R.base).call.here ?_)
 exact wpAny_pure (h _ (by intro x;cases x))
theorem primsOf {L:LE} {LS:LSy} {r:Nat} (ext:∀ A,Rm (r+1) A→∀ env,EnvOk env→∀ e loc H K,L env.scope e loc H K→∀ s,Rel T H s→Frm T env loc H s.heap→∀ Q E,Goes T H s K Q→wpAny T.M A (eval e env) Q E s):Prims T (syL L LS r) :=
 have P:=sysPrims (sysL Y) 6
 { glob := P.glob, bin := P.bin, ibin := P.ibin, cmp := P.cmp, inPy := P.inPy, get := P.get, put := P.put, putA := P.putA, attr := P.attr, slice := P.slice, meth := P.meth, truth := P.truth, ext
   keeper:=fun f args H K h s fv R rf=>by
    rcases h with h | ⟨ao,an,rfl,rfl,_⟩
    ·exact P.keeper f args H K h s fv R rf
    ·rw [rf.iL];exact keep_sm Y R }
theorem prims2Of {L:LE} {LS:LSy} {r:Nat} (extS:∀ A,Rm (r+1) A→∀ env,EnvOk env→∀ st loc H K,LS env.scope st loc H K→∀ s,Rel T H s→Frm T env loc H s.heap→∀ Q E,GoesS T env H s K Q→wpAny T.M A (exec st env) Q E s):Prims2 T (syL L LS r) :=
 have P:=sysPrims2 (sysL Y) 6
 { unpack:=P.unpack,iterL:=P.iterL,iterT:=P.iterT,iterE:=P.iterE,iterR1:=P.iterR1,iterR2:=P.iterR2,extS }
variable (hgs:∀ G,T.gs G→T.gs (G.push .finished)) {l:Addr} {ns:List Int} (sk:ScrOk T l ns)
include hgs sk
theorem lbase_sound {A:Around} (HA:Rm 26 A) {env:Env} (he:EnvOk env) {e:Expr} {loc:Loc} {H:Hp} {K:KV} (h:LBase l ns env.scope e loc H K) {s:Shared} (R:Rel T H s) (F:Frm T env loc H s.heap) {Q:Value→Shared→Prop} {E:Value→Shared→Prop} (g:Goes T H s K Q):wpAny T.M A (eval e env) Q E s:=by
 rcases h with h | h
 ·obtain ⟨o,vs,n,h1,h2,h3,h4⟩:=sk.at_
  exact lscript_sound Y (HA.le (by omega)) he h1 h2 h3 h4 (by have:=sk.len;omega) h R F g
 ·exact lrest_sound Y hgs HA he h R F g
theorem pA:Prims T (SyA l ns):=primsOf Y fun A HA env he e loc H K h s R F Q E g=>lbase_sound Y hgs sk HA he h R F g
theorem pA2:Prims2 T (SyA l ns):=prims2Of Y fun A HA env he st loc H K h=>False.elim h
theorem hA:SoundS T (SyA l ns) 39:=⟨by show 25≤39;decide,claw_sound Y⟩
theorem pB:Prims T (SyB l ns):=primsOf Y fun A HA env he e loc H K h s R F Q E g=>by
 rcases h with h | ⟨ck,elt,tgt,iter,sc',pos,rfl,h⟩
 ·exact lbase_sound Y hgs sk (HA.le (by omega)) he h R F g
 ·exact comp_eval (pA Y hgs sk) (pA2 Y hgs sk) (hA Y hgs sk) HA he h R F g
theorem pB2:Prims2 T (SyB l ns):=prims2Of Y fun A HA env he st loc H K h=>False.elim h
theorem hB:SoundS T (SyB l ns) 39:=⟨Nat.le_refl _,claw_sound Y⟩
theorem pC:Prims T (SyC l ns):=primsOf Y fun A HA env he e loc H K h s R F Q E g=>by
 rcases h with h | ⟨ck,elt,tgt,iter,sc',pos,rfl,h⟩
 ·exact lbase_sound Y hgs sk (HA.le (by omega)) he h R F g
 ·exact comp_eval (pB Y hgs sk) (pB2 Y hgs sk) (hB Y hgs sk) HA he h R F g
theorem pC2:Prims2 T (SyC l ns):=prims2Of Y fun A HA env he st loc H K h s R F Q E g=>comp_assign (pB Y hgs sk) (pB2 Y hgs sk) (hB Y hgs sk) HA he h R F g
theorem hC:SoundS T (SyC l ns) 39:=⟨Nat.le_refl _,claw_sound Y⟩
end
noncomputable def isCF (y:Str×NameKind):Bool:=y.2==.cell||y.2==.free
theorem noCF_of {l:List (Str×NameKind)} (h:l.filter isCF=[]):noCF l:=fun y hy=>by
 have:=List.filter_eq_nil_iff.mp h y hy
 simp only [isCF,Bool.or_eq_true,beq_iff_eq,not_or] at this
 exact this
theorem cf_split {x:Str} {k:NameKind} {l:List (Str×NameKind)} (h:l.filter isCF=[(x,k)]):∃ a b,l=a++(x,k)::b∧noCF a∧noCF b:=by
 induction l with
 | nil=>exact nomatch h
 | cons y r ih =>
   by_cases c:isCF y=true
   ·have h:=List.cons.inj ((List.filter_cons_of_pos c).symm.trans h)
    exact ⟨[],r,congrArg (·::r) h.1,fun Z q=>(nomatch q),noCF_of h.2⟩
   ·obtain ⟨a,b,e,ha,hb⟩:=ih ((List.filter_cons_of_neg c).symm.trans h)
    refine ⟨y::a,b,congrArg _ e,List.forall_mem_cons.mpr ⟨?_,ha⟩,hb⟩
    simp only [isCF,Bool.or_eq_true,beq_iff_eq,not_or] at c;exact c
noncomputable def ckStat (sc sc':Scope):CK→Bool
 | .plain=>(sc'.names.filter isCF).isEmpty
 | .cell x=>sc'.names.filter isCF==[(x,.cell)]
 | .free x=>sc'.names.filter isCF==[(x,.free)]&&sc.names.lookup x==some .cell&&!(sc'.names.lookup x==some .local)
noncomputable def tgStat (sc:Scope) (tgt:Expr):CK→Bool
 | .cell y=>match tgt with | .Name x _=>x==y&&sc.names.lookup x==some .cell | _=>false
 | _=>match tgt with | .Name x _=>sc.names.lookup x==some .local | _=>true
noncomputable def scStat (sc sc':Scope):Bool:=(relabS sc' sc).kind==.function&&(relabS sc' sc).names.lookup ("__debug__" : Str)==none&&sc'.kind==.function&&sc'.names.all fun x=>x.2 != .local||sc'.names.lookup x.1==some .local
theorem comp_intro {S : Sy} {sc : Scope} {ck : CK} {elt tgt iter : Expr} {sc' : Scope} {loc : Loc} {H : Hp} {K : List V → Hp → Prop} (h1 : ckStat sc sc' ck = true) (h2 : scStat sc sc' = true) (h3 : tgStat (relabS sc' sc) tgt ck = true) (h4 : notSet iter = true) (h5 : enumOk tgt iter = true)
  (h6:∀ y,ck=.free y→∃ v,loc.get y=some v) (h:wIter S sc iter loc H fun xs g H₁=>xs.length≤4096∧wCs S (relabS sc' sc) tgt elt g xs (locIn loc ck) H₁ [] K):wComp S sc ck elt tgt iter sc' loc H K:=by
 simp only [scStat,Bool.and_eq_true,beq_iff_eq,List.all_eq_true,Bool.or_eq_true,bne_iff_ne,ne_eq] at h2
 obtain ⟨⟨⟨a1,a2⟩,a3⟩,a4⟩:=h2
 refine ⟨?_,⟨a1,a2⟩,a3,fun x hx hl=>(a4 x hx).resolve_left (fun q=>q hl),h4,h5,fun x p e=>?_,fun y e=>?_,fun y e=>⟨h6 y e,?_⟩,h⟩
 ·cases ck with
  | plain=>exact noCF_of (List.isEmpty_iff.mp h1)
  | cell x=>exact cf_split (eq_of_beq h1)
  | free x =>
    have q:=Bool.and_eq_true_iff.mp (Bool.and_eq_true_iff.mp h1).1
    exact ⟨cf_split (eq_of_beq q.1),eq_of_beq q.2⟩
 ·subst e
  cases ck with
  | plain=>exact eq_of_beq h3
  | cell y =>
    have q:=Bool.and_eq_true_iff.mp h3
    exact ⟨eq_of_beq q.1,eq_of_beq q.2⟩
  | free y=>exact eq_of_beq h3
 ·subst e
  cases tgt <;> first | exact ⟨_,_,rfl⟩ | cases h3
 ·subst e
  exact beq_eq_false_iff_ne.mp ((Bool.not_eq_true' _).mp (Bool.and_eq_true_iff.mp h1).2)
theorem c_nil {S:Sy} {sc:Scope} {tgt elt:Expr} {g:Hp→Prop} {loc:Loc} {H:Hp} {ys:List V} {K:List V→Hp→Prop} (hg:g H) (h:K ys H):wCs S sc tgt elt g [] loc H ys K:=⟨hg,h⟩
theorem c_turnN {S : Sy} {sc : Scope} {x : Str} {p : Pos} {elt : Expr} {g : Hp → Prop} {v : V} {r : List V} {loc : Loc} {H : Hp} {ys : List V} {K : List V → Hp → Prop} (hg : g H) (hx : sc.names.lookup x = some .local ∨ sc.names.lookup x = some .cell)
  (h:wE S sc elt (loc.put x v) H fun y H'=>wCs S sc (.Name x p) elt g r (loc.put x v) H' (ys++[y]) K):wCs S sc (.Name x p) elt g (v::r) loc H ys K:=⟨hg,_,⟨hx,rfl⟩,h⟩
theorem c_turnT {S : Sy} {sc : Scope} {ts : List Expr} {c : Nat} {p : Pos} {elt : Expr} {g : Hp → Prop} {xs : List V} {r : List V} {loc loc' : Loc} {H : Hp} {ys : List V} {K : List V → Hp → Prop} (hg : g H) (hp : putNames sc ts xs loc = some loc')
  (h:wE S sc elt loc' H fun y H'=>wCs S sc (.Tuple ts c p) elt g r loc' H' (ys++[y]) K):wCs S sc (.Tuple ts c p) elt g (.tup xs::r) loc H ys K:=⟨hg,_,⟨xs,rfl,hp⟩,h⟩
section
variable {l:Addr} {ns:List Int} {sc:Scope} {loc:Loc} {H:Hp} {K:KV}
theorem x_scr {x : Str} {p : Pos} {c : Nat} {q p1 p2 : Pos} (h1 : sc.names.lookup x = some .local) (h2 : loc.get x = some (.lit (.ref l))) (h : ∀ a, H a = none → K (.obj a) (H.set a (.list ((ns.take 5).map .int)))) :
  wE (SyC l ns) sc (.Subscript (.Name x p) (.Slice none (some (.Constant (.int 5) c q)) none p1) p2) loc H K:=.inl (.inl ⟨x,p,c,q,p1,p2,rfl,h1,h2,h⟩)
theorem x_rest {x : Str} {p0 p1 p2 p3 p4 p5 : Pos} {c : Nat} {k : Int} {d : Addr} {L : List Str} (h1 : sc.names.lookup ("list" : Str) = some .globalImplicit) (h2 : sc.names.lookup ("restore" : Str) = some .globalImplicit) (h3 : sc.names.lookup x = some .local) (h4 : loc.get x = some (.obj d)) (h5 : H d = some (.list (L.map .str)))
  (h6:∀ s∈L,s.length≤4096) (h7:L.length≤4096) (h8:k=1∨k=2) (h:∀ a,H a=none→K (.obj a) (H.set a (.list ((kept (tagOf k) L).map .str)))) :
  wE (SyC l ns) sc (.Call (.Name "list" p0) [.Call (.Name "restore" p1) [.Name x p2,.Constant (.int k) c p3] [] p4] [] p5) loc H K :=
 x_spec rfl (.inl (.inr ⟨x,p0,p1,p2,p3,p4,p5,c,k,d,L,rfl,h1,h2,h3,h4,h5,h6,h7,h8,h⟩))
theorem x_compC {ck:CK} {elt tgt iter:Expr} {sc':Scope} {pos:Pos} (h:wComp (SyB l ns) sc ck elt tgt iter sc' loc H fun ys H'=>∀ a,H' a=none→K (.obj a) (H'.set a (.list ys))):wE (SyC l ns) sc (.ListComp elt [⟨tgt,iter,[],0⟩] sc' pos) loc H K:=.inr ⟨ck,elt,tgt,iter,sc',pos,rfl,h⟩
theorem x_compB {ck:CK} {elt tgt iter:Expr} {sc':Scope} {pos:Pos} (h:wComp (SyA l ns) sc ck elt tgt iter sc' loc H fun ys H'=>∀ a,H' a=none→K (.obj a) (H'.set a (.list ys))):wE (SyB l ns) sc (.ListComp elt [⟨tgt,iter,[],0⟩] sc' pos) loc H K:=.inr ⟨ck,elt,tgt,iter,sc',pos,rfl,h⟩
theorem x_compS {ck : CK} {y : Str} {py : Pos} {elt tgt iter : Expr} {sc' : Scope} {pos p : Pos} {r : List Stmt} {K' : KS} (h1 : sc.names.lookup y = some .local) (h2 : (py.line == pos.line) = true) (h3 : (sc'.names.any fun (n, k) => n == y && (k == .local || k == .cell)) = false)
  (h:wComp (SyB l ns) sc ck elt tgt iter sc' loc H fun ys H'=>∀ a,H' a=none→wSs (SyC l ns) sc r (loc.put y (.obj a)) (H'.set a (.list ys)) K'):wSs (SyC l ns) sc (.Assign [.Name y py] (.ListComp elt [⟨tgt,iter,[],0⟩] sc' pos) p::r) loc H K':=wCompA.mk ck h1 h2 h3 h
end
end Mine
end
section
namespace Mine
open PySem PySem.Spec PySem.Calls PyProof.Rows
noncomputable def bs0:List Nat:=[420,493,2541,1023,0]
noncomputable abbrev lawB:List Stmt:=fnBody "law" topB
noncomputable abbrev lawSc:Scope:=fnScope "law" topB
theorem lk_law:lawSc.names.lookup ("script" : Str)=some .local∧lawSc.names.lookup ("words" : Str)=some .local∧lawSc.names.lookup ("after" : Str)=some .local∧lawSc.names.lookup ("rows" : Str)=some .local∧lawSc.names.lookup ("delta" : Str)=some .local∧lawSc.names.lookup ("old" : Str)=some .local∧lawSc.names.lookup ("new" : Str)=some .local ∧
 lawSc.names.lookup ("_law_done" : Str)=some .globalImplicit∧lawSc.names.lookup ("_law_delta" : Str)=some .globalImplicit∧lawSc.names.lookup ("sorted" : Str)=some .globalImplicit:=by decide +kernel
theorem law_pre1 {l : Addr} {ns : List Int} {H : Hp} {K : KS} (hK : ∀ loc H' w a (bs : List Nat), Bits5 bs → loc.get "words" = some (.obj w) → loc.get "after" = some (.obj a) → H' w = some (.list (wordsOf bs0)) → H' a = some (.list (wordsOf bs)) → K .next loc H') :
  wSs (SyC l ns) lawSc (lawB.take 2) [("script",some (.lit (.ref l)))] H K:=by
 have l1:=lk_law.1;have l2:=lk_law.2.1;have l3:=lk_law.2.2.1;have l4:=lk_law.2.2.2.1;have l5:=lk_law.2.2.2.2.1;have l6:=lk_law.2.2.2.2.2.1;have l7:=lk_law.2.2.2.2.2.2.1;have l8:=lk_law.2.2.2.2.2.2.2.1;have l9:=lk_law.2.2.2.2.2.2.2.2.1;have l10:=lk_law.2.2.2.2.2.2.2.2.2
 generalize lawSc=sc at *
 have g1:(SyC l ns).G "_law_done" = some (.lit (.ref 342)):=rfl
 with_unfolding_all refine x_Assign ?_
 repeat walk_at "st2"
 intro w hw
 repeat walk_at "st2"
 with_unfolding_all refine x_Assign ?_
 repeat walk_at "st2"
 intro b hb
 repeat walk_at "st2"
 refine x_scr l1 (by walk_at "g2") fun c hc=>?_
 refine b_lcat (Hp.old hc (Hp.set_self _ _ _)) (Hp.set_self _ _ _) (by simp;omega) fun d hd=>?_
 repeat walk_at "st2"
 refine .inl (done_L 5 w d bs0 ([240,23,12]++ns.take 5) _ _ ?_ ?_ ⟨rfl,by decide⟩ fun bs e h5 he=>?_)
 ·exact Hp.old hd (Hp.old hc (Hp.old hb (Hp.set_self _ _ _)))
 ·rw [List.map_append];exact Hp.set_self _ _ _
 ·repeat walk_at "st2"
  exact hK _ _ w e bs h5 (by walk_at "g2") (by walk_at "g2") (Hp.old he (Hp.old hd (Hp.old hc (Hp.old hb (Hp.set_self _ _ _))))) (Hp.set_self _ _ _)
theorem c_upto {S : Sy} {sc : Scope} {x : Str} {p : Pos} {elt : Expr} {H : Hp} {K : List V → Hp → Prop} (f : Nat → V) (P : Loc → Prop) (hx : sc.names.lookup x = some .local ∨ sc.names.lookup x = some .cell) (hP : ∀ loc v, P loc → P (loc.put x v)) (n : Nat) : ∀ (i : Nat) (loc : Loc) (ys : List V),
  (∀ j,j < i+n→∀ loc,P loc→∀ K:KV,K (f j) H→wE S sc elt (loc.put x (.int j)) H K)→P loc→K (ys++(List.range' i n).map f) H→wCs S sc (.Name x p) elt (fun Z=>True) (upFrom i n) loc H ys K:=by
 induction n with
 | zero=>exact fun i loc ys Z Z k=>c_nil trivial (List.append_nil ys▸k)
 | succ n ih=>exact fun i loc ys ht hp k=>c_turnN trivial hx (ht i (Nat.lt_add_of_pos_right (Nat.succ_pos n)) loc hp _ (ih (i+1) _ _ (fun j hj=>ht j (Nat.add_right_comm i n 1▸hj)) (hP _ _ hp) ((List.append_assoc ..).symm▸k)))
noncomputable def rowF (f:Nat→Str) (bs:List Nat) (k:Nat):Str:=f (kinds5.getD k 0 * 4096+bs.getD k 0)++⟨#[32]⟩++chrS "abcde" k
def SpStr (C:CS) (fa:Addr) (f:Nat→Str):Prop:=(∀ k b,b < 4096→k=4∨k=8→(f (k * 4096+b)).length≤50)∧∀ (w:Nat) (H:Hp) (K:KV),w < 1000000→K (.str (f w)) H→C (.lit (.ref fa)) [.int w] H K
theorem words_at {bs:List Nat} (h5:Bits5 bs) {k:Nat} (hk:k < 5):(wordsOf bs)[k]?=some (.int ((kinds5.getD k 0 * 4096+bs.getD k 0:Nat):Int))∧kinds5.getD k 0 * 4096+bs.getD k 0 < 1000000∧bs.getD k 0 < 4096∧(kinds5.getD k 0=4∨kinds5.getD k 0=8):=by
 obtain ⟨hl,hb⟩:=h5
 have hkb:k < bs.length:=hl▸hk
 have e:bs.getD k 0=bs[k]:=by simp [hkb]
 have hlt:=hb bs[k] (List.getElem_mem hkb)
 have hk5:kinds5.getD k 0=4∨kinds5.getD k 0=8:=by
  exact (by decide:∀ k < 5,kinds5.getD k 0=4∨kinds5.getD k 0=8) k hk
 have h8:kinds5.getD k 0≤8:=hk5.elim (fun q=>q▸by decide) fun q=>q▸Nat.le_refl 8
 refine ⟨?_,by rw [e];exact Nat.lt_of_le_of_lt (Nat.add_le_add (Nat.mul_le_mul_right 4096 h8) (Nat.le_of_lt hlt)) (by decide),by rw [e];exact hlt,hk5⟩
 unfold wordsOf
 have hk':k < kinds5.length:=hk
 have hz:(kinds5.zip bs)[k]?=some (kinds5[k],bs[k]):=List.getElem?_zip_eq_some.mpr ⟨List.getElem?_eq_getElem hk',List.getElem?_eq_getElem hkb⟩
 rw [List.getElem?_map,hz,e,show kinds5.getD k 0=kinds5[k] by simp [hk']]
 rfl
section
variable {l:Addr} {ns:List Int} {fa:Addr} {f:Nat→Str} (sp:SpStr CLaw fa f) {fn:Str} (gf:gF fn=some (.lit (.ref fa)))
include sp gf
theorem row_elt {sc : Scope} (l1 : sc.names.lookup fn = some .globalImplicit) (l2 : sc.names.lookup ("half" : Str) = some .cell) (l3 : sc.names.lookup ("k" : Str) = some .local) {h : Addr} {bs : List Nat} (h5 : Bits5 bs) {H : Hp} (Hh : H h = some (.list (wordsOf bs))) {k : Nat} (hk : k < 5) {loc : Loc} (hh : loc.get "half" = some (.obj h)) {K : KV} (hK : K (.str (rowF f bs k)) H)
  {p1 p2 p3 p4 p5 p6 p7 p8 p9 p10 p11:Pos} {c1 c2:Nat}:wE (SyA l ns) sc (.BinOp (.BinOp (.Call (.Name fn p1) [.Subscript (.Name "half" p2) (.Name "k" p3) p4] [] p5) .Add (.Constant (.str " ") c1 p6) p7) .Add (.Subscript (.Constant (.str "abcde") c2 p8) (.Name "k" p9) p10) p11) (loc.put "k" (.int k)) H K:=by
 have g1:(SyA l ns).G fn=some (.lit (.ref fa)):=gf
 obtain ⟨wa,wb,wc,wd⟩:=words_at h5 hk
 have hs:special (.Call (.Name fn p1) [.Subscript (.Name "half" p2) (.Name "k" p3) p4] [] p5)=false:=rfl
 refine x_Bin (x_Bin (x_CallG l1 g1 ?_ rfl rfl (Nat.le_of_ble_eq_true rfl)))
 repeat walk_at "st2"
 refine g_list Hh (sm_nat (Nat.le_trans (Nat.le_of_lt hk) (by decide))) (si_nat (by unfold wordsOf;simp [h5.1,kinds5];omega)) wa ?_
 repeat walk_at "st2"
 refine sp.2 _ _ _ wb ?_
 repeat walk_at "st2"
 have hl:=sp.1 _ _ wc wd
 refine b_cat (big_line (Nat.le_trans (Nat.succ_le_succ hl) (by decide))) ?_
 repeat walk_at "st2"
 refine g_chr (by show k < 5;exact hk) (by decide) ?_
 refine b_cat (big_line (by rw [str_app_len];exact Nat.le_trans (Nat.succ_le_succ (Nat.succ_le_succ hl)) (by decide))) ?_
 exact hK
noncomputable def rowsF (f:Nat→Str) (bs:List Nat):List Str:=(List.range' 0 5).map (rowF f bs)
theorem half_rows {sc sc' : Scope} (k1 : ckStat sc sc' (.free "half") = true) (k2 : scStat sc sc' = true) (m1 : (relabS sc' sc).names.lookup fn = some .globalImplicit) (m2 : (relabS sc' sc).names.lookup ("half" : Str) = some .cell) (m3 : (relabS sc' sc).names.lookup ("k" : Str) = some .local) (m4 : sc.names.lookup ("range" : Str) = some .globalImplicit)
  {h:Addr} {bs:List Nat} (h5:Bits5 bs) {H:Hp} (Hh:H h=some (.list (wordsOf bs))) {loc:Loc} (hh:loc.get "half" = some (.obj h)) {K:KV} (hK:∀ r,H r=none→K (.obj r) (H.set r (.list ((rowsF f bs).map .str))))
  {p1 p2 p3 p4 p5 p6 p7 p8 p9 p10 p11 q1 q2 q3 q4 q5:Pos} {c1 c2 c3:Nat}:wE (SyB l ns) sc (.ListComp (.BinOp (.BinOp (.Call (.Name fn p1) [.Subscript (.Name "half" p2) (.Name "k" p3) p4] [] p5) .Add (.Constant (.str " ") c1 p6) p7) .Add (.Subscript (.Constant (.str "abcde") c2 p8) (.Name "k" p9) p10) p11)
   [⟨.Name "k" q1,.Call (.Name "range" q2) [.Constant (.int 5) c3 q3] [] q4,[],0⟩] sc' q5) loc H K:=by
 refine x_compB (ck:=.free "half") (comp_intro k1 k2 (by show (_==_)=true;rw [m3];rfl) rfl rfl (fun y q=>by cases q;exact ⟨_,hh⟩) ?_)
 refine x_itR1 m4 rfl (x_int ⟨5,rfl,by decide,by decide,by decide,?_⟩) rfl
 refine c_upto (fun k=>.str (rowF f bs k)) (fun loc=>loc.get "half" = some (.obj h)) (.inl m3) (fun loc v hp=>Loc.get_other (by decide) hp) 5 0 _ [] (fun k hk loc hp K hK=>row_elt sp gf m1 m2 m3 h5 Hh (by omega) hp hK) ?_ ?_
 ·show Loc.get [("half",loc.get "half")] "half" = _
  rw [hh];rfl
 ·intro r hr
  have:=hK r hr
  unfold rowsF at this
  rwa [List.map_map] at this
theorem rows_iter {sc sc1 sc' : Scope} (l1 : sc.names.lookup ("words" : Str) = some .local) (l2 : sc.names.lookup ("after" : Str) = some .local) (hx : sc1.names.lookup ("half" : Str) = some .cell) (k1 : ckStat sc1 sc' (.free "half") = true) (k2 : scStat sc1 sc' = true) (m1 : (relabS sc' sc1).names.lookup fn = some .globalImplicit) (m2 : (relabS sc' sc1).names.lookup ("half" : Str) = some .cell) (m3 : (relabS sc' sc1).names.lookup ("k" : Str) = some .local) (m4 : sc1.names.lookup ("range" : Str) = some .globalImplicit)
  {w a:Addr} {bs bs':List Nat} (h5:Bits5 bs) (h5':Bits5 bs') {H:Hp} (Hw:H w=some (.list (wordsOf bs))) (Ha:H a=some (.list (wordsOf bs'))) {loc:Loc} (hw:loc.get "words" = some (.obj w)) (ha:loc.get "after" = some (.obj a)) {K:List V→Hp→Prop}
  (hK:∀ ro rn H',(∀ b o,H b=some o→H' b=some o)→H' ro=some (.list ((rowsF f bs).map .str))→H' rn=some (.list ((rowsF f bs').map .str))→K [.obj ro,.obj rn] H')
  {p1 p2 p3 p4 p5 p6 p7 p8 p9 p10 p11 q1 q2 q3 q4 q5 r1 r2 r3 r4:Pos} {c1 c2 c3:Nat} {loc0:Loc}:wIter (SyB l ns) sc (.List [.Name "words" r1,.Name "after" r2] r3) loc H fun xs g H₁=>xs.length≤4096∧wCs (SyB l ns) sc1 (.Name "half" r4)
   (.ListComp (.BinOp (.BinOp (.Call (.Name fn p1) [.Subscript (.Name "half" p2) (.Name "k" p3) p4] [] p5) .Add (.Constant (.str " ") c1 p6) p7) .Add (.Subscript (.Constant (.str "abcde") c2 p8) (.Name "k" p9) p10) p11)
   [⟨.Name "k" q1,.Call (.Name "range" q2) [.Constant (.int 5) c3 q3] [] q4,[],0⟩] sc' q5) g xs loc0 H₁ [] K:=by
 refine x_itL (x_List (x_es (x_NL l1 hw (x_es (x_NL l2 ha (x_es0 ⟨by show 2≤4096;decide,fun c hc=>?_⟩)) rfl)) rfl))
 refine i_list (Hp.set_self _ _ _) ⟨by show 2≤4096;decide,?_⟩
 refine c_turnN (Hp.set_self _ _ _) (.inr hx) (half_rows sp gf k1 k2 m1 m2 m3 m4 h5 (Hp.old hc Hw) Loc.get_self fun r hr=>?_)
 refine c_turnN (Hp.old hr (Hp.set_self _ _ _)) (.inr hx) (half_rows sp gf k1 k2 m1 m2 m3 m4 h5' (Hp.old hr (Hp.old hc Ha)) Loc.get_self fun r' hr'=>?_)
 refine c_nil (Hp.old hr' (Hp.old hr (Hp.set_self _ _ _))) ?_
 exact hK r r' _ (fun b o e=>Hp.old hr' (Hp.old hr (Hp.old hc e))) (Hp.old hr' (Hp.set_self _ _ _)) (Hp.set_self _ _ _)
end
def okS (s:Str):Prop:=s.cps.toList.all (· < 0x110000)=true
theorem okS_of {s:Str} (h:s.cps.toList.all (· < 0x110000)=true):okS s:=h
theorem okS_app {x y:Str} (a:okS x) (b:okS y):okS (x++y):=by
 unfold okS at *
 rw [Str.cps_append,Array.toList_append,List.all_append,a,b];rfl
theorem okS_chr {s:Str} (h:okS s) (i:Nat):okS (chrS s i):=by
 unfold okS at *
 show ([s.cps.getD i 0].all _)=true
 rw [List.all_cons,List.all_nil,Bool.and_true]
 by_cases hi:i < s.cps.size
 ·rw [show s.cps.getD i 0=s.cps[i] by simp [Array.getD,hi]]
  exact List.all_eq_true.mp h _ (by simp)
 ·rw [show s.cps.getD i 0=0 by simp [Array.getD,hi]];rfl
theorem okS_sg (w:Nat):∀ i,okS (sgK w i)
 | 0=>by unfold sgK sgHd;split <;> rfl
 | i + 1 => by
   unfold sgK sgPl
   refine okS_app (okS_app (okS_app (okS_sg w i) (okS_chr (okS_of rfl) _)) (okS_chr (okS_of rfl) _)) (okS_chr ?_ _)
   split <;> rfl
theorem sgS_len (w:Nat):(sgS w).length=10:=by
 show (sgPl w 0 (sgPl w 1 (sgPl w 2 (sgHd w)))).length=10
 rw [sgPl_len,sgPl_len,sgPl_len,sgHd_len]
theorem row_good (bs:List Nat) (k:Nat):Good (rowF sgS bs k) :=
 ⟨strOk_of (okS_app (okS_app (okS_sg _ 3) (okS_of rfl)) (okS_chr (okS_of rfl) _)),by unfold rowF;rw [str_app_len,str_app_len,sgS_len];show 10+1+1≤50;decide⟩
theorem row_last {bs bs':List Nat} {i j:Nat} (h:rowF sgS bs i=rowF sgS bs' j):chrS "abcde" i=chrS "abcde" j:=by
 have e:∀ (x y:Str) (a b:Str),a.length=1→b.length=1→x++a=y++b→a=b:=fun x y a b ha hb e=>by
  have e:=congrArg (fun s:Str=>s.cps.toList) e
  simp only [Str.cps_append,Array.toList_append] at e
  have:=(List.append_inj' e (by simp only [Array.length_toList];exact ha.trans hb.symm)).2
  have:=Array.toList_inj.mp this
  cases a;cases b;exact congrArg Str.mk this
 exact e _ _ _ _ rfl rfl h
theorem rows_nodup (bs:List Nat):(rowsF sgS bs).Nodup:=by
 refine List.pairwise_map.mpr ?_
 refine List.Pairwise.imp_of_mem (R:=(·≠·)) (fun {i j} hi hj hij e=>hij ?_) (by decide:(List.range' 0 5).Pairwise (·≠·))
 exact (by decide:∀ i∈List.range' 0 5,∀ j∈List.range' 0 5,chrS "abcde" i=chrS "abcde" j→i=j) i hi j hj (row_last e)
theorem rows_len (f:Nat→Str) (bs:List Nat):(rowsF f bs).length=5:=rfl
theorem rows_good {bs:List Nat}:∀ s∈rowsF sgS bs,Good s:=fun s hs=>by
 obtain ⟨k,_,rfl⟩:=List.mem_map.mp hs
 exact row_good bs k
theorem rows_same {bs:List Nat} (h5:Bits5 bs):rowsF fmS bs=rowsF sgS bs:=by
 refine List.map_congr_left fun k hk=>?_
 have hk:k < 5:=by simpa using hk
 obtain ⟨_,_,c,d⟩:=words_at h5 hk
 unfold rowF
 rw [fm_sg c d]
theorem datas_strs (H:Hp) (n:Nat) (l:List Str):dataOf.datasOf (dataOf H (n+1)) (l.map .str)=some (l.map .str):=by
 induction l with
 | nil=>rfl
 | cons p r ih=>exact datas_cons rfl ih
theorem can_strs:∀ {l:List Str},(∀ s∈l,Good s)→PyData.canLayAll0 (l.map .str)=true
 | [],_=>rfl
 | s :: r, h => by
   simp only [List.map_cons,PyData.canLayAll0,PyData.canLay0,Bool.and_eq_true]
   exact ⟨(h s (.head _)).1,can_strs fun t ht=>h t (.tail _ ht)⟩
theorem depth_strs (l:List Str):PyData.depthAll (l.map .str)=0:=PyProof.Rows.depthAll_strs' l
theorem t_neLL {x y a b c d : Addr} {A B : List Str} {H : Hp} {KB' : KB} (hx : H x = some (.list [.obj a, .obj b])) (hy : H y = some (.list [.obj c, .obj d])) (ha : H a = some (.list (A.map .str))) (hb : H b = some (.list (B.map .str))) (hc : H c = some (.list (A.map .str))) (hd : H d = some (.list (B.map .str)))
  (gA:∀ s∈A,Good s) (gB:∀ s∈B,Good s) (k:KB' false H):wCmp .NotEq (.obj x) (.obj y) H (TB KB'):=by
 have cn:PyData.canLay0 (.list [.list (A.map .str),.list (B.map .str)])=true:=by
  simp only [PyData.canLay0,PyData.canLayAll0,can_strs gA,can_strs gB,Bool.and_self]
 refine .inl ⟨.list [.list (A.map .str),.list (B.map .str)],.list [.list (A.map .str),.list (B.map .str)],?_,?_,cn,cn,?_,_,rfl,?_⟩
 ·exact (dataOf_obj hx).trans (congrArg (Option.map PyData.list) (datas_cons ((dataOf_obj ha).trans (congrArg (Option.map PyData.list) (datas_strs _ _ _))) (datas_cons ((dataOf_obj hb).trans (congrArg (Option.map PyData.list) (datas_strs _ _ _))) rfl)))
 ·exact (dataOf_obj hy).trans (congrArg (Option.map PyData.list) (datas_cons ((dataOf_obj hc).trans (congrArg (Option.map PyData.list) (datas_strs _ _ _))) (datas_cons ((dataOf_obj hd).trans (congrArg (Option.map PyData.list) (datas_strs _ _ _))) rfl)))
 ·exact Nat.le_trans (Nat.min_le_left _ _) (by simp only [PyData.depth,PyData.depthAll,depth_strs];decide)
 ·rw [SeqAt.eqv_refl _ cn];exact k
theorem sp_signs:SpStr CLaw 349 sgS:=⟨fun k b Z Z=>by rw [sgS_len];decide,fun w H K hw k=>.inl (signs_L 5 w H K hw k)⟩
theorem sp_fmode:SpStr CLaw 335 fmS:=⟨fun k b hb hk=>by rw [fm_sg hb hk,sgS_len];decide,fun w H K hw k=>.inl (fmode_L 4 w H K hw k)⟩
theorem law_pre2 {l : Addr} {ns : List Int} {loc : Loc} {H : Hp} {K : KS} {w a : Addr} {bs : List Nat} (h5 : Bits5 bs) (hw : loc.get "words" = some (.obj w)) (ha : loc.get "after" = some (.obj a)) (Hw : H w = some (.list (wordsOf bs0))) (Ha : H a = some (.list (wordsOf bs)))
  (hK:∀ loc' H' r ro rn,loc'.get "rows" = some (.obj r)→H' r=some (.list [.obj ro,.obj rn])→H' ro=some (.list ((rowsF sgS bs0).map .str))→H' rn=some (.list ((rowsF sgS bs).map .str))→K .next loc' H') :
  wSs (SyC l ns) lawSc ((lawB.drop 2).take 2) loc H K:=by
 have l1:=lk_law.1;have l2:=lk_law.2.1;have l3:=lk_law.2.2.1;have l4:=lk_law.2.2.2.1;have l5:=lk_law.2.2.2.2.1;have l6:=lk_law.2.2.2.2.2.1;have l7:=lk_law.2.2.2.2.2.2.1;have l8:=lk_law.2.2.2.2.2.2.2.1;have l9:=lk_law.2.2.2.2.2.2.2.2.1;have l10:=lk_law.2.2.2.2.2.2.2.2.2
 have b0:Bits5 bs0:=⟨rfl,by decide⟩
 with_unfolding_all refine x_compS (ck:=.cell "half") l4 rfl (by decide +kernel) (comp_intro (by decide +kernel) (by decide +kernel) (by decide +kernel) rfl rfl (fun y q=>(nomatch q)) ?_)
 refine rows_iter sp_signs rfl l2 l3 (by decide +kernel) (by decide +kernel) (by decide +kernel) (by decide +kernel) (by decide +kernel) (by decide +kernel) (by decide +kernel) b0 h5 Hw Ha hw ha fun ro rn H1 k1 e1 e2=>?_
 intro r hr
 have hw1:=Loc.get_other (v:=.obj r) (by decide:("rows" : Str) ≠ "words") hw
 have ha1:=Loc.get_other (v:=.obj r) (by decide:("rows" : Str) ≠ "after") ha
 have hr1:(loc.put "rows" (.obj r)).get "rows" = some (.obj r):=Loc.get_self
 have Hw1:=Hp.old (o':=.list [.obj ro,.obj rn]) hr (k1 _ _ Hw)
 have Ha1:=Hp.old (o':=.list [.obj ro,.obj rn]) hr (k1 _ _ Ha)
 have Ho1:=Hp.old (o':=.list [.obj ro,.obj rn]) hr e1
 have Hn1:=Hp.old (o':=.list [.obj ro,.obj rn]) hr e2
 have Hr1:(H1.set r (.list [.obj ro,.obj rn])) r=_:=Hp.set_self _ _ _
 generalize loc.put "rows" (.obj r)=loc1 at *
 generalize H1.set r (.list [.obj ro,.obj rn])=H2 at *
 with_unfolding_all refine x_If ?_
 refine x_tCmp ?_ rfl
 refine x_compC (ck:=.cell "half") (comp_intro (by decide +kernel) (by decide +kernel) (by decide +kernel) rfl rfl (fun y q=>(nomatch q)) ?_)
 refine rows_iter sp_fmode rfl l2 l3 (by decide +kernel) (by decide +kernel) (by decide +kernel) (by decide +kernel) (by decide +kernel) (by decide +kernel) (by decide +kernel) b0 h5 Hw1 Ha1 hw1 ha1 fun qo qn H3 k3 f1 f2=>?_
 intro q hq
 rw [rows_same b0] at f1
 rw [rows_same h5] at f2
 refine x_NL l4 hr1 (t_neLL (Hp.set_self _ _ _) (Hp.old hq (k3 _ _ Hr1)) (Hp.old hq f1) (Hp.old hq f2) (Hp.old hq (k3 _ _ Ho1)) (Hp.old hq (k3 _ _ Hn1)) rows_good rows_good ?_)
 refine ⟨fun c=>(nomatch c),fun Z=>?_⟩
 repeat walk_at "st2"
 exact hK _ _ r ro rn hr1 (Hp.old hq (k3 _ _ Hr1)) (Hp.old hq (k3 _ _ Ho1)) (Hp.old hq (k3 _ _ Hn1))
structure LMid (loc:Loc) (H:Hp) (A B ro rn:List Str) (d o n:Addr):Prop where
 ld:loc.get "delta" = some (.obj d)
 lo:loc.get "old" = some (.obj o)
 ln:loc.get "new" = some (.obj n)
 hd:H d=some (.list ((deltaOf A B).map .str))
 ho:H o=some (.list (ro.map .str))
 hn:H n=some (.list (rn.map .str))
 po:ro.Perm A
 pn:rn.Perm B
 so:ro.Pairwise fun a b=>slt b a=false
 sn:rn.Pairwise fun a b=>slt b a=false
 la:A.length=5
 lb:B.length=5
 na:A.Nodup
 nb:B.Nodup
 ga:∀ s∈A,Good s
 gb:∀ s∈B,Good s
theorem law_pre3 {l : Addr} {ns : List Int} {loc : Loc} {H : Hp} {K : KS} {bs : List Nat} {r a b : Addr} (hr : loc.get "rows" = some (.obj r)) (Hr : H r = some (.list [.obj a, .obj b])) (Ha : H a = some (.list ((rowsF sgS bs0).map .str))) (Hb : H b = some (.list ((rowsF sgS bs).map .str)))
  (hK:∀ loc' H' ro rn d o n,LMid loc' H' (rowsF sgS bs0) (rowsF sgS bs) ro rn d o n→K .next loc' H') :
  wSs (SyC l ns) lawSc ((lawB.drop 4).take 2) loc H K:=by
 have l1:=lk_law.1;have l2:=lk_law.2.1;have l3:=lk_law.2.2.1;have l4:=lk_law.2.2.2.1;have l5:=lk_law.2.2.2.2.1;have l6:=lk_law.2.2.2.2.2.1;have l7:=lk_law.2.2.2.2.2.2.1;have l8:=lk_law.2.2.2.2.2.2.2.1;have l9:=lk_law.2.2.2.2.2.2.2.2.1;have l10:=lk_law.2.2.2.2.2.2.2.2.2
 have g1:(SyC l ns).G "_law_delta" = some (.lit (.ref 356)):=rfl
 have g2:(SyC l ns).G "sorted" = some (.lit (.builtin "sorted")):=rfl
 generalize lawSc=sc at *
 have i0:∀ {H:Hp} {K:KV},H r=some (.list [.obj a,.obj b])→K (.obj a) H→wGet (.obj r) (.int 0) H K:=fun e k=>g_list e (by decide) (j:=0) rfl rfl k
 have i1:∀ {H:Hp} {K:KV},H r=some (.list [.obj a,.obj b])→K (.obj b) H→wGet (.obj r) (.int 1) H K:=fun e k=>g_list e (by decide) (j:=1) rfl rfl k
 with_unfolding_all refine x_Assign ?_
 repeat walk_at "st2"
 refine i0 Hr ?_
 repeat walk_at "st2"
 refine i1 Hr ?_
 repeat walk_at "st2"
 refine .inl (delta_L 2 a b _ _ _ _ Ha Hb (Nat.le_of_eq (rows_len _ _)) (Nat.le_of_eq (rows_len _ _)) rows_good rows_good fun d hd=>?_)
 have Hd:(H.set d (.list ((deltaOf (rowsF sgS bs0) (rowsF sgS bs)).map .str))) d=_:=Hp.set_self _ _ _
 have Hr1:=Hp.old (o':=.list ((deltaOf (rowsF sgS bs0) (rowsF sgS bs)).map .str)) hd Hr
 have Ha1:=Hp.old (o':=.list ((deltaOf (rowsF sgS bs0) (rowsF sgS bs)).map .str)) hd Ha
 have Hb1:=Hp.old (o':=.list ((deltaOf (rowsF sgS bs0) (rowsF sgS bs)).map .str)) hd Hb
 generalize H.set d (.list ((deltaOf (rowsF sgS bs0) (rowsF sgS bs)).map .str))=H1 at *
 repeat walk_at "st2"
 with_unfolding_all refine x_Assign ?_
 repeat walk_at "st2"
 refine i0 Hr1 ?_
 repeat walk_at "st2"
 refine .inl (xL (.sorted Ha1 (by rw [rows_len];decide) fun ro o po so ho=>?_))
 repeat walk_at "st2"
 refine i1 (Hp.old ho Hr1) ?_
 repeat walk_at "st2"
 refine .inl (xL (.sorted (Hp.old ho Hb1) (by rw [rows_len];decide) fun rn n pn sn hn=>?_))
 repeat walk_at "st2"
 exact hK _ _ ro rn d o n ⟨by walk_at "g2",by walk_at "g2",by walk_at "g2",Hp.old hn (Hp.old ho Hd),Hp.old hn (Hp.set_self _ _ _),Hp.set_self _ _ _,po,pn,so,sn,rows_len _ _,rows_len _ _,rows_nodup _,rows_nodup _,rows_good,rows_good⟩
theorem strict_of {l:List Str} (h:l.Pairwise fun a b=>slt b a=false) (n:l.Nodup):l.Pairwise fun a b=>slt a b=true:=by
 have:=h.and n
 refine this.imp fun {a b} ⟨h1,h2⟩=>?_
 cases e:slt a b with
 | true=>rfl
 | false=>exact absurd (slt_tri e h1) h2
noncomputable abbrev runsL (ro rn:List Str):List T3:=runsP 0 [] (mOf ro rn)++[(5,5,0)]
theorem mono_runs {ro rn : List Str} (l1 : ro.length = 5) (l2 : rn.length = 5) (s1 : ro.Pairwise fun a b => slt a b = true) (s2 : rn.Pairwise fun a b => slt a b = true) : ∃ bs, gl (mOf ro rn) 12 [(0, 5, 0, 5)] [] = some bs ∧ bs.length ≤ 5 ∧ bs.Nodup ∧ (∀ bs' : List T3, bs'.Perm bs → bs'.Pairwise (fun p q => lt3 q p = false) → naP bs' 5 5 = runsL ro rn) ∧
  okRuns (runsL ro rn) 0 0=true∧(runsL ro rn).length≤6 :=
 pat_facts (by unfold mOf;rw [List.length_map,l1]) (mono_of (Nat.le_of_eq l2) s2 ro 0 s1 fun Z Z Z Z=>Nat.zero_le _)
theorem kv_a (ao an db j1 j2:Addr):getK (kvF ao an db j1 j2) "a" = some (.obj ao):=by kernel_rfl
theorem kv_b (ao an db j1 j2:Addr):getK (kvF ao an db j1 j2) "b" = some (.obj an):=by kernel_rfl
theorem kv_t (ao an db j1 j2:Addr):getK (kvF ao an db j1 j2) "b2j" = some (.obj db):=by kernel_rfl
theorem kv_j (ao an db j1 j2:Addr):getK (kvF ao an db j1 j2) "bjunk" = some (.obj j1):=by kernel_rfl
theorem kv_m (ao an db j1 j2:Addr):getK (kvF ao an db j1 j2) "matching_blocks" = some .none:=by kernel_rfl
theorem kv_f (ao an db j1 j2:Addr):getK (kvF ao an db j1 j2) "find_longest_match" = none:=by kernel_rfl
theorem kv_g (ao an db j1 j2:Addr):getK (kvF ao an db j1 j2) "get_matching_blocks" = none:=by kernel_rfl
theorem kv_l (ao an db j1 j2:Addr):(kvF ao an db j1 j2).length=10:=by kernel_rfl
theorem c_SM {ao an : Addr} {ro rn : List Str} {H : Hp} {K : KV} (Ho : H ao = some (.list (ro.map .str))) (Hn : H an = some (.list (rn.map .str))) (l2 : rn.length = 5) (nd : rn.Nodup)
  (hK:∀ s d db j1 j2 ls H',(∀ b o,H b=some o→H' b=some o)→SMok H' s d ao an db j1 (kvF ao an db j1 j2) ls ro rn→K (.obj s) H'):CLaw (.lit (.ref 242)) [.none,.obj ao,.obj an] H K:=by
 refine .inr ⟨ao,an,rfl,rfl,fun d s hd hs hne=>⟨rfl,?_⟩⟩
 have e1:((H.set d (.ns [])).set s (.inst d)) s=some (.inst d):=Hp.set_self _ _ _
 have e2:((H.set d (.ns [])).set s (.inst d)) d=some (.ns []):=(Hp.set_ne _ _ hne).trans (Hp.set_self _ _ _)
 have kp:∀ b o,H b=some o→((H.set d (.ns [])).set s (.inst d)) b=some o:=fun b o e=>(Hp.set_ne _ _ (fun q=>by rw [q,hs] at e;cases e)).trans (Hp.old hd e)
 refine c_init (seqs_L 3) rfl e1 e2 (kp _ _ Hn) (Nat.le_of_eq l2) nd fun loc db j1 j2 ls H' r=>⟨H',fun Z Z e=>e,rfl,?_⟩
 have kp2:∀ b o,H b=some o→H' b=some o:=fun b o e=>r.keep b o (fun q=>by rw [q,hd] at e;cases e) (kp b o e)
 exact hK s d db j1 j2 ls H' kp2 ⟨r.keep s _ (fun q=>hne q.symm) e1,r.dict,kv_a ..,kv_b ..,kv_t ..,kv_j ..,r.tab,r.junk,kp2 _ _ Ho,kp2 _ _ Hn⟩
theorem c_GM {s d ao an db j1 j2 : Addr} {ls : List Addr} {ro rn : List Str} {H : Hp} {K : KV} (X : SMok H s d ao an db j1 (kvF ao an db j1 j2) ls ro rn) (l1 : ro.length = 5) (l2 : rn.length = 5) (nd : rn.Nodup) (s1 : ro.Pairwise fun a b => slt a b = true) (s2 : rn.Pairwise fun a b => slt a b = true)
  (hK:∀ c H',(∀ b o,b≠d→H b=some o→H' b=some o)→H' c=some (.list ((runsL ro rn).map m3V))→K (.obj c) H'):CLaw (.lit (.ref 203)) [.obj s] H K:=by
 obtain ⟨bs,h1,h2,h3,h4,_,_⟩:=mono_runs l1 l2 s1 s2
 refine .inl (tw (n:=5) (fi:=fi_gmb) rfl rfl (c_gmb (sbL 5) X (Nat.le_of_eq l1) (Nat.le_of_eq l2) (fun H1 hk=>flm_L 4 (X.keep hk) nd (Nat.le_of_eq l1) (Nat.le_of_eq l2)) (sort_L 5) (spMake_of rfl) rfl (kv_m ..) (kv_f ..) (by rw [kv_l];decide) (by rw [l1,l2];exact h1) h2 h3 fun loc c H' bs' hp hs hc kp hH=>?_))
 rw [l1,l2,h4 bs' hp hs] at hH
 exact ⟨H',fun Z Z e=>e,hK c H' kp hH⟩
theorem t_neMT {x y:Addr} {R:List T3} {H:Hp} {KB':KB} (hx:H x=some (.list (R.map m3V))) (hy:H y=some (.list (R.map t3V))) (hl:R.length≤100) (k:KB' false H):wCmp .NotEq (.obj x) (.obj y) H (TB KB') :=
 .inr ⟨R.map castT,by rw [List.map_map];exact hx,by rw [List.map_map];exact hy,by rw [List.length_map];exact hl,_,rfl,k⟩
theorem lk_law2:lawSc.names.lookup ("runs" : Str)=some .local∧lawSc.names.lookup ("_law_runs" : Str)=some .globalImplicit∧lawSc.names.lookup ("SequenceMatcher" : Str)=some .globalImplicit:=by decide +kernel
theorem law_mid1 {l : Addr} {ns : List Int} {loc : Loc} {H : Hp} {K : KS} {A B ro rn : List Str} {d o n : Addr} (M : LMid loc H A B ro rn d o n)
  (hK:∀ loc' H' r,loc'.get "old" = some (.obj o)→loc'.get "new" = some (.obj n)→loc'.get "runs" = some (.obj r)→H' o=some (.list (ro.map .str))→H' n=some (.list (rn.map .str))→H' r=some (.list ((runsL ro rn).map t3V))→K .next loc' H') :
  wSs (SyC l ns) lawSc ((lawB.drop 7).take 2) loc H K:=by
 have l6:=lk_law.2.2.2.2.2.1;have l7:=lk_law.2.2.2.2.2.2.1
 have l1:=lk_law2.1;have l2:=lk_law2.2.1;have l3:=lk_law2.2.2
 have g1:(SyC l ns).G "_law_runs" = some (.lit (.ref 363)):=rfl
 have g2:(SyC l ns).G "SequenceMatcher" = some (.lit (.ref 242)):=rfl
 generalize lawSc=sc at *
 have e1:ro.length=5:=M.po.length_eq.trans M.la
 have e2:rn.length=5:=M.pn.length_eq.trans M.lb
 have n1:ro.Nodup:=M.po.nodup_iff.mpr M.na
 have n2:rn.Nodup:=M.pn.nodup_iff.mpr M.nb
 have s1:=strict_of M.so n1
 have s2:=strict_of M.sn n2
 have lo:=M.lo
 have ln:=M.ln
 with_unfolding_all refine x_Assign ?_
 repeat walk_at "st2"
 refine .inl (runs_L 5 o n ro rn _ _ M.ho M.hn (Nat.le_of_eq e1) (Nat.le_of_eq e2) fun r hr=>?_)
 rw [e1,e2]
 have Ho1:=Hp.old (o':=.list ((runsL ro rn).map t3V)) hr M.ho
 have Hn1:=Hp.old (o':=.list ((runsL ro rn).map t3V)) hr M.hn
 have Hr1:(H.set r (.list ((runsL ro rn).map t3V))) r=_:=Hp.set_self _ _ _
 generalize H.set r (.list ((runsL ro rn).map t3V))=H1 at *
 repeat walk_at "st2"
 with_unfolding_all refine x_If ?_
 refine x_tCmp ?_ rfl
 refine x_Meth ⟨rfl,rfl⟩ ?_ rfl rfl (by decide)
 repeat walk_at "st2"
 refine c_SM Ho1 Hn1 e2 n2 fun s dd db j1 j2 ls H2 k2 X=>?_
 refine cm_inst (n := "get_matching_blocks") (f:=203) X.hs X.hd (kv_g ..) rfl ?_
 repeat walk_at "st2"
 refine c_GM X e1 e2 n2 s1 s2 fun c H3 k3 hc=>?_
 have k3':∀ b xs,H1 b=some (.list xs)→H3 b=some (.list xs):=fun b xs e=>k3 b _ (fun q=>by have:=k2 b _ e;rw [q,X.hd] at this;cases this) (k2 b _ e)
 repeat walk_at "st2"
 refine t_neMT hc (k3' _ _ Hr1) (by have:=(mono_runs e1 e2 s1 s2);obtain ⟨_,_,_,_,_,_,q⟩:=this;omega) ?_
 refine ⟨fun c=>(nomatch c),fun Z=>?_⟩
 repeat walk_at "st2"
 exact hK _ _ r (by walk_at "g2") (by walk_at "g2") (by walk_at "g2") (k3' _ _ Ho1) (k3' _ _ Hn1) (k3' _ _ Hr1)
theorem rng_ok {i x:Nat} (h1:i≤x) (h2:x≤5):PyData.strOk (rngS i x)=true:=by
 refine strOk_of ?_
 have lo:∀ {k:Nat},k≤6→decide (48+k < 0x110000)=true:=fun h=>decide_eq_true (Nat.lt_of_le_of_lt (Nat.add_le_add_left h 48) (by decide))
 unfold rngS dgS
 by_cases c:x=i+1
 ·rw [if_pos c];exact Bool.and_eq_true_iff.mpr ⟨lo (Nat.le_trans (Nat.le_of_eq c.symm) (Nat.le_succ_of_le h2)),rfl⟩
 ·rw [if_neg c]
  have a:(if i < x then i+1 else i)≤6:=by
   by_cases q:i < x
   ·rw [if_pos q];exact Nat.le_trans q (Nat.le_succ_of_le h2)
   ·rw [if_neg q];exact Nat.le_trans h1 (Nat.le_succ_of_le h2)
  exact Bool.and_eq_true_iff.mpr ⟨lo a,Bool.and_eq_true_iff.mpr ⟨rfl,Bool.and_eq_true_iff.mpr ⟨lo (Nat.le_trans (Nat.sub_le _ _) (Nat.le_succ_of_le h2)),rfl⟩⟩⟩
theorem t_ne2 {a b:Addr} {s t:Str} {H:Hp} {KB':KB} (ha:H a=some (.list [.str s,.str t])) (hb:H b=some (.list [.str s,.str t])) (gs:PyData.strOk s=true) (gt:PyData.strOk t=true) (k:KB' false H):wCmp .NotEq (.obj a) (.obj b) H (TB KB'):=by
 have cn:PyData.canLay0 (.list [.str s,.str t])=true:=by simp only [PyData.canLay0,PyData.canLayAll0,gs,gt,Bool.and_self]
 refine .inl ⟨.list [.str s,.str t],.list [.str s,.str t],?_,?_,cn,cn,?_,_,rfl,?_⟩
 ·rw [dataOf_obj ha];rfl
 ·rw [dataOf_obj hb];rfl
 ·exact Nat.le_trans (Nat.min_le_left _ _) (by simp only [PyData.depth,PyData.depthAll];decide)
 ·rw [SeqAt.eqv_refl _ cn];exact k
theorem c_enum {S : Sy} {sc : Scope} {p1 p2 p3 p4 p5 p6 p7 p8 : Pos} {c1 c2 c3 : Nat} {g : Hp → Prop} {H : Hp} {K : List V → Hp → Prop} (lk : sc.names.lookup ("k" : Str) = some .local) (lr : sc.names.lookup ("row" : Str) = some .local) (hg : g H) (l : List Str) : ∀ (k : Nat) (loc : Loc) (ys : List V), K (ys ++ cntV (k + 1) l) H →
  wCs S sc (.Tuple [.Name "k" p1,.Name "row" p2] c1 p3) (.Tuple [.Name "row" p4,.BinOp (.Name "k" p5) .Add (.Constant (.int 1) c2 p6) p7] c3 p8) g (pairsFrom (k:Int) (l.map .str)) loc H ys K:=by
 induction l with
 | nil=>exact fun k loc ys h=>c_nil hg (List.append_nil ys▸h)
 | cons s r ih=>exact fun k loc ys h=>c_turnT hg (x_pn lk (x_pn lr x_pn0)) (x_Tup (x_es (x_NL lr Loc.get_self (x_es (x_Bin (x_NL lk (Loc.get_other (by decide) Loc.get_self) (x_int (b_add (x_es0 ⟨(by decide:2≤4096),ih (k+1) _ _ ((List.append_assoc ..).symm▸h)⟩))))) rfl)) rfl))
theorem lk_law3:lawSc.names.lookup ("counted" : Str)=some .local∧lawSc.names.lookup ("i" : Str)=some .local∧lawSc.names.lookup ("j" : Str)=some .local∧lawSc.names.lookup ("x" : Str)=some .local∧lawSc.names.lookup ("y" : Str)=some .local∧lawSc.names.lookup ("size" : Str)=some .local∧lawSc.names.lookup ("told" : Str)=some .local∧lawSc.names.lookup ("_format_range_unified" : Str)=some .globalImplicit∧lawSc.names.lookup ("_law_range" : Str)=some .globalImplicit:=by decide +kernel
structure LTurn (loc:Loc) (H:Hp) (ro rn:List Str) (R:List T3) (m:Nat) (r c co cn:Addr):Prop where
 at_:∃ i j:Nat,loc.get "i" = some (.int i)∧loc.get "j" = some (.int j)∧okRuns (R.drop m) i j=true
 lc:loc.get "counted" = some (.obj c)
 hr:H r=some (.list (R.map t3V))
 hc:H c=some (.list [.obj co,.obj cn])
 ho:H co=some (.list (cntV 1 ro))
 hn:H cn=some (.list (cntV 1 rn))
theorem law_end {l : Addr} {ns : List Int} {loc : Loc} {H : Hp} {K : KS} {ro rn : List Str} {o n r : Addr} (l1 : ro.length = 5) (l2 : rn.length = 5) (ok : okRuns (runsL ro rn) 0 0 = true) (hlo : loc.get "old" = some (.obj o)) (hln : loc.get "new" = some (.obj n)) (hlr : loc.get "runs" = some (.obj r)) (ho : H o = some (.list (ro.map .str))) (hn : H n = some (.list (rn.map .str))) (hr : H r = some (.list ((runsL ro rn).map t3V)))
  (hK:∀ loc' H',K (.ret (.bool true)) loc' H'):wSs (SyC l ns) lawSc ((lawB.drop 9).take 4) loc H K:=by
 have lo:=lk_law.2.2.2.2.2.1;have ln:=lk_law.2.2.2.2.2.2.1
 have lr:=lk_law2.1
 have k1:=lk_law3.1;have k2:=lk_law3.2.1;have k3:=lk_law3.2.2.1;have k4:=lk_law3.2.2.2.1;have k5:=lk_law3.2.2.2.2.1;have k6:=lk_law3.2.2.2.2.2.1;have k7:=lk_law3.2.2.2.2.2.2.1;have k8:=lk_law3.2.2.2.2.2.2.2.1;have k9:=lk_law3.2.2.2.2.2.2.2.2
 have g1:(SyC l ns).G "_format_range_unified" = some (.lit (.ref 253)):=rfl
 have g2:(SyC l ns).G "_law_range" = some (.lit (.ref 377)):=rfl
 with_unfolding_all refine x_compS (ck:=.plain) k1 rfl (by decide +kernel) (comp_intro (by decide +kernel) (by decide +kernel) (by decide +kernel) rfl rfl (fun y q=>(nomatch q)) ?_)
 refine x_itL (x_List (x_es (x_NL lo hlo (x_es (x_NL ln hln (x_es0 ⟨by show 2≤4096;decide,fun c hc=>?_⟩)) rfl)) rfl))
 refine i_list (Hp.set_self _ _ _) ⟨by show 2≤4096;decide,?_⟩
 refine c_turnN (Hp.set_self _ _ _) (.inl (by decide +kernel)) (x_compB (ck:=.plain) (comp_intro (by decide +kernel) (by decide +kernel) (by decide +kernel) rfl rfl (fun y q=>(nomatch q)) ?_))
 refine x_itE (by decide +kernel) rfl (x_NL (by decide +kernel) Loc.get_self (.inl ⟨o,_,rfl,Hp.old hc ho,by rw [pairs_len,List.length_map];exact Nat.le_trans (Nat.le_of_eq ‹_›) (by decide),?_⟩)) rfl
 refine c_enum (k:=0) (by decide +kernel) (by decide +kernel) (Hp.old hc ho) ro _ [] ?_
 intro co hco
 refine c_turnN (Hp.old hco (Hp.set_self _ _ _)) (.inl (by decide +kernel)) (x_compB (ck:=.plain) (comp_intro (by decide +kernel) (by decide +kernel) (by decide +kernel) rfl rfl (fun y q=>(nomatch q)) ?_))
 refine x_itE (by decide +kernel) rfl (x_NL (by decide +kernel) Loc.get_self (.inl ⟨n,_,rfl,Hp.old hco (Hp.old hc hn),by rw [pairs_len,List.length_map];exact Nat.le_trans (Nat.le_of_eq ‹_›) (by decide),?_⟩)) rfl
 refine c_enum (k:=0) (by decide +kernel) (by decide +kernel) (Hp.old hco (Hp.old hc hn)) rn _ [] ?_
 intro cn hcn
 refine c_nil (Hp.old hcn (Hp.old hco (Hp.set_self _ _ _))) ?_
 intro cc hcc
 have Hr1:=Hp.old (o':=.list ([V.obj co]++[.obj cn])) hcc (Hp.old hcn (Hp.old hco (Hp.old hc hr)))
 have Ho1:=Hp.old (o':=.list ([V.obj co]++[.obj cn])) hcc (Hp.old hcn (Hp.set_self _ co (.list ([]++cntV (0+1) ro))))
 have Hn1:=Hp.old (o':=.list ([V.obj co]++[.obj cn])) hcc (Hp.set_self _ cn (.list ([]++cntV (0+1) rn)))
 have Hc1:=Hp.set_self (((((H.set c (.list [.obj o,.obj n])).set co (.list ([]++cntV (0+1) ro)))).set cn (.list ([]++cntV (0+1) rn)))) cc (.list ([V.obj co]++[.obj cn]))
 have lc1:(loc.put "counted" (.obj cc)).get "counted" = some (.obj cc):=Loc.get_self
 have lr1:=Loc.get_other (v:=.obj cc) (by decide:("counted" : Str) ≠ "runs") hlr
 show wSs _ _ _ (loc.put "counted" (.obj cc)) ((((H.set c (.list [.obj o,.obj n])).set co (.list ([]++cntV (0+1) ro))).set cn (.list ([]++cntV (0+1) rn))).set cc (.list ([V.obj co]++[.obj cn]))) K
 generalize loc.put "counted" (.obj cc)=loc1 at *
 generalize ((((H.set c (.list [.obj o,.obj n])).set co (.list ([]++cntV (0+1) ro))).set cn (.list ([]++cntV (0+1) rn))).set cc (.list ([V.obj co]++[.obj cn])))=H1 at *
 generalize runsL ro rn=R at *
 generalize lawSc=sc at *
 with_unfolding_all refine x_Assign ?_
 repeat walk_at "st2"
 with_unfolding_all refine x_For ?_
 repeat walk_at "st2"
 refine i_list Hr1 ?_
 refine wItems_inv (fun m loc H=>LTurn loc H ro rn R m r cc co cn) _ [] _ _ ?_ ?_ ?_ ⟨⟨0,0,(by show Loc.get _ _=some (V.int 0);walk_at "g2"),(by show Loc.get _ _=some (V.int 0);walk_at "g2"),ok⟩,by walk_at "g2",Hr1,Hc1,Ho1,Hn1⟩
 ·rintro m loc H M;exact M.hr
 ·rintro m x loc2 H2 K' hx ⟨⟨i,j,hi,hj,hok⟩,hlc,hr2,hc2,ho2,hn2⟩ k'
  rw [List.nil_append,List.getElem?_map] at hx
  obtain ⟨p,hp,rfl⟩:=Option.map_eq_some_iff.mp hx
  have hm:=(List.getElem?_eq_some_iff.mp hp).1
  have hdr:R.drop m=p::R.drop (m+1):=by rw [List.drop_eq_getElem_cons hm,(List.getElem?_eq_some_iff.mp hp).2]
  rw [hdr] at hok
  have hok:=Bool.and_eq_true_iff.mp hok
  obtain ⟨b1,b2,b3,b4⟩:=of_decide_eq_true hok.1
  have hok:=hok.2
  have c1:=Nat.le_trans (Nat.le_add_right _ _) b3
  have c2:=Nat.le_trans (Nat.le_add_right _ _) b4
  have i0:∀ {H:Hp} {K:KV},H cc=some (.list ([V.obj co]++[.obj cn]))→K (.obj co) H→wGet (.obj cc) (.int 0) H K:=fun e k=>g_list e (by decide) (j:=0) rfl rfl k
  have i1:∀ {H:Hp} {K:KV},H cc=some (.list ([V.obj co]++[.obj cn]))→K (.obj cn) H→wGet (.obj cc) (.int 1) H K:=fun e k=>g_list e (by decide) (j:=1) rfl rfl k
  repeat walk_at "st2"
  rw [show (castT p).1=(p.1:Int) from rfl,show (castT p).2.1=(p.2.1:Int) from rfl,show (castT p).2.2=(p.2.2:Int) from rfl]
  refine .inl (fmtr_L 5 i p.1 _ _ b1 c1 ?_)
  repeat walk_at "st2"
  refine .inl (fmtr_L 5 j p.2.1 _ _ b2 c2 ?_)
  repeat walk_at "st2"
  intro td htd
  repeat walk_at "st2"
  refine i0 (Hp.old htd hc2) ?_
  repeat walk_at "st2"
  refine .inl (range_L 5 co ro i p.1 _ _ l1 b1 c1 (Hp.old htd ho2) ?_)
  repeat walk_at "st2"
  refine i1 (Hp.old htd hc2) ?_
  repeat walk_at "st2"
  refine .inl (range_L 5 cn rn j p.2.1 _ _ l2 b2 c2 (Hp.old htd hn2) ?_)
  repeat walk_at "st2"
  intro te hte
  refine t_ne2 (Hp.old hte (Hp.set_self _ _ _)) (Hp.set_self _ _ _) (rng_ok b1 c1) (rng_ok b2 c2) ?_
  refine ⟨fun c=>(nomatch c),fun Z=>?_⟩
  repeat walk_at "st2"
  have ei:(p.1:Int)+(p.2.2:Int)=((p.1+p.2.2:Nat):Int):=rfl
  have ej:(p.2.1:Int)+(p.2.2:Int)=((p.2.1+p.2.2:Nat):Int):=rfl
  rw [ei,ej]
  repeat walk_at "st2"
  exact k' .next _ _ (.inl rfl) ⟨⟨p.1+p.2.2,p.2.1+p.2.2,by walk_at "g2",by walk_at "g2",hok⟩,by walk_at "g2",Hp.old hte (Hp.old htd hr2),Hp.old hte (Hp.old htd hc2),Hp.old hte (Hp.old htd ho2),Hp.old hte (Hp.old htd hn2)⟩
 ·rintro loc2 H2 M
  repeat walk_at "st2"
  exact hK _ _
theorem lawSplit:lawB=lawB.take 6++stAt lawB 6::lawB.drop 7:=by with_unfolding_all rfl
theorem lk_law4:lawSc.names.lookup ("list" : Str)=some .globalImplicit∧lawSc.names.lookup ("restore" : Str)=some .globalImplicit∧lawSc.names.lookup ("_law_refused" : Str)=some .globalImplicit:=by decide +kernel
theorem delta_len {A B:List Str} (ga:∀ s∈A,Good s) (gb:∀ s∈B,Good s) (h1:A.length≤5) (h2:B.length≤5):(∀ s∈deltaOf A B,s.length≤4096)∧(deltaOf A B).length≤4096:=by
 obtain ⟨p1,p2⟩:=pops_ok h1 h2
 have hi:∀ p∈popsOf A B,p.1.length≤50∧p.2.length=2:=fun p hp=>by
  have hp:=p1.mem_iff.mp hp
  refine ⟨?_,by rcases marks_of hp with e | e | e <;> rw [e] <;> rfl⟩
  unfold itemsOf at hp
  rw [List.mem_append,List.mem_map,List.mem_map] at hp
  rcases hp with ⟨r,hr,rfl⟩ | ⟨r,hr,rfl⟩
  ·exact (ga r hr).2
  ·exact (gb r (List.mem_filter.mp hr).1).2
 have hl:(popsOf A B).length≤10:=by
  rw [p1.length_eq]
  unfold itemsOf
  rw [List.length_append,List.length_map,List.length_map]
  exact Nat.add_le_add h1 (Nat.le_trans (List.length_filter_le (fun r=>!A.any (·==r)) B) h2)
 constructor
 ·intro s hs
  obtain ⟨p,hp,hs⟩:=List.mem_flatMap.mp (show s∈(popsOf A B).flatMap linesOf from hs)
  obtain ⟨a,b⟩:=hi p hp
  unfold linesOf at hs
  cases hs with
  | head=>rw [str_app_len];exact Nat.le_trans (Nat.add_le_add (Nat.le_of_eq b) a) (by decide)
  | tail _ hs =>
    split at hs
    ·cases List.mem_singleton.mp hs;decide
    ·cases hs
 ·show ((popsOf A B).flatMap linesOf).length≤4096
  have:∀ l:List (Str×Str),(l.flatMap linesOf).length≤2 * l.length:=fun l=>by
   induction l with
   | nil=>exact Nat.le_refl _
   | cons p r ih =>
     rw [List.flatMap_cons,List.length_append,List.length_cons,Nat.mul_succ,Nat.add_comm]
     have:(linesOf p).length≤2:=by
      unfold linesOf
      by_cases c:(p.2 == "- ")=true
      ·rw [if_pos c];exact Nat.le_refl 2
      ·rw [if_neg c];exact Nat.le_succ 1
     exact Nat.add_le_add ih this
  exact Nat.le_trans (this (popsOf A B)) (Nat.le_trans (Nat.mul_le_mul_left 2 hl) (by decide))
theorem law_cmp {l : Addr} {ns : List Int} {loc : Loc} {H : Hp} {KB' : KB} {A B ro rn : List Str} {d o n : Addr} (M : LMid loc H A B ro rn d o n) (hK : ∀ H', (∀ b o, H b = some o → H' b = some o) → KB' false H') {w : Hp → KV → Prop} {q1 q2 q3 q4 q5 q6 q7 q8 q9 q10 q11 q12 q13 q14 q15 q16 q17 : Pos} {c1 c2 : Nat} :
  wT (SyC l ns) lawSc (.Compare (.List [.Call (.Name "list" q1) [.Call (.Name "restore" q2) [.Name "delta" q3,.Constant (.int 1) c1 q4] [] q5] [] q6,.Call (.Name "list" q7) [.Call (.Name "restore" q8) [.Name "delta" q9,.Constant (.int 2) c2 q10] [] q11] [] q12] q13) [.NotEq] [.List [.Name "old" q14,.Name "new" q15] q16] q17) loc w H KB':=by
 have l5:=lk_law.2.2.2.2.1;have l6:=lk_law.2.2.2.2.2.1;have l7:=lk_law.2.2.2.2.2.2.1
 have l1:=lk_law4.1;have l2:=lk_law4.2.1;have l3:=lk_law4.2.2
 generalize lawSc=sc at *
 obtain ⟨d1,d2⟩:=delta_len M.ga M.gb (Nat.le_of_eq M.la) (Nat.le_of_eq M.lb)
 obtain ⟨k1,k2⟩:=delta_kept (Nat.le_of_eq M.la) (Nat.le_of_eq M.lb) M.na M.nb M.po M.so M.pn M.sn
 refine x_tCmp (x_List (x_es (x_rest l1 l2 l5 M.ld M.hd d1 d2 (.inl rfl) fun a ha=>x_es (x_rest l1 l2 l5 M.ld (Hp.old ha M.hd) d1 d2 (.inr rfl) fun b hb=>x_es0 ⟨by show 2≤4096;decide,fun c hc=>?_⟩) rfl) rfl)) rfl
 rw [show kept (tagOf 1) (deltaOf A B)=ro from k1,show kept (tagOf 2) (deltaOf A B)=rn from k2] at *
 refine x_List (x_es (x_NL l6 M.lo (x_es (x_NL l7 M.ln (x_es0 ⟨by show 2≤4096;decide,fun e he=>?_⟩)) rfl)) rfl)
 have kp:∀ b' ob,H b'=some ob→((((H.set a (.list (ro.map .str))).set b (.list (rn.map .str))).set c (.list [.obj a,.obj b])).set e (.list [.obj o,.obj n])) b'=some ob:=fun Z Z q=>Hp.old he (Hp.old hc (Hp.old hb (Hp.old ha q)))
 refine t_neLL (Hp.old he (Hp.set_self _ _ _)) (Hp.set_self _ _ _) (Hp.old he (Hp.old hc (Hp.old hb (Hp.set_self _ _ _)))) (Hp.old he (Hp.old hc (Hp.set_self _ _ _))) (kp _ _ M.ho) (kp _ _ M.hn) (fun s hs=>M.ga s (M.po.mem_iff.mp hs)) (fun s hs=>M.gb s (M.pn.mem_iff.mp hs)) (hK _ kp)
theorem execs_app (env:Env) (a b:List Stmt):execs (a++b) env=(execs a env >>= fun f=>match f with | .next=>execs b env | f=>pure f):=by
 induction a with
 | nil=>rfl
 | cons s a ih =>
   rw [List.cons_append,arm_execs_cons,arm_execs_cons,bind_assoc]
   congr 1
   funext f
   cases f with
   | next=>exact ih
   | _=>rfl
theorem wpAny_execs_app {M:Model} {A:Around} {E:Value→Shared→Prop} {s:Shared} {env:Env} {a b:List Stmt} {Q:Flow→Shared→Prop} (h:wpAny M A (execs a env) (fun f s'=>match f with | .next=>wpAny M A (execs b env) Q E s' | f=>Q f s') E s):wpAny M A (execs (a++b) env) Q E s:=by
 rw [execs_app]
 refine wpAny_bind (wpAny_mono h (fun f s' h'=>?_) fun Z Z x=>x)
 cases f with
 | next=>exact h'
 | _=>exact wpAny_pure h'
def RefOk (T:TI) (A:Around) (env:Env):Prop:=∀ loc H d (s:Shared) (Q:Value→Shared→Prop) (E:Value→Shared→Prop),Rel T H s→Frm T env loc H s.heap→(∀ s',Rel T H s'→Frm T env loc H s'.heap→Q (.bool true) s')→wpAny T.M A (call (.ref 370) [.ref d]) Q E s
section
variable {T:TI} (Y:WY T) (hgs:∀ G,T.gs G→T.gs (G.push .finished)) {l:Addr} {ns:List Int} (sk:ScrOk T l ns) {A:Around} (HA:Rm 40 A) {env:Env} (he:EnvOk env) (hsc:env.scope=lawSc) (hr:RefOk T A env)
include Y hgs sk HA he hsc hr
theorem law_if {cmp : Expr} {ret : Stmt} {p1 p2 p3 p4 p5 p6 : Pos} {loc : Loc} {H : Hp} {a b ro rn : List Str} {d o n : Addr} (M : LMid loc H a b ro rn d o n) (hc : ∀ (KB' : KB) w, (∀ H', (∀ b o, H b = some o → H' b = some o) → KB' false H') → wT (SyC l ns) lawSc cmp loc w H KB') {s : Shared} (R : Rel T H s) (F : Frm T env loc H s.heap)
  {Q:Flow→Shared→Prop} {E:Value→Shared→Prop} (g:∀ H' s',(∀ b o,H b=some o→H' b=some o)→Rel T H' s'→Frm T env loc H' s'.heap→Q .next s') :
  wpAny T.M A (exec (.If (.BoolOp .Or [cmp,.UnaryOp .Not (.Call (.Name "_law_refused" p1) [.Name "delta" p2] [] p3) p4] p5) [ret] [] p6) env) Q E s:=by
 have P:=pC Y hgs sk
 have P2:=pC2 Y hgs sk
 have HC:=hC Y hgs sk
 have l5:=lk_law.2.2.2.2.1
 have l3:=lk_law4.2.2
 refine wpAny_If (wpAny_isTrue_BoolOp (wpAny_allTrue_Or_cons ?_))
 refine soundT P HC HA he cmp (loc:=loc) (H:=H) (K:=fun b H'=>b=false∧∀ b o,H b=some o→H' b=some o) (whole:=fun H K=>wE (SyC l ns) env.scope cmp loc H K) ?_ R F (fun H' K' s' h' R' F' Q' g'=>soundE P HC HA he cmp h' R' F' g') fun b H₁ s₁ k₁ R₁ e₁=>?_
 ·rw [hsc];exact hc _ _ fun H' k=>⟨rfl,k⟩
 obtain ⟨rfl,k⟩:=k₁
 have F₁:=F.ev R e₁
 show wpAny T.M A (allTrue .Or [.UnaryOp .Not _ _] env) _ E s₁
 refine wpAny_allTrue_Or_cons (wpAny_isTrue_Not ?_)
 show wpAny T.M A (do let v ← eval (.Call (.Name "_law_refused" p1) [.Name "delta" p2] [] p3) env;standAt p3;holding [v] (truthy v)) _ E s₁
 refine wpAny_bind (wpAny_Call_NameR (nameL P HC HA he (c:=.ref 370) (by unfold nameV;rw [hsc,l3];rfl) R₁ F₁ ?_))
 with_reducible refine callWith_V P HC HA he (f:=.lit (.ref 370)) rfl ?hlen (evalArgs_V rfl ?_)
 case hlen=>show (1:Nat)≤20;decide
 rw [starEach_ok rfl]
 refine spliced_cons (nameO P HC HA he (a:=d) (by unfold nameV;rw [hsc,l5];exact M.ld) R₁ F₁ ?_)
 refine spliced_nil ⟨rfl,keep_func (R₁.base _ _ (Y.fns (370,_) (mem_fn (k:=12) rfl))) rfl,?_⟩
 refine hr loc H₁ d s₁ _ _ R₁ F₁ fun s₂ R₂ F₂=>?_
 refine wpAny_bind (wpAny_standAt (wpAny_holding (wpAny_truthy_bool ?_)))
 show wpAny T.M A (allTrue .Or [] env) _ E s₂
 refine wpAny_allTrue_Or_nil ?_
 exact wpAny_execs_nil (g H₁ s₂ k R₂ F₂)
theorem law_body (hnc:∀ x,env.scope.names.lookup x≠some .cell) {H:Hp} {s:Shared} (R:Rel T H s) (F:Frm T env [("script",some (.lit (.ref l)))] H s.heap) {Q:Flow→Shared→Prop} {E:Value→Shared→Prop} (g:∀ H' s',Rel T H' s'→Q (.ret (.bool true)) s'):wpAny T.M A (execs lawB env) Q E s:=by
 have P:=pC Y hgs sk
 have P2:=pC2 Y hgs sk
 have HC:=hC Y hgs sk
 rw [lawSplit]
 have e6:lawB.take 6=lawB.take 2++((lawB.drop 2).take 2++(lawB.drop 4).take 2):=by with_unfolding_all rfl
 have e7:lawB.drop 7=(lawB.drop 7).take 2++(lawB.drop 9).take 4:=by with_unfolding_all rfl
 rw [e6,List.append_assoc,List.append_assoc]
 refine wpAny_execs_app (soundSs P P2 HC HA he hnc _ (K:=fun fl loc H=>fl=.next∧∃ w a bs,Bits5 bs∧loc.get "words" = some (.obj w)∧loc.get "after" = some (.obj a)∧H w=some (.list (wordsOf bs0))∧H a=some (.list (wordsOf bs))) (by rw [hsc];exact law_pre1 fun loc H' w a bs a1 a2 a3 a4 a5=>⟨rfl,w,a,bs,a1,a2,a3,a4,a5⟩) R F fun fl loc1 H1 f s1 k1 R1 F1 fr1 ev1=>?_)
 obtain ⟨rfl,w,a,bs,a1,a2,a3,a4,a5⟩:=k1
 obtain rfl:=fr1.iN
 refine wpAny_execs_app (soundSs P P2 HC HA he hnc _ (K:=fun fl loc H=>fl=.next∧∃ r ro rn,loc.get "rows" = some (.obj r)∧H r=some (.list [.obj ro,.obj rn])∧H ro=some (.list ((rowsF sgS bs0).map .str))∧H rn=some (.list ((rowsF sgS bs).map .str))) (by rw [hsc];exact law_pre2 a1 a2 a3 a4 a5 fun loc H' r ro rn b1 b2 b3 b4=>⟨rfl,r,ro,rn,b1,b2,b3,b4⟩) R1 F1 fun fl loc2 H2 f s2 k2 R2 F2 fr2 ev2=>?_)
 obtain ⟨rfl,r,ra,rb,b1,b2,b3,b4⟩:=k2
 obtain rfl:=fr2.iN
 refine wpAny_execs_app (soundSs P P2 HC HA he hnc _ (K:=fun fl loc H=>fl=.next∧∃ ro rn d o n,LMid loc H (rowsF sgS bs0) (rowsF sgS bs) ro rn d o n) (by rw [hsc];exact law_pre3 b1 b2 b3 b4 fun loc H' ro rn d o n M=>⟨rfl,ro,rn,d,o,n,M⟩) R2 F2 fun fl loc3 H3 f s3 k3 R3 F3 fr3 ev3=>?_)
 obtain ⟨rfl,ro,rn,d,o,n,M⟩:=k3
 obtain rfl:=fr3.iN
 with_unfolding_all refine wpAny_execs_cons (law_if Y hgs sk HA he hsc hr M (fun KB' w k=>law_cmp M k) R3 F3 fun H4 s4 k4 R4 F4=>?_)
 show wpAny T.M A (execs (lawB.drop 7) env) Q E s4
 have M4:LMid loc3 H4 (rowsF sgS bs0) (rowsF sgS bs) ro rn d o n:={ M with hd:=k4 _ _ M.hd,ho:=k4 _ _ M.ho,hn:=k4 _ _ M.hn }
 rw [e7]
 refine wpAny_execs_app (soundSs P P2 HC HA he hnc _ (K:=fun fl loc H=>fl=.next∧∃ r,loc.get "old" = some (.obj o)∧loc.get "new" = some (.obj n)∧loc.get "runs" = some (.obj r)∧H o=some (.list (ro.map .str))∧H n=some (.list (rn.map .str))∧H r=some (.list ((runsL ro rn).map t3V))) (by rw [hsc];exact law_mid1 M4 fun loc H' r c1 c2 c3 c4 c5 c6=>⟨rfl,r,c1,c2,c3,c4,c5,c6⟩) R4 F4 fun fl loc5 H5 f s5 k5 R5 F5 fr5 ev5=>?_)
 obtain ⟨rfl,r',c1,c2,c3,c4,c5,c6⟩:=k5
 obtain rfl:=fr5.iN
 have m1:ro.length=5:=M.po.length_eq.trans M.la
 have m2:rn.length=5:=M.pn.length_eq.trans M.lb
 obtain ⟨_,_,_,_,_,ok,_⟩:=mono_runs m1 m2 (strict_of M.so (M.po.nodup_iff.mpr M.na)) (strict_of M.sn (M.pn.nodup_iff.mpr M.nb))
 refine soundSs P P2 HC HA he hnc _ (K:=fun fl loc H=>fl=.ret (.bool true)) (by rw [hsc];exact law_end m1 m2 ok c1 c2 c3 c4 c5 c6 fun loc H'=>rfl) R5 F5 fun fl loc6 H6 f s6 k6 R6 F6 fr6 ev6=>?_
 subst k6
 cases fr6 with
 | ret rv=>obtain rfl:=rv.iB;exact g H6 s6 R6
end
noncomputable def hide1 (h:Heap) (L:Addr):Heap:=h.update L fun o=>{ o with data:=.freed }
theorem hide1_self (h:Heap) (L:Addr):(hide1 h L).get? L=none:=by
 cases q:(hide1 h L).get? L with
 | none=>rfl
 | some o =>
   exfalso
   obtain ⟨q1,q2⟩:=Heap.get?_some_iff.mp q
   unfold hide1 at q1
   rw [Heap.objs_update_self] at q1
   obtain ⟨o',_,rfl⟩:=Option.map_eq_some_iff.mp q1
   cases q2
theorem hide1_other (h:Heap) {L b:Addr} (hb:b≠L):(hide1 h L).get? b=h.get? b:=Heap.get?_update_other h _ hb.symm
noncomputable def hideH (h:Heap):List Addr→Heap
 | []=>h
 | L::r=>hide1 (hideH h r) L
theorem hideH_in (h:Heap):∀ {Ls:List Addr} {b:Addr},b∈Ls→(hideH h Ls).get? b=none
 | L :: r, b, hb => by
   by_cases q:b=L
   ·subst q;exact hide1_self _ _
   ·exact (hide1_other _ q).trans (hideH_in h (by cases hb with | head=>exact absurd rfl q | tail _ h=>exact h))
noncomputable abbrev frs (l:List Env):List Addr:=l.filterMap (·.frame)
structure Fly (hs:Heap) (fr:List Env) (h:Heap):Prop where
 keep:∀ b o,b ∉ frs fr→hs.get? b=some o→h.get? b=some o
 slots:∀ b∈frs fr,∀ o,hs.get? b=some o→(∀ vs,o.data≠.fields vs)∧∃ sl,h.get? b=some { o with slots:=sl }
 frames:h.FunFrames (hideH hs (frs fr)) fr
theorem Fly.start {hs:Heap} {fr:List Env} (h:hs.FunFrames (hideH hs (frs fr)) fr):Fly hs fr hs :=
 ⟨fun Z Z Z e=>e,fun b hb o e=>by
  obtain ⟨_,o',e',nf⟩:=h.mem hb
  obtain rfl:=Option.some.inj (e.symm.trans e')
  exact ⟨nf,o.slots,e⟩,h⟩
structure Stp (xs:List Addr) (Ls:List Addr) (h h':Heap):Prop where
 keep:∀ b o,b ∉ xs→b ∉ Ls→h.get? b=some o→h'.get? b=some o
 slots:∀ b∈Ls,∀ o,h.get? b=some o→(∀ vs,o.data≠.fields vs)→∃ sl,h'.get? b=some { o with slots:=sl }
theorem Fly.step {hs h h':Heap} {fr:List Env} {xs:List Addr} (f:Fly hs fr h) (hx:∀ x∈xs,hs.get? x=none) (s:Stp xs (frs fr) h h'):Fly hs fr h':=by
 have nx:∀ b o,hs.get? b=some o→b ∉ xs:=fun b o e q=>by exact nomatch (hx b q).symm.trans e
 refine ⟨fun b o hb e=>s.keep b o (nx b o e) hb (f.keep b o hb e),fun b hb o e=>?_,?_⟩
 ·obtain ⟨nf,sl,e1⟩:=f.slots b hb o e
  obtain ⟨sl',e2⟩:=s.slots b hb _ e1 nf
  exact ⟨nf,sl',e2⟩
 ·have : ∀ l : List Env, (∀ b ∈ frs l, b ∈ frs fr) → h.FunFrames (hideH hs (frs fr)) l → h'.FunFrames (hideH hs (frs fr)) l := by
   intro l
   induction l with
   | nil=>intro _ _;trivial
   | cons env r ih =>
     rintro hsub ⟨hk,⟨L,o,hf,hn,ho,hd⟩,hr⟩
     have hL:L∈frs fr:=hsub L (by unfold frs;refine List.filterMap_cons.symm▸?_;refine hf.symm▸?_;exact .head _)
     obtain ⟨sl,e⟩:=s.slots L hL o ho hd
     exact ⟨hk,⟨L,_,hf,hn,e,hd⟩,ih (fun b hb=>hsub b (by unfold frs;refine List.filterMap_cons.symm▸?_;refine hf.symm▸?_;exact .tail _ hb)) hr⟩
  exact this fr (fun Z h=>h) f.frames
theorem Stp.of_keeps {xs Ls:List Addr} {h h':Heap} (k:∀ b o,h.get? b=some o→h'.get? b=some o):Stp xs Ls h h':=⟨fun b o Z Z e=>k b o e,fun b Z o e Z=>⟨o.slots,k b o e⟩⟩
theorem Stp.trans {xs Ls:List Addr} {h h' h2:Heap} (a:Stp xs Ls h h') (b:Stp xs Ls h' h2):Stp xs Ls h h2 :=
 ⟨fun c o hx hl e=>b.keep c o hx hl (a.keep c o hx hl e),fun c hc o e nf=>by
  obtain ⟨sl,e1⟩:=a.slots c hc o e nf
  obtain ⟨sl',e2⟩:=b.slots c hc _ e1 nf
  exact ⟨sl',e2⟩⟩
theorem Stp.more {xs xs' Ls:List Addr} {h h':Heap} (a:Stp xs Ls h h') (s:∀ x∈xs,x∈xs'):Stp xs' Ls h h':=⟨fun b o hx=>a.keep b o fun q=>hx (s b q),a.slots⟩
theorem Stp.field {x:Addr} {xs Ls:List Addr} {h:Heap} {ox:Obj} {vs:Array Value} (ex:h.get? x=some ox) (dx:ox.data=.fields vs) (hx:x∈xs) (f:Obj→Obj):Stp xs Ls h (h.update x f) :=
 ⟨fun b o hb Z e=>(Heap.get?_update_other h _ (fun q=>hb (by refine q▸?_;exact hx))).trans e,fun b hb o e nf=>by
  have:x≠b:=fun q=>by subst q;rw [ex] at e;cases e;exact nf vs dx
  exact ⟨o.slots,(Heap.get?_update_other h _ this).trans e⟩⟩
section
variable {M:Model} {A:Around} {E:Value→Shared→Prop} {s:Shared}
theorem FunFrames.disj {h base:Heap} {l:List Env} (hl:h.FunFrames base l) {e:Addr} {oe:Obj} {vs:Array Value} (he:h.get? e=some oe) (hd:oe.data=.fields vs):e ∉ frs l:=fun hm=>by
 obtain ⟨_,o,ho,nf⟩:=hl.mem hm
 rw [he] at ho;cases ho;exact nf vs hd
theorem entry_new {base : Heap} {env : Env} {outer : List Env} {L e : Addr} {oe : Obj} {vs : Array Value} {head : Value} {hadNext : Bool} {Q : Unit → Shared → Prop} (hfr : A.frames = some (env :: outer)) (hl : s.heap.FunFrames base (env :: outer)) (hf : env.frame = some L)
  (he:s.heap.get? e=some oe) (hd:oe.data=.fields vs) (hsz:1 < vs.size)
  (h:∀ h' tb ts,Stp [e] (frs (env::outer)) s.heap h'→s.heap.get? tb=none→tb≠e→h'.get? e=some (oe.mapFields (·.setIfInBounds 1 (.ref tb)))→h'.get? tb=some { cls:=.type "traceback",data:=.fields ts }→ts[3]?=some (rawInt L)→3 < ts.size→Q () { s with heap:=h' }) :
  wpAny M A (do setField (.ref e) 1 (← EntryCells.newEntry head (← frameOf env) .none (rawInt L) .none (← entryPlaceOf L hadNext))) Q E s:=by
 have hene:=FunFrames.disj hl he hd
 refine wpAny_bind (wpAny_frameOf_fun hfr hl hf fun h₁ hs₁=>?_)
 refine wpAny_bind (wpAny_entryPlaceOf fun pl hpl=>wpAny_bind ?_)
 unfold EntryCells.newEntry newFields
 refine wpAny_newObj_type ?_ (hpl.sizeOk5 _ _ _ _ _)
 have he₁:h₁.get? e=some oe:=(hs₁.2.1 e hene).trans he
 have he₂:=Heap.get?_push_of_some (h:=h₁) { cls:=.type "traceback",dict:=none,data:=.fields ([head,.ref L,.none,rawInt L,.none]++(if pl.isEmpty then List.replicate 6 Value.none else pl)).toArray } he₁
 refine wpAny_setField he₂ hd hsz ?_
 have hTe:h₁.objs.size≠e:=Nat.ne_of_gt (Heap.lt_size he₁)
 have hd₃:=Obj.data_mapFields hd (·.setIfInBounds 1 (Value.ref h₁.objs.size))
 have S1:Stp [e] (frs (env::outer)) s.heap h₁:=⟨fun b o Z hb e=>(hs₁.2.1 b hb).trans e,fun b Z o e Z=>hs₁.2.2 b o e⟩
 refine h _ h₁.objs.size ([head,.ref L,.none,rawInt L,.none]++(if pl.isEmpty then List.replicate 6 Value.none else pl)).toArray (S1.trans ((Stp.of_keeps fun b o e=>Heap.get?_push_of_some _ e).trans (.field he₂ hd (.head _) _))) (Heap.get?_none_of_le (by refine hs₁.1.symm▸?_;exact Nat.le_refl _)) hTe (Heap.get?_update_self _ he₂ (Obj.isFreed_of_fields hd₃)) ?_ rfl (by simp only [List.size_toArray,List.length_append,List.length_cons,List.length_nil];omega)
 refine (Heap.get?_update_other _ _ (Ne.symm hTe)).symm▸?_
 exact Heap.get?_push_size h₁ rfl
theorem note_first {base : Heap} {env : Env} {outer : List Env} {L e : Addr} {oe : Obj} {vs : Array Value} {Q : Unit → Shared → Prop} (hfr : A.frames = some (env :: outer)) (hl : s.heap.FunFrames base (env :: outer)) (hf : env.frame = some L)
  (he:s.heap.get? e=some oe) (hd:oe.data=.fields vs) (h1:vs[1]?=some .none)
  (h:∀ h' tb ts,Stp [e] (frs (env::outer)) s.heap h'→s.heap.get? tb=none→tb≠e→h'.get? e=some (oe.mapFields (·.setIfInBounds 1 (.ref tb)))→h'.get? tb=some { cls:=.type "traceback",data:=.fields ts }→ts[3]?=some (rawInt L)→3 < ts.size→Q () { s with heap:=h' }) :
  wpAny M A (noteFrame (.ref e) env) Q E s:=by
 unfold noteFrame
 simp only [hf]
 refine wpAny_bind (wpAny_field he hd h1 ?_)
 rw [if_neg (by decide)]
 exact entry_new hfr hl hf he hd (Array.getElem?_eq_some_iff.mp h1).1 h
theorem note_next {base : Heap} {env : Env} {outer : List Env} {L e tb : Addr} {oe ot : Obj} {vs ts : Array Value} {Q : Unit → Shared → Prop} (hfr : A.frames = some (env :: outer)) (hl : s.heap.FunFrames base (env :: outer)) (hf : env.frame = some L)
  (he:s.heap.get? e=some oe) (hd:oe.data=.fields vs) (h1:vs[1]?=some (.ref tb)) (hne:tb≠e) (ht:s.heap.get? tb=some ot) (hdt:ot.data=.fields ts) (h3:ts[3]?=some .none)
  (h:∀ h' tb' ts',Stp [e,tb] (frs (env::outer)) s.heap h'→tb'≠e→s.heap.get? tb'=none→h'.get? e=some (oe.mapFields (·.setIfInBounds 1 (.ref tb')))→h'.get? tb'=some { cls:=.type "traceback",data:=.fields ts' }→ts'[3]?=some (rawInt L)→3 < ts'.size→Q () { s with heap:=h' }) :
  wpAny M A (noteFrame (.ref e) env) Q E s:=by
 unfold noteFrame
 simp only [hf]
 refine wpAny_bind (wpAny_field he hd h1 ?_)
 rw [if_pos (show (Value.ref tb != Value.none)=true from by simp)]
 refine wpAny_bind (wpAny_field ht hdt h3 ?_)
 rw [if_neg (show ¬ ((Value.none==rawInt L)=true) from by simp [rawInt])]
 refine wpAny_bind (wpAny_setField ht hdt (Array.getElem?_eq_some_iff.mp h3).1 ?_)
 have S1:Stp [e,tb] (frs (env::outer)) s.heap (s.heap.update tb (Obj.mapFields (·.setIfInBounds 3 .none))):=.field ht hdt (.tail _ (.head _)) _
 have he':(s.heap.update tb (Obj.mapFields (·.setIfInBounds 3 .none))).get? e=some oe:=(Heap.get?_update_other _ _ hne).trans he
 refine entry_new (s:={ s with heap:=s.heap.update tb (Obj.mapFields (·.setIfInBounds 3 .none)) }) (base:=base) hfr (hl.of_keeps fun b o hb nf=>⟨o,(Heap.get?_update_other _ _ (fun q=>by subst q;rw [ht] at hb;cases hb;exact nf ts hdt)).trans hb,rfl⟩) hf he' hd (Array.getElem?_eq_some_iff.mp h1).1 fun h' tb' ts' S2 n1 n2 e1 e2 e3 e4=>h h' tb' ts' (S1.trans (S2.more (by simp))) n2 ?_ e1 e2 e3 e4
 cases q:s.heap.get? tb' with
 | none=>rfl
 | some o =>
   exfalso
   by_cases qq:tb=tb'
   ·subst qq
    have:=Heap.get?_update_self (Obj.mapFields (·.setIfInBounds 3 .none)) ht (Obj.isFreed_of_fields (Obj.data_mapFields hdt _))
    have n1:(s.heap.update tb (Obj.mapFields (·.setIfInBounds 3 .none))).get? tb=none:=n1
    rw [this] at n1;cases n1
   ·have n1:(s.heap.update tb (Obj.mapFields (·.setIfInBounds 3 .none))).get? tb'=none:=n1
    rw [Heap.get?_update_other _ _ qq,q] at n1;cases n1
theorem flight_set {e tb : Addr} {oe ot : Obj} {vs ts : Array Value} {fr : Option Addr} {Q : Unit → Shared → Prop} (he : s.heap.get? e = some oe) (hd : oe.data = .fields vs) (h1 : vs[1]? = some (.ref tb)) (ht : s.heap.get? tb = some ot) (hdt : ot.data = .fields ts) (hsz : 3 < ts.size)
  (h:Q () { s with heap:=s.heap.update tb (Obj.mapFields (·.setIfInBounds 3 (fr.elim .none fun f=>rawInt f))) }):wpAny M A (setFlight (.ref e) fr) Q E s:=by
 unfold setFlight
 refine wpAny_bind (wpAny_field he hd h1 ?_)
 rw [if_pos (show (Value.ref tb != Value.none)=true from by simp)]
 exact wpAny_setField ht hdt hsz h
end
theorem entry_unchain:entryFor table "proto.unchain" = some Builtin.«proto.unchain»:=entryFor_of_fast (by kernel_rfl)
section
variable {prog:Program} {w:World} {A:Around} {E:Value→Shared→Prop} {s:Shared} {env:Env}
theorem raise_under {α : Type} {a b : Addr} {oa ob : Obj} {va vb : Array Value} {Q : α → Shared → Prop} (hh : A.handled = some (.ref b)) (hab : a ≠ b) (ha : s.heap.get? a = some oa) (da : oa.data = .fields va) (h2 : 2 < va.size) (hb : s.heap.get? b = some ob) (db : ob.data = .fields vb) (hc : vb[2]? = some .none)
  (h:E (.ref a) { s with heap:=s.heap.update a (Obj.mapFields (·.setIfInBounds 2 (.ref b))) }):wpAny (model prog w) A (raiseNew (.ref a):Sem α) Q E s:=by
 unfold raiseNew
 refine wpAny_bind (wpAny_handled ?_)
 rw [hh]
 dsimp only
 rw [if_pos (show (Value.ref b != Value.ref a)=true from by simpa using fun q=>hab q.symm)]
 refine wpAny_bind (wpAny_holding (wpAny_runValue (codeAny_builtin entry_unchain ?_)))
 show wpAny _ _ (field (.ref b) 2 >>= _) _ _ s
 refine wpAny_bind (wpAny_field hb db hc ?_)
 rw [if_pos (by decide)]
 refine wpAny_pure ?_
 refine (?_:wpAny (model prog w) A (setField (.ref a) 2 (.ref b) >>= fun Z=>throw (.ref a)) _ _ s)
 exact wpAny_bind (wpAny_setField ha da h2 (wpAny_throw h))
theorem raise_none {cls : String} (F : ExcRaiseFacts cls) {x : Expr} {c : Nat} {q pos : Pos} {b : Addr} {Q : Flow → Shared → Prop} (hh : A.handled = some (.ref b))
  (h:wpAny (model prog w) A (eval x env) (fun v s₁=>∃ e t ob vb,v=.ref e∧e≠b∧s₁.heap.get? e=some { cls:=.type cls,data:=.fields #[.ref t,.none,.none,.none,.bool false,.none] }∧s₁.heap.get? b=some ob∧ob.data=.fields vb∧vb[2]?=some .none ∧
   ∀ h' oe ve,(∀ b' o,b'≠e→s₁.heap.get? b'=some o→h'.get? b'=some o)→h'.get? e=some oe→oe.cls=.type cls→oe.data=.fields ve→ve[1]?=some .none→E (.ref e) { s₁ with heap:=h' }) E s) :
  wpAny (model prog w) A (exec (.Raise (some x) (some (.Constant .none c q)) pos) env) Q E s:=by
 rw [arm_exec_Raise]
 refine wpAny_bind (wpAny_standAt ?_)
 show wpAny _ A (raiseStmt env (some (do let v ← eval x env;standAt pos;pure v)) (some (do let v ← eval (.Constant .none c q) env;standAt pos;pure v))) Q E s
 unfold raiseStmt
 refine wpAny_bind (wpAny_bind (wpAny_mono h (fun v s₁ h₁=>wpAny_bind (wpAny_standAt (wpAny_pure ?_))) fun Z Z x=>x))
 obtain ⟨e,t,ob,vb,rfl,hne,he,hb,db,hc,k⟩:=h₁
 refine wpAny_bind (wpAny_holding (wpAny_bind (wpAny_Constant_none (wpAny_bind (wpAny_standAt (wpAny_pure ?_))))))
 refine wpAny_bind (wpAny_pure ?_)
 obtain ⟨hp,g,d,tk,os⟩:=s₁
 have hsub:=F.isExc
 have hmeta:=F.plainMeta
 dsimp only at he hb k
 have he1:=Heap.get?_update_self (Obj.mapFields (·.setIfInBounds 3 Value.none)) he (Obj.isFreed_of_fields (Obj.data_mapFields rfl _))
 have hd1:=Obj.data_mapFields (o:={ cls:=.type cls,data:=.fields #[.ref t,.none,.none,.none,.bool false,.none] }) rfl (·.setIfInBounds 3 Value.none)
 refine wpAny_bind (wpAny_holding ?_)
 unfold excFromValue
 repeat (first | refine wpAny_loadPart he ?_ | wp_step)
 have he2:=Heap.get?_update_self (Obj.mapFields (·.setIfInBounds 4 (Value.bool true))) he1 (Obj.isFreed_of_fields (Obj.data_mapFields hd1 _))
 have hd2:=Obj.data_mapFields hd1 (·.setIfInBounds 4 (Value.bool true))
 have e2:∀ b' o,b'≠e→hp.get? b'=some o→((hp.update e (Obj.mapFields (·.setIfInBounds 3 Value.none))).update e (Obj.mapFields (·.setIfInBounds 4 (Value.bool true)))).get? b'=some o:=fun b' o q h'=>(Heap.get?_update_other _ _ q.symm).trans ((Heap.get?_update_other _ _ q.symm).trans h')
 refine raise_under hh hne he2 hd2 (by simp) (e2 b ob hne.symm hb) db hc ?_
 have he3:=Heap.get?_update_self (Obj.mapFields (·.setIfInBounds 2 (Value.ref b))) he2 (Obj.isFreed_of_fields (Obj.data_mapFields hd2 _))
 have hd3:=Obj.data_mapFields hd2 (·.setIfInBounds 2 (Value.ref b))
 exact k _ _ _ (fun b' o q h'=>(Heap.get?_update_other _ _ q.symm).trans (e2 b' o q h')) he3 rfl hd3 rfl
end
theorem ve_notStop:isSubtype (.type "ValueError") (.type "StopIteration")=pure false:=by first | exact F.sub_ValueError_StopIteration | (with_unfolding_all rfl) | kernel_rfl
section
variable {prog:Program} {w:World} {A:Around} {E:Value→Shared→Prop} {s:Shared}
theorem pyNext_gen_err {a : Addr} {g n : Nat} {gs : GenState} {P : Value → Shared → Prop} {Q : Option Value → Shared → Prop} (hl : s.heap.NoLimit) (hroom : A.depth < recursionLimit) (hg : s.heap.IsGen a g) (hgs : s.gens[g]? = some gs)
  (hgo:gs.Goes (model prog w) A.in1 (fun n s₀ r s₁=>∃ e,r=.error e∧s₁.TypeIs e "ValueError" ∧ s₁.heap.IsGen a g∧P e s₁) (fun Z Z Z Z Z=>False) n (.send .none) (s.setGen g .running))
  (hP:∀ e s₁,P e s₁→E e (s₁.setGen g .finished)):wpAny (model prog w) A (pyNext (.ref a)) Q E s:=by
 unfold pyNext
 refine wpAny_bind (wpAny_attempt (wpAny_callSpecial?_slot (name:=Str.ofString "__next__") hg.typeIs slot_gen_next
  (wpAny_call_entry slot_gen_next hg.typeIs entry_gen_next ?_ (args_gen_next _))))
 show wpAny _ _ (Builtin.Generator.genWake (.ref a) (.send .none)) _ _ s
 unfold Builtin.Generator.genWake
 refine wpAny_bind (wpAny_holding (wpAny_genNumber hg (wpAny_bind (wpAny_genState hgs ?_))))
 cases gs with
 | running=>exact hgo.elim
 | finished=>exact hgo.elim
 | _ =>
   refine wpAny_bind (wpAny_roomToWake hl hroom ?_)
   show wpAny _ _ (.resume g (.send .none) [] _) _ _ s
   refine wpAny_resume hgs hgo (fun x s₁ hx=>?_) (fun v s₁ gs' hv=>hv.elim)
   obtain ⟨e,rfl,ht,hg₁,hp⟩:=hx
   show wpAny _ _ (Builtin.Generator.genLeft (.ref a) e) _ _ _
   unfold Builtin.Generator.genLeft Builtin.Generator.madeByALambda Builtin.Generator.genEscaped
   obtain ⟨o,nm,qn,ho,hc,hd,hsl⟩:=hg₁
   have ht':(s₁.setGen g .finished).TypeIs e "ValueError" := ht
   refine wpAny_bind (wpAny_bind (wpAny_load ho ?_))
   rw [hc,hd]
   refine wpAny_pure ?_
   refine wpAny_bind (wpAny_isInstance ht' ve_notStop ?_)
   rw [if_neg (show ¬ ((_&&false)=true) from by rw [Bool.and_false];exact Bool.false_ne_true)]
   refine wpAny_bind (wpAny_isInstance ht' ve_notStop ?_)
   rw [if_pos (show (!false)=true from rfl)]
   refine wpAny_bind (wpAny_throw ?_)
   dsimp only
   refine wpAny_bind (wpAny_isInstance ht' ve_notStop ?_)
   rw [if_neg Bool.false_ne_true]
   exact wpAny_throw (hP e s₁ hp)
end
section
variable {T:TI} {A:Around} {I:Addr} {ty:String}
theorem err_list {s : Shared} {Q : Value → Shared → Prop} {E : Value → Shared → Prop} (typ : s.TypeIs (.ref I) ty) (self : ∀ s' : Shared, s'.TypeIs (.ref I) ty → (∀ b o, s.heap.get? b = some o → s'.heap.get? b = some o) → ∀ Q E, Q (.ref I) s' → wpAny T.M A.in1.in1 (pyIter (.ref I)) Q E s')
  (seq:(Value.type ty==Value.type "list")=false∧(Value.type ty==Value.type "tuple")=false) (nolen:typeLookup (.type ty) "__len__" = pure none) (nohint:typeLookup (.type ty) "__length_hint__" = pure none)
  (hN:∀ h',(∀ b o,s.heap.get? b=some o→h'.get? b=some o)→wpAny T.M A.in1.in1 (pyNext (.ref I)) (fun Z Z=>False) E { s with heap:=h' }) :
  wpAny T.M A (call (.type "list") [.ref I]) Q E s:=by
 obtain ⟨oi,hoi,hci⟩:=typ
 generalize hSS:s.heap.objs.size=S at *
 have hS0:s.heap.get? S=none:=by rw [← hSS];exact Heap.get?_none_of_le (Nat.le_refl _)
 have hne:I≠S:=fun q=>by rw [q,hS0] at hoi;cases hoi
 refine callType_codes (Q₁:=fun obj s₁=>obj=.ref S∧s₁={ s with heap:=s.heap.push { cls:=.type "list",data:=.seq #[] } }) F.called_list (F.typeCall_list_1 _) F.entry_list_init
  (code_list_new _ ⟨by rw [hSS],rfl⟩) fun obj s₁ h₁=>?_
 obtain ⟨rfl,rfl⟩:=h₁
 have hS:(s.heap.push { cls:=.type "list",data:=.seq #[] }).get? S=some { cls:=.type "list",data:=.seq #[] }:=by rw [← hSS];exact Heap.get?_push_size _ rfl
 refine ⟨⟨_,hS,rfl⟩,F.args_list_init_2 _ _,?_⟩
 show wpAny _ A.in1.in1 (do let old ← Builtin.List.listItems (.ref S);Builtin.List.listUpdate (.ref S) (fun Z=>#[]);letGo old.toList.reverse;Builtin.List.listExtendWith (.ref S) (.ref I) .none) _ _ _
 refine wpAny_bind ?_
 unfold Builtin.List.listItems
 refine wpAny_bind (wpAny_seqItems hS rfl (wpAny_pure ?_))
 show wpAny _ A.in1.in1 (updateSeq S (fun Z=>#[]) >>= fun Z=>letGo (#[]:Array Value).toList.reverse >>= fun Z=>Builtin.List.listExtendWith (.ref S) (.ref I) .none) _ _ _
 refine wpAny_bind (wpAny_updateSeq hS rfl ?_)
 generalize hh2:(s.heap.push { cls:=.type "list",data:=.seq #[] }).update S (Obj.mapSeq (fun Z=>(#[]:Array Value)))=h2
 obtain ⟨c2,hS2⟩:∃ c2,h2.get? S=some { cls:=.type "list",data:=.seq #[] c2 }:=by
  rw [← hh2];exact ⟨_,Heap.get?_update_self (Obj.mapSeq (fun Z=>(#[]:Array Value))) hS rfl⟩
 have k2:∀ b o,s.heap.get? b=some o→h2.get? b=some o:=fun b o e=>by
  have hb:b≠S:=fun q=>by rw [q,hS0] at e;cases e
  rw [← hh2];exact (Heap.get?_update_other _ _ hb.symm).trans (Heap.get?_push_of_some _ e)
 have ht2:({ s with heap:=h2 }:Shared).TypeIs (.ref I) ty:=⟨oi,k2 _ _ hoi,hci⟩
 refine wpAny_bind (wpAny_letGo ?_)
 unfold Builtin.List.listExtendWith
 refine wpAny_bind (wpAny_typeOf ht2 ?_)
 have h1:Builtin.List.listSameRef (.ref S) (.ref I)=false:=by simp [Builtin.List.listSameRef,hne.symm]
 simp only [h1,seq.1,seq.2,Bool.or_false,Bool.false_eq_true,if_false]
 refine wpAny_bind (self _ ht2 k2 _ _ ?_)
 refine wpAny_bind (wpAny_holding ?_)
 unfold Builtin.List.listLengthHint
 refine wpAny_bind (wpAny_specialOf ht2 nolen ?_)
 show wpAny _ A.in1.in1 (specialOf (Value.ref I) (Str.ofString "__length_hint__") >>= _) _ _ _
 refine wpAny_bind (wpAny_specialOf ht2 nohint ?_)
 refine wpAny_pure ?_
 show wpAny _ A.in1.in1 (rule "list.extend.makes-room" >>= fun Z=>Builtin.List.listTouch (.ref S) >>= fun Z =>
  again (.builtin "list.extend.loop" ⟨[.ref S,.ref I,.none],[]⟩)) _ _ _
 refine wpAny_bind (wpAny_rule ?_)
 refine wpAny_bind ?_
 show wpAny _ A.in1.in1 (updateSeq S (·.push .none) >>= fun Z=>updateSeq S (·.pop)) _ _ _
 refine wpAny_bind (wpAny_updateSeq hS2 rfl ?_)
 have hS₂:=Heap.get?_update_self (Obj.mapSeq (·.push Value.none)) hS2 rfl
 refine wpAny_updateSeq (hz:=by seq_fits) hS₂ rfl ?_
 refine wpAny_pure ⟨plainId_quiet F.plain_extend_loop _,?_⟩
 refine codeAny_builtin F.entry_extend_loop ?_
 rw [Around.under_plainId F.plain_extend_loop _]
 show wpAny _ A.in1.in1 (pyNext (.ref I) >>= _) _ _ _
 refine wpAny_bind (wpAny_mono (hN _ fun b o e=>?_) (fun Z Z x=>x.elim) fun Z Z x=>x)
 have hb:b≠S:=fun q=>by rw [q,hS0] at e;cases e
 exact (Heap.get?_update_other _ _ hb.symm).trans ((Heap.get?_update_other _ _ hb.symm).trans (k2 b o e))
end
end Mine
end
section
namespace Mine
open PySem PySem.Spec PySem.Calls PyProof.Rows PySem.W
theorem repr_under {prog:Program} {w:World} {A:Around} {E:Value→Shared→Prop} {s:Shared} {b:Nat} {n:Int} {u:Tok} {Q:Value→Shared→Prop} (ha:n.natAbs.log2 < 1920) (h:Q (.str (Str.ofString (toString n)) s.toks) { s with toks:=s.toks+1 }):wpAny (model prog w) A (pyReprObjUnder b (.int n u)) Q E s:=by
 unfold pyReprObjUnder pyReprObjBy
 simp only [cRoomFor,show [Value.int n u].any Value.onHeap=false from rfl,Bool.false_eq_true,if_false,pure_bind]
 refine wpAny_bind (wpAny_specialOf (name:=Str.ofString "__repr__") (typeIs_int s n u) F.slot_int_repr.lookup ?_)
 refine wpAny_bind (wpAny_callSpecialIfBoundBy?_slotG (name:=Str.ofString "__repr__") (typeIs_int s n u) F.slot_int_repr.toG ?_)
 simp only [show reprUnder? (.builtin "int.__repr__")=none from rfl]
 refine call_gives F.slot_int_repr (typeIs_int _ _ _) F.entry_int_repr (F.args_int_repr_1 _) (gives_int_repr _ _ ha) ⟨int_text_fits ha,?_⟩
 exact wpAny_bind (wpAny_isInstance (T := "str") (b:=true) rfl isSubtype_str_str (wpAny_pure h))
theorem msg_mod {prog : Program} {w : World} {A : Around} {E : Value → Shared → Prop} {s : Shared} {t u : Tok} {Q : Value → Shared → Prop} (h : ∀ t' k, Q (.str (("unknown delta choice (must be 1 or 2): " : Str) ++ Str.ofString (toString (3 : Int))) t') { s with toks := k }) :
  wpAny (model prog w) A (binaryOp .Mod (.str "unknown delta choice (must be 1 or 2): %r" t) (.int 3 u)) Q E s:=by
 refine' KPc.mod_lit (T:=("unknown delta choice (must be 1 or 2): " : Str)++Str.ofString (toString (3:Int))) ?kpcF ?kpcd ?kpcm ?_
 case kpcF=>kpc_eq
 case kpcd=>decide +kernel
 case kpcm =>
  intros
  apply KPc.meets_of
  intro _ _ _ _ _ _ _
  rw [KPc.entry_is]
  unfold Builtin.Str.percentFormat
  refine wpAny_bind (wpAny_isInstance (typeIs_int _ _ _) F.sub_int_tuple ?_)
  refine wpAny_bind (wpAny_of_eq (a:=none) rfl ?_)
  refine wpAny_bind (wpAny_of_eq (KPc.fills _ _) ?_)
  kpc_if
  refine wpAny_bind (wpAny_pure ?_)
  refine wpAny_bind ?_
  rw [KPc.range_list]
  refine KPc.start ?_
  intro _ _
  refine KPc.turn ?_
  kpc_check
  (repeat kpc_if)
  (refine wpAny_pure ?_;kpc_piece)
  refine KPc.turn ?_
  kpc_check
  (repeat kpc_if)
  refine wpAny_bind ?_
  refine wpAny_holding ?_
  (repeat kpc_if)
  have hlen:(Str.ofString (toString (3:Int))).length≤1:=by decide +kernel
  refine wpAny_bind (repr_under (n:=3) (by decide +kernel) ?_)
  refine wpAny_bind (wpAny_of_eq (a:=some _) rfl ?_)
  refine wpAny_pure ?_
  refine wpAny_pure ?_
  kpc_piece
  kpc_turns
 exact h
end Mine
end
section
namespace Mine
open PySem PySem.Spec PySem.Calls PyProof.Rows
theorem Frm.own {T:TI} {env:Env} {loc:Loc} {H:Hp} {h:Heap} (F:Frm T env loc H h):H env.locals=none∧T.B env.locals=none∧∃ o,h.get? env.locals=some o∧¬ Fixed T o∧∀ vs,o.data≠.fields vs:=by
 obtain ⟨m,⟨o,es,ep,ho,hd,_⟩,_⟩:=F.ns
 refine ⟨F.out,F.new,o,ho,fun fx=>?_,fun vs q=>by rw [hd] at q;cases q⟩
 rcases fx with ⟨_,xs,n,q⟩ | ⟨_,vs,q⟩ <;> (rw [hd] at q;cases q)
def Own (T:TI) (H:Hp) (h:Heap) (Ls:List Addr):Prop:=∀ b∈Ls,H b=none∧T.B b=none∧∃ o,h.get? b=some o∧¬ Fixed T o∧∀ vs,o.data≠.fields vs
theorem Fly.rel {T:TI} {H:Hp} {s:Shared} {fr:List Env} {h:Heap} (R:Rel T H s) (O:Own T H s.heap (frs fr)) (f:Fly s.heap fr h):(∀ n,Rel T H { s with heap:=h,toks:=n })∧FixKeep T s.heap h:=by
 have:=fun n=>R.own (own:=frs fr) (h':=h) (n:=n) (fun b hb=>(by obtain ⟨a,c,o,d,e,_⟩:=O b hb;exact ⟨a,c,o,d,e⟩)) f.keep
 exact ⟨fun n=>(this n).1,(this 0).2⟩
theorem Fly.frm {T:TI} {H:Hp} {hs:Heap} {fr:List Env} {h:Heap} {env:Env} {loc:Loc} (F:Frm T env loc H hs) (hm:env.locals∈frs fr) (hnc:∀ x,env.scope.names.lookup x≠some .cell) (f:Fly hs fr h) (fk:FixKeep T hs h):Frm T env loc H h:=by
 obtain ⟨m,⟨o,es,ep,ho,hd,hk,hf⟩,hv⟩:=F.ns
 obtain ⟨_,sl,e⟩:=f.slots _ hm o ho
 exact ⟨⟨m,⟨_,es,ep,e,hd,hk,hf⟩,fun x v q1 q2=>(by obtain ⟨u,a,b⟩:=hv x v q1 q2;exact ⟨u,a,b.mono fk⟩)⟩,F.new,F.out,fun x v q1 q2=>absurd q2 (hnc x)⟩
theorem funFrames_of {hs base:Heap}:∀ {fr:List Env},(∀ env∈fr,env.scope.kind≠.module∧env.frame=some env.locals∧base.get? env.locals=none∧∃ o,hs.get? env.locals=some o∧∀ vs,o.data≠.fields vs)→hs.FunFrames base fr
 | [],_=>trivial
 | env :: r, h => by
   obtain ⟨a,b,c,o,d,e⟩:=h env (.head _)
   exact ⟨a,⟨_,o,b,c,d,e⟩,funFrames_of fun x hx=>h x (.tail _ hx)⟩
theorem Fly.begin {T:TI} {H:Hp} {hs:Heap} {fr:List Env} (hk:∀ env∈fr,env.scope.kind≠.module∧env.frame=some env.locals) (O:Own T H hs (frs fr)):Fly hs fr hs:=by
 refine Fly.start (funFrames_of fun env he=>?_)
 have hm:env.locals∈frs fr:=List.mem_filterMap.mpr ⟨env,he,(hk env he).2⟩
 obtain ⟨_,_,o,ho,_,hn⟩:=O _ hm
 exact ⟨(hk env he).1,(hk env he).2,hideH_in hs hm,o,ho,hn⟩
theorem mapFields_cls' (g:Array Value→Array Value) (o:Obj):(Obj.mapFields g o).cls=o.cls:=by unfold Obj.mapFields;split <;> rfl
theorem Fly.none {hs h:Heap} {fr:List Env} (f:Fly hs fr h) {b:Addr} (e:h.get? b=none):hs.get? b=none:=by
 cases q:hs.get? b with
 | none=>rfl
 | some o =>
   exfalso
   by_cases hb:b∈frs fr
   ·obtain ⟨_,sl,e'⟩:=f.slots b hb o q
    rw [e] at e';cases e'
   ·have:=f.keep b o hb q
    rw [e] at this;cases this
inductive Thr (cx:Bool) (cls:String) (hs:Heap) (fr:List Env) (fv:Value) (h:Heap) (e:Addr):Prop where
 | mk (f:Fly hs fr h) (n:hs.get? e=none) (oe:Obj) (ve:Array Value) (tb:Addr) (ot:Obj) (ts:Array Value):h.get? e=some oe→oe.cls=.type cls→oe.data=.fields ve→ve[1]?=some (.ref tb)→tb≠e→hs.get? tb=none→h.get? tb=some ot→ot.data=.fields ts→ts[3]?=some fv→(cx=true→ve[2]?=some .none)→Thr cx cls hs fr fv h e
theorem Thr.fly {cx:Bool} {cls:String} {hs:Heap} {fr:List Env} {fv:Value} {h:Heap} {e:Addr} (t:Thr cx cls hs fr fv h e):Fly hs fr h:=by cases t;assumption
section
variable {M:Model} {A:Around} {E:Value→Shared→Prop} {s:Shared} {hs:Heap} {cx:Bool} {cls:String} {e:Addr}
theorem thr_first {env : Env} {outer : List Env} {L : Addr} {oe : Obj} {ve : Array Value} {Q : Unit → Shared → Prop} (hfr : A.frames = some (env :: outer)) (f : Fly hs (env :: outer) s.heap) (hf : env.frame = some L)
  (hn:hs.get? e=none) (he:s.heap.get? e=some oe) (hc:oe.cls=.type cls) (hd:oe.data=.fields ve) (h1:ve[1]?=some .none) (h2:cx=true→ve[2]?=some .none)
  (h:∀ h',Thr cx cls hs (env::outer) (rawInt L) h' e→Q () { s with heap:=h' }):wpAny M A (noteFrame (.ref e) env) Q E s:=by
 refine note_first hfr f.frames hf he hd h1 fun h' tb ts S n1 n2 e1 e2 e3 e4=>h h' ⟨f.step (fun x hx=>by rw [List.mem_singleton.mp hx];exact hn) S,hn,_,_,tb,_,ts,e1,(mapFields_cls' _ _).trans hc,Obj.data_mapFields hd _,?_,n2,f.none n1,e2,rfl,e3,?_⟩
 ·rw [Array.getElem?_setIfInBounds_self_of_lt (Array.getElem?_eq_some_iff.mp h1).1]
 ·intro hx;rw [Array.getElem?_setIfInBounds_ne (by decide)];exact h2 hx
theorem thr_flight {fr:List Env} {fv:Value} {fl:Option Addr} {Q:Unit→Shared→Prop} (t:Thr cx cls hs fr fv s.heap e) (h:∀ h',Thr cx cls hs fr (fl.elim .none fun f=>rawInt f) h' e→Q () { s with heap:=h' }):wpAny M A (setFlight (.ref e) fl) Q E s:=by
 obtain ⟨f,hn,oe,ve,tb,ot,ts,he,hc,hd,h1,hne,htn,ht,hdt,h3,h2⟩:=t
 have hsz:=(Array.getElem?_eq_some_iff.mp h3).1
 refine flight_set he hd h1 ht hdt hsz (h _ ⟨f.step (xs:=[tb]) (fun x hx=>by rw [List.mem_singleton.mp hx];exact htn) (.field ht hdt (.head _) _),hn,oe,ve,tb,_,_,(Heap.get?_update_other _ _ hne).trans he,hc,hd,h1,hne,htn,Heap.get?_update_self _ ht (Obj.isFreed_of_fields (Obj.data_mapFields hdt _)),Obj.data_mapFields hdt _,?_,h2⟩)
 rw [Array.getElem?_setIfInBounds_self_of_lt hsz]
theorem thr_stay {env:Env} {fr:List Env} {L:Addr} {Q:Unit→Shared→Prop} (hf:env.frame=some L) (t:Thr cx cls hs fr (rawInt L) s.heap e) (h:Q () s):wpAny M A (noteFrame (.ref e) env) Q E s:=by
 obtain ⟨f,hn,oe,ve,tb,ot,ts,he,hc,hd,h1,hne,htn,ht,hdt,h3,h2⟩:=t
 unfold noteFrame
 simp only [hf]
 refine wpAny_bind (wpAny_field he hd h1 ?_)
 rw [if_pos (show (Value.ref tb != Value.none)=true from by simp)]
 refine wpAny_bind (wpAny_field ht hdt h3 ?_)
 rw [if_pos (show (rawInt L==rawInt L)=true from by simp [rawInt])]
 exact wpAny_pure h
theorem thr_back {env:Env} {fr:List Env} {fv:Value} (t:Thr cx cls hs fr fv s.heap e) (h:∀ h',Thr cx cls hs fr (env.frame.elim .none fun f=>rawInt f) h' e→E (.ref e) { s with heap:=h' }):cameBackBy M A env E (.ref e) s:=by
 obtain ⟨f,hn,oe,ve,tb,ot,ts,he,hc,hd,h1,hne,htn,ht,hdt,h3,h2⟩:=t
 unfold cameBackBy
 refine wpAny_bind (wpAny_field he hd h1 ?_)
 rw [if_neg (show ¬ (Value.ref tb==Value.none)=true from by simp)]
 exact thr_flight ⟨f,hn,oe,ve,tb,ot,ts,he,hc,hd,h1,hne,htn,ht,hdt,h3,h2⟩ h
theorem Thr.typeIs {fr:List Env} {fv:Value} (t:Thr cx cls hs fr fv s.heap e):s.TypeIs (.ref e) cls:=by
 obtain ⟨f,hn,oe,ve,tb,ot,ts,he,hc,_⟩:=t
 exact ⟨oe,he,hc⟩
theorem leave_thr {env:Env} {fr:List Env} {L:Addr} {Q:Unit→Shared→Prop} (hf:env.frame=some L) (t:Thr cx cls hs fr (rawInt L) s.heap e) (h:∀ h',Thr cx cls hs fr .none h' e→Q () { s with heap:=h' }):wpAny M A (leaving env (.ref e)) Q E s:=by
 unfold leaving
 exact wpAny_bind (thr_stay hf t (thr_flight (fl:=none) t h))
end
theorem Own.ev {T:TI} {H:Hp} {h h':Heap} {Ls:List Addr} (O:Own T H h Ls) (e:Ev H h H h'):Own T H h' Ls:=fun b hb=>by
 obtain ⟨a,c,o,ho,r⟩:=O b hb
 exact ⟨a,c,o,e.keep b o ho a,r⟩
theorem Stp.of_but {e:Addr} {Ls:List Addr} {h h':Heap} {oe:Obj} {ve:Array Value} (he:h.get? e=some oe) (hd:oe.data=.fields ve) (k:∀ b o,b≠e→h.get? b=some o→h'.get? b=some o):Stp [e] Ls h h' :=
 ⟨fun b o hb Z q=>k b o (fun x=>hb (by rw [x];exact .head _)) q,fun b Z o q nf=>⟨o.slots,k b o (fun x=>by subst x;rw [he] at q;cases q;exact nf ve hd) q⟩⟩
theorem isExc_KE:isSubtype (.type "KeyError") (.type "BaseException")=pure true:=PySem.W.kr_isExc_KeyError
theorem isExc_VE:isSubtype (.type "ValueError") (.type "BaseException")=pure true:=PySem.F.isExc_ValueError
theorem self_KE:isSubtype (.type "KeyError") (.type "KeyError")=pure true:=by rw [isSubtype_type];kernel_rfl
theorem self_VE:isSubtype (.type "ValueError") (.type "ValueError")=pure true:=PySem.F.self_ValueError
theorem meta_KE:isSubtype (.type ((Manifest.find? "KeyError").elim "type" fun x=>x.metatype)) (.type "tuple")=pure false:=PySem.W.kr_notTuple_KeyError
theorem meta_VE:isSubtype (.type ((Manifest.find? "ValueError").elim "type" fun x=>x.metatype)) (.type "tuple")=pure false:=PySem.F.notTuple_ValueError
noncomputable abbrev keB (m:Str) (c1 c2:Nat) (p0 p1 p2 p3 p4 p5 p6 p7 p8:Pos):ExceptHandler :=
 .ExceptHandler (some (.Name "KeyError" p0)) none [.Raise (some (.Call (.Name "ValueError" p1) [.BinOp (.Constant (.str m) c1 p2) .Mod (.Name "which" p3) p4] [] p5)) (some (.Constant .none c2 p6)) p7] p8
section
variable {T:TI} {S:Sy} {n:Nat} (P:Prims T S) (P2:Prims2 T S) (HC:SoundS T S n) {A:Around} (HA:Rm (n+1) A) {env:Env} (hsc:EnvOk env) (hnc:∀ x,env.scope.names.lookup x≠some .cell)
include P P2 HC HA hsc hnc
theorem restore_try3 {outer : List Env} (hfl : env.frame = some env.locals) (hfr : A.frames = some (env :: outer)) (hk : ∀ e ∈ env :: outer, e.scope.kind ≠ .module ∧ e.frame = some e.locals) {x y : Str} {c1 c2 c3 c4 d1 d2 : Nat} {p0 p1 p2 p3 p4 p5 p6 p7 p8 a1 a2 t1 q0 q1 q2 q3 q4 q5 q6 q7 q8 : Pos} {loc : Loc} {H : Hp}
  (hi:nameV S env.scope loc "int" = some (.lit (.type "int"))) (hw:nameV S env.scope loc "which" = some (.int 3)) (hKE:nameV S env.scope loc "KeyError" = some (.lit (.type "KeyError"))) (hVE:nameV S env.scope loc "ValueError" = some (.lit (.type "ValueError"))) {s:Shared} (R:Rel T H s) (F:Frm T env loc H s.heap)
  (hsys:∀ s':Shared,Rel T H s'→∃ o,s'.heap.get? sysModules=some o) (O:Own T H s.heap (frs (env::outer))) {Q:Flow→Shared→Prop} {E:Value→Shared→Prop}
  (h:∀ s₁ h' e tk,Rel T H s₁→Ev H s.heap H s₁.heap→Thr false "ValueError" s₁.heap (env::outer) (rawInt env.locals) h' e→E (.ref e) { s₁ with heap:=h',toks:=tk }) :
  wpAny T.M A (exec (.Try [tagB x y c1 c2 c3 c4 p0 p1 p2 p3 p4 p5 p6 p7 p8 a1 a2] [keB "unknown delta choice (must be 1 or 2): %r" d1 d2 q0 q1 q2 q3 q4 q5 q6 q7 q8] [] [] t1) env) Q E s:=by
 refine wpAny_Try_except ?_
 refine wpAny_execs_cons ?_
 refine exec_Assign_of P P2 HC rfl ?_
 refine tag_eval P HC HA hsc hi hw R F hsys ?_ ?_
 ·intro t s₂ hb
  exfalso
  rcases hb with hb | hb <;> exact absurd hb (by decide)
 intro _ _ s₁ h' e tk R₁ e₁ NE
 have O₁:=O.ev e₁
 have F₁:=F.ev R e₁
 have hm:env.locals∈frs (env::outer):=List.mem_filterMap.mpr ⟨env,.head _,hfl⟩
 have f0:Fly s₁.heap (env::outer) s₁.heap:=Fly.begin hk O₁
 have f1:Fly s₁.heap (env::outer) h':=f0.step (xs:=[e]) (fun x hx=>by rw [List.mem_singleton.mp hx];exact NE.new) (.of_keeps NE.keeps)
 obtain ⟨oe,t,he,hc,hd⟩:=NE.there
 refine thr_first (s:={ s₁ with heap:=h',toks:=tk }) hfr f1 hfl NE.new he hc hd rfl (cx:=true) (fun Z=>rfl) fun h2 t2=>?_
 refine thr_flight t2 fun h3 t3=>?_
 have at':∀ {h4:Heap},Fly s₁.heap (env::outer) h4→(∀ n,Rel T H { s₁ with heap:=h4,toks:=n })∧Frm T env loc H h4:=fun f=>by
  have:=Fly.rel R₁ O₁ f
  exact ⟨this.1,Fly.frm F₁ hm hnc f this.2⟩
 refine wpAny_handleBy_builtin (X := "KeyError") (T := "KeyError") (b:=true) isExc_KE meta_KE self_KE ?_
 refine sNameL P hsc hKE ((at' t3.fly).1 tk) (at' t3.fly).2 ?_
 refine ⟨rfl,t3.typeIs,?_⟩
 rw [if_pos rfl]
 refine thr_flight t3 fun h4 t4=>?_
 refine wpAny_execs_cons ?_
 refine raise_none PySem.F.excRaise_ValueError (b:=e) rfl ?_
 refine wpAny_Call_ofName (sNameL P hsc hVE ((at' t4.fly).1 tk) (at' t4.fly).2 ?_)
 refine callWith_excType rfl (evalArgs_V rfl ?_)
 rw [starEach_ok rfl]
 refine spliced_cons (wpAny_BinOp (wpAny_Constant_str ?_))
 refine sName P hsc hw ((at' t4.fly).1 (tk+1)) (at' t4.fly).2 fun u vu=>?_
 obtain ⟨ti,rfl⟩:=vu.iI
 refine msg_mod fun t' k=>spliced_nil ?_
 obtain ⟨f4,n4,oe4,ve4,tb4,ot4,ts4,he4,hc4,hd4,h14,hne4,htn4,ht4,hdt4,h34,h24⟩:=t4
 refine wpAny_call_exc PySem.F.excCall_ValueError fun h5 e2 hm5=>?_
 have NE5:=hm5.newExc
 obtain ⟨t5,ht5,_,_⟩:=hm5.there
 refine ⟨e2,t5,oe4,ve4,rfl,fun q=>?_,ht5,NE5.keeps _ _ he4,hd4,h24 rfl,fun h6 oe6 ve6 k6 he6 hc6 hd6 h16=>?_⟩
 ·have:=NE5.new
  rw [q,he4] at this;cases this
 have f5:Fly s₁.heap (env::outer) h5:=f4.step (xs:=[e2]) (fun x hx=>by rw [List.mem_singleton.mp hx];exact f4.none NE5.new) (.of_keeps NE5.keeps)
 have f6:Fly s₁.heap (env::outer) h6:=f5.step (xs:=[e2]) (fun x hx=>by rw [List.mem_singleton.mp hx];exact f4.none NE5.new) (.of_but ht5 rfl k6)
 show wpAny _ _ (noteFrame (.ref e2) env) _ _ _
 refine thr_first (cx:=false) (cls := "ValueError") (hs:=s₁.heap) (s:={ s₁ with heap:=h6,toks:=k }) hfr f6 hfl (f4.none NE5.new) he6 hc6 hd6 h16 (fun q=>by cases q) fun h7 t7=>?_
 refine thr_back t7 fun h8 t8=>?_
 rw [hfl] at t8
 exact h s₁ h8 e2 k R₁ e₁ t8
end
theorem rLk3:(fnScope "restore" topB).names.lookup ("KeyError" : Str)=some .globalImplicit∧(fnScope "restore" topB).names.lookup ("ValueError" : Str)=some .globalImplicit:=by decide +kernel
theorem Own.keeps {T:TI} {H:Hp} {h h':Heap} {Ls:List Addr} (O:Own T H h Ls) (k:∀ b o,h.get? b=some o→h'.get? b=some o):Own T H h' Ls:=fun b hb=>by
 obtain ⟨a,c,o,ho,r⟩:=O b hb
 exact ⟨a,c,o,k b o ho,r⟩
def GErr (T:TI) (H:Hp) (L:Addr) (h₀:Heap) (fr:List Env) (e:Value) (s₁:Shared):Prop:=∃ sx h' a tk,e=.ref a∧s₁={ sx with heap:=h',toks:=tk }∧Rel T H sx∧EvL L H h₀ H sx.heap∧Own T H sx.heap (frs fr)∧Thr false "ValueError" sx.heap fr .none h' a
section
variable {T:TI} {S:Sy} {n:Nat} (P:Prims T S) (P2:Prims2 T S) (HC:SoundS T S n) {A:Around}
include P P2 HC
theorem restore_seg3 {env : Env} (he : EnvOk env) (hnc : ∀ x, env.scope.names.lookup x ≠ some .cell) (hsc : env.scope = fnScope "restore" topB) {outer : List Env} (hfl : env.frame = some env.locals) (hfr : A.frames = some outer) (hk : ∀ e ∈ env :: outer, e.scope.kind ≠ .module ∧ e.frame = some e.locals)
  (hint:S.G "int" = some (.lit (.type "int"))) (hKE:S.G "KeyError" = some (.lit (.type "KeyError"))) (hVE:S.G "ValueError" = some (.lit (.type "ValueError"))) (HA1:∀ b,Rm (n+1) (A.over (.func b env) [])) {H:Hp} {d:Addr} (hsys:∀ s':Shared,Rel T H s'→∃ o,s'.heap.get? sysModules=some o) {R:GenEnd} {Y:Protocol} {m:Nat} {s₀ s:Shared} (Rl:Rel T H s) (F:Frm T env (rLoc d 3) H s.heap) (O:Own T H s.heap (frs outer)) (hne:env.locals ∉ frs outer)
  (hend:∀ s₁ e,GErr T H env.locals s.heap (env::outer) e s₁→R m s₀ (.error e) s₁):Seg T.M A R Y m s₀ (.func (fnBody "restore" topB) env) (T.M.den (.func (fnBody "restore" topB) env)) [] s:=by
 rw [rBody]
 refine seg_func ?_
 refine seg_stmt ?_
 refine soundS P P2 HC (HA1 _) he hnc _ (loc:=rLoc d 3) (H:=H) (K:=fun fl l H'=>fl=.next∧l=rLoc d 3∧H'=H) ?_ Rl F fun fl loc' H' f s₁ kk R₁ F₁ fr₁ e₁=>?_
 ·exact rS0_w ⟨rfl,rfl,rfl⟩
 obtain ⟨rfl,rfl,rfl⟩:=kk
 obtain rfl:=fr₁.iN
 refine ⟨rfl,?_⟩
 refine seg_stmt ?_
 have hgl:∀ {x:Str} {v:V},(fnScope "restore" topB).names.lookup x=some .globalImplicit→S.G x=some v→nameV S env.scope (rLoc d 3) x=some v:=fun a b=>(nameV_global (by rw [hsc];exact a)).trans b
 have O₁:Own T H' s₁.heap (frs (env::outer)):=by
  unfold frs
  rw [List.filterMap_cons,hfl]
  intro b hb
  cases hb with
  | head=>exact F₁.own
  | tail _ hb =>
    obtain ⟨a,c,o,ho,r⟩:=O b hb
    exact ⟨a,c,o,e₁.keep b o ho a (fun q=>hne (by rw [← q];exact hb)),r⟩
 with_unfolding_all refine @restore_try3 T S n P P2 HC _ (HA1 _) env he hnc outer hfl (by show A.frames.map _=_;rw [hfr];rfl) hk _ _ _ _ _ _ _ _ _ _ _ _ _ _ _ _ _ _ _ _ _ _ _ _ _ _ _ _ _ (rLoc d 3) H' (hgl rLk.2.2.2.2.2 hint) ((nameV_local (by rw [hsc];exact rLk.2.2.2.2.1)).trans (rLocs d 3).2) (hgl rLk3.1 hKE) (hgl rLk3.2 hVE) s₁ R₁ F₁ hsys O₁ _ _ ?_
 intro s₂ h' e tk R₂ e₂ t₂
 refine seg_wrap (leave_thr hfl t₂ fun h3 t3=>?_)
 exact seg_end (.error (.ref e)) (hend _ _ ⟨s₂,h3,e,tk,rfl,rfl,R₂,e₁.trans e₂.toL,O₁.ev e₂,t3⟩)
end
section
variable {T:TI} {S:Sy} {n:Nat} (P:∀ p,Prims (T.withG p) S) (P2:∀ p,Prims2 (T.withG p) S) (HC:∀ p,SoundS (T.withG p) S n) (RO:ROk T) (hint:S.G "int" = some (.lit (.type "int"))) (hKE:S.G "KeyError" = some (.lit (.type "KeyError"))) (hVE:S.G "ValueError" = some (.lit (.type "ValueError"))) (hgs:∀ G,T.gs G→T.gs (G.push .finished)) {A:Around} (HA:Rm (n+2) A)
include P P2 HC RO hint hKE hVE hgs HA
theorem restore_list3 {outer : List Env} (hfr : A.frames = some outer) (hk : ∀ e ∈ outer, e.scope.kind ≠ .module ∧ e.frame = some e.locals) {H : Hp} {d : Addr} {t : Tok} {s : Shared} (R : Rel T H s) (O : Own T H s.heap (frs outer)) {Q : Value → Shared → Prop} {E E' : Value → Shared → Prop}
  (g:∀ env sx h' a tk,env.scope.kind≠.module→env.frame=some env.locals→Rel T H sx→(∀ b o,s.heap.get? b=some o→H b=none→sx.heap.get? b=some o)→Own T H sx.heap (frs (env::outer))→Thr false "ValueError" sx.heap (env::outer) .none h' a→E (.ref a) { sx with heap:=h',toks:=tk }) :
  wpAny T.M A (call (.ref 260) [.ref d,.int 3 t]) (fun v s₁=>wpAny T.M A (call (.type "list") [v]) Q E s₁) E' s:=by
 obtain ⟨o,ho,hod⟩:=RO.obj
 refine wpAny_call (codeAny_call_generator (Rm.dep HA) (R.base _ _ ho) hod rCo r_gen rfl (RO.code _ R.base) (r_bind _ _ _ _ _ _ _ ?_))
 refine wpAny_newFunctionEnv r_cell ?_ (fun h₁ hns hsb=>⟨(RO.lim _ R.base).fresh _ hsb,?_⟩) r_kind
 ·intro x hx
  simp at hx
  rcases hx with rfl | rfl
  ·exact rLk.2.2.2.1
  ·exact rLk.2.2.2.2.1
 have hsz1:h₁.objs.size=s.heap.objs.size+1:=by rw [hsb.1,Heap.size_push]
 have hk1:∀ b o,s.heap.get? b=some o→h₁.get? b=some o:=fun b o e=>hsb.extBut b o (Nat.ne_of_lt (Heap.lt_size e)) (Heap.get?_push_of_some _ e)
 have hC0:s.heap.get? s.heap.objs.size=none:=Heap.get?_none_of_le (Nat.le_refl _)
 have hHs:∀ b,s.heap.objs.size≤b→H b=none∧T.B b=none∧s.heap.get? b=none:=fun b hb=>by
  refine ⟨?_,R.topB hb,Heap.get?_none_of_le hb⟩
  cases q:H b with
  | none=>rfl
  | some o=>exact absurd (R.lt q) (Nat.not_lt.mpr hb)
 obtain ⟨gob,hgob⟩:∃ gob:Obj,gob={ cls:=.type "generator",data:=.fields #[.int s.gens.size 0,.str fd_restore.name (s.toks+2),.str fd_restore.qualname (s.toks+2+1)] }:=⟨_,rfl⟩
 obtain ⟨h2,hh2⟩:∃ h2,h2=h₁.push gob:=⟨_,rfl⟩
 have hk2:∀ b o,h₁.get? b=some o→h2.get? b=some o:=fun b o e=>by rw [hh2];exact Heap.get?_push_of_some _ e
 have hgen:h2.IsGen (s.heap.objs.size+1) s.gens.size:=⟨gob,_,_,by rw [hh2,← hsz1];exact Heap.get?_push_size _ (by rw [hgob];rfl),by rw [hgob],by rw [hgob],by rw [hgob]⟩
 obtain ⟨env,henv⟩:∃ env,env=rEnv s.heap.objs.size fd_restore.code:=⟨_,rfl⟩
 have hlc:env.locals=s.heap.objs.size:=by rw [henv];rfl
 have hfl:env.frame=some env.locals:=by rw [henv];rfl
 have hkm:env.scope.kind≠.module:=by rw [henv];show (fnScope "restore" topB).kind≠.module;decide +kernel
 have hne:env.locals ∉ frs outer:=fun hm=>by
  obtain ⟨_,_,o,ho,_⟩:=O _ hm
  rw [hlc,hC0] at ho;cases ho
 have goal:wpAny T.M A (call (.type "list") [.ref (s.heap.objs.size+1)]) Q E { heap:=h2,gens:=s.gens.push (.fresh (.func (fnBody "restore" topB) env)),drawn:=s.drawn,toks:=s.toks+2+1+1,os:=s.os }:=by
  have kk2:∀ b o,s.heap.get? b=some o→h2.get? b=some o:=fun b o e=>hk2 b o (hk1 b o e)
  refine err_list (s:={ heap:=h2,gens:=s.gens.push (.fresh (.func (fnBody "restore" topB) env)),drawn:=s.drawn,toks:=s.toks+2+1+1,os:=s.os }) (ty := "generator") hgen.typeIs (fun s' Z ks Q E hq=>wpAny_pyIter_gen (hgen.keeps ks) hq) ⟨rfl,rfl⟩ gen_nolen gen_nohint fun h' kp=>?_
  have hkk:∀ b o,s.heap.get? b=some o→h'.get? b=some o:=fun b o e=>kp b o (kk2 b o e)
  have hg':=hgen.keeps kp
  refine pyNext_gen_err (g:=s.gens.size) (P:=fun e s₁=>s₁.gens=s.gens.push .running∧GErr (gT T s.gens) H env.locals h' (env::outer) e s₁) (gs:=.fresh (.func (fnBody "restore" topB) env)) (n:=0) ?_ ?_ hg' (by simp) ⟨rfl,?_⟩ fun e s₁ hp=>?_
  ·exact RO.lim _ (R.keeps (n:=s.toks) hkk).base
  ·exact Rm.dep (A:=A) HA
  ·have F : Frm T env (rLoc d 3) H h' := by
    refine ⟨⟨_,?_,fun x v e Z=>zip_get (names:=["delta", "which"]) (xs:=[.obj d,.int 3]) (by decide) (.cons (.obj d) (.cons (.int 3 t) .nil)) x v e⟩,by rw [hlc];exact (hHs _ (Nat.le_refl _)).2.1,by rw [hlc];exact (hHs _ (Nat.le_refl _)).1,fun x v e kq=>absurd kq (by rw [henv];exact rNoCell x)⟩
    obtain ⟨o,es,epp,hoo,r⟩:=hns
    exact ⟨o,es,epp,by rw [hlc];exact kp _ o (hk2 _ _ hoo),r⟩
   refine restore_seg3 (T:=gT T s.gens) (A:=A.in1.in1.in1) (outer:=outer) (P _) (P2 _) (HC _) (env:=env) (by rw [henv];exact rEnvOk _ _) (by rw [henv];exact rNoCell) (by rw [henv];rfl) hfl hfr (fun e he=>?_) hint hKE hVE (fun b=>rm_func HA) (d:=d) (H:=H) (fun s' R'=>(by obtain ⟨o,ho⟩:=RO.sysm;exact ⟨o,R'.base _ _ ho⟩)) ?_ F.toG (O.keeps hkk) hne fun s₁ e ge=>?_
   ·cases he with
    | head=>exact ⟨hkm,hfl⟩
    | tail _ he=>exact hk e he
   ·exact (R.keeps (n:=s.toks+2+1+1) hkk).toG (setGen_push rfl)
   ·obtain ⟨sx,h3,a,tk,rfl,rfl,Rx,ex,Ox,tx⟩:=ge
    refine ⟨_,rfl,tx.typeIs,?_,Rx.gens,sx,h3,a,tk,rfl,rfl,Rx,ex,Ox,tx⟩
    obtain ⟨og,nm,qn,hog,hr⟩:=hg'
    have q1:=ex.keep _ _ hog (hHs _ (Nat.le_succ _)).1 (by rw [hlc];exact Nat.succ_ne_self _)
    refine ⟨og,nm,qn,tx.fly.keep _ _ (fun hm=>?_) q1,hr⟩
    obtain ⟨_,_,o',ho',_,nf⟩:=Ox _ hm
    rw [q1] at ho';cases ho'
    exact nf _ hr.2.1
  ·obtain ⟨hgn,sx,h3,a,tk,rfl,rfl,Rx,ex,Ox,tx⟩:=hp
   refine g env (sx.setGen s.gens.size .finished) h3 a tk hkm hfl (Rx.gens' (p:=T.gs) ?_) (fun b o e n=>ex.keep b o (hkk b o e) n (fun q=>by rw [q,hlc,hC0] at e;cases e)) Ox tx
   rw [setGen_push Rx.gens]
   exact hgs _ R.gens
 rw [hh2,hgob,henv] at goal
 rw [show s.heap.objs.size+1=h₁.objs.size from hsz1.symm] at goal
 exact goal
end
theorem rfBody:fnBody "_law_refused" topB=stAt (fnBody "_law_refused" topB) 0::(fnBody "_law_refused" topB).drop 1:=by with_unfolding_all rfl
noncomputable def fi_refused:FI:=⟨fd_refused,fnBody "_law_refused" topB,["delta"],[]⟩
theorem fo_refused {T:TI} (Y:WY T):FOk T 370 fi_refused :=
 fok Y (mem_fn (k:=12) rfl) rfl (fun Z=>rfl) (by decide +kernel) (bd1 rfl fun Z=>by with_unfolding_all rfl)
theorem refLk:(fnScope "_law_refused" topB).names.lookup ("list" : Str)=some .globalImplicit∧(fnScope "_law_refused" topB).names.lookup ("restore" : Str)=some .globalImplicit∧(fnScope "_law_refused" topB).names.lookup ("delta" : Str)=some .local∧(fnScope "_law_refused" topB).names.lookup ("ValueError" : Str)=some .globalImplicit:=by decide +kernel
theorem Stp.wide {xs Ls Ls':List Addr} {h h':Heap} (a:Stp xs Ls h h') (s:∀ x∈Ls,x∈Ls') (hx:∀ x∈xs,∀ o,h.get? x=some o→∃ vs,o.data=.fields vs):Stp xs Ls' h h' :=
 ⟨fun b o q1 q2 e=>a.keep b o q1 (fun m=>q2 (s b m)) e,fun b hb o e nf=>by
  by_cases m:b∈Ls
  ·exact a.slots b m o e nf
  ·exact ⟨o.slots,a.keep b o (fun q=>(by obtain ⟨vs,d⟩:=hx b q o e;exact nf vs d)) m e⟩⟩
theorem thr_nextC {M : Model} {A : Around} {E : Value → Shared → Prop} {s : Shared} {hs : Heap} {cx : Bool} {cls : String} {e : Addr} {e0 env : Env} {outer : List Env} {L : Addr} {Q : Unit → Shared → Prop} (hfr : A.frames = some (env :: outer)) (hf : env.frame = some L) (t : Thr cx cls hs (e0 :: env :: outer) .none s.heap e)
  (h:∀ h',Thr cx cls hs (e0::env::outer) (rawInt L) h' e→Q () { s with heap:=h' }):wpAny M A (noteFrame (.ref e) env) Q E s:=by
 obtain ⟨f,hn,oe,ve,tb,ot,ts,he,hc,hd,h1,hne,htn,ht,hdt,h3,h2⟩:=t
 refine note_next hfr f.frames.2.2 hf he hd h1 hne ht hdt h3 fun h' tb' ts' S n2 n1 e1 e2 e3 e4=>h h' ⟨f.step (fun x hx=>?_) (S.wide (fun x hx=>?_) fun x hx o ho=>?_),hn,_,_,tb',_,ts',e1,(mapFields_cls' _ _).trans hc,Obj.data_mapFields hd _,?_,n2,f.none n1,e2,rfl,e3,?_⟩
 ·rcases List.mem_cons.mp hx with rfl | hx
  ·exact hn
  ·rw [List.mem_singleton.mp hx];exact htn
 ·unfold frs at hx ⊢
  rw [List.filterMap_cons]
  cases e0.frame with
  | none=>exact hx
  | some _=>exact .tail _ hx
 ·rcases List.mem_cons.mp hx with rfl | hx
  ·rw [he] at ho;cases ho;exact ⟨_,hd⟩
  ·rw [List.mem_singleton.mp hx,ht] at ho;cases ho;exact ⟨_,hdt⟩
 ·rw [Array.getElem?_setIfInBounds_self_of_lt (Array.getElem?_eq_some_iff.mp h1).1]
 ·intro hx;rw [Array.getElem?_setIfInBounds_ne (by decide)];exact h2 hx
section
variable {T:TI} (Y:WY T) (hgs:∀ G,T.gs G→T.gs (G.push .finished))
include Y hgs
theorem ref_eval {A : Around} (HA : Rm 26 A) {e1 : Env} (ok1 : EnvOk e1) (hsc1 : e1.scope = fnScope "_law_refused" topB) {outer : List Env} (hA1 : A.frames = some outer) (hk : ∀ e ∈ outer, e.scope.kind ≠ .module ∧ e.frame = some e.locals) {loc : Loc} {H : Hp} {d : Addr} (hd : loc.get "delta" = some (.obj d)) {s : Shared} (R : Rel T H s) (F : Frm T e1 loc H s.heap) (O : Own T H s.heap (frs outer)) {p0 p1 p2 p3 p4 p5 : Pos} {c1 : Nat} {E : Value → Shared → Prop}
  (g:∀ env sx h' a tk,env.scope.kind≠.module→env.frame=some env.locals→Rel T H sx→(∀ b o,s.heap.get? b=some o→H b=none→sx.heap.get? b=some o)→Own T H sx.heap (frs (env::outer))→Thr false "ValueError" sx.heap (env::outer) .none h' a→E (.ref a) { sx with heap:=h',toks:=tk }) :
  wpAny T.M A (eval (.Call (.Name "list" p0) [.Call (.Name "restore" p1) [.Name "delta" p2,.Constant (.int 3) c1 p3] [] p4] [] p5) e1) (fun Z Z=>False) E s:=by
 have P:=sysPrims (sys0 Y) 0
 have glob:∀ {x:Str} {v:V},(fnScope "_law_refused" topB).names.lookup x=some .globalImplicit→gF x=some v→nameV (syAt gF clF (fun Z=>none) XM L0 0 0) e1.scope loc x=some v:=fun a b=>by unfold nameV;rw [hsc1,a];exact b
 obtain ⟨oR,hoR,hodR⟩:=(rok_of Y).obj
 have HC:SoundS T (syAt gF clF (fun Z=>none) XM L0 0 0) 8:=⟨Nat.zero_le _,sysSound (sys0 Y) 0⟩
 have HA9:Rm 9 A:=HA.le (by omega)
 refine wpAny_Call_ofName (sNameL P ok1 (c:=.type "list") (glob refLk.1 rfl) R F ?_)
 refine callWith_excType rfl (evalArgs_V rfl ?_)
 rw [starEach_ok rfl]
 refine spliced_cons ?_
 refine wpAny_Call_NameR (sNameL P ok1 (c:=.ref 260) (glob refLk.2.1 rfl) R F ?_)
 with_reducible refine callWith_V P HC HA9 ok1 (f:=.lit (.ref 260)) rfl ?hlen (evalArgs_V rfl ?_)
 case hlen=>show (2:Nat)≤20;decide
 rw [starEach_ok rfl]
 refine spliced_cons (sNameO P ok1 (a:=d) (by unfold nameV;rw [hsc1,refLk.2.2.1];exact hd) R F ?_)
 rw [starEach_ok rfl]
 refine spliced_cons (wpAny_Constant_int (i:=3) (k:=c1) (pos:=p3) ?_)
 have R1:Rel T H { s with toks:=s.toks+1 }:=R.keeps fun Z Z e=>e
 refine spliced_nil ⟨rfl,keep_func (R1.base _ _ hoR) hodR,?_⟩
 refine wpAny_mono (restore_list3 (T:=T) (S:=SL 0) (n:=24) (fun p=>sysPrims (sysL (Y.toG p)) 0) (fun p=>sysPrims2 (sysL (Y.toG p)) 0) (fun p=>⟨by show 16≤24;decide,cL_sound (Y.toG p) 0⟩) (rok_of Y) rfl rfl rfl hgs HA hA1 hk (H:=H) (d:=d) R1 O (Q:=fun Z Z=>False) (E:=E) (E':=E) g) (fun v s' hv=>?_) fun Z Z e=>e
 exact spliced_nil hv
theorem refused_ok {A:Around} (HA:Rm 40 A) {env:Env} (hfl:env.frame=some env.locals) (hkm:env.scope.kind≠.module) (hnc:∀ x,env.scope.names.lookup x≠some .cell) (hfr:A.frames=some [env]):RefOk T A env:=by
 intro loc H d s Q E R F g
 have FO:=fo_refused Y
 have P:=sysPrims (sys0 Y) 0
 obtain ⟨o,ho,hd⟩:=FO.obj
 obtain ⟨us,ru,hbd⟩:=FO.bind s R.base [.ref d] rfl
 cases ru
 refine wpAny_call (codeAny_call_def (fd:=fi_refused.fd) (body:=fi_refused.body) (binds:=fi_refused.names.zip ([.ref d]++[])) (by have:=HA.2.1;omega) (R.base _ _ ho) hd (Y.lim _ R.base) (FO.code _ R.base) FO.stmts hbd FO.cell
  (fun x hx=>FO.loc _ (List.of_mem_zip hx).1) (fun h₀ hns hk=>?_) FO.co FO.gen FO.sc.kind)
 rw [FO.env]
 have R₀:Rel T H { s with heap:=h₀,toks:=s.toks+(fi_refused.names.zip ([Value.ref d]++[])).length }:=R.keeps hk
 have fk:FixKeep T s.heap h₀:=fun a o e Z=>hk a o e
 obtain ⟨e1,he1⟩:∃ e1,e1=envOf fi_refused.fd.qualname fi_refused.fd.scope s.heap.objs.size 370 fi_refused.fd.code:=⟨_,rfl⟩
 have hnc1:∀ x,e1.scope.names.lookup x≠some .cell:=fun x e=>FO.cell (x,.cell) (look_mem (by rw [he1] at e;exact e)) rfl
 have ok1:EnvOk e1:=by rw [he1];exact { toScOk:=FO.sc,glob:=rfl,bltn:=rfl }
 have hfl1:e1.frame=some e1.locals:=by rw [he1];rfl
 have hl1:e1.locals=s.heap.objs.size:=by rw [he1];rfl
 have hsc1:e1.scope=fnScope "_law_refused" topB:=by rw [he1];rfl
 have hkm1:e1.scope.kind≠.module:=by rw [hsc1];decide +kernel
 have F₀:Frm T e1 (locOf ["delta"] [.obj d]) H h₀:=⟨⟨_,by rw [hl1];exact hns,fun x v e Z=>zip_get (names:=["delta"]) (by decide) (.cons (.obj d) .nil) x v e⟩,by rw [hl1];exact R.topB (Nat.le_refl _),by rw [hl1];exact R.top,fun x v e k=>absurd k (hnc1 x)⟩
 rw [← he1]
 have hA1:(A.deeper e1).frames=some [e1,env]:=Around.frames_deeper hfr
 have HA1:Rm 39 (A.deeper e1):=HA.deeper (n:=39)
 show wpAny T.M (A.deeper e1) (execs (fnBody "_law_refused" topB) e1) _ _ _
 rw [rfBody]
 with_unfolding_all refine wpAny_execs_cons (wpAny_Try_except (wpAny_execs_cons ?_))
 have hA1e:∀ e∈[e1,env],e.scope.kind≠.module∧e.frame=some e.locals:=fun e he=>by
  rcases List.mem_cons.mp he with rfl | he
  ·exact ⟨hkm1,hfl1⟩
  ·rw [List.mem_singleton.mp he];exact ⟨hkm,hfl⟩
 have hfrs:frs [e1,env]=[e1.locals,env.locals]:=by unfold frs;rw [List.filterMap_cons,hfl1,List.filterMap_cons,hfl];rfl
 have F':Frm T env loc H h₀:=F.ev R ⟨fun a o e Z=>hk a o e,fun a o e=>.inl ⟨o,e⟩,fun a o e=>⟨o,hk a o e⟩⟩
 have O1:Own T H h₀ (frs [e1,env]):=by
  rw [hfrs]
  intro b hb
  rcases List.mem_cons.mp hb with rfl | hb
  ·exact F₀.own
  ·rw [List.mem_singleton.mp hb];exact F'.own
 refine wpAny_Expr (wpAny_mono (ref_eval Y hgs (HA1.le (by omega)) ok1 hsc1 hA1 hA1e rfl R₀ F₀ O1 fun e0 sx h' a tk hkm0 hfl0 Rx kx Ox tx=>?_) (fun Z Z x=>x.elim) fun Z Z x=>x) (by rw [he1];with_unfolding_all rfl) (by with_unfolding_all rfl)
 have evx:Ev H h₀ H sx.heap:=⟨kx,fun a o e=>.inl ⟨o,e⟩,fun a o e=>by
  cases q:H a with
  | none=>exact ⟨o,kx a o e q⟩
  | some ob =>
    obtain ⟨o',h',_⟩:=(Rx.objs a ob q).there
    exact ⟨o',h'⟩⟩
 have Fx:Frm T env loc H sx.heap:=F'.ev R₀ evx
 have Fx1:Frm T e1 (locOf ["delta"] [.obj d]) H sx.heap:=F₀.ev R₀ evx
 have hm1:e1.locals∈frs [e0,e1,env]:=by unfold frs;rw [List.filterMap_cons,hfl0,List.filterMap_cons,hfl1];exact .tail _ (.head _)
 have hm:env.locals∈frs [e0,e1,env]:=by unfold frs;rw [List.filterMap_cons,hfl0,List.filterMap_cons,hfl1,List.filterMap_cons,hfl];exact .tail _ (.tail _ (.head _))
 have at':∀ {h4:Heap},Fly sx.heap [e0,e1,env] h4→(∀ n,Rel T H { sx with heap:=h4,toks:=n })∧Frm T e1 (locOf ["delta"] [.obj d]) H h4∧Frm T env loc H h4:=fun f=>by
  have:=Fly.rel Rx Ox f
  exact ⟨this.1,Fly.frm Fx1 hm1 hnc1 f this.2,Fly.frm Fx hm hnc f this.2⟩
 refine thr_nextC (s:={ sx with heap:=h',toks:=tk }) hA1 hfl1 tx fun h2 t2=>?_
 refine thr_flight t2 fun h3 t3=>?_
 refine wpAny_handleBy_builtin (X := "ValueError") (T := "ValueError") (b:=true) isExc_VE meta_VE self_VE ?_
 refine sNameL P ok1 (c:=.type "ValueError") (loc:=locOf ["delta"] [.obj d]) (by unfold nameV;rw [hsc1,refLk.2.2.2];rfl) ((at' t3.fly).1 tk) (at' t3.fly).2.1 ?_
 refine ⟨rfl,t3.typeIs,?_⟩
 rw [if_pos rfl]
 refine thr_flight t3 fun h4 t4=>?_
 refine wpAny_execs_cons (wpAny_Return_some (wpAny_Constant_bool ?_))
 exact g _ ((at' t4.fly).1 tk) (at' t4.fly).2.2
end
end Mine
end
section
namespace Mine
open PySem PySem.Spec PySem.Calls PyProof.Rows PySem.W
theorem ints_are {vs:List Value} {ns:List Int} (h:IntsAre vs ns) (T:TI) (hp:Heap):VRs T hp (ns.map .int) vs:=by
 induction h with
 | nil=>exact .nil
 | cons=>exact .cons (.int _ _) ‹_›
theorem law_call {T : TI} (Y : WY T) (hgs : ∀ G, T.gs G → T.gs (G.push .finished)) {l : Addr} {ns : List Int} (sk : ScrOk T l ns) {fa : Addr} {o : Obj} {fd : FuncData} (hf : T.B fa = some o) (hd : o.data = .func fd) (hcode : ∀ h, Above T h → h.CodeRec fd.code fd.qualname) (hbody : fd.body = .stmts (fnBody "law" topB)) (hsc : fd.scope = fnScope "law" topB)
  (hbd:∀ s:Shared,BindsTo s fd ⟨[.ref l],[]⟩ [("script",.ref l)]) (henv:∀ L,callEnv fd L fa=envOf fd.qualname fd.scope L fa fd.code) {H:Hp} {s:Shared} (R:Rel T H s) {Q:Value→Shared→Prop} {E:Value→Shared→Prop} (g:∀ H' s',Rel T H' s'→Q (.bool true) s'):wpAny T.M callerA (call (.ref fa) [.ref l]) Q E s:=by
 have hcell:∀ x∈fd.scope.names,x.2≠.cell:=by rw [hsc];decide +kernel
 refine wpAny_call (codeAny_call_def (fd:=fd) (body:=fnBody "law" topB) (binds:=[("script",.ref l)]) (by show 1+claimMargin < _;decide) (R.base _ _ hf) hd (Y.lim _ R.base) (hcode _ R.base) hbody (hbd _) hcell (fun x hx=>?_) (fun h₀ hns hk=>?_) (by rw [hsc];decide +kernel) (by rw [hsc];decide +kernel) (by rw [hsc];decide +kernel))
 ·rw [List.mem_singleton.mp hx,hsc];show (fnScope "law" topB).names.lookup ("script" : Str)=some .local;decide +kernel
 rw [henv]
 have R₀:Rel T H { s with heap:=h₀,toks:=s.toks+([(("script" : Str),Value.ref l)]:List (Str×Value)).length }:=R.keeps hk
 obtain ⟨env,he⟩:∃ env,env=envOf fd.qualname fd.scope s.heap.objs.size fa fd.code:=⟨_,rfl⟩
 have hnc:∀ x,env.scope.names.lookup x≠some .cell:=fun x e=>hcell (x,.cell) (look_mem (by rw [he] at e;exact e)) rfl
 have ok:EnvOk env:=by
  rw [he]
  exact { toScOk:=by show ScOk fd.scope;rw [hsc];exact ⟨by decide +kernel,by decide +kernel⟩,glob:=rfl,bltn:=rfl }
 have hl:env.locals=s.heap.objs.size:=by rw [he];rfl
 have F₀:Frm T env [("script",some (.lit (.ref l)))] H h₀:=⟨⟨_,by rw [hl];exact hns,fun x v e Z=>zip_get (names:=["script"]) (xs:=[.lit (.ref l)]) (by decide) (.cons (.lit _) .nil) x v e⟩,by rw [hl];exact R.topB (Nat.le_refl _),by rw [hl];exact R.top,fun x v e k=>absurd k (hnc x)⟩
 rw [← he]
 have HA:Rm 40 (callerA.deeper env):=by
  refine ⟨rfl,?_,?_⟩
  ·rw [depth_deeper];decide +kernel
  ·rw [PySem.Around.deeper_units];decide +kernel
 have hr:=refused_ok Y hgs HA (env:=env) (by rw [he];rfl) (by rw [he];show fd.scope.kind≠.module;rw [hsc];decide +kernel) hnc rfl
 exact law_body Y hgs sk HA ok (by rw [he];exact hsc) hr hnc R₀ F₀ fun H' s' R'=>g H' s' R'
set_option tactic.hygienic true in
theorem law_walk:WalkO qq looseN (fun Z Z=>True) YP lawRow lawD [] fun f vs=>PySem.call f vs:=by
 intro w s₀ s₁ mg mb G Y fa o pm cd doc dV kV ho hd hcd hD hmg hg args vals as hpre hlay hrd hwl hlo
 refine Ground.open G ?_
 intro T B D TE TW
 wrow_args hpre hlay hrd hwl hlo
 rename_i ns _ _ _ _ _ _ _ l vs _ hL _ _ _ hI _ hn _
 obtain ⟨s,hy,hk⟩:=Y
 have he:=Dflts.none hD rfl
 subst he
 have he:=Dflts.noKw hD
 subst he
 have Y:WY { prog:=pp,w:=w,B:=fun a=>s₁.heap.get? a,os:=s₁.os,cM:=135,cS:=242,gs:=AllBare }:=wy_of hy hk T.g T.b T.builtins T.nolimit
 have R:Rel { prog:=pp,w:=w,B:=fun a=>s₁.heap.get? a,os:=s₁.os,cM:=135,cS:=242,gs:=AllBare } (fun Z=>none) s₁:=⟨fun Z Z e=>e,fun Z Z e=>(nomatch e),fun Z Z e=>(nomatch e),rfl,by rw [hg];exact .of_eq rfl⟩
 refine law_call Y ?_ (l:=l) (ns:=ns) ?_ ho hd (fun h ha=>hcd.keeps ha) rfl rfl ?_ ?_ R fun H' s' R'=>?_
 ·exact fun G h=>h.push rfl
 ·obtain ⟨ol,hol,hcl,n,hdl⟩:=hL
  exact ⟨⟨ol,vs,n,hol,hcl,hdl,fun h=>ints_are hI _ h⟩,by omega⟩
 ·exact fun s=>BindsTo.of_eq (by with_unfolding_all rfl)
 ·exact fun L=>rfl
 ·refine ⟨.inl ⟨.bool true,.bool true,[],rfl,fun Z=>rfl,.bool true,?_,?_⟩,OldK.of_keep R'.base,R'.os,R'.gens⟩
  ·with_unfolding_all rfl
  ·exact fun Z=>⟨List.nodup_nil,fun a h=>by cases h⟩
theorem law_holds:PySem.Challenge.rw_oc0391_01.Holds:=holds_by law_walk
end Mine
end
theorem PySem.Challenge.cw_oc0391_01_holds : PySem.Challenge.rw_oc0391_01.Holds := by
  exact Mine.law_holds
