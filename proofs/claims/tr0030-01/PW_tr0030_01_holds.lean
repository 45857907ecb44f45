import PyProof.Rows.All
import Wide.All
import OpenK.AllK
import Wide.FinOn
import KE.KLam
import KE.KSuper
import KE.KSuperObj
import KE.KFromBytes
import KE.KCallOwn
import KE.KNestM
import KE.KRevSl
import PyProof.AttrMissHeap
import Flt.RightMore
import Lean
import PySem.Challenge.RW_tr0030_01
open PySem PySem.W PyProof.Rows
set_option Elab.async false
set_option tactic.hygienic false
set_option genSizeOf false
set_option genSizeOfSpec false
set_option genInjectivity false
set_option bootstrap.genMatcherCode false
set_option maxRecDepth 1000000
set_option linter.unusedVariables false
set_option linter.unusedSimpArgs false
namespace Internal
theorem Hh {p:Prop} (h:∀ G:Prop,(p→G)→G):p:=h p id
inductive AV where
 |none
 |bool (b:Bool)
 |int (i:Int)
 |flt (b:UInt64)
 |str (s:PySem.Str)
 |tup (l:List AV)
 |lst (l:List AV)
 |rng (a b:Int)
 |ref (i:Nat)
 |bm (f:Addr) (i:Nat)
 |lam (i:Nat)
 |val (v:Value)
inductive AObj where
 |lst (l:List AV)
 |ns (d:List (PySem.Str×AV))
 |inst (C:Addr) (d:Nat)
 |acc (C:Addr) (d:Nat) (l:List AV)
 |cell (x:AV)
 |dic (d:List (PySem.Str×AV))
 |tab (vs:Array Value)
 |cit (f:Addr) (i:Nat) (ended:Bool)
 |pos (l:List AV)
 |dead
noncomputable abbrev aD (vs:Array Value) (n:Nat):Obj:={ cls:=.type "list", data:=.seq vs n }
noncomputable abbrev B2 (f b:Addr):Obj:={ cls:=.type "method", data:=.fields #[.ref f,.ref b] }
noncomputable abbrev gk (x y:Value) (e:Bool):Obj:={ cls:=.type "callable_iterator", data:=.fields #[x,y,.bool e] }
noncomputable abbrev gm (vs:Array Value) (n:Nat):Obj:={ cls:=.type "tuple", data:=.seq vs n }
structure Rg where
 l:List Addr
 x:List Addr
noncomputable def Rg.add (ρ:Rg) (a:Addr):Rg:=⟨ρ.l++[a],ρ.x⟩
noncomputable def Rg.shut (ρ:Rg) (a:Addr):Rg:=⟨ρ.l,a::ρ.x⟩
noncomputable def Rg.out (ρ:Rg) (a:Addr):Prop:=a ∉ ρ.l∧a ∉ ρ.x
noncomputable def gn:Arguments:={ posonlyargs:=[],args:=[{ arg := "count", annotation:=none,pos:=⟨127,25,127,30⟩:Arg }],vararg:=none,kwonlyargs:=[],kw_defaults:=[],kwarg:=none,defaults:=[] }
noncomputable def gp:Expr:=.IfExp (.BoolOp .And [.Name "signs" ⟨127,47,127,52⟩,.Compare (.Name "count" ⟨127,57,127,62⟩) [.Eq] [.Constant (.int 1) 0 ⟨127,66,127,67⟩] ⟨127,57,127,67⟩] ⟨127,47,127,67⟩)
 (.Call (.Attribute (.Name "signs" ⟨127,32,127,37⟩) "pop" ⟨127,32,127,41⟩) [] [] ⟨127,32,127,43⟩) (.Constant (.str "") 0 ⟨127,73,127,75⟩) ⟨127,32,127,75⟩
noncomputable def lamScope:Scope:={ kind:=.function,names:=[(Str.ofString "count", .local),(Str.ofString "signs", .free)],isGenerator:=false,isCoroutine:=false,more:=[] }
noncomputable def gq:Str := "_law_lexer.<locals>.<lambda>"
noncomputable def yM (c:Addr) (pm cdv ct:Value):FuncData:=
 {name := "<lambda>", qualname:=gq,params:=gn,body:=.expr gp,scope:=lamScope,globals:=mainGlobals,closure:=[("signs", c)],defaults:=.none,kwdefaults:=.none,doc:=.none,pyModule:=pm,
  annotations:=none,code:=cdv,closureTuple:=ct,builtins:=builtinsNs }
noncomputable abbrev xQ (c:Addr) (pm cdv ct:Value):Obj:={ cls:=.type "function", data:=.func (yM c pm cdv ct) }
mutual
noncomputable def VR (h:Heap) (ρ:Rg):AV→Value→Prop
 | .none,v=>v = .none
 | .bool b,v=>v = .bool b
 | .int i,v=>∃ t,v = .int i t
 | .flt b,v=>∃ t,v = .float b t
 | .str s,v=>∃ t,v = .str s t
 | .tup l,v=>∃ a vs n,v = .ref a∧ρ.out a∧h.get? a=some (gm vs n)∧VRs h ρ l vs.toList
 | .lst l,v=>∃ a vs n,v = .ref a∧ρ.out a∧h.get? a=some (aD vs n)∧VRs h ρ l vs.toList
 | .rng a b,v=>∃ r t u w,v = .ref r∧ρ.out r∧IsRange h r a b 1 t u w
 | .ref i,v=>∃ a,v = .ref a∧ρ.l[i]? = some a
 | .bm f i,v=>∃ a b,v = .ref a∧ρ.out a∧h.get? a=some (B2 f b)∧ρ.l[i]? = some b
 | .lam i,v=>∃ a c c' pm ct oc vs t,v = .ref a∧ρ.out a∧h.get? a=some (xQ c pm (.ref c') ct)∧ρ.l[i]? = some c∧ρ.out c'∧h.get? c'=some oc∧oc.data = .fields vs∧vs[1]? = some (.str gq t)
 | .val u,v=>v=u
noncomputable def VRs (h:Heap) (ρ:Rg):List AV→List Value→Prop
 | [],[]=>True
 |a::as,v::vs=>VR h ρ a v∧VRs h ρ as vs
 | [],_::_=>False
 |_::_,[]=>False
end
noncomputable def Hi (o:Obj):Bool:=match o.data with
 | .seq .. => true
 | .func _=>true
 | .fields vs=>o.cls == .type "range" || o.cls == .type "method" || (match vs[1]? with | some (Value.str _ _)=>true | _=>false)
 |_=>false
theorem m5 {o:Obj} {vs:Array Value} {x:PySem.Str} {t:Tok} (h:o.data = .fields vs) (e:vs[1]? = some (.str x t)):Hi o=true:=by
 unfold Hi
 rw [h]
 simp [e]
structure Stp (fa:List Addr) (p:Bool) (ρ:Rg) (h:Heap) (ρ':Rg) (h':Heap):Prop where
 keep:∀ b o,(p=true∨b ∉ ρ.l)→b ∉ fa→h.get? b=some o→h'.get? b=some o
 imm:∀ b o,(p=true∨b ∉ ρ.l)→Hi o=true→h.get? b=some o→h'.get? b=some o
 ext:∀ (i:Nat) (a:Addr),ρ.l[i]? = some a→ρ'.l[i]? = some a
 new:∀ a∈ρ'.l,a∈ρ.l∨h.get? a=none
 pur:p=true→ρ'=ρ
 xs:ρ'.x=ρ.x
 live:∀ b o,h.get? b=some o→∃ o',h'.get? b=some o'
theorem Stp.refl {fa ρ g} : Stp fa true ρ g ρ g:=⟨fun __ __ __ __ e=>e,fun __ __ __ __ e=>e,fun __ __ e=>e,fun __ h=>.inl h,fun __=>rfl,rfl,fun __ o e=>⟨o,e⟩⟩
theorem Stp.nin {fa p ρ g ρ' g'} (x:Stp fa p ρ g ρ' g') {b:Addr} {o:Obj} (hb:b ∉ ρ.l) (e:g.get? b=some o):b ∉ ρ'.l:=fun hm=>by
 rcases x.new b hm with h | h
 ·exact hb h
 ·rw [h] at e;cases e
theorem Stp.out {fa p ρ g ρ' g'} (x:Stp fa p ρ g ρ' g') {b:Addr} {o:Obj} (hb:ρ.out b) (e:g.get? b=some o):ρ'.out b:=
 ⟨x.nin hb.1 e,by rw [x.xs];exact hb.2⟩
theorem Stp.trans {fa p q ρ g ρ' g' ρ'' g''} (x:Stp fa p ρ g ρ' g') (y:Stp fa q ρ' g' ρ'' g''):Stp fa (p&&q) ρ g ρ'' g'':=by
 refine ⟨fun b o hb hf e=>?_,fun b o hb hi e=>?_,fun i a e=>y.ext i a (x.ext i a e),fun a ha=>?_,fun h=>?_,y.xs.trans x.xs,fun b o e=>?_⟩
 ·rcases hb with hb | hb
  ·rw [Bool.and_eq_true] at hb
   exact y.keep b o (.inl hb.2) hf (x.keep b o (.inl hb.1) hf e)
  ·exact y.keep b o (.inr (x.nin hb e)) hf (x.keep b o (.inr hb) hf e)
 ·rcases hb with hb | hb
  ·rw [Bool.and_eq_true] at hb
   exact y.imm b o (.inl hb.2) hi (x.imm b o (.inl hb.1) hi e)
  ·exact y.imm b o (.inr (x.nin hb e)) hi (x.imm b o (.inr hb) hi e)
 ·rcases y.new a ha with h | h
  ·exact x.new a h
  ·right
   cases e:g.get? a with
   |none=>rfl
   |some o=>
    obtain ⟨o',e'⟩:=x.live a o e
    rw [e'] at h;cases h
 ·rw [Bool.and_eq_true] at h
  rw [y.pur h.2,x.pur h.1]
 ·obtain ⟨o',e'⟩:=x.live b o e
  exact y.live b o' e'
theorem Stp.weak {fa p ρ g ρ' g'} (x:Stp fa p ρ g ρ' g'):Stp fa false ρ g ρ' g':=
 ⟨fun b o hb=>x.keep b o (.inr (hb.resolve_left (by decide))),fun b o hb=>x.imm b o (.inr (hb.resolve_left (by decide))),x.ext,x.new,fun h=>(nomatch h),x.xs,x.live⟩
theorem Stp.fa {p ρ g ρ' g'} (x:Stp [] p ρ g ρ' g') (fa:List Addr):Stp fa p ρ g ρ' g':=
 ⟨fun b o hb __=>x.keep b o hb (by simp),x.imm,x.ext,x.new,x.pur,x.xs,x.live⟩
theorem Stp.keeps {fa ρ} {g g':Heap} (k:∀ b o,g.get? b=some o→g'.get? b=some o):Stp fa true ρ g ρ g':=
 ⟨fun b o __ __ e=>k b o e,fun b o __ __ e=>k b o e,fun __ __ e=>e,fun __ h=>.inl h,fun __=>rfl,rfl,fun b o e=>⟨o,k b o e⟩⟩
theorem Stp.drop {fa p ρ} {g g₁ ρ' g'} (x:Stp fa p ρ g₁ ρ' g') (k:∀ b o,g.get? b=some o→g₁.get? b=some o) (hf:∀ b∈fa,g.get? b=none):Stp [] p ρ g ρ' g':=by
 have nf:∀ b o,g.get? b=some o→b ∉ fa:=fun b o e hm=>by rw [hf b hm] at e;cases e
 refine ⟨fun b o hb __ e=>x.keep b o hb (nf b o e) (k b o e),fun b o hb hi e=>x.imm b o hb hi (k b o e),x.ext,fun a ha=>?_,x.pur,x.xs,fun b o e=>x.live b o (k b o e)⟩
 rcases x.new a ha with h | h
 ·exact .inl h
 ·right
  cases e:g.get? a with
  |none=>rfl
  |some o=>rw [k a o e] at h;cases h
theorem Stp.poke {fa p ρ g ρ' g' g''} (x:Stp fa p ρ g ρ' g') {D:Addr} (hD:g.get? D=none) (k:∀ b o,b≠D→g'.get? b=some o→g''.get? b=some o):Stp fa p ρ g ρ' g'':=by
 have ne:∀ b o,g.get? b=some o→b≠D:=fun b o e h=>by rw [h,hD] at e;cases e
 exact ⟨fun b o hb hf e=>k b o (ne b o e) (x.keep b o hb hf e),fun b o hb hi e=>k b o (ne b o e) (x.imm b o hb hi e),x.ext,x.new,x.pur,x.xs,
  fun b o e=>let ⟨o',e'⟩:=x.live b o e;⟨o',k b o' (ne b o e) e'⟩⟩
mutual
theorem VR.mono {fa p ρ g ρ' g'} (x:Stp fa p ρ g ρ' g'):∀ (av:AV) (v:Value),VR g ρ av v→VR g' ρ' av v
 | .none,_,h=>h
 | .bool _,_,h=>h
 | .int _,_,h=>h
 | .flt _,_,h=>h
 | .str _,_,h=>h
 | .val _,_,h=>h
 | .ref i,v,h=>by
  obtain ⟨a,hv,ha⟩:=h
  exact ⟨a,hv,x.ext _ _ ha⟩
 | .bm f i,v,h=>by
  obtain ⟨a,b,hv,ha,ho,hb⟩:=h
  exact ⟨a,b,hv,x.out ha ho,x.imm a _ (.inr ha.1) rfl ho,x.ext _ _ hb⟩
 | .lam i,v,h=>by
  obtain ⟨a,c,c',pm,ct,oc,vs,t,hv,ha,ho,hc,hc',hoc,hd,ht⟩:=h
  exact ⟨a,c,c',pm,ct,oc,vs,t,hv,x.out ha ho,x.imm a _ (.inr ha.1) rfl ho,x.ext _ _ hc,x.out hc' hoc,x.imm c' _ (.inr hc'.1) (m5 hd ht) hoc,hd,ht⟩
 | .rng a b,v,h=>by
  obtain ⟨r,t,u,w,hv,hr,h⟩:=h
  exact ⟨r,t,u,w,hv,x.out hr h,x.imm r _ (.inr hr.1) rfl h⟩
 | .tup l,v,h=>by
  obtain ⟨a,vs,n,hv,ha,ho,hl⟩:=h
  exact ⟨a,vs,n,hv,x.out ha ho,x.imm a _ (.inr ha.1) rfl ho,VRs.mono x l _ hl⟩
 | .lst l,v,h=>by
  obtain ⟨a,vs,n,hv,ha,ho,hl⟩:=h
  exact ⟨a,vs,n,hv,x.out ha ho,x.imm a _ (.inr ha.1) rfl ho,VRs.mono x l _ hl⟩
theorem VRs.mono {fa p ρ g ρ' g'} (x:Stp fa p ρ g ρ' g'):∀ (as:List AV) (vs:List Value),VRs g ρ as vs→VRs g' ρ' as vs
 | [],[],_=>trivial
 |a::as,v::vs,h=>⟨VR.mono x a v h.1,VRs.mono x as vs h.2⟩
 | [],_::_,h=>h.elim
 |_::_,[],h=>h.elim
end
mutual
theorem VR.rg {ρ ρ':Rg} {g g':Heap} (k:∀ b o,ρ.out b→Hi o=true→g.get? b=some o→ρ'.out b∧g'.get? b=some o) (e:∀ (i:Nat) (a:Addr),ρ.l[i]? = some a→ρ'.l[i]? = some a):∀ (av:AV) (v:Value),VR g ρ av v→VR g' ρ' av v
 | .none,_,h=>h
 | .bool _,_,h=>h
 | .int _,_,h=>h
 | .flt _,_,h=>h
 | .str _,_,h=>h
 | .val _,_,h=>h
 | .ref i,v,h=>by
  obtain ⟨a,hv,ha⟩:=h
  exact ⟨a,hv,e _ _ ha⟩
 | .bm f i,v,h=>by
  obtain ⟨a,b,hv,ha,ho,hb⟩:=h
  exact ⟨a,b,hv,(k a _ ha rfl ho).1,(k a _ ha rfl ho).2,e _ _ hb⟩
 | .lam i,v,h=>by
  obtain ⟨a,c,c',pm,ct,oc,vs,t,hv,ha,ho,hc,hc',hoc,hd,ht⟩:=h
  have y:=k c' _ hc' (m5 hd ht) hoc
  exact ⟨a,c,c',pm,ct,oc,vs,t,hv,(k a _ ha rfl ho).1,(k a _ ha rfl ho).2,e _ _ hc,y.1,y.2,hd,ht⟩
 | .rng a b,v,h=>by
  obtain ⟨r,t,u,w,hv,hr,h⟩:=h
  exact ⟨r,t,u,w,hv,(k r _ hr rfl h).1,(k r _ hr rfl h).2⟩
 | .tup l,v,h=>by
  obtain ⟨a,vs,n,hv,ha,ho,hl⟩:=h
  exact ⟨a,vs,n,hv,(k a _ ha rfl ho).1,(k a _ ha rfl ho).2,VRs.rg k e l _ hl⟩
 | .lst l,v,h=>by
  obtain ⟨a,vs,n,hv,ha,ho,hl⟩:=h
  exact ⟨a,vs,n,hv,(k a _ ha rfl ho).1,(k a _ ha rfl ho).2,VRs.rg k e l _ hl⟩
theorem VRs.rg {ρ ρ':Rg} {g g':Heap} (k:∀ b o,ρ.out b→Hi o=true→g.get? b=some o→ρ'.out b∧g'.get? b=some o) (e:∀ (i:Nat) (a:Addr),ρ.l[i]? = some a→ρ'.l[i]? = some a):∀ (as:List AV) (vs:List Value),VRs g ρ as vs→VRs g' ρ' as vs
 | [],[],_=>trivial
 |a::as,v::vs,h=>⟨VR.rg k e a v h.1,VRs.rg k e as vs h.2⟩
 | [],_::_,h=>h.elim
 |_::_,[],h=>h.elim
end
theorem VRs.length {h ρ} : ∀ {as:List AV} {vs:List Value},VRs h ρ as vs→as.length=vs.length
 | [],[],_=>rfl
 |_::as,_::vs,h=>by rw [List.length_cons,List.length_cons,VRs.length h.2]
 | [],_::_,h=>h.elim
 |_::_,[],h=>h.elim
theorem VRs.get {h ρ} : ∀ {as:List AV} {vs:List Value} {i:Nat} {a:AV},VRs h ρ as vs→as[i]? = some a→∃ v,vs[i]? = some v∧VR h ρ a v
 |a::as,v::vs,0,b,h,e=>by cases e;exact ⟨v,rfl,h.1⟩
 |a::as,v::vs,i+1,b,h,e=>VRs.get (i:=i) h.2 e
 | [],[],_,_,_,e=>by cases e
 | [],_::_,_,_,h,_=>h.elim
 |_::_,[],_,_,h,_=>h.elim
theorem VRs.get' {h ρ} : ∀ {as:List AV} {vs:List Value} {i:Nat} {v:Value},VRs h ρ as vs→vs[i]? = some v→∃ a,as[i]? = some a∧VR h ρ a v
 |a::as,v::vs,0,b,h,e=>by cases e;exact ⟨a,rfl,h.1⟩
 |a::as,v::vs,i+1,b,h,e=>VRs.get' (i:=i) h.2 e
 | [],[],_,_,_,e=>by cases e
 | [],_::_,_,_,h,_=>h.elim
 |_::_,[],_,_,h,_=>h.elim
theorem VRs.append {h ρ} : ∀ {as bs:List AV} {vs us:List Value},VRs h ρ as vs→VRs h ρ bs us→VRs h ρ (as++bs) (vs++us)
 | [],_,[],_,_,h=>h
 |_::as,_,_::vs,_,h,g=>⟨h.1,VRs.append h.2 g⟩
 | [],_,_::_,_,h,_=>h.elim
 |_::_,_,[],_,h,_=>h.elim
theorem VRs.take {h ρ} : ∀ {as:List AV} {vs:List Value} (n:Nat),VRs h ρ as vs→VRs h ρ (as.take n) (vs.take n)
 |_,_,0,_=>trivial
 | [],[],_+1,_=>trivial
 |_::as,_::vs,n+1,h=>⟨h.1,VRs.take n h.2⟩
 | [],_::_,_+1,h=>h.elim
 |_::_,[],_+1,h=>h.elim
theorem VRs.drop {h ρ} : ∀ {as:List AV} {vs:List Value} (n:Nat),VRs h ρ as vs→VRs h ρ (as.drop n) (vs.drop n)
 |_,_,0,h=>h
 | [],[],_+1,_=>trivial
 |_::as,_::vs,n+1,h=>VRs.drop n h.2
 | [],_::_,_+1,h=>h.elim
 |_::_,[],_+1,h=>h.elim
structure Fix where
 prog:Program
 w:World
 h:Heap
 os:OsState
 tabs:List Addr
noncomputable def NsR (h:Heap) (ρ:Rg):List (PySem.Str×AV)→List DictEntry→Prop
 | [],[]=>True
 |(k,av)::d,e::es=>(∃ t,e.key = .str k t)∧VR h ρ av e.val∧NsR h ρ d es
 | [],_::_=>False
 |_::_,[]=>False
theorem NsR.of {ρ ρ':Rg} {g g':Heap} (k:∀ av v,VR g ρ av v→VR g' ρ' av v):∀ {d:List (PySem.Str×AV)} {es:List DictEntry},NsR g ρ d es→NsR g' ρ' d es
 | [],[],_=>trivial
 |(_,av)::d,e::es,h=>⟨h.1,k _ _ h.2.1,NsR.of k h.2.2⟩
 | [],_::_,h=>h.elim
 |_::_,[],h=>h.elim
noncomputable def DR (h:Heap) (ρ:Rg) (d:List (PySem.Str×AV)) (kvs:List (PySem.Str×Value)):Prop:=kvs.map (·.1)=d.map (·.1)∧VRs h ρ (d.map (·.2)) (kvs.map (·.2))
noncomputable def OR (F:Fix) (h:Heap) (ρ:Rg) (a:Addr):AObj→Prop
 | .lst l=>∃ vs n,h.get? a=some (aD vs n)∧VRs h ρ l vs.toList
 | .ns d=>∃ es n,h.get? a=some (dictOf es n)∧NsR h ρ d es
 | .inst C d=>∃ b,ρ.l[d]? = some b∧h.get? a=some { cls:=.ref C,dict:=some b }
 | .acc C d l=>∃ b vs n,ρ.l[d]? = some b∧h.get? a=some { cls:=.ref C,dict:=some b,data:=.seq vs n } ∧ VRs h ρ l vs.toList
 | .cell x=>∃ o v,h.get? a=some o∧o.data = .cell (some v)∧VR h ρ x v
 | .dic d=>∃ kvs,h.DictOf (strKind F.prog F.w) a kvs∧DR h ρ d kvs
 | .tab vs=>∃ ps,h.get? a=some (tabObj ps)∧vs[0]? = some (.ref a)∧(ps = #[]∨(vs.size=3∧∃ c',ps = #[vs.getD 1 .none,vs.getD 2 .none,.ref c']))
 | .cit f i true=>h.get? a=some (gk .none .none true)
 | .cit f i false=>∃ bm t,h.get? a=some (gk (.ref bm) (.str "" t) false)∧VR h ρ (.bm f i) (.ref bm)
 | .pos l=>∃ vs n,h.get? a=some (aD vs n)∧VRs h ρ l.reverse vs.toList∧l.length≤1000000
 | .dead=>True
theorem OR.mono {F:Fix} {fa p ρ g ρ' g'} {a:Addr} {o:AObj} (x:OR F g ρ a o) (S:Stp fa p ρ g ρ' g') (k:∀ ob,g.get? a=some ob→g'.get? a=some ob):OR F g' ρ' a o:=by
 cases o with
 |lst l=>obtain ⟨vs,n,e,r⟩:=x;exact ⟨vs,n,k _ e,VRs.mono S _ _ r⟩
 |ns d=>obtain ⟨es,n,e,r⟩:=x;exact ⟨es,n,k _ e,r.of (VR.mono S)⟩
 |inst C d=>obtain ⟨b,e,r⟩:=x;exact ⟨b,S.ext _ _ e,k _ r⟩
 |acc C d l=>obtain ⟨b,vs,n,e,r,u⟩:=x;exact ⟨b,vs,n,S.ext _ _ e,k _ r,VRs.mono S _ _ u⟩
 |cell x'=>obtain ⟨o,v,e,r,u⟩:=x;exact ⟨o,v,k _ e,r,VR.mono S _ _ u⟩
 |dic d=>obtain ⟨kvs,e,r⟩:=x;exact ⟨kvs,e.at k,r.1,VRs.mono S _ _ r.2⟩
 |tab vs=>obtain ⟨ps,e,r⟩:=x;exact ⟨ps,k _ e,r⟩
 |cit f i e=>cases e with
  |true=>exact k _ x
  |false=>obtain ⟨bm,t,e,r⟩:=x;exact ⟨bm,t,k _ e,VR.mono S _ _ r⟩
 |pos t=>obtain ⟨vs,n,e,r,z⟩:=x;exact ⟨vs,n,k _ e,VRs.mono S _ _ r,z⟩
 |dead=>trivial
theorem OR.rg {F:Fix} {ρ ρ':Rg} {g g':Heap} {a:Addr} {o:AObj} (x:OR F g ρ a o) (k:∀ b o,ρ.out b→Hi o=true→g.get? b=some o→ρ'.out b∧g'.get? b=some o) (e:∀ (i:Nat) (a:Addr),ρ.l[i]? = some a→ρ'.l[i]? = some a) (ka:∀ ob,g.get? a=some ob→g'.get? a=some ob):OR F g' ρ' a o:=by
 cases o with
 |lst l=>obtain ⟨vs,n,e',r⟩:=x;exact ⟨vs,n,ka _ e',VRs.rg k e _ _ r⟩
 |ns d=>obtain ⟨es,n,e',r⟩:=x;exact ⟨es,n,ka _ e',r.of (VR.rg k e)⟩
 |inst C d=>obtain ⟨b,e',r⟩:=x;exact ⟨b,e _ _ e',ka _ r⟩
 |acc C d l=>obtain ⟨b,vs,n,e',r,u⟩:=x;exact ⟨b,vs,n,e _ _ e',ka _ r,VRs.rg k e _ _ u⟩
 |cell x'=>obtain ⟨o,v,e',r,u⟩:=x;exact ⟨o,v,ka _ e',r,VR.rg k e _ _ u⟩
 |dic d=>obtain ⟨kvs,e',r⟩:=x;exact ⟨kvs,e'.at ka,r.1,VRs.rg k e _ _ r.2⟩
 |tab vs=>obtain ⟨ps,e',r⟩:=x;exact ⟨ps,ka _ e',r⟩
 |cit f i b=>cases b with
  |true=>exact ka _ x
  |false=>obtain ⟨bm,t,e',r⟩:=x;exact ⟨bm,t,ka _ e',VR.rg k e _ _ r⟩
 |pos t=>obtain ⟨vs,n,e',r,z⟩:=x;exact ⟨vs,n,ka _ e',VRs.rg k e _ _ r,z⟩
 |dead=>trivial
structure Inv (F:Fix) (s:Shared) (ρ:Rg) (σ:List AObj):Prop where
 base:∀ b o,b ∉ F.tabs→F.h.get? b=some o→s.heap.get? b=some o
 len:ρ.l.length=σ.length
 objs:∀ (i:Nat) (a:Addr) (o:AObj),ρ.l[i]? = some a→σ[i]? = some o→OR F s.heap ρ a o
 nodup:ρ.l.Nodup
 fresh:∀ a∈ρ.l,a∈F.tabs∨F.h.get? a=none
 live:∀ a∈ρ.l,∃ o,s.heap.get? a=some o
 xlive:∀ a∈ρ.x,∃ o,s.heap.get? a=some o
 tlive:∀ a∈F.tabs,∃ o,s.heap.get? a=some o
 gens:AllBare s.gens
 os:s.os=F.os
structure AEnv where
 names:List (Str×NameKind)
 own:List Str
 vars:List (Str×AV)
structure EnvR (F:Fix) (h:Heap) (ρ:Rg) (env:Env) (E:AEnv):Prop where
 kind:env.scope.kind = .function
 names:env.scope.names=E.names
 glob:env.globals=mainGlobals
 blt:env.builtins=builtinsNs
 loc:env.locals ∉ ρ.l∧F.h.get? env.locals=none
 ns:∃ m,h.Ns env.locals m∧∀ x av,E.vars.lookup x=some av→E.names.lookup x=some .local→∃ v,m x=some v∧VR h ρ av v
 cel:∀ x av,E.vars.lookup x=some av→(E.names.lookup x=some .cell∨E.names.lookup x=some .free)→∃ c v,env.cells.lookup x=some c∧h.IsCell c (some v)∧VR h ρ av v
 own:∀ x∈E.own,∃ c,env.cells.lookup x=some c∧F.h.get? c=none
 celN:∀ x c,env.cells.lookup x=some c→c ∉ ρ.l∧∃ v,h.IsCell c v
 inj:∀ x y c,env.cells.lookup x=some c→env.cells.lookup y=some c→x=y
noncomputable def Hj (env:Env) (E:AEnv) (fa:List Addr):Prop:=env.locals∈fa∧∀ x∈E.own,∀ c,env.cells.lookup x=some c→c∈fa
theorem EnvR.mono {F:Fix} {p:Bool} {ρ ρ':Rg} {g g':Heap} {env:Env} {E:AEnv} (x:EnvR F g ρ env E) (S:Stp [] p ρ g ρ' g'):EnvR F g' ρ' env E:=by
 obtain ⟨m,hn,hm⟩:=x.ns
 obtain ⟨oL,es,ep,hL,_⟩:=id hn
 have kL:∀ o,g.get? env.locals=some o→g'.get? env.locals=some o:=fun o e=>S.keep _ o (.inr x.loc.1) (by simp) e
 refine ⟨x.kind,x.names,x.glob,x.blt,⟨S.nin x.loc.1 hL,x.loc.2⟩,⟨m,hn.at' kL,fun y av h1 h2=>?_⟩,fun y av h1 h2=>?_,x.own,fun y c hc=>?_,x.inj⟩
 ·obtain ⟨v,e,r⟩:=hm y av h1 h2
  exact ⟨v,e,VR.mono S _ _ r⟩
 ·obtain ⟨c,v,e,⟨o,ho,hd⟩,r⟩:=x.cel y av h1 h2
  exact ⟨c,v,e,⟨o,S.keep _ _ (.inr (x.celN y c e).1) (by simp) ho,hd⟩,VR.mono S _ _ r⟩
 ·obtain ⟨hN,v,o,ho,hd⟩:=x.celN y c hc
  exact ⟨S.nin hN ho,v,o,S.keep _ _ (.inr hN) (by simp) ho,hd⟩
end Internal
namespace Internal
noncomputable abbrev St:=List AObj
noncomputable abbrev Fn:=List AV→St→Option (AV×St×Bool)
structure Cfg where
 G:PySem.Str→Option AV
 Γ:Value→Option Fn
 meth:Addr→PySem.Str→Option Addr
 free:Addr→PySem.Str→Bool
 ameth:Addr→PySem.Str→Option Addr
 aown:Addr→PySem.Str→Option String
 lam:Option Fn
 cit:Addr→Option Fn
 mu:Pos→Bool
noncomputable def Hk:Nat:=1000000
noncomputable def small (i:Int):Bool:=i.natAbs < 2 ^ 60
noncomputable def jX (i:Int):Bool:=!Float64.isInf (Float64.ofInt i)
noncomputable def lH {γ:Type} (a b:AV) (k:Int→Int→Option γ):Option γ:=match a with | .int x=>(match b with | .int y=>k x y | _=>none) | _=>none
noncomputable def xR {γ:Type} (a b:AV) (k:UInt64→UInt64→Option γ):Option γ:=match a with | .flt x=>(match b with | .flt y=>k x y | _=>none) | _=>none
noncomputable def Hl {γ:Type} (a b:AV) (k:UInt64→Int→Option γ):Option γ:=match a with | .flt x=>(match b with | .int y=>k x y | _=>none) | _=>none
noncomputable def Hm {γ:Type} (a b:AV) (k:Int→UInt64→Option γ):Option γ:=match a with | .int x=>(match b with | .flt y=>k x y | _=>none) | _=>none
noncomputable def B3 {γ:Type} (a b:AV) (k:Str→Str→Option γ):Option γ:=match a with | .str x=>(match b with | .str y=>k x y | _=>none) | _=>none
noncomputable def Hn {γ:Type} (a b:AV) (k:Str→Int→Option γ):Option γ:=match a with | .str x=>(match b with | .int y=>k x y | _=>none) | _=>none
noncomputable def ED {γ:Type} (a b:AV) (k:List AV→List AV→Option γ):Option γ:=match a with | .lst x=>(match b with | .lst y=>k x y | _=>none) | _=>none
noncomputable def Ho {γ:Type} (x y:Option γ):Option γ:=match x with | some a=>some a | none=>y
noncomputable def Gu (a b:Int):Option AV:=if a=2∧0≤b∧b≤64 then some (.int (2 ^ b.toNat)) else none
noncomputable def En (a b:Int):Option AV:=if b≠0∧Float64.isInf (Float64.ofFrac (decide (a < 0) != decide (b < 0)) a.natAbs b.natAbs)=false then some (.flt (Float64.ofFrac (decide (a < 0) != decide (b < 0)) a.natAbs b.natAbs)) else none
noncomputable def h9 (op:Operator) (a b:AV):Option AV:=match op with
 | .Add=>Ho (lH a b fun x y=>some (.int (x+y))) (Ho (xR a b fun x y=>some (.flt (Float64.add x y))) (Ho (Hl a b fun x y=>if jX y then some (.flt (Float64.add x (Float64.ofInt y))) else none)
   (Ho (B3 a b fun x y=>if x.length+y.length≤Hk then some (.str (x++y)) else none) (ED a b fun x y=>if x.length+y.length≤Hk then some (.lst (x++y)) else none))))
 | .Sub=>Ho (lH a b fun x y=>some (.int (x - y))) (Ho (xR a b fun x y=>some (.flt (Float64.sub x y))) (Hl a b fun x y=>if jX y then some (.flt (Float64.sub x (Float64.ofInt y))) else none))
 | .Mult=>Ho (lH a b fun x y=>if Builtin.Int.intBits x≤64 || Builtin.Int.intBits y≤64 then some (.int (x * y)) else none) (Ho (xR a b fun x y=>some (.flt (Float64.mul x y))) (Ho (Hl a b fun x y=>if jX y then some (.flt (Float64.mul x (Float64.ofInt y))) else none)
   (Ho (Hm a b fun x y=>if jX x then some (.flt (Float64.mul (Float64.ofInt x) y)) else none) (Hn a b fun x y=>if x.length≤1000∧y≤1000 ∧ -1000≤y then some (.str (Txt.mul x y)) else none))))
 | .Mod=>Ho (lH a b fun x y=>if y≠0 then some (.int (x.fmod y)) else none) (xR a b fun x y=>if Float64.isZero y=false then some (.flt (Float64.divmod x y).snd) else none)
 | .FloorDiv=>Ho (lH a b fun x y=>if y≠0∧y.natAbs < 1073741824 then some (.int (x.fdiv y)) else none) (Hl a b fun x y=>if jX y=true∧Float64.isZero (Float64.ofInt y)=false then some (.flt (Float64.divmod x (Float64.ofInt y)).fst) else none)
 | .Div=>Ho (lH a b En) (Ho (xR a b fun x y=>if Float64.isZero y=false then some (.flt (Float64.div x y)) else none) (Hl a b fun x y=>if jX y=true∧Float64.isZero (Float64.ofInt y)=false then some (.flt (Float64.div x (Float64.ofInt y))) else none))
 | .Pow=>lH a b Gu
 | .BitAnd=>lH a b fun x y=>some (.int (Builtin.bitAnd x y))
 |_=>none
noncomputable def EE:AV→Option AV
 | .int i=>some (.int (-i))
 |_=>none
mutual
noncomputable def pS:AV→Option PyData
 | .none=>some .none
 | .bool b=>some (.bool b)
 | .int i=>some (.int i)
 | .str s=>some (.str s)
 | .tup l=>(toPys l).map .tuple
 | .lst l=>(toPys l).map .list
 | .flt _=>none
 | .rng _ _=>none
 | .ref _=>none
 | .bm _ _=>none
 | .lam _=>none
 | .val _=>none
noncomputable def toPys:List AV→Option (List PyData)
 | []=>some []
 |a::as=>(pS a).bind fun d=>(toPys as).map fun ds=>d::ds
end
noncomputable def aF (σ:St) (i:Nat):Option (List AV):=match σ[i]? with
 |some (.lst l)=>some l
 |_=>none
noncomputable def bp (σ:St):AV→AV
 | .ref i=>match aF σ i with
  |some l=>.lst l
  |none=>.ref i
 |v=>v
noncomputable def dZ (a b:AV):Option Bool:=(pS a).bind fun d=>(pS b).bind fun e=>
 if (PySem.SeqAt.shaped d&&PySem.SeqAt.shaped e)=true then some (PyData.eqv d e) else none
noncomputable def B4:PyData→Option (List PyData)
 | .list l=>some l
 |_=>none
noncomputable def pT (a b:AV):Option Bool:=(pS a).bind fun d=>(pS b).bind fun e=>(B4 e).bind fun l=>
 if (PySem.SeqAt.shaped d&&PySem.SeqAt.shaped (.list l))=true then some (l.any fun e=>PyData.eqv e d) else none
noncomputable def yN (a b:AV):Option Bool:=B3 a b fun x y=>some (Txt.contains y x)
noncomputable def uw (o:Option Ordering):Bool:=o==some .eq
noncomputable def xS (o:Option Ordering):Bool:=o==some .lt
noncomputable def ur (o:Option Ordering):Bool:=o==some .gt
noncomputable def B5 (a b:AV):Option Bool:=Ho (lH a b fun x y=>some (x==y)) (Hl a b fun x y=>some (uw (Float64.cmpInt x y)))
noncomputable def jY:List AV→List AV→Option Bool
 | [],[]=>some true
 |a::as,b::bs=>(B5 a b).bind fun c=>(jY as bs).map fun d=>c&&d
 | [],_::_=>none
 |_::_,[]=>none
noncomputable def Gv {γ:Type} (a b:AV) (k:List AV→List AV→Option γ):Option γ:=match a with | .tup x=>(match b with | .tup y=>k x y | _=>none) | _=>none
noncomputable def B6 (a b:AV):Option Bool:=Ho (ED a b jY) (Gv a b jY)
noncomputable def io (σ:St) (op:CmpOp) (a b:AV):Option Bool:=match op with
 | .Eq=>Ho (xR a b fun x y=>some (uw (Float64.cmp x y))) (Ho (Hl a b fun x y=>some (uw (Float64.cmpInt x y))) (Ho (Hm a b fun x y=>some (uw (Float64.cmpInt y x))) (dZ (bp σ a) (bp σ b))))
 | .NotEq=>Ho (Hl a b fun x y=>some (Float64.cmpInt x y != some .eq)) (Ho ((dZ (bp σ a) (bp σ b)).map (!·)) ((B6 a b).map (!·)))
 | .Lt=>Ho (lH a b fun x y=>some (decide (x < y))) (Ho (xR a b fun x y=>some (xS (Float64.cmp x y))) (Ho (Hl a b fun x y=>some (xS (Float64.cmpInt x y))) (Hm a b fun x y=>some (ur (Float64.cmpInt y x)))))
 | .LtE=>Ho (lH a b fun x y=>some (decide (x≤y))) (Hm a b fun x y=>some (ur (Float64.cmpInt y x) || uw (Float64.cmpInt y x)))
 | .Gt=>Ho (lH a b fun x y=>some (decide (x > y))) (Hl a b fun x y=>some (ur (Float64.cmpInt x y)))
 | .GtE=>lH a b fun x y=>some (decide (x ≥ y))
 | .In=>Ho (yN a b) (pT a (bp σ b))
 | .NotIn=>Ho ((yN a b).map (!·)) ((pT a (bp σ b)).map (!·))
 |_=>none
noncomputable def Eo (l:List AV):Option Bool:=if l.length≤Hk then some (!l.isEmpty) else none
noncomputable def B7 (σ:St):AV→Option Bool
 | .bool b=>some b
 | .int a=>some (a != 0)
 | .lst l=>Eo l
 | .ref i=>(aF σ i).bind Eo
 |_=>none
noncomputable def lI (l:List AV) (k:Int):Option AV:=if small k then (seqIndex? k l.length).bind (l[·]?) else none
noncomputable def EF (x:Str) (k:Int):Option AV:=if fitsSsize k=true∧(Txt.charAt x k).isSome=true then some (.str (Txt.item x k)) else none
noncomputable def dT:AV→Option Int
 | .int k=>some k
 |_=>none
noncomputable def db:AV→Option PySem.Str
 | .str c=>some c
 |_=>none
noncomputable def ia:AV→Option Nat
 | .ref j=>some j
 |_=>none
noncomputable def aQ (σ:St) (j:Nat):Option (List (PySem.Str×AV)):=match σ[j]? with
 |some (.dic d)=>some d
 |_=>none
noncomputable def B8 (σ:St) (o i:AV):Option AV:=(db i).bind fun k=>(ia o).bind fun j=>(aQ σ j).bind fun d=>d.lookup k
noncomputable def B9 (σ:St) (o i:AV):Option AV:=(dT i).bind fun k=>match o with
 | .lst l=>lI l k
 | .ref j=>(aF σ j).bind fun l=>lI l k
 | .tup l=>lI l k
 | .str x=>EF x k
 |_=>none
noncomputable def ib (σ:St) (o i:AV):Option AV:=Ho (B9 σ o i) (B8 σ o i)
noncomputable def ux:AV→Option (Option Int)
 | .none=>some none
 | .int i=>some (some i)
 |_=>none
noncomputable def lJ (l:List AV) (lo hi st:Option Int):List AV:=
 (sliceRange (sliceBounds lo hi st l.length).1 (sliceBounds lo hi st l.length).2.1 (sliceBounds lo hi st l.length).2.2).filterMap (l[·]?)
noncomputable def oI (pos:Pos) (l:List AV):AObj:=match pos.line==204 with | true=>.pos l.reverse | false=>.lst l
noncomputable def mk (C:Cfg) (pos:Pos) (l:List AV) (σ:St):Option (AV×St×Bool):=
 if l.length≤Hk then (match C.mu pos with | true=>some (.ref σ.length,σ++[oI pos l],false) | false=>some (.lst l,σ,true)) else none
noncomputable def Hp {α β:Type} (x:Option (α×St×Bool)) (f:α→St→Option (β×St×Bool)):Option (β×St×Bool):=
 match x with
 |none=>none
 |some (a,σ,p)=>match f a σ with
  |none=>none
  |some (b,σ',q)=>some (b,σ',p&&q)
noncomputable def pur {α:Type} (σ:St) (x:Option α):Option (α×St×Bool):=match x with
 |none=>none
 |some a=>some (a,σ,true)
noncomputable def els {α β:Type} (o:Option α) (f:α→β) (x:β):β:=match o with
 |some a=>f a
 |none=>x
noncomputable def opt {α β:Type} (x:Option α) (f:α→Option β):Option β:=match x with
 |none=>none
 |some a=>f a
noncomputable def upd (vars:List (PySem.Str×AV)) (x:PySem.Str) (v:AV):List (PySem.Str×AV):=match vars with
 | []=>[(x,v)]
 |(y,u)::r=>if y=x then (x,v)::r else (y,u)::upd r x v
inductive AFlow where
 |next | brk | cont | ret (v:AV)
noncomputable def xT:Const→Option AV
 | .none=>some .none
 | .bool b=>some (.bool b)
 | .int i=>some (.int i)
 | .float x=>some (.flt x)
 | .str s=>some (.str s)
 |_=>none
noncomputable def bQ (σ:St):AV→Option (List AV×Bool)
 | .lst l=>some (l,false)
 | .tup l=>some (l,false)
 | .str x=>some (x.cps.toList.map fun c=>.str ⟨#[c]⟩,false)
 | .rng a b=>if a.natAbs < 2 ^ 40∧b.natAbs < 2 ^ 40 then some ((List.range (b - a).toNat).map fun (i:Nat)=>AV.int (a+(i:Int)),false) else none
 | .ref i=>Ho ((aF σ i).map fun l=>(l,true)) ((aQ σ i).map fun d=>(d.map fun p=>AV.str p.1,true))
 |_=>none
noncomputable def de (outer names:List (PySem.Str×NameKind)):List (PySem.Str×NameKind):=
 names.map fun (n,k)=>if k == .free&&(outer.lookup n==some .cell) then (n,.cell) else (n,k)
noncomputable def eG {α:Type} (step:AV→St→Option (Option α×St×Bool)):List AV→St→Option (List α×St×Bool)
 | [],σ=>some ([],σ,true)
 |x::xs,σ=>Hp (step x σ) fun y σ₁=>Hp (eG step xs σ₁) fun ys σ₂=>some ((match y with | some v=>v::ys | none=>ys),σ₂,true)
noncomputable def m6 (turn:AV→AEnv→St→Option ((AFlow×AEnv)×St×Bool)):List AV→AEnv→St→Option ((AFlow×AEnv)×St×Bool)
 | [],E,σ=>some ((.next,E),σ,true)
 |x::xs,E,σ=>Hp (turn x E σ) fun r σ₁=>match r.1 with
  | .next=>m6 turn xs r.2 σ₁
  | .cont=>m6 turn xs r.2 σ₁
  | .brk=>some ((.next,r.2),σ₁,true)
  | .ret v=>some ((.ret v,r.2),σ₁,true)
noncomputable def cj (E:AEnv) (x:Str) (v:AV):Option AEnv:=if E.names.lookup x=some .local∨(E.names.lookup x=some .cell∧x∈E.own) then some { E with vars:=upd E.vars x v } else none
noncomputable def lK (E:AEnv) (t:Expr) (v:AV):Option AEnv:=match t with
 | .Name x _=>cj E x v
 |_=>none
noncomputable def cL (E:AEnv):List Expr→List AV→Option AEnv
 | [],[]=>some E
 |t::ts,v::vs=>opt (lK E t v) fun E'=>cL E' ts vs
 | [],_::_=>none
 |_::_,[]=>none
noncomputable def aA (E:AEnv) (t:Expr) (v:AV):Option AEnv:=match t with
 | .Tuple ts _ _=>(match v with
  | .tup vs=>cL E ts vs
  | .lst vs=>cL E ts vs
  |_=>none)
 |t=>lK E t v
end Internal
namespace Internal
inductive Post {α:Type} (F:Fix) (fa:List Addr) (ρ:Rg) (h:Heap) (σ':St) (p:Bool) (R:Heap→Rg→α→Prop) (a:α) (s':Shared):Prop
 |mk (ρ':Rg) (I:Inv F s' ρ' σ') (r:R s'.heap ρ' a) (S:Stp fa p ρ h ρ' s'.heap):Post F fa ρ h σ' p R a s'
noncomputable def Ok {α:Type} (F:Fix) (A:Around) (fa:List Addr) (m:Sem α) (s:Shared) (ρ:Rg) (σ':St) (p:Bool) (R:Heap→Rg→α→Prop):Prop:=
 wpAny (model F.prog F.w) A m (Post F fa ρ s.heap σ' p R) (fun __ __=>False) s
section
variable {F:Fix} {A:Around} {fa:List Addr} {s s' s₁:Shared} {ρ ρ₁ ρ':Rg} {σ σ' σ₁:St} {p q:Bool}
theorem Ok.pre {α:Type} {m:Sem α} {R:Heap→Rg→α→Prop} (S:Stp fa p ρ s.heap ρ₁ s₁.heap) (h:Ok F A fa m s₁ ρ₁ σ' q R) :
  wpAny (model F.prog F.w) A m (Post F fa ρ s.heap σ' (p&&q) R) (fun __ __=>False) s₁:=
 wpAny_mono h (fun a s' ⟨ρ',I,r,S'⟩=>⟨ρ',I,r,S.trans S'⟩) fun __ __ x=>x
theorem Ok.mono {α:Type} {m:Sem α} {R R':Heap→Rg→α→Prop} (h:Ok F A fa m s ρ σ' p R) (k:∀ h ρ a,R h ρ a→R' h ρ a):Ok F A fa m s ρ σ' p R':=
 wpAny_mono h (fun a s' ⟨ρ',I,r,S'⟩=>⟨ρ',I,k _ _ _ r,S'⟩) fun __ __ x=>x
theorem Inv.grow (I:Inv F s ρ σ) (k:∀ b o,s.heap.get? b=some o→s'.heap.get? b=some o) (hg:AllBare s'.gens) (ho:s'.os=s.os):Inv F s' ρ σ where
 base:=fun b o hb e=>k b o (I.base b o hb e)
 len:=I.len
 objs:=fun i a o ha ho=>(I.objs i a o ha ho).mono (fa:=[]) (Stp.keeps k) (k a)
 nodup:=I.nodup
 fresh:=I.fresh
 live:=fun a ha=>let ⟨o,e⟩:=I.live a ha;⟨o,k _ _ e⟩
 xlive:=fun a ha=>let ⟨o,e⟩:=I.xlive a ha;⟨o,k _ _ e⟩
 tlive:=fun a ha=>let ⟨o,e⟩:=I.tlive a ha;⟨o,k _ _ e⟩
 gens:=hg
 os:=ho.trans I.os
theorem Inv.toks (I:Inv F s ρ σ) (k:Nat):Inv F { s with toks:=k } ρ σ:=I.grow (fun __ __ e=>e) I.gens rfl
theorem Inv.heap (I:Inv F s ρ σ) {h':Heap} (k:∀ b o,s.heap.get? b=some o→h'.get? b=some o) (tk:Nat):Inv F { s with heap:=h',toks:=tk } ρ σ:=I.grow k I.gens rfl
theorem Inv.push (I:Inv F s ρ σ) (o:Obj) (tk:Nat):Inv F { s with heap:=s.heap.push o,toks:=tk } ρ σ:=I.heap (fun __ __ e=>Heap.get?_push_of_some _ e) tk
theorem Inv.dead_out (I:Inv F s ρ σ) {a:Addr} (h:s.heap.get? a=none):ρ.out a:=
 ⟨fun hm=>(by obtain ⟨o,e⟩:=I.live a hm;rw [h] at e;cases e),fun hm=>(by obtain ⟨o,e⟩:=I.xlive a hm;rw [h] at e;cases e)⟩
theorem an (h:Heap) {a:Addr} (ha:h.objs.size≤a):h.get? a=none:=by
 cases e:h.get? a with
 |none=>rfl
 |some o=>exact absurd (Heap.lt_size e) (Nat.not_lt.mpr ha)
theorem Inv.new_out (I:Inv F s ρ σ) {a:Addr} (h:s.heap.objs.size≤a):ρ.out a:=I.dead_out (an _ h)
theorem Inv.base_dead (I:Inv F s ρ σ) {a:Addr} (h:s.heap.get? a=none):F.h.get? a=none:=by
 have ha:a ∉ F.tabs:=fun hm=>by obtain ⟨o,e⟩:=I.tlive a hm;rw [h] at e;cases e
 cases e:F.h.get? a with
 |none=>rfl
 |some o=>rw [I.base a o ha e] at h;cases h
theorem aU {R:Heap→Rg→Value→Prop} {v:Value} (I:Inv F s ρ σ) (k:Nat) (r:R s.heap ρ v):Post F fa ρ s.heap σ true R v { s with toks:=k }:=
 ⟨ρ,I.toks k,r,Stp.refl⟩
noncomputable abbrev VV (av:AV):Heap→Rg→Value→Prop:=fun h ρ v=>VR h ρ av v
theorem lL (I:Inv F s ρ σ) {l:List AV} {vs:Array Value} {n:Nat} (h:VRs s.heap ρ l vs.toList) :
  VR (s.heap.push { cls:=.type "list", data:=.seq vs n }) ρ (.lst l) (.ref s.heap.objs.size):=by
 refine ⟨_,vs,n,rfl,I.new_out (Nat.le_refl _),Heap.get?_push_size _ rfl,?_⟩
 exact VRs.mono (fa:=[]) (Stp.keeps fun __ __ e=>Heap.get?_push_of_some _ e) _ _ h
theorem yO (I:Inv F s ρ σ) {l:List AV} {vs:Array Value} {n:Nat} (h:VRs s.heap ρ l vs.toList) :
  VR (s.heap.push { cls:=.type "tuple", data:=.seq vs n }) ρ (.tup l) (.ref s.heap.objs.size):=by
 refine ⟨_,vs,n,rfl,I.new_out (Nat.le_refl _),Heap.get?_push_size _ rfl,?_⟩
 exact VRs.mono (fa:=[]) (Stp.keeps fun __ __ e=>Heap.get?_push_of_some _ e) _ _ h
theorem Stp.added {h h':Heap} {a:Addr} (ha:h.get? a=none) (hk:∀ b o,h.get? b=some o→h'.get? b=some o):Stp fa false ρ h (ρ.add a) h':=by
 refine ⟨fun b o __ __ e=>hk b o e,fun b o __ __ e=>hk b o e,fun i b e=>?_,fun b hb=>?_,fun e=>(nomatch e),rfl,fun b o e=>⟨o,hk b o e⟩⟩
 ·show (ρ.l++[a])[i]? = some b
  rw [List.getElem?_append_left (by
   rcases Nat.lt_or_ge i ρ.l.length with h | h
   ·exact h
   ·rw [List.getElem?_eq_none h] at e;cases e)]
  exact e
 ·rcases List.mem_append.mp hb with h | h
  ·exact .inl h
  ·rw [List.mem_singleton.mp h];exact .inr ha
theorem Inv.addObj (I:Inv F s ρ σ) {h':Heap} {a:Addr} {o:AObj} {ob:Obj} (tk:Nat) (ha:s.heap.get? a=none) (hF:F.h.get? a=none) (hk:∀ b o,s.heap.get? b=some o→h'.get? b=some o) (hn:h'.get? a=some ob) (hO:OR F h' (ρ.add a) a o) :
  Inv F { s with heap:=h',toks:=tk } (ρ.add a) (σ++[o]):=by
 have S:Stp [] false ρ s.heap (ρ.add a) h':=Stp.added ha hk
 have nin:a ∉ ρ.l:=(I.dead_out ha).1
 refine ⟨fun b o hb e=>hk b o (I.base b o hb e),by show (ρ.l++[a]).length=_;rw [List.length_append,List.length_append,I.len];rfl,fun i b x hb hx=>?_,?_,fun b hb=>?_,fun b hb=>?_,fun b hb=>let ⟨o,e⟩:=I.xlive b hb;⟨o,hk _ _ e⟩,fun b hb=>let ⟨o,e⟩:=I.tlive b hb;⟨o,hk _ _ e⟩,I.gens,I.os⟩
 ·have hb:(ρ.l++[a])[i]? = some b:=hb
  rcases Nat.lt_or_ge i ρ.l.length with h | h
  ·rw [List.getElem?_append_left h] at hb
   rw [List.getElem?_append_left (by rw [←I.len];exact h)] at hx
   exact (I.objs i b x hb hx).mono S (hk b)
  ·rw [List.getElem?_append_right h] at hb
   rw [List.getElem?_append_right (by rw [←I.len];exact h)] at hx
   have hi:i=ρ.l.length:=by
    rcases Nat.eq_or_lt_of_le h with e | e
    ·exact e.symm
    ·rw [List.getElem?_eq_none (by simp;omega)] at hb;cases hb
   subst hi
   rw [I.len] at hx
   simp at hb hx
   subst hb;subst hx
   exact hO
 ·exact List.nodup_append.mpr ⟨I.nodup,by simp,fun x hx y hy e=>by rw [List.mem_singleton.mp hy] at e;exact nin (e▸hx)⟩
 ·rcases List.mem_append.mp hb with h | h
  ·exact I.fresh b h
  ·rw [List.mem_singleton.mp h];exact .inr hF
 ·rcases List.mem_append.mp hb with h | h
  ·obtain ⟨o,e⟩:=I.live b h;exact ⟨o,hk _ _ e⟩
  ·rw [List.mem_singleton.mp h];exact ⟨ob,hn⟩
theorem Inv.setObj (I:Inv F s ρ σ) {h':Heap} {a:Addr} {i:Nat} {o:AObj} {ob:Obj} (tk:Nat) (ha:ρ.l[i]? = some a) (hk:∀ b o,b≠a→s.heap.get? b=some o→h'.get? b=some o) (hn:h'.get? a=some ob) (hO:OR F h' ρ a o) :
  Inv F { s with heap:=h',toks:=tk } ρ (σ.set i o)∧∀ fa,Stp fa false ρ s.heap ρ h':=by
 have hm:a∈ρ.l:=List.mem_of_getElem? ha
 have S:∀ fa,Stp fa false ρ s.heap ρ h':=fun fa=>by
  refine ⟨fun b o hb __ e=>hk b o (fun q=>?_) e,fun b o hb __ e=>hk b o (fun q=>?_) e,fun __ __ e=>e,fun __ h=>.inl h,fun e=>(nomatch e),rfl,fun b o e=>?_⟩
  ·rcases hb with hb | hb
   ·cases hb
   ·exact hb (q▸hm)
  ·rcases hb with hb | hb
   ·cases hb
   ·exact hb (q▸hm)
  ·by_cases q:b=a
   ·subst q;exact ⟨ob,hn⟩
   ·exact ⟨o,hk b o q e⟩
 refine ⟨⟨fun b o' hb e=>hk b o' (fun q=>?_) (I.base b o' hb e),by rw [List.length_set];exact I.len,fun j b x hb hx=>?_,I.nodup,I.fresh,fun b hb=>?_,fun b hb=>?_,fun b hb=>?_,I.gens,I.os⟩,S⟩
 ·subst q
  rcases I.fresh b hm with h | h
  ·exact hb h
  ·rw [h] at e;cases e
 ·by_cases hj:j=i
  ·subst hj
   rw [ha] at hb
   cases hb
   have hl:j < σ.length:=by
    rw [←I.len]
    rcases Nat.lt_or_ge j ρ.l.length with h | h
    ·exact h
    ·rw [List.getElem?_eq_none h] at ha;cases ha
   rw [List.getElem?_set_self hl] at hx
   cases hx
   exact hO
  ·rw [List.getElem?_set_ne (Ne.symm hj)] at hx
   have hne:b≠a:=fun q=>by
    subst q
    have h1:i < ρ.l.length:=by
     rcases Nat.lt_or_ge i ρ.l.length with h | h
     ·exact h
     ·rw [List.getElem?_eq_none h] at ha;cases ha
    exact hj (((List.getElem?_inj h1 I.nodup).mp (ha.trans hb.symm)).symm)
   exact (I.objs j b x hb hx).mono (S []) (fun ob e=>hk b ob hne e)
 ·by_cases q:b=a
  ·subst q;exact ⟨ob,hn⟩
  ·obtain ⟨o',e⟩:=I.live b hb;exact ⟨o',hk _ _ q e⟩
 ·obtain ⟨o',e⟩:=I.xlive b hb
  by_cases q:b=a
  ·subst q;exact ⟨ob,hn⟩
  ·exact ⟨o',hk _ _ q e⟩
 ·obtain ⟨o',e⟩:=I.tlive b hb
  by_cases q:b=a
  ·subst q;exact ⟨ob,hn⟩
  ·exact ⟨o',hk _ _ q e⟩
theorem Inv.poke (I:Inv F s ρ σ) {h':Heap} {D:Addr} (tk:Nat) (hD:D ∉ ρ.l) (hx:D∈ρ.x∨∃ o,s.heap.get? D=some o∧Hi o=false) (hF:D ∉ F.tabs→F.h.get? D=none) (hk:∀ b o,b≠D→s.heap.get? b=some o→h'.get? b=some o) (hn:∃ o,h'.get? D=some o) :
  Inv F { s with heap:=h',toks:=tk } ρ σ:=by
 refine ⟨fun b o' hb e=>hk b o' (fun q=>?_) (I.base b o' hb e),I.len,fun i a o ha ho=>?_,I.nodup,I.fresh,fun b hb=>?_,fun b hb=>?_,fun b hb=>?_,I.gens,I.os⟩
 ·subst q;rw [hF hb] at e;cases e
 ·refine (I.objs i a o ha ho).rg (fun b ob hb hi e=>⟨hb,hk b ob (fun q=>?_) e⟩) (fun __ __ e=>e) (fun ob e=>hk a ob (fun q=>hD (q▸List.mem_of_getElem? ha)) e)
  subst q
  rcases hx with h | ⟨o',e',hi'⟩
  ·exact hb.2 h
  ·rw [e] at e';cases e';rw [hi] at hi';cases hi'
 ·obtain ⟨o,e⟩:=I.live b hb
  exact ⟨o,hk b o (fun q=>hD (q▸hb)) e⟩
 ·obtain ⟨o,e⟩:=I.xlive b hb
  by_cases q:b=D
  ·subst q;exact hn
  ·exact ⟨o,hk b o q e⟩
 ·obtain ⟨o,e⟩:=I.tlive b hb
  by_cases q:b=D
  ·subst q;exact hn
  ·exact ⟨o,hk b o q e⟩
theorem Inv.shut (I:Inv F s ρ σ) {h':Heap} {D:Addr} {ob:Obj} (tk:Nat) (hD:s.heap.get? D=none) (hk:∀ b o,s.heap.get? b=some o→h'.get? b=some o) (hn:h'.get? D=some ob):Inv F { s with heap:=h',toks:=tk } (ρ.shut D) σ:=by
 refine ⟨fun b o' hb e=>hk b o' (I.base b o' hb e),I.len,fun i a o ha ho=>?_,I.nodup,I.fresh,fun b hb=>let ⟨o,e⟩:=I.live b hb;⟨o,hk _ _ e⟩,fun b hb=>?_,fun b hb=>let ⟨o,e⟩:=I.tlive b hb;⟨o,hk _ _ e⟩,I.gens,I.os⟩
 ·refine (I.objs i a o ha ho).rg (fun b ob' hb hi e=>⟨⟨hb.1,fun hm=>?_⟩,hk b ob' e⟩) (fun __ __ e=>e) (hk a)
  rcases List.mem_cons.mp hm with q | q
  ·rw [q,hD] at e;cases e
  ·exact hb.2 q
 ·rcases List.mem_cons.mp hb with q | q
  ·rw [q];exact ⟨ob,hn⟩
  ·obtain ⟨o,e⟩:=I.xlive b q;exact ⟨o,hk _ _ e⟩
theorem VR.shut {h h':Heap} {D:Addr} (hD:h.get? D=none) (hk:∀ b o,h.get? b=some o→h'.get? b=some o) {av:AV} {v:Value} (x:VR h ρ av v):VR h' (ρ.shut D) av v:=by
 refine VR.rg (ρ:=ρ) (ρ':=ρ.shut D) (fun b ob hb hi e=>⟨⟨hb.1,fun hm=>?_⟩,hk b ob e⟩) (fun __ __ e=>e) av v x
 rcases List.mem_cons.mp hm with q | q
 ·rw [q,hD] at e;cases e
 ·exact hb.2 q
theorem VRs.shut {h h':Heap} {D:Addr} (hD:h.get? D=none) (hk:∀ b o,h.get? b=some o→h'.get? b=some o) {av:List AV} {v:List Value} (x:VRs h ρ av v):VRs h' (ρ.shut D) av v:=by
 refine VRs.rg (ρ:=ρ) (ρ':=ρ.shut D) (fun b ob hb hi e=>⟨⟨hb.1,fun hm=>?_⟩,hk b ob e⟩) (fun __ __ e=>e) av v x
 rcases List.mem_cons.mp hm with q | q
 ·rw [q,hD] at e;cases e
 ·exact hb.2 q
end
end Internal
namespace Internal
theorem aa {γ:Type} {r:γ} {P:Prop} (h:none=some r):P:=nomatch h
theorem az {γ:Type} {x y:Option γ} {r:γ} {G:Prop} (h:Ho x y=some r) (k1:x=some r→G) (k2:y=some r→G):G:=by
 cases x with
 |none=>exact k2 h
 |some a=>exact k1 h
theorem al {γ:Type} {c:Prop} {d:Decidable c} {a r:γ} {G:Prop} (h:(if c then some a else none)=some r) (k:c→a=r→G):G:=by
 by_cases hc:c
 ·rw [if_pos hc] at h;exact k hc (Option.some.inj h)
 ·rw [if_neg hc] at h;cases h
theorem cF {γ:Type} {a r:γ} {G:Prop} (h:some a=some r) (k:a=r→G):G:=k (Option.some.inj h)
section
variable {F:Fix} {A:Around} {fa:List Addr} {s s' s₁:Shared} {ρ ρ₁ ρ':Rg} {σ σ' σ₁:St} {p q:Bool} {h:Heap} {a b:AV} {v u:Value} {γ:Type} {r:γ} {G:Value→Value→Prop}
theorem cG {k:Int→Int→Option γ} (e:lH a b k=some r) (ra:VR h ρ a v) (rb:VR h ρ b u) (g:∀ x y t t',a = .int x→b = .int y→k x y=some r→G (.int x t) (.int y t')):G v u:=by
 cases a<;>first | exact aa e | skip
 cases b<;>first | exact aa e | skip
 obtain ⟨t,rfl⟩:=ra;obtain ⟨t',rfl⟩:=rb;exact g _ _ _ _ rfl rfl e
theorem gu {k:UInt64→UInt64→Option γ} (e:xR a b k=some r) (ra:VR h ρ a v) (rb:VR h ρ b u) (g:∀ x y t t',k x y=some r→G (.float x t) (.float y t')):G v u:=by
 cases a<;>first | exact aa e | skip
 cases b<;>first | exact aa e | skip
 obtain ⟨t,rfl⟩:=ra;obtain ⟨t',rfl⟩:=rb;exact g _ _ _ _ e
theorem ic {k:UInt64→Int→Option γ} (e:Hl a b k=some r) (ra:VR h ρ a v) (rb:VR h ρ b u) (g:∀ x y t t',k x y=some r→G (.float x t) (.int y t')):G v u:=by
 cases a<;>first | exact aa e | skip
 cases b<;>first | exact aa e | skip
 obtain ⟨t,rfl⟩:=ra;obtain ⟨t',rfl⟩:=rb;exact g _ _ _ _ e
theorem uy {k:Int→UInt64→Option γ} (e:Hm a b k=some r) (ra:VR h ρ a v) (rb:VR h ρ b u) (g:∀ x y t t',k x y=some r→G (.int x t) (.float y t')):G v u:=by
 cases a<;>first | exact aa e | skip
 cases b<;>first | exact aa e | skip
 obtain ⟨t,rfl⟩:=ra;obtain ⟨t',rfl⟩:=rb;exact g _ _ _ _ e
theorem m7 {k:Str→Str→Option γ} (e:B3 a b k=some r) (ra:VR h ρ a v) (rb:VR h ρ b u) (g:∀ x y t t',k x y=some r→G (.str x t) (.str y t')):G v u:=by
 cases a<;>first | exact aa e | skip
 cases b<;>first | exact aa e | skip
 obtain ⟨t,rfl⟩:=ra;obtain ⟨t',rfl⟩:=rb;exact g _ _ _ _ e
theorem EG {k:Str→Int→Option γ} (e:Hn a b k=some r) (ra:VR h ρ a v) (rb:VR h ρ b u) (g:∀ x y t t',k x y=some r→G (.str x t) (.int y t')):G v u:=by
 cases a<;>first | exact aa e | skip
 cases b<;>first | exact aa e | skip
 obtain ⟨t,rfl⟩:=ra;obtain ⟨t',rfl⟩:=rb;exact g _ _ _ _ e
theorem xU {k:List AV→List AV→Option γ} (e:ED a b k=some r) (ra:VR h ρ a v) (rb:VR h ρ b u)
  (g:∀ x y l m vs ws n n',h.get? l=some (aD vs n)→h.get? m=some (aD ws n')→VRs h ρ x vs.toList→VRs h ρ y ws.toList→k x y=some r→G (.ref l) (.ref m)):G v u:=by
 cases a<;>first | exact aa e | skip
 cases b<;>first | exact aa e | skip
 obtain ⟨l,vs,n,rfl,_,ho,hl⟩:=ra;obtain ⟨m,ws,n',rfl,_,ho',hl'⟩:=rb;exact g _ _ _ _ _ _ _ _ ho ho' hl hl' e
theorem aI {n:Nat} (h:n≤Hk):n≤sizeLine:=Nat.le_trans h (by unfold Hk sizeLine;omega)
theorem lM {b:UInt64} (h:Float64.isInf b=false):¬ Float64.isInf b=true:=by rw [h];decide
theorem cH {b:UInt64} (h:Float64.isZero b=false):¬ Float64.isZero b=true:=by rw [h];decide
theorem dM {b:Int} (h:jX b=true):¬ Float64.isInf (Float64.ofInt b)=true:=by
 unfold jX at h
 cases e:Float64.isInf (Float64.ofInt b) with
 |false=>decide
 |true=>rw [e] at h;cases h
theorem gv (vs:Array Value):vs.toList.length=vs.size:=Array.length_toList
theorem VRs.size {l:List AV} {vs:Array Value} (r:VRs h ρ l vs.toList):vs.size=l.length:=(gv vs).symm.trans r.length.symm
theorem yP {l b:Addr} {vs ws:Array Value} {n n2:Nat} {Q:Value→Shared→Prop} {E:Value→Shared→Prop} {prog:Program} {w:World}
  (hl:s.heap.get? l=some (aD vs n)) (hb:s.heap.get? b=some (aD ws n2)) (hsz:vs.size+ws.size≤sizeLine)
  (h:Q (.ref s.heap.objs.size) { s with heap:=s.heap.push { cls:=.type "list", data:=.seq (vs++ws) } }):wpAny (model prog w) A (binaryOp .Add (.ref l) (.ref b)) Q E s:=
 concat_meets ⟨_,hl,rfl⟩ ⟨_,hb,rfl⟩ noFill_list_add seq_list_add PySem.F.slot_list_add PySem.F.entry_list_add (PySem.F.args_list_add_2 _ _) (list_addW l b vs ws n n2 none none #[] #[] hsz) ⟨hl,hb,h⟩
theorem EH {x:Str} {n:Int} (h1:x.length≤1000) (h2:n≤1000) (h3 : -1000≤n):MulOk x n:=by
 refine ⟨?_,fun hn __=>?_,fun hn __=>?_⟩
 ·simp only [Bool.or_eq_false_iff,decide_eq_false_iff_not];omega
 ·have:(1000:Int)≤(2 ^ 63 - 1) / n:=by
   apply Int.le_ediv_of_mul_le (by omega)
   have:(1000:Int) * n≤1000 * 1000:=Int.mul_le_mul_of_nonneg_left h2 (by omega)
   omega
  omega
 ·unfold Builtin.Str.tooLong
  have:x.length * n.toNat≤1000 * 1000:=Nat.mul_le_mul h1 (by omega)
  simp only [decide_eq_false_iff_not,gt_iff_lt,Nat.not_lt]
  unfold sizeLine
  omega
noncomputable abbrev Hq (F:Fix) (A:Around) (fa:List Addr) (s:Shared) (ρ:Rg) (σ:St) (op:Operator) (r:AV) (v u:Value):Prop:=Ok F A fa (binaryOp op v u) s ρ σ true (VV r)
theorem cJ {x:Int} {r:AV} (I:Inv F s ρ σ) (e:AV.int x=r) (t k:Nat):Post F fa ρ s.heap σ true (VV r) (.int x t) { s with toks:=k }:=e▸aU I _ ⟨_,rfl⟩
theorem bC {x:UInt64} {r:AV} (I:Inv F s ρ σ) (e:AV.flt x=r) (t k:Nat):Post F fa ρ s.heap σ true (VV r) (.float x t) { s with toks:=k }:=e▸aU I _ ⟨_,rfl⟩
section
variable {r:AV}
theorem yQ (e:h9 .Add a b=some r) (I:Inv F s ρ σ) (ra:VR s.heap ρ a v) (rb:VR s.heap ρ b u):Hq F A fa s ρ σ .Add r v u:=
 az e (fun e=>cG (G:=Hq F A fa s ρ σ .Add r) e ra rb fun x y t t' __ __ e=>cF e fun e=>AutoIntOps.add_0 (cJ I e _ _)) fun e=>
 az e (fun e=>gu (G:=Hq F A fa s ρ σ .Add r) e ra rb fun x y t t' e=>cF e fun e=>AutoFloatOps.add_0 (bC I e _ _)) fun e=>
 az e (fun e=>ic (G:=Hq F A fa s ρ σ .Add r) e ra rb fun x y t t' e=>al e fun hc e=>AutoFloatOps.add_fi_1 (dM hc) (bC I e _ _)) fun e=>
 az e (fun e=>m7 (G:=Hq F A fa s ρ σ .Add r) e ra rb fun x y t t' e=>al e fun hc e=>SB.add (fun t' k=>e▸aU I _ ⟨_,rfl⟩) (aI hc)) fun e=>
 xU (G:=Hq F A fa s ρ σ .Add r) e ra rb fun x y l m vs ws n n' h1 h2 r1 r2 e=>al e fun hc e=>yP h1 h2 (by rw [r1.size,r2.size];exact aI hc)
  (e▸⟨ρ,I.push _ _,lL I (by rw [Array.toList_append];exact VRs.append r1 r2),Stp.keeps fun __ __ e=>Heap.get?_push_of_some _ e⟩)
theorem yR (e:h9 .Sub a b=some r) (I:Inv F s ρ σ) (ra:VR s.heap ρ a v) (rb:VR s.heap ρ b u):Hq F A fa s ρ σ .Sub r v u:=
 az e (fun e=>cG (G:=Hq F A fa s ρ σ .Sub r) e ra rb fun x y t t' __ __ e=>cF e fun e=>AutoIntOps.sub_0 (cJ I e _ _)) fun e=>
 az e (fun e=>gu (G:=Hq F A fa s ρ σ .Sub r) e ra rb fun x y t t' e=>cF e fun e=>AutoFloatOps.sub_0 (bC I e _ _)) fun e=>
 ic (G:=Hq F A fa s ρ σ .Sub r) e ra rb fun x y t t' e=>al e fun hc e=>AutoFloatOps.sub_fi_1 (dM hc) (bC I e _ _)
theorem uz {x y:Int} (hc:(decide (Builtin.Int.intBits x≤64) || decide (Builtin.Int.intBits y≤64))=true):IntMulOk x y:=by
 rw [Bool.or_eq_true,decide_eq_true_iff,decide_eq_true_iff] at hc
 exact hc.elim IntMulOk.of_left IntMulOk.of_right
theorem yS (e:h9 .Mult a b=some r) (I:Inv F s ρ σ) (ra:VR s.heap ρ a v) (rb:VR s.heap ρ b u):Hq F A fa s ρ σ .Mult r v u:=
 az e (fun e=>cG (G:=Hq F A fa s ρ σ .Mult r) e ra rb fun x y t t' __ __ e=>al e fun hc e=>AutoIntOps.mul_0 (cJ I e _ _) (uz hc)) fun e=>
 az e (fun e=>gu (G:=Hq F A fa s ρ σ .Mult r) e ra rb fun x y t t' e=>cF e fun e=>AutoFloatOps.mul_0 (bC I e _ _)) fun e=>
 az e (fun e=>ic (G:=Hq F A fa s ρ σ .Mult r) e ra rb fun x y t t' e=>al e fun hc e=>AutoFloatOps.mul_fi_1 (dM hc) (bC I e _ _)) fun e=>
 az e (fun e=>uy (G:=Hq F A fa s ρ σ .Mult r) e ra rb fun x y t t' e=>al e fun hc e=>AutoFloatOps.mul_if_1 (dM hc) (bC I e _ _)) fun e=>
 EG (G:=Hq F A fa s ρ σ .Mult r) e ra rb fun x y t t' e=>al e fun hc e=>SB.mul (EH hc.1 hc.2.1 hc.2.2) (fun t' k=>e▸aU I _ ⟨_,rfl⟩)
theorem yT (e:h9 .Mod a b=some r) (I:Inv F s ρ σ) (ra:VR s.heap ρ a v) (rb:VR s.heap ρ b u):Hq F A fa s ρ σ .Mod r v u:=
 az e (fun e=>cG (G:=Hq F A fa s ρ σ .Mod r) e ra rb fun x y t t' __ __ e=>al e fun hc e=>AutoIntOps.mod_1 (by simpa using hc) (cJ I e _ _)) fun e=>
 gu (G:=Hq F A fa s ρ σ .Mod r) e ra rb fun x y t t' e=>al e fun hc e=>AutoFloatOps.mod_1 (cH hc) (bC I e _ _)
theorem uA (e:h9 .FloorDiv a b=some r) (I:Inv F s ρ σ) (ra:VR s.heap ρ a v) (rb:VR s.heap ρ b u):Hq F A fa s ρ σ .FloorDiv r v u:=
 az e (fun e=>cG (G:=Hq F A fa s ρ σ .FloorDiv r) e ra rb fun x y t t' __ __ e=>al e fun hc e=>AutoIntOps.floordiv_1 (by simpa using hc.1) (by rw [PyProof.noPylong_small hc.2];decide) (cJ I e _ _)) fun e=>
 ic (G:=Hq F A fa s ρ σ .FloorDiv r) e ra rb fun x y t t' e=>al e fun hc e=>AutoFloatOps.floordiv_fi_2 (dM hc.1) (cH hc.2) (bC I e _ _)
theorem yU (e:h9 .Div a b=some r) (I:Inv F s ρ σ) (ra:VR s.heap ρ a v) (rb:VR s.heap ρ b u):Hq F A fa s ρ σ .Div r v u:=
 az e (fun e=>cG (G:=Hq F A fa s ρ σ .Div r) e ra rb fun x y t t' __ __ e=>al e fun hc e=>AutoIntOps.truediv_2 (by simpa using hc.1) (lM hc.2) (bC I e _ _)) fun e=>
 az e (fun e=>gu (G:=Hq F A fa s ρ σ .Div r) e ra rb fun x y t t' e=>al e fun hc e=>AutoFloatOps.truediv_1 (cH hc) (bC I e _ _)) fun e=>
 ic (G:=Hq F A fa s ρ σ .Div r) e ra rb fun x y t t' e=>al e fun hc e=>AutoFloatOps.truediv_fi_2 (dM hc.1) (cH hc.2) (bC I e _ _)
theorem Ca {x y:Int} {t t':Tok} (hc:x=2∧0≤y∧y≤64) (hq:∀ t k,Post F fa ρ s.heap σ true (VV r) (.int (2 ^ y.toNat) t) { s with toks:=k }):Hq F A fa s ρ σ .Pow r (.int x t) (.int y t'):=by
 obtain ⟨rfl,h0,h1⟩:=hc
 by_cases hz:y=0
 ·subst hz
  exact AutoIntOps.pow_0 (by decide) (by decide) (hq _ _)
 ·refine AutoIntOps.pow_4 h0 (by simpa using hz) (by decide) (by decide) ?_ (hq _ _)
  have e:Builtin.Int.intBits 2=2:=by decide +kernel
  rw [e]
  unfold Builtin.Int.intTooBig
  simp only [decide_eq_true_eq]
  unfold bitsLine
  omega
theorem yV (e:h9 .Pow a b=some r) (I:Inv F s ρ σ) (ra:VR s.heap ρ a v) (rb:VR s.heap ρ b u):Hq F A fa s ρ σ .Pow r v u:=
 cG (G:=Hq F A fa s ρ σ .Pow r) e ra rb fun x y t t' __ __ e=>al e fun hc e=>Ca hc (cJ I e)
theorem pU {op:Operator} (e:h9 op a b=some r) (I:Inv F s ρ σ) (ra:VR s.heap ρ a v) (rb:VR s.heap ρ b u):Hq F A fa s ρ σ op r v u:=by
 cases op with
 |Add=>exact yQ e I ra rb
 |Sub=>exact yR e I ra rb
 |Mult=>exact yS e I ra rb
 |Mod=>exact yT e I ra rb
 |FloorDiv=>exact uA e I ra rb
 |Div=>exact yU e I ra rb
 |Pow=>exact yV e I ra rb
 |BitAnd=>exact cG (G:=Hq F A fa s ρ σ .BitAnd r) e ra rb fun x y t t' __ __ e=>cF e fun e=>and_int (cJ I e _ _)
 |_=>exact aa e
end
end
end Internal
namespace Internal
noncomputable def AOk (n:Nat) (A:Around):Prop:=A.handled=none∧A.depth+20 * n+20≤recursionLimit∧A.units+100 * n+200≤cLine∧∃ l,A.frames=some l
theorem bg {a a' c n d L:Nat} (ha:a'≤a+c) (h:a+c * (n+1)+d≤L):a'+c * n+d≤L:=by
 rw [Nat.mul_succ] at h
 omega
theorem ao {α β:Type} {x:Option α} {g:α→β} {r:β} {G:Prop} (h:x.map g=some r) (k:∀ a,x=some a→g a=r→G):G:=by
 cases x with
 |none=>exact aa h
 |some a=>exact k a rfl (Option.some.inj h)
theorem ad {α β:Type} {x:Option α} {g:α→Option β} {r:β} {G:Prop} (h:x.bind g=some r) (k:∀ a,x=some a→g a=some r→G):G:=by
 cases x with
 |none=>exact aa h
 |some a=>exact k a rfl h
section
variable {F:Fix} {A:Around} {fa:List Addr} {s s' s₁:Shared} {ρ ρ₁ ρ':Rg} {σ σ' σ₁:St} {p q:Bool} {h:Heap} {a b:AV} {v u:Value}
mutual
theorem i9:∀ (a:AV) (v:Value) (d:PyData),pS a=some d→VR h ρ a v→∃ as,Reads h v d as
 | .none,v,d,e,r=>by cases e;cases r;exact ⟨_,Reads.none⟩
 | .bool b,v,d,e,r=>by cases e;cases r;exact ⟨_,Reads.bool _⟩
 | .int i,v,d,e,r=>by cases e;obtain ⟨t,rfl⟩:=r;exact ⟨_,Reads.int _ _⟩
 | .str x,v,d,e,r=>by cases e;obtain ⟨t,rfl⟩:=r;exact ⟨_,Reads.str _ _⟩
 | .tup l,v,d,e,⟨a,vs,n,hv,_,ho,hl⟩=>ao e fun ds e1 e2=>e2▸hv▸let ⟨as,hr⟩:=readsAll_of l _ ds e1 hl;⟨_,Reads.tuple ho rfl rfl hr⟩
 | .lst l,v,d,e,⟨a,vs,n,hv,_,ho,hl⟩=>ao e fun ds e1 e2=>e2▸hv▸let ⟨as,hr⟩:=readsAll_of l _ ds e1 hl;⟨_,Reads.list ho rfl rfl hr⟩
 | .flt _,_,_,e,_=>aa e
 | .rng _ _,_,_,e,_=>aa e
 | .ref _,_,_,e,_=>aa e
 | .bm _ _,_,_,e,_=>aa e
 | .lam _,_,_,e,_=>aa e
 | .val _,_,_,e,_=>aa e
theorem readsAll_of:∀ (as:List AV) (vs:List Value) (ds:List PyData),toPys as=some ds→VRs h ρ as vs→∃ bs,ReadsAll h vs (ds) bs
 | [],[],ds,e,_=>by cases e;exact ⟨_,ReadsAll.nil⟩
 |a::as,v::vs,ds,e,r=>ad e fun d e1 e=>ao e fun ds' e2 e3=>e3 ▸
  let ⟨x,hx⟩:=i9 a v d e1 r.1
  let ⟨y,hy⟩:=readsAll_of as vs ds' e2 r.2
  ⟨_,ReadsAll.cons hx hy⟩
 | [],_::_,_,_,r=>r.elim
 |_::_,[],_,_,r=>r.elim
end
theorem jZ {i:Nat} {l:List AV} (e:aF σ i=some l):σ[i]? = some (.lst l):=by
 unfold aF at e
 split at e
 ·rename_i h;exact h.trans (congrArg (fun l=>some (AObj.lst l)) (Option.some.inj e))
 ·cases e
theorem d7 {i:Nat} {l:List AV} (I:Inv F s ρ σ) (e:aF σ i=some l) (r:VR s.heap ρ (.ref i) v) {G:Prop} (k:∀ b vs n,v = .ref b→ρ.l[i]? = some b→s.heap.get? b=some (aD vs n)→VRs s.heap ρ l vs.toList→G):G:=by
 obtain ⟨b,rfl,hb⟩:=r
 obtain ⟨vs,n,ho,hv⟩:=I.objs i b _ hb (jZ e)
 exact k b vs n rfl hb ho hv
set_option tactic.hygienic true in
theorem ip {l:List AV} (I:Inv F s ρ σ) (e:bp σ a = .lst l) (r:VR s.heap ρ a v) {G:Prop} (k:∀ b vs n,v = .ref b→s.heap.get? b=some (aD vs n)→VRs s.heap ρ l vs.toList→G):G:=by
 cases a with
 |ref i=>
  unfold bp at e
  simp only at e
  split at e
  ·rename_i l' hl
   cases e
   exact d7 I hl r fun b vs n e __ ho hv=>k b vs n e ho hv
  ·cases e
 |lst l'=>
  cases e
  obtain ⟨b,vs,n,hv,_,ho,hl⟩:=r
  exact k b vs n hv ho hl
 |_=>cases e
theorem uB:(∃ l,bp σ a = .lst l)∨bp σ a=a:=by
 cases a with
 |ref i=>
  show (∃ l,(match aF σ i with | some l=>AV.lst l | none=>.ref i) = .lst l)∨_=_
  cases h:aF σ i with
  |some l=>exact .inl ⟨l,rfl⟩
  |none=>right;show (match aF σ i with | some l=>AV.lst l | none=>.ref i)=_;rw [h]
 |_=>exact .inr rfl
theorem d8 (I:Inv F s ρ σ) {d:PyData} (e:pS (bp σ a)=some d) (r:VR s.heap ρ a v):∃ as,Reads s.heap v d as:=by
 rcases uB (σ:=σ) (a:=a) with ⟨l,hl⟩ | hl
 ·rw [hl] at e
  exact ip I hl r fun b vs n hv ho hr=>ao e fun ds e1 e2=>e2▸hv▸let ⟨as,h⟩:=readsAll_of l _ ds e1 hr;⟨_,Reads.list ho rfl rfl h⟩
 ·exact i9 a v d (hl▸e) r
noncomputable abbrev be (A:Around) (s:Shared) (op:CmpOp) (c:Bool) (v u:Value):Prop:=∀ (Q:Value→Shared→Prop) (E:Value→Shared→Prop) (prog:Program) (w:World),Q (.bool c) s→wpAny (model prog w) A (compareOp op v u) Q E s
theorem dN {n:Nat} (hA:AOk n A):A.units+65 < cLine:=by have:=hA.2.2.1;omega
theorem j0 {n:Nat} (hA:AOk n A) (I:Inv F s ρ σ) {c:Bool} (e:dZ (bp σ a) (bp σ b)=some c) (ra:VR s.heap ρ a v) (rb:VR s.heap ρ b u):be A s .Eq c v u∧be A s .NotEq (!c) v u:=
 ad e fun d e1 e=>ad e fun d' e2 e=>al e fun hc hs=>
  let ⟨as,hr⟩:=d8 I e1 ra
  let ⟨bs,hr'⟩:=d8 I e2 rb
  have ⟨h1,h2⟩:=Bool.and_eq_true_iff.mp hc
  have hu:A.units+64 < cLine:=Nat.lt_of_succ_lt (dN hA)
  ⟨fun __ __ __ __ hq=>PySem.SeqAt.compareEq_shaped hr hr' h1 h2 hu (hs▸hq),fun __ __ __ __ hq=>PySem.SeqAt.compareNe_shaped hr hr' h1 h2 hu (hs▸hq)⟩
theorem j1 {n:Nat} (hA:AOk n A) (I:Inv F s ρ σ) {c:Bool} (e:pT a (bp σ b)=some c) (ra:VR s.heap ρ a v) (rb:VR s.heap ρ b u):be A s .In c v u∧be A s .NotIn (!c) v u:=
 ad e fun d e1 e=>ad e fun d' e2 e=>ad e fun l e3 e=>al e fun hc hs=>by
  obtain ⟨as,hr⟩:=i9 a v d e1 ra
  obtain ⟨bs,hr'⟩:=d8 I e2 rb
  have e4:d' = .list l:=by cases d'<;>first | exact aa e3 | exact congrArg PyData.list (Option.some.inj e3)
  subst e4
  obtain ⟨h1,h2⟩:=Bool.and_eq_true_iff.mp hc
  subst hs
  exact ⟨fun __ __ __ __ hq=>PySem.SeqAt.in_list_reads hr' hr (PySem.SeqAt.canLay_of_shaped h2) (PySem.SeqAt.canLay_of_shaped h1) (room_in_shaped h1 (dN hA)) hq,fun __ __ __ __ hq=>PySem.SeqAt.notIn_list_reads hr' hr (PySem.SeqAt.canLay_of_shaped h2) (PySem.SeqAt.canLay_of_shaped h1) (room_in_shaped h1 (dN hA)) hq⟩
theorem m8 (I:Inv F s ρ σ) {c:Bool} (e:yN a b=some c) (ra:VR s.heap ρ a v) (rb:VR s.heap ρ b u):be A s .In c v u∧be A s .NotIn (!c) v u:=
 m7 (G:=fun v u=>be A s .In c v u∧be A s .NotIn (!c) v u) e ra rb fun x y t t' e=>cF e fun hs=>by
  subst hs
  exact ⟨fun __ __ __ __ hq=>SB.contains hq,fun __ __ __ __ hq=>SB.notContains hq⟩
theorem yW {x:UInt64} {y:Int} {t t':Tok} : PySem.SeqAt.EqAt A s (.float x t) (.int y t') (uw (Float64.cmpInt x y)):=fun prog w E Q hq=>by
 unfold eqBool
 refine wpAny_holding ?_
 refine wpAny_ite_split (fun hab=>by have:=eq_of_beq hab;cases this) (fun __=>?_)
 exact wpAny_bind (eq_fi (wpAny_truthy_bool hq))
theorem uC {c:Bool} (e:B5 a b=some c) (ra:VR h ρ a v) (rb:VR h ρ b u):PySem.SeqAt.EqAt A s v u c:=
 az e (fun e=>cG (G:=fun v u=>PySem.SeqAt.EqAt A s v u c) e ra rb fun x y t t' __ __ e=>Option.some.inj e▸PySem.SeqAt.EqAt.int_int _ _ _ _) fun e=>
 ic (G:=fun v u=>PySem.SeqAt.EqAt A s v u c) e ra rb fun x y t t' e=>Option.some.inj e▸yW
structure RowAt (A:Around) (s:Shared) (vs us:Array Value) (e:Nat→Bool) (c:Bool):Prop where
 size:vs.size=us.size
 at':∀ j (h1:j < vs.size) (h2:j < us.size),PySem.SeqAt.EqAt A s vs[j] us[j] (e j)
 all:(List.range vs.size).all e=c
theorem pV:∀ {as bs:List AV} {vs us:List Value} {c:Bool},jY as bs=some c→VRs h ρ as vs→VRs h ρ bs us →
  ∃ e:Nat→Bool,vs.length=us.length∧(∀ (j:Nat) x y,vs[j]? = some x→us[j]? = some y→PySem.SeqAt.EqAt A s x y (e j))∧(List.range vs.length).all e=c
 | [],[],[],[],c,e,_,_=>⟨fun __=>true,rfl,fun j x y h=>(nomatch h),Option.some.inj e⟩
 |a::as,b::bs,v::vs,u::us,c,e,ra,rb=>ad e fun c1 e1 e2=>ao e2 fun c2 e3 e4=>by
  obtain ⟨f,h1,h2,h3⟩:=pV e3 ra.2 rb.2
  refine ⟨fun j=>match j with | 0=>c1 | j+1=>f j,congrArg (· + 1) h1,fun j x y hx hy=>?_,?_⟩
  ·match j with
   |0=>cases hx;cases hy;exact uC e1 ra.1 rb.1
   |j+1=>exact h2 j x y hx hy
  ·rw [List.length_cons,List.range_succ_eq_map,List.all_cons,List.all_map,←e4,←h3];rfl
 | [],_::_,_,_,_,e,_,_=>aa e
 |_::_,[],_,_,_,e,_,_=>aa e
 | [],[],_::_,_,_,_,r,_=>r.elim
 | [],[],[],_::_,_,_,_,r=>r.elim
 |_::_,_::_,[],_,_,_,r,_=>r.elim
 |_::_,_::_,_::_,[],_,_,_,r=>r.elim
theorem xV {as bs:List AV} {vs us:Array Value} {c:Bool} (e:jY as bs=some c) (ra:VRs h ρ as vs.toList) (rb:VRs h ρ bs us.toList):∃ f,RowAt A s vs us f c:=by
 obtain ⟨f,h1,h2,h3⟩:=pV (A:=A) (s:=s) e ra rb
 exact ⟨f,by simpa using h1,fun j l1 l2=>h2 j _ _ (by simp [l1]) (by simp [l2]),by simpa using h3⟩
theorem uD {n:Nat} (hA:AOk n A) {c:Bool} (e:B6 a b=some c) (ra:VR s.heap ρ a v) (rb:VR s.heap ρ b u):be A s .NotEq (!c) v u:=by
 have hu:A.units < cLine:=by have:=dN hA;omega
 refine az e (fun e=>xU (G:=be A s .NotEq (!c)) e ra rb fun x y l m vs ws n n' h1 h2 r1 r2 e Q E prog w hq=>?_) fun e=>?_
 ·obtain ⟨f,R⟩:=xV (A:=A.in1) (s:=s) e r1 r2
  exact PySem.SeqAt.RcNeAt.lists ⟨_,h1,rfl,_,rfl⟩ ⟨_,h2,rfl,_,rfl⟩ R.size hu R.at' prog w E Q (by rw [R.all];exact hq)
 ·cases a<;>first | exact aa e | skip
  cases b<;>first | exact aa e | skip
  obtain ⟨l,vs,n,rfl,_,ho,hl⟩:=ra
  obtain ⟨m,ws,n',rfl,_,ho',hl'⟩:=rb
  obtain ⟨f,R⟩:=xV (A:=A.in1) (s:=s) e hl hl'
  exact fun Q E prog w hq=>PySem.SeqAt.RcNeAt.tuples ⟨_,ho,rfl,_,rfl⟩ ⟨_,ho',rfl,_,rfl⟩ hu R.at' prog w E Q (by rw [←R.size,Nat.min_self,R.all,beq_self_eq_true,Bool.and_true];exact hq)
section
variable {n:Nat} {c:Bool}
theorem cq {x:Bool} {op:CmpOp} (k:be A s op x v u) (e:x=c):be A s op c v u:=by subst e;exact k
theorem Cb (hA:AOk n A) (I:Inv F s ρ σ) (e:io σ .Eq a b=some c) (ra:VR s.heap ρ a v) (rb:VR s.heap ρ b u):be A s .Eq c v u:=
 az e (fun e=>gu (G:=be A s .Eq c) e ra rb fun x y t t' e=>cq (fun __ __ __ __ hq=>AutoFloatOps.eq_0 hq) (Option.some.inj e)) fun e=>
 az e (fun e=>ic (G:=be A s .Eq c) e ra rb fun x y t t' e=>cq (fun __ __ __ __ hq=>eq_fi hq) (Option.some.inj e)) fun e=>
 az e (fun e=>uy (G:=be A s .Eq c) e ra rb fun x y t t' e=>cq (fun __ __ __ __ hq=>eq_if hq) (Option.some.inj e)) fun e=>(j0 hA I e ra rb).1
theorem Cc (hA:AOk n A) (I:Inv F s ρ σ) (e:io σ .NotEq a b=some c) (ra:VR s.heap ρ a v) (rb:VR s.heap ρ b u):be A s .NotEq c v u:=
 az e (fun e=>ic (G:=be A s .NotEq c) e ra rb fun x y t t' e=>cq (fun __ __ __ __ hq=>ne_fi hq) (Option.some.inj e)) fun e=>
 az e (fun e=>ao e fun k e1 e2=>cq (j0 hA I e1 ra rb).2 e2) fun e=>ao e fun k e1 e2=>cq (uD hA e1 ra rb) e2
theorem Cd (e:io σ .Lt a b=some c) (ra:VR s.heap ρ a v) (rb:VR s.heap ρ b u):be A s .Lt c v u:=
 az e (fun e=>cG (G:=be A s .Lt c) e ra rb fun x y t t' __ __ e=>cq (fun __ __ __ __ hq=>PySem.P.lt_int hq) (Option.some.inj e)) fun e=>
 az e (fun e=>gu (G:=be A s .Lt c) e ra rb fun x y t t' e=>cq (fun __ __ __ __ hq=>AutoFloatOps.lt_0 hq) (Option.some.inj e)) fun e=>
 az e (fun e=>ic (G:=be A s .Lt c) e ra rb fun x y t t' e=>cq (fun __ __ __ __ hq=>lt_fi hq) (Option.some.inj e)) fun e=>
 uy (G:=be A s .Lt c) e ra rb fun x y t t' e=>cq (fun __ __ __ __ hq=>lt_if hq) (Option.some.inj e)
theorem Ce (e:io σ .Gt a b=some c) (ra:VR s.heap ρ a v) (rb:VR s.heap ρ b u):be A s .Gt c v u:=
 az e (fun e=>cG (G:=be A s .Gt c) e ra rb fun x y t t' __ __ e=>cq (fun __ __ __ __ hq=>PySem.P.gt_int hq) (Option.some.inj e)) fun e=>
 ic (G:=be A s .Gt c) e ra rb fun x y t t' e=>cq (fun __ __ __ __ hq=>gt_fi hq) (Option.some.inj e)
theorem eH (hA:AOk n A) (I:Inv F s ρ σ) {op:CmpOp} (e:io σ op a b=some c) (ra:VR s.heap ρ a v) (rb:VR s.heap ρ b u):be A s op c v u:=by
 cases op with
 |Eq=>exact Cb hA I e ra rb
 |NotEq=>exact Cc hA I e ra rb
 |Lt=>exact Cd e ra rb
 |Gt=>exact Ce e ra rb
 |LtE=>
  refine az e (fun e=>?_) fun e=>uy (G:=be A s .LtE c) e ra rb fun x y t t' e=>cq (fun __ __ __ __ hq=>le_if hq) (Option.some.inj e)
  exact cG (G:=be A s .LtE c) e ra rb fun x y t t' __ __ e=>cq (fun __ __ __ __ hq=>PySem.P.le_int hq) (Option.some.inj e)
 |GtE=>exact cG (G:=be A s .GtE c) e ra rb fun x y t t' __ __ e=>cq (fun __ __ __ __ hq=>PySem.P.ge_int hq) (Option.some.inj e)
 |In=>exact az e (fun e=>(m8 I e ra rb).1) fun e=>(j1 hA I e ra rb).1
 |NotIn=>exact az e (fun e=>ao e fun k e1 e2=>cq (m8 I e1 ra rb).2 e2) fun e=>ao e fun k e1 e2=>cq (j1 hA I e1 ra rb).2 e2
 |_=>exact aa e
end
theorem iq {l:List AV} {vs:Array Value} (x:VRs h ρ l vs.toList):(!vs.isEmpty) = !l.isEmpty:=by
 have e:=x.size
 cases l with
 |nil=>have:vs = #[]:=Array.eq_empty_of_size_eq_zero e;rw [this];rfl
 |cons a l=>
  obtain ⟨vs⟩:=vs
  cases vs with
  |nil=>exact x.elim
  |cons=>rfl
theorem m9 {l:List AV} {vs:Array Value} {b:Addr} {n:Nat} {c:Bool} (I:Inv F s ρ σ) (e:Eo l=some c) (ho:s.heap.get? b=some (aD vs n)) (hl:VRs s.heap ρ l vs.toList):Ok F A fa (truthy (.ref b)) s ρ σ true (fun __ __ b=>b=c):=
 al e fun hz hc=>wpAny_truthy_list ⟨_,ho,rfl,_,rfl⟩ (by rw [hl.size];unfold Hk at hz;omega) ⟨ρ,I.toks _,(iq hl).trans hc,Stp.refl⟩
theorem pW {c:Bool} (I:Inv F s ρ σ) (e:B7 σ a=some c) (ra:VR s.heap ρ a v):Ok F A fa (truthy v) s ρ σ true (fun __ __ b=>b=c):=by
 cases a with
 |bool b=>cases ra;exact wpAny_truthy_bool ⟨ρ,I,Option.some.inj e,Stp.refl⟩
 |int i=>obtain ⟨t,rfl⟩:=ra;exact PySem.P.truthy_int ⟨ρ,I,Option.some.inj e,Stp.refl⟩
 |lst l=>obtain ⟨x,vs,n,rfl,_,ho,hl⟩:=ra;exact m9 I e ho hl
 |ref i=>exact ad e fun l e1 e2=>d7 I e1 ra fun b vs n hv __ ho hl=>hv▸m9 I e2 ho hl
 |_=>exact aa e
end
end Internal
namespace Internal
noncomputable def f5 (C:Cfg) (E:AEnv) (x:PySem.Str):Option AV:=
 if (x==("__debug__" : PySem.Str))=true then none else
 match E.names.lookup x with
 |some .globalImplicit=>C.G x
 |some .local=>E.vars.lookup x
 |some .cell=>E.vars.lookup x
 |some .free=>if (x==("__classdict__" : PySem.Str))=true then none else E.vars.lookup x
 |_=>none
noncomputable def aH:Expr→Bool | .Starred .. => true | _=>false
noncomputable def bD:Expr→Bool | .Set .. => true | _=>false
noncomputable def dg:Expr→Bool | .Slice .. => true | _=>false
noncomputable def bo:Expr→Bool | .Call (.Name _ _) [] [] _=>true | _=>false
noncomputable def lN (name:PySem.Str):Option String:=
 if name = "join" then some "str.join" else if name = "count" then some "str.count" else none
noncomputable def ja (name:PySem.Str):Option String:=
 if name = "append" then some "list.append" else if name = "pop" then some "list.pop" else none
noncomputable def pX (σ:St) (d:Nat):Option (List (PySem.Str×AV)):=match σ[d]? with
 |some (.ns m)=>some m
 |_=>none
noncomputable def dh (σ:St) (i:Nat):Option (Addr×List (PySem.Str×AV)):=match σ[i]? with
 |some (.inst D d)=>(pX σ d).map fun m=>(D,m)
 |_=>none
noncomputable def oJ (σ:St) (i:Nat):Option (Addr×List (PySem.Str×AV)):=match σ[i]? with
 |some (.acc D d _)=>(pX σ d).map fun m=>(D,m)
 |_=>none
noncomputable def Cf:AV→Option Nat
 | .lam j=>some j
 |_=>none
noncomputable def EJ:AV→Bool
 | .val _=>true
 |_=>false
noncomputable def Hr (C:Cfg) (v:Value) (first:List AV):Option (Fn×List AV):=(C.Γ v).map fun Φ=>(Φ,first)
noncomputable def pY (C:Cfg) (ov:AV) (name:PySem.Str) (q:Addr×List (PySem.Str×AV)):Option (Fn×List AV):=match q.2.lookup name with
 |none=>(C.meth q.1 name).bind fun a=>Hr C (.ref a) [ov]
 |some v=>(Cf v).bind fun j=>match C.free q.1 name with | true=>C.lam.map fun Φ=>(Φ,[.lam j]) | false=>none
noncomputable def Cg (C:Cfg) (ov:AV) (name:PySem.Str) (q:Addr×List (PySem.Str×AV)):Option (Fn×List AV):=match q.2.lookup name with
 |none=>Ho ((C.ameth q.1 name).bind fun a=>Hr C (.ref a) [ov]) ((C.aown q.1 name).bind fun i=>Hr C (.builtin i) [ov])
 |some _=>none
noncomputable def BT (C:Cfg) (ov:AV) (name:PySem.Str):Option (Fn×List AV):=(ja name).bind fun i=>Hr C (.builtin i) [ov]
noncomputable def fM (C:Cfg) (σ:St) (ov:AV) (name:PySem.Str):Option (Fn×List AV):=match ov with
 | .str _=>(lN name).bind fun i=>Hr C (.builtin i) [ov]
 | .lst _=>BT C ov name
 | .ref i=>Ho ((aF σ i).bind fun __=>BT C ov name) (Ho ((dh σ i).bind fun q=>pY C ov name q) ((oJ σ i).bind fun q=>Cg C ov name q))
 |_=>none
noncomputable def yX (C:Cfg) (i:Nat) (name:PySem.Str) (q:Addr×List (PySem.Str×AV)):Option AV:=match q.2.lookup name with
 |some v=>if EJ v=false∧C.free q.1 name=true then some v else none
 |none=>(C.meth q.1 name).map fun f=>.bm f i
noncomputable def lO (C:Cfg) (σ:St) (ov:AV) (name:PySem.Str):Option AV:=match ov with
 | .ref i=>(dh σ i).bind fun q=>yX C i name q
 |_=>none
noncomputable def j2 (C:Cfg) (pos:Pos) (σ:St) (l h s:Option Int) (xs:List AV):Option (AV×St×Bool):=if xs.length≤Hk then mk C pos (lJ xs l h s) σ else none
noncomputable def xW (σ:St) (l h s:Option Int) (x:PySem.Str):Option (AV×St×Bool):=if s=none∧x.length≤Hk then some (.str (Txt.slice x l h),σ,true) else none
noncomputable def xX (C:Cfg) (pos:Pos) (σ:St) (l h s:Option Int) (o:AV):Option (AV×St×Bool):=match o with
 | .lst xs=>j2 C pos σ l h s xs
 | .ref j=>opt (aF σ j) fun xs=>j2 C pos σ l h s xs
 | .str x=>xW σ l h s x
 |_=>none
noncomputable def fN (C:Cfg) (pos:Pos) (σ:St) (o lo hi st:AV):Option (AV×St×Bool):=
 opt (ux lo) fun l=>opt (ux hi) fun h=>opt (ux st) fun s=>if s=some 0 then none else xX C pos σ l h s o
noncomputable def na (E:AEnv) (names:List (PySem.Str×NameKind)):List (PySem.Str×AV):=
 E.vars.filter fun p=>names.lookup p.1==some .free
noncomputable def ag (E:AEnv) (scope:Scope):AEnv:=
 {names:=de E.names scope.names,own:=(scope.names.filter (·.2 == .cell)).map (·.1),vars:=na E scope.names }
noncomputable def cT (E:AEnv) (scope:Scope):Bool:=
 scope.kind == .function &&
 scope.names.all (fun p=>(p.2 != .local || scope.names.lookup p.1==some .local)&&(p.2 != .free || ((E.names.lookup p.1==some .cell || E.names.lookup p.1==some .free)&&(E.vars.lookup p.1).isSome))) &&
 (na E scope.names).all (fun p=>((de E.names scope.names).lookup p.1==some .free || (de E.names scope.names).lookup p.1==some .cell) && !(ag E scope).own.contains p.1&&scope.names.contains (p.1,.free))
noncomputable def xY:Expr→Option (PySem.Str×List Expr)
 | .Call f args kw _=>(match f with
  | .Name z _=>(match kw with
   | []=>some (z,args)
   |_::_=>none)
  |_=>none)
 |_=>none
noncomputable def Ch:List Expr→Option (Expr×Expr)
 | [a,b]=>some (a,b)
 |_=>none
noncomputable def xZ:Option AV→Bool
 |some (.val (.type t))=>t == "zip"
 |_=>false
noncomputable def ie (C:Cfg) (E:AEnv) (e:Expr):Option (Expr×Expr):=(xY e).bind fun q=>(Ch q.2).bind fun ab=>
 if (q.1==("zip" : PySem.Str) && !aH ab.1 && !aH ab.2&&xZ (f5 C E q.1))=true then some ab else none
noncomputable def gw:Expr→Bool | .Tuple .. => true | _=>false
noncomputable def dU (C:Cfg) (E:AEnv) (iter target:Expr):Bool:=(ie C E iter).isNone || gw target
noncomputable def gx (xs ys:List AV):List AV:=(xs.zip ys).map fun p=>.tup [p.1,p.2]
noncomputable def pZ:AV→Option (List AV)
 | .tup l=>some l
 |_=>none
noncomputable def yY:AV→Option (List AV)
 | .tup l=>some l
 | .lst l=>some l
 |_=>none
noncomputable def uE (σ:St):AV→Option (List AV×Bool)
 | .lst l=>some (l,false)
 | .ref i=>(aF σ i).map fun l=>(l,true)
 |_=>none
noncomputable def EK:AV→Option Value
 | .val v=>some v
 |_=>none
noncomputable def gy (C:Cfg) (E:AEnv) (f:PySem.Str):Option (Value×Fn):=(f5 C E f).bind fun a=>(EK a).bind fun v=>(C.Γ v).map fun Φ=>(v,Φ)
noncomputable def p6:AV→Option Bool
 | .bool b=>some b
 |_=>none
noncomputable def cW {β:Type} (held:Bool) (x:Option (β×St×Bool)):Option (β×St×Bool):=match x with
 |none=>none
 |some (b,σ,q)=>if held=true∧q=false then none else some (b,σ,q)
mutual
noncomputable def Hs:Nat→Cfg→AEnv→St→Expr→Option (AV×St×Bool)
 |0,_,_,_,_=>none
 |n+1,C,E,σ,e=>match e with
  | .Constant c _ _=>pur σ (xT c)
  | .Name x _=>pur σ (f5 C E x)
  | .BinOp l op r _=>Hp (Hs n C E σ l) fun a σ₁=>Hp (Hs n C E σ₁ r) fun b σ₂=>pur σ₂ (h9 op a b)
  | .UnaryOp op x _=>(match op with
   | .USub=>Hp (Hs n C E σ x) fun a σ₁=>pur σ₁ (EE a)
   |_=>none)
  | .IfExp t b o _=>Hp (atest n C E σ t) fun c σ₁=>Hs n C E σ₁ (if c=true then b else o)
  | .BoolOp op vs _=>abool n C E σ op vs
  | .List es pos=>if es.any aH then none else Hp (aevs n C E σ es) fun l σ₁=>mk C pos l σ₁
  | .Tuple es _ _=>if es.any aH then none else Hp (aevs n C E σ es) fun l σ₁=>if l.length≤Hk then some (.tup l,σ₁,true) else none
  | .Compare l ops rs _=>if rs.any bD then none else Hp (Hs n C E σ l) fun a σ₁=>achain n C E σ₁ a ops rs
  | .Subscript v i pos=>(match i with
   | .Slice lo hi st _=>Hp (Hs n C E σ v) fun o σ₁=>Hp (apart n C E σ₁ lo) fun l σ₂=>Hp (apart n C E σ₂ hi) fun h σ₃=>Hp (apart n C E σ₃ st) fun s σ₄=>fN C pos σ₄ o l h s
   |i=>Hp (Hs n C E σ v) fun o σ₁=>Hp (Hs n C E σ₁ i) fun k σ₂=>pur σ₂ (ib σ₂ o k))
  | .Attribute o name _=>if bo o then none else Hp (Hs n C E σ o) fun ov σ₁=>pur σ₁ (lO C σ₁ ov name)
  | .Call f args kw pos=>(match kw with
   | []=>(match f with
    | .Attribute o name apos=>if args.any aH || bo o || apos.endLine != pos.line || decide (args.length > 20) then none else
     Hp (Hs n C E σ o) fun ov σ₁=>opt (fM C σ₁ ov name) fun q=>Hp (aevs n C E σ₁ args) fun as σ₂=>q.1 (q.2++as) σ₂
    | .Name f _=>if args.any aH || decide (args.length > 20) then none else opt (gy C E f) fun q=>Hp (aevs n C E σ args) fun as σ₁=>q.2 as σ₁
    |_=>none)
   |_::_=>none)
  | .ListComp elt gens scope _=>(match gens with
   | [g]=>Hp (acomp n C E σ elt g.target g.iter g.ifs g.is_async scope) fun l σ₁=>some (.lst l,σ₁,true)
   |_=>none)
  | .Dict ks vs _=>Hp (adict n C E σ ks vs) fun d σ₁=>if (d.map (·.1)).Nodup∧ks.length≤15 then some (.ref σ₁.length,σ₁++[.dic d],false) else none
  |_=>none
noncomputable def adict:Nat→Cfg→AEnv→St→List (Option Expr)→List Expr→Option (List (PySem.Str×AV)×St×Bool)
 |0,_,_,_,_,_=>none
 |n+1,C,E,σ,ks,vs=>match ks with
  | []=>(match vs with
   | []=>some ([],σ,true)
   |_::_=>none)
  |k::ks=>(match vs with
   | []=>none
   |v::vs=>opt k fun k=>Hp (Hs n C E σ k) fun a σ₁=>opt (db a) fun x=>Hp (Hs n C E σ₁ v) fun b σ₂=>Hp (adict n C E σ₂ ks vs) fun d σ₃=>some ((x,b)::d,σ₃,true))
noncomputable def aevs:Nat→Cfg→AEnv→St→List Expr→Option (List AV×St×Bool)
 |0,_,_,_,_=>none
 |n+1,C,E,σ,es=>match es with
  | []=>some ([],σ,true)
  |e::r=>Hp (Hs n C E σ e) fun v σ₁=>Hp (aevs n C E σ₁ r) fun vs σ₂=>some (v::vs,σ₂,true)
noncomputable def apart:Nat→Cfg→AEnv→St→Option Expr→Option (AV×St×Bool)
 |0,_,_,_,_=>none
 |n+1,C,E,σ,x=>match x with
  |none=>some (.none,σ,true)
  |some e=>Hs n C E σ e
noncomputable def atest:Nat→Cfg→AEnv→St→Expr→Option (Bool×St×Bool)
 |0,_,_,_,_=>none
 |n+1,C,E,σ,e=>match e with
  | .UnaryOp op x pos=>(match op with
   | .Not=>Hp (atest n C E σ x) fun b σ₁=>some (!b,σ₁,true)
   |op=>Hp (Hs n C E σ (.UnaryOp op x pos)) fun v σ₁=>pur σ₁ (B7 σ₁ v))
  | .BoolOp op vs _=>aall n C E σ op vs
  | .IfExp _ _ _ _=>none
  | .Compare l ops rs _=>if rs.any bD then none else Hp (Hs n C E σ l) fun a σ₁=>atchain n C E σ₁ a ops rs
  |e=>Hp (Hs n C E σ e) fun v σ₁=>pur σ₁ (B7 σ₁ v)
noncomputable def aall:Nat→Cfg→AEnv→St→BoolOp→List Expr→Option (Bool×St×Bool)
 |0,_,_,_,_,_=>none
 |n+1,C,E,σ,op,es=>match es with
  | []=>some (match op with | .And=>true | .Or=>false,σ,true)
  |e::r=>Hp (atest n C E σ e) fun b σ₁=>match op with
   | .And=>(match b with | true=>aall n C E σ₁ .And r | false=>some (false,σ₁,true))
   | .Or=>(match b with | true=>some (true,σ₁,true) | false=>aall n C E σ₁ .Or r)
noncomputable def abool:Nat→Cfg→AEnv→St→BoolOp→List Expr→Option (AV×St×Bool)
 |0,_,_,_,_,_=>none
 |n+1,C,E,σ,op,es=>match es with
  | []=>none
  |e::r=>(match r with
   | []=>Hs n C E σ e
   |_::_=>Hp (Hs n C E σ e) fun v σ₁=>opt (p6 v) fun b=>match op with
    | .And=>(match b with | true=>abool n C E σ₁ .And r | false=>some (.bool false,σ₁,true))
    | .Or=>(match b with | true=>some (.bool true,σ₁,true) | false=>abool n C E σ₁ .Or r))
noncomputable def achain:Nat→Cfg→AEnv→St→AV→List CmpOp→List Expr→Option (AV×St×Bool)
 |0,_,_,_,_,_,_=>none
 |n+1,C,E,σ,a,ops,rs=>match rs with
  | []=>none
  |r::rs=>(match ops with
   | []=>none
   |op::ops=>(match ops with
    | []=>(match rs with
     | []=>Hp (Hs n C E σ r) fun b σ₁=>opt (io σ₁ op a b) fun c=>some (.bool c,σ₁,true)
     |_::_=>none)
    |op'::ops=>Hp (Hs n C E σ r) fun b σ₁=>opt (io σ₁ op a b) fun c=>match c with | true=>achain n C E σ₁ b (op'::ops) rs | false=>some (.bool false,σ₁,true)))
noncomputable def atchain:Nat→Cfg→AEnv→St→AV→List CmpOp→List Expr→Option (Bool×St×Bool)
 |0,_,_,_,_,_,_=>none
 |n+1,C,E,σ,a,ops,rs=>match rs with
  | []=>none
  |r::rs=>(match ops with
   | []=>none
   |op::ops=>(match ops with
    | []=>(match rs with
     | []=>Hp (Hs n C E σ r) fun b σ₁=>opt (io σ₁ op a b) fun c=>some (c,σ₁,true)
     |_::_=>none)
    |op'::ops=>Hp (Hs n C E σ r) fun b σ₁=>opt (io σ₁ op a b) fun c=>match c with | true=>atchain n C E σ₁ b (op'::ops) rs | false=>some (false,σ₁,true)))
noncomputable def acomp:Nat→Cfg→AEnv→St→Expr→Expr→Expr→List Expr→Int→Scope→Option (List AV×St×Bool)
 |0,_,_,_,_,_,_,_,_,_=>none
 |n+1,C,E,σ,elt,target,iter,ifs,is_async,scope=>
  if is_async=0∧bD iter=false∧cT E scope=true∧dU C E iter target=true then
   Hp (asrc n C E σ iter) fun q σ₁=>if q.1.length≤Hk then cW q.2 (eG (fun x σ=>opt (aA (ag E scope) target x) fun E'=>Hp (aifs n C E' σ ifs) fun ok σ'=>match ok with
      |true=>Hp (Hs n C E' σ' elt) fun v σ''=>some (some v,σ'',true)
      |false=>some (none,σ',true)) q.1 σ₁) else none
  else none
noncomputable def p8:Nat→Cfg→AEnv→St→Expr→Expr→Expr→Expr→List Expr→Int→Scope→Option (List (PySem.Str×AV)×St×Bool)
 |0,_,_,_,_,_,_,_,_,_,_=>none
 |n+1,C,E,σ,kx,vx,target,iter,ifs,is_async,scope=>
  if is_async=0∧bD iter=false∧cT E scope=true∧dU C E iter target=true then
   Hp (asrc n C E σ iter) fun q σ₁=>if q.1.length≤Hk then cW q.2 (eG (fun x σ=>opt (aA (ag E scope) target x) fun E'=>Hp (aifs n C E' σ ifs) fun ok σ'=>match ok with
      |true=>Hp (Hp (Hs n C E' σ' kx) fun a σ₂=>opt (db a) fun k=>Hp (Hs n C E' σ₂ vx) fun v σ₃=>some ((k,v),σ₃,true)) fun v σ''=>some (some v,σ'',true)
      |false=>some (none,σ',true)) q.1 σ₁) else none
  else none
noncomputable def asrc:Nat→Cfg→AEnv→St→Expr→Option ((List AV×Bool)×St×Bool)
 |0,_,_,_,_=>none
 |n+1,C,E,σ,iter=>els (ie C E iter) (fun ab=>Hp (Hs n C E σ ab.1) fun x σ₁=>Hp (Hs n C E σ₁ ab.2) fun y σ₂=>pur σ₂ ((yY x).bind fun xs=>(uE σ₂ y).map fun ys=>(gx xs ys.1,ys.2)))
  (Hp (Hs n C E σ iter) fun v σ₁=>pur σ₁ (bQ σ₁ v))
noncomputable def aifs:Nat→Cfg→AEnv→St→List Expr→Option (Bool×St×Bool)
 |0,_,_,_,_=>none
 |n+1,C,E,σ,es=>match es with
  | []=>some (true,σ,true)
  |e::r=>(match r with
   | []=>atest n C E σ e
   |_::_=>none)
end
end Internal
namespace Internal
theorem aJ {α β:Type} {x:Option (α×St×Bool)} {f:α→St→Option (β×St×Bool)} {r:β} {σ':St} {p:Bool} {G:Prop} (h:Hp x f=some (r,σ',p))
  (k:∀ a σ₁ p₁ p₂,x=some (a,σ₁,p₁)→f a σ₁=some (r,σ',p₂)→p=(p₁&&p₂)→G):G:=by
 match x with
 |none=>exact aa h
 |some (a,σ₁,p₁)=>
  unfold Hp at h
  simp only at h
  match hf:f a σ₁ with
  |none=>rw [hf] at h;exact aa h
  |some (b,σ₂,q)=>rw [hf] at h;cases h;exact k a σ₁ p₁ q rfl hf rfl
theorem p9 {α:Type} {x:Option α} {r:α} {σ σ':St} {p:Bool} {G:Prop} (h:pur σ x=some (r,σ',p)) (k:x=some r→σ=σ'→p=true→G):G:=by
 cases x with
 |none=>exact aa h
 |some a=>cases h;exact k rfl rfl rfl
noncomputable abbrev Ht:Value→Shared→Prop:=fun __ __=>False
noncomputable abbrev wp {α:Type} (F:Fix) (A:Around) (m:Sem α) (s:Shared) (G:α→Shared→Prop):Prop:=wpAny (model F.prog F.w) A m G Ht s
noncomputable def OkP {β δ:Type} (F:Fix) (fa:List Addr) (ρ:Rg) (h:Heap) (R:β→Heap→Rg→δ→Prop) (P:(δ→Shared→Prop)→Prop) (x:Option (β×St×Bool)):Prop:=
 ∀ b σ' p,x=some (b,σ',p)→∀ G:δ→Shared→Prop,(∀ a s',Post F fa ρ h σ' p (R b) a s'→G a s')→P G
section
variable {β γ δ α:Type} {F:Fix} {A:Around} {fa:List Addr} {ρ:Rg} {h:Heap} {s:Shared} {R:β→Heap→Rg→δ→Prop} {P P':(δ→Shared→Prop)→Prop} {x:Option (β×St×Bool)} {m:Sem δ} {b:β} {σ' σ:St} {p:Bool}
theorem OkP.to (H:OkP F fa ρ s.heap R (wp F A m s) x) (e:x=some (b,σ',p)):Ok F A fa m s ρ σ' p (R b):=H b σ' p e _ fun __ __ z=>z
theorem OkP.of (H:∀ b σ' p,x=some (b,σ',p)→Ok F A fa m s ρ σ' p (R b)):OkP F fa ρ s.heap R (wp F A m s) x:=fun b σ' p e G k=>wpAny_mono (H b σ' p e) k fun __ __ z=>z
theorem OkP.none:OkP F fa ρ h R P none:=fun __ __ __ e=>aa e
theorem OkP.wrap (H:OkP F fa ρ h R P' x) (w:∀ G,P' G→P G):OkP F fa ρ h R P x:=fun b σ' p e G k=>w G (H b σ' p e G k)
theorem OkP.some (H:∀ G,(∀ a s',Post F fa ρ h σ' p (R b) a s'→G a s')→P G):OkP F fa ρ h R P (some (b,σ',p)):=fun __ __ __ e G k=>H G (by cases e;exact k)
theorem OkP.ret {a:δ} (I:Inv F s ρ σ) (r:R b s.heap ρ a) (w:∀ G,G a s→P G):OkP F fa ρ s.heap R P (Option.some (b,σ,true)):=OkP.some fun G k=>w G (k a s ⟨ρ,I,r,Stp.refl⟩)
theorem OkP.seq {m:Sem α} {X:Option (γ×St×Bool)} {f:γ→St→Option (β×St×Bool)} {R':γ→Heap→Rg→α→Prop} {P₁:α→Shared→(δ→Shared→Prop)→Prop} (H:OkP F fa ρ s.heap R' (wp F A m s) X)
  (k:∀ c σ₁ a s₁ ρ₁ p₁,Inv F s₁ ρ₁ σ₁→R' c s₁.heap ρ₁ a→Stp fa p₁ ρ s.heap ρ₁ s₁.heap→OkP F fa ρ₁ s₁.heap R (P₁ a s₁) (f c σ₁)) :
  OkP F fa ρ s.heap R (fun G=>wp F A m s fun a s₁=>P₁ a s₁ G) (Hp X f):=fun b σ' p e G K=>
 aJ e fun c σ₁ p₁ p₂ h1 h2 h3=>H c σ₁ p₁ h1 _ fun a s₁ ⟨ρ₁,I,r,S⟩=>k c σ₁ a s₁ ρ₁ p₁ I r S b σ' p₂ h2 G fun a' s' ⟨ρ',I',r',S'⟩=>K a' s' ⟨ρ',I',r',h3▸S.trans S'⟩
theorem OkP.pur {X:Option β} (H:∀ b,X=Option.some b→OkP F fa ρ h R P (Option.some (b,σ,true))):OkP F fa ρ h R P (pur σ X):=by
 cases X with
 |none=>exact OkP.none
 |some b=>exact H b rfl
theorem OkP.opt {X:Option γ} {f:γ→Option (β×St×Bool)} (H:∀ c,X=Option.some c→OkP F fa ρ h R P (f c)):OkP F fa ρ h R P (opt X f):=by
 cases X with
 |none=>exact OkP.none
 |some b=>exact H b rfl
theorem OkP.unless {c:Prop} {d:Decidable c} (H:¬c→OkP F fa ρ h R P x):OkP F fa ρ h R P (if c then Option.none else x):=by
 by_cases hc:c
 ·rw [if_pos hc];exact OkP.none
 ·rw [if_neg hc];exact H hc
theorem OkP.when {c:Prop} {d:Decidable c} (H:c→OkP F fa ρ h R P x):OkP F fa ρ h R P (if c then x else Option.none):=by
 by_cases hc:c
 ·rw [if_pos hc];exact H hc
 ·rw [if_neg hc];exact OkP.none
theorem OkP.at (H:Ok F A fa m s ρ σ' p (R b)):OkP F fa ρ s.heap R (wp F A m s) (Option.some (b,σ',p)):=OkP.some fun G k=>wpAny_mono H k fun __ __ z=>z
end
noncomputable def gz (F:Fix) (v:Value) (s:Shared):Prop:=
 ∃ k,∀ (A:Around) (E:Value→Shared→Prop) (Q:Keeper→Shared→Prop),Q k s→wpAny (model F.prog F.w) A (keeperOf v) Q E s
structure CallOk (F:Fix) (N:Nat) (v:Value) (Φ:Fn):Prop where
 keep:∀ s ρ σ,Inv F s ρ σ→gz F v s
 ok:∀ {A:Around} {s:Shared} {ρ:Rg} {σ:St} {avs:List AV} {vs:List Value} {r:AV} {σ':St} {p:Bool},Φ avs σ=some (r,σ',p)→AOk N A→Inv F s ρ σ→VRs s.heap ρ avs vs →
  Ok F A [] (call v vs) s ρ σ' p (VV r)
noncomputable def CodeOk (F:Fix) (N:Nat) (v:Value) (Φ:Fn):Prop:=
 ∀ {A:Around} {s:Shared} {ρ:Rg} {σ:St} {avs:List AV} {vs:List Value} {r:AV} {σ':St} {p:Bool},Φ avs σ=some (r,σ',p)→AOk N A→Inv F s ρ σ→VRs s.heap ρ avs vs →
  codeAny (model F.prog F.w) A (.call v ⟨vs,[]⟩) (fun res s'=>match res with | .ok (.ret u)=>Post F [] ρ s.heap σ' p (VV r) u s' | _=>False) s
theorem CodeOk.call {F:Fix} {N:Nat} {v:Value} {Φ:Fn} (h:CodeOk F N v Φ) {A:Around} {s:Shared} {ρ:Rg} {σ:St} {avs:List AV} {vs:List Value} {r:AV} {σ':St} {p:Bool} (e:Φ avs σ=some (r,σ',p)) (hA:AOk N A) (I:Inv F s ρ σ) (rv:VRs s.heap ρ avs vs) :
  Ok F A [] (call v vs) s ρ σ' p (fun h ρ u=>VR h ρ r u):=
 wpAny_call (codeAny_mono (h e hA I rv) fun res s' z=>by
  cases res with
  |ok f=>cases f<;>first | exact z | exact z.elim
  |error e=>exact z)
noncomputable def qj (F:Fix) (N:Nat) (Φ:Fn):Prop:=
 ∀ {A:Around} {s:Shared} {ρ:Rg} {σ:St} {j:Nat} {v:Value} {avs:List AV} {vs:List Value} {r:AV} {σ':St} {p:Bool},Φ (.lam j::avs) σ=some (r,σ',p)→AOk N A→Inv F s ρ σ→VR s.heap ρ (.lam j) v→VRs s.heap ρ avs vs →
  Ok F A [] (call v vs) s ρ σ' p (VV r)
structure ClsOk (K:Frag) (D:Addr):Prop where
 get:plainGet K D "" = true
 dict:hasDictIn K D=true
 over:plainOver K D=true
 set:findIn K (.ref D) "__setattr__" = some (some (.builtin "object.__setattr__"))
structure MethOk (K:Frag) (D:Addr) (name:PySem.Str) (f:Addr):Prop where
 find:findIn K (.ref D) name=some (some (.ref f))
 type:typeIn K (.ref f)=some (.type "function")
 fget:specialIn K (.ref f) "__get__" = some (some (.builtin "function.__get__"))
 takes:takesIn K (.ref f)=some false
structure AMethOk (K:Frag) (D:Addr) (name:PySem.Str) (f:Addr):Prop where
 get:findIn K (.ref D) "__getattribute__" = some (some (.builtin "list.__getattribute__"))
 hook:findIn K (.ref D) "__getattr__" = some none
 find:findIn K (.ref D) name=some (some (.ref f))
 type:typeIn K (.ref f)=some (.type "function")
structure AOwnOk (K:Frag) (D:Addr) (name:PySem.Str) (i:String):Prop where
 get:findIn K (.ref D) "__getattribute__" = some (some (.builtin "list.__getattribute__"))
 hook:findIn K (.ref D) "__getattr__" = some none
 find:findIn K (.ref D) name=some (some (.builtin i))
 type:typeOf (.builtin i)=pure (.type "method_descriptor")
structure FreeOk (K:Frag) (D:Addr) (name:PySem.Str):Prop where
 find:findIn K (.ref D) name=some none
 taker:takerIn K D name=some none
structure CfgOk (F:Fix) (K:Frag) (C:Cfg) (N:Nat):Prop where
 glob:∀ x av,C.G x=some av→∃ v mg mb,(∀ h ρ,VR h ρ av v)∧F.h.Ns mainGlobals mg∧F.h.Ns builtinsNs mb∧(mg x=some v∨(mg x=none∧mb x=some v))
 apart:mainGlobals ∉ F.tabs∧builtinsNs ∉ F.tabs
 fn:∀ v Φ,C.Γ v=some Φ→CallOk F N v Φ
 lam:∀ Φ,C.lam=some Φ→qj F N Φ
 mods:(∃ o,F.h.get? sysModules=some o)∧sysModules ∉ F.tabs
 cit:∀ g Φ,C.cit g=some Φ→∃ M,N=M+1∧CodeOk F M (.ref g) Φ∧(∃ o fd,F.h.get? g=some o∧o.data = .func fd)∧g ∉ F.tabs
 frag:∀ a o,K.lookup a=some o→F.h.get? a=some o∧a ∉ F.tabs
 cls:∀ D name,(C.meth D name).isSome=true∨C.free D name=true→ClsOk K D∧copiedNames.contains name=false
 meth:∀ D name f,C.meth D name=some f→MethOk K D name f
 free:∀ D name,C.free D name=true→FreeOk K D name
 ameth:∀ D name f,C.ameth D name=some f→AMethOk K D name f
 aown:∀ D name i,C.aown D name=some i→AOwnOk K D name i
structure Src (F:Fix) (A:Around) (I:Addr) (fp wr sh:List Addr) (g:Heap) (ρg:Rg) (items:List AV) (St:Nat→Heap→Prop) (t:Expr):Prop where
 sub:∀ b∈wr,b∈fp
 frame:∀ i h h',St i h→(∀ b∈fp,∀ o,h.get? b=some o→h'.get? b=some o)→St i h'
 imm:∀ i h,St i h→∀ b∈wr,∃ o,h.get? b=some o∧(b∈sh∨Hi o=false)
 item:∀ i av (s:Shared) (ρ:Rg) (Q:Option Value→Shared→Prop) (R:Value→Unit→Shared→Prop),items[i]? = some av→St i s.heap→(∀ b,s.heap.get? b=none→ρ.out b)→(∀ b∈sh,b∈ρ.x)→(∀ a v,VR g ρg a v→VR s.heap ρ a v) →
  (∀ v s₁,(∀ Q':Unit→Shared→Prop,(∀ h' tk,VR h' ρ av v→St (i+1) h'→(∀ b o,b ∉ wr→s.heap.get? b=some o→h'.get? b=some o)→Q' () { s with heap:=h',toks:=tk }) →
   wpAny (model F.prog F.w) A (letOwnedTupleGo t (.ref I) v) Q' (fun __ __=>False) s₁)→Q (some v) s₁)→wpAny (model F.prog F.w) A (pyNext (.ref I)) Q (fun __ __=>False) s
 done:∀ (s:Shared) (Q:Option Value→Shared→Prop),St items.length s.heap →
  (∀ h' tk,(∀ b o,b ∉ wr→s.heap.get? b=some o→h'.get? b=some o)→Q none { s with heap:=h',toks:=tk })→wpAny (model F.prog F.w) A (pyNext (.ref I)) Q (fun __ __=>False) s
 self:∀ i (s:Shared) (Q:Value→Shared→Prop) (E:Value→Shared→Prop),St i s.heap→Q (.ref I) s→wpAny (model F.prog F.w) A (pyIter (.ref I)) Q E s
inductive Began (F:Fix) (A:Around) (s₀:Heap) (ρ:Rg) (held:Bool) (items:List AV) (it:Value) (s:Shared) (σ:St) (t:Expr):Prop
 |mk (I:Addr) (fp wr sh:List Addr) (St:Nat→Heap→Prop) (e:it = .ref I) (W:Src F A I fp wr sh s.heap ⟨ρ.l,sh++ρ.x⟩ items St t) (st:St 0 s.heap) (wr0:∀ b∈wr,s₀.get? b=none) (sh0:∀ b∈sh,s₀.get? b=none)
  (fp0:∀ b∈fp,b∈wr∨((∃ o,s.heap.get? b=some o∧(Hi o=true∨b∈ρ.l))∧(b ∉ ρ.l∨held=true))) (wr1:∀ b∈wr,b ∉ ρ.l∧F.h.get? b=none∧b ∉ F.tabs∧b ∉ ρ.x) (inv:Inv F s ⟨ρ.l,sh++ρ.x⟩ σ):Began F A s₀ ρ held items it s σ t
inductive SrcS (F:Fix) (A:Around) (s₀:Heap) (ρ:Rg) (items:List AV) (held:Bool) (σ':St) (p:Bool) (t:Expr) (it:Value) (s':Shared):Prop
 |mk (ρ':Rg) (S:Stp [] p ρ s₀ ρ' s'.heap) (B:Began F A s₀ ρ' held items it s' σ' t):SrcS F A s₀ ρ items held σ' p t it s'
noncomputable abbrev RB:Bool→Heap→Rg→Bool→Prop:=fun r __ __ b=>b=r
noncomputable abbrev Hu:List AV→Heap→Rg→List Value→Prop:=fun r h ρ vs=>VRs h ρ r vs
noncomputable abbrev yZ (ifs:List Expr) (env:Env):Sem Bool:=forIn ifs true fun c r=>if r=true then do let ok ←isTrue c env (eval c env);pure (ForInStep.yield ok) else pure (ForInStep.yield r)
noncomputable abbrev j3 (kx:Option Expr) (elt target iter:Expr) (ifs:List Expr) (scope:Scope) (pos:Pos):Expr:=match kx with
 |none=>.ListComp elt [⟨target,iter,ifs,0⟩] scope pos
 |some k=>.DictComp k elt [⟨target,iter,ifs,0⟩] scope pos
noncomputable abbrev Ep (kx:Option Expr):Sem Value:=match kx with
 |none=>newList []
 |some _=>newDict
noncomputable def FQ {α β:Type} (f:α→β) (x:Option (α×St×Bool)):Option (β×St×Bool):=x.map fun q=>(f q.1,q.2)
noncomputable abbrev j4 (n:Nat) (C:Cfg) (E:AEnv) (σ:St) (kx:Option Expr) (elt target iter:Expr) (ifs:List Expr) (is_async:Int) (scope:Scope):Option (AObj×St×Bool):=match kx with
 |none=>FQ .lst (acomp n C E σ elt target iter ifs is_async scope)
 |some k=>FQ (fun l=>.dic (l.foldl (fun d p=>upd d p.1 p.2) [])) (p8 n C E σ k elt target iter ifs is_async scope)
noncomputable abbrev jb (F:Fix) (A:Around) (s:Heap) (ρ:Rg) (σ':St) (p:Bool) (o:AObj) (use:Option (Value→Sem Unit)) (Q:Value→Shared→Prop):Prop:=
 ∀ D C' s₁ ρ₁ m,Inv F s₁ ρ₁ σ'→OR F s₁.heap ρ₁ D o→(ρ₁.out D∧F.h.get? D=none∧s.get? D=none∧C'≠D)→Stp [] p ρ s ρ₁ s₁.heap→s₁.heap.Ns C' m→C' ∉ ρ₁.l→F.h.get? C'=none→C' ∉ F.tabs→s.get? C'=none →
  compPost (model F.prog F.w) A Ht use Q (.ref D) C' (.ok .next) s₁
noncomputable def qk (h:Heap) (ρ:Rg):List (Str×AV)→List (Value×Value)→Prop
 | [],[]=>True
 |(k,a)::d,(kv,v)::r=>(∃ t,kv = .str k t)∧VR h ρ a v∧qk h ρ d r
 | [],_::_=>False
 |_::_,[]=>False
noncomputable abbrev Hv:List (Str×AV)→Heap→Rg→List (Value×Value)→Prop:=fun r h ρ vs=>qk h ρ r vs
structure Snd (F:Fix) (C:Cfg) (N n:Nat):Prop where
 ev:∀ {A:Around} {env:Env} {E:AEnv} {s:Shared} {ρ:Rg} {σ:St} {e:Expr},AOk N A→Inv F s ρ σ→EnvR F s.heap ρ env E→OkP F [] ρ s.heap VV (wp F A (eval e env) s) (Hs n C E σ e)
 evs:∀ {A:Around} {env:Env} {E:AEnv} {s:Shared} {ρ:Rg} {σ:St} {es:List Expr},AOk N A→Inv F s ρ σ→EnvR F s.heap ρ env E→OkP F [] ρ s.heap Hu (wp F A (spliced (es.map fun e=>(false,eval e env))) s) (aevs n C E σ es)
 part:∀ {A:Around} {env:Env} {E:AEnv} {s:Shared} {ρ:Rg} {σ:St} {e:Option Expr},AOk N A→Inv F s ρ σ→EnvR F s.heap ρ env E→OkP F [] ρ s.heap VV (wp F A (evalPart e env) s) (apart n C E σ e)
 test:∀ {A:Around} {env:Env} {E:AEnv} {s:Shared} {ρ:Rg} {σ:St} {e:Expr},AOk N A→Inv F s ρ σ→EnvR F s.heap ρ env E→OkP F [] ρ s.heap RB (wp F A (isTrue e env (eval e env)) s) (atest n C E σ e)
 all:∀ {A:Around} {env:Env} {E:AEnv} {s:Shared} {ρ:Rg} {σ:St} {op:BoolOp} {es:List Expr},AOk N A→Inv F s ρ σ→EnvR F s.heap ρ env E→OkP F [] ρ s.heap RB (wp F A (allTrue op es env) s) (aall n C E σ op es)
 bool:∀ {A:Around} {env:Env} {E:AEnv} {s:Shared} {ρ:Rg} {σ:St} {op:BoolOp} {es:List Expr} {pos:Pos},AOk N A→Inv F s ρ σ→EnvR F s.heap ρ env E→OkP F [] ρ s.heap VV (wp F A (boolOp pos op (evalEach es env)) s) (abool n C E σ op es)
 chain:∀ {A:Around} {env:Env} {E:AEnv} {s:Shared} {ρ:Rg} {σ:St} {a:AV} {v:Value} {ops:List CmpOp} {rs:List Expr} {pos:Pos},AOk N A→Inv F s ρ σ→EnvR F s.heap ρ env E→VR s.heap ρ a v→OkP F [] ρ s.heap VV (wp F A (compareChain pos v ops (evalEach rs env)) s) (achain n C E σ a ops rs)
 tchain:∀ {A:Around} {env:Env} {E:AEnv} {s:Shared} {ρ:Rg} {σ:St} {a:AV} {v:Value} {ops:List CmpOp} {rs:List Expr} {pos:Pos},AOk N A→Inv F s ρ σ→EnvR F s.heap ρ env E→VR s.heap ρ a v→OkP F [] ρ s.heap RB (wp F A (testChain pos v ops (evalEach rs env)) s) (atchain n C E σ a ops rs)
 src:∀ {A:Around} {env:Env} {E:AEnv} {s:Shared} {ρ:Rg} {σ:St} {e:Expr} {items:List AV} {held:Bool} {σ':St} {p:Bool} {t:Expr},asrc n C E σ e=some ((items,held),σ',p)→dU C E e t=true→AOk N A→Inv F s ρ σ→EnvR F s.heap ρ env E →
  wp F A (eval e env) s fun v s₁=>wp F A (pyIter v) s₁ (SrcS F A s.heap ρ items held σ' p t)
 tests:∀ {A:Around} {env:Env} {E:AEnv} {s:Shared} {ρ:Rg} {σ:St} {ifs:List Expr},AOk N A→Inv F s ρ σ→EnvR F s.heap ρ env E→OkP F [] ρ s.heap RB (wp F A (yZ ifs env) s) (aifs n C E σ ifs)
 dict:∀ {A:Around} {env:Env} {E:AEnv} {s:Shared} {ρ:Rg} {σ:St} {ks:List (Option Expr)} {vs:List Expr} {pos:Pos},AOk N A→Inv F s ρ σ→EnvR F s.heap ρ env E→OkP F [] ρ s.heap Hv (wp F A (evalPairs (pairTrees ks vs env pos)) s) (adict n C E σ ks vs)
 comp:∀ {A:Around} {env:Env} {E:AEnv} {s:Shared} {ρ:Rg} {σ:St} {kx:Option Expr} {elt target iter:Expr} {ifs:List Expr} {is_async:Int} {scope:Scope} {pos p2:Pos} {o:AObj} {use:Option (Value→Sem Unit)} {Q:Value→Shared→Prop} {σ':St} {p:Bool},
  j4 n C E σ kx elt target iter ifs is_async scope=some (o,σ',p)→AOk N A→Inv F s ρ σ→EnvR F s.heap ρ env E→jb F A s.heap ρ σ' p o use Q →
  is_async=0∧wp F A (comprehension (j3 kx elt target iter ifs scope pos) scope env p2 (Ep kx) false (eval iter env) use) s Q
section
variable {F:Fix} {K:Frag} {C:Cfg} {N n:Nat} {A:Around} {env:Env} {E:AEnv} {s:Shared} {ρ:Rg} {σ σ':St} {p:Bool}
theorem uF {c:Const} {k:Nat} {pos:Pos} {r:AV} (h:xT c=some r) (I:Inv F s ρ σ):Ok F A [] (eval (.Constant c k pos) env) s ρ σ true (VV r):=by
 cases c with
 |none=>cases h;exact wpAny_pure ⟨ρ,I,rfl,Stp.refl⟩
 |bool b=>cases h;exact wpAny_pure ⟨ρ,I,rfl,Stp.refl⟩
 |int i=>exact wpAny_Constant_int (cJ I (Option.some.inj h) _ _)
 |float x=>exact AutoFloatOps.wpAny_Constant_float (bC I (Option.some.inj h) _ _)
 |str x=>exact Calls.Constant_str (Option.some.inj h▸aU I _ ⟨_,rfl⟩)
 |_=>exact aa h
theorem Inv.baseNs (I:Inv F s ρ σ) {a:Addr} {m:Str→Option Value} (ha:a ∉ F.tabs) (h:F.h.Ns a m):s.heap.Ns a m:=h.at' fun o e=>I.base a o ha e
theorem EnvR.kindOf (R:EnvR F s.heap ρ env E) {x:Str} {k:NameKind} (h:E.names.lookup x=some k):env.kindOf x=some k:=by unfold Env.kindOf;rw [R.names];exact h
theorem qm {x:Str} {r:AV} {Q:Value→Shared→Prop} (KC:CfgOk F K C N) (h:C.G x=some r) (I:Inv F s ρ σ) (R:EnvR F s.heap ρ env E) (hq:∀ v,VR s.heap ρ r v→Q v s):wpAny (model F.prog F.w) A (loadGlobal env x) Q Ht s:=by
 obtain ⟨v,mg,mb,hv,hg,hb,hx⟩:=KC.glob x r h
 have g1:s.heap.Ns env.globals mg:=by rw [R.glob];exact I.baseNs KC.apart.1 hg
 have g2:s.heap.Ns env.builtins mb:=by rw [R.blt];exact I.baseNs KC.apart.2 hb
 rcases hx with hx | ⟨hx,hy⟩
 ·exact Calls.loadGlobal_global g1 hx (hq v (hv _ _))
 ·exact Calls.loadGlobal_builtin g1 hx g2 hy (hq v (hv _ _))
theorem jc {x:Str} {pos:Pos} {r:AV} (KC:CfgOk F K C N) (h:f5 C E x=some r) (I:Inv F s ρ σ) (R:EnvR F s.heap ρ env E):Ok F A [] (eval (.Name x pos) env) s ρ σ true (VV r):=by
 unfold f5 at h
 by_cases hd:(x==("__debug__" : Str))=true
 ·rw [if_pos hd] at h;exact aa h
 rw [if_neg hd] at h
 have hd:=eq_false_of_ne_true hd
 cases hk:E.names.lookup x with
 |none=>rw [hk] at h;exact aa h
 |some k=>
  rw [hk] at h
  have ko:=R.kindOf hk
  have cell:(k = .cell∨k = .free)→E.vars.lookup x=some r→∃ c v,env.cells.lookup x=some c∧s.heap.IsCell c (some v)∧VR s.heap ρ r v:=fun hc e=>R.cel x r e (hc.imp (fun e=>hk.trans (congrArg some e)) fun e=>hk.trans (congrArg some e))
  cases k with
  |globalImplicit=>exact Calls.Name_function_global R.kind ko (qm KC h I R fun v hv=>⟨ρ,I,hv,Stp.refl⟩) hd
  | «local» =>
   obtain ⟨m,hn,hm⟩:=R.ns
   obtain ⟨v,e,hv⟩:=hm x r h hk
   exact wpAny_Name (wpAny_loadName_local R.kind ko hn e ⟨ρ,I,hv,Stp.refl⟩) hd
  |cell=>
   obtain ⟨c,v,e,hc,hv⟩:=cell (.inl rfl) h
   exact wpAny_Name (wpAny_loadName_cell R.kind ko e hc ⟨ρ,I,hv,Stp.refl⟩) hd
  |free=>
   by_cases hcd:(x==("__classdict__" : Str))=true
   ·simp only [hcd,if_true] at h;exact aa h
   ·simp only [hcd] at h
    obtain ⟨c,v,e,hc,hv⟩:=cell (.inr rfl) h
    exact wpAny_Name (wpAny_loadName_free R.kind ko e hc ⟨ρ,I,hv,Stp.refl⟩ (eq_false_of_ne_true hcd)) hd
  |_=>exact aa h
theorem aE {pos:Pos} : ∀ {es:List Expr},es.any aH=false→backTo pos (starEach es env)=es.map fun e=>(false,eval e env)
 | [],_=>rfl
 |e::es,h=>by
  have h:=Bool.or_eq_false_iff.mp h
  have ih:=aE (pos:=pos) h.2
  have hs:starEach (e::es) env=(false,eval e env)::starEach es env:=by
   cases e<;>first | rfl | exact nomatch h.1
  rw [hs]
  exact congrArg ((false,eval e env) :: ·) ih
theorem uG {h:Heap} {ρ:Rg} {a:Addr} {pos:Pos} {l:List AV} {vs:Array Value} {n:Nat} (hl:l.length≤Hk) (ho:h.get? a=some (aD vs n)) (r:VRs h ρ l vs.toList):OR F h ρ a (oI pos l):=by
 unfold oI
 cases pos.line==204 with
 |true=>exact ⟨vs,n,ho,by rwa [List.reverse_reverse],by rwa [List.length_reverse]⟩
 |false=>exact ⟨vs,n,ho,r⟩
theorem Ci {pos:Pos} {l:List AV} {vs:List Value} (I:Inv F s ρ σ) (hv:VRs s.heap ρ l vs) {P:(Value→Shared→Prop)→Prop}
  (w:l.length≤Hk→∀ G,G (.ref s.heap.objs.size) { s with heap:=s.heap.push { cls:=.type "list", data:=.seq vs.toArray } } → P G):OkP F [] ρ s.heap VV P (mk C pos l σ):=by
 refine OkP.when fun hl=>?_
 have hv':VRs s.heap ρ l vs.toArray.toList:=by simpa using hv
 cases C.mu pos with
 |false=>exact OkP.some fun G k=>w hl G (k _ _ ⟨ρ,I.push _ _,lL I hv',Stp.keeps fun __ __ e=>Heap.get?_push_of_some _ e⟩)
 |true=>
  refine OkP.some fun G k=>w hl G (k _ _ ⟨ρ.add s.heap.objs.size,?_,?_,?_⟩)
  ·have hd:=an s.heap (Nat.le_refl s.heap.objs.size)
   exact I.addObj (o:=oI pos l) s.toks hd (I.base_dead hd) (fun __ __ e=>Heap.get?_push_of_some _ e) (Heap.get?_push_size _ rfl) (uG hl (Heap.get?_push_size _ rfl)
    (VRs.mono (fa:=[]) (p:=false) (Stp.added hd fun __ __ e=>Heap.get?_push_of_some _ e) _ _ hv'))
  ·refine ⟨_,rfl,?_⟩
   show (ρ.l++[s.heap.objs.size])[σ.length]? = some s.heap.objs.size
   rw [←I.len];simp
  ·exact Stp.added (an s.heap (Nat.le_refl _)) fun __ __ e=>Heap.get?_push_of_some _ e
end
end Internal
namespace Internal
section
variable {F:Fix} {C:Cfg} {N n:Nat} {A:Around} {env:Env} {E:AEnv} {s s₁:Shared} {ρ ρ₁:Rg} {σ σ' σ₁:St} {p q pq:Bool} {fa:List Addr}
theorem Ok.seq {α:Type} {m:Sem α} {R:Heap→Rg→α→Prop} {G:α→Shared→Prop} (h:Ok F A fa m s ρ σ₁ p R)
  (k:∀ a s₁ ρ₁,Inv F s₁ ρ₁ σ₁→R s₁.heap ρ₁ a→Stp fa p ρ s.heap ρ₁ s₁.heap→G a s₁):wpAny (model F.prog F.w) A m G (fun __ __=>False) s:=
 wpAny_mono h (fun a s₁ ⟨ρ₁,I,r,S⟩=>k a s₁ ρ₁ I r S) fun __ __ x=>x
theorem Ok.fin {α:Type} {m:Sem α} {R:Heap→Rg→α→Prop} (h:Ok F A fa m s₁ ρ₁ σ' q R) (S:Stp fa p ρ s.heap ρ₁ s₁.heap) (e:pq=(p&&q)) :
  wpAny (model F.prog F.w) A m (Post F fa ρ s.heap σ' pq R) (fun __ __=>False) s₁:=e▸Ok.pre S h
theorem Ok.cast {α:Type} {m:Sem α} {R:Heap→Rg→α→Prop} (h:Ok F A fa m s ρ σ' p R) (e:q=p):Ok F A fa m s ρ σ' q R:=e▸h
theorem uH (S:Snd F C N n) (hA:AOk N A) {l r:Expr} {op:Operator} {pos:Pos} (I:Inv F s ρ σ) (R:EnvR F s.heap ρ env E) :
  OkP F [] ρ s.heap VV (wp F A (eval (.BinOp l op r pos) env) s) (Hp (Hs n C E σ l) fun a σ₁=>Hp (Hs n C E σ₁ r) fun b σ₂=>pur σ₂ (h9 op a b)):=
 OkP.wrap (OkP.seq (S.ev hA I R) fun a σ₁ v s₁ ρ₁ p₁ I₁ r₁ S₁=>OkP.seq (S.ev hA I₁ (R.mono S₁)) fun b σ₂ u s₂ ρ₂ p₂ I₂ r₂ S₂=>OkP.pur fun c e=>OkP.at (pU e I₂ (VR.mono S₂ _ _ r₁) r₂)) fun G=>wpAny_BinOp
theorem qn {a r:AV} {v:Value} (e:EE a=some r) (I:Inv F s ρ σ) (ra:VR s.heap ρ a v):Ok F A fa (unaryOp .USub v) s ρ σ true (VV r):=by
 cases a with
 |int i=>obtain ⟨t,rfl⟩:=ra;exact PySem.P.neg_int (cJ I (Option.some.inj e) _ _)
 |_=>exact aa e
theorem y5 (S:Snd F C N n) (hA:AOk N A) {e:Expr} {pos:Pos} (I:Inv F s ρ σ) (R:EnvR F s.heap ρ env E) :
  OkP F [] ρ s.heap VV (wp F A (eval (.UnaryOp .USub e pos) env) s) (Hp (Hs n C E σ e) fun a σ₁=>pur σ₁ (EE a)):=
 OkP.wrap (OkP.seq (S.ev hA I R) fun a σ₁ v s₁ ρ₁ p₁ I₁ r₁ S₁=>OkP.pur fun c e=>OkP.at (qn e I₁ r₁)) fun G=>wpAny_UnaryOp
theorem OkP.branch {β δ:Type} {R:β→Heap→Rg→δ→Prop} {P Q:(δ→Shared→Prop)→Prop} {c:Bool} {h:Heap} {x:Option (β×St×Bool)} (H:OkP F fa ρ h R (if c=true then P else Q) x):OkP F fa ρ h R (fun G=>if c=true then P G else Q G) x:=by
 cases c<;>exact H
theorem uI (S:Snd F C N n) (hA:AOk N A) {t b o:Expr} {pos:Pos} (I:Inv F s ρ σ) (R:EnvR F s.heap ρ env E) :
  OkP F [] ρ s.heap VV (wp F A (eval (.IfExp t b o pos) env) s) (Hp (atest n C E σ t) fun c σ₁=>Hs n C E σ₁ (if c=true then b else o)):=
 OkP.wrap (OkP.seq (S.test hA I R) fun c σ₁ c' s₁ ρ₁ p₁ I₁ r₁ S₁=>OkP.branch (by subst r₁;cases c'<;>exact S.ev hA I₁ (R.mono S₁))) fun G=>wpAny_IfExp
theorem y6 (S:Snd F C N n) (hA:AOk N A) {es:List Expr} {pos:Pos} (hs:es.any aH=false) (I:Inv F s ρ σ) (R:EnvR F s.heap ρ env E) :
  OkP F [] ρ s.heap VV (wp F A (eval (.List es pos) env) s) (Hp (aevs n C E σ es) fun l σ₁=>mk C pos l σ₁):=
 OkP.wrap (OkP.seq (P₁:=fun vs s₁ G=>vs.length≤sizeLine∧G (.ref s₁.heap.objs.size) { s₁ with heap:=s₁.heap.push { cls:=.type "list", data:=.seq vs.toArray } }) (S.evs hA I R) fun l σ₁ vs s₁ ρ₁ p₁ I₁ r₁ S₁=>Ci I₁ r₁ fun hl G k=>⟨aI (r₁.length▸hl),k⟩)
  fun G h=>wpAny_List_spliced (by rw [aE hs];exact h)
theorem uJ (S:Snd F C N n) (hA:AOk N A) {es:List Expr} {k:Nat} {pos:Pos} (hs:es.any aH=false) (I:Inv F s ρ σ) (R:EnvR F s.heap ρ env E) :
  OkP F [] ρ s.heap VV (wp F A (eval (.Tuple es k pos) env) s) (Hp (aevs n C E σ es) fun l σ₁=>if l.length≤Hk then some (.tup l,σ₁,true) else none):=
 OkP.wrap (OkP.seq (P₁:=fun vs s₁ G=>vs.length≤sizeLine∧G (.ref s₁.heap.objs.size) { s₁ with heap:=s₁.heap.push { cls:=.type "tuple", data:=.seq vs.toArray } }) (S.evs hA I R) fun l σ₁ vs s₁ ρ₁ p₁ I₁ r₁ S₁=>OkP.when fun hl=>OkP.some fun G k=>
   ⟨aI (r₁.length▸hl),k _ _ ⟨ρ₁,I₁.push _ _,yO I₁ (by simpa using r₁),Stp.keeps fun __ __ e=>Heap.get?_push_of_some _ e⟩⟩)
  fun G h=>wpAny_Tuple_spliced (by rw [aE hs];exact h)
theorem uK (S:Snd F C N n) (hA:AOk N A) {es:List Expr} (I:Inv F s ρ σ) (R:EnvR F s.heap ρ env E) :
  OkP F [] ρ s.heap Hu (wp F A (spliced (es.map fun e=>(false,eval e env))) s) (aevs (n+1) C E σ es):=by
 cases es with
 |nil=>exact OkP.ret (a:=[]) I trivial fun G h=>Calls.spliced_nil h
 |cons e r=>
  exact OkP.wrap (OkP.seq (S.ev hA I R) fun a σ₁ v s₁ ρ₁ p₁ I₁ r₁ S₁=>OkP.seq (P₁:=fun vs s₂ G=>G (v::vs) s₂) (S.evs hA I₁ (R.mono S₁)) fun l σ₂ vs s₂ ρ₂ p₂ I₂ r₂ S₂=>OkP.ret (a:=v::vs) I₂ ⟨VR.mono S₂ _ _ r₁,r₂⟩ fun G h=>h)
   fun G h=>Calls.spliced_cons h
theorem qp (S:Snd F C N n) (hA:AOk N A) {e:Option Expr} (I:Inv F s ρ σ) (R:EnvR F s.heap ρ env E):OkP F [] ρ s.heap VV (wp F A (evalPart e env) s) (apart (n+1) C E σ e):=by
 cases e with
 |none=>exact OkP.ret (a:=.none) I rfl fun G h=>wpAny_pure h
 |some e=>exact S.ev hA I R
theorem bb:∀ {ops:List CmpOp} {rs:List Expr},rs.any bD=false→lastMarks ops rs=false
 | [],_,_=>by unfold lastMarks;rfl
 | [_],[],_=>by unfold lastMarks;rfl
 |_::_::_,[],_=>by unfold lastMarks;rfl
 | [op],[r],h=>by
  have h:=(Bool.or_eq_false_iff.mp h).1
  unfold lastMarks
  cases r<;>first | rfl | exact nomatch h
 | [op],r::r'::rs,h=>by unfold lastMarks;exact bb (Bool.or_eq_false_iff.mp h).2
 |op::op'::ops,[r],h=>by unfold lastMarks;exact bb rfl
 |op::op'::ops,r::r'::rs,h=>by unfold lastMarks;exact bb (Bool.or_eq_false_iff.mp h).2
section
variable {a:AV} {v:Value} {ops:List CmpOp} {rs:List Expr} {pos:Pos} {op op':CmpOp} {r:Expr}
noncomputable abbrev qr (pos:Pos) (v:Value) (op op':CmpOp) (ops:List CmpOp) (rs:List (Sem Value)) (u:Value):Sem Value:=do
 standAt pos
 let c ←holding [v,u] (compareOp op v u)
 release [v,u] [c]
 if ←holding [c,u] (truthy c) then compareChain pos u (op'::ops) rs else pure c
noncomputable abbrev qt (pos:Pos) (v:Value) (op op':CmpOp) (ops:List CmpOp) (rs:List (Sem Value)) (u:Value):Sem Bool:=do
 standAt pos
 let c ←holding [v,u] (compareOp op v u)
 release [v,u] [c]
 if ←holding [c,u] (truthy c) then testChain pos u (op'::ops) rs else pure false
theorem y7 {rs:List (Sem Value)} {u:Value} {G:Value→Shared→Prop} (hc:be A s op true v u) (k:wp F A (compareChain pos u (op'::ops) rs) s G):wp F A (qr pos v op op' ops rs u) s G:=
 wpAny_bind (wpAny_standAt (wpAny_bind (wpAny_holding (hc _ _ _ _ (wpAny_bind (wpAny_release (wpAny_bind (wpAny_holding (wpAny_truthy_bool k)))))))))
theorem uL {rs:List (Sem Value)} {u:Value} {G:Value→Shared→Prop} (hc:be A s op false v u) (k:G (.bool false) s):wp F A (qr pos v op op' ops rs u) s G:=
 wpAny_bind (wpAny_standAt (wpAny_bind (wpAny_holding (hc _ _ _ _ (wpAny_bind (wpAny_release (wpAny_bind (wpAny_holding (wpAny_truthy_bool (wpAny_pure k))))))))))
theorem y8 {rs:List (Sem Value)} {u:Value} {G:Bool→Shared→Prop} (hc:be A s op true v u) (k:wp F A (testChain pos u (op'::ops) rs) s G):wp F A (qt pos v op op' ops rs u) s G:=
 wpAny_bind (wpAny_standAt (wpAny_bind (wpAny_holding (hc _ _ _ _ (wpAny_bind (wpAny_release (wpAny_bind (wpAny_holding (wpAny_truthy_bool k)))))))))
theorem uM {rs:List (Sem Value)} {u:Value} {G:Bool→Shared→Prop} (hc:be A s op false v u) (k:G false s):wp F A (qt pos v op op' ops rs u) s G:=
 wpAny_bind (wpAny_standAt (wpAny_bind (wpAny_holding (hc _ _ _ _ (wpAny_bind (wpAny_release (wpAny_bind (wpAny_holding (wpAny_truthy_bool (wpAny_pure k))))))))))
theorem oK (S:Snd F C N n) (hA:AOk N A) (I:Inv F s ρ σ) (R:EnvR F s.heap ρ env E) (ra:VR s.heap ρ a v):OkP F [] ρ s.heap VV (wp F A (compareChain pos v ops (evalEach rs env)) s) (achain (n+1) C E σ a ops rs):=by
 match ops,rs with
 | [],[]=>exact OkP.none
 | [],_::_=>exact OkP.none
 |_::_,[]=>exact OkP.none
 | [op],_::_::_=>exact OkP.none
 | [op],[r]=>
  exact OkP.wrap (OkP.seq (P₁:=fun u s₁ G=>wp F A (compareOp op v u) s₁ G) (S.ev hA I R) fun b σ₁ u s₁ ρ₁ p₁ I₁ r₁ S₁=>OkP.opt fun c e=>OkP.ret (a:=.bool c) I₁ rfl fun G h=>eH hA I₁ e (VR.mono S₁ _ _ ra) r₁ _ _ _ _ h)
   fun G h=>wpAny_bind (wpAny_holding (wpAny_mono h (fun u s₁ h=>wpAny_bind (wpAny_standAt (wpAny_operating h))) fun __ __ z=>z))
 |op::op'::ops,r::rs=>
  refine OkP.wrap (OkP.seq (P₁:=fun u s₁ G=>wp F A (qr pos v op op' ops (evalEach rs env) u) s₁ G) (S.ev hA I R) fun b σ₁ u s₁ ρ₁ p₁ I₁ r₁ S₁=>OkP.opt fun c e=>?_) fun G h=>wpAny_bind (wpAny_holding h)
  have hc:=eH hA I₁ e (VR.mono S₁ _ _ ra) r₁
  cases c with
  |true=>exact (S.chain hA I₁ (R.mono S₁) r₁).wrap fun G h=>y7 hc h
  |false=>exact OkP.ret (a:=.bool false) I₁ rfl fun G h=>uL hc h
theorem lP (S:Snd F C N n) (hA:AOk N A) (I:Inv F s ρ σ) (R:EnvR F s.heap ρ env E) (ra:VR s.heap ρ a v):OkP F [] ρ s.heap RB (wp F A (testChain pos v ops (evalEach rs env)) s) (atchain (n+1) C E σ a ops rs):=by
 match ops,rs with
 | [],[]=>exact OkP.none
 | [],_::_=>exact OkP.none
 |_::_,[]=>exact OkP.none
 | [op],_::_::_=>exact OkP.none
 | [op],[r]=>
  exact OkP.wrap (OkP.seq (P₁:=fun u s₁ G=>wp F A (compareOp op v u) s₁ fun c s₂=>wp F A (truthy c) s₂ G) (S.ev hA I R) fun b σ₁ u s₁ ρ₁ p₁ I₁ r₁ S₁=>OkP.opt fun c e=>OkP.ret (a:=c) I₁ rfl fun G h=>eH hA I₁ e (VR.mono S₁ _ _ ra) r₁ _ _ _ _ (wpAny_truthy_bool h))
   fun G h=>wpAny_bind (wpAny_holding (wpAny_mono h (fun u s₁ h=>wpAny_bind (wpAny_standAt (wpAny_bind (wpAny_operating (wpAny_mono h (fun c s₂ h=>wpAny_holding h) fun __ __ z=>z))))) fun __ __ z=>z))
 |op::op'::ops,r::rs=>
  refine OkP.wrap (OkP.seq (P₁:=fun u s₁ G=>wp F A (qt pos v op op' ops (evalEach rs env) u) s₁ G) (S.ev hA I R) fun b σ₁ u s₁ ρ₁ p₁ I₁ r₁ S₁=>OkP.opt fun c e=>?_) fun G h=>wpAny_bind (wpAny_holding h)
  have hc:=eH hA I₁ e (VR.mono S₁ _ _ ra) r₁
  cases c with
  |true=>exact (S.tchain hA I₁ (R.mono S₁) r₁).wrap fun G h=>y8 hc h
  |false=>exact OkP.ret (a:=false) I₁ rfl fun G h=>uM hc h
theorem oM (S:Snd F C N n) (hA:AOk N A) {l:Expr} (hs:rs.any bD=false) (I:Inv F s ρ σ) (R:EnvR F s.heap ρ env E) :
  OkP F [] ρ s.heap VV (wp F A (eval (.Compare l ops rs pos) env) s) (Hp (Hs n C E σ l) fun a σ₁=>achain n C E σ₁ a ops rs):=
 OkP.wrap (OkP.seq (S.ev hA I R) fun a σ₁ v s₁ ρ₁ p₁ I₁ r₁ S₁=>S.chain hA I₁ (R.mono S₁) r₁) fun G h=>by
  show wpAny _ A (do compareChain pos (←eval l env) ops (markedEach ops rs (evalEach rs env))) _ _ s
  rw [markedEach_of_false _ _ _ (bb hs)]
  exact wpAny_bind h
end
theorem oN (S:Snd F C N n) (hA:AOk N A) {e:Expr} (I:Inv F s ρ σ) (R:EnvR F s.heap ρ env E) (he:isTrue e env (eval e env)=(do let v ←eval e env;standAt e.pos;holding [v] (truthy v))) :
  OkP F [] ρ s.heap RB (wp F A (isTrue e env (eval e env)) s) (Hp (Hs n C E σ e) fun v σ₁=>pur σ₁ (B7 σ₁ v)):=
 OkP.wrap (OkP.seq (S.ev hA I R) fun a σ₁ v s₁ ρ₁ p₁ I₁ r₁ S₁=>OkP.pur fun c e=>OkP.at (pW I₁ e r₁)) fun G h=>wpAny_isTrue_value h he
theorem qu (S:Snd F C N n) (hA:AOk N A) {l:Expr} {ops:List CmpOp} {rs:List Expr} {pos:Pos} (I:Inv F s ρ σ) (R:EnvR F s.heap ρ env E) :
  OkP F [] ρ s.heap RB (wp F A (isTrue (.Compare l ops rs pos) env (eval (.Compare l ops rs pos) env)) s) (if rs.any bD then none else Hp (Hs n C E σ l) fun a σ₁=>atchain n C E σ₁ a ops rs):=
 OkP.unless fun hs=>OkP.wrap (OkP.seq (S.ev hA I R) fun a σ₁ v s₁ ρ₁ p₁ I₁ r₁ S₁=>S.tchain hA I₁ (R.mono S₁) r₁) fun G h=>by
  show wpAny _ A (do testChain pos (←eval l env) ops (markedEach ops rs (evalEach rs env))) _ _ s
  rw [markedEach_of_false _ _ _ (bb (eq_false_of_ne_true hs))]
  exact wpAny_bind h
theorem qv (S:Snd F C N n) (hA:AOk N A) {e:Expr} (I:Inv F s ρ σ) (R:EnvR F s.heap ρ env E):OkP F [] ρ s.heap RB (wp F A (isTrue e env (eval e env)) s) (atest (n+1) C E σ e):=by
 have pl:=oN (e:=e) S hA I R
 cases e with
 |UnaryOp op x pos=>
  cases op with
  |Not=>exact OkP.wrap (OkP.seq (P₁:=fun b s₁ G=>G (!b) s₁) (S.test hA I R) fun c σ₁ c' s₁ ρ₁ p₁ I₁ r₁ S₁=>OkP.ret (a:=!c') I₁ (by rw [r₁]) fun G h=>h) fun G h=>wpAny_isTrue_Not h
  |_=>exact pl rfl
 |BoolOp op vs pos=>exact (S.all hA I R).wrap fun G h=>wpAny_isTrue_BoolOp h
 |IfExp a b c d=>exact OkP.none
 |Compare l ops rs pos=>exact qu S hA I R
 |_=>exact pl rfl
theorem uN (S:Snd F C N n) (hA:AOk N A) {op:BoolOp} {es:List Expr} (I:Inv F s ρ σ) (R:EnvR F s.heap ρ env E):OkP F [] ρ s.heap RB (wp F A (allTrue op es env) s) (aall (n+1) C E σ op es):=by
 cases es with
 |nil=>
  cases op with
  |And=>exact OkP.ret (a:=true) I rfl fun G h=>wpAny_allTrue_And_nil h
  |Or=>exact OkP.ret (a:=false) I rfl fun G h=>wpAny_allTrue_Or_nil h
 |cons e r=>
  cases op with
  |And=>
   refine OkP.wrap (OkP.seq (S.test hA I R) fun c σ₁ c' s₁ ρ₁ p₁ I₁ r₁ S₁=>OkP.branch ?_) fun G h=>wpAny_allTrue_And_cons h
   subst r₁
   cases c' with
   |false=>exact OkP.ret (a:=false) I₁ rfl fun G h=>h
   |true=>exact S.all hA I₁ (R.mono S₁)
  |Or=>
   refine OkP.wrap (OkP.seq (S.test hA I R) fun c σ₁ c' s₁ ρ₁ p₁ I₁ r₁ S₁=>OkP.branch ?_) fun G h=>wpAny_allTrue_Or_cons h
   subst r₁
   cases c' with
   |true=>exact OkP.ret (a:=true) I₁ rfl fun G h=>h
   |false=>exact S.all hA I₁ (R.mono S₁)
theorem qw {a:AV} {b:Bool} (e:p6 a=some b):a = .bool b:=by cases a<;>first | exact aa e | exact congrArg AV.bool (Option.some.inj e)
theorem qx (S:Snd F C N n) (hA:AOk N A) {op:BoolOp} {es:List Expr} {pos:Pos} (I:Inv F s ρ σ) (R:EnvR F s.heap ρ env E):OkP F [] ρ s.heap VV (wp F A (boolOp pos op (evalEach es env)) s) (abool (n+1) C E σ op es):=by
 match es with
 | []=>exact OkP.none
 | [e]=>exact S.ev hA I R
 |e::e'::r=>
  refine OkP.wrap (OkP.seq (P₁:=fun u s₁ G=>wp F A (truthy u) s₁ fun b s₂=>match op with | .And=>(if b=true then wp F A (boolOp pos op (evalEach (e'::r) env)) s₂ G else G u s₂) | .Or=>(if b=true then G u s₂ else wp F A (boolOp pos op (evalEach (e'::r) env)) s₂ G))
   (S.ev hA I R) fun a σ₁ u s₁ ρ₁ p₁ I₁ r₁ S₁=>OkP.opt fun b e=>?_) fun G h=>wpAny_bind (wpAny_mono h (fun u s₁ h=>wpAny_bind (wpAny_standAt (wpAny_bind (wpAny_holding (wpAny_mono h (fun b s₂ h=>?_) fun __ __ z=>z))))) fun __ __ z=>z)
  ·rw [qw e] at r₁
   cases r₁
   cases op<;>cases b
   ·exact OkP.ret (a:=.bool false) I₁ rfl fun G h=>wpAny_truthy_bool h
   ·exact (S.bool hA I₁ (R.mono S₁)).wrap fun G h=>wpAny_truthy_bool h
   ·exact (S.bool hA I₁ (R.mono S₁)).wrap fun G h=>wpAny_truthy_bool h
   ·exact OkP.ret (a:=.bool true) I₁ rfl fun G h=>wpAny_truthy_bool h
  ·cases op<;>cases b<;>first | exact wpAny_pure h | exact h
end
end Internal
namespace Internal
section
variable {F:Fix} {C:Cfg} {N n:Nat} {A:Around} {env:Env} {E:AEnv} {s s₁:Shared} {ρ ρ₁:Rg} {σ σ' σ₁:St} {p q pq:Bool} {fa:List Addr}
theorem eI {e:Expr} {o i:Value} (h:dg e=false):subscripted e false o i=operate [o,i] (getItem o i):=by
 cases e<;>first | rfl | exact nomatch h
theorem ir {k:Int} (h:small k=true) : -(2 ^ 60) < k∧k < 2 ^ 60:=by
 unfold small at h
 rw [decide_eq_true_iff] at h
 omega
theorem j5 {k:Int} {m j:Nat} (h:seqIndex? k m=some j):(k < 0∧0≤k+m∧(k+m).toNat=j∧j < m)∨(¬ k < 0∧k.toNat=j∧j < m):=by
 unfold seqIndex? at h
 by_cases h0:k < 0
 ·simp only [h0,if_true] at h
  split at h
  ·rename_i hc
   rw [Bool.and_eq_true,decide_eq_true_iff,decide_eq_true_iff] at hc
   cases h
   left;exact ⟨h0,hc.1,rfl,by omega⟩
  ·cases h
 ·simp only [h0,if_false] at h
  split at h
  ·rename_i hc
   rw [Bool.and_eq_true,decide_eq_true_iff,decide_eq_true_iff] at hc
   cases h
   right;exact ⟨h0,rfl,by omega⟩
  ·cases h
theorem nb {l:List AV} {vs:Array Value} {k:Int} {r:AV} {h:Heap} (hl:VRs h ρ l vs.toList) (e:lI l k=some r) {G:Prop} (g:∀ j v,-(2 ^ 60) < k→k < 2 ^ 60→seqIndex? k vs.size=some j→vs[j]? = some v→VR h ρ r v→G):G:=by
 unfold lI at e
 by_cases hs:small k=true
 ·rw [if_pos hs] at e
  exact ad e fun j hj hr=>let ⟨v,hv,hvr⟩:=hl.get hr;g j v (ir hs).1 (ir hs).2 (hl.size▸hj) (by simpa using hv) hvr
 ·rw [if_neg hs] at e;exact aa e
theorem j6 {l:Addr} {vs:Array Value} {n:Nat} {L:List AV} {k:Int} {t:Tok} {r:AV} {value slice:Expr} (ho:s.heap.get? l=some (aD vs n)) (hl:VRs s.heap ρ L vs.toList)
  (hs:dg slice=false) (h:lI L k=some r) (I:Inv F s ρ σ):Ok F A fa (subscriptTail value slice (.ref l) (.int k t)) s ρ σ true (VV r):=by
 have hL:s.heap.IsList l vs:=⟨_,ho,rfl,_,rfl⟩
 refine nb hl h fun j v k1 k2 hj hv hvr=>tail_any hL.typeIs slot_list_getitem.lookup ?_ (eI hs)
 rcases j5 hj with ⟨h0,h1,h2,h3⟩ | ⟨h0,h2,h3⟩
 ·exact wpAny_getItem_list_neg hL h0 (by omega) (by omega) (by rw [h2];exact hv) ⟨ρ,I,hvr,Stp.refl⟩
 ·exact wpAny_getItem_list hL (by omega) (by omega) (by rw [h2];exact hv) ⟨ρ,I,hvr,Stp.refl⟩
theorem y9 {o i r:AV} {v u:Value} {value slice:Expr} (h:B9 σ o i=some r) (hs:dg slice=false) (I:Inv F s ρ σ) (ro:VR s.heap ρ o v) (ri:VR s.heap ρ i u) :
  Ok F A fa (subscriptTail value slice v u) s ρ σ true (VV r):=by
 refine ad h fun k e h2=>?_
 clear h
 have e:i = .int k:=by cases i<;>first | exact aa e | exact congrArg AV.int (Option.some.inj e)
 subst e
 obtain ⟨t,rfl⟩:=ri
 cases o with
 |lst l=>
  obtain ⟨a,vs,n,rfl,_,hob,hl⟩:=ro
  exact j6 hob hl hs h2 I
 |ref j=>exact ad h2 fun l e1 e2=>d7 I e1 ro fun b vs n hv __ ho hl=>hv▸j6 ho hl hs e2 I
 |tup l=>
  obtain ⟨a,vs,n,rfl,_,hob,hl⟩:=ro
  have hT:IsTup s.heap a vs:=⟨_,hob,rfl,_,rfl⟩
  exact nb hl h2 fun j v k1 k2 hj hv hvr=>tail_any hT.typeIs PySem.F.slot_tuple_getitem.lookup (PyProof.Rows.getItem_tuple hT (by omega) (by omega) hj hv ⟨ρ,I,hvr,Stp.refl⟩) (eI hs)
 |str x=>
  obtain ⟨t',rfl⟩:=ro
  exact al h2 fun hk e=>tail_any (typeIs_str s _ _) PySem.F.slot_str_getitem.lookup (SB.getItem hk.1 hk.2 (e▸aU I _ ⟨_,rfl⟩)) (eI hs)
 |_=>exact aa h2
theorem bq {a:AV} {j:Nat} (e:ia a=some j):a = .ref j:=by cases a<;>first | exact aa e | exact congrArg AV.ref (Option.some.inj e)
theorem aX {a:AV} {c:Str} (e:db a=some c):a = .str c:=by cases a<;>first | exact aa e | exact congrArg AV.str (Option.some.inj e)
theorem qy {j:Nat} {d:List (Str×AV)} (e:aQ σ j=some d):σ[j]? = some (.dic d):=by
 unfold aQ at e
 split at e
 ·rename_i h;exact h.trans (congrArg (fun l=>some (AObj.dic l)) (Option.some.inj e))
 ·cases e
theorem nc {j:Nat} {d:List (Str×AV)} {v:Value} (I:Inv F s ρ σ) (e:aQ σ j=some d) (r:VR s.heap ρ (.ref j) v) {G:Prop} (k:∀ b kvs,v = .ref b→ρ.l[j]? = some b→s.heap.DictOf (strKind F.prog F.w) b kvs→DR s.heap ρ d kvs→G):G:=by
 obtain ⟨b,rfl,hb⟩:=r
 obtain ⟨kvs,ho,hv⟩:=I.objs j b _ hb (qy e)
 exact k b kvs rfl hb ho hv
theorem qz {h:Heap} {d:List (Str×AV)} {k:Str} {a:AV} {kvs:List (Str×Value)} (r:DR h ρ ((k,a)::d) kvs) {G:Prop} (g:∀ v r',kvs=(k,v)::r'→VR h ρ a v→DR h ρ d r'→G):G:=by
 match kvs,r with
 |(k',v)::r',⟨h1,h2⟩=>
  obtain ⟨rfl,h3⟩:=List.cons.inj h1
  exact g v r' rfl h2.1 ⟨h3,h2.2⟩
theorem x5 {h:Heap} {k:Str} {a:AV} : ∀ {d:List (Str×AV)} {kvs:List (Str×Value)},DR h ρ d kvs→d.lookup k=some a→∃ v,valueAt kvs k=some v∧VR h ρ a v
 | [],_,_,e=>nomatch e
 |(k',a')::d,kvs,r,e=>qz r fun v r' ek hv hr=>by
  subst ek
  rw [List.lookup_cons] at e
  unfold valueAt
  rw [List.find?_cons]
  by_cases hk:k=k'
  ·subst hk
   rw [beq_self_eq_true] at e
   cases e
   exact ⟨v,by simp,hv⟩
  ·have h1:(k==k')=false:=by simpa using hk
   rw [h1] at e
   rw [show decide ((k',v).1=k)=false from decide_eq_false (Ne.symm hk)]
   exact x5 hr e
theorem za {o i r:AV} {v u:Value} {value slice:Expr} (h:B8 σ o i=some r) (hs:dg slice=false) (I:Inv F s ρ σ) (ro:VR s.heap ρ o v) (ri:VR s.heap ρ i u) :
  Ok F A fa (subscriptTail value slice v u) s ρ σ true (VV r):=ad h fun k e h1=>ad h1 fun j e2 h2=>ad h2 fun d e3 h3=>by
 clear h h1 h2
 have e:=aX e
 have e2:=bq e2
 subst e e2
 obtain ⟨t,rfl⟩:=ri
 exact nc I e3 ro fun b kvs hv hb hd hr=>by
  subst hv
  obtain ⟨v,hv,hvr⟩:=x5 hr h3
  exact tail_any hd.typeIs slot_dict_getitem.lookup (wpAny_getItem_of (strKind_is F.prog F.w k t) hd.mapOf hv ⟨ρ,I.toks _,hvr,Stp.refl⟩) (eI hs)
theorem qA {o i r:AV} {v u:Value} {value slice:Expr} (h:ib σ o i=some r) (hs:dg slice=false) (I:Inv F s ρ σ) (ro:VR s.heap ρ o v) (ri:VR s.heap ρ i u) :
  Ok F A fa (subscriptTail value slice v u) s ρ σ true (VV r):=az h (fun h=>y9 h hs I ro ri) fun h=>za h hs I ro ri
theorem j7 (S:Snd F C N n) (hA:AOk N A) {e i:Expr} {pos:Pos} (hs:dg i=false) (I:Inv F s ρ σ) (R:EnvR F s.heap ρ env E) :
  OkP F [] ρ s.heap VV (wp F A (eval (.Subscript e i pos) env) s) (Hp (Hs n C E σ e) fun o σ₁=>Hp (Hs n C E σ₁ i) fun k σ₂=>pur σ₂ (ib σ₂ o k)):=
 OkP.wrap (OkP.seq (S.ev hA I R) fun a σ₁ v s₁ ρ₁ p₁ I₁ r₁ S₁=>OkP.seq (S.ev hA I₁ (R.mono S₁)) fun b σ₂ u s₂ ρ₂ p₂ I₂ r₂ S₂=>OkP.pur fun c e=>OkP.at (qA e hs I₂ (VR.mono S₂ _ _ r₁) r₂)) fun G h=>Subscript_ h
end
end Internal
namespace Internal
section
variable {F:Fix} {C:Cfg} {N n:Nat} {A:Around} {env:Env} {E:AEnv} {s s₁:Shared} {ρ ρ₁:Rg} {σ σ' σ₁:St} {p q pq:Bool} {fa:List Addr}
theorem gA {a:AV} {v:Value} {x:Option Int} {h:Heap} (e:ux a=some x) (r:VR h ρ a v):IsPart v x:=by
 cases a with
 |none=>cases e;cases r;exact .none
 |int i=>cases e;obtain ⟨t,rfl⟩:=r;exact .int _ _
 |_=>exact aa e
theorem ng {h:Heap} {l:List AV} {vs:Array Value} {lo hi st:Option Int} (r:VRs h ρ l vs.toList):VRs h ρ (lJ l lo hi st) (slicePick vs lo hi st).toList:=by
 unfold lJ slicePick
 rw [←r.size]
 have key:∀ is:List Nat,VRs h ρ (is.filterMap (l[·]?)) (is.filterMap (vs[·]?)):=by
  intro is
  induction is with
  |nil=>trivial
  |cons i is ih=>
   cases e:l[i]? with
   |none=>
    have:vs[i]? = none:=by
     cases e2:vs[i]? with
     |none=>rfl
     |some v=>
      obtain ⟨a,ha,_⟩:=r.get' (i:=i) (v:=v) (by simpa using e2)
      rw [e] at ha;cases ha
    rw [List.filterMap_cons,List.filterMap_cons,e,this]
    exact ih
   |some a=>
    obtain ⟨v,hv,hr⟩:=r.get e
    have:vs[i]? = some v:=by simpa using hv
    rw [List.filterMap_cons,List.filterMap_cons,e,this]
    exact ⟨hr,ih⟩
 exact key _
theorem nh {v:Value} {x:Option Int} (h:IsPart v x):∃ y:Option (Int×Tok),y.map (·.1)=x∧v=partValue y:=by
 cases h with
 |none=>exact ⟨none,rfl,rfl⟩
 |int i t=>exact ⟨some (i,t),rfl,rfl⟩
theorem gB {lo hi st:Option Expr} {pos:Pos} {o i:Value} : ∃ ops,subscripted (.Slice lo hi st pos) false o i=operate ops (getItem o i):=by
 cases st with
 |none=>exact ⟨_,rfl⟩
 |some e=>exact ⟨_,rfl⟩
section
variable {vl vu vst:Value} {l u st:Option Int} {pos ps:Pos} {value:Expr} {elo ehi est:Option Expr}
noncomputable abbrev fO (vl vu vst:Value):Obj:={ cls:=.type "slice", data:=.fields #[vl,vu,vst] }
theorem iu {b:Addr} {vs:Array Value} {m:Nat} {L:List AV} (ho:s.heap.get? b=some (aD vs m)) (hl:VRs s.heap ρ L vs.toList) (pl:IsPart vl l) (pu:IsPart vu u) (pst:IsPart vst st) (h0:st≠some 0) (I:Inv F s ρ σ) :
  OkP F [] ρ s.heap VV (wp F A (subscriptTail value (.Slice elo ehi est ps) (.ref b) (.ref s.heap.objs.size)) { s with heap:=s.heap.push (fO vl vu vst) }) (j2 C pos σ l u st L):=by
 have up:∀ b o,s.heap.get? b=some o→(s.heap.push (fO vl vu vst)).get? b=some o:=fun b o e=>Heap.get?_push_of_some _ e
 have hL:(s.heap.push (fO vl vu vst)).IsList b vs:=⟨_,up _ _ ho,rfl,_,rfl⟩
 obtain ⟨ops,hops⟩:=gB (lo:=elo) (hi:=ehi) (st:=est) (pos:=ps) (o:=.ref b) (i:=.ref s.heap.objs.size)
 refine OkP.when fun hz=>fun b σ' p e G k=>Ci (vs:=(slicePick vs l u st).toList) (P:=wp F A (subscriptTail value (.Slice elo ehi est ps) (.ref _) (.ref s.heap.objs.size)) { s with heap:=s.heap.push (fO vl vu vst) }) (I.push (fO vl vu vst) s.toks) (VRs.mono (fa:=[]) (Stp.keeps up) _ _ (ng hl))
  (fun __ G h=>tail_any (T := "list") hL.typeIs slot_list_getitem.lookup (wpAny_getItem_list_slice hL ⟨_,Heap.get?_push_size _ rfl,rfl,rfl⟩ pl pu pst h0 h (hl.size▸aI hz)) hops) b σ' p e G fun a s' ⟨ρ',I',r',S'⟩=>k a s' ⟨ρ',I',r',by simpa using (Stp.keeps up).trans S'⟩
theorem qB {x:Str} {t:Tok} (pl:IsPart vl l) (pu:IsPart vu u) (pst:IsPart vst st) (I:Inv F s ρ σ) :
  OkP F [] ρ s.heap VV (wp F A (subscriptTail value (.Slice elo ehi est ps) (.str x t) (.ref s.heap.objs.size)) { s with heap:=s.heap.push (fO vl vu vst) }) (xW σ l u st x):=by
 refine OkP.when fun ⟨hs,hz⟩=>?_
 subst hs
 cases pst
 obtain ⟨l,rfl,rfl⟩:=nh pl
 obtain ⟨u,rfl,rfl⟩:=nh pu
 obtain ⟨ops,hops⟩:=gB (lo:=elo) (hi:=ehi) (st:=est) (pos:=ps) (o:=.str x t) (i:=.ref s.heap.objs.size)
 refine OkP.some fun G k=>tail_any (typeIs_str _ _ _) PySem.F.slot_str_getitem.lookup (wpAny_getItem_str_slice (l:=l) (u:=u) (st:=none) ⟨_,Heap.get?_push_size _ rfl,rfl,?_⟩ rfl
  (post_val_or_str ⟨Nat.le_trans (Txt.slice_le _ _ _) (aI hz),fun t' k'=>k _ _ ⟨ρ,I.push _ _,⟨_,rfl⟩,Stp.keeps fun __ __ e=>Heap.get?_push_of_some _ e⟩⟩)) hops
 cases l<;>cases u<;>rfl
theorem uO {o:AV} {v:Value} (pl:IsPart vl l) (pu:IsPart vu u) (pst:IsPart vst st) (h0:st≠some 0) (I:Inv F s ρ σ) (ro:VR s.heap ρ o v) :
  OkP F [] ρ s.heap VV (wp F A (subscriptTail value (.Slice elo ehi est ps) v (.ref s.heap.objs.size)) { s with heap:=s.heap.push (fO vl vu vst) }) (xX C pos σ l u st o):=by
 cases o with
 |lst L=>obtain ⟨a,vs,m,rfl,_,hob,hl⟩:=ro;exact iu hob hl pl pu pst h0 I
 |ref j=>exact OkP.opt fun L e=>d7 I e ro fun b vs n hv __ ho hl=>hv▸iu ho hl pl pu pst h0 I
 |str x=>obtain ⟨t,rfl⟩:=ro;exact qB pl pu pst I
 |_=>exact OkP.none
end
theorem uP (S:Snd F C N n) (hA:AOk N A) {e:Expr} {lo hi st:Option Expr} {ps pos:Pos} (I:Inv F s ρ σ) (R:EnvR F s.heap ρ env E) :
  OkP F [] ρ s.heap VV (wp F A (eval (.Subscript e (.Slice lo hi st ps) pos) env) s) (Hp (Hs n C E σ e) fun o σ₁=>Hp (apart n C E σ₁ lo) fun l σ₂=>Hp (apart n C E σ₂ hi) fun h σ₃=>Hp (apart n C E σ₃ st) fun s σ₄=>fN C pos σ₄ o l h s):=
 OkP.wrap (OkP.seq (S.ev hA I R) fun o σ₁ v s₁ ρ₁ p₁ I₁ r₁ S₁=>OkP.seq (S.part hA I₁ (R.mono S₁)) fun l σ₂ vl s₂ ρ₂ p₂ I₂ r₂ S₂=>OkP.seq (S.part hA I₂ ((R.mono S₁).mono S₂)) fun u σ₃ vu s₃ ρ₃ p₃ I₃ r₃ S₃=>
  OkP.seq (P₁:=fun vt s₄ G=>wp F A (subscriptTail e (.Slice lo hi st ps) v (.ref s₄.heap.objs.size)) { s₄ with heap:=s₄.heap.push (fO vl vu vt) } G) (S.part hA I₃ (((R.mono S₁).mono S₂).mono S₃)) fun t σ₄ vt s₄ ρ₄ p₄ I₄ r₄ S₄=>
   OkP.opt fun l' e1=>OkP.opt fun u' e2=>OkP.opt fun t' e3=>OkP.unless fun h0=>
    uO (gA e1 (VR.mono S₄ _ _ (VR.mono S₃ _ _ r₂))) (gA e2 (VR.mono S₄ _ _ r₃)) (gA e3 r₄) h0 I₄ (VR.mono S₄ _ _ (VR.mono S₃ _ _ (VR.mono S₂ _ _ r₁))))
  fun G h=>Subscript_ (wpAny_mono h (fun v s₁ h=>wpAny_Slice h) fun __ __ z=>z)
end
end Internal
namespace Internal
section
variable {F:Fix} {K:Frag} {C:Cfg} {N n:Nat} {A:Around} {env:Env} {E:AEnv} {s s₁:Shared} {ρ ρ₁:Rg} {σ σ' σ₁:St} {p q pq:Bool} {fa:List Addr}
theorem x6 {h:Heap} : ∀ {d:List (Str×AV)} {es:List DictEntry},NsR h ρ d es→es.any (·.refKey)=false
 | [],[],_=>rfl
 |(k,av)::d,e::es,r=>by
  obtain ⟨⟨t,hk⟩,_,r⟩:=r
  rw [List.any_cons,x6 r,Bool.or_false]
  unfold DictEntry.refKey
  rw [hk];try rfl
 | [],_::_,r=>r.elim
 |_::_,[],r=>r.elim
theorem ni {k name:Str} {t:Tok} : (Value.str k t).isStr name=(k==name):=rfl
theorem d5 {h:Heap} {name:Str} : ∀ {d:List (Str×AV)} {es:List DictEntry},NsR h ρ d es →
  (∀ av,d.lookup name=some av→∃ v,getL name es=some (some v)∧VR h ρ av v)∧(d.lookup name=none→getL name es=some none)
 | [],[],_=>⟨fun __ e=>(nomatch e),fun __=>rfl⟩
 |(k,a)::d,e::es,r=>by
  obtain ⟨⟨t,hk⟩,hv,r⟩:=r
  have ih:=d5 (name:=name) r
  have hr:=x6 r
  unfold getL
  rw [List.find?_cons,hk,ni,List.lookup_cons]
  by_cases hkn:k=name
  ·subst hkn
   simp only [beq_self_eq_true]
   exact ⟨fun av e=>by cases e;exact ⟨_,rfl,hv⟩,fun e=>(nomatch e)⟩
  ·have h1:(k==name)=false:=by simpa using hkn
   have h2:(name==k)=false:=by simpa using Ne.symm hkn
   rw [h1,h2]
   simp only
   have h3:(e::es).any (·.refKey)=es.any (·.refKey):=by
    rw [List.any_cons]
    have:e.refKey=false:=by unfold DictEntry.refKey;rw [hk];try rfl
    rw [this,Bool.false_or]
   rw [h3]
   exact ih
 | [],_::_,r=>r.elim
 |_::_,[],r=>r.elim
theorem CfgOk.inK (KC:CfgOk F K C N) (I:Inv F s ρ σ):K.In s.heap:=fun a o e=>I.base a o (KC.frag a o e).2 (KC.frag a o e).1
theorem gc {d:Nat} {m:List (Str×AV)} (e:pX σ d=some m):σ[d]? = some (.ns m):=by
 unfold pX at e
 split at e
 ·rename_i h;exact h.trans (congrArg (fun l=>some (AObj.ns l)) (Option.some.inj e))
 ·cases e
set_option tactic.hygienic true in
theorem iv {i:Nat} {q:Addr×List (Str×AV)} (e:dh σ i=some q):∃ d,σ[i]? = some (.inst q.1 d)∧σ[d]? = some (.ns q.2):=by
 unfold dh at e
 split at e
 ·rename_i D d h
  exact ao e fun m e1 e2=>e2▸⟨d,h,gc e1⟩
 ·cases e
set_option tactic.hygienic true in
theorem qC {i:Nat} {q:Addr×List (Str×AV)} (e:oJ σ i=some q):∃ d l,σ[i]? = some (.acc q.1 d l)∧σ[d]? = some (.ns q.2):=by
 unfold oJ at e
 split at e
 ·rename_i D d l h
  exact ao e fun m e1 e2=>e2▸⟨d,l,h,gc e1⟩
 ·cases e
inductive InstS (s:Shared) (ρ:Rg) (a:Addr) (D:Addr) (d:Nat) (m:List (Str×AV)):Prop
 |mk (b:Addr) (es:List DictEntry) (k:Nat) (e1:s.heap.get? a=some { cls:=.ref D,dict:=some b }) (e2:s.heap.get? b=some (dictOf es k)) (hb:ρ.l[d]? = some b) (R:NsR s.heap ρ m es) (IA:InstAt s.heap a { cls:=.ref D,dict:=some b } D (some (dictOf es k))):InstS s ρ a D d m
theorem lQ (I:Inv F s ρ σ) {i D d:Nat} {a:Addr} {m:List (Str×AV)} (ha:ρ.l[i]? = some a) (ho:σ[i]? = some (.inst D d)) (hd:σ[d]? = some (.ns m)):InstS s ρ a D d m:=by
 obtain ⟨b,hb,e⟩:=I.objs i a _ ha ho
 obtain ⟨es,k,e2,r⟩:=I.objs d b _ hb hd
 exact ⟨b,es,k,e,e2,hb,r,e,rfl,rfl,e2⟩
inductive AccS (s:Shared) (ρ:Rg) (a:Addr) (D:Addr) (d:Nat) (l:List AV) (m:List (Str×AV)):Prop
 |mk (b:Addr) (vs:Array Value) (n:Nat) (es:List DictEntry) (k:Nat) (e1:s.heap.get? a=some { cls:=.ref D,dict:=some b,data:=.seq vs n }) (e2:s.heap.get? b=some (dictOf es k)) (hb:ρ.l[d]? = some b) (R:NsR s.heap ρ m es) (R2:VRs s.heap ρ l vs.toList)
  (IA:InstAt s.heap a { cls:=.ref D,dict:=some b,data:=.seq vs n } D (some (dictOf es k))):AccS s ρ a D d l m
theorem cM (I:Inv F s ρ σ) {i D d:Nat} {a:Addr} {l:List AV} {m:List (Str×AV)} (ha:ρ.l[i]? = some a) (ho:σ[i]? = some (.acc D d l)) (hd:σ[d]? = some (.ns m)):AccS s ρ a D d l m:=by
 obtain ⟨b,vs,n,hb,e,r0⟩:=I.objs i a _ ha ho
 obtain ⟨es,k,e2,r⟩:=I.objs d b _ hb hd
 exact ⟨b,vs,n,es,k,e,e2,hb,r,r0,e,rfl,rfl,e2⟩
theorem qD {h:Heap} {av:AV} {v:Value} (r:VR h ρ av v) (hv:∀ u,av ≠ .val u):handedIn v=true:=by
 cases av with
 |none=>cases r;rfl
 |bool b=>cases r;rfl
 |int i=>obtain ⟨t,rfl⟩:=r;rfl
 |flt b=>obtain ⟨t,rfl⟩:=r;rfl
 |str x=>obtain ⟨t,rfl⟩:=r;rfl
 |tup l=>obtain ⟨a,vs,n,rfl,_⟩:=r;rfl
 |lst l=>obtain ⟨a,vs,n,rfl,_⟩:=r;rfl
 |rng a b=>obtain ⟨r,t,u,w,rfl,_⟩:=r;rfl
 |ref i=>obtain ⟨a,rfl,_⟩:=r;rfl
 |bm f i=>obtain ⟨a,b,rfl,_⟩:=r;rfl
 |lam i=>obtain ⟨a,c,c',pm,ct,oc,vs,t,rfl,_⟩:=r;rfl
 |val u=>exact absurd rfl (hv u)
theorem nj {D a:Addr} {ox:Obj} {es:List DictEntry} {k:Nat} {name:Str} {m:List (Str×AV)} {av:AV} {expr:Bool} (KC:CfgOk F K C N) (I:Inv F s ρ σ) (IA:InstAt s.heap a ox D (some (dictOf es k)))
  (R:NsR s.heap ρ m es) (hm:m.lookup name=some av) (hf:C.free D name=true) (hv:∀ u,av ≠ .val u) {Q:Value→Shared→Prop} {E:Value→Shared→Prop} (hq:∀ v,VR s.heap ρ av v→Q v { s with toks:=s.toks+1 }) :
  wpAny (model F.prog F.w) A (getAttr (.ref a) name expr) Q E s:=by
 obtain ⟨v,hg,hr⟩:=(d5 R).1 av hm
 obtain ⟨c,hc⟩:=KC.cls D name (.inr hf)
 exact get_value (KC.inK I) IA (plainGet_of c.get).1 (findObj_own c.dict (KC.free D name hf).find rfl (by rw [lookIn_dict,hg])) (qD hr hv) (hq v hr)
theorem qE {D a f:Addr} {i:Nat} {ox:Obj} {es:List DictEntry} {k:Nat} {name:Str} {m:List (Str×AV)} {expr:Bool} (KC:CfgOk F K C N) (I:Inv F s ρ σ) (ha:ρ.l[i]? = some a) (IA:InstAt s.heap a ox D (some (dictOf es k)))
  (R:NsR s.heap ρ m es) (hm:m.lookup name=none) (hf:C.meth D name=some f):Ok F A fa (getAttr (.ref a) name expr) s ρ σ true (VV (.bm f i)):=by
 obtain ⟨c,hc⟩:=KC.cls D name (.inl (by rw [hf];rfl))
 have M:=KC.meth D name f hf
 have IK:=KC.inK I
 exact get_bind IK IA (plainGet_of c.get).1 (findObj_fn c.dict M.find M.fget M.takes hc (by rw [lookIn_dict];exact (d5 R).2 hm)) (plainGet_of c.get).2
  (wpAny_call (fn_get (s:={ s with toks:=s.toks+1 }) IK M.type (handed_on rfl ⟨ρ,I.push _ _,⟨_,a,rfl,I.new_out (Nat.le_refl _),Heap.get?_push_size _ rfl,ha⟩,Stp.keeps fun __ __ e=>Heap.get?_push_of_some _ e⟩)))
theorem iw (KC:CfgOk F K C N) {ov r:AV} {v:Value} {name:Str} {expr:Bool} (h:lO C σ ov name=some r) (I:Inv F s ρ σ) (ro:VR s.heap ρ ov v) :
  Ok F A fa (getAttr v name expr) s ρ σ true (VV r):=by
 cases ov with
 |ref i=>
  refine ad h fun q e h=>?_
  obtain ⟨d,hi,hd⟩:=iv e
  obtain ⟨a,rfl,ha⟩:=ro
  obtain ⟨b,es,k,e1,e2,hb,R,IA⟩:=lQ I ha hi hd
  unfold yX at h
  cases hm:q.2.lookup name with
  |some av=>
   rw [hm] at h
   exact al h fun hc e=>e▸nj KC I IA R hm hc.2 (fun u e=>by rw [e] at hc;cases hc.1) fun v hr=>⟨ρ,I.toks _,hr,Stp.refl⟩
  |none=>
   rw [hm] at h
   exact ao h fun f hf e=>e▸qE KC I ha IA R hm hf
 |_=>exact aa h
theorem aG {o:Expr} {name:Str} {m:Sem Value} (h:bo o=false):attributeBase o name env m=m:=by
 unfold attributeBase
 split
 ·cases h
 ·rfl
theorem zb (S:Snd F C N n) (KC:CfgOk F K C N) (hA:AOk N A) {o:Expr} {name:Str} {pos:Pos} (hb:bo o=false) (I:Inv F s ρ σ) (R:EnvR F s.heap ρ env E) :
  OkP F [] ρ s.heap VV (wp F A (eval (.Attribute o name pos) env) s) (Hp (Hs n C E σ o) fun ov σ₁=>pur σ₁ (lO C σ₁ ov name)):=
 OkP.wrap (OkP.seq (S.ev hA I R) fun ov σ₁ v s₁ ρ₁ p₁ I₁ r₁ S₁=>OkP.pur fun c e=>OkP.at (iw KC e I₁ r₁)) fun G h=>by
  show wpAny _ _ _ _ _ _
  rw [arm_eval_Attribute,aG hb]
  exact wpAny_bind (wpAny_mono h (fun v s₁ h=>wpAny_bind (wpAny_standAt (wpAny_bind (wpAny_holding (wpAny_mono h (fun a s' hq=>wpAny_bind (wpAny_letTemporaryGo (wpAny_pure hq))) fun __ __ z=>z))))) fun __ __ z=>z)
noncomputable def MCall (F:Fix) (N:Nat) (h:Heap) (ρ:Rg) (fx:Value×List Value) (Φ:Fn) (first:List AV):Prop:=
 (CallOk F N fx.1 Φ∧VRs h ρ first fx.2)∨(∃ j,first=[.lam j]∧fx.2=[]∧VR h ρ (.lam j) fx.1∧qj F N Φ)
theorem MCall.mono {h h':Heap} {fx:Value×List Value} {Φ:Fn} {first:List AV} (x:MCall F N h ρ fx Φ first) (S:Stp fa p ρ h ρ₁ h'):MCall F N h' ρ₁ fx Φ first:=by
 rcases x with ⟨a,b⟩ | ⟨j,a,b,c,d⟩
 ·exact .inl ⟨a,VRs.mono S _ _ b⟩
 ·exact .inr ⟨j,a,b,VR.mono S _ _ c,d⟩
theorem nk {name a b:Str} {x y id:String} (h:(if name=a then some x else if name=b then some y else none)=some id):(name=a∧id=x)∨(name=b∧id=y):=by
 by_cases h1:name=a
 ·rw [if_pos h1] at h;exact .inl ⟨h1,(Option.some.inj h).symm⟩
 ·rw [if_neg h1] at h
  by_cases h2:name=b
  ·rw [if_pos h2] at h;exact .inr ⟨h2,(Option.some.inj h).symm⟩
  ·rw [if_neg h2] at h;cases h
theorem ft {name:Str} {x:Str} {t:Tok} {id:String} {pl:Sem Bool} {Q:Value×List Value→Shared→Prop} {E:Value→Shared→Prop} (h:lN name=some id) (hq:Q (.builtin id,[.str x t]) s) :
  wpAny (model F.prog F.w) A (getMethod (.str x t) name pl) Q E s:=by
 have key:Slot "str" name id∧typeOf (.builtin id)=pure (.type "method_descriptor"):=by
  unfold lN at h
  rcases nk h with ⟨e1,e2⟩ | ⟨e1,e2⟩<;>rw [e1,e2]
  ·exact ⟨PySem.F.slot_str_join,PySem.F.type_str_join⟩
  ·exact ⟨PySem.F.slot_str_count,PySem.F.type_str_count⟩
 have h1:s.TypeIs (.str x t) "str" := typeIs_str _ _ _
 have h2:∀ a,Value.str x t = .ref a→∃ o,s.heap.get? a=some o∧o.dict=none:=fun a e=>by cases e
 exact getMethod_builtin h1 PySem.F.plainAttrs_str key.1 key.2 h2 hq
theorem gC {name:Str} {a:Addr} {vs:Array Value} {k:Nat} {id:String} {pl:Sem Bool} {Q:Value×List Value→Shared→Prop} {E:Value→Shared→Prop} (ho:s.heap.get? a=some (aD vs k)) (h:ja name=some id) (hq:Q (.builtin id,[.ref a]) s) :
  wpAny (model F.prog F.w) A (getMethod (.ref a) name pl) Q E s:=by
 have hT:s.TypeIs (.ref a) "list" := ⟨_,ho,rfl⟩
 have hd:∀ b,Value.ref a = .ref b→∃ o,s.heap.get? b=some o∧o.dict=none:=fun b e=>by cases e;exact ⟨_,ho,rfl⟩
 have key:Slot "list" name id∧typeOf (.builtin id)=pure (.type "method_descriptor"):=by
  unfold ja at h
  rcases nk h with ⟨e1,e2⟩ | ⟨e1,e2⟩<;>rw [e1,e2]
  ·exact ⟨PySem.F.slot_list_append,PySem.F.type_list_append⟩
  ·exact ⟨PySem.F.slot_list_pop,PySem.F.type_list_pop⟩
 exact getMethod_builtin hT PySem.F.plainAttrs_list key.1 key.2 hd hq
theorem gD {v:Value} {first:List AV} {q:Fn×List AV} (h:Hr C v first=some q) {G:Prop} (k:C.Γ v=some q.1→first=q.2→G):G:=ao h fun Φ e1 e2=>k (e2▸e1) (e2▸rfl)
theorem gE {x f CC:Addr} {ox od:Obj} {name:Str} {pl:Sem Bool} {Q:Value×List Value→Shared→Prop} {E:Value→Shared→Prop} (X:K.In s.heap) (I:InstAt s.heap x ox CC (some od)) (hga:findIn K (.ref CC) "__getattribute__" = some (some (.builtin "list.__getattribute__"))) (hk:findIn K (.ref CC) "__getattr__" = some none)
  (hf:findIn K (.ref CC) name=some (some (.ref f))) (ht:typeIn K (.ref f)=some (.type "function")) (hs:shadowIn (some od) name=some false) (h:Q (.ref f,[.ref x]) s) :
  wpAny (model F.prog F.w) A (getMethod (.ref x) name pl) Q E s:=by
 have hcan:(Manifest.canonical "list.__getattribute__" != "object.__getattribute__")=false:=by decide +kernel
 unfold getMethod specialOf
 refine wpAny_bind (wpAny_bind (I.type.here ((looks_findIn X hga).here ?_)))
 dsimp only
 rw [hcan,if_neg (by decide)]
 refine wpAny_bind (wpAny_bind (I.type.here ((looks_findIn X hk).here ?_)))
 refine wpAny_bind (wpAny_bind (I.type.here ((looks_findIn X hf).here (wpAny_bind ((looks_typeIn X ht).here ?_)))))
 rw [if_neg (by decide +kernel)]
 refine wpAny_bind (wpAny_loadPart I.at_ ?_)
 have hd:=I.dict
 cases e:ox.dict with
 |none=>exact wpAny_bind (wpAny_rule (wpAny_pure h))
 |some dx=>
  rw [e] at hd
  obtain ⟨r,a,b⟩:=Option.map_eq_some_iff.mp hs
  refine wpAny_bind (wpAny_bind (wpAny_loadPart hd ?_))
  rw [nsLook_of a]
  refine wpAny_pure ?_
  rw [b]
  exact wpAny_bind (wpAny_rule (wpAny_pure h))
section
variable {ov:AV} {v:Value} {name:Str} {pl:Sem Bool} {q:Fn×List AV} {Q:Value×List Value→Shared→Prop} {E:Value→Shared→Prop} {a:Addr}
theorem j8 {vs:Array Value} {k:Nat} (KC:CfgOk F K C N) (h:BT C ov name=some q) (ho:s.heap.get? a=some (aD vs k)) (ro:VR s.heap ρ ov (.ref a)) (hq:∀ fx tk,MCall F N s.heap ρ fx q.1 q.2→Q fx { s with toks:=tk }):wpAny (model F.prog F.w) A (getMethod (.ref a) name pl) Q E s:=
 ad h fun i h1 h=>gD h fun h2 e=>gC ho h1 (hq _ s.toks (.inl ⟨KC.fn _ _ h2,e▸⟨ro,trivial⟩⟩))
theorem qF {D:Addr} {ox:Obj} {es:List DictEntry} {k:Nat} {m:List (Str×AV)} (KC:CfgOk F K C N) (I:Inv F s ρ σ) (h:pY C ov name (D,m)=some q) (ro:VR s.heap ρ ov (.ref a)) (IA:InstAt s.heap a ox D (some (dictOf es k))) (R:NsR s.heap ρ m es)
  (hq:∀ fx tk,MCall F N s.heap ρ fx q.1 q.2→Q fx { s with toks:=tk }):wpAny (model F.prog F.w) A (getMethod (.ref a) name pl) Q E s:=by
 unfold pY at h
 cases hm:m.lookup name with
 |none=>
  simp only [hm] at h
  refine ad h fun f h1 h=>gD h fun h2 e=>?_
  obtain ⟨c,hc⟩:=KC.cls D name (.inl (by rw [h1];rfl))
  have M:=KC.meth D name f h1
  exact method_fn (KC.inK I) IA (plainGet_of c.get).1 (plainGet_of c.get).2 M.find M.type (by show (lookIn name (dictOf es k)).map _=_;rw [lookIn_dict,(d5 R).2 hm];rfl) (hq _ s.toks (.inl ⟨KC.fn _ _ h2,e▸⟨ro,trivial⟩⟩))
 |some u=>
  simp only [hm] at h
  refine ad h fun j h1 h=>?_
  have eu:u = .lam j:=by cases u<;>first | exact aa h1 | exact congrArg AV.lam (Option.some.inj h1)
  subst eu
  cases hf:C.free D name with
  |false=>rw [hf] at h;exact aa h
  |true=>
   rw [hf] at h
   refine ao h fun Φ hl e=>?_
   obtain ⟨c,hc⟩:=KC.cls D name (.inr hf)
   exact method_usual (KC.inK I) IA (plainGet_of c.get).1 (plainGet_of c.get).2 (KC.free D name hf).find rfl
    (nj KC I IA R hm hf (fun u e=>nomatch e) fun v hr=>hq _ _ (.inr ⟨j,e▸rfl,rfl,hr,e▸KC.lam _ hl⟩))
theorem gF {x CC:Addr} {ox od:Obj} {name:Str} {id:String} {pl:Sem Bool} {Q:Value×List Value→Shared→Prop} {E:Value→Shared→Prop} (X:K.In s.heap) (I:InstAt s.heap x ox CC (some od)) (hga:findIn K (.ref CC) "__getattribute__" = some (some (.builtin "list.__getattribute__"))) (hk:findIn K (.ref CC) "__getattr__" = some none)
  (hf:findIn K (.ref CC) name=some (some (.builtin id))) (ht:typeOf (.builtin id)=pure (.type "method_descriptor")) (hs:shadowIn (some od) name=some false) (h:Q (.builtin id,[.ref x]) s) :
  wpAny (model F.prog F.w) A (getMethod (.ref x) name pl) Q E s:=by
 have hcan:(Manifest.canonical "list.__getattribute__" != "object.__getattribute__")=false:=by decide +kernel
 unfold getMethod specialOf
 refine wpAny_bind (wpAny_bind (I.type.here ((looks_findIn X hga).here ?_)))
 dsimp only
 rw [hcan,if_neg (by decide)]
 refine wpAny_bind (wpAny_bind (I.type.here ((looks_findIn X hk).here ?_)))
 refine wpAny_bind (wpAny_bind (I.type.here ((looks_findIn X hf).here (wpAny_bind (wpAny_of_eq ht ?_)))))
 rw [if_neg (by decide +kernel)]
 refine wpAny_bind (wpAny_loadPart I.at_ ?_)
 have hd:=I.dict
 cases e:ox.dict with
 |none=>exact wpAny_bind (wpAny_rule (wpAny_pure h))
 |some dx=>
  rw [e] at hd
  obtain ⟨r,a,b⟩:=Option.map_eq_some_iff.mp hs
  refine wpAny_bind (wpAny_bind (wpAny_loadPart hd ?_))
  rw [nsLook_of a]
  refine wpAny_pure ?_
  rw [b]
  exact wpAny_bind (wpAny_rule (wpAny_pure h))
theorem uQ {D:Addr} {ox:Obj} {es:List DictEntry} {k:Nat} {m:List (Str×AV)} (KC:CfgOk F K C N) (I:Inv F s ρ σ) (h:Cg C ov name (D,m)=some q) (ro:VR s.heap ρ ov (.ref a)) (IA:InstAt s.heap a ox D (some (dictOf es k))) (R:NsR s.heap ρ m es)
  (hq:∀ fx tk,MCall F N s.heap ρ fx q.1 q.2→Q fx { s with toks:=tk }):wpAny (model F.prog F.w) A (getMethod (.ref a) name pl) Q E s:=by
 unfold Cg at h
 cases hm:m.lookup name with
 |none=>
  simp only [hm] at h
  have hs:shadowIn (some (dictOf es k)) name=some false:=by show (lookIn name (dictOf es k)).map _=_;rw [lookIn_dict,(d5 R).2 hm];rfl
  refine az h (fun h=>ad h fun f h1 h=>gD h fun h2 e=>?_) fun h=>ad h fun f h1 h=>gD h fun h2 e=>?_
  ·have M:=KC.ameth D name f h1
   exact gE (KC.inK I) IA M.get M.hook M.find M.type hs (hq _ s.toks (.inl ⟨KC.fn _ _ h2,e▸⟨ro,trivial⟩⟩))
  ·have M:=KC.aown D name f h1
   exact gF (KC.inK I) IA M.get M.hook M.find M.type hs (hq _ s.toks (.inl ⟨KC.fn _ _ h2,e▸⟨ro,trivial⟩⟩))
 |some u=>simp only [hm] at h;exact aa h
theorem j9 (KC:CfgOk F K C N) (h:fM C σ ov name=some q) (I:Inv F s ρ σ) (ro:VR s.heap ρ ov v) (hq:∀ fx tk,MCall F N s.heap ρ fx q.1 q.2→Q fx { s with toks:=tk }):wpAny (model F.prog F.w) A (getMethod v name pl) Q E s:=by
 cases ov with
 |str x=>
  refine ad h fun i h1 h=>gD h fun h2 e=>?_
  obtain ⟨t,rfl⟩:=id ro
  exact ft h1 (hq _ s.toks (.inl ⟨KC.fn _ _ h2,e▸⟨ro,trivial⟩⟩))
 |lst l=>
  obtain ⟨a,vs,k,rfl,_,ho,_⟩:=id ro
  exact j8 KC h ho ro hq
 |ref i=>
  obtain ⟨a,rfl,ha⟩:=id ro
  refine az h (fun h=>ad h fun l e1 h=>?_) fun h=>az h (fun h=>ad h fun qq e1 h=>?_) fun h=>ad h fun qq e1 h=>?_
  ·obtain ⟨vs,k,ho,_⟩:=I.objs _ a _ ha (jZ e1)
   exact j8 KC h ho ro hq
  ·obtain ⟨d,hi,hd⟩:=iv e1
   obtain ⟨b,es,k,e1,e2,hb,R,IA⟩:=lQ I ha hi hd
   exact qF KC I h ro IA R hq
  ·obtain ⟨d,l,hi,hd⟩:=qC e1
   obtain ⟨b,vs,nn,es,k,e1,e2,hb,R,R2,IA⟩:=cM I ha hi hd
   exact uQ KC I h ro IA R hq
 |_=>exact aa h
end
theorem bJ {pos:Pos} {f:Value} {first:List Value} {args:List (Bool×Sem Value)} {Q:Value→Shared→Prop} {E:Value→Shared→Prop} (hpl:args.any (·.1)=false)
  (h:wpAny (model F.prog F.w) A (evalArgs f true args []) (fun x s₁=>gz F f s₁∧wpAny (model F.prog F.w) A (call f (first++x.pos) x.kw) Q E s₁) E s) :
  wpAny (model F.prog F.w) A (callWith pos f first args []) Q E s:=by
 unfold callWith
 refine wpAny_bind (wpAny_holding (wpAny_mono h (fun x s₁ h₁=>wpAny_bind (wpAny_standAt ?_)) fun __ __ x=>x))
 obtain ⟨⟨k,hk⟩,h₁⟩:=h₁
 have tail:∀ {t:Sem Value},wpAny (model F.prog F.w) A t Q E s₁→wpAny (model F.prog F.w) A (t >>= fun r=>holding [r] point >>= fun __=>pure r) Q E s₁:=
  fun ht=>wpAny_bind (wpAny_mono ht (fun r s₂ hr=>wpAny_bind (wpAny_holding (wpAny_point (wpAny_pure hr)))) fun __ __ x=>x)
 have hst:(args.any (·.1) || ([]:List (Option Str×Sem Value)).any (·.1.isNone))=false:=by rw [hpl];rfl
 rw [hst]
 refine wpAny_bind (hk _ _ _ ?_)
 cases k with
 |frame=>
  simp only
  split
  ·exact tail h₁
  ·exact tail (by unfold callMarked;exact Calls.wpAny_keep h₁)
 |boundFrame=>
  simp only
  split
  ·exact tail h₁
  ·exact tail (by unfold callMarked;exact Calls.wpAny_keep h₁)
 |machine=>exact tail h₁
 |caller=>exact tail (wpAny_operating h₁)
theorem cN {f:Value} {es:List Expr} {Q:Args→Shared→Prop} {E:Value→Shared→Prop} (h:wpAny (model F.prog F.w) A (spliced (es.map fun e=>(false,eval e env))) (fun vs s₁=>Q ⟨vs,[]⟩ s₁) E s) :
  wpAny (model F.prog F.w) A (evalArgs f true (es.map fun e=>(false,eval e env)) []) Q E s:=by
 cases es with
 |nil=>
  unfold evalArgs
  show wpAny _ A (spliced [] >>= _) Q E s
  refine wpAny_bind (wpAny_mono h (fun vs s₁ h₁=>?_) fun __ __ z=>z)
  refine wpAny_bind (wpAny_pure ?_)
  refine wpAny_holding ?_
  refine wpAny_bind (wpAny_pure (wpAny_bind (wpAny_pure (wpAny_pure ?_))))
  simpa using h₁
 |cons e r=>exact Calls.evalArgs_plain h
theorem kc {es:List Expr} : (es.map fun e=>(false,eval e env)).any (·.1)=false:=by
 induction es with
 |nil=>rfl
 |cons e r ih=>rw [List.map_cons,List.any_cons,ih];rfl
theorem uR {h:Heap} {j:Nat} {v:Value} (r:VR s.heap ρ (.lam j) v):gz F v s:=by
 obtain ⟨a,c,c',pm,ct,oc,vs,t,rfl,ha,ho,_⟩:=r
 refine ⟨.frame,fun A E Q hq=>?_⟩
 unfold keeperOf
 exact wpAny_bind (wpAny_load ho (wpAny_pure hq))
theorem kd (S:Snd F C N n) (hA:AOk N A) {pos:Pos} {fx:Value×List Value} {Φ:Fn} {first:List AV} {args:List Expr} (hM:MCall F N s.heap ρ fx Φ first) (I:Inv F s ρ σ) (R:EnvR F s.heap ρ env E) :
  OkP F [] ρ s.heap VV (wp F A (callWith pos fx.1 fx.2 (args.map fun e=>(false,eval e env)) []) s) (Hp (aevs n C E σ args) fun as σ₂=>Φ (first++as) σ₂):=
 OkP.wrap (OkP.seq (P₁:=fun vs s₁ G=>gz F fx.1 s₁∧wp F A (call fx.1 (fx.2++vs)) s₁ G) (S.evs hA I R) fun as σ₁ vs s₁ ρ₁ p₁ I₁ r₁ S₁ b σ' p e G k=>by
   rcases hM.mono S₁ with ⟨a,b⟩ | ⟨j,e1,e2,c,d⟩
   ·exact ⟨a.keep _ _ _ I₁,wpAny_mono (a.ok e hA I₁ (VRs.append b r₁)) k fun __ __ z=>z⟩
   ·refine ⟨uR (h:=s₁.heap) c,?_⟩
    rw [e1] at e
    rw [e2]
    exact wpAny_mono (d e hA I₁ c r₁) k fun __ __ z=>z)
  fun G h=>bJ kc (cN h)
theorem uS (S:Snd F C N n) (KC:CfgOk F K C N) (hA:AOk N A) {o:Expr} {name:Str} {apos pos:Pos} {args:List Expr} (hs:args.any aH=false) (hb:bo o=false) (hl:apos.endLine=pos.line) (hn:args.length≤20)
  (I:Inv F s ρ σ) (R:EnvR F s.heap ρ env E) :
  OkP F [] ρ s.heap VV (wp F A (eval (.Call (.Attribute o name apos) args [] pos) env) s) (Hp (Hs n C E σ o) fun ov σ₁=>opt (fM C σ₁ ov name) fun q=>Hp (aevs n C E σ₁ args) fun as σ₂=>q.1 (q.2++as) σ₂):=by
 have hform:methodCallForm (args.length+([]:List Keyword).length) (args.map fun e=>(false,eval e env)) (backToKw pos (keywordEach [] env))=true:=by
  unfold methodCallForm
  have h1:(args.map fun e=>(false,eval e env)).all (!·.1)=true:=by
   rw [List.all_map];exact List.all_eq_true.mpr fun __ __=>rfl
  rw [h1]
  show (true&&true&&decide (args.length+0+0 < 30))=true
  simp;omega
 have hb2:(!true || apos.endLine==pos.line)=true:=by rw [hl];simp
 refine OkP.wrap (OkP.seq (P₁:=fun v s₁ G=>∀ pl,wp F A (getMethod v name pl) s₁ fun fx s₂=>wp F A (callWith pos fx.1 fx.2 (args.map fun e=>(false,eval e env)) []) s₂ G) (S.ev hA I R) fun ov σ₁ v s₁ ρ₁ p₁ I₁ r₁ S₁=>OkP.opt fun q e b σ' p h G k pl=>
   j9 KC e I₁ r₁ fun fx tk hM=>kd S hA (s:={ s₁ with toks:=tk }) hM (I₁.toks tk) (R.mono S₁) b σ' p h G k) fun G h=>?_
 show wpAny _ _ _ _ _ _
 rw [arm_eval_Call,aG hb,aE hs]
 refine wpAny_bind (wpAny_mono h (fun v s₁ h=>wpAny_bind (wpAny_standAt ?_)) fun __ __ z=>z)
 unfold methodCall
 rw [hform]
 refine wpAny_bind (wpAny_holding ?_)
 unfold calleeOf
 rw [if_pos rfl]
 refine wpAny_mono (h _) (fun fx s₂ h=>wpAny_bind ?_) fun __ __ z=>z
 unfold methodCallPos
 rw [if_pos hb2]
 exact wpAny_pure h
theorem uT (S:Snd F C N n) (KC:CfgOk F K C N) (hA:AOk N A) {f:Str} {fp pos:Pos} {args:List Expr} (hs:args.any aH=false) {q:Value×Fn} (hf:gy C E f=some q) (I:Inv F s ρ σ) (R:EnvR F s.heap ρ env E) :
  OkP F [] ρ s.heap VV (wp F A (eval (.Call (.Name f fp) args [] pos) env) s) (Hp (aevs n C E σ args) fun as σ₁=>q.2 as σ₁):=by
 refine ad hf fun a e1 h=>ad h fun v e2 h=>ao h fun Φ e3 e4=>?_
 have ea:a = .val v:=by cases a<;>first | exact aa e2 | exact congrArg AV.val (Option.some.inj e2)
 subst ea e4
 refine fun b σ' p h G k=>?_
 show wpAny _ _ _ _ _ _
 rw [arm_eval_Call_Name',aE hs]
 refine wpAny_bind ((jc KC e1 I R).seq fun v' s₁ ρ₁ I₁ r₁ S₁=>?_)
 cases r₁
 exact kd S hA (fx:=(v,[])) (first:=[]) (.inl ⟨KC.fn _ _ e3,trivial⟩) I₁ (R.mono S₁) b σ' p h G fun a s' ⟨ρ',I',r',S'⟩=>k a s' ⟨ρ',I',r',by simpa using S₁.trans S'⟩
end
end Internal
namespace Internal
section
variable {F:Fix} {K:Frag} {C:Cfg} {N n:Nat} {A:Around} {env:Env} {E E':AEnv} {s s₁:Shared} {ρ ρ₁:Rg} {σ σ' σ₁:St} {p q pq:Bool} {fa:List Addr}
theorem jd {vars:List (Str×AV)} {x:Str} {v:AV} : (upd vars x v).lookup x=some v:=by
 induction vars with
 |nil=>unfold upd;rw [List.lookup_cons,beq_self_eq_true]
 |cons a r ih=>
  obtain ⟨y,u⟩:=a
  unfold upd
  by_cases h:y=x
  ·rw [if_pos h,List.lookup_cons,beq_self_eq_true]
  ·rw [if_neg h,List.lookup_cons]
   have:(x==y)=false:=by simpa using Ne.symm h
   rw [this];exact ih
theorem ck {vars:List (Str×AV)} {x y:Str} {v:AV} (h:y≠x):(upd vars x v).lookup y=vars.lookup y:=by
 induction vars with
 |nil=>
  unfold upd
  rw [List.lookup_cons]
  have:(y==x)=false:=by simpa using h
  rw [this]
 |cons a r ih=>
  obtain ⟨z,u⟩:=a
  unfold upd
  by_cases hz:z=x
  ·rw [if_pos hz,List.lookup_cons,List.lookup_cons]
   have h1:(y==x)=false:=by simpa using h
   have h2:(y==z)=false:=by rw [hz];exact h1
   rw [h1,h2]
  ·rw [if_neg hz,List.lookup_cons,List.lookup_cons]
   rw [ih]
structure Stored (F:Fix) (fa:List Addr) (s:Shared) (ρ:Rg) (σ:St) (env:Env) (E':AEnv) (s':Shared):Prop where
 but:∃ h' tk,s' = { s with heap:=h',toks:=tk } ∧ ∀ b o,b ∉ fa→s.heap.get? b=some o→h'.get? b=some o
 inv:Inv F s' ρ σ
 env:EnvR F s'.heap ρ env E'
 stp:Stp fa true ρ s.heap ρ s'.heap
theorem np (I:Inv F s ρ σ) {D:Addr} {o:Obj} (ho:s.heap.get? D=some o) (hi:Hi o=false) (hD:D ∉ ρ.l) (hF:F.h.get? D=none) (hfa:D∈fa) {h':Heap} (tk:Nat) (hs:Heap.SameBut D s.heap h') (hn:∃ o',h'.get? D=some o') :
  Inv F { s with heap:=h',toks:=tk } ρ σ∧Stp fa true ρ s.heap ρ h':=by
 have k:∀ b o,b≠D→s.heap.get? b=some o→h'.get? b=some o:=fun b o hb e=>hs.extBut b o hb e
 refine ⟨I.poke tk hD (.inr ⟨o,ho,hi⟩) (fun __=>hF) k hn,fun b o' __ hf e=>k b o' (fun q=>hf (q▸hfa)) e,fun b o' __ hi' e=>k b o' (fun q=>?_) e,fun __ __ e=>e,fun __ h=>.inl h,fun __=>rfl,rfl,fun b o' e=>?_⟩
 ·subst q;rw [ho] at e;cases e;rw [hi] at hi';cases hi'
 ·by_cases q:b=D
  ·subst q;exact hn
  ·exact ⟨o',k b o' q e⟩
theorem iy {h:Heap} {a:Addr} {m:Str→Option Value} (x:h.Ns a m):∃ o,h.get? a=some o∧Hi o=false:=by
 obtain ⟨o,es,ep,e,d,_⟩:=x
 exact ⟨o,e,by unfold Hi;rw [d]⟩
theorem je {h:Heap} {a:Addr} {v:Option Value} (x:h.IsCell a v):∃ o,h.get? a=some o∧Hi o=false:=by
 obtain ⟨o,e,d⟩:=x
 exact ⟨o,e,by unfold Hi;rw [d]⟩
theorem d9 {h:Heap} {a:Addr} {m:Str→Option Value} {v:Option Value} (x:h.Ns a m) (y:h.IsCell a v):False:=by
 obtain ⟨o,es,ep,e,d,_⟩:=x
 obtain ⟨o',e',d'⟩:=y
 rw [e] at e';cases e';rw [d] at d';cases d'
theorem dO {x:Str} {av:AV} {v:Value} (hx:E.names.lookup x=some .local∨(E.names.lookup x=some .cell∧x∈E.own)) (I:Inv F s ρ σ) (R:EnvR F s.heap ρ env E) (hfa:Hj env E fa) (rv:VR s.heap ρ av v) :
  wpAny (model F.prog F.w) A (storeName env x v) (fun __ s'=>Stored F fa s ρ σ env { E with vars:=upd E.vars x av } s') (fun __ __=>False) s:=by
 have hp:(env.scope.kind == .class || (env.scope.kind == .module&&env.locals != env.globals))=false:=by rw [R.kind];rfl
 obtain ⟨m,hn,hm⟩:=R.ns
 rcases hx with hx | ⟨hx,ho⟩
 ·have hk:=R.kindOf hx
  refine wpAny_storeName_local hk hn (fun h' hn' hs=>?_) hp
  obtain ⟨ol,hl,hi⟩:=iy hn
  obtain ⟨I',S'⟩:=np (fa:=fa) I hl hi R.loc.1 R.loc.2 hfa.1 (s.toks+1) hs ((iy hn').elim fun o e=>⟨o,e.1⟩)
  refine ⟨⟨h',_,rfl,fun b o hb e=>hs.extBut b o (fun q=>hb (q▸hfa.1)) e⟩,I',?_,S'⟩
  have ne:∀ y c,env.cells.lookup y=some c→c≠env.locals:=fun y c hc q=>by
   obtain ⟨_,u,hu⟩:=R.celN y c hc
   exact d9 hn (q▸hu)
  refine ⟨R.kind,R.names,R.glob,R.blt,R.loc,⟨_,hn',fun y a hy hyl=>?_⟩,fun y a hy hyc=>?_,R.own,fun y c hc=>?_,R.inj⟩
  ·by_cases hyx:y=x
   ·subst hyx
    rw [jd] at hy;cases hy
    exact ⟨v,by simp,VR.mono S' _ _ rv⟩
   ·rw [ck hyx] at hy
    obtain ⟨u,hu,hr⟩:=hm y a hy hyl
    exact ⟨u,by simp only [if_neg hyx];exact hu,VR.mono S' _ _ hr⟩
  ·have hyx:y≠x:=fun q=>by
    subst q
    have hyc:E.names.lookup y=some .cell∨E.names.lookup y=some .free:=hyc
    rw [hx] at hyc;rcases hyc with e | e<;>cases e
   rw [ck hyx] at hy
   obtain ⟨c,u,hc,hu,hr⟩:=R.cel y a hy hyc
   exact ⟨c,u,hc,hu.sameBut hs (ne y c hc),VR.mono S' _ _ hr⟩
  ·obtain ⟨h1,u,hu⟩:=R.celN y c hc
   exact ⟨h1,u,hu.sameBut hs (ne y c hc)⟩
 ·have hk:=R.kindOf hx
  obtain ⟨c,hc,hcF⟩:=R.own x ho
  obtain ⟨hcl,u0,hu0⟩:=R.celN x c hc
  have hcfa:=hfa.2 x ho c hc
  refine wpAny_storeName_cell R.kind hk hc hu0 fun h' hu' hs=>?_
  obtain ⟨ol,hl,hi⟩:=je hu0
  obtain ⟨I',S'⟩:=np (fa:=fa) I hl hi hcl hcF hcfa s.toks hs ((je hu').elim fun o e=>⟨o,e.1⟩)
  have ne:env.locals≠c:=fun q=>d9 hn (q▸hu0)
  refine ⟨⟨h',_,rfl,fun b o hb e=>hs.extBut b o (fun q=>hb (q▸hcfa)) e⟩,I',?_,S'⟩
  refine ⟨R.kind,R.names,R.glob,R.blt,R.loc,⟨_,hn.sameBut hs ne,fun y a hy hyl=>?_⟩,fun y a hy hyc=>?_,R.own,fun y d hd=>?_,R.inj⟩
  ·have hyx:y≠x:=fun q=>by
    subst q
    have hyl:E.names.lookup y=some .local:=hyl
    rw [hx] at hyl;cases hyl
   rw [ck hyx] at hy
   obtain ⟨u,hu,hr⟩:=hm y a hy hyl
   exact ⟨u,hu,VR.mono S' _ _ hr⟩
  ·by_cases hyx:y=x
   ·subst hyx
    rw [jd] at hy;cases hy
    exact ⟨c,v,hc,hu',VR.mono S' _ _ rv⟩
   ·rw [ck hyx] at hy
    obtain ⟨d,u,hd,hu,hr⟩:=R.cel y a hy hyc
    exact ⟨d,u,hd,hu.sameBut hs (fun q=>hyx (R.inj y x c (q▸hd) hc)),VR.mono S' _ _ hr⟩
  ·obtain ⟨h1,u,hu⟩:=R.celN y d hd
   by_cases hyx:y=x
   ·subst hyx;rw [hc] at hd;cases hd;exact ⟨h1,_,hu'⟩
   ·exact ⟨h1,u,hu.sameBut hs (fun q=>hyx (R.inj y x c (q▸hd) hc))⟩
theorem aZ {α β:Type} {x:Option α} {f:α→Option β} {r:β} {G:Prop} (h:opt x f=some r) (k:∀ a,x=some a→f a=some r→G):G:=by
 cases x with
 |none=>exact aa h
 |some a=>exact k a rfl h
theorem gH {t:Expr} {av:AV} (h:lK E t av=some E') {G:Prop} (k:∀ x p,t = .Name x p→(E.names.lookup x=some .local∨(E.names.lookup x=some .cell∧x∈E.own)) → { E with vars:=upd E.vars x av } = E'→G):G:=by
 cases t with
 |Name x p=>exact al h fun hx e=>k x p rfl hx e
 |_=>exact aa h
noncomputable abbrev oO (F:Fix) (fa:List Addr) (s:Shared) (ρ:Rg) (σ:St) (env:Env) (E':AEnv) (s':Shared):Prop:=Stored F fa s ρ σ env E' s'∧Hj env E' fa
theorem qG {t:Expr} {av:AV} {v:Value} (h:lK E t av=some E') (I:Inv F s ρ σ) (R:EnvR F s.heap ρ env E) (hfa:Hj env E fa) (rv:VR s.heap ρ av v) :
  wpAny (model F.prog F.w) A (assign t env v) (fun __ s'=>oO F fa s ρ σ env E' s') (fun __ __=>False) s:=
 gH h fun x p e hx e'=>by
  subst e e'
  exact wpAny_assign_Name (wpAny_mono (dO hx I R hfa rv) (fun __ __ z=>⟨z,hfa⟩) fun __ __ z=>z)
theorem Stored.trans {E₁ E₂:AEnv} {s₂:Shared} (x:Stored F fa s ρ σ env E₁ s₁) (y:Stored F fa s₁ ρ σ env E₂ s₂):Stored F fa s ρ σ env E₂ s₂:=by
 obtain ⟨⟨h₁,t₁,rfl,k₁⟩,I₁,R₁,S₁⟩:=x
 obtain ⟨⟨h₂,t₂,rfl,k₂⟩,I₂,R₂,S₂⟩:=y
 exact ⟨⟨h₂,t₂,rfl,fun b o hb e=>k₂ b o hb (k₁ b o hb e)⟩,I₂,R₂,S₁.trans S₂⟩
theorem iz {t:Expr} {ts:List Expr} {av:AV} (h:lK E t av=some E'):assignEach (t::ts) env=(false,assign t env)::assignEach ts env:=gH h fun x p e __ __=>by rw [e];rfl
theorem gI:∀ {ts:List Expr} {avs:List AV} {vs:List Value} {E E':AEnv},cL E ts avs=some E'→avs.length=vs.length→(assignEach ts env).length=vs.length∧(assignEach ts env).findIdx? (·.1)=none
 | [],[],[],_,_,_,_=>⟨rfl,rfl⟩
 |t::ts,a::avs,v::vs,E,E',h,hl=>aZ h fun E₁ h1 h2=>by
  obtain ⟨i1,i2⟩:=gI h2 (Nat.succ.inj hl)
  rw [iz h1]
  exact ⟨congrArg (· + 1) i1,by rw [List.findIdx?_cons,i2];rfl⟩
 | [],[],_::_,_,_,_,hl=>nomatch hl
 | [],_::_,_,_,_,h,_=>aa h
 |_::_,[],_,_,_,h,_=>aa h
 |_::_,_::_,[],_,_,_,hl=>nomatch hl
theorem nq:∀ {ts:List Expr} {avs:List AV} {vs:List Value} {s:Shared} {E E':AEnv},cL E ts avs=some E'→Inv F s ρ σ→EnvR F s.heap ρ env E→Hj env E fa→VRs s.heap ρ avs vs →
  wpAny (model F.prog F.w) A (assignInOrder ((assignEach ts env).map (·.2)) vs) (fun __ s'=>oO F fa s ρ σ env E' s') (fun __ __=>False) s
 | [],[],[],s,E,E',h,I,R,hfa,_=>by
  cases h
  exact wpAny_pure ⟨⟨⟨_,_,rfl,fun __ __ __ e=>e⟩,I,R,Stp.refl⟩,hfa⟩
 |t::ts,a::avs,v::vs,s,E,E',h,I,R,hfa,r=>aZ h fun E₁ h1 h2=>by
  rw [iz h1]
  exact wpAny_assignInOrder_more (wpAny_mono (qG h1 I R hfa r.1) (fun __ s₁ z=>wpAny_mono (nq h2 z.1.inv z.1.env z.2 (VRs.mono z.1.stp _ _ r.2)) (fun __ s₂ y=>⟨z.1.trans y.1,y.2⟩) fun __ __ z=>z) fun __ __ z=>z)
 | [],[],_::_,_,_,_,_,_,_,_,r=>r.elim
 | [],_::_,_,_,_,_,h,_,_,_,_=>aa h
 |_::_,[],_,_,_,_,h,_,_,_,_=>aa h
 |_::_,_::_,[],_,_,_,_,_,_,_,r=>r.elim
theorem kf (hh:A.handled=none) {I ax:Addr} (hne:ax≠I) {us:Array Value} {X:Value→Shared→Prop} : ∀ (k i:Nat) (s:Shared) (Q:List Value→Shared→Prop),(s.heap.IsListIter I ax i∧s.heap.IsList ax us)→i+k=us.size →
  (∀ h' tk,(h'.IsListIter I ax us.size∧h'.IsList ax us)→(∀ b o,b≠I→s.heap.get? b=some o→h'.get? b=some o)→Q (us.toList.drop i) { s with heap:=h',toks:=tk })→wpAny (model F.prog F.w) A (draw (.ref I) k) Q X s
 |0,i,s,Q,st,he,hQ=>by
  have hi:i=us.size:=he
  subst hi
  show wpAny _ _ (pure []) Q X s
  have:=hQ s.heap s.toks st fun __ __ __ e=>e
  rw [List.drop_of_length_le (by simp)] at this
  exact wpAny_pure this
 |k+1,i,s,Q,st,he,hQ=>by
  have hlt:i < us.size:=by omega
  show wpAny _ _ (pyNext (.ref I) >>= _) Q X s
  refine wpAny_bind ((Walks.list hh I ax hne us).item i s _ _ hlt st fun v h' tk hv st' hk=>wpAny_bind (wpAny_holding (kf hh hne k (i+1) _ _ st' (by omega) fun h'' tk' st'' hk'=>wpAny_pure ?_)))
  have:=hQ h'' tk' st'' fun b o hb e=>hk' b o hb (hk b o (fun hm=>hb (List.mem_singleton.mp hm)) e)
  rw [List.drop_eq_getElem_cons (by simpa using hlt),show us.toList[i]'(by simpa using hlt)=v by simpa [hlt] using hv] at this
  exact this
theorem lR {t:Addr} {us:Array Value} {m:Nat} {targets:List (Bool×(Value→Sem Unit))} {Q:Unit→Shared→Prop} {X:Value→Shared→Prop} (hh:A.handled=none) (ho:s.heap.get? t=some (aD us m))
  (hn:targets.length=us.size) (hstar:targets.findIdx? (·.1)=none)
  (h:∀ h' tk,(∀ b o,s.heap.get? b=some o→h'.get? b=some o)→wpAny (model F.prog F.w) A (assignInOrder (targets.map (·.2)) us.toList) Q X { s with heap:=h',toks:=tk }):wpAny (model F.prog F.w) A (unpack (.ref t) targets) Q X s:=by
 have hl:s.heap.IsList t us:=⟨_,ho,rfl,_,rfl⟩
 have hne:t≠s.heap.objs.size:=Nat.ne_of_lt (Heap.lt_size ho)
 unfold unpack
 rw [hn,hstar]
 refine wpAny_bind (wpAny_holding ?_)
 unfold unpackItems
 refine wpAny_bind ?_
 unfold notIterableAtAll
 refine wpAny_bind (wpAny_specialOf hl.typeIs slot_list_iter.lookup ?_)
 refine wpAny_pure ?_
 simp only [Bool.false_eq_true,if_false]
 refine wpAny_bind (wpAny_holding (wpAny_pyIter_list hl ?_))
 refine wpAny_bind (wpAny_holding (kf hh hne us.size 0 _ _ ⟨⟨_,Heap.get?_push_size _ rfl,rfl,rfl⟩,⟨_,Heap.get?_push_of_some _ ho,rfl,_,rfl⟩⟩ (Nat.zero_add _) fun h₁ t₁ st₁ k₁=>?_))
 rw [List.drop_zero,if_neg (by simp)]
 refine wpAny_bind (wpAny_holding ((Walks.list hh _ t hne us).done _ _ _ st₁ fun h₂ t₂ k₂=>?_))
 simp only [Option.isSome_none,Bool.false_eq_true,if_false]
 refine wpAny_pure (h h₂ t₂ fun b o e=>?_)
 have hb:b≠s.heap.objs.size:=Nat.ne_of_lt (Heap.lt_size e)
 exact k₂ b o (fun hm=>hb (List.mem_singleton.mp hm)) (k₁ b o hb (Heap.get?_push_of_some _ e))
theorem qH {ts:List Expr} {vs:List AV} {us:Array Value} {h':Heap} (tk:Nat) (h:cL E ts vs=some E') (up:∀ b o,s.heap.get? b=some o→h'.get? b=some o) (I:Inv F s ρ σ) (R:EnvR F s.heap ρ env E) (hfa:Hj env E fa) (hl:VRs s.heap ρ vs us.toList) :
  wpAny (model F.prog F.w) A (assignInOrder ((assignEach ts env).map (·.2)) us.toList) (fun __ s'=>oO F fa s ρ σ env E' s') (fun __ __=>False) { s with heap:=h',toks:=tk }:=by
 have S':Stp fa true ρ s.heap ρ h':=Stp.keeps up
 refine wpAny_mono (nq h (I.heap up tk) (R.mono (Stp.keeps (fa:=[]) up)) hfa (VRs.mono S' _ _ hl)) (fun __ s₁ z=>⟨⟨?_,z.1.inv,z.1.env,S'.trans z.1.stp⟩,z.2⟩) fun __ __ z=>z
 obtain ⟨h₁,t₁,e,k₁⟩:=z.1.but
 exact ⟨h₁,t₁,e,fun b o hb e=>k₁ b o hb (up b o e)⟩
theorem uU {ts:List Expr} {vs:List AV} {k:Nat} {pos:Pos} {v:Value} (hh:A.handled=none) (h:cL E ts vs=some E') (I:Inv F s ρ σ) (R:EnvR F s.heap ρ env E) (hfa:Hj env E fa) (rv:VR s.heap ρ (.tup vs) v) :
  wpAny (model F.prog F.w) A (assign (.Tuple ts k pos) env v) (fun __ s'=>oO F fa s ρ σ env E' s') (fun __ __=>False) s:=by
 obtain ⟨a,us,m,rfl,_,ho,hl⟩:=rv
 obtain ⟨l1,l2⟩:=gI (env:=env) h hl.length
 exact wpAny_assign_Tuple hh ⟨_,ho,rfl,_,rfl⟩ (l1.trans (gv us)) l2 fun h' hx=>qH s.toks h (fun b o e=>hx b o (Nat.ne_of_lt (Heap.lt_size e)) e) I R hfa hl
theorem zc {ts:List Expr} {vs:List AV} {k:Nat} {pos:Pos} {v:Value} (hh:A.handled=none) (h:cL E ts vs=some E') (I:Inv F s ρ σ) (R:EnvR F s.heap ρ env E) (hfa:Hj env E fa) (rv:VR s.heap ρ (.lst vs) v) :
  wpAny (model F.prog F.w) A (assign (.Tuple ts k pos) env v) (fun __ s'=>oO F fa s ρ σ env E' s') (fun __ __=>False) s:=by
 obtain ⟨a,us,m,rfl,_,ho,hl⟩:=rv
 obtain ⟨l1,l2⟩:=gI (env:=env) h hl.length
 rw [arm_assign_Tuple]
 exact wpAny_bind (wpAny_standAt (lR hh ho (l1.trans (gv us)) l2 fun h' tk up=>qH tk h up I R hfa hl))
theorem iA {t:Expr} {av:AV} (h:aA E t av=some E') {G:Prop} (k1:∀ ts k p vs,t = .Tuple ts k p→(av = .tup vs∨av = .lst vs)→cL E ts vs=some E'→G) (k2:lK E t av=some E'→G):G:=by
 cases t with
 |Tuple ts k pos=>
  cases av with
  |tup vs=>exact k1 ts k pos vs rfl (.inl rfl) h
  |lst vs=>exact k1 ts k pos vs rfl (.inr rfl) h
  |_=>exact aa h
 |_=>exact k2 h
theorem eJ {t:Expr} {av:AV} {v:Value} (hh:A.handled=none) (h:aA E t av=some E') (I:Inv F s ρ σ) (R:EnvR F s.heap ρ env E) (hfa:Hj env E fa) (rv:VR s.heap ρ av v) :
  wpAny (model F.prog F.w) A (assign t env v) (fun __ s'=>oO F fa s ρ σ env E' s') (fun __ __=>False) s:=
 iA h (fun ts k p vs e1 e2 h=>by subst e1;rcases e2 with e | e<;>subst e;exact uU hh h I R hfa rv;exact zc hh h I R hfa rv) fun h=>qG h I R hfa rv
end
end Internal
namespace Internal
section
variable {F:Fix} {K:Frag} {C:Cfg} {N n:Nat} {A:Around} {env:Env} {E E':AEnv} {s s₁:Shared} {ρ ρ₁:Rg} {σ σ' σ₁:St} {p q pq:Bool} {fa:List Addr}
theorem Stp.pokes {ρ':Rg} {g g' g'':Heap} (x:Stp fa p ρ g ρ' g') (k:∀ b o,(∃ o₀,g.get? b=some o₀)→g'.get? b=some o→g''.get? b=some o):Stp fa p ρ g ρ' g'':=
 ⟨fun b o hb hf e=>k b o ⟨o,e⟩ (x.keep b o hb hf e),fun b o hb hi e=>k b o ⟨o,e⟩ (x.imm b o hb hi e),x.ext,x.new,x.pur,x.xs,
  fun b o e=>let ⟨o',e'⟩:=x.live b o e;⟨o',k b o' ⟨o,e⟩ e'⟩⟩
theorem Inv.pokeL (I:Inv F s ρ σ) {ρ':Rg} {h':Heap} {wr:List Addr} (tk:Nat) (el:ρ'.l=ρ.l) (ex:∀ b∈ρ'.x,b∈ρ.x) (hw:∀ b∈wr,b ∉ ρ.l∧F.h.get? b=none∧b ∉ F.tabs∧((b∈ρ.x)∨∃ o,s.heap.get? b=some o∧Hi o=false))
  (hk:∀ b o,b ∉ wr→s.heap.get? b=some o→h'.get? b=some o) (hl:∀ b∈wr,b∈ρ'.x→∃ o,h'.get? b=some o):Inv F { s with heap:=h',toks:=tk } ρ' σ:=by
 have lv:∀ b,b ∉ wr→(∃ o,s.heap.get? b=some o)→∃ o,h'.get? b=some o:=fun b q ⟨o,e⟩=>⟨o,hk b o q e⟩
 refine ⟨fun b o' hb e=>hk b o' (fun q=>?_) (I.base b o' hb e),el▸I.len,fun i a o ha ho=>?_,el▸I.nodup,el▸I.fresh,fun b hb=>?_,fun b hb=>?_,fun b hb=>lv b (fun q=>(hw b q).2.2.1 hb) (I.tlive b hb),I.gens,I.os⟩
 ·rw [(hw b q).2.1] at e;cases e
 ·rw [el] at ha
  refine (I.objs i a o ha ho).rg (fun b ob hb hi e=>⟨⟨by rw [el];exact hb.1,fun hm=>hb.2 (ex b hm)⟩,hk b ob (fun q=>?_) e⟩) (fun __ __ e=>by rw [el];exact e) (fun ob e=>hk a ob (fun q=>(hw a q).1 (List.mem_of_getElem? ha)) e)
  rcases (hw b q).2.2.2 with h | ⟨o',e',hi'⟩
  ·exact hb.2 h
  ·rw [e] at e';cases e';rw [hi] at hi';cases hi'
 ·rw [el] at hb
  exact lv b (fun q=>(hw b q).1 hb) (I.live b hb)
 ·by_cases q:b∈wr
  ·exact hl b q hb
  ·exact lv b q (I.xlive b (ex b hb))
theorem VR.pokeL {h h':Heap} {wr:List Addr} (hw:∀ b∈wr,(b∈ρ.x)∨∃ o,h.get? b=some o∧Hi o=false)
  (hk:∀ b o,b ∉ wr→h.get? b=some o→h'.get? b=some o) {av:AV} {v:Value} (x:VR h ρ av v):VR h' ρ av v:=by
 refine VR.rg (fun b ob hb hi e=>⟨hb,hk b ob (fun q=>?_) e⟩) (fun __ __ e=>e) _ _ x
 rcases hw b q with h | ⟨o',e',hi'⟩
 ·exact hb.2 h
 ·rw [e] at e';cases e';rw [hi] at hi';cases hi'
set_option tactic.hygienic true in
theorem nr {t:Expr} {I:Addr} {o:Obj} {T:String} {v:Value} {Q:Unit→Shared→Prop} {E:Value→Shared→Prop} (ho:s.heap.get? I=some o) (hc:o.cls = .type T)
  (hT:["enumerate", "zip", "dict_itemiterator", "dict_reverseitemiterator", "odict_iterator", "itertools.zip_longest", "itertools.pairwise"].contains T=false) (hQ:Q () s) :
  wpAny (model F.prog F.w) A (letOwnedTupleGo t (.ref I) v) Q E s:=by
 unfold letOwnedTupleGo
 have body:wpAny (model F.prog F.w) A (do
   let (.ref r,.ref a):=(Value.ref I,v) | return
   let o ←load r
   match o.cls,o.data with
   | .type n,.fields vs=>
    if ["enumerate", "zip", "dict_itemiterator", "dict_reverseitemiterator", "odict_iterator", "itertools.zip_longest", "itertools.pairwise"].contains n&&vs[0]? == some (rawInt a) then
     rule "for.unpacks-the-owned-tuple"
     updateField r 0 .none
   |_,_=>pure ()) Q E s:=by
  cases v with
  |ref a=>
   refine wpAny_bind (wpAny_load ho ?_)
   rw [hc]
   split
   ·rename_i n vs e1 e2
    cases e1
    rw [hT,Bool.false_and,if_neg (by decide)]
    exact wpAny_pure hQ
   ·exact wpAny_pure hQ
  |_=>exact wpAny_pure hQ
 split
 ·exact body
 ·exact body
 ·exact wpAny_pure hQ
theorem Src.of {t:Expr} {I:Addr} {fp:List Addr} {m:Nat} {P:Nat→Value→Prop} {St:Nat→Heap→Prop} {g:Heap} {ρg:Rg} {items:List AV} (W:Walks F.prog F.w A I fp [I] m P St) (hm:m=items.length)
  (hc:∀ i h,St i h→∃ o T,h.get? I=some o∧o.cls = .type T∧Hi o=false∧["enumerate", "zip", "dict_itemiterator", "dict_reverseitemiterator", "odict_iterator", "itertools.zip_longest", "itertools.pairwise"].contains T=false)
  (hP:∀ i v av,P i v→items[i]? = some av→VR g ρg av v):Src F A I fp [I] [] g ρg items St t where
 sub:=W.sub
 frame:=W.frame
 imm:=fun i h st b hb=>by
  rw [List.mem_singleton.mp hb]
  refine Hh fun G_ k_=>?_
  obtain ⟨o,T,e,_,hi,_⟩:=hc i h st
  refine k_ ?_
  exact ⟨o,e,.inr hi⟩
 item:=fun i av s ρ Q R hi st hout hsh hV hQ=>by
  have hlt:i < m:=by
   rw [hm]
   rcases Nat.lt_or_ge i items.length with h | h
   ·exact h
   ·rw [List.getElem?_eq_none h] at hi;cases hi
  refine W.item i s _ _ hlt st fun v h' tk hPv st' hk=>hQ v _ fun Q' hQ'=>?_
  refine Hh fun G_ k_=>?_
  obtain ⟨o,T,e,hcl,him,hT⟩:=hc (i+1) h' st'
  refine k_ ?_
  refine nr (T:=T) e hcl hT (hQ' h' tk ?_ st' hk)
  refine Hh fun G_ k_=>?_
  obtain ⟨o₀,_,e₀,_,hi₀,_⟩:=hc i s.heap st
  refine k_ ?_
  exact VR.pokeL (wr:=[I]) (fun b hb=>.inr ⟨o₀,by rw [List.mem_singleton.mp hb];exact e₀,hi₀⟩) hk (hV _ _ (hP i v av hPv hi))
 done:=fun s Q st hQ=>W.done s Q _ (hm▸st) hQ
 self:=W.self
theorem uV {t:Expr} (hh:A.handled=none) {I ax:Addr} (hne:ax≠I) {items:List AV} {vs:Array Value} {g:Heap} {ρg:Rg} (r:VRs g ρg items vs.toList) :
  Src F A I [I,ax] [I] [] g ρg items (fun i h=>h.IsListIter I ax i∧h.IsList ax vs) t:=by
 refine Src.of (Walks.list hh I ax hne vs) r.size (fun i h st=>?_) fun i v av hv hi=>?_
 ·obtain ⟨⟨o,e,c,d⟩,_⟩:=st
  exact ⟨o,_,e,c,by unfold Hi;rw [d,c];rfl,by decide⟩
 ·obtain ⟨u,hu,hr⟩:=r.get hi
  have:vs[i]? = some u:=by simpa using hu
  rw [hv] at this;cases this;exact hr
theorem zd {t:Expr} (hh:A.handled=none) {I ax:Addr} (hne:ax≠I) {items:List AV} {vs:Array Value} {g:Heap} {ρg:Rg} (r:VRs g ρg items vs.toList) :
  Src F A I [I,ax] [I] [] g ρg items (fun i h=>h.IsTupleIter I ax i∧h.IsTuple ax vs) t:=by
 refine Src.of (Walks.tuple hh I ax hne vs) r.size (fun i h st=>?_) fun i v av hv hi=>?_
 ·obtain ⟨⟨o,e,c,d⟩,_⟩:=st
  exact ⟨o,_,e,c,by unfold Hi;rw [d,c];rfl,by decide⟩
 ·obtain ⟨u,hu,hr⟩:=r.get hi
  have:vs[i]? = some u:=by simpa using hu
  rw [hv] at this;cases this;exact hr
theorem qI {tg:Expr} {I:Addr} {x:Str} {T:String} {t:Tok} {g:Heap} {ρg:Rg} (W:Walks F.prog F.w A I [I] [I] x.cps.size (SignAt x) (fun i h=>h.IsStrIter I T x t i)) (hT:T = "str_iterator" ∨ T = "str_ascii_iterator") :
  Src F A I [I] [I] [] g ρg (x.cps.toList.map fun c=>AV.str ⟨#[c]⟩) (fun i h=>h.IsStrIter I T x t i) tg:=by
 refine Src.of W (by simp) (fun i h st=>?_) fun i v av hv hi=>?_
 ·obtain ⟨o,e,c,d⟩:=st
  rcases hT with rfl | rfl
  ·exact ⟨o,_,e,c,by unfold Hi;rw [d,c];rfl,by decide⟩
  ·exact ⟨o,_,e,c,by unfold Hi;rw [d,c];rfl,by decide⟩
 ·obtain ⟨c,u,hc,rfl⟩:=hv
  rw [List.getElem?_map,show x.cps.toList[i]? = some c by simpa using hc] at hi
  cases hi
  exact ⟨u,rfl⟩
theorem ze {t:Expr} (hh:A.handled=none) {I ax:Addr} (hne:ax≠I) {d:List (Str×AV)} {kvs:List (Str×Value)} {ep:Nat} {g:Heap} {ρg:Rg} (hk:kvs.map (·.1)=d.map (·.1)) :
  Src F A I [I,ax] [I] [] g ρg (d.map fun p=>AV.str p.1) (fun i h=>h.IsKeyIter I ax i kvs.length ep∧h.DictAt (strKind F.prog F.w) ax kvs ep) t:=by
 refine Src.of (Walks.dictKeys hh I ax hne kvs ep) (by have:=congrArg List.length hk;simpa using this) (fun i h st=>?_) fun i v av hv hi=>?_
 ·obtain ⟨⟨o,e,c,dd⟩,_⟩:=st
  exact ⟨o,_,e,c,by unfold Hi;rw [dd,c];rfl,by decide⟩
 ·obtain ⟨k,x,hx,hs⟩:=hv
  obtain ⟨t,rfl⟩:=Value.isStrOf_shape hs
  have e:(d.map (·.1))[i]? = some k:=by rw [←hk,List.getElem?_map,hx];rfl
  rw [List.getElem?_map] at hi e
  obtain ⟨q,hq,rfl⟩:=Option.map_eq_some_iff.mp e
  rw [hq] at hi
  cases hi
  exact ⟨t,rfl⟩
theorem zf {t:Expr} (hh:A.handled=none) {I:Addr} {a:Int} {m:Nat} {g:Heap} {ρg:Rg} :
  Src F A I [I] [I] [] g ρg ((List.range m).map fun (i:Nat)=>AV.int (a+(i:Int))) (fun i h=>IsRangeIter h I (a+(i:Nat) * 1) ((m:Int) - (i:Nat)) 1) t:=by
 refine Src.of (Walks.range hh I a 1 m) (by simp) (fun i h st=>?_) fun i v av hv hi=>?_
 ·exact ⟨_,_,st,rfl,rfl,by decide⟩
 ·obtain ⟨t,rfl⟩:=hv
  have h2:i < m:=by
   rcases Nat.lt_or_ge i m with h | h
   ·exact h
   ·rw [List.getElem?_eq_none (by simpa using h)] at hi;cases hi
  rw [List.getElem?_map,List.getElem?_range h2] at hi
  cases hi
  exact ⟨t,by rw [Int.mul_one]⟩
theorem Inv.fresh_facts (I:Inv F s ρ σ) {b:Addr} (h:s.heap.get? b=none):b ∉ ρ.l∧F.h.get? b=none∧b ∉ F.tabs∧b ∉ ρ.x:=
 ⟨(I.dead_out h).1,I.base_dead h,fun hm=>(by obtain ⟨o,e⟩:=I.tlive b hm;rw [h] at e;cases e),(I.dead_out h).2⟩
noncomputable abbrev uW (F:Fix) (A:Around) (s:Shared) (ρ:Rg) (σ:St) (items:List AV) (held:Bool) (tg:Expr) (it:Value) (s':Shared):Prop:=(∀ b o,s.heap.get? b=some o→s'.heap.get? b=some o)∧Began F A s.heap ρ held items it s' σ tg
theorem dP {tg:Expr} {items:List AV} {held:Bool} (I:Inv F s ρ σ) {ob:Obj} {fp:List Addr} {St:Nat→Heap→Prop} (S:Src F A s.heap.objs.size fp [s.heap.objs.size] [] (s.heap.push ob) ρ items St tg) (st:St 0 (s.heap.push ob))
  (hf:∀ b∈fp,b=s.heap.objs.size∨((∃ o,s.heap.get? b=some o∧(Hi o=true∨b∈ρ.l))∧(b ∉ ρ.l∨held=true))):uW F A s ρ σ items held tg (.ref s.heap.objs.size) { s with heap:=s.heap.push ob }:=
 have hd:=an s.heap (Nat.le_refl s.heap.objs.size)
 have up:∀ b o,s.heap.get? b=some o→(s.heap.push ob).get? b=some o:=fun b o e=>Heap.get?_push_of_some _ e
 ⟨up,⟨_,fp,[s.heap.objs.size],[],St,rfl,S,st,fun b hb=>by rw [List.mem_singleton.mp hb];exact hd,fun b hb=>(nomatch hb),fun b hb=>(hf b hb).imp (fun e=>by rw [e];exact List.mem_singleton.mpr rfl) fun ⟨⟨o,e,hi⟩,h⟩=>⟨⟨o,up b o e,hi⟩,h⟩,
  fun b hb=>by rw [List.mem_singleton.mp hb];exact I.fresh_facts hd,I.push ob s.toks⟩⟩
theorem x7 {a b:Addr} {held:Bool} {o:Obj} (ho:s.heap.get? a=some o) (hi:Hi o=true) (hr:a ∉ ρ.l∨held=true):∀ c∈[b,a],c=b∨((∃ o,s.heap.get? c=some o∧(Hi o=true∨c∈ρ.l))∧(c ∉ ρ.l∨held=true)):=fun c hc=>by
 rcases List.mem_cons.mp hc with e | e
 ·exact .inl e
 ·rw [List.mem_singleton.mp e];exact .inr ⟨⟨o,ho,.inl hi⟩,hr⟩
section
variable {tg:Expr} {items:List AV} {held:Bool}
theorem kg (hh:A.handled=none) (I:Inv F s ρ σ) {a:Addr} {vs:Array Value} {m:Nat} (ho:s.heap.get? a=some (aD vs m)) (hl:VRs s.heap ρ items vs.toList) (hr:a ∉ ρ.l∨held=true):wpAny (model F.prog F.w) A (pyIter (.ref a)) (uW F A s ρ σ items held tg) (fun __ __=>False) s:=
 wpAny_pyIter_list ⟨_,ho,rfl,_,rfl⟩ (dP I (uV hh (Nat.ne_of_lt (Heap.lt_size ho)) (VRs.mono (fa:=[]) (Stp.keeps fun b o e=>Heap.get?_push_of_some _ e) _ _ hl)) ⟨⟨_,Heap.get?_push_size _ rfl,rfl,rfl⟩,⟨_,Heap.get?_push_of_some _ ho,rfl,_,rfl⟩⟩ (x7 ho rfl hr))
theorem kh {a b:Int} (hc:a.natAbs < 2 ^ 40∧b.natAbs < 2 ^ 40):Builtin.Range.rangeSize a b 1=((b - a).toNat:Int)∧Builtin.Range.small a b 1=true:=by
 have e:Builtin.Range.rangeSize a b 1=((b - a).toNat:Int):=by
  unfold Builtin.Range.rangeSize
  simp
  omega
 refine ⟨e,?_⟩
 unfold Builtin.Range.small
 rw [e]
 unfold Builtin.Range.rangeFitsLong
 have h1 : -(2 ^ 40) < a∧a < 2 ^ 40:=by omega
 have h2 : -(2 ^ 40) < b∧b < 2 ^ 40:=by omega
 clear e hc
 simp only [Bool.and_eq_true,Bool.or_eq_true,decide_eq_true_eq]
 refine ⟨⟨⟨⟨by omega,by omega⟩,by omega⟩,by omega⟩,.inr ?_⟩
 rw [if_pos (by decide)]
 simp only [Bool.and_eq_true,decide_eq_true_eq]
 omega
theorem Inv.mods (I:Inv F s ρ σ) (hm:(∃ o,F.h.get? sysModules=some o)∧sysModules ∉ F.tabs) {a:Addr} (ha:a∈ρ.l):(a==sysModules)=false:=by
 refine Hh fun G_ k_=>?_
 obtain ⟨⟨o,ho⟩,ht⟩:=hm
 refine k_ ?_
 refine beq_eq_false_iff_ne.mpr fun q=>?_
 subst q
 exact (I.fresh _ ha).elim ht fun e=>(by rw [ho] at e;cases e)
theorem uX (hm:(∃ o,F.h.get? sysModules=some o)∧sysModules ∉ F.tabs) (hh:A.handled=none) (I:Inv F s ρ σ) {a:Addr} {d:List (Str×AV)} {kvs:List (Str×Value)} (ha:a∈ρ.l) (ho:s.heap.DictOf (strKind F.prog F.w) a kvs) (hk:kvs.map (·.1)=d.map (·.1)) :
  wpAny (model F.prog F.w) A (pyIter (.ref a)) (uW F A s ρ σ (d.map fun p=>AV.str p.1) true tg) (fun __ __=>False) s:=by
 refine Hh fun G_ k_=>?_
 obtain ⟨ep,hd⟩:=ho.dictAt
 obtain ⟨o,es,hl,hx⟩:=id hd
 refine k_ ?_
 have hne:a≠s.heap.objs.size:=Nat.ne_of_lt hd.lt_size
 refine wpAny_pyIter_dict (I.mods hm ha) hd (dP I (ze (ep:=ep) hh hne hk) ⟨⟨_,Heap.get?_push_size _ rfl,rfl,rfl⟩,hd.push _⟩ fun b hb=>?_)
 rcases List.mem_cons.mp hb with e | e
 ·exact .inl e
 ·rw [List.mem_singleton.mp e];exact .inr ⟨⟨o,hl,.inr ha⟩,.inr rfl⟩
theorem zg {src:AV} {v:Value} (hm:(∃ o,F.h.get? sysModules=some o)∧sysModules ∉ F.tabs) (hh:A.handled=none) (h:bQ σ src=some (items,held)) (I:Inv F s ρ σ) (r:VR s.heap ρ src v):wpAny (model F.prog F.w) A (pyIter v) (uW F A s ρ σ items held tg) (fun __ __=>False) s:=by
 cases src with
 |lst l=>
  cases h
  obtain ⟨a,vs,m,rfl,hout,ho,hl⟩:=r
  exact kg hh I ho hl (.inl hout.1)
 |tup l=>
  cases h
  obtain ⟨a,vs,m,rfl,hout,ho,hl⟩:=r
  exact wpAny_pyIter_tuple ⟨_,ho,rfl,_,rfl⟩ (dP I (zd hh (Nat.ne_of_lt (Heap.lt_size ho)) (VRs.mono (fa:=[]) (Stp.keeps fun b o e=>Heap.get?_push_of_some _ e) _ _ hl)) ⟨⟨_,Heap.get?_push_size _ rfl,rfl,rfl⟩,⟨_,Heap.get?_push_of_some _ ho,rfl,_,rfl⟩⟩ (x7 ho rfl (.inl hout.1)))
 |str x=>
  cases h
  obtain ⟨t,rfl⟩:=r
  cases ha:x.cps.all (· < 128)
  ·exact wpAny_pyIter_wide ha (dP I (qI (Walks.strWide hh _ _ t) (.inl rfl)) ⟨_,Heap.get?_push_size _ rfl,rfl,rfl⟩ fun b hb=>.inl (List.mem_singleton.mp hb))
  ·exact wpAny_pyIter_ascii ha (dP I (qI (Walks.strAscii hh _ _ t) (.inr rfl)) ⟨_,Heap.get?_push_size _ rfl,rfl,rfl⟩ fun b hb=>.inl (List.mem_singleton.mp hb))
 |rng a b=>
  refine al h fun hc e=>?_
  cases e
  obtain ⟨r,t,u,w,rfl,hout,ho⟩:=r
  obtain ⟨e,hs⟩:=kh hc
  refine wpAny_pyIter_range ho hs (dP I (zf (m:=(b - a).toNat) hh) ?_ fun b hb=>.inl (List.mem_singleton.mp hb))
  show Heap.get? _ _=_
  rw [Heap.get?_push_size _ rfl,e]
  simp
 |ref i=>
  refine az h (fun h=>ao h fun l hl e=>?_) fun h=>ao h fun d hd e=>?_
  ·cases e
   exact d7 I hl r fun a vs m hv ha ho hl=>hv▸kg hh I ho hl (.inr rfl)
  ·cases e
   exact nc I hd r fun a kvs hv ha ho hr=>hv▸uX hm hh I (List.mem_of_getElem? ha) ho hr.1
 |_=>exact aa h
end
end
end Internal
namespace Internal
noncomputable def dj (env:Env):List (Str×NameKind)→List (Str×Addr)→List (Str×Addr)
 | [],acc=>acc
 |(n,k)::r,acc=>if k == .free then dj env r ((n,(env.cells.lookup n).getD 0)::acc) else dj env r acc
theorem uY {env:Env} {scope:Scope} (h:∀ p∈scope.names,p.2 = .free→(env.cells.lookup p.1).isSome=true):closureFor scope env=pure (dj env scope.names []):=by
 unfold closureFor
 have key:∀ (names:List (Str×NameKind)) (acc:List (Str×Addr)),(∀ p∈names,p.2 = .free→(env.cells.lookup p.1).isSome=true) →
   (forIn names acc fun (x:Str×NameKind) (r:List (Str×Addr))=>(match x with
    |(name,kind)=>if (kind==NameKind.free)=true then do let c ←cellOf env name;pure (ForInStep.yield ((name,c)::r)) else pure (ForInStep.yield r):Sem (ForInStep (List (Str×Addr)))))=pure (dj env names acc):=by
  intro names
  induction names with
  |nil=>intro acc _;rfl
  |cons p r ih=>
   intro acc h
   obtain ⟨n,k⟩:=p
   rw [List.forIn_cons]
   unfold dj
   by_cases hk:(k==NameKind.free)=true
   ·have hs:=h (n,k) List.mem_cons_self (by simpa using hk)
    obtain ⟨c,hc⟩:=Option.isSome_iff_exists.mp hs
    rw [if_pos hk]
    simp only [if_pos hk]
    have e:cellOf env n=pure c:=by unfold cellOf;rw [hc]
    rw [e,hc]
    simp only [pure_bind,Option.getD_some]
    exact ih _ fun p hp=>h p (List.mem_cons_of_mem _ hp)
   ·rw [if_neg hk]
    simp only [if_neg hk,pure_bind]
    exact ih _ fun p hp=>h p (List.mem_cons_of_mem _ hp)
 have:=key scope.names [] h
 exact (bind_congr fun __=>rfl).trans (by rw [this];rfl)
theorem gJ {env:Env} : ∀ {names:List (Str×NameKind)} {acc:List (Str×Addr)} {x:Str} {c:Addr},(x,c)∈dj env names acc→(x,c)∈acc∨((x,.free)∈names∧(env.cells.lookup x).getD 0=c)
 | [],_,_,_,h=>.inl h
 |(n,k)::r,acc,x,c,h=>by
  unfold dj at h
  split at h
  ·rename_i hk
   rcases gJ h with h | ⟨h1,h2⟩
   ·rcases List.mem_cons.mp h with e | h
    ·cases e
     have:k = .free:=by simpa using hk
     exact .inr ⟨by rw [←this];exact List.mem_cons_self,rfl⟩
    ·exact .inl h
   ·exact .inr ⟨List.mem_cons_of_mem _ h1,h2⟩
  ·rcases gJ h with h | ⟨h1,h2⟩
   ·exact .inl h
   ·exact .inr ⟨List.mem_cons_of_mem _ h1,h2⟩
theorem br {α:Type} : ∀ {l:List (Str×α)} {x:Str} {c:α},(x,c)∈l→∃ d,l.lookup x=some d
 |(k,v)::r,x,c,h=>by
  rw [List.lookup_cons]
  by_cases hb:x=k
  ·subst hb;rw [beq_self_eq_true];exact ⟨_,rfl⟩
  ·have:(x==k)=false:=by simpa using hb
   rw [this]
   rcases List.mem_cons.mp h with e | h
   ·cases e;exact absurd rfl hb
   ·exact br h
theorem gK {env:Env} : ∀ {names:List (Str×NameKind)} {acc:List (Str×Addr)} {x:Str},((x,.free)∈names∨∃ c,(x,c)∈acc)→∃ c,(x,c)∈dj env names acc
 | [],_,_,h=>by
  rcases h with h | h
  ·cases h
  ·exact h
 |(n,k)::r,acc,x,h=>by
  unfold dj
  split
  ·rename_i hk
   refine gK ?_
   rcases h with h | ⟨c,h⟩
   ·rcases List.mem_cons.mp h with e | h
    ·cases e;exact .inr ⟨_,List.mem_cons_self⟩
    ·exact .inl h
   ·exact .inr ⟨c,List.mem_cons_of_mem _ h⟩
  ·rename_i hk
   refine gK ?_
   rcases h with h | h
   ·rcases List.mem_cons.mp h with e | h
    ·cases e;exact absurd rfl hk
    ·exact .inl h
   ·exact .inr h
theorem dk {env:Env} {names:List (Str×NameKind)} (h:∀ p∈names,p.2 = .free→(env.cells.lookup p.1).isSome=true) {x:Str} :
  (∀ c,(dj env names []).lookup x=some c→env.cells.lookup x=some c)∧((x,.free)∈names→(dj env names []).lookup x=env.cells.lookup x):=by
 have one:∀ c,(dj env names []).lookup x=some c→env.cells.lookup x=some c:=fun c hc=>by
  rcases gJ (mem_of_lookup hc) with h1 | ⟨h1,h2⟩
  ·cases h1
  ·obtain ⟨d,hd⟩:=Option.isSome_iff_exists.mp (h _ h1 rfl)
   rw [hd] at h2 ⊢
   simpa using h2
 refine ⟨one,fun hm=>?_⟩
 obtain ⟨c,hc⟩:=gK (env:=env) (names:=names) (acc:=[]) (x:=x) (.inl hm)
 obtain ⟨d,hd⟩:=br hc
 rw [hd,one d hd]
theorem aL:∀ (names:List (Str×NameKind)) (b:Nat) (acc:List (Str×Addr)),cellsFrom b names acc=cellsFrom b names []++acc
 | [],_,_=>rfl
 |(n,k)::r,b,acc=>by
  unfold cellsFrom
  split
  ·rw [aL r (b+1) ((n,b)::acc),aL r (b+1) [(n,b)],List.append_assoc];rfl
  ·exact aL r b acc
theorem bX:∀ {names:List (Str×NameKind)} {b:Nat} {acc:List (Str×Addr)} {x:Str} {c:Addr},(x,c)∈cellsFrom b names acc→(x,c)∈acc∨(x,.cell)∈names
 | [],_,_,_,_,h=>.inl h
 |(n,k)::r,b,acc,x,c,h=>by
  unfold cellsFrom at h
  split at h
  ·rename_i hk
   rcases bX h with h | h
   ·rcases List.mem_cons.mp h with e | h
    ·cases e
     have:k = .cell:=by simpa using hk
     exact .inr (by rw [this];exact List.mem_cons_self)
    ·exact .inl h
   ·exact .inr (List.mem_cons_of_mem _ h)
  ·exact (bX h).imp id fun h=>List.mem_cons_of_mem _ h
theorem bu:∀ {names:List (Str×NameKind)} {b:Nat} {acc:List (Str×Addr)} {x:Str},((x,.cell)∈names∨∃ c,(x,c)∈acc)→∃ c,(x,c)∈cellsFrom b names acc
 | [],_,_,_,h=>by
  rcases h with h | h
  ·cases h
  ·exact h
 |(n,k)::r,b,acc,x,h=>by
  unfold cellsFrom
  split
  ·refine bu ?_
   rcases h with h | ⟨c,h⟩
   ·rcases List.mem_cons.mp h with e | h
    ·cases e;exact .inr ⟨_,List.mem_cons_self⟩
    ·exact .inl h
   ·exact .inr ⟨c,List.mem_cons_of_mem _ h⟩
  ·rename_i hk
   refine bu ?_
   rcases h with h | h
   ·rcases List.mem_cons.mp h with e | h
    ·cases e;exact absurd rfl hk
    ·exact .inl h
   ·exact .inr h
theorem bY {α:Type} {l r:List (Str×α)} {x:Str} : (l++r).lookup x=(l.lookup x).or (r.lookup x):=by
 induction l with
 |nil=>rfl
 |cons a l ih=>
  obtain ⟨k,v⟩:=a
  rw [List.cons_append,List.lookup_cons,List.lookup_cons]
  cases h:x==k with
  |true=>rfl
  |false=>exact ih
theorem own_mem {names:List (Str×NameKind)} {x:Str} : x∈(names.filter (·.2 == .cell)).map (·.1)↔(x,.cell)∈names:=by
 rw [List.mem_map]
 constructor
 ·rintro ⟨⟨n,k⟩,h,rfl⟩
  obtain ⟨h1,h2⟩:=List.mem_filter.mp h
  have:k = .cell:=by simpa using h2
  rw [this] at h1;exact h1
 ·intro h
  exact ⟨_,List.mem_filter.mpr ⟨h,rfl⟩,rfl⟩
theorem bZ {α:Type} {P:Str→Bool} : ∀ {l:List (Str×α)} {x:Str} {a:α},(l.filter fun p=>P p.1).lookup x=some a→l.lookup x=some a∧P x=true
 | [],_,_,h=>by cases h
 |(k,v)::l,x,a,h=>by
  rw [List.filter_cons] at h
  rw [List.lookup_cons]
  by_cases hk:x=k
  ·subst hk
   rw [beq_self_eq_true]
   split at h
   ·rename_i hp
    rw [List.lookup_cons,beq_self_eq_true] at h
    exact ⟨h,hp⟩
   ·rename_i hp
    have:=(bZ h).2
    exact absurd this hp
  ·have:(x==k)=false:=by simpa using hk
   rw [this]
   split at h
   ·rw [List.lookup_cons,this] at h
    exact bZ h
   ·exact bZ h
section
variable {F:Fix} {K:Frag} {C:Cfg} {N n:Nat} {A:Around} {env:Env} {E E':AEnv} {s s₁:Shared} {ρ ρ₁:Rg} {σ σ' σ₁:St} {p q pq:Bool} {fa:List Addr}
theorem Heap.IsCell.pokeL {h h':Heap} {wr:List Addr} {c:Addr} {v:Option Value} (x:h.IsCell c v) (hc:c ∉ wr) (hk:∀ b o,b ∉ wr→h.get? b=some o→h'.get? b=some o):h'.IsCell c v:=
 let ⟨o,e,d⟩:=x;⟨o,hk c o hc e,d⟩
theorem EnvR.pokeL {h h':Heap} {ρ':Rg} {wr:List Addr} (R:EnvR F h ρ env E) (el:ρ'.l=ρ.l) (ex:∀ b∈ρ'.x,b∈ρ.x) (hL:env.locals ∉ wr) (hc:∀ x c,env.cells.lookup x=some c→c ∉ wr) (hw:∀ b∈wr,(b∈ρ.x)∨∃ o,h.get? b=some o∧Hi o=false)
  (hk:∀ b o,b ∉ wr→h.get? b=some o→h'.get? b=some o):EnvR F h' ρ' env E:=by
 have hv:∀ av v,VR h ρ av v→VR h' ρ' av v:=fun av v x=>by
  refine VR.rg (fun b ob hb hi e=>⟨⟨by rw [el];exact hb.1,fun hm=>hb.2 (ex b hm)⟩,hk b ob (fun q=>?_) e⟩) (fun __ __ e=>by rw [el];exact e) _ _ x
  rcases hw b q with h | ⟨o',e',hi'⟩
  ·exact hb.2 h
  ·rw [e] at e';cases e';rw [hi] at hi';cases hi'
 refine ⟨R.kind,R.names,R.glob,R.blt,⟨el▸R.loc.1,R.loc.2⟩,?_,fun x av e hk'=>?_,R.own,fun x c hx=>?_,R.inj⟩
 ·obtain ⟨m,hn,hm⟩:=R.ns
  exact ⟨m,hn.at' fun o e=>hk _ o hL e,fun x av e1 e2=>let ⟨v,a,b⟩:=hm x av e1 e2;⟨v,a,hv _ _ b⟩⟩
 ·obtain ⟨c,v,h1,h2,h3⟩:=R.cel x av e hk'
  exact ⟨c,v,h1,Heap.IsCell.pokeL h2 (hc x c h1) hk,hv _ _ h3⟩
 ·obtain ⟨h1,v,h2⟩:=R.celN x c hx
  exact ⟨el▸h1,v,Heap.IsCell.pokeL h2 (hc x c hx) hk⟩
theorem EnvR.fewer {h:Heap} {E₀:AEnv} (R:EnvR F h ρ env E') (e1:E'.names=E₀.names) (e2:E'.own=E₀.own) (e3:∀ x av,E₀.vars.lookup x=some av→E'.vars.lookup x=some av):EnvR F h ρ env E₀:=
 ⟨R.kind,e1▸R.names,R.glob,R.blt,R.loc,let ⟨m,hn,hm⟩:=R.ns;⟨m,hn,fun x av h1 h2=>hm x av (e3 x av h1) (e1▸h2)⟩,fun x av h1 h2=>R.cel x av (e3 x av h1) (e1▸h2),e2▸R.own,R.celN,R.inj⟩
structure Other (E E':AEnv):Prop where
 names:E'.names=E.names
 own:E'.own=E.own
 vars:∀ x,E.names.lookup x≠some .local→x ∉ E.own→E'.vars.lookup x=E.vars.lookup x
theorem gL {t:Expr} {av:AV} (h:lK E t av=some E'):Other E E':=gH h fun y pos e hy e'=>by
 subst e'
 exact ⟨rfl,rfl,fun x h1 h2=>ck fun q=>by subst q;exact hy.elim h1 fun z=>h2 z.2⟩
theorem fP:∀ {ts:List Expr} {avs:List AV} {E E':AEnv},cL E ts avs=some E'→Other E E'
 | [],[],_,_,h=>by cases h;exact ⟨rfl,rfl,fun __ __ __=>rfl⟩
 |t::ts,a::avs,E,E',h=>aZ h fun E₁ h1 h2=>
  have x:=gL h1
  have y:=fP h2
  ⟨y.names.trans x.names,y.own.trans x.own,fun z k1 k2=>(y.vars z (x.names▸k1) (x.own▸k2)).trans (x.vars z k1 k2)⟩
 | [],_::_,_,_,h=>aa h
 |_::_,[],_,_,h=>aa h
theorem eK {t:Expr} {av:AV} (h:aA E t av=some E'):Other E E':=iA h (fun ts k p vs e1 e2 h=>fP h) fun h=>gL h
noncomputable abbrev cm (scope:Scope) (env:Env) (b:Addr):Env:=
 {scope:=relabel scope env,locals:=b,globals:=env.globals,cells:=cellsFrom (b+1) scope.names (dj env scope.names []),qual:=env.qual,func:=none,code:=env.code,frame:=env.frame,builtins:=env.builtins }
theorem jf (R:EnvR F s.heap ρ env E) {scope:Scope} : (relabel scope env).names=de E.names scope.names:=by
 unfold relabel de
 show List.map _ _=List.map _ _
 refine List.map_congr_left fun x __=>?_
 obtain ⟨n,k⟩:=x
 show (if (k==NameKind.free&&env.scope.kind == .function&&env.kindOf n==some .cell)=true then _ else _)=_
 have h1:(env.scope.kind==ScopeKind.function)=true:=by rw [R.kind];rfl
 have h2:env.kindOf n=E.names.lookup n:=by unfold Env.kindOf;rw [R.names]
 rw [h1,h2,Bool.and_true]
theorem jg {scope:Scope} {cl:List (Str×Addr)} {Q:Env→Shared→Prop} {X:Value→Shared→Prop}
  (h:Q { scope,locals:=s.heap.objs.size,globals:=env.globals,cells:=cellsFrom (s.heap.objs.size+1) scope.names cl,qual:=env.qual,func:=none,code:=env.code,frame:=env.frame,builtins:=env.builtins }
   {s with heap:=pushCells (s.heap.push { cls:=.type "dict", data:=.dict #[] }) scope.names }) :
  wpAny (model F.prog F.w) A (newFunctionEnv scope env.globals cl [] env.qual none .none (some env)) Q X s:=by
 simp only [newFunctionEnv,Option.isSome_some,if_true]
 refine wpAny_bind (wpAny_alloc ?_)
 refine wpAny_bind (wpAny_layCells _ (fun name kind cells=>by cases hkc:kind==NameKind.cell<;>simp [hkc]) _ _ _ _ ?_)
 rw [show ({ s with heap:=s.heap.push { cls:=.type "dict", data:=.dict #[] } } : Shared).heap.objs.size=s.heap.objs.size+1 from Heap.size_push ..]
 exact wpAny_pure h
noncomputable abbrev eM (h:Heap) (scope:Scope):Heap:=pushCells (h.push { cls:=.type "dict", data:=.dict #[] }) scope.names
noncomputable abbrev ki (h:Heap) (scope:Scope):List Addr:=h.objs.size::(cellsFrom (h.objs.size+1) scope.names []).map (·.2)
structure CompS (F:Fix) (s:Shared) (ρ:Rg) (env:Env) (E:AEnv) (scope:Scope):Prop where
 free:∀ p∈scope.names,p.2 = .free→(env.cells.lookup p.1).isSome=true
 kind:scope.kind = .function
 loc:∀ x∈scope.names,x.2 = .local→scope.names.lookup x.1=some .local
 up:∀ b o,s.heap.get? b=some o→(eM s.heap scope).get? b=some o
 envr:EnvR F (eM s.heap scope) ρ (cm scope env s.heap.objs.size) (ag E scope)
 far:Hj (cm scope env s.heap.objs.size) (ag E scope) (ki s.heap scope)
 new:∀ b∈ki s.heap scope,s.heap.objs.size≤b
 vars:∀ x av,(ag E scope).vars.lookup x=some av→(ag E scope).names.lookup x≠some .local∧x ∉ (ag E scope).own
theorem nt {scope:Scope} (hs:cT E scope=true) (I:Inv F s ρ σ) (R:EnvR F s.heap ρ env E):CompS F s ρ env E scope:=by
 unfold cT at hs
 simp only [Bool.and_eq_true,beq_iff_eq] at hs
 obtain ⟨⟨hk,hn⟩,hv⟩:=hs
 rw [List.all_eq_true] at hn hv
 have hfree:∀ p∈scope.names,p.2 = .free→(env.cells.lookup p.1).isSome=true:=fun p hp hf=>by
  have h:=hn p hp
  simp only [Bool.and_eq_true,Bool.or_eq_true,bne_iff_ne,ne_eq,beq_iff_eq] at h
  obtain ⟨h1,h2⟩:=h.2.resolve_left (fun q=>q hf)
  obtain ⟨av,hav⟩:=Option.isSome_iff_exists.mp h2
  obtain ⟨c,v,hc,_⟩:=R.cel p.1 av hav h1
  rw [hc];rfl
 have hloc:∀ x∈scope.names,x.2 = .local→scope.names.lookup x.1=some .local:=fun x hx hl=>by
  have h:=hn x hx
  simp only [Bool.and_eq_true,Bool.or_eq_true,bne_iff_ne,ne_eq,beq_iff_eq] at h
  exact h.1.resolve_left (fun q=>q hl)
 have hvar:∀ x av,(ag E scope).vars.lookup x=some av→E.vars.lookup x=some av∧((ag E scope).names.lookup x=some .free∨(ag E scope).names.lookup x=some .cell)∧x ∉ (ag E scope).own∧(x,.free)∈scope.names:=fun x av e=>by
  have h:=hv (x,av) (mem_of_lookup e)
  simp only [Bool.and_eq_true,Bool.or_eq_true,beq_iff_eq,Bool.not_eq_true',List.contains_eq_mem,decide_eq_false_iff_not,decide_eq_true_iff] at h
  exact ⟨(bZ (P:=fun y=>scope.names.lookup y==some .free) e).1,h.1.1,h.1.2,h.2⟩
 have up:∀ b o,s.heap.get? b=some o→(pushCells (s.heap.push { cls:=.type "dict", data:=.dict #[] }) scope.names).get? b=some o:=fun b o e=>pushCells_keeps _ _ b o (Heap.get?_push_of_some _ e)
 have S:Stp [] true ρ s.heap ρ (pushCells (s.heap.push { cls:=.type "dict", data:=.dict #[] }) scope.names):=Stp.keeps up
 have hsz:(s.heap.push { cls:=.type "dict", data:=.dict #[] }).objs.size=s.heap.objs.size+1:=Heap.size_push ..
 have ok:=cellsFrom_ok scope.names (s.heap.push { cls:=.type "dict", data:=.dict #[] }) (s.heap.objs.size+1) [] ⟨fun __ __ hm=>(nomatch hm),List.Pairwise.nil⟩ (by rw [hsz];exact Nat.le_refl _)
 rw [hsz] at ok
 have cells:∀ x c,(cm scope env s.heap.objs.size).cells.lookup x=some c →
   (x∈(ag E scope).own∧(x,c)∈cellsFrom (s.heap.objs.size+1) scope.names [])∨(x ∉ (ag E scope).own∧env.cells.lookup x=some c):=fun x c e=>by
  have e:(cellsFrom (s.heap.objs.size+1) scope.names (dj env scope.names [])).lookup x=some c:=e
  rw [aL,bY] at e
  cases h:(cellsFrom (s.heap.objs.size+1) scope.names []).lookup x with
  |some d=>
   rw [h] at e
   cases e
   refine .inl ⟨own_mem.mpr ((bX (mem_of_lookup h)).resolve_left (fun h=>nomatch h)),mem_of_lookup h⟩
  |none=>
   rw [h,Option.none_or] at e
   refine .inr ⟨fun hm=>?_,(dk hfree).1 c e⟩
   obtain ⟨d,hd⟩:=bu (b:=s.heap.objs.size+1) (acc:=[]) (.inl (own_mem.mp hm))
   obtain ⟨d',hd'⟩:=br hd
   rw [h] at hd';cases hd'
 have ownc:∀ x∈(ag E scope).own,∃ c,(cm scope env s.heap.objs.size).cells.lookup x=some c∧(x,c)∈cellsFrom (s.heap.objs.size+1) scope.names []:=fun x hx=>by
  obtain ⟨d,hd⟩:=bu (b:=s.heap.objs.size+1) (acc:=[]) (.inl (own_mem.mp hx))
  obtain ⟨d',hd'⟩:=br hd
  refine ⟨d',?_,mem_of_lookup hd'⟩
  show (cellsFrom (s.heap.objs.size+1) scope.names (dj env scope.names [])).lookup x=some d'
  rw [aL,bY,hd'];rfl
 have dead:∀ x c,(x,c)∈cellsFrom (s.heap.objs.size+1) scope.names []→s.heap.get? c=none:=fun x c hm=>an _ (by have:=(ok.empty x c hm).2;omega)
 refine ⟨hfree,hk,hloc,up,?_,?_,?_,fun x av e=>?_⟩
 ·refine ⟨by show scope.kind=_;exact hk,jf R,R.glob,R.blt,?_,?_,fun x av e __=>?_,fun x hx=>?_,fun x c e=>?_,fun x y c ex ey=>?_⟩
  ·have hd:=an s.heap (Nat.le_refl s.heap.objs.size)
   exact ⟨(I.dead_out hd).1,I.base_dead hd⟩
  ·refine ⟨fun __=>none,?_,fun x av e hl=>?_⟩
   ·exact (Heap.Ns.new s.heap (.type "dict")).keeps (pushCells_keeps _ _)
   ·rcases (hvar x av e).2.1 with h | h<;>rw [hl] at h<;>cases h
  ·obtain ⟨h1,h2,h3,h4⟩:=hvar x av e
   obtain ⟨hp1⟩:True:=trivial
   have hf:=hn (x,.free) h4
   simp only [Bool.and_eq_true,Bool.or_eq_true,bne_iff_ne,ne_eq,beq_iff_eq] at hf
   obtain ⟨hf1,_⟩:=hf.2.resolve_left (by simp)
   obtain ⟨c,v,hc,hcv,hr⟩:=R.cel x av h1 hf1
   refine ⟨c,v,?_,hcv.keeps up,VR.mono S _ _ hr⟩
   show (cellsFrom (s.heap.objs.size+1) scope.names (dj env scope.names [])).lookup x=some c
   rw [aL,bY]
   cases h:(cellsFrom (s.heap.objs.size+1) scope.names []).lookup x with
   |some d=>exact absurd (own_mem.mpr ((bX (mem_of_lookup h)).resolve_left (fun h=>nomatch h))) h3
   |none=>rw [Option.none_or,(dk hfree).2 h4,hc]
  ·obtain ⟨c,hc,hm⟩:=ownc x hx
   exact ⟨c,hc,I.base_dead (dead x c hm)⟩
  ·rcases cells x c e with ⟨_,hm⟩ | ⟨_,hc⟩
   ·exact ⟨(I.dead_out (dead x c hm)).1,_,(ok.empty x c hm).1⟩
   ·obtain ⟨h1,v,h2⟩:=R.celN x c hc
    exact ⟨h1,v,h2.keeps up⟩
  ·rcases cells x c ex with ⟨_,hm⟩ | ⟨_,hc⟩<;>rcases cells y c ey with ⟨_,hm'⟩ | ⟨_,hc'⟩
   ·exact name_of_addr ok.apart hm hm'
   ·obtain ⟨_,v,h2⟩:=R.celN y c hc'
    obtain ⟨o,ho,_⟩:=h2
    rw [dead x c hm] at ho;cases ho
   ·obtain ⟨_,v,h2⟩:=R.celN x c hc
    obtain ⟨o,ho,_⟩:=h2
    rw [dead y c hm'] at ho;cases ho
   ·exact R.inj x y c hc hc'
 ·refine ⟨List.mem_cons_self,fun x hx c e=>List.mem_cons_of_mem _ ?_⟩
  rcases cells x c e with ⟨_,hm⟩ | ⟨h1,_⟩
  ·exact List.mem_map.mpr ⟨_,hm,rfl⟩
  ·exact absurd hx h1
 ·intro b hb
  rcases List.mem_cons.mp hb with rfl | hb
  ·exact Nat.le_refl _
  ·obtain ⟨⟨x,c⟩,hm,rfl⟩:=List.mem_map.mp hb
   have:=(ok.empty x c hm).2
   show s.heap.objs.size≤c
   omega
 ·obtain ⟨h1,h2,h3,h4⟩:=hvar x av e
  refine ⟨fun q=>?_,h3⟩
  rcases h2 with h | h<;>rw [q] at h<;>cases h
end
end Internal
namespace Internal
section
variable {F:Fix} {K:Frag} {C:Cfg} {N n:Nat} {A:Around} {env cenv:Env} {E E' E₁:AEnv} {s s₁ s' s'':Shared} {ρ ρ₁ ρ' ρ'':Rg} {σ σ' σ₁:St} {p q P pq:Bool} {fa:List Addr}
noncomputable abbrev FR (F:Fix) (A:Around) (kx:Option Expr) (elt:Expr) (env:Env) (D:Addr) (s:Shared) (K:Shared→Prop):Prop:=match kx with
 |none=>wp F A (eval elt env) s fun x s₁=>wp F A (call (.builtin "list.append") [.ref D,x]) s₁ fun __ s₂=>K s₂
 |some k=>wp F A (eval k env) s fun kv s₁=>wp F A (eval elt env) s₁ fun x s₂=>wp F A (dictSet D kv x) s₂ fun __ s₃=>K s₃
theorem eO {kx:Option Expr} {elt target iter:Expr} {ifs:List Expr} {scope:Scope} {pos:Pos} {it:Value} {D:Addr} {env:Env} {R:Result→Shared→Prop}
  (turn:wp F A (pyNext it) s (fun r s₁=>match r with
   |none=>R (.ok .next) s₁
   |some v=>wp F A (letOwnedTupleGo target it v) s₁ fun __ s₁=>wp F A (assign target env v) s₁ fun __ s₂=>wp F A (yZ ifs env) s₂ fun ok s₃=>
      if ok=true then FR F A kx elt env D s₃ fun s₅=>codeAny (model F.prog F.w) A (.compLoop (j3 kx elt target iter ifs scope pos) 0 it (.ref D) env) R s₅
      else codeAny (model F.prog F.w) A (.compLoop (j3 kx elt target iter ifs scope pos) 0 it (.ref D) env) R s₃)) :
  codeAny (model F.prog F.w) A (.compLoop (j3 kx elt target iter ifs scope pos) 0 it (.ref D) env) R s:=by
 cases kx with
 |none=>
  refine codeAny_of_tree ?_
  show wpAny _ A ((compTurn (.ListComp elt [⟨target,iter,ifs,0⟩] scope pos) 0 it (.ref D) env).onRaise (fun x=>do noteFrame x env;theTreesLotGoes x)) _ _ s
  refine wpAny_noted ?_
  rw [compTurn_list]
  refine wpAny_bind (wpAny_standAt (wpAny_bind (wpAny_mono turn (fun r s₁ h₁=>?_) fun __ __ h'=>h'.elim)))
  cases r with
  |none=>exact wpAny_pure h₁
  |some v=>
   refine wpAny_bind (wpAny_mono h₁ (fun __ s₁ h₁=>wpAny_bind (wpAny_mono h₁ (fun __ s₂ h₂=>wpAny_bind (wpAny_mono h₂ (fun ok s₃ h₃=>?_) fun __ __ h'=>h'.elim)) fun __ __ h'=>h'.elim)) fun __ __ h'=>h'.elim)
   cases ok with
   |false=>exact wpAny_pure ⟨rfl,h₃⟩
   |true=>exact wpAny_bind (wpAny_bind (wpAny_mono h₃ (fun x s₄ h₄=>wpAny_bind (wpAny_mono h₄ (fun __ s₅ h₅=>wpAny_pure (wpAny_pure ⟨rfl,h₅⟩)) fun __ __ h'=>h'.elim)) fun __ __ h'=>h'.elim))
 |some k=>
  refine codeAny_of_tree ?_
  show wpAny _ A ((compTurn (.DictComp k elt [⟨target,iter,ifs,0⟩] scope pos) 0 it (.ref D) env).onRaise (fun x=>do noteFrame x env;theTreesLotGoes x)) _ _ s
  refine wpAny_noted ?_
  rw [compTurn_dict]
  refine wpAny_bind (wpAny_standAt (wpAny_bind (wpAny_mono turn (fun r s₁ h₁=>?_) fun __ __ h'=>h'.elim)))
  cases r with
  |none=>exact wpAny_pure h₁
  |some v=>
   refine wpAny_bind (wpAny_mono h₁ (fun __ s₁ h₁=>wpAny_bind (wpAny_mono h₁ (fun __ s₂ h₂=>wpAny_bind (wpAny_mono h₂ (fun ok s₃ h₃=>?_) fun __ __ h'=>h'.elim)) fun __ __ h'=>h'.elim)) fun __ __ h'=>h'.elim)
   cases ok with
   |false=>exact wpAny_pure ⟨rfl,h₃⟩
   |true=>exact wpAny_bind (wpAny_bind (wpAny_mono h₃ (fun kv s₄ h₄=>wpAny_bind (wpAny_holding (wpAny_mono h₄ (fun vv s₅ h₅=>wpAny_bind (wpAny_standAt (wpAny_holding (wpAny_mono h₅ (fun __ s₆ h₆=>wpAny_pure ⟨rfl,h₆⟩) fun __ __ h'=>h'.elim)))) fun __ __ h'=>h'.elim))) fun __ __ h'=>h'.elim))
structure Fixed (F:Fix) (s₀:Heap) (ρ:Rg) (D:Addr) (fr fp wr sh:List Addr) (cenv:Env) (St:Nat→Heap→Prop):Prop where
 wrF:∀ b∈wr,s₀.get? b=none∧F.h.get? b=none∧b ∉ F.tabs∧b ∉ ρ.x
 sub:∀ b∈wr,b∈fp
 frF:∀ b∈fr,s₀.get? b=none∧b ∉ fp∧b≠D
 frame:∀ i h h',St i h→(∀ b∈fp,∀ o,h.get? b=some o→h'.get? b=some o)→St i h'
 imm:∀ i h,St i h→∀ b∈wr,∃ o,h.get? b=some o∧(b∈sh∨Hi o=false)
 DF:s₀.get? D=none∧F.h.get? D=none∧D ∉ F.tabs∧D ∉ fp
 loc:cenv.locals ∉ wr∧cenv.locals≠D
 cel:∀ x c,cenv.cells.lookup x=some c→c ∉ wr∧c≠D
structure CS (F:Fix) (s₀:Heap) (ρ:Rg) (D:Addr) (fr fp wr sh:List Addr) (held:Bool) (g:Heap) (ρg:Rg) (cenv:Env) (St:Nat→Heap→Prop)
  (i:Nat) (P:Bool) (s':Shared) (ρ':Rg) (σ':List AObj) (E:AEnv) (o:AObj):Prop where
 x:ρ'.x=D::(sh++ρ.x)
 inv:Inv F s' ρ' σ'
 st:St i s'.heap
 dl:∃ ob,s'.heap.get? D=some ob
 ob:OR F s'.heap ρ' D o
 nD:D ∉ ρ'.l
 env:EnvR F s'.heap ρ' cenv E
 far:Hj cenv E fr
 stp:Stp [] P ρ s₀ ⟨ρ'.l,ρ.x⟩ s'.heap
 vm:∀ a v,VR g ρg a v→VR s'.heap ρ' a v
 nw:∀ b∈wr,b ∉ ρ'.l
 fpl:∀ b∈fp,b∈wr∨((∃ o,s'.heap.get? b=some o)∧(b ∉ ρ'.l∨held=true))
variable {s₀ g:Heap} {D:Addr} {fr fp wr sh:List Addr} {held:Bool} {ρg:Rg} {St:Nat→Heap→Prop} {i:Nat} {o o':AObj}
theorem OR.pokeL {h h':Heap} {wr:List Addr} {o:AObj} (hD:D ∉ wr) (hw:∀ b∈wr,(b∈ρ.x)∨∃ o,h.get? b=some o∧Hi o=false)
  (hk:∀ b o,b ∉ wr→h.get? b=some o→h'.get? b=some o) (x:OR F h ρ D o):OR F h' ρ D o:=
 x.rg (fun b ob hb hi e=>⟨hb,hk b ob (fun q=>(hw b q).elim hb.2 fun ⟨o',e',hi'⟩=>by rw [e] at e';cases e';rw [hi] at hi';cases hi') e⟩) (fun __ __ e=>e) fun ob e=>hk D ob hD e
theorem CS.wrx (X:CS F s₀ ρ D fr fp wr sh held g ρg cenv St i P s' ρ' σ' E o) (G:Fixed F s₀ ρ D fr fp wr sh cenv St):∀ b∈wr,(b∈ρ'.x)∨∃ o,s'.heap.get? b=some o∧Hi o=false:=fun b hb=>by
 refine Hh fun G_ k_=>?_
 obtain ⟨o,e,h⟩:=G.imm i _ X.st b hb
 refine k_ ?_
 rcases h with h | h
 ·left;rw [X.x];exact List.mem_cons_of_mem _ (List.mem_append_left _ h)
 ·exact .inr ⟨o,e,h⟩
theorem CS.next (X:CS F s₀ ρ D fr fp wr sh held g ρg cenv St i P s' ρ' σ' E o) (G:Fixed F s₀ ρ D fr fp wr sh cenv St) {h':Heap} {tk:Nat} (hst:St (i+1) h') (hk:∀ b o,b ∉ wr→s'.heap.get? b=some o→h'.get? b=some o) :
  CS F s₀ ρ D fr fp wr sh held g ρg cenv St (i+1) P { s' with heap:=h',toks:=tk } ρ' σ' E o:=by
 have hw:=X.wrx G
 have hDw:D ∉ wr:=fun h=>G.DF.2.2.2 (G.sub D h)
 refine ⟨X.x,X.inv.pokeL (wr:=wr) tk rfl (fun __ h=>h) (fun b hb=>⟨X.nw b hb,(G.wrF b hb).2.1,(G.wrF b hb).2.2.1,hw b hb⟩) hk fun b hb __=>?_,hst,let ⟨ob,e⟩:=X.dl;⟨ob,hk _ ob hDw e⟩,X.ob.pokeL hDw hw hk,X.nD,
  X.env.pokeL rfl (fun __ h=>h) G.loc.1 (fun x c hc=>(G.cel x c hc).1) hw hk,X.far,X.stp.pokes fun b o ⟨o₀,e₀⟩ e=>hk b o (fun h=>?_) e,fun a v h=>VR.pokeL hw hk (X.vm a v h),X.nw,fun b hb=>(X.fpl b hb).elim .inl fun ⟨⟨o,e⟩,h⟩=>?_⟩
 ·obtain ⟨o,e,_⟩:=G.imm _ _ hst b hb
  exact ⟨o,e⟩
 ·rw [(G.wrF b h).1] at e₀;cases e₀
 ·by_cases h2:b∈wr
  ·exact .inl h2
  ·exact .inr ⟨⟨o,hk b o h2 e⟩,h⟩
theorem CS.stored (X:CS F s₀ ρ D fr fp wr sh held g ρg cenv St i P s' ρ' σ' E o) (G:Fixed F s₀ ρ D fr fp wr sh cenv St) (Y:Stored F fr s' ρ' σ' cenv E' s'') (hf:Hj cenv E' fr) :
  CS F s₀ ρ D fr fp wr sh held g ρg cenv St i P s'' ρ' σ' E' o:=by
 obtain ⟨⟨h',tk,rfl,hk⟩,I',R',S'⟩:=Y
 have hfp:∀ b∈fp,b ∉ fr:=fun b hb h=>(G.frF b h).2.1 hb
 have hDf:D ∉ fr:=fun h=>(G.frF D h).2.2 rfl
 refine ⟨X.x,I',G.frame _ _ _ X.st fun b hb o e=>hk b o (hfp b hb) e,(let ⟨ob,e⟩:=X.dl;⟨ob,hk _ ob hDf e⟩),X.ob.mono S' (fun ob e=>hk _ ob hDf e),X.nD,R',hf,X.stp.pokes fun b o ⟨o₀,e₀⟩ e=>hk b o (fun h=>?_) e,fun a v h=>VR.mono S' _ _ (X.vm a v h),X.nw,
  fun b hb=>(X.fpl b hb).imp id fun ⟨⟨o,e⟩,h⟩=>⟨⟨o,hk b o (hfp b hb) e⟩,h⟩⟩
 rw [(G.frF b h).1] at e₀;cases e₀
theorem CS.eval (X:CS F s₀ ρ D fr fp wr sh held g ρg cenv St i P s' ρ' σ' E o) (G:Fixed F s₀ ρ D fr fp wr sh cenv St) (I':Inv F s'' ρ'' σ₁) (S':Stp [] q ρ' s'.heap ρ'' s''.heap) (hq:held=true→q=true) :
  CS F s₀ ρ D fr fp wr sh held g ρg cenv St i (P&&q) s'' ρ'' σ₁ E o:=by
 obtain ⟨ob,hD⟩:=X.dl
 have kfp:∀ b∈fp,∀ o,s'.heap.get? b=some o→s''.heap.get? b=some o:=fun b hb o e=>by
  rcases X.fpl b hb with h | ⟨_,h | h⟩
  ·exact S'.keep b o (.inr (X.nw b h)) (by simp) e
  ·exact S'.keep b o (.inr h) (by simp) e
  ·exact S'.keep b o (.inl (hq h)) (by simp) e
 refine ⟨S'.xs.trans X.x,I',G.frame _ _ _ X.st kfp,⟨ob,S'.keep _ ob (.inr X.nD) (by simp) hD⟩,X.ob.mono S' (fun ob e=>S'.keep _ ob (.inr X.nD) (by simp) e),S'.nin X.nD hD,X.env.mono S',X.far,?_,fun a v h=>VR.mono S' _ _ (X.vm a v h),fun b hb=>?_,fun b hb=>?_⟩
 ·exact X.stp.trans (ρ':=⟨ρ'.l,ρ.x⟩) ⟨fun b o hb hf e=>S'.keep b o hb hf e,fun b o hb hi e=>S'.imm b o hb hi e,S'.ext,S'.new,fun h=>by rw [S'.pur h],rfl,S'.live⟩
 ·obtain ⟨o,e,_⟩:=G.imm _ _ X.st b hb
  exact S'.nin (X.nw b hb) e
 ·rcases X.fpl b hb with h | ⟨⟨o,e⟩,h⟩
  ·exact .inl h
  ·exact .inr ⟨⟨o,kfp b hb o e⟩,h.imp (fun h=>S'.nin h e) id⟩
theorem CS.put (X:CS F s₀ ρ D fr fp wr sh held g ρg cenv St i P s' ρ' σ' E o) (G:Fixed F s₀ ρ D fr fp wr sh cenv St) {h':Heap} {ob:Obj} (tk:Nat) (hn:h'.get? D=some ob) (hs:Heap.SameBut D s'.heap h') (hO:(∀ av v,VR s'.heap ρ' av v→VR h' ρ' av v)→OR F h' ρ' D o') :
  CS F s₀ ρ D fr fp wr sh held g ρg cenv St i P { s' with heap:=h',toks:=tk } ρ' σ' E o':=by
 have hDx:D∈ρ'.x:=by rw [X.x];exact List.mem_cons_self
 have hk:∀ b o,b ∉ [D]→s'.heap.get? b=some o→h'.get? b=some o:=fun b o hb e=>hs.extBut b o (fun h=>hb (by rw [h];exact List.mem_singleton.mpr rfl)) e
 have hw:∀ b∈[D],(b∈ρ'.x)∨∃ o,s'.heap.get? b=some o∧Hi o=false:=fun b hb=>by rw [List.mem_singleton.mp hb];exact .inl hDx
 have hfp:∀ b∈fp,b ∉ [D]:=fun b hb h=>G.DF.2.2.2 (List.mem_singleton.mp h▸hb)
 refine ⟨X.x,X.inv.pokeL (wr:=[D]) tk rfl (fun __ h=>h) (fun b hb=>by rw [List.mem_singleton.mp hb];exact ⟨X.nD,G.DF.2.1,G.DF.2.2.1,.inl hDx⟩) hk fun b hb __=>by rw [List.mem_singleton.mp hb];exact ⟨_,hn⟩,G.frame _ _ _ X.st fun b hb o e=>hk b o (hfp b hb) e,⟨_,hn⟩,hO fun av v h=>VR.pokeL hw hk h,X.nD,
  X.env.pokeL rfl (fun __ h=>h) (fun h=>G.loc.2 (List.mem_singleton.mp h)) (fun x c hc h=>(G.cel x c hc).2 (List.mem_singleton.mp h)) hw hk,X.far,X.stp.pokes fun b o ⟨o₀,e₀⟩ e=>hk b o (fun h=>?_) e,fun a v h=>VR.pokeL hw hk (X.vm a v h),X.nw,
  fun b hb=>(X.fpl b hb).imp id fun ⟨⟨o,e⟩,h⟩=>⟨⟨o,hk b o (hfp b hb) e⟩,h⟩⟩
 rw [List.mem_singleton.mp h,G.DF.1] at e₀;cases e₀
theorem uZ (S:Snd F C N n) (hA:AOk N A) {ifs:List Expr} (I:Inv F s ρ σ) (R:EnvR F s.heap ρ env E):OkP F [] ρ s.heap RB (wp F A (yZ ifs env) s) (aifs (n+1) C E σ ifs):=
 match ifs with
 | []=>OkP.ret (a:=true) I rfl fun G h=>wpAny_tests_nil h
 | [e]=>(S.test hA I R).wrap fun G h=>wpAny_tests_one h
 |_::_::_=>OkP.none
noncomputable abbrev zh {α:Type} (n:Nat) (C:Cfg) (E₀:AEnv) (target:Expr) (ifs:List Expr) (make:AEnv→Internal.St→Option (α×Internal.St×Bool)) (x:AV) (σ:Internal.St):Option (Option α×Internal.St×Bool):=opt (aA E₀ target x) fun E'=>Hp (aifs n C E' σ ifs) fun ok σ'=>match ok with
  |true=>Hp (make E' σ') fun v σ''=>some (some v,σ'',true)
  |false=>some (none,σ',true)
noncomputable def EL {α:Type} (add:AObj→α→AObj) (o:AObj) (y:Option α):AObj:=match y with | some v=>add o v | none=>o
noncomputable def EM (o:AObj) (v:AV):AObj:=match o with | .lst l=>.lst (l++[v]) | o=>o
noncomputable def EN (o:AObj) (p:Str×AV):AObj:=match o with | .dic d=>.dic (upd d p.1 p.2) | o=>o
noncomputable def Cj (o:AObj) (i:Nat):Prop:=∃ l,o = .lst l∧l.length≤i
noncomputable def Ck (o:AObj) (i:Nat):Prop:=∃ d,o = .dic d∧d.length≤i
theorem zl {a b c:Bool} {held:Bool} (h:held=true→(a&&b)=true):(held=true→a=true)∧(held=true→b=true):=⟨fun e=>(Bool.and_eq_true_iff.mp (h e)).1,fun e=>(Bool.and_eq_true_iff.mp (h e)).2⟩
theorem VRs.of {h h':Heap} {ρ ρ':Rg} (k:∀ av v,VR h ρ av v→VR h' ρ' av v):∀ {as:List AV} {vs:List Value},VRs h ρ as vs→VRs h' ρ' as vs
 | [],[],_=>trivial
 |_::_,_::_,x=>⟨k _ _ x.1,VRs.of k x.2⟩
 | [],_::_,x=>x.elim
 |_::_,[],x=>x.elim
theorem CS.cast {P':Bool} (X:CS F s₀ ρ D fr fp wr sh held g ρg cenv St i P s' ρ' σ' E o) (e:P=P'):CS F s₀ ρ D fr fp wr sh held g ρg cenv St i P' s' ρ' σ' E o:=e▸X
theorem CS.back {E₀ E':AEnv} (X:CS F s₀ ρ D fr fp wr sh held g ρg cenv St i P s' ρ' σ' E' o) (O:Other E₀ E') (hE:∀ x av,E₀.vars.lookup x=some av→E₀.names.lookup x≠some .local∧x ∉ E₀.own):CS F s₀ ρ D fr fp wr sh held g ρg cenv St i P s' ρ' σ' E₀ o:=
 ⟨X.x,X.inv,X.st,X.dl,X.ob,X.nD,X.env.fewer O.names O.own fun x av e=>(O.vars x (hE x av e).1 (hE x av e).2).trans e,⟨X.far.1,O.own▸X.far.2⟩,X.stp,X.vm,X.nw,X.fpl⟩
section
variable {E₀:AEnv} {target elt iter:Expr} {ifs:List Expr} {scope:Scope} {pos:Pos} {I:Addr} {items:List AV} {R:Result→Shared→Prop} {α:Type} {kx:Option Expr} {make:AEnv→Internal.St→Option (α×Internal.St×Bool)} {add:AObj→α→AObj} {bound:AObj→Nat→Prop}
noncomputable abbrev qJ (kx:Option Expr) (elt target iter:Expr) (ifs:List Expr) (scope:Scope) (pos:Pos) (I D:Addr) (cenv:Env):Code:=.compLoop (j3 kx elt target iter ifs scope pos) 0 (.ref I) (.ref D) cenv
noncomputable abbrev FT (F:Fix) (A:Around) (s₀:Heap) (ρ:Rg) (D:Addr) (fr fp wr sh:List Addr) (held:Bool) (g:Heap) (ρg:Rg) (cenv:Env) (St:Nat→Heap→Prop) (E₀:AEnv) (i:Nat) (P:Bool) (σ:Internal.St) (o:AObj) (K:Shared→Prop):Prop:=
 ∀ s' ρ',CS F s₀ ρ D fr fp wr sh held g ρg cenv St i P s' ρ' σ E₀ o→K s'
noncomputable def qK (F:Fix) (A:Around) (kx:Option Expr) (elt:Expr) (s₀:Heap) (ρ:Rg) (D:Addr) (fr fp wr sh:List Addr) (held:Bool) (g:Heap) (ρg:Rg) (cenv:Env) (St:Nat→Heap→Prop) (make:AEnv→Internal.St→Option (α×Internal.St×Bool)) (add:AObj→α→AObj) (bound:AObj→Nat→Prop) (m:Nat):Prop:=
 ∀ {i:Nat} {P q:Bool} {s':Shared} {ρ':Rg} {σ σ':Internal.St} {E:AEnv} {o:AObj} {v:α} {K:Shared→Prop},i≤m→bound o i→make E σ=some (v,σ',q)→(held=true→q=true)→CS F s₀ ρ D fr fp wr sh held g ρg cenv St (i+1) P s' ρ' σ E o →
  FT F A s₀ ρ D fr fp wr sh held g ρg cenv St E (i+1) (P&&q) σ' (add o v) K→FR F A kx elt cenv D s' K
theorem qL (S:Snd F C N n) (hA:AOk N A) (G:Fixed F s₀ ρ D fr fp wr sh cenv St) (W:Src F A I fp wr sh g ρg items St target) (HP:qK F A kx elt s₀ ρ D fr fp wr sh held g ρg cenv St make add bound items.length) {x:AV} {y:Option α} {σ₂:Internal.St} {q:Bool}
  (hx:items[i]? = some x) (hi:bound o i) (h:zh n C E₀ target ifs make x σ=some (y,σ₂,q)) (hheld:held=true→q=true) (hE:∀ x av,E₀.vars.lookup x=some av→E₀.names.lookup x≠some .local∧x ∉ E₀.own)
  (X:CS F s₀ ρ D fr fp wr sh held g ρg cenv St i P s' ρ' σ E₀ o)
  (k:FT F A s₀ ρ D fr fp wr sh held g ρg cenv St E₀ (i+1) (P&&q) σ₂ (EL add o y) fun s'=>codeAny (model F.prog F.w) A (qJ kx elt target iter ifs scope pos I D cenv) R s') :
  codeAny (model F.prog F.w) A (qJ kx elt target iter ifs scope pos I D cenv) R s':=by
 refine aZ h fun E' hE' h=>aJ h fun ok σ₄ qe qg h3 g3 eq=>eO ?_
 rw [eq] at hheld k
 refine W.item i x s' ρ' _ (fun __ __ __=>True) hx X.st (fun b hb=>X.inv.dead_out hb) (fun b hb=>by rw [X.x];exact List.mem_cons_of_mem _ (List.mem_append_left _ hb)) X.vm fun v s₁ hgo=>hgo _ fun h' tk hv hst hk=>?_
 have X₁:=X.next G (tk:=tk) hst hk
 refine wpAny_mono (eJ hA.1 hE' X₁.inv X₁.env X₁.far hv) (fun __ s₂ Y=>?_) fun __ __ z=>z
 have X₂:=X₁.stored G Y.1 Y.2
 have O:=eK hE'
 refine ((S.tests hA X₂.inv X₂.env).to h3).seq fun ok' s₃ ρ₃ I₃ r₃ S₃=>?_
 have X₃:=X₂.eval G I₃ S₃ (zl (c:=true) hheld).1
 subst r₃
 cases ok' with
 |false=>
  rw [if_neg (by decide)]
  cases g3
  rw [Bool.and_true] at k
  exact k _ _ (X₃.back O hE)
 |true=>
  rw [if_pos rfl]
  refine aJ g3 fun u σ₅ qh qi h4 g4 e4=>?_
  cases g4
  rw [e4,Bool.and_true] at k
  rw [e4,Bool.and_true] at hheld
  exact HP (Nat.le_of_lt (List.getElem?_eq_some_iff.mp hx).1) hi h4 (zl (c:=true) hheld).2 X₃ fun s₄ ρ₄ X₄=>k _ _ ((X₄.back O hE).cast (Bool.and_assoc ..))
theorem kj (S:Snd F C N n) (hA:AOk N A) (G:Fixed F s₀ ρ D fr fp wr sh cenv St) (W:Src F A I fp wr sh g ρg items St target) (HP:qK F A kx elt s₀ ρ D fr fp wr sh held g ρg cenv St make add bound items.length) (hB:∀ o i y,bound o i→bound (EL add o y) (i+1)) (hE:∀ x av,E₀.vars.lookup x=some av→E₀.names.lookup x≠some .local∧x ∉ E₀.own) :
  ∀ (xs:List AV) {i:Nat} {P:Bool} {s':Shared} {ρ':Rg} {σ:Internal.St} {o:AObj} {l:List α} {σf:Internal.St} {qf:Bool},items.drop i=xs→i≤items.length→bound o i→eG (zh n C E₀ target ifs make) xs σ=some (l,σf,qf)→(held=true→qf=true) →
  CS F s₀ ρ D fr fp wr sh held g ρg cenv St i P s' ρ' σ E₀ o →
  (∀ h' tk s'' ρ'',CS F s₀ ρ D fr fp wr sh held g ρg cenv St items.length (P&&qf) s'' ρ'' σf E₀ (l.foldl add o)→(∀ b o,b ∉ wr→s''.heap.get? b=some o→h'.get? b=some o)→R (.ok .next) { s'' with heap:=h',toks:=tk }) →
  codeAny (model F.prog F.w) A (qJ kx elt target iter ifs scope pos I D cenv) R s'
 | [],i,P,s',ρ',σ,o,l,σf,qf,hd,hle,hi,h,hheld,X,hR=>by
  cases h
  refine eO ?_
  rw [Bool.and_true] at hR
  have hin:items.length≤i:=List.drop_eq_nil_iff.mp hd
  rw [Nat.le_antisymm hle hin] at X
  exact W.done s' _ X.st fun h' tk hk=>hR h' tk s' ρ' X hk
 |x::xs,i,P,s',ρ',σ,o,l,σf,qf,hd,hle,hi,h,hheld,X,hR=>by
  have hx:items[i]? = some x:=by rw [←List.head?_drop,hd];rfl
  refine aJ h fun y σ₂ qa qb h1 g1 e1=>aJ g1 fun ys' σ₃ qc qd h2 g2 e2=>?_
  cases g2
  rw [Bool.and_true] at e2
  rw [e1,e2] at hheld hR
  refine qL S hA G W HP hx hi h1 (zl (c:=true) hheld).1 hE X fun s₁ ρ₁ X₁=>?_
  refine kj S hA G W HP hB hE xs (by rw [←List.tail_drop,hd];rfl) (List.getElem?_eq_some_iff.mp hx).1 (hB o i y hi) h2 (zl (c:=true) hheld).2 X₁ fun h' tk s'' ρ'' X₂ hk=>hR h' tk s'' ρ'' ?_ hk
  rw [Bool.and_assoc] at X₂
  cases y with
  |none=>exact X₂
  |some v=>exact X₂
theorem oP {vs:List Value} {l:List AV} {h:Heap} (r:VRs h ρ l vs) {i m:Nat} (h1:l.length≤i) (h2:i≤m) (h3:m≤Hk):vs.length≤sizeLine:=by
 rw [←r.length]
 exact aI (Nat.le_trans h1 (Nat.le_trans h2 h3))
theorem u3 (S:Snd F C N n) (hA:AOk N A) (G:Fixed F s₀ ρ D fr fp wr sh cenv St) {m:Nat} (hm:m≤Hk):qK F A none elt s₀ ρ D fr fp wr sh held g ρg cenv St (fun E σ=>Hs n C E σ elt) EM Cj m:=
 fun {i P q s' ρ' σ σ' E o v K} hi ⟨l,eo,hl⟩ h hheld X k=>by
  subst eo
  refine ((S.ev hA X.inv X.env).to h).seq fun w s₄ ρ₄ I₄ r₄ S₄=>?_
  have X₄:=X.eval G I₄ S₄ hheld
  refine Hh fun G_ k_=>?_
  obtain ⟨vs,nn,ho,hv⟩:=X₄.ob
  refine k_ ?_
  refine wpAny_list_append_plain (hsz:=by have:=oP hv hl hi hm;simpa using this) ⟨nn,ho⟩ fun h₅ hl₅ hs₅=>?_
  obtain ⟨n',ho'⟩:=hl₅
  exact k _ _ (X₄.put G s₄.toks ho' hs₅ fun vm=>⟨_,_,ho',by rw [Array.toList_push];exact VRs.append (VRs.of vm hv) ⟨vm _ _ r₄,trivial⟩⟩)
theorem qM {h:Heap} {k:Str} {a:AV} {v:Value} (rv:VR h ρ a v):∀ {d:List (Str×AV)} {kvs:List (Str×Value)},DR h ρ d kvs→(kvs.map (·.1)).Nodup→DR h ρ (upd d k a) (stored kvs k v)
 | [],kvs,r,hn=>by
  cases kvs with
  |nil=>exact ⟨rfl,rv,trivial⟩
  |cons q r'=>exact nomatch r.1
 |(k',a')::d,kvs,r,hn=>qz r fun w r' ek hv hr=>by
  subst ek
  have hn:=List.nodup_cons.mp hn
  unfold upd
  by_cases hk:k'=k
  ·subst hk
   have e:stored ((k',w)::r') k' v=(k',v)::r':=by
    unfold stored
    rw [if_pos (by simp)]
    rw [List.map_cons,if_pos rfl]
    congr 1
    conv=>rhs;rw [←List.map_id r']
    exact List.map_congr_left fun q hq=>if_neg fun e=>hn.1 (List.mem_map.mpr ⟨q,hq,e⟩)
   rw [if_pos rfl,e]
   exact ⟨congrArg (k' :: ·) hr.1,rv,hr.2⟩
  ·have e:stored ((k',w)::r') k v=(k',w)::stored r' k v:=by
    unfold stored
    rw [List.any_cons,show decide ((k',w).1=k)=false from decide_eq_false hk,Bool.false_or]
    by_cases hc:(r'.any fun kv=>decide (kv.1=k))=true
    ·rw [if_pos hc,if_pos hc,List.map_cons,if_neg hk]
    ·rw [if_neg hc,if_neg hc];rfl
   rw [if_neg hk,e]
   have ih:=qM (k:=k) rv hr hn.2
   exact ⟨congrArg (k' :: ·) ih.1,hv,ih.2⟩
theorem oQ {d:List (Str×AV)} {k:Str} {a:AV} : (upd d k a).length≤d.length+1:=by
 induction d with
 |nil=>exact Nat.le_refl _
 |cons q r ih=>
  obtain ⟨y,u⟩:=q
  unfold upd
  split
  ·exact Nat.le_succ _
  ·exact Nat.succ_le_succ ih
theorem u4 {kx:Expr} (S:Snd F C N n) (hA:AOk N A) (G:Fixed F s₀ ρ D fr fp wr sh cenv St) {m:Nat} (hm:m≤Hk) :
  qK F A (some kx) elt s₀ ρ D fr fp wr sh held g ρg cenv St (fun E σ=>Hp (Hs n C E σ kx) fun a σ₂=>opt (db a) fun k=>Hp (Hs n C E σ₂ elt) fun v σ''=>some ((k,v),σ'',true)) EN Ck m:=
 fun {i P q s' ρ' σ σ' E o v K} hi ⟨d,eo,hl⟩ h hheld X k=>by
  subst eo
  refine aJ h fun a σ₂ p₁ p₂ h1 h2 e=>aZ h2 fun x hx h3=>aJ h3 fun b σ₃ p₃ p₄ h4 h5 e'=>?_
  cases h5
  rw [e,e',Bool.and_true] at hheld k
  have hx:=aX hx
  subst hx
  refine ((S.ev hA X.inv X.env).to h1).seq fun kv s₄ ρ₄ I₄ r₄ S₄=>?_
  have X₄:=X.eval G I₄ S₄ (zl (c:=true) hheld).1
  refine ((S.ev hA X₄.inv X₄.env).to h4).seq fun w s₅ ρ₅ I₅ r₅ S₅=>?_
  have X₅:=X₄.eval G I₅ S₅ (zl (c:=true) hheld).2
  obtain ⟨t,rfl⟩:=r₄
  refine Hh fun G_ k_=>?_
  obtain ⟨kvs,hd,hr⟩:=X₅.ob
  have hz:kvs.length≤sizeLine:=by
   have h1:=congrArg List.length hr.1
   rw [List.length_map,List.length_map] at h1
   rw [h1]
   exact aI (Nat.le_trans hl (Nat.le_trans hi hm))
  obtain ⟨_,_,_,_,_,_,_,_,hn⟩:=id hd
  refine k_ ?_
  refine wpAny_dictSet_pairs (hsz:=hz) (strKind_is F.prog F.w x t) hd fun h₆ hl₆ hs₆=>?_
  refine Hh fun G_ k_=>?_
  obtain ⟨ob,es,ep,ho,_⟩:=id hl₆
  refine k_ ?_
  exact k _ _ ((X₅.put (o':=.dic (upd d x b)) G (s₅.toks+1) ho hs₆ fun vm=>⟨_,hl₆,qM (vm _ _ r₅) ⟨hr.1,VRs.of vm hr.2⟩ hn⟩).cast (Bool.and_assoc ..))
end
end
end Internal
namespace Internal
section
variable {F:Fix} {K:Frag} {C:Cfg} {N n:Nat} {A:Around} {env:Env} {E:AEnv} {s:Shared} {ρ:Rg} {σ σ':St} {p:Bool}
noncomputable def jh (F:Fix) (N:Nat):Prop:=
 ∀ {A:Around} {s:Shared} {ρ:Rg} {σ:St} {x y:AV} {v u:Value} {xs:List AV} {q:List AV×Bool} {t:Expr},gw t=true→AOk N A→Inv F s ρ σ→VR s.heap ρ x v→yY x=some xs→VR s.heap ρ y u→uE σ y=some q →
  wp F A (call (.type "zip") [v,u]) s fun z s₁=>wp F A (pyIter z) s₁ (SrcS F A s.heap ρ (gx xs q.1) q.2 σ true t)
theorem Began.back {t:Expr} {s₀ s₁:Heap} {held:Bool} {items:List AV} {it:Value} (B:Began F A s₁ ρ held items it s σ t) (h:∀ b,s₁.get? b=none→s₀.get? b=none):Began F A s₀ ρ held items it s σ t:=
 let ⟨I,fp,wr,sh,St,a,b,c,d,e,f,g,i⟩:=B
 ⟨I,fp,wr,sh,St,a,b,c,fun b hb=>h b (d b hb),fun b hb=>h b (e b hb),f,g,i⟩
theorem Stp.dead {fa:List Addr} {ρ':Rg} {h h':Heap} (S:Stp fa p ρ h ρ' h') {b:Addr} (e:h'.get? b=none):h.get? b=none:=by
 cases e2:h.get? b with
 |none=>rfl
 |some o=>obtain ⟨o',e'⟩:=S.live b o e2;rw [e] at e';cases e'
theorem bK {t:String} : gz F (.type t) s:=⟨.machine,fun A E Q hq=>wpAny_pure hq⟩
theorem aK {t:String} : gz F (.builtin t) s:=⟨.machine,fun A E Q hq=>wpAny_pure hq⟩
theorem gM {a:AV} {l:List AV} (e:pZ a=some l):a = .tup l:=by cases a<;>first | exact aa e | exact congrArg AV.tup (Option.some.inj e)
theorem oR {e:Expr} {q:Str×List Expr} (h:xY e=some q):∃ zp pos,e = .Call (.Name q.1 zp) q.2 [] pos:=by
 cases e with
 |Call f args kw pos=>
  cases f with
  |Name z zp=>
   cases kw with
   |nil=>cases h;exact ⟨zp,pos,rfl⟩
   |cons=>exact aa h
  |_=>exact aa h
 |_=>exact aa h
theorem qN {l:List Expr} {q:Expr×Expr} (h:Ch l=some q):l=[q.1,q.2]:=by
 match l,h with
 | [a,b],h=>cases h;rfl
 | [],h=>cases h
 | [_],h=>cases h
 |_::_::_::_,h=>cases h
theorem qO {e:Expr} {q:Expr×Expr} (h:ie C E e=some q):∃ zp pos,e = .Call (.Name "zip" zp) [q.1,q.2] [] pos∧aH q.1=false∧aH q.2=false∧f5 C E "zip" = some (.val (.type "zip")):=by
 refine ad h fun a e1 h=>ad h fun b e2 h=>al h fun hc e3=>?_
 subst e3
 refine Hh fun G_ k_=>?_
 obtain ⟨zp,pos,he⟩:=oR e1
 obtain ⟨z,args⟩:=a
 refine k_ ?_
 simp only [Bool.and_eq_true,beq_iff_eq,Bool.not_eq_true'] at hc
 refine Hh fun G_ k_=>?_
 obtain ⟨⟨⟨h1,h2⟩,h3⟩,h4⟩:=hc
 refine k_ ?_
 dsimp only at h1 he e2 h4
 subst h1
 refine ⟨zp,pos,he.trans (by rw [qN e2]),h2,h3,?_⟩
 unfold xZ at h4
 split at h4
 ·rename_i t ht;rw [ht,eq_of_beq h4]
 ·cases h4
theorem qP {α β:Type} {o:Option α} {f:α→Option β} {x:Option β} {r:β} {G:Prop} (h:els o f x=some r) (k1:∀ a,o=some a→f a=some r→G) (k2:o=none→x=some r→G):G:=by
 cases o with
 |none=>exact k2 rfl h
 |some a=>exact k1 a rfl h
theorem qQ (S:Snd F C N n) (KC:CfgOk F K C N) (hA:AOk N A) {iter tg:Expr} {q:List AV×Bool} (h:(Hp (Hs n C E σ iter) fun v σ₁=>pur σ₁ (bQ σ₁ v))=some (q,σ',p)) (I:Inv F s ρ σ) (R:EnvR F s.heap ρ env E) :
  wp F A (eval iter env) s fun v s₁=>wp F A (pyIter v) s₁ (SrcS F A s.heap ρ q.1 q.2 σ' p tg):=
 aJ h fun v σ₁ p₁ p₂ h1 g1 e=>p9 g1 fun h3 e1 e2=>((S.ev hA I R).to h1).seq fun v s₁ ρ₁ I₁ r₁ S₁=>
  wpAny_mono (zg KC.mods hA.1 h3 I₁ r₁) (fun it s' B=>⟨ρ₁,by rw [e,e2];exact S₁.trans (Stp.keeps B.1),e1▸B.2.back fun b e=>S₁.dead e⟩) fun __ __ z=>z
theorem zm (S:Snd F C N n) (KC:CfgOk F K C N) (Z:jh F N) (hA:AOk N A) {a b tg:Expr} {zp pos:Pos} {q:List AV×Bool} (hTup:gw tg=true) (ha:aH a=false) (hb:aH b=false) (hn:f5 C E "zip" = some (.val (.type "zip")))
  (h:(Hp (Hs n C E σ a) fun x σ₁=>Hp (Hs n C E σ₁ b) fun y σ₂=>pur σ₂ ((yY x).bind fun xs=>(uE σ₂ y).map fun ys=>(gx xs ys.1,ys.2)))=some (q,σ',p)) (I:Inv F s ρ σ) (R:EnvR F s.heap ρ env E) :
  wp F A (eval (.Call (.Name "zip" zp) [a,b] [] pos) env) s fun v s₁=>wp F A (pyIter v) s₁ (SrcS F A s.heap ρ q.1 q.2 σ' p tg):=by
 refine aJ h fun x σ₁ p₁ p₂ h1 g1 e=>aJ g1 fun y σ₂ p₃ p₄ h2 g2 e'=>p9 g2 fun h3 e1 e2=>ad h3 fun xs k1 h3=>ao h3 fun ys k2 e3=>?_
 show wpAny _ _ _ _ _ _
 rw [arm_eval_Call_Name',aE (by simp [ha,hb])]
 refine wpAny_bind ((jc KC hn I R).seq fun v s₁ ρ₁ I₁ r₁ S₁=>?_)
 cases r₁
 refine bJ kc (cN (Calls.spliced_cons (((S.ev hA I₁ (R.mono S₁)).to h1).seq fun v s₂ ρ₂ I₂ r₂ S₂=>Calls.spliced_cons (((S.ev hA I₂ ((R.mono S₁).mono S₂)).to h2).seq fun u s₃ ρ₃ I₃ r₃ S₃=>Calls.spliced_nil ⟨bK,?_⟩))))
 have ST:=(S₁.trans S₂).trans S₃
 exact wpAny_mono (Z hTup hA I₃ (VR.mono S₃ _ _ r₂) k1 r₃ k2) (fun z s₄ hz=>wpAny_mono hz (fun it s₅ ⟨ρ',S',B⟩=>⟨ρ',by rw [e,e',e2];simpa using ST.trans S',e1▸e3▸B.back fun b e=>ST.dead e⟩) fun __ __ z=>z) fun __ __ z=>z
theorem u5 (S:Snd F C N n) (KC:CfgOk F K C N) (Z:jh F N) (hA:AOk N A) {iter tg:Expr} {items:List AV} {held:Bool} (h:asrc (n+1) C E σ iter=some ((items,held),σ',p)) (htg:dU C E iter tg=true) (I:Inv F s ρ σ) (R:EnvR F s.heap ρ env E) :
  wp F A (eval iter env) s fun v s₁=>wp F A (pyIter v) s₁ (SrcS F A s.heap ρ items held σ' p tg):=
 qP h (fun ab hz hh=>by
  have hTup:gw tg=true:=by unfold dU at htg;rw [hz] at htg;simpa using htg
  obtain ⟨zp,pos,rfl,ha,hb,hn⟩:=qO hz
  exact zm S KC Z hA hTup ha hb hn hh I R) fun __ hh=>qQ S KC hA hh I R
theorem cu {e:Expr} {x:Value} (h:bD e=false):foldedSetIterable e env x=pure x:=by
 cases e<;>first | rfl | exact nomatch h
section
variable {s₂:Shared} {ρ₂:Rg} {p₁:Bool} {wr sh fp:List Addr} {D:Addr} {H:Heap} {scope:Scope} {St:Nat→Heap→Prop} {held:Bool} {items:List AV} {σ₁:Internal.St} {Ia:Addr} {tg:Expr}
noncomputable abbrev qR (ρ:Rg) (sh:List Addr) (D:Addr):Rg:=Rg.shut ⟨ρ.l,sh++ρ.x⟩ D
theorem u6 (S₂:Stp [] p₁ ρ s.heap ρ₂ s₂.heap) (hsh:∀ b∈sh,s.heap.get? b=none) (hDd:s₂.heap.get? D=none) (up:∀ b o,s₂.heap.get? b=some o→H.get? b=some o) (R:EnvR F s.heap ρ env E):EnvR F H (qR ρ₂ sh D) env E:=by
 have R₂:=R.mono S₂
 have hv:∀ av v,VR s.heap ρ av v→VR H (qR ρ₂ sh D) av v:=fun av v x=>by
  refine VR.rg (ρ':=qR ρ₂ sh D) (fun b ob hb hi e=>⟨⟨S₂.nin hb.1 e,fun hm=>?_⟩,up b ob (S₂.imm b ob (.inr hb.1) hi e)⟩) S₂.ext _ _ x
  rcases List.mem_cons.mp hm with q | hm
  ·have:=S₂.imm b ob (.inr hb.1) hi e
   rw [q,hDd] at this;cases this
  ·rcases List.mem_append.mp hm with hm | hm
   ·rw [hsh b hm] at e;cases e
   ·exact hb.2 (S₂.xs▸hm)
 refine ⟨R.kind,R.names,R.glob,R.blt,R₂.loc,?_,fun x av e hk=>?_,R.own,fun x c hx=>?_,R.inj⟩
 ·obtain ⟨m,hn,hm⟩:=R.ns
  exact ⟨m,hn.at' fun o e=>up _ o (S₂.keep _ o (.inr R.loc.1) (by simp) e),fun x av e1 e2=>let ⟨v,a,b⟩:=hm x av e1 e2;⟨v,a,hv _ _ b⟩⟩
 ·obtain ⟨c,v,h1,⟨o,ho,hd⟩,h3⟩:=R.cel x av e hk
  exact ⟨c,v,h1,⟨o,up _ o (S₂.keep _ o (.inr (R.celN x c h1).1) (by simp) ho),hd⟩,hv _ _ h3⟩
 ·obtain ⟨h1,v,o,ho,hd⟩:=R₂.celN x c hx
  exact ⟨h1,v,o,up _ o ho,hd⟩
noncomputable abbrev FU (kx:Option Expr):Obj:=match kx with
 |none=>{ cls:=.type "list", dict:=none,data:=.seq ([]:List Value).toArray }
 |some _=>{ cls:=.type "dict", dict:=none,data:=.dict #[] }
noncomputable def Er (kx:Option Expr):AObj:=match kx with
 |none=>.lst []
 |some _=>.dic []
noncomputable abbrev lS (kx:Option Expr) (h:Heap):Heap:=h.push (FU kx)
theorem Cl {kx:Option Expr} {h h':Heap} {ρ:Rg} (k:∀ b o,(lS kx h).get? b=some o→h'.get? b=some o):OR F h' ρ h.objs.size (Er kx):=by
 cases kx with
 |none=>exact ⟨#[],0,k _ _ (Heap.get?_push_size _ rfl),trivial⟩
 |some e=>exact ⟨[],(Heap.DictOf.new h).keep k,rfl,trivial⟩
theorem oS (S₂:Stp [] p₁ ρ s.heap ρ₂ s₂.heap) (I₂:Inv F s₂ ⟨ρ₂.l,sh++ρ₂.x⟩ σ₁) (R:EnvR F s.heap ρ env E) (W:Src F A Ia fp wr sh s₂.heap ⟨ρ₂.l,sh++ρ₂.x⟩ items St tg) (hst:St 0 s₂.heap) (hwr:∀ b∈wr,s.heap.get? b=none)
  (fplive:∀ b∈fp,∃ o,s₂.heap.get? b=some o) (hwr2:∀ b∈wr,b ∉ ρ₂.l∧F.h.get? b=none∧b ∉ F.tabs∧b ∉ ρ₂.x) (hH:H.objs.size=s₂.heap.objs.size+1) (hfree:∀ p∈scope.names,p.2 = .free→(env.cells.lookup p.1).isSome=true) (hfr:∀ b∈ki H scope,H.objs.size≤b) :
  Fixed F s.heap ρ s₂.heap.objs.size (ki H scope) fp wr sh (cm scope env H.objs.size) St:=by
 have hDd:s₂.heap.get? s₂.heap.objs.size=none:=an _ (Nat.le_refl _)
 have fdead:∀ b,H.objs.size≤b→s₂.heap.get? b=none:=fun b hb=>an _ (by omega)
 have live:∀ b,(∃ o,s₂.heap.get? b=some o)→¬ H.objs.size≤b∧b≠s₂.heap.objs.size:=fun b ⟨o,e⟩=>⟨fun h=>(by rw [fdead b h] at e;cases e),fun q=>(by rw [q,hDd] at e;cases e)⟩
 have wrlive:∀ b∈wr,∃ o,s₂.heap.get? b=some o:=fun b hb=>let ⟨o,e,_⟩:=W.imm 0 _ hst b hb;⟨o,e⟩
 have ge:∀ b,H.objs.size≤b→b≠s₂.heap.objs.size:=fun b h q=>by omega
 refine ⟨fun b hb=>⟨hwr b hb,(hwr2 b hb).2.1,(hwr2 b hb).2.2.1,fun hm=>(hwr2 b hb).2.2.2 (S₂.xs▸hm)⟩,W.sub,fun b hb=>⟨S₂.dead (fdead b (hfr b hb)),fun hm=>(live b (fplive b hm)).1 (hfr b hb),ge b (hfr b hb)⟩,W.frame,W.imm,
  ⟨S₂.dead hDd,(I₂.fresh_facts hDd).2.1,(I₂.fresh_facts hDd).2.2.1,fun hm=>(live _ (fplive _ hm)).2 rfl⟩,⟨fun hm=>(live _ (wrlive _ hm)).1 (Nat.le_refl _),ge _ (Nat.le_refl _)⟩,fun x c e=>?_⟩
 have e:(cellsFrom (H.objs.size+1) scope.names (dj env scope.names [])).lookup x=some c:=e
 rw [aL,bY] at e
 cases h:(cellsFrom (H.objs.size+1) scope.names []).lookup x with
 |some d=>
  rw [h] at e
  have e:d=c:=by simpa using e
  subst e
  have hb:H.objs.size≤d:=hfr d (List.mem_cons_of_mem _ (List.mem_map.mpr ⟨_,mem_of_lookup h,rfl⟩))
  exact ⟨fun hm=>(live d (wrlive d hm)).1 hb,ge d hb⟩
 |none=>
  rw [h,Option.none_or] at e
  refine Hh fun G_ k_=>?_
  obtain ⟨_,v,o,ho,_⟩:=R.celN x c ((dk hfree).1 c e)
  refine k_ ?_
  exact ⟨fun hm=>(by rw [hwr c hm] at ho;cases ho),fun q=>(by rw [q,S₂.dead hDd] at ho;cases ho)⟩
end
theorem fu {β:Type} {held:Bool} {x:Option (β×St×Bool)} {r:β×St×Bool} (h:cW held x=some r) {G:Prop} (k:x=some r→(held=true→r.2.2=true)→G):G:=by
 match x with
 |none=>exact aa h
 |some (b,σ,q)=>
  by_cases hc:held=true∧q=false
  ·rw [cW,if_pos hc] at h;exact aa h
  ·rw [cW,if_neg hc] at h
   cases h
   exact k rfl fun e=>by cases q<;>first | rfl | exact absurd ⟨e,rfl⟩ hc
section
variable {elt target iter:Expr} {ifs:List Expr} {scope:Scope} {pos p2:Pos} {l:List AV} {o:AObj} {kx:Option Expr} {use:Option (Value→Sem Unit)} {Q:Value→Shared→Prop}
theorem u7 {s₀:Heap} {fr fp wr sh:List Addr} {held:Bool} {g:Heap} {ρg:Rg} {cenv:Env} {St:Nat→Heap→Prop} {i:Nat} {P:Bool} {s'':Shared} {ρ'':Rg} {E₁:AEnv} {D:Addr} {h':Heap} {tk:Nat} (FX:Fixed F s₀ ρ D fr fp wr sh cenv St)
  (X:CS F s₀ ρ D fr fp wr sh held g ρg cenv St i P s'' ρ'' σ' E₁ o) (hk:∀ b o,b ∉ wr→s''.heap.get? b=some o→h'.get? b=some o) (hC:s₀.get? cenv.locals=none) (hT:cenv.locals ∉ F.tabs) (hx:∀ b∈ρ.x,∃ o,s₀.get? b=some o) (hQ:jb F A s₀ ρ σ' P o use Q) :
  compPost (model F.prog F.w) A Ht use Q (.ref D) cenv.locals (.ok .next) { s'' with heap:=h',toks:=tk }:=by
 have hw:=X.wrx FX
 have hDw:D ∉ wr:=fun h=>FX.DF.2.2.2 (FX.sub _ h)
 have ex:∀ b∈ρ.x,b∈ρ''.x:=fun b hb=>by rw [X.x];exact List.mem_cons_of_mem _ (List.mem_append_right _ hb)
 have hrg:∀ b o,ρ''.out b→Hi o=true→s''.heap.get? b=some o→(⟨ρ''.l,ρ.x⟩:Rg).out b∧h'.get? b=some o:=fun b ob hb hi e=>⟨⟨hb.1,fun hm=>hb.2 (ex b hm)⟩,hk b ob (fun q=>by
  rcases hw b q with h | ⟨o',e',hi'⟩
  ·exact hb.2 h
  ·rw [e] at e';cases e';rw [hi] at hi';cases hi') e⟩
 refine Hh fun G_ k_=>?_
 obtain ⟨mm,hn,_⟩:=X.env.ns
 refine k_ ?_
 exact hQ D cenv.locals _ ⟨ρ''.l,ρ.x⟩ mm (X.inv.pokeL (ρ':=⟨ρ''.l,ρ.x⟩) (wr:=wr) tk rfl ex (fun b hb=>⟨X.nw b hb,(FX.wrF b hb).2.1,(FX.wrF b hb).2.2.1,hw b hb⟩) hk fun b hb hm=>absurd hm (FX.wrF b hb).2.2.2)
  (X.ob.rg (ρ':=⟨ρ''.l,ρ.x⟩) hrg (fun __ __ e=>e) fun ob e=>hk _ ob hDw e) ⟨⟨X.nD,fun hm=>(by obtain ⟨o,e⟩:=hx _ hm;rw [FX.DF.1] at e;cases e)⟩,FX.DF.2.1,FX.DF.1,FX.loc.2⟩
  (X.stp.pokes fun b o ⟨o₀,e₀⟩ e=>hk b o (fun h=>by rw [(FX.wrF b h).1] at e₀;cases e₀) e) (hn.at' fun o e=>hk _ o FX.loc.1 e) X.env.loc.1 X.env.loc.2 hT hC
theorem oT {it D:Addr} {cenv:Env} {R:Result→Shared→Prop} (h0:codeAny (model F.prog F.w) A (qJ kx elt target iter ifs scope pos it D cenv) R s)
  (h:wpAny (model F.prog F.w) A (pyIter (.ref it)) (fun it' s'=>it' = .ref it∧s'=s) (fun __ __=>False) s):codeAny (model F.prog F.w) A (.compStart (j3 kx elt target iter ifs scope pos) 0 (.ref it) (.ref D) cenv) R s:=by
 cases kx with
 |none=>exact codeAny_compStart_list h0 (wpAny_mono h (fun _ _ ⟨a,b⟩=>by subst a b;exact h0) fun __ __ z=>z.elim)
 |some k=>exact codeAny_compStart_dict h0 (wpAny_mono h (fun _ _ ⟨a,b⟩=>by subst a b;exact h0) fun __ __ z=>z.elim)
theorem u8 {R:Value→Shared→Prop} (h:R (.ref s.heap.objs.size) { s with heap:=lS kx s.heap }):wp F A (Ep kx) s R:=by
 cases kx with
 |none=>exact wpAny_newObj_type h (by size_fits)
 |some k=>exact wpAny_newObj_type h
theorem kl {α:Type} {make:AEnv→Internal.St→Option (α×Internal.St×Bool)} {add:AObj→α→AObj} {bound:AObj→Nat→Prop} {q:List AV×Bool} {σ₁:Internal.St} {p₁ p₂:Bool} {l:List α} (S:Snd F C N n) (hA:AOk N A)
  (HP:∀ {s₀:Heap} {ρ:Rg} {D:Addr} {fr fp wr sh:List Addr} {g:Heap} {ρg:Rg} {cenv:Env} {St:Nat→Heap→Prop} {m:Nat},Fixed F s₀ ρ D fr fp wr sh cenv St→m≤Hk→qK F A kx elt s₀ ρ D fr fp wr sh q.2 g ρg cenv St make add bound m)
  (hB:∀ o i y,bound o i→bound (EL add o y) (i+1)) (hb0:bound (Er kx) 0) (hset:bD iter=false) (hsc:cT E scope=true) (htg:dU C E iter target=true) (hsrc:asrc n C E σ iter=some (q,σ₁,p₁)) (hlen:q.1.length≤Hk)
  (h:eG (zh n C (ag E scope) target ifs make) q.1 σ₁=some (l,σ',p₂)) (hheld:q.2=true→p₂=true) (I:Inv F s ρ σ) (R:EnvR F s.heap ρ env E) (hQ:jb F A s.heap ρ σ' (p₁&&p₂) (l.foldl add (Er kx)) use Q) :
  wp F A (comprehension (j3 kx elt target iter ifs scope pos) scope env p2 (Ep kx) false (eval iter env) use) s Q:=by
 have O:=nt hsc I R
 refine wpAny_comprehension_free (use:=use) (g:=⟨target,iter,ifs,0⟩) (gs:=[]) (by cases kx<;>rfl) (fun x=>cu hset) (uY O.free) O.kind O.loc ?_
 refine wpAny_mono (S.src hsrc htg hA I R) (fun v s₁ hv=>wpAny_mono hv (fun it s₂ ⟨ρ₂,S₂,B⟩=>?_) fun __ __ z=>z) fun __ __ z=>z
 obtain ⟨Ia,fp,wr,sh,St,rfl,W,hst,hwr,hsh,hfp,hwr2,I₂⟩:=B
 refine u8 ?_
 have hDd:s₂.heap.get? s₂.heap.objs.size=none:=an _ (Nat.le_refl _)
 have up:∀ b o,s₂.heap.get? b=some o→(lS kx s₂.heap).get? b=some o:=fun b o e=>Heap.get?_push_of_some _ e
 have hDl:(lS kx s₂.heap).get? s₂.heap.objs.size=some (FU kx):=Heap.get?_push_size _ (by cases kx<;>rfl)
 have I₃:Inv F { s₂ with heap:=lS kx s₂.heap } (qR ρ₂ sh s₂.heap.objs.size) σ₁:=I₂.shut s₂.toks hDd up hDl
 refine jg ?_
 have O₃:=nt (s:={ s₂ with heap:=lS kx s₂.heap }) hsc I₃ (u6 S₂ hsh hDd up R)
 have fplive:∀ b∈fp,∃ o,s₂.heap.get? b=some o:=fun b hb=>by
  rcases hfp b hb with h | ⟨⟨o,e,_⟩,_⟩
  ·obtain ⟨o,e,_⟩:=W.imm 0 _ hst b h;exact ⟨o,e⟩
  ·exact ⟨o,e⟩
 have FX:=oS (H:=lS kx s₂.heap) S₂ I₂ R W hst hwr fplive hwr2 (Heap.size_push ..) O.free O₃.new
 have kG:∀ b o,s₂.heap.get? b=some o→(eM (lS kx s₂.heap) scope).get? b=some o:=fun b o e=>O₃.up b o (up b o e)
 have XS:CS F s.heap ρ s₂.heap.objs.size (ki (lS kx s₂.heap) scope) fp wr sh q.2 s₂.heap ⟨ρ₂.l,sh++ρ₂.x⟩ (cm scope env (lS kx s₂.heap).objs.size) St 0 p₁ { s₂ with heap:=eM (lS kx s₂.heap) scope } (qR ρ₂ sh s₂.heap.objs.size) σ₁ (ag E scope) (Er kx):=by
  refine ⟨by show _::(sh++ρ₂.x)=_;rw [S₂.xs],I₃.heap O₃.up s₂.toks,W.frame _ _ _ hst fun b __ o e=>kG b o e,⟨_,O₃.up _ _ hDl⟩,Cl O₃.up,(I₂.fresh_facts hDd).1,O₃.envr,O₃.far,?_,fun a v h=>VR.shut hDd kG h,fun b hb=>(hwr2 b hb).1,fun b hb=>(hfp b hb).imp id fun ⟨⟨o,e,_⟩,h⟩=>⟨⟨o,kG b o e⟩,h⟩⟩
  have:=S₂.trans (Stp.keeps (fa:=[]) (ρ:=ρ₂) kG)
  rw [Bool.and_true] at this
  have e:(⟨ρ₂.l,ρ.x⟩:Rg)=ρ₂:=by rw [←S₂.xs]
  show Stp [] p₁ ρ s.heap ⟨ρ₂.l,ρ.x⟩ _
  rw [e];exact this
 have hloc:=(an s₂.heap (a:=(lS kx s₂.heap).objs.size) (by rw [Heap.size_push];omega))
 have loop:codeAny (model F.prog F.w) A (qJ kx elt target iter ifs scope pos Ia s₂.heap.objs.size (cm scope env (lS kx s₂.heap).objs.size)) (compPost (model F.prog F.w) A Ht use Q (.ref s₂.heap.objs.size) (lS kx s₂.heap).objs.size) { s₂ with heap:=eM (lS kx s₂.heap) scope }:=
  kj S hA FX W (HP FX hlen) hB O₃.vars q.1 rfl (Nat.zero_le _) hb0 h hheld XS fun h' tk s'' ρ'' X hk=>
   u7 (ρ:=ρ) FX X hk (S₂.dead hloc) (I₂.fresh_facts hloc).2.2.1 I.xlive hQ
 exact oT loop (W.self 0 _ _ _ XS.st ⟨rfl,rfl⟩)
theorem Cm:∀ (l d:List AV),l.foldl EM (.lst d) = .lst (d++l)
 | [],d=>by rw [List.append_nil];rfl
 |a::l,d=>(Cm l (d++[a])).trans (by rw [List.append_assoc];rfl)
theorem Cn:∀ (l:List (Str×AV)) (d:List (Str×AV)),l.foldl EN (.dic d) = .dic (l.foldl (fun d p=>upd d p.1 p.2) d)
 | [],_=>rfl
 |a::l,d=>Cn l (upd d a.1 a.2)
theorem aV {α:Type} {c:Prop} {d:Decidable c} {x:Option α} {r:α} {G:Prop} (h:(if c then x else none)=some r) (k:c→x=some r→G):G:=by
 by_cases hc:c
 ·rw [if_pos hc] at h;exact k hc h
 ·rw [if_neg hc] at h;exact aa h
theorem u9 (S:Snd F C N n) (hA:AOk N A) {is_async:Int} (h:j4 (n+1) C E σ kx elt target iter ifs is_async scope=some (o,σ',p)) (I:Inv F s ρ σ) (R:EnvR F s.heap ρ env E) (hQ:jb F A s.heap ρ σ' p o use Q) :
  is_async=0∧wp F A (comprehension (j3 kx elt target iter ifs scope pos) scope env p2 (Ep kx) false (eval iter env) use) s Q:=by
 cases kx with
 |none=>
  refine ao h fun r hx e=>?_
  refine Hh fun G_ k_=>?_
  obtain ⟨l,σ₀,p₀⟩:=r
  refine k_ ?_
  cases e
  clear h
  refine aV hx fun hc h=>⟨hc.1,aJ h fun q σ₁ p₁ p₂ hsrc h ep=>aV h fun hlen h=>fu h fun h hheld=>?_⟩
  exact kl S hA (fun G hm=>u3 S hA G hm) (fun o i y ⟨l,e,hl⟩=>by subst e;cases y with | none=>exact ⟨l,rfl,Nat.le_succ_of_le hl⟩ | some v=>exact ⟨_,rfl,by rw [List.length_append];exact Nat.succ_le_succ hl⟩) ⟨[],rfl,Nat.le_refl _⟩ hc.2.1 hc.2.2.1 hc.2.2.2 hsrc hlen h hheld I R (by rw [←ep];show jb F A s.heap ρ σ' p (l.foldl EM (.lst [])) use Q;rw [Cm];exact hQ)
 |some k=>
  refine ao h fun r hx e=>?_
  refine Hh fun G_ k_=>?_
  obtain ⟨l,σ₀,p₀⟩:=r
  refine k_ ?_
  cases e
  clear h
  refine aV hx fun hc h=>⟨hc.1,aJ h fun q σ₁ p₁ p₂ hsrc h ep=>aV h fun hlen h=>fu h fun h hheld=>?_⟩
  exact kl S hA (fun G hm=>u4 S hA G hm) (fun o i y ⟨d,e,hl⟩=>by subst e;cases y with | none=>exact ⟨d,rfl,Nat.le_succ_of_le hl⟩ | some v=>exact ⟨_,rfl,Nat.le_trans oQ (Nat.succ_le_succ hl)⟩) ⟨[],rfl,Nat.le_refl _⟩ hc.2.1 hc.2.2.1 hc.2.2.2 hsrc hlen h hheld I R (by rw [←ep];show jb F A s.heap ρ σ' p (l.foldl EN (.dic [])) use Q;rw [Cn];exact hQ)
theorem km {C':Addr} {s₁:Shared} {ρ₁:Rg} {m:Str→Option Value} {h':Heap} {s₀:Shared} {fa:List Addr} (I₁:Inv F s₁ ρ₁ σ') (S₁:Stp fa p ρ s₀.heap ρ₁ s₁.heap) (hn:s₁.heap.Ns C' m) (hC:C' ∉ ρ₁.l) (hF:F.h.get? C'=none) (hT:C' ∉ F.tabs) (hd:s₀.heap.get? C'=none) (hx:∀ b∈ρ.x,∃ o,s₀.heap.get? b=some o) (hs:Heap.SameBut C' s₁.heap h') :
  (∀ b o,b ∉ [C']→s₁.heap.get? b=some o→h'.get? b=some o)∧(∀ b∈[C'],(b∈ρ₁.x)∨∃ o,s₁.heap.get? b=some o∧Hi o=false)∧Inv F { s₁ with heap:=h' } ρ₁ σ'∧Stp fa p ρ s₀.heap ρ₁ h':=by
 refine Hh fun G_ k_=>?_
 obtain ⟨o,ho,hi⟩:=iy hn
 refine k_ ?_
 have hk:∀ b o,b ∉ [C']→s₁.heap.get? b=some o→h'.get? b=some o:=fun b o hb e=>hs.extBut b o (fun h=>hb (by rw [h];exact List.mem_singleton.mpr rfl)) e
 have hw:∀ b∈[C'],(b∈ρ₁.x)∨∃ o,s₁.heap.get? b=some o∧Hi o=false:=fun b hb=>by rw [List.mem_singleton.mp hb];exact .inr ⟨o,ho,hi⟩
 refine ⟨hk,hw,I₁.pokeL (wr:=[C']) s₁.toks rfl (fun __ h=>h) (fun b hb=>by rw [List.mem_singleton.mp hb];exact ⟨hC,hF,hT,.inr ⟨o,ho,hi⟩⟩) hk fun b hb hm=>?_,S₁.pokes fun b o ⟨o₀,e₀⟩ e=>hk b o (fun h=>by rw [List.mem_singleton.mp h,hd] at e₀;cases e₀) e⟩
 rw [List.mem_singleton.mp hb] at hm
 obtain ⟨o',e'⟩:=hx C' (S₁.xs▸hm)
 rw [hd] at e';cases e'
theorem lT (S:Snd F C N n) (hA:AOk N A) {is_async:Int} (I:Inv F s ρ σ) (R:EnvR F s.heap ρ env E) :
  OkP F [] ρ s.heap VV (wp F A (eval (.ListComp elt [⟨target,iter,ifs,is_async⟩] scope pos) env) s) (Hp (acomp n C E σ elt target iter ifs is_async scope) fun l σ₁=>some (.lst l,σ₁,true)):=fun b σ' p h G k=>by
 refine aJ h fun l σ₁ p₁ p₂ hc h e=>?_
 cases h
 have fin:jb F A s.heap ρ σ' p₁ (.lst l) none G:=by
  intro D C' s₁ ρ₁ m I₁ ⟨vs,nn,ho,hv⟩ hD S₁ hn hC hF hT hd
  refine ⟨m,hn,fun h' hs=>k _ _ ?_⟩
  refine Hh fun G_ k_=>?_
  obtain ⟨hk,hw,I₂,S₂⟩:=km I₁ S₁ hn hC hF hT hd I.xlive hs
  refine k_ ?_
  exact ⟨ρ₁,I₂,VR.pokeL hw hk ⟨D,vs,nn,rfl,hD.1,ho,hv⟩,e▸(by rw [Bool.and_true];exact S₂)⟩
 obtain ⟨hz,key⟩:=S.comp (kx:=none) (use:=none) (pos:=pos) (p2:=firstIterPos [⟨target,iter,ifs,0⟩] pos) (by rw [j4,hc];rfl) hA I R fin
 subst hz
 show wpAny _ _ _ _ _ _
 rw [eval_ListComp]
 exact key
end
end
end Internal
namespace Internal
section
variable {F:Fix} {C:Cfg} {N n:Nat} {A:Around} {env:Env} {E:AEnv} {s:Shared} {ρ ρ₀:Rg} {σ σ':St} {p:Bool} {fa:List Addr}
theorem eP (I:Inv F s ρ σ) {o:Obj} {x:AObj} (tk:Nat) (hf:o.isFreed=false) (hO:OR F (s.heap.push o) (ρ.add s.heap.objs.size) s.heap.objs.size x) :
  Inv F { s with heap:=s.heap.push o,toks:=tk } (ρ.add s.heap.objs.size) (σ++[x])∧VR (s.heap.push o) (ρ.add s.heap.objs.size) (.ref σ.length) (.ref s.heap.objs.size)∧Stp [] false ρ s.heap (ρ.add s.heap.objs.size) (s.heap.push o):=by
 have hd:=an s.heap (Nat.le_refl s.heap.objs.size)
 have up:∀ b p,s.heap.get? b=some p→(s.heap.push o).get? b=some p:=fun b p e=>Heap.get?_push_of_some _ e
 refine ⟨I.addObj tk hd (I.base_dead hd) up (Heap.get?_push_size _ hf) hO,⟨_,rfl,?_⟩,Stp.added hd up⟩
 show (ρ.l++[s.heap.objs.size])[σ.length]? = some s.heap.objs.size
 rw [←I.len];simp
theorem fv {c:Addr} : ∀ (i:Nat) (a:Addr),ρ.l[i]? = some a→(ρ.add c).l[i]? = some a:=fun i a e=>by
 show (ρ.l++[c])[i]? = some a
 rw [List.getElem?_append_left ((Nat.lt_or_ge i ρ.l.length).elim id fun h=>by rw [List.getElem?_eq_none h] at e;cases e)]
 exact e
theorem kn {c:Addr} {o:Obj} {h:Heap} (ho:h.get? c=some o) (hi:Hi o=false) (b:Addr) (ob:Obj) (hb:ρ.out b) (hi':Hi ob=true) (e:h.get? b=some ob):(ρ.add c).out b∧h.get? b=some ob:=
 ⟨⟨fun hm=>(List.mem_append.mp hm).elim hb.1 fun q=>(by rw [List.mem_singleton.mp q,ho] at e;cases e;rw [hi] at hi';cases hi'),hb.2⟩,e⟩
theorem vc {c:Addr} {o:Obj} {h:Heap} (ho:h.get? c=some o) (hi:Hi o=false) {av:AV} {v:Value} (x:VR h ρ av v):VR h (ρ.add c) av v:=
 VR.rg (ρ:=ρ) (ρ':=ρ.add c) (kn ho hi) fv av v x
theorem Inv.adopt (I:Inv F s ρ σ) {c:Addr} {o:Obj} {x:AObj} (ho:s.heap.get? c=some o) (hi:Hi o=false) (hc:c ∉ ρ.l) (hF:F.h.get? c=none) (hO:OR F s.heap (ρ.add c) c x):Inv F s (ρ.add c) (σ++[x]):=by
 refine ⟨I.base,by show (ρ.l++[c]).length=_;rw [List.length_append,List.length_append,I.len];rfl,fun i b y hb hy=>?_,?_,fun b hb=>?_,fun b hb=>?_,I.xlive,I.tlive,I.gens,I.os⟩
 ·have hb:(ρ.l++[c])[i]? = some b:=hb
  rcases Nat.lt_or_ge i ρ.l.length with h | h
  ·rw [List.getElem?_append_left h] at hb
   rw [List.getElem?_append_left (by rw [←I.len];exact h)] at hy
   exact (I.objs i b y hb hy).rg (ρ':=ρ.add c) (kn ho hi) fv fun __ e=>e
  ·rw [List.getElem?_append_right h] at hb
   rw [List.getElem?_append_right (by rw [←I.len];exact h)] at hy
   have he:i=ρ.l.length:=by
    rcases Nat.eq_or_lt_of_le h with e | e
    ·exact e.symm
    ·rw [List.getElem?_eq_none (by simp;omega)] at hb;cases hb
   subst he
   rw [I.len] at hy
   simp at hb hy
   subst hb;subst hy
   exact hO
 ·exact List.nodup_append.mpr ⟨I.nodup,by simp,fun x hx y hy e=>by rw [List.mem_singleton.mp hy] at e;exact hc (e▸hx)⟩
 ·rcases List.mem_append.mp hb with h | h
  ·exact I.fresh b h
  ·rw [List.mem_singleton.mp h];exact .inr hF
 ·rcases List.mem_append.mp hb with h | h
  ·exact I.live b h
  ·rw [List.mem_singleton.mp h];exact ⟨o,ho⟩
theorem Stp.adopt {g h:Heap} {c:Addr} (S:Stp fa p ρ₀ g ρ h) (hd:g.get? c=none):Stp fa false ρ₀ g (ρ.add c) h:=by
 refine ⟨fun b o hb=>S.keep b o (.inr (hb.resolve_left (by decide))),fun b o hb=>S.imm b o (.inr (hb.resolve_left (by decide))),fun i a e=>fv i a (S.ext i a e),fun a ha=>?_,fun e=>(nomatch e),S.xs,S.live⟩
 rcases List.mem_append.mp ha with h | h
 ·exact S.new a h
 ·rw [List.mem_singleton.mp h];exact .inr hd
theorem kr {h:Heap} : ∀ {d:List (Str×AV)} {vs:List (Value×Value)},qk h ρ d vs→allStrKeys vs=true∧DR h ρ d (strPairs vs)
 | [],[],_=>⟨rfl,rfl,trivial⟩
 |(k,a)::d,(kv,v)::vs,⟨⟨t,e⟩,hv,r⟩=>by
  subst e
  refine Hh fun G_ k_=>?_
  obtain ⟨h1,h2,h3⟩:=kr r
  refine k_ ?_
  exact ⟨h1,congrArg (k :: ·) h2,hv,h3⟩
 | [],_::_,r=>r.elim
 |_::_,[],r=>r.elim
theorem qS (S:Snd F C N n) (hA:AOk N A) {ks:List (Option Expr)} {vs:List Expr} {pos:Pos} (I:Inv F s ρ σ) (R:EnvR F s.heap ρ env E):OkP F [] ρ s.heap Hv (wp F A (evalPairs (pairTrees ks vs env pos)) s) (adict (n+1) C E σ ks vs):=by
 match ks,vs with
 | [],[]=>exact OkP.ret (a:=[]) I trivial fun G h=>pairTrees_nil_walk h
 | [],_::_=>exact OkP.none
 |_::_,[]=>exact OkP.none
 |none::_,_::_=>exact OkP.none
 |some k::ks,v::vs=>
  exact OkP.wrap (OkP.seq (P₁:=fun kv s₁ G=>wp F A (eval v env) s₁ fun vv s₂=>wp F A (evalPairs (pairTrees ks vs env pos)) s₂ fun r s₃=>G ((kv,vv)::r) s₃) (S.ev hA I R) fun a σ₁ u s₁ ρ₁ p₁ I₁ r₁ S₁=>OkP.opt fun x hx=>
   OkP.seq (P₁:=fun vv s₂ G=>wp F A (evalPairs (pairTrees ks vs env pos)) s₂ fun r s₃=>G ((u,vv)::r) s₃) (S.ev hA I₁ (R.mono S₁)) fun b σ₂ w s₂ ρ₂ p₂ I₂ r₂ S₂=>
   OkP.seq (P₁:=fun r s₃ G=>G ((u,w)::r) s₃) (S.dict hA I₂ ((R.mono S₁).mono S₂)) fun d σ₃ r s₃ ρ₃ p₃ I₃ r₃ S₃=>OkP.ret (a:=(u,w)::r) I₃ ⟨by have hx:=aX hx;subst hx;exact r₁,VR.mono S₃ _ _ r₂,r₃⟩ fun G h=>h)
   fun G h=>pairTrees_cons_walk h
theorem ku:∀ {n:Nat} {σ σ':St} {p:Bool} {ks:List (Option Expr)} {vs:List Expr} {d:List (Str×AV)},adict n C E σ ks vs=some (d,σ',p)→ks.length=vs.length∧ks.all (·.isSome)=true∧(ks=[]→d=[]∧σ'=σ∧vs=[])
 |0,_,_,_,_,_,_,h=>aa h
 |n+1,σ,_,_,[],[],d,h=>by cases h;exact ⟨rfl,rfl,fun __=>⟨rfl,rfl,rfl⟩⟩
 |n+1,σ,_,_,[],_::_,d,h=>aa h
 |n+1,σ,_,_,_::_,[],d,h=>aa h
 |n+1,σ,_,_,none::_,_::_,d,h=>aa h
 |n+1,σ,_,_,some k::ks,v::vs,d,h=>aJ h fun a σ₁ p₁ p₂ h1 h2 __=>aZ h2 fun x hx h3=>aJ h3 fun b σ₂ p₃ p₄ h4 h5 __=>aJ h5 fun r σ₃ p₅ p₆ h6 h7 __=>
  let ⟨a,b,_⟩:=ku h6
  ⟨congrArg (· + 1) a,b,fun e=>nomatch e⟩
theorem x8 {D:Addr} {d:List (Str×AV)} {h₀ h':Heap} {kvs:List (Str×Value)} (tk:Nat) (I:Inv F s ρ σ) (S:Stp fa p ρ₀ h₀ ρ s.heap) (hD:D ∉ ρ.l) (hF:F.h.get? D=none) (hd:h₀.get? D=none) (ho:∃ o,s.heap.get? D=some o∧Hi o=false) (hs:Heap.SameBut D s.heap h')
  (hn:h'.DictOf (strKind F.prog F.w) D kvs) (r:DR s.heap ρ d kvs):Inv F { s with heap:=h',toks:=tk } (ρ.add D) (σ++[.dic d])∧VR h' (ρ.add D) (.ref σ.length) (.ref D)∧Stp fa false ρ₀ h₀ (ρ.add D) h'∧∀ av v,VR s.heap ρ av v→VR h' (ρ.add D) av v:=by
 refine Hh fun G_ k_=>?_
 obtain ⟨o,eo,hi⟩:=ho
 obtain ⟨o',es,ep,eo',hx,hdat,_⟩:=id hn
 refine k_ ?_
 have hi':Hi o'=false:=by unfold Hi;rw [hdat]
 have hk:∀ b o,b≠D→s.heap.get? b=some o→h'.get? b=some o:=fun b o hb e=>hs.extBut b o hb e
 have I':=I.poke tk hD (.inr ⟨o,eo,hi⟩) (fun __=>hF) hk ⟨o',eo'⟩
 have hv:∀ av v,VR s.heap ρ av v→VR h' (ρ.add D) av v:=fun av v x=>vc eo' hi' (VR.pokeL (wr:=[D]) (fun b hb=>by rw [List.mem_singleton.mp hb];exact .inr ⟨o,eo,hi⟩) (fun b o hb e=>hk b o (fun q=>hb (List.mem_singleton.mpr q)) e) x)
 refine ⟨I'.adopt eo' hi' hD hF ⟨kvs,hn,r.1,VRs.of hv r.2⟩,⟨D,rfl,?_⟩,(S.poke hd hk).adopt hd,hv⟩
 show (ρ.l++[D])[σ.length]? = some D
 rw [←I.len];simp
theorem zo (S:Snd F C N n) (hA:AOk N A) {ks:List (Option Expr)} {vs:List Expr} {pos:Pos} (I:Inv F s ρ σ) (R:EnvR F s.heap ρ env E) :
  OkP F [] ρ s.heap VV (wp F A (eval (.Dict ks vs pos) env) s) (Hp (adict n C E σ ks vs) fun d σ₁=>if (d.map (·.1)).Nodup∧ks.length≤15 then some (.ref σ₁.length,σ₁++[.dic d],false) else none):=fun b σ' p h G k=>by
 refine aJ h fun d σ₁ p₁ p₂ h1 h2 ep=>al h2 fun hc e=>?_
 cases e
 refine Hh fun G_ k_=>?_
 obtain ⟨hl,hall,hnil⟩:=ku h1
 refine k_ ?_
 rw [Bool.and_false] at ep
 subst ep
 by_cases h0:ks=[]
 ·obtain ⟨rfl,rfl,rfl⟩:=hnil h0
  subst h0
  refine Hh fun G_ k_=>?_
  obtain ⟨I',r',S'⟩:=eP I (o:={ cls:=.type "dict", data:=.dict #[] }) (x:=.dic []) s.toks rfl ⟨[],Heap.DictOf.new s.heap,rfl,trivial⟩
  refine k_ ?_
  exact wpAny_Dict_empty (k _ _ ⟨_,I',r',S'⟩)
 ·have up:∀ b o,s.heap.get? b=some o→(s.heap.push { cls:=.type "dict", data:=.dict #[] }).get? b=some o:=fun b o e=>Heap.get?_push_of_some _ e
  have hd:=an s.heap (Nat.le_refl s.heap.objs.size)
  have S₀:Stp [] true ρ s.heap ρ (s.heap.push { cls:=.type "dict", data:=.dict #[] }):=Stp.keeps up
  refine wpAny_Dict_walk (knd:=strKind F.prog F.w) hall hl h0 hc.2 (wpAny_mono (S.dict hA (I.push { cls:=.type "dict", data:=.dict #[] } s.toks) (R.mono S₀) d σ₁ p₁ h1 _ fun a s' z=>z) (fun us s₁ ⟨ρ₁,I₁,r₁,S₁⟩=>?_) fun __ __ z=>z)
  obtain ⟨q1,q2⟩:=kr r₁
  have nin:s.heap.objs.size ∉ ρ.l:=(I.dead_out hd).1
  have hD₁:=S₁.keep s.heap.objs.size _ (.inr nin) (by simp) (Heap.get?_push_size _ rfl)
  refine display_done_str q1 (by rw [q2.1];exact hc.1) ((Heap.DictOf.new s.heap).at fun o e=>S₁.keep _ o (.inr nin) (by simp) e) fun h' hm hs=>?_
  refine Hh fun G_ k_=>?_
  obtain ⟨I',r',S',_⟩:=x8 (s₁.toks+us.length) I₁ (S₀.trans S₁) (S₁.nin nin (Heap.get?_push_size _ rfl)) (I.base_dead hd) hd ⟨_,hD₁,rfl⟩ hs hm q2
  refine k_ ?_
  exact k _ _ ⟨_,I',r',S'⟩
end
end Internal
namespace Internal
section
variable {F:Fix} {K:Frag} {C:Cfg} {N n:Nat} {A:Around} {env:Env} {E:AEnv} {s:Shared} {ρ:Rg} {σ:St}
theorem vd:Snd F C N 0 where
 ev:=fun __ __ __=>OkP.none
 evs:=fun __ __ __=>OkP.none
 part:=fun __ __ __=>OkP.none
 test:=fun __ __ __=>OkP.none
 all:=fun __ __ __=>OkP.none
 bool:=fun __ __ __=>OkP.none
 chain:=fun __ __ __ __=>OkP.none
 tchain:=fun __ __ __ __=>OkP.none
 src:=fun h=>aa h
 tests:=fun __ __ __=>OkP.none
 dict:=fun __ __ __=>OkP.none
 comp:=fun {A env E s ρ σ kx elt target iter ifs is_async scope pos p2 o use Q σ' p} h=>by cases kx<;>exact aa h
theorem qT {a b c d:Bool} (h:¬(a || b || c || d)=true):a=false∧b=false∧c=false∧d=false:=by
 cases a<;>cases b<;>cases c<;>cases d<;>first | exact ⟨rfl,rfl,rfl,rfl⟩ | exact absurd rfl h
theorem zq (S:Snd F C N n) (KC:CfgOk F K C N) (hA:AOk N A) {f:Expr} {args:List Expr} {kw:List Keyword} {pos:Pos} (I:Inv F s ρ σ) (R:EnvR F s.heap ρ env E):OkP F [] ρ s.heap VV (wp F A (eval (.Call f args kw pos) env) s) (Hs (n+1) C E σ (.Call f args kw pos)):=by
 cases kw with
 |cons=>exact OkP.none
 |nil=>
  cases f with
  |Attribute o name apos=>
   exact OkP.unless fun hc=>
    have ⟨h1,h2,h3,h4⟩:=qT hc
    uS S KC hA h1 h2 (of_decide_eq_true (by simpa using h3)) (Nat.not_lt.mp (of_decide_eq_false h4)) I R
  |Name x fp=>
   exact OkP.unless fun hc=>
    OkP.opt fun q hq=>uT S KC hA (eq_false_of_ne_true fun e=>hc (by rw [e];rfl)) hq I R
  |_=>exact OkP.none
theorem zr (S:Snd F C N n) (KC:CfgOk F K C N) (hA:AOk N A) {e:Expr} (I:Inv F s ρ σ) (R:EnvR F s.heap ρ env E):OkP F [] ρ s.heap VV (wp F A (eval e env) s) (Hs (n+1) C E σ e):=by
 cases e with
 |Constant c k pos=>exact OkP.pur fun v h=>OkP.at (uF h I)
 |Name x pos=>exact OkP.pur fun v h=>OkP.at (jc KC h I R)
 |BinOp l op r pos=>exact uH S hA I R
 |UnaryOp op x pos=>
  cases op with
  |USub=>exact y5 S hA I R
  |_=>exact OkP.none
 |IfExp t b o pos=>exact uI S hA I R
 |BoolOp op vs pos=>exact S.bool hA I R
 |List es pos=>exact OkP.unless fun hs=>y6 S hA (eq_false_of_ne_true hs) I R
 |Tuple es k pos=>exact OkP.unless fun hs=>uJ S hA (eq_false_of_ne_true hs) I R
 |Compare l ops rs pos=>exact OkP.unless fun hs=>oM S hA (eq_false_of_ne_true hs) I R
 |Subscript v i pos=>
  cases i with
  |Slice lo hi st ps=>exact uP S hA I R
  |_=>exact j7 S hA rfl I R
 |Attribute o name pos=>exact OkP.unless fun hb=>zb S KC hA (eq_false_of_ne_true hb) I R
 |Call f args kw pos=>exact zq S KC hA I R
 |ListComp elt gens scope pos=>
  match gens with
  | [⟨target,iter,ifs,is_async⟩]=>exact lT S hA I R
  | []=>exact OkP.none
  |_::_::_=>exact OkP.none
 |Dict ks vs pos=>exact zo S hA I R
 |_=>exact OkP.none
theorem lU (KC:CfgOk F K C N) (Z:jh F N):∀ n,Snd F C N n
 |0=>vd
 |n+1=>
  have S:=lU KC Z n
  {ev:=fun hA I R=>zr S KC hA I R
   evs:=fun hA I R=>uK S hA I R
   part:=fun hA I R=>qp S hA I R
   test:=fun hA I R=>qv S hA I R
   all:=fun hA I R=>uN S hA I R
   bool:=fun hA I R=>qx S hA I R
   chain:=fun hA I R ra=>oK S hA I R ra
   tchain:=fun hA I R ra=>lP S hA I R ra
   src:=fun h ht hA I R=>u5 S KC Z hA h ht I R
   tests:=fun hA I R=>uZ S hA I R
   dict:=fun hA I R=>qS S hA I R
   comp:=fun h hA I R hQ=>u9 S hA h I R hQ }
end
end Internal
section
open PySem PySem.W PySem.Calls PyProof.Rows Builtin Builtin.ObjectAttr Builtin.Getset_descriptor
namespace Internal
noncomputable def zs (σ:St) (i:Nat):Option (Addr×Nat):=match σ[i]? with
 |some (.inst D d)=>some (D,d)
 |_=>none
noncomputable def zt (C:Cfg) (σ:St) (ov:AV) (name:PySem.Str) (v:AV):Option St:=match ov with
 | .ref i=>opt (zs σ i) fun q=>opt (pX σ q.2) fun m=>if C.free q.1 name=true∧m.length≤900 then some (σ.set q.2 (.ns (upd m name v))) else none
 |_=>none
theorem qU {σ:St} {i:Nat} {q:Addr×Nat} (e:zs σ i=some q):σ[i]? = some (.inst q.1 q.2):=by
 unfold zs at e
 split at e
 ·rename_i h;cases e;exact h
 ·cases e
section
variable {F:Fix} {K:Frag} {C:Cfg} {N n:Nat} {A:Around} {E:AEnv} {s:Shared} {ρ:Rg} {σ σ':St} {p:Bool}
theorem zu {es:List DictEntry} {name:Str} (hl:(getL name es).isSome=true):(!es.toArray.any (·.key.isStr name)&&es.toArray.any (·.refKey))=false:=by
 have e:∀ p:DictEntry→Bool,es.toArray.any p=es.any p:=fun p=>Array.any_toList.symm
 rw [e,e]
 cases h1:es.any (·.key.isStr name) with
 |true=>rfl
 |false=>
  have hf:es.find? (·.key.isStr name)=none:=List.find?_eq_none.mpr fun en hm=>List.any_eq_false.mp h1 en hm
  unfold getL at hl
  rw [hf] at hl
  cases h2:es.any (·.refKey) with
  |false=>rfl
  |true=>simp only [h2,if_true] at hl;cases hl
noncomputable abbrev ve (w:World) (s:Shared) (name:Str) (v:Value) (es:List DictEntry):List DictEntry:=putL name (PyData.keyHash w.params name) (.str name s.toks) v es
section
variable {Ex:Value→Shared→Prop} {x CC dx:Addr} {ox:Obj} {es:List DictEntry} {k:Nat} {name:Str} {tk:Tok} {v:Value} {on:Bool}
theorem vf (D:s.heap.get? dx=some (dictOf es k)):(s.heap.update dx (Obj.putName name (PyData.keyHash F.w.params name) (.str name s.toks) v)).get? dx=some (dictOf (ve F.w s name v es) (putN name es k)):=by
 have e:=putName_dict name (PyData.keyHash F.w.params name) (.str name s.toks) v es k
 exact e▸Heap.get?_update_self _ D (by rw [e];rfl)
theorem vg {Q:Fin→Shared→Prop} (D:s.heap.get? dx=some (dictOf es k)) (hl:(getL name es).isSome=true) (hz:(ve F.w s name v es).length≤1000)
  (hq:∀ h',Heap.SameBut dx s.heap h'→h'.get? dx=some (dictOf (ve F.w s name v es) (putN name es k))→Q (.done (.ret .none)) { s with heap:=h',toks:=s.toks+1 }):wpAny (model F.prog F.w) A (storeInDict dx (.str name tk) name v) Q Ex s:=by
 have D':=vf (F:=F) (name:=name) (v:=v) D
 have set:∀ {G:Unit→Shared→Prop},G () { s with heap:=s.heap.update dx (Obj.putName name (PyData.keyHash F.w.params name) (.str name s.toks) v),toks:=s.toks+1 } → wpAny (model F.prog F.w) A (nsSet dx name v) G Ex s:=fun g=>by
  unfold nsSet
  refine wpAny_bind (wpAny_bind (wpAny_askSetting (wpAny_pure (wpAny_bind (wpAny_mkText (wpAny_bind (wpAny_loadPart D ?_)))))))
  show wpAny _ _ (if aRefKeyMayBeTheName name es.toArray=true then _ else _) _ _ _
  rw [aRefKeyMayBeTheName_at,zu hl]
  exact wpAny_updatePart D g
 refine wpAny_bind (m:=newKeyGuard dx name (.str name tk)) (wpAny_pure (wpAny_bind (set (wpAny_bind (wpAny_lookBehind D' (pastItsLine_dict ?_) (wpAny_pure (hq _ (Heap.SameBut.update ..) D')))))))
 rw [List.size_toArray,sizeLine_eq]
 omega
theorem qV {Q:Fin→Shared→Prop} (X:K.In s.heap) (I:InstAt s.heap x ox CC (some (dictOf es k))) (hd:ox.dict=some dx) (hh:(clsIn K CC).any (·.hasDict)=true) (D:s.heap.get? dx=some (dictOf es k)) (hl:(lookIn name (dictOf es k)).isSome=true) (hz:(ve F.w s name v es).length≤1000)
  (hq:∀ h',Heap.SameBut dx s.heap h'→h'.get? dx=some (dictOf (ve F.w s name v es) (putN name es k))→Q (.done (.ret .none)) { s with heap:=h',toks:=s.toks+1 }):wpAny (model F.prog F.w) A (storeInOwnDict (.ref x) (.ref CC) (.str name tk) name v on) Q Ex s:=by
 refine Hh fun G_ k_=>?_
 obtain ⟨cd,hc,hcd⟩:=any_some hh
 refine k_ ?_
 rw [lookIn_dict] at hl
 have own:∀ {G:Option Addr→Shared→Prop},G (some dx) s→wpAny (model F.prog F.w) A (ownDictForStores (.ref x)) G Ex s:=fun g=>by
  refine Hh fun G_ k_=>?_
  obtain ⟨hx,hcl,-,-⟩:=I
  obtain ⟨oc,od,oda,osl⟩:=ox
  refine k_ ?_
  cases hcl
  cases hd
  refine wpAny_bind (wpAny_loadPart hx (wpAny_bind ((looks_clsIn X hc).here ?_)))
  rw [hcd]
  exact wpAny_pure (a:=some dx) g
 exact wpAny_bind (wpAny_pure (wpAny_bind (own (vg D hl hz hq))))
end
theorem vh {R:Result→Shared→Prop} {x CC dx:Addr} {ox:Obj} {es:List DictEntry} {k:Nat} {name:Str} {tk:Tok} {v:Value} (X:K.In s.heap) (I:InstAt s.heap x ox CC (some (dictOf es k))) (hd:ox.dict=some dx)
  (hp:plainOver K CC=true) (ht:takerIn K CC name=some none) (hh:(clsIn K CC).any (·.hasDict)=true) (D:s.heap.get? dx=some (dictOf es k)) (hl:(lookIn name (dictOf es k)).isSome=true) (hz:(ve F.w s name v es).length≤1000)
  (h:∀ h',Heap.SameBut dx s.heap h'→h'.get? dx=some (dictOf (ve F.w s name v es) (putN name es k))→R (.ok (.ret .none)) { s with heap:=h',toks:=s.toks+1 }) :
  codeAny (model F.prog F.w) A (.call (.builtin "object.__setattr__") ⟨[.ref x,.str name tk,v],[]⟩) R s:=osa_open X I hp ht fun b=>qV X I hd hh D hl hz h
theorem lV {h:Heap} {name:Str} {hs:Int} {t:Tok} {v:Value} {av:AV} (rv:VR h ρ av v):∀ {d:List (Str×AV)} {es:List DictEntry},NsR h ρ d es→NsR h ρ (upd d name av) (putL name hs (.str name t) v es)
 | [],[],_=>by unfold upd putL;exact ⟨⟨t,rfl⟩,rv,trivial⟩
 |(k,a)::d,e::es,r=>by
  refine Hh fun G_ k_=>?_
  obtain ⟨⟨u,hk⟩,hv,r⟩:=r
  refine k_ ?_
  unfold upd putL
  rw [hk,ni]
  by_cases hkn:k=name
  ·subst hkn
   rw [if_pos rfl,beq_self_eq_true,if_pos rfl]
   exact ⟨⟨u,rfl⟩,rv,r⟩
  ·have h1:(k==name)=false:=by simpa using hkn
   rw [if_neg hkn,h1,if_neg (by decide)]
   exact ⟨⟨u,hk⟩,hv,lV rv r⟩
 | [],_::_,r=>r.elim
 |_::_,[],r=>r.elim
theorem fy {h:Heap} : ∀ {d:List (Str×AV)} {es:List DictEntry},NsR h ρ d es→d.length=es.length
 | [],[],_=>rfl
 |_::_,_::_,r=>by rw [List.length_cons,List.length_cons,fy r.2.2]
 | [],_::_,r=>r.elim
 |_::_,[],r=>r.elim
theorem ee {name:Str} {hs:Int} {key v:Value} : ∀ {es:List DictEntry},(putL name hs key v es).length≤es.length+1
 | []=>Nat.le_refl _
 |e::es=>by
  unfold putL
  split
  ·simp
  ·rw [List.length_cons,List.length_cons];exact Nat.succ_le_succ ee
theorem ky (KC:CfgOk F K C N) {ov av:AV} {v u:Value} {name:Str} {fa:List Addr} (h:zt C σ ov name av=some σ') (I:Inv F s ρ σ) (ro:VR s.heap ρ ov v) (ra:VR s.heap ρ av u) :
  Ok F A fa (setAttr v name u) s ρ σ' false (fun __ __ __=>True):=by
 cases ov with
 |ref i=>
  refine aZ h fun q e1 h=>aZ h fun m e2 h=>al h fun hc e3=>?_
  obtain ⟨a,rfl,ha⟩:=ro
  refine Hh fun G_ k_=>?_
  obtain ⟨b,es,k,e4,e5,hb,R,IA⟩:=lQ I ha (qU e1) (gc e2)
  obtain ⟨c,hcop⟩:=KC.cls q.1 name (.inr hc.1)
  refine k_ ?_
  have hl:(lookIn name (dictOf es k)).isSome=true:=by
   rw [lookIn_dict]
   cases hm:m.lookup name with
   |none=>rw [(d5 R).2 hm];rfl
   |some av'=>obtain ⟨w,hw,_⟩:=(d5 R).1 av' hm;rw [hw];rfl
  have hz:∀ t,(putL name (PyData.keyHash F.w.params name) (.str name t) u es).length≤1000:=fun t=>
   Nat.le_trans ee (by rw [←fy R];exact Nat.le_trans (Nat.succ_le_succ hc.2) (by decide))
  have IK:=KC.inK I
  refine set_plain IK IA c.set (vh (s:={ s with toks:=s.toks+1 }) IK IA rfl c.over (KC.free q.1 name hc.1).taker c.dict e5 hl (hz _) fun h' hs hn=>?_)
  have hk:∀ b' o,b'≠b→s.heap.get? b'=some o→h'.get? b'=some o:=fun b' o hne e=>hs.extBut b' o hne e
  have hv:∀ av v,VR s.heap ρ av v→VR h' ρ av v:=fun av v x=>VR.pokeL (wr:=[b]) (fun b' hb'=>by rw [List.mem_singleton.mp hb'];exact .inr ⟨_,e5,rfl⟩) (fun b' o hne e=>hk b' o (fun q=>hne (List.mem_singleton.mpr q)) e) x
  obtain ⟨I',S'⟩:=I.setObj (i:=q.2) (o:=.ns (upd m name av)) (s.toks+1+1) hb hk hn ⟨_,_,hn,lV (hv _ _ ra) (R.of hv)⟩
  exact ⟨ρ,e3▸I',trivial,S' fa⟩
 |_=>exact aa h
noncomputable def Co (σ:St) (ov k v:AV):Option St:=(db k).bind fun x=>(ia ov).bind fun j=>(aQ σ j).bind fun d=>if d.length≤Hk then some (σ.set j (.dic (upd d x v))) else none
theorem qW {ov kv av:AV} {v w u:Value} {fa:List Addr} (h:Co σ ov kv av=some σ') (I:Inv F s ρ σ) (ro:VR s.heap ρ ov v) (rk:VR s.heap ρ kv w) (ra:VR s.heap ρ av u):Ok F A fa (setItem v w u) s ρ σ' false (fun __ __ __=>True):=
 ad h fun x hx h1=>ad h1 fun j hj h2=>ad h2 fun d hd h3=>al h3 fun hz e=>by
  have hx:=aX hx
  have hj:=bq hj
  subst hx hj e
  obtain ⟨t,rfl⟩:=rk
  exact nc I hd ro fun b kvs hv hb hD hr=>by
   subst hv
   have hl:kvs.length≤sizeLine:=by
    have h1:=congrArg List.length hr.1
    rw [List.length_map,List.length_map] at h1
    rw [h1];exact aI hz
   refine Hh fun G_ k_=>?_
   obtain ⟨o₀,es₀,ep₀,ho₀,hx₀,hd₀,_,_,hn⟩:=id hD
   refine k_ ?_
   refine wpAny_setItem_pairs (hsz:=hl) (strKind_is F.prog F.w x t) hD fun h' hm hs=>?_
   refine Hh fun G_ k_=>?_
   obtain ⟨o,es,ep,ho,_⟩:=id hm
   have hk:∀ b' o,b'≠b→s.heap.get? b'=some o→h'.get? b'=some o:=fun b' o hne e=>hs.extBut b' o hne e
   have hv:∀ av v,VR s.heap ρ av v→VR h' ρ av v:=fun av v x=>VR.pokeL (wr:=[b]) (fun b' hb'=>by rw [List.mem_singleton.mp hb'];exact .inr ⟨_,ho₀,by unfold Hi;rw [hd₀]⟩) (fun b' o hne e=>hk b' o (fun q=>hne (List.mem_singleton.mpr q)) e) x
   obtain ⟨I',S'⟩:=I.setObj (i:=j) (o:=.dic (upd d x av)) (s.toks+1) hb hk ho ⟨_,hm,qM (hv _ _ ra) ⟨hr.1,VRs.of hv hr.2⟩ hn⟩
   refine k_ ?_
   exact ⟨ρ,I',trivial,S' fa⟩
end
end Internal
end
namespace Internal
noncomputable def bB (E:AEnv) (line:Nat):List Expr→List Str
 | []=>[]
 | .Name id pos::r=>if (E.names.lookup id==some .local&&pos.line==line)=true then id::bB E line r else bB E line r
 |_::r=>bB E line r
noncomputable def qX (E:AEnv) (ts vs:List Expr):Option Bool:=
 if (!(ts.length==2 || ts.length==3) || vs.length != ts.length)=true then some false
 else if (vs.any aH)=true then none
 else if ((bB E ((ts.head?.map (·.pos.line)).getD 0) ts).length != ts.length || (bB E ((ts.head?.map (·.pos.line)).getD 0) ts).eraseDups.length != (bB E ((ts.head?.map (·.pos.line)).getD 0) ts).length)=true then some false
 else if (vs.all (foldedForSure 8))=true then some false
 else if (vs.all (constantsAlone 8))=true then none
 else some true
noncomputable def aC (E:AEnv):List Str→List AV→Option AEnv
 | [],[]=>some E
 |x::xs,v::vs=>if E.names.lookup x=some .local∨(E.names.lookup x=some .cell∧x∈E.own) then aC { E with vars:=upd E.vars x v } xs vs else none
 | [],_::_=>none
 |_::_,[]=>none
noncomputable def qY (a b:AV):Option AV:=Ho (lH a b fun x y=>some (.int (x+y))) (B3 a b fun x y=>if x.length+y.length≤Hk then some (.str (x++y)) else none)
noncomputable def gN:Expr→Bool | .ListComp .. => true | .SetComp .. => true | .DictComp .. => true | _=>false
noncomputable def qZ (σ:St) (j:Nat):Option (Addr×Nat×Bool):=match σ[j]? with
 |some (.cit g i e)=>some (g,i,e)
 |_=>none
noncomputable def Cp:Expr→Option PySem.Str
 | .Name f _=>some f
 |_=>none
noncomputable def oU (C:Cfg) (E:AEnv) (σ:St) (e:Expr):Option Nat:=(Cp e).bind fun f=>(f5 C E f).bind fun a=>(ia a).bind fun j=>(qZ σ j).map fun __=>j
noncomputable def nu {α:Type} (x:Option (α×St×Bool)):Option (α×St×Bool):=match x with
 |none=>none
 |some (r,σ,_)=>some (r,σ,false)
noncomputable def zv (E:AEnv) (x:Str) (xp vp:Pos) (scope:Scope):Bool:=E.names.lookup x==some .local&&xp.line==vp.line && !(scope.names.any fun (n,k)=>n==x&&(k == .local || k == .cell))
mutual
noncomputable def ak:Nat→Cfg→AEnv→St→Stmt→Option ((AFlow×AEnv)×St×Bool)
 |0,_,_,_,_=>none
 |n+1,C,E,σ,st=>match st with
  | .Expr e _=>if gN e then none else Hp (Hs n C E σ e) fun __ σ₁=>some ((.next,E),σ₁,true)
  | .Continue _=>some ((.cont,E),σ,true)
  | .Return v _=>(match v with
   |some e=>Hp (Hs n C E σ e) fun v σ₁=>some ((.ret v,E),σ₁,true)
   |none=>none)
  | .If t b o _=>Hp (atest n C E σ t) fun c σ₁=>aexecs n C E σ₁ (if c=true then b else o)
  | .Assign tgs value _=>(match tgs with
   | []=>none
   |t::r=>(match r with
    |_::_=>none
    | []=>(match t with
     | .Name x xp=>(match value with
      | .DictComp kx vx gens scope vp=>(match gens with
       | []=>none
       |g::r=>(match r with
        |_::_=>none
        | []=>if zv E x xp vp scope=true then Hp (p8 n C E σ kx vx g.target g.iter g.ifs g.is_async scope) fun l σ₁=>opt (cj E x (.ref σ₁.length)) fun E'=>some ((.next,E'),σ₁++[.dic (l.foldl (fun d p=>upd d p.1 p.2) [])],false) else none))
      |value=>Hp (Hs n C E σ value) fun v σ₁=>opt (cj E x v) fun E'=>some ((.next,E'),σ₁,true))
     | .Subscript o i _=>Hp (Hs n C E σ value) fun v σ₁=>Hp (Hs n C E σ₁ o) fun ov σ₂=>Hp (Hs n C E σ₂ i) fun k σ₃=>opt (Co σ₃ ov k v) fun σ₄=>some ((.next,E),σ₄,false)
     | .Attribute o name _=>if gN value then none else Hp (Hs n C E σ value) fun v σ₁=>Hp (Hs n C E σ₁ o) fun ov σ₂=>opt (zt C σ₂ ov name v) fun σ₃=>some ((.next,E),σ₃,false)
     | .Tuple ts k tp=>(match value with
      | .Tuple vs k' vp=>opt (qX E ts vs) fun b=>Hp (Hs n C E σ (.Tuple vs k' vp)) fun v σ₁=>opt (pZ v) fun avs=>
       opt (if b=true then aC E (bB E ((ts.head?.map (·.pos.line)).getD 0) ts).reverse avs.reverse else cL E ts avs) fun E'=>if avs.length=ts.length then some ((.next,E'),σ₁,true) else none
      | .Call f args kw cp=>Hp (Hs n C E σ (.Call f args kw cp)) fun v σ₁=>opt (aA E (.Tuple ts k tp) v) fun E'=>some ((.next,E'),σ₁,true)
      | .ListComp e gens scope cp=>Hp (Hs n C E σ (.ListComp e gens scope cp)) fun v σ₁=>opt (aA E (.Tuple ts k tp) v) fun E'=>some ((.next,E'),σ₁,true)
      |_=>none)
     |_=>none)))
  | .AugAssign t op value _=>(match op with
   | .Add=>(match t with
    | .Name x _=>opt (f5 C E x) fun a=>if (E.names.lookup x==some .globalImplicit)=true then none else Hp (Hs n C E σ value) fun v σ₁=>opt (qY a v) fun r=>opt (cj E x r) fun E'=>some ((.next,E'),σ₁,true)
    | .Attribute o name _=>Hp (Hs n C E σ o) fun ov σ₁=>opt (lO C σ₁ ov name) fun a=>Hp (Hs n C E σ₁ value) fun v σ₂=>opt (qY a v) fun r=>opt (zt C σ₂ ov name r) fun σ₃=>some ((.next,E),σ₃,false)
    |_=>none)
   |_=>none)
  | .For target iter body orelse _=>(match orelse with
   | []=>els (oU C E σ iter) (fun j=>acit n C E σ target j body) (if bD iter=false∧dU C E iter target=true then Hp (asrc n C E σ iter) fun q σ₁=>cW q.2 (m6 (fun x E σ=>opt (aA E target x) fun E'=>aexecs n C E' σ body) q.1 E σ₁) else none)
   |_::_=>none)
  |_=>none
noncomputable def aexecs:Nat→Cfg→AEnv→St→List Stmt→Option ((AFlow×AEnv)×St×Bool)
 |0,_,_,_,_=>none
 |n+1,C,E,σ,sts=>match sts with
  | []=>some ((.next,E),σ,true)
  |st::r=>Hp (ak n C E σ st) fun f σ₁=>match f.1 with
   | .next=>aexecs n C f.2 σ₁ r
   | .brk=>some ((.brk,f.2),σ₁,true)
   | .cont=>some ((.cont,f.2),σ₁,true)
   | .ret v=>some ((.ret v,f.2),σ₁,true)
noncomputable def acit:Nat→Cfg→AEnv→St→Expr→Nat→List Stmt→Option ((AFlow×AEnv)×St×Bool)
 |0,_,_,_,_,_,_=>none
 |n+1,C,E,σ,target,j,body=>opt (qZ σ j) fun t=>match t.2.2 with
  |true=>some ((.next,E),σ,true)
  |false=>opt (C.cit t.1) fun Φ=>opt (Φ [.ref t.2.1] σ) fun q=>opt (db q.1) fun c=>if qZ q.2.1 j=some (t.1,t.2.1,false) then
    (if c = "" then some ((.next,E),q.2.1.set j (.cit t.1 t.2.1 true),false) else
     opt (aA E target (.str c)) fun E'=>nu (Hp (aexecs n C E' q.2.1 body) fun f σ₂=>match f.1 with
      | .next=>acit n C f.2 σ₂ target j body
      | .cont=>acit n C f.2 σ₂ target j body
      | .brk=>some ((.next,f.2),σ₂,true)
      | .ret v=>some ((.ret v,f.2),σ₂,true))) else none
end
noncomputable def lW (h:Heap) (ρ:Rg):AFlow→Flow→Prop
 | .next,f=>f = .next
 | .brk,f=>f = .brk
 | .cont,f=>f = .cont
 | .ret v,f=>∃ u,f = .ret u∧VR h ρ v u
structure FaX (env:Env) (E:AEnv) (fa:List Addr):Prop where
 far:Hj env E fa
 only:∀ b∈fa,b=env.locals∨∃ x∈E.own,env.cells.lookup x=some b
inductive PostS (F:Fix) (fa:List Addr) (env:Env) (ρ:Rg) (h:Heap) (r:AFlow×AEnv) (σ':St) (p:Bool) (f:Flow) (s':Shared):Prop
 |mk (ρ':Rg) (I:Inv F s' ρ' σ') (fl:lW s'.heap ρ' r.1 f) (R:EnvR F s'.heap ρ' env r.2) (X:FaX env r.2 fa) (S:Stp fa p ρ h ρ' s'.heap):PostS F fa env ρ h r σ' p f s'
noncomputable def OkS (F:Fix) (fa:List Addr) (env:Env) (ρ:Rg) (h:Heap) (P:(Flow→Shared→Prop)→Prop) (x:Option ((AFlow×AEnv)×St×Bool)):Prop:=
 ∀ r σ' p,x=some (r,σ',p)→∀ G:Flow→Shared→Prop,(∀ f s',PostS F fa env ρ h r σ' p f s'→G f s')→P G
noncomputable abbrev Hw (F:Fix) (A:Around) (c:Code) (s:Shared) (G:Flow→Shared→Prop):Prop:=∀ R:Result→Shared→Prop,(∀ f s',G f s'→R (.ok f) s')→codeAny (model F.prog F.w) A c R s
section
variable {γ α:Type} {F:Fix} {A:Around} {fa:List Addr} {env:Env} {ρ:Rg} {h:Heap} {s:Shared} {P P':(Flow→Shared→Prop)→Prop} {x:Option ((AFlow×AEnv)×St×Bool)} {m:Sem Flow} {σ' σ:St} {p:Bool} {E:AEnv} {fl:AFlow} {f:Flow}
theorem OkS.none:OkS F fa env ρ h P none:=fun __ __ __ e=>aa e
theorem OkS.wrap (H:OkS F fa env ρ h P' x) (w:∀ G,P' G→P G):OkS F fa env ρ h P x:=fun b σ' p e G k=>w G (H b σ' p e G k)
theorem OkS.some {r:AFlow×AEnv} (H:∀ G,(∀ f s',PostS F fa env ρ h r σ' p f s'→G f s')→P G):OkS F fa env ρ h P (some (r,σ',p)):=fun __ __ __ e G k=>H G (by cases e;exact k)
theorem OkS.ret (I:Inv F s ρ σ) (fr:lW s.heap ρ fl f) (R:EnvR F s.heap ρ env E) (X:FaX env E fa) (w:∀ G,G f s→P G):OkS F fa env ρ s.heap P (Option.some ((fl,E),σ,true)):=OkS.some fun G k=>w G (k f s ⟨ρ,I,fr,R,X,Stp.refl⟩)
theorem OkS.opt {X:Option γ} {f:γ→Option ((AFlow×AEnv)×St×Bool)} (H:∀ c,X=Option.some c→OkS F fa env ρ h P (f c)):OkS F fa env ρ h P (opt X f):=by
 cases X with
 |none=>exact OkS.none
 |some b=>exact H b rfl
theorem OkS.unless {c:Prop} {d:Decidable c} (H:¬c→OkS F fa env ρ h P x):OkS F fa env ρ h P (if c then Option.none else x):=by
 by_cases hc:c
 ·rw [if_pos hc];exact OkS.none
 ·rw [if_neg hc];exact H hc
theorem OkS.when {c:Prop} {d:Decidable c} (H:c→OkS F fa env ρ h P x):OkS F fa env ρ h P (if c then x else Option.none):=by
 by_cases hc:c
 ·rw [if_pos hc];exact H hc
 ·rw [if_neg hc];exact OkS.none
theorem OkS.els {X:Option γ} {f:γ→Option ((AFlow×AEnv)×St×Bool)} {y:Option ((AFlow×AEnv)×St×Bool)} (H:∀ c,X=Option.some c→OkS F fa env ρ h P (f c)) (H':OkS F fa env ρ h P y):OkS F fa env ρ h P (els X f y):=by
 cases X with
 |none=>exact H'
 |some b=>exact H b rfl
theorem OkP.seqS {m:Sem α} {X:Option (γ×St×Bool)} {f:γ→St→Option ((AFlow×AEnv)×St×Bool)} {R':γ→Heap→Rg→α→Prop} {P₁:α→Shared→(Flow→Shared→Prop)→Prop} (H:OkP F [] ρ s.heap R' (wp F A m s) X)
  (k:∀ c σ₁ a s₁ ρ₁ p₁,Inv F s₁ ρ₁ σ₁→R' c s₁.heap ρ₁ a→Stp [] p₁ ρ s.heap ρ₁ s₁.heap→OkS F fa env ρ₁ s₁.heap (P₁ a s₁) (f c σ₁)) :
  OkS F fa env ρ s.heap (fun G=>wp F A m s fun a s₁=>P₁ a s₁ G) (Hp X f):=fun b σ' p e G K=>
 aJ e fun c σ₁ p₁ p₂ h1 h2 h3=>H c σ₁ p₁ h1 _ fun a s₁ ⟨ρ₁,I,r,S⟩=>k c σ₁ a s₁ ρ₁ p₁ I r S b σ' p₂ h2 G fun a' s' ⟨ρ',I',r',R',X',S'⟩=>K a' s' ⟨ρ',I',r',R',X',h3▸(S.fa fa).trans S'⟩
theorem OkS.seqS {X:Option ((AFlow×AEnv)×St×Bool)} {f:(AFlow×AEnv)→St→Option ((AFlow×AEnv)×St×Bool)} {P₁:Flow→Shared→(Flow→Shared→Prop)→Prop} (H:OkS F fa env ρ s.heap (wp F A m s) X)
  (k:∀ r σ₁ fl s₁ ρ₁ p₁,Inv F s₁ ρ₁ σ₁→lW s₁.heap ρ₁ r.1 fl→EnvR F s₁.heap ρ₁ env r.2→FaX env r.2 fa→Stp fa p₁ ρ s.heap ρ₁ s₁.heap→OkS F fa env ρ₁ s₁.heap (P₁ fl s₁) (f r σ₁)) :
  OkS F fa env ρ s.heap (fun G=>wp F A m s fun a s₁=>P₁ a s₁ G) (Hp X f):=fun b σ' p e G K=>
 aJ e fun c σ₁ p₁ p₂ h1 h2 h3=>H c σ₁ p₁ h1 _ fun a s₁ ⟨ρ₁,I,r,R,X,S⟩=>k c σ₁ a s₁ ρ₁ p₁ I r R X S b σ' p₂ h2 G fun a' s' ⟨ρ',I',r',R',X',S'⟩=>K a' s' ⟨ρ',I',r',R',X',h3▸S.trans S'⟩
end
structure SndS (F:Fix) (C:Cfg) (N n:Nat):Prop where
 exec:∀ {A:Around} {fa:List Addr} {env:Env} {E:AEnv} {s:Shared} {ρ:Rg} {σ:St} {st:Stmt},AOk N A→Inv F s ρ σ→EnvR F s.heap ρ env E→FaX env E fa→OkS F fa env ρ s.heap (wp F A (exec st env) s) (ak n C E σ st)
 execs:∀ {A:Around} {fa:List Addr} {env:Env} {E:AEnv} {s:Shared} {ρ:Rg} {σ:St} {sts:List Stmt},AOk N A→Inv F s ρ σ→EnvR F s.heap ρ env E→FaX env E fa→OkS F fa env ρ s.heap (wp F A (execs sts env) s) (aexecs n C E σ sts)
 cit:∀ {A:Around} {fa:List Addr} {env:Env} {E:AEnv} {s:Shared} {ρ:Rg} {σ:St} {target:Expr} {j:Nat} {a:Addr} {body:List Stmt},AOk N A→Inv F s ρ σ→EnvR F s.heap ρ env E→FaX env E fa→ρ.l[j]? = some a→OkS F fa env ρ s.heap (Hw F A (.forLoop target (.ref a) body [] env) s) (acit n C E σ target j body)
end Internal
namespace Internal
section
variable {F:Fix} {K:Frag} {C:Cfg} {N n:Nat} {A:Around} {env:Env} {E E':AEnv} {s s₁:Shared} {ρ ρ₁:Rg} {σ σ' σ₁:St} {p q:Bool} {fa:List Addr} {r:AFlow×AEnv}
theorem FaX.of (X:FaX env E fa) (e:E'.own=E.own):FaX env E' fa:=⟨⟨X.far.1,e▸X.far.2⟩,e▸X.only⟩
theorem gO {e:Expr} {t:Option Expr} {l:Nat} (h:gN e=false):swapsWith e t l env=pure false:=by
 cases e<;>first | rfl | exact nomatch h
theorem q7 (R:EnvR F s.heap ρ env E):interactive env=false:=by
 unfold interactive;rw [R.kind];rfl
theorem kz {x:Str} {av:AV} {v:Value} (I:Inv F s ρ σ) (R:EnvR F s.heap ρ env E) (X:FaX env E fa) (rv:VR s.heap ρ av v):OkS F fa env ρ s.heap (fun G=>wp F A (storeName env x v) s fun __ s'=>G .next s') (opt (cj E x av) fun E'=>some ((.next,E'),σ,true)):=
 OkS.opt fun E' h=>OkS.some fun G k=>al h fun hx e=>wpAny_mono (dO hx I R X.far rv) (fun __ s' Y=>k _ _ ⟨ρ,Y.inv,rfl,e▸Y.env,e▸X.of rfl,Y.stp⟩) fun __ __ z=>z
theorem q8 (S:Snd F C N n) (hA:AOk N A) {e:Expr} {pos:Pos} (hc:gN e=false) (I:Inv F s ρ σ) (R:EnvR F s.heap ρ env E) (X:FaX env E fa) :
  OkS F fa env ρ s.heap (wp F A (exec (.Expr e pos) env) s) (Hp (Hs n C E σ e) fun __ σ₁=>some ((.next,E),σ₁,true)):=
 OkS.wrap (OkP.seqS (P₁:=fun __ s₁ G=>G .next s₁) (S.ev hA I R) fun c σ₁ v s₁ ρ₁ p₁ I₁ r₁ S₁=>OkS.ret I₁ rfl (R.mono S₁) X fun G h=>h) fun G h=>wpAny_Expr_any h (q7 R) (gO hc)
theorem lX (S:Snd F C N n) (hA:AOk N A) {e:Expr} {pos:Pos} (I:Inv F s ρ σ) (R:EnvR F s.heap ρ env E) (X:FaX env E fa) :
  OkS F fa env ρ s.heap (wp F A (exec (.Return (some e) pos) env) s) (Hp (Hs n C E σ e) fun v σ₁=>some ((.ret v,E),σ₁,true)):=
 OkS.wrap (OkP.seqS (P₁:=fun v s₁ G=>G (.ret v) s₁) (S.ev hA I R) fun c σ₁ v s₁ ρ₁ p₁ I₁ r₁ S₁=>OkS.ret I₁ ⟨v,rfl,r₁⟩ (R.mono S₁) X fun G h=>h) fun G h=>wpAny_Return_some h
theorem OkS.branch {P Q:(Flow→Shared→Prop)→Prop} {c:Bool} {h:Heap} {x:Option ((AFlow×AEnv)×St×Bool)} (H:OkS F fa env ρ h (if c=true then P else Q) x):OkS F fa env ρ h (fun G=>if c=true then P G else Q G) x:=by
 cases c<;>exact H
theorem zw (S:Snd F C N n) (SS:SndS F C N n) (hA:AOk N A) {t:Expr} {b o:List Stmt} {pos:Pos} (I:Inv F s ρ σ) (R:EnvR F s.heap ρ env E) (X:FaX env E fa) :
  OkS F fa env ρ s.heap (wp F A (exec (.If t b o pos) env) s) (Hp (atest n C E σ t) fun c σ₁=>aexecs n C E σ₁ (if c=true then b else o)):=
 OkS.wrap (OkP.seqS (S.test hA I R) fun c σ₁ c' s₁ ρ₁ p₁ I₁ r₁ S₁=>OkS.branch (by subst r₁;cases c'<;>exact SS.execs hA I₁ (R.mono S₁) X)) fun G h=>wpAny_If h
noncomputable abbrev q9 (x:Str) (xp vpos:Pos) (scope:Scope) (env:Env):Bool:=env.blockKind == .function&&env.kindOf x==some .local&&xp.line==vpos.line && !(scope.names.any fun (n,k)=>n==x&&(k == .local || k == .cell))
theorem nv {x:Str} {av:AV} {v:Value} {p₁:Bool} {G:Flow→Shared→Prop} {C':Addr} {s₁:Shared} {ρ₁:Rg} {m:Str→Option Value} (hE:cj E x av=some E') (R:EnvR F s.heap ρ env E) (X:FaX env E fa) (hx:∀ b∈ρ.x,∃ o,s.heap.get? b=some o) (k:∀ f s',PostS F fa env ρ s.heap (.next,E') σ' p₁ f s'→G f s')
  (I₁:Inv F s₁ ρ₁ σ') (S₁:Stp [] p₁ ρ s.heap ρ₁ s₁.heap) (rv:VR s₁.heap ρ₁ av v) (hn:s₁.heap.Ns C' m) (hC:C' ∉ ρ₁.l) (hF:F.h.get? C'=none) (hT:C' ∉ F.tabs) (hd:s.heap.get? C'=none) :
  wp F A (storeName env x v) s₁ fun __ s'=>∃ m',s'.heap.Ns C' m'∧∀ h',Heap.SameBut C' s'.heap h'→G .next { s' with heap:=h' }:=al hE fun hx' e=>by
 subst e
 refine wpAny_mono (dO hx' I₁ (R.mono S₁) X.far rv) (fun __ s₂ Y=>?_) fun __ __ z=>z
 obtain ⟨⟨h₂,t₂,rfl,k₂⟩,I₂,R₂,S₂⟩:=Y
 have live:∀ b,(b=env.locals∨∃ z,env.cells.lookup z=some b)→∃ o,s.heap.get? b=some o:=fun b h=>by
  rcases h with rfl | ⟨z,q⟩
  ·obtain ⟨m0,hn0,_⟩:=R.ns
   exact (iy hn0).elim fun o e=>⟨o,e.1⟩
  ·obtain ⟨_,u,o,e,_⟩:=R.celN z b q
   exact ⟨o,e⟩
 have hCo:∀ b,(∃ o,s.heap.get? b=some o)→b ∉ [C']:=fun b ⟨o,e⟩ hb=>by rw [List.mem_singleton.mp hb,hd] at e;cases e
 have hCf:C' ∉ fa:=fun hm=>hCo C' (live C' ((X.only C' hm).imp id fun ⟨z,_,q⟩=>⟨z,q⟩)) (List.mem_singleton.mpr rfl)
 have hn2:h₂.Ns C' m:=hn.at' fun o e=>k₂ _ o hCf e
 refine ⟨m,hn2,fun h' hs=>k _ _ ?_⟩
 have ST:Stp fa (p₁&&true) ρ s.heap ρ₁ h₂:=(S₁.fa fa).trans S₂
 rw [Bool.and_true] at ST
 refine Hh fun G_ k_=>?_
 obtain ⟨hk,hw,I₃,S₃⟩:=km I₂ ST hn2 hC hF hT hd hx hs
 refine k_ ?_
 exact ⟨ρ₁,I₃,rfl,R₂.pokeL rfl (fun __ h=>h) (hCo _ (live _ (.inl rfl))) (fun z c hc=>hCo _ (live _ (.inr ⟨z,hc⟩))) hw hk,X.of rfl,S₃⟩
theorem vn {x:Str} {xp:Pos} {l:List AV} {p₁:Bool} {G:Flow→Shared→Prop} (hE:cj E x (.lst l)=some E') (I:Inv F s ρ σ) (R:EnvR F s.heap ρ env E) (X:FaX env E fa) (k:∀ f s',PostS F fa env ρ s.heap (.next,E') σ' p₁ f s'→G f s') :
  jb F A s.heap ρ σ' p₁ (.lst l) (some (assign (.Name x xp) env)) (fun __ s'=>G .next s'):=fun D C' s₁ ρ₁ m I₁ ⟨vs,nn,ho,hv⟩ hD S₁ hn hC hF hT hd=>
 wpAny_assign_Name (wpAny_mono (nv hE R X I.xlive k I₁ S₁ ⟨D,vs,nn,rfl,hD.1,ho,hv⟩ hn hC hF hT hd) (fun __ __ z=>z) fun __ __ z=>z)
theorem vo {x:Str} {xp:Pos} {d:List (Str×AV)} {p₁:Bool} {G:Flow→Shared→Prop} (hE:cj E x (.ref σ'.length)=some E') (I:Inv F s ρ σ) (R:EnvR F s.heap ρ env E) (X:FaX env E fa) (k:∀ f s',PostS F fa env ρ s.heap (.next,E') (σ'++[.dic d]) false f s'→G f s') :
  jb F A s.heap ρ σ' p₁ (.dic d) (some (assign (.Name x xp) env)) (fun __ s'=>G .next s'):=fun D C' s₁ ρ₁ m I₁ ⟨kvs,hk,hr⟩ hD S₁ hn hC hF hT hd=>by
 refine Hh fun G_ k_=>?_
 obtain ⟨o,es,ep,eo,_,hdat,_⟩:=id hk
 obtain ⟨I₂,r₂,S₂,_⟩:=x8 s₁.toks I₁ S₁ hD.1.1 hD.2.1 hD.2.2.1 ⟨o,eo,by unfold Hi;rw [hdat]⟩ (Heap.SameBut.refl ..) hk hr
 refine k_ ?_
 exact wpAny_assign_Name (wpAny_mono (nv hE R X I.xlive k I₂ S₂ r₂ hn (fun hm=>(List.mem_append.mp hm).elim hC fun q=>hD.2.2.2 (List.mem_singleton.mp q)) hF hT hd) (fun __ __ z=>z) fun __ __ z=>z)
theorem re (S:Snd F C N n) (hA:AOk N A) {x:Str} {xp pos vpos:Pos} {elt target iter:Expr} {ifs:List Expr} {is_async:Int} {scope:Scope} (hb:q9 x xp vpos scope env=true) (I:Inv F s ρ σ) (R:EnvR F s.heap ρ env E) (X:FaX env E fa) :
  OkS F fa env ρ s.heap (wp F A (exec (.Assign [.Name x xp] (.ListComp elt [⟨target,iter,ifs,is_async⟩] scope vpos) pos) env) s)
   (Hp (Hp (acomp n C E σ elt target iter ifs is_async scope) fun l σ₁=>some (.lst l,σ₁,true)) fun v σ₁=>opt (cj E x v) fun E'=>some ((.next,E'),σ₁,true)):=fun r σ' p h G k=>by
 refine aJ h fun v σ₁ p₁ p₂ h1 h2 e1=>aJ h1 fun l σ₂ p₃ p₄ hc h3 e2=>?_
 cases h3
 refine aZ h2 fun E' hE h4=>?_
 cases h4
 have hsw:swapsWith (.ListComp elt [⟨target,iter,ifs,is_async⟩] scope vpos) (some (.Name x xp)) pos.line env=pure true:=by rw [←hb];rfl
 obtain ⟨hz,key⟩:=S.comp (kx:=none) (use:=some (assign (.Name x xp) env)) (pos:=vpos) (p2:=firstIterPos [⟨target,iter,ifs,0⟩] vpos) (by rw [j4,hc];rfl) hA I R (vn hE I R X fun f s' z=>k f s' (by rw [e1,e2,Bool.and_true,Bool.and_true];exact z))
 subst hz
 show wpAny _ _ _ _ _ _
 rw [exec_Assign_Name_used _ _ _ _ hsw]
 refine wpAny_bind (wpAny_standAt (wpAny_bind ?_))
 show wpAny _ A (do let _ ←comprehension (.ListComp elt [⟨target,iter,ifs,0⟩] scope vpos) scope env _ (newList []) false (eval iter env) (some (assign (.Name x xp) env))) _ _ s
 exact wpAny_bind (wpAny_mono key (fun __ s' hq=>wpAny_pure (wpAny_pure hq)) fun __ __ z=>z)
theorem rf (S:Snd F C N n) (hA:AOk N A) {x:Str} {xp pos vpos:Pos} {kx elt target iter:Expr} {ifs:List Expr} {is_async:Int} {scope:Scope} (hb:zv E x xp vpos scope=true) (I:Inv F s ρ σ) (R:EnvR F s.heap ρ env E) (X:FaX env E fa) :
  OkS F fa env ρ s.heap (wp F A (exec (.Assign [.Name x xp] (.DictComp kx elt [⟨target,iter,ifs,is_async⟩] scope vpos) pos) env) s)
   (Hp (p8 n C E σ kx elt target iter ifs is_async scope) fun l σ₁=>opt (cj E x (.ref σ₁.length)) fun E'=>some ((.next,E'),σ₁++[.dic (l.foldl (fun d p=>upd d p.1 p.2) [])],false)):=fun r σ' p h G k=>by
 refine aJ h fun l σ₁ p₁ p₂ hc h2 e1=>aZ h2 fun E' hE h4=>?_
 cases h4
 rw [Bool.and_false] at e1
 subst e1
 have hu:q9 x xp vpos scope env=true:=by
  unfold zv at hb
  have h1:(env.blockKind == .function)=true:=by unfold Env.blockKind;rw [R.kind];rfl
  have h2:env.kindOf x=E.names.lookup x:=by unfold Env.kindOf;rw [R.names]
  show (env.blockKind == .function&&env.kindOf x==some .local&&xp.line==vpos.line&&_)=true
  rw [h1,h2,Bool.true_and]
  exact hb
 have hsw:swapsWith (.DictComp kx elt [⟨target,iter,ifs,is_async⟩] scope vpos) (some (.Name x xp)) pos.line env=pure true:=by rw [←hu];rfl
 obtain ⟨hz,key⟩:=S.comp (kx:=some kx) (use:=some (assign (.Name x xp) env)) (pos:=vpos) (p2:=firstIterPos [⟨target,iter,ifs,0⟩] vpos) (by rw [j4,hc];rfl) hA I R (vo hE I R X k)
 subst hz
 show wpAny _ _ _ _ _ _
 rw [exec_Assign_Name_used _ _ _ _ hsw]
 refine wpAny_bind (wpAny_standAt (wpAny_bind ?_))
 show wpAny _ A (do let _ ←comprehension (.DictComp kx elt [⟨target,iter,ifs,0⟩] scope vpos) scope env _ newDict false (eval iter env) (some (assign (.Name x xp) env))) _ _ s
 exact wpAny_bind (wpAny_mono key (fun __ s' hq=>wpAny_pure (wpAny_pure hq)) fun __ __ z=>z)
theorem kA (S:Snd F C N n) (hA:AOk N A) {x:Str} {xp pos:Pos} {value:Expr} (I:Inv F s ρ σ) (R:EnvR F s.heap ρ env E) (X:FaX env E fa) (hs:swapsWith value (some (.Name x xp)) pos.line env=pure false) :
  OkS F fa env ρ s.heap (wp F A (exec (.Assign [.Name x xp] value pos) env) s) (Hp (Hs n C E σ value) fun v σ₁=>opt (cj E x v) fun E'=>some ((.next,E'),σ₁,true)):=
 OkS.wrap (OkP.seqS (S.ev hA I R) fun c σ₁ v s₁ ρ₁ p₁ I₁ r₁ S₁=>kz I₁ (R.mono S₁) X r₁) fun G h=>wpAny_Assign_Name h hs
theorem f6 (S:Snd F C N n) (S':∀ m,n=m+1→Snd F C N m) (hA:AOk N A) {x:Str} {xp pos tpos:Pos} {value:Expr} (I:Inv F s ρ σ) (R:EnvR F s.heap ρ env E) (X:FaX env E fa) :
  OkS F fa env ρ s.heap (wp F A (exec (.Assign [.Name x xp] value pos) env) s) (ak (n+1) C E σ (.Assign [.Name x xp] value tpos)):=by
 have pl:=kA (x:=x) (xp:=xp) (pos:=pos) (value:=value) S hA I R X
 cases value with
 |ListComp elt gens scope vpos=>
  cases hb:q9 x xp vpos scope env with
  |false=>exact pl (by rw [←hb];rfl)
  |true=>
   match n,gens with
   |0,_=>exact OkS.none
   |m+1,[]=>exact OkS.none
   |m+1,_::_::_=>exact OkS.none
   |m+1,[⟨target,iter,ifs,is_async⟩]=>exact re (S' m rfl) hA hb I R X
 |SetComp=>cases n<;>exact OkS.none
 |DictComp kx vx gens scope vpos=>
  match gens with
  | []=>exact OkS.none
  |_::_::_=>exact OkS.none
  | [⟨target,iter,ifs,is_async⟩]=>exact OkS.when fun hb=>rf S hA hb I R X
 |_=>exact pl rfl
end
end Internal
namespace Internal
theorem lY {E:AEnv} {line:Nat} {id:Str} {pos:Pos} {r:List Expr} : bB E line (.Name id pos::r)=if (E.names.lookup id==some .local&&pos.line==line)=true then id::bB E line r else bB E line r:=by simp only [bB]
theorem kC {env:Env} {E:AEnv} (hk:∀ x,env.kindOf x=E.names.lookup x) {line:Nat} : ∀ {ts:List Expr},List.filterMap (fun x=>match x with
   |Expr.Name id pos=>if (env.kindOf id==some NameKind.local&&pos.line==line)=true then some id else none
   |x=>none) ts=bB E line ts
 | []=>rfl
 |t::ts=>by
  rw [List.filterMap_cons,kC hk]
  cases t with
  |Name id pos=>
   rw [lY]
   simp only [hk]
   by_cases h:(E.names.lookup id==some NameKind.local&&pos.line==line)=true
   ·rw [if_pos h,if_pos h]
   ·rw [if_neg h,if_neg h]
  |_=>simp only [bB]
theorem anyStar_eq {vs:List Expr} : (vs.any fun x=>match x with | .Starred _ _=>true | x=>false)=vs.any aH:=by
 congr 1
theorem zx {ts vs:List Expr} {k k':Nat} {tp vp:Pos} {env:Env} {E:AEnv} {b:Bool} (hkind:env.scope.kind = .function) (hk:∀ x,env.kindOf x=E.names.lookup x) (h:qX E ts vs=some b) :
  (b=false∧swappedStores [.Tuple ts k tp] (.Tuple vs k' vp) env=pure none) ∨
  (b=true∧swappedStores [.Tuple ts k tp] (.Tuple vs k' vp) env=pure (some (bB E ((ts.head?.map (·.pos.line)).getD 0) ts))∧(bB E ((ts.head?.map (·.pos.line)).getD 0) ts).length=ts.length):=by
 unfold swappedStores
 dsimp only
 generalize hL:List.filterMap _ ts=L
 have hL:bB E ((ts.head?.map (·.pos.line)).getD 0) ts=L:=(kC hk).symm.trans hL
 generalize hS:vs.any _=S
 have hS:vs.any aH=S:=anyStar_eq.symm.trans hS
 have hb:(env.blockKind != ScopeKind.function)=false:=by unfold Env.blockKind;rw [hkind];rfl
 rw [hb,Bool.or_false]
 unfold qX at h
 rw [hL,hS] at h
 rw [hL]
 split at h
 ·rename_i c;cases h;rw [if_pos c];exact .inl ⟨rfl,rfl⟩
 ·rename_i c
  rw [if_neg c]
  split at h
  ·cases h
  ·rename_i c2
   rw [if_neg c2]
   split at h
   ·rename_i c3;cases h;rw [if_pos c3];exact .inl ⟨rfl,rfl⟩
   ·rename_i c3
    rw [if_neg c3]
    split at h
    ·rename_i c4;cases h;rw [if_pos c4];exact .inl ⟨rfl,rfl⟩
    ·rename_i c4
     rw [if_neg c4]
     split at h
     ·cases h
     ·rename_i c5
      cases h
      rw [if_neg c5]
      refine .inr ⟨rfl,rfl,?_⟩
      simp only [Bool.or_eq_true,not_or,bne_iff_ne,ne_eq,Decidable.not_not] at c3
      exact c3.1
section
variable {F:Fix} {K:Frag} {C:Cfg} {N n:Nat} {A:Around} {env:Env} {E E':AEnv} {s s₁:Shared} {ρ ρ₁:Rg} {σ σ' σ₁:St} {p q:Bool} {fa:List Addr} {r:AFlow×AEnv}
theorem VRs.reverse {h:Heap} : ∀ {as:List AV} {vs:List Value},VRs h ρ as vs→VRs h ρ as.reverse vs.reverse
 | [],[],_=>trivial
 |_::_,_::_,x=>by rw [List.reverse_cons,List.reverse_cons];exact VRs.append (VRs.reverse x.2) ⟨x.1,trivial⟩
 | [],_::_,x=>x.elim
 |_::_,[],x=>x.elim
theorem ig {x:Str} {xs:List Str} {a:AV} {avs:List AV} : aC E (x::xs) (a::avs)=if E.names.lookup x=some .local∨(E.names.lookup x=some .cell∧x∈E.own) then aC { E with vars:=upd E.vars x a } xs avs else none:=rfl
theorem fQ:∀ {xs:List Str} {avs:List AV} {vs:List Value} {s:Shared} {E E':AEnv},aC E xs avs=some E'→Inv F s ρ σ→EnvR F s.heap ρ env E→FaX env E fa→VRs s.heap ρ avs vs →
  wpAny (model F.prog F.w) A (assignInOrder (xs.map fun n=>bindName env n) vs) (fun __ s'=>Stored F fa s ρ σ env E' s'∧FaX env E' fa) (fun __ __=>False) s
 | [],[],[],s,E,E',h,I,R,X,_=>by
  cases h
  exact wpAny_pure ⟨⟨⟨_,_,rfl,fun __ __ __ e=>e⟩,I,R,Stp.refl⟩,X⟩
 |x::xs,a::avs,v::vs,s,E,E',h,I,R,X,r=>by
  rw [ig] at h
  by_cases hx:E.names.lookup x=some .local∨(E.names.lookup x=some .cell∧x∈E.own)
  ·rw [if_pos hx] at h
   exact wpAny_assignInOrder_more (wpAny_bindName (wpAny_mono (dO hx I R X.far r.1) (fun __ s₁ Y=>wpAny_mono (fQ h Y.inv Y.env (X.of rfl) (VRs.mono Y.stp _ _ r.2)) (fun __ s₂ y=>⟨Y.trans y.1,y.2⟩) fun __ __ z=>z) fun __ __ z=>z))
  ·rw [if_neg hx] at h;exact aa h
 | [],[],_::_,_,_,_,_,_,_,_,r=>r.elim
 | [],_::_,_,_,_,_,h,_,_,_,_=>aa h
 |_::_,[],_,_,_,_,h,_,_,_,_=>aa h
 |_::_,_::_,[],_,_,_,_,_,_,_,r=>r.elim
theorem eg {t:Expr} {av:AV} (h:aA E t av=some E'):E'.own=E.own:=(eK h).own
theorem fz {t:Expr} {av:AV} {v:Value} (hA:AOk N A) (h:aA E t av=some E') (I:Inv F s ρ σ) (R:EnvR F s.heap ρ env E) (X:FaX env E fa) (rv:VR s.heap ρ av v):OkS F fa env ρ s.heap (fun G=>wp F A (assign t env v) s fun __ s'=>G .next s') (some ((.next,E'),σ,true)):=
 OkS.some fun G k=>wpAny_mono (eJ hA.1 h I R X.far rv) (fun __ s₂ Y=>k _ _ ⟨ρ,Y.1.inv,rfl,Y.1.env,X.of (eg h),Y.1.stp⟩) fun __ __ z=>z
theorem f7 (S:Snd F C N n) (hA:AOk N A) {ts:List Expr} {k:Nat} {tp pos cp:Pos} {f:Expr} {args:List Expr} {kw:List Keyword} (I:Inv F s ρ σ) (R:EnvR F s.heap ρ env E) (X:FaX env E fa) :
  OkS F fa env ρ s.heap (wp F A (exec (.Assign [.Tuple ts k tp] (.Call f args kw cp) pos) env) s) (Hp (Hs n C E σ (.Call f args kw cp)) fun v σ₁=>opt (aA E (.Tuple ts k tp) v) fun E'=>some ((.next,E'),σ₁,true)):=
 OkS.wrap (OkP.seqS (S.ev hA I R) fun c σ₁ v s₁ ρ₁ p₁ I₁ r₁ S₁=>OkS.opt fun E' h=>fz hA h I₁ (R.mono S₁) X r₁) fun G h=>Assign_Tuple h
theorem lZ {L:List Str} {avs:List AV} {v:Value} {m:Nat} (hA:AOk N A) (hE:aC E L.reverse avs.reverse=some E') (hl:L.length=avs.length) (I:Inv F s ρ σ) (R:EnvR F s.heap ρ env E) (X:FaX env E fa) (rv:VR s.heap ρ (.tup avs) v) {G:Flow→Shared→Prop}
  (k:∀ f s',PostS F fa env ρ s.heap (.next,E') σ true f s'→G f s'):wp F A (unpackItems v L.length none) s fun items s₁=>wp F A (assignInOrder (L.reverse.map fun n=>bindName env n) items.reverse) s₁ fun __ s'=>G .next s':=by
 obtain ⟨a,us,m,rfl,hout,ho,hr⟩:=rv
 rw [show L.length=us.size from hl.trans hr.size.symm]
 refine wpAny_unpackItems_tuple hA.1 ⟨_,ho,rfl,_,rfl⟩ fun h' hx=>?_
 have up:∀ b o,s.heap.get? b=some o→h'.get? b=some o:=fun b o e=>hx b o (Nat.ne_of_lt (Heap.lt_size e)) e
 have S₂:Stp [] true ρ s.heap ρ h':=Stp.keeps up
 exact wpAny_mono (fQ hE (I.heap up s.toks) (R.mono S₂) X (VRs.mono S₂ _ _ hr).reverse) (fun __ s₂ Y=>k _ _ ⟨ρ,Y.1.inv,rfl,Y.1.env,Y.2,(S₂.fa fa).trans Y.1.stp⟩) fun __ __ z=>z
theorem fA (S:Snd F C N n) (hA:AOk N A) {ts vs:List Expr} {k k':Nat} {tp vp pos:Pos} (I:Inv F s ρ σ) (R:EnvR F s.heap ρ env E) (X:FaX env E fa) :
  OkS F fa env ρ s.heap (wp F A (exec (.Assign [.Tuple ts k tp] (.Tuple vs k' vp) pos) env) s) (opt (qX E ts vs) fun b=>Hp (Hs n C E σ (.Tuple vs k' vp)) fun v σ₁=>opt (pZ v) fun avs=>
   opt (if b=true then aC E (bB E ((ts.head?.map (·.pos.line)).getD 0) ts).reverse avs.reverse else cL E ts avs) fun E'=>if avs.length=ts.length then some ((.next,E'),σ₁,true) else none):=
 OkS.opt fun b hb=>by
  rcases zx (k:=k) (k':=k') (tp:=tp) (vp:=vp) R.kind (fun x=>by unfold Env.kindOf;rw [R.names]) hb with ⟨rfl,hw⟩ | ⟨rfl,hw,hl⟩
  ·exact OkS.wrap (OkP.seqS (S.ev hA I R) fun c σ₁ v s₁ ρ₁ p₁ I₁ r₁ S₁=>OkS.opt fun avs ht=>OkS.opt fun E' hE=>OkS.when fun hlen=>fz (t:=.Tuple ts k tp) hA (show aA E (.Tuple ts k tp) (.tup avs)=_ from hE) I₁ (R.mono S₁) X (gM ht▸r₁)) fun G h=>Assign_Tuple (hw:=hw) h
  ·exact OkS.wrap (OkP.seqS (S.ev hA I R) fun c σ₁ v s₁ ρ₁ p₁ I₁ r₁ S₁=>OkS.opt fun avs ht=>OkS.opt fun E' hE=>OkS.when fun hlen=>OkS.some fun G k=>lZ (m:=0) hA hE (hl.trans hlen.symm) I₁ (R.mono S₁) X (gM ht▸r₁) k) fun G h=>Assign_Tuple_swapped (hw:=hw) h
theorem f8 (S:Snd F C N n) (hA:AOk N A) {ts:List Expr} {k:Nat} {tp pos cp:Pos} {e:Expr} {gens:List Comprehension} {scope:Scope} (I:Inv F s ρ σ) (R:EnvR F s.heap ρ env E) (X:FaX env E fa) :
  OkS F fa env ρ s.heap (wp F A (exec (.Assign [.Tuple ts k tp] (.ListComp e gens scope cp) pos) env) s) (Hp (Hs n C E σ (.ListComp e gens scope cp)) fun v σ₁=>opt (aA E (.Tuple ts k tp) v) fun E'=>some ((.next,E'),σ₁,true)):=
 OkS.wrap (OkP.seqS (S.ev hA I R) fun c σ₁ v s₁ ρ₁ p₁ I₁ r₁ S₁=>OkS.opt fun E' h=>fz hA h I₁ (R.mono S₁) X r₁) fun G h=>Assign_Tuple h
theorem vq (S:Snd F C N n) (hA:AOk N A) {o i value:Expr} {sp pos:Pos} (I:Inv F s ρ σ) (R:EnvR F s.heap ρ env E) (X:FaX env E fa) :
  OkS F fa env ρ s.heap (wp F A (exec (.Assign [.Subscript o i sp] value pos) env) s) (Hp (Hs n C E σ value) fun v σ₁=>Hp (Hs n C E σ₁ o) fun ov σ₂=>Hp (Hs n C E σ₂ i) fun k σ₃=>opt (Co σ₃ ov k v) fun σ₄=>some ((.next,E),σ₄,false)):=
 OkS.wrap (OkP.seqS (S.ev hA I R) fun c σ₁ u s₁ ρ₁ p₁ I₁ r₁ S₁=>OkP.seqS (S.ev hA I₁ (R.mono S₁)) fun c₂ σ₂ w s₂ ρ₂ p₂ I₂ r₂ S₂=>OkP.seqS (P₁:=fun y s₃ G=>wp F A (setItem w y u) s₃ fun __ s'=>G .next s') (S.ev hA I₂ ((R.mono S₁).mono S₂)) fun c₃ σ₃ y s₃ ρ₃ p₃ I₃ r₃ S₃=>
  OkS.opt fun σ₄ hs=>OkS.some fun G k=>(qW (fa:=[]) hs I₃ (VR.mono S₃ _ _ r₂) r₃ (VR.mono S₃ _ _ (VR.mono S₂ _ _ r₁))).seq fun __ s₄ ρ₄ I₄ __ S₄=>k _ _ ⟨ρ₄,I₄,rfl,(((R.mono S₁).mono S₂).mono S₃).mono S₄,X,S₄.fa fa⟩)
  fun G h=>wpAny_Assign_Subscript h (by cases value<;>rfl)
theorem rh {ov av:AV} {v u:Value} {name:Str} (KC:CfgOk F K C N) (I:Inv F s ρ σ) (R:EnvR F s.heap ρ env E) (X:FaX env E fa) (ro:VR s.heap ρ ov v) (ra:VR s.heap ρ av u):OkS F fa env ρ s.heap (fun G=>wp F A (setAttr v name u) s fun __ s'=>G .next s') (opt (zt C σ ov name av) fun σ₃=>some ((.next,E),σ₃,false)):=
 OkS.opt fun σ₃ hs=>OkS.some fun G k=>(ky (fa:=[]) KC hs I ro ra).seq fun __ s₃ ρ₃ I₃ __ S₃=>k _ _ ⟨ρ₃,I₃,rfl,R.mono S₃,X,S₃.fa fa⟩
theorem f9 (S:Snd F C N n) (KC:CfgOk F K C N) (hA:AOk N A) {o value:Expr} {name:Str} {ap pos:Pos} (hc:gN value=false) (I:Inv F s ρ σ) (R:EnvR F s.heap ρ env E) (X:FaX env E fa) :
  OkS F fa env ρ s.heap (wp F A (exec (.Assign [.Attribute o name ap] value pos) env) s) (Hp (Hs n C E σ value) fun v σ₁=>Hp (Hs n C E σ₁ o) fun ov σ₂=>opt (zt C σ₂ ov name v) fun σ₃=>some ((.next,E),σ₃,false)):=
 OkS.wrap (OkP.seqS (S.ev hA I R) fun c σ₁ u s₁ ρ₁ p₁ I₁ r₁ S₁=>OkP.seqS (S.ev hA I₁ (R.mono S₁)) fun c₂ σ₂ w s₂ ρ₂ p₂ I₂ r₂ S₂=>rh KC I₂ ((R.mono S₁).mono S₂) X r₂ (VR.mono S₂ _ _ r₁)) fun G h=>plainObj_wpAny_Assign_Attribute h (gO hc)
theorem iC {a b c:AV} {v u:Value} (e:qY a b=some c) (I:Inv F s ρ σ) (ra:VR s.heap ρ a v) (rb:VR s.heap ρ b u):Ok F A fa (inplaceOp .Add v u) s ρ σ true (VV c):=
 az e (fun e=>cG (G:=fun v u=>Ok F A fa (inplaceOp .Add v u) s ρ σ true (VV c)) e ra rb fun x y t t' __ __ e=>AutoIntOps.iadd_0 (cJ I (Option.some.inj e) _ _)) fun e=>
 m7 (G:=fun v u=>Ok F A fa (inplaceOp .Add v u) s ρ σ true (VV c)) e ra rb fun x y t t' e=>al e fun hc e=>SB.iadd (fun t' k=>e▸aU I _ ⟨_,rfl⟩) (aI hc)
theorem l4 {x:Str} {a:AV} (h:f5 C E x=some a) (hg:¬(E.names.lookup x==some .globalImplicit)=true) (I:Inv F s ρ σ) (R:EnvR F s.heap ρ env E):Ok F A [] (loadName env x) s ρ σ true (VV a):=by
 unfold f5 at h
 by_cases hd:(x==("__debug__" : Str))=true
 ·rw [if_pos hd] at h;exact aa h
 rw [if_neg hd] at h
 cases hk:E.names.lookup x with
 |none=>rw [hk] at h;exact aa h
 |some k=>
  rw [hk] at h hg
  have ko:=R.kindOf hk
  cases k with
  |globalImplicit=>exact absurd rfl hg
  | «local» =>
   obtain ⟨m,hn,hm⟩:=R.ns
   obtain ⟨v,e,hv⟩:=hm x a h hk
   exact wpAny_loadName_local R.kind ko hn e ⟨ρ,I,hv,Stp.refl⟩
  |cell=>
   obtain ⟨c,v,e,hc,hv⟩:=R.cel x a h (.inl hk)
   exact wpAny_loadName_cell R.kind ko e hc ⟨ρ,I,hv,Stp.refl⟩
  |free=>
   by_cases hcd:(x==("__classdict__" : Str))=true
   ·simp only [hcd,if_true] at h;exact aa h
   ·simp only [hcd] at h
    obtain ⟨c,v,e,hc,hv⟩:=R.cel x a h (.inr hk)
    exact wpAny_loadName_free R.kind ko e hc ⟨ρ,I,hv,Stp.refl⟩ (eq_false_of_ne_true hcd)
  |_=>exact aa h
theorem ji (S:Snd F C N n) (hA:AOk N A) {x:Str} {xp pos:Pos} {value:Expr} (I:Inv F s ρ σ) (R:EnvR F s.heap ρ env E) (X:FaX env E fa) :
  OkS F fa env ρ s.heap (wp F A (exec (.AugAssign (.Name x xp) .Add value pos) env) s) (opt (f5 C E x) fun a=>if (E.names.lookup x==some .globalImplicit)=true then none else Hp (Hs n C E σ value) fun v σ₁=>opt (qY a v) fun r=>opt (cj E x r) fun E'=>some ((.next,E'),σ₁,true)):=
 OkS.opt fun a hn=>OkS.unless fun hg r σ' p h G k=>wpAny_AugAssign_Name ((l4 hn hg I R).seq fun u s₁ ρ₁ I₁ r₁ S₁=>
  OkP.seqS (F:=F) (fa:=fa) (env:=env) (P₁:=fun w s₂ G=>wp F A (inplaceOp .Add u w) s₂ fun z s₃=>wp F A (storeName env x z) s₃ fun __ s'=>G .next s') (S.ev hA I₁ (R.mono S₁)) (fun c σ₂ w s₂ ρ₂ p₂ I₂ r₂ S₂=>OkS.opt fun c hc b σ' p h G k=>
   (iC (fa:=[]) hc I₂ (VR.mono S₂ _ _ r₁) r₂).seq fun z s₃ ρ₃ I₃ r₃ S₃=>kz I₃ (((R.mono S₁).mono S₂).mono S₃) X r₃ b σ' p h G fun f s' ⟨ρ',I',a,b,c,S'⟩=>k f s' ⟨ρ',I',a,b,c,by simpa using (S₃.fa fa).trans S'⟩)
   r σ' p h G fun f s' ⟨ρ',I',a,b,c,S'⟩=>k f s' ⟨ρ',I',a,b,c,by simpa using (S₁.fa fa).trans S'⟩)
theorem jj (S:Snd F C N n) (KC:CfgOk F K C N) (hA:AOk N A) {o value:Expr} {name:Str} {ap pos:Pos} (I:Inv F s ρ σ) (R:EnvR F s.heap ρ env E) (X:FaX env E fa) :
  OkS F fa env ρ s.heap (wp F A (exec (.AugAssign (.Attribute o name ap) .Add value pos) env) s)
   (Hp (Hs n C E σ o) fun ov σ₁=>opt (lO C σ₁ ov name) fun a=>Hp (Hs n C E σ₁ value) fun v σ₂=>opt (qY a v) fun r=>opt (zt C σ₂ ov name r) fun σ₃=>some ((.next,E),σ₃,false)):=
 OkS.wrap (OkP.seqS (P₁:=fun u s₁ G=>wp F A (getAttr u name true) s₁ fun w s₂=>wp F A (eval value env) s₂ fun y s₃=>wp F A (inplaceOp .Add w y) s₃ fun z s₄=>wp F A (setAttr u name z) s₄ fun __ s'=>G .next s') (S.ev hA I R) fun ov σ₁ u s₁ ρ₁ p₁ I₁ r₁ S₁=>OkS.opt fun a ha r σ' p h G k=>
  (iw (fa:=[]) KC ha I₁ r₁).seq fun w s₂ ρ₂ I₂ r₂ S₂=>
  OkP.seqS (F:=F) (fa:=fa) (env:=env) (P₁:=fun y s₃ G=>wp F A (inplaceOp .Add w y) s₃ fun z s₄=>wp F A (setAttr u name z) s₄ fun __ s'=>G .next s') (S.ev hA I₂ ((R.mono S₁).mono S₂)) (fun c σ₃ y s₃ ρ₃ p₃ I₃ r₃ S₃=>OkS.opt fun c hc b σ' p h G k=>
   (iC (fa:=[]) hc I₃ (VR.mono S₃ _ _ r₂) r₃).seq fun z s₄ ρ₄ I₄ r₄ S₄=>rh KC I₄ ((((R.mono S₁).mono S₂).mono S₃).mono S₄) X (VR.mono S₄ _ _ (VR.mono S₃ _ _ (VR.mono S₂ _ _ r₁))) r₄ b σ' p h G fun f s' ⟨ρ',I',a,b,c,S'⟩=>k f s' ⟨ρ',I',a,b,c,by simpa using (S₄.fa fa).trans S'⟩)
   r σ' p h G fun f s' ⟨ρ',I',a,b,c,S'⟩=>k f s' ⟨ρ',I',a,b,c,by simpa using (S₂.fa fa).trans S'⟩) fun G h=>wpAny_AugAssign_AttributeAny h
theorem fC {h:Heap} {fl:AFlow} {f:Flow} (r:lW h ρ fl f) {G:AFlow→Flow→Prop} (g1:G .next .next) (g2:G .brk .brk) (g3:G .cont .cont) (g4:∀ v u,VR h ρ v u→G (.ret v) (.ret u)):G fl f:=by
 cases fl with
 |next=>cases r;exact g1
 |brk=>cases r;exact g2
 |cont=>cases r;exact g3
 |ret v=>obtain ⟨u,rfl,hu⟩:=r;exact g4 v u hu
noncomputable abbrev Cq (n:Nat) (C:Cfg) (E:AEnv) (σ:St) (r:List Stmt) (fl:AFlow):Option ((AFlow×AEnv)×St×Bool):=match fl with
   | .next=>aexecs n C E σ r
   | .brk=>some ((.brk,E),σ,true)
   | .cont=>some ((.cont,E),σ,true)
   | .ret v=>some ((.ret v,E),σ,true)
noncomputable abbrev x9 (env:Env) (F:Fix) (A:Around) (s:Shared) (r:List Stmt) (f:Flow) (G:Flow→Shared→Prop):Prop:=match f with
 | .next=>wp F A (execs r env) s G
 |f=>G f s
theorem oV (SS:SndS F C N n) (hA:AOk N A) {sts:List Stmt} (I:Inv F s ρ σ) (R:EnvR F s.heap ρ env E) (X:FaX env E fa):OkS F fa env ρ s.heap (wp F A (execs sts env) s) (aexecs (n+1) C E σ sts):=by
 cases sts with
 |nil=>exact OkS.ret I rfl R X fun G h=>wpAny_execs_nil h
 |cons st rest=>
  exact OkS.wrap (OkS.seqS (P₁:=fun f s₁ G=>x9 env F A s₁ rest f G) (SS.exec hA I R X) fun r σ₁ f s₁ ρ₁ p₁ I₁ r₁ R₁ X₁ S₁=>
   fC (G:=fun fl f=>OkS F fa env ρ₁ s₁.heap (x9 env F A s₁ rest f) (Cq n C r.2 σ₁ rest fl)) r₁ (SS.execs hA I₁ R₁ X₁) (OkS.ret I₁ rfl R₁ X₁ fun G h=>h) (OkS.ret I₁ rfl R₁ X₁ fun G h=>h) fun v u hu=>OkS.ret I₁ ⟨u,rfl,hu⟩ R₁ X₁ fun G h=>h)
   fun G h=>wpAny_execs_cons (wpAny_mono h (fun f s₁ h=>by cases f<;>exact h) fun __ __ z=>z)
noncomputable abbrev nx (F:Fix) (A:Around) (s:Shared) (c:Code) (f:Flow) (G:Flow→Shared→Prop):Prop:=match f with
 | .next=>Hw F A c s G
 | .cont=>Hw F A c s G
 | .brk=>G .next s
 | .ret u=>G (.ret u) s
end
end Internal
namespace Internal
section
variable {F:Fix} {K:Frag} {C:Cfg} {N n:Nat} {A:Around} {env:Env} {E E' E₁:AEnv} {s s₁ s' s'':Shared} {ρ ρ₁ ρ' ρ'':Rg} {σ σ' σ₁:St} {p q P pq:Bool} {fa:List Addr} {r:AFlow×AEnv}
structure FixedF (F:Fix) (s₀:Heap) (ρ:Rg) (fa fp wr sh:List Addr) (env:Env) (St:Nat→Heap→Prop):Prop where
 wrF:∀ b∈wr,s₀.get? b=none∧F.h.get? b=none∧b ∉ F.tabs∧b ∉ ρ.x
 sub:∀ b∈wr,b∈fp
 fpf:∀ b∈fp,b ∉ fa
 frame:∀ i h h',St i h→(∀ b∈fp,∀ o,h.get? b=some o→h'.get? b=some o)→St i h'
 imm:∀ i h,St i h→∀ b∈wr,∃ o,h.get? b=some o∧(b∈sh∨Hi o=false)
 loc:env.locals ∉ wr
 cel:∀ x c,env.cells.lookup x=some c→c ∉ wr
structure FS (F:Fix) (s₀:Heap) (ρ:Rg) (fa fp wr sh:List Addr) (held:Bool) (g:Heap) (ρg:Rg) (env:Env) (St:Nat→Heap→Prop)
  (i:Nat) (P:Bool) (s':Shared) (ρ':Rg) (σ':List AObj) (E:AEnv):Prop where
 x:ρ'.x=sh++ρ.x
 inv:Inv F s' ρ' σ'
 st:St i s'.heap
 envr:EnvR F s'.heap ρ' env E
 fax:FaX env E fa
 stp:Stp fa P ρ s₀ ⟨ρ'.l,ρ.x⟩ s'.heap
 vm:∀ a v,VR g ρg a v→VR s'.heap ρ' a v
 nw:∀ b∈wr,b ∉ ρ'.l
 fpl:∀ b∈fp,b∈wr∨((∃ o,s'.heap.get? b=some o)∧(b ∉ ρ'.l∨held=true))
variable {s₀ g:Heap} {fp wr sh:List Addr} {held:Bool} {ρg:Rg} {St:Nat→Heap→Prop} {i:Nat}
theorem FS.wrx (X:FS F s₀ ρ fa fp wr sh held g ρg env St i P s' ρ' σ' E) (G:FixedF F s₀ ρ fa fp wr sh env St):∀ b∈wr,(b∈ρ'.x)∨∃ o,s'.heap.get? b=some o∧Hi o=false:=fun b hb=>by
 obtain ⟨o,e,h⟩:=G.imm i _ X.st b hb
 rcases h with h | h
 ·left;rw [X.x];exact List.mem_append_left _ h
 ·exact .inr ⟨o,e,h⟩
theorem FS.next (X:FS F s₀ ρ fa fp wr sh held g ρg env St i P s' ρ' σ' E) (G:FixedF F s₀ ρ fa fp wr sh env St) {h':Heap} {tk:Nat} (hst:St (i+1) h') (hk:∀ b o,b ∉ wr→s'.heap.get? b=some o→h'.get? b=some o) :
  FS F s₀ ρ fa fp wr sh held g ρg env St (i+1) P { s' with heap:=h',toks:=tk } ρ' σ' E:=by
 have hw:=X.wrx G
 refine ⟨X.x,X.inv.pokeL (wr:=wr) tk rfl (fun __ h=>h) (fun b hb=>⟨X.nw b hb,(G.wrF b hb).2.1,(G.wrF b hb).2.2.1,hw b hb⟩) hk fun b hb __=>?_,hst,
  X.envr.pokeL rfl (fun __ h=>h) G.loc G.cel hw hk,X.fax,X.stp.pokes fun b o ⟨o₀,e₀⟩ e=>hk b o (fun h=>?_) e,fun a v h=>VR.pokeL hw hk (X.vm a v h),X.nw,fun b hb=>(X.fpl b hb).elim .inl fun ⟨⟨o,e⟩,h⟩=>?_⟩
 ·obtain ⟨o,e,_⟩:=G.imm _ _ hst b hb
  exact ⟨o,e⟩
 ·rw [(G.wrF b h).1] at e₀;cases e₀
 ·by_cases h2:b∈wr
  ·exact .inl h2
  ·exact .inr ⟨⟨o,hk b o h2 e⟩,h⟩
theorem FS.stored (X:FS F s₀ ρ fa fp wr sh held g ρg env St i P s' ρ' σ' E) (G:FixedF F s₀ ρ fa fp wr sh env St) (Y:Stored F fa s' ρ' σ' env E' s'') (e:E'.own=E.own) :
  FS F s₀ ρ fa fp wr sh held g ρg env St i P s'' ρ' σ' E':=by
 obtain ⟨⟨h',tk,rfl,hk⟩,I',R',S'⟩:=Y
 refine ⟨X.x,I',G.frame _ _ _ X.st fun b hb o e=>hk b o (G.fpf b hb) e,R',X.fax.of e,?_,fun a v h=>VR.mono S' _ _ (X.vm a v h),X.nw,fun b hb=>(X.fpl b hb).imp id fun ⟨⟨o,e⟩,h⟩=>⟨⟨o,hk b o (G.fpf b hb) e⟩,h⟩⟩
 have:=X.stp.trans (ρ':=⟨ρ'.l,ρ.x⟩) (ρ'':=⟨ρ'.l,ρ.x⟩) (q:=true) ⟨fun b o hb hf e=>S'.keep b o (.inl rfl) hf e,fun b o hb hi e=>S'.imm b o (.inl rfl) hi e,fun __ __ e=>e,S'.new,fun h=>rfl,rfl,S'.live⟩
 simpa using this
theorem FS.body (X:FS F s₀ ρ fa fp wr sh held g ρg env St i P s' ρ' σ' E) (G:FixedF F s₀ ρ fa fp wr sh env St) (I':Inv F s'' ρ'' σ₁) (R':EnvR F s''.heap ρ'' env E') (fx:FaX env E' fa) (S':Stp fa q ρ' s'.heap ρ'' s''.heap) (hq:held=true→q=true) :
  FS F s₀ ρ fa fp wr sh held g ρg env St i (P&&q) s'' ρ'' σ₁ E':=by
 have kfp:∀ b∈fp,∀ o,s'.heap.get? b=some o→s''.heap.get? b=some o:=fun b hb o e=>by
  rcases X.fpl b hb with h | ⟨_,h | h⟩
  ·exact S'.keep b o (.inr (X.nw b h)) (G.fpf b hb) e
  ·exact S'.keep b o (.inr h) (G.fpf b hb) e
  ·exact S'.keep b o (.inl (hq h)) (G.fpf b hb) e
 refine ⟨S'.xs.trans X.x,I',G.frame _ _ _ X.st kfp,R',fx,?_,fun a v h=>VR.mono S' _ _ (X.vm a v h),fun b hb=>?_,fun b hb=>?_⟩
 ·refine X.stp.trans (ρ':=⟨ρ'.l,ρ.x⟩) ?_
  exact ⟨fun b o hb hf e=>S'.keep b o hb hf e,fun b o hb hi e=>S'.imm b o hb hi e,S'.ext,S'.new,fun h=>by rw [S'.pur h],rfl,S'.live⟩
 ·obtain ⟨o,e,_⟩:=G.imm _ _ X.st b hb
  exact S'.nin (X.nw b hb) e
 ·rcases X.fpl b hb with h | ⟨⟨o,e⟩,h⟩
  ·exact .inl h
  ·exact .inr ⟨⟨o,kfp b hb o e⟩,h.imp (fun h=>S'.nin h e) id⟩
theorem FS.leave (X:FS F s₀ ρ fa fp wr sh held g ρg env St i P s' ρ' σ' E) (G:FixedF F s₀ ρ fa fp wr sh env St) {h':Heap} {tk:Nat} (hk:∀ b o,b ∉ wr→s'.heap.get? b=some o→h'.get? b=some o) {fl:AFlow} {f:Flow} (fr:lW s'.heap ρ' fl f) :
  PostS F fa env ρ s₀ (fl,E) σ' P f { s' with heap:=h',toks:=tk }:=by
 have hw:=X.wrx G
 have ex:∀ b∈ρ.x,b∈ρ'.x:=fun b hb=>by rw [X.x];exact List.mem_append_right _ hb
 refine ⟨⟨ρ'.l,ρ.x⟩,X.inv.pokeL (ρ':=⟨ρ'.l,ρ.x⟩) (wr:=wr) tk rfl ex (fun b hb=>⟨X.nw b hb,(G.wrF b hb).2.1,(G.wrF b hb).2.2.1,hw b hb⟩) hk fun b hb hm=>absurd hm (G.wrF b hb).2.2.2,?_,
  X.envr.pokeL (ρ':=⟨ρ'.l,ρ.x⟩) rfl ex G.loc G.cel hw hk,X.fax,X.stp.pokes fun b o ⟨o₀,e₀⟩ e=>hk b o (fun h=>by rw [(G.wrF b h).1] at e₀;cases e₀) e⟩
 cases fl with
 |ret v=>
  obtain ⟨u,e,hu⟩:=fr
  refine ⟨u,e,VR.rg (ρ:=ρ') (ρ':=⟨ρ'.l,ρ.x⟩) (fun b ob hb hi e=>⟨⟨hb.1,fun hm=>hb.2 (ex b hm)⟩,hk b ob (fun q=>?_) e⟩) (fun __ __ e=>e) _ _ hu⟩
  rcases hw b q with h | ⟨o',e',hi'⟩
  ·exact hb.2 h
  ·rw [e] at e';cases e';rw [hi] at hi';cases hi'
 |_=>exact fr
noncomputable abbrev rm (n:Nat) (C:Cfg) (target:Expr) (body:List Stmt) (x:AV) (E:AEnv) (σ:Internal.St):Option ((AFlow×AEnv)×Internal.St×Bool):=opt (aA E target x) fun E'=>aexecs n C E' σ body
noncomputable abbrev rn (F:Fix) (A:Around) (s:Shared) (c:Code) (R:Result→Shared→Prop) (f:Flow):Prop:=match f with
 | .next=>codeAny (model F.prog F.w) A c R s
 | .cont=>codeAny (model F.prog F.w) A c R s
 | .brk=>R (.ok .next) s
 | .ret u=>R (.ok (.ret u)) s
theorem cI {target:Expr} {body:List Stmt} {it:Value} {R:Result→Shared→Prop} (turn:wp F A (pyNext it) s' (fun r s₁=>match r with
   |none=>R (.ok .next) s₁
   |some v=>wp F A (letOwnedTupleGo target it v) s₁ fun __ s₁=>wp F A (assign target env v) s₁ fun __ s₂=>wp F A (execs body env) s₂ fun f s₃=>rn F A s₃ (.forLoop target it body [] env) R f)):codeAny (model F.prog F.w) A (.forLoop target it body [] env) R s':=by
 refine codeAny_of_tree ?_
 show wpAny _ A ((forTurn target it body [] env).onRaise (fun x=>do noteFrame x env;theTreesLotGoes x)) _ _ s'
 refine wpAny_noted (wpAny_mono (E:=Ht) ?_ (fun __ __ z=>z) fun __ __ z=>z.elim)
 simp only [forTurn]
 refine wpAny_bind (wpAny_standAt (wpAny_bind (wpAny_onRaise (wpAny_mono (E:=Ht) (wpAny_mono turn (fun r s₁ h₁=>?_) fun __ __ z=>z) (fun __ __ z=>z) fun __ __ z=>z.elim))))
 cases r with
 |none=>exact wpAny_pure ⟨rfl,codeAny_block (wpAny_execs_nil h₁)⟩
 |some v=>
  refine wpAny_bind (wpAny_mono h₁ (fun __ s₁ h₁=>wpAny_bind (wpAny_mono h₁ (fun __ s₂ h₂=>wpAny_bind (wpAny_mono h₂ (fun f s₃ h₃=>?_) fun __ __ z=>z)) fun __ __ z=>z)) fun __ __ z=>z)
  cases f with
  |next=>exact wpAny_pure ⟨rfl,h₃⟩
  |cont=>exact wpAny_pure ⟨rfl,h₃⟩
  |brk=>exact wpAny_pure h₃
  |ret u=>exact wpAny_pure h₃
theorem Gw {a b held:Bool} (h:held=true→(a&&b)=true):(held=true→a=true)∧(held=true→b=true):=zl (c:=true) h
theorem FS.cast {P':Bool} (X:FS F s₀ ρ fa fp wr sh held g ρg env St i P s' ρ' σ' E) (e:P=P'):FS F s₀ ρ fa fp wr sh held g ρg env St i P' s' ρ' σ' E:=e▸X
section
variable {target iter:Expr} {body:List Stmt} {I:Addr} {items:List AV} {R:Result→Shared→Prop}
theorem ny (SS:SndS F C N n) (hA:AOk N A) (G:FixedF F s₀ ρ fa fp wr sh env St) (W:Src F A I fp wr sh g ρg items St target) :
  ∀ (xs:List AV) {i:Nat} {P:Bool} {s':Shared} {ρ':Rg} {σ:Internal.St} {E:AEnv} {r:AFlow×AEnv} {σf:Internal.St} {qf:Bool},items.drop i=xs→i≤items.length→m6 (rm n C target body) xs E σ=some (r,σf,qf)→(held=true→qf=true) →
  FS F s₀ ρ fa fp wr sh held g ρg env St i P s' ρ' σ E→(∀ f s'',PostS F fa env ρ s₀ r σf (P&&qf) f s''→R (.ok f) s'')→codeAny (model F.prog F.w) A (.forLoop target (.ref I) body [] env) R s'
 | [],i,P,s',ρ',σ,E,r,σf,qf,hd,hle,h,hheld,X,hR=>by
  cases h
  rw [Nat.le_antisymm hle (List.drop_eq_nil_iff.mp hd),Bool.and_true] at *
  exact cI (W.done s' _ X.st fun h' tk hk=>hR _ _ (X.leave G hk (fl:=.next) rfl))
 |x::xs,i,P,s',ρ',σ,E,r,σf,qf,hd,hle,h,hheld,X,hR=>by
  have hx:items[i]? = some x:=by rw [←List.head?_drop,hd];rfl
  refine aJ h fun f σ₂ qa qb h1 g1 e1=>aZ h1 fun E' hE' h2=>cI ?_
  obtain ⟨ha,hb⟩:=Gw (e1▸hheld)
  refine W.item i x s' ρ' _ (fun __ __ __=>True) hx X.st (fun b hb=>X.inv.dead_out hb) (fun b hb=>by rw [X.x];exact List.mem_append_left _ hb) X.vm fun v s₁ hgo=>hgo _ fun h' tk hv hst hk=>?_
  have X₁:=X.next G (tk:=tk) hst hk
  refine wpAny_mono (eJ hA.1 hE' X₁.inv X₁.envr X₁.fax.far hv) (fun __ s₂ Y=>?_) fun __ __ z=>z
  have X₂:=X₁.stored G Y.1 (eg hE')
  refine SS.execs hA X₂.inv X₂.envr X₂.fax f σ₂ qa h2 _ fun f' s₃ ⟨ρ₃,I₃,r₃,R₃,fx₃,S₃⟩=>?_
  have X₃:=X₂.body G I₃ R₃ fx₃ S₃ ha
  rw [e1,←Bool.and_assoc] at hR
  have again:m6 (rm n C target body) xs f.2 σ₂=some (r,σf,qb)→codeAny (model F.prog F.w) A (.forLoop target (.ref I) body [] env) R s₃:=fun g=>
   ny SS hA G W xs (by rw [←List.tail_drop,hd];rfl) (List.getElem?_eq_some_iff.mp hx).1 g hb X₃ hR
  have out:∀ {fl:AFlow} {f':Flow},lW s₃.heap ρ₃ fl f'→some ((fl,f.2),σ₂,true)=some (r,σf,qb)→R (.ok f') s₃:=fun hr e=>by
   cases e
   rw [Bool.and_true] at hR
   exact hR _ _ (X₃.leave G (tk:=s₃.toks) (fun __ __ __ e=>e) hr)
  revert g1
  exact fC (G:=fun fl f'=>(match fl with | .next=>m6 (rm n C target body) xs f.2 σ₂ | .cont=>m6 (rm n C target body) xs f.2 σ₂ | .brk=>some ((.next,f.2),σ₂,true) | .ret v=>some ((.ret v,f.2),σ₂,true))=some (r,σf,qb)→rn F A s₃ (.forLoop target (.ref I) body [] env) R f') r₃ again (out (fl:=.next) rfl) again fun v u hu=>out ⟨u,rfl,hu⟩
theorem rp {s₂:Shared} {ρ₂:Rg} {p₁:Bool} {σ₁:Internal.St} (S₂:Stp [] p₁ ρ s.heap ρ₂ s₂.heap) (R:EnvR F s.heap ρ env E) (X:FaX env E fa) (W:Src F A I fp wr sh g ρg items St target) (hwr:∀ b∈wr,s.heap.get? b=none)
  (hfp:∀ b∈fp,b∈wr∨((∃ o,s₂.heap.get? b=some o∧(Hi o=true∨b∈ρ₂.l))∧(b ∉ ρ₂.l∨held=true))) (hwr2:∀ b∈wr,b ∉ ρ₂.l∧F.h.get? b=none∧b ∉ F.tabs∧b ∉ ρ₂.x):FixedF F s.heap ρ fa fp wr sh env St:=by
 have R₂:=R.mono S₂
 have live:∀ b,(b=env.locals∨∃ z,env.cells.lookup z=some b)→(∃ o,s.heap.get? b=some o)∧(∃ o,s₂.heap.get? b=some o∧Hi o=false)∧b ∉ ρ₂.l:=fun b h=>by
  rcases h with rfl | ⟨z,q⟩
  ·obtain ⟨m0,hn0,_⟩:=R.ns
   obtain ⟨m1,hn1,_⟩:=R₂.ns
   exact ⟨(iy hn0).elim fun o e=>⟨o,e.1⟩,iy hn1,R₂.loc.1⟩
  ·obtain ⟨_,u,o,e,_⟩:=R.celN z b q
   obtain ⟨hl,u',hu'⟩:=R₂.celN z b q
   exact ⟨⟨o,e⟩,je hu',hl⟩
 have hno:∀ b∈wr,¬ (b=env.locals∨∃ z,env.cells.lookup z=some b):=fun b hb h=>by
  obtain ⟨⟨o,e⟩,_⟩:=live b h
  rw [hwr b hb] at e;cases e
 refine ⟨fun b hb=>⟨hwr b hb,(hwr2 b hb).2.1,(hwr2 b hb).2.2.1,fun hm=>(hwr2 b hb).2.2.2 (S₂.xs▸hm)⟩,W.sub,fun b hb hm=>?_,W.frame,W.imm,fun hm=>hno _ hm (.inl rfl),fun x c hc hm=>hno _ hm (.inr ⟨x,hc⟩)⟩
 have hx:=(X.only b hm).imp id fun ⟨x,_,hc⟩=>(⟨x,hc⟩:∃ z,env.cells.lookup z=some b)
 rcases hfp b hb with h | ⟨⟨o,e,hi⟩,_⟩
 ·exact hno b h hx
 ·obtain ⟨_,⟨o',e',hi'⟩,hl⟩:=live b hx
  rcases hi with hi | hi
  ·rw [e'] at e;cases e;rw [hi] at hi';cases hi'
  ·exact hl hi
theorem vr {s₂:Shared} {ρ₂:Rg} {p₁:Bool} (S₂:Stp [] p₁ ρ s.heap ρ₂ s₂.heap) (hsh:∀ b∈sh,s.heap.get? b=none) (R:EnvR F s.heap ρ env E):EnvR F s₂.heap ⟨ρ₂.l,sh++ρ₂.x⟩ env E:=by
 have R₂:=R.mono S₂
 have hv:∀ av v,VR s.heap ρ av v→VR s₂.heap ⟨ρ₂.l,sh++ρ₂.x⟩ av v:=fun av v x=>by
  refine VR.rg (ρ:=ρ) (ρ':=⟨ρ₂.l,sh++ρ₂.x⟩) (fun b ob hb hi e=>⟨⟨S₂.nin hb.1 e,fun hm=>?_⟩,S₂.imm b ob (.inr hb.1) hi e⟩) S₂.ext _ _ x
  rcases List.mem_append.mp hm with hm | hm
  ·rw [hsh b hm] at e;cases e
  ·exact hb.2 (S₂.xs▸hm)
 refine ⟨R.kind,R.names,R.glob,R.blt,R₂.loc,?_,fun x av e hk=>?_,R.own,R₂.celN,R.inj⟩
 ·obtain ⟨m,hn,hm⟩:=R.ns
  exact ⟨m,hn.at' fun o e=>S₂.keep _ o (.inr R.loc.1) (by simp) e,fun x av e1 e2=>let ⟨v,a,b⟩:=hm x av e1 e2;⟨v,a,hv _ _ b⟩⟩
 ·obtain ⟨c,v,h1,⟨o,ho,hd⟩,h3⟩:=R.cel x av e hk
  exact ⟨c,v,h1,⟨o,S₂.keep _ o (.inr (R.celN x c h1).1) (by simp) ho,hd⟩,hv _ _ h3⟩
theorem vA (S:Snd F C N n) (SS:SndS F C N n) (hA:AOk N A) {pos:Pos} (hset:bD iter=false) (htg:dU C E iter target=true) (I:Inv F s ρ σ) (R:EnvR F s.heap ρ env E) (X:FaX env E fa) :
  OkS F fa env ρ s.heap (wp F A (exec (.For target iter body [] pos) env) s) (Hp (asrc n C E σ iter) fun q σ₁=>cW q.2 (m6 (rm n C target body) q.1 E σ₁)):=fun r σ' p h G k=>by
 refine aJ h fun q σ₁ p₁ p₂ hsrc h2 ep=>fu h2 fun hc hheld=>?_
 refine wpAny_For (wpAny_mono (S.src hsrc htg hA I R) (fun v s₁ hv=>wpAny_mono hv (fun it s₂ ⟨ρ₂,S₂,B⟩=>?_) fun __ __ z=>z) fun __ __ z=>z) fun x=>cu hset
 obtain ⟨Ia,fp,wr,sh,St,rfl,W,hst,hwr,hsh,hfp,hwr2,I₂⟩:=B
 have GX:=rp (σ₁:=σ₁) S₂ R X W hwr hfp hwr2
 refine ny SS hA GX W q.1 rfl (Nat.zero_le _) hc hheld ⟨by show sh++ρ₂.x=_;rw [S₂.xs],I₂,hst,vr S₂ hsh R,X,?_,fun a v h=>h,fun b hb=>(hwr2 b hb).1,fun b hb=>(hfp b hb).imp id fun ⟨⟨o,e,_⟩,h⟩=>⟨⟨o,e⟩,h⟩⟩ fun f s'' z=>k f s'' (ep▸z)
 have e:(⟨ρ₂.l,ρ.x⟩:Rg)=ρ₂:=by rw [←S₂.xs]
 show Stp fa p₁ ρ s.heap ⟨ρ₂.l,ρ.x⟩ s₂.heap
 rw [e];exact S₂.fa fa
end
end
end Internal
namespace Internal
theorem slot_cit_next:Slot "callable_iterator" "__next__" "callable_iterator.__next__" :=
 .of (owner := "callable_iterator") (n := "__next__") (by rw [typeLookup_type,builtinLookup_eq_fast];kernel_rfl) (by decide +kernel) (by decide +kernel) (by decide +kernel)
  (by first | exact .inl (by decide +kernel) | exact .inr (by decide +kernel)) (by rw [isSubtype_type];kernel_rfl)
theorem eQ:Slot "callable_iterator" "__iter__" "callable_iterator.__iter__" :=
 .of (owner := "callable_iterator") (n := "__iter__") (by rw [typeLookup_type,builtinLookup_eq_fast];kernel_rfl) (by decide +kernel) (by decide +kernel) (by decide +kernel)
  (by first | exact .inl (by decide +kernel) | exact .inr (by decide +kernel)) (by rw [isSubtype_type];kernel_rfl)
theorem d6:entryFor table "callable_iterator.__next__" = some Builtin.«callable_iterator.__next__»:=entryFor_of_tree (by kernel_rfl)
theorem ii:entryFor table "callable_iterator.__iter__" = some Builtin.«dict_keyiterator.__iter__»:=
 entryFor_alias (id' := "dict_keyiterator.__iter__") (by kernel_rfl) (by first | rfl | decide +kernel | (unfold String.splitOn;simp +decide [String.splitOnAux])) (by decide +kernel) (by kernel_rfl)
theorem eS (a:Value):argsOk "callable_iterator.__next__" ⟨[a],[]⟩:=by unfold argsOk;kernel_rfl
theorem jk (a:Value):argsOk "callable_iterator.__iter__" ⟨[a],[]⟩:=by unfold argsOk;kernel_rfl
section
variable {F:Fix} {K:Frag} {C:Cfg} {N M n:Nat} {A:Around} {s:Shared} {ρ:Rg} {σ σ' σ₁:St} {p:Bool}
theorem jl {f:Value} {pos:List Value} {Q:Value→Shared→Prop} {E:Value→Shared→Prop} (hc:codeAny (model F.prog F.w) A (.call f ⟨pos,[]⟩) (fun r s'=>match r with | .ok (.ret v)=>Q v s' | .ok _=>False | .error e=>E e s') s) :
  wpAny (model F.prog F.w) A (callBorrowed f pos) Q E s:=fun Γ p hΓ=>by
 have h:=hc _ p rfl (hΓ.enter (.call f ⟨pos,[]⟩) none p (by intro x;cases x))
 unfold callBorrowed
 rw [Sem.wp_call]
 have e:(fun (r:Result) (s':Shared)=>Sem.wp (model F.prog F.w) Γ ((fun | .ok (.ret v)=>Sem.pure v | .ok _=>.unsupported "internal:call-without-return-value" | .error e=>.raise e:Result→Sem Value) r) (fun a __ s'=>Q a s') (fun e __ s'=>E e s') p s') =
   (fun r s'=>match r with | .ok (.ret v)=>Q v s' | .ok _=>False | .error e=>E e s'):=by
  funext r s'
  cases r with
  |error e=>rfl
  |ok f=>cases f<;>rfl
 exact e▸h
theorem eU {b f:Addr} {x:Addr} {o:Obj} {fd:FuncData} {Q:Bool→Shared→Prop} {E:Value→Shared→Prop} (hb:s.heap.get? b=some (B2 f x)) (hf:s.heap.get? f=some o) (hd:o.data = .func fd) (hq:Q true s) :
  wpAny (model F.prog F.w) A (borrowsExactly (.ref b)) Q E s:=by
 unfold borrowsExactly
 refine wpAny_bind (wpAny_load hb ?_)
 show wpAny _ _ (do match (←load f).data with | .func _=>pure true | _=>pure false) _ _ s
 refine wpAny_bind (wpAny_load hf ?_)
 rw [hd]
 exact wpAny_pure hq
theorem rq {a:Addr} (hh:A.handled=none) (ho:s.heap.get? a=some (gk .none .none true)) {Q:Option Value→Shared→Prop} {E:Value→Shared→Prop} (hQ:∀ h',(∀ b o,s.heap.get? b=some o→h'.get? b=some o)→Q none { s with heap:=h' }) :
  wpAny (model F.prog F.w) A (pyNext (.ref a)) Q E s:=by
 have hT:s.TypeIs (.ref a) "callable_iterator" := ⟨_,ho,rfl⟩
 unfold pyNext
 refine wpAny_bind (wpAny_attempt (wpAny_callSpecial?_slot (name:=Str.ofString "__next__") hT slot_cit_next
  (wpAny_call_entry slot_cit_next hT d6 ?_ (eS _))))
 show wpAny _ _ (field (.ref a) 2 >>= _) _ _ s
 refine wpAny_bind (wpAny_field ho rfl (x:=.bool true) rfl ?_)
 rw [if_pos (show (Value.bool true==Value.bool true)=true from rfl)]
 refine wpAny_bind (wpAny_rule ?_)
 refine wpAny_bind ?_
 unfold Builtin.SmallTypes.stopIteration
 refine wpAny_bind ?_
 simp only [newExc,newTuple]
 refine wpAny_bind (wpAny_newObj_type ?_ (by size_fits))
 refine wpAny_bind (m:=firstArgMember _ _) (wpAny_of_eq (a:=Value.none) (by first | rfl | (simp only [firstArgMember];rfl)) ?_)
 refine wpAny_newObj_type ?_ (by size_fits)
 simp only [raiseNew]
 refine wpAny_bind (wpAny_handled ?_)
 rw [show A.in1.handled=none from hh]
 refine wpAny_bind (wpAny_pure (wpAny_throw ?_))
 refine wpAny_bind (wpAny_isInstance (T := "StopIteration") (b:=true) ⟨_,Heap.get?_push_size _ rfl,rfl⟩ isSubtype_stop ?_)
 exact wpAny_pure (hQ _ fun b o e=>Heap.get?_push_of_some _ (Heap.get?_push_of_some _ e))
theorem AOk.in1 (h:AOk (M+1) A):AOk M A.in1:=⟨h.1,bg (Nat.le_add_right _ _) h.2.1,bg (Nat.add_le_add_left (by decide) _) h.2.2.1,h.2.2.2⟩
theorem nA {Φ:Fn} {j i:Nat} {a g:Addr} {c:Str} (hσ:σ[j]? = some (.cit g i false)) (hΦ:Φ [.ref i] σ=some (.str c,σ₁,p)) (hσ₁:σ₁[j]? = some (.cit g i false)) (hA:AOk (M+1) A) (hC:CodeOk F M (.ref g) Φ)
  (hg:∃ o fd,F.h.get? g=some o∧o.data = .func fd) (hgt:g ∉ F.tabs) (I:Inv F s ρ σ) (ha:ρ.l[j]? = some a) {Q:Option Value→Shared→Prop}
  (hq1:∀ u s' ρ',c ≠ "" → Inv F s' ρ' σ₁→VR s'.heap ρ' (.str c) u→Stp [] p ρ s.heap ρ' s'.heap→Q (some u) s')
  (hq2:∀ s' ρ',c = "" → Inv F s' ρ' (σ₁.set j (.cit g i true))→Stp [] false ρ s.heap ρ' s'.heap→Q none s'):wpAny (model F.prog F.w) A (pyNext (.ref a)) Q (fun __ __=>False) s:=by
 refine Hh fun G_ k_=>?_
 obtain ⟨bm,t,ho,hbm⟩:=I.objs j a _ ha hσ
 obtain ⟨bm',b,e,hbout,hbo,hb⟩:=hbm
 refine k_ ?_
 cases e
 refine Hh fun G_ k_=>?_
 obtain ⟨og,fd,hog,hfd⟩:=hg
 refine k_ ?_
 have hT:s.TypeIs (.ref a) "callable_iterator" := ⟨_,ho,rfl⟩
 unfold pyNext
 refine wpAny_bind (wpAny_attempt (wpAny_callSpecial?_slot (name:=Str.ofString "__next__") hT slot_cit_next
  (wpAny_call_entry slot_cit_next hT d6 ?_ (eS _))))
 show wpAny _ _ (field (.ref a) 2 >>= _) _ _ s
 refine wpAny_bind (wpAny_field ho rfl (x:=.bool false) rfl ?_)
 rw [if_neg (show ¬ ((Value.bool false==Value.bool true)=true) by decide)]
 refine wpAny_bind (wpAny_field ho rfl (x:=.ref bm) rfl ?_)
 refine wpAny_bind (wpAny_attempt ?_)
 unfold callOutOfASlot
 refine wpAny_bind (eU hbo (I.base g og hgt hog) hfd ?_)
 rw [if_pos rfl]
 refine jl (ks_codeAny_call_bound hbo ?_)
 refine codeAny_mono (hC hΦ hA.in1 I ⟨⟨b,rfl,hb⟩,trivial⟩) fun res s₁ z=>?_
 cases res with
 |error e=>exact z.elim
 |ok f=>
  cases f with
  |ret u=>
   refine Hh fun G_ k_=>?_
   obtain ⟨ρ₁,I₁,ru,S₁⟩:=z
   have ha₁:=S₁.ext _ _ ha
   obtain ⟨bm₁,t₁,ho₁,hbm₁⟩:=I₁.objs j a _ ha₁ hσ₁
   obtain ⟨bm₂,b₁,e,hbout₁,hbo₁,hb₁⟩:=hbm₁
   refine k_ ?_
   cases e
   obtain ⟨tu,rfl⟩:=id ru
   refine wpAny_bind (wpAny_field ho₁ rfl (x:=.bool false) rfl ?_)
   rw [if_neg (show ¬ ((Value.bool false==Value.bool true)=true) by decide)]
   refine wpAny_bind (wpAny_field ho₁ rfl (x:=.str "" t₁) rfl ?_)
   refine wpAny_bind (wpAny_holding (PySem.SeqAt.EqAt.str_str "" t₁ c tu _ _ _ _ ?_))
   by_cases hc:c = ""
   ·have e:(("" : Str)==c)=true:=by rw [hc];rfl
    rw [e,if_neg (by decide)]
    refine wpAny_bind (wpAny_rule ?_)
    refine wpAny_bind ?_
    show wpAny _ _ (field (.ref a) 0 >>= _) _ _ _
    refine wpAny_bind (wpAny_field ho₁ rfl (x:=.ref bm₁) rfl ?_)
    refine wpAny_bind ?_
    show wpAny _ _ (borrowsExactly (.ref bm₁) >>= _) _ _ _
    refine wpAny_bind (eU hbo₁ (I₁.base g og hgt hog) hfd ?_)
    rw [if_pos rfl]
    refine wpAny_pure ?_
    refine wpAny_bind (wpAny_setField_rec ho₁ (by simp) fun h₂ ho₂ hs₂=>?_)
    refine wpAny_bind (wpAny_setField_rec ho₂ (by simp) fun h₃ ho₃ hs₃=>?_)
    refine wpAny_setField_rec ho₃ (by simp) fun h₄ ho₄ hs₄=>?_
    have ho₄':h₄.get? a=some (gk .none .none true):=ho₄
    unfold Builtin.SmallTypes.stopIteration
    refine wpAny_bind ?_
    simp only [newExc,newTuple]
    refine wpAny_bind (wpAny_newObj_type ?_ (by size_fits))
    refine wpAny_bind (m:=firstArgMember _ _) (wpAny_of_eq (a:=Value.none) (by first | rfl | (simp only [firstArgMember];rfl)) ?_)
    refine wpAny_newObj_type ?_ (by size_fits)
    simp only [raiseNew]
    refine wpAny_bind (wpAny_handled ?_)
    rw [show A.in1.handled=none from hA.1]
    refine wpAny_bind (wpAny_pure (wpAny_throw ?_))
    refine wpAny_bind (wpAny_isInstance (T := "StopIteration") (b:=true) ⟨_,Heap.get?_push_size _ rfl,rfl⟩ isSubtype_stop ?_)
    refine wpAny_pure ?_
    have hk:∀ b' o,b'≠a→s₁.heap.get? b'=some o→h₄.get? b'=some o:=fun b' o hne e=>hs₄.extBut b' o hne (hs₃.extBut b' o hne (hs₂.extBut b' o hne e))
    obtain ⟨I₄,S₄⟩:=I₁.setObj (i:=j) (o:=.cit g i true) s₁.toks ha₁ hk ho₄' ho₄'
    have kp:∀ (o1 o2:Obj) b' o,h₄.get? b'=some o→((h₄.push o1).push o2).get? b'=some o:=fun o1 o2 b' o e=>Heap.get?_push_of_some _ (Heap.get?_push_of_some _ e)
    refine hq2 _ ρ₁ hc (I₄.heap (kp _ _) s₁.toks) ?_
    exact (S₁.trans (S₄ [])).weak.trans (Stp.keeps (kp _ _))
   ·have e:(("" : Str)==c)=false:=by simpa using fun q=>hc (Eq.symm q)
    rw [e,if_pos (show (!false)=true from rfl)]
    exact wpAny_pure ⟨_,rfl,wpAny_pure (hq1 _ s₁ ρ₁ hc I₁ ru S₁)⟩
  |_=>exact z.elim
end
end Internal
namespace Internal
section
variable {F:Fix} {K:Frag} {C:Cfg} {N n:Nat} {A:Around} {env:Env} {E E':AEnv} {s s₁:Shared} {ρ ρ₁:Rg} {σ σ' σ₁:St} {p q:Bool} {fa:List Addr} {r:AFlow×AEnv}
theorem vB {a:Addr} {x y:Value} {e:Bool} (ho:s.heap.get? a=some (gk x y e)) {Q:Value→Shared→Prop} {X:Value→Shared→Prop} (h:Q (.ref a) s):wpAny (model F.prog F.w) A (pyIter (.ref a)) Q X s:=by
 have hT:s.TypeIs (.ref a) "callable_iterator" := ⟨_,ho,rfl⟩
 refine wpAny_pyIter_slot hT eQ (wpAny_call_entry eQ hT ii ?_ (jk _))
 show wpAny _ _ (ret (.ref a)) _ _ s
 exact wpAny_pure ⟨_,rfl, "callable_iterator", _,hT,slot_cit_next.lookup,h⟩
theorem gP {j:Nat} {t:Addr×Nat×Bool} (e:qZ σ j=some t):σ[j]? = some (.cit t.1 t.2.1 t.2.2):=by
 unfold qZ at e
 split at e
 ·rename_i h;cases e;exact h
 ·cases e
theorem iD {α:Type} {x:Option (α×St×Bool)} {r:α} {G:Prop} (h:nu x=some (r,σ',p)) (k:∀ q,x=some (r,σ',q)→p=false→G):G:=by
 match x with
 |none=>exact aa h
 |some (b,σ,q)=>cases h;exact k q rfl rfl
section
variable {target:Expr} {j:Nat} {a:Addr} {body:List Stmt}
theorem PostS.weak {f:Flow} {s':Shared} {h:Heap} (x:PostS F fa env ρ h r σ' p f s'):PostS F fa env ρ h r σ' false f s':=let ⟨ρ',I,fl,R,X,S⟩:=x;⟨ρ',I,fl,R,X,S.weak⟩
noncomputable abbrev rr (n:Nat) (C:Cfg) (E:AEnv) (σ:St) (target:Expr) (j:Nat) (body:List Stmt) (fl:AFlow):Option ((AFlow×AEnv)×St×Bool):=match fl with
      | .next=>acit n C E σ target j body
      | .cont=>acit n C E σ target j body
      | .brk=>some ((.next,E),σ,true)
      | .ret v=>some ((.ret v,E),σ,true)
theorem vC (SS:SndS F C N n) (hA:AOk N A) {c:Str} {v:Value} {G:Flow→Shared→Prop} (hE:aA E target (.str c)=some E') (h:Hp (aexecs n C E' σ body) (fun f σ₂=>rr n C f.2 σ₂ target j body f.1)=some (r,σ',p)) (I:Inv F s ρ σ) (R:EnvR F s.heap ρ env E) (X:FaX env E fa) (ha:ρ.l[j]? = some a) (rv:VR s.heap ρ (.str c) v)
  (k:∀ f s',PostS F fa env ρ s.heap r σ' p f s'→G f s'):wp F A (assign target env v) s fun __ s₂=>wp F A (execs body env) s₂ fun f s₃=>nx F A s₃ (.forLoop target (.ref a) body [] env) f G:=by
 refine wpAny_mono (eJ hA.1 hE I R X.far rv) (fun __ s₂ Y=>?_) fun __ __ z=>z
 refine OkS.seqS (F:=F) (P₁:=fun f s₃ G=>nx F A s₃ (.forLoop target (.ref a) body [] env) f G) (SS.execs hA Y.1.inv Y.1.env (X.of (eg hE))) (fun r σ₂ f s₂ ρ₂ p₂ I₂ r₂ R₂ X₂ S₂=>
  fC (G:=fun fl f=>OkS F fa env ρ₂ s₂.heap (nx F A s₂ (.forLoop target (.ref a) body [] env) f) (rr n C r.2 σ₂ target j body fl)) r₂ (SS.cit hA I₂ R₂ X₂ (S₂.ext _ _ ha)) (OkS.ret I₂ rfl R₂ X₂ fun G h=>h) (SS.cit hA I₂ R₂ X₂ (S₂.ext _ _ ha)) fun v u hu=>OkS.ret I₂ ⟨u,rfl,hu⟩ R₂ X₂ fun G h=>h)
  r σ' p h G fun f s' ⟨ρ',I',a,b,c,S'⟩=>k f s' ⟨ρ',I',a,b,c,by simpa using Y.1.stp.trans S'⟩
theorem Cr {α:Type} {c:Prop} {d:Decidable c} {x y:Option α} {r:α} {G:Prop} (h:(if c then x else y)=some r) (k1:c→x=some r→G) (k2:¬c→y=some r→G):G:=by
 by_cases hc:c
 ·rw [if_pos hc] at h;exact k1 hc h
 ·rw [if_neg hc] at h;exact k2 hc h
section
variable {R':Result→Shared→Prop} {G:Flow→Shared→Prop} {M g i:Nat} {c:Str} {p₁:Bool} {Φ:Fn}
theorem oW {c:Code} {f:Flow} (h:nx F A s c f G) (hR:∀ f s',G f s'→R' (.ok f) s'):rn F A s c R' f:=by
 cases f with
 |next=>exact h R' hR
 |cont=>exact h R' hR
 |brk=>exact hR _ _ h
 |ret u=>exact hR _ _ h
theorem vD (SS:SndS F C (M+1) n) (hA:AOk (M+1) A) (hj:σ[j]? = some (.cit g i false)) (he:Φ [.ref i] σ=some (.str c,σ₁,p₁)) (hj1:σ₁[j]? = some (.cit g i false)) (hC:CodeOk F M (.ref g) Φ) (hg:∃ o fd,F.h.get? g=some o∧o.data = .func fd) (hgt:g ∉ F.tabs)
  (h:(if c = "" then some ((.next,E),σ₁.set j (.cit g i true),false) else opt (aA E target (.str c)) fun E'=>nu (Hp (aexecs n C E' σ₁ body) fun f σ₂=>rr n C f.2 σ₂ target j body f.1))=some (r,σ',p)) (I:Inv F s ρ σ) (R:EnvR F s.heap ρ env E) (X:FaX env E fa) (ha:ρ.l[j]? = some a)
  (k:∀ f s',PostS F fa env ρ s.heap r σ' p f s'→G f s') (hR:∀ f s',G f s'→R' (.ok f) s'):codeAny (model F.prog F.w) A (.forLoop target (.ref a) body [] env) R' s:=
 cI (Cr h (fun hz h=>nA hj he hj1 hA hC hg hgt I ha (fun u s' ρ' hne __ __ __=>absurd hz hne) fun s₂ ρ₂ __ I₂ S₂=>by
   cases h
   exact hR _ _ (k _ _ ⟨ρ₂,I₂,rfl,R.mono S₂,X,S₂.fa fa⟩))
  fun hz h=>aZ h fun E' hE h=>iD h fun q hq ep=>nA hj he hj1 hA hC hg hgt I ha (fun u s₁ ρ₁ __ I₁ r₁ S₁=>
   let ⟨bm,t,ho,_⟩:=I₁.objs j a _ (S₁.ext _ _ ha) hj1
   nr (T := "callable_iterator") ho rfl (by decide) (wpAny_mono (vC (G:=G) SS hA hE hq I₁ (R.mono S₁) X (S₁.ext _ _ ha) r₁ fun f s' ⟨ρ',I',a,b,c,S'⟩=>k f s' ⟨ρ',I',a,b,c,ep▸((S₁.fa fa).trans S').weak⟩)
    (fun __ s₂ h=>wpAny_mono h (fun f s₃ h=>oW h hR) fun __ __ z=>z) fun __ __ z=>z)) fun __ __ q=>absurd q hz)
end
theorem vF (SS:SndS F C N n) (KC:CfgOk F K C N) (hA:AOk N A) (I:Inv F s ρ σ) (R:EnvR F s.heap ρ env E) (X:FaX env E fa) (ha:ρ.l[j]? = some a) :
  OkS F fa env ρ s.heap (Hw F A (.forLoop target (.ref a) body [] env) s) (acit (n+1) C E σ target j body):=by
 refine OkS.opt fun t ht=>?_
 obtain ⟨g,i,e⟩:=t
 have hj:=gP ht
 intro r σ' p h G k R' hR
 cases e with
 |true=>
  refine cI (rq hA.1 (I.objs j a _ ha hj) fun h' hk=>?_)
  cases h
  exact hR _ _ (k _ _ ⟨ρ,I.heap hk s.toks,rfl,R.mono (Stp.keeps (fa:=[]) hk),X,Stp.keeps hk⟩)
 |false=>
  refine aZ h fun Φ hΦ h2=>aZ h2 fun q he h3=>aZ h3 fun c hc h4=>aV h4 fun hj1 h5=>?_
  obtain ⟨M,rfl,hC,hg,hgt⟩:=KC.cit g Φ hΦ
  exact vD SS hA hj (he.trans (by rw [←aX hc])) (gP hj1) hC hg hgt h5 I R X ha k hR
theorem vG (S:Snd F C N n) (SS:SndS F C N n) (KC:CfgOk F K C N) (hA:AOk N A) {iter:Expr} {pos:Pos} (hj:oU C E σ iter=some j) (I:Inv F s ρ σ) (R:EnvR F s.heap ρ env E) (X:FaX env E fa) :
  OkS F fa env ρ s.heap (wp F A (exec (.For target iter body [] pos) env) s) (acit n C E σ target j body):=ad hj fun x e1 h1=>ad h1 fun v e2 h2=>ad h2 fun k e3 h3=>ao h3 fun t e4 e5=>by
 have hx:∃ xp,iter = .Name x xp:=by cases iter<;>first | exact aa e1 | exact ⟨_,congrArg (Expr.Name · _) (Option.some.inj e1)⟩
 obtain ⟨xp,rfl⟩:=hx
 rw [bq e3] at e2
 subst e5
 intro r σ' p h G kG
 refine wpAny_For ((jc KC e2 I R).seq fun v s₁ ρ₁ I₁ r₁ S₁=>?_) fun x=>cu rfl
 obtain ⟨a,rfl,ha⟩:=r₁
 obtain ⟨g,i,e⟩:=t
 have ho:∃ x y,s₁.heap.get? a=some (gk x y e):=by
  have:=I₁.objs _ a _ ha (gP e4)
  cases e with
  |true=>exact ⟨_,_,this⟩
  |false=>obtain ⟨bm,t,ho,_⟩:=this;exact ⟨_,_,ho⟩
 obtain ⟨x,y,ho⟩:=ho
 exact vB ho (SS.cit hA I₁ (R.mono S₁) X ha r σ' p h G (fun f s' ⟨ρ',I',a,b,c,S'⟩=>kG f s' ⟨ρ',I',a,b,c,by simpa using (S₁.fa fa).trans S'⟩) _ fun f s' z=>z)
end
theorem rt:SndS F C N 0 where
 exec:=fun __ __ __ __=>OkS.none
 execs:=fun __ __ __ __=>OkS.none
 cit:=fun __ __ __ __ __=>OkS.none
theorem l6 (S:Snd F C N n) (S':∀ m,n=m+1→Snd F C N m) (KC:CfgOk F K C N) (hA:AOk N A) {tgs:List Expr} {value:Expr} {pos:Pos} (I:Inv F s ρ σ) (R:EnvR F s.heap ρ env E) (X:FaX env E fa):OkS F fa env ρ s.heap (wp F A (exec (.Assign tgs value pos) env) s) (ak (n+1) C E σ (.Assign tgs value pos)):=by
 match tgs with
 | []=>exact OkS.none
 |_::_::_=>exact OkS.none
 | [t]=>
  cases t with
  |Name x xp=>exact f6 S S' hA I R X
  |Attribute o name ap=>exact OkS.unless fun hc=>f9 S KC hA (eq_false_of_ne_true hc) I R X
  |Subscript o i sp=>exact vq S hA I R X
  |Tuple ts k tp=>
   cases value with
   |Tuple vs k' vp=>exact fA S hA I R X
   |Call f args kw cp=>exact f7 S hA I R X
   |ListComp e gens scope cp=>exact f8 S hA I R X
   |_=>exact OkS.none
  |_=>exact OkS.none
theorem vH (S:Snd F C N n) (KC:CfgOk F K C N) (hA:AOk N A) {t value:Expr} {op:Operator} {pos:Pos} (I:Inv F s ρ σ) (R:EnvR F s.heap ρ env E) (X:FaX env E fa):OkS F fa env ρ s.heap (wp F A (exec (.AugAssign t op value pos) env) s) (ak (n+1) C E σ (.AugAssign t op value pos)):=by
 cases op with
 |Add=>
  cases t with
  |Name x xp=>exact ji S hA I R X
  |Attribute o name ap=>exact jj S KC hA I R X
  |_=>exact OkS.none
 |_=>exact OkS.none
theorem rz (S:Snd F C N n) (SS:SndS F C N n) (KC:CfgOk F K C N) (hA:AOk N A) {target iter:Expr} {body:List Stmt} {pos:Pos} (I:Inv F s ρ σ) (R:EnvR F s.heap ρ env E) (X:FaX env E fa):OkS F fa env ρ s.heap (wp F A (exec (.For target iter body [] pos) env) s) (ak (n+1) C E σ (.For target iter body [] pos)):=
 OkS.els (fun j hj=>vG S SS KC hA hj I R X) (OkS.when fun hc=>vA S SS hA hc.1 hc.2 I R X)
theorem rA (S:Snd F C N n) (S':∀ m,n=m+1→Snd F C N m) (SS:SndS F C N n) (KC:CfgOk F K C N) (hA:AOk N A) {st:Stmt} (I:Inv F s ρ σ) (R:EnvR F s.heap ρ env E) (X:FaX env E fa):OkS F fa env ρ s.heap (wp F A (exec st env) s) (ak (n+1) C E σ st):=by
 cases st with
 |Expr e pos=>exact OkS.unless fun hc=>q8 S hA (eq_false_of_ne_true hc) I R X
 |Continue pos=>exact OkS.ret I rfl R X fun G h=>wpAny_Continue h
 |Return v pos=>
  cases v with
  |none=>exact OkS.none
  |some e=>exact lX S hA I R X
 |If t b o pos=>exact zw S SS hA I R X
 |Assign tgs value pos=>exact l6 S S' KC hA I R X
 |AugAssign t op value pos=>exact vH S KC hA I R X
 |For target iter body els pos=>
  cases els with
  |nil=>exact rz S SS KC hA I R X
  |cons=>exact OkS.none
 |_=>exact OkS.none
theorem jm (KC:CfgOk F K C N) (Z:jh F N):∀ n,SndS F C N n
 |0=>rt
 |n+1=>
  have SS:=jm KC Z n
  have S:=lU KC Z
  {exec:=fun hA I R X=>rA (S n) (fun m __=>S m) SS KC hA I R X
   execs:=fun hA I R X=>oV SS hA I R X
   cit:=fun hA I R X ha=>vF SS KC hA I R X ha }
end
end Internal
namespace Internal
noncomputable def cb (scope:Scope):List Str:=(scope.names.filter (·.2 == .cell)).map (·.1)
noncomputable def zy:AFlow→AV | .ret v=>v | _=>.none
noncomputable def vI (x:Option ((AFlow×AEnv)×St×Bool)):Option (AV×St×Bool):=match x with
 |none=>none
 |some (r,σ,p)=>some (zy r.1,σ,p)
noncomputable def Hx (fuel:Nat) (C:Cfg) (scope:Scope) (params:List Str) (body:List Stmt):Fn:=fun avs σ=>
 opt (aC { names:=scope.names,own:=cb scope,vars:=[] } params avs) fun E₁=>vI (aexecs fuel C E₁ σ body)
structure FnAt (F:Fix) (f:Addr) (fd:FuncData):Prop where
 obj:∃ o,F.h.get? f=some o∧o.data = .func fd
 tab:f ∉ F.tabs
 code:∃ c oc vs t,fd.code = .ref c∧F.h.get? c=some oc∧oc.data = .fields vs∧vs[1]? = some (.str fd.qualname t)∧c ∉ F.tabs
 nolimit:F.h.NoLimit
 cst:cStatics ∉ F.tabs
section
variable {F:Fix} {K:Frag} {C:Cfg} {N n:Nat} {A:Around} {env:Env} {E E':AEnv} {s s₁:Shared} {ρ ρ₁:Rg} {σ σ' σ₁:St} {p q:Bool} {fa:List Addr}
theorem FnAt.codeRec {f:Addr} {fd:FuncData} (X:FnAt F f fd) (I:Inv F s ρ σ):s.heap.CodeRec fd.code fd.qualname:=by
 obtain ⟨c,oc,vs,t,e,ho,hd,ht,hc⟩:=X.code
 exact ⟨c,oc,vs,t,e,I.base c oc hc ho,hd,ht⟩
theorem FnAt.limit {f:Addr} {fd:FuncData} (X:FnAt F f fd) (I:Inv F s ρ σ):s.heap.NoLimit:=by
 obtain ⟨mc,⟨o,es,ep,ho,r⟩,q⟩:=X.nolimit
 exact ⟨mc,⟨o,es,ep,I.base _ _ X.cst ho,r⟩,q⟩
theorem AOk.deeper (h:AOk (N+1) A) (env:Env):AOk N (A.deeper env):=by
 obtain ⟨h1,h2,h3,l,h4⟩:=h
 exact ⟨h1,bg (Nat.add_le_add_left (show 1≤20 by decide) _) h2,bg (Nat.add_le_add_left (show 3≤100 by decide) _) h3,env::l,by show A.frames.map _=_;rw [h4];rfl⟩
theorem kD (f:Str×Value→PUnit→Sem (ForInStep PUnit)) (hf:∀ n v u,f (n,v) u=(do storeName env n v;pure (.yield ⟨⟩))):∀ {xs:List Str} {avs:List AV} {vs:List Value} {s:Shared} {E E':AEnv},aC E xs avs=some E'→Inv F s ρ σ→EnvR F s.heap ρ env E→FaX env E fa→VRs s.heap ρ avs vs →
  wp F A (forIn (xs.zip vs) ⟨⟩ f) s (fun __ s'=>Stored F fa s ρ σ env E' s'∧FaX env E' fa)
 | [],[],[],s,E,E',h,I,R,X,_=>wpAny_pure (Option.some.inj h▸⟨⟨⟨_,_,rfl,fun __ __ __ e=>e⟩,I,R,Stp.refl⟩,X⟩)
 |x::xs,a::avs,v::vs,s,E,E',h,I,R,X,r=>aV h fun hx h=>by
  rw [List.zip_cons_cons,List.forIn_cons,hf]
  exact wpAny_bind (wpAny_bind (wpAny_mono (dO hx I R X.far r.1) (fun __ s₁ Y=>wpAny_pure (wpAny_mono (kD f hf h Y.inv Y.env (X.of rfl) (VRs.mono Y.stp _ _ r.2)) (fun __ s₂ y=>⟨Y.trans y.1,y.2⟩) fun __ __ z=>z)) fun __ __ z=>z))
 | [],[],_::_,_,_,_,_,_,_,_,r=>r.elim
 | [],_::_,_,_,_,_,h,_,_,_,_=>aa h
 |_::_,[],_,_,_,_,h,_,_,_,_=>aa h
 |_::_,_::_,[],_,_,_,_,_,_,_,r=>r.elim
noncomputable abbrev aY (fd:FuncData) (L f:Addr):Env:=
 {scope:=fd.scope,locals:=L,globals:=fd.globals,cells:=cellsFrom (L+1) fd.scope.names [],qual:=fd.qualname ++ ".<locals>.", func:=some f,code:=fd.code,frame:=some L,builtins:=fd.builtins }
noncomputable abbrev ma (fd:FuncData) (h:Heap):Heap:=pushCells (h.push { cls:=.type "frame", data:=.dict #[] }) fd.scope.names
noncomputable abbrev cU (fd:FuncData):AEnv:={ names:=fd.scope.names,own:=cb fd.scope,vars:=[] }
noncomputable abbrev Cs (fd:FuncData) (L:Addr):List Addr:=L::(cb fd.scope).filterMap (fun x=>(cellsFrom (L+1) fd.scope.names []).lookup x)
theorem rB {fd:FuncData} {h:Heap} (b:Addr) (o:Obj) (e:h.get? b=some o):(ma fd h).get? b=some o:=pushCells_keeps _ _ b o (Heap.get?_push_of_some _ e)
theorem kE (fd:FuncData) (h:Heap):CellsOk (ma fd h) (h.objs.size+1) (cellsFrom (h.objs.size+1) fd.scope.names []):=by
 have hsz:(h.push { cls:=.type "frame", data:=.dict #[] }).objs.size=h.objs.size+1:=Heap.size_push ..
 have ok:=cellsFrom_ok fd.scope.names (h.push { cls:=.type "frame", data:=.dict #[] }) (h.objs.size+1) [] ⟨fun __ __ hm=>(nomatch hm),List.Pairwise.nil⟩ (by rw [hsz];exact Nat.le_refl _)
 rw [hsz] at ok
 exact ok
theorem zz {fd:FuncData} {f:Addr} (hk:fd.scope.kind = .function) (hg:fd.globals=mainGlobals) (hb:fd.builtins=builtinsNs) (I:Inv F s ρ σ):EnvR F (ma fd s.heap) ρ (aY fd s.heap.objs.size f) (cU fd):=by
 have ok:=kE fd s.heap
 have dead:∀ x c,(x,c)∈cellsFrom (s.heap.objs.size+1) fd.scope.names []→s.heap.get? c=none:=fun x c hm=>an _ (by have:=(ok.empty x c hm).2;omega)
 have hd:=an s.heap (Nat.le_refl s.heap.objs.size)
 exact ⟨hk,rfl,hg,hb,⟨(I.dead_out hd).1,I.base_dead hd⟩,⟨fun __=>none,(Heap.Ns.new s.heap (.type "frame")).keeps (pushCells_keeps _ _),fun x av e __=>(nomatch e)⟩,fun x av e __=>(nomatch e),
  fun x hx=>let ⟨d,hd'⟩:=bu (b:=s.heap.objs.size+1) (acc:=[]) (.inl (own_mem.mp hx));let ⟨d',hd2⟩:=br hd';⟨d',hd2,I.base_dead (dead x d' (mem_of_lookup hd2))⟩,
  fun x c e=>⟨(I.dead_out (dead x c (mem_of_lookup e))).1,_,(ok.empty x c (mem_of_lookup e)).1⟩,fun x y c ex ey=>name_of_addr ok.apart (mem_of_lookup ex) (mem_of_lookup ey)⟩
theorem Ct {fd:FuncData} {f L:Addr} : FaX (aY fd L f) (cU fd) (Cs fd L):=
 ⟨⟨List.mem_cons_self,fun x hx c e=>List.mem_cons_of_mem _ (List.mem_filterMap.mpr ⟨x,hx,e⟩)⟩,fun b hb'=>(List.mem_cons.mp hb').imp id fun h=>List.mem_filterMap.mp h⟩
theorem rC {fd:FuncData} {h:Heap} (b:Addr) (hb:b∈Cs fd h.objs.size):h.get? b=none:=
 (List.mem_cons.mp hb).elim (fun e=>e▸an h (Nat.le_refl _)) fun hm=>let ⟨x,_,e⟩:=List.mem_filterMap.mp hm;an _ (by have:=((kE fd h).empty x b (mem_of_lookup e)).2;omega)
structure DefOk (fd:FuncData) (xs:List Str) (body:List Stmt):Prop where
 body:fd.body = .stmts body
 clo:fd.closure=[]
 kind:fd.scope.kind = .function
 glob:fd.globals=mainGlobals
 blt:fd.builtins=builtinsNs
 co:fd.scope.isCoroutine=false
 gen:fd.scope.isGenerator=false
noncomputable abbrev eV (fd:FuncData) (xs:List Str):Prop:=∀ vs,vs.length=xs.length→bindArgs fd ⟨vs,[]⟩=pure (xs.zip vs)
theorem eX {f:Addr} {fd:FuncData} {body:List Stmt} {xs:List Str} {avs:List AV} {vs vs₀:List Value} {E₁:AEnv} {R:Result→Shared→Prop} (X:FnAt F f fd) (D:DefOk fd xs body) (hbind:∀ (M:Model) (A:Around) (E:Value→Shared→Prop) (Q:List (Str×Value)→Shared→Prop),Q (xs.zip vs) s→wpAny M A (bindArgs fd ⟨vs₀,[]⟩) Q E s) (hE:aC (cU fd) xs avs=some E₁)
  (hA:AOk (N+1) A) (I:Inv F s ρ σ) (r:VRs s.heap ρ avs vs)
  (h:∀ s₁ fa L,Inv F s₁ ρ σ→EnvR F s₁.heap ρ (aY fd L f) E₁→FaX (aY fd L f) E₁ fa→(∀ b o,s.heap.get? b=some o→s₁.heap.get? b=some o)→(∀ b∈fa,s.heap.get? b=none)→AOk N (A.deeper (aY fd L f)) →
   wp F (A.deeper (aY fd L f)) (execs body (aY fd L f)) s₁ (fun g s'=>R (.ok (.ret (match g with | .ret v=>v | _=>.none))) s')) :
  codeAny (model F.prog F.w) A (.call (.ref f) ⟨vs₀,[]⟩) R s:=by
 obtain ⟨o,ho,hd⟩:=X.obj
 have hroom:A.depth < recursionLimit:=by have:=hA.2.1;omega
 refine codeAny_call_function hroom (I.base f o X.tab ho) hd D.co D.gen D.body (X.codeRec I) ?_
 refine hbind _ _ _ _ ?_
 rw [D.clo]
 simp only [newFunctionEnv,Option.isSome_none,Bool.false_eq_true,if_false]
 refine wpAny_bind (wpAny_alloc ?_)
 refine wpAny_bind (wpAny_layCells _ (fun name kind cells=>by cases hkc:kind==NameKind.cell<;>simp [hkc]) _ _ _ _ ?_)
 rw [show ({ s with heap:=s.heap.push { cls:=.type "frame", data:=.dict #[] } } : Shared).heap.objs.size=s.heap.objs.size+1 from Heap.size_push ..]
 refine wpAny_bind (wpAny_mono (E:=Ht) (kD (env:=aY fd s.heap.objs.size f) _ (fun __ __ __=>rfl) hE (I.heap rB s.toks) (zz (f:=f) D.kind D.glob D.blt I) Ct (VRs.mono (fa:=[]) (Stp.keeps rB) _ _ r)) (fun __ s₁ Y=>?_) fun __ __ z=>z.elim)
 obtain ⟨⟨⟨h₁,t₁,rfl,k₁⟩,I₁,R₁,S₁⟩,fx₁⟩:=Y
 exact wpAny_pure ⟨X.limit I₁,codeAny_func (wpAny_mono (h _ _ s.heap.objs.size I₁ R₁ fx₁ (fun b o e=>k₁ b o (fun hm=>by rw [rC b hm] at e;cases e) (rB b o e)) rC (hA.deeper _)) (fun __ __ z=>z) fun __ __ z=>z.elim)⟩
theorem eY:∀ {xs:List Str} {avs:List AV} {E E₁:AEnv},aC E xs avs=some E₁→avs.length=xs.length
 | [],[],_,_,_=>rfl
 |_::_,_::_,_,_,h=>aV h fun __ h=>congrArg (· + 1) (eY h)
 | [],_::_,_,_,h=>aa h
 |_::_,[],_,_,h=>aa h
theorem vJ {x:Option ((AFlow×AEnv)×St×Bool)} {r:AV} {G:Prop} (h:vI x=some (r,σ',p)) (k:∀ q,x=some (q,σ',p)→zy q.1=r→G):G:=by
 match x with
 |none=>exact aa h
 |some (q,σ,b)=>cases h;exact k q rfl rfl
noncomputable abbrev zA (g:Flow):Value:=match g with | .ret v=>v | _=>.none
theorem zB {fl:AFlow} {g:Flow} {h:Heap} (r:lW h ρ fl g):VR h ρ (zy fl) (zA g):=by
 cases fl with
 |ret v=>obtain ⟨u,rfl,hu⟩:=r;exact hu
 |_=>cases r;exact rfl
theorem EP {f:Addr} {fd:FuncData} {body:List Stmt} {xs:List Str} {fuel:Nat} (X:FnAt F f fd) (D:DefOk fd xs body) (B:eV fd xs) (KC:CfgOk F K C N) (Z:jh F N):CodeOk F (N+1) (.ref f) (Hx fuel C fd.scope xs body):=
 fun {A s ρ σ avs vs r σ' p} h hA I rv=>aZ h fun E₁ hE h=>vJ h fun q hx hr=>by
  subst hr
  exact eX X D (fun M A E Q h=>by rw [B vs (rv.length.symm.trans (eY hE))];exact wpAny_pure h) hE hA I rv fun s₁ fa L I₁ R₁ fx k hfa hA₁=>
   (jm KC Z fuel).execs hA₁ I₁ R₁ fx q σ' p hx _ fun g s₂ ⟨ρ₂,I₂,r₂,_,_,S₂⟩=>⟨ρ₂,I₂,zB r₂,S₂.drop k hfa⟩
theorem CodeOk.callOk {f:Addr} {fd:FuncData} {Φ:Fn} (X:FnAt F f fd) (h:CodeOk F N (.ref f) Φ):CallOk F N (.ref f) Φ where
 keep:=fun s ρ σ I=>let ⟨o,ho,hd⟩:=X.obj;⟨.frame,fun A E Q hq=>by
  unfold keeperOf
  refine wpAny_bind (wpAny_load (I.base f o X.tab ho) ?_)
  rw [hd]
  exact wpAny_pure hq⟩
 ok:=fun e hA I r=>h.call e hA I r
theorem AOk.mono {M:Nat} (h:AOk M A) (e:N≤M):AOk N A:=⟨h.1,Nat.le_trans (Nat.add_le_add_right (Nat.add_le_add_left (Nat.mul_le_mul_left 20 e) _) 20) h.2.1,Nat.le_trans (Nat.add_le_add_right (Nat.add_le_add_left (Nat.mul_le_mul_left 100 e) _) 200) h.2.2.1,h.2.2.2⟩
theorem CodeOk.up {v:Value} {Φ:Fn} {M:Nat} (h:CodeOk F N v Φ) (e:N≤M):CodeOk F M v Φ:=fun a b=>h a (b.mono e)
theorem CallOk.up {v:Value} {Φ:Fn} {M:Nat} (h:CallOk F N v Φ) (e:N≤M):CallOk F M v Φ:=⟨h.keep,fun a b=>h.ok a (b.mono e)⟩
end
end Internal
namespace Internal
noncomputable def one {γ:Type} (avs:List AV) (k:AV→Option γ):Option γ:=match avs with
 | []=>none
 |a::r=>(match r with | []=>k a | _::_=>none)
noncomputable def Hy {γ:Type} (avs:List AV) (k:AV→AV→Option γ):Option γ:=match avs with
 | []=>none
 |a::r=>one r (k a)
noncomputable def three {γ:Type} (avs:List AV) (k:AV→AV→AV→Option γ):Option γ:=match avs with
 | []=>none
 |a::r=>Hy r (k a)
noncomputable def ij:AV→Option (List AV)
 | .lst l=>some l
 |_=>none
noncomputable def md:AV→Option UInt64
 | .flt x=>some x
 |_=>none
section
variable {F:Fix} {N:Nat} {A:Around} {s:Shared} {ρ:Rg} {σ σ':St} {p:Bool} {fa:List Addr} {γ:Type} {r:γ} {h:Heap} {avs:List AV} {vs:List Value} {G:List Value→Prop} {a:AV}
theorem dW {k:AV→Option γ} (e:one avs k=some r) (rv:VRs h ρ avs vs) (g:∀ a v,avs=[a]→k a=some r→VR h ρ a v→G [v]):G vs:=by
 match avs,vs with
 | [a],[v]=>exact g a v rfl e rv.1
 | [],_=>exact aa e
 |_::_::_,_=>exact aa e
 |_::_,[]=>exact rv.elim
 | [_],_::_::_=>exact rv.2.elim
theorem jn {k:AV→AV→Option γ} (e:Hy avs k=some r) (rv:VRs h ρ avs vs) (g:∀ a b v u,avs=[a,b]→k a b=some r→VR h ρ a v→VR h ρ b u→G [v,u]):G vs:=by
 match avs,vs with
 |a::l,v::w=>exact dW (G:=fun w=>G (v::w)) e rv.2 fun b u e1 e2 r2=>g a b v u (e1▸rfl) e2 rv.1 r2
 | [],_=>exact aa e
 |_::_,[]=>exact rv.elim
theorem rD {k:AV→AV→AV→Option γ} (e:three avs k=some r) (rv:VRs h ρ avs vs) (g:∀ a b c v u w,k a b c=some r→VR h ρ a v→VR h ρ b u→VR h ρ c w→G [v,u,w]):G vs:=by
 match avs,vs with
 |a::l,v::w=>exact jn (G:=fun w=>G (v::w)) e rv.2 fun b c u x __ e2 r2 r3=>g a b c v u x e2 rv.1 r2 r3
 | [],_=>exact aa e
 |_::_,[]=>exact rv.elim
theorem bl {k:Int} (e:dT a=some k):a = .int k:=by cases a<;>first | exact aa e | exact congrArg AV.int (Option.some.inj e)
theorem bL {k:UInt64} (e:md a=some k):a = .flt k:=by cases a<;>first | exact aa e | exact congrArg AV.flt (Option.some.inj e)
theorem rE {k:List AV} (e:ij a=some k):a = .lst k:=by cases a<;>first | exact aa e | exact congrArg AV.lst (Option.some.inj e)
theorem jo {α β:Type} {x:Option α} {f:α→Option β} {y:Option β} {r:β} {G:Prop} (e:els x f y=some r) (k1:∀ a,x=some a→f a=some r→G) (k2:x=none→y=some r→G):G:=by
 cases x with
 |none=>exact k2 rfl e
 |some a=>exact k1 a rfl e
theorem dQ {av:AV} {v:Value} {h':Heap} (I:Inv F s ρ σ) (tk:Nat) (k:∀ b o,s.heap.get? b=some o→h'.get? b=some o) (r:VR h' ρ av v) :
  Post F fa ρ s.heap σ true (VV av) v { s with heap:=h',toks:=tk }:=⟨ρ,I.heap k tk,r,Stp.keeps k⟩
noncomputable def iE:List AV→Option (List Int)
 | []=>some []
 |a::r=>(dT a).bind fun i=>(iE r).map (i :: ·)
theorem kF:∀ {l:List AV} {ns:List Int} {vs:List Value},iE l=some ns→VRs h ρ l vs→numsOf vs=ns∧∀ v∈vs,∃ a t,v = .int a t
 | [],_,[],e,_=>Option.some.inj e▸⟨rfl,fun __ h=>nomatch h⟩
 |a::l,ns,v::vs,e,r=>ad e fun i e1 e=>ao e fun ms e2 e3=>by
  have ea:=bl e1
  subst ea
  obtain ⟨⟨t,rfl⟩,r⟩:=r
  obtain ⟨a,b⟩:=kF e2 r
  exact ⟨(congrArg (i :: ·) a).trans e3,fun v hv=>(List.mem_cons.mp hv).elim (fun e=>⟨i,t,e⟩) (b v)⟩
 | [],_,_::_,_,r=>r.elim
 |_::_,_,[],_,r=>r.elim
theorem gd {l:List AV} {v:Value} {G:Prop} (I:Inv F s ρ σ) (e:ij (bp σ a)=some l) (r:VR s.heap ρ a v) (k:∀ b vs n,v = .ref b→s.heap.get? b=some (aD vs n)→VRs s.heap ρ l vs.toList→G):G:=ip I (rE e) r k
noncomputable def ya:Fn:=fun avs σ=>one avs fun a=>(ij (bp σ a)).bind fun l=>(iE l).map fun ns=>(.int ns.sum,σ,true)
theorem Cu:CallOk F N (.builtin "sum") ya where
 keep:=fun __ __ __ __=>aK
 ok:=fun {A s ρ σ avs vs r σ' p} h hA I rv=>dW (G:=fun vs=>Ok F A [] (call (.builtin "sum") vs) s ρ σ' p (VV r)) h rv fun a v __ h ra=>ad h fun l hl h=>ao h fun ns hn e=>gd I hl ra fun b us n hv ho hr=>by
  cases e
  subst hv
  obtain ⟨h1,h2⟩:=kF hn hr
  have hall:AllInts us:=fun v hv=>h2 v (by simpa using hv)
  obtain ⟨xs,rfl⟩:=hall.items
  refine sum_intListG hA.1 ⟨_,ho,rfl,_,rfl⟩ fun h' tk t' k=>dQ I tk k ⟨t',?_⟩
  rw [nums_intItems] at h1
  rw [preSum_eq,List.take_of_length_le (by simp),h1]
noncomputable def eZ (σ:St) (n:Nat):Option (AV×St×Bool):=if n≤Hk then some (.int n,σ,true) else none
noncomputable def EQ (σ:St) (a:AV):Option (List (Str×AV)):=(ia a).bind fun j=>aQ σ j
noncomputable def me (acc:Fn):Fn:=fun avs σ=>one avs fun a=>els (db a) (fun x=>eZ σ x.length) (els (ij (bp σ a)) (fun l=>eZ σ l.length) (els (EQ σ a) (fun d=>eZ σ d.length) (acc avs σ)))
theorem zC {n:Nat} (h:n≤Hk):(n:Int) < 9223372036854775808:=by unfold Hk at h;omega
theorem yb {Φ:Fn} (hm:(∃ o,F.h.get? sysModules=some o)∧sysModules ∉ F.tabs) (H:∀ {A:Around} {s:Shared} {ρ:Rg} {σ:St} {avs:List AV} {vs:List Value} {r:AV} {σ':St} {p:Bool},Φ avs σ=some (r,σ',p)→AOk N A→Inv F s ρ σ→VRs s.heap ρ avs vs→Ok F A [] (call (.builtin "len") vs) s ρ σ' p (VV r)):CallOk F N (.builtin "len") (me Φ) where
 keep:=fun __ __ __ __=>aK
 ok:=fun {A s ρ σ avs vs r σ' p} h hA I rv=>dW (G:=fun vs=>Ok F A [] (call (.builtin "len") vs) s ρ σ' p (VV r)) h rv fun a v ea h ra=>
  jo h (fun x hx h=>al h fun hl e=>by
   have hx:=aX hx
   subst hx
   obtain ⟨t,rfl⟩:=ra
   cases e
   exact P.len_str (fits63 (zC hl) (Int.le_refl _)) (aU I _ ⟨_,rfl⟩)) fun __ h=>
  jo h (fun l hl h=>al h fun hz e=>gd I hl ra fun b us n hv ho hr=>by
   cases e
   subst hv
   exact Calls.call_len_list ⟨_,ho,rfl,_,rfl⟩ (by rw [hr.size];exact zC hz) (aU I _ ⟨s.toks+1,by rw [hr.size]⟩)) fun __ h=>
  jo h (fun d hd h=>al h fun hz e=>ad hd fun j hj hd=>by
   have hj:=bq hj
   subst hj
   cases e
   exact nc I hd ra fun b kvs hv hb hD hr=>by
    subst hv
    have hl:=congrArg List.length hr.1
    rw [List.length_map,List.length_map] at hl
    exact call_len_dict (I.mods hm (List.mem_of_getElem? hb)) hD (by rw [hl];exact zC hz) (aU I _ ⟨s.toks+1,by rw [hl]⟩)) fun __ h=>H h hA I (ea▸⟨ra,trivial⟩)
noncomputable def rF:Fn:=fun avs σ=>Ho (one avs fun a=>(dT a).map fun n=>(.rng 0 n,σ,true)) (Hy avs fun a b=>(dT a).bind fun x=>(dT b).map fun y=>(.rng x y,σ,true))
theorem vK:CallOk F N (.type "range") rF where
 keep:=fun __ __ __ __=>bK
 ok:=fun {A s ρ σ avs vs r σ' p} h hA I rv=>az h (fun h=>dW (G:=fun vs=>Ok F A [] (call (.type "range") vs) s ρ σ' p (VV r)) h rv fun a v __ h ra=>ao h fun n hn e=>by
   have hn:=bl hn
   subst hn
   obtain ⟨t,rfl⟩:=ra
   cases e
   exact call_range_1 (dQ I _ (fun __ __ e=>Heap.get?_push_of_some _ e) ⟨_,_,_,_,rfl,I.new_out (Nat.le_refl _),Heap.get?_push_size _ rfl⟩)) fun h=>
  jn (G:=fun vs=>Ok F A [] (call (.type "range") vs) s ρ σ' p (VV r)) h rv fun a b v u __ h ra rb=>ad h fun x hx h=>ao h fun y hy e=>by
   have hx:=bl hx
   have hy:=bl hy
   subst hx hy
   obtain ⟨t,rfl⟩:=ra
   obtain ⟨t',rfl⟩:=rb
   cases e
   exact call_range_2 (dQ I _ (fun __ __ e=>Heap.get?_push_of_some _ e) ⟨_,_,_,_,rfl,I.new_out (Nat.le_refl _),Heap.get?_push_size _ rfl⟩)
noncomputable def iF (x:UInt64):Option Int:=match Float64.decode x with
 | .fin sg m e=>some (Float64.truncOf sg m e)
 |_=>none
noncomputable def Es:Fn:=fun avs σ=>one avs fun a=>Ho ((p6 a).map fun b=>(.int (if b then 1 else 0),σ,true)) (Ho ((md a).bind fun x=>(iF x).map fun k=>(.int k,σ,true)) ((dT a).map fun i=>(.int i,σ,true)))
theorem Cv:CallOk F N (.type "int") Es where
 keep:=fun __ __ __ __=>bK
 ok:=fun {A s ρ σ avs vs r σ' p} h hA I rv=>dW (G:=fun vs=>Ok F A [] (call (.type "int") vs) s ρ σ' p (VV r)) h rv fun a v __ h ra=>az h (fun h=>ao h fun b hb e=>by
   have hb:=qw hb
   subst hb
   cases ra
   cases e
   exact call_int_bool (aU I _ ⟨_,rfl⟩)) fun h=>az h (fun h=>ad h fun x hx h=>ao h fun k hk e=>by
   have hx:=bL hx
   subst hx
   obtain ⟨t,rfl⟩:=ra
   cases e
   unfold iF at hk
   split at hk
   ·rename_i hd
    cases hk
    exact call_int_float hd (aU I _ ⟨_,rfl⟩)
   ·exact aa hk) fun h=>ao h fun i hi e=>by
   have hi:=bl hi
   subst hi
   obtain ⟨t,rfl⟩:=ra
   cases e
   exact call_int_int ⟨ρ,I,⟨_,rfl⟩,Stp.refl⟩
noncomputable def mf (b:UInt64→UInt64→Bool) (x y z:UInt64):UInt64:=if b y x then (if b z y then z else y) else (if b z x then z else x)
noncomputable def Hz (x y:UInt64):Bool:=Float64.cmp x y==some .gt
noncomputable def BU (x y:UInt64):Bool:=Float64.cmp x y==some .lt
noncomputable def Cw (b:UInt64→UInt64→Bool) (σ:St) (x y z:AV):Option (AV×St×Bool):=(md x).bind fun x=>(md y).bind fun y=>(md z).map fun z=>(.flt (mf b x y z),σ,true)
noncomputable def zD (b:UInt64→UInt64→Bool):Fn:=fun avs σ=>Ho (three avs (Cw b σ)) (one avs fun a=>(ij (bp σ a)).bind fun l=>three l (Cw b σ))
noncomputable abbrev FV:Fn:=zD Hz
noncomputable abbrev FW:Fn:=zD BU
noncomputable def bR (x y z:UInt64) (i:Nat):UInt64:=match i with | 0=>x | 1=>y | _=>z
theorem fD {x y z:UInt64} {t u w:Tok} {i:Nat} {v:Value} (h:(#[Value.float x t,.float y u,.float z w]:Array Value)[i]? = some v):∃ t,v = .float (bR x y z i) t:=by
 match i,h with
 |0,h=>simp at h;exact ⟨_,h.symm⟩
 |1,h=>simp at h;exact ⟨_,h.symm⟩
 |2,h=>simp at h;exact ⟨_,h.symm⟩
 |n+3,h=>simp at h
theorem vM {x y z:UInt64} (b:UInt64→UInt64→Bool):bR x y z (argBest (fun i j=>b (bR x y z i) (bR x y z j)) 2)=mf b x y z:=by
 by_cases h1:b y x=true
 ·by_cases h2:b z y=true
  ·simp [argBest,bR,mf,h1,h2]
  ·simp [argBest,bR,mf,h1,h2]
 ·by_cases h2:b z x=true
  ·simp [argBest,bR,mf,h1,h2]
  ·simp [argBest,bR,mf,h1,h2]
noncomputable abbrev rG (x y z:UInt64) (t u w:Tok):Array Value:=#[Value.float x t,.float y u,.float z w]
theorem nB {x y z:UInt64} {t u w:Tok} {op:CmpOp} {b:UInt64→UInt64→Bool} {h₂:Heap} {J:Addr} {fp:List Addr} {S:Nat→Heap→Prop} (I:Inv F s ρ σ) (hb:∀ {A':Around} {s':Shared} {x y:UInt64} {t u:Tok} {Q:Value→Shared→Prop} {E:Value→Shared→Prop},Q (.bool (b x y)) s'→wpAny (model F.prog F.w) A' (richCompare op (.float x t) (.float y u)) Q E s')
  (W:Walks F.prog F.w A.in1 J fp [J] 3 (fun i v=>(rG x y z t u w)[i]? = some v) S) (st:S 0 h₂) (hf:∀ b∈fp,b < h₂.objs.size) (up:∀ b o,s.heap.get? b=some o→h₂.get? b=some o) (hJ:s.heap.get? J=none) :
  ∃ I' fp wr n P St bt,Value.ref J = .ref I'∧Walks F.prog F.w A.in1 I' fp wr n P St∧St 0 h₂∧(∀ b∈fp,b < h₂.objs.size)∧0 < n∧CmpOf F.prog F.w A.in1 op P bt ∧
   ∀ v h' tk,P (argBest bt (n - 1)) v→(∀ b o,b ∉ wr→h₂.get? b=some o→h'.get? b=some o)→Post F [] ρ s.heap σ true (VV (.flt (mf b x y z))) v { s with heap:=h',toks:=tk }:=by
 refine ⟨J,fp,[J],3,_,S,fun i j=>b (bR x y z i) (bR x y z j),rfl,W,st,hf,by decide,fun i j vi vj s' Q E hi hj hq=>?_,fun v h' tk hP hk=>?_⟩
 ·obtain ⟨t1,rfl⟩:=fD hi
  obtain ⟨t2,rfl⟩:=fD hj
  exact hb hq
 ·have k:∀ d o,s.heap.get? d=some o→h'.get? d=some o:=fun d o e=>hk d o (fun hm=>by rw [List.mem_singleton.mp hm,hJ] at e;cases e) (up d o e)
  have hP':(rG x y z t u w)[argBest (fun i j=>b (bR x y z i) (bR x y z j)) 2]? = some v:=hP
  obtain ⟨t3,rfl⟩:=fD hP'
  exact dQ (fa:=[]) I tk k ⟨t3,by rw [vM]⟩
noncomputable abbrev Cx (F:Fix) (A:Around) (s:Shared) (ρ:Rg) (σ:St) (op:CmpOp) (r:AV) (v:Value) (s':Shared):Prop:=
 wpAny (model F.prog F.w) A.in1 (pyIter v) (fun it s₂=>∃ I' fp wr n P St bt,it = .ref I'∧Walks F.prog F.w A.in1 I' fp wr n P St∧St 0 s₂.heap∧(∀ b∈fp,b < s₂.heap.objs.size)∧0 < n∧CmpOf F.prog F.w A.in1 op P bt ∧
   ∀ v h' tk,P (argBest bt (n - 1)) v→(∀ b o,b ∉ wr→s₂.heap.get? b=some o→h'.get? b=some o)→Post F [] ρ s.heap σ true (VV r) v { s₂ with heap:=h',toks:=tk }) (fun __ __=>False) s'
theorem iG (hh:A.handled=none) {x y z:UInt64} {t u w:Tok} {op:CmpOp} {b:UInt64→UInt64→Bool} (I:Inv F s ρ σ) (hb:∀ {A':Around} {s':Shared} {x y:UInt64} {t u:Tok} {Q:Value→Shared→Prop} {E:Value→Shared→Prop},Q (.bool (b x y)) s'→wpAny (model F.prog F.w) A' (richCompare op (.float x t) (.float y u)) Q E s') :
  Cx F A s ρ σ op (.flt (mf b x y z)) (.ref s.heap.objs.size) { s with heap:=s.heap.push { cls:=.type "tuple", data:=.seq (rG x y z t u w) } }:=by
 have hT:(s.heap.push { cls:=.type "tuple", data:=.seq (rG x y z t u w) }).IsTuple s.heap.objs.size (rG x y z t u w):=⟨_,Heap.get?_push_size _ rfl,rfl,0,rfl⟩
 have hsz:(s.heap.push { cls:=.type "tuple", data:=.seq (rG x y z t u w) }).objs.size=s.heap.objs.size+1:=Heap.size_push ..
 refine wpAny_pyIter_tuple hT (nB I hb (Walks.tuple (A:=A.in1) hh _ s.heap.objs.size (by rw [hsz];exact Nat.ne_of_lt (Nat.lt_succ_self _)) (rG x y z t u w)) ⟨⟨_,Heap.get?_push_size _ rfl,rfl,rfl⟩,hT.push _⟩ (fun d hd=>?_) (fun b o e=>Heap.get?_push_of_some _ (Heap.get?_push_of_some _ e)) (an _ (by rw [hsz];exact Nat.le_succ _)))
 show d < ((s.heap.push _).push _).objs.size
 rw [Heap.size_push]
 rcases List.mem_cons.mp hd with rfl | hd
 ·exact Nat.lt_succ_self _
 ·rw [List.mem_singleton.mp hd,hsz];exact Nat.lt_succ_of_lt (Nat.lt_succ_self _)
theorem kH (hh:A.handled=none) {a:Addr} {m:Nat} {x y z:UInt64} {t u w:Tok} {op:CmpOp} {b:UInt64→UInt64→Bool} (I:Inv F s ρ σ) (hb:∀ {A':Around} {s':Shared} {x y:UInt64} {t u:Tok} {Q:Value→Shared→Prop} {E:Value→Shared→Prop},Q (.bool (b x y)) s'→wpAny (model F.prog F.w) A' (richCompare op (.float x t) (.float y u)) Q E s')
  (ho:s.heap.get? a=some (aD (rG x y z t u w) m)):Cx F A s ρ σ op (.flt (mf b x y z)) (.ref a) s:=by
 have hL:s.heap.IsList a (rG x y z t u w):=⟨_,ho,rfl,_,rfl⟩
 refine wpAny_pyIter_list hL (nB I hb (Walks.list (A:=A.in1) hh _ a (Nat.ne_of_lt (Heap.lt_size ho)) (rG x y z t u w)) ⟨⟨_,Heap.get?_push_size _ rfl,rfl,rfl⟩,hL.push _⟩ (fun d hd=>?_) (fun b o e=>Heap.get?_push_of_some _ e) (an _ (Nat.le_refl _)))
 show d < (s.heap.push _).objs.size
 rw [Heap.size_push]
 rcases List.mem_cons.mp hd with rfl | hd
 ·exact Nat.lt_succ_self _
 ·rw [List.mem_singleton.mp hd];exact Nat.lt_succ_of_lt (Heap.lt_size ho)
theorem yc {b:UInt64→UInt64→Bool} {r:AV} {G:List Value→Prop} (I:Inv F s ρ σ) (h:zD b avs σ=some (r,σ',p)) (rv:VRs s.heap ρ avs vs) (k:∀ x y z t u w,AV.flt (mf b x y z)=r→σ=σ'→true=p→G [.float x t,.float y u,.float z w])
  (k1:∀ a m x y z t u w,AV.flt (mf b x y z)=r→σ=σ'→true=p→s.heap.get? a=some (aD (rG x y z t u w) m)→G [.ref a]):G vs:=
 az h (fun h=>rD h rv fun a b c v u w h ra rb rc=>ad h fun x hx h=>ad h fun y hy h=>ao h fun z hz e=>by
  have hx:=bL hx
  have hy:=bL hy
  have hz:=bL hz
  subst hx hy hz
  obtain ⟨t,rfl⟩:=ra
  obtain ⟨t',rfl⟩:=rb
  obtain ⟨t'',rfl⟩:=rc
  cases e
  exact k _ _ _ _ _ _ rfl rfl rfl) fun h=>dW h rv fun a v __ h ra=>ad h fun l hl h=>gd I hl ra fun d us m hv ho hr=>by
  subst hv
  obtain ⟨us⟩:=us
  refine rD (G:=fun us=>s.heap.get? d=some (aD ⟨us⟩ m)→G [.ref d]) h hr (fun a b c v u w h ra rb rc=>ad h fun x hx h=>ad h fun y hy h=>ao h fun z hz e=>?_) ho
  have hx:=bL hx
  have hy:=bL hy
  have hz:=bL hz
  subst hx hy hz
  obtain ⟨t,rfl⟩:=ra
  obtain ⟨t',rfl⟩:=rb
  obtain ⟨t'',rfl⟩:=rc
  cases e
  exact fun ho=>k1 _ _ _ _ _ _ _ _ rfl rfl rfl ho
theorem Cy:CallOk F N (.builtin "max") FV where
 keep:=fun __ __ __ __=>aK
 ok:=fun {A s ρ σ avs vs r σ' p} h hA I rv=>yc (G:=fun vs=>Ok F A [] (call (.builtin "max") vs) s ρ σ' p (VV r)) I h rv (fun x y z t u w e1 e2 e3=>by
  subst e1 e2 e3
  exact call_max_three (iG (b:=Hz) hA.1 I fun hq=>AutoFloatOps.gt_0 hq)) fun a m x y z t u w e1 e2 e3 ho=>by
  subst e1 e2 e3
  exact call_max_walk (kH (b:=Hz) hA.1 I (fun hq=>AutoFloatOps.gt_0 hq) ho)
theorem Cz:CallOk F N (.builtin "min") FW where
 keep:=fun __ __ __ __=>aK
 ok:=fun {A s ρ σ avs vs r σ' p} h hA I rv=>yc (G:=fun vs=>Ok F A [] (call (.builtin "min") vs) s ρ σ' p (VV r)) I h rv (fun x y z t u w e1 e2 e3=>by
  subst e1 e2 e3
  exact call_min_three (iG (b:=BU) hA.1 I fun hq=>AutoFloatOps.lt_0 hq)) fun a m x y z t u w e1 e2 e3 ho=>by
  subst e1 e2 e3
  exact call_min_walk (kH (b:=BU) hA.1 I (fun hq=>AutoFloatOps.lt_0 hq) ho)
end
end Internal
namespace Internal
section
variable {F:Fix} {N:Nat} {A:Around} {s:Shared} {ρ:Rg} {σ σ':St} {p:Bool} {fa:List Addr} {a:AV} {h:Heap}
theorem VRs.eraseIdx {h:Heap} : ∀ {as:List AV} {vs:List Value} (k:Nat),VRs h ρ as vs→VRs h ρ (as.eraseIdx k) (vs.eraseIdx k)
 | [],[],_,_=>trivial
 |_::_,_::_,0,x=>x.2
 |_::_,_::_,k+1,x=>⟨x.1,VRs.eraseIdx k x.2⟩
 | [],_::_,_,x=>x.elim
 |_::_,[],_,x=>x.elim
theorem dm {vs:Array Value} {k:Nat} (h:k < vs.size):(vs.eraseIdxIfInBounds k).toList=vs.toList.eraseIdx k:=by
 unfold Array.eraseIdxIfInBounds
 rw [dif_pos h,Array.toList_eraseIdx]
noncomputable def ik (σ:St) (a:AV):Option (Nat×List AV):=(ia a).bind fun j=>(aF σ j).map fun l=>(j,l)
theorem jp {v:Value} {q:Nat×List AV} {G:Prop} (I:Inv F s ρ σ) (h:ik σ a=some q) (r:VR s.heap ρ a v) (k:∀ b vs n,v = .ref b→ρ.l[q.1]? = some b→s.heap.get? b=some (aD vs n)→VRs s.heap ρ q.2 vs.toList→G):G:=
 ad h fun j hj h=>ao h fun l hl e=>by
  have hj:=bq hj
  subst hj e
  exact d7 I hl r k
theorem yd (I:Inv F s ρ σ) {j:Nat} {b:Addr} {vs us:Array Value} {n m:Nat} {l:List AV} {h':Heap} (hb:ρ.l[j]? = some b) (ho:s.heap.get? b=some (aD vs n)) (hs:Heap.SameBut b s.heap h') (hn:h'.get? b=some (aD us m)) (r:VRs s.heap ρ l us.toList) (tk:Nat) :
  Inv F { s with heap:=h',toks:=tk } ρ (σ.set j (.lst l))∧∀ fa,Stp fa false ρ s.heap ρ h':=by
 have hk:∀ b' o,b'≠b→s.heap.get? b'=some o→h'.get? b'=some o:=fun b' o hne e=>hs.extBut b' o hne e
 exact I.setObj (i:=j) (o:=.lst l) tk hb hk hn ⟨us,m,hn,VRs.rg (fun b' ob hb' hi e=>⟨hb',hk b' ob (fun q=>hb'.1 (q▸List.mem_of_getElem? hb)) e⟩) (fun __ __ e=>e) l _ r⟩
noncomputable def rH:Fn:=fun avs σ=>Hy avs fun a v=>(ik σ a).bind fun q=>if q.2.length≤Hk then some (.none,σ.set q.1 (.lst (q.2++[v])),false) else none
theorem append_ok:CallOk F N (.builtin "list.append") rH where
 keep:=fun __ __ __ __=>aK
 ok:=fun {A s ρ σ avs vs r σ' p} h hA I rv=>jn (G:=fun vs=>Ok F A [] (call (.builtin "list.append") vs) s ρ σ' p (VV r)) h rv fun a v x y __ h ra rb=>ad h fun q hm h=>al h fun hz e=>jp I hm ra fun b us n hv hb ho hl=>by
  cases e
  subst hv
  refine wpAny_list_append_plain ⟨n,ho⟩ (fun h' hp hs=>?_) (aI (by rw [hl.size];exact hz))
  obtain ⟨m,hn⟩:=hp
  obtain ⟨I',S'⟩:=yd I hb ho hs hn (l:=q.2++[v]) (by rw [Array.toList_push];exact VRs.append hl ⟨rb,trivial⟩) s.toks
  exact ⟨ρ,I',rfl,S' []⟩
noncomputable def CA (σ:St) (q:Nat×List AV) (k:Nat):Option (AV×St×Bool):=(q.2[k]?).map fun x=>(x,σ.set q.1 (.lst (q.2.eraseIdx k)),false)
theorem mh {us:Array Value} {k:Nat} {y:Value} (hy:us[k]? = some y):k < us.size:=(Nat.lt_or_ge k us.size).elim id fun h=>by rw [Array.getElem?_eq_none h] at hy;cases hy
theorem yf (I:Inv F s ρ σ) {q:Nat×List AV} {k:Nat} {b:Addr} {us:Array Value} {n:Nat} {r:AV} {G:Prop} (h:CA σ q k=some (r,σ',p)) (hb:ρ.l[q.1]? = some b) (ho:s.heap.get? b=some (aD us n)) (hl:VRs s.heap ρ q.2 us.toList)
  (g:∀ y,us[k]? = some y→Post F [] ρ s.heap σ' p (VV r) y { s with heap:=s.heap.update b (Obj.mapSeq fun xs=>xs.eraseIdxIfInBounds k) } → G):G:=ao h fun a ha e=>by
 cases e
 obtain ⟨y,hy,hr⟩:=hl.get ha
 have hy:us[k]? = some y:=by simpa using hy
 obtain ⟨m,hn⟩:∃ m,(s.heap.update b (Obj.mapSeq fun xs=>xs.eraseIdxIfInBounds k)).get? b=some (aD (us.eraseIdxIfInBounds k) m):=⟨_,Heap.get?_update_self _ ho rfl⟩
 obtain ⟨I',S'⟩:=yd I hb ho (Heap.SameBut.update ..) hn (l:=q.2.eraseIdx k) (by rw [dm (mh hy)];exact hl.eraseIdx k) s.toks
 exact g y hy ⟨ρ,I',VR.mono (S' []) _ _ hr,S' []⟩
noncomputable def zE:Fn:=fun avs σ=>Ho (one avs fun a=>(ik σ a).bind fun q=>if q.2.length≤Hk then CA σ q (q.2.length - 1) else none)
 (Hy avs fun a i=>(dT i).bind fun k=>(ik σ a).bind fun q=>if q.2.length≤Hk∧k=0 then CA σ q 0 else none)
theorem CB:CallOk F N (.builtin "list.pop") zE where
 keep:=fun __ __ __ __=>aK
 ok:=fun {A s ρ σ avs vs r σ' p} h hA I rv=>az h (fun h=>dW (G:=fun vs=>Ok F A [] (call (.builtin "list.pop") vs) s ρ σ' p (VV r)) h rv fun a v __ h ra=>ad h fun q hm h=>aV h fun hz h=>jp I hm ra fun b us n hv hb ho hl=>yf I h hb ho hl fun y hy P=>by
   subst hv
   rw [←hl.size] at hy P hz
   exact call_meets PySem.F.slot_list_pop ⟨_,ho,rfl⟩ PySem.F.entry_list_pop (PySem.F.args_list_pop_1 _) (PySem.MeetsSeq.list_pop_last b us n y hy (aI hz)) ⟨ho,P⟩) fun h=>
  jn (G:=fun vs=>Ok F A [] (call (.builtin "list.pop") vs) s ρ σ' p (VV r)) h rv fun a i v u __ h ra rb=>ad h fun k hk h=>ad h fun q hm h=>aV h fun hz h=>jp I hm ra fun b us n hv hb ho hl=>yf I h hb ho hl fun y hy P=>by
   have hk:=bl hk
   subst hv hk
   obtain ⟨t,rfl⟩:=rb
   obtain ⟨hz,rfl⟩:=hz
   exact call_meets PySem.F.slot_list_pop ⟨_,ho,rfl⟩ PySem.F.entry_list_pop (PySem.F.args_list_pop_2 _ _) (PySem.MeetsSeq.list_pop_at b us n 0 t 0 y (by decide) (by simp [seqIndex?,mh hy]) hy (aI (by rw [hl.size];exact hz))) ⟨ho,P⟩
noncomputable def mi:Fn:=fun avs σ=>Hy avs fun a b=>B3 a b fun x y=>some (.int ((Builtin.Str.occurrences x y 0 x.length (x.length+1)).length:Nat),σ,true)
theorem rI:CallOk F N (.builtin "str.count") mi where
 keep:=fun __ __ __ __=>aK
 ok:=fun {A s ρ σ avs vs r σ' p} h hA I rv=>jn (G:=fun vs=>Ok F A [] (call (.builtin "str.count") vs) s ρ σ' p (VV r)) h rv fun a b v u __ h ra rb=>m7 (G:=fun v u=>Ok F A [] (call (.builtin "str.count") [v,u]) s ρ σ' p (VV r)) h ra rb fun x y t t' h=>cF h fun e=>by
  cases e
  exact call_gives PySem.F.slot_str_count (typeIs_str _ _ _) PySem.F.entry_str_count (PySem.F.args_str_count_2 _ _) (gives_str_count _ _ _ _) (aU I _ ⟨_,rfl⟩)
noncomputable def iH:List AV→Option (List Str)
 | []=>some []
 |a::r=>(db a).bind fun i=>(iH r).map (i :: ·)
theorem kI:∀ {l:List AV} {xs:List Str} {vs:List Value},iH l=some xs→VRs h ρ l vs→∃ ps:List (Str×Tok),vs=strValues ps∧ps.map (·.1)=xs
 | [],_,[],e,_=>⟨[],rfl,Option.some.inj e▸rfl⟩
 |a::l,xs,v::vs,e,r=>ad e fun i e1 e=>ao e fun ms e2 e3=>by
  have ea:=aX e1
  subst ea e3
  obtain ⟨⟨t,rfl⟩,r⟩:=r
  obtain ⟨ps,rfl,h2⟩:=kI e2 r
  exact ⟨(i,t)::ps,rfl,congrArg (i :: ·) h2⟩
 | [],_,_::_,_,r=>r.elim
 |_::_,_,[],_,r=>r.elim
noncomputable def vN:Fn:=fun avs σ=>Hy avs fun a b=>(db a).bind fun x=>(ij (bp σ b)).bind fun l=>(iH l).bind fun xs=>if JoinOk x xs=true then some (.str (Txt.join x xs),σ,true) else none
theorem zF:CallOk F N (.builtin "str.join") vN where
 keep:=fun __ __ __ __=>aK
 ok:=fun {A s ρ σ avs vs r σ' p} h hA I rv=>jn (G:=fun vs=>Ok F A [] (call (.builtin "str.join") vs) s ρ σ' p (VV r)) h rv fun a b v u __ h ra rb=>ad h fun x hx h=>ad h fun l hl h=>ad h fun xs hs h=>al h fun hj e=>gd I hl rb fun b us n hv ho hr=>by
  have hx:=aX hx
  subst hv hx
  obtain ⟨t,rfl⟩:=ra
  cases e
  obtain ⟨ps,hps,hm⟩:=kI hs hr
  have hus:us=(strValues ps).toArray:=by rw [←hps]
  exact SC.join (l:=ps) ⟨_,ho,rfl,n,by rw [hus]⟩ hm hj fun t' k=>aU I _ ⟨_,rfl⟩
noncomputable def CD (σ:St) (a b:Int):Option (AV×St×Bool):=if a.natAbs < 2 ^ 40∧b.natAbs < 2 ^ 40∧(b - a).toNat≤2 ^ 24 then some (.lst ((List.range (b - a).toNat).map fun (i:Nat)=>AV.int (a+(i:Int))),σ,true) else none
noncomputable def CE:AV→Option (Int×Int)
 | .rng a b=>some (a,b)
 |_=>none
theorem rJ {q:Int×Int} (e:CE a=some q):a = .rng q.1 q.2:=by cases a<;>first | exact aa e | (cases e;rfl)
noncomputable def vO:Fn:=fun avs σ=>one avs fun a=>Ho ((CE a).bind fun q=>CD σ q.1 q.2) ((db a).bind fun x=>if x.cps.size≤Hk then some (.lst (x.cps.toList.map fun c=>.str ⟨#[c]⟩),σ,true) else none)
theorem dn:∀ {as:List AV} {vs:List Value},as.length=vs.length→(∀ (i:Nat) (a:AV) (v:Value),as[i]? = some a→vs[i]? = some v→VR h ρ a v)→VRs h ρ as vs
 | [],[],_,_=>trivial
 |a::as,v::vs,e,k=>⟨k 0 a v rfl rfl,dn (Nat.succ.inj e) fun i a v h1 h2=>k (i+1) a v h1 h2⟩
 | [],_::_,e,_=>nomatch e
 |_::_,[],e,_=>nomatch e
theorem vP {a b:Int} {v:Value} {r:AV} (hA:AOk N A) (I:Inv F s ρ σ) (h:CD σ a b=some (r,σ',p)) (rv:VR s.heap ρ (.rng a b) v):Ok F A [] (call (.type "list") [v]) s ρ σ' p (VV r):=al h fun hc e=>by
 cases e
 obtain ⟨q,t,u,w,rfl,hout,ho⟩:=rv
 obtain ⟨e,hs⟩:=kh ⟨hc.1,hc.2.1⟩
 refine call_list_range hA.1 ho hs e hc.2.2 fun h' tk acc c k hn hi=>?_
 refine dQ I tk k ⟨_,acc,c,rfl,I.new_out (Nat.le_refl _),hn,dn (by simp [hi.1]) fun i av v h1 h2=>?_⟩
 obtain ⟨t1,rfl⟩:=hi.2 i v (by simpa using h2)
 have hlt:i < (b - a).toNat:=(Nat.lt_or_ge i (b - a).toNat).elim id fun h=>by rw [List.getElem?_eq_none (by simpa using h)] at h1;cases h1
 rw [List.getElem?_map,List.getElem?_range hlt] at h1
 cases h1
 exact ⟨t1,by rw [Int.mul_one]⟩
theorem vQ {x:Str} {v:Value} (hA:AOk N A) (I:Inv F s ρ σ) (hc:x.cps.size≤Hk) (rv:VR s.heap ρ (.str x) v):Ok F A [] (call (.type "list") [v]) s ρ σ true (VV (.lst (x.cps.toList.map fun c=>.str ⟨#[c]⟩))):=by
 obtain ⟨t,rfl⟩:=rv
 refine call_list_str hA.1 x t (fun h' tk acc c k hn hi=>?_) (aI hc)
 refine dQ I tk k ⟨_,acc,c,rfl,I.new_out (Nat.le_refl _),hn,dn (by simp [hi.1]) fun i av v h1 h2=>?_⟩
 obtain ⟨ch,t1,hch,rfl⟩:=hi.2 i v (by simpa using h2)
 rw [List.getElem?_map,Array.getElem?_toList,hch] at h1
 cases h1
 exact ⟨t1,rfl⟩
theorem zG:CallOk F N (.type "list") vO where
 keep:=fun __ __ __ __=>bK
 ok:=fun {A s ρ σ avs vs r σ' p} h hA I rv=>dW (G:=fun vs=>Ok F A [] (call (.type "list") vs) s ρ σ' p (VV r)) h rv fun a v __ h ra=>az h (fun h=>ad h fun q hq h=>vP hA I h (rJ hq▸ra)) fun h=>ad h fun x hx h=>al h fun hc e=>by
  cases e
  exact vQ hA I hc (aX hx▸ra)
end
end Internal
namespace Internal
structure SubIt (F:Fix) (i l:Addr) (xs:Array Value) (S:Nat→Heap→Prop):Prop where
 item:∀ {A:Around} {s:Shared} {k:Nat} {x:Value} {Q:Value→Shared→Prop} {E:Value→Shared→Prop},S k s.heap→xs[k]? = some x→(∀ h',S (k+1) h'→Heap.SameBut i s.heap h'→Q x { s with heap:=h' })→wpAny (model F.prog F.w) A (Builtin.SmallTypes.nextOf (.ref i)) Q E s
 stop:∀ {A:Around} {s:Shared} {k:Nat} {Q:Value→Shared→Prop} {E:Value→Shared→Prop},A.handled=none→S k s.heap→xs[k]? = none →
  (∀ h' e,Heap.ExtBut i s.heap h'→(∃ o,h'.get? e=some o∧o.cls = .type "StopIteration")→E (.ref e) { s with heap:=h' })→wpAny (model F.prog F.w) A (Builtin.SmallTypes.nextOf (.ref i)) Q E s
 keep:∀ {k:Nat} {h h':Heap},S k h→(∀ b,b=i∨b=l→∀ o,h.get? b=some o→h'.get? b=some o)→S k h'
 live:∀ {k:Nat} {h:Heap},S k h→∃ o,h.get? i=some o∧Hi o=false
section
variable {F:Fix} {A:Around} {s:Shared} {ρ:Rg} {σ:St}
theorem SubIt.list {i l:Addr} {xs:Array Value} (hne:l≠i):SubIt F i l xs (fun k h=>h.IsListIter i l k∧h.IsList l xs) where
 item:=fun st hx hQ=>wpAny_nextOf_list_item st.1 st.2 hx fun h' a b=>hQ h' ⟨a,st.2.extBut b.extBut hne⟩ b
 stop:=fun hh st hx hE=>wpAny_nextOf_list_end hh st.1 st.2 hx hE
 keep:=fun st k=>⟨st.1.at fun o e=>k _ (.inl rfl) o e,st.2.at fun o e=>k _ (.inr rfl) o e⟩
 live:=fun st=>by
  obtain ⟨⟨o,e,c,d⟩,_⟩:=st
  exact ⟨o,e,by unfold Hi;rw [d,c];rfl⟩
theorem SubIt.tup {i l:Addr} {xs:Array Value} (hne:l≠i):SubIt F i l xs (fun k h=>h.IsTupleIter i l k∧h.IsTuple l xs) where
 item:=fun {A s k x Q E} st hx hQ=>by
  obtain ⟨hit,ht⟩:=st
  obtain ⟨o,ho,hc,hd⟩:=id hit
  obtain ⟨ol,hol,_,nl,hdl⟩:=id ht
  unfold Builtin.SmallTypes.nextOf
  refine wpAny_bind (wpAny_callSpecial?_slot (name:=Str.ofString "__next__") hit.typeIs PySem.F.slot_tuple_iterator_next
   (wpAny_call_entry PySem.F.slot_tuple_iterator_next hit.typeIs PySem.F.entry_tuple_iterator_next ?_ (PySem.F.args_tuple_iterator_next_1 _)))
  show wpAny _ _ (field (.ref i) 0 >>= _) _ _ s
  refine wpAny_bind (wpAny_field ho hd (x:=.ref l) rfl ?_)
  show wpAny _ _ (if (Value.ref l==Value.none)=true then _ else _) _ _ s
  rw [if_neg (show ¬ ((Value.ref l==Value.none)=true) from Bool.false_ne_true)]
  show wpAny _ _ (field (.ref i) 1 >>= _) _ _ s
  refine wpAny_bind (wpAny_field ho hd (x:=.int k 0) rfl ?_)
  show wpAny _ _ (seqItems? (.ref l) >>= _) _ _ s
  refine wpAny_bind (wpAny_seqItems hol hdl ?_)
  simp only [Int.toNat_natCast,hx]
  have hs:Heap.SameBut i s.heap (s.heap.update i (Obj.mapFields (·.setIfInBounds 1 (rawInt (k+1))))):=Heap.SameBut.update ..
  refine wpAny_bind (wpAny_setField ho hd (by simp) (wpAny_pure ⟨x,rfl,wpAny_pure (hQ _ ⟨?_,ht.extBut hs.extBut hne⟩ hs)⟩))
  exact ⟨_,Heap.get?_update_self _ ho (Obj.isFreed_of_fields (Obj.data_mapFields hd _)),(Obj.cls_mapFields ..).trans hc,by rw [Obj.data_mapFields hd];simp [rawInt]⟩
 stop:=fun {A s k Q E} hh st hx hE=>by
  obtain ⟨hit,ht⟩:=st
  obtain ⟨o,ho,hc,hd⟩:=id hit
  obtain ⟨ol,hol,_,nl,hdl⟩:=id ht
  unfold Builtin.SmallTypes.nextOf
  refine wpAny_bind (wpAny_callSpecial?_slot (name:=Str.ofString "__next__") hit.typeIs PySem.F.slot_tuple_iterator_next
   (wpAny_call_entry PySem.F.slot_tuple_iterator_next hit.typeIs PySem.F.entry_tuple_iterator_next ?_ (PySem.F.args_tuple_iterator_next_1 _)))
  show wpAny _ _ (field (.ref i) 0 >>= _) _ _ s
  refine wpAny_bind (wpAny_field ho hd (x:=.ref l) rfl ?_)
  show wpAny _ _ (if (Value.ref l==Value.none)=true then _ else _) _ _ s
  rw [if_neg (show ¬ ((Value.ref l==Value.none)=true) from Bool.false_ne_true)]
  show wpAny _ _ (field (.ref i) 1 >>= _) _ _ s
  refine wpAny_bind (wpAny_field ho hd (x:=.int k 0) rfl ?_)
  show wpAny _ _ (seqItems? (.ref l) >>= _) _ _ s
  refine wpAny_bind (wpAny_seqItems hol hdl ?_)
  simp only [Int.toNat_natCast,hx]
  refine wpAny_bind (wpAny_rule (wpAny_bind (wpAny_setField ho hd (by simp) ?_)))
  show wpAny _ _ (newExc (.type "StopIteration") [] >>= _) _ _ _
  refine wpAny_bind ?_
  simp only [newExc,newTuple]
  refine wpAny_bind (wpAny_newObj_type ?_ (by size_fits))
  refine wpAny_bind (m:=firstArgMember _ _) (wpAny_of_eq (a:=Value.none) (by first | rfl | (simp only [firstArgMember];rfl)) ?_)
  refine wpAny_newObj_type ?_ (by size_fits)
  simp only [raiseNew]
  refine wpAny_bind (wpAny_handled ?_)
  rw [show A.in1.handled=none from hh]
  refine wpAny_bind (wpAny_pure (wpAny_throw ?_))
  exact hE _ _ (((Heap.SameBut.update ..).extBut.push _).push _) ⟨_,Heap.get?_push_size _ rfl,rfl⟩
 keep:=fun st k=>⟨st.1.at fun o e=>k _ (.inl rfl) o e,st.2.at fun o e=>k _ (.inr rfl) o e⟩
 live:=fun st=>by
  obtain ⟨⟨o,e,c,d⟩,_⟩:=st
  exact ⟨o,e,by unfold Hi;rw [d,c];rfl⟩
structure Zg (z TI TO i1 i2:Addr) (S1 S2:Nat→Heap→Prop) (h₀:Heap) (f0:Value) (k1 k2:Nat) (a b:Value) (h:Heap):Prop where
 zip:IsZip h z TI TO f0
 to:IsPair h TO a b
 s1:S1 k1 h
 s2:S2 k2 h
 size:h.objs.size=h₀.objs.size
 kept:∀ c o,c≠z→c≠TO→c≠i1→c≠i2→h₀.get? c=some o→h.get? c=some o
section
variable {z TI TO i1 i2 l1 l2:Addr} {k k1 k2:Nat} {xs ys:Array Value} {S1 S2:Nat→Heap→Prop} {f0 g0 a b a' b':Value} {h₀ h h':Heap}
theorem Zg.onZip (X:Zg z TI TO i1 i2 S1 S2 h₀ f0 k1 k2 a b h) (D:ZipApart z TI TO i1 i2 l1 l2) (W1:SubIt F i1 l1 xs S1) (W2:SubIt F i2 l2 ys S2) (e:IsZip h' z TI TO g0) (hs:Heap.SameBut z h h'):Zg z TI TO i1 i2 S1 S2 h₀ g0 k1 k2 a b h':=
 ⟨e,hs.extBut _ _ D.TOz X.to,W1.keep X.s1 fun __ hb o=>hs.extBut _ o (hb.elim (· ▸ D.i1z) (· ▸ D.l1z)),W2.keep X.s2 fun __ hb o=>hs.extBut _ o (hb.elim (· ▸ D.i2z) (· ▸ D.l2z)),hs.1.trans X.size,fun c o n1 n2 n3 n4 e=>hs.extBut c o n1 (X.kept c o n1 n2 n3 n4 e)⟩
theorem Zg.onPair (X:Zg z TI TO i1 i2 S1 S2 h₀ f0 k1 k2 a b h) (D:ZipApart z TI TO i1 i2 l1 l2) (W1:SubIt F i1 l1 xs S1) (W2:SubIt F i2 l2 ys S2) (e:IsPair h' TO a' b') (hs:Heap.SameBut TO h h'):Zg z TI TO i1 i2 S1 S2 h₀ f0 k1 k2 a' b' h':=
 ⟨hs.extBut _ _ D.TOz.symm X.zip,e,W1.keep X.s1 fun __ hb o=>hs.extBut _ o (hb.elim (· ▸ D.TOi1.symm) (· ▸ D.l1TO)),W2.keep X.s2 fun __ hb o=>hs.extBut _ o (hb.elim (· ▸ D.TOi2.symm) (· ▸ D.l2TO)),hs.1.trans X.size,fun c o n1 n2 n3 n4 e=>hs.extBut c o n2 (X.kept c o n1 n2 n3 n4 e)⟩
theorem Zg.onOne (X:Zg z TI TO i1 i2 S1 S2 h₀ f0 k1 k2 a b h) (D:ZipApart z TI TO i1 i2 l1 l2) (W2:SubIt F i2 l2 ys S2) (e:S1 (k1+1) h') (hs:Heap.SameBut i1 h h'):Zg z TI TO i1 i2 S1 S2 h₀ f0 (k1+1) k2 a b h':=
 ⟨hs.extBut _ _ D.i1z.symm X.zip,hs.extBut _ _ D.TOi1 X.to,e,W2.keep X.s2 fun __ hb o=>hs.extBut _ o (hb.elim (· ▸ D.i12.symm) (· ▸ D.l2i1)),hs.1.trans X.size,fun c o n1 n2 n3 n4 e=>hs.extBut c o n3 (X.kept c o n1 n2 n3 n4 e)⟩
theorem Zg.onTwo (X:Zg z TI TO i1 i2 S1 S2 h₀ f0 k1 k2 a b h) (D:ZipApart z TI TO i1 i2 l1 l2) (W1:SubIt F i1 l1 xs S1) (e:S2 (k2+1) h') (hs:Heap.SameBut i2 h h'):Zg z TI TO i1 i2 S1 S2 h₀ f0 k1 (k2+1) a b h':=
 ⟨hs.extBut _ _ D.i2z.symm X.zip,hs.extBut _ _ D.TOi2 X.to,W1.keep X.s1 fun __ hb o=>hs.extBut _ o (hb.elim (· ▸ D.i12) (· ▸ D.l1i2)),e,hs.1.trans X.size,fun c o n1 n2 n3 n4 e=>hs.extBut c o n4 (X.kept c o n1 n2 n3 n4 e)⟩
theorem nC {i:Addr} {E:Value→Shared→Prop} (hi:i=i1∨i=i2) (X:Zg z TI TO i1 i2 S1 S2 h₀ f0 k1 k2 a b h) (D:ZipApart z TI TO i1 i2 l1 l2) {e:Addr} {s:Shared} (hs:Heap.ExtBut i h s.heap) (he:∃ o,s.heap.get? e=some o∧o.cls = .type "StopIteration")
  (hE:∀ h',(∀ c o,c≠z→c≠TO→c≠i1→c≠i2→h₀.get? c=some o→h'.get? c=some o)→(∃ o,h'.get? e=some o∧o.cls = .type "StopIteration")→E (.ref e) { s with heap:=h' }):wpAny (model F.prog F.w) A (setField (.ref z) 0 .none) (fun __=>E (.ref e)) E s:=by
 obtain ⟨o,ho,hc⟩:=he
 have hz:IsZip s.heap z TI TO f0:=hs _ _ (hi.elim (· ▸ D.i1z.symm) (· ▸ D.i2z.symm)) X.zip
 have ne:e≠z:=fun q=>by
  rw [q,hz] at ho
  cases ho
  exact absurd hc (by simp)
 exact wpAny_setField_rec hz (by simp) fun h' __ hs'=>hE h' (fun c oc n1 n2 n3 n4 ec=>hs'.extBut _ _ n1 (hs _ _ (hi.elim (· ▸ n3) (· ▸ n4)) (X.kept c oc n1 n2 n3 n4 ec))) ⟨o,hs'.extBut _ _ ne ho,hc⟩
theorem vR {x y:Value} {s:Shared} {Q:Unit→Shared→Prop} {E:Value→Shared→Prop} (X:Zg z TI TO i1 i2 S1 S2 h₀ f0 k1 k2 x y s.heap) (D:ZipApart z TI TO i1 i2 l1 l2) (W1:SubIt F i1 l1 xs S1) (W2:SubIt F i2 l2 ys S2)
  (hQ:∀ h',IsZip h' z TI TO (rawInt h₀.objs.size)→IsPair h' TO x y→S1 k1 h'→S2 k2 h'→IsPair h' h₀.objs.size x y→(∀ c o,c≠z→c≠TO→c≠i1→c≠i2→h₀.get? c=some o→h'.get? c=some o)→Q () { s with heap:=h' }) :
  wpAny (model F.prog F.w) A (Builtin.SmallTypes.ownedTupleHandOut (.ref z) (.ref h₀.objs.size)) Q E { s with heap:=s.heap.push { cls:=.type "tuple", data:=.seq #[x,y] } }:=by
 have up:∀ {c:Addr} {o:Obj},s.heap.get? c=some o→(s.heap.push { cls:=.type "tuple", data:=.seq #[x,y] }).get? c=some o:=fun e=>Heap.get?_push_of_some _ e
 have hT:IsPair (s.heap.push { cls:=.type "tuple", data:=.seq #[x,y] }) h₀.objs.size x y:=X.size▸Heap.get?_push_size _ rfl
 have ne:h₀.objs.size≠z:=X.size▸Nat.ne_of_gt (Heap.lt_size X.zip)
 unfold Builtin.SmallTypes.ownedTupleHandOut
 refine wpAny_bind (wpAny_setField_rec (up X.zip) (by simp) fun h₁ (e₁:IsZip h₁ z TI TO (rawInt h₀.objs.size)) s₁=>wpAny_setField_rec e₁ (by simp) fun h₂ (e₂:IsZip h₂ z TI TO (rawInt h₀.objs.size)) s₂=>?_)
 have to:∀ {c:Addr} {o:Obj},c≠z→(s.heap.push { cls:=.type "tuple", data:=.seq #[x,y] }).get? c=some o→h₂.get? c=some o:=fun n e=>s₂.extBut _ _ n (s₁.extBut _ _ n e)
 exact hQ h₂ e₂ (to D.TOz (up X.to)) (W1.keep X.s1 fun __ hb __ e=>to (hb.elim (· ▸ D.i1z) (· ▸ D.l1z)) (up e)) (W2.keep X.s2 fun __ hb __ e=>to (hb.elim (· ▸ D.i2z) (· ▸ D.l2z)) (up e)) (to ne hT) fun c o n1 n2 n3 n4 e=>to n1 (up (X.kept c o n1 n2 n3 n4 e))
theorem nE {Q:Fin→Shared→Prop} {E:Value→Shared→Prop} (hh:A.handled=none) (D:ZipApart z TI TO i1 i2 l1 l2) (W1:SubIt F i1 l1 xs S1) (W2:SubIt F i2 l2 ys S2) (hTI:IsPair s.heap TI (.ref i1) (.ref i2)) (X:Zg z TI TO i1 i2 S1 S2 s.heap .none k k a b s.heap)
  (hQ:∀ x y h',xs[k]? = some x→ys[k]? = some y→IsZip h' z TI TO (rawInt s.heap.objs.size)→IsPair h' TO x y→S1 (k+1) h'→S2 (k+1) h'→IsPair h' s.heap.objs.size x y→(∀ c o,c≠z→c≠TO→c≠i1→c≠i2→s.heap.get? c=some o→h'.get? c=some o)→Q (.done (.ret (.ref s.heap.objs.size))) { s with heap:=h' })
  (hE:∀ h' e,(xs[k]? = none∨ys[k]? = none)→(∀ c o,c≠z→c≠TO→c≠i1→c≠i2→s.heap.get? c=some o→h'.get? c=some o)→(∃ o,h'.get? e=some o∧o.cls = .type "StopIteration")→E (.ref e) { s with heap:=h' }) :
  wpAny (model F.prog F.w) A (Builtin.«zip.__next__» ⟨[.ref z],[]⟩) Q E s:=by
 refine wpAny_bind (m:=field (.ref z) 2) (wpAny_field X.zip rfl (x:=.bool false) rfl ?_)
 refine wpAny_bind (m:=field (.ref z) 3) (wpAny_field X.zip rfl (x:=.ref TI) rfl (wpAny_bind (wpAny_seqItems hTI rfl ?_)))
 refine wpAny_bind (m:=Builtin.SmallTypes.ownedTupleIsFree (.ref z)) (wpAny_bind (m:=field (.ref z) 0) (wpAny_field X.zip rfl (x:=.none) rfl (wpAny_pure ?_)))
 simp only [if_true]
 refine wpAny_bind (wpAny_rule (wpAny_bind (wpAny_field X.zip rfl (x:=.ref TO) rfl (wpAny_bind (wpAny_setField_rec X.zip (by simp) fun h₁ (e₁:IsZip h₁ z TI TO .ellipsis) hs₁=>?_)))))
 have X₁:=X.onZip D W1 W2 e₁ hs₁
 refine wpAny_bind ?_
 simp only [List.zipIdx_cons,List.zipIdx_nil,List.forIn_cons,List.forIn_nil]
 refine wpAny_bind (wpAny_bind (wpAny_onRaise (wpAny_bind (m:=Builtin.SmallTypes.nextOf (.ref i1)) ?_)))
 cases hx:xs[k]? with
 |none=>exact W1.stop hh X₁.s1 hx fun h₂ e hs₂ he=>nC (s:={ s with heap:=h₂ }) (.inl rfl) X₁ D hs₂ he fun h' kp st=>hE h' e (.inl hx) kp st
 |some x=>
  refine W1.item X₁.s1 hx fun h₂ n₂ hs₂=>wpAny_pure ?_
  have X₂:=X₁.onOne D W2 n₂ hs₂
  refine wpAny_bind (wpAny_seqItems X₂.to rfl (wpAny_bind (wpAny_updateSeq_pair X₂.to fun h₃ (e₃:IsPair h₃ TO x b) hs₃=>wpAny_bind (wpAny_letGo (wpAny_pure ?_)))))
  have X₃:=X₂.onPair D W1 W2 e₃ hs₃
  refine wpAny_bind (wpAny_bind (wpAny_onRaise (wpAny_bind (m:=Builtin.SmallTypes.nextOf (.ref i2)) ?_)))
  cases hy:ys[k]? with
  |none=>exact W2.stop hh X₃.s2 hy fun h₄ e hs₄ he=>nC (s:={ s with heap:=h₄ }) (.inr rfl) X₃ D hs₄ he fun h' kp st=>hE h' e (.inr hy) kp st
  |some y=>
   refine W2.item X₃.s2 hy fun h₄ n₄ hs₄=>wpAny_pure ?_
   have X₄:=X₃.onTwo D W1 n₄ hs₄
   refine wpAny_bind (wpAny_seqItems X₄.to rfl (wpAny_bind (wpAny_updateSeq_pair X₄.to fun h₅ (e₅:IsPair h₅ TO x y) hs₅=>wpAny_bind (wpAny_letGo (wpAny_pure (wpAny_pure ?_))))))
   have X₅:=X₄.onPair D W1 W2 e₅ hs₅
   refine wpAny_bind (wpAny_seqItems X₅.to rfl (wpAny_bind (wpAny_newTuple ?_)))
   have give:=vR (s:={ s with heap:=h₅ }) (A:=A) (E:=E) (Q:=fun __ s'=>Q (.done (.ret (.ref s.heap.objs.size))) s') X₅ D W1 W2 fun h' b1 b2 b3 b4 b5 b6=>hQ x y h' hx hy b1 b2 b3 b4 b5 b6
   show wpAny _ _ (Builtin.SmallTypes.ownedTupleHandOut (.ref z) (.ref h₅.objs.size) >>= _) _ _ _
   rw [show h₅.objs.size=s.heap.objs.size from X₅.size]
   exact wpAny_bind (wpAny_mono give (fun __ s' q=>wpAny_pure q) fun __ __ q=>q)
end
end
end Internal
namespace Internal
noncomputable abbrev HA (T:String) (h:Heap) (l:Addr):Heap:=h.push { cls:=.type T,data:=.fields #[.ref l,.int 0 0] }
noncomputable abbrev HB (T U:String) (h:Heap) (l m:Addr):Heap:=HA U (HA T h l) m
noncomputable abbrev HC (T U:String) (h:Heap) (l m:Addr):Heap:=(HB T U h l m).push { cls:=.type "tuple", data:=.seq #[.ref h.objs.size,.ref (HA T h l).objs.size] }
noncomputable abbrev HD (T U:String) (h:Heap) (l m:Addr):Heap:=(HC T U h l m).push { cls:=.type "tuple", data:=.seq #[.none,.none] }
noncomputable abbrev HE (T U:String) (h:Heap) (l m:Addr):Heap:=(HD T U h l m).push { cls:=.type "zip", data:=.fields #[.none,.bool false,.bool false,.ref (HB T U h l m).objs.size,.ref (HC T U h l m).objs.size] }
theorem dX (l1 l2:Addr) (xs ys:Array Value) :
  Meets (Builtin.«zip.__new__» ⟨[.type "zip", .ref l1,.ref l2],[]⟩) (fun __ R s=>s.heap.IsTuple l1 xs∧s.heap.IsList l2 ys ∧
   R (.ok (.ret (.ref (HD "tuple_iterator" "list_iterator" s.heap l1 l2).objs.size))) { s with heap:=HE "tuple_iterator" "list_iterator" s.heap l1 l2 }):=
 .of_wp fun prog w A R s h=>by
  obtain ⟨hp,g,d,tk,os⟩:=s;obtain ⟨hl1,hl2,h⟩:=h
  have hsub:=sub_zip
  have hL1:Heap.IsTuple (Shared.heap ⟨hp,g,d,tk,os⟩) l1 xs:=hl1
  have hL2:Heap.IsList (Shared.heap ⟨hp.push { cls:=.type "tuple_iterator", data:=.fields #[.ref l1,.int 0 0] },g,d,tk,os⟩) l2 ys:=Heap.IsList.push hl2 _
  wp_walk using wpAny_pyIter_tuple hL1,wpAny_pyIter_list hL2
  exact ⟨_,rfl,h⟩
theorem gQ (l1 l2:Addr) (xs ys:Array Value) :
  Meets (Builtin.«zip.__new__» ⟨[.type "zip", .ref l1,.ref l2],[]⟩) (fun __ R s=>s.heap.IsList l1 xs∧s.heap.IsList l2 ys ∧
   R (.ok (.ret (.ref (HD "list_iterator" "list_iterator" s.heap l1 l2).objs.size))) { s with heap:=HE "list_iterator" "list_iterator" s.heap l1 l2 }):=
 .of_wp fun prog w A R s h=>by
  obtain ⟨hp,g,d,tk,os⟩:=s;obtain ⟨hl1,hl2,h⟩:=h
  have hsub:=sub_zip
  have hL1:Heap.IsList (Shared.heap ⟨hp,g,d,tk,os⟩) l1 xs:=hl1
  have hL2:Heap.IsList (Shared.heap ⟨hp.push { cls:=.type "list_iterator", data:=.fields #[.ref l1,.int 0 0] },g,d,tk,os⟩) l2 ys:=Heap.IsList.push hl2 _
  wp_walk using wpAny_pyIter_list hL1,wpAny_pyIter_list hL2
  exact ⟨_,rfl,h⟩
section
variable {F:Fix} {A:Around} {s:Shared} {ρ:Rg} {σ:St}
theorem bM {T U:String} {h:Heap} {l1 l2:Addr} :
  (HD T U h l1 l2).objs.size=h.objs.size+4∧IsZip (HE T U h l1 l2) (h.objs.size+4) (h.objs.size+2) (h.objs.size+3) .none∧IsPair (HE T U h l1 l2) (h.objs.size+2) (.ref h.objs.size) (.ref (h.objs.size+1)) ∧
  IsPair (HE T U h l1 l2) (h.objs.size+3) .none .none∧(HE T U h l1 l2).get? h.objs.size=some { cls:=.type T,data:=.fields #[.ref l1,.int 0 0] } ∧
  (HE T U h l1 l2).get? (h.objs.size+1)=some { cls:=.type U,data:=.fields #[.ref l2,.int 0 0] } ∧ ∀ c o,h.get? c=some o→(HE T U h l1 l2).get? c=some o:=by
 have z1:(HA T h l1).objs.size=h.objs.size+1:=Heap.size_push ..
 have z2:(HB T U h l1 l2).objs.size=h.objs.size+2:=by rw [Heap.size_push,z1]
 have z3:(HC T U h l1 l2).objs.size=h.objs.size+3:=by rw [Heap.size_push,z2]
 have z4:(HD T U h l1 l2).objs.size=h.objs.size+4:=by rw [Heap.size_push,z3]
 have g5:(HE T U h l1 l2).get? (HD T U h l1 l2).objs.size=some _:=Heap.get?_push_size _ rfl
 have g4:(HE T U h l1 l2).get? (HC T U h l1 l2).objs.size=some _:=Heap.get?_push_of_some _ (Heap.get?_push_size _ rfl)
 have g3:(HE T U h l1 l2).get? (HB T U h l1 l2).objs.size=some _:=Heap.get?_push_of_some _ (Heap.get?_push_of_some _ (Heap.get?_push_size _ rfl))
 have g2:(HE T U h l1 l2).get? (HA T h l1).objs.size=some _:=Heap.get?_push_of_some _ (Heap.get?_push_of_some _ (Heap.get?_push_of_some _ (Heap.get?_push_size _ rfl)))
 have g1:(HE T U h l1 l2).get? h.objs.size=some _:=Heap.get?_push_of_some _ (Heap.get?_push_of_some _ (Heap.get?_push_of_some _ (Heap.get?_push_of_some _ (Heap.get?_push_size _ rfl))))
 rw [z2,z3,z4] at g5
 rw [z1,z2] at g3
 rw [z3] at g4
 rw [z1] at g2
 exact ⟨z4,g5,g3,g4,g1,g2,fun c o x=>Heap.get?_push_of_some _ (Heap.get?_push_of_some _ (Heap.get?_push_of_some _ (Heap.get?_push_of_some _ (Heap.get?_push_of_some _ x))))⟩
structure ZipSt (z TI TO i1 i2:Addr) (S1 S2:Nat→Heap→Prop) (k:Nat) (h:Heap):Prop where
 zip:IsZip h z TI TO .none
 ti:IsPair h TI (.ref i1) (.ref i2)
 to:∃ a b,IsPair h TO a b
 s1:S1 k h
 s2:S2 k h
theorem Et {a b c d x:Addr} {P:Addr→Prop} (h:x∈[a,b,c,d]) (pa:P a) (pb:P b) (pc:P c) (pd:P d):P x:=by
 rcases List.mem_cons.mp h with rfl | h
 ·exact pa
 rcases List.mem_cons.mp h with rfl | h
 ·exact pb
 rcases List.mem_cons.mp h with rfl | h
 ·exact pc
 rcases List.mem_cons.mp h with rfl | h
 ·exact pd
 cases h
theorem nF {a b c d x:Addr} (h:x ∉ [a,b,c,d]):x≠a∧x≠b∧x≠c∧x≠d:=
 ⟨fun e=>h (e ▸ .head _),fun e=>h (e ▸ .tail _ (.head _)),fun e=>h (e ▸ .tail _ (.tail _ (.head _))),fun e=>h (e ▸ .tail _ (.tail _ (.tail _ (.head _))))⟩
section
variable {z TI TO i1 i2 l1 l2:Addr} {us ws:Array Value} {S1 S2:Nat→Heap→Prop} {k:Nat} {h h':Heap} {xs ys:List AV}
theorem ZipSt.imm (W1:SubIt F i1 l1 us S1) (W2:SubIt F i2 l2 ws S2) (X:ZipSt z TI TO i1 i2 S1 S2 k h) {b:Addr} (hb:b∈[z,TO,i1,i2]):∃ o,h.get? b=some o∧(b∈[TO]∨Hi o=false):=
 Et (P:=fun b=>∃ o,h.get? b=some o∧(b∈[TO]∨Hi o=false)) hb ⟨_,X.zip,.inr rfl⟩ (let ⟨a,b,e⟩:=X.to;⟨_,e,.inl (List.mem_singleton.mpr rfl)⟩) (let ⟨o,e,hi⟩:=W1.live X.s1;⟨o,e,.inr hi⟩) (let ⟨o,e,hi⟩:=W2.live X.s2;⟨o,e,.inr hi⟩)
theorem ZipSt.keep (W1:SubIt F i1 l1 us S1) (W2:SubIt F i2 l2 ws S2) (X:ZipSt z TI TO i1 i2 S1 S2 k h) (hk:∀ b∈[z,TI,TO,i1,i2,l1,l2],∀ o,h.get? b=some o→h'.get? b=some o):ZipSt z TI TO i1 i2 S1 S2 k h':=
 ⟨hk z (.head _) _ X.zip,hk TI (.tail _ (.head _)) _ X.ti,let ⟨a,b,e⟩:=X.to;⟨a,b,hk TO (.tail _ (.tail _ (.head _))) _ e⟩,
  W1.keep X.s1 fun b hb o e=>hk b (by rcases hb with rfl | rfl<;>simp) o e,W2.keep X.s2 fun b hb o e=>hk b (by rcases hb with rfl | rfl<;>simp) o e⟩
theorem CF {av:AV} (hi:(gx xs ys)[k]? = some av) {G:Prop} (g:∀ a1 a2,xs[k]? = some a1→ys[k]? = some a2 → .tup [a1,a2]=av→G):G:=by
 unfold gx at hi
 rw [List.getElem?_map,Option.map_eq_some_iff] at hi
 obtain ⟨q,hp,e⟩:=hi
 have hp:=List.getElem?_zip_eq_some.mp hp
 exact g _ _ hp.1 hp.2 e
theorem vT {g:Heap} {ρg:Rg} (r1:VRs g ρg xs us.toList) (r2:VRs g ρg ys ws.toList):us[(gx xs ys).length]? = none∨ws[(gx xs ys).length]? = none:=by
 have e:(gx xs ys).length=min us.size ws.size:=by unfold gx;rw [List.length_map,List.length_zip,r1.size,r2.size]
 rw [e]
 exact (Nat.le_total us.size ws.size).imp (fun h=>by rw [Nat.min_eq_left h];exact Array.getElem?_eq_none (Nat.le_refl _)) fun h=>by rw [Nat.min_eq_right h];exact Array.getElem?_eq_none (Nat.le_refl _)
noncomputable abbrev CG (Q:Option Value→Shared→Prop) (e:Value) (s:Shared):Prop:=∃ a o,e = .ref a∧s.heap.get? a=some o∧o.cls = .type "StopIteration" ∧ Q none s
theorem nG {Q:Option Value→Shared→Prop} (hz:IsZip s.heap z TI TO .none) (h:wpAny (model F.prog F.w) A.in1 (Builtin.«zip.__next__» ⟨[.ref z],[]⟩) (fun fin s'=>∃ v,fin = .done (.ret v)∧Q (some v) s') (CG Q) s):wp F A (pyNext (.ref z)) s Q:=by
 have hT:s.TypeIs (.ref z) "zip" := ⟨_,hz,rfl⟩
 show wpAny _ _ _ _ _ _
 unfold pyNext
 refine wpAny_bind (wpAny_attempt (wpAny_callSpecial?_slot (name:=Str.ofString "__next__") hT PySem.F.slot_zip_next
  (wpAny_call_entry PySem.F.slot_zip_next hT PySem.F.entry_zip_next ?_ (PySem.F.args_zip_next_1 _))))
 refine wpAny_mono h (fun fin s' ⟨v,e,q⟩=>⟨v,e,wpAny_pure q⟩) fun e s' ⟨a,o,ea,ho,hc,q⟩=>?_
 subst ea
 exact wpAny_bind (wpAny_isInstance (T := "StopIteration") (b:=true) ⟨o,ho,hc⟩ isSubtype_stop (wpAny_pure q))
theorem rK {t:Expr} {Q':Unit→Shared→Prop} {a1 a2:AV} {x y:Value} (D:ZipApart z TI TO i1 i2 l1 l2) (W1:SubIt F i1 l1 us S1) (W2:SubIt F i2 l2 ws S2) (ht:gw t=true) (X:ZipSt z TI TO i1 i2 S1 S2 k s.heap) (hout:∀ b,s.heap.get? b=none→ρ.out b) (hsh:∀ b∈[TO],b∈ρ.x)
  (rx:VR s.heap ρ a1 x) (ry:VR s.heap ρ a2 y) (hz:IsZip h' z TI TO (rawInt s.heap.objs.size)) (hTO:IsPair h' TO x y) (h1:S1 (k+1) h') (h2:S2 (k+1) h') (hp:IsPair h' s.heap.objs.size x y) (hk:∀ c o,c≠z→c≠TO→c≠i1→c≠i2→s.heap.get? c=some o→h'.get? c=some o)
  (hQ:∀ h' tk,VR h' ρ (.tup [a1,a2]) (.ref s.heap.objs.size)→ZipSt z TI TO i1 i2 S1 S2 (k+1) h'→(∀ b o,b ∉ [z,TO,i1,i2]→s.heap.get? b=some o→h'.get? b=some o)→Q' () { s with heap:=h',toks:=tk }):wp F A (letOwnedTupleGo t (.ref z) (.ref s.heap.objs.size)) { s with heap:=h' } Q':=by
 cases t with
 |Tuple es k' p'=>
  refine wpAny_letOwnedTupleGo_zip hz fun h'' hz'' hs''=>?_
  have kk:∀ c o,c ∉ [z,TO,i1,i2]→s.heap.get? c=some o→h''.get? c=some o:=fun c o hc e=>have ⟨c1,c2,c3,c4⟩:=nF hc;hs''.extBut _ _ c1 (hk c o c1 c2 c3 c4 e)
  have hw:∀ b∈[z,TO,i1,i2],(b∈ρ.x)∨∃ o,s.heap.get? b=some o∧Hi o=false:=fun b hb=>let ⟨o,e,h⟩:=X.imm W1 W2 hb;h.imp (hsh b) fun h=>⟨o,e,h⟩
  exact hQ h'' s.toks ⟨s.heap.objs.size,#[x,y],0,rfl,hout _ (an _ (Nat.le_refl _)),hs''.extBut _ _ (Nat.ne_of_gt (Heap.lt_size X.zip)) hp,VR.pokeL hw kk rx,VR.pokeL hw kk ry,trivial⟩
   ⟨hz'',hs''.extBut _ _ D.TIz (hk _ _ D.TIz D.TITO D.TIi1 D.TIi2 X.ti),⟨x,y,hs''.extBut _ _ D.TOz hTO⟩,W1.keep h1 fun b hb o e=>hs''.extBut b o (by rcases hb with rfl | rfl;exact D.i1z;exact D.l1z) e,W2.keep h2 fun b hb o e=>hs''.extBut b o (by rcases hb with rfl | rfl;exact D.i2z;exact D.l2z) e⟩ kk
 |_=>exact nomatch ht
theorem zH {g:Heap} {ρg:Rg} {t:Expr} (ht:gw t=true) (hh:A.handled=none) (D:ZipApart z TI TO i1 i2 l1 l2) (W1:SubIt F i1 l1 us S1) (W2:SubIt F i2 l2 ws S2) (r1:VRs g ρg xs us.toList) (r2:VRs g ρg ys ws.toList) :
  Src F A z [z,TI,TO,i1,i2,l1,l2] [z,TO,i1,i2] [TO] g ρg (gx xs ys) (ZipSt z TI TO i1 i2 S1 S2) t where
 sub:=fun b hb=>Et (P:=fun b=>b∈[z,TI,TO,i1,i2,l1,l2]) hb (.head _) (.tail _ (.tail _ (.head _))) (.tail _ (.tail _ (.tail _ (.head _)))) (.tail _ (.tail _ (.tail _ (.tail _ (.head _)))))
 frame:=fun k h h' X hk=>X.keep W1 W2 hk
 imm:=fun k h X b hb=>X.imm W1 W2 hb
 item:=fun k av s ρ Q R hi X hout hsh hV hQ=>CF hi fun a1 a2 ha1 ha2 e=>by
  subst e
  obtain ⟨x,hx,rx⟩:=r1.get ha1
  obtain ⟨y,hy,ry⟩:=r2.get ha2
  obtain ⟨a,b,hTO⟩:=X.to
  have hx:us[k]? = some x:=by simpa using hx
  have hy:ws[k]? = some y:=by simpa using hy
  exact nG X.zip (nE hh D W1 W2 X.ti ⟨X.zip,hTO,X.s1,X.s2,rfl,fun __ __ __ __ __ __ e=>e⟩ (fun x' y' h' ex ey b1 b2 b3 b4 b5 b7=>by
   rw [hx] at ex
   rw [hy] at ey
   cases ex
   cases ey
   exact ⟨_,rfl,hQ _ _ fun Q' hQ'=>rK D W1 W2 ht X hout hsh (hV _ _ rx) (hV _ _ ry) b1 b2 b3 b4 b5 b7 hQ'⟩) fun h' e he=>by rw [hx,hy] at he;exact he.elim nofun nofun)
 done:=fun s Q X hQ=>by
  obtain ⟨a,b,hTO⟩:=X.to
  exact nG X.zip (nE hh D W1 W2 X.ti ⟨X.zip,hTO,X.s1,X.s2,rfl,fun __ __ __ __ __ __ e=>e⟩ (fun x y h' ex ey=>by
   have st:=vT r1 r2
   rw [ex,ey] at st
   exact st.elim nofun nofun) fun h' e _ hk ⟨o,ho,hc⟩=>⟨e,o,rfl,ho,hc,hQ _ s.toks fun c o hc e=>have ⟨c1,c2,c3,c4⟩:=nF hc;hk c o c1 c2 c3 c4 e⟩)
 self:=fun k s Q E X hQ=>wpAny_pyIter_zip X.zip hQ
end
end
end Internal
namespace Internal
section
variable {F:Fix} {N:Nat} {A:Around} {s:Shared} {ρ:Rg} {σ:St}
theorem CI (I:Inv F s ρ σ) {x:AV} {v:Value} {q:List AV×Bool} {G:Prop} (h:uE σ x=some q) (r:VR s.heap ρ x v) (k:∀ l us n,v = .ref l→VRs s.heap ρ q.1 us.toList→s.heap.get? l=some (aD us n)→(l ∉ ρ.l∨q.2=true)→G):G:=by
 cases x with
 |lst l=>cases h;obtain ⟨a,us,n,rfl,ho,e,hl⟩:=r;exact k a us n rfl hl e (.inl ho.1)
 |ref j=>exact ao h fun l hj e=>by subst e;exact d7 I hj r fun b vs n hv __ ho hl=>k b vs n hv hl ho (.inr rfl)
 |_=>exact aa h
theorem rL {h:Heap} {l1 l2:Addr} (lt1:l1 < h.objs.size) (lt2:l2 < h.objs.size):ZipApart (h.objs.size+4) (h.objs.size+2) (h.objs.size+3) h.objs.size (h.objs.size+1) l1 l2:=by
 have e:∀ a b,a≠b→h.objs.size+a≠h.objs.size+b:=fun a b h q=>h (Nat.add_left_cancel q)
 have lo:∀ {l:Nat} (c:Nat),l < h.objs.size→l≠h.objs.size+c:=fun c h=>Nat.ne_of_lt (Nat.lt_of_lt_of_le h (Nat.le_add_right _ _))
 exact ⟨e 2 4 (by decide),e 3 4 (by decide),e 0 4 (by decide),e 1 4 (by decide),e 2 3 (by decide),e 2 0 (by decide),e 2 1 (by decide),e 3 0 (by decide),e 3 1 (by decide),e 0 1 (by decide),lo 4 lt1,lo 3 lt1,lo 0 lt1,lo 1 lt1,lo 4 lt2,lo 3 lt2,lo 0 lt2,lo 1 lt2⟩
theorem nH {T:String} {xs:List AV} {q:List AV×Bool} {t:Expr} {us ws:Array Value} {l1 l2:Addr} {o1:Obj} {m:Nat} {S:Nat→Heap→Prop} (ht:gw t=true) (hh:A.handled=none) (I:Inv F s ρ σ) (h1:s.heap.get? l1=some o1) (hi:Hi o1=true) (hl1:l1 ∉ ρ.l) (r1:VRs s.heap ρ xs us.toList)
  (o2:s.heap.get? l2=some (aD ws m)) (r2:VRs s.heap ρ q.1 ws.toList) (q2:l2 ∉ ρ.l∨q.2=true) (W1:l1≠s.heap.objs.size→SubIt F s.heap.objs.size l1 us S) (st:S 0 (HE T "list_iterator" s.heap l1 l2)) :
  wp F A (pyIter (.ref (s.heap.objs.size+4))) { s with heap:=HE T "list_iterator" s.heap l1 l2 } (SrcS F A s.heap ρ (gx xs q.1) q.2 σ true t):=by
 obtain ⟨z4,hz,hTI,hTO,hi1,hi2,up⟩:=bM (T:=T) (U := "list_iterator") (h:=s.heap) (l1:=l1) (l2:=l2)
 have lt1:=Heap.lt_size h1
 have lt2:=Heap.lt_size o2
 have dead:∀ k,s.heap.get? (s.heap.objs.size+k)=none:=fun k=>an _ (Nat.le_add_right _ _)
 refine wpAny_pyIter_zip hz ⟨ρ,Stp.keeps up,s.heap.objs.size+4,_,_,[s.heap.objs.size+3],_,rfl,
  zH (g:=HE T "list_iterator" s.heap l1 l2) (ρg:=⟨ρ.l,[s.heap.objs.size+3]++ρ.x⟩) ht hh (rL lt1 lt2) (W1 (Nat.ne_of_lt lt1)) (SubIt.list (Nat.ne_of_lt (Nat.lt_succ_of_lt lt2))) (VRs.shut (dead 3) up r1) (VRs.shut (dead 3) up r2),
  ⟨hz,hTI,⟨_,_,hTO⟩,st,⟨_,hi2,rfl,rfl⟩,⟨_,up _ _ o2,rfl,_,rfl⟩⟩,fun b hb=>Et (P:=fun b=>s.heap.get? b=none) hb (dead 4) (dead 3) (dead 0) (dead 1),fun b hb=>List.mem_singleton.mp hb▸dead 3,fun b hb=>?_,
  fun b hb=>I.fresh_facts (Et (P:=fun b=>s.heap.get? b=none) hb (dead 4) (dead 3) (dead 0) (dead 1)),I.shut s.toks (dead 3) up hTO⟩
 rcases List.mem_cons.mp hb with rfl | hb
 ·exact .inl (.head _)
 rcases List.mem_cons.mp hb with rfl | hb
 ·exact .inr ⟨⟨_,hTI,.inl rfl⟩,.inl (I.dead_out (dead 2)).1⟩
 rcases List.mem_cons.mp hb with rfl | hb
 ·exact .inl (.tail _ (.head _))
 rcases List.mem_cons.mp hb with rfl | hb
 ·exact .inl (.tail _ (.tail _ (.head _)))
 rcases List.mem_cons.mp hb with rfl | hb
 ·exact .inl (.tail _ (.tail _ (.tail _ (.head _))))
 rcases List.mem_cons.mp hb with rfl | hb
 ·exact .inr ⟨⟨_,up _ _ h1,.inl hi⟩,.inl hl1⟩
 ·cases List.mem_singleton.mp hb
  exact .inr ⟨⟨_,up _ _ o2,.inl rfl⟩,q2⟩
theorem rM:jh F N:=fun {A s ρ σ x y v u xs q t} ht hA I rx ex ry e2=>by
 refine CI I e2 ry fun l2 ws m hu r2 o2 q2=>?_
 subst hu
 have z4:∀ T l1,(HD T "list_iterator" s.heap l1 l2).objs.size=s.heap.objs.size+4:=fun T l1=>bM.1
 cases x with
 |tup l=>
  cases ex
  obtain ⟨l1,us,n,rfl,q1,o1,r1⟩:=rx
  refine callType_new PySem.F.called_zip (by decide) (PySem.F.typeCall_zip_2 _ _) (PySem.F.newCall_zip_2 _ _) (fun obj=>PySem.F.args_object_init_3 obj _ _) PySem.F.entry_zip_new (dX l1 l2 us ws) ⟨⟨_,o1,rfl,_,rfl⟩,⟨_,o2,rfl,_,rfl⟩,⟨_,by rw [z4];exact bM.2.1,rfl⟩,?_⟩
  rw [z4]
  exact nH ht hA.1 I o1 rfl q1.1 r1 o2 r2 q2 SubIt.tup ⟨⟨_,bM.2.2.2.2.1,rfl,rfl⟩,⟨_,bM.2.2.2.2.2.2 _ _ o1,rfl,_,rfl⟩⟩
 |lst l=>
  cases ex
  obtain ⟨l1,us,n,rfl,q1,o1,r1⟩:=rx
  refine callType_new PySem.F.called_zip (by decide) (PySem.F.typeCall_zip_2 _ _) (PySem.F.newCall_zip_2 _ _) (fun obj=>PySem.F.args_object_init_3 obj _ _) PySem.F.entry_zip_new (gQ l1 l2 us ws) ⟨⟨_,o1,rfl,_,rfl⟩,⟨_,o2,rfl,_,rfl⟩,⟨_,by rw [z4];exact bM.2.1,rfl⟩,?_⟩
  rw [z4]
  exact nH ht hA.1 I o1 rfl q1.1 r1 o2 r2 q2 SubIt.list ⟨⟨_,bM.2.2.2.2.1,rfl,rfl⟩,⟨_,bM.2.2.2.2.2.2 _ _ o1,rfl,_,rfl⟩⟩
 |_=>exact aa ex
end
end Internal
namespace Internal
theorem rN:builtinKind "iter" = none:=by decide +kernel
theorem oX:plainId "iter" = true:=by decide +kernel
theorem oY:entryFor table "iter" = some Builtin.«iter»:=entryFor_of_tree (by kernel_rfl)
theorem oZ (a b:Value):argsOk "iter" ⟨[a,b],[]⟩:=by unfold argsOk;kernel_rfl
theorem fc:typeLookup (.type "method") "__call__" = pure (some (.builtin "method.__call__")):=by rw [typeLookup_type,builtinLookup_eq_fast];kernel_rfl
section
variable {F:Fix} {N:Nat} {A:Around} {s:Shared} {ρ:Rg} {σ σ':St}
noncomputable def FY:AV→Option (Addr×Nat)
 | .bm f i=>some (f,i)
 |_=>none
theorem vU {a:AV} {q:Addr×Nat} (e:FY a=some q):a = .bm q.1 q.2:=by cases a<;>first | exact aa e | (cases e;rfl)
noncomputable def CJ:Fn:=fun avs σ=>Hy avs fun a b=>(FY a).bind fun q=>(db b).bind fun x=>if x = "" then some (.ref σ.length,σ++[.cit q.1 q.2 false],false) else none
theorem rO {v u:Value} {q:Addr×Nat} (hh:A.handled=none) (I:Inv F s ρ σ) (ra:VR s.heap ρ (.bm q.1 q.2) v) (rb:VR s.heap ρ (.str "") u):Ok F A [] (call (.builtin "iter") [v,u]) s ρ (σ++[.cit q.1 q.2 false]) false (VV (.ref σ.length)):=by
 obtain ⟨a,b,rfl,hout,ho,hb⟩:=id ra
 obtain ⟨t,rfl⟩:=rb
 refine Calls.call_function_entry rN oX oY (oZ _ _) ?_
 show wpAny _ _ (specialOf (.ref a) "__call__" >>= _) _ _ s
 refine wpAny_bind (wpAny_specialOf ⟨_,ho,rfl⟩ fc ?_)
 rw [if_neg (show ¬ ((some (Value.builtin "method.__call__")).isNone=true) by decide)]
 refine wpAny_bind (wpAny_rule (wpAny_bind (wpAny_newObj_type ?_ (by size_fits))))
 obtain ⟨I',r',S'⟩:=eP I (o:=gk (.ref a) (.str "" t) false) (x:=.cit q.1 q.2 false) s.toks rfl ⟨a,t,Heap.get?_push_size _ rfl,VR.mono (fa:=[]) (p:=false) (Stp.added (an s.heap (Nat.le_refl _)) fun b' o e=>Heap.get?_push_of_some _ e) _ _ ra⟩
 exact wpAny_pure ⟨_,rfl,_,I',r',S'⟩
theorem zI:CallOk F N (.builtin "iter") CJ where
 keep:=fun __ __ __ __=>aK
 ok:=fun {A s ρ σ avs vs r σ' p} h hA I rv=>jn (G:=fun vs=>Ok F A [] (call (.builtin "iter") vs) s ρ σ' p (VV r)) h rv fun a b v u __ h ra rb=>ad h fun q hq h=>ad h fun x hx h=>al h fun hc e=>by
  cases e
  exact rO hA.1 I (vU hq▸ra) (hc▸aX hx▸rb)
end
end Internal
namespace Internal
noncomputable def isNone:AV→Bool
 | .none=>true
 |_=>false
noncomputable def rP (i:Nat) (x:Option (AV×St×Bool)):Option (AV×St×Bool):=match x with
 |none=>none
 |some (v,σ,_)=>if isNone v=true then some (.ref i,σ,false) else none
noncomputable def CK (D:Addr) (Φ:Fn):Fn:=fun avs σ=>rP (σ.length+1) (Φ (.ref (σ.length+1)::avs) (σ++[.ns [],.inst D σ.length]))
section
variable {F:Fix} {K:Frag} {N:Nat} {A:Around} {s:Shared} {ρ:Rg} {σ σ':St}
theorem AOk.typeCall (h:AOk (N+1) A) (D:Addr) (vs:List Value):AOk N (A.under (.builtin "type.__call__" ⟨.ref D::vs,[]⟩)):=by
 obtain ⟨h1,h2,h3,l,h4⟩:=h
 have e3:(A.under (.builtin "type.__call__" ⟨.ref D::vs,[]⟩)).frames=A.frames:=by show pushEnvs [] A.frames=_;rw [pushEnvs_eq,h4];rfl
 exact ⟨h1,bg (Nat.add_le_add_left (show 1≤20 by decide) _) h2,bg (Nat.add_le_add_left (show 1≤100 by decide) _) h3,l,by rw [e3,h4]⟩
theorem iI {i:Nat} {x:Option (AV×St×Bool)} {r:AV} {p:Bool} {G:Prop} (h:rP i x=some (r,σ',p)) (k:∀ q,x=some (.none,σ',q) → .ref i=r→false=p→G):G:=by
 match x with
 |none=>exact aa h
 |some (v,σ,b)=>
  refine al h fun hv e=>?_
  cases v with
  |none=>cases e;exact k b rfl rfl rfl
  |_=>cases hv
theorem nI {o:Obj} {x:AObj} {hh:Heap} {g:_} {d:_} {t:_} {os:_} (hf:o.isFreed=false) (hO:∀ ρ',ρ'.l[σ.length]? = some hh.objs.size→OR F ((hh.push emptyDict).push o) ρ' (hh.push emptyDict).objs.size x) (I:Inv F ⟨hh,g,d,t,os⟩ ρ σ):∃ ρ₂,Inv F ⟨(hh.push emptyDict).push o,g,d,t,os⟩ ρ₂ (σ++[.ns [],x]) ∧
  VR ((hh.push emptyDict).push o) ρ₂ (.ref (σ.length+1)) (.ref (hh.push emptyDict).objs.size)∧Stp [] false ρ hh ρ₂ ((hh.push emptyDict).push o):=by
 obtain ⟨I₁,⟨a,e,hb⟩,S₁⟩:=eP I (o:=emptyDict) (x:=.ns []) t rfl ⟨[],0,Heap.get?_push_size _ rfl,trivial⟩
 cases e
 have el:(σ++[AObj.ns []]).length=σ.length+1:=List.length_append
 have es:(σ++[AObj.ns []])++[x]=σ++[.ns [],x]:=List.append_assoc ..
 obtain ⟨I₂,r₂,S₂⟩:=eP I₁ (o:=o) (x:=x) t hf (hO _ ((Stp.added (fa:=[]) (h:=hh.push emptyDict) (h':=(hh.push emptyDict).push o) (an _ (Nat.le_refl _)) (fun __ __ e=>Heap.get?_push_of_some _ e)).ext _ _ hb))
 exact ⟨_,es▸I₂,el▸r₂,S₁.trans S₂⟩
theorem zJ {D f:Addr} {Φ:Fn} (hK:∀ a o,K.lookup a=some o→F.h.get? a=some o∧a ∉ F.tabs) (hm:makesIn K D=true) (hi:findIn K (.ref D) "__init__" = some (some (.ref f))) (hf:typeIn K (.ref f)=some (.type "function")) (H:CodeOk F N (.ref f) Φ) :
  CodeOk F (N+1) (.ref D) (CK D Φ):=fun {A s ρ σ avs vs r σ' p} h hA I rv=>iI h fun q hΦ e1 e2=>by
 subst e1 e2
 have X:K.In s.heap:=fun a o e=>I.base a o (hK a o e).2 (hK a o e).1
 obtain ⟨hh,g,d,t,os⟩:=s
 obtain ⟨ρ₂,I₂,r₂,ST⟩:=nI (o:=instObj D hh.objs.size) (x:=.inst D σ.length) rfl (fun ρ' e=>⟨_,e,Heap.get?_push_size _ rfl⟩) I
 have ez:(hh.push emptyDict).objs.size=hh.objs.size+1:=Heap.size_push ..
 rw [ez] at r₂
 refine make_core (makes_of X hm) (looks_findIn X hi) (fun self=>bind_fn X self hf) (.inl rfl) ?_
 refine codeAny_mono (H hΦ (hA.typeCall D vs) I₂ ⟨r₂,VRs.mono ST _ _ rv⟩) fun res s' z=>?_
 cases res with
 |error e=>exact z.elim
 |ok fl=>
  cases fl with
  |ret u=>
   obtain ⟨ρ₃,I₃,ru,S₃⟩:=z
   cases ru
   exact ⟨rfl,ρ₃,I₃,VR.mono S₃ _ _ r₂,ST.trans S₃⟩
  |_=>exact z.elim
theorem rQ {D:Addr} {Φ:Fn} (hK:∀ a o,K.lookup a=some o→F.h.get? a=some o∧a ∉ F.tabs) (hm:makesIn K D=true) (H:CodeOk F N (.ref D) Φ):CallOk F N (.ref D) Φ where
 keep:=fun s ρ σ I=>
  let ⟨⟨oc,od,cd,sl,hC,e1,e2,e4⟩,made,base,self,top,call,typ⟩:=makes_of (M:=model F.prog F.w) (h:=s.heap) (fun a o e=>I.base a o (hK a o e).2 (hK a o e).1) hm
  ⟨.machine,fun A E Q hq=>by
   unfold keeperOf
   refine wpAny_bind (wpAny_load hC ?_)
   obtain ⟨hh,g,d,t,os⟩:=s
   exact wpAny_bind (call.at (wpAny_pure hq))⟩
 ok:=fun e hA I r=>H.call e hA I r
end
end Internal
namespace Internal
noncomputable def rR (σ:St) (j:Nat):Option AV:=match σ[j]? with
 |some (.cell x)=>some x
 |_=>none
noncomputable def yg (k:Nat) (σ:St):List AV→Option (AV×St×Bool)
 | []=>some (.str "", σ,true)
 |v::l=>some (v,σ.set k (.pos l),false)
noncomputable def zK (σ:St) (k:Nat):Option (List AV):=match σ[k]? with
 |some (.pos l)=>some l
 |_=>none
noncomputable def FZ:Fn:=fun avs σ=>Hy avs fun f a=>(Cf f).bind fun j=>(dT a).bind fun n=>(rR σ j).bind fun x=>(ia x).bind fun k=>(zK σ k).bind fun l=>if n=1 then yg k σ l else none
section
variable {F:Fix} {N:Nat} {A:Around} {s:Shared} {ρ:Rg} {σ σ':St} {a c c' b L:Addr} {k:Nat} {l:List AV} {r:AV} {p:Bool} {tn:Tok} {Q:Value→Shared→Prop} {E:Value→Shared→Prop} {pos:Pos}
theorem o0 {j:Nat} {x:AV} (e:rR σ j=some x):σ[j]? = some (.cell x):=by
 unfold rR at e
 split at e
 ·rename_i h;cases e;exact h
 ·cases e
noncomputable abbrev iJ (L a c c':Addr):Env:=
 {scope:=lamScope,locals:=L,globals:=mainGlobals,cells:=[("signs", c)],qual:=gq ++ ".<locals>.", func:=some a,code:=.ref c',frame:=some L,builtins:=builtinsNs }
theorem kJ (hc:s.heap.IsCell c (some (.ref b))) (hq:Q (.ref b) s):wpAny (model F.prog F.w) A (eval (.Name "signs" pos) (iJ L a c c')) Q E s:=wpAny_Name (wpAny_loadName_free rfl rfl rfl hc hq)
noncomputable abbrev zL (tn:Tok):Str→Option Value:=fun x=>([("count", Value.int 1 tn)]:List (Str×Value)).reverse.lookup x
theorem rS (hn:s.heap.Ns L (zL tn)) (hq:Q (.int 1 tn) s):wpAny (model F.prog F.w) A (eval (.Name "count" pos) (iJ L a c c')) Q E s:=wpAny_Name (wpAny_loadName_local rfl rfl hn (by simp [zL]) hq)
theorem rT {j:Nat} {l:List AV} (e:zK σ j=some l):σ[j]? = some (.pos l):=by
 unfold zK at e
 split at e
 ·rename_i h;cases e;exact h
 ·cases e
theorem zM {v:AV} {us:Array Value} {m:Nat} (hA:AOk N A) (I:Inv F s ρ σ) (hb:ρ.l[k]? = some b) (ho:s.heap.get? b=some (aD us m)) (hl:VRs s.heap ρ (v::l).reverse us.toList) (hz:(v::l).length≤1000000):Ok F A [] (call (.builtin "list.pop") [.ref b]) s ρ (σ.set k (.pos l)) false (VV v):=by
 have hs:us.size=l.length+1:=by rw [hl.size,List.length_reverse,List.length_cons]
 obtain ⟨y,hy,hr⟩:=hl.get (i:=l.length) (a:=v) (by rw [List.reverse_cons,List.getElem?_append_right (by simp)];simp)
 have hy:us[us.size - 1]? = some y:=by rw [hs];simpa using hy
 obtain ⟨m',hn⟩:∃ m',(s.heap.update b (Obj.mapSeq fun xs=>xs.eraseIdxIfInBounds (us.size - 1))).get? b=some (aD (us.eraseIdxIfInBounds (us.size - 1)) m'):=⟨_,Heap.get?_update_self _ ho rfl⟩
 have hk:∀ b' o,b'≠b→s.heap.get? b'=some o→(s.heap.update b (Obj.mapSeq fun xs=>xs.eraseIdxIfInBounds (us.size - 1))).get? b'=some o:=fun b' o hne e=>(Heap.SameBut.update ..).extBut b' o hne e
 have hl':VRs s.heap ρ l.reverse (us.eraseIdxIfInBounds (us.size - 1)).toList:=by
  have h2:=hl.eraseIdx l.length
  rw [List.reverse_cons,List.eraseIdx_append_of_length_le (by simp),List.length_reverse,Nat.sub_self] at h2
  rw [dm (by omega),hs]
  simpa using h2
 obtain ⟨I',S'⟩:=I.setObj (i:=k) (o:=.pos l) s.toks hb hk hn ⟨_,m',hn,VRs.rg (fun b' ob hb' hi e=>⟨hb',hk b' ob (fun q=>hb'.1 (q▸List.mem_of_getElem? hb)) e⟩) (fun __ __ e=>e) _ _ hl',Nat.le_of_succ_le hz⟩
 exact call_meets PySem.F.slot_list_pop ⟨_,ho,rfl⟩ PySem.F.entry_list_pop (PySem.F.args_list_pop_1 _) (PySem.MeetsSeq.list_pop_last b us m y hy (aI (by rw [hs];exact hz))) ⟨ho,⟨ρ,I',VR.mono (S' []) _ _ hr,S' []⟩⟩
theorem zN {p1 p2 p3:Pos} {v:AV} {us:Array Value} {m:Nat} (hl:p2.endLine=p3.line) (hc:s.heap.IsCell c (some (.ref b))) (ho:s.heap.get? b=some (aD us m)) (hv:VRs s.heap ρ (v::l).reverse us.toList) (hz:(v::l).length≤1000000) (hA:AOk N A) (I:Inv F s ρ σ) (hb:ρ.l[k]? = some b) :
  Ok F A [] (eval (.Call (.Attribute (.Name "signs" p1) "pop" p2) [] [] p3) (iJ L a c c')) s ρ (σ.set k (.pos l)) false (VV v):=by
 show wpAny _ _ _ _ _ _
 rw [arm_eval_Call,aG rfl]
 refine wpAny_bind (kJ hc (wpAny_bind (wpAny_standAt ?_)))
 unfold methodCall
 refine wpAny_bind (wpAny_holding ?_)
 unfold calleeOf
 rw [if_pos (by rfl)]
 refine gC ho (id := "list.pop") (by decide) (wpAny_bind ?_)
 unfold methodCallPos
 rw [if_pos (by rw [hl];simp)]
 exact wpAny_pure (bJ (by rfl) (cN (env:=iJ L a c c') (es:=[]) (Calls.spliced_nil ⟨aK,zM hA (I.toks _) hb ho hv hz⟩)))
theorem vV {us:Array Value} {m:Nat} (hns:s.heap.Ns L (zL tn)) (hc:s.heap.IsCell c (some (.ref b))) (ho:s.heap.get? b=some (aD us m)) (hl:VRs s.heap ρ l.reverse us.toList) (hz:l.length≤1000000) (h:yg k σ l=some (r,σ',p)) (hA:AOk N A) (I:Inv F s ρ σ) (hb:ρ.l[k]? = some b) :
  Ok F A [] (eval gp (iJ L a c c')) s ρ σ' p (VV r):=by
 refine wpAny_IfExp (wpAny_isTrue_BoolOp (wpAny_allTrue_And_cons (wpAny_isTrue_value (kJ hc (wpAny_truthy_list ⟨_,ho,rfl,_,rfl⟩ (by rw [hl.size,List.length_reverse];omega) ?_)) rfl)))
 rw [iq hl]
 cases l with
 |nil=>
  cases h
  exact Calls.Constant_str (aU I _ ⟨_,rfl⟩)
 |cons x0 xs=>
  cases h
  rw [List.isEmpty_reverse]
  exact wpAny_allTrue_And_cons (wpAny_isTrue_Compare1 (rS hns (wpAny_Constant_int (PySem.P.eq_int (wpAny_truthy_bool (wpAny_allTrue_And_nil (zN rfl hc ho hl hz hA (I.toks _) hb)))))))
theorem CL (hlim:F.h.NoLimit) (hcst:cStatics ∉ F.tabs):qj F (N+1) FZ:=fun {A s ρ σ j v avs vs r σ' p} h hA I rv rvs=>
 dW (G:=fun vs=>Ok F A [] (call v vs) s ρ σ' p (VV r)) h rvs fun av u __ h ra=>ad h fun j' hj h=>ad h fun n hn h=>ad h fun x hx h=>ad h fun k hk h=>ad h fun l hll h=>aV h fun hn1 h7=>by
  have ha:=bl hn
  have hk:=bq hk
  subst ha hk hn1
  cases hj
  obtain ⟨tn,rfl⟩:=ra
  obtain ⟨a,c,c',pm,ct,oc,ws,t,rfl,ha,ho,hc,hc',hoc,hd,ht⟩:=rv
  obtain ⟨ocl,vcl,hcl,hcd,b,rfl,hb⟩:=I.objs _ c _ hc (o0 hx)
  obtain ⟨us,m,hob,hl,hz⟩:=I.objs k b _ hb (rT hll)
  refine wpAny_call (kla_callFunE (by have:=hA.2.1;omega) ho rfl rfl rfl rfl ⟨c',oc,ws,t,rfl,hoc,hd,ht⟩ ?_)
  rw [show bindArgs (yM c pm (.ref c') ct) ⟨[.int 1 tn],[]⟩=(pure [(("count" : Str),Value.int 1 tn)]:Sem (List (Str×Value))) from by with_unfolding_all rfl]
  refine wpAny_pure (wpAny_newFunctionEnv (fun x hx=>by have hx:x∈lamScope.names:=hx;simp [lamScope] at hx;rcases hx with rfl | rfl<;>simp) (fun x hx=>by rw [List.mem_singleton.mp hx];show lamScope.names.lookup _=_;simp [lamScope]) (fun h₁ hns hsb=>?_) rfl)
  have k₁:∀ b' o,s.heap.get? b'=some o→h₁.get? b'=some o:=fun b' o e=>hsb.extBut b' o (Nat.ne_of_lt (Heap.lt_size e)) (Heap.get?_push_of_some _ e)
  have S₁:Stp [] true ρ s.heap ρ h₁:=Stp.keeps k₁
  refine ⟨Heap.NoLimit.keeps (let ⟨mc,⟨o,es,ep,ho,r⟩,q⟩:=hlim;⟨mc,⟨o,es,ep,I.base _ _ hcst ho,r⟩,q⟩) k₁,?_⟩
  show codeAny _ _ (.expr gp (iJ s.heap.objs.size a c c')) _ _
  exact kla_codeExpr (wpAny_mono (E:=Ht) ((vV (k:=k) hns ⟨ocl,k₁ _ _ hcl,hcd⟩ (k₁ _ _ hob) (VRs.mono S₁ _ _ hl) hz h7 (hA.deeper _) (I.heap k₁ _) hb).fin S₁ (by simp)) (fun __ __ z=>z) fun __ __ z=>z.elim)
end
end Internal
namespace Internal
noncomputable def jV (i:Nat):Stmt:=PySem.Challenge.pw_tr0030_01.main.body.getD i (.Pass ⟨0,0,0,0⟩)
noncomputable def HF:Stmt→List Stmt | .ClassDef (body:=b) .. => b | _=>[]
noncomputable def HG (i j:Nat):Stmt:=(HF (jV i)).getD j (.Pass ⟨0,0,0,0⟩)
noncomputable def HH:Stmt→Arguments | .FunctionDef (args:=a) .. => a | _=>{ posonlyargs:=[],args:=[],vararg:=none,kwonlyargs:=[],kw_defaults:=[],kwarg:=none,defaults:=[] }
noncomputable def HI:Stmt→FuncBody | .FunctionDef (body:=b) .. => .stmts b | _=>.stmts []
noncomputable def HJ:Stmt→Scope | .FunctionDef (scope:=s) .. => s | _=>{ kind:=.function,names:=[],isGenerator:=false,isCoroutine:=false,more:=[] }
noncomputable def vS (x:String) (n:Nat):Value:=.str (Str.ofString x) n
noncomputable def dE (P:Params) (x:String) (n:Nat) (v:Value):DictEntry:={ hash:=PyData.keyHash P (Str.ofString x),key:=.str (Str.ofString x) n,val:=v }
noncomputable def tO (vs:Array Value):Obj:={ cls:=.type "tuple", data:=.seq vs }
noncomputable def cO (vs:Array Value):Obj:={ cls:=.type "code", data:=.fields vs }
noncomputable def vL:List String→Nat→List Value
 | [],_=>[]
 |x::l,n=>vS x n::vL l (n+1)
noncomputable def tL (n:Nat) (l:List String):Obj:=tO ⟨vL l n⟩
noncomputable def iV (n:Nat):Value:=.int (.ofNat n) 0
noncomputable def cD (x y:String) (b i1 i2 i3 i4 i5 r i6:Nat) (u w:Value) (z m i7:Nat):Obj:=cO #[vS x b,vS y (b+1),vS "/claim/cut.py" (b+2),iV i1,iV i2,iV i3,iV i4,iV i5,.ref r,.bool true,iV i6,.ref (r+1),.none,u,w,.ref z,iV m,iV i7,vS "/claim/cut.py" (m+1)]
noncomputable def HK (s:Stmt) (n q:String) (clo:List (Str×Addr)) (df pm:Value) (c:Addr) (ct:Value):Obj:=
 {cls:=.type "function", data:=.func { name:=Str.ofString n,qualname:=Str.ofString q,params:=HH s,body:=HI s,scope:=HJ s,globals:=3,closure:=clo,defaults:=df,kwdefaults:=.none,doc:=.none,pyModule:=pm,annotations:=none,code:=.ref c,closureTuple:=ct,builtins:=0 } }
noncomputable def KK (P:Params):Frag:=[
 (1,PySem.W.boot_o_1 P),
 (2,{ cls:=.none,data:=.dict #[] }),
 (3,{ cls:=.type "dict", data:=.dict #[dE P "__name__" 165 (vS "law_tr0030_01" 388),dE P "__doc__" 166 (.none),dE P "__package__" 167 (.none),dE P "__loader__" 168 (.builtin "__main__.__loader__#opaque"),dE P "__spec__" 169 (.none),dE P "__annotations__" 170 (.ref 6),dE P "__builtins__" 171 (.ref 4),dE P "__file__" 173 (vS "/claim/cut.py" 172),dE P "__cached__" 174 (.none),dE P "_wall" 193 (.ref 21),dE P "rgb_to_hsv" 213 (.ref 28),dE P "hsv_to_rgb" 227 (.ref 35),dE P "EMPTYSTRING" 231 (vS "" 230),dE P "_Accumulator" 327 (.ref 115),dE P "_netrclex" 387 (.ref 157),dE P "_law_lexer" 398 (.ref 168),dE P "_law_written" 404 (.ref 173),dE P "_law_size" 411 (.ref 180),dE P "_law_seen" 417 (.ref 185),dE P "_law_turn" 423 (.ref 190),dE P "_law_cut" 429 (.ref 195),dE P "_law_view" 436 (.ref 202),dE P "_law_due" 442 (.ref 207),dE P "_law_run" 448 (.ref 212),dE P "law" 454 (.ref 217)] 25 }),
 (15,tO #[]),
 (17,tL 190 ["k"]),
 (18,tO #[]),
 (20,cD "_wall" "_wall" 187 1 1 0 0 3 15 181 (.ref 17) (.ref 18) 19 191 1),
 (21,HK (jV 0) "_wall" "_wall" [] (.none) (vS "__main__" 164) 20 (.none)),
 (22,tO #[]),
 (24,tL 199 ["r", "g", "b", "maxc", "minc", "rangec", "v", "s", "rc", "gc", "bc", "h"]),
 (25,tO #[]),
 (27,cD "rgb_to_hsv" "rgb_to_hsv" 196 5 3 0 0 3 22 181 (.ref 24) (.ref 25) 26 211 5),
 (28,HK (jV 2) "rgb_to_hsv" "rgb_to_hsv" [] (.none) (vS "cpy313.colorsys" 194) 27 (.none)),
 (29,tO #[]),
 (31,tL 217 ["h", "s", "v", "i", "f", "p", "q", "t"]),
 (32,tO #[]),
 (34,cD "hsv_to_rgb" "hsv_to_rgb" 214 24 3 0 0 3 29 181 (.ref 31) (.ref 32) 33 225 24),
 (35,HK (jV 3) "hsv_to_rgb" "hsv_to_rgb" [] (.none) (vS "cpy313.colorsys" 194) 34 (.none)),
 (36,tO #[.type "list"]),
 (39,{ cls:=.type "cell", data:=.cell (.some (.ref 115)) }),
 (44,tO #[.int 0 244]),
 (45,tO #[.ref 39]),
 (46,tL 248 ["__class__"]),
 (48,tL 249 ["self", "initial_size"]),
 (49,tO #[]),
 (51,cD "__init__" "_Accumulator.__init__" 245 49 2 0 0 3 46 181 (.ref 48) (.ref 49) 50 251 49),
 (52,HK (HG 6 0) "__init__" "_Accumulator.__init__" [("__class__", 39)] (.ref 44) (vS "cpy313.email.header" 228) 51 (.ref 45)),
 (53,tO #[]),
 (55,tL 257 ["self", "fws", "string"]),
 (56,tO #[]),
 (58,cD "push" "_Accumulator.push" 254 53 3 0 0 3 53 181 (.ref 55) (.ref 56) 57 260 53),
 (59,HK (HG 6 1) "push" "_Accumulator.push" [] (.none) (vS "cpy313.email.header" 228) 58 (.none)),
 (60,tO #[.int 0 263]),
 (61,tO #[]),
 (63,tL 267 ["self", "i", "popped"]),
 (64,tO #[]),
 (66,cD "pop_from" "_Accumulator.pop_from" 264 56 2 0 0 3 61 181 (.ref 63) (.ref 64) 65 270 56),
 (67,HK (HG 6 2) "pop_from" "_Accumulator.pop_from" [] (.ref 60) (vS "cpy313.email.header" 228) 66 (.none)),
 (68,tO #[.ref 39]),
 (69,tL 276 ["__class__"]),
 (71,tL 277 ["self"]),
 (72,tO #[]),
 (74,cD "pop" "_Accumulator.pop" 273 61 1 0 0 3 69 181 (.ref 71) (.ref 72) 73 278 61),
 (75,HK (HG 6 3) "pop" "_Accumulator.pop" [("__class__", 39)] (.none) (vS "cpy313.email.header" 228) 74 (.ref 68)),
 (76,tO #[]),
 (78,tL 284 ["self"]),
 (79,tO #[]),
 (81,cD "__len__" "_Accumulator.__len__" 281 66 1 0 0 3 76 181 (.ref 78) (.ref 79) 80 285 66),
 (82,HK (HG 6 4) "__len__" "_Accumulator.__len__" [] (.none) (vS "cpy313.email.header" 228) 81 (.none)),
 (83,tO #[]),
 (85,tL 291 ["self"]),
 (86,tO #[]),
 (88,cD "__str__" "_Accumulator.__str__" 288 69 1 0 0 3 83 181 (.ref 85) (.ref 86) 87 292 69),
 (89,HK (HG 6 5) "__str__" "_Accumulator.__str__" [] (.none) (vS "cpy313.email.header" 228) 88 (.none)),
 (90,tO #[.none]),
 (91,tO #[]),
 (93,tL 298 ["self", "startval"]),
 (94,tO #[]),
 (96,cD "reset" "_Accumulator.reset" 295 72 2 0 0 3 91 181 (.ref 93) (.ref 94) 95 300 72),
 (97,HK (HG 6 6) "reset" "_Accumulator.reset" [] (.ref 90) (vS "cpy313.email.header" 228) 96 (.none)),
 (98,tO #[]),
 (100,tL 306 ["self"]),
 (101,tO #[]),
 (103,cD "is_onlyws" "_Accumulator.is_onlyws" 303 75 1 0 0 3 98 181 (.ref 100) (.ref 101) 102 307 75),
 (104,HK (HG 6 7) "is_onlyws" "_Accumulator.is_onlyws" [] (.none) (vS "cpy313.email.header" 228) 103 (.none)),
 (105,tO #[.ref 39]),
 (106,tL 313 ["__class__"]),
 (108,tL 314 ["self"]),
 (109,tO #[]),
 (111,cD "part_count" "_Accumulator.part_count" 310 78 1 0 0 3 106 181 (.ref 108) (.ref 109) 110 315 78),
 (112,HK (HG 6 8) "part_count" "_Accumulator.part_count" [("__class__", 39)] (.none) (vS "cpy313.email.header" 228) 111 (.ref 105)),
 (113,tL 318 ["_initial_size"]),
 (114,{ cls:=.type "dict", data:=.dict #[dE P "__module__" 239 (vS "cpy313.email.header" 228),dE P "__firstlineno__" 243 (.int 47 242),dE P "__init__" 253 (.ref 52),dE P "push" 262 (.ref 59),dE P "pop_from" 272 (.ref 67),dE P "pop" 280 (.ref 75),dE P "__len__" 287 (.ref 82),dE P "__str__" 294 (.ref 89),dE P "reset" 302 (.ref 97),dE P "is_onlyws" 309 (.ref 104),dE P "part_count" 317 (.ref 112),dE P "__static_attributes__" 319 (.ref 113),dE P "__dict__" 322 (.ref 116),dE P "__weakref__" 324 (.ref 117),dE P "__doc__" 325 (.none)] 5 }),
 (115,{ cls:=.type "type", data:=.cls { name:=Str.ofString "_Accumulator", bases:=[.type "list"],mro:=[.ref 115,.type "list", .type "object"],ns:=114,qualname:=Str.ofString "_Accumulator" },slots:=#[.some (.ref 36),.none,some (vS "_Accumulator" 232),some (vS "_Accumulator" 240),.some (.builtin "list.__new__"),.some (.bool true)] }),
 (116,{ cls:=.type "getset_descriptor", data:=.fields #[vS "__dict__" 321,.ref 115,.builtin "function.__dict__", .builtin "function.__dict__#set"] }),
 (117,{ cls:=.type "getset_descriptor", data:=.fields #[vS "__weakref__" 323,.ref 115,.builtin "ExceptionGroup.__weakref__", .none] }),
 (127,tO #[]),
 (129,tL 345 ["self", "fp"]),
 (130,tO #[]),
 (132,cD "__init__" "_netrclex.__init__" 342 83 2 0 0 3 127 181 (.ref 129) (.ref 130) 131 347 83),
 (133,HK (HG 8 0) "__init__" "_netrclex.__init__" [] (.none) (vS "cpy313.netrc" 328) 132 (.none)),
 (134,tO #[]),
 (136,tL 353 ["self", "ch"]),
 (137,tO #[]),
 (139,cD "_read_char" "_netrclex._read_char" 350 89 1 0 0 3 134 181 (.ref 136) (.ref 137) 138 355 89),
 (140,HK (HG 8 1) "_read_char" "_netrclex._read_char" [] (.none) (vS "cpy313.netrc" 328) 139 (.none)),
 (141,tO #[]),
 (143,tL 361 ["self", "token", "fiter", "ch"]),
 (144,tO #[]),
 (146,cD "get_token" "_netrclex.get_token" 358 95 1 0 0 3 141 181 (.ref 143) (.ref 144) 145 365 95),
 (147,HK (HG 8 2) "get_token" "_netrclex.get_token" [] (.none) (vS "cpy313.netrc" 328) 146 (.none)),
 (148,tO #[]),
 (150,tL 371 ["self", "token"]),
 (151,tO #[]),
 (153,cD "push_token" "_netrclex.push_token" 368 122 2 0 0 3 148 181 (.ref 150) (.ref 151) 152 373 122),
 (154,HK (HG 8 3) "push_token" "_netrclex.push_token" [] (.none) (vS "cpy313.netrc" 328) 153 (.none)),
 (155,tL 376 ["instream", "lineno", "pushback", "whitespace"]),
 (156,{ cls:=.type "dict", data:=.dict #[dE P "__module__" 337 (vS "cpy313.netrc" 328),dE P "__firstlineno__" 341 (.int 81 340),dE P "__init__" 349 (.ref 133),dE P "_read_char" 357 (.ref 140),dE P "get_token" 367 (.ref 147),dE P "push_token" 375 (.ref 154),dE P "__static_attributes__" 380 (.ref 155),dE P "__dict__" 382 (.ref 158),dE P "__weakref__" 384 (.ref 159),dE P "__doc__" 385 (.none)] 4 }),
 (157,{ cls:=.type "type", data:=.cls { name:=Str.ofString "_netrclex", bases:=[.type "object"],mro:=[.ref 157,.type "object"],ns:=156,qualname:=Str.ofString "_netrclex" },slots:=#[.none,.none,some (vS "_netrclex" 330),some (vS "_netrclex" 338),.some (.builtin "object.__new__"),.some (.bool true)] }),
 (158,{ cls:=.type "getset_descriptor", data:=.fields #[vS "__dict__" 381,.ref 157,.builtin "function.__dict__", .builtin "function.__dict__#set"] }),
 (159,{ cls:=.type "getset_descriptor", data:=.fields #[vS "__weakref__" 383,.ref 157,.builtin "ExceptionGroup.__weakref__", .none] }),
 (162,tO #[]),
 (164,tL 393 ["signs", "stream"]),
 (165,tL 395 ["signs"]),
 (167,cD "_law_lexer" "_law_lexer" 390 125 1 0 0 3 162 181 (.ref 164) (.ref 165) 166 396 125),
 (168,HK (jV 10) "_law_lexer" "_law_lexer" [] (.none) (vS "law_tr0030_01" 388) 167 (.none)),
 (169,tO #[]),
 (172,cD "_law_written" "_law_written" 399 129 2 0 0 3 169 181 .none .none 171 402 129),
 (173,HK (jV 11) "_law_written" "_law_written" [] (.none) (vS "law_tr0030_01" 388) 172 (.none)),
 (174,tO #[]),
 (176,tL 408 ["number"]),
 (177,tO #[]),
 (179,cD "_law_size" "_law_size" 405 133 1 0 0 3 174 181 (.ref 176) (.ref 177) 178 409 133),
 (180,HK (jV 12) "_law_size" "_law_size" [] (.none) (vS "law_tr0030_01" 388) 179 (.none)),
 (181,tO #[]),
 (184,cD "_law_seen" "_law_seen" 412 135 1 0 0 3 181 181 .none .none 183 415 135),
 (185,HK (jV 13) "_law_seen" "_law_seen" [] (.none) (vS "law_tr0030_01" 388) 184 (.none)),
 (186,tO #[]),
 (189,cD "_law_turn" "_law_turn" 418 143 3 0 0 3 186 181 .none .none 188 421 143),
 (190,HK (jV 14) "_law_turn" "_law_turn" [] (.none) (vS "law_tr0030_01" 388) 189 (.none)),
 (191,tO #[]),
 (194,cD "_law_cut" "_law_cut" 424 152 4 0 0 3 191 181 .none .none 193 427 152),
 (195,HK (jV 15) "_law_cut" "_law_cut" [] (.none) (vS "law_tr0030_01" 388) 194 (.none)),
 (196,tO #[]),
 (198,tL 433 ["pile"]),
 (199,tO #[]),
 (201,cD "_law_view" "_law_view" 430 162 1 0 0 3 196 181 (.ref 198) (.ref 199) 200 434 162),
 (202,HK (jV 16) "_law_view" "_law_view" [] (.none) (vS "law_tr0030_01" 388) 201 (.none)),
 (203,tO #[]),
 (206,cD "_law_due" "_law_due" 437 164 1 0 0 3 203 181 .none .none 205 440 164),
 (207,HK (jV 17) "_law_due" "_law_due" [] (.none) (vS "law_tr0030_01" 388) 206 (.none)),
 (208,tO #[]),
 (211,cD "_law_run" "_law_run" 443 166 4 0 0 3 208 181 .none .none 210 446 166),
 (212,HK (jV 18) "_law_run" "_law_run" [] (.none) (vS "law_tr0030_01" 388) 211 (.none)),
 (213,tO #[]),
 (216,cD "law" "law" 449 194 1 0 0 3 213 181 .none .none 215 452 194),
 (217,HK (jV 19) "law" "law" [] (.none) (vS "law_tr0030_01" 388) 216 (.none))]
end Internal
namespace Internal
noncomputable def vw:Program:=view PySem.Challenge.pw_tr0030_01 [0,2,3,5,6,8,10,11,12,13,14,15,16,17,18,19]
noncomputable def rU:List Str:=[Str.ofString "_Accumulator"]
noncomputable def hk:Hook:=kmHook KK [1,2,3,15,17,18,20,21,22,24,25,27,28,29,31,32,34,35,36,39,44,45,46,48,49,51,52,53,55,56,58,59,60,61,63,64,66,67,68,69,71,72,74,75,76,78,79,81,82,83,85,86,88,89,90,91,93,94,96,97,98,100,101,103,104,105,106,108,109,111,112,113,114,115,116,117,127,129,130,132,133,134,136,137,139,140,141,143,144,146,147,148,150,151,153,154,155,156,157,158,159,162,164,165,167,168,169,172,173,174,176,177,179,180,181,184,185,186,189,190,191,194,195,196,198,199,201,202,203,206,207,208,211,212,213,216,217] (fun __=>by kernel_rfl) [163,77,84]
noncomputable def rwR:OpenRow:=PySem.Challenge.rw_tr0030_01.row
noncomputable def Gx:DefRec:={ name:=Str.ofString "law", params:=HH (jV 19),body:=(match HI (jV 19) with | .stmts b=>b | _=>[]),scope:=HJ (jV 19),pos:=⟨0,0,0,0⟩ }
theorem vW:LeftO rwR.prog vw rU (fun s=>xlAt vw [] s&&recOk (RowW.records rwR.toRowW) s) hk.obs hk.val 2522:=fun w=>by kernel_rfl
theorem Gy:PySem.Challenge.rw_tr0030_01.wellSaid=true:=by kernel_rfl
end Internal
namespace Internal
noncomputable def HL:Stmt→Pos | .FunctionDef (pos:=p) .. => p | _=>⟨0,0,0,0⟩
noncomputable def F0:DefRec:={ Gx with pos:=HL (jV 19) }
theorem HM (call:WalkO vw rU (XL vw []) hk.says rwR.toRowW F0 [] fun f vs=>PySem.call f vs):PySem.Challenge.rw_tr0030_01.Holds:=
 holds_law Gy fun __=>by
  refine holds_open (q:=vw) (loose:=rU) (Xt:=fun s=>xlAt vw [] s&&recOk (RowW.records rwR.toRowW) s) (XP:=XL vw []) (Yf:=hk.obs) (Ya:=hk.val) (YP:=hk.says) (N:=2522) vW hk.of hk.keeps
   (fun s e=>xl_of s (Bool.and_eq_true_iff.mp e).1) XL.keeps (d:=F0) (kwd:=[]) (by kernel_rfl) (by kernel_rfl) (by kernel_rfl) (fun s e=>recFacts_of (Bool.and_eq_true_iff.mp e).2) (by kernel_rfl) (by kernel_rfl) (by kernel_rfl) ⟨rfl,rfl,rfl,rfl,rfl,by decide +kernel⟩ ?hw call
  w_witness2
end Internal
namespace Internal
theorem rV (P:Params):ClsOk (KK P) 157:=(by refine ⟨?_,?_,?_,?_⟩<;>kernel_rfl)
theorem kK (P:Params):makesIn (KK P) 157=true:=by kernel_rfl
theorem CM (P:Params):MethOk (KK P) 157 "_read_char" 140:=(by refine ⟨?_,?_,?_,?_⟩<;>kernel_rfl)
theorem ER (P:Params):MethOk (KK P) 157 "get_token" 147:=(by refine ⟨?_,?_,?_,?_⟩<;>kernel_rfl)
theorem CN (P:Params):MethOk (KK P) 157 "push_token" 154:=(by refine ⟨?_,?_,?_,?_⟩<;>kernel_rfl)
theorem nJ (P:Params):findIn (KK P) (.ref 157) "__init__" = some (some (.ref 133))∧typeIn (KK P) (.ref 133)=some (.type "function"):=⟨by kernel_rfl,by kernel_rfl⟩
theorem vX (P:Params):FreeOk (KK P) 157 "lineno" := ⟨by kernel_rfl,by kernel_rfl⟩
theorem o4 (P:Params):FreeOk (KK P) 157 "instream" := ⟨by kernel_rfl,by kernel_rfl⟩
theorem kM (P:Params):FreeOk (KK P) 157 "whitespace" := ⟨by kernel_rfl,by kernel_rfl⟩
theorem o5 (P:Params):FreeOk (KK P) 157 "pushback" := ⟨by kernel_rfl,by kernel_rfl⟩
theorem CO (P:Params):FreeOk (KK P) 157 "read" := ⟨by kernel_rfl,by kernel_rfl⟩
theorem nK (P:Params):findIn (KK P) (.ref 115) "__getattribute__" = some (some (.builtin "list.__getattribute__"))∧findIn (KK P) (.ref 115) "__getattr__" = some none:=⟨by kernel_rfl,by kernel_rfl⟩
theorem nL (P:Params):hasDictIn (KK P) 115=true:=by kernel_rfl
theorem zO (P:Params):findIn (KK P) (.ref 115) "__setattr__" = some (some (.builtin "object.__setattr__")):=by kernel_rfl
theorem CP (P:Params):AMethOk (KK P) 115 "push" 59:=(by refine ⟨?_,?_,?_,?_⟩<;>kernel_rfl)
theorem o6 (P:Params):AMethOk (KK P) 115 "pop_from" 67:=(by refine ⟨?_,?_,?_,?_⟩<;>kernel_rfl)
theorem ES (P:Params):AMethOk (KK P) 115 "pop" 75:=(by refine ⟨?_,?_,?_,?_⟩<;>kernel_rfl)
theorem kN (P:Params):AMethOk (KK P) 115 "part_count" 112:=(by refine ⟨?_,?_,?_,?_⟩<;>kernel_rfl)
theorem kO (P:Params):FreeOk (KK P) 115 "_initial_size" := ⟨by kernel_rfl,by kernel_rfl⟩
end Internal
namespace Internal
theorem fR {M:Model} {A:Around} {E:Value→Shared→Prop} {s:Shared} {i owner n:String} {self:Value} {rest:List Value} {Q:Unit→Shared→Prop}
  (hk:builtinKind i=some .method) (hs:splitId i=some (owner,n)) (hi:Looks M s.heap (isInstance self (.type owner)) true) (ha:argsOk i ⟨self::rest,[]⟩) (q:Q () s) :
  wpAny M A (checkBuiltinCall i ⟨self::rest,[]⟩) Q E s:=by
 simp only [checkBuiltinCall,hk,hs]
 refine wpAny_bind (hi.here ?_)
 simp only [Bool.not_true,Bool.false_eq_true,if_false]
 cases hsig:Manifest.signature? i with
 |none=>exact wpAny_pure q
 |some sig=>
  simp only [argsOk,hsig] at ha
  have h2:Bind.checkArgs i sig ⟨self::rest,[]⟩=pure ():=ha
  show wpAny M A (Bind.checkArgs i sig ⟨self::rest,[]⟩) Q E s
  rw [h2];exact wpAny_pure q
theorem mj:builtinKind "list.append" = some .method:=by decide +kernel
theorem kP:splitId "list.append" = some ("list", "append"):=by decide +kernel
theorem kQ:plainId "list.append" = true:=by decide +kernel
theorem er (P:Params):mroIn (KK P) 115 (.type "list")=some true:=by kernel_rfl
section
variable {F:Fix} {K:Frag} {A:Around} {s:Shared}
theorem bE {x D:Addr} {ox:Obj} {od:Option Obj} (X:K.In s.heap) (hm:mroIn K D (.type "list")=some true) (I:InstAt s.heap x ox D od):Looks (model F.prog F.w) s.heap (isInstance (.ref x) (.type "list")) true:=
 I.type.andThen (looks_mroIn X hm)
theorem o7 {x D b:Addr} {vs:Array Value} {n:Nat} {v:Value} {Q:Value→Shared→Prop} {E:Value→Shared→Prop} (hi:Looks (model F.prog F.w) s.heap (isInstance (.ref x) (.type "list")) true)
  (ho:s.heap.get? x=some { cls:=.ref D,dict:=some b,data:=.seq vs n }) (hsz:vs.size≤sizeLine)
  (hQ:∀ h' m,Heap.SameBut x s.heap h'→h'.get? x=some { cls:=.ref D,dict:=some b,data:=.seq (vs.push v) m } → Q .none { s with heap:=h' }) :
  wpAny (model F.prog F.w) A (call (.builtin "list.append") [.ref x,v]) Q E s:=by
 refine wpAny_call (codeAny_call_builtin kQ entry_list_append (fR mj kP hi (args_list_append _ _) ?_))
 show wpAny _ _ (updateSeq x (·.push v) >>= fun __=>ret .none) _ _ s
 have D':=Heap.get?_update_self (Obj.mapSeq (·.push v)) ho rfl
 refine wpAny_bind (wpAny_updateSeq ho rfl ?_)
 exact wpAny_pure (hQ _ _ (Heap.SameBut.update ..) D')
end
end Internal
namespace Internal
theorem o8:plainId "list.__len__" = true:=by decide +kernel
theorem o9:entryFor table "list.__len__" = some Builtin.«list.__len__»:=entryFor_of_fast (by kernel_rfl)
section
variable {F:Fix} {K:Frag} {A:Around} {s:Shared}
end
end Internal
namespace Internal
theorem vY:builtinKind "list.pop" = some .method:=by decide +kernel
theorem rW:plainId "list.pop" = true:=by decide +kernel
section
variable {F:Fix} {K:Frag} {A:Around} {s:Shared}
end
end Internal
namespace Internal
noncomputable abbrev gS (B id:String) (x:Addr):Obj:={ cls:=.type B,data:=.fields #[.builtin id,.ref x] }
theorem CQ:typeOf (.builtin "list.pop")=pure (.type "method_descriptor"):=by show builtinType _=_;rw [builtinType_eq_fast];kernel_rfl
theorem CR:typeOf (.builtin "list.__len__")=pure (.type "wrapper_descriptor"):=by show builtinType _=_;rw [builtinType_eq_fast];kernel_rfl
theorem zP:typeOf (.builtin "list.__init__")=pure (.type "wrapper_descriptor"):=by show builtinType _=_;rw [builtinType_eq_fast];kernel_rfl
theorem rX:Slot "method_descriptor" "__get__" "method_descriptor.__get__" :=
 .of (owner := "method_descriptor") (n := "__get__") (by rw [typeLookup_type,builtinLookup_eq_fast];kernel_rfl) (by decide +kernel) (by decide +kernel) (by decide +kernel)
  (by first | exact .inl (by decide +kernel) | exact .inr (by decide +kernel)) (by rw [isSubtype_type];kernel_rfl)
theorem kR:Slot "wrapper_descriptor" "__get__" "wrapper_descriptor.__get__" :=
 .of (owner := "wrapper_descriptor") (n := "__get__") (by rw [typeLookup_type,builtinLookup_eq_fast];kernel_rfl) (by decide +kernel) (by decide +kernel) (by decide +kernel)
  (by first | exact .inl (by decide +kernel) | exact .inr (by decide +kernel)) (by rw [isSubtype_type];kernel_rfl)
theorem pf:entryFor table "method_descriptor.__get__" = some Builtin.«method_descriptor.__get__»:=entryFor_of_tree (by kernel_rfl)
theorem iK:entryFor table "wrapper_descriptor.__get__" = some Builtin.«wrapper_descriptor.__get__»:=entryFor_of_tree (by kernel_rfl)
theorem rY (a b c:Value):argsOk "method_descriptor.__get__" ⟨[a,b,c],[]⟩:=by unfold argsOk;kernel_rfl
theorem kS (a b c:Value):argsOk "wrapper_descriptor.__get__" ⟨[a,b,c],[]⟩:=by unfold argsOk;kernel_rfl
section
variable {F:Fix} {K:Frag} {A:Around} {s:Shared} {M:Model} {E:Value→Shared→Prop}
theorem nM {x C:Addr} {id:String} {P:Fin→Shared→Prop} (hid:id = "list.__len__" ∨ id = "list.__init__") (hi:Looks M s.heap (isInstance (.ref x) (.type "list")) true)
  (h:P (.done (.ret (.ref s.heap.objs.size))) { s with heap:=s.heap.push (gS "method-wrapper" id x) }) :
  wpAny M A (Builtin.«wrapper_descriptor.__get__» ⟨[.builtin id,.ref x,.ref C],[]⟩) P E s:=by
 unfold Builtin.«wrapper_descriptor.__get__»
 refine wpAny_bind (wpAny_of_eq (a:=(.builtin id,some (.ref x),some (.ref C))) (by first | rfl | kernel_rfl) ?_)
 rcases hid with rfl | rfl
 all_goals
  refine wpAny_bind (m:=(kfb_private% "checkInstance") _ _) ?_
  refine wpAny_bind (wpAny_of_eq (a:=(_,.type "list")) (by first | rfl | kernel_rfl) ?_)
  refine wpAny_bind (hi.here ?_)
  refine KFB.if_not rfl (wpAny_pure ?_)
  exact wpAny_bind (wpAny_newObj_type (wpAny_pure h))
theorem vZ {x C:Addr} {P:Fin→Shared→Prop} (hi:Looks M s.heap (isInstance (.ref x) (.type "list")) true)
  (h:P (.done (.ret (.ref s.heap.objs.size))) { s with heap:=s.heap.push (gS "builtin_function_or_method" "list.pop" x) }) :
  wpAny M A (Builtin.«method_descriptor.__get__» ⟨[.builtin "list.pop", .ref x,.ref C],[]⟩) P E s:=by
 unfold Builtin.«method_descriptor.__get__»
 refine wpAny_bind (wpAny_of_eq (a:=(.builtin "list.pop", some (.ref x),some (.ref C))) (by first | rfl | kernel_rfl) ?_)
 have ht:Manifest.toldItsClass.contains "list.pop" = false:=by decide +kernel
 dsimp only
 simp only [ht,Bool.false_eq_true,if_false]
 refine wpAny_bind (m:=(kfb_private% "checkInstance") _ _) ?_
 refine wpAny_bind (wpAny_of_eq (a:=(_,.type "list")) (by first | rfl | kernel_rfl) ?_)
 refine wpAny_bind (hi.here ?_)
 refine KFB.if_not rfl (wpAny_pure ?_)
 exact wpAny_bind (wpAny_newObj_type (wpAny_pure h))
structure SupOn (M:Model) (h:Heap) (so D x C:Addr) (l:List Value):Prop where
 obj:h.get? so=some { cls:=.type "super", dict:=none,data:=.fields #[.ref D,.ref x,.ref C],slots:=#[] }
 opq:Looks M h (opaqueClassAbove (.ref C)) none
 mro:∃ l₀,Looks M h (mroOf (.ref C)) l₀∧(l₀.dropWhile (· != .ref D)).drop 1=l
 ne:x≠C
structure DescOf (M:Model) (id T B:String) (x C:Addr) (s:Shared):Prop where
 ty:typeOf (.builtin id)=pure (.type T)
 get:∃ gid bi,Slot T "__get__" gid∧entryFor table gid=some bi∧argsOk gid ⟨[.builtin id,.ref x,.ref C],[]⟩∧∀ {A':Around} {P:Fin→Shared→Prop} {Ex:Value→Shared→Prop} {tk:Nat},P (.done (.ret (.ref s.heap.objs.size))) { s with heap:=s.heap.push (gS B id x),toks:=tk } → wpAny M A' (bi ⟨[.builtin id,.ref x,.ref C],[]⟩) P Ex { s with toks:=tk }
theorem CT {so D x C:Addr} {l:List Value} {id T B:String} {name:PySem.Str} {tk:Tok} {Q:Fin→Shared→Prop} (Y:SupOn (model F.prog F.w) s.heap so D x C l) (X:K.In s.heap) (hf:alongIn K name l=some (some (.builtin id))) (Z:DescOf (model F.prog F.w) id T B x C s) (hn:(name==("__class__" : PySem.Str))=false)
  (hq:Q (.done (.ret (.ref s.heap.objs.size))) { s with heap:=s.heap.push (gS B id x) }):wpAny (model F.prog F.w) A (Builtin.«super.__getattribute__» ⟨[.ref so,.str name tk],[]⟩) Q E s:=by
 obtain ⟨l₀,hm,hl⟩:=Y.mro
 obtain ⟨gid,bi,sl,en,ar,run⟩:=Z.get
 unfold Builtin.«super.__getattribute__»
 have ty:s.TypeIs (.builtin id) T:=Z.ty
 refine wpAny_bind (m:=asStr? (.str name tk)) (wpAny_pure (wpAny_bind (m:=asStr? (.str name tk)) (wpAny_pure ?_)))
 refine wpAny_bind (m:=field (.ref so) 0) (wpAny_field Y.obj rfl (x:=.ref D) rfl (wpAny_bind (wpAny_field Y.obj rfl (x:=.ref x) rfl (wpAny_bind (wpAny_field Y.obj rfl (x:=.ref C) rfl ?_)))))
 rw [hn,if_neg (show ¬ ((Value.ref C==Value.none || false)=true) from Bool.false_ne_true)]
 refine wpAny_bind (ks_wpAny_notOpaque Y.opq ?_)
 refine wpAny_bind (m:=mroOf (.ref C)) (hm.here ?_)
 rw [hl]
 refine wpAny_bind (ks_forIn_along X (fun __ __=>rfl) rfl ?_ hf)
 refine wpAny_bind (m:=typeOf (.builtin id)) (wpAny_typeOf ty (wpAny_bind (m:=typeLookup (.type T) "__get__") (wpAny_of_eq sl.lookup ?_)))
 refine wpAny_bind (wpAny_holding ?_)
 rw [if_neg (show ¬ (Value.ref x==Value.ref C)=true by simp [Y.ne])]
 exact wpAny_call_entry sl ty en (run ⟨_,rfl,wpAny_bind (wpAny_pure (wpAny_pure (wpAny_pure hq)))⟩) ar
theorem v3 {so D x C:Addr} {l:List Value} {id T B:String} {name:PySem.Str} {Q:Value→Shared→Prop} (Y:SupOn (model F.prog F.w) s.heap so D x C l) (X:K.In s.heap) (hf:alongIn K name l=some (some (.builtin id))) (Z:DescOf (model F.prog F.w) id T B x C { s with toks:=s.toks+1 }) (hn:(name==("__class__" : PySem.Str))=false)
  (hq:Q (.ref s.heap.objs.size) { s with heap:=s.heap.push (gS B id x),toks:=s.toks+1 }):wpAny (model F.prog F.w) A (getAttr (.ref so) name) Q E s:=by
 have hT:∀ tk,({ s with toks:=tk } : Shared).TypeIs (.ref so) "super" := fun __=>⟨_,Y.obj,rfl⟩
 have S:=PySem.F.ks_slot_super_ga
 refine wpAny_bind (wpAny_mkText (wpAny_holding (wpAny_bind (wpAny_typeOf (hT _) (wpAny_bind (wpAny_of_eq S.lookup ?_))))))
 refine wpAny_bind (m:=hookBefore (.type "super")) (wpAny_of_eq (show hookBefore (.type "super")=pure none from rfl) (wpAny_bind (wpAny_attempt (wpAny_holding ?_))))
 refine wpAny_bind (m:=bindSpecial (.builtin "super.__getattribute__") (.ref so)) (wpAny_of_eq (S.bind _) ?_)
 exact wpAny_call_entry S (hT _) PySem.F.ks_entry_super_ga (CT (s:={ s with toks:=s.toks+1 }) Y X hf Z hn ⟨_,rfl,wpAny_pure hq⟩) (PySem.F.ks_gaArgs_super _ _)
theorem jq {so D x C:Addr} {l:List Value} {id T B:String} {name:PySem.Str} {pl:Sem Bool} {Q:Value×List Value→Shared→Prop} (Y:SupOn (model F.prog F.w) s.heap so D x C l) (X:K.In s.heap) (hf:alongIn K name l=some (some (.builtin id))) (Z:DescOf (model F.prog F.w) id T B x C { s with toks:=s.toks+1 }) (hn:(name==("__class__" : PySem.Str))=false)
  (hq:Q (.ref s.heap.objs.size,[]) { s with heap:=s.heap.push (gS B id x),toks:=s.toks+1 }):wpAny (model F.prog F.w) A (getMethod (.ref so) name pl) Q E s:=by
 refine wpAny_bind (wpAny_specialOf (T := "super") ⟨_,Y.obj,rfl⟩ PySem.F.ks_slot_super_ga.lookup ?_)
 show wpAny _ _ (if (Manifest.canonical "super.__getattribute__" != "object.__getattribute__")=true then _ else _) _ _ _
 rw [if_pos PySem.F.ks_canon_super_ga]
 exact wpAny_bind (v3 Y X hf Z hn (wpAny_pure hq))
theorem zQ {b x:Addr} {B id:String} {pos:Pos} {Q:Value→Shared→Prop} {env:Env} (hB:B = "builtin_function_or_method" ∨ B = "method-wrapper") (hb:s.heap.get? b=some (gS B id x))
  (hq:codeAny (model F.prog F.w) A (.call (.ref b) ⟨[],[]⟩) (wants Q E) s):wpAny (model F.prog F.w) A (callWith pos (.ref b) [] (backTo pos (starEach [] env)) []) Q E s:=by
 refine bJ (by rfl) (cN (env:=env) (es:=[]) (Calls.spliced_nil ⟨⟨.machine,fun A E Q hq=>?_⟩,wpAny_call hq⟩))
 unfold keeperOf
 refine wpAny_bind (wpAny_load hb ?_)
 have h1:(Value.type B != Value.type "method")=true:=by rcases hB with rfl | rfl<;>decide
 have h2:(Value.type B==Value.type "builtin_function_or_method" || Value.type B==Value.type "method-wrapper")=true:=by rcases hB with rfl | rfl<;>decide
 simp only [h1,h2,if_true]
 exact wpAny_pure hq
theorem rZ {as:Args} : (Code.builtin "list.__len__" as).quiet=true:=Code.quiet_builtin _ (by decide +kernel)
theorem pg {as:Args} : (Code.builtin "list.__init__" as).quiet=true:=Code.quiet_builtin _ (by decide +kernel)
theorem r6 {as:Args} : (Code.builtin "list.pop" as).quiet=true:=Code.quiet_builtin _ (by decide +kernel)
theorem ph (x:Value):checkBoundCall "list.__len__" ⟨[x],[]⟩=pure ():=by first | kernel_rfl | rfl
theorem ml (x:Value):checkBoundCall "list.__init__" ⟨[x],[]⟩=pure ():=by first | kernel_rfl | rfl
theorem iL {b x:Addr} {id:String} {R:Result→Shared→Prop} {bi:Builtin} (hid:plainId id=true) (hq:∀ {as},(Code.builtin id as).quiet=true) (hc:checkBoundCall id ⟨[.ref x],[]⟩=pure ()) (hent:entryFor table id=some bi) (hb:s.heap.get? b=some (gS "method-wrapper" id x))
  (h:wpAny (model F.prog F.w) A.in1 (bi ⟨[.ref x],[]⟩) (fun fin s'=>match fin with | .done f=>R (.ok f) s' | .again c'=>c'.quiet=true∧codeAny (model F.prog F.w) A c' R s') (fun e s'=>R (.error e) s') s) :
  codeAny (model F.prog F.w) A (.call (.ref b) ⟨[],[]⟩) R s:=by
 refine codeAny_of_tree ?_
 show wpAny _ A.in1 (callAny (.ref b) ⟨[],[]⟩) _ _ _
 unfold callAny
 refine wpAny_bind (wpAny_load hb ?_)
 dsimp only
 rw [if_pos (by decide)]
 refine wpAny_bind (wpAny_of_eq hc ?_)
 refine wpAny_pure ⟨hq,codeAny_builtin hent ?_⟩
 rw [Around.under_plainId hid]
 exact h
theorem pj (x:Value):(match Manifest.signature? "list.pop" with | some sig=>Bind.checkArgs "list.pop" { sig with full := "_Accumulator.pop" } ⟨[x],[]⟩ | none=>pure ())=pure ():=by kernel_rfl
theorem pn:Bind.lastOf "list.pop" = "pop" := by decide +kernel
theorem po {x D:Addr} {ox oD:Obj} {od:Option Obj} {cd:ClassData} {Q:Unit→Shared→Prop} (X:K.In s.heap) (I:InstAt s.heap x ox D od) (hm:mroIn K D (.type "module")=some false) (hD:clsIn K D=some cd) (hqn:cd.qualname.toString = "_Accumulator") (hT:typeIn K (.ref D)=some (.type "type")) (q:Q () s) :
  wpAny (model F.prog F.w) A (checkBoundCall "list.pop" ⟨[.ref x],[]⟩) Q E s:=by
 cases hs:Manifest.signature? "list.pop" with
 |none=>
  unfold checkBoundCall
  simp only [hs]
  exact wpAny_pure q
 |some sig=>
 have hall:Bind.checkArgs "list.pop" { sig with full := "_Accumulator.pop" } ⟨[.ref x],[]⟩=pure ():=by
  have:=pj (.ref x)
  rw [hs] at this
  exact this
 have hv:Manifest.varargsMethods.contains "list.pop" = false:=by decide +kernel
 unfold checkBoundCall
 simp only [hs,vY]
 rw [if_neg (by decide)]
 have L1:Looks (model F.prog F.w) s.heap (isInstance (.ref x) (.type "module")) false:=I.type.andThen (looks_mroIn X hm)
 refine wpAny_bind (L1.here ?_)
 rw [hv]
 refine KFB.if_not rfl ?_
 have hnc:∀ c,ox.data ≠ .cls c:=fun c e=>by have:=I.no;unfold notCls at this;rw [e] at this;exact Bool.noConfusion this
 obtain ⟨hh,g,d,t,os⟩:=s
 refine wpAny_bind (ks_wpAny_isType_inst I.at_ hnc ?_)
 refine KFB.if_not rfl ?_
 refine wpAny_bind (I.type.here ?_)
 dsimp only
 refine wpAny_bind ((looks_clsIn X hD).here ?_)
 refine wpAny_bind ((looks_typeIn X hT).here ?_)
 refine KFB.if_so (by decide) ?_
 have hfull:(toString cd.qualname.toString++toString "." ++ toString (Bind.lastOf "list.pop"):String) = "_Accumulator.pop" := by rw [hqn,pn];decide
 rw [hfull,hall]
 exact wpAny_pure q
end
end Internal
namespace Internal
structure LawAt (F:Fix):Prop where
 inK:∀ a o,(KK F.w.params).lookup a=some o→F.h.get? a=some o∧a ∉ F.tabs
 prog:F.prog=PySem.Challenge.rw_tr0030_01.prog
 nolimit:F.h.NoLimit
 tabs:F.tabs=[163,77,84]
 gl:∃ mg mb,F.h.Ns mainGlobals mg∧F.h.Ns builtinsNs mb∧∀ x:Str,x ≠ "__name__" → mb x=bootBuiltins x
 bm:∀ mg,F.h.Ns mainGlobals mg→∃ bm ob,mg "__builtins__" = some (.ref bm)∧bm≠builtinsNs∧bm ∉ F.tabs∧F.h.get? bm=some ob∧ob.cls = .type "module" ∧ ob.dict=some builtinsNs∧ob.data = .plain
noncomputable def aB (P:Params) (f:Addr):FuncData:=match (KK P).lookup f with | some ⟨_,_,.func fd,_⟩=>fd | _=>yM 0 .none .none .none
noncomputable def CU (P:Params) (f:Addr):Bool:=match (KK P).lookup f with
 |some ⟨_,_,.func fd,_⟩=>(match fd.code with
  | .ref c=>(match (KK P).lookup c with
   |some ⟨_,_,.fields vs,_⟩=>(match (vs[1]? : Option Value) with | some (.str q _)=>q==fd.qualname | _=>false)
   |_=>false)
  |_=>false)
 |_=>false
section
variable {F:Fix} {N:Nat} {A:Around} {s:Shared} {ρ:Rg} {σ:St}
theorem LawAt.K (L:LawAt F) (I:Inv F s ρ σ):(KK F.w.params).In s.heap:=fun a o e=>I.base a o (L.inK a o e).2 (L.inK a o e).1
set_option tactic.hygienic true in
theorem pp (L:LawAt F) {f:Addr} (h:CU F.w.params f=true):FnAt F f (aB F.w.params f):=by
 unfold CU at h
 split at h
 ·rename_i oc od fd osl hf
  have e:aB F.w.params f=fd:=by unfold aB;rw [hf]
  rw [e]
  split at h
  ·rename_i c hc
   split at h
   ·rename_i cc ccd vs ccs hk
    split at h
    ·rename_i q t hv
     rw [beq_iff_eq.mp h] at hv
     have hcst:cStatics ∉ F.tabs:=by rw [L.tabs];decide
     exact ⟨⟨_,(L.inK _ _ hf).1,rfl⟩,(L.inK _ _ hf).2,⟨c,_,vs,t,hc,(L.inK _ _ hk).1,rfl,hv,(L.inK _ _ hk).2⟩,L.nolimit,hcst⟩
    ·cases h
   ·cases h
  ·cases h
 ·cases h
set_option tactic.hygienic true in
theorem mo {K:Frag} {h:Heap} {mg:Str→Option Value} {n:Str} {r:Option Value} (X:∀ a o,K.lookup a=some o→h.get? a=some o) (G:h.Ns mainGlobals mg) (e:nsIn K mainGlobals n=some r):mg n=r:=by
 obtain ⟨o,es,ep,ho,hd,_,hf⟩:=G
 unfold nsIn at e
 split at e
 ·rename_i c d es' n' sl q
  have:=X _ _ q
  rw [ho] at this
  cases this
  cases hd
  rw [←hf]
  unfold nsFind findBy
  rw [←Array.find?_toList]
  split at e
  ·rename_i en he
   cases e
   rw [he]
   rfl
  ·rename_i he
   rw [he]
   split at e
   ·cases e
   ·cases e;rfl
 ·cases e
theorem LawAt.Kh (L:LawAt F):∀ a o,(KK F.w.params).lookup a=some o→F.h.get? a=some o:=fun a o e=>(L.inK a o e).1
theorem ce (L:LawAt F):mainGlobals ∉ F.tabs∧builtinsNs ∉ F.tabs:=by rw [L.tabs];decide
theorem v4 (L:LawAt F) (I:Inv F s ρ σ) {env:Env} {x:Str} {v:Value} {Q:Value→Shared→Prop} {E:Value→Shared→Prop} (hk:env.scope.kind = .function) (hx:env.kindOf x=some .globalImplicit) (hg:env.globals=mainGlobals) (hb:env.builtins=builtinsNs)
  (e:nsIn (KK F.w.params) mainGlobals x=some none) (hv:bootBuiltins x=some v) (hn:x ≠ "__name__") (h:Q v s):wpAny (model F.prog F.w) A (loadName env x) Q E s:=by
 obtain ⟨mg,mb,g1,g2,g3⟩:=L.gl
 have a1:s.heap.Ns env.globals mg:=by rw [hg];exact I.baseNs (ce L).1 g1
 have a2:s.heap.Ns env.builtins mb:=by rw [hb];exact I.baseNs (ce L).2 g2
 refine ks_loadName_global hk hx ?_
 exact Calls.loadGlobal_builtin a1 (mo L.Kh g1 e) a2 ((g3 x hn).trans hv) h
theorem yh {f:Addr} {fd:FuncData} {body:List Stmt} {binds:List (Str×Value)} {vs:List Value} {R:Result→Shared→Prop} (X:FnAt F f fd) (hbody:fd.body = .stmts body)
  (hb:(∀ (M:Model) (A:Around) (E:Value→Shared→Prop) (Q:List (Str×Value)→Shared→Prop),Q binds s→wpAny M A (bindArgs fd ⟨vs,[]⟩) Q E s)) (hcell:∀ x∈fd.scope.names,x.2 ≠ .cell) (hloc:∀ x∈binds,fd.scope.names.lookup x.1=some .local) (hco:fd.scope.isCoroutine=false) (hgen:fd.scope.isGenerator=false) (hk:fd.scope.kind = .function)
  (hA:AOk (N+1) A) (I:Inv F s ρ σ)
  (h:∀ s₁ L,Inv F s₁ ρ σ→s₁.heap.Ns L (fun x=>binds.reverse.lookup x)→(∀ b o,s.heap.get? b=some o→s₁.heap.get? b=some o)→s.heap.get? L=none→AOk N (A.deeper (callEnv fd L f)) →
   _root_.PySem.wpAt (model F.prog F.w) (A.deeper (callEnv fd L f)) (.func body (callEnv fd L f)) (execs body (callEnv fd L f)) (fun g s'=>R (.ok (.ret (match g with | .ret v=>v | _=>.none))) s') (fun __ __=>False) s₁) :
  codeAny (model F.prog F.w) A (.call (.ref f) ⟨vs,[]⟩) R s:=by
 obtain ⟨o,ho,hd⟩:=X.obj
 have hroom:A.depth < recursionLimit:=by have:=hA.2.1;omega
 refine ks_codeAny_call_defAt hroom (I.base f o X.tab ho) hd (X.limit I) (X.codeRec I) hbody hb hcell hloc (fun h₀ hns k=>?_) hco hgen hk
 exact ks_wpAt_mono (h _ s.heap.objs.size (I.heap k _) hns k (an _ (Nat.le_refl _)) (hA.deeper _)) (fun __ __ z=>z) fun __ __ z=>z.elim
theorem r7 {fd:FuncData} {L f:Addr} {xs:List (Str×AV)} {m:Str→Option Value} (hk:fd.scope.kind = .function) (hg:fd.globals=mainGlobals) (hb:fd.builtins=builtinsNs) (I:Inv F s ρ σ) (hns:s.heap.Ns L m) (hL:L ∉ ρ.l) (hFL:F.h.get? L=none)
  (hm:∀ x av,xs.lookup x=some av→∃ v,m x=some v∧VR s.heap ρ av v) (hx:∀ x av,xs.lookup x=some av→fd.scope.names.lookup x=some .local)
  (hc:∀ x c,fd.closure.lookup x=some c→c ∉ ρ.l∧∃ v,s.heap.IsCell c v) (hinj:∀ x y c,fd.closure.lookup x=some c→fd.closure.lookup y=some c→x=y) :
  EnvR F s.heap ρ (callEnv fd L f) { names:=fd.scope.names,own:=[],vars:=xs }:=
 ⟨hk,rfl,hg,hb,⟨hL,hFL⟩,⟨m,hns,fun x av e __=>hm x av e⟩,fun x av e hk=>(show False from by
  have:=hx x av e
  have hk:fd.scope.names.lookup x=some .cell∨fd.scope.names.lookup x=some .free:=hk
  rw [this] at hk
  rcases hk with hk | hk<;>cases hk).elim,fun x hx=>(nomatch hx),hc,hinj⟩
end
end Internal
namespace Internal
noncomputable def nN (P:Params) (f:Addr):Option Str:=match (aB P f).code with
 | .ref c=>(match (KK P).lookup c with
  |some ⟨_,_,.fields vs,_⟩=>(match (vs[2]? : Option Value) with | some (.str q _)=>some q | _=>none)
  |_=>none)
 |_=>none
structure SupFn (P:Params) (f:Addr):Prop where
 ok:CU P f=true
 sup:(aB P f).scope.names.lookup ("super" : Str)=some .globalImplicit
 cls:(aB P f).scope.names.lookup ("__class__" : Str)=some .free
 self:(aB P f).scope.names.lookup ("self" : Str)=some .local
 kind:(aB P f).scope.kind = .function
 cor:(aB P f).scope.isCoroutine=false
 gen:(aB P f).scope.isGenerator=false
 cell:(aB P f).scope.names.all (fun x=>x.2 != .cell)=true
 par:((aB P f).params.posonlyargs++(aB P f).params.args).head?.map (·.arg)=some "self"
 clo:(aB P f).closure=[(("__class__" : Str),39)]
 glo:(aB P f).globals=mainGlobals
 blt:(aB P f).builtins=builtinsNs
 file:nN P f=some PySem.Challenge.rw_tr0030_01.prog.main.file
theorem mq (P:Params):SupFn P 112:=(by refine ⟨?_,?_,?_,?_,?_,?_,?_,?_,?_,?_,?_,?_,?_⟩<;>kernel_rfl)
theorem r8 (P:Params):SupFn P 75:=(by refine ⟨?_,?_,?_,?_,?_,?_,?_,?_,?_,?_,?_,?_,?_⟩<;>kernel_rfl)
theorem r9 (P:Params):SupFn P 52:=(by refine ⟨?_,?_,?_,?_,?_,?_,?_,?_,?_,?_,?_,?_,?_⟩<;>kernel_rfl)
theorem se:(PySem.Challenge.rw_tr0030_01.prog.main.scope.names.lookup ("super" : Str)).isSome=false:=by kernel_rfl
theorem v5 (P:Params):nsIn (KK P) mainGlobals "super" = some none:=by kernel_rfl
noncomputable def sf (P:Params) (a:Addr) (v:Value):Bool:=match (KK P).lookup a with | some ⟨_,_,.cell (some u),_⟩=>u==v | _=>false
theorem sj (P:Params):sf P 39 (.ref 115)=true:=by kernel_rfl
noncomputable def yi (P:Params):Bool:=match clsIn (KK P) 115 with
 |some cd=>cd.mro==[.ref 115,.type "list", .type "object"]&&cd.qualname.toString == "_Accumulator"
 |none=>false
theorem zR (P:Params):yi P=true:=by kernel_rfl
theorem nO (P:Params):mroIn (KK P) 115 (.ref 115)=some true:=by kernel_rfl
theorem jr (P:Params):mroIn (KK P) 115 (.type "module")=some false:=by kernel_rfl
theorem v6 (P:Params):typeIn (KK P) (.ref 115)=some (.type "type"):=by kernel_rfl
theorem opq (P:Params):nsIn (KK P) cStatics "thirdparty.any" = some none:=by kernel_rfl
theorem pv:bootBuiltins "super" = some (.type "super"):=by kernel_rfl
section
variable {F:Fix} {N:Nat} {A:Around} {s:Shared} {ρ:Rg} {σ:St} {E:Value→Shared→Prop}
set_option tactic.hygienic true in
theorem fe (P:Params):∃ cd,clsIn (KK P) 115=some cd∧cd.mro=[.ref 115,.type "list", .type "object"]∧cd.qualname.toString = "_Accumulator" := by
 have h:=zR P
 unfold yi at h
 split at h
 ·rename_i cd hc
  rw [Bool.and_eq_true] at h
  exact ⟨cd,hc,eq_of_beq h.1,eq_of_beq h.2⟩
 ·cases h
set_option tactic.hygienic true in
theorem zS {K:Frag} {h:Heap} {D:Addr} {cd:ClassData} (X:K.In h) (e:clsIn K D=some cd):∃ oD,h.get? D=some oD∧oD.data = .cls cd:=by
 unfold clsIn at e
 split at e
 ·rename_i c d cd' sl ho
  cases e
  exact ⟨_,X _ _ ho,rfl⟩
 ·cases e
set_option tactic.hygienic true in
theorem v7 (L:LawAt F) {f Lc x:Addr} {ox:Obj} {odx:Option Obj} {body:List Stmt} {p0 p1:Pos} {attr:Str} {whole:Sem Value} {m:Str→Option Value} {Q:Value→Shared→Prop} (Y:SupFn F.w.params f) (I:Inv F s ρ σ) (hat:(attr==("__class__" : Str))=false)
  (hns:s.heap.Ns Lc m) (hself:m "self" = some (.ref x)) (J:InstAt s.heap x ox 115 odx)
  (h:∀ so h',h'.get? so=some (ks_superObj 115 x 115)→(∀ b o,s.heap.get? b=some o→h'.get? b=some o)→Q (.ref so) { s with heap:=h' }) :
  _root_.PySem.wpAt (model F.prog F.w) A (.func body (callEnv (aB F.w.params f) Lc f)) (attributeBase (.Call (.Name "super" p0) [] [] p1) attr (callEnv (aB F.w.params f) Lc f) whole) Q E s:=by
 have X:=L.K I
 obtain ⟨o,ho,hd⟩:=(pp L Y.ok).obj
 obtain ⟨ar,har,hsf⟩:=Option.map_eq_some_iff.mp Y.par
 obtain ⟨cd,hcd,hmro,_⟩:=fe F.w.params
 obtain ⟨oD,hD1,hD2⟩:=zS X hcd
 have hfile:=Y.file
 unfold nN at hfile
 split at hfile
 ·rename_i cc hcc
  split at hfile
  ·rename_i c1 c2 vs c3 hlk
   split at hfile
   ·rename_i q tq hv
    cases hfile
    have hcl:=sj F.w.params
    unfold sf at hcl
    split at hcl
    ·rename_i d1 d2 u d3 hc39
     have hu:u = .ref 115:=eq_of_beq hcl
     subst hu
     obtain ⟨hh,g,d,t,os⟩:=s
     have hkl:(callEnv (aB F.w.params f) Lc f).kindOf "super" = some .globalImplicit:=Y.sup
     refine ks_wpAt_super_base hkl Y.cls hat rfl (I.base f o (pp L Y.ok).tab ho) hd har hcc (X _ _ hlk) rfl hv (by rw [L.prog];simp) (by rw [L.prog];exact se) ?_
     refine v4 L I Y.kind Y.sup Y.glo Y.blt (v5 _) pv (by decide) ⟨rfl,?_⟩
     refine wpAny_loadName_free Y.kind Y.cls (show List.lookup _ (aB F.w.params f).closure=some 39 by rw [Y.clo];rfl) ⟨_,X _ _ hc39,rfl⟩ ?_
     rw [hsf]
     refine wpAny_loadName_local Y.kind Y.self hns hself ?_
     refine ks_wpAny_isType_cls hD1 hD2 ⟨rfl,?_⟩
     refine ks_wpAny_call_super hD1 hD2 J.at_ J.cls (fun c e=>?_) (looks_mroIn X (nO _)) (fun h' e k=>h _ _ e k)
     have:=J.no
     unfold notCls at this
     rw [e] at this
     exact Bool.noConfusion this
    ·cases hcl
   ·cases hfile
  ·cases hfile
 ·cases hfile
end
end Internal
namespace Internal
theorem Gz (P:Params):∃ p0 p1 p2 p3 p4,(aB P 112).body = .stmts [.Return (some (.Call (.Attribute (.Call (.Name "super" p0) [] [] p1) "__len__" p2) [] [] p3)) p4]∧(p2.endLine==p3.line)=true:=⟨_,_,_,_,_,by with_unfolding_all rfl,by rfl⟩
theorem zT (P:Params) (v:Value):bindArgs (aB P 112) ⟨[v],[]⟩=pure [(("self" : Str),v)]:=by kernel_rfl
theorem sk (P:Params):alongIn (KK P) "__len__" [.type "list", .type "object"]=some (some (.builtin "list.__len__")):=by kernel_rfl
theorem sm (P:Params):alongIn (KK P) "pop" [.type "list", .type "object"]=some (some (.builtin "list.pop")):=by kernel_rfl
theorem pw (P:Params):alongIn (KK P) "__init__" [.type "list", .type "object"]=some (some (.builtin "list.__init__")):=by kernel_rfl
structure AccQ where
 i:Nat
 d:Nat
 l:List AV
 m:List (Str×AV)
noncomputable def js (σ:St) (i:Nat):Option AccQ:=match σ[i]? with
 |some (.acc D d l)=>if D=115 then (pX σ d).map fun m=>⟨i,d,l,m⟩ else none
 |_=>none
noncomputable def bv (σ:St) (a:AV):Option AccQ:=(ia a).bind fun i=>js σ i
noncomputable def il:Fn:=fun avs σ=>one avs fun a=>(bv σ a).bind fun q=>if q.l.length≤Hk then some (.int q.l.length,σ,true) else none
section
variable {F:Fix} {N:Nat} {A:Around} {s:Shared} {ρ:Rg} {σ σ':St} {E:Value→Shared→Prop} {a:AV} {v:Value} {p:Bool}
theorem nP {l:List (Str×NameKind)} (h:l.all (fun x=>x.2 != .cell)=true):∀ x∈l,x.2 ≠ .cell:=fun x hx e=>by
 have:=List.all_eq_true.mp h x hx
 rw [e] at this
 exact absurd this (by decide)
theorem pC {h h':Heap} {x C:Addr} {ox:Obj} {od:Option Obj} (J:InstAt h x ox C od) (k:∀ b o,h.get? b=some o→h'.get? b=some o):InstAt h' x ox C od:=by
 obtain ⟨a,b,c,d⟩:=J
 refine ⟨k _ _ a,b,c,?_⟩
 cases hx:ox.dict with
 |none=>cases od with
  |none=>trivial
  |some o=>rw [hx] at d;exact d
 |some dx=>cases od with
  |none=>rw [hx] at d;exact d
  |some o=>rw [hx] at d;exact k _ _ d
set_option tactic.hygienic true in
theorem dq {q:AccQ} {G:Prop} (h:bv σ a=some q) (r:VR s.heap ρ a v) (k:∀ b,a = .ref q.i→v = .ref b→ρ.l[q.i]? = some b→σ[q.i]? = some (.acc 115 q.d q.l)→σ[q.d]? = some (.ns q.m)→G):G:=ad h fun i e1 h2=>by
 have e:=bq e1
 subst e
 unfold js at h2
 split at h2
 ·rename_i D d l hi
  refine aV h2 fun hD h3=>ao h3 fun m hm e=>?_
  subst hD e
  obtain ⟨b,rfl,hb⟩:=r
  exact k b rfl rfl hb hi (gc hm)
 ·exact aa h2
theorem fE (L:LawAt F) {f Lc x:Addr} {ox:Obj} {odx:Option Obj} {body:List Stmt} {p0 p1 apos pos:Pos} {id T B gid:String} {bi:Builtin} {name:Str} {m:Str→Option Value} {Q:Value→Shared→Prop} (Y:SupFn F.w.params f) (I:Inv F s ρ σ) (hat:(name==("__class__" : Str))=false)
  (hns:s.heap.Ns Lc m) (hself:m "self" = some (.ref x)) (J:InstAt s.heap x ox 115 odx)
  (hf:alongIn (KK F.w.params) name [.type "list", .type "object"]=some (some (.builtin id))) (hty:typeOf (.builtin id)=pure (.type T)) (hsl:Slot T "__get__" gid) (hent:entryFor table gid=some bi) (hargs:argsOk gid ⟨[.builtin id,.ref x,.ref 115],[]⟩)
  (hB:B = "builtin_function_or_method" ∨ B = "method-wrapper")
  (hrun:∀ {s':Shared} {A':Around} {P:Fin→Shared→Prop} {Ex:Value→Shared→Prop},Looks (model F.prog F.w) s'.heap (isInstance (.ref x) (.type "list")) true→P (.done (.ret (.ref s'.heap.objs.size))) { s' with heap:=s'.heap.push (gS B id x) } → wpAny (model F.prog F.w) A' (bi ⟨[.builtin id,.ref x,.ref 115],[]⟩) P Ex s')
  (hline:(apos.endLine==pos.line)=true)
  (h:∀ b h' tk,h'.get? b=some (gS B id x)→(∀ b o,s.heap.get? b=some o→h'.get? b=some o)→codeAny (model F.prog F.w) A (.call (.ref b) ⟨[],[]⟩) (wants Q E) { s with heap:=h',toks:=tk }) :
  _root_.PySem.wpAt (model F.prog F.w) A (.func body (callEnv (aB F.w.params f) Lc f)) (eval (.Call (.Attribute (.Call (.Name "super" p0) [] [] p1) name apos) [] [] pos) (callEnv (aB F.w.params f) Lc f)) Q E s:=by
 have hxC:x≠115:=by
  obtain ⟨cd,hcd,_⟩:=fe F.w.params
  exact ks_ne (L.K I) J hcd
 obtain ⟨cd,hcd,hmro,_⟩:=fe F.w.params
 rw [show eval (.Call (.Attribute (.Call (.Name "super" p0) [] [] p1) name apos) [] [] pos) (callEnv (aB F.w.params f) Lc f)=_ from arm_eval_Call ..]
 refine _root_.PySem.wpAt_bind (v7 L Y I hat hns hself J fun so h' hso k=>?_)
 refine _root_.PySem.wpAt_of_wpAny (wpAny_bind (wpAny_standAt ?_))
 have X:(KK F.w.params).In h':=fun a o e=>k a o (L.K I a o e)
 have J':InstAt h' x ox 115 odx:=pC J k
 have hL:Looks (model F.prog F.w) h' (isInstance (.ref x) (.type "list")) true:=bE (s:={ s with heap:=h' }) X (er _) J'
 unfold methodCall
 refine wpAny_bind (wpAny_holding ?_)
 unfold calleeOf
 rw [if_pos (by rfl)]
 have Y:SupOn (model F.prog F.w) h' so 115 x 115 [.type "list", .type "object"]:=⟨hso,looks_opaque X (opq _),⟨cd.mro,fun A Q E s k q=>wpAny_bind ((looks_clsIn X hcd) A _ E s k (wpAny_pure q)),by rw [hmro];decide⟩,hxC⟩
 refine jq (s:={ s with heap:=h' }) Y X hf ⟨hty,gid,bi,hsl,hent,hargs,fun {A' P Ex tk} hp=>hrun (s':={ s with heap:=h',toks:=tk }) hL hp⟩ hat ?_
 refine wpAny_bind ?_
 unfold methodCallPos
 rw [if_pos (by rw [hline];rfl)]
 refine wpAny_pure ?_
 exact zQ (env:=callEnv (aB F.w.params f) Lc f) hB (Heap.get?_push_size _ rfl) (h _ _ _ (Heap.get?_push_size _ rfl) fun b o e=>Heap.get?_push_of_some _ (k b o e))
theorem cP {α:Type} {y k:Str} {v w:α} (h:List.lookup y [(k,v)]=some w):y=k∧w=v:=by
 rw [List.lookup_cons] at h
 cases hb:(y==k) with
 |true=>rw [hb] at h;cases h;exact ⟨eq_of_beq hb,rfl⟩
 |false=>rw [hb] at h;cases h
theorem v8 (L:LawAt F) (I:Inv F s ρ σ) {a:Addr} {o:Obj} (h:(KK F.w.params).lookup a=some o):a ∉ ρ.l:=fun hm=>by
 rcases I.fresh a hm with h' | h'
 ·exact (L.inK a o h).2 h'
 ·rw [(L.inK a o h).1] at h';cases h'
set_option tactic.hygienic true in
theorem sn (L:LawAt F) (I:Inv F s ρ σ):(39 ∉ ρ.l)∧s.heap.IsCell 39 (some (.ref 115)):=by
 have hcl:=sj F.w.params
 unfold sf at hcl
 split at hcl
 ·rename_i d1 d2 u d3 hc39
  have hu:u = .ref 115:=eq_of_beq hcl
  subst hu
  exact ⟨v8 L I hc39,_,L.K I _ _ hc39,rfl⟩
 ·cases hcl
theorem v9 (L:LawAt F) {f Lc x:Addr} {i:Nat} (Y:SupFn F.w.params f) (I:Inv F s ρ σ) {m:Str→Option Value} (hns:s.heap.Ns Lc m) (hL:Lc ∉ ρ.l) (hFL:F.h.get? Lc=none) (hself:m "self" = some (.ref x)) (hx:ρ.l[i]? = some x) :
  EnvR F s.heap ρ (callEnv (aB F.w.params f) Lc f) { names:=(aB F.w.params f).scope.names,own:=[],vars:=[("self", .ref i)] }:=by
 refine r7 Y.kind Y.glo Y.blt I hns hL hFL (fun y av e=>?_) (fun y av e=>?_) (fun y c e=>?_) (fun y z c ey ez=>?_)
 ·obtain ⟨rfl,rfl⟩:=cP e;exact ⟨_,hself,x,rfl,hx⟩
 ·obtain ⟨rfl,rfl⟩:=cP e;exact Y.self
 ·rw [Y.clo] at e
  obtain ⟨rfl,rfl⟩:=cP e
  exact ⟨(sn L I).1,_,(sn L I).2⟩
 ·rw [Y.clo] at ey ez
  rw [(cP ey).1,(cP ez).1]
theorem sr (L:LawAt F) {f x:Addr} {i:Nat} {body:List Stmt} {R:Result→Shared→Prop} (Y:SupFn F.w.params f) (hb:(aB F.w.params f).body = .stmts body) (hbt:bindArgs (aB F.w.params f) ⟨[.ref x],[]⟩=pure [(("self" : Str),.ref x)]) (hA:AOk (N+1) A) (I:Inv F s ρ σ) (hx:ρ.l[i]? = some x)
  (h:∀ s₁ Lc m,Inv F s₁ ρ σ→EnvR F s₁.heap ρ (callEnv (aB F.w.params f) Lc f) { names:=(aB F.w.params f).scope.names,own:=[],vars:=[("self", .ref i)] } → s₁.heap.Ns Lc m→m "self" = some (.ref x)→(∀ b o,s.heap.get? b=some o→s₁.heap.get? b=some o)→AOk N (A.deeper (callEnv (aB F.w.params f) Lc f)) →
   _root_.PySem.wpAt (model F.prog F.w) (A.deeper (callEnv (aB F.w.params f) Lc f)) (.func body (callEnv (aB F.w.params f) Lc f)) (execs body (callEnv (aB F.w.params f) Lc f)) (fun g s'=>R (.ok (.ret (zA g))) s') Ht s₁) :
  codeAny (model F.prog F.w) A (.call (.ref f) ⟨[.ref x],[]⟩) R s:=
 yh (pp L Y.ok) hb (fun M A E Q hq=>by rw [hbt];exact wpAny_pure hq) (nP Y.cell) (fun x hx=>by rw [List.mem_singleton.mp hx];exact Y.self) Y.cor Y.gen Y.kind hA I fun s₁ Lc I₁ hns k hd hA₁=>
  h s₁ Lc _ I₁ (v9 L Y I₁ hns (I.dead_out hd).1 (I.base_dead hd) (by rfl) hx) hns (by rfl) k hA₁
theorem zU (L:LawAt F):CodeOk F (N+1) (.ref 112) il:=fun {A s ρ σ avs vs r σ' p} h hA I rv=>
 dW (G:=fun vs=>codeAny (model F.prog F.w) A (.call (.ref 112) ⟨vs,[]⟩) (fun res s'=>match res with | .ok (.ret u)=>Post F [] ρ s.heap σ' p (VV r) u s' | _=>False) s) h rv fun a v __ h ra=>ad h fun q hq h=>al h fun hl e=>dq hq ra fun x __ hv hx hi hd=>by
  cases e
  subst hv
  obtain ⟨p0,p1,p2,p3,p4,hb,hline⟩:=Gz F.w.params
  refine sr L (mq _) hb (zT _ _) hA I hx fun s₁ Lc m I₁ R₁ hns hself k hA₁=>ks_wpAt_execs_cons (ks_wpAt_Return_some ?_)
  obtain ⟨b,us,n,es,kk,e1,e2,hb',R,rl,J⟩:=cM I₁ hx hi hd
  refine fE L (mq _) I₁ (by decide) hns hself J (sk _) CR kR iK (kS _ _ _) (.inr rfl) (fun hL hp=>nM (.inl rfl) hL hp) hline fun b h' tk hbb k'=>?_
  refine iL o8 rZ (ph _) o9 hbb ?_
  show wpAny _ _ (seqSize x >>= fun k=>retInt k) _ _ _
  refine wpAny_bind ?_
  unfold seqSize
  exact wpAny_bind (wpAny_loadPart (k' _ _ e1) (wpAny_pure (wpAny_bind (wpAny_mkInt (wpAny_pure ⟨ρ,I₁.heap k' _,⟨_,by rw [rl.size]⟩,Stp.keeps fun b o e=>k' _ _ (k _ _ e)⟩)))))
end
end Internal
namespace Internal
noncomputable abbrev aq (P:Params) (f:Addr):List Stmt:=match (aB P f).body with | .stmts l=>l | _=>[]
noncomputable def cX:List Stmt→Expr
 | .If t _ _ _::_=>t
 |_=>.Constant .none 0 ⟨0,0,0,0⟩
noncomputable def wa:List Stmt→Expr
 | .If _ [.Return (some v) _] _ _::_=>v
 |_=>.Constant .none 0 ⟨0,0,0,0⟩
theorem HN (P:Params):∃ p0 p1 p2 p3 p4 q u,(aB P 75).body = .stmts [.If (cX (aq P 75)) [.Return (some (wa (aq P 75))) u] [] q,
  .Return (some (.Call (.Attribute (.Call (.Name "super" p0) [] [] p1) "pop" p2) [] [] p3)) p4]∧(p2.endLine==p3.line)=true:=⟨_,_,_,_,_,_,_,by with_unfolding_all rfl,by rfl⟩
theorem CV (P:Params) (v:Value):bindArgs (aB P 75) ⟨[v],[]⟩=pure [(("self" : Str),v)]:=by kernel_rfl
noncomputable def yj (σ:St) (q:AccQ):Option (AV×St×Bool):=if 0 < q.l.length∧q.l.length≤Hk then (q.l[q.l.length - 1]?).map fun x=>(x,σ.set q.i (.acc 115 q.d (q.l.eraseIdx (q.l.length - 1))),false) else none
noncomputable abbrev dw (P:Params) (f:Addr) (a:AV):AEnv:={ names:=(aB P f).scope.names,own:=[],vars:=[("self", a)] }
noncomputable def nQ (P:Params) (C:Cfg) (a:AV) (c:Bool) (σ:St):Option (AV×St×Bool):=match c with
 |true=>Hs 6 C (dw P 75 a) σ (wa (aq P 75))
 |false=>opt (bv σ a) (yj σ)
noncomputable def CW (P:Params) (C:Cfg):Fn:=fun avs σ=>one avs fun a=>(bv σ a).bind fun __=>Hp (atest 6 C (dw P 75 a) σ (cX (aq P 75))) (nQ P C a)
section
variable {F:Fix} {C:Cfg} {N:Nat} {A:Around} {s:Shared} {ρ:Rg} {σ σ':St} {E:Value→Shared→Prop} {p:Bool}
theorem wb (I:Inv F s ρ σ) {j D d:Nat} {b bd:Addr} {vs us:Array Value} {n m:Nat} {l:List AV} {h':Heap} (hb:ρ.l[j]? = some b) (hbd:ρ.l[d]? = some bd) (ho:s.heap.get? b=some { cls:=.ref D,dict:=some bd,data:=.seq vs n }) (hs:Heap.SameBut b s.heap h')
  (hn:h'.get? b=some { cls:=.ref D,dict:=some bd,data:=.seq us m }) (r:VRs s.heap ρ l us.toList) (tk:Nat) :
  Inv F { s with heap:=h',toks:=tk } ρ (σ.set j (.acc D d l))∧∀ fa,Stp fa false ρ s.heap ρ h':=by
 have hk:∀ b' o,b'≠b→s.heap.get? b'=some o→h'.get? b'=some o:=fun b' o hne e=>hs.extBut b' o hne e
 exact I.setObj (i:=j) (o:=.acc D d l) tk hb hk hn ⟨bd,us,m,hbd,hn,VRs.rg (fun b' ob hb' hi e=>⟨hb',hk b' ob (fun q=>hb'.1 (q▸List.mem_of_getElem? hb)) e⟩) (fun __ __ e=>e) l _ r⟩
theorem kT {x D b:Addr} {vs:Array Value} {n:Nat} {y:Value} {Q:Fin→Shared→Prop} {E:Value→Shared→Prop}
  (ho:s.heap.get? x=some { cls:=.ref D,dict:=some b,data:=.seq vs n }) (hy:vs[vs.size - 1]? = some y) (hpos:0 < vs.size) (hsz:vs.size≤sizeLine)
  (hQ:∀ h' m,Heap.SameBut x s.heap h'→h'.get? x=some { cls:=.ref D,dict:=some b,data:=.seq (vs.eraseIdxIfInBounds (vs.size - 1)) m } → Q (.done (.ret y)) { s with heap:=h' }) :
  wpAny (model F.prog F.w) A (Builtin.«list.pop» ⟨[.ref x],[]⟩) Q E s:=by
 show wpAny _ _ (Builtin.List.listItems (.ref x) >>= _) _ _ s
 refine wpAny_bind ?_
 unfold Builtin.List.listItems
 refine wpAny_bind (wpAny_seqItems ho rfl (wpAny_pure ?_))
 have he:vs.isEmpty=false:=by simpa [Array.isEmpty] using Nat.ne_of_gt hpos
 rw [he,if_neg (by decide)]
 have e:((seqIndex? (-1) vs.size).bind fun k=>vs[k]?.map (k,·))=some (vs.size - 1,y):=by
  have:seqIndex? (-1) vs.size=some (vs.size - 1):=by
   rw [seqIndex_neg (by omega) (by omega)];congr 1;omega
  rw [this,Option.bind_some,hy];rfl
 rw [e]
 have D':=Heap.get?_update_self (Obj.mapSeq (·.eraseIdxIfInBounds (vs.size - 1))) ho rfl
 have hse:(vs.eraseIdxIfInBounds (vs.size - 1)).size≤sizeLine+1:=by
  unfold Array.eraseIdxIfInBounds
  rw [dif_pos (by omega),Array.size_eraseIdx];omega
 refine wpAny_bind (wpAny_updateSeq (hz:=hsz) (_hz':=hse) ho rfl ?_)
 exact wpAny_pure (hQ _ _ (Heap.SameBut.update ..) D')
theorem ss (L:LawAt F) (I:Inv F s ρ σ) {b x:Addr} {R:Result→Shared→Prop} {ox:Obj} {od:Option Obj} (J:InstAt s.heap x ox 115 od) (hb:s.heap.get? b=some (gS "builtin_function_or_method" "list.pop" x))
  (h:wpAny (model F.prog F.w) A.in1 (Builtin.«list.pop» ⟨[.ref x],[]⟩) (fun fin s'=>match fin with | .done f=>R (.ok f) s' | .again c'=>c'.quiet=true∧codeAny (model F.prog F.w) A c' R s') (fun e s'=>R (.error e) s') s) :
  codeAny (model F.prog F.w) A (.call (.ref b) ⟨[],[]⟩) R s:=by
 obtain ⟨cd,hcd,hmro,hqn⟩:=fe F.w.params
 refine codeAny_of_tree ?_
 show wpAny _ A.in1 (callAny (.ref b) ⟨[],[]⟩) _ _ _
 unfold callAny
 refine wpAny_bind (wpAny_load hb ?_)
 dsimp only
 rw [if_pos (by decide)]
 refine wpAny_bind (po (oD:=ox) (L.K I) J (jr _) hcd hqn (v6 _) ?_)
 refine wpAny_pure ⟨r6,codeAny_builtin PySem.F.entry_list_pop ?_⟩
 rw [Around.under_plainId rW]
 exact h
theorem zV (L:LawAt F) {Lc x:Addr} {q:AccQ} {r:AV} {body:List Stmt} {p0 p1 p2 p3:Pos} {m:Str→Option Value} (hline:(p2.endLine==p3.line)=true) (h:yj σ q=some (r,σ',p)) (I:Inv F s ρ σ) (hns:s.heap.Ns Lc m) (hself:m "self" = some (.ref x)) (hx:ρ.l[q.i]? = some x) (hi:σ[q.i]? = some (.acc 115 q.d q.l)) (hd:σ[q.d]? = some (.ns q.m)) :
  _root_.PySem.wpAt (model F.prog F.w) A (.func body (callEnv (aB F.w.params 75) Lc 75)) (eval (.Call (.Attribute (.Call (.Name "super" p0) [] [] p1) "pop" p2) [] [] p3) (callEnv (aB F.w.params 75) Lc 75)) (Post F [] ρ s.heap σ' p (VV r)) Ht s:=aV h fun hc h2=>ao h2 fun y hy e=>by
 cases e
 obtain ⟨b,us,n,es,kk,o1,o2,hb',Rn,rl,J⟩:=cM I hx hi hd
 refine fE L (r8 _) I (by decide) hns hself J (sm _) CQ rX pf (rY _ _ _) (.inl rfl) (fun hL hp=>vZ hL hp) hline fun bb' h' tk hbb k'=>?_
 have I₃:Inv F { s with heap:=h',toks:=tk } ρ σ:=I.heap k' tk
 obtain ⟨b,us,n,es,kk,o1,o2,hb',Rn,rl,J⟩:=cM I₃ hx hi hd
 refine ss L I₃ J hbb ?_
 obtain ⟨u,hu,ru⟩:=rl.get hy
 have hu':us[us.size - 1]? = some u:=by rw [rl.size];simpa using hu
 have hpos:0 < us.size:=by rw [rl.size];exact hc.1
 refine kT o1 hu' hpos (aI (by rw [rl.size];exact hc.2)) fun h₄ m₄ hsb hx'=>?_
 obtain ⟨I₄,S₄⟩:=wb (l:=q.l.eraseIdx (q.l.length - 1)) I₃ hx hb' o1 hsb hx' (by rw [dm (Nat.sub_lt hpos Nat.one_pos),rl.size];exact rl.eraseIdx (q.l.length - 1)) tk
 exact ⟨ρ,I₄,VR.mono (S₄ []) _ _ ru,(Stp.keeps (fa:=[]) k').trans (S₄ [])⟩
noncomputable abbrev CX {α:Type} (F:Fix) (A:Around) (body:List Stmt) (env:Env) (m:Sem α) (s:Shared) (G:α→Shared→Prop):Prop:=_root_.PySem.wpAt (model F.prog F.w) A (.func body env) m G Ht s
theorem we (L:LawAt F) (KC:CfgOk F (KK F.w.params) C N) (Z:jh F N) (hA:AOk N A) {Lc x:Addr} {i:Nat} {body:List Stmt} {p0 p1 p2 p3 p4 q5 u:Pos} {m:Str→Option Value} (hline:(p2.endLine==p3.line)=true) (I:Inv F s ρ σ) (R:EnvR F s.heap ρ (callEnv (aB F.w.params 75) Lc 75) (dw F.w.params 75 (.ref i)))
  (hns:s.heap.Ns Lc m) (hself:m "self" = some (.ref x)) (hx:ρ.l[i]? = some x) :
  OkP F [] ρ s.heap VV (fun G=>CX F A body (callEnv (aB F.w.params 75) Lc 75) (execs [.If (cX (aq F.w.params 75)) [.Return (some (wa (aq F.w.params 75))) u] [] q5,.Return (some (.Call (.Attribute (.Call (.Name "super" p0) [] [] p1) "pop" p2) [] [] p3)) p4] (callEnv (aB F.w.params 75) Lc 75)) s fun g s'=>G (zA g) s')
   (Hp (atest 6 C (dw F.w.params 75 (.ref i)) σ (cX (aq F.w.params 75))) (nQ F.w.params C (.ref i))):=by
 have S:=lU KC Z 6
 refine OkP.wrap (OkP.seq (P₁:=fun c s₂ G=>CX F A body (callEnv (aB F.w.params 75) Lc 75) (eval (if c=true then wa (aq F.w.params 75) else .Call (.Attribute (.Call (.Name "super" p0) [] [] p1) "pop" p2) [] [] p3) (callEnv (aB F.w.params 75) Lc 75)) s₂ G) (S.test hA I R) fun c σ₁ c' s₂ ρ₂ p₂ I₂ r₂ S₂=>?_)
   fun G h=>ks_wpAt_execs_cons (ks_wpAt_If (_root_.PySem.wpAt_of_wpAny (wpAny_mono h (fun c s₂ h=>?_) fun __ __ z=>z)))
 ·subst r₂
  cases c' with
  |true=>exact (S.ev hA I₂ (R.mono S₂)).wrap fun G h=>_root_.PySem.wpAt_of_wpAny h
  |false=>
   exact OkP.opt fun q' hq' b σ'' p'' e G kG=>dq (s:=s₂) hq' ⟨x,rfl,S₂.ext _ _ hx⟩ fun y ey hv hy hi' hd'=>ks_wpAt_mono (zV L hline e I₂ (hns.at' fun o e=>S₂.keep _ o (.inr R.loc.1) (by simp) e) (hself.trans (congrArg some hv)) hy hi' hd') (fun u s' h=>kG u s' h) fun __ __ z=>z
 ·cases c with
  |true=>exact ks_wpAt_execs_cons (ks_wpAt_Return_some h)
  |false=>exact _root_.PySem.wpAt_of_wpAny (wpAny_execs_nil (ks_wpAt_execs_cons (ks_wpAt_Return_some h)))
theorem pD (L:LawAt F) (KC:CfgOk F (KK F.w.params) C N) (Z:jh F N):CodeOk F (N+1) (.ref 75) (CW F.w.params C):=fun {A s ρ σ avs vs r σ' p} h hA I rv=>
 dW (G:=fun vs=>codeAny (model F.prog F.w) A (.call (.ref 75) ⟨vs,[]⟩) (fun res s'=>match res with | .ok (.ret u)=>Post F [] ρ s.heap σ' p (VV r) u s' | _=>False) s) h rv fun a v __ h ra=>ad h fun q hq h2=>dq hq ra fun x ea hv hx hi hd=>by
  subst hv ea
  obtain ⟨p0,p1,p2,p3,p4,q5,u,hb,hline⟩:=HN F.w.params
  exact sr L (r8 _) hb (CV _ _) hA I hx fun s₁ Lc m I₁ R₁ hns hself k hA₁=>we L KC Z hA₁ hline I₁ R₁ hns hself hx r σ' p h2 _ fun u s' ⟨ρ',I',r',S'⟩=>⟨ρ',I',r',by simpa using (Stp.keeps (fa:=[]) k).trans S'⟩
end
end Internal
namespace Internal
theorem su:typeOf (.builtin "list.append")=pure (.type "method_descriptor"):=by show builtinType _=_;rw [builtinType_eq_fast];kernel_rfl
theorem gT (P:Params):findIn (KK P) (.ref 115) "append" = some (some (.builtin "list.append")):=by kernel_rfl
theorem pE:typeOf (.builtin "list.__getitem__")=pure (.type "method_descriptor"):=by show builtinType _=_;rw [builtinType_eq_fast];kernel_rfl
theorem pF:typeOf (.builtin "list.__setitem__")=pure (.type "wrapper_descriptor"):=by show builtinType _=_;rw [builtinType_eq_fast];kernel_rfl
theorem fS (P:Params):findIn (KK P) (.ref 115) "__getitem__" = some (some (.builtin "list.__getitem__")):=by kernel_rfl
theorem kU (P:Params):findIn (KK P) (.ref 115) "__setitem__" = some (some (.builtin "list.__setitem__")):=by kernel_rfl
theorem fT (P:Params):mroIn (KK P) 115 (.type "collections.deque")=some false:=by kernel_rfl
theorem kW:builtinKind "list.__getitem__" = some .method:=by decide +kernel
theorem jt:splitId "list.__getitem__" = some ("list", "__getitem__"):=by decide +kernel
theorem ju:plainId "list.__getitem__" = true:=by decide +kernel
theorem kX:builtinKind "list.__setitem__" = some .slot:=by decide +kernel
theorem jv:splitId "list.__setitem__" = some ("list", "__setitem__"):=by decide +kernel
theorem jw:plainId "list.__setitem__" = true:=by decide +kernel
theorem wf (P:Params):AOwnOk (KK P) 115 "append" "list.append" := ⟨(nK P).1,(nK P).2,gT P,su⟩
noncomputable def ET:Fn:=fun avs σ=>Hy avs fun a v=>(bv σ a).bind fun q=>if q.l.length≤Hk then some (.none,σ.set q.i (.acc 115 q.d (q.l++[v])),false) else none
noncomputable def yk:Fn:=fun avs σ=>Ho (rH avs σ) (ET avs σ)
theorem CY {F:Fix} {N:Nat} (L:LawAt F):CallOk F N (.builtin "list.append") yk where
 keep:=fun __ __ __ __=>aK
 ok:=fun {A s ρ σ avs vs r σ' p} h hA I rv=>az h (fun h=>append_ok.ok h hA I rv) fun h=>jn (G:=fun vs=>Ok F A [] (call (.builtin "list.append") vs) s ρ σ' p (VV r)) h rv fun a v x y __ h ra rb=>ad h fun q hq h=>al h fun hl e=>dq hq ra fun x __ hv hx hi hd=>by
  cases e
  subst hv
  obtain ⟨b,us,n,es,kk,o1,o2,hb',Rn,rl,J⟩:=cM I hx hi hd
  refine o7 (bE (L.K I) (er _) J) o1 (aI (by rw [rl.size];exact hl)) fun h' m' hsb hx'=>?_
  obtain ⟨I',S'⟩:=wb (l:=q.l++[v]) I hx hb' o1 hsb hx' (by rw [Array.toList_push];exact VRs.append rl ⟨rb,trivial⟩) s.toks
  exact ⟨ρ,I',rfl,S' []⟩
end Internal
namespace Internal
section
variable {F:Fix} {K:Frag} {C:Cfg} {N n:Nat} {A:Around} {env:Env} {s:Shared} {ρ:Rg} {σ σ':St} {E:Value→Shared→Prop}
theorem iM {x D:Addr} {ox:Obj} {od:Option Obj} {k:Value} {name:Str} {Q:Value→Shared→Prop} (X:K.In s.heap) (J:InstAt s.heap x ox D od) (hm:mroIn K D (.type "collections.deque")=some false) (h:Q k s) :
  wpAny (model F.prog F.w) A (sequenceKey (.ref x) k name) Q E s:=by
 unfold sequenceKey
 refine wpAny_bind (J.type.here ?_)
 dsimp only
 simp only [seqItemTypes,List.anyM_cons,List.anyM_nil]
 refine wpAny_bind (wpAny_bind ((looks_mroIn X hm).here ?_))
 simp only [Bool.false_eq_true,if_false]
 refine wpAny_pure ?_
 simp only [Bool.not_false,if_true]
 exact wpAny_pure h
theorem gU {x D:Addr} {ox:Obj} {od:Option Obj} {name:Str} {id T:String} {args:List Value} {Q:Option Value→Shared→Prop} (X:K.In s.heap) (J:InstAt s.heap x ox D od) (hf:findIn K (.ref D) name=some (some (.builtin id))) (ht:typeOf (.builtin id)=pure (.type T)) (hT:T = "method_descriptor" ∨ T = "wrapper_descriptor")
  (h:wpAny (model F.prog F.w) A (call (.builtin id) (.ref x::args)) (fun v s'=>Q (some v) s') E s) :
  wpAny (model F.prog F.w) A (callSpecial? (.ref x) name args) Q E s:=by
 unfold callSpecial? specialOf
 refine wpAny_bind (wpAny_bind (J.type.here ((looks_findIn X hf).here ?_)))
 dsimp only
 refine wpAny_holding ?_
 unfold bindSpecial
 refine wpAny_bind (wpAny_bind (wpAny_of_eq ht ?_))
 rw [if_pos (by rcases hT with rfl | rfl<;>decide)]
 refine wpAny_pure ?_
 exact wpAny_bind (wpAny_mono h (fun v s' hv=>wpAny_pure hv) fun __ __ z=>z)
theorem ff {i owner n:String} {bi:Builtin} {x:Value} {rest:List Value} {Q:Value→Shared→Prop} (hp:plainId i=true) (he:entryFor table i=some bi) (hk:builtinKind i=some .method∨builtinKind i=some .slot) (hs:splitId i=some (owner,n))
  (hi:Looks (model F.prog F.w) s.heap (isInstance x (.type owner)) true) (ha:argsOk i ⟨x::rest,[]⟩)
  (h:wpAny (model F.prog F.w) A.in1 (bi ⟨x::rest,[]⟩) (fun fin s'=>∃ v,fin = .done (.ret v)∧Q v s') E s):wpAny (model F.prog F.w) A (call (.builtin i) (x::rest)) Q E s:=by
 have h2:wpAny (model F.prog F.w) A.in1 (checkBuiltinCall i ⟨x::rest,[]⟩) (fun __ s'=>wpAny (model F.prog F.w) A.in1 (bi ⟨x::rest,[]⟩) (fun fin s'=>match fin with | .done f=>(match (Except.ok f:Result) with | .ok (.ret v)=>Q v s' | .ok _=>False | .error e=>E e s') | .again c'=>c'.quiet=true∧codeAny (model F.prog F.w) A c' (fun r s'=>match r with | .ok (.ret v)=>Q v s' | .ok _=>False | .error e=>E e s') s') (fun e s'=>E e s') s') E s:=by
  have h3:=wpAny_mono (Q':=fun fin s'=>match fin with | .done f=>(match (Except.ok f:Result) with | .ok (.ret v)=>Q v s' | .ok _=>False | .error e=>E e s') | .again c'=>c'.quiet=true∧codeAny (model F.prog F.w) A c' (fun r s'=>match r with | .ok (.ret v)=>Q v s' | .ok _=>False | .error e=>E e s') s') h (fun fin s' h'=>by
   obtain ⟨v,rfl,hv⟩:=h'
   exact hv) fun __ __ z=>z
  rcases hk with hk | hk
  ·exact fR hk hs hi ha h3
  ·exact check_slot hk hs hi ha h3
 exact wpAny_call (codeAny_call_builtin hp he h2)
theorem kY {x:Addr} {i:Value} {Q:Value→Shared→Prop} (hi:Looks (model F.prog F.w) s.heap (isInstance (.ref x) (.type "list")) true)
  (h:wpAny (model F.prog F.w) A.in1 (Builtin.«list.__getitem__» ⟨[.ref x,i],[]⟩) (fun fin s'=>∃ v,fin = .done (.ret v)∧Q v s') E s):wpAny (model F.prog F.w) A (call (.builtin "list.__getitem__") [.ref x,i]) Q E s:=by
 have ha:=args_list_getitem (.ref x) i
 have h1:=kW
 have h2:=jt
 have h3:=ju
 have h4:=entry_list_getitem
 generalize "list.__getitem__" = j at *
 exact ff h3 h4 (.inl h1) h2 hi ha h
theorem kZ {x:Addr} {i u:Value} {Q:Value→Shared→Prop} (hi:Looks (model F.prog F.w) s.heap (isInstance (.ref x) (.type "list")) true)
  (h:wpAny (model F.prog F.w) A.in1 (Builtin.«list.__setitem__» ⟨[.ref x,i,u],[]⟩) (fun fin s'=>∃ v,fin = .done (.ret v)∧Q v s') E s):wpAny (model F.prog F.w) A (call (.builtin "list.__setitem__") [.ref x,i,u]) Q E s:=by
 have ha:=args_list_setitem (.ref x) i u
 have h1:=kX
 have h2:=jv
 have h3:=jw
 have h4:=entry_list_setitem
 generalize "list.__setitem__" = j at *
 exact ff h3 h4 (.inr h1) h2 hi ha h
theorem eB {n k:Nat} (hk:k≤n):sliceBounds (some (k:Int)) none none n=((k:Int),(n:Int),1):=by
 unfold sliceBounds
 simp only [Option.getD_none]
 refine Prod.ext ?_ (Prod.ext ?_ rfl)
 ·show (if (1:Int) > 0 then max 0 (min (if (k:Int) < 0 then (k:Int)+n else (k:Int)) n) else max (-1) (min (if (k:Int) < 0 then (k:Int)+n else (k:Int)) ((n:Int) - 1)))=(k:Int)
  rw [if_pos (by decide),if_neg (Int.not_lt.mpr (Int.natCast_nonneg k)),Int.min_eq_left (Int.ofNat_le.mpr hk),Int.max_eq_right (Int.natCast_nonneg k)]
 ·show (if (1:Int) > 0 then (n:Int) else -1)=n
  rw [if_pos (by decide)]
section
variable {x sl D bd:Addr} {items:Array Value} {nn k:Nat} {od:Option Obj} {t:Tok}
theorem iN {Q:Option Int→Shared→Prop} (hs:s.heap.IsSliceOf sl (.int k t) .none .none) (h:Q none s):wpAny (model F.prog F.w) A (Builtin.List.listSubscript? (.ref sl)) Q E s:=
 let ⟨_,ho,hc,_⟩:=hs;wpAny_bind (wpAny_specialOf (T := "slice") ⟨_,ho,hc⟩ slice_no_index (wpAny_pure h))
theorem iO {Q:Value×Value×Value→Shared→Prop} (hs:s.heap.IsSliceOf sl (.int k t) .none .none) (h:Q (rawPart (some k),rawPart none,rawPart none) s):wpAny (model F.prog F.w) A (Builtin.List.listSliceParts (.ref sl)) Q E s:=by
 obtain ⟨o,ho,-,hd⟩:=hs
 have part:∀ {v:Value} {q:Option Int} {G:Value→Shared→Prop},IsPart v q→G (rawPart q) s→wpAny (model F.prog F.w) A (listPart v) G E s:=wpAny_listPart
 rw [listSliceParts_eq]
 exact wpAny_bind (m:=field (.ref sl) 2) (wpAny_field ho hd (x:=.none) rfl (wpAny_bind (part .none (wpAny_bind (m:=field (.ref sl) 0) (wpAny_field ho hd (x:=.int k t) rfl (wpAny_bind (part (.int _ _) (wpAny_bind (m:=field (.ref sl) 1) (wpAny_field ho hd (x:=.none) rfl (wpAny_bind (part .none (wpAny_pure h))))))))))))
theorem k0 {n:Nat} {Q:Int×Int×Int→Shared→Prop} (hk:k≤n) (h:Q ((k:Int),(n:Int),1) s):wpAny (model F.prog F.w) A (sliceIndices (rawPart (some (k:Int))) (rawPart none) (rawPart none) n) Q E s:=wpAny_of_eq (sliceIndices_raw (some (k:Int)) none none n (by simp)) (eB hk▸h)
theorem k4 {Q:Array Value→Shared→Prop} (J:InstAt s.heap x { cls:=.ref D,dict:=some bd,data:=.seq items nn } D od) (h:Q items s):wpAny (model F.prog F.w) A (Builtin.List.listItems (.ref x)) Q E s:=wpAny_bind (wpAny_seqItems J.at_ rfl (wpAny_pure h))
theorem jx {Q:Value→Shared→Prop} (X:K.In s.heap) (J:InstAt s.heap x { cls:=.ref D,dict:=some bd,data:=.seq items nn } D od) (hm:mroIn K D (.type "collections.deque")=some false) (hl:mroIn K D (.type "list")=some true) (hf:findIn K (.ref D) "__getitem__" = some (some (.builtin "list.__getitem__")))
  (hs:s.heap.IsSliceOf sl (.int k t) .none .none) (hk:k≤items.size) (h:Q (.ref s.heap.objs.size) { s with heap:=s.heap.push { cls:=.type "list", data:=.seq (slicePick items (some k) none none) } }) (hsz:items.size≤sizeLine):wpAny (model F.prog F.w) A (getItem (.ref x) (.ref sl)) Q E s:=by
 refine wpAny_holding (wpAny_bind (iM X J hm (wpAny_bind (gU X J hf pE (.inl rfl) (kY (bE X hl J) ?_)))))
 refine wpAny_bind (m:=Builtin.List.listSubscript? (.ref sl)) (iN hs (wpAny_bind (m:=typeOf (.ref sl)) (wpAny_typeOf (T := "slice") (let ⟨o,ho,hc,_⟩:=hs;⟨o,ho,hc⟩) ?_)))
 rw [if_neg (by decide)]
 have e:slicePick items (some (k:Int)) none none=((sliceRange (k:Int) (items.size:Int) 1).filterMap (items[·]?)).toArray:=by unfold slicePick;rw [eB hk]
 have room:=Nat.le_trans (slicePick_size_le items (some (k:Int)) none none) hsz
 rw [e] at h room
 exact wpAny_bind (iO hs (wpAny_bind (k4 J (wpAny_bind (k0 hk (wpAny_bind (wpAny_newObj_type (wpAny_pure ⟨_,rfl,wpAny_pure h⟩) room)))))))
theorem pG (hk:k≤items.size):items.extract 0 (k:Int).toNat ++ #[]++items.extract (max (k:Int) (items.size:Int)).toNat items.size=items.extract 0 k:=by
 rw [Int.max_eq_right (Int.ofNat_le.mpr hk),Int.toNat_natCast,Int.toNat_natCast]
 simp
theorem zW {e:Addr} {ne:Nat} {Q:Unit→Shared→Prop} (X:K.In s.heap) (J:InstAt s.heap x { cls:=.ref D,dict:=some bd,data:=.seq items nn } D od) (hm:mroIn K D (.type "collections.deque")=some false) (hl:mroIn K D (.type "list")=some true) (hf:findIn K (.ref D) "__setitem__" = some (some (.builtin "list.__setitem__")))
  (hs:s.heap.IsSliceOf sl (.int k t) .none .none) (he:s.heap.get? e=some (aD #[] ne)) (hex:e≠x) (hk:k≤items.size) (h:∀ h' m,Heap.SameBut x s.heap h'→h'.get? x=some { cls:=.ref D,dict:=some bd,data:=.seq (items.extract 0 k) m } → Q () { s with heap:=h' })
  (hsz:items.size≤sizeLine):wpAny (model F.prog F.w) A (setItem (.ref x) (.ref sl) (.ref e)) Q E s:=by
 refine wpAny_holding (wpAny_bind (iM X J hm (wpAny_bind (gU X J hf pF (.inr rfl) (kZ (bE X hl J) ?_)))))
 refine wpAny_bind (m:=Builtin.List.listSubscript? (.ref sl)) (iN hs (wpAny_bind (m:=typeOf (.ref sl)) (wpAny_typeOf (T := "slice") (let ⟨o,ho,hc,_⟩:=hs;⟨o,ho,hc⟩) ?_)))
 rw [if_neg (by decide)]
 refine wpAny_bind (iO hs ?_)
 have other:Builtin.List.listSameRef (.ref x) (.ref e)=false:=by simp [Builtin.List.listSameRef,Ne.symm hex]
 simp only [other,Bool.false_eq_true,if_false]
 refine wpAny_bind (m:=Builtin.List.listAllItems (.ref e) _) (wpAny_bind (m:=typeOf (.ref e)) (wpAny_typeOf (T := "list") ⟨_,he,rfl⟩ ?_))
 rw [if_pos (by decide)]
 refine wpAny_bind (wpAny_seqItems he rfl (wpAny_pure (wpAny_bind (k4 J (wpAny_bind (k0 hk ?_))))))
 dsimp only
 rw [if_pos (by decide)]
 refine wpAny_bind (wpAny_rule ?_)
 rw [if_neg (by simp [Builtin.List.listTooLong];omega)]
 have cut:=pG hk
 have D':=Heap.get?_update_self (Obj.mapSeq (fun xs:Array Value=>xs.extract 0 (k:Int).toNat ++ #[]++xs.extract (max (k:Int) (items.size:Int)).toNat xs.size)) J.at_ rfl
 have room:(items.extract 0 (k:Int).toNat ++ #[]++items.extract (max (k:Int) (items.size:Int)).toNat items.size).size≤sizeLine+1:=by
  rw [cut,Array.size_extract]
  omega
 obtain ⟨m,em⟩:∃ m,Obj.mapSeq (fun xs:Array Value=>xs.extract 0 (k:Int).toNat ++ #[]++xs.extract (max (k:Int) (items.size:Int)).toNat xs.size) { cls:=.ref D,dict:=some bd,data:=.seq items nn } = { cls:=.ref D,dict:=some bd,data:=.seq (items.extract 0 (k:Int).toNat ++ #[]++items.extract (max (k:Int) (items.size:Int)).toNat items.size) m }:=⟨_,rfl⟩
 rw [em,cut] at D'
 exact wpAny_bind (m:=updateSeq x _) (wpAny_updateSeq (hz:=hsz) (_hz':=room) J.at_ rfl (wpAny_bind (wpAny_letGo (wpAny_pure ⟨_,rfl,wpAny_pure (h _ m (Heap.SameBut.update ..) D')⟩))))
end
end
end Internal
namespace Internal
inductive FromBody:List Stmt→Prop
 |mk (q0 q1 q2 q3 q4 q5 r0 r1 r2 r3 r4 r5 t0 t1:Pos):FromBody [.Assign [.Name "popped" q0] (.Subscript (.Name "self" q1) (.Slice (some (.Name "i" q2)) none none q3) q4) q5,
  .Assign [.Subscript (.Name "self" r0) (.Slice (some (.Name "i" r1)) none none r2) r3] (.List [] r4) r5,.Return (some (.Name "popped" t0)) t1]
theorem HO (P:Params):∃ body,(aB P 67).body = .stmts body∧FromBody body:=⟨_,by with_unfolding_all rfl,⟨_,_,_,_,_,_,_,_,_,_,_,_,_,_⟩⟩
noncomputable def HQ (P:Params) (T:Addr):Option (Array Value):=match (KK P).lookup T with | some ⟨_,_,.seq vs _,_⟩=>some vs | _=>none
theorem CZ (P:Params) (u v:Value):∃ k:Option (Array Value)→Sem (List (Str×Value)),bindArgs (aB P 67) ⟨[u,v],[]⟩=seqItems? (.ref 60) >>= k∧∀ w,k (some #[w])=pure [(("self" : Str),u),(("i" : Str),v)]:=⟨_,by with_unfolding_all rfl,fun w=>by kernel_rfl⟩
theorem zX (P:Params) (u:Value):∃ k:Option (Array Value)→Sem (List (Str×Value)),bindArgs (aB P 67) ⟨[u],[]⟩=seqItems? (.ref 60) >>= k∧∀ w,k (some #[w])=pure [(("self" : Str),u),(("i" : Str),w)]:=⟨_,by with_unfolding_all rfl,fun w=>by kernel_rfl⟩
noncomputable def isZero:Value→Bool | .int 0 _=>true | _=>false
theorem EU (P:Params):(HQ P 60).map (·.toList.map isZero)=some [true]:=by kernel_rfl
theorem zY (P:Params) (u v:AV):aC (cU (aB P 67)) ["self", "i"] [u,v] =
  some { names:=(aB P 67).scope.names,own:=cb (aB P 67).scope,vars:=[("self", u),("i", v)] }:=by kernel_rfl
theorem EW (P:Params):(aB P 67).scope.names.lookup ("self" : Str)=some .local∧(aB P 67).scope.names.lookup ("i" : Str)=some .local∧(aB P 67).scope.names.lookup ("popped" : Str)=some .local:=⟨by kernel_rfl,by kernel_rfl,by kernel_rfl⟩
structure PlainFn (P:Params) (f:Addr):Prop where
 ok:CU P f=true
 clo:(aB P f).closure=[]
 kind:(aB P f).scope.kind = .function
 cor:(aB P f).scope.isCoroutine=false
 gen:(aB P f).scope.isGenerator=false
 glo:(aB P f).globals=mainGlobals
 blt:(aB P f).builtins=builtinsNs
theorem PlainFn.def {P:Params} {f:Addr} {xs:List Str} {body:List Stmt} (Y:PlainFn P f) (hb:(aB P f).body = .stmts body):DefOk (aB P f) xs body:=⟨hb,Y.clo,Y.kind,Y.glo,Y.blt,Y.cor,Y.gen⟩
theorem jy (P:Params):PlainFn P 67:=(by refine ⟨?_,?_,?_,?_,?_,?_,?_⟩<;>kernel_rfl)
noncomputable def gV (σ:St) (a b:AV):Option (AV×St×Bool):=(bv σ a).bind fun q=>(dT b).bind fun k=>if q.l.length≤Hk∧0≤k∧k.toNat≤q.l.length then some (.lst (q.l.drop k.toNat),σ.set q.i (.acc 115 q.d (q.l.take k.toNat)),false) else none
noncomputable def dR:Fn:=fun avs σ=>Ho (Hy avs (gV σ)) (one avs fun a=>gV σ a (.int 0))
section
variable {F:Fix} {K:Frag} {C:Cfg} {N n:Nat} {A:Around} {env:Env} {s:Shared} {ρ:Rg} {σ σ':St} {E:Value→Shared→Prop} {p:Bool} {D:AEnv} {fa:List Addr}
theorem cg {x:Str} {av:AV} {pos:Pos} {Q:Value→Shared→Prop} (R:EnvR F s.heap ρ env D) (hd:(x==("__debug__" : Str))=false) (hk:D.names.lookup x=some .local) (hx:D.vars.lookup x=some av) (hq:∀ v,VR s.heap ρ av v→Q v s):wpAny (model F.prog F.w) A (eval (.Name x pos) env) Q E s:=
 let ⟨m,hn,hm⟩:=R.ns
 let ⟨v,e,hv⟩:=hm x av hx hk
 wpAny_Name (wpAny_loadName_local R.kind (R.kindOf hk) hn e (hq v hv)) hd
theorem wg {x D:Addr} {ox:Obj} {od:Option Obj} {value slice:Expr} {i:Value} {ops:List Value} {id:String} {Q:Value→Shared→Prop} (X:K.In s.heap) (J:InstAt s.heap x ox D od) (hf:findIn K (.ref D) "__getitem__" = some (some (.builtin id)))
  (hg:wpAny (model F.prog F.w) A (getItem (.ref x) i) Q E s) (hs:subscripted slice false (.ref x) i=operate ops (getItem (.ref x) i)):wpAny (model F.prog F.w) A (subscriptTail value slice (.ref x) i) Q E s:=by
 unfold subscriptTail
 refine wpAny_bind ?_
 unfold getitemInPython specialOf
 refine wpAny_bind (wpAny_bind (J.type.here ((looks_findIn X hf).here ?_)))
 refine wpAny_pure (wpAny_bind ?_)
 rw [hs]
 exact wpAny_operating (wpAny_mono hg (fun r s₃ h₃=>wpAny_bind (wpAny_letTemporaryGo (wpAny_pure h₃))) fun __ __ x=>x)
theorem fF (l:List AV) (k:Nat):∀ m,k+m≤l.length→(List.range m).filterMap ((fun x=>l[x]?) ∘ fun x=>k+x)=(l.drop k).take m
 |0,_=>by simp
 |m+1,h=>by
  rw [List.range_succ,List.filterMap_append,fF l k m (by omega),List.take_add_one,List.getElem?_drop]
  simp only [List.filterMap_cons,List.filterMap_nil,Function.comp]
  rw [List.getElem?_eq_getElem (by omega:k+m < l.length)]
  rfl
theorem pH {n k:Nat} (hk:k≤n):sliceRange (k:Int) (n:Int) 1=(List.range (n - k)).map (k + ·):=sliceRange_one k n
theorem k5 {l:List AV} {k:Nat} (hk:k≤l.length):lJ l (some (k:Int)) none none=l.drop k:=by
 unfold lJ
 rw [eB hk]
 dsimp only
 rw [pH hk,List.filterMap_map,fF l k _ (by omega),List.take_of_length_le (by rw [List.length_drop];exact Nat.le_refl _)]
section
variable {i d k:Nat} {l:List AV} {m:List (Str×AV)} {q0 q1 q2 q3 q4:Pos}
noncomputable abbrev gg (k:Nat) (t:Tok):Obj:={ cls:=.type "slice", data:=.fields #[.int k t,.none,.none] }
theorem wi (L:LawAt F) {G:Value→Shared→Prop} (R:EnvR F s.heap ρ env D) (I:Inv F s ρ σ) (n1:D.names.lookup ("self" : Str)=some .local) (n2:D.names.lookup ("i" : Str)=some .local) (v1:D.vars.lookup ("self" : Str)=some (.ref i)) (v2:D.vars.lookup ("i" : Str)=some (.int k)) (hi:σ[i]? = some (.acc 115 d l)) (hd:σ[d]? = some (.ns m)) (hk:k≤l.length) (hl:l.length≤Hk)
  (h:∀ v h',VR h' ρ (.lst (l.drop k)) v→(∀ b o,s.heap.get? b=some o→h'.get? b=some o)→G v { s with heap:=h' }):wp F A (eval (.Subscript (.Name "self" q1) (.Slice (some (.Name "i" q2)) none none q3) q4) env) s G:=by
 refine Subscript_ (cg R (by decide) n1 v1 fun v r1=>wpAny_Slice (cg R (by decide) n2 v2 fun u r2=>wpAny_pure (wpAny_pure ?_)))
 obtain ⟨a,rfl,ha⟩:=r1
 obtain ⟨t,rfl⟩:=r2
 have I₆:Inv F { s with heap:=s.heap.push (gg k t) } ρ σ:=I.push _ s.toks
 obtain ⟨bd,us,nn,es,kk,o1,o2,hbd,Rn,rl,J⟩:=cM I₆ ha hi hd
 obtain ⟨ops,hops⟩:=gB (lo:=some (.Name "i" q2)) (hi:=none) (st:=none) (pos:=q3) (o:=.ref a) (i:=.ref s.heap.objs.size)
 refine wg (L.K I₆) J (fS _) (jx (L.K I₆) J (fT _) (er _) (fS _) (t:=t) ⟨_,Heap.get?_push_size _ rfl,rfl,rfl⟩ (by rw [rl.size];exact hk) ?_ (aI (by rw [rl.size];exact hl))) hops
 exact h _ _ (k5 hk▸lL I₆ (n:=0) (ng (lo:=some (k:Int)) (hi:=none) (st:=none) rl)) fun b o e=>Heap.get?_push_of_some _ (Heap.get?_push_of_some _ e)
theorem wj (L:LawAt F) {G:Flow→Shared→Prop} {p1 p2:Pos} (R:EnvR F s.heap ρ env D) (I:Inv F s ρ σ) (n1:D.names.lookup ("self" : Str)=some .local) (n2:D.names.lookup ("i" : Str)=some .local) (v1:D.vars.lookup ("self" : Str)=some (.ref i)) (v2:D.vars.lookup ("i" : Str)=some (.int k)) (hi:σ[i]? = some (.acc 115 d l)) (hd:σ[d]? = some (.ns m)) (hk:k≤l.length) (hl:l.length≤Hk)
  (h:∀ s',Inv F s' ρ (σ.set i (.acc 115 d (l.take k)))→Stp [] false ρ s.heap ρ s'.heap→G .next s'):wp F A (exec (.Assign [.Subscript (.Name "self" q1) (.Slice (some (.Name "i" q2)) none none q3) q4] (.List [] p1) p2) env) s G:=by
 have K₉:Stp [] true ρ s.heap ρ (s.heap.push { cls:=.type "list", data:=.seq #[] }):=Stp.keeps fun b o e=>Heap.get?_push_of_some _ e
 have R₉:=R.mono K₉
 refine wpAny_Assign_Subscript (wpAny_List_spliced (Calls.spliced_nil ⟨Nat.zero_le _,cg R₉ (by decide) n1 v1 fun v r1=>wpAny_Slice (cg R₉ (by decide) n2 v2 fun u r2=>wpAny_pure (wpAny_pure ?_))⟩)) (by rfl)
 obtain ⟨a,rfl,ha⟩:=r1
 obtain ⟨t,rfl⟩:=r2
 have he:(s.heap.push { cls:=.type "list", data:=.seq #[] }).get? s.heap.objs.size=some (aD #[] 0):=Heap.get?_push_size _ rfl
 have I₆:Inv F { s with heap:=(s.heap.push { cls:=.type "list", data:=.seq #[] }).push (gg k t) } ρ σ:=(I.push { cls:=.type "list", data:=.seq #[] } s.toks).push _ s.toks
 have K₆:Stp [] true ρ s.heap ρ ((s.heap.push { cls:=.type "list", data:=.seq #[] }).push (gg k t)):=Stp.keeps fun b o e=>Heap.get?_push_of_some _ (Heap.get?_push_of_some _ e)
 obtain ⟨bd,us,nn,es,kk,o1,o2,hbd,Rn,rl,J⟩:=cM I₆ ha hi hd
 refine zW (L.K I₆) J (fT _) (er _) (kU _) (t:=t) (ne:=0) ⟨_,Heap.get?_push_size _ rfl,rfl,rfl⟩ (Heap.get?_push_of_some _ he) (fun hh=>(by
  have q1:((s.heap.push { cls:=.type "list", data:=.seq #[] }).push (gg k t)).get? s.heap.objs.size=some (aD #[] 0):=Heap.get?_push_of_some _ he
  rw [hh,o1] at q1
  cases q1)) (by rw [rl.size];exact hk) (fun h₉ m₉ hsb hx=>?_) (aI (by rw [rl.size];exact hl))
 obtain ⟨I₁₀,S₁₀⟩:=wb (l:=l.take k) I₆ ha hbd o1 hsb hx (by rw [Array.toList_extract];simpa using rl.take k) s.toks
 exact h _ I₁₀ (K₆.trans (S₁₀ []))
theorem sw (L:LawAt F) {body:List Stmt} {G:Flow→Shared→Prop} (hb:FromBody body) (R:EnvR F s.heap ρ env D) (fx:Hj env D fa) (I:Inv F s ρ σ) (n1:D.names.lookup ("self" : Str)=some .local) (n2:D.names.lookup ("i" : Str)=some .local) (n3:D.names.lookup ("popped" : Str)=some .local) (v1:D.vars.lookup ("self" : Str)=some (.ref i)) (v2:D.vars.lookup ("i" : Str)=some (.int k)) (hi:σ[i]? = some (.acc 115 d l)) (hd:σ[d]? = some (.ns m)) (hk:k≤l.length) (hl:l.length≤Hk)
  (h:∀ v s',Inv F s' ρ (σ.set i (.acc 115 d (l.take k)))→VR s'.heap ρ (.lst (l.drop k)) v→Stp fa false ρ s.heap ρ s'.heap→G (.ret v) s'):wp F A (execs body env) s G:=by
 cases hb
 refine wpAny_execs_cons (wpAny_Assign_Name (wi L R I n1 n2 v1 v2 hi hd hk hl fun w h' rw k₂=>?_))
 have T₂:Stp [] true ρ s.heap ρ h':=Stp.keeps k₂
 refine wpAny_mono (dO (fa:=fa) (x := "popped") (.inl n3) (I.heap k₂ s.toks) (R.mono T₂) fx rw) (fun __ s₃ Y=>?_) fun __ __ z=>z
 exact wpAny_execs_cons (wj L Y.env Y.inv n1 n2 ((ck (by decide)).trans v1) ((ck (by decide)).trans v2) hi hd hk hl fun s₄ I₄ S₄=>wpAny_execs_cons (wpAny_Return_some (cg (Y.env.mono S₄) (by decide) n3 jd fun w' r'=>h w' s₄ I₄ r' (((T₂.fa fa).trans Y.stp).trans (S₄.fa fa)))))
end
set_option tactic.hygienic true in
theorem zZ (L:LawAt F) (I:Inv F s ρ σ) {G:Prop} (k:∀ o w n,s.heap.get? 60=some o→o.data = .seq #[.int 0 w] n→G):G:=by
 have hs1:=EU F.w.params
 unfold HQ at hs1
 split at hs1
 ·rename_i c1 c2 vs' c3 c4 hlk
  have hs2:=Option.some.inj hs1
  obtain ⟨w,rfl⟩:=Array.size_eq_one_iff.mp ((show vs'.size=(vs'.toList.map isZero).length by simp).trans (congrArg List.length hs2))
  have hw:isZero w=true:=List.cons.inj hs2 |>.1
  unfold isZero at hw
  split at hw
  ·exact k _ _ c3 (L.K I _ _ hlk) rfl
  ·cases hw
 ·cases hs1
theorem fU (L:LawAt F) {a b r:AV} {v u:Value} {vs₀:List Value} (h:gV σ a b=some (r,σ',p)) (hA:AOk (N+1) A) (I:Inv F s ρ σ) (ra:VR s.heap ρ a v) (rb:VR s.heap ρ b u) (hbind:∀ (M:Model) (A:Around) (E:Value→Shared→Prop) (Q:List (Str×Value)→Shared→Prop),Q [("self", v),("i", u)] s→wpAny M A (bindArgs (aB F.w.params 67) ⟨vs₀,[]⟩) Q E s) :
  codeAny (model F.prog F.w) A (.call (.ref 67) ⟨vs₀,[]⟩) (fun res s'=>match res with | .ok (.ret u)=>Post F [] ρ s.heap σ' p (VV r) u s' | _=>False) s:=ad h fun q hq h1=>ad h1 fun k hk h2=>al h2 fun hc e=>dq hq ra fun x ea hv hx hi hd=>by
 have hk:=bl hk
 subst hk
 subst ea
 cases e
 obtain ⟨body,hb,hB⟩:=HO F.w.params
 obtain ⟨l1,l2,l3⟩:=EW F.w.params
 exact eX (xs:=["self", "i"]) (vs:=[v,u]) (pp L (jy _).ok) ((jy _).def hb) hbind (zY F.w.params _ _) hA I ⟨ra,rb,trivial⟩ fun s₁ fa Lc I₁ R₁ fx k₁ hfa hA₁=>
  sw L hB R₁ fx.far I₁ l1 l2 l3 rfl (congrArg (fun z=>some (AV.int z)) (Int.toNat_of_nonneg hc.2.1).symm) hi hd hc.2.2 hc.1 fun v s' I' r' S'=>⟨ρ,I',r',((Stp.keeps k₁).trans S').drop (fun __ __ e=>e) hfa⟩
theorem mr (L:LawAt F):CodeOk F (N+1) (.ref 67) dR:=fun {A s ρ σ avs vs r σ' p} h hA I rv=>
 zZ L I fun od t0 nn0 hod hows=>az h (fun h=>jn (G:=fun vs=>codeAny (model F.prog F.w) A (.call (.ref 67) ⟨vs,[]⟩) (fun res s'=>match res with | .ok (.ret u)=>Post F [] ρ s.heap σ' p (VV r) u s' | _=>False) s) h rv fun a b v u __ h ra rb=>by
  obtain ⟨kb,hb1,hb2⟩:=CZ F.w.params v u
  exact fU L h hA I ra rb fun M A E Q hq=>by rw [hb1];exact wpAny_bind (wpAny_seqItems hod hows (by rw [hb2];exact wpAny_pure hq))) fun h=>
 dW (G:=fun vs=>codeAny (model F.prog F.w) A (.call (.ref 67) ⟨vs,[]⟩) (fun res s'=>match res with | .ok (.ret u)=>Post F [] ρ s.heap σ' p (VV r) u s' | _=>False) s) h rv fun a v __ h ra=>by
  obtain ⟨kb,hb1,hb2⟩:=zX F.w.params v
  exact fU L h hA I ra (b:=.int 0) ⟨t0,rfl⟩ fun M A E Q hq=>by rw [hb1];exact wpAny_bind (wpAny_seqItems hod hows (by rw [hb2];exact wpAny_pure hq))
end
end Internal
namespace Internal
noncomputable def nR (P:Params):Bool:=match (KK P).lookup 115 with
 |some ⟨_,_,.cls cd,sl⟩=>!cd.abstract && !cd.hasDel&&(sl.toList[4]?).join==some (.builtin "list.__new__") && !cd.mro.isEmpty &&
   specialIn (KK P) (.ref 115) "__call__" == some (some (.builtin "type.__call__"))&&instIn (KK P) (.ref 115) (.type "type")==some true
 |_=>false
theorem sx (P:Params):nR P=true:=by kernel_rfl
theorem jz (P:Params):findIn (KK P) (.ref 115) "__init__" = some (some (.ref 52)):=by kernel_rfl
theorem EX (P:Params):typeIn (KK P) (.ref 52)=some (.type "function"):=by kernel_rfl
theorem sy:builtinKind "list.__new__" = some .builtinFn:=by decide +kernel
theorem pI:splitId "list.__new__" = some ("list", "__new__"):=by decide +kernel
theorem sC (v w:Value):argsOk "list.__new__" ⟨[v,w],[]⟩:=by unfold argsOk;kernel_rfl
structure MakesL (M:Model) (h:Heap) (C:Addr):Prop where
 obj:∃ oc od cd sl,h.get? C=some ⟨oc,od,.cls cd,sl⟩∧cd.abstract=false∧cd.hasDel=false∧cd.mro.isEmpty=false
 made:Looks M h (Bind.madeBy (.ref C)) (some "list.__new__")
 base:Looks M h (Bind.staticBase (.ref C)) (.ref C)
 self:Looks M h (isSubtype (.ref C) (.ref C)) true
 top:Looks M h (isSubtype (.ref C) (.type "list")) true
 call:Looks M h (specialOf (.ref C) "__call__") (some (.builtin "type.__call__"))
 typ:Looks M h (isInstance (.ref C) (.type "type")) true
theorem MakesL.at {M:Model} {h:Heap} {C:Addr} (Y:MakesL M h C) {G:Prop} (k:∀ oc od cd sl,h.get? C=some ⟨oc,od,.cls cd,sl⟩→cd.abstract=false→cd.hasDel=false→cd.mro.isEmpty=false→G):G:=let ⟨oc,od,cd,sl,a,b,c,d⟩:=Y.obj;k oc od cd sl a b c d
section
variable {M:Model} {h:Heap} {P:Params}
set_option tactic.hygienic true in
theorem nS (P:Params) {G:Prop} (k:∀ oc od cd sl,(KK P).lookup 115=some ⟨oc,od,.cls cd,sl⟩→cd.abstract=false→cd.hasDel=false→sl[4]? = some (some (.builtin "list.__new__"))→cd.mro.isEmpty=false→specialIn (KK P) (.ref 115) "__call__" = some (some (.builtin "type.__call__"))→instIn (KK P) (.ref 115) (.type "type")=some true→G):G:=by
 have e:=sx P
 unfold nR at e
 split at e
 ·rename_i oc od cd sl ho
  have e:=Bool.and_eq_true_iff.mp e
  have f:=Bool.and_eq_true_iff.mp e.1
  have g:=Bool.and_eq_true_iff.mp f.1
  have i:=Bool.and_eq_true_iff.mp g.1
  have j:=Bool.and_eq_true_iff.mp i.1
  have no:∀ {b:Bool},(!b)=true→b=false:=fun {b} h=>by cases b<;>first | rfl | cases h
  refine k oc od cd sl ho (no j.1) (no j.2) ?_ (no g.2) (eq_of_beq f.2) (eq_of_beq e.2)
  have n:=eq_of_beq i.2
  rw [Array.getElem?_toList] at n
  cases q:sl[4]? with
  |none=>rw [q] at n;cases n
  |some v=>rw [q] at n;exact congrArg some n
 ·cases e
theorem nT (X:(KK P).In h) {cd:ClassData} (hc:clsIn (KK P) 115=some cd):Looks M h (mroOf (.ref 115)) cd.mro:=(looks_clsIn X hc).andThen .now
theorem k6 (X:(KK P).In h):Looks M h (Bind.madeBy (.ref 115)) (some "list.__new__")∧Looks M h (Bind.staticBase (.ref 115)) (.ref 115):=nS P fun oc od cd sl ho __ __ e4 e5 __ __=>by
 have hc:clsIn (KK P) 115=some cd:=by unfold clsIn;rw [ho]
 obtain ⟨c,l,hl⟩:=List.exists_cons_of_ne_nil (l:=cd.mro) (by intro q;rw [q] at e5;cases e5)
 have made:Looks M h (Bind.madeBy (.ref 115)) (some "list.__new__"):=fun A Q E s k q=>by
  unfold Bind.madeBy
  refine wpAny_bind (nT X hc A _ E s k ?_)
  rw [hl,List.forIn_cons]
  have slot:∀ {G:Obj→Shared→Prop},G ⟨oc,od,.cls cd,sl⟩ s→wpAny M A (loadPart 115 none) G E s:=wpAny_loadPart (k _ _ (X _ _ ho))
  refine wpAny_bind (wpAny_bind (wpAny_bind (wpAny_bind (slot (wpAny_pure ?_)))))
  dsimp only
  rw [e4]
  exact wpAny_pure (wpAny_pure (wpAny_pure q))
 refine ⟨made,fun A Q E s k q=>?_⟩
 unfold Bind.staticBase
 refine wpAny_bind (nT X hc A _ E s k ?_)
 rw [hl,List.forIn_cons]
 exact wpAny_bind (wpAny_bind (wpAny_bind (made A _ E s k (wpAny_pure (wpAny_pure (wpAny_pure q))))))
end
theorem k7 {M:Model} {h:Heap} (P:Params) (X:(KK P).In h):MakesL M h 115:=nS P fun oc od cd sl ho e1 e2 __ e4 e7 e8=>
 ⟨⟨oc,od,cd,sl,X _ _ ho,e1,e2,e4⟩,(k6 X).1,(k6 X).2,looks_mroIn X (nO P),looks_mroIn X (er P),looks_specialIn X e7,looks_instIn X e8⟩
noncomputable abbrev gW (C dx:Addr):Obj:={ cls:=.ref C,dict:=some dx,data:=.seq #[] }
section
variable {F:Fix} {C:Addr} {y:Value} {N:Nat} {A:Around} {s:Shared} {ρ:Rg} {σ σ':St} {R:Result→Shared→Prop} {h:Heap} {g:Array GenState} {d:Drawn} {t:Nat} {os:OsState}
theorem EY (Y:MakesL (model F.prog F.w) h C)
  (hq:R (.ok (.ret (.ref (h.objs.size+1)))) ⟨(h.push emptyDict).push (gW C h.objs.size),g,d,t,os⟩) :
  codeAny (model F.prog F.w) A (.call (.builtin "list.__new__") ⟨[.ref C,y],[]⟩) R ⟨h,g,d,t,os⟩:=by
 refine Y.at fun oc od cd sl hC e1 e2 e4=>?_
 refine codeAny_call_builtin_code (plainId_quiet PySem.F.plain_list_new _) ?_
 have ha:=sC (.ref C) y
 have hks:wpAny (model F.prog F.w) A.in1 (checkBuiltinCall "list.__new__" ⟨[.ref C,y],[]⟩) (fun __ s₁=>s₁=⟨h,g,d,t,os⟩) (fun __ __=>False) ⟨h,g,d,t,os⟩:=by
  simp only [checkBuiltinCall,sy,pI]
  rw [if_pos (by decide)]
  refine wpAny_bind (ks_wpAny_isType_cls hC rfl ?_)
  refine KFB.if_not rfl ?_
  refine wpAny_bind (Y.top.here ?_)
  refine KFB.if_not rfl ?_
  refine wpAny_bind (Y.base.here ?_)
  refine wpAny_bind (Y.made.here ?_)
  simp only [bne_self_eq_false,Bool.false_eq_true,if_false]
  cases hsig:Manifest.signature? "list.__new__" with
  |none=>exact wpAny_pure rfl
  |some sig=>
   simp only [argsOk,hsig] at ha
   have h2:Bind.checkArgs "list.__new__" sig ⟨[.ref C,y],[]⟩=pure ():=ha
   show wpAny _ _ (Bind.checkArgs "list.__new__" sig ⟨[.ref C,y],[]⟩) _ _ _
   rw [h2];exact wpAny_pure rfl
 refine wpAny_mono hks (fun __ s₁ hs₁=>?_) fun __ __ z=>z.elim
 subst hs₁
 refine codeAny_builtin_stack PySem.F.entry_list_new rfl fun p st=>?_
 rw [Around.under_plainId PySem.F.plain_list_new _]
 have hown:=owner_list_new
 simp only [hown]
 refine wpAny_bind (ks_wpAny_isType_cls hC rfl ?_)
 refine KFB.if_not rfl ?_
 refine wpAny_bind (Y.top.here ?_)
 refine KFB.if_not rfl ?_
 refine wpAny_bind (wpAny_pure ?_)
 rw [if_neg (show ¬ ((!typeHasDict (.ref C))=true) from Bool.false_ne_true)]
 show wpAny _ _ ((alloc emptyDict >>= fun x=>pure (Value.ref x)) >>= _) _ _ _
 refine wpAny_bind (wpAny_bind (wpAny_alloc (wpAny_pure ?_)))
 refine wpAny_bind ?_
 show wpAny _ _ (newObj (.ref C) (.seq #[]) (some h.objs.size)) _ _ _
 unfold newObj
 dsimp only
 rw [if_neg (by simp)]
 unfold newObjAsIs classHasDel
 refine wpAny_bind (wpAny_alloc (wpAny_bind (wpAny_bind (wpAny_load (Heap.get?_push_of_some _ (Heap.get?_push_of_some _ hC)) (wpAny_pure ?_)))))
 rw [e2]
 refine wpAny_pure (wpAny_pure ?_)
 show R _ _
 rw [Heap.size_push]
 exact hq
theorem pJ (Y:MakesL (model F.prog F.w) h C)
  (body:wpAny (model F.prog F.w) (A.under (.builtin "type.__call__" ⟨[.ref C,y],[]⟩)) (Builtin.«type.__call__» ⟨[.ref C,y],[]⟩) (fun fin s'=>match fin with | .done f=>R (.ok f) s' | .again c'=>c'.quiet=true∧codeAny (model F.prog F.w) A c' R s') (fun e s'=>R (.error e) s') ⟨h,g,d,t,os⟩) :
  codeAny (model F.prog F.w) A (.call (.ref C) ⟨[y],[]⟩) R ⟨h,g,d,t,os⟩:=by
 have next:codeAny (model F.prog F.w) A (.call (.builtin "type.__call__") ⟨[.ref C,y],[]⟩) R ⟨h,g,d,t,os⟩:=codeAny_call_builtin_at (Code.quiet_builtin _ (by decide +kernel)) entry_typeCall (check_slot tc_kind tc_split Y.typ (tc_args _ _ _) body)
 have dunder:wpAny (model F.prog F.w) (A.under (.call (.ref C) ⟨[y],[]⟩)) (callAny.viaDunder (.ref C) ⟨[y],[]⟩) (fun fin s'=>match fin with | .done f=>R (.ok f) s' | .again c'=>c'.quiet=true∧codeAny (model F.prog F.w) A c' R s') (fun e s'=>R (.error e) s') ⟨h,g,d,t,os⟩:=by
  unfold callAny.viaDunder
  refine wpAny_bind (Y.call.at ?_)
  dsimp only
  rw [tc_bind]
  exact wpAny_bind (wpAny_pure (wpAny_bind (wpAny_pure (wpAny_pure (a:=Fin.again (.call (.builtin "type.__call__") ⟨[.ref C,y],[]⟩)) ⟨rfl,next⟩))))
 exact Y.at fun oc od cd sl hC __ __ __=>codeAny_of_tree (wpAny_bind (m:=load C) (wpAny_load hC dunder))
theorem C0 {init:Value} (Y:MakesL (model F.prog F.w) h C) (hi:Looks (model F.prog F.w) h (typeLookup (.ref C) "__init__") (some init))
  (hb:∀ self,Looks (model F.prog F.w) h (bindSpecial init self) (init,[self]))
  (hq:codeAny (model F.prog F.w) (A.under (.builtin "type.__call__" ⟨[.ref C,y],[]⟩)) (.call init ⟨[.ref (h.objs.size+1),y],[]⟩) (InitBack (h.objs.size+1) R) ⟨(h.push emptyDict).push (gW C h.objs.size),g,d,t,os⟩) :
  codeAny (model F.prog F.w) A (.call (.ref C) ⟨[y],[]⟩) R ⟨h,g,d,t,os⟩:=by
 refine pJ Y (Y.at fun oc od cd sl hC __ __ e4=>?_)
 have up:∀ b o,h.get? b=some o→((h.push emptyDict).push (gW C h.objs.size)).get? b=some o:=fun b o e=>Heap.get?_push_of_some _ (Heap.get?_push_of_some _ e)
 have mro:Looks (model F.prog F.w) h (mroOf (.ref C)) cd.mro:=((Looks.ld (part:=none) hC).andThen .now).andThen .now
 have made:((h.push emptyDict).push (gW C h.objs.size)).get? (h.objs.size+1)=some (gW C h.objs.size):=by heap_get
 have ty:Looks (model F.prog F.w) ((h.push emptyDict).push (gW C h.objs.size)) (typeOf (.ref (h.objs.size+1))) (.ref C):=(Looks.ld made).andThen .now
 refine wpAny_bind (m:=mroOf (.ref C)) (mro.here ?_)
 rw [e4,if_neg Bool.false_ne_true]
 refine wpAny_bind (m:=Bind.madeBy (.ref C)) (Y.made.here (wpAny_bind (wpAny_pure (wpAny_bind (wpAny_holding (wpAny_call (EY Y ?_)))))))
 refine wpAny_bind (m:=isInstance (.ref (h.objs.size+1)) (.ref C)) ((show Looks (model F.prog F.w) _ (isInstance (.ref (h.objs.size+1)) (.ref C)) true from Looks.andThen (f:=fun tp=>isSubtype tp (.ref C)) ty (Y.self.keeps up)).here ?_)
 refine wpAny_bind (wpAny_holding (wpAny_bind (m:=specialOf (.ref (h.objs.size+1)) "__init__") ((show Looks (model F.prog F.w) _ (specialOf (.ref (h.objs.size+1)) "__init__") (some init) from Looks.andThen (f:=fun tp=>typeLookup tp "__init__") ty (hi.keeps up)).here ?_)))
 refine wpAny_holding (wpAny_bind (((hb (.ref (h.objs.size+1))).keeps up).here (wpAny_bind (wpAny_call (codeAny_mono hq fun r s' z=>?_)))))
 cases r with
 |error e=>exact z
 |ok f=>
  cases f with
  |ret v=>
   obtain ⟨rfl,z⟩:=z
   exact wpAny_pure (wpAny_pure z)
  |_=>exact z.elim
end
end Internal
section
open PySem PySem.W PySem.Calls PyProof.Rows Builtin Builtin.ObjectAttr Builtin.Getset_descriptor
namespace Internal
theorem mt (self:Value) (C:Addr):refuseLoop self "__setattr__" [.ref C,.type "list", .type "object"]=pure ():=by
 rw [refuseLoop_ref];kernel_rfl
theorem mw:plainId "list.__init__" = true:=by decide +kernel
theorem my:entryFor table "list.__init__" = some Builtin.«list.__init__»:=entryFor_of_tree (by kernel_rfl)
inductive InitBody:List Stmt→Prop
 |mk (p0 p1 p2 p3 p4 q0 q1 q2 q3:Pos) (h:(p2.endLine==p3.line)=true):InitBody [.Assign [.Attribute (.Name "self" q0) "_initial_size" q1] (.Name "initial_size" q2) q3,.Expr (.Call (.Attribute (.Call (.Name "super" p0) [] [] p1) "__init__" p2) [] [] p3) p4]
theorem HR (P:Params):∃ body,(aB P 52).body = .stmts body∧InitBody body:=⟨_,by with_unfolding_all rfl,.mk _ _ _ _ _ _ _ _ _ (by rfl)⟩
theorem C7 (P:Params) (u v:Value):∃ k:Option (Array Value)→Sem (List (PySem.Str×Value)),bindArgs (aB P 52) ⟨[u,v],[]⟩=seqItems? (.ref 44) >>= k∧∀ w,k (some #[w])=pure [(("self" : PySem.Str),u),(("initial_size" : PySem.Str),v)]:=⟨_,by with_unfolding_all rfl,fun w=>by kernel_rfl⟩
theorem EZ (P:Params):(HQ P 44).map (·.size)=some 1:=by kernel_rfl
theorem C8 (P:Params):(aB P 52).scope.names.lookup ("initial_size" : PySem.Str)=some .local:=by kernel_rfl
noncomputable def yl (a:AV) (σ:St):Option (AV×St×Bool):=(bv σ a).bind fun q=>if q.l.isEmpty=true∧q.m.length≤900 then some (.none,(σ.set q.d (.ns (upd q.m "_initial_size" (.int 2)))).set q.i (.acc 115 q.d []),false) else none
noncomputable def sD:Fn:=fun avs σ=>one avs fun k=>if dT k=some 2 then rP (σ.length+1) (yl (.ref (σ.length+1)) (σ++[.ns [],.acc 115 σ.length []])) else none
section
variable {F:Fix} {N:Nat} {A:Around} {s:Shared} {ρ:Rg} {σ σ':St} {E:Value→Shared→Prop} {p:Bool}
section
variable {K:Frag} {h:Heap} {x CC:Addr} {ox:Obj} {od:Option Obj} {cd:ClassData} {name:PySem.Str} {M:Model}
theorem sF (X:K.In h) (I:InstAt h x ox CC od) (hc:clsIn K CC=some cd) (hm:cd.mro=[.ref CC,.type "list", .type "object"]):Looks M h (isInstance (.ref x) (.type "object")) true:=by
 have e:mroIn K CC (.type "object")=some true:=by
  show (clsIn K CC).bind _=_
  rw [hc]
  show (if cd.mro.isEmpty=true then none else some (cd.mro.contains (.type "object")))=_
  rw [hm]
  simp
 exact I.type.andThen (looks_mroIn X e)
theorem sG (X:K.In h) (ht:takerIn K CC name=some none):∃ attr,findIn K (.ref CC) name=some attr∧Looks M h (storeTaker? attr) none:=by
 unfold takerIn at ht
 cases e:findIn K (.ref CC) name with
 |none=>rw [e] at ht;cases ht
 |some attr=>
  refine ⟨attr,rfl,?_⟩
  rw [e] at ht
  cases attr with
  |none=>exact .now
  |some a=>
   have ht:(takesIn K a).map (fun b=>if b=true then some a else none)=some none:=ht
   cases eb:takesIn K a with
   |none=>rw [eb] at ht;cases ht
   |some b=>
    rw [eb] at ht
    cases b with
    |true=>cases ht
    |false=>exact (looks_takesIn X eb).andThen .now
end
theorem z5 {K:Frag} {R:Result→Shared→Prop} {x CC dx:Addr} {ox:Obj} {es:List DictEntry} {k:Nat} {name:Str} {tk:Tok} {v:Value} (X:K.In s.heap) (I:InstAt s.heap x ox CC (some (dictOf es k))) (hd:ox.dict=some dx)
  (hp:∃ cd,clsIn K CC=some cd∧cd.mro=[.ref CC,.type "list", .type "object"]) (ht:takerIn K CC name=some none) (hh:(clsIn K CC).any (·.hasDict)=true) (D:s.heap.get? dx=some (dictOf es k)) (hl:(lookIn name (dictOf es k)).isSome=true) (hz:(ve F.w s name v es).length≤1000)
  (h:∀ h',Heap.SameBut dx s.heap h'→h'.get? dx=some (dictOf (ve F.w s name v es) (putN name es k))→R (.ok (.ret .none)) { s with heap:=h',toks:=s.toks+1 }) :
  codeAny (model F.prog F.w) A (.call (.builtin "object.__setattr__") ⟨[.ref x,.str name tk,v],[]⟩) R s:=by
 obtain ⟨cd,hc,hm⟩:=hp
 obtain ⟨attr,ha,hk⟩:=sG (M:=model F.prog F.w) X ht
 have S:=PySem.F.store_object
 have mro:Looks (model F.prog F.w) s.heap (mroOf (.ref CC)) [.ref CC,.type "list", .type "object"]:=hm▸(looks_clsIn X hc).andThen .now
 have run:wpAny (model F.prog F.w) A.in1 (Builtin.«object.__setattr__» ⟨[.ref x,.str name tk,v],[]⟩) (fun fin s'=>match fin with | .done f=>R (.ok f) s' | .again c'=>c'.quiet=true∧codeAny (model F.prog F.w) A c' R s') (fun e s'=>R (.error e) s') s:=by
  rw [osa_eq,refuse_eq]
  refine wpAny_bind (wpAny_bind (I.type.here (wpAny_bind (mro.here ?_))))
  rw [mt]
  exact wpAny_pure (wpAny_bind (I.type.here (wpAny_bind ((looks_findIn X ha).here (wpAny_bind (hk.here (qV X I hd hh D hl hz h)))))))
 exact codeAny_call_builtin S.slot.plain S.entry (@PySem.W.check_slot (model F.prog F.w) _ _ s "object.__setattr__" "object" "__setattr__" (.ref x) [.str name tk,v] [] _ S.kind S.split (sF X I hc hm) (S.args (.ref x) (.str name tk) v) run)
theorem wk (L:LawAt F) {i d:Nat} {a:Addr} {l:List AV} {m:List (PySem.Str×AV)} {av:AV} {u:Value} (I:Inv F s ρ σ) (ha:ρ.l[i]? = some a) (hi:σ[i]? = some (.acc 115 d l)) (hd:σ[d]? = some (.ns m)) (hlen:m.length≤900) (ra:VR s.heap ρ av u) :
  Ok F A [] (setAttr (.ref a) "_initial_size" u) s ρ (σ.set d (.ns (upd m "_initial_size" av))) false (fun __ __ __=>True):=by
 obtain ⟨b,us,nn,es,k,e1,e2,hb,R,rl,IA⟩:=cM I ha hi hd
 have hl:(lookIn "_initial_size" (dictOf es k)).isSome=true:=by
  rw [lookIn_dict]
  cases hm:m.lookup ("_initial_size" : PySem.Str) with
  |none=>rw [(d5 R).2 hm];rfl
  |some av'=>obtain ⟨w,hw,_⟩:=(d5 R).1 av' hm;rw [hw];rfl
 have hz:∀ t,(putL "_initial_size" (PyData.keyHash F.w.params "_initial_size") (.str "_initial_size" t) u es).length≤1000:=fun t=>by
  have h1:=ee (name := "_initial_size") (hs:=PyData.keyHash F.w.params "_initial_size") (key:=.str "_initial_size" t) (v:=u) (es:=es)
  have h2:=fy R
  omega
 have IK:=L.K I
 obtain ⟨cd,hcd,hmro,_⟩:=fe F.w.params
 refine set_plain IK IA (zO _) ?_
 refine z5 (s:={ s with toks:=s.toks+1 }) IK IA rfl ⟨cd,hcd,hmro⟩ (kO _).taker (by have:=nL F.w.params;unfold hasDictIn at this;exact this) e2 hl (hz _) fun h' hs hn=>?_
 have hk:∀ b' o,b'≠b→s.heap.get? b'=some o→h'.get? b'=some o:=fun b' o hne e=>hs.extBut b' o hne e
 have hv:∀ av v,VR s.heap ρ av v→VR h' ρ av v:=fun av v x=>VR.pokeL (wr:=[b]) (fun b' hb'=>by rw [List.mem_singleton.mp hb'];exact .inr ⟨_,e2,rfl⟩) (fun b' o hne e=>hk b' o (fun q=>hne (List.mem_singleton.mpr q)) e) x
 obtain ⟨I',S'⟩:=I.setObj (i:=d) (o:=.ns (upd m "_initial_size" av)) (s.toks+1+1) hb hk hn ⟨_,_,hn,lV (hv _ _ ra) (R.of hv)⟩
 exact ⟨ρ,I',trivial,S' []⟩
theorem wl {x D b:Addr} {vs:Array Value} {n:Nat} {Q:Fin→Shared→Prop} (ho:s.heap.get? x=some { cls:=.ref D,dict:=some b,data:=.seq vs n }) (h0:vs = #[])
  (hQ:∀ h' m,Heap.SameBut x s.heap h'→h'.get? x=some { cls:=.ref D,dict:=some b,data:=.seq #[] m } → Q (.done (.ret .none)) { s with heap:=h' }) :
  wpAny (model F.prog F.w) A (Builtin.«list.__init__» ⟨[.ref x],[]⟩) Q E s:=by
 subst h0
 show wpAny _ _ (Builtin.List.listItems (.ref x) >>= _) _ _ s
 unfold Builtin.List.listItems
 refine wpAny_bind (wpAny_bind (wpAny_seqItems ho rfl (wpAny_pure ?_)))
 refine wpAny_bind (m:=updateSeq x _) ?_
 have D':=Heap.get?_update_self (Obj.mapSeq (fun _:Array Value=>#[])) ho rfl
 refine wpAny_updateSeq (hz:=Nat.zero_le _) (_hz':=Nat.zero_le _) ho rfl ?_
 refine wpAny_bind (wpAny_letGo ?_)
 exact wpAny_pure (hQ _ _ (Heap.SameBut.update ..) D')
set_option tactic.hygienic true in
theorem C9 (L:LawAt F) (I:Inv F s ρ σ) {G:Prop} (k:∀ o w n,s.heap.get? 44=some o→o.data = .seq #[w] n→G):G:=by
 have hs1:=EZ F.w.params
 unfold HQ at hs1
 split at hs1
 ·rename_i c1 c2 vs' c3 c4 hlk
  obtain ⟨w,rfl⟩:=Array.size_eq_one_iff.mp (Option.some.inj hs1)
  exact k _ w c3 (L.K I _ _ hlk) rfl
 ·cases hs1
theorem mz {P:Params} (Y:SupFn P 52) {Lc:Addr} : interactive (callEnv (aB P 52) Lc 52)=false:=by
 unfold interactive;rw [show (callEnv (aB P 52) Lc 52).scope.kind = .function from Y.kind];rfl
theorem wm (L:LawAt F) {Lc x:Addr} {i d:Nat} {mm:List (PySem.Str×AV)} {body:List Stmt} {p0 p1 p2 p3:Pos} {m:PySem.Str→Option Value} {G:Value→Shared→Prop} (hline:(p2.endLine==p3.line)=true) (I:Inv F s ρ σ) (hns:s.heap.Ns Lc m) (hself:m "self" = some (.ref x)) (hx:ρ.l[i]? = some x) (hi:σ[i]? = some (.acc 115 d [])) (hd:σ[d]? = some (.ns mm))
  (h:∀ v s',Inv F s' ρ (σ.set i (.acc 115 d []))→Stp [] false ρ s.heap ρ s'.heap→G v s') :
  _root_.PySem.wpAt (model F.prog F.w) A (.func body (callEnv (aB F.w.params 52) Lc 52)) (eval (.Call (.Attribute (.Call (.Name "super" p0) [] [] p1) "__init__" p2) [] [] p3) (callEnv (aB F.w.params 52) Lc 52)) G Ht s:=by
 obtain ⟨bd,us,n,es',kk,o1,o2,hbd,Rn,rl,J⟩:=cM I hx hi hd
 refine fE L (r9 _) I (by decide) hns hself J (pw _) zP kR iK (kS _ _ _) (.inr rfl) (fun hL hp=>nM (.inr rfl) hL hp) hline fun b h' tk hbb k'=>?_
 refine iL mw pg (ml _) my hbb (wl (k' _ _ o1) (Array.eq_empty_of_size_eq_zero rl.size) fun h₆ m₆ hsb hx'=>?_)
 obtain ⟨I₆,S₆⟩:=wb (l:=[]) (I.heap k' tk) hx hbd (k' _ _ o1) hsb hx' trivial tk
 exact h _ _ I₆ ((Stp.keeps (fa:=[]) k').trans (S₆ []))
theorem sH (L:LawAt F) {body₀ body:List Stmt} {Lc x:Addr} {i d:Nat} {mm:List (PySem.Str×AV)} {m:PySem.Str→Option Value} {G:Flow→Shared→Prop} {t0:Tok} (hb:InitBody body) (I:Inv F s ρ σ) (hL:Lc ∉ ρ.l) (hns:s.heap.Ns Lc m) (hself:m "self" = some (.ref x)) (hz:m "initial_size" = some (.int 2 t0)) (hx:ρ.l[i]? = some x) (hi:σ[i]? = some (.acc 115 d [])) (hd:σ[d]? = some (.ns mm)) (hlen:mm.length≤900) (hne:d≠i)
  (h:∀ ρ' s',Inv F s' ρ' ((σ.set d (.ns (upd mm "_initial_size" (.int 2)))).set i (.acc 115 d []))→Stp [] false ρ s.heap ρ' s'.heap→G .next s') :
  _root_.PySem.wpAt (model F.prog F.w) A (.func body₀ (callEnv (aB F.w.params 52) Lc 52)) (execs body (callEnv (aB F.w.params 52) Lc 52)) G Ht s:=by
 have Y:=r9 F.w.params
 obtain ⟨p0,p1,p2,p3,p4,q0,q1,q2,q3,hline⟩:=hb
 refine ks_wpAt_execs_cons (ks_wpAt_Assign_Attr (_root_.PySem.wpAt_of_wpAny (wpAny_Name (wpAny_loadName_local Y.kind (C8 F.w.params) hns hz (wpAny_Name (wpAny_loadName_local Y.kind Y.self hns hself ?_))))) (by rfl))
 refine wpAny_mono (wk L (av:=.int 2) I hx hi hd hlen ⟨t0,rfl⟩) (fun _ s₄ ⟨ρ₄,I₄,_,S₄⟩=>?_) fun __ __ z=>z.elim
 exact ks_wpAt_execs_cons (ks_wpAt_Expr_any (wm L hline I₄ (hns.at' fun o e=>S₄.keep _ o (.inr hL) (by simp) e) hself (S₄.ext _ _ hx) ((List.getElem?_set_ne hne).trans hi) (List.getElem?_set_self (List.getElem?_eq_some_iff.mp hd).1) fun v s' I' S'=>_root_.PySem.wpAt_of_wpAny (wpAny_execs_nil (h _ _ I' (S₄.trans S')))) (mz Y) (by rfl))
theorem z6 (L:LawAt F) {a:AV} {v:Value} {r:AV} (h:yl a σ=some (r,σ',p)) (hA:AOk (N+1) A) (I:Inv F s ρ σ) (ra:VR s.heap ρ a v) {t0:Tok} {R:Result→Shared→Prop} (k:∀ s',Post F [] ρ s.heap σ' p (VV r) .none s'→R (.ok (.ret .none)) s'):codeAny (model F.prog F.w) A (.call (.ref 52) ⟨[v,.int 2 t0],[]⟩) R s:=ad h fun q hq h2=>al h2 fun hc e=>dq hq ra fun x ea hv hx hi hd=>by
 cases e
 subst hv
 have hl:=List.isEmpty_iff.mp hc.1
 obtain ⟨kb,hb1,hb2⟩:=C7 F.w.params (.ref x) (.int 2 t0)
 obtain ⟨body,hbody,hB⟩:=HR F.w.params
 have Y:=r9 F.w.params
 refine C9 L I fun od ows nn0 hod hows=>?_
 refine yh (pp L Y.ok) hbody (binds:=[(("self" : PySem.Str),.ref x),(("initial_size" : PySem.Str),.int 2 t0)]) (fun M A E Q hq=>by rw [hb1];exact wpAny_bind (wpAny_seqItems hod hows (by rw [hb2];exact wpAny_pure hq))) (nP Y.cell)
  (fun x hx=>(List.mem_cons.mp hx).elim (fun e=>e▸Y.self) fun hx=>List.mem_singleton.mp hx▸C8 _) Y.cor Y.gen Y.kind hA I fun s₁ Lc I₃ hns k' hd' hA₁=>?_
 exact sH L hB I₃ (I.dead_out hd').1 hns (by rfl) (by rfl) hx (hl▸hi) hd hc.2 (fun e=>by rw [e,hi] at hd;cases hd) fun ρ' s' I' S'=>k s' ⟨ρ',I',rfl,(Stp.keeps (fa:=[]) k').trans S'⟩
theorem wn (L:LawAt F):CodeOk F (N+2) (.ref 115) sD:=fun {A s ρ σ avs vs r σ' p} h hA I rv=>dW (G:=fun vs=>codeAny (model F.prog F.w) A (.call (.ref 115) ⟨vs,[]⟩) (fun res s'=>match res with | .ok (.ret u)=>Post F [] ρ s.heap σ' p (VV r) u s' | _=>False) s) h rv fun a v __ h ra=>aV h fun hk h=>iI h fun q hΦ e1 e2=>by
 subst e1 e2
 have X:=L.K I
 have ea:=bl hk
 subst ea
 obtain ⟨t0,rfl⟩:=ra
 obtain ⟨hh,g,d,t,os⟩:=s
 obtain ⟨ρ₂,I₂,r₂,ST⟩:=nI (o:=gW 115 hh.objs.size) (x:=.acc 115 σ.length []) rfl (fun ρ' e=>⟨_,_,_,e,Heap.get?_push_size _ rfl,trivial⟩) I
 have ez:(hh.push emptyDict).objs.size=hh.objs.size+1:=Heap.size_push ..
 rw [ez] at r₂
 exact C0 (k7 _ X) (looks_findIn X (jz _)) (fun self=>bind_fn X self (EX _)) (z6 L hΦ (hA.typeCall 115 [.int 2 t0]) I₂ r₂ fun s' ⟨ρ₃,I₃,ru,S₃⟩=>⟨rfl,ρ₃,I₃,VR.mono S₃ _ _ r₂,ST.trans S₃⟩)
end
end Internal
end
namespace Internal
theorem jA (P:Params):findIn (KK P) (.ref 115) "__iter__" = some (some (.builtin "list.__iter__")):=by kernel_rfl
theorem pK:builtinKind "list.__iter__" = some .slot:=by decide +kernel
theorem mA:splitId "list.__iter__" = some ("list", "__iter__"):=by decide +kernel
theorem mB:plainId "list.__iter__" = true:=by decide +kernel
section
variable {F:Fix} {K:Frag} {N:Nat} {A:Around} {s:Shared} {ρ:Rg} {σ σ':St} {E:Value→Shared→Prop}
theorem sI {x:Addr} {Q:Value→Shared→Prop} (hi:Looks (model F.prog F.w) s.heap (isInstance (.ref x) (.type "list")) true)
  (h:wpAny (model F.prog F.w) A.in1 (Builtin.«list.__iter__» ⟨[.ref x],[]⟩) (fun fin s'=>∃ v,fin = .done (.ret v)∧Q v s') E s):wpAny (model F.prog F.w) A (call (.builtin "list.__iter__") [.ref x]) Q E s:=by
 have ha:=args_list_iter (.ref x)
 have h1:=pK
 have h2:=mA
 have h3:=mB
 have h4:=entry_list_iter
 generalize "list.__iter__" = j at *
 exact ff h3 h4 (.inr h1) h2 hi ha h
theorem wo {x D:Addr} {ox:Obj} {od:Option Obj} {Q:Value→Shared→Prop} (X:K.In s.heap) (J:InstAt s.heap x ox D od) (hf:findIn K (.ref D) "__iter__" = some (some (.builtin "list.__iter__"))) (hl:mroIn K D (.type "list")=some true)
  (hQ:Q (.ref s.heap.objs.size) { s with heap:=s.heap.push { cls:=.type "list_iterator", data:=.fields #[.ref x,.int 0 0] } }) :
  wpAny (model F.prog F.w) A (pyIter (.ref x)) Q E s:=by
 have hiL:Looks (model F.prog F.w) s.heap (isInstance (.ref x) (.type "list")) true:=bE X hl J
 have hc:wpAny (model F.prog F.w) A (call (.builtin "list.__iter__") [.ref x]) (fun it s'=>∃ T' r,s'.TypeIs it T'∧typeLookup (.type T') "__next__" = pure (some r)∧Q it s') E s:=by
  refine sI hiL ?_
  show wpAny _ _ (do ret (←newFields "list_iterator" [.ref x,rawInt 0])) _ _ s
  exact wpAny_bind (wpAny_newObj_type (wpAny_pure ⟨_,rfl, "list_iterator", _,⟨_,Heap.get?_push_size _ rfl,rfl⟩,slot_listiter_next.lookup,hQ⟩))
 have key:∀ (refuse:Sem Value) (Q':Option Value→Shared→Prop),wpAny (model F.prog F.w) A (call (.builtin "list.__iter__") [.ref x]) (fun v=>Q' (some v)) E s→wpAny (model F.prog F.w) A (callSpecialIfBoundUnlessNone? (.ref x) "__iter__" refuse) Q' E s:=by
  intro refuse Q' hc
  simp only [callSpecialIfBoundUnlessNone?,bindSpecialIfBound?,specialOf]
  refine wpAny_holding (wpAny_bind (wpAny_bind (wpAny_bind (J.type.here ((looks_findIn X hf).here ?_)))))
  simp only [slot_list_iter.bind]
  refine wpAny_bind (wpAny_askSetting (wpAny_ite ?_))
  have fin:wpAny (model F.prog F.w) A (if (Value.builtin "list.__iter__" == Value.none)=true then (refuse >>= fun v=>pure (some v)) else (call (.builtin "list.__iter__") [.ref x] >>= fun v=>pure (some v))) Q' E s:=by
   rw [if_neg (by decide)]
   exact wpAny_bind (wpAny_mono hc (fun v s' h'=>wpAny_pure h') fun __ __ h'=>h')
  split
  ·exact wpAny_bind (wpAny_pure (wpAny_pure fin))
  ·exact wpAny_tryCatch (wpAny_bind (wpAny_pure (wpAny_pure fin)))
 unfold pyIter specialOf
 refine wpAny_bind (wpAny_bind (J.type.here ((looks_findIn X hf).here ?_)))
 dsimp only
 refine wpAny_bind (key _ _ (wpAny_mono hc (fun it s' h'=>?_) fun __ __ z=>z))
 obtain ⟨T',r,hT',hl',hq⟩:=h'
 exact wpAny_bind (wpAny_specialOf hT' hl' (wpAny_pure hq))
end
end Internal
namespace Internal
noncomputable def HasSeq (h:Heap) (x:Addr) (items:Array Value):Prop:=∃ o n,h.get? x=some o∧o.data = .seq items n
theorem HasSeq.keep {h h':Heap} {x:Addr} {items:Array Value} (a:HasSeq h x items) (k:∀ o,h.get? x=some o→h'.get? x=some o):HasSeq h' x items:=let ⟨o,n,e,r⟩:=a;⟨o,n,k _ e,r⟩
section
variable {F:Fix} {A:Around} {s:Shared} {E:Value→Shared→Prop} {it l:Addr} {i:Nat} {items:Array Value}
theorem wq {Q:Fin→Shared→Prop} (hh:A.handled=none) (hit:s.heap.IsListIter it l i) (hs:HasSeq s.heap l items)
  (h1:∀ x h',items[i]? = some x→h'.IsListIter it l (i+1)→Heap.SameBut it s.heap h'→Q (.done (.ret x)) { s with heap:=h' })
  (h2:∀ e h',items[i]? = none→Heap.ExtBut it s.heap h'→(∃ o,h'.get? e=some o∧o.cls = .type "StopIteration")→E (.ref e) { s with heap:=h' }) :
  wpAny (model F.prog F.w) A.in1 (Builtin.«list_iterator.__next__» ⟨[.ref it],[]⟩) Q E s:=by
 obtain ⟨o,ho,hc,hd⟩:=id hit
 obtain ⟨ol,nl,hol,hdl⟩:=hs
 refine wpAny_bind (m:=field (.ref it) 0) (wpAny_field ho hd (x:=.ref l) rfl ?_)
 show wpAny _ _ (if (Value.ref l==Value.none)=true then _ else _) _ _ s
 rw [if_neg (show ¬ ((Value.ref l==Value.none)=true) from Bool.false_ne_true)]
 refine wpAny_bind (m:=field (.ref it) 1) (wpAny_field ho hd (x:=.int i 0) rfl ?_)
 refine wpAny_bind (m:=seqItems? (.ref l)) (wpAny_seqItems hol hdl ?_)
 simp only [Int.toNat_natCast]
 cases hx:items[i]? with
 |some x=>exact wpAny_bind (wpAny_setField ho hd (by simp) (wpAny_pure (h1 x _ hx ⟨_,Heap.get?_update_self _ ho (Obj.isFreed_of_fields (Obj.data_mapFields hd _)),(Obj.cls_mapFields ..).trans hc,by rw [Obj.data_mapFields hd];simp [rawInt]⟩ (Heap.SameBut.update ..))))
 |none=>
  refine wpAny_bind (wpAny_rule (wpAny_bind (wpAny_setField ho hd (by simp) (wpAny_bind (m:=newExc (.type "StopIteration") []) ?_))))
  simp only [newExc,newTuple]
  refine wpAny_bind (wpAny_newObj_type (wpAny_bind (m:=firstArgMember _ _) (wpAny_of_eq (a:=Value.none) (by first | rfl | (simp only [firstArgMember];rfl)) (wpAny_newObj_type ?_ (by size_fits)))) (by size_fits))
  simp only [raiseNew]
  refine wpAny_bind (wpAny_handled ?_)
  rw [show A.in1.handled=none from hh]
  exact wpAny_bind (wpAny_pure (wpAny_throw (h2 _ _ hx (((Heap.SameBut.update ..).extBut.push _).push _) ⟨_,Heap.get?_push_size _ rfl,rfl⟩)))
theorem nU {Q:Option Value→Shared→Prop} (hh:A.handled=none) (hit:s.heap.IsListIter it l i) (hs:HasSeq s.heap l items)
  (h1:∀ x h',items[i]? = some x→h'.IsListIter it l (i+1)→Heap.SameBut it s.heap h'→Q (some x) { s with heap:=h' }) (h2:∀ h',items[i]? = none→Heap.ExtBut it s.heap h'→Q none { s with heap:=h' }) :
  wpAny (model F.prog F.w) A (pyNext (.ref it)) Q E s:=by
 unfold pyNext
 exact wpAny_bind (wpAny_attempt (wpAny_callSpecial?_slot (name:=Str.ofString "__next__") hit.typeIs slot_listiter_next (wpAny_call_entry slot_listiter_next hit.typeIs entry_listiter_next
  (wq (Q:=fun fin s'=>∃ v,fin = .done (.ret v)∧wpAny (model F.prog F.w) A (pure (some v):Sem (Option Value)) Q E s') hh hit hs (fun x h' a b c=>⟨x,rfl,wpAny_pure (h1 x h' a b c)⟩) fun e h' a b c=>wpAny_bind (wpAny_isInstance (T := "StopIteration") (b:=true) c isSubtype_stop (wpAny_pure (h2 h' a b)))) (args_listiter_next _))))
noncomputable abbrev fg (q:Str×Str):AV:=.tup [.str q.1,.str q.2]
inductive PairAt (h:Heap) (v:Value) (q:Str×Str):Prop
 |mk (T:Addr) (ta tb:Tok) (n:Nat) (e:v = .ref T) (o:h.get? T=some (gm #[.str q.1 ta,.str q.2 tb] n)):PairAt h v q
structure PairsIn (h:Heap) (us:Array Value) (ps:List (Str×Str)):Prop where
 size:us.size=ps.length
 get:∀ (k:Nat) (v:Value) (q:Str×Str),us[k]? = some v→ps[k]? = some q→PairAt h v q
theorem z7 {h:Heap} {ρ:Rg} {q:Str×Str} {v:Value} (r:VR h ρ (fg q) v):PairAt h v q:=by
 obtain ⟨T,us,n,rfl,_,ho,hr⟩:=r
 obtain ⟨lst⟩:=us
 match lst,hr with
 | [x,y],hr=>
  obtain ⟨⟨ta,rfl⟩,⟨tb,rfl⟩,_⟩:=hr
  exact ⟨T,ta,tb,n,rfl,ho⟩
 | [],hr=>exact hr.elim
 | [_],hr=>exact hr.2.elim
 |_::_::_::_,hr=>exact hr.2.2.elim
theorem wt {h:Heap} {ρ:Rg} {ps:List (Str×Str)} {us:Array Value} (r:VRs h ρ (ps.map fg) us.toList):PairsIn h us ps where
 size:=r.size.trans (List.length_map ..)
 get:=fun k v q hv hq=>by
  obtain ⟨u,hu,hr⟩:=r.get (i:=k) (a:=fg q) (by rw [List.getElem?_map,hq];rfl)
  rw [Array.getElem?_toList,hv] at hu
  cases hu
  exact z7 hr
theorem PairsIn.keep {h h':Heap} {us:Array Value} {ps:List (Str×Str)} (X:PairsIn h us ps) (k:∀ b vs n,h.get? b=some (gm vs n)→h'.get? b=some (gm vs n)):PairsIn h' us ps where
 size:=X.size
 get:=fun j v q hv hq=>let ⟨T,ta,tb,n,e,o⟩:=X.get j v q hv hq;⟨T,ta,tb,n,e,k _ _ _ o⟩
structure AccSt (I ax:Addr) (us:Array Value) (ps:List (Str×Str)) (k:Nat) (h:Heap):Prop where
 it:h.IsListIter I ax k
 sq:HasSeq h ax us
 pr:PairsIn h us ps
section
variable {I ax:Addr} {us:Array Value} {ps:List (Str×Str)} {k j:Nat} {h h':Heap}
theorem AccSt.ne_tup (X:AccSt I ax us ps k h) {T:Addr} {vs:Array Value} {n:Nat} (e:h.get? T=some (gm vs n)):T≠I:=fun q=>by
 obtain ⟨o,ho,hc,_⟩:=X.it
 rw [q,ho] at e
 cases e
 injection hc with hc
 exact absurd hc (by decide)
theorem AccSt.ne_acc (X:AccSt I ax us ps k h):ax≠I:=fun q=>by
 obtain ⟨o,ho,hc,hd⟩:=X.it
 obtain ⟨o',n,e,r⟩:=X.sq
 rw [q,ho] at e
 cases e
 rw [hd] at r
 cases r
theorem AccSt.move (X:AccSt I ax us ps k h) (hit:h'.IsListIter I ax j) (hk:∀ b o,b≠I→h.get? b=some o→h'.get? b=some o):AccSt I ax us ps j h':=
 ⟨hit,X.sq.keep fun o e=>hk _ _ X.ne_acc e,X.pr.keep fun b vs n e=>hk _ _ (X.ne_tup e) e⟩
noncomputable def nV (us:Array Value):List Addr:=us.toList.filterMap fun v=>match v with | .ref T=>some T | _=>none
theorem wu {T:Addr} (e:us[k]? = some (.ref T)):T∈nV us:=List.mem_filterMap.mpr ⟨.ref T,List.mem_of_getElem? (i:=k) (by rw [Array.getElem?_toList];exact e),rfl⟩
theorem AccSt.at {F:Fix} (X:AccSt I ax us ps k h) {i:Nat} (hi:i < ps.length) {G:Prop} (g:∀ T ta tb n q,us[i]? = some (.ref T)→ps[i]? = some q→h.get? T=some (gm #[.str q.1 ta,.str q.2 tb] n)→G):G:=by
 have h2:i < us.size:=X.pr.size▸hi
 obtain ⟨T,ta,tb,n,e,o⟩:=X.pr.get i _ _ (Array.getElem?_eq_getElem h2) (List.getElem?_eq_getElem hi)
 exact g T ta tb n _ (e▸Array.getElem?_eq_getElem h2) (List.getElem?_eq_getElem hi) o
noncomputable def nW (ps:List (Str×Str)) (k:Nat) (vals:Array Value):Prop:=∃ q ta tb,ps[k]? = some q∧vals = #[.str q.1 ta,.str q.2 tb]
theorem sJ {F:Fix} {A:Around} (hh:A.handled=none):WalksU F.prog F.w A I (I::ax::nV us) [I] ps.length (nW ps) (AccSt I ax us ps) (fun j T h=>(∃ vs n,h.get? T=some (gm vs n))∧AccSt I ax us ps (j+1) h) where
 sub:=fun b hb=>List.mem_singleton.mp hb ▸ .head _
 frame:=fun __ __ __ X hk=>⟨X.it.at fun o e=>hk _ (.head _) o e,X.sq.keep fun o e=>hk _ (.tail _ (.head _)) o e,⟨X.pr.size,fun k v q hv hq=>let ⟨T,ta,tb,n,e,o⟩:=X.pr.get k v q hv hq;⟨T,ta,tb,n,e,hk T (.tail _ (.tail _ (wu (e▸hv)))) _ o⟩⟩⟩
 item:=fun i s Q E hi X hQ=>X.at (F:=F) hi fun T ta tb n q h1 h2 h3=>nU hh X.it X.sq (fun x h' hx hit hsb=>(by
  rw [h1] at hx
  cases hx
  exact hQ T _ h' s.toks ⟨q,ta,tb,h2,rfl⟩ ⟨_,hsb.extBut _ _ (X.ne_tup h3) h3,rfl,_,rfl⟩ ⟨⟨_,_,hsb.extBut _ _ (X.ne_tup h3) h3⟩,X.move hit fun b o hb e=>hsb.extBut _ _ hb e⟩ fun b o hb e=>hsb.extBut b o (fun q=>hb (q ▸ .head _)) e)) fun h' hx=>(by rw [h1] at hx;cases hx)
 go:=fun __ __ __ __ __ s Q __ hm hQ=>wpAny_letOwnedTupleGo_listiter hm.2.it (hQ s.heap hm.2 fun __ __ __ e=>e)
 apart:=fun j T __ hm hmem=>let ⟨_,_,e⟩:=hm.1;hm.2.ne_tup e (List.mem_singleton.mp hmem)
 done:=fun s Q E X hQ=>nU hh X.it X.sq (fun x h' hx=>(by rw [Array.getElem?_eq_none (Nat.le_of_eq X.pr.size)] at hx;cases hx)) fun h' __ he=>hQ h' s.toks fun b o hb e=>he b o (fun q=>hb (q ▸ .head _)) e
 self:=fun __ __ __ __ X hQ=>wpAny_pyIter_listiter X.it hQ
end
end
end Internal
namespace Internal
theorem wv:builtinKind "list.__getattribute__" = some .slot:=by decide +kernel
theorem sK:splitId "list.__getattribute__" = some ("list", "__getattribute__"):=by decide +kernel
theorem sM:plainId "list.__getattribute__" = true:=by decide +kernel
section
variable {F:Fix} {K:Frag} {A:Around} {s:Shared} {ρ:Rg} {σ σ':St} {E:Value→Shared→Prop}
theorem ww {x:Addr} {i:Value} {Q:Value→Shared→Prop} (hi:Looks (model F.prog F.w) s.heap (isInstance (.ref x) (.type "list")) true)
  (h:wpAny (model F.prog F.w) A.in1 (Builtin.«object.__getattribute__» ⟨[.ref x,i],[]⟩) (fun fin s'=>∃ v,fin = .done (.ret v)∧Q v s') E s):wpAny (model F.prog F.w) A (call (.builtin "list.__getattribute__") [.ref x,i]) Q E s:=by
 have ha:=PySem.F.args_list_getattribute_2 (.ref x) i
 have h1:=wv
 have h2:=sK
 have h3:=sM
 have h4:=PySem.am_entry_list_getattribute
 generalize "list.__getattribute__" = j at *
 exact ff h3 h4 (.inr h1) h2 hi ha h
theorem wx {x D:Addr} {ox:Obj} {od:Option Obj} {name:Str} {v:Value} {expr:Bool} {Q:Value→Shared→Prop} (X:K.In s.heap) (J:InstAt s.heap x ox D od) (hga:findIn K (.ref D) "__getattribute__" = some (some (.builtin "list.__getattribute__"))) (hk:findIn K (.ref D) "__getattr__" = some none)
  (hl:mroIn K D (.type "list")=some true) (hf:findObj K D od name=some (.value v)) (hh:handedIn v=true) (h:Q v { s with toks:=s.toks+1 }):wpAny (model F.prog F.w) A (getAttr (.ref x) name expr) Q E s:=by
 have hiL:Looks (model F.prog F.w) s.heap (isInstance (.ref x) (.type "list")) true:=bE (s:=s) X hl J
 obtain ⟨hp,g,d,t,os⟩:=s
 unfold getAttr getAttrBy
 refine wpAny_bind (wpAny_mkText (wpAny_holding (wpAny_bind (J.type.at (wpAny_bind ((looks_findIn X hga).at ?_))))))
 show wpAny _ _ (getAttrByItsOwn (.ref x) (.str name t) (.ref D) (.builtin "list.__getattribute__") true expr) _ _ _
 unfold getAttrByItsOwn hookBefore callGetattribute boundAndCalled
 rw [if_pos (show onTheHeap (.ref D)=true from rfl)]
 refine wpAny_bind ((looks_findIn X hk).at ?_)
 refine wpAny_bind (wpAny_attempt (wpAny_holding ?_))
 rw [if_neg (by cases expr<;>decide)]
 refine wpAny_bind (wpAny_of_eq (PySem.F.slot_list_getattribute.bind _) ?_)
 show wpAny _ _ (call (.builtin "list.__getattribute__") [.ref x,.str name t]) _ _ _
 refine ww hiL ?_
 unfold Builtin.«object.__getattribute__»
 refine wpAny_bind (wpAny_pure ?_)
 refine wpAny_bind (wpAny_pure (wpAny_bind (J.type.at (wpAny_bind ((looks_find X J hf).at ?_)))))
 refine wpAny_pure ⟨_,rfl,?_⟩
 show wpAny _ _ (handedOut v) _ _ _
 rw [handedOut_of hh]
 exact wpAny_pure h
end
end Internal
namespace Internal
theorem sN (a b:Value):argsOk "sum" ⟨[a,b],[]⟩:=by unfold argsOk;kernel_rfl
section
variable {F:Fix} {A:Around} {s:Shared} {E:Value→Shared→Prop}
theorem mC {I:Addr} {fp wr:List Addr} {G:Array GenState→Array GenState→Prop} {n:Nat} {P:Nat→Value→Prop} {St:Nat→Shared→Prop} (W:WalksS F.prog F.w A I fp wr G n P St) :
  WalksS F.prog F.w A I fp wr G (n+1) (fun i v=>match i with | 0=>False | i+1=>P i v) (fun i s=>match i with | 0=>False | i+1=>St i s) where
 sub:=W.sub
 grefl:=W.grefl
 gtrans:=W.gtrans
 frame:=fun i s h' tk st ht hk=>match i,st with | i+1,st=>W.frame i s h' tk st ht hk
 item:=fun i s Q E hi st hQ=>match i,st,hi with | i+1,st,hi=>W.item i s Q E (Nat.lt_of_succ_lt_succ hi) st hQ
 done:=fun s Q E st hQ=>W.done s Q E st hQ
 self:=fun i s Q E st hQ=>match i,st with | i+1,st=>W.self i s Q E st hQ
noncomputable def sO (val:Nat→Int):Nat→Int | 0=>2 | i+1=>val i
theorem iP (val:Nat→Int):∀ n,preSum (sO val) (n+1)=2+preSum val n
 |0=>rfl
 |n+1=>by
  show preSum (sO val) (n+1)+val n=2+(preSum val n+val n)
  rw [iP val n,Int.add_assoc]
theorem z8 {x:Value} {t0:Tok} {Q:Value→Shared→Prop}
  (h:wpAny (model F.prog F.w) A.in1 (pyIter x) (fun it s₂=>∃ I fp wr G n P St val,it = .ref I∧WalksS F.prog F.w A.in1 I fp wr G n P St∧St 0 s₂∧(∀ b∈fp,b < s₂.heap.objs.size) ∧
   (∀ i v,P i v→∃ t,v = .int (val i) t)∧∀ s' t',Moved wr G s₂ s'→Q (.int (2+preSum val n) t') s') E s) :
  wpAny (model F.prog F.w) A (call (.builtin "sum") [x,.int 2 t0]) Q E s:=by
 refine call_function_tree PySem.F.kind_sum PySem.F.plain_sum PySem.F.entry_sum (sN _ _) ?_
 unfold Builtin.«sum»
 simp only [List.length_cons,List.length_nil]
 rw [if_neg (by decide)]
 refine wpAny_bind (wpAny_of_eq (show Builtin.Builtins.bindParams "sum" ["start"] 0 ⟨[.int 2 t0],[]⟩=pure [some (.int 2 t0)] from rfl) ?_)
 refine wpAny_bind (wpAny_mono h (fun it s₂ h₂=>?_) fun __ __ e=>e)
 obtain ⟨I,fp,wr,G,n,P,St,val,rfl,W,hst,hfp,hval,hQ⟩:=h₂
 dsimp only
 rw [if_pos (by decide)]
 refine wpAny_bind (wpAny_rule (wpAny_bind (wpAny_mkInt (wpAny_bind (wpAny_pure ?_)))))
 simp only [List.forIn_cons,List.forIn_nil]
 refine wpAny_bind (wpAny_bind (wpAny_bind (wpAny_isInstance (T := "int") (b:=false) (typeIs_int _ _ _) PySem.sub_int_str (KFB.if_not rfl (wpAny_pure ?_)))))
 refine wpAny_bind (wpAny_bind (wpAny_isInstance (T := "int") (b:=false) (typeIs_int _ _ _) PySem.sub_int_bytes (KFB.if_not rfl (wpAny_pure ?_))))
 refine wpAny_bind (wpAny_bind (wpAny_isInstance (T := "int") (b:=false) (typeIs_int _ _ _) PySem.sub_int_bytearray (KFB.if_not rfl (wpAny_pure (wpAny_pure ?_)))))
 refine wpAny_bind (wpAny_newObj_type ?_)
 have hSf:s₂.heap.objs.size ∉ fp:=fun hm=>Nat.lt_irrefl _ (hfp _ hm)
 refine wpAny_pure ⟨plainId_quiet PySem.F.plain_sum_loop _,codeAny_sum_loopAnyS (mC W) (sO val) (fun i v hv=>match i,hv with | i+1,hv=>hval i v hv) s₂.heap.objs.size hSf n 1 _ s₂.toks 0 0 (.inl rfl) rfl (Nat.succ_le_succ (Nat.zero_le _))
  (W.frame 0 s₂ _ _ hst (Nat.le_succ _) fun b __ o e=>Heap.get?_push_of_some _ e) (Heap.get?_push_size _ rfl) fun s' t' hm=>iP val n▸hQ s' t' ((hm.drop_new (Nat.le_succ _)))⟩
end
end Internal
namespace Internal
theorem wz (P:Params):PlainFn P 82:=(by refine ⟨?_,?_,?_,?_,?_,?_,?_⟩<;>kernel_rfl)
theorem wA (P:Params):PlainFn P 89:=(by refine ⟨?_,?_,?_,?_,?_,?_,?_⟩<;>kernel_rfl)
structure GenFn (P:Params) (f c T:Addr):Prop where
 pl:PlainFn P f
 code:(aB P f).code = .ref c
 tab:codeHdIn (KK P) c T=true
 self:(aB P f).scope.names.lookup ("self" : Str)=some .local
 mem:T∈[163,77,84]
theorem sP (P:Params):GenFn P 82 81 77:=⟨wz P,by kernel_rfl,by kernel_rfl,by kernel_rfl,by decide⟩
theorem sQ (P:Params):GenFn P 89 88 84:=⟨wA P,by kernel_rfl,by kernel_rfl,by kernel_rfl,by decide⟩
noncomputable abbrev c9 (T:Addr) (pos:Pos):Array Value:=#[.ref T,rawInt pos.line,rawInt pos.col]
section
variable {F:Fix} {C:Cfg} {N:Nat} {A:Around} {s:Shared} {ρ:Rg} {σ σ':St} {E:Value→Shared→Prop}
theorem wB (L:LawAt F) {f c T:Addr} (G:GenFn F.w.params f c T) {env:Env} (hcode:env.code = .ref c) (I:Inv F s ρ σ) {j:Nat} {pos:Pos} (hj:ρ.l[j]? = some T) (hσ:σ[j]? = some (.tab (c9 T pos))) {qual:Str} {scope:Scope} {Q:Value→Shared→Prop}
  (h:∀ c' h' tk,(∀ b o,b≠T→s.heap.get? b=some o→h'.get? b=some o)→s.heap.objs.size≤h'.objs.size→OR F h' ρ T (.tab (c9 T pos))→Q (.ref c') { s with heap:=h',toks:=tk }) :
  wpAny (model F.prog F.w) A (genexprCode env pos qual scope) Q E s:=by
 obtain ⟨ps,hP,_,hps⟩:=I.objs j T _ hj hσ
 have CH:=codeHd_of_K (L.K I) G.tab
 rcases hps with rfl | ⟨_,c',rfl⟩
 ·exact wpAny_genexprCodeX hcode (CH.code hP trivial) (CH.tab hP) rfl fun c' h' tk hx hge hlt __ __ htb __=>h c' h' tk hx (Nat.le_trans hge (Nat.le_of_lt hlt)) ⟨_,htb.2,rfl,.inr ⟨rfl,c',rfl⟩⟩
 ·have hf:codeAmong pos (#[(c9 T pos).getD 1 .none,(c9 T pos).getD 2 .none,Value.ref c']:Array Value).toList=some (.ref c'):=by
   show codeAmong pos [rawInt pos.line,rawInt pos.col,Value.ref c']=_
   simp [codeAmong,rawInt]
  exact wpAny_genexprCode_hit hcode (CH.code hP trivial) hf (h c' s.heap s.toks (fun __ __ __ e=>e) (Nat.le_refl _) ⟨_,hP,rfl,.inr ⟨rfl,c',rfl⟩⟩)
theorem sS (I:Inv F s ρ σ) {j:Nat} {T:Addr} {pos:Pos} (h:σ[j]? = some (.tab (c9 T pos))):ρ.l[j]? = some T:=by
 have hlt:j < σ.length:=by
  rcases Nat.lt_or_ge j σ.length with q | q
  ·exact q
  ·rw [List.getElem?_eq_none q] at h;cases h
 have hl:j < ρ.l.length:=by rw [I.len];exact hlt
 obtain ⟨ps,_,e,_⟩:=I.objs j ρ.l[j] _ (List.getElem?_eq_getElem hl) h
 have e:(some (Value.ref T):Option Value)=some (.ref ρ.l[j]):=e
 rw [List.getElem?_eq_getElem hl]
 cases e
 rfl
noncomputable abbrev BaseAt (F:Fix) (h:Heap):Prop:=∀ b o,F.h.get? b=some o→b ∉ F.tabs→h.get? b=some o
theorem BaseAt.ns {h:Heap} (B:BaseAt F h) {a:Addr} {m:Str→Option Value} (ha:a ∉ F.tabs) (g:F.h.Ns a m):h.Ns a m:=let ⟨o,es,ep,ho,r⟩:=g;⟨o,es,ep,B _ _ ho ha,r⟩
theorem LawAt.stat (L:LawAt F):cStatics ∉ F.tabs:=by rw [L.tabs];decide
theorem BaseAt.limit {h:Heap} (B:BaseAt F h) (L:LawAt F):h.NoLimit:=let ⟨mc,⟨o,es,ep,ho,r⟩,q⟩:=L.nolimit;⟨mc,⟨o,es,ep,B _ _ ho L.stat,r⟩,q⟩
theorem z9 (L:LawAt F) (B:BaseAt F s.heap) {g r:Addr} (hg:g=mainGlobals) {Q:Addr→Shared→Prop} (h:Q builtinsNs s):wpAny (model F.prog F.w) A (builtinsFor g r) Q E s:=by
 subst hg
 obtain ⟨mg,mb,g1,g2,g3⟩:=L.gl
 obtain ⟨bm,ob,b1,b2,b3,b4,b5,b6,b7⟩:=L.bm mg g1
 exact wpAny_builtinsFor (B.ns (ce L).1 g1) b1 b2 (B _ _ b4 b3) b5 b6 b7 h
inductive GenMade (F:Fix) (A:Around) (T:Addr) (pos:Pos) (s:Shared) (ρ:Rg) (g:Nat→Value→Prop) (n:Nat) (a:Addr) (s₅:Shared):Prop
 |mk (fp wr:List Addr) (gi:Nat) (St:Nat→Shared→Prop) (keep:∀ b o,b≠T→s.heap.get? b=some o→s₅.heap.get? b=some o) (tab:OR F s₅.heap ρ T (.tab (c9 T pos))) (bare:AllBare s₅.gens) (os:s₅.os=s.os) (W:WalksS F.prog F.w A.in4 a fp wr (GenOnlyQ gi) n g St) (st:St 0 s₅) (ty:∀ i s',St i s'→s'.TypeIs (.ref a) "generator")
  (ha:a∈fp) (hfp:∀ b∈fp,b < s₅.heap.objs.size) (hwr:∀ b∈wr,s.heap.get? b=none):GenMade F A T pos s ρ g n a s₅
structure GenSc (scope:Scope) (env:Env):Prop where
 co:scope.isCoroutine=false
 clos:closureFor scope env=pure []
 cell:∀ y∈scope.names,y.2 ≠ .cell
 it:scope.names.lookup (".0" : Str)=some NameKind.local
 xa:scope.names.lookup ("fws" : Str)=some .local
 xb:scope.names.lookup ("part" : Str)=some .local
 kind:scope.kind = .function
noncomputable def Da (F:Fix) (A:Around) (scope:Scope) (env:Env) (elt:Expr) (ps:List (Str×Str)) (g:Nat→Value→Prop):Prop:=
 ∀ (A':Around) (E':Value→Shared→Prop) (k:Nat) (q:Str×Str) (C':Addr) (code:Value) (s₂:Shared) (m₂:Str→Option Value) (ta tb:Tok),A'.handled=none→A'.depth≤A.depth+1→A'.units≤A.units+8→ps[k]? = some q→s₂.heap.Ns C' m₂→m₂ "fws" = some (.str q.1 ta)→m₂ "part" = some (.str q.2 tb) →
   BaseAt F s₂.heap→wpAny (model F.prog F.w) A' (eval elt (genEnv scope [] C' code builtinsNs env)) (fun y s₃=>g k y∧Keeps s₂ s₃) E' s₂
noncomputable abbrev sU (x:Addr):Obj:={ cls:=.type "list_iterator", data:=.fields #[.ref x,.int 0 0] }
theorem Aa {I ax:Addr} {us:Array Value} {ps:List (Str×Str)} {k:Nat} {h:Heap} (X:AccSt I ax us ps k h):∀ b∈I::ax::nV us,b < h.objs.size:=fun b hb=>by
 rcases List.mem_cons.mp hb with rfl | hb
 ·exact let ⟨_,e,_⟩:=X.it;Heap.lt_size e
 rcases List.mem_cons.mp hb with rfl | hb
 ·exact let ⟨_,_,e,_⟩:=X.sq;Heap.lt_size e
 obtain ⟨v,hv,e⟩:=List.mem_filterMap.mp hb
 obtain ⟨j,hj⟩:=List.getElem?_of_mem hv
 rw [Array.getElem?_toList] at hj
 have hlt:j < ps.length:=X.pr.size▸mh hj
 obtain ⟨T,ta,tb,n,e2,o⟩:=X.pr.get j v _ hj (List.getElem?_eq_getElem hlt)
 subst e2
 cases e
 exact Heap.lt_size o
theorem mD (n:Nat):passing (fun __=>true) n 0=List.range n:=by simp [passing]
theorem wC (L:LawAt F) {T x:Addr} {us:Array Value} {ps:List (Str×Str)} {env:Env} {elt:Expr} {scope:Scope} {g:Nat→Value→Prop} {Q:Value→Shared→Prop} {h₃:Heap} {tk:Nat} {code:Value} {pos:Pos} {it:Addr} (hh:A.handled=none) (X:AccSt it x us ps 0 h₃) (B:BaseAt F h₃) (hit0:s.heap.get? it=none) (hFit:F.h.get? it=none) (hcs:cStatics≠it)
  (k₃:∀ b o,b≠T→s.heap.get? b=some o→h₃.get? b=some o) (hsz:s.heap.objs.size≤h₃.objs.size) (hT:OR F h₃ ρ T (.tab (c9 T pos))) (hb:AllBare s.gens) (helt:Da F A scope env elt ps g) (hQ:∀ a s₅,GenMade F A T pos s ρ g ps.length a s₅→Q (.ref a) s₅) {s₄:Shared} (e₄:s₄ = { s with heap:=h₃,toks:=tk }) :
  ∃ I fp wr n₀ Pt St₀ Mid pz F',Value.ref it = .ref I∧(∀ A':Around,A'.handled=none→WalksU F.prog F.w A' I fp wr n₀ Pt St₀ Mid)∧(∀ i vals,Pt i vals→∃ va vb,vals = #[va,vb])∧St₀ 0 s₄.heap∧(∀ b∈fp,b < s₄.heap.objs.size)∧s₄.heap.NoLimit∧cStatics ∉ wr ∧
     (∀ href:Heap,(∀ b o,s₄.heap.get? b=some o→href.get? b=some o) →
      QuietGenTD F.prog F.w (genEnv scope [] s₄.heap.objs.size code builtinsNs env) "fws" "part" [] elt (List.range s₄.heap.objs.size) wr Pt pz F' href (A.depth+1) (A.units+8)) ∧
     (∀ a h₅ tk gs,gs.bare=true→s₄.heap.objs.size < a→h₅.objs.size=a+1→(∀ b o,s₄.heap.get? b=some o→h₅.get? b=some o) →
      WalksS F.prog F.w A.in4 a (a::s₄.heap.objs.size::List.range s₄.heap.objs.size) (s₄.heap.objs.size::wr) (GenOnlyQ s₄.gens.size) (passing pz n₀ 0).length
       (fun j y=>∃ i,(passing pz n₀ 0)[j]? = some i∧F' i y) (GenAt F.prog F.w A.in4 a s₄.gens.size s₄.heap.objs.size (List.range s₄.heap.objs.size) wr pz n₀ F') →
      GenAt F.prog F.w A.in4 a s₄.gens.size s₄.heap.objs.size (List.range s₄.heap.objs.size) wr pz n₀ F' 0 { s₄ with gens:=s₄.gens.push gs,toks:=tk,heap:=h₅ } →
      Q (.ref a) { s₄ with gens:=s₄.gens.push gs,toks:=tk,heap:=h₅ }):=by
 subst e₄
 refine ⟨it,it::x::nV us,[it],ps.length,nW ps,_,_,fun __=>true,g,rfl,fun A' hA'=>sJ hA',fun k v ⟨q,ta,tb,_,hv⟩=>⟨_,_,hv⟩,X,Aa X,B.limit L,fun hm=>hcs (List.mem_singleton.mp hm),fun href hk₄=>⟨fun A' E' k va vb s₂ m₂ __ __ __ __ __ __ __ __=>wpAny_pure ⟨rfl,_,_,rfl,fun __ __ e=>e⟩,fun A' E' k va vb s₂ m₂ hA' hde hun hP __ hn hxa' hxb' hkp=>?_⟩,fun a h₅ tk gs hgb hag hsz₅ hk₅ W hat=>hQ a _ ?_⟩
 ·obtain ⟨q,ta,tb,h1,e⟩:=hP
  obtain ⟨rfl,rfl⟩:va = .str q.1 ta∧vb = .str q.2 tb:=by simpa using e
  exact helt A' E' k q _ _ s₂ m₂ ta tb hA' hde hun h1 hn hxa' hxb' fun b o e hb=>hkp b (List.mem_range.mpr (Heap.lt_size (B b o e hb))) (fun hm=>by rw [List.mem_singleton.mp hm,hFit] at e;cases e) o (hk₄ b o (B b o e hb))
 ·rw [mD,List.length_range] at W
  have lt:∀ b,b < h₃.objs.size→b < h₅.objs.size:=fun b h=>hsz₅▸Nat.lt_succ_of_lt (Nat.lt_trans h hag)
  refine ⟨_,_,_,_,fun b o hb e=>hk₅ b o (k₃ b o hb e),let ⟨tp,hp,hr⟩:=hT;⟨tp,hk₅ _ _ hp,hr⟩,hb.push hgb,rfl,W.imp (P':=g) fun k y ⟨i',hi',hg'⟩=>?_,hat,fun i' s' st=>st.1.typeIs,.head _,fun b hb=>?_,fun b hb=>?_⟩
  ·obtain ⟨_,e⟩:=List.getElem?_eq_some_iff.mp hi'
   rw [List.getElem_range] at e
   exact e▸hg'
  ·rcases List.mem_cons.mp hb with rfl | hb
   ·exact hsz₅▸Nat.lt_succ_self _
   rcases List.mem_cons.mp hb with rfl | hb
   ·exact hsz₅▸Nat.lt_succ_of_lt hag
   ·exact lt b (List.mem_range.mp hb)
  ·rcases List.mem_cons.mp hb with rfl | hb
   ·exact an _ hsz
   ·exact List.mem_singleton.mp hb▸hit0
theorem nX (L:LawAt F) {f c T:Addr} (G:GenFn F.w.params f c T) {ps:List (Str×Str)} {env:Env} {E₁:AEnv} {i j d:Nat} {m:List (Str×AV)} (hA:AOk (N+1) A) (I:Inv F s ρ σ) (R:EnvR F s.heap ρ env E₁) (hcode:env.code = .ref c)
  {elt:Expr} {pa pb pt pi pos:Pos} {kt:Nat} {scope:Scope} {g:Nat→Value→Prop} {Q:Value→Shared→Prop} (n1:E₁.names.lookup ("self" : Str)=some .local) (v1:E₁.vars.lookup ("self" : Str)=some (.ref i))
  (hi:σ[i]? = some (.acc 115 d (ps.map fg))) (hd:σ[d]? = some (.ns m)) (hj:ρ.l[j]? = some T) (hσ:σ[j]? = some (.tab (c9 T pos))) (SC:GenSc scope env) (helt:Da F A scope env elt ps g) (hQ:∀ a s₅,GenMade F A T pos s ρ g ps.length a s₅→Q (.ref a) s₅) :
  wp F A (eval (.GeneratorExp elt [⟨.Tuple [.Name "fws" pa,.Name "part" pb] kt pt,.Name "self" pi,[],0⟩] scope pos) env) s Q:=by
 refine wpAny_GeneratorExp_walksQTD hA.1 SC.co SC.clos SC.cell SC.it SC.xa SC.xb (by decide) SC.kind (by have:=hA.2.1;omega) (cg R (by decide) n1 v1 fun v r=>?_) (fun x=>rfl)
 obtain ⟨x,rfl,hx⟩:=r
 obtain ⟨bd,us,nn,es,kk,o1,o2,hbd,Rn,rl,J⟩:=cM I hx hi hd
 refine wo (L.K I) J (jA _) (er _) ?_
 have I₂:Inv F { s with heap:=s.heap.push (sU x) } ρ σ:=I.push _ s.toks
 refine ⟨(pp L G.pl.ok).limit I₂,wB L G hcode I₂ hj hσ fun c' h₃ tk₃ hk₃ hsz₃ hT₃=>?_⟩
 have hTm:T∈F.tabs:=by rw [L.tabs];exact G.mem
 have B:BaseAt F h₃:=fun b o e hb=>hk₃ b o (fun q=>hb (q▸hTm)) (I₂.base b o hb e)
 obtain ⟨tps,hTo,_,_⟩:=I₂.objs j T _ hj hσ
 have hdead:=an s.heap (Nat.le_refl s.heap.objs.size)
 have neT:∀ {b:Addr} {o:Obj},(s.heap.push (sU x)).get? b=some o→o.cls ≠ .none→b≠T:=fun e hc q=>by
  rw [q,hTo] at e
  cases e
  exact hc rfl
 have hx₁:(s.heap.push (sU x)).get? s.heap.objs.size=some (sU x):=Heap.get?_push_size _ rfl
 have o1':=Heap.get?_push_of_some (sU x) o1
 have X:AccSt s.heap.objs.size x us ps 0 h₃:=⟨⟨_,hk₃ _ _ (neT hx₁ (by simp)) hx₁,rfl,rfl⟩,⟨_,nn,hk₃ _ _ (neT o1' (by simp)) o1',rfl⟩,(wt rl).keep fun b vs n e=>hk₃ _ _ (neT (Heap.get?_push_of_some _ e) (by simp)) (Heap.get?_push_of_some _ e)⟩
 refine z9 L B R.glob (wC L hA.1 X B hdead (I.base_dead hdead) (fun q=>?_) (fun b o hb e=>hk₃ b o hb (Heap.get?_push_of_some _ e)) (Nat.le_trans (by rw [Heap.size_push];exact Nat.le_succ _) hsz₃) hT₃ I.gens helt hQ rfl)
 obtain ⟨mc,⟨o,es,ep,ho,r⟩,q'⟩:=L.nolimit
 have:=I.base _ _ L.stat ho
 rw [q,hdead] at this
 cases this
end
end Internal
namespace Internal
theorem Db (P:Params):nsIn (KK P) mainGlobals "sum" = some none:=by kernel_rfl
theorem Dc (P:Params):nsIn (KK P) mainGlobals "len" = some none:=by kernel_rfl
theorem wD:bootBuiltins "sum" = some (.builtin "sum"):=by kernel_rfl
theorem wE:bootBuiltins "len" = some (.builtin "len"):=by kernel_rfl
noncomputable def ym (s:Str):Option (Option Value)→Bool | some (some (.str x _))=>x==s | _=>false
theorem sV (P:Params):ym "" (nsIn (KK P) mainGlobals "EMPTYSTRING")=true:=by kernel_rfl
noncomputable def cQ:Pos:=⟨67,19,67,63⟩
noncomputable def cY:Pos:=⟨70,32,70,85⟩
noncomputable def scLen:Scope:={ kind:=.function,names:=[(Str.ofString ".0", .local),(Str.ofString "fws", .local),(Str.ofString "part", .local),(Str.ofString "len", .globalImplicit)],isGenerator:=true,isCoroutine:=false,more:=[] }
noncomputable def wF:Scope:={ kind:=.function,names:=[(Str.ofString ".0", .local),(Str.ofString "fws", .local),(Str.ofString "part", .local),(Str.ofString "EMPTYSTRING", .globalImplicit)],isGenerator:=true,isCoroutine:=false,more:=[] }
inductive LenBody:List Stmt→Prop
 |mk (p0 p1 p2 e0 e1 e2 e3 e4 e5 e6 t0 t1 t2 t3:Pos) (kt:Nat) (a0 a1:Pos):LenBody [.Return (some (.Call (.Name "sum" p0)
  [.GeneratorExp (.BinOp (.Call (.Name "len" e0) [.Name "fws" e1] [] e2) .Add (.Call (.Name "len" e3) [.Name "part" e4] [] e5) e6) [⟨.Tuple [.Name "fws" t0,.Name "part" t1] kt t2,.Name "self" t3,[],0⟩] scLen cQ,
   .Attribute (.Name "self" a0) "_initial_size" a1] [] p1)) p2]
inductive StrBody:List Stmt→Prop
 |mk (p0 p1 p2 p3 e0 e1 e2 e3 e4 e5:Pos) (ke:Nat) (t0 t1 t2 t3:Pos) (kt:Nat) (h1:(p1.endLine==p2.line)=true) (h2:(e1.endLine==e5.line)=true):StrBody [.Return (some (.Call (.Attribute (.Name "EMPTYSTRING" p0) "join" p1)
  [.GeneratorExp (.Call (.Attribute (.Name "EMPTYSTRING" e0) "join" e1) [.Tuple [.Name "fws" e2,.Name "part" e3] ke e4] [] e5) [⟨.Tuple [.Name "fws" t0,.Name "part" t1] kt t2,.Name "self" t3,[],0⟩] wF cY] [] p2)) p3]
theorem HS (P:Params):∃ body,(aB P 82).body = .stmts body∧LenBody body:=⟨_,by with_unfolding_all rfl,.mk _ _ _ _ _ _ _ _ _ _ _ _ _ _ _ _ _⟩
theorem HT (P:Params):∃ body,(aB P 89).body = .stmts body∧StrBody body:=⟨_,by with_unfolding_all rfl,.mk _ _ _ _ _ _ _ _ _ _ _ _ _ _ _ _ (by rfl) (by rfl)⟩
theorem F1 {α:Type} {l:List α} (h:l.length=1) {G:List α→Prop} (k:∀ a,G [a]):G l:=let ⟨a,e⟩:=List.length_eq_one_iff.mp h;e▸k a
theorem F2 {α:Type} {l:List α} (h:l.length=2) {G:List α→Prop} (k:∀ a b,G [a,b]):G l:=by
 cases l with
 |nil=>exact nomatch h
 |cons a l=>exact F1 (G:=fun l=>G (a::l)) (Nat.succ.inj h) (k a)
theorem GA {α:Type} {l:List α} (h:l.length=3) {G:List α→Prop} (k:∀ a b c,G [a,b,c]):G l:=by
 cases l with
 |nil=>exact nomatch h
 |cons a l=>exact F2 (G:=fun l=>G (a::l)) (Nat.succ.inj h) (k a)
theorem HU {fd:FuncData} {x:Str} (h:∀ u,bindArgs fd ⟨[u],[]⟩=pure [(x,u)]):eV fd [x]:=fun vs hv=>F1 (G:=fun vs=>bindArgs fd ⟨vs,[]⟩=pure ([x].zip vs)) hv h
theorem HV {fd:FuncData} {x y:Str} (h:∀ u v,bindArgs fd ⟨[u,v],[]⟩=pure [(x,u),(y,v)]):eV fd [x,y]:=fun vs hv=>F2 (G:=fun vs=>bindArgs fd ⟨vs,[]⟩=pure ([x,y].zip vs)) hv h
theorem HW {fd:FuncData} {x y z:Str} (h:∀ u v w,bindArgs fd ⟨[u,v,w],[]⟩=pure [(x,u),(y,v),(z,w)]):eV fd [x,y,z]:=fun vs hv=>GA (G:=fun vs=>bindArgs fd ⟨vs,[]⟩=pure ([x,y,z].zip vs)) hv h
theorem Dd (P:Params):eV (aB P 82) ["self"]:=HU fun u=>by kernel_rfl
theorem De (P:Params):eV (aB P 89) ["self"]:=HU fun u=>by kernel_rfl
theorem Ab (P:Params) (u:AV):aC (cU (aB P 82)) ["self"] [u]=some { names:=(aB P 82).scope.names,own:=cb (aB P 82).scope,vars:=[("self", u)] }:=by kernel_rfl
theorem Ac (P:Params) (u:AV):aC (cU (aB P 89)) ["self"] [u]=some { names:=(aB P 89).scope.names,own:=cb (aB P 89).scope,vars:=[("self", u)] }:=by kernel_rfl
theorem Ad (P:Params):(aB P 82).scope.names.lookup ("sum" : Str)=some .globalImplicit:=by kernel_rfl
theorem sW (P:Params):(aB P 89).scope.names.lookup ("EMPTYSTRING" : Str)=some .globalImplicit:=by kernel_rfl
noncomputable def bF:List AV→Option (List (Str×Str))
 | []=>some []
 |x::r=>(pZ x).bind fun l=>Hy l fun a b=>(db a).bind fun u=>(db b).bind fun v=>(bF r).map ((u,v) :: ·)
theorem Ae {γ:Type} {avs:List AV} {k:AV→AV→Option γ} {r:γ} {G:Prop} (e:Hy avs k=some r) (g:∀ a b,avs=[a,b]→k a b=some r→G):G:=by
 match avs with
 | [a,b]=>exact g a b rfl e
 | []=>exact aa e
 | [_]=>exact aa e
 |_::_::_::_=>exact aa e
theorem fG:∀ {l:List AV} {ps:List (Str×Str)},bF l=some ps→l=ps.map fg
 | [],_,h=>Option.some.inj h▸rfl
 |x::r,ps,h=>ad h fun l hl h=>Ae h fun a b e h=>ad h fun u hu h=>ad h fun v hv h=>ao h fun qs hq e2=>by
  have ex:=gM hl
  have ea:=aX hu
  have eb:=aX hv
  subst e ex ea eb e2
  exact congrArg (fg (u,v) :: ·) (fG hq)
noncomputable def dy (q:Str×Str):Int:=((q.1.length:Nat):Int)+((q.2.length:Nat):Int)
noncomputable def bU (ps:List (Str×Str)):Int:=2+(ps.map dy).sum
noncomputable def dz (σ:St) (j:Nat):Option (Array Value):=match σ[j]? with
 |some (.tab vs)=>some vs
 |_=>none
theorem fh {σ:St} {j:Nat} {vs:Array Value} (e:dz σ j=some vs):σ[j]? = some (.tab vs):=by
 unfold dz at e
 split at e
 ·rename_i h;cases e;exact h
 ·cases e
noncomputable def cx (n:Nat) (ps:List (Str×Str)):Bool:=ps.all fun q=>decide (q.1.length≤n∧q.2.length≤n)
theorem fi {n:Nat} {ps:List (Str×Str)} (h:cx n ps=true) {q:Str×Str} (hq:q∈ps):q.1.length≤n∧q.2.length≤n:=of_decide_eq_true (List.all_eq_true.mp h q hq)
noncomputable abbrev cK (q:Str×Str):Str:=Txt.join "" [q.1,q.2]
noncomputable def sX:Fn:=fun avs σ=>one avs fun a=>(bv σ a).bind fun q=>(bF q.l).bind fun ps=>if (q.m.lookup ("_initial_size" : Str)).bind dT=some 2∧dz σ 1=some (c9 77 cQ)∧ps.length≤1000∧cx 1000 ps=true then some (.int (bU ps),σ,false) else none
noncomputable def wG:Fn:=fun avs σ=>one avs fun a=>(bv σ a).bind fun q=>(bF q.l).bind fun ps=>if dz σ 2=some (c9 84 cY)∧ps.length≤1000∧cx 100 ps=true then some (.str (Txt.join "" (ps.map cK)),σ,false) else none
theorem jB (a b:Str):(a++b).length=a.length+b.length:=by
 show (Str.append a b).length=_
 simp [Str.append,Str.length]
theorem E0 (a b:Str):Txt.join "" [a,b]=a ++ "" ++ b:=rfl
theorem sY (a b:Str):(Txt.join "" [a,b]).length=a.length+b.length:=by
 rw [E0,jB,jB]
 rfl
theorem fV (val:Nat→Int):∀ n,preSum val n=((List.range n).map val).sum
 |0=>rfl
 |n+1=>by rw [preSum,fV val n,List.range_succ,List.map_append,List.sum_append];simp
section
variable {F:Fix} {C:Cfg} {N n:Nat} {A:Around} {s:Shared} {ρ:Rg} {σ σ':St} {E:Value→Shared→Prop}
theorem k8 (L:LawAt F) {env:Env} {x:Str} {v:Value} {Q:Value→Shared→Prop} (B:BaseAt F s.heap) (hk:env.scope.kind = .function) (hx:env.kindOf x=some .globalImplicit) (hg:env.globals=mainGlobals) (hb:env.builtins=builtinsNs)
  (e:nsIn (KK F.w.params) mainGlobals x=some none) (hv:bootBuiltins x=some v) (hn:x ≠ "__name__") (hd:(x==("__debug__" : Str))=false) (h:Q v s) {pos:Pos} : wpAny (model F.prog F.w) A (eval (.Name x pos) env) Q E s:=
 let ⟨mg,mb,g1,g2,g3⟩:=L.gl
 wpAny_Name (ks_loadName_global hk hx (Calls.loadGlobal_builtin (hg▸B.ns (ce L).1 g1) (mo L.Kh g1 e) (hb▸B.ns (ce L).2 g2) ((g3 x hn).trans hv) h)) hd
set_option tactic.hygienic true in
theorem iQ (L:LawAt F) {env:Env} {Q:Value→Shared→Prop} (B:BaseAt F s.heap) (hk:env.scope.kind = .function) (hx:env.kindOf "EMPTYSTRING" = some .globalImplicit) (hg:env.globals=mainGlobals)
  (h:∀ t,Q (.str "" t) s) {pos:Pos} : wpAny (model F.prog F.w) A (eval (.Name "EMPTYSTRING" pos) env) Q E s:=by
 obtain ⟨mg,mb,g1,g2,g3⟩:=L.gl
 have ye:=sV F.w.params
 unfold ym at ye
 split at ye
 ·rename_i z t hz
  have hx':z = "" := eq_of_beq ye
  subst hx'
  exact wpAny_Name (ks_loadName_global hk hx (Calls.loadGlobal_global (hg▸B.ns (ce L).1 g1) (mo L.Kh g1 hz) (h t))) (by decide)
 ·cases ye
theorem Af (L:LawAt F) {C':Addr} {code:Value} {env:Env} {m₂:Str→Option Value} {q:Str×Str} {ta tb:Tok} {e0 e1 e2 e3 e4 e5 e6:Pos} (B:BaseAt F s.heap) (hge:env.globals=mainGlobals) (hn:s.heap.Ns C' m₂) (ha:m₂ "fws" = some (.str q.1 ta)) (hb:m₂ "part" = some (.str q.2 tb)) (h1:q.1.length≤1000) (h2:q.2.length≤1000) :
  wpAny (model F.prog F.w) A (eval (.BinOp (.Call (.Name "len" e0) [.Name "fws" e1] [] e2) .Add (.Call (.Name "len" e3) [.Name "part" e4] [] e5) e6) (genEnv scLen [] C' code builtinsNs env)) (fun y s₃=>(∃ t,y = .int (((q.1.length:Nat):Int)+((q.2.length:Nat):Int)) t)∧Keeps s s₃) E s:=by
 have one:∀ {x:Str} {pos pe pc:Pos} {z:Str} {t:Tok} {tk:Nat} {Q:Value→Shared→Prop},scLen.names.lookup x=some .local→(x==("__debug__" : Str))=false→m₂ x=some (.str z t)→z.length≤1000→(∀ t' tk',Q (.int (z.length:Nat) t') { s with toks:=tk' }) →
   wpAny (model F.prog F.w) A (eval (.Call (.Name "len" pe) [.Name x pos] [] pc) (genEnv scLen [] C' code builtinsNs env)) Q E { s with toks:=tk }:=by
  intro x pos pe pc z t tk Q hx hd hm hz hq
  rw [arm_eval_Call_Name',aE (by rfl)]
  refine wpAny_bind (k8 (env:=genEnv scLen [] C' code builtinsNs env) (s:={ s with toks:=tk }) L B rfl (by rfl) hge rfl (Dc _) wE (by decide) (by decide) ?_)
  refine Calls.callWith_builtin rfl (Calls.evalArgs_plain (Calls.spliced_cons (wpAny_Name (wpAny_loadName_local rfl hx hn hm (Calls.spliced_nil ?_)) hd)))
  refine P.len_str (fits63 (by omega) (Int.le_refl _)) ?_
  exact hq _ _
 refine wpAny_BinOp (one (tk:=s.toks) (by decide) (by decide) ha h1 fun t1 k1=>one (by decide) (by decide) hb h2 fun t2 k2=>wpAny_add_int ⟨⟨_,rfl⟩,_,_,rfl,fun __ __ e=>e⟩)
theorem Ag (L:LawAt F) {C':Addr} {code:Value} {env:Env} {m₂:Str→Option Value} {q:Str×Str} {ta tb:Tok} {e0 e1 e2 e3 e4 e5:Pos} {ke:Nat} (B:BaseAt F s.heap) (hge:env.globals=mainGlobals) (hline:(e1.endLine==e5.line)=true) (hn:s.heap.Ns C' m₂) (ha:m₂ "fws" = some (.str q.1 ta)) (hb:m₂ "part" = some (.str q.2 tb)) (h1:q.1.length≤100) (h2:q.2.length≤100) :
  wpAny (model F.prog F.w) A (eval (.Call (.Attribute (.Name "EMPTYSTRING" e0) "join" e1) [.Tuple [.Name "fws" e2,.Name "part" e3] ke e4] [] e5) (genEnv wF [] C' code builtinsNs env)) (fun y s₃=>(∃ t,y = .str (Txt.join "" [q.1,q.2]) t)∧Keeps s s₃) E s:=by
 rw [arm_eval_Call,aG (by rfl),aE (by rfl)]
 refine wpAny_bind (iQ (env:=genEnv wF [] C' code builtinsNs env) L B rfl (by rfl) hge fun t=>wpAny_bind (wpAny_standAt ?_))
 unfold methodCall
 refine wpAny_bind (wpAny_holding ?_)
 unfold calleeOf
 rw [if_pos (by rfl)]
 refine ft (id := "str.join") (by decide) ?_
 refine wpAny_bind ?_
 unfold methodCallPos
 rw [if_pos (by rw [hline];rfl)]
 refine wpAny_pure ?_
 refine Calls.callWith_builtin rfl (Calls.evalArgs_plain (Calls.spliced_cons (wpAny_Tuple_spliced ?_)))
 rw [aE (by rfl)]
 refine Calls.spliced_cons (wpAny_Name (wpAny_loadName_local rfl (by rfl) hn ha (Calls.spliced_cons (wpAny_Name (wpAny_loadName_local rfl (by rfl) hn hb (Calls.spliced_nil ⟨aI (show 2≤Hk by unfold Hk;omega),Calls.spliced_nil ?_⟩)) (by decide)))) (by decide))
 refine join_tupleW (items:=#[.str q.1 ta,.str q.2 tb]) ⟨_,Heap.get?_push_size _ rfl,rfl,_,rfl⟩ (.cons _ _ (.cons _ _ .nil)) (by decide) (by simp;omega) fun t' k=>⟨⟨_,rfl⟩,_,_,rfl,fun b o e=>Heap.get?_push_of_some _ e⟩
end
end Internal
namespace Internal
theorem nY {α:Type} : ∀ {l:List α} {i:Nat} {a:α},l[i]? = some a→l.set i a=l
 |_::_,0,_,h=>by cases h;rfl
 |x::l,i+1,a,h=>by rw [List.set_cons_succ,nY (l:=l) (i:=i) h]
 | [],_,_,h=>by cases h
theorem k9 {α β:Type} {l:List α} {f:α→β} {g:Nat→β} (h:∀ k a,l[k]? = some a→g k=f a):(List.range l.length).map g=l.map f:=by
 apply List.ext_getElem
 ·simp
 ·intro k h2 h3
  rw [List.getElem_map,List.getElem_map,List.getElem_range]
  exact h k _ (List.getElem?_eq_getElem _)
section
variable {F:Fix} {C:Cfg} {N n:Nat} {A:Around} {s s' s₅:Shared} {ρ:Rg} {σ σ':St} {E:Value→Shared→Prop} {T j:Nat} {pos:Pos} {wr:List Addr}
theorem la (I:Inv F s ρ σ) (hj:ρ.l[j]? = some T) (hσ:σ[j]? = some (.tab (c9 T pos))) (hk:∀ b o,b≠T→s.heap.get? b=some o→s'.heap.get? b=some o) (hO:OR F s'.heap ρ T (.tab (c9 T pos))) (hB:AllBare s'.gens) (hos:s'.os=s.os) :
  Inv F s' ρ σ∧Stp [] false ρ s.heap ρ s'.heap:=by
 obtain ⟨ps,hn,_⟩:=id hO
 obtain ⟨J,S⟩:=I.setObj (i:=j) (o:=.tab (c9 T pos)) s'.toks hj hk hn hO
 rw [nY hσ] at J
 exact ⟨J.grow (fun __ __ e=>e) hB hos,S []⟩
theorem lc (I:Inv F s ρ σ) (hσ:σ[j]? = some (.tab (c9 T pos))) (hk:∀ b o,b≠T→s.heap.get? b=some o→s₅.heap.get? b=some o) (hT:OR F s₅.heap ρ T (.tab (c9 T pos))) (hB:AllBare s₅.gens) (hos:s₅.os=s.os) (hwr:∀ b∈wr,s.heap.get? b=none) {gi:Nat} (hm:Moved wr (GenOnlyQ gi) s₅ s') :
  Inv F s' ρ σ∧Stp [] false ρ s.heap ρ s'.heap:=by
 have hj:=sS I hσ
 have dd:∀ b o,s.heap.get? b=some o→b ∉ wr:=fun b o e hb=>by rw [hwr b hb] at e;cases e
 obtain ⟨tp,ht,hr⟩:=hT
 obtain ⟨tp0,ht0,_⟩:=I.objs j T _ hj hσ
 exact la I hj hσ (fun b o hb e=>hm.heap b o (dd b o e) (hk b o hb e)) ⟨tp,hm.heap _ _ (dd _ _ ht0) ht,hr⟩ (AllBare.movedS hB hm) (hm.os.trans hos)
theorem Inv.base' (I:Inv F s ρ σ):BaseAt F s.heap:=fun b o e h=>I.base b o h e
section
variable {E₁:AEnv} {body:List Stmt} {i d Lc:Nat} {ps:List (Str×Str)} {m:List (Str×AV)}
noncomputable def pL (ps:List (Str×Str)) (k:Nat):Int:=match ps[k]? with | some q=>dy q | none=>0
theorem wH:2+preSum (pL ps) ps.length=bU ps:=by
 rw [fV]
 exact congrArg (fun l=>2+List.sum l) (k9 fun k q h=>by unfold pL;rw [h])
theorem s0 {P:Params} {Lc:Addr} : GenSc scLen (aY (aB P 82) Lc 82):=⟨by decide,by rfl,by decide,by decide,by decide,by decide,by decide⟩
theorem s4 {P:Params} {Lc:Addr} : GenSc wF (aY (aB P 89) Lc 89):=⟨by decide,by rfl,by decide,by decide,by decide,by decide,by decide⟩
theorem s5 (L:LawAt F) {a0 a1:Pos} {Q:Value→Shared→Prop} (I:Inv F s ρ σ) (I₅:Inv F s₅ ρ σ) (R:EnvR F s.heap ρ (aY (aB F.w.params 82) Lc 82) E₁) (n1:E₁.names.lookup ("self" : Str)=some .local) (v1:E₁.vars.lookup ("self" : Str)=some (.ref i)) (hi:σ[i]? = some (.acc 115 d (ps.map fg))) (hd:σ[d]? = some (.ns m)) (h0:m.lookup ("_initial_size" : Str)=some (.int 2)) (hT:T∈ρ.l)
  (hk:∀ b o,b≠T→s.heap.get? b=some o→s₅.heap.get? b=some o) (h:∀ t,Q (.int 2 t) { s₅ with toks:=s₅.toks+1 }):wpAny (model F.prog F.w) A (eval (.Attribute (.Name "self" a0) "_initial_size" a1) (aY (aB F.w.params 82) Lc 82)) Q E s₅:=by
 rw [arm_eval_Attribute,aG (by rfl)]
 obtain ⟨mm,hmm,hmv⟩:=R.ns
 obtain ⟨w,hw,x,rfl,hx⟩:=hmv "self" (.ref i) v1 n1
 have hns₅:s₅.heap.Ns Lc mm:=hmm.at' fun o e=>hk _ o (fun q=>R.loc.1 (q▸hT)) e
 refine wpAny_bind (wpAny_Name (wpAny_loadName_local R.kind (R.kindOf n1) hns₅ hw (wpAny_bind (wpAny_standAt (wpAny_bind (wpAny_holding ?_))))) (by decide))
 obtain ⟨bd,us,nn,es,kq,o1,o2,hbd,Rn,rl,J⟩:=cM I₅ hx hi hd
 obtain ⟨v0,hg0,t0,rfl⟩:=(d5 Rn).1 (.int 2) h0
 exact wx (L.K I₅) J (nK _).1 (nK _).2 (er _) (findObj_own (nL _) (kO _).find rfl (by rw [lookIn_dict,hg0])) (by rfl) (wpAny_bind (wpAny_letTemporaryGo (wpAny_pure (h t0))))
theorem wI (L:LawAt F) (hB:LenBody body) (hA:AOk (N+1) A) (I:Inv F s ρ σ) (R:EnvR F s.heap ρ (aY (aB F.w.params 82) Lc 82) E₁) (n1:E₁.names.lookup ("self" : Str)=some .local) (v1:E₁.vars.lookup ("self" : Str)=some (.ref i)) (hi:σ[i]? = some (.acc 115 d (ps.map fg))) (hd:σ[d]? = some (.ns m)) (h0:m.lookup ("_initial_size" : Str)=some (.int 2))
  (h1:σ[1]? = some (.tab (c9 77 cQ))) (hall:cx 1000 ps=true) {G:Flow→Shared→Prop} (h:∀ u s',Post F [] ρ s.heap σ false (VV (.int (bU ps))) u s'→G (.ret u) s'):wp F A (execs body (aY (aB F.w.params 82) Lc 82)) s G:=by
 obtain ⟨p0,p1,p2,e0,e1,e2,e3,e4,e5,e6,t0,t1,t2,t3,kt,a0,a1⟩:=hB
 have K:=sP F.w.params
 have hT:=sS I h1
 refine wpAny_execs_cons (wpAny_Return_some ?_)
 rw [arm_eval_Call_Name',aE (by rfl)]
 refine wpAny_bind (k8 (env:=aY (aB F.w.params 82) Lc 82) L I.base' K.pl.kind (Ad F.w.params) K.pl.glo K.pl.blt (Db _) wD (by decide) (by decide) (Calls.callWith_builtin rfl (Calls.evalArgs_plain (Calls.spliced_cons ?_))))
 refine nX L K (g:=fun k y=>∃ t,y = .int (pL ps k) t) hA I R K.code n1 v1 hi hd hT h1 s0 (fun A' E' k q C' code s₂ m₂ ta tb hA' hde hun hq hn hfa hfb B=>?_) fun a s₅ GM=>?_
 ·have hs:=fi hall (List.mem_of_getElem? hq)
  have hv:pL ps k=((q.1.length:Nat):Int)+((q.2.length:Nat):Int):=by unfold pL;rw [hq];rfl
  exact wpAny_mono (Af (q:=(q.1,q.2)) L B K.pl.glo hn hfa hfb hs.1 hs.2) (fun y s₃ ⟨⟨t,e⟩,k⟩=>⟨⟨t,e.trans (congrArg (Value.int · t) hv.symm)⟩,k⟩) fun __ __ z=>z
 ·obtain ⟨fp,wr,gi,St,k₅,hT₅,hB₅,hos₅,W,hst,hTy,ha,hfp,hwr⟩:=GM
  refine Calls.spliced_cons (s5 L I (la I hT h1 k₅ hT₅ hB₅ hos₅).1 R n1 v1 hi hd h0 (List.mem_of_getElem? hT) k₅ fun t=>Calls.spliced_nil ?_)
  have hst₆:St 0 { s₅ with toks:=s₅.toks+1 }:=W.frame 0 s₅ s₅.heap (s₅.toks+1) hst (Nat.le_succ _) fun __ __ __ e=>e
  refine z8 (W.in4_1.self 0 _ _ _ hst₆ ⟨a,fp,wr,_,ps.length,_,St,pL ps,rfl,W.in4_1,hst₆,hfp,fun k y hy=>hy,fun s' t' hm=>?_⟩)
  obtain ⟨I',S'⟩:=lc (s₅:={ s₅ with toks:=s₅.toks+1 }) I h1 k₅ hT₅ hB₅ hos₅ hwr hm
  exact h _ _ ⟨ρ,I',⟨t',congrArg (Value.int · t') wH⟩,S'⟩
noncomputable def BV (ps:List (Str×Str)) (k:Nat):Str:=match ps[k]? with | some q=>cK q | none => ""
theorem yn:∀ {qs:List (Str×Str)},(∀ q∈qs,q.1.length≤100∧q.2.length≤100)→((qs.map cK).map (·.length)).sum≤qs.length * 200
 | [],_=>by simp
 |q::qs,hq=>by
  have h1:=yn (qs:=qs) fun q' h'=>hq q' (List.mem_cons_of_mem _ h')
  have h2:=hq q List.mem_cons_self
  have h3:=sY q.1 q.2
  simp only [List.map_cons,List.sum_cons,List.length_cons,cK,h3]
  omega
theorem lf (hlen:ps.length≤1000) (hall:cx 100 ps=true):JoinOk "" (ps.map cK)=true:=by
 refine joinOk_of_weight ?_ (by decide)
 have h1:=yn (qs:=ps) fun q hq=>fi hall hq
 rw [List.length_map]
 omega
theorem wJ {lt:List (Str×Tok)} (hsz:lt.length=ps.length) (h:∀ (k:Nat) (v:Value),(strValues lt)[k]? = some v→∃ t,v=Value.str (BV ps k) t):lt.map (·.1)=ps.map cK:=by
 rw [←k9 (l:=ps) (f:=cK) (g:=BV ps) fun k q hq=>by unfold BV;rw [hq]]
 apply List.ext_getElem
 ·simp [hsz]
 ·intro k h2 h3
  have hk:k < lt.length:=by simpa using h2
  obtain ⟨t,e⟩:=h k (.str lt[k].1 lt[k].2) (by simp [strValues,List.getElem?_eq_getElem hk])
  injection e with e _
  simp [e]
theorem wK (L:LawAt F) (hB:StrBody body) (hA:AOk (N+1) A) (I:Inv F s ρ σ) (R:EnvR F s.heap ρ (aY (aB F.w.params 89) Lc 89) E₁) (n1:E₁.names.lookup ("self" : Str)=some .local) (v1:E₁.vars.lookup ("self" : Str)=some (.ref i)) (hi:σ[i]? = some (.acc 115 d (ps.map fg))) (hd:σ[d]? = some (.ns m))
  (h1:σ[2]? = some (.tab (c9 84 cY))) (hlen:ps.length≤1000) (hall:cx 100 ps=true) {G:Flow→Shared→Prop} (h:∀ u s',Post F [] ρ s.heap σ false (VV (.str (Txt.join "" (ps.map cK)))) u s'→G (.ret u) s'):wp F A (execs body (aY (aB F.w.params 89) Lc 89)) s G:=by
 obtain ⟨p0,p1,p2,p3,e0,e1,e2,e3,e4,e5,ke,t0,t1,t2,t3,kt,hl1,hl2⟩:=hB
 have K:=sQ F.w.params
 have hT:=sS I h1
 refine wpAny_execs_cons (wpAny_Return_some ?_)
 rw [arm_eval_Call,aG (by rfl),aE (by rfl)]
 refine wpAny_bind (iQ (env:=aY (aB F.w.params 89) Lc 89) L I.base' K.pl.kind (sW F.w.params) K.pl.glo fun te=>wpAny_bind (wpAny_standAt ?_))
 unfold methodCall
 refine wpAny_bind (wpAny_holding ?_)
 unfold calleeOf
 rw [if_pos (by rfl)]
 refine ft (id := "str.join") (by decide) (wpAny_bind ?_)
 unfold methodCallPos
 rw [if_pos (by rw [hl1];rfl)]
 refine wpAny_pure (Calls.callWith_builtin rfl (Calls.evalArgs_plain (Calls.spliced_cons ?_)))
 refine nX L K (g:=fun k y=>∃ t,y = .str (BV ps k) t) hA I R K.code n1 v1 hi hd hT h1 s4 (fun A' E' k q C' code s₂ m₂ ta tb hA' hde hun hq hn hfa hfb B=>?_) fun a s₅ GM=>Calls.spliced_nil ?_
 ·have hs:=fi hall (List.mem_of_getElem? hq)
  have hv:BV ps k=Txt.join "" [q.1,q.2]:=by unfold BV;rw [hq]
  exact wpAny_mono (Ag (q:=(q.1,q.2)) L B K.pl.glo hl2 hn hfa hfb hs.1 hs.2) (fun y s₃ ⟨⟨t,e⟩,k⟩=>⟨⟨t,e.trans (congrArg (Value.str · t) hv.symm)⟩,k⟩) fun __ __ z=>z
 ·obtain ⟨fp,wr,gi,St,k₅,hT₅,hB₅,hos₅,W,hst,hTy,ha,hfp,hwr⟩:=GM
  refine SC.joinGen W.in4_2 hTy hst hfp ha (fun k y hy=>let ⟨t,e⟩:=hy;⟨_,t,e⟩) (fun s' lt hm hacc=>?_) (aI (by unfold Hk;omega))
  rw [wJ (ps:=ps) (by simpa [strValues] using hacc.1) fun k v hv=>hacc.2 k v (by simpa using hv)]
  refine ⟨lf hlen hall,fun t' tk=>?_⟩
  obtain ⟨I',S'⟩:=lc I h1 k₅ hT₅ hB₅ hos₅ hwr hm
  exact h _ _ ⟨ρ,I'.toks tk,⟨t',rfl⟩,S'⟩
end
end
end Internal
namespace Internal
theorem lg (P:Params):findIn (KK P) (.ref 115) "__len__" = some (some (.ref 82)):=by kernel_rfl
theorem lh (P:Params):findIn (KK P) (.ref 115) "__str__" = some (some (.ref 89)):=by kernel_rfl
theorem E6 (P:Params):typeIn (KK P) (.ref 82)=some (.type "function"):=by kernel_rfl
theorem E7 (P:Params):isFn (KK P) (.ref 89)=true:=by kernel_rfl
theorem iR:∀ {ps:List (Str×Str)},(∀ q∈ps,q.1.length≤1000∧q.2.length≤1000)→0≤bU ps∧bU ps≤2+2000 * ps.length
 | [],_=>by decide
 |q::ps,h=>by
  obtain ⟨h1,h2⟩:=iR (ps:=ps) fun q' h'=>h q' (List.mem_cons_of_mem _ h')
  have h3:=h q List.mem_cons_self
  unfold bU dy at *
  simp only [List.map_cons,List.sum_cons,List.length_cons]
  omega
section
variable {F:Fix} {C:Cfg} {N n:Nat} {A:Around} {s s':Shared} {ρ:Rg} {σ σ':St} {p:Bool} {avs:List AV} {vs:List Value} {r:AV}
theorem AOk.in1s (h:AOk (N+1) A):AOk N A.in1∧AOk N A.in1.in1:=by
 obtain ⟨h1,h2,h3,l,h4⟩:=h
 exact ⟨⟨h1,bg (Nat.le_add_right _ _) h2,bg (Nat.add_le_add_left (by decide) _) h3,l,h4⟩,⟨h1,bg (Nat.le_add_right _ _) h2,bg (Nat.add_le_add_left (show 2≤100 by decide) _) h3,l,h4⟩⟩
theorem Ah {m:List (Str×AV)} (h:(m.lookup ("_initial_size" : Str)).bind dT=some 2):m.lookup ("_initial_size" : Str)=some (.int 2):=ad h fun a e1 e2=>e1.trans (congrArg some (bl e2))
theorem Ai (L:LawAt F) {q:AccQ} {x:Addr} {ps:List (Str×Str)} (hA:AOk (N+2) A) (I:Inv F s ρ σ) (hx:ρ.l[q.i]? = some x) (hi:σ[q.i]? = some (.acc 115 q.d q.l)) (hd:σ[q.d]? = some (.ns q.m)) (hp:bF q.l=some ps) (h0:(q.m.lookup ("_initial_size" : Str)).bind dT=some 2) (h1:dz σ 1=some (c9 77 cQ)) (hs:cx 1000 ps=true) :
  Ok F A [] (call (.ref 82) [.ref x]) s ρ σ false (VV (.int (bU ps))):=by
 obtain ⟨body,hb,hB⟩:=HS F.w.params
 have K:=sP F.w.params
 exact wpAny_call (eX (xs:=["self"]) (avs:=[.ref q.i]) (vs:=[.ref x]) (pp L K.pl.ok) (K.pl.def hb) (fun M A E Q h=>by rw [Dd _ [.ref x] rfl];exact wpAny_pure h) (Ab F.w.params (.ref q.i)) hA I ⟨⟨x,rfl,hx⟩,trivial⟩ fun s₁ fa Lc I₁ R₁ fx k₁ hfa hA₁=>
  wI L hB hA₁ I₁ R₁ K.self rfl (fG hp▸hi) hd (Ah h0) (fh h1) hs fun u s' ⟨ρ',I',r',S'⟩=>⟨ρ',I',r',(Stp.keeps (fa:=[]) k₁).trans S'⟩)
theorem Aj (L:LawAt F) {q:AccQ} {x:Addr} {ps:List (Str×Str)} (hA:AOk (N+2) A) (I:Inv F s ρ σ) (hx:ρ.l[q.i]? = some x) (hi:σ[q.i]? = some (.acc 115 q.d q.l)) (hd:σ[q.d]? = some (.ns q.m)) (hp:bF q.l=some ps) (h1:dz σ 2=some (c9 84 cY)) (hlen:ps.length≤1000) (hs:cx 100 ps=true) :
  Ok F A [] (call (.ref 89) [.ref x]) s ρ σ false (VV (.str (Txt.join "" (ps.map cK)))):=by
 obtain ⟨body,hb,hB⟩:=HT F.w.params
 have K:=sQ F.w.params
 exact wpAny_call (eX (xs:=["self"]) (avs:=[.ref q.i]) (vs:=[.ref x]) (pp L K.pl.ok) (K.pl.def hb) (fun M A E Q h=>by rw [De _ [.ref x] rfl];exact wpAny_pure h) (Ac F.w.params (.ref q.i)) hA I ⟨⟨x,rfl,hx⟩,trivial⟩ fun s₁ fa Lc I₁ R₁ fx k₁ hfa hA₁=>
  wK L hB hA₁ I₁ R₁ K.self rfl (fG hp▸hi) hd (fh h1) hlen hs fun u s' ⟨ρ',I',r',S'⟩=>⟨ρ',I',r',(Stp.keeps (fa:=[]) k₁).trans S'⟩)
theorem wM (L:LawAt F) {q:AccQ} {x:Addr} {ps:List (Str×Str)} (hA:AOk (N+3) A) (I:Inv F s ρ σ) (hx:ρ.l[q.i]? = some x) (hi:σ[q.i]? = some (.acc 115 q.d q.l)) (hd:σ[q.d]? = some (.ns q.m)) (hp:bF q.l=some ps) (h0:(q.m.lookup ("_initial_size" : Str)).bind dT=some 2) (h1:dz σ 1=some (c9 77 cQ)) (hlen:ps.length≤1000) (hs:cx 1000 ps=true) :
  Ok F A [] (call (.builtin "len") [.ref x]) s ρ σ false (VV (.int (bU ps))):=by
 obtain ⟨bd,us,nn,es,kq,o1,o2,hbd,Rn,rl,J⟩:=cM I hx hi hd
 obtain ⟨b1,b2⟩:=iR fun q hq=>fi hs hq
 refine Calls.call_function_entry kind_len plain_len entry_len (args_len1 _) (wpAny_bind (m:=oneArg "len" _) (wpAny_pure ?_))
 refine wpAny_bind (m:=callSpecial? (.ref x) (Str.ofString "__len__")) (special_fn (L.K I) J (lg _) (E6 _) (wpAny_mono (Ai L hA.in1s.1 I hx hi hd hp h0 h1 hs) (fun u s₂ ⟨ρ₂,I₂,⟨t,e⟩,S₂⟩=>?_) fun __ __ z=>z))
 subst e
 refine wpAny_bind (wpAny_holding (wpAny_pure (wpAny_bind (wpAny_letGo ?_))))
 show wpAny _ _ (if bU ps < 0 then _ else _) _ _ _
 rw [if_neg (by omega)]
 show wpAny _ _ (if bU ps ≥ 2 ^ 63 then _ else _) _ _ _
 rw [if_neg (by omega)]
 exact wpAny_bind (wpAny_mkInt (wpAny_pure ⟨_,rfl,ρ₂,I₂.toks _,⟨_,rfl⟩,S₂⟩))
theorem Ak (L:LawAt F) (h:sX avs σ=some (r,σ',p)) (hA:AOk (N+3) A) (I:Inv F s ρ σ) (rv:VRs s.heap ρ avs vs):Ok F A [] (call (.builtin "len") vs) s ρ σ' p (VV r):=
 dW (G:=fun vs=>Ok F A [] (call (.builtin "len") vs) s ρ σ' p (VV r)) h rv fun a v __ h ra=>ad h fun q hq h=>ad h fun ps hp h=>al h fun hc e=>dq hq ra fun x __ hv hx hi hd=>by
  cases e
  subst hv
  exact wM L hA I hx hi hd hp hc.1 hc.2.1 hc.2.2.1 hc.2.2.2
theorem Al (L:LawAt F):CallOk F (N+3) (.type "str") wG where
 keep:=fun __ __ __ __=>bK
 ok:=fun {A s ρ σ avs vs r σ' p} h hA I rv=>dW (G:=fun vs=>Ok F A [] (call (.type "str") vs) s ρ σ' p (VV r)) h rv fun a v __ h ra=>ad h fun q hq h=>ad h fun ps hp h=>al h fun hc e=>dq hq ra fun x __ hv hx hi hd=>by
  cases e
  subst hv
  obtain ⟨bd,us,nn,es,kq,o1,o2,hbd,Rn,rl,J⟩:=cM I hx hi hd
  exact kso_call (by have h3:=hA.in1s.2.2.2.1;omega) (L.K I) J (lh _) (E7 _) (wpAny_mono (Aj L hA.in1s.2 I hx hi hd hp hc.1 hc.2.1 hc.2.2) (fun u s₂ ⟨ρ₂,I₂,⟨t,e⟩,S₂⟩=>e▸⟨ρ₂,I₂,⟨t,rfl⟩,S₂⟩) fun __ __ z=>z)
end
end Internal
namespace Internal
theorem fW (M:Model) (Γ:Ctx) (env:Env) (ys:List Stmt) {Q:Flow→Pos→Shared→Prop} {E:Value→Pos→Shared→Prop} : ∀ (xs:List Stmt) (p:Pos) (s:Shared),
  Sem.wp M Γ (execs xs env) (fun f p' s'=>match f with | .next=>Sem.wp M Γ (execs ys env) Q E p' s' | f=>Q f p' s') E p s→Sem.wp M Γ (execs (xs++ys) env) Q E p s
 | [],_,_,h=>h
 |x::xs,p,s,h=>by
  rw [execs_cons,Sem.wp_bind'] at h
  rw [List.cons_append,execs_cons,Sem.wp_bind']
  refine Sem.wp_mono M Γ _ (fun f p' s' h'=>?_) (fun __ __ __ h'=>h') _ _ h
  cases f with
  |next=>exact fW M Γ env ys xs p' s' h'
  |_=>exact h'
noncomputable abbrev E8 (F:Fix) (A:Around) (env:Env) (ys:List Stmt) (G:Flow→Shared→Prop) (f:Flow) (s:Shared):Prop:=match f with
 | .next=>wp F A (execs ys env) s G
 |f=>G f s
theorem s6 {F:Fix} {A:Around} {env:Env} {xs ys:List Stmt} {s:Shared} {G:Flow→Shared→Prop} (h:wp F A (execs xs env) s (E8 F A env ys G)):wp F A (execs (xs++ys) env) s G:=fun Γ p hΓ=>
 fW _ Γ env ys xs p s (Sem.wp_mono _ Γ _ (fun f p' s' h'=>by cases f<;>first | exact h' Γ p' hΓ | exact h') (fun __ __ __ h'=>h') _ _ (h Γ p hΓ))
inductive LexTail:List Stmt→Prop
 |mk (q0 q1 q2 q3 q4 q5 q6 lp:Pos) (h1:lp.line=127) (h2:lp.col=18):LexTail [.Assign [.Attribute (.Name "stream" q0) "read" q1] (.Lambda gn gp lamScope lp) q2,.Return (some (.Call (.Name "_netrclex" q3) [.Name "stream" q4] [] q5)) q6]
theorem GB (P:Params):(aB P 168).body = .stmts ((aq P 168).take 1++(aq P 168).drop 1)∧LexTail ((aq P 168).drop 1):=⟨by with_unfolding_all rfl,.mk _ _ _ _ _ _ _ _ rfl rfl⟩
theorem Am (P:Params):eV (aB P 168) ["signs"]:=HU fun u=>by kernel_rfl
theorem gX (P:Params):PlainFn P 168:=(by refine ⟨?_,?_,?_,?_,?_,?_,?_⟩<;>kernel_rfl)
theorem wN (P:Params):(aB P 168).code = .ref 167:=by kernel_rfl
theorem yo (P:Params):codeHdIn (KK P) 167 163=true:=by kernel_rfl
theorem wO (P:Params):(aB P 168).qualname = "_law_lexer" := by kernel_rfl
theorem Df (P:Params):(aB P 168).scope.names.lookup ("signs" : Str)=some .cell∧(aB P 168).scope.names.lookup ("stream" : Str)=some .local∧(aB P 168).scope.names.lookup ("_netrclex" : Str)=some .globalImplicit:=⟨by kernel_rfl,by kernel_rfl,by kernel_rfl⟩
theorem wR (P:Params):nsIn (KK P) mainGlobals "_netrclex" = some (some (.ref 157)):=by kernel_rfl
noncomputable abbrev fX:Array Value:=#[.ref 163,rawInt (127:Nat),rawInt (18:Nat)]
noncomputable def s7 (C:Cfg) (Φ:Fn) (E:AEnv) (σ:St):Option (AV×St×Bool):=
 ((E.vars.lookup ("signs" : Str)).bind ia).bind fun k=>((E.vars.lookup ("stream" : Str)).bind ia).bind fun st=>if dz σ 0=some #[.ref 163]∧("signs" : Str)∈E.own then
  opt (zt C (σ.set 0 (.tab fX)++[.cell (.ref k)]) (.ref st) "read" (.lam σ.length)) fun σ₅=>nu (Φ [.ref st] σ₅) else none
noncomputable def An (C:Cfg) (Φ:Fn) (fl:AFlow) (E:AEnv) (σ:St):Option (AV×St×Bool):=match fl with
 | .next=>s7 C Φ E σ
 |_=>none
noncomputable def yp (P:Params) (fuel:Nat) (C:Cfg) (Φ:Fn):Fn:=fun avs σ=>one avs fun t=>opt (aC (cU (aB P 168)) ["signs"] [t]) fun E=>Hp (aexecs fuel C E σ ((aq P 168).take 1)) fun f σ₁=>An C Φ f.1 f.2 σ₁
section
variable {F:Fix} {C:Cfg} {N n:Nat} {A:Around} {s s':Shared} {ρ ρ₀:Rg} {σ σ':St} {p p₀:Bool} {E:Value→Shared→Prop} {fa:List Addr}
theorem s8 (I:Inv F s ρ σ) {j:Nat} {T:Addr} {vs:Array Value} (hv:vs[0]? = some (.ref T)) (h:σ[j]? = some (.tab vs)):ρ.l[j]? = some T:=by
 have hl:j < ρ.l.length:=by rw [I.len];exact (List.getElem?_eq_some_iff.mp h).1
 obtain ⟨ps,_,e,_⟩:=I.objs j ρ.l[j] _ (List.getElem?_eq_getElem hl) h
 rw [hv] at e
 rw [List.getElem?_eq_getElem hl]
 cases e
 rfl
theorem mE {env:Env} {c:Addr} (h:env.cells.lookup ("signs" : Str)=some c):closureFor lamScope env=pure [(("signs" : Str),c)]:=by
 unfold closureFor cellOf
 simp only [lamScope,List.forIn_cons,List.forIn_nil,h]
 rfl
noncomputable abbrev fH (c:Addr) (pm cdv ct:Value) (h:Heap):Heap:=h.push (xQ c pm cdv ct)
theorem wS {c c' k:Nat} {oc oc2:Obj} {cv pm ct:Value} {h':Heap} {tk:Nat} {g:Heap} {ws:Array Value} {t2:Tok} (I:Inv F s ρ σ) (S:Stp fa p₀ ρ₀ g ρ s.heap) (hcg:g.get? c=none) (hT:ρ.l[0]? = some 163) (hoc:s.heap.get? c=some oc) (hocd:oc.data = .cell (some cv)) (hcv:VR s.heap ρ (.ref k) cv) (hcn:c ∉ ρ.l) (hcF:F.h.get? c=none)
  (hx:∀ b o,b≠163→s.heap.get? b=some o→h'.get? b=some o) (htb:h'.get? 163=some (tabObj #[rawInt (127:Nat),rawInt (18:Nat),.ref c'])) (hge:s.heap.objs.size≤c') (hlt:c' < h'.objs.size) (h2o:h'.get? c'=some oc2) (h2d:oc2.data = .fields ws) (h2v:ws[1]? = some (.str gq t2)) :
  Inv F { s with heap:=fH c pm (.ref c') ct h',toks:=tk } (ρ.add c) (σ.set 0 (.tab fX)++[.cell (.ref k)])∧VR (fH c pm (.ref c') ct h') (ρ.add c) (.lam σ.length) (.ref h'.objs.size)∧Stp fa false ρ₀ g (ρ.add c) (fH c pm (.ref c') ct h')∧(∀ b o,b≠163→s.heap.get? b=some o→(fH c pm (.ref c') ct h').get? b=some o):=by
 have hm:(163:Addr)∈ρ.l:=List.mem_of_getElem? hT
 have hc163:c≠163:=fun q=>hcn (q▸hm)
 have k₄:∀ b o,b≠163→s.heap.get? b=some o→(fH c pm (.ref c') ct h').get? b=some o:=fun b o hb e=>Heap.get?_push_of_some _ (hx b o hb e)
 obtain ⟨I₅,S₅⟩:=I.setObj (i:=0) (o:=.tab fX) tk hT k₄ (Heap.get?_push_of_some _ htb) ⟨_,Heap.get?_push_of_some _ htb,rfl,.inr ⟨rfl,c',rfl⟩⟩
 have hcv':VR (fH c pm (.ref c') ct h') (ρ.add c) (.ref k) cv:=let ⟨x,e,hx'⟩:=hcv;⟨x,e,fv _ _ hx'⟩
 have I₆:=I₅.adopt (x:=.cell (.ref k)) (k₄ c oc hc163 hoc) (by unfold Hi;rw [hocd]) hcn hcF ⟨oc,cv,k₄ c oc hc163 hoc,hocd,hcv'⟩
 have outs:∀ b,s.heap.objs.size≤b→(ρ.add c).out b:=fun b hb=>
  have hd:=I.dead_out (an s.heap hb)
  ⟨fun hm=>(List.mem_append.mp hm).elim hd.1 fun hm=>absurd (Heap.lt_size hoc) (Nat.not_lt.mpr (List.mem_singleton.mp hm▸hb)),hd.2⟩
 have hidx:(ρ.add c).l[σ.length]? = some c:=by
  show (ρ.l++[c])[σ.length]? = some c
  rw [←I.len];simp
 exact ⟨I₆,⟨_,c,c',pm,ct,oc2,ws,t2,rfl,outs _ (Nat.le_of_lt (Nat.lt_of_le_of_lt hge hlt)),Heap.get?_push_size _ rfl,hidx,outs _ hge,Heap.get?_push_of_some _ h2o,h2d,h2v⟩,by simpa using (S.trans (S₅ fa)).adopt hcg,k₄⟩
theorem wU (L:LawAt F) {Lc c k:Nat} {E₁:AEnv} {lp:Pos} {g:Heap} {Q:Value→Shared→Prop} (h1:lp.line=127) (h2:lp.col=18) (I:Inv F s ρ σ) (R:EnvR F s.heap ρ (aY (aB F.w.params 168) Lc 168) E₁) (hT:dz σ 0=some #[.ref 163]) (S:Stp fa p₀ ρ₀ g ρ s.heap) (hcl:(aY (aB F.w.params 168) Lc 168).cells.lookup ("signs" : Str)=some c) (hcg:g.get? c=none) (hcF:F.h.get? c=none) {cv:Value} (hcell:s.heap.IsCell c (some cv)) (hcv:VR s.heap ρ (.ref k) cv)
  (h:∀ v h' tk,Inv F { s with heap:=h',toks:=tk } (ρ.add c) (σ.set 0 (.tab fX)++[.cell (.ref k)])→VR h' (ρ.add c) (.lam σ.length) v→Stp fa false ρ₀ g (ρ.add c) h'→(∀ b o,b≠163→s.heap.get? b=some o→h'.get? b=some o)→Q v { s with heap:=h',toks:=tk }) :
  wp F A (eval (.Lambda gn gp lamScope lp) (aY (aB F.w.params 168) Lc 168)) s Q:=by
 obtain ⟨mg,mb,g1,g2,g3⟩:=L.gl
 obtain ⟨bm,ob,b1,b2,b3,b4,b5,b6,b7⟩:=L.bm mg g1
 have h0:=fh hT
 have hj:=s8 I (T:=163) rfl h0
 obtain ⟨ps,hP,_,hps⟩:=I.objs 0 163 _ hj h0
 have hps0:ps = #[]:=hps.elim id fun e=>absurd e.1 (by decide)
 subst hps0
 have hbm:bm≠mainGlobals:=fun q=>by
  obtain ⟨o,es,ep,ho,hd,_⟩:=g1
  rw [q,ho] at b4
  cases b4
  rw [hd] at b7
  cases b7
 have ht163:(163:Addr)∈F.tabs:=by rw [L.tabs];decide
 refine kla_eval (by rfl) (kla_makeFunction (mg:=mg) (mE hcl) R.glob (I.baseNs (ce L).1 g1) (wN F.w.params) (codeHd_of_K (L.K I) (yo F.w.params)) hP trivial rfl (by decide) ⟨bm,ob,b1,b2,hbm,fun q=>b3 (q▸ht163),I.base _ _ b3 b4,b5,b6,b7⟩ fun c' ctv h' tk hx hge hlt hrec htb=>?_)
 have hq:(aY (aB F.w.params 168) Lc 168).qual ++ "<lambda>" = gq:=by
  show ((aB F.w.params 168).qualname ++ ".<locals>." ++ "<lambda>" : Str)=_
  rw [wO]
  decide
 rw [hq] at hrec ⊢
 obtain ⟨c2,oc2,ws,t2,e2,h2o,h2d,h2v⟩:=hrec
 cases e2
 obtain ⟨oc,hoc,hocd⟩:=hcell
 rw [h1,h2] at htb
 obtain ⟨I₆,rl,S₆,k₆⟩:=wS (pm:=(mg "__name__").getD .none) (ct:=ctv) (tk:=tk) I S hcg hj hoc hocd hcv (R.celN "signs" c hcl).1 hcF hx htb hge hlt h2o h2d h2v
 exact h _ _ _ I₆ rl S₆ k₆
theorem wV (L:LawAt F) (KC:CfgOk F (KK F.w.params) C N) {Φ:Fn} (hΦ:CallOk F N (.ref 157) Φ) (hA:AOk N A) {body:List Stmt} (hB:LexTail body) {Lc:Addr} {E₁:AEnv} {r:AV} {g:Heap} {G:Flow→Shared→Prop} (I:Inv F s ρ σ) (R:EnvR F s.heap ρ (aY (aB F.w.params 168) Lc 168) E₁) (X:FaX (aY (aB F.w.params 168) Lc 168) E₁ fa)
  (h:s7 C Φ E₁ σ=some (r,σ',p)) (S:Stp fa p₀ ρ₀ g ρ s.heap) (hfa:∀ b∈fa,g.get? b=none) (kG:∀ u s',p=false→Post F fa ρ₀ g σ' false (VV r) u s'→G (.ret u) s'):wp F A (execs body (aY (aB F.w.params 168) Lc 168)) s G:=
 ad h fun k hk h=>ad h fun st hst h=>ad hk fun ka ek hk=>ad hst fun sa es hst=>aV h fun hc h=>aZ h fun σ₅ hset h=>iD h fun p₆ hlast ep=>by
  have hk:=bq hk
  have hst:=bq hst
  subst hk hst ep
  obtain ⟨q0,q1,q2,q3,q4,q5,q6,lp,h1,h2⟩:=hB
  obtain ⟨l1,l2,l3⟩:=Df F.w.params
  have nm:E₁.names=(aB F.w.params 168).scope.names:=R.names.symm
  rw [←nm] at l1 l2
  obtain ⟨c,cv,hcl,hcell,hcv⟩:=R.cel "signs" (.ref k) ek (.inl l1)
  obtain ⟨mm,hmm,hmv⟩:=R.ns
  obtain ⟨sv,hsv,b,hbe,hb⟩:=hmv "stream" (.ref st) es l2
  subst hbe
  obtain ⟨c3,e3,hcF⟩:=R.own "signs" hc.2
  rw [hcl] at e3
  cases e3
  have hcg:g.get? c=none:=hfa c (X.far.2 "signs" hc.2 c hcl)
  have ht163:(163:Addr)∈ρ.l:=List.mem_of_getElem? (s8 I (T:=163) rfl (fh hc.1))
  have hLc:Lc≠c:=fun q=>d9 hmm (q▸hcell)
  refine wpAny_execs_cons (plainObj_wpAny_Assign_Attribute (wU L h1 h2 I R hc.1 S hcl hcg hcF hcell hcv fun v h' tk I₆ rl S₆ k₆=>?_) (by rfl))
  have hns₆:h'.Ns Lc mm:=hmm.at' fun o e=>k₆ _ o (fun q=>R.loc.1 (q▸ht163)) e
  refine wpAny_Name (wpAny_loadName_local R.kind (R.kindOf l2) hns₆ hsv (wpAny_mono (ky (fa:=[]) KC hset I₆ ⟨b,rfl,fv _ _ hb⟩ rl) (fun _ s₇ ⟨ρ₇,I₇,_,S₇⟩=>?_) fun __ __ z=>z)) (by decide)
  have hns₇:s₇.heap.Ns Lc mm:=hns₆.at' fun o e=>S₇.keep _ o (.inr (fun hm=>(List.mem_append.mp hm).elim R.loc.1 fun hm=>hLc (List.mem_singleton.mp hm))) (by simp) e
  refine wpAny_execs_cons (wpAny_Return_some ?_)
  rw [arm_eval_Call_Name',aE (by rfl)]
  obtain ⟨mg,mb,g1,g2,g3⟩:=L.gl
  refine wpAny_bind (wpAny_Name (ks_loadName_global R.kind l3 (Calls.loadGlobal_global (R.glob▸I₇.baseNs (ce L).1 g1) (mo L.Kh g1 (wR F.w.params)) ?_)) (by decide))
  refine bJ (by rfl) (cN (Calls.spliced_cons (wpAny_Name (wpAny_loadName_local R.kind (R.kindOf l2) hns₇ hsv (Calls.spliced_nil ⟨hΦ.keep _ _ _ I₇,?_⟩)) (by decide))))
  exact (hΦ.ok (vs:=[.ref b]) hlast hA I₇ ⟨⟨b,rfl,S₇.ext _ _ (fv _ _ hb)⟩,trivial⟩).seq fun u s₈ ρ₈ I₈ r₈ S₈=>kG u s₈ rfl ⟨ρ₈,I₈,r₈,by simpa using (S₆.trans (S₇.fa fa)).trans (S₈.fa fa)⟩
theorem wW (L:LawAt F) (KC:CfgOk F (KK F.w.params) C N) (Z:jh F N) {fuel:Nat} {Φ:Fn} (hΦ:CallOk F N (.ref 157) Φ):CodeOk F (N+1) (.ref 168) (yp F.w.params fuel C Φ):=fun {A s ρ σ avs vs r σ' p} h hA I rv=>
 dW (G:=fun vs=>VRs s.heap ρ avs vs→codeAny (model F.prog F.w) A (.call (.ref 168) ⟨vs,[]⟩) (fun res s'=>match res with | .ok (.ret u)=>Post F [] ρ s.heap σ' p (VV r) u s' | _=>False) s) h rv (fun t v et h ra rv=>aZ h fun E₁ hE h=>aJ h fun f σ₁ p₁ p₂ hx h7 ep=>by
  obtain ⟨hb,hB⟩:=GB F.w.params
  subst et
  refine eX (xs:=["signs"]) (vs:=[v]) (pp L (gX _).ok) ((gX _).def hb) (fun M A E Q hq=>by rw [Am _ [v] rfl];exact wpAny_pure hq) hE hA I rv fun s₁ fa Lc I₁ R₁ fx k₁ hfa hA₁=>s6 ((jm KC Z fuel).execs hA₁ I₁ R₁ fx f σ₁ p₁ hx _ fun g s₂ ⟨ρ₂,I₂,r₂,R₂,X₂,S₂⟩=>?_)
  obtain ⟨fl,E₂⟩:=f
  cases fl with
  |next=>
   cases r₂
   exact wV L KC hΦ hA₁ hB I₂ R₂ X₂ h7 ((Stp.keeps k₁).trans S₂) hfa fun u s' ep' ⟨ρ',I',r',S'⟩=>⟨ρ',I',r',(ep.trans (by rw [ep',Bool.and_false]))▸S'.drop (fun __ __ e=>e) hfa⟩
  |_=>exact aa h7) rv
end
end Internal
namespace Internal
structure RunFn (P:Params) (f:Addr) (xs:List Str):Prop where
 pl:PlainFn P f
 body:(aB P f).body = .stmts (aq P f)
 bind:eV (aB P f) xs
noncomputable def fn (P:Params) (C:Cfg) (f:Addr) (xs:List Str):Fn:=Hx 100 C (aB P f).scope xs (aq P f)
theorem dY {F:Fix} {C:Cfg} {N:Nat} (L:LawAt F) {f:Addr} {xs:List Str} (R:RunFn F.w.params f xs) (KC:CfgOk F (KK F.w.params) C N):CodeOk F (N+1) (.ref f) (fn F.w.params C f xs):=EP (pp L R.pl.ok) (R.pl.def R.body) R.bind KC rM
theorem GC {α:Type} {l:List α} (h:l.length=4) {G:List α→Prop} (k:∀ a b c d,G [a,b,c,d]):G l:=by
 match l,h with
 | [a,b,c,d],_=>exact k a b c d
theorem HX {fd:FuncData} {x y z o:Str} (h:∀ u v w t,bindArgs fd ⟨[u,v,w,t],[]⟩=pure [(x,u),(y,v),(z,w),(o,t)]):eV fd [x,y,z,o]:=fun vs hv=>GC (G:=fun vs=>bindArgs fd ⟨vs,[]⟩=pure ([x,y,z,o].zip vs)) hv h
theorem GD (P:Params):RunFn P 133 ["self", "fp"]:=⟨(by refine ⟨?_,?_,?_,?_,?_,?_,?_⟩<;>kernel_rfl),by kernel_rfl,HV fun u v=>by kernel_rfl⟩
theorem Eu (P:Params):RunFn P 140 ["self"]:=⟨(by refine ⟨?_,?_,?_,?_,?_,?_,?_⟩<;>kernel_rfl),by kernel_rfl,HU fun u=>by kernel_rfl⟩
theorem F3 (P:Params):RunFn P 147 ["self"]:=⟨(by refine ⟨?_,?_,?_,?_,?_,?_,?_⟩<;>kernel_rfl),by kernel_rfl,HU fun u=>by kernel_rfl⟩
theorem F4 (P:Params):RunFn P 154 ["self", "token"]:=⟨(by refine ⟨?_,?_,?_,?_,?_,?_,?_⟩<;>kernel_rfl),by kernel_rfl,HV fun u v=>by kernel_rfl⟩
theorem HY (P:Params):RunFn P 28 ["r", "g", "b"]:=⟨(by refine ⟨?_,?_,?_,?_,?_,?_,?_⟩<;>kernel_rfl),by kernel_rfl,HW fun u v w=>by kernel_rfl⟩
theorem HZ (P:Params):RunFn P 35 ["h", "s", "v"]:=⟨(by refine ⟨?_,?_,?_,?_,?_,?_,?_⟩<;>kernel_rfl),by kernel_rfl,HW fun u v w=>by kernel_rfl⟩
theorem H0 (P:Params):RunFn P 59 ["self", "fws", "string"]:=⟨(by refine ⟨?_,?_,?_,?_,?_,?_,?_⟩<;>kernel_rfl),by kernel_rfl,HW fun u v w=>by kernel_rfl⟩
theorem F5 (P:Params):RunFn P 173 ["word", "way"]:=⟨(by refine ⟨?_,?_,?_,?_,?_,?_,?_⟩<;>kernel_rfl),by kernel_rfl,HV fun u v=>by kernel_rfl⟩
theorem F6 (P:Params):RunFn P 180 ["number"]:=⟨(by refine ⟨?_,?_,?_,?_,?_,?_,?_⟩<;>kernel_rfl),by kernel_rfl,HU fun u=>by kernel_rfl⟩
theorem F7 (P:Params):RunFn P 185 ["corner"]:=⟨(by refine ⟨?_,?_,?_,?_,?_,?_,?_⟩<;>kernel_rfl),by kernel_rfl,HU fun u=>by kernel_rfl⟩
theorem F8 (P:Params):RunFn P 190 ["piece", "corners", "seen"]:=⟨(by refine ⟨?_,?_,?_,?_,?_,?_,?_⟩<;>kernel_rfl),by kernel_rfl,HW fun u v w=>by kernel_rfl⟩
theorem F9 (P:Params):RunFn P 195 ["piece", "number", "corners", "seen"]:=⟨(by refine ⟨?_,?_,?_,?_,?_,?_,?_⟩<;>kernel_rfl),by kernel_rfl,HX fun u v w y=>by kernel_rfl⟩
theorem Ga (P:Params):RunFn P 202 ["pile"]:=⟨(by refine ⟨?_,?_,?_,?_,?_,?_,?_⟩<;>kernel_rfl),by kernel_rfl,HU fun u=>by kernel_rfl⟩
theorem Gb (P:Params):RunFn P 207 ["row"]:=⟨(by refine ⟨?_,?_,?_,?_,?_,?_,?_⟩<;>kernel_rfl),by kernel_rfl,HU fun u=>by kernel_rfl⟩
theorem Gc (P:Params):RunFn P 212 ["numbers", "halves", "lexer", "deep"]:=⟨(by refine ⟨?_,?_,?_,?_,?_,?_,?_⟩<;>kernel_rfl),by kernel_rfl,HX fun u v w y=>by kernel_rfl⟩
theorem GE (P:Params):RunFn P 217 ["script"]:=⟨(by refine ⟨?_,?_,?_,?_,?_,?_,?_⟩<;>kernel_rfl),by kernel_rfl,HU fun u=>by kernel_rfl⟩
end Internal
namespace Internal
noncomputable def gBlt:List (Str×Value):=[("sum", .builtin "sum"),("len", .builtin "len"),("max", .builtin "max"),("min", .builtin "min"),("iter", .builtin "iter"),("range", .type "range"),("int", .type "int"),("list", .type "list"),("str", .type "str"),("zip", .type "zip")]
noncomputable def gFns:List (Str×Addr):=[("rgb_to_hsv", 28),("hsv_to_rgb", 35),("_netrclex", 157),("_Accumulator", 115),("_law_lexer", 168),("_law_written", 173),("_law_size", 180),("_law_seen", 185),("_law_turn", 190),("_law_cut", 195),("_law_view", 202),("_law_due", 207),("_law_run", 212)]
noncomputable def gG (x:Str):Option AV:=els (gFns.lookup x) (fun a=>some (.val (.ref a))) ((gBlt.lookup x).map .val)
noncomputable def netMeth:List (Str×Addr):=[("_read_char", 140),("get_token", 147),("push_token", 154)]
noncomputable def accMeth:List (Str×Addr):=[("push", 59),("pop_from", 67),("pop", 75),("part_count", 112)]
noncomputable def netFree:List (Str×Unit):=[("lineno", ()),("instream", ()),("whitespace", ()),("pushback", ()),("read", ())]
noncomputable def mus:List (Nat×Nat):=[(87,24),(169,52),(196,52),(196,56),(204,24)]
noncomputable def lG:Fn:=fun __ __=>none
noncomputable abbrev H6:=List (Addr×Fn)
noncomputable def Ge (len:Fn):List (String×Fn):=[("sum", ya),("len", me len),("max", FV),("min", FW),("iter", CJ),("list.append", yk),("list.pop", zE),("str.join", vN),("str.count", mi)]
noncomputable def Gf (str:Fn):List (String×Fn):=[("range", rF),("int", Es),("list", vO),("str", str)]
noncomputable def H7 (len str:Fn) (ext:H6):Value→Option Fn
 | .builtin i=>(Ge len).lookup i
 | .type i=>(Gf str).lookup i
 | .ref a=>ext.lookup a
 |_=>none
noncomputable def H8 {α:Type} (D₀ D:Addr) (x:Option α):Option α:=if D=D₀ then x else none
noncomputable def H9 (len str:Fn) (ext:H6) (lamF cit:Option Fn):Cfg where
 G:=gG
 Γ:=H7 len str ext
 meth:=fun D x=>H8 157 D (netMeth.lookup x)
 free:=fun D x=>(H8 157 D (netFree.lookup x)).isSome
 ameth:=fun D x=>H8 115 D (accMeth.lookup x)
 aown:=fun D x=>H8 115 D (H8 0 0 (if x = "append" then some "list.append" else none))
 lam:=lamF
 cit:=fun g=>H8 140 g cit
 mu:=fun p=>mus.contains (p.line,p.col)
theorem bV {α:Type} {p:α→Prop} : ∀ x∈([]:List α),p x:=fun __ h=>nomatch h
theorem aj {α:Type} {p:α→Prop} {a:α} {l:List α} (h:p a) (t:∀ x∈l,p x):∀ x∈a::l,p x:=List.forall_mem_cons.mpr ⟨h,t⟩
theorem Ao (P:Params):gFns.all (fun q=>nsIn (KK P) mainGlobals q.1==some (some (.ref q.2)))=true:=by kernel_rfl
theorem Ap (P:Params):gBlt.all (fun q=>nsIn (KK P) mainGlobals q.1==some none&&bootBuiltins q.1==some q.2&&q.1 != "__name__")=true:=by kernel_rfl
theorem aN {κ α:Type} [BEq κ] [LawfulBEq κ] {x:κ} {v:α} : ∀ {l:List (κ×α)},l.lookup x=some v→(x,v)∈l
 | [],h=>aa h
 |(y,u)::l,h=>by
  rw [List.lookup_cons] at h
  cases hb:(x==y) with
  |true=>rw [hb] at h;rw [eq_of_beq hb,←Option.some.inj h];exact .head _
  |false=>rw [hb] at h;exact .tail _ (aN h)
theorem dA {α:Type} {D₀ D:Addr} {x:Option α} {a:α} {G:Prop} (h:H8 D₀ D x=some a) (k:D=D₀→x=some a→G):G:=aV h k
theorem Aq (P:Params):∀ q∈netMeth,MethOk (KK P) 157 q.1 q.2:=aj (CM P) (aj (ER P) (aj (CN P) bV))
theorem wX (P:Params):∀ q∈accMeth,AMethOk (KK P) 115 q.1 q.2:=aj (CP P) (aj (o6 P) (aj (ES P) (aj (kN P) bV)))
theorem Ar (P:Params):∀ q∈netFree,FreeOk (KK P) 157 q.1:=aj (vX P) (aj (o4 P) (aj (kM P) (aj (o5 P) (aj (CO P) bV))))
theorem li:(netMeth.all fun q=>copiedNames.contains q.1==false)=true∧(netFree.all fun q=>copiedNames.contains q.1==false)=true:=⟨by decide +kernel,by decide +kernel⟩
section
variable {F:Fix} {N:Nat}
theorem mF (L:LawAt F):(∃ o,F.h.get? sysModules=some o)∧sysModules ∉ F.tabs:=⟨let ⟨o,e⟩:=Option.isSome_iff_exists.mp (show ((KK F.w.params).lookup sysModules).isSome=true by kernel_rfl);⟨o,(L.inK _ _ e).1⟩,by rw [L.tabs];decide⟩
theorem As (L:LawAt F) (x:Str) (av:AV) (h:gG x=some av):∃ v mg mb,(∀ h ρ,VR h ρ av v)∧F.h.Ns mainGlobals mg∧F.h.Ns builtinsNs mb∧(mg x=some v∨(mg x=none∧mb x=some v)):=by
 refine Hh fun G_ k_=>?_
 obtain ⟨mg,mb,g1,g2,g3⟩:=L.gl
 refine k_ ?_
 refine qP h (fun a ha e=>?_) fun __ h=>ao h fun v hv e=>?_
 ·have:=List.all_eq_true.mp (Ao F.w.params) _ (aN ha)
  exact ⟨_,mg,mb,fun __ __=>Option.some.inj e▸rfl,g1,g2,.inl (mo L.Kh g1 (eq_of_beq this))⟩
 ·have:=List.all_eq_true.mp (Ap F.w.params) _ (aN hv)
  simp only [Bool.and_eq_true,bne_iff_ne] at this
  exact ⟨v,mg,mb,fun __ __=>e▸rfl,g1,g2,.inr ⟨mo L.Kh g1 (eq_of_beq this.1.1),(g3 x this.2).trans (eq_of_beq this.1.2)⟩⟩
structure CfgIn (F:Fix) (N:Nat) (len str:Fn) (ext:H6) (lamF cit:Option Fn):Prop where
 len:CallOk F N (.builtin "len") (me len)
 str:CallOk F N (.type "str") str
 ext:∀ q∈ext,CallOk F N (.ref q.1) q.2
 lam:∀ Φ,lamF=some Φ→qj F N Φ
 cit:∀ Φ,cit=some Φ→∃ M,N=M+1∧CodeOk F M (.ref 140) Φ
theorem nZ (L:LawAt F) {len str:Fn} {ext:H6} {lamF cit:Option Fn} (H:CfgIn F N len str ext lamF cit):CfgOk F (KK F.w.params) (H9 len str ext lamF cit) N where
 glob:=As L
 apart:=ce L
 mods:=mF L
 fn:=fun v Φ h=>by
  have hb:∀ q∈Ge len,CallOk F N (.builtin q.1) q.2:=aj Cu (aj H.len (aj Cy (aj Cz (aj zI (aj (CY L) (aj CB (aj zF (aj rI bV))))))))
  have ht:∀ q∈Gf str,CallOk F N (.type q.1) q.2:=aj vK (aj Cv (aj zG (aj H.str bV)))
  cases v with
  |builtin i=>exact hb _ (aN h)
  |type i=>exact ht _ (aN h)
  |ref a=>exact H.ext _ (aN h)
  |_=>exact aa h
 lam:=H.lam
 cit:=fun g Φ h=>dA h fun e h=>by
  subst e
  refine Hh fun G_ k_=>?_
  obtain ⟨M,e1,e2⟩:=H.cit Φ h
  obtain ⟨o,ho,hd⟩:=(pp L (Eu F.w.params).pl.ok).obj
  refine k_ ?_
  exact ⟨M,e1,e2,⟨o,_,ho,hd⟩,(pp L (Eu F.w.params).pl.ok).tab⟩
 frag:=L.inK
 cls:=fun D name h=>h.elim (fun h=>let ⟨a,ha⟩:=Option.isSome_iff_exists.mp h;dA ha fun e h=>e▸⟨rV _,eq_of_beq (List.all_eq_true.mp li.1 _ (aN h))⟩) fun h=>let ⟨a,ha⟩:=Option.isSome_iff_exists.mp h;dA ha fun e h=>e▸⟨rV _,eq_of_beq (List.all_eq_true.mp li.2 _ (aN h))⟩
 meth:=fun D name f h=>dA h fun e h=>e▸Aq _ _ (aN h)
 free:=fun D name h=>let ⟨a,ha⟩:=Option.isSome_iff_exists.mp h;dA ha fun e h=>e▸Ar _ _ (aN h)
 ameth:=fun D name f h=>dA h fun e h=>e▸wX _ _ (aN h)
 aown:=fun D name i h=>dA h fun e h=>dA h fun __ h=>al h fun en ei=>e▸en▸ei▸wf _
end
end Internal
namespace Internal
noncomputable def base (ext:H6):Cfg:=H9 lG lG ext none none
noncomputable def c0:Cfg:=base []
noncomputable def GF (P:Params):Fn:=fn P c0 133 ["self", "fp"]
noncomputable def BW (P:Params):Fn:=fn P c0 154 ["self", "token"]
noncomputable def f28 (P:Params):Fn:=fn P c0 28 ["r", "g", "b"]
noncomputable def f35 (P:Params):Fn:=fn P c0 35 ["h", "s", "v"]
noncomputable def Ib (P:Params):Fn:=fn P c0 59 ["self", "fws", "string"]
noncomputable def Ev (P:Params):Fn:=fn P c0 173 ["word", "way"]
noncomputable def BX (P:Params):Fn:=fn P c0 180 ["number"]
noncomputable def Ew (P:Params):Fn:=fn P c0 207 ["row"]
noncomputable def cs (P:Params):Cfg:=base [(28,f28 P),(35,f35 P),(180,BX P)]
noncomputable def At (P:Params):Fn:=fn P (cs P) 185 ["corner"]
noncomputable def ct (P:Params):Cfg:=base [(180,BX P)]
noncomputable def Ey (P:Params):Fn:=fn P (ct P) 190 ["piece", "corners", "seen"]
noncomputable def cc (P:Params):Cfg:=base [(185,At P)]
noncomputable def Ez (P:Params):Fn:=fn P (cc P) 195 ["piece", "number", "corners", "seen"]
noncomputable def ca:Cfg:=base [(112,il)]
noncomputable def Ic (P:Params):Fn:=CW P ca
noncomputable def cv:Cfg:=H9 sX wG [(112,il)] none none
noncomputable def Au (P:Params):Fn:=fn P cv 202 ["pile"]
noncomputable def cr:Cfg:=H9 lG lG [] (some FZ) none
noncomputable def E9 (P:Params):Fn:=fn P cr 140 ["self"]
noncomputable def EA (P:Params):Fn:=CK 157 (GF P)
noncomputable def c3 (P:Params):Cfg:=H9 lG lG [(140,E9 P)] none (some (E9 P))
noncomputable def ga (P:Params):Fn:=fn P (c3 P) 147 ["self"]
noncomputable def cl (P:Params):Cfg:=base [(157,EA P),(154,BW P)]
noncomputable def Fa (P:Params):Fn:=yp P 100 (cl P) (EA P)
noncomputable def cn (P:Params):Cfg:=base [(185,At P),(190,Ey P),(195,Ez P),(115,sD),(59,Ib P),(67,dR),(75,Ic P),(154,BW P),(147,ga P),(202,Au P),(207,Ew P)]
noncomputable def BY (P:Params):Fn:=fn P (cn P) 212 ["numbers", "halves", "lexer", "deep"]
noncomputable def cw (P:Params):Cfg:=base [(147,ga P),(154,BW P),(168,Fa P),(173,Ev P),(185,At P),(212,BY P)]
section
variable {F:Fix} {N:Nat}
theorem Av {v:Value} (h:∀ s ρ σ,Inv F s ρ σ→gz F v s):CallOk F N v lG:=⟨h,fun e=>aa e⟩
theorem jC (L:LawAt F):CallOk F N (.builtin "len") (me lG):=yb (mF L) fun h __ __ __=>aa h
theorem s9:∀ (Φ:Fn),(none:Option Fn)=some Φ→qj F N Φ:=fun __ h=>aa h
theorem tc:∀ (Φ:Fn),(none:Option Fn)=some Φ→∃ M,N=M+1∧CodeOk F M (.ref 140) Φ:=fun __ h=>aa h
theorem dB (L:LawAt F) {ext:H6} (h:∀ q∈ext,CallOk F N (.ref q.1) q.2):CfgOk F (KK F.w.params) (base ext) N:=nZ L ⟨jC L,Av fun __ __ __ __=>bK,h,s9,tc⟩
theorem gY (L:LawAt F) {f:Addr} {Φ:Fn} (Y:CU F.w.params f=true) (h:CodeOk F N (.ref f) Φ):CallOk F N (.ref f) Φ:=h.callOk (pp L Y)
theorem ba (L:LawAt F) {f:Addr} {xs:List Str} {Φ:Fn} (Y:RunFn F.w.params f xs) (h:CodeOk F N (.ref f) Φ):CallOk F N (.ref f) Φ:=gY L Y.pl.ok h
theorem lj (L:LawAt F):CfgOk F (KK F.w.params) c0 N:=dB L bV
theorem Fb (L:LawAt F):CallOk F (N+1) (.ref 154) (BW F.w.params):=ba L (F4 _) (dY L (F4 _) (lj L))
theorem Ie (L:LawAt F):CallOk F (N+1) (.ref 28) (f28 F.w.params):=ba L (HY _) (dY L (HY _) (lj L))
theorem Ig (L:LawAt F):CallOk F (N+1) (.ref 35) (f35 F.w.params):=ba L (HZ _) (dY L (HZ _) (lj L))
theorem Ih (L:LawAt F):CallOk F (N+1) (.ref 59) (Ib F.w.params):=ba L (H0 _) (dY L (H0 _) (lj L))
theorem GG (L:LawAt F):CallOk F (N+1) (.ref 173) (Ev F.w.params):=ba L (F5 _) (dY L (F5 _) (lj L))
theorem Gg (L:LawAt F):CallOk F (N+1) (.ref 180) (BX F.w.params):=ba L (F6 _) (dY L (F6 _) (lj L))
theorem GH (L:LawAt F):CallOk F (N+1) (.ref 207) (Ew F.w.params):=ba L (Gb _) (dY L (Gb _) (lj L))
theorem Fc (L:LawAt F):CallOk F (N+2) (.ref 185) (At F.w.params):=ba L (F7 _) (dY L (F7 _) (dB L (aj (Ie L) (aj (Ig L) (aj (Gg L) bV)))))
theorem GI (L:LawAt F):CallOk F (N+2) (.ref 190) (Ey F.w.params):=ba L (F8 _) (dY L (F8 _) (dB L (aj (Gg L) bV)))
theorem GJ (L:LawAt F):CallOk F (N+3) (.ref 195) (Ez F.w.params):=ba L (F9 _) (dY L (F9 _) (dB L (aj (Fc L) bV)))
theorem Gh (L:LawAt F):CodeOk F (N+2) (.ref 140) (E9 F.w.params):=dY L (Eu _) (nZ L ⟨jC L,Av fun __ __ __ __=>bK,bV,fun Φ h=>Option.some.inj h▸CL L.nolimit L.stat,tc⟩)
theorem Gi (L:LawAt F):CallOk F (N+1) (.ref 112) il:=gY L (mq _).ok (zU L)
theorem Ii (L:LawAt F):CallOk F (N+2) (.ref 75) (Ic F.w.params):=gY L (r8 _).ok (pD L (dB L (aj (Gi L) bV)) rM)
theorem GK (L:LawAt F):CodeOk F (N+2) (.ref 157) (EA F.w.params):=zJ L.inK (kK _) (nJ _).1 (nJ _).2 (dY L (GD _) (lj L))
theorem Gj (L:LawAt F):CallOk F (N+2) (.ref 157) (EA F.w.params):=rQ L.inK (kK _) (GK L)
theorem Fd (L:LawAt F):CfgOk F (KK F.w.params) (c3 F.w.params) (N+3):=nZ L ⟨jC L,Av fun __ __ __ __=>bK,aj ((ba L (Eu _) (Gh (N:=N) L)).up (Nat.le_succ _)) bV,s9,fun Φ h=>⟨N+2,rfl,Option.some.inj h▸Gh L⟩⟩
theorem Gk (L:LawAt F):CallOk F (N+4) (.ref 147) (ga F.w.params):=ba L (F3 _) (dY L (F3 _) (Fd L))
theorem Fe (L:LawAt F):CfgOk F (KK F.w.params) (cl F.w.params) (N+2):=dB L (aj (Gj L) (aj (Fb L) bV))
theorem GL (L:LawAt F):CallOk F (N+3) (.ref 168) (Fa F.w.params):=gY L (gX _).ok (wW L (Fe L) rM (Gj L))
theorem GN (L:LawAt F):CallOk F (N+2) (.ref 115) sD where
 keep:=fun s ρ σ I=>by
  have Y:=k7 (M:=model F.prog F.w) F.w.params (L.K I)
  refine Y.at fun oc od cd sl hC e1 e2 e4=>⟨.machine,fun A E Q hq=>?_⟩
  unfold keeperOf
  refine wpAny_bind (wpAny_load hC ?_)
  obtain ⟨hh,g,d,t,os⟩:=s
  exact wpAny_bind (Y.call.at (wpAny_pure hq))
 ok:=fun e hA I r=>CodeOk.call (wn L) e hA I r
theorem GO (L:LawAt F):CallOk F (N+4) (.ref 202) (Au F.w.params):=ba L (Ga _) (dY L (Ga _) (nZ L ⟨yb (mF L) fun h hA I rv=>Ak L h hA I rv,Al L,aj (Gi L) bV,s9,tc⟩))
theorem Ff (L:LawAt F):CfgOk F (KK F.w.params) (cn F.w.params) (N+4):=dB L (aj ((Fc (N:=N) L).up (Nat.le_add_right _ 2)) (aj ((GI (N:=N) L).up (Nat.le_add_right _ 2)) (aj ((GJ (N:=N) L).up (Nat.le_succ _)) (aj ((GN (N:=N) L).up (Nat.le_add_right _ 2)) (aj (Ih L) (aj (gY L (jy _).ok (mr L)) (aj ((Ii (N:=N) L).up (Nat.le_add_right _ 2)) (aj (Fb L) (aj (Gk L) (aj (GO L) (aj (GH L) bV)))))))))))
theorem GP (L:LawAt F):CallOk F (N+5) (.ref 212) (BY F.w.params):=ba L (Gc _) (dY L (Gc _) (Ff L))
theorem Fg (L:LawAt F):CfgOk F (KK F.w.params) (cw F.w.params) (N+5):=dB L (aj ((Gk (N:=N) L).up (Nat.le_succ _)) (aj (Fb L) (aj ((GL (N:=N) L).up (Nat.le_add_right _ 2)) (aj (GG L) (aj ((Fc (N:=N) L).up (Nat.le_add_right _ 3)) (aj (GP L) bV))))))
theorem GQ (L:LawAt F):CodeOk F (N+6) (.ref 217) (fn F.w.params (cw F.w.params) 217 ["script"]):=dY L (GE _) (Fg L)
end
end Internal
namespace Internal
noncomputable def Ij:St:=[.tab #[.ref 163],.tab (c9 77 cQ),.tab (c9 84 cY)]
theorem Dg (P:Params):((KK P).lookup 163).isNone=true:=by kernel_rfl
theorem Fh (P:Params):((KK P).lookup 77).isNone=true:=by kernel_rfl
theorem Fi (P:Params):((KK P).lookup 84).isNone=true:=by kernel_rfl
theorem wY (P:Params):nsIn (KK P) mainGlobals "law" = some (some (.ref 217)):=by kernel_rfl
theorem tf:AOk 6 callerA:=⟨rfl,by decide +kernel,by decide +kernel,[],rfl⟩
structure Start (w:World) (s:Shared):Prop where
 inK:(KK w.params).In s.heap
 tab:∀ T∈[163,77,84],s.heap.get? T=some (tabObj #[])
 top:∃ mg mb,s.heap.Ns mainGlobals mg∧s.heap.Ns builtinsNs mb∧(∀ x:Str,x ≠ "__name__" → mb x=bootBuiltins x)∧(∃ bm ob,mg "__builtins__" = some (.ref bm)∧bm≠builtinsNs∧s.heap.get? bm=some ob∧ob.cls = .type "module" ∧ ob.dict=some builtinsNs∧ob.data = .plain)
 nolimit:s.heap.NoLimit
 gens:s.gens = #[]
section
variable {w:World} {s:Shared}
noncomputable abbrev Aw (w:World) (s:Shared):Fix:={ prog:=PySem.Challenge.rw_tr0030_01.prog,w:=w,h:=s.heap,os:=s.os,tabs:=[163,77,84] }
theorem th (S:Start w s):LawAt (Aw w s) where
 inK:=fun a o e=>⟨S.inK a o e,fun hm=>by
  have h1:=Dg w.params
  have h2:=Fh w.params
  have h3:=Fi w.params
  have e:(KK w.params).lookup a=some o:=e
  simp only [List.mem_cons,List.not_mem_nil,or_false] at hm
  rcases hm with rfl | rfl | rfl
  ·rw [e] at h1;cases h1
  ·rw [e] at h2;cases h2
  ·rw [e] at h3;cases h3⟩
 prog:=rfl
 nolimit:=S.nolimit
 tabs:=rfl
 gl:=let ⟨mg,mb,h1,h2,h3,_⟩:=S.top;⟨mg,mb,h1,h2,h3⟩
 bm:=fun mg' hg'=>by
  refine Hh fun G_ k_=>?_
  obtain ⟨mg,mb,h1,h2,h3,bm,ob,b1,b2,b4,b5,b6,b7⟩:=S.top
  refine k_ ?_
  have e:mg'=mg:=by
   funext x
   refine Hh fun G_ k_=>?_
   obtain ⟨o,es,ep,ho,hd,_,hf⟩:=hg'
   obtain ⟨o2,es2,ep2,ho2,hd2,_,hf2⟩:=h1
   refine k_ ?_
   have ho:s.heap.get? mainGlobals=some o:=ho
   rw [ho2] at ho
   cases ho
   rw [hd2] at hd
   cases hd
   rw [←hf x,←hf2 x]
  subst e
  refine ⟨bm,ob,b1,b2,fun hm=>?_,b4,b5,b6,b7⟩
  have:=S.tab bm hm
  rw [b4] at this
  cases this
  cases b5
theorem tj (S:Start w s):Inv (Aw w s) s ⟨[163,77,84],[]⟩ Ij where
 base:=fun b o __ e=>e
 len:=rfl
 objs:=fun i a o ha ho=>by
  match i,ha,ho with
  |0,ha,ho=>cases ha;cases ho;exact ⟨#[],S.tab 163 (by decide),rfl,.inl rfl⟩
  |1,ha,ho=>cases ha;cases ho;exact ⟨#[],S.tab 77 (by decide),rfl,.inl rfl⟩
  |2,ha,ho=>cases ha;cases ho;exact ⟨#[],S.tab 84 (by decide),rfl,.inl rfl⟩
  |n+3,ha,ho=>cases ha
 nodup:=by decide
 fresh:=fun a ha=>.inl ha
 live:=fun a ha=>⟨_,S.tab a ha⟩
 xlive:=fun a ha=>by cases ha
 tlive:=fun a ha=>⟨_,S.tab a ha⟩
 gens:=by rw [S.gens];exact fun g hg=>by simp at hg
 os:=rfl
theorem tm {h:Heap} {ρ:Rg} : ∀ {vs:List Value} {ns:List Int},IntsAre vs ns→VRs h ρ (ns.map .int) vs
 |_,_,.nil=>trivial
 |_,_,.cons n t r=>⟨⟨t,rfl⟩,tm r⟩
theorem wZ (S:Start w s) {F:Fix} (hF:F.h=s.heap) (hT:F.tabs=[163,77,84]) {ρ':Rg} {s':Shared} {σ':St} {p:Bool} (I':Inv F s' ρ' σ') (S':Stp [] p ⟨[163,77,84],[]⟩ s.heap ρ' s'.heap) (ht:∀ i,i < 3→∃ vt,σ'[i]? = some (.tab vt)):OldK s.heap s'.heap:=by
 refine ⟨fun b o e=>?_,fun b o e=>S'.live b o e⟩
 have tb:∀ (i:Nat) (T:Addr),i < 3→(⟨[163,77,84],[]⟩:Rg).l[i]? = some T→isCodeTable s.heap T→T∈[163,77,84]→b=T→asItWas s.heap s'.heap b o:=by
  intro i T hi hl hc hm hb
  subst hb
  have e0:=S.tab b hm
  rw [e] at e0
  cases e0
  refine Hh fun G_ k_=>?_
  obtain ⟨vt,hσ⟩:=ht i hi
  obtain ⟨ps,hp,_⟩:=I'.objs i b _ (S'.ext i b hl) hσ
  refine k_ ?_
  exact .inr (.inl ⟨hc,rfl,#[],ps,rfl,by rw [hp];simp⟩)
 have X:=S.inK
 by_cases hb:b∈[163,77,84]
 ·rcases List.mem_cons.mp hb with hb | hb
  ·exact tb 0 163 (by decide) rfl ((codeHd_of_K X (yo _)).tab (S.tab 163 (by decide))).isCodeTable (by decide) hb
  rcases List.mem_cons.mp hb with hb | hb
  ·exact tb 1 77 (by decide) rfl ((codeHd_of_K X (sP _).tab).tab (S.tab 77 (by decide))).isCodeTable (by decide) hb
  ·exact tb 2 84 (by decide) rfl ((codeHd_of_K X (sQ _).tab).tab (S.tab 84 (by decide))).isCodeTable (by decide) (List.mem_singleton.mp hb)
 ·exact .inl (I'.base b o (hT▸hb) (hF▸e))
end
end Internal
namespace Internal
noncomputable def Dh (P:Params) (a:AV):AEnv:={ names:=(aB P 217).scope.names,own:=cb (aB P 217).scope,vars:=[("script", a)] }
theorem w1 (P:Params) (a:AV):aC (cU (aB P 217)) ["script"] [a]=some (Dh P a):=by kernel_rfl
noncomputable abbrev tr (s:Shared) (v:Value) (s':Shared):Prop:=v = .bool true∧OldK s.heap s'.heap∧s'.os=s.os∧AllBare s'.gens
noncomputable def jD (P:Params) (ns:List Int):Prop:=∀ G:Prop,(∀ (E₂:AEnv) (σ₂:St) (p₂:Bool),
 aexecs 100 (cw P) (Dh P (.lst (ns.map .int))) Ij (aq P 217)=some ((.ret (.bool true),E₂),σ₂,p₂)→(∀ i,i < 3→∃ vt,σ₂[i]? = some (.tab vt))→G)→G
section
variable {w:World} {s:Shared}
theorem Ax (S:Start w s) {lx:Addr} {vs:List Value} {ns:List Int} (hob:s.heap.get? lx=some (aD vs.toArray 0)) (hI:IntsAre vs ns) {E₂:AEnv} {σ₂:St} {p₂:Bool}
  (H:aexecs 100 (cw w.params) (Dh w.params (.lst (ns.map .int))) Ij (aq w.params 217)=some ((.ret (.bool true),E₂),σ₂,p₂)) (ht:∀ i,i < 3→∃ vt,σ₂[i]? = some (.tab vt)) :
  wpAny (model PySem.Challenge.rw_tr0030_01.prog w) callerA (call (.ref 217) [.ref lx]) (tr s) (fun __ __=>False) s:=by
 have L:=th S
 have I:=tj S
 have hout:Rg.out ⟨[163,77,84],[]⟩ lx:=⟨fun hm=>(by
  have:=S.tab lx hm
  rw [hob] at this
  cases this),fun hm=>nomatch hm⟩
 have rv:VRs s.heap ⟨[163,77,84],[]⟩ [AV.lst (ns.map .int)] [.ref lx]:=⟨⟨lx,vs.toArray,0,rfl,hout,hob,by simpa using tm hI⟩,trivial⟩
 have e:fn w.params (cw w.params) 217 ["script"] [.lst (ns.map .int)] Ij=some (.bool true,σ₂,p₂):=by
  unfold fn Hx
  rw [show aC { names:=(aB w.params 217).scope.names,own:=cb (aB w.params 217).scope,vars:=[] } ["script"] [.lst (ns.map .int)]=some (Dh w.params (.lst (ns.map .int))) from w1 _ _]
  show vI (aexecs 100 _ _ _ _)=_
  rw [H]
  rfl
 refine wpAny_mono (CodeOk.call (GQ (F:=Aw w s) (N:=0) L) e tf I rv) (fun v s' ⟨ρ',I',r',S'⟩=>?_) fun __ __ z=>z
 exact ⟨r',wZ S rfl rfl I' S' ht,I'.os,I'.gens⟩
end
theorem Ay {w:World} {s:Shared} (H:∀ (P:Params) (ns:List Int),ns.length≤63→jD P ns) (S:Start w s) {lx:Addr} {vs:List Value} {ns:List Int} (hob:s.heap.get? lx=some (aD vs.toArray 0)) (hI:IntsAre vs ns) (hn:ns.length≤63) {v:Addr} (hv:v=217) :
  wpAny (model PySem.Challenge.rw_tr0030_01.prog w) callerA (call (.ref v) [.ref lx]) (tr s) (fun __ __=>False) s:=
 hv▸H w.params ns hn _ fun E₂ σ₂ p₂ H2 ht=>Ax S hob hI H2 ht
theorem Az {w:World} {h:Heap} {lx:Addr} {vsl:List Value} {x:List WData} (hw:Well w.params h (.ref lx) (WData.list x)) (hL:h.IsList lx vsl.toArray):h.get? lx=some (aD vsl.toArray 0):=by
 cases hw with
 |list hget _=>
  obtain ⟨o2,ho2,hc,n,hd2⟩:=hL
  rw [hget] at ho2
  cases ho2
  rw [hget]
  cases hd2
  rfl
set_option tactic.hygienic true in
theorem Di (H:∀ (P:Params) (ns:List Int),ns.length≤63→jD P ns):PySem.Challenge.rw_tr0030_01.Holds:=by
 refine HM ?_
 intro w s₀ s₁ mg mb G Y fa o pm cd doc dV kV ho hd hcd hD hmg hg args vals as hpre hlay hrd hwl hlo
 refine Hh fun G_ k_=>?_
 wrow_args hpre hlay hrd hwl hlo
 rename_i script h1 h2 h3 h4 h5 a1 a2 lx vsl a3 hL hra hw1 hr0 hI hrr hc1 hc2
 have S:Start w s₁:=⟨km_in_of Y,fun T hT=>km_tabs_of Y T hT,⟨mg,mb,G.T.g,G.T.b,G.T.builtins,G.T.bmain⟩,G.T.nolimit,hg⟩
 have hfa:fa=217:=by
  have:=mo (fun a o e=>S.inK a o e) G.T.g (wY w.params)
  rw [show mg "law" = some (Value.ref fa) from hmg] at this
  cases this
  rfl
 refine k_ ?_
 refine wpAny_mono (Ay H S (Az hw1 hL) hI (by omega) hfa) (fun v s' z=>?_) fun __ __ z=>z.elim
 obtain ⟨rfl,z1,z2,z3⟩:=z
 exact ⟨.inl ⟨_,.bool true,[],rfl,fun __=>rfl,.bool _,by kernel_rfl,fun __=>⟨List.nodup_nil,fun __ h=>by cases h⟩⟩,z1,z2,z3⟩
end Internal
namespace Internal
noncomputable def Ik:Pos:=⟨0,0,0,0⟩
noncomputable def AA:Stmt:=.Pass Ik
noncomputable def cB:Expr:=.Name "" Ik
noncomputable abbrev GR:=Expr×Expr×Expr×List Stmt×List Stmt×Pos
noncomputable def BZ:Stmt→GR
 | .For t i b _ p=>(t,i,cB,b,[],p)
 | .If v b o p=>(cB,cB,v,b,o,p)
 | .Assign ts v p=>(ts.headD cB,cB,v,[],[],p)
 | .AugAssign t _ v p=>(t,cB,v,[],[],p)
 | .Return v p=>(cB,cB,v.getD cB,[],[],p)
 | .Expr v p=>(cB,cB,v,[],[],p)
 |_=>(cB,cB,cB,[],[],Ik)
noncomputable def Il (l:List Stmt):Stmt:=l.headD AA
noncomputable def fY (s:Stmt):Expr:=(BZ s).1
noncomputable def im (s:Stmt):Expr:=(BZ s).2.1
noncomputable def af (s:Stmt):Expr:=(BZ s).2.2.1
noncomputable def aM (s:Stmt):List Stmt:=(BZ s).2.2.2.1
noncomputable def cR (s:Stmt):List Stmt:=(BZ s).2.2.2.2.1
noncomputable def w5 (s:Stmt):Pos:=(BZ s).2.2.2.2.2
noncomputable def fI:Comprehension:=⟨cB,cB,[],0⟩
noncomputable def bS:Scope:=⟨.function,[],false,false,[]⟩
noncomputable abbrev GS:=Expr×Expr×Expr×List Expr×Comprehension×Scope×Pos×Nat
noncomputable def yq:Expr→GS
 | .BinOp l _ r p=>(l,r,cB,[],fI,bS,p,0)
 | .Compare l _ rs p=>(l,rs.headD cB,cB,rs,fI,bS,p,0)
 | .Subscript v i p=>(v,i,cB,[],fI,bS,p,0)
 | .IfExp t b o p=>(b,o,t,[],fI,bS,p,0)
 | .Call f as _ p=>(f,as.headD cB,cB,as,fI,bS,p,0)
 | .Attribute o _ p=>(o,cB,cB,[],fI,bS,p,0)
 | .ListComp e gs s p=>(e,cB,cB,[],gs.headD fI,s,p,0)
 | .Tuple es k p=>(cB,cB,cB,es,fI,bS,p,k)
 | .Name _ p=>(cB,cB,cB,[],fI,bS,p,0)
 | .List es p=>(cB,cB,cB,es,fI,bS,p,0)
 | .BoolOp _ es p=>(cB,cB,cB,es,fI,bS,p,0)
 | .UnaryOp _ x p=>(x,cB,cB,[],fI,bS,p,0)
 |_=>(cB,cB,cB,[],fI,bS,Ik,0)
noncomputable def eL (e:Expr):Expr:=(yq e).1
noncomputable def eR (e:Expr):Expr:=(yq e).2.1
noncomputable def eT (e:Expr):Expr:=(yq e).2.2.1
noncomputable def au (e:Expr):List Expr:=(yq e).2.2.2.1
noncomputable def dF (e:Expr):Comprehension:=(yq e).2.2.2.2.1
noncomputable def aw (e:Expr):Scope:=(yq e).2.2.2.2.2.1
noncomputable def cA (e:Expr):Pos:=(yq e).2.2.2.2.2.2.1
noncomputable def Im (e:Expr):Nat:=(yq e).2.2.2.2.2.2.2
noncomputable def Io (l:List Expr):Expr:=l.headD cB
noncomputable def eN (e:Expr) (i:Nat):Expr:=(au e).getD i cB
noncomputable def Ip (e:Expr):Expr:=Io (dF e).ifs
noncomputable abbrev jE (s:Stmt):Prop:=s = .If (af s) (aM s) (cR s) (w5 s)
noncomputable abbrev mG (s:Stmt):Prop:=s = .For (fY s) (im s) (aM s) [] (w5 s)
noncomputable abbrev bN (s:Stmt) (x:Str):Prop:=s = .Assign [.Name x (cA (fY s))] (af s) (w5 s)
noncomputable abbrev jF (s:Stmt):Prop:=s = .Return (some (af s)) (w5 s)
noncomputable abbrev mH (e:Expr):Prop:=e = .ListComp (eL e) [⟨(dF e).target,(dF e).iter,[Ip e],0⟩] (aw e) (cA e)
noncomputable abbrev bG (e:Expr):Prop:=e = .ListComp (eL e) [⟨(dF e).target,(dF e).iter,[],0⟩] (aw e) (cA e)
noncomputable abbrev Dj (e:Expr) (a b:CmpOp):Prop:=e = .Compare (eL e) [a,b] [eR e,eN e 1] (cA e)
noncomputable abbrev AB (s:Stmt):Prop:=s = .Assign [.Tuple (au (fY s)) (Im (fY s)) (cA (fY s))] (.Call (eL (af s)) (au (af s)) [] (cA (af s))) (w5 s)
noncomputable abbrev jG (e:Expr) (op:CmpOp):Prop:=e = .Compare (eL e) [op] [eR e] (cA e)
noncomputable abbrev bw (e:Expr) (op:Operator):Prop:=e = .BinOp (eL e) op (eR e) (cA e)
noncomputable abbrev cf (e:Expr):Prop:=e = .Subscript (eL e) (eR e) (cA e)
noncomputable abbrev Dk (e:Expr):Prop:=e = .Tuple (au e) (Im e) (cA e)
noncomputable abbrev Fj (s:Stmt):Prop:=s = .Assign [.Tuple (au (fY s)) (Im (fY s)) (cA (fY s))] (.ListComp (eL (af s)) [⟨(dF (af s)).target,(dF (af s)).iter,[],0⟩] (aw (af s)) (cA (af s))) (w5 s)
noncomputable abbrev AC (s:Stmt):Prop:=s = .Assign [.Subscript (eL (fY s)) (eR (fY s)) (cA (fY s))] (af s) (w5 s)
noncomputable abbrev IsList (e:Expr):Prop:=e = .List (au e) (cA e)
noncomputable abbrev pM (e:Expr):Prop:=e = .IfExp (eT e) (eL e) (eR e) (cA e)
noncomputable abbrev iS (e:Expr) (op:BoolOp):Prop:=e = .BoolOp op (au e) (cA e)
noncomputable abbrev aO (e:Expr) (f:Str):Prop:=e = .Call (.Name f (cA (eL e))) (au e) [] (cA e)
noncomputable abbrev bx (e:Expr) (m:Str):Prop:=e = .Call (.Attribute (eL (eL e)) m (cA (eL e))) (au e) [] (cA e)
noncomputable def Iq:Expr→Option Expr×Option Expr×Option Expr×Pos | .Subscript _ (.Slice a b c p) _=>(a,b,c,p) | _=>(none,none,none,Ik)
noncomputable abbrev yr (e:Expr):Prop:=e = .Subscript (eL e) (.Slice (Iq e).1 (Iq e).2.1 (Iq e).2.2.1 (Iq e).2.2.2) (cA e)
noncomputable abbrev IsTup (s:Stmt):Prop:=s = .Assign [.Tuple (au (fY s)) (Im (fY s)) (cA (fY s))] (.Tuple (au (af s)) (Im (af s)) (cA (af s))) (w5 s)
section
variable {α β:Type} {n:Nat} {C:Cfg} {E E₁:AEnv} {σ σ₁ σ₂:St} {p q:Bool} {e:Expr} {st:Stmt} {r:List Stmt} {v:AV}
theorem ae {x:Option (α×St×Bool)} {f:α→St→Option (β×St×Bool)} {a:α} (h:x=some (a,σ₁,true)):Hp x f=f a σ₁:=by
 subst h
 show (match f a σ₁ with | none=>none | some (b,σ',q)=>some (b,σ',true&&q))=f a σ₁
 cases f a σ₁ with
 |none=>rfl
 |some z=>rfl
theorem aT {x:Option (α×St×Bool)} {f:α→St→Option (β×St×Bool)} {a:α} {b:β} (h:x=some (a,σ₁,p)) (h2:f a σ₁=some (b,σ₂,q)):Hp x f=some (b,σ₂,p&&q):=by
 subst h
 show (match f a σ₁ with | none=>none | some (b,σ',q)=>some (b,σ',p&&q))=_
 rw [h2]
theorem aR {x:Option α} {f:α→Option β} {a:α} (h:x=some a):opt x f=f a:=by subst h;rfl
theorem yt (h:ak n C E σ st=some ((.next,E₁),σ₁,true)):aexecs (n+1) C E σ (st::r)=aexecs n C E₁ σ₁ r:=ae (x:=ak n C E σ st) h
noncomputable def res (n:Nat) (C:Cfg) (E:AEnv) (σ:St) (l:List Stmt):Option (AV×St×Bool):=vI (aexecs n C E σ l)
theorem Ir (E₁:AEnv) (h:ak n C E σ st=some ((.next,E₁),σ,true)):res (n+1) C E σ (st::r)=res n C E₁ σ r:=congrArg vI (ae (x:=ak n C E σ st) h)
theorem Is (E₁:AEnv) (h:ak n C E σ st=some ((.next,E₁),σ,true)):aexecs (n+1) C E σ (st::r)=aexecs n C E₁ σ r:=yt h
theorem ay {x:AFlow×AEnv} (h:ak n C E σ st=some ((.next,E₁),σ₁,p)) (h2:aexecs n C E₁ σ₁ r=some (x,σ₂,q)):aexecs (n+1) C E σ (st::r)=some (x,σ₂,p&&q):=aT (x:=ak n C E σ st) h h2
theorem iT (h:ak n C E σ st=some ((.ret v,E₁),σ₁,p)):aexecs (n+1) C E σ (st::r)=some ((.ret v,E₁),σ₁,p):=(aT (x:=ak n C E σ st) (q:=true) h rfl).trans (by rw [Bool.and_true])
theorem jH (E₁:AEnv) (h:ak n C E σ st=some ((.ret v,E₁),σ₁,p)):res (n+1) C E σ (st::r)=some (v,σ₁,p):=congrArg vI (iT h)
theorem Fk {t:Expr} {b o:List Stmt} {pos:Pos} {c:Bool} (he:st = .If t b o pos) (h:atest n C E σ t=some (c,σ₁,true)):ak (n+1) C E σ st=aexecs n C E σ₁ (if c=true then b else o):=by
 subst he
 exact ae (x:=atest n C E σ t) h
theorem dG (c':Bool) {t:Expr} {b o:List Stmt} {pos:Pos} {c:Bool} (he:st = .If t b o pos) (h:atest n C E σ t=some (c',σ,true)) (hc:c'=c):ak (n+1) C E σ st=aexecs n C E σ (if c=true then b else o):=Fk he (hc▸h)
noncomputable def Dl:Expr→Bool | .DictComp .. => false | _=>true
theorem bO {x:Str} {xp pos:Pos} {e:Expr} (he:st = .Assign [.Name x xp] e pos) (hd:Dl e=true) (h1:Hs n C E σ e=some (v,σ₁,p)) (h2:cj E x v=some E₁):ak (n+1) C E σ st=some ((.next,E₁),σ₁,p):=by
 subst he
 have k:Hp (Hs n C E σ e) (fun v σ₁=>opt (cj E x v) fun E'=>some ((AFlow.next,E'),σ₁,true))=some ((.next,E₁),σ₁,p):=(aT (x:=Hs n C E σ e) (q:=true) h1 (by rw [h2];rfl)).trans (by rw [Bool.and_true])
 cases e with
 |DictComp=>cases hd
 |_=>exact k
theorem fj {e:Expr} {pos:Pos} (he:st = .Return (some e) pos) (h1:Hs n C E σ e=some (v,σ₁,p)):ak (n+1) C E σ st=some ((.ret v,E),σ₁,p):=by
 subst he
 exact (aT (x:=Hs n C E σ e) (f:=fun v σ₁=>some ((AFlow.ret v,E),σ₁,true)) (q:=true) h1 rfl).trans (by rw [Bool.and_true])
noncomputable def eC (n:Nat) (C:Cfg) (target:Expr) (body:List Stmt) (x:AV) (E:AEnv) (σ:St):Option ((AFlow×AEnv)×St×Bool):=opt (aA E target x) fun E'=>aexecs n C E' σ body
theorem tt {held:Bool} {b:β} : cW held (some (b,σ,true))=some (b,σ,true):=by cases held<;>rfl
theorem dH {t:Expr} {b:List Stmt} {x:AV} (h:aA E t x=some E₁):eC n C t b x E σ=aexecs n C E₁ σ b:=aR h
noncomputable def dI (n:Nat) (C:Cfg) (E:AEnv) (elt target:Expr) (ifs:List Expr) (scope:Scope) (x:AV) (σ:St):Option (Option AV×St×Bool):=opt (aA (ag E scope) target x) fun E'=>Hp (aifs n C E' σ ifs) fun ok σ'=>match ok with
 |true=>Hp (Hs n C E' σ' elt) fun v σ''=>some (some v,σ'',true)
 |false=>some (none,σ',true)
theorem bW {elt target iter:Expr} {ifs:List Expr} {scope:Scope} {pos:Pos} {items l:List AV} {held:Bool} (he:e = .ListComp elt [⟨target,iter,ifs,0⟩] scope pos) (hc:(!bD iter&&cT E scope&&dU C E iter target)=true) (hs:asrc n C E σ iter=some ((items,held),σ₁,true)) (hl:items.length≤Hk)
  (hm:eG (dI n C E elt target ifs scope) items σ₁=some (l,σ₁,true)):Hs (n+2) C E σ e=some (.lst l,σ₁,true):=by
 subst he
 simp only [Bool.and_eq_true,Bool.not_eq_true'] at hc
 refine ae (x:=acomp (n+1) C E σ elt target iter ifs 0 scope) (f:=fun l σ₁=>some (AV.lst l,σ₁,true)) ?_
 show (if (0:Int)=0∧bD iter=false∧cT E scope=true∧dU C E iter target=true then _ else _)=_
 rw [if_pos ⟨rfl,hc.1.1,hc.1.2,hc.2⟩]
 refine (ae (x:=asrc n C E σ iter) hs).trans ?_
 show (if items.length≤Hk then _ else _)=_
 rw [if_pos hl]
 exact (congrArg (cW held) hm).trans tt
theorem bf {elt target:Expr} {scope:Scope} {x:AV} (h1:aA (ag E scope) target x=some E₁) (h2:Hs (n+1) C E₁ σ elt=some (v,σ,true)):dI (n+1) C E elt target [] scope x σ=some (some v,σ,true):=
 (aR h1).trans ((ae (x:=aifs (n+1) C E₁ σ []) rfl).trans (ae h2))
theorem mI {elt target t:Expr} {scope:Scope} {x:AV} {c:Bool} (h1:aA (ag E scope) target x=some E₁) (h2:atest n C E₁ σ t=some (c,σ,true)) (h3:Hs (n+1) C E₁ σ elt=some (v,σ,true)):dI (n+1) C E elt target [t] scope x σ=some (if c=true then some v else none,σ,true):=by
 refine (aR h1).trans ((ae (x:=aifs (n+1) C E₁ σ [t]) h2).trans ?_)
 cases c with
 |true=>exact ae h3
 |false=>rfl
theorem cy {a i:Expr} {pos:Pos} {o k:AV} (he:e = .Subscript a i pos) (hi:dg i=false) (h1:Hs n C E σ a=some (o,σ,true)) (h2:Hs n C E σ i=some (k,σ,true)) (h3:ib σ o k=some v):Hs (n+1) C E σ e=some (v,σ,true):=by
 subst he
 have k1:Hp (Hs n C E σ a) (fun o σ₁=>Hp (Hs n C E σ₁ i) fun k σ₂=>pur σ₂ (ib σ₂ o k))=some (v,σ,true):=(ae h1).trans ((ae h2).trans (by rw [h3];rfl))
 cases i with
 |Slice=>cases hi
 |_=>exact k1
theorem pN {t b o:Expr} {pos:Pos} {c:Bool} (he:e = .IfExp t b o pos) (h1:atest n C E σ t=some (c,σ,true)):Hs (n+1) C E σ e=Hs n C E σ (if c=true then b else o):=by
 subst he
 exact ae (x:=atest n C E σ t) h1
theorem bA {l r:Expr} {op:Operator} {pos:Pos} {a b:AV} (he:e = .BinOp l op r pos) (h1:Hs n C E σ l=some (a,σ,true)) (h2:Hs n C E σ r=some (b,σ,true)) (h3:h9 op a b=some v):Hs (n+1) C E σ e=some (v,σ,true):=by
 subst he
 exact (ae (x:=Hs n C E σ l) h1).trans ((ae (x:=Hs n C E σ r) h2).trans (by rw [h3];rfl))
theorem mJ {l r:Expr} {op:CmpOp} {pos:Pos} {a b:AV} {c:Bool} (he:e = .Compare l [op] [r] pos) (hs:bD r=false) (h1:Hs (n+1) C E σ l=some (a,σ₁,true)) (h2:Hs n C E σ₁ r=some (b,σ₁,true)) (h3:io σ₁ op a b=some c):atest (n+2) C E σ e=some (c,σ₁,true):=by
 subst he
 show (if (bD r || false)=true then _ else _)=_
 rw [hs,if_neg (by decide)]
 exact (ae (x:=Hs (n+1) C E σ l) h1).trans ((ae (x:=Hs n C E σ₁ r) h2).trans (aR h3))
theorem n6 {l m r:Expr} {op op':CmpOp} {pos:Pos} {a b d:AV} {c:Bool} (he:e = .Compare l [op,op'] [m,r] pos) (hs:(bD m || bD r)=false) (h1:Hs (n+2) C E σ l=some (a,σ,true)) (h2:Hs (n+1) C E σ m=some (b,σ,true)) (h3:io σ op a b=some true) (h4:Hs n C E σ r=some (d,σ,true)) (h5:io σ op' b d=some c):atest (n+3) C E σ e=some (c,σ,true):=by
 subst he
 show (if (bD m || (bD r || false))=true then _ else _)=_
 rw [Bool.or_false,hs,if_neg (by decide)]
 exact (ae (x:=Hs (n+2) C E σ l) h1).trans ((ae (x:=Hs (n+1) C E σ m) h2).trans ((aR h3).trans ((ae (x:=Hs n C E σ r) h4).trans (aR h5))))
theorem iU {op:BoolOp} {es:List Expr} {pos:Pos} (he:e = .BoolOp op es pos):atest (n+1) C E σ e=aall n C E σ op es:=by subst he;rfl
theorem Fl {x:Expr} {pos:Pos} {c:Bool} (he:e = .UnaryOp .Not x pos) (h:atest n C E σ x=some (c,σ,true)):atest (n+1) C E σ e=some (!c,σ,true):=by subst he;exact ae (x:=atest n C E σ x) (f:=fun b σ₁=>some (!b,σ₁,true)) h
theorem yu {es:List Expr} (h:atest n C E σ e=some (false,σ,true)):aall (n+1) C E σ .Or (e::es)=aall n C E σ .Or es:=ae (x:=atest n C E σ e) h
theorem Gl {es:List Expr} (h:atest n C E σ e=some (true,σ,true)):aall (n+1) C E σ .Or (e::es)=some (true,σ,true):=ae (x:=atest n C E σ e) h
theorem AD {es:List Expr} (h:atest n C E σ e=some (true,σ,true)):aall (n+1) C E σ .And (e::es)=aall n C E σ .And es:=ae (x:=atest n C E σ e) h
theorem Fm {es:List Expr} (h:atest n C E σ e=some (false,σ,true)):aall (n+1) C E σ .And (e::es)=some (false,σ,true):=ae (x:=atest n C E σ e) h
theorem AE {ts args:List Expr} {k:Nat} {tp cp pos:Pos} {f:Expr} (he:st = .Assign [.Tuple ts k tp] (.Call f args [] cp) pos) (h1:Hs n C E σ (.Call f args [] cp)=some (v,σ₁,p)) (h2:aA E (.Tuple ts k tp) v=some E₁):ak (n+1) C E σ st=some ((.next,E₁),σ₁,p):=by
 subst he
 exact (aT (x:=Hs n C E σ (.Call f args [] cp)) (q:=true) h1 (by rw [h2];rfl)).trans (by rw [Bool.and_true])
theorem n7 {es:List Expr} {pos:Pos} {l:List AV} (he:e = .List es pos) (hn:es.any aH=false) (h:aevs n C E σ es=some (l,σ,true)) (hm:mk C pos l σ=some (v,σ,true)):Hs (n+1) C E σ e=some (v,σ,true):=by
 subst he
 show (if (es.any aH)=true then _ else _)=_
 rw [hn,if_neg (by decide)]
 exact (ae (x:=aevs n C E σ es) h).trans hm
theorem AF {o i e':Expr} {pos sp:Pos} {ov kv:AV} (he:st = .Assign [.Subscript o i sp] e' pos) (h1:Hs n C E σ e'=some (v,σ,true)) (h2:Hs n C E σ o=some (ov,σ,true)) (h3:Hs n C E σ i=some (kv,σ,true)) (h4:Co σ ov kv v=some σ₁):ak (n+1) C E σ st=some ((.next,E),σ₁,false):=by
 subst he
 exact (ae (x:=Hs n C E σ e') h1).trans ((ae (x:=Hs n C E σ o) h2).trans ((ae (x:=Hs n C E σ i) h3).trans (aR h4)))
theorem Fo {ts:List Expr} {k:Nat} {tp cp pos:Pos} {e':Expr} {gens:List Comprehension} {scope:Scope} (he:st = .Assign [.Tuple ts k tp] (.ListComp e' gens scope cp) pos) (h1:Hs n C E σ (.ListComp e' gens scope cp)=some (v,σ₁,p)) (h2:aA E (.Tuple ts k tp) v=some E₁):ak (n+1) C E σ st=some ((.next,E₁),σ₁,p):=by
 subst he
 exact (aT (x:=Hs n C E σ (.ListComp e' gens scope cp)) (q:=true) h1 (by rw [h2];rfl)).trans (by rw [Bool.and_true])
theorem dS {step:AV→St→Option (Option AV×St×Bool)} {x:AV} {xs l:List AV} {y:Option AV} (h:step x σ=some (y,σ,true)) (h2:eG step xs σ=some (l,σ,true)):eG step (x::xs) σ=some (y.elim l (· :: l),σ,true):=by
 refine (ae h).trans ((ae h2).trans ?_)
 cases y<;>rfl
theorem ah {step:AV→St→Option (Option AV×St×Bool)} {x:AV} {xs l:List AV} (h:step x σ=some (some v,σ,true)) (h2:eG step xs σ=some (l,σ,true)):eG step (x::xs) σ=some (v::l,σ,true):=dS h h2
theorem Dm {es:List Expr} {k:Nat} {pos:Pos} {l:List AV} (he:e = .Tuple es k pos) (hn:es.any aH=false) (h:aevs n C E σ es=some (l,σ,true)) (hz:l.length≤Hk):Hs (n+1) C E σ e=some (.tup l,σ,true):=by
 subst he
 show (if (es.any aH)=true then _ else _)=_
 rw [hn,if_neg (by decide)]
 refine (ae (x:=aevs n C E σ es) h).trans ?_
 rw [if_pos hz]
theorem aP {f:Str} {fp pos:Pos} {args:List Expr} {as:List AV} {w:Value} {Φ:Fn} (he:e = .Call (.Name f fp) args [] pos) (hn:(args.any aH || decide (args.length > 20))=false) (hc:gy C E f=some (w,Φ)) (h:aevs n C E σ args=some (as,σ₁,true)):Hs (n+1) C E σ e=Φ as σ₁:=by
 subst he
 show (if (args.any aH || decide (args.length > 20))=true then _ else _)=_
 rw [hn,if_neg (by decide)]
 exact (aR hc).trans (ae (x:=aevs n C E σ args) h)
theorem bz {o:Expr} {m:Str} {ap pos:Pos} {args:List Expr} {as first:List AV} {ov:AV} {Φ:Fn} (he:e = .Call (.Attribute o m ap) args [] pos) (hn:(args.any aH || bo o || ap.endLine != pos.line || decide (args.length > 20))=false) (ho:Hs n C E σ o=some (ov,σ₁,true)) (hc:fM C σ₁ ov m=some (Φ,first)) (h:aevs n C E σ₁ args=some (as,σ₂,true)):Hs (n+1) C E σ e=Φ (first++as) σ₂:=by
 subst he
 show (if (args.any aH || bo o || ap.endLine != pos.line || decide (args.length > 20))=true then _ else _)=_
 rw [hn,if_neg (by decide)]
 exact (ae (x:=Hs n C E σ o) ho).trans ((aR hc).trans (ae (x:=aevs n C E σ₁ args) h))
theorem am {es:List Expr} {vs:List AV} (h:Hs n C E σ e=some (v,σ,true)) (h2:aevs n C E σ es=some (vs,σ,true)):aevs (n+1) C E σ (e::es)=some (v::vs,σ,true):=(ae (x:=Hs n C E σ e) h).trans (ae (x:=aevs n C E σ es) h2)
theorem dK {b:Expr} {lo hi s:Option Expr} {sp pos:Pos} {o l h k:AV} (he:e = .Subscript b (.Slice lo hi s sp) pos) (hv:Hs n C E σ b=some (o,σ,true)) (hl:apart n C E σ lo=some (l,σ,true)) (hh:apart n C E σ hi=some (h,σ,true)) (hk:apart n C E σ s=some (k,σ,true)):Hs (n+1) C E σ e=fN C pos σ o l h k:=by
 subst he
 exact (ae (x:=Hs n C E σ b) hv).trans ((ae (x:=apart n C E σ lo) hl).trans ((ae (x:=apart n C E σ hi) hh).trans (ae (x:=apart n C E σ s) hk)))
theorem AG {ts vs:List Expr} {k k':Nat} {tp vp pos:Pos} {b:Bool} {l:List AV} (he:st = .Assign [.Tuple ts k tp] (.Tuple vs k' vp) pos) (hn:vs.any aH=false) (hs:qX E ts vs=some b) (h:aevs n C E σ vs=some (l,σ,true)) (hz:l.length≤Hk)
  (hb:(if b=true then aC E (bB E ((ts.head?.map (·.pos.line)).getD 0) ts).reverse l.reverse else cL E ts l)=some E₁) (hl:l.length=ts.length):ak (n+2) C E σ st=some ((.next,E₁),σ,true):=by
 subst he
 have t:Hs (n+1) C E σ (.Tuple vs k' vp)=some (.tup l,σ,true):=by
  show (if (vs.any aH)=true then _ else _)=_
  rw [hn,if_neg (by decide)]
  refine (ae (x:=aevs n C E σ vs) h).trans ?_
  rw [if_pos hz]
 refine (aR hs).trans ((ae (x:=Hs (n+1) C E σ (.Tuple vs k' vp)) t).trans ((aR (x:=pZ (.tup l)) rfl).trans ((aR hb).trans ?_)))
 rw [if_pos hl]
end
end Internal
namespace Internal
noncomputable def EV (P:Params) (f:Addr) (vs:List (Str×AV)):AEnv:={ names:=(aB P f).scope.names,own:=cb (aB P f).scope,vars:=vs }
noncomputable def bI (P:Params) (f:Addr) (i:Nat):Stmt:=(aq P f).getD i AA
theorem cz {P:Params} {C:Cfg} {f:Addr} {xs:List Str} {avs:List AV} {σ:St} {vs:List (Str×AV)} {r:Option (AV×St×Bool)} (hb:aC (cU (aB P f)) xs avs=some (EV P f vs))
  (h:res 100 C (EV P f vs) σ (aq P f)=r):fn P C f xs avs σ=r:=
 (aR (f:=fun E=>vI (aexecs 100 C E σ (aq P f))) hb).trans h
noncomputable def c1:UInt64:=0x3ff0000000000000
noncomputable def c2:UInt64:=0x4000000000000000
noncomputable def c4:UInt64:=0x4010000000000000
noncomputable def c6:UInt64:=0x4018000000000000
noncomputable def bP (x y:UInt64):Bool:=uw (Float64.cmp x y)
noncomputable def It (mx d x:UInt64):UInt64:=Float64.div (Float64.sub mx x) d
noncomputable def yv (r g b mx d:UInt64):UInt64:=match bP r mx with
 |true=>Float64.sub (It mx d b) (It mx d g)
 |false=>match bP g mx with
  |true=>Float64.sub (Float64.add c2 (It mx d r)) (It mx d b)
  |false=>Float64.sub (Float64.add c4 (It mx d g)) (It mx d r)
noncomputable def AH (x:UInt64):UInt64:=(Float64.divmod (Float64.div x c6) c1).snd
noncomputable abbrev Iu (r g b:UInt64):UInt64:=mf Hz r g b
noncomputable abbrev Iv (r g b:UInt64):UInt64:=mf BU r g b
section
variable {P:Params} {σ:St} {r g b:UInt64}
noncomputable abbrev Iw (r g b:UInt64):List (Str×AV):=[("r", .flt r),("g", .flt g),("b", .flt b),("maxc", .flt (Iu r g b)),("minc", .flt (Iv r g b)),("rangec", .flt (Float64.sub (Iu r g b) (Iv r g b))),("v", .flt (Iu r g b))]
theorem yw {l:List Stmt} (hl:aq P 28=bI P 28 0::bI P 28 1::bI P 28 2::bI P 28 3::l):res 100 c0 (EV P 28 [("r", .flt r),("g", .flt g),("b", .flt b)]) σ (aq P 28)=res 96 c0 (EV P 28 (Iw r g b)) σ l:=by
 rw [hl]
 exact (Ir (n:=99) (EV P 28 ((Iw r g b).take 4)) (by kernel_rfl)).trans ((Ir (n:=98) (EV P 28 ((Iw r g b).take 5)) (by kernel_rfl)).trans ((Ir (n:=97) (EV P 28 ((Iw r g b).take 6)) (by kernel_rfl)).trans (Ir (n:=96) (EV P 28 (Iw r g b)) (by kernel_rfl))))
theorem yx (P:Params):aq P 28=[bI P 28 0,bI P 28 1,bI P 28 2,bI P 28 3,bI P 28 4,bI P 28 5,bI P 28 6,bI P 28 7,bI P 28 8,bI P 28 9,bI P 28 10,bI P 28 11]:=by kernel_rfl
theorem w6 (h:bP (Iv r g b) (Iu r g b)=true):f28 P [.flt r,.flt g,.flt b] σ=some (.tup [.flt 0,.flt 0,.flt (Iu r g b)],σ,true):=by
 refine cz (vs:=[("r", .flt r),("g", .flt g),("b", .flt b)]) (by kernel_rfl) ((yw (yx P)).trans (jH (n:=95) (EV P 28 (Iw r g b)) ((dG (n:=94) (bP (Iv r g b) (Iu r g b)) (c:=true) (show jE (bI P 28 4) by kernel_rfl) (by kernel_rfl) h).trans (show aexecs 94 c0 (EV P 28 (Iw r g b)) σ (aM (bI P 28 4))=_ by kernel_rfl))))
theorem Dn {x y:UInt64} (h:Float64.isZero y=false):h9 .Div (.flt x) (.flt y)=some (.flt (Float64.div x y)):=by
 show Ho none (Ho (if Float64.isZero y=false then some (AV.flt (Float64.div x y)) else none) _)=_
 rw [if_pos h]
 rfl
theorem tw {n:Nat} {C:Cfg} {E E₁:AEnv} {σ:St} {st:Stmt} {x:Str} {a c:UInt64} (he:bN st x) (hb:bw (af st) .Div) (hd:Dl (af st)=true) (h1:Hs n C E σ (eL (af st))=some (.flt a,σ,true)) (h2:Hs n C E σ (eR (af st))=some (.flt c,σ,true)) (hz:Float64.isZero c=false) (h3:cj E x (.flt (Float64.div a c))=some E₁):ak (n+2) C E σ st=some ((.next,E₁),σ,true):=
 bO (n:=n+1) he hd (bA hb h1 h2 (Dn hz)) h3
noncomputable abbrev Ix (r g b d:UInt64):List (Str×AV):=Iw r g b++([("s", .flt (Float64.div d (Iu r g b))),("rc", .flt (It (Iu r g b) d r)),("gc", .flt (It (Iu r g b) d g)),("bc", .flt (It (Iu r g b) d b))]:List (Str×AV))
theorem Fp:ak 90 c0 (EV P 28 (Ix r g b (Float64.sub (Iu r g b) (Iv r g b)))) σ (bI P 28 9)=some ((.next,EV P 28 (Ix r g b (Float64.sub (Iu r g b) (Iv r g b))++([("h", .flt (yv r g b (Iu r g b) (Float64.sub (Iu r g b) (Iv r g b))))]:List (Str×AV)))),σ,true):=by
 refine (dG (n:=89) (bP r (Iu r g b)) (show jE (bI P 28 9) by kernel_rfl) (by kernel_rfl) rfl).trans ?_
 unfold yv
 cases bP r (Iu r g b) with
 |true=>show aexecs 89 c0 _ σ (aM (bI P 28 9))=_;kernel_rfl
 |false=>
  refine (congrArg (aexecs 89 c0 _ σ) (show cR (bI P 28 9)=[Il (cR (bI P 28 9))] by kernel_rfl)).trans (yt (n:=88) ((dG (n:=87) (bP g (Iu r g b)) (show jE (Il (cR (bI P 28 9))) by kernel_rfl) (by kernel_rfl) rfl).trans ?_))
  cases bP g (Iu r g b) with
  |true=>show aexecs 87 c0 _ σ (aM (Il (cR (bI P 28 9))))=_;kernel_rfl
  |false=>show aexecs 87 c0 _ σ (cR (Il (cR (bI P 28 9))))=_;kernel_rfl
theorem AI (h:bP (Iv r g b) (Iu r g b)=false) (h1:Float64.isZero (Iu r g b)=false) (h2:Float64.isZero (Float64.sub (Iu r g b) (Iv r g b))=false) :
  f28 P [.flt r,.flt g,.flt b] σ=some (.tup [.flt (AH (yv r g b (Iu r g b) (Float64.sub (Iu r g b) (Iv r g b)))),.flt (Float64.div (Float64.sub (Iu r g b) (Iv r g b)) (Iu r g b)),.flt (Iu r g b)],σ,true):=by
 refine cz (vs:=[("r", .flt r),("g", .flt g),("b", .flt b)]) (by kernel_rfl) ((yw (yx P)).trans ?_)
 refine (Ir (n:=95) (EV P 28 (Iw r g b)) ((dG (n:=94) (bP (Iv r g b) (Iu r g b)) (c:=false) (show jE (bI P 28 4) by kernel_rfl) (by kernel_rfl) h).trans (show aexecs 94 c0 (EV P 28 (Iw r g b)) σ (cR (bI P 28 4))=_ by kernel_rfl))).trans ?_
 have d:=fun {n:Nat} {E E₁:AEnv} {st:Stmt} {x:Str} {a:UInt64} he hb hd h1 h3 h4=>tw (n:=n) (C:=c0) (E:=E) (E₁:=E₁) (σ:=σ) (st:=st) (x:=x) (a:=a) he hb hd h1 h3 h2 h4
 refine (Ir (n:=94) (EV P 28 ((Ix r g b (Float64.sub (Iu r g b) (Iv r g b))).take 8)) (tw (n:=92) (x := "s") (a:=Float64.sub (Iu r g b) (Iv r g b)) (by kernel_rfl) (by kernel_rfl) (by kernel_rfl) (by kernel_rfl) (by kernel_rfl) h1 (by kernel_rfl))).trans ?_
 refine (Ir (n:=93) (EV P 28 ((Ix r g b (Float64.sub (Iu r g b) (Iv r g b))).take 9)) (d (n:=91) (x := "rc") (a:=Float64.sub (Iu r g b) r) (by kernel_rfl) (by kernel_rfl) (by kernel_rfl) (by kernel_rfl) (by kernel_rfl) (by kernel_rfl))).trans ?_
 refine (Ir (n:=92) (EV P 28 ((Ix r g b (Float64.sub (Iu r g b) (Iv r g b))).take 10)) (d (n:=90) (x := "gc") (a:=Float64.sub (Iu r g b) g) (by kernel_rfl) (by kernel_rfl) (by kernel_rfl) (by kernel_rfl) (by kernel_rfl) (by kernel_rfl))).trans ?_
 refine (Ir (n:=91) (EV P 28 (Ix r g b (Float64.sub (Iu r g b) (Iv r g b)))) (d (n:=89) (x := "bc") (a:=Float64.sub (Iu r g b) b) (by kernel_rfl) (by kernel_rfl) (by kernel_rfl) (by kernel_rfl) (by kernel_rfl) (by kernel_rfl))).trans ?_
 exact (Ir (n:=90) _ Fp).trans (by kernel_rfl)
end
end Internal
namespace Internal
noncomputable def hF (h:UInt64) (k:Int):UInt64:=Float64.sub (Float64.mul h c6) (Float64.ofInt k)
noncomputable def wP (s:UInt64):UInt64:=Float64.sub c1 s
noncomputable def wQ (s f:UInt64):UInt64:=Float64.sub c1 (Float64.mul s f)
noncomputable def wT (s f:UInt64):UInt64:=Float64.sub c1 (Float64.mul s (Float64.sub c1 f))
noncomputable def B0 {α:Type} (j:Nat) (v p q t:α):List α:=match j with
 |0=>[v,t,p]
 |1=>[q,v,p]
 |2=>[p,v,t]
 |3=>[p,q,v]
 |4=>[t,p,v]
 |_=>[v,p,q]
section
variable {P:Params} {σ:St} {h s v:UInt64} {k:Int} {j:Nat}
theorem yy (P:Params):aq P 35=[bI P 35 0,bI P 35 1,bI P 35 2,bI P 35 3,bI P 35 4,bI P 35 5,bI P 35 6,bI P 35 7,bI P 35 8,bI P 35 9,bI P 35 10,bI P 35 11,bI P 35 12]:=by kernel_rfl
noncomputable abbrev Iy (h s v:UInt64):List (Str×AV):=[("h", .flt h),("s", .flt s),("v", .flt v)]
theorem w7 (e:bP s 0=true):f35 P [.flt h,.flt s,.flt v] σ=some (.tup [.flt v,.flt v,.flt v],σ,true):=
 cz (vs:=Iy h s v) (by kernel_rfl) ((congrArg (res 100 c0 _ σ) (yy P)).trans (jH (n:=99) (EV P 35 (Iy h s v)) ((dG (n:=98) (bP s 0) (c:=true) (show jE (bI P 35 0) by kernel_rfl) (by kernel_rfl) e).trans (show aexecs 98 c0 (EV P 35 (Iy h s v)) σ (aM (bI P 35 0))=_ by kernel_rfl))))
theorem AJ {x:UInt64} (e:iF x=some k):Es [.flt x] σ=some (.int k,σ,true):=by
 show Ho none (Ho ((iF x).map fun k=>(AV.int k,σ,true)) _)=_
 rw [e]
 rfl
theorem Do {x:UInt64} (e:jX k=true):h9 .Sub (.flt x) (.int k)=some (.flt (Float64.sub x (Float64.ofInt k))):=by
 show Ho none (Ho none (if jX k then some (AV.flt (Float64.sub x (Float64.ofInt k))) else none))=_
 rw [if_pos e]
 rfl
noncomputable abbrev Iz (h s v:UInt64) (k i:Int):List (Str×AV):=[("h", .flt h),("s", .flt s),("v", .flt v),("i", .int i),("f", .flt (hF h k)),("p", .flt (Float64.mul v (wP s))),("q", .flt (Float64.mul v (wQ s (hF h k)))),("t", .flt (Float64.mul v (wT s (hF h k))))]
theorem Dp (hj:j < 6):res 93 c0 (EV P 35 (Iz h s v k (j:Nat))) σ [bI P 35 7,bI P 35 8,bI P 35 9,bI P 35 10,bI P 35 11,bI P 35 12]=some (.tup (B0 j (.flt v) (.flt (Float64.mul v (wP s))) (.flt (Float64.mul v (wQ s (hF h k)))) (.flt (Float64.mul v (wT s (hF h k))))),σ,true):=
 match j,hj with
 |0,_=>by kernel_rfl
 |1,_=>by kernel_rfl
 |2,_=>by kernel_rfl
 |3,_=>by kernel_rfl
 |4,_=>by kernel_rfl
 |5,_=>by kernel_rfl
 |j+6,h=>absurd h (by omega)
theorem AK (e:bP s 0=false) (ek:iF (Float64.mul h c6)=some k) (ef:jX k=true) (ej:k.fmod 6=(j:Nat)) (hj:j < 6) :
  f35 P [.flt h,.flt s,.flt v] σ=some (.tup (B0 j (.flt v) (.flt (Float64.mul v (wP s))) (.flt (Float64.mul v (wQ s (hF h k)))) (.flt (Float64.mul v (wT s (hF h k))))),σ,true):=by
 refine cz (vs:=Iy h s v) (by kernel_rfl) ((congrArg (res 100 c0 _ σ) (yy P)).trans ?_)
 refine (Ir (n:=99) (EV P 35 (Iy h s v)) ((dG (n:=98) (bP s 0) (c:=false) (show jE (bI P 35 0) by kernel_rfl) (by kernel_rfl) e).trans (show aexecs 98 c0 (EV P 35 (Iy h s v)) σ (cR (bI P 35 0))=_ by kernel_rfl))).trans ?_
 refine (Ir (n:=98) (EV P 35 ((Iz h s v k k).take 4)) (bO (n:=97) (x := "i") (show bN (bI P 35 1) "i" by kernel_rfl) (by kernel_rfl) ((aP (n:=96) (as:=[.flt (Float64.mul h c6)]) (w:=.type "int") (Φ:=Es) (σ₁:=σ) (show aO (af (bI P 35 1)) "int" by kernel_rfl) (by kernel_rfl) (by kernel_rfl) (by kernel_rfl)).trans (AJ ek)) (by kernel_rfl))).trans ?_
 refine (Ir (n:=97) (EV P 35 ((Iz h s v k k).take 5)) (bO (n:=96) (x := "f") (show bN (bI P 35 2) "f" by kernel_rfl) (by kernel_rfl) (bA (n:=95) (show bw (af (bI P 35 2)) .Sub by kernel_rfl) (a:=.flt (Float64.mul h c6)) (b:=.int k) (by kernel_rfl) (by kernel_rfl) (Do ef)) (by kernel_rfl))).trans ?_
 refine (Ir (n:=96) (EV P 35 ((Iz h s v k k).take 6)) (by kernel_rfl)).trans ((Ir (n:=95) (EV P 35 ((Iz h s v k k).take 7)) (by kernel_rfl)).trans ((Ir (n:=94) (EV P 35 (Iz h s v k k)) (by kernel_rfl)).trans ((Ir (n:=93) (EV P 35 (Iz h s v k (k.fmod 6))) (by kernel_rfl)).trans ?_)))
 rw [ej]
 exact Dp hj
end
end Internal
namespace Internal
theorem AL (j:Nat):(2 * j+1) &&& (2 * j)=2 * j:=by
 have h1:((2 * j+1) &&& (2 * j)) / 2=j:=by rw [Nat.and_div_two,Nat.mul_add_div Nat.two_pos,Nat.mul_div_cancel_left _ Nat.two_pos];exact Nat.and_self j
 have h2:((2 * j+1) &&& (2 * j)) % 2=0:=by
  have:=Nat.and_mod_two_pow (a:=2 * j+1) (b:=2 * j) (n:=1)
  rw [Nat.pow_one,Nat.mul_mod_right,Nat.and_zero] at this
  exact this
 have:=Nat.div_add_mod ((2 * j+1) &&& (2 * j)) 2
 rw [h1,h2] at this
 exact this.symm
theorem AM {a v j:Nat} (h:a=2 ^ v * (2 * j+1)):a - (a &&& (a - 1))=2 ^ v:=by
 have hx:=Nat.two_pow_pos v
 have e:a - 1=2 ^ v * (2 * j)+(2 ^ v - 1):=by rw [h,Nat.mul_add,Nat.mul_one,Nat.add_sub_assoc hx]
 have h1:(a &&& (a - 1)) / 2 ^ v=2 * j:=by
  rw [Nat.and_div_two_pow,e,h,Nat.mul_div_cancel_left _ hx,Nat.mul_add_div hx,Nat.div_eq_of_lt (Nat.sub_lt hx Nat.one_pos)]
  exact AL j
 have h2:(a &&& (a - 1)) % 2 ^ v=0:=by rw [Nat.and_mod_two_pow,h,Nat.mul_mod_right,Nat.zero_and]
 have k:=Nat.div_add_mod (a &&& (a - 1)) (2 ^ v)
 rw [h1,h2,Nat.add_zero] at k
 rw [←k,h,Nat.mul_add,Nat.mul_one,Nat.add_sub_cancel_left]
noncomputable def Vl (n:Int) (v:Nat):Prop:=(n=0∧v=99)∨(v < 60∧∃ j:Nat,n.natAbs=2 ^ v * (2 * j+1))
theorem yz:∀ (f a:Nat),a < f→a≠0→∃ v j,a=2 ^ v * (2 * j+1)
 |0,_,h,_=>absurd h (Nat.not_lt_zero _)
 |f+1,a,hf,h=>by
  have k:=Nat.div_add_mod a 2
  rcases Nat.mod_two_eq_zero_or_one a with e | e
  ·rw [e,Nat.add_zero] at k
   have h2:a / 2≠0:=fun z=>by rw [z] at k;exact h k.symm
   obtain ⟨v,j,hv⟩:=yz f (a / 2) (Nat.lt_of_lt_of_le (Nat.div_lt_self (Nat.pos_of_ne_zero h) (by decide)) (Nat.le_of_lt_succ hf)) h2
   exact ⟨v+1,j,by rw [Nat.pow_succ,Nat.mul_comm (2 ^ v) 2,Nat.mul_assoc,←hv,k]⟩
  ·exact ⟨0,a / 2,by rw [Nat.pow_zero,Nat.one_mul,←e,k]⟩
theorem w8 {n:Int} {B:Nat} (hB:B≤60) (hb:n.natAbs < 2 ^ B):∃ v,Vl n v∧(v < B∨v=99):=by
 by_cases h:n=0
 ·exact ⟨99,.inl ⟨h,rfl⟩,.inr rfl⟩
 ·obtain ⟨v,j,e⟩:=yz _ n.natAbs (Nat.lt_succ_self _) (Int.natAbs_ne_zero.mpr h)
  have:2 ^ v≤n.natAbs:=by rw [e];exact Nat.le_mul_of_pos_right _ (Nat.succ_pos _)
  have hv:=(Nat.pow_lt_pow_iff_right (a:=2) (by decide)).mp (Nat.lt_of_le_of_lt this hb)
  exact ⟨v,.inr ⟨Nat.lt_of_lt_of_le hv hB,j,e⟩,.inl hv⟩
theorem tx {v j:Nat} : 0 < 2 ^ v * (2 * j+1):=Nat.mul_pos (Nat.two_pow_pos v) (Nat.succ_pos _)
theorem tz {a:Nat} : (Builtin.bitNot (-(a:Int))).toNat=a - 1:=by
 unfold Builtin.bitNot
 rw [Int.neg_neg]
 exact Int.toNat_sub a 1
theorem AN {n:Int} {v j:Nat} (h:n.natAbs=2 ^ v * (2 * j+1)):Builtin.bitAnd n (-n)=((2 ^ v:Nat):Int):=by
 have k:=AM h
 have hle:=Nat.and_le_left (n:=n.natAbs) (m:=n.natAbs - 1)
 have hp:¬ (0:Int) ≤ -(n.natAbs:Int):=Int.not_le.mpr (Int.neg_neg_of_pos (Int.natCast_pos.mpr (h▸tx)))
 have hn:=Int.natCast_nonneg n.natAbs
 have key:(n.natAbs:Int) - ((n.natAbs &&& (n.natAbs - 1):Nat):Int)=((2 ^ v:Nat):Int):=by rw [←k,Int.natCast_sub hle]
 unfold Builtin.bitAnd
 rcases Int.natAbs_eq n with e | e
 ·generalize n.natAbs=a at *
  subst e
  rw [decide_eq_true hn,decide_eq_false hp]
  show (a:Int) - (((a:Int).toNat &&& (Builtin.bitNot (-(a:Int))).toNat:Nat):Int)=_
  rw [tz]
  exact key
 ·generalize n.natAbs=a at *
  subst e
  rw [Int.neg_neg,decide_eq_true hn,decide_eq_false hp]
  show (a:Int) - (((a:Int).toNat &&& (Builtin.bitNot (-(a:Int))).toNat:Nat):Int)=_
  rw [tz]
  exact key
noncomputable def sb (e:Nat):UInt64:=Float64.ofFrac false 1 (2 ^ e)
noncomputable def IB (e:Nat):UInt64:=match e==99 with | true=>0 | false=>sb e
theorem AO {x:Option AV} {b:UInt64} (h:x.bind md=some b):x=some (.flt b):=ad h fun a ha hb=>ha.trans (congrArg some (bL hb))
theorem Dq {v:Nat} (hv:v < 60):En 1 ((2 ^ v:Nat):Int)=some (.flt (sb v)):=by
 refine AO ?_
 have h:(List.range 60).all (fun v=>(En 1 ((2 ^ v:Nat):Int)).bind md==some (sb v))=true:=by kernel_rfl
 exact eq_of_beq (List.all_eq_true.mp h v (List.mem_range.mpr hv))
section
variable {P:Params} {σ:St} {n:Int} {v:Nat}
theorem AP (P:Params):aq P 180=[bI P 180 0]:=by kernel_rfl
theorem n8 (h:Vl n v):BX P [.int n] σ=some (.flt (IB v),σ,true):=by
 rcases h with ⟨rfl,rfl⟩ | ⟨hv,j,e⟩
 ·kernel_rfl
 ·have hn:(!(n==0))=true:=by
   rw [beq_false_of_ne (fun z=>by rw [z] at e;exact absurd e.symm (Nat.ne_of_gt tx))]
   rfl
  have hs:IB v=sb v:=by
   unfold IB
   rw [beq_false_of_ne (Nat.ne_of_lt (Nat.lt_trans hv (by decide)))]
  refine cz (vs:=[("number", .int n)]) (by kernel_rfl) ((congrArg (res 100 c0 _ σ) (AP P)).trans (jH (n:=99) (EV P 180 [("number", .int n)]) (fj (n:=98) (show jF (bI P 180 0) by kernel_rfl) ?_)))
  refine (pN (n:=97) (c:=!(n==0)) (show pM (af (bI P 180 0)) by kernel_rfl) (by kernel_rfl)).trans ?_
  rw [hn,hs]
  exact bA (n:=96) (show bw (eL (af (bI P 180 0))) .Div by kernel_rfl) (a:=.int 1) (b:=.int (Builtin.bitAnd n (-n))) (by kernel_rfl) (by kernel_rfl) (by rw [AN e];show Ho (En 1 ((2 ^ v:Nat):Int)) _=_;rw [Dq hv];rfl)
end
end Internal
namespace Internal
theorem tA {ι:Type} {step:AV→St→Option (Option AV×St×Bool)} {κ:ι→Bool} {a g:ι→AV} {σ:St} : ∀ (ys:List ι),(∀ y∈ys,step (a y) σ=some (if κ y=true then some (g y) else none,σ,true))→eG step (ys.map a) σ=some ((ys.filter κ).map g,σ,true)
 | [],_=>rfl
 |y::ys,h=>by
  refine (ae (h y List.mem_cons_self)).trans ((ae (tA ys fun z hz=>h z (List.mem_cons_of_mem _ hz))).trans ?_)
  cases hk:κ y with
  |true=>rw [List.filter_cons_of_pos hk];rfl
  |false=>rw [List.filter_cons_of_neg (by rw [hk];decide)];rfl
noncomputable def tB (x p:UInt64):UInt64:=Float64.mul (Float64.sub x p) (Float64.ofInt 1073741824)
noncomputable def Dr (h:UInt64):Nat:=(([5,13,19]:List Int).filter fun b=>ur (Float64.cmpInt (Float64.mul (Float64.ofInt 24) h) b)).length
structure Near (x p:UInt64):Prop where
 lo:ur (Float64.cmpInt (tB x p) (-1))=true
 hi:xS (Float64.cmpInt (tB x p) 1)=true
structure Sight (p0 p1 p2 h s v:UInt64) (t:Int) (x0 x1 x2:UInt64):Prop where
 f28:∀ (P:Params) (σ:St),f28 P [.flt p0,.flt p1,.flt p2] σ=some (.tup [.flt h,.flt s,.flt v],σ,true)
 f35:∀ (P:Params) (σ:St),f35 P [.flt (Float64.add h (Float64.ofInt t)),.flt s,.flt v] σ=some (.tup [.flt x0,.flt x1,.flt x2],σ,true)
 n0:Near x0 p0
 n1:Near x1 p1
 n2:Near x2 p2
 h0:(ur (Float64.cmpInt h 0) || uw (Float64.cmpInt h 0))=true
 h1:xS (Float64.cmpInt h 1)=true
 gr:bP (Iv p0 p1 p2) (Iu p0 p1 p2)=false∨(h=0∧s=0)
section
variable {P:Params} {σ:St} {x y z t:Int} {i j k:Nat} {p0 p1 p2 h s v x0 x1 x2:UInt64}
noncomputable abbrev IC (x y z:Int):AV:=.lst [.int x,.int y,.int z]
noncomputable abbrev jW (x y z:Int) (p0 p1 p2 h s v x0 x1 x2:UInt64):List (Str×AV):=[("corner", IC x y z),("parts", .lst [.flt p0,.flt p1,.flt p2]),("hue", .flt h),("share", .flt s),("value", .flt v),("back", .tup [.flt x0,.flt x1,.flt x2]),("told", .lst [.flt x0,.flt x1,.flt x2])]
theorem AQ (P:Params):aq P 185=[bI P 185 0,bI P 185 1,bI P 185 2,bI P 185 3,bI P 185 4,bI P 185 5]:=by kernel_rfl
theorem gZ {n:Int} {v:Nat} (h:Vl n v):dI 96 (cs P) (EV P 185 [("corner", IC x y z)]) (eL (af (bI P 185 0))) (dF (af (bI P 185 0))).target [] (aw (af (bI P 185 0))) (.int n) σ=some (some (.flt (IB v)),σ,true):=
 bf (n:=95) (E₁:={ ag (EV P 185 [("corner", IC x y z)]) (aw (af (bI P 185 0))) with vars:=[("number", .int n)] }) (by kernel_rfl) ((aP (n:=95) (as:=[.int n]) (w:=.ref 180) (Φ:=BX P) (show aO (eL (af (bI P 185 0))) "_law_size" by kernel_rfl) (by kernel_rfl) (by kernel_rfl) (by kernel_rfl)).trans (n8 h))
theorem AR (hx:Vl x i) (hy:Vl y j) (hz:Vl z k):ak 99 (cs P) (EV P 185 [("corner", IC x y z)]) σ (bI P 185 0)=some ((.next,EV P 185 ((jW x y z (IB i) (IB j) (IB k) 0 0 0 0 0 0).take 2)),σ,true):=
 bO (n:=98) (show bN (bI P 185 0) "parts" by kernel_rfl) (by kernel_rfl) (bW (n:=96) (held:=false) (items:=[.int x,.int y,.int z]) (show bG (af (bI P 185 0)) by kernel_rfl) (by kernel_rfl) (by kernel_rfl) (show 3≤Hk by unfold Hk;decide)
  (ah (gZ hx) (ah (gZ hy) (ah (gZ hz) rfl)))) (by kernel_rfl)
theorem AS (S:Sight p0 p1 p2 h s v t x0 x1 x2):ak 98 (cs P) (EV P 185 ((jW x y z p0 p1 p2 h s v x0 x1 x2).take 2)) σ (bI P 185 1)=some ((.next,EV P 185 ((jW x y z p0 p1 p2 h s v x0 x1 x2).take 5)),σ,true):=
 AE (n:=97) (v:=.tup [.flt h,.flt s,.flt v]) (show AB (bI P 185 1) by kernel_rfl)
  ((aP (e:=.Call (eL (af (bI P 185 1))) (au (af (bI P 185 1))) [] (cA (af (bI P 185 1)))) (f := "rgb_to_hsv") (fp:=cA (eL (af (bI P 185 1)))) (args:=au (af (bI P 185 1))) (pos:=cA (af (bI P 185 1))) (n:=96) (as:=[.flt p0,.flt p1,.flt p2]) (w:=.ref 28) (Φ:=Internal.f28 P) (by kernel_rfl) (by kernel_rfl) (by kernel_rfl) (by kernel_rfl)).trans (S.f28 P σ)) (by kernel_rfl)
theorem AT (ht:([x,y,z]:List Int).sum.fmod 4=t) (hf:jX t=true) {n:Nat} : Hs (n+9) (cs P) (EV P 185 ((jW x y z p0 p1 p2 h s v x0 x1 x2).take 5)) σ (eR (af (bI P 185 2)))=some (.flt (Float64.add h (Float64.ofInt t)),σ,true):=
 bA (n:=n+8) (show bw (eR (af (bI P 185 2))) .Add by kernel_rfl) (a:=.flt h) (b:=.int t) (by kernel_rfl) (by rw [←ht];kernel_rfl) (by
  show Ho none (Ho none (Ho (if jX t then some (AV.flt (Float64.add h (Float64.ofInt t))) else none) _))=_
  rw [if_pos hf]
  rfl)
theorem AU (S:Sight p0 p1 p2 h s v t x0 x1 x2) (ht:([x,y,z]:List Int).sum.fmod 4=t) (hf:jX t=true):ak 97 (cs P) (EV P 185 ((jW x y z p0 p1 p2 h s v x0 x1 x2).take 5)) σ (bI P 185 2)=some ((.next,EV P 185 ((jW x y z p0 p1 p2 h s v x0 x1 x2).take 6)),σ,true):=
 bO (n:=96) (show bN (bI P 185 2) "back" by kernel_rfl) (by kernel_rfl) ((aP (n:=95) (as:=[.flt (Float64.add h (Float64.ofInt t)),.flt s,.flt v]) (w:=.ref 35) (Φ:=Internal.f35 P) (show aO (af (bI P 185 2)) "hsv_to_rgb" by kernel_rfl) (by kernel_rfl) (by kernel_rfl)
  ((congrArg (aevs 95 (cs P) _ σ) (show au (af (bI P 185 2))=eR (af (bI P 185 2))::(au (af (bI P 185 2))).tail by kernel_rfl)).trans (am (n:=94) (AT (n:=85) ht hf) (by kernel_rfl)))).trans (S.f35 P σ)) (by kernel_rfl)
theorem g6 {a b:UInt64} (N:Near a b):dI 93 (cs P) (EV P 185 ((jW x y z p0 p1 p2 h s v x0 x1 x2).take 6)) (eL (af (bI P 185 3))) (dF (af (bI P 185 3))).target [Ip (af (bI P 185 3))] (aw (af (bI P 185 3))) (.tup [.flt a,.flt b]) σ=some (some (.flt a),σ,true):=
 mI (n:=92) (c:=true) (E₁:={ ag (EV P 185 ((jW x y z p0 p1 p2 h s v x0 x1 x2).take 6)) (aw (af (bI P 185 3))) with vars:=[("x", .flt a),("part", .flt b)] }) (by kernel_rfl)
  (n6 (n:=89) (a:=.int (-1)) (b:=.flt (tB a b)) (d:=.int 1) (show Dj (Ip (af (bI P 185 3))) .Lt .Lt by kernel_rfl) (by kernel_rfl) (by kernel_rfl) (by kernel_rfl) (congrArg some N.lo) (by kernel_rfl) (congrArg some N.hi)) (by kernel_rfl)
theorem AW (S:Sight p0 p1 p2 h s v t x0 x1 x2):ak 96 (cs P) (EV P 185 ((jW x y z p0 p1 p2 h s v x0 x1 x2).take 6)) σ (bI P 185 3)=some ((.next,EV P 185 (jW x y z p0 p1 p2 h s v x0 x1 x2)),σ,true):=
 bO (n:=95) (show bN (bI P 185 3) "told" by kernel_rfl) (by kernel_rfl) (bW (n:=93) (held:=false) (items:=[.tup [.flt x0,.flt p0],.tup [.flt x1,.flt p1],.tup [.flt x2,.flt p2]]) (show mH (af (bI P 185 3)) by kernel_rfl) (by kernel_rfl) (by kernel_rfl) (show 3≤Hk by unfold Hk;decide)
  (ah (g6 S.n0) (ah (g6 S.n1) (ah (g6 S.n2) rfl)))) (by kernel_rfl)
theorem AX (S:Sight p0 p1 p2 h s v t x0 x1 x2):ak 95 (cs P) (EV P 185 (jW x y z p0 p1 p2 h s v x0 x1 x2)) σ (bI P 185 4)=some ((.next,EV P 185 (jW x y z p0 p1 p2 h s v x0 x1 x2)),σ,true):=by
 refine (dG (n:=94) false (c:=false) (show jE (bI P 185 4) by kernel_rfl) ?_ rfl).trans (show aexecs 94 (cs P) _ σ (cR (bI P 185 4))=_ by kernel_rfl)
 refine (iU (n:=93) (show iS (af (bI P 185 4)) .Or by kernel_rfl)).trans ((congrArg (aall 93 (cs P) _ σ .Or) (show au (af (bI P 185 4))=[eN (af (bI P 185 4)) 0,eN (af (bI P 185 4)) 1,eN (af (bI P 185 4)) 2] by kernel_rfl)).trans ((yu (n:=92) (by kernel_rfl)).trans ((yu (n:=91) ?_).trans ((yu (n:=90) ?_).trans rfl))))
 ·exact Fl (n:=90) (c:=true) (show eN (af (bI P 185 4)) 1 = .UnaryOp .Not (eL (eN (af (bI P 185 4)) 1)) (cA (eN (af (bI P 185 4)) 1)) by kernel_rfl) (n6 (n:=87) (a:=.int 0) (b:=.flt h) (d:=.int 1) (show Dj (eL (eN (af (bI P 185 4)) 1)) .LtE .Lt by kernel_rfl) (by kernel_rfl) (by kernel_rfl) (by kernel_rfl) (congrArg some S.h0) (by kernel_rfl) (congrArg some S.h1))
 ·refine (iU (n:=89) (show iS (eN (af (bI P 185 4)) 2) .And by kernel_rfl)).trans ((congrArg (aall 89 (cs P) _ σ .And) (show au (eN (af (bI P 185 4)) 2)=[eN (eN (af (bI P 185 4)) 2) 0,eN (eN (af (bI P 185 4)) 2) 1] by kernel_rfl)).trans ?_)
  have e3:atest 88 (cs P) (EV P 185 (jW x y z p0 p1 p2 h s v x0 x1 x2)) σ (eN (eN (af (bI P 185 4)) 2) 0)=some (bP (Iv p0 p1 p2) (Iu p0 p1 p2),σ,true):=by kernel_rfl
  cases g:bP (Iv p0 p1 p2) (Iu p0 p1 p2) with
  |false=>rw [g] at e3;exact Fm (n:=88) e3
  |true=>
   obtain ⟨g1,g2⟩:=S.gr.resolve_left (by rw [g];decide)
   subst g1 g2
   rw [g] at e3
   exact (AD (n:=88) e3).trans (by kernel_rfl)
noncomputable def EB (P:Params):Expr:=eN (eL (eN (af (bI P 185 5)) 0)) 0
theorem w9:Hs 88 (cs P) (EV P 185 (jW x y z p0 p1 p2 h s v x0 x1 x2)) σ (EB P)=some (.lst ((([5,13,19]:List Int).filter fun b=>ur (Float64.cmpInt (Float64.mul (Float64.ofInt 24) h) b)).map .int),σ,true):=
 bW (n:=86) (held:=false) (items:=([5,13,19]:List Int).map .int) (show mH (EB P) by kernel_rfl) (by kernel_rfl) (by kernel_rfl) (show 3≤Hk by unfold Hk;decide)
  (tA _ fun b __=>mI (n:=85) (c:=ur (Float64.cmpInt (Float64.mul (Float64.ofInt 24) h) b)) (E₁:={ ag (EV P 185 (jW x y z p0 p1 p2 h s v x0 x1 x2)) (aw (EB P)) with vars:=[("hue", .flt h),("bound", .int b)] }) (by kernel_rfl) (by kernel_rfl) (by kernel_rfl))
theorem AY {l:Nat} (hl:Dr h=l) (h4:l < 4):ak 94 (cs P) (EV P 185 (jW x y z p0 p1 p2 h s v x0 x1 x2)) σ (bI P 185 5)=some ((.ret (.tup [.int (l % 3:Nat),.flt v]),EV P 185 (jW x y z p0 p1 p2 h s v x0 x1 x2)),σ,true):=by
 have hn:me lG [.lst ((([5,13,19]:List Int).filter fun b=>ur (Float64.cmpInt (Float64.mul (Float64.ofInt 24) h) b)).map .int)] σ=some (.int l,σ,true):=by
  show eZ σ (List.map AV.int _).length=_
  rw [List.length_map]
  show eZ σ (Dr h)=_
  unfold eZ
  rw [hl,if_pos (Nat.le_trans (Nat.le_of_lt h4) (by unfold Hk;decide))]
 have h1:Hs 91 (cs P) (EV P 185 (jW x y z p0 p1 p2 h s v x0 x1 x2)) σ (eN (af (bI P 185 5)) 0)=some (.int (l % 3:Nat),σ,true):=
  bA (n:=90) (show bw (eN (af (bI P 185 5)) 0) .Mod by kernel_rfl) (a:=.int l) (b:=.int 3) ((aP (n:=89) (w:=.builtin "len") (Φ:=me lG) (show aO (eL (eN (af (bI P 185 5)) 0)) "len" by kernel_rfl) (by kernel_rfl) (by kernel_rfl)
   ((congrArg (aevs 89 (cs P) _ σ) (show au (eL (eN (af (bI P 185 5)) 0))=[EB P] by kernel_rfl)).trans (am (n:=88) w9 rfl))).trans hn) (by kernel_rfl) (by
    match l,h4 with
    |0,_=>rfl
    |1,_=>rfl
    |2,_=>rfl
    |3,_=>rfl)
 exact fj (n:=93) (show jF (bI P 185 5) by kernel_rfl) (Dm (n:=92) (show af (bI P 185 5) = .Tuple (au (af (bI P 185 5))) (Im (af (bI P 185 5))) (cA (af (bI P 185 5))) by kernel_rfl) (by kernel_rfl)
  ((congrArg (aevs 92 (cs P) _ σ) (show au (af (bI P 185 5))=eN (af (bI P 185 5)) 0::(au (af (bI P 185 5))).tail by kernel_rfl)).trans (am (n:=91) h1 (by kernel_rfl))) (show 2≤Hk by unfold Hk;decide))
theorem xc {l:Nat} (hx:Vl x i) (hy:Vl y j) (hz:Vl z k) (ht:([x,y,z]:List Int).sum.fmod 4=t) (hf:jX t=true) (S:Sight (IB i) (IB j) (IB k) h s v t x0 x1 x2) (hl:Dr h=l) (h4:l < 4) :
  At P [IC x y z] σ=some (.tup [.int (l % 3:Nat),.flt v],σ,true):=
 cz (vs:=[("corner", IC x y z)]) (by kernel_rfl) ((congrArg (res 100 (cs P) _ σ) (AQ P)).trans ((Ir (n:=99) _ (AR hx hy hz)).trans ((Ir (n:=98) _ (AS S)).trans ((Ir (n:=97) _ (AU S ht hf)).trans ((Ir (n:=96) _ (AW S)).trans ((Ir (n:=95) _ (AX S)).trans (jH (n:=94) _ (AY hl h4))))))))
end
end Internal
namespace Internal
open Float64 (val Right V dist sgn decode pack infMag)
theorem iW {r:UInt64} {neg:Bool} {W D:Nat} (R:Right r neg W D) (h:2 * W < D * ((2 ^ 54 - 1) * 2 ^ 2045)):∃ t m e,decode r = .fin neg m e∧val r=sgn neg (V t)∧∀ t',dist W (D * V t)≤dist W (D * V t'):=by
 obtain ⟨t,rfl,h1,h2,h3⟩:=R
 have ht:t < infMag:=Nat.lt_of_le_of_ne h1 fun z=>absurd (h2.mp z) (Nat.not_le_of_lt h)
 obtain ⟨m,e,hd,-⟩:=Float64.decode_pack neg ht
 exact ⟨t,m,e,hd,Float64.val_pack neg ht,fun t'=>(h3 ht t').1⟩
theorem lk {W:Nat} : dist W 0=W:=by unfold dist;rw [Nat.sub_zero,Nat.zero_sub,Nat.add_zero]
theorem jI {a b c:Nat} (h:dist a b≤c):b≤a+c:=by
 unfold dist at h
 have:=Nat.sub_le_iff_le_add.mp (Nat.le_trans (Nat.le_add_left _ _) h)
 rwa [Nat.add_comm] at this
theorem g7 {r:UInt64} {neg:Bool} {W D:Nat} (R:Right r neg W D) (h:2 * W < D * ((2 ^ 54 - 1) * 2 ^ 2045)):∃ m e,decode r = .fin neg m e∧D * (val r).natAbs≤2 * W:=by
 obtain ⟨t,m,e,h1,h2,h3⟩:=iW R h
 refine ⟨m,e,h1,?_⟩
 have k:=h3 0
 rw [Float64.V_zero,Nat.mul_zero,lk] at k
 rw [h2,Float64.sgn_natAbs,Nat.two_mul]
 exact jI k
noncomputable def U:Nat:=2 ^ 1030
theorem jJ {x:Nat} (h:x≤2 ^ 50 * U):x < (2 ^ 54 - 1) * 2 ^ 2045:=Nat.lt_of_le_of_lt h (by unfold U;decide +kernel)
theorem ID:(2:Nat) ^ 1074=2 ^ 44 * U:=by unfold U;decide +kernel
theorem n9 (s:Bool):decode (Float64.zero s) = .fin s 0 (-1074)∧(val (Float64.zero s)).natAbs=0:=by cases s<;>exact ⟨by kernel_rfl,by decide +kernel⟩
theorem tC:decode (Float64.ofInt 1073741824) = .fin false (2 ^ 52) (-22)∧(val (Float64.ofInt 1073741824)).natAbs=2 ^ 30 * 2 ^ 1074:=⟨by kernel_rfl,by decide +kernel⟩
theorem Ds {z:Int} {K:Nat} (h:z.natAbs < K) : -1 * (K:Int) < z∧z < 1 * (K:Int):=by omega
theorem Gm {a:Nat} (h:a≤50) {x:Nat} (hx:x≤2 ^ a * U):x≤2 ^ 50 * U:=Nat.le_trans hx (Nat.mul_le_mul_right _ (Nat.pow_le_pow_right (by decide) h))
theorem tD {x p:UInt64} {a b:Bool} {m k:Nat} {e f:Int} (hx:decode x = .fin a m e) (hp:decode p = .fin b k f) (h:(val x - val p).natAbs≤2 ^ 2 * U):Near x p:=by
 have hs:∃ a m e,decode (Float64.sub x p) = .fin a m e∧(val (Float64.sub x p)).natAbs≤2 ^ 3 * U:=by
  obtain ⟨h1,h2⟩:=Float64.sub_right hx hp
  by_cases hz:val x - val p=0
  ·rw [h1 hz]
   exact ⟨_,_,_,(n9 _).1,by rw [(n9 _).2];exact Nat.zero_le _⟩
  ·have w:2 * (val x - val p).natAbs≤2 ^ 3 * U:=by
    rw [show (2:Nat) ^ 3=2 * 2 ^ 2 from rfl,Nat.mul_assoc]
    exact Nat.mul_le_mul_left 2 h
   obtain ⟨m,e,h3,h4⟩:=g7 (h2 hz) (by rw [Nat.one_mul];exact jJ (Gm (by decide) w))
   rw [Nat.one_mul] at h4
   exact ⟨_,m,e,h3,Nat.le_trans h4 w⟩
 obtain ⟨a,m,e,hd,hu⟩:=hs
 have R:=Float64.mul_right hd tC.1
 rw [tC.2] at R
 have ew:2 * ((val (Float64.sub x p)).natAbs * (2 ^ 30 * 2 ^ 1074))=2 ^ 1074 * (2 ^ 31 * (val (Float64.sub x p)).natAbs):=by
  rw [show (2:Nat) ^ 31=2 * 2 ^ 30 from rfl]
  generalize (2:Nat) ^ 1074=K
  ac_rfl
 have w:2 ^ 31 * (val (Float64.sub x p)).natAbs≤2 ^ 34 * U:=by
  rw [show (2:Nat) ^ 34=2 ^ 31 * 2 ^ 3 by decide,Nat.mul_assoc]
  exact Nat.mul_le_mul_left _ hu
 have hK:0 < (2:Nat) ^ 1074:=Nat.two_pow_pos _
 obtain ⟨m',e',h3,h4⟩:=g7 R (by rw [ew];exact Nat.mul_lt_mul_of_pos_left (jJ (Gm (by decide) w)) hK)
 rw [ew] at h4
 have h5:(val (tB x p)).natAbs < 2 ^ 1074:=Nat.lt_of_le_of_lt (Nat.le_trans (Nat.le_of_mul_le_mul_left h4 hK) w) (by unfold U;decide +kernel)
 obtain ⟨l1,l2⟩:=Ds h5
 have ek:((2 ^ 1074:Nat):Int)=(2:Int) ^ 1074:=Int.natCast_pow 2 1074
 rw [ek] at l1 l2
 have c:=fun i=>Float64.cmpInt_right (x:=tB x p) h3 i
 exact ⟨by rw [c,Int.compare_eq_gt.mpr l1];rfl,by rw [c,Int.compare_eq_lt.mpr l2];rfl⟩
end Internal
namespace Internal
open Float64 (val Right V dist sgn decode pack infMag)
noncomputable def ex:List Nat:=[0,1,2,3,4,5,6,7,8,9,10,11,12,99]
noncomputable def vx (e:Nat):Nat:=match e==99 with | true=>0 | false=>2 ^ (1074 - e)
noncomputable def nz (m i:Nat):Nat:=match i==99 with | true=>99 | false=>i - m
noncomputable def Fq (x:UInt64):Bool:=match decode x with | .fin false _ _=>true | _=>false
theorem xd {x:UInt64} (h:Fq x=true):∃ m e,decode x = .fin false m e:=by
 unfold Fq at h
 split at h
 ·exact ⟨_,_,by assumption⟩
 ·cases h
structure SzAt (e:Nat):Prop where
 fin:∃ m f,decode (IB e) = .fin false m f
 val:val (IB e)=((vx e:Nat):Int)
 mag:V (IB e).toNat=vx e
theorem xe {e:Nat} (h:e∈ex):SzAt e:=by
 have t:ex.all (fun e=>Fq (IB e)&&(val (IB e)==((vx e:Nat):Int)&&V (IB e).toNat==vx e))=true:=by kernel_rfl
 have k:=List.all_eq_true.mp t e h
 rw [Bool.and_eq_true,Bool.and_eq_true] at k
 exact ⟨xd k.1,eq_of_beq k.2.1,eq_of_beq k.2.2⟩
noncomputable def m13:List Nat:=[0,1,2,3,4,5,6,7,8,9,10,11,12]
theorem yA {m:Nat} (h:m∈m13):m∈ex:=(show ∀ m∈m13,m∈ex by decide) m h
theorem tE {m i:Nat} (hm:m∈m13) (hi:i∈ex) (h:m≤i):2 ^ m * vx i=vx (nz m i)∧nz m i∈ex:=by
 have t:m13.all (fun m=>ex.all fun i=>!decide (m≤i) || (2 ^ m * vx i==vx (nz m i)&&ex.contains (nz m i)))=true:=by kernel_rfl
 have k:=List.all_eq_true.mp (List.all_eq_true.mp t m hm) i hi
 rw [decide_eq_true h,Bool.not_true,Bool.false_or,Bool.and_eq_true] at k
 exact ⟨eq_of_beq k.1,List.contains_iff_mem.mp k.2⟩
theorem mK {a b c:Nat} (h:dist a b≤c):a≤b+c:=by
 unfold dist at h
 have:=Nat.sub_le_iff_le_add.mp (Nat.le_trans (Nat.le_add_right _ _) h)
 rwa [Nat.add_comm] at this
theorem AZ {b c y:Nat} (h1:b≤c+y) (h2:c≤b+y):dist b c≤y:=by
 unfold dist
 rcases Nat.le_total b c with h | h
 ·rw [Nat.sub_eq_zero_of_le h,Nat.zero_add]
  exact Nat.sub_le_iff_le_add'.mpr h2
 ·rw [Nat.sub_eq_zero_of_le h,Nat.add_zero]
  exact Nat.sub_le_iff_le_add'.mpr h1
theorem tri {a b c x:Nat} (h1:dist a b≤x) (h2:dist a c≤x):dist b c≤2 * x:=by
 rw [Nat.two_mul]
 refine AZ ?_ ?_
 ·rw [←Nat.add_assoc]
  exact Nat.le_trans (jI h1) (Nat.add_le_add_right (mK h2) x)
 ·rw [←Nat.add_assoc]
  exact Nat.le_trans (jI h2) (Nat.add_le_add_right (mK h1) x)
theorem jK {a b:Nat} : ((a:Int) - b).natAbs=dist a b:=by
 unfold dist
 rcases Nat.le_total a b with h | h
 ·rw [Nat.sub_eq_zero_of_le h,Nat.zero_add,←Int.neg_sub,Int.natAbs_neg,←Int.natCast_sub h];rfl
 ·rw [Nat.sub_eq_zero_of_le h,Nat.add_zero,←Int.natCast_sub h];rfl
theorem jL {a b:Nat} : (-(a:Int) - b).natAbs=a+b:=by omega
theorem xf {m i:Nat} {w:UInt64} {b:Bool} {k:Nat} {f:Int} (hm:m∈m13) (hi:i∈ex) (hle:m≤i) (hw:decode w = .fin b k f) (hv:(val w - val (IB (nz m i))).natAbs≤U):Near (Float64.mul (IB m) w) (IB i):=by
 obtain ⟨e2,hn⟩:=tE hm hi hle
 have e1:2 ^ m * vx m=2 ^ 1074:=(show ∀ m∈m13,2 ^ m * vx m=2 ^ 1074 by decide +kernel) m hm
 have X:=xe (yA hm)
 have Y:=xe hi
 have Z:=xe hn
 obtain ⟨mv,ev,hvd⟩:=X.fin
 obtain ⟨mp,ep,hpd⟩:=Y.fin
 rw [Z.val] at hv
 have R:=Float64.mul_right hvd hw
 have hb:val w=sgn b (val w).natAbs:=by rw [Float64.val_natAbs hw];exact Float64.val_eq hw
 rw [X.val,Int.natAbs_natCast] at R
 have hK:0 < (2:Nat) ^ 1074:=Nat.two_pow_pos _
 have hM:0 < 2 ^ m:=Nat.two_pow_pos _
 have hvm:vx m≤2 ^ 1074:=e1▸Nat.le_mul_of_pos_left _ hM
 have hpp:vx (nz m i)≤2 ^ 44 * U:=ID▸((show ∀ e∈ex,vx e≤2 ^ 1074 by decide +kernel) _ hn)
 generalize (val w).natAbs=A at *
 have hA:A≤vx (nz m i)+U:=by
  rw [hb] at hv
  cases b with
  |false=>
   have hv:((A:Int) - (vx (nz m i):Nat)).natAbs≤U:=hv
   rw [jK] at hv
   exact mK hv
  |true=>
   have hv:(-(A:Int) - (vx (nz m i):Nat)).natAbs≤U:=hv
   rw [jL] at hv
   exact Nat.le_trans (Nat.le_trans (Nat.le_add_right A _) hv) (Nat.le_add_left _ _)
 have big:2 * (vx m * A) < 2 ^ 1074 * ((2 ^ 54 - 1) * 2 ^ 2045):=by
  refine Nat.lt_of_le_of_lt (m:=2 ^ 1074 * (2 * A)) ?_ (Nat.mul_lt_mul_of_pos_left (jJ ?_) hK)
  ·rw [Nat.mul_left_comm]
   exact Nat.mul_le_mul_right _ hvm
  ·refine Nat.le_trans (Nat.mul_le_mul_left 2 hA) ?_
   refine Nat.le_trans (Nat.mul_le_mul_left 2 (Nat.add_le_add_right hpp U)) ?_
   rw [←Nat.succ_mul,←Nat.mul_assoc]
   exact Nat.mul_le_mul_right _ (by decide)
 obtain ⟨t,m',e',h1,h2,h3⟩:=iW R big
 have h4:∀ t',dist A (2 ^ m * V t)≤dist A (2 ^ m * V t'):=fun t'=>by
  have h5:=Nat.mul_le_mul_left (2 ^ m) (h3 t')
  rw [←Float64.dist_mul,←Float64.dist_mul,←Nat.mul_assoc,e1,Nat.mul_left_comm (2 ^ m),Nat.mul_left_comm (2 ^ m),Float64.dist_mul,Float64.dist_mul] at h5
  exact Nat.le_of_mul_le_mul_left h5 hK
 refine tD h1 hpd ?_
 rw [h2,Y.val]
 rw [hb] at hv
 cases b with
 |false=>
  have hv:((A:Int) - (vx (nz m i):Nat)).natAbs≤U:=hv
  rw [jK,←e2] at hv
  have k:=h4 (IB i).toNat
  rw [Y.mag] at k
  have k:=tri (Nat.le_trans k hv) hv
  rw [Float64.dist_mul] at k
  show ((V t:Int) - (vx i:Nat)).natAbs≤_
  rw [jK]
  exact Nat.le_trans (Nat.le_trans (Nat.le_mul_of_pos_left _ hM) k) (Nat.mul_le_mul_right _ (by decide))
 |true=>
  have hv:(-(A:Int) - (vx (nz m i):Nat)).natAbs≤U:=hv
  rw [jL,←e2] at hv
  have k:=h4 0
  rw [Float64.V_zero,Nat.mul_zero,lk] at k
  have k:=Nat.le_trans (Nat.le_mul_of_pos_left _ hM) (jI k)
  have k2:=Nat.le_mul_of_pos_left (vx i) hM
  show (-(V t:Int) - (vx i:Nat)).natAbs≤_
  rw [jL]
  refine Nat.le_trans (Nat.add_le_add k k2) ?_
  rw [Nat.add_assoc]
  refine Nat.le_trans (Nat.add_le_add (Nat.le_trans (Nat.le_add_right A _) hv) hv) ?_
  rw [←Nat.two_mul]
  exact Nat.mul_le_mul_right _ (by decide)
end Internal
namespace Internal
open Float64 (val decode)
noncomputable def ll (x:UInt64) (f:UInt64→Bool):Bool:=match x.toNat with
 |0=>f 0
 |n+1=>f (UInt64.ofNat (n+1))
theorem fk {x:UInt64} {f:UInt64→Bool} : ll x f=f x:=by
 have e:∀ n,n=x.toNat→(match n with | 0=>f 0 | n+1=>f (UInt64.ofNat (n+1)))=f x:=fun n h=>by
  cases n with
  |zero=>rw [UInt64.toNat_inj.mp (show (0:UInt64).toNat=x.toNat from h)]
  |succ n=>show f (UInt64.ofNat (n+1))=f x;rw [h,UInt64.ofNat_toNat]
 exact e _ rfl
noncomputable def D0 (n:Nat):UInt64:=Float64.sub (IB 0) (IB n)
noncomputable def Gn (i j k n:Nat):UInt64:=AH (yv (IB i) (IB j) (IB k) (IB 0) (D0 n))
noncomputable def IE (n:Nat):UInt64:=Float64.div (D0 n) (IB 0)
noncomputable def Fr (x:UInt64):Bool:=match decode x with | .fin _ _ _=>true | _=>false
noncomputable def IF (w:Option UInt64) (e:Nat):Bool:=match w with
 |none=>e==0
 |some w=>Fr w&&Nat.ble (val w - val (IB e)).natAbs U
noncomputable def Fs (l:List (Option UInt64)) (i j k:Nat):Bool:=match l with
 | [a,b,c]=>IF a i&&(IF b j&&IF c k)
 |_=>false
noncomputable def A0 (s H:UInt64) (i j k:Nat):Bool:=match iF (Float64.mul H c6) with
 |none=>false
 |some q=>jX q&&ll (hF H q) fun f=>Fs (B0 (q.fmod 6).toNat none (some (wP s)) (some (wQ s f)) (some (wT s f))) i j k
noncomputable def Go (h:UInt64) (l:Nat):Bool:=(ur (Float64.cmpInt h 0) || uw (Float64.cmpInt h 0))&&(xS (Float64.cmpInt h 1)&&Dr h % 3==l)
noncomputable def IG (i j k n l:Nat):Bool:=ll (IE n) fun s=>ll (Gn i j k n) fun h=>(!(bP s 0)&&Go h l)&&([0,1,2,3]:List Nat).all fun t=>ll (Float64.add h (Float64.ofInt t)) fun H=>A0 s H i j k
noncomputable def IH (i j k:Nat):Nat:=if j < i then (if k < j then k else j) else (if k < i then k else i)
noncomputable def II (i j k:Nat):Nat:=if i < j then (if j < k then k else j) else (if i < k then k else i)
noncomputable def g8 (i j k:Nat):Nat:=if i≤j∧i≤k then 0 else if j≤k then 1 else 2
noncomputable def cC (i j k:Nat):Bool:=II i j k==0 || IG i j k (II i j k) (g8 i j k)
theorem IJ:ex.all (fun k=>cC 0 0 k)=true:=by kernel_rfl
theorem IL:ex.all (fun k=>cC 0 1 k)=true:=by kernel_rfl
theorem IM:ex.all (fun k=>cC 0 2 k)=true:=by kernel_rfl
theorem IN:ex.all (fun k=>cC 0 3 k)=true:=by kernel_rfl
theorem IP:ex.all (fun k=>cC 0 4 k)=true:=by kernel_rfl
theorem IQ:ex.all (fun k=>cC 0 5 k)=true:=by kernel_rfl
theorem IR:ex.all (fun k=>cC 0 6 k)=true:=by kernel_rfl
theorem IS:ex.all (fun k=>cC 0 7 k)=true:=by kernel_rfl
theorem IT:ex.all (fun k=>cC 0 8 k)=true:=by kernel_rfl
theorem IU:ex.all (fun k=>cC 0 9 k)=true:=by kernel_rfl
theorem GT:ex.all (fun k=>cC 0 10 k)=true:=by kernel_rfl
theorem GU:ex.all (fun k=>cC 0 11 k)=true:=by kernel_rfl
theorem GV:ex.all (fun k=>cC 0 12 k)=true:=by kernel_rfl
theorem GW:ex.all (fun k=>cC 0 99 k)=true:=by kernel_rfl
theorem IV:ex.all (fun k=>cC 1 0 k)=true:=by kernel_rfl
theorem IW:ex.all (fun k=>cC 2 0 k)=true:=by kernel_rfl
theorem IX:ex.all (fun k=>cC 3 0 k)=true:=by kernel_rfl
theorem IY:ex.all (fun k=>cC 4 0 k)=true:=by kernel_rfl
theorem IZ:ex.all (fun k=>cC 5 0 k)=true:=by kernel_rfl
theorem I0:ex.all (fun k=>cC 6 0 k)=true:=by kernel_rfl
theorem I1:ex.all (fun k=>cC 7 0 k)=true:=by kernel_rfl
theorem I2:ex.all (fun k=>cC 8 0 k)=true:=by kernel_rfl
theorem I3:ex.all (fun k=>cC 9 0 k)=true:=by kernel_rfl
theorem GY:ex.all (fun k=>cC 10 0 k)=true:=by kernel_rfl
theorem GZ:ex.all (fun k=>cC 11 0 k)=true:=by kernel_rfl
theorem G0:ex.all (fun k=>cC 12 0 k)=true:=by kernel_rfl
theorem G1:ex.all (fun k=>cC 99 0 k)=true:=by kernel_rfl
theorem I4:ex.all (fun k=>cC 1 k 0)=true:=by kernel_rfl
theorem I5:ex.all (fun k=>cC 2 k 0)=true:=by kernel_rfl
theorem I6:ex.all (fun k=>cC 3 k 0)=true:=by kernel_rfl
theorem I7:ex.all (fun k=>cC 4 k 0)=true:=by kernel_rfl
theorem I8:ex.all (fun k=>cC 5 k 0)=true:=by kernel_rfl
theorem I9:ex.all (fun k=>cC 6 k 0)=true:=by kernel_rfl
theorem Ja:ex.all (fun k=>cC 7 k 0)=true:=by kernel_rfl
theorem Jb:ex.all (fun k=>cC 8 k 0)=true:=by kernel_rfl
theorem Jc:ex.all (fun k=>cC 9 k 0)=true:=by kernel_rfl
theorem G2:ex.all (fun k=>cC 10 k 0)=true:=by kernel_rfl
theorem G3:ex.all (fun k=>cC 11 k 0)=true:=by kernel_rfl
theorem G4:ex.all (fun k=>cC 12 k 0)=true:=by kernel_rfl
theorem G5:ex.all (fun k=>cC 99 k 0)=true:=by kernel_rfl
theorem jM {p:Nat→Nat→Bool} {l:List Nat} (h:l.all (fun j=>ex.all (p j))=true) {j k:Nat} (hj:j∈l) (hk:k∈ex):p j k=true:=List.all_eq_true.mp (List.all_eq_true.mp h j hj) k hk
noncomputable def e13:List Nat:=[1,2,3,4,5,6,7,8,9,10,11,12,99]
theorem yB:ex.all (fun j=>ex.all fun k=>cC 0 j k)=true:=(Bool.and_eq_true_iff.mpr ⟨IJ,(Bool.and_eq_true_iff.mpr ⟨IL,(Bool.and_eq_true_iff.mpr ⟨IM,(Bool.and_eq_true_iff.mpr ⟨IN,(Bool.and_eq_true_iff.mpr ⟨IP,(Bool.and_eq_true_iff.mpr ⟨IQ,(Bool.and_eq_true_iff.mpr ⟨IR,(Bool.and_eq_true_iff.mpr ⟨IS,(Bool.and_eq_true_iff.mpr ⟨IT,(Bool.and_eq_true_iff.mpr ⟨IU,(Bool.and_eq_true_iff.mpr ⟨GT,(Bool.and_eq_true_iff.mpr ⟨GU,(Bool.and_eq_true_iff.mpr ⟨GV,(Bool.and_eq_true_iff.mpr ⟨GW,rfl⟩)⟩)⟩)⟩)⟩)⟩)⟩)⟩)⟩)⟩)⟩)⟩)⟩)⟩)
theorem Dt:e13.all (fun j=>ex.all fun k=>cC j 0 k)=true:=(Bool.and_eq_true_iff.mpr ⟨IV,(Bool.and_eq_true_iff.mpr ⟨IW,(Bool.and_eq_true_iff.mpr ⟨IX,(Bool.and_eq_true_iff.mpr ⟨IY,(Bool.and_eq_true_iff.mpr ⟨IZ,(Bool.and_eq_true_iff.mpr ⟨I0,(Bool.and_eq_true_iff.mpr ⟨I1,(Bool.and_eq_true_iff.mpr ⟨I2,(Bool.and_eq_true_iff.mpr ⟨I3,(Bool.and_eq_true_iff.mpr ⟨GY,(Bool.and_eq_true_iff.mpr ⟨GZ,(Bool.and_eq_true_iff.mpr ⟨G0,(Bool.and_eq_true_iff.mpr ⟨G1,rfl⟩)⟩)⟩)⟩)⟩)⟩)⟩)⟩)⟩)⟩)⟩)⟩)⟩)
theorem Du:e13.all (fun j=>ex.all fun k=>cC j k 0)=true:=(Bool.and_eq_true_iff.mpr ⟨I4,(Bool.and_eq_true_iff.mpr ⟨I5,(Bool.and_eq_true_iff.mpr ⟨I6,(Bool.and_eq_true_iff.mpr ⟨I7,(Bool.and_eq_true_iff.mpr ⟨I8,(Bool.and_eq_true_iff.mpr ⟨I9,(Bool.and_eq_true_iff.mpr ⟨Ja,(Bool.and_eq_true_iff.mpr ⟨Jb,(Bool.and_eq_true_iff.mpr ⟨Jc,(Bool.and_eq_true_iff.mpr ⟨G2,(Bool.and_eq_true_iff.mpr ⟨G3,(Bool.and_eq_true_iff.mpr ⟨G4,(Bool.and_eq_true_iff.mpr ⟨G5,rfl⟩)⟩)⟩)⟩)⟩)⟩)⟩)⟩)⟩)⟩)⟩)⟩)⟩)
theorem Dv {i:Nat} (h:i∈ex):i=0∨i∈e13:=List.mem_cons.mp h
theorem tab {i j k:Nat} (hi:i∈ex) (hj:j∈ex) (hk:k∈ex) (h:i=0∨j=0∨k=0):cC i j k=true:=by
 rcases Dv hi with rfl | hi'
 ·exact jM yB hj hk
 ·rcases h with rfl | rfl | rfl
  ·exact jM yB hj hk
  ·exact jM Dt hi' hk
  ·exact jM Du hi' hj
end Internal
namespace Internal
open Float64 (val decode)
theorem fm {d:Nat} : Float64.roundMag 0 d=0:=rfl
theorem yC {x x' y y':UInt64} {s u:Bool} {a b m:Nat} {e e' f:Int} (hx:decode x = .fin s a e) (hx':decode x' = .fin s a e') (h:a=0∨e'=e - m) (hy:decode y = .fin u b f) (hy':decode y' = .fin u b (f - m)) (hb:b≠0):Float64.div x' y'=Float64.div x y:=by
 unfold Float64.div
 rw [hx,hx',hy,hy']
 simp only
 rw [if_neg (by simpa using hb),if_neg (by simpa using hb)]
 rcases h with rfl | rfl
 ·have z:∀ g,(Float64.shift 0 b g).1=0:=fun g=>by
   unfold Float64.shift
   split
   ·exact Nat.zero_mul _
   ·rfl
  unfold Float64.ofFrac
  rw [z,z,fm,fm]
 ·rw [show e - m - (f - m)=e - f by omega]
noncomputable def Jd (m:Nat) (x y:UInt64):Bool:=match decode x,decode y with
 | .fin s a e,.fin u b f=>s==u&&(a==b&&(a==0 || f==e - m))
 |_,_=>false
set_option tactic.hygienic true in
theorem tF {m:Nat} {x y:UInt64} (h:Jd m x y=true):∃ s a e f,decode x = .fin s a e∧decode y = .fin s a f∧(a=0∨f=e - m):=by
 unfold Jd at h
 split at h
 ·rename_i s a e u b f h1 h2
  rw [Bool.and_eq_true,Bool.and_eq_true,Bool.or_eq_true] at h
  have e1:=eq_of_beq h.1
  have e2:=eq_of_beq h.2.1
  subst e1 e2
  exact ⟨s,a,e,f,h1,h2,h.2.2.imp eq_of_beq eq_of_beq⟩
 ·cases h
noncomputable def DM (m n:Nat):UInt64:=Float64.sub (IB m) (IB n)
theorem A1 {m i:Nat} (hm:m∈m13) (hi:i∈ex) (h:m≤i):Jd m (D0 (nz m i)) (DM m i)=true∧Jd m (IB 0) (IB m)=true:=by
 have t:m13.all (fun m=>ex.all (fun i=>!decide (m≤i) || Jd m (D0 (nz m i)) (DM m i))&&Jd m (IB 0) (IB m))=true:=by kernel_rfl
 have k:=Bool.and_eq_true_iff.mp (List.all_eq_true.mp t m hm)
 have k1:=List.all_eq_true.mp k.1 i hi
 rw [decide_eq_true h,Bool.not_true,Bool.false_or] at k1
 exact ⟨k1,k.2⟩
theorem cZ {i j:Nat} (hi:i∈ex) (hj:j∈ex):bP (IB i) (IB j)=(i==j)∧Hz (IB i) (IB j)=decide (i < j)∧BU (IB i) (IB j)=decide (j < i):=by
 have t:ex.all (fun i=>ex.all fun j=>bP (IB i) (IB j)==(i==j)&&(Hz (IB i) (IB j)==decide (i < j)&&BU (IB i) (IB j)==decide (j < i)))=true:=by kernel_rfl
 have k:=List.all_eq_true.mp (List.all_eq_true.mp t i hi) j hj
 rw [Bool.and_eq_true,Bool.and_eq_true] at k
 exact ⟨eq_of_beq k.1,eq_of_beq k.2.1,eq_of_beq k.2.2⟩
theorem pO {m i j:Nat} (hm:m∈m13) (hi:i∈ex) (hj:j∈ex) (h1:m≤i) (h2:m≤j):decide (nz m i < nz m j)=decide (i < j)∧decide (nz m i≤nz m j)=decide (i≤j):=by
 have t:m13.all (fun m=>ex.all fun i=>!decide (m≤i) || ex.all fun j=>!decide (m≤j) || (decide (nz m i < nz m j)==decide (i < j)&&decide (nz m i≤nz m j)==decide (i≤j)))=true:=by kernel_rfl
 have k:=List.all_eq_true.mp (List.all_eq_true.mp t m hm) i hi
 rw [decide_eq_true h1,Bool.not_true,Bool.false_or] at k
 have k:=List.all_eq_true.mp k j hj
 rw [decide_eq_true h2,Bool.not_true,Bool.false_or,Bool.and_eq_true] at k
 exact ⟨eq_of_beq k.1,eq_of_beq k.2⟩
theorem xg (i j k:Nat):IH i j k≤i∧IH i j k≤j∧IH i j k≤k:=by
 unfold IH
 split
 ·rename_i h
  split
  ·rename_i h2;exact ⟨Nat.le_of_lt (Nat.lt_trans h2 h),Nat.le_of_lt h2,Nat.le_refl _⟩
  ·rename_i h2;exact ⟨Nat.le_of_lt h,Nat.le_refl _,Nat.le_of_not_lt h2⟩
 ·rename_i h
  split
  ·rename_i h2;exact ⟨Nat.le_of_lt h2,Nat.le_trans (Nat.le_of_lt h2) (Nat.le_of_not_lt h),Nat.le_refl _⟩
  ·rename_i h2;exact ⟨Nat.le_refl _,Nat.le_of_not_lt h,Nat.le_of_not_lt h2⟩
theorem Dw (i j k:Nat):i≤II i j k∧j≤II i j k∧k≤II i j k:=by
 unfold II
 split
 ·rename_i h
  split
  ·rename_i h2;exact ⟨Nat.le_of_lt (Nat.lt_trans h h2),Nat.le_of_lt h2,Nat.le_refl _⟩
  ·rename_i h2;exact ⟨Nat.le_of_lt h,Nat.le_refl _,Nat.le_of_not_lt h2⟩
 ·rename_i h
  split
  ·rename_i h2;exact ⟨Nat.le_of_lt h2,Nat.le_trans (Nat.le_of_not_lt h) (Nat.le_of_lt h2),Nat.le_refl _⟩
  ·rename_i h2;exact ⟨Nat.le_refl _,Nat.le_of_not_lt h,Nat.le_of_not_lt h2⟩
theorem Ft (i j k:Nat):II i j k=i∨II i j k=j∨II i j k=k:=by
 unfold II
 split
 ·split
  ·exact .inr (.inr rfl)
  ·exact .inr (.inl rfl)
 ·split
  ·exact .inr (.inr rfl)
  ·exact .inl rfl
theorem Fu (i j k:Nat):IH i j k=i∨IH i j k=j∨IH i j k=k:=by
 unfold IH
 split
 ·split
  ·exact .inr (.inr rfl)
  ·exact .inr (.inl rfl)
 ·split
  ·exact .inr (.inr rfl)
  ·exact .inl rfl
section
variable {i j k:Nat} (hi:i∈ex) (hj:j∈ex) (hk:k∈ex)
include hi hj hk
theorem yD:Iu (IB i) (IB j) (IB k)=IB (IH i j k):=by
 unfold Iu mf IH
 rw [(cZ hj hi).2.1,(cZ hk hj).2.1,(cZ hk hi).2.1]
 simp only [decide_eq_true_eq]
 split<;>split<;>rfl
theorem yE:Iv (IB i) (IB j) (IB k)=IB (II i j k):=by
 unfold Iv mf II
 rw [(cZ hj hi).2.2,(cZ hk hj).2.2,(cZ hk hi).2.2]
 simp only [decide_eq_true_eq]
 split<;>split<;>rfl
end
end Internal
namespace Internal
open Float64 (val decode)
theorem tG {x:UInt64} {s:Bool} {a:Nat} {e:Int} (h:decode x = .fin s a e):Float64.isZero x=(a==0):=by
 unfold Float64.isZero
 rw [h]
 cases a<;>rfl
theorem g9 {m i:Nat} (hm:m∈m13) (hi:i∈ex) (h:m≤i):(nz m i==0)=(i==m):=by
 have t:m13.all (fun m=>ex.all fun i=>!decide (m≤i) || (nz m i==0)==(i==m))=true:=by kernel_rfl
 have k:=List.all_eq_true.mp (List.all_eq_true.mp t m hm) i hi
 rw [decide_eq_true h,Bool.not_true,Bool.false_or] at k
 exact eq_of_beq k
theorem Fv {n:Nat} (hn:n∈ex) (h:n≠0):Float64.isZero (D0 n)=false:=(show ∀ n∈ex,n≠0→Float64.isZero (D0 n)=false by decide +kernel) n hn h
theorem Dx {m:Nat} (hm:m∈m13):Float64.isZero (IB m)=false:=(show ∀ m∈m13,Float64.isZero (IB m)=false by decide +kernel) m hm
theorem ln {m:Nat} (hm:m∈m13):Near (IB m) (IB m):=by
 refine Hh fun G_ k_=>?_
 obtain ⟨a,e,h⟩:=(xe (yA hm)).fin
 refine k_ ?_
 exact tD h h (by rw [Int.sub_self];exact Nat.zero_le _)
noncomputable def Je (v:UInt64) (w:Option UInt64):UInt64:=match w with | none=>v | some w=>Float64.mul v w
theorem xh {x:UInt64} (h:Fr x=true):∃ s a e,decode x = .fin s a e:=by
 unfold Fr at h
 split at h
 ·exact ⟨_,_,_,by assumption⟩
 ·cases h
theorem mL {m i:Nat} {w:Option UInt64} (hm:m∈m13) (hi:i∈ex) (h:m≤i) (e:IF w (nz m i)=true):Near (Je (IB m) w) (IB i):=by
 cases w with
 |none=>
  have e:(nz m i==0)=true:=e
  rw [g9 hm hi h] at e
  rw [eq_of_beq e]
  exact ln hm
 |some w=>
  have e:=Bool.and_eq_true_iff.mp e
  refine Hh fun G_ k_=>?_
  obtain ⟨s,a,f,hd⟩:=xh e.1
  refine k_ ?_
  exact xf hm hi h hd (Nat.le_of_ble_eq_true e.2)
theorem A2 {α β:Type} (f:α→β) {j:Nat} {a b c d:α} : B0 j (f a) (f b) (f c) (f d)=(B0 j a b c d).map f:=by
 unfold B0
 split<;>rfl
theorem xi {l:List (Option UInt64)} {i j k:Nat} (h:Fs l i j k=true):∃ a b c,l=[a,b,c]∧IF a i=true∧IF b j=true∧IF c k=true:=by
 unfold Fs at h
 split at h
 ·rw [Bool.and_eq_true,Bool.and_eq_true] at h
  exact ⟨_,_,_,rfl,h⟩
 ·cases h
section
variable {i j k m n:Nat}
set_option tactic.hygienic true in
theorem tH {s H:UInt64} (hm:m∈m13) (hi:i∈ex) (hj:j∈ex) (hk:k∈ex) (h1:m≤i) (h2:m≤j) (h3:m≤k) (hs:bP s 0=false) (h:A0 s H (nz m i) (nz m j) (nz m k)=true) :
  ∃ x0 x1 x2,(∀ (P:Params) (σ:St),f35 P [.flt H,.flt s,.flt (IB m)] σ=some (.tup [.flt x0,.flt x1,.flt x2],σ,true))∧Near x0 (IB i)∧Near x1 (IB j)∧Near x2 (IB k):=by
 unfold A0 at h
 split at h
 ·cases h
 ·rename_i q hq
  rw [Bool.and_eq_true,fk] at h
  refine Hh fun G_ k_=>?_
  obtain ⟨a,b,c,e,ha,hb,hc⟩:=xi h.2
  refine k_ ?_
  have e0:q.fmod 6=((q.fmod 6).toNat:Nat):=(Int.toNat_of_nonneg (Int.fmod_nonneg_of_pos q (by decide))).symm
  have e1:(q.fmod 6).toNat < 6:=by
   have:=Int.fmod_lt_of_pos q (show (0:Int) < 6 by decide)
   omega
  refine ⟨Je (IB m) a,Je (IB m) b,Je (IB m) c,fun P σ=>?_,mL hm hi h1 ha,mL hm hj h2 hb,mL hm hk h3 hc⟩
  rw [AK (P:=P) (σ:=σ) (v:=IB m) hs hq h.1 e0 e1]
  have z:=A2 (fun w=>AV.flt (Je (IB m) w)) (j:=(q.fmod 6).toNat) (a:=none) (b:=some (wP s)) (c:=some (wQ s (hF H q))) (d:=some (wT s (hF H q)))
  rw [e] at z
  exact congrArg (fun l=>some (AV.tup l,σ,true)) z
theorem jN (hm:m∈m13) (hi:i∈ex) (hn:n∈ex) (h1:m≤i) (h2:m≤n) (h3:nz m n≠0) (hz:nz m n∈ex):Float64.div (DM m i) (DM m n)=Float64.div (D0 (nz m i)) (D0 (nz m n))∧Float64.div (DM m n) (IB m)=Float64.div (D0 (nz m n)) (IB 0)∧Float64.isZero (DM m n)=false:=by
 refine Hh fun G_ k_=>?_
 obtain ⟨s,a,e,f,d1,d2,d3⟩:=tF (A1 hm hi h1).1
 obtain ⟨s2,a2,e2,f2,c1,c2,c3⟩:=tF (A1 hm hn h2).1
 obtain ⟨s3,a3,e3,f3,b1,b2,b3⟩:=tF (A1 hm hn h2).2
 refine k_ ?_
 have z2:a2≠0:=fun z=>by
  have k:=Fv hz h3
  rw [tG c1,z] at k
  cases k
 have z3:a3≠0:=fun z=>by
  have k:=Dx hm
  rw [tG b2,z] at k
  cases k
 have w2:=c3.resolve_left z2
 have w3:=b3.resolve_left z3
 subst w2 w3
 exact ⟨yC d1 d2 d3 c1 c2 z2,yC c1 c2 (.inr rfl) b1 b2 z3,by rw [tG c2];exact beq_false_of_ne z2⟩
end
end Internal
namespace Internal
open Float64 (val decode)
theorem Dy {m i j k:Nat} (h1:decide (nz m i < nz m j)=decide (i < j)) (h2:decide (nz m j < nz m k)=decide (j < k)) (h3:decide (nz m i < nz m k)=decide (i < k)):II (nz m i) (nz m j) (nz m k)=nz m (II i j k):=by
 have e1:=decide_eq_decide.mp h1
 have e2:=decide_eq_decide.mp h2
 have e3:=decide_eq_decide.mp h3
 unfold II
 simp only [e1,e2,e3]
 split<;>split<;>rfl
theorem xj {m i j k:Nat} (h1:decide (nz m i≤nz m j)=decide (i≤j)) (h2:decide (nz m j≤nz m k)=decide (j≤k)) (h3:decide (nz m i≤nz m k)=decide (i≤k)):g8 (nz m i) (nz m j) (nz m k)=g8 i j k:=by
 have e1:=decide_eq_decide.mp h1
 have e2:=decide_eq_decide.mp h2
 have e3:=decide_eq_decide.mp h3
 unfold g8
 simp only [e1,e2,e3]
structure SightAt (i j k t:Nat):Prop where
 s:∃ h s x0 x1 x2,Sight (IB i) (IB j) (IB k) h s (IB (IH i j k)) (t:Nat) x0 x1 x2∧Dr h % 3=g8 i j k
section
variable {i j k:Nat} (hi:i∈ex) (hj:j∈ex) (hk:k∈ex) (hm:IH i j k∈m13) {t:Nat} (ht:t∈([0,1,2,3]:List Nat))
include hi hj hk hm
theorem pP (e:II i j k=IH i j k):SightAt i j k t:=by
 obtain ⟨a1,a2,a3⟩:=xg i j k
 obtain ⟨b1,b2,b3⟩:=Dw i j k
 have f2:=yD hi hj hk
 have f3:=yE hi hj hk
 rw [e] at b1 b2 b3 f3
 have h1:i=IH i j k:=Nat.le_antisymm b1 a1
 have h2:j=IH i j k:=Nat.le_antisymm b2 a2
 have h3:k=IH i j k:=Nat.le_antisymm b3 a3
 have eq:bP (Iv (IB i) (IB j) (IB k)) (Iu (IB i) (IB j) (IB k))=true:=by
  rw [f2,f3,(cZ (yA hm) (yA hm)).1]
  exact beq_self_eq_true _
 have N:=ln hm
 refine ⟨0,0,IB (IH i j k),IB (IH i j k),IB (IH i j k),⟨fun P σ=>?_,fun P σ=>w7 (by kernel_rfl),h1▸N,h2▸N,h3▸N,by kernel_rfl,by kernel_rfl,.inr ⟨rfl,rfl⟩⟩,?_⟩
 ·rw [w6 eq,f2]
 ·have:g8 i j k=0:=if_pos ⟨Nat.le_trans b1 a2,Nat.le_trans b1 a3⟩
  rw [this]
  kernel_rfl
include ht
theorem tI (e:II i j k≠IH i j k):SightAt i j k t:=by
 obtain ⟨a1,a2,a3⟩:=xg i j k
 have f2:=yD hi hj hk
 have f3:=yE hi hj hk
 have hn:II i j k∈ex:=by rcases Ft i j k with h | h | h<;>rw [h]<;>assumption
 have hnm:IH i j k≤II i j k:=Nat.le_trans a1 (Dw i j k).1
 have h0:nz (IH i j k) i=0∨nz (IH i j k) j=0∨nz (IH i j k) k=0:=by
  have z:=g9 hm (yA hm) (Nat.le_refl _)
  rw [beq_self_eq_true] at z
  have z:=eq_of_beq z
  exact (Fu i j k).imp (fun h=>by rwa [h] at z ⊢) (·.imp (fun h=>by rwa [h] at z ⊢) fun h=>by rwa [h] at z ⊢)
 have hn0:nz (IH i j k) (II i j k)≠0:=fun z=>by
  have h:=g9 hm hn hnm
  rw [z,beq_self_eq_true] at h
  exact e (eq_of_beq h.symm)
 have zi:=(tE hm hi a1).2
 have zj:=(tE hm hj a2).2
 have zk:=(tE hm hk a3).2
 have zn:=(tE hm hn hnm).2
 have C:=tab zi zj zk h0
 unfold cC at C
 rw [Dy (pO hm hi hj a1 a2).1 (pO hm hj hk a2 a3).1 (pO hm hi hk a1 a3).1,xj (pO hm hi hj a1 a2).2 (pO hm hj hk a2 a3).2 (pO hm hi hk a1 a3).2,beq_false_of_ne hn0,Bool.false_or] at C
 unfold IG at C
 rw [fk,fk,Bool.and_eq_true,Bool.and_eq_true,Bool.not_eq_true'] at C
 obtain ⟨⟨C1,C2⟩,C3⟩:=C
 have C3:=List.all_eq_true.mp C3 t ht
 rw [fk] at C3
 unfold Go at C2
 rw [Bool.and_eq_true,Bool.and_eq_true] at C2
 obtain ⟨C4,C5,C6⟩:=C2
 have ri:=jN hm hi hn a1 hnm hn0 zn
 have rj:=jN hm hj hn a2 hnm hn0 zn
 have rk:=jN hm hk hn a3 hnm hn0 zn
 have eh:yv (IB i) (IB j) (IB k) (IB (IH i j k)) (DM (IH i j k) (II i j k))=yv (IB (nz (IH i j k) i)) (IB (nz (IH i j k) j)) (IB (nz (IH i j k) k)) (IB 0) (D0 (nz (IH i j k) (II i j k))):=by
  unfold yv
  rw [(cZ hi (yA hm)).1,(cZ hj (yA hm)).1,(cZ zi (show 0∈ex by decide)).1,(cZ zj (show 0∈ex by decide)).1,g9 hm hi a1,g9 hm hj a2]
  show (match i==IH i j k with
   |true=>Float64.sub (Float64.div (DM (IH i j k) k) (DM (IH i j k) (II i j k))) (Float64.div (DM (IH i j k) j) (DM (IH i j k) (II i j k)))
   |false=>match j==IH i j k with
    |true=>Float64.sub (Float64.add c2 (Float64.div (DM (IH i j k) i) (DM (IH i j k) (II i j k)))) (Float64.div (DM (IH i j k) k) (DM (IH i j k) (II i j k)))
    |false=>Float64.sub (Float64.add c4 (Float64.div (DM (IH i j k) j) (DM (IH i j k) (II i j k)))) (Float64.div (DM (IH i j k) i) (DM (IH i j k) (II i j k))))=_
  rw [ri.1,rj.1,rk.1]
  rfl
 obtain ⟨x0,x1,x2,T,N0,N1,N2⟩:=tH hm hi hj hk a1 a2 a3 C1 C3
 have eq:bP (Iv (IB i) (IB j) (IB k)) (Iu (IB i) (IB j) (IB k))=false:=by
  rw [f2,f3,(cZ hn (yA hm)).1]
  exact beq_false_of_ne e
 refine ⟨Gn (nz (IH i j k) i) (nz (IH i j k) j) (nz (IH i j k) k) (nz (IH i j k) (II i j k)),IE (nz (IH i j k) (II i j k)),x0,x1,x2,⟨fun P σ=>?_,T,N0,N1,N2,C4,C5,.inl eq⟩,eq_of_beq C6⟩
 have z:=AI (P:=P) (σ:=σ) eq (by rw [f2];exact Dx hm) (by rw [f2,f3];exact ri.2.2)
 rw [f2,f3] at z
 refine z.trans ?_
 show some (AV.tup [AV.flt (AH (yv (IB i) (IB j) (IB k) (IB (IH i j k)) (DM (IH i j k) (II i j k)))),AV.flt (Float64.div (DM (IH i j k) (II i j k)) (IB (IH i j k))),AV.flt (IB (IH i j k))],σ,true)=_
 rw [eh,ri.2.1]
 rfl
theorem Fw:SightAt i j k t:=by
 by_cases e:II i j k=IH i j k
 ·exact pP hi hj hk hm e
 ·exact tI hi hj hk hm ht e
end
end Internal
namespace Internal
structure Cor where
 x:Int
 y:Int
 z:Int
 i:Nat
 j:Nat
 k:Nat
noncomputable def Cor.lp (c:Cor):Nat:=g8 c.i c.j c.k
noncomputable def Cor.mn (c:Cor):Nat:=IH c.i c.j c.k
noncomputable def Cor.av (c:Cor):AV:=IC c.x c.y c.z
noncomputable def Cor.sv (c:Cor):AV:=.tup [.int (c.lp:Nat),.flt (IB c.mn)]
structure Cor.Ok (c:Cor):Prop where
 vx:Vl c.x c.i
 vy:Vl c.y c.j
 vz:Vl c.z c.k
 ex:c.i∈ex
 ey:c.j∈Internal.ex
 ez:c.k∈Internal.ex
 mn:c.mn∈m13
 px:0≤c.x
 py:0≤c.y
 pz:0 < c.z
 lx:c.x.natAbs < 2 ^ 13
 ly:c.y.natAbs < 2 ^ 13
 lz:c.z.natAbs < 2 ^ 13
theorem bH (i j k:Nat):g8 i j k < 3:=by
 unfold g8
 split
 ·decide
 ·split<;>decide
theorem Dz:∀ t∈([0,1,2,3]:List Nat),jX (t:Nat)=true:=by decide +kernel
theorem tJ {P:Params} {σ:St} {c:Cor} (h:c.Ok):At P [c.av] σ=some (c.sv,σ,true):=by
 have h0:=Int.fmod_nonneg_of_pos ([c.x,c.y,c.z]:List Int).sum (show (0:Int) < 4 by decide)
 have h1:=Int.fmod_lt_of_pos ([c.x,c.y,c.z]:List Int).sum (show (0:Int) < 4 by decide)
 have e:=(Int.toNat_of_nonneg h0).symm
 have ht:(([c.x,c.y,c.z]:List Int).sum.fmod 4).toNat∈([0,1,2,3]:List Nat):=(show ∀ t < 4,t∈([0,1,2,3]:List Nat) by decide) _ ((Int.toNat_lt h0).mpr h1)
 refine Hh fun G_ k_=>?_
 obtain ⟨hu,s,x0,x1,x2,S,hl⟩:=(Fw h.ex h.ey h.ez h.mn ht).s
 refine k_ ?_
 have k:=xc (P:=P) (σ:=σ) h.vx h.vy h.vz e (Dz _ ht) S rfl (Nat.lt_succ_of_le (List.length_filter_le _ _))
 rw [hl] at k
 exact k
theorem A3 {v:Nat} (h:v < 13∨v=99):v∈ex:=by
 rcases h with h | rfl
 ·exact (show ∀ v < 13,v∈ex by decide) v h
 ·decide
theorem DA {v:Nat} (h:v < 13):v∈m13:=(show ∀ v < 13,v∈m13 by decide) v h
theorem DB {x y z:Int} (h0:0≤x) (h1:0≤y) (h2:0 < z) (hx:x.natAbs < 2 ^ 13) (hy:y.natAbs < 2 ^ 13) (hz:z.natAbs < 2 ^ 13):∃ c:Cor,c.Ok∧c.x=x∧c.y=y∧c.z=z:=by
 refine Hh fun G_ k_=>?_
 obtain ⟨i,vi,bi⟩:=w8 (B:=13) (by decide) hx
 obtain ⟨j,vj,bj⟩:=w8 (B:=13) (by decide) hy
 obtain ⟨k,vk,bk⟩:=w8 (B:=13) (by decide) hz
 refine k_ ?_
 have hk:k < 13:=bk.resolve_right fun e=>by
  rcases vk with ⟨e2,-⟩ | ⟨e2,-⟩
  ·rw [e2] at h2;exact absurd h2 (by decide)
  ·rw [e] at e2;exact absurd e2 (by decide)
 exact ⟨⟨x,y,z,i,j,k⟩,⟨vi,vj,vk,A3 bi,A3 bj,A3 bk,DA (Nat.lt_of_le_of_lt (xg i j k).2.2 hk),h0,h1,h2,hx,hy,hz⟩,rfl,rfl,rfl⟩
end Internal
namespace Internal
noncomputable def par (n:Int):Bool:=n % 2==1
theorem tK {n:Int} : par n=(n.natAbs % 2==1):=by
 unfold par
 rcases Int.emod_two_eq n with h | h<;>rw [h]<;>rcases Nat.mod_two_eq_zero_or_one n.natAbs with k | k<;>rw [k]<;>first | rfl | (exfalso;omega)
theorem A4 (a b:Int):par (a * b)=(par a&&par b):=by
 unfold par
 rw [Int.mul_emod]
 rcases Int.emod_two_eq a with h | h<;>rcases Int.emod_two_eq b with k | k<;>rw [h,k]<;>rfl
theorem A5 (a b:Int):par (a+b)=(par a != par b):=by
 unfold par
 rw [Int.add_emod]
 rcases Int.emod_two_eq a with h | h<;>rcases Int.emod_two_eq b with k | k<;>rw [h,k]<;>rfl
theorem A6 (a b:Int):par (a - b)=(par a != par b):=by
 unfold par
 rw [Int.sub_emod]
 rcases Int.emod_two_eq a with h | h<;>rcases Int.emod_two_eq b with k | k<;>rw [h,k]<;>rfl
noncomputable def xk (l:Nat) (a b c:Bool):Bool:=match l with | 0=>a | 1=>!a&&b | _=>!a&&(!b&&c)
theorem DC {i j k:Nat} (hi:i∈ex) (hj:j∈ex) (hk:k∈ex):xk (g8 i j k) (i==IH i j k) (j==IH i j k) (k==IH i j k)=true:=by
 have t:ex.all (fun i=>ex.all fun j=>ex.all fun k=>xk (g8 i j k) (i==IH i j k) (j==IH i j k) (k==IH i j k))=true:=by kernel_rfl
 exact List.all_eq_true.mp (List.all_eq_true.mp (List.all_eq_true.mp t i hi) j hj) k hk
theorem hG {m i:Nat} (h:m≤i):(2:Nat) ^ i=2 ^ m * 2 ^ (i - m):=by rw [←Nat.pow_add,Nat.add_sub_cancel' h]
theorem tM {n j:Nat} : (2 ^ n * (2 * j+1)) % 2=if n=0 then 1 else 0:=by
 cases n with
 |zero=>rw [Nat.pow_zero,Nat.one_mul,Nat.mul_add_mod];rfl
 |succ n=>rw [Nat.pow_succ,Nat.mul_comm (2 ^ n),Nat.mul_assoc,Nat.mul_mod_right];rfl
theorem mM {x:Int} {i m:Nat} (h:Vl x i) (hm:m∈m13) (hle:m≤i):∃ x':Int,x=2 ^ m * x'∧par x'=(i==m):=by
 rcases h with ⟨rfl,rfl⟩ | ⟨-,j,e⟩
 ·exact ⟨0,(Int.mul_zero _).symm,by rw [beq_false_of_ne ((show ∀ m∈m13,99≠m by decide) m hm)];rfl⟩
 ·rw [hG hle,Nat.mul_assoc] at e
  have hd:(2:Int) ^ m ∣ x:=by
   rw [←Int.natAbs_dvd_natAbs,e,Int.natAbs_pow]
   exact Nat.dvd_mul_right _ _
  obtain ⟨x',rfl⟩:=hd
  refine ⟨x',rfl,?_⟩
  rw [Int.natAbs_mul,Int.natAbs_pow] at e
  have e:=Nat.eq_of_mul_eq_mul_left (Nat.two_pow_pos m) e
  rw [tK,e,tM]
  by_cases h:i=m
  ·subst h;rw [Nat.sub_self,if_pos rfl];exact (beq_self_eq_true i).symm
  ·rw [if_neg (Nat.sub_ne_zero_of_lt (Nat.lt_of_le_of_ne hle (Ne.symm h))),beq_false_of_ne h];rfl
noncomputable def tv (a b c:Nat):Int:=(if [((a:Int) - c).fmod 3,((b:Int) - a).fmod 3,((c:Int) - b).fmod 3]=[1,1,1] then 1 else 0) - (if [((a:Int) - c).fmod 3,((b:Int) - a).fmod 3,((c:Int) - b).fmod 3]=[2,2,2] then 1 else 0)
noncomputable def Jf (x1 y1 z1 x2 y2 z2 x3 y3 z3:Int):Int:=x1 * (y2 * z3 - z2 * y3)+y1 * (z2 * x3 - x2 * z3)+z1 * (x2 * y3 - y2 * x3)
noncomputable def ut (a b c:Cor):Int:=Jf a.x a.y a.z b.x b.y b.z c.x c.y c.z
theorem tN (p q r x1 y1 z1 x2 y2 z2 x3 y3 z3:Int):Jf (p * x1) (p * y1) (p * z1) (q * x2) (q * y2) (q * z2) (r * x3) (r * y3) (r * z3)=p * q * r * Jf x1 y1 z1 x2 y2 z2 x3 y3 z3:=by unfold Jf;grind
noncomputable def EC (x1 y1 z1 x2 y2 z2 x3 y3 z3:Bool):Bool:=((x1&&((y2&&z3) != (z2&&y3))) != (y1&&((z2&&x3) != (x2&&z3)))) != (z1&&((x2&&y3) != (y2&&x3)))
theorem A7 {x1 y1 z1 x2 y2 z2 x3 y3 z3:Int} : par (Jf x1 y1 z1 x2 y2 z2 x3 y3 z3)=EC (par x1) (par y1) (par z1) (par x2) (par y2) (par z2) (par x3) (par y3) (par z3):=by
 unfold Jf EC
 simp only [A5,A4,A6]
noncomputable def uu (f:Bool→Bool):Bool:=f false&&f true
theorem cV {f:Bool→Bool} (h:uu f=true) (b:Bool):f b=true:=by
 have k:=Bool.and_eq_true_iff.mp h
 cases b
 ·exact k.1
 ·exact k.2
noncomputable def DD (a b c:Nat):Bool:=uu fun x1=>uu fun y1=>uu fun z1=>!xk a x1 y1 z1 || uu fun x2=>uu fun y2=>uu fun z2=>!xk b x2 y2 z2 || uu fun x3=>uu fun y3=>uu fun z3=>!xk c x3 y3 z3 || EC x1 y1 z1 x2 y2 z2 x3 y3 z3
theorem xm:∀ a < 3,∀ b < 3,∀ c < 3,tv a b c≠0→DD a b c=true:=by decide +kernel
theorem A8 {a b:Bool} (h:(!a || b)=true) (k:a=true):b=true:=by rw [k] at h;exact h
theorem xn {a b c:Nat} (h:DD a b c=true) {x1 y1 z1 x2 y2 z2 x3 y3 z3:Bool} (p1:xk a x1 y1 z1=true) (p2:xk b x2 y2 z2=true) (p3:xk c x3 y3 z3=true):EC x1 y1 z1 x2 y2 z2 x3 y3 z3=true:=
 A8 (cV (cV (cV (A8 (cV (cV (cV (A8 (cV (cV (cV h x1) y1) z1) p1) x2) y2) z2) p2) x3) y3) z3) p3
theorem oa {M d v j:Nat} (h:2 ^ M * d=2 ^ v * (2 * j+1)):M≤v∧(d % 2=1→v=M):=by
 have hM:=Nat.two_pow_pos M
 rcases Nat.lt_or_ge v M with k | k
 ·rw [hG (Nat.le_of_lt k),Nat.mul_assoc] at h
  have h:=Nat.eq_of_mul_eq_mul_left (Nat.two_pow_pos v) h
  have e:(2 ^ (M - v) * d) % 2=0:=by
   obtain ⟨n,hn⟩:=Nat.exists_eq_succ_of_ne_zero (Nat.sub_ne_zero_of_lt k)
   rw [hn,Nat.pow_succ,Nat.mul_comm (2 ^ n),Nat.mul_assoc,Nat.mul_mod_right]
  rw [h,Nat.mul_add_mod] at e
  exact absurd e (by decide)
 ·refine ⟨k,fun hd=>?_⟩
  rw [hG k,Nat.mul_assoc] at h
  have h:=Nat.eq_of_mul_eq_mul_left hM h
  rw [h,tM] at hd
  by_cases e:v - M=0
  ·exact Nat.le_antisymm (Nat.sub_eq_zero_iff_le.mp e) k
  ·rw [if_neg e] at hd;exact absurd hd (by decide)
theorem Cor.Ok.row {c:Cor} (h:c.Ok):∃ x y z:Int,c.x=2 ^ c.mn * x∧c.y=2 ^ c.mn * y∧c.z=2 ^ c.mn * z∧xk c.lp (par x) (par y) (par z)=true:=by
 refine Hh fun G_ k_=>?_
 obtain ⟨l1,l2,l3⟩:=xg c.i c.j c.k
 obtain ⟨x,ex,px⟩:=mM h.vx h.mn l1
 obtain ⟨y,ey,py⟩:=mM h.vy h.mn l2
 obtain ⟨z,ez,pz⟩:=mM h.vz h.mn l3
 refine k_ ?_
 exact ⟨x,y,z,ex,ey,ez,by rw [px,py,pz];exact DC h.ex h.ey h.ez⟩
theorem tP {a b c:Cor} (ha:a.Ok) (hb:b.Ok) (hc:c.Ok):∃ d:Int,ut a b c=2 ^ (a.mn+b.mn+c.mn) * d∧(tv a.lp b.lp c.lp≠0→par d=true):=by
 refine Hh fun G_ k_=>?_
 obtain ⟨x1,y1,z1,e1,e2,e3,p1⟩:=ha.row
 obtain ⟨x2,y2,z2,f1,f2,f3,p2⟩:=hb.row
 obtain ⟨x3,y3,z3,g1,g2,g3,p3⟩:=hc.row
 refine k_ ?_
 refine ⟨Jf x1 y1 z1 x2 y2 z2 x3 y3 z3,?_,fun h=>?_⟩
 ·unfold ut
  rw [e1,e2,e3,f1,f2,f3,g1,g2,g3,tN,Int.pow_add,Int.pow_add]
 ·rw [A7]
  exact xn (xm _ (bH _ _ _) _ (bH _ _ _) _ (bH _ _ _) h) p1 p2 p3
theorem A9 {a b c:Cor} (ha:a.Ok) (hb:b.Ok) (hc:c.Ok) {v:Nat} (h:Vl (ut a b c) v):v=a.mn+b.mn+c.mn∨(tv a.lp b.lp c.lp=0∧(a.mn+b.mn+c.mn < v∨v=99)):=by
 refine Hh fun G_ k_=>?_
 obtain ⟨d,e,k⟩:=tP ha hb hc
 refine k_ ?_
 by_cases ht:tv a.lp b.lp c.lp=0
 ·rcases h with ⟨-,rfl⟩ | ⟨-,j,h⟩
  ·exact .inr ⟨ht,.inr rfl⟩
  ·rw [e,Int.natAbs_mul,Int.natAbs_pow] at h
   rcases Nat.lt_or_eq_of_le (oa h).1 with q | q
   ·exact .inr ⟨ht,.inl q⟩
   ·exact .inl q.symm
 ·have k:=k ht
  rw [tK] at k
  rcases h with ⟨h,-⟩ | ⟨-,j,h⟩
  ·rw [e] at h
   rcases Int.mul_eq_zero.mp h with z | z
   ·exact absurd z (Int.pow_ne_zero (by decide))
   ·rw [z] at k;cases k
  ·rw [e,Int.natAbs_mul,Int.natAbs_pow] at h
   exact .inl ((oa h).2 (eq_of_beq k))
theorem tQ {a b c:Cor} (ha:a.Ok) (hb:b.Ok) (hc:c.Ok) (h:ut a b c=0):tv a.lp b.lp c.lp=0:=by
 refine Hh fun G_ k_=>?_
 obtain ⟨d,e,k⟩:=tP ha hb hc
 refine k_ ?_
 by_cases ht:tv a.lp b.lp c.lp=0
 ·exact ht
 ·have k:=k ht
  rw [e] at h
  rcases Int.mul_eq_zero.mp h with z | z
  ·exact absurd z (Int.pow_ne_zero (by decide))
  ·rw [z] at k;cases k
theorem xo (a b x1 y1 z1 x3 y3 z3:Int):Jf x1 y1 z1 (a * x1+b * x3) (a * y1+b * y3) (a * z1+b * z3) x3 y3 z3=0:=by unfold Jf;grind
theorem G6:∀ a < 3,∀ b < 3,∀ c < 3,∀ f < 3,tv a b f+tv b c f+tv c a f=tv a b c:=by decide +kernel
theorem G7:∀ a < 3,∀ b < 3,∀ c < 3,∀ f < 3,tv a f b=0→tv a f c+tv f b c=tv a b c:=by decide +kernel
theorem rot:∀ a < 3,∀ b < 3,∀ c < 3,tv b c a=tv a b c:=by decide +kernel
end Internal
namespace Internal
noncomputable def Jg (i:Nat):Nat:=([34,92,32,35,97,98,99,100,101]:List Nat).getD i 0
noncomputable def nm (i:Nat):Str:=⟨#[Jg i]⟩
theorem DE:∀ a < 9,∀ b < 9,a≠b→(nm a==nm b)=false:=by decide +kernel
noncomputable def pc (p:Nat×Nat×Nat):Str:=⟨#[Jg p.1,Jg p.2.1,Jg p.2.2]⟩
noncomputable def dD (f:Cor→AV):Nat→List Cor→List (Str×AV)
 |_,[]=>[]
 |k,c::cs=>(nm k,f c)::dD f (k+1) cs
theorem DG {f:Cor→AV} : ∀ {cs:List Cor} {k a:Nat} {c:Cor},k+cs.length≤9→cs[a]? = some c→(dD f k cs).lookup (nm (k+a))=some (f c)
 | [],_,_,_,_,h=>nomatch h
 |d::cs,k,0,c,hl,h=>by
  rw [←Option.some.inj h]
  show List.lookup (nm k) ((nm k,f d)::_)=_
  rw [List.lookup_cons,beq_self_eq_true]
 |d::cs,k,a+1,c,hl,h=>by
  have h:cs[a]? = some c:=h
  have hl:k+(cs.length+1)≤9:=hl
  have ha:=(List.getElem?_eq_some_iff.mp h).1
  have e:k+(a+1)=k+1+a:=by rw [Nat.add_assoc,Nat.add_comm a 1]
  show List.lookup (nm (k+(a+1))) ((nm k,f d)::dD f (k+1) cs)=_
  rw [List.lookup_cons,DE (k+(a+1)) (by omega) k (by omega) (by omega),e]
  exact DG (by rw [Nat.add_assoc,Nat.add_comm 1];exact hl) h
theorem eE {σ:St} {j:Nat} {d:List (Str×AV)} {k:Str} {v:AV} (h:aQ σ j=some d) (hk:d.lookup k=some v):ib σ (.ref j) (.str k)=some v:=by
 show (aQ σ j).bind (fun d=>d.lookup k)=_
 rw [h]
 exact hk
theorem Ba {x:Int} (h:x.natAbs < 2 ^ 64):(decide (Builtin.Int.intBits x≤64))=true:=by
 refine decide_eq_true ?_
 unfold Builtin.Int.intBits
 split
 ·exact Nat.zero_le _
 ·rename_i e
  exact (Nat.log2_lt (fun z=>e (by rw [Int.natAbs_eq_zero.mp z];rfl))).mpr h
theorem tR {x y:Int} (h:x.natAbs < 2 ^ 64):h9 .Mult (.int x) (.int y)=some (.int (x * y)):=by
 show Ho (if (decide (Builtin.Int.intBits x≤64) || decide (Builtin.Int.intBits y≤64))=true then some (AV.int (x * y)) else none) _=_
 rw [Ba h,Bool.true_or,if_pos rfl]
 rfl
structure T3 (σ:St) (ci si:Nat) (p:Nat×Nat×Nat) (A B C:Cor):Prop where
 cd:∃ d,aQ σ ci=some d∧d.lookup (nm p.1)=some A.av∧d.lookup (nm p.2.1)=some B.av∧d.lookup (nm p.2.2)=some C.av
 sd:∃ d,aQ σ si=some d∧d.lookup (nm p.1)=some A.sv∧d.lookup (nm p.2.1)=some B.sv∧d.lookup (nm p.2.2)=some C.sv
noncomputable def Jh (l m:List Int):Bool:=PyData.eqv (.list (l.map .int)) (.list (m.map .int))
noncomputable def Ji (a b c:Nat):Int:=(if Jh [((a:Int) - c).fmod 3,((b:Int) - a).fmod 3,((c:Int) - b).fmod 3] [1,1,1]=true then 1 else 0) - (if Jh [((a:Int) - c).fmod 3,((b:Int) - a).fmod 3,((c:Int) - b).fmod 3] [2,2,2]=true then 1 else 0)
theorem yF:∀ a < 3,∀ b < 3,∀ c < 3,Ji a b c=tv a b c:=by decide +kernel
section
variable {P:Params} {σ:St} {ci si:Nat} {p:Nat×Nat×Nat} {A B C:Cor}
noncomputable abbrev da (ci si:Nat) (p:Nat×Nat×Nat) (A B C:Cor) (sz:UInt64):List (Str×AV):=[("piece", .str (pc p)),("corners", .ref ci),("seen", .ref si),("lamps", .lst [.int (A.lp:Nat),.int (B.lp:Nat),.int (C.lp:Nat)]),("values", .lst [.flt (IB A.mn),.flt (IB B.mn),.flt (IB C.mn)]),
 ("steps", .lst [.int (((A.lp:Int) - C.lp).fmod 3),.int (((B.lp:Int) - A.lp).fmod 3),.int (((C.lp:Int) - B.lp).fmod 3)]),("turn", .int (Ji A.lp B.lp C.lp)),("one", A.av),("two", B.av),("three", C.av),
 ("cross", .lst [.int (B.y * C.z - B.z * C.y),.int (B.z * C.x - B.x * C.z),.int (B.x * C.y - B.y * C.x)]),("size", .flt sz),("whole", .flt (Float64.mul (Float64.mul (IB A.mn) (IB B.mn)) (IB C.mn)))]
theorem Bb (P:Params):aq P 190=[bI P 190 0,bI P 190 1,bI P 190 2,bI P 190 3,bI P 190 4,bI P 190 5,bI P 190 6,bI P 190 7]:=by kernel_rfl
theorem hU {k:Str} {S:Cor} {d:List (Str×AV)} (h:aQ σ si=some d) (hk:d.lookup k=some S.sv) :
  dI 94 (ct P) (EV P 190 ((da ci si p A B C 0).take 3)) (eL (eN (af (bI P 190 0)) 0)) (dF (eN (af (bI P 190 0)) 0)).target [] (aw (eN (af (bI P 190 0)) 0)) (.str k) σ=some (some (.int (S.lp:Nat)),σ,true) ∧
  dI 93 (ct P) (EV P 190 ((da ci si p A B C 0).take 3)) (eL (eN (af (bI P 190 0)) 1)) (dF (eN (af (bI P 190 0)) 1)).target [] (aw (eN (af (bI P 190 0)) 1)) (.str k) σ=some (some (.flt (IB S.mn)),σ,true):=
 ⟨bf (n:=93) (E₁:={ ag (EV P 190 ((da ci si p A B C 0).take 3)) (aw (eN (af (bI P 190 0)) 0)) with vars:=[("seen", .ref si),("name", .str k)] }) (by kernel_rfl)
  (cy (n:=93) (o:=S.sv) (k:=.int 0) (show cf (eL (eN (af (bI P 190 0)) 0)) by kernel_rfl) (by kernel_rfl) (cy (n:=92) (o:=.ref si) (k:=.str k) (show cf (eL (eL (eN (af (bI P 190 0)) 0))) by kernel_rfl) (by kernel_rfl) (by kernel_rfl) (by kernel_rfl) (eE h hk)) (by kernel_rfl) (by kernel_rfl)),
  bf (n:=92) (E₁:={ ag (EV P 190 ((da ci si p A B C 0).take 3)) (aw (eN (af (bI P 190 0)) 1)) with vars:=[("seen", .ref si),("name", .str k)] }) (by kernel_rfl)
  (cy (n:=92) (o:=S.sv) (k:=.int 1) (show cf (eL (eN (af (bI P 190 0)) 1)) by kernel_rfl) (by kernel_rfl) (cy (n:=91) (o:=.ref si) (k:=.str k) (show cf (eL (eL (eN (af (bI P 190 0)) 1))) by kernel_rfl) (by kernel_rfl) (by kernel_rfl) (by kernel_rfl) (eE h hk)) (by kernel_rfl) (by kernel_rfl))⟩
theorem Bc (T:T3 σ ci si p A B C):ak 99 (ct P) (EV P 190 ((da ci si p A B C 0).take 3)) σ (bI P 190 0)=some ((.next,EV P 190 ((da ci si p A B C 0).take 5)),σ,true):=by
 obtain ⟨d,hd,h1,h2,h3⟩:=T.sd
 have s1:=hU (P:=P) (ci:=ci) (p:=p) (A:=A) (B:=B) (C:=C) hd h1
 have s2:=hU (P:=P) (ci:=ci) (p:=p) (A:=A) (B:=B) (C:=C) hd h2
 have s3:=hU (P:=P) (ci:=ci) (p:=p) (A:=A) (B:=B) (C:=C) hd h3
 exact AG (n:=97) (b:=false) (l:=[.lst [.int (A.lp:Nat),.int (B.lp:Nat),.int (C.lp:Nat)],.lst [.flt (IB A.mn),.flt (IB B.mn),.flt (IB C.mn)]]) (show IsTup (bI P 190 0) by kernel_rfl) (by kernel_rfl) (by kernel_rfl)
  ((congrArg (aevs 97 (ct P) _ σ) (show au (af (bI P 190 0))=[eN (af (bI P 190 0)) 0,eN (af (bI P 190 0)) 1] by kernel_rfl)).trans
   (am (n:=96) (bW (n:=94) (held:=false) (items:=[.str (nm p.1),.str (nm p.2.1),.str (nm p.2.2)]) (show bG (eN (af (bI P 190 0)) 0) by kernel_rfl) (by kernel_rfl) (by kernel_rfl) (show 3≤Hk by unfold Hk;decide) (ah s1.1 (ah s2.1 (ah s3.1 rfl))))
    (am (n:=95) (bW (n:=93) (held:=false) (items:=[.str (nm p.1),.str (nm p.2.1),.str (nm p.2.2)]) (show bG (eN (af (bI P 190 0)) 1) by kernel_rfl) (by kernel_rfl) (by kernel_rfl) (show 3≤Hk by unfold Hk;decide) (ah s1.2 (ah s2.2 (ah s3.2 rfl)))) rfl)))
  (show 2≤Hk by unfold Hk;decide) (by kernel_rfl) (by kernel_rfl)
theorem Bd:ak 98 (ct P) (EV P 190 ((da ci si p A B C 0).take 5)) σ (bI P 190 1)=some ((.next,EV P 190 ((da ci si p A B C 0).take 6)),σ,true):=by kernel_rfl
theorem Be:ak 97 (ct P) (EV P 190 ((da ci si p A B C 0).take 6)) σ (bI P 190 2)=some ((.next,EV P 190 ((da ci si p A B C 0).take 7)),σ,true):=by kernel_rfl
end
end Internal
namespace Internal
theorem mN {x:Int} (h:x.natAbs < 2 ^ 13):x.natAbs < 2 ^ 64:=Nat.lt_trans h (by decide)
theorem mO {x y:Int} {a b:Nat} (h1:x.natAbs < 2 ^ a) (h2:y.natAbs < 2 ^ b):(x * y).natAbs < 2 ^ (a+b):=by
 rw [Int.natAbs_mul,Nat.pow_add]
 exact Nat.mul_lt_mul'' h1 h2
theorem Bf {x y:Int} {a:Nat} (h1:x.natAbs < 2 ^ a) (h2:y.natAbs < 2 ^ a):(x - y).natAbs < 2 ^ (a+1):=
 Nat.lt_of_le_of_lt (Int.natAbs_sub_le _ _) (by rw [Nat.pow_succ,Nat.mul_two];exact Nat.add_lt_add h1 h2)
theorem tS {x y:Int} {a:Nat} (h1:x.natAbs < 2 ^ a) (h2:y.natAbs < 2 ^ a):(x+y).natAbs < 2 ^ (a+1):=
 Nat.lt_of_le_of_lt (Int.natAbs_add_le _ _) (by rw [Nat.pow_succ,Nat.mul_two];exact Nat.add_lt_add h1 h2)
theorem DH {x:Int} {a:Nat} (h:x.natAbs < 2 ^ a):x.natAbs < 2 ^ (a+1):=Nat.lt_trans h (Nat.pow_lt_pow_right (by decide) (Nat.lt_succ_self a))
theorem DI {A B C:Cor} (hA:A.Ok) (hB:B.Ok) (hC:C.Ok):(ut A B C).natAbs < 2 ^ 42:=by
 have q:=fun {x y z u v:Int} (h1:x.natAbs < 2 ^ 13) (h2:y.natAbs < 2 ^ 13) (h3:z.natAbs < 2 ^ 13) (h4:u.natAbs < 2 ^ 13) (h5:v.natAbs < 2 ^ 13)=>mO (a:=13) (b:=27) h1 (Bf (mO h2 h3) (mO h4 h5))
 exact tS (tS (q hA.lx hB.ly hC.lz hB.lz hC.ly) (q hA.ly hB.lz hC.lx hB.lx hC.lz)) (DH (q hA.lz hB.lx hC.ly hB.ly hC.lx))
noncomputable def v45:List Nat:=List.range 42++[99]
theorem Bg {a b c:Nat} (ha:a∈m13) (hb:b∈m13) (hc:c∈m13):Float64.mul (Float64.mul (IB a) (IB b)) (IB c)=IB (a+b+c):=by
 have t:(List.range 25).all (fun a=>(List.range 13).all fun b=>Float64.mul (IB a) (IB b)==IB (a+b))=true:=by kernel_rfl
 have k:=fun {a b:Nat} (ha:a < 25) (hb:b < 13)=>eq_of_beq (List.all_eq_true.mp (List.all_eq_true.mp t a (List.mem_range.mpr ha)) b (List.mem_range.mpr hb))
 have m:=show ∀ a∈m13,a < 13 by decide
 rw [k (Nat.lt_trans (m a ha) (by decide)) (m b hb),k (Nat.add_lt_add_of_lt_of_le (m a ha) (Nat.le_of_lt_succ (m b hb))) (m c hc)]
theorem Bh {v w:Nat} (hv:v∈v45) (hw:w < 37):bP (IB v) (IB w)=(v==w)∧xS (Float64.cmp (IB v) (IB w))=decide (w < v):=by
 have t:v45.all (fun v=>(List.range 37).all fun w=>bP (IB v) (IB w)==(v==w)&&xS (Float64.cmp (IB v) (IB w))==decide (w < v))=true:=by kernel_rfl
 have k:=Bool.and_eq_true_iff.mp (List.all_eq_true.mp (List.all_eq_true.mp t v hv) w (List.mem_range.mpr hw))
 exact ⟨eq_of_beq k.1,eq_of_beq k.2⟩
section
variable {P:Params} {σ:St} {ci si:Nat} {p:Nat×Nat×Nat} {A B C:Cor} {s:UInt64}
theorem jO {k:Str} {S:Cor} {d:List (Str×AV)} (h:aQ σ ci=some d) (hk:d.lookup k=some S.av) :
  dI 93 (ct P) (EV P 190 ((da ci si p A B C 0).take 7)) (eL (af (bI P 190 3))) (dF (af (bI P 190 3))).target [] (aw (af (bI P 190 3))) (.str k) σ=some (some S.av,σ,true):=
 bf (n:=92) (E₁:={ ag (EV P 190 ((da ci si p A B C 0).take 7)) (aw (af (bI P 190 3))) with vars:=[("corners", .ref ci),("name", .str k)] }) (by kernel_rfl)
  (cy (n:=92) (o:=.ref ci) (k:=.str k) (show cf (eL (af (bI P 190 3))) by kernel_rfl) (by kernel_rfl) (by kernel_rfl) (by kernel_rfl) (eE h hk))
theorem Bi (T:T3 σ ci si p A B C):ak 96 (ct P) (EV P 190 ((da ci si p A B C 0).take 7)) σ (bI P 190 3)=some ((.next,EV P 190 ((da ci si p A B C 0).take 10)),σ,true):=by
 obtain ⟨d,hd,h1,h2,h3⟩:=T.cd
 exact Fo (n:=95) (v:=.lst [A.av,B.av,C.av]) (show Fj (bI P 190 3) by kernel_rfl)
  (bW (n:=93) (held:=false) (items:=[.str (nm p.1),.str (nm p.2.1),.str (nm p.2.2)]) (elt:=eL (af (bI P 190 3))) (target:=(dF (af (bI P 190 3))).target) (iter:=(dF (af (bI P 190 3))).iter) (scope:=aw (af (bI P 190 3))) (pos:=cA (af (bI P 190 3))) (by kernel_rfl) (by kernel_rfl) (by kernel_rfl) (show 3≤Hk by unfold Hk;decide)
   (ah (jO hd h1) (ah (jO hd h2) (ah (jO hd h3) rfl)))) (by kernel_rfl)
noncomputable def Jj (P:Params):Expr:=eL (af (bI P 190 4))
noncomputable abbrev DJ (P:Params) (ci si:Nat) (p:Nat×Nat×Nat) (A B C:Cor) (k:Int):AEnv:={ ag (EV P 190 ((da ci si p A B C 0).take 10)) (aw (af (bI P 190 4))) with vars:=[("two", B.av),("three", C.av),("k", .int k)] }
theorem fJ {k u v w z:Int} (h0:aA (ag (EV P 190 ((da ci si p A B C 0).take 10)) (aw (af (bI P 190 4)))) (dF (af (bI P 190 4))).target (.int k)=some (DJ P ci si p A B C k)) (h1:Hs 90 (ct P) (DJ P ci si p A B C k) σ (eL (eL (Jj P)))=some (.int u,σ,true)) (h2:Hs 90 (ct P) (DJ P ci si p A B C k) σ (eR (eL (Jj P)))=some (.int v,σ,true)) (h3:Hs 90 (ct P) (DJ P ci si p A B C k) σ (eL (eR (Jj P)))=some (.int w,σ,true)) (h4:Hs 90 (ct P) (DJ P ci si p A B C k) σ (eR (eR (Jj P)))=some (.int z,σ,true)) (hu:u.natAbs < 2 ^ 13) (hw:w.natAbs < 2 ^ 13) :
  dI 92 (ct P) (EV P 190 ((da ci si p A B C 0).take 10)) (Jj P) (dF (af (bI P 190 4))).target [] (aw (af (bI P 190 4))) (.int k) σ=some (some (.int (u * v - w * z)),σ,true):=
 bf (n:=91) h0 (bA (n:=91) (show bw (Jj P) .Sub by kernel_rfl) (bA (n:=90) (show bw (eL (Jj P)) .Mult by kernel_rfl) h1 h2 (tR (mN hu))) (bA (n:=90) (show bw (eR (Jj P)) .Mult by kernel_rfl) h3 h4 (tR (mN hw))) (by kernel_rfl))
theorem Bj (hB:B.Ok):ak 95 (ct P) (EV P 190 ((da ci si p A B C 0).take 10)) σ (bI P 190 4)=some ((.next,EV P 190 ((da ci si p A B C 0).take 11)),σ,true):=
 bO (n:=94) (show bN (bI P 190 4) "cross" by kernel_rfl) (by kernel_rfl) (bW (n:=92) (held:=false) (items:=[.int 0,.int 1,.int 2]) (show bG (af (bI P 190 4)) by kernel_rfl) (by kernel_rfl) (by kernel_rfl) (show 3≤Hk by unfold Hk;decide)
  (ah (fJ (u:=B.y) (v:=C.z) (w:=B.z) (z:=C.y) (by kernel_rfl) (by kernel_rfl) (by kernel_rfl) (by kernel_rfl) (by kernel_rfl) hB.ly hB.lz) (ah (fJ (u:=B.z) (v:=C.x) (w:=B.x) (z:=C.z) (by kernel_rfl) (by kernel_rfl) (by kernel_rfl) (by kernel_rfl) (by kernel_rfl) hB.lz hB.lx) (ah (fJ (u:=B.x) (v:=C.y) (w:=B.y) (z:=C.x) (by kernel_rfl) (by kernel_rfl) (by kernel_rfl) (by kernel_rfl) (by kernel_rfl) hB.lx hB.ly) rfl)))) (by kernel_rfl)
noncomputable def Jk (P:Params):Expr:=eN (eN (af (bI P 190 5)) 0) 0
theorem jP {k u v:Int} (h0:aA (ag (EV P 190 ((da ci si p A B C 0).take 11)) (aw (Jk P))) (dF (Jk P)).target (.int k)=some { ag (EV P 190 ((da ci si p A B C 0).take 11)) (aw (Jk P)) with vars:=[("one", A.av),("cross", .lst [.int (B.y * C.z - B.z * C.y),.int (B.z * C.x - B.x * C.z),.int (B.x * C.y - B.y * C.x)]),("k", .int k)] })
  (h1:Hs 86 (ct P) { ag (EV P 190 ((da ci si p A B C 0).take 11)) (aw (Jk P)) with vars:=[("one", A.av),("cross", .lst [.int (B.y * C.z - B.z * C.y),.int (B.z * C.x - B.x * C.z),.int (B.x * C.y - B.y * C.x)]),("k", .int k)] } σ (eL (eL (Jk P)))=some (.int u,σ,true))
  (h2:Hs 86 (ct P) { ag (EV P 190 ((da ci si p A B C 0).take 11)) (aw (Jk P)) with vars:=[("one", A.av),("cross", .lst [.int (B.y * C.z - B.z * C.y),.int (B.z * C.x - B.x * C.z),.int (B.x * C.y - B.y * C.x)]),("k", .int k)] } σ (eR (eL (Jk P)))=some (.int v,σ,true)) (hu:u.natAbs < 2 ^ 13) :
  dI 87 (ct P) (EV P 190 ((da ci si p A B C 0).take 11)) (eL (Jk P)) (dF (Jk P)).target [] (aw (Jk P)) (.int k) σ=some (some (.int (u * v)),σ,true):=
 bf (n:=86) h0 (bA (n:=86) (show bw (eL (Jk P)) .Mult by kernel_rfl) h1 h2 (tR (mN hu)))
theorem Bk (hA:A.Ok) {v:Nat} (hv:Vl (ut A B C) v):ak 94 (ct P) (EV P 190 ((da ci si p A B C 0).take 11)) σ (bI P 190 5)=some ((.next,EV P 190 ((da ci si p A B C (IB v)).take 12)),σ,true):=by
 have c:Hs 89 (ct P) (EV P 190 ((da ci si p A B C 0).take 11)) σ (Jk P)=some (.lst [.int (A.x * (B.y * C.z - B.z * C.y)),.int (A.y * (B.z * C.x - B.x * C.z)),.int (A.z * (B.x * C.y - B.y * C.x))],σ,true):=
  bW (n:=87) (held:=false) (items:=[.int 0,.int 1,.int 2]) (show bG (Jk P) by kernel_rfl) (by kernel_rfl) (by kernel_rfl) (show 3≤Hk by unfold Hk;decide)
   (ah (jP (u:=A.x) (v:=B.y * C.z - B.z * C.y) (by kernel_rfl) (by kernel_rfl) (by kernel_rfl) hA.lx) (ah (jP (u:=A.y) (v:=B.z * C.x - B.x * C.z) (by kernel_rfl) (by kernel_rfl) (by kernel_rfl) hA.ly) (ah (jP (u:=A.z) (v:=B.x * C.y - B.y * C.x) (by kernel_rfl) (by kernel_rfl) (by kernel_rfl) hA.lz) rfl)))
 have e:A.x * (B.y * C.z - B.z * C.y)+(A.y * (B.z * C.x - B.x * C.z)+(A.z * (B.x * C.y - B.y * C.x)+0))=ut A B C:=by rw [Int.add_zero,←Int.add_assoc];rfl
 have s:Hs 91 (ct P) (EV P 190 ((da ci si p A B C 0).take 11)) σ (eN (af (bI P 190 5)) 0)=some (.int (ut A B C),σ,true):=by
  rw [←e]
  exact (aP (n:=90) (w:=.builtin "sum") (Φ:=ya) (show aO (eN (af (bI P 190 5)) 0) "sum" by kernel_rfl) (by kernel_rfl) (by kernel_rfl) ((congrArg (aevs 90 (ct P) _ σ) (show au (eN (af (bI P 190 5)) 0)=[Jk P] by kernel_rfl)).trans (am (n:=89) c rfl))).trans rfl
 exact bO (n:=93) (show bN (bI P 190 5) "size" by kernel_rfl) (by kernel_rfl) ((aP (n:=92) (w:=.ref 180) (Φ:=BX P) (show aO (af (bI P 190 5)) "_law_size" by kernel_rfl) (by kernel_rfl) (by kernel_rfl) ((congrArg (aevs 92 (ct P) _ σ) (show au (af (bI P 190 5))=[eN (af (bI P 190 5)) 0] by kernel_rfl)).trans (am (n:=91) s rfl))).trans (n8 hv)) (by kernel_rfl)
theorem Bl:ak 93 (ct P) (EV P 190 ((da ci si p A B C s).take 12)) σ (bI P 190 6)=some ((.next,EV P 190 (da ci si p A B C s)),σ,true):=by kernel_rfl
end
end Internal
namespace Internal
section
variable {P:Params} {σ:St} {ci si:Nat} {p:Nat×Nat×Nat} {A B C:Cor}
noncomputable def Jl (P:Params):Expr:=eT (af (bI P 190 7))
theorem Bm (hA:A.Ok) (hB:B.Ok) (hC:C.Ok) {v:Nat} (hv:Vl (ut A B C) v) (h45:v∈v45):atest 90 (ct P) (EV P 190 (da ci si p A B C (IB v))) σ (Jl P)=some (true,σ,true):=by
 have hw:=Bg hA.mn hB.mn hC.mn
 have m:=show ∀ a∈m13,a≤12 by decide
 have hl:A.mn+B.mn+C.mn < 37:=Nat.lt_succ_of_le (Nat.add_le_add (Nat.add_le_add (m _ hA.mn) (m _ hB.mn)) (m _ hC.mn))
 obtain ⟨q1,q2⟩:=Bh h45 hl
 have h1:atest 88 (ct P) (EV P 190 (da ci si p A B C (IB v))) σ (eN (Jl P) 0)=some (bP (IB v) (Float64.mul (Float64.mul (IB A.mn) (IB B.mn)) (IB C.mn)),σ,true):=by kernel_rfl
 rw [hw,q1] at h1
 refine (iU (n:=89) (show iS (Jl P) .Or by kernel_rfl)).trans ((congrArg (aall 89 (ct P) _ σ .Or) (show au (Jl P)=[eN (Jl P) 0,eN (Jl P) 1] by kernel_rfl)).trans ?_)
 by_cases e:v=A.mn+B.mn+C.mn
 ·rw [e,beq_self_eq_true] at h1
  rw [e]
  exact Gl (n:=88) h1
 ·rw [beq_false_of_ne e] at h1
  obtain ⟨t,r⟩:=(A9 hA hB hC hv).resolve_left e
  have r:A.mn+B.mn+C.mn < v:=r.elim id fun r=>r▸Nat.lt_trans hl (by decide)
  have h2:atest 86 (ct P) (EV P 190 (da ci si p A B C (IB v))) σ (eN (eN (Jl P) 1) 0)=some (Ji A.lp B.lp C.lp==0,σ,true):=by kernel_rfl
  have h3:atest 85 (ct P) (EV P 190 (da ci si p A B C (IB v))) σ (eN (eN (Jl P) 1) 1)=some (xS (Float64.cmp (IB v) (Float64.mul (Float64.mul (IB A.mn) (IB B.mn)) (IB C.mn))),σ,true):=by kernel_rfl
  rw [yF A.lp (bH _ _ _) B.lp (bH _ _ _) C.lp (bH _ _ _),t] at h2
  rw [hw,q2,decide_eq_true r] at h3
  refine (yu (n:=88) h1).trans (Gl (n:=87) ?_)
  exact (iU (n:=87) (show iS (eN (Jl P) 1) .And by kernel_rfl)).trans ((congrArg (aall 87 (ct P) _ σ .And) (show au (eN (Jl P) 1)=[eN (eN (Jl P) 1) 0,eN (eN (Jl P) 1) 1] by kernel_rfl)).trans ((AD (n:=86) h2).trans ((AD (n:=85) h3).trans rfl)))
theorem xq (hA:A.Ok) (hB:B.Ok) (hC:C.Ok) (T:T3 σ ci si p A B C):Ey P [.str (pc p),.ref ci,.ref si] σ=some (.int (tv A.lp B.lp C.lp),σ,true):=by
 obtain ⟨v,hv,hb⟩:=w8 (B:=42) (by decide) (DI hA hB hC)
 have h45:v∈v45:=by
  rcases hb with h | rfl
  ·exact List.mem_append_left _ (List.mem_range.mpr h)
  ·exact List.mem_append_right _ (List.mem_singleton.mpr rfl)
 rw [←yF A.lp (bH _ _ _) B.lp (bH _ _ _) C.lp (bH _ _ _)]
 exact cz (vs:=(da ci si p A B C 0).take 3) (by kernel_rfl) ((congrArg (res 100 (ct P) _ σ) (Bb P)).trans ((Ir (n:=99) _ (Bc T)).trans ((Ir (n:=98) _ Bd).trans ((Ir (n:=97) _ Be).trans ((Ir (n:=96) _ (Bi T)).trans ((Ir (n:=95) _ (Bj hB)).trans ((Ir (n:=94) _ (Bk hA hv)).trans ((Ir (n:=93) _ Bl).trans
  (jH (n:=92) (EV P 190 (da ci si p A B C (IB v))) (fj (n:=91) (show jF (bI P 190 7) by kernel_rfl) ((pN (n:=90) (show pM (af (bI P 190 7)) by kernel_rfl) (Bm hA hB hC hv h45)).trans (show Hs 90 (ct P) _ σ (eL (af (bI P 190 7)))=_ by kernel_rfl))))))))))))
end
end Internal
namespace Internal
noncomputable def xr (a b c:Bool):List AV:=(match a with | true=>[.int 0] | false=>[])++((match b with | true=>[.int 1] | false=>[])++(match c with | true=>[.int 2] | false=>[]))
noncomputable def oe (a b c:Bool):Nat:=match a with | true=>0 | false=>match b with | true=>1 | false=>match c with | true=>2 | false=>0
theorem tT {a b c:Bool} : (match a with | true=>some (AV.int 0) | false=>none).elim ((match b with | true=>some (AV.int 1) | false=>none).elim ((match c with | true=>some (AV.int 2) | false=>none).elim [] (· :: [])) (· :: (match c with | true=>some (AV.int 2) | false=>none).elim [] (· :: []))) (· :: (match b with | true=>some (AV.int 1) | false=>none).elim ((match c with | true=>some (AV.int 2) | false=>none).elim [] (· :: [])) (· :: (match c with | true=>some (AV.int 2) | false=>none).elim [] (· :: [])))=xr a b c:=by
 cases a<;>cases b<;>cases c<;>rfl
theorem xt {a b c:Bool} : h9 .Add (.lst (xr a b c)) (.lst [.int 0])=some (.lst (xr a b c++[.int 0])):=by
 cases a<;>cases b<;>cases c<;>kernel_rfl
theorem xu {σ:St} {a b c:Bool} : ib σ (.lst (xr a b c++[.int 0])) (.int 0)=some (.int (oe a b c:Nat)):=by
 cases a<;>cases b<;>cases c<;>kernel_rfl
noncomputable def eF {α:Type} (f:Nat) (p:α×α×α):α×α×α:=match f with | 0=>p | 1=>(p.2.1,p.2.2,p.1) | _=>(p.2.2,p.1,p.2.1)
noncomputable def lb (S:Cor) (n:Int):Bool:=((S.lp:Nat):Int)==n.fmod 3
noncomputable def t0 (n:Int):Int:=1+(n.fdiv 6).fmod 4
noncomputable def t1 (n:Int):Int:=1+(n.fdiv 24).fmod 4
noncomputable def t2 (n:Int):Int:=(n.fdiv 3).fmod 2 * (1+(n.fdiv 96).fmod 4)
section
variable {P:Params} {σ:St} {ci si L f:Nat} {p q:Nat×Nat×Nat} {A B C:Cor} {n:Int}
noncomputable abbrev gb (ci si:Nat) (p:Nat×Nat×Nat) (n:Int) (f:Nat) (q:Nat×Nat×Nat) (L:Nat):List (Str×AV):=[("piece", .str (pc p)),("number", .int n),("corners", .ref ci),("seen", .ref si),("first", .int f),("names", .str (pc q)),("times", .lst [.int (t0 n),.int (t1 n),.int (t2 n)]),("fresh", .str (nm L))]
theorem Bn (P:Params):aq P 195=[bI P 195 0,bI P 195 1,bI P 195 2,bI P 195 3,bI P 195 4,bI P 195 5,bI P 195 6,bI P 195 7]:=by kernel_rfl
noncomputable def Jm (P:Params):Expr:=eL (eL (af (bI P 195 0)))
theorem fK {k:Int} {i:Nat} {S:Cor} {d:List (Str×AV)} (hd:aQ σ si=some d) (hs:d.lookup (nm i)=some S.sv)
  (h0:aA (ag (EV P 195 ((gb ci si p n 0 p 0).take 4)) (aw (Jm P))) (dF (Jm P)).target (.int k)=some { ag (EV P 195 ((gb ci si p n 0 p 0).take 4)) (aw (Jm P)) with vars:=[("piece", .str (pc p)),("number", .int n),("seen", .ref si),("k", .int k)] })
  (h1:Hs 90 (cc P) { ag (EV P 195 ((gb ci si p n 0 p 0).take 4)) (aw (Jm P)) with vars:=[("piece", .str (pc p)),("number", .int n),("seen", .ref si),("k", .int k)] } σ (eR (eL (eL (Ip (Jm P)))))=some (.str (nm i),σ,true)) :
  dI 94 (cc P) (EV P 195 ((gb ci si p n 0 p 0).take 4)) (eL (Jm P)) (dF (Jm P)).target [Ip (Jm P)] (aw (Jm P)) (.int k) σ=some (match lb S n with | true=>some (.int k) | false=>none,σ,true):=by
 refine (mI (n:=93) (c:=lb S n) (v:=.int k) h0 (mJ (n:=91) (a:=.int (S.lp:Nat)) (b:=.int (n.fmod 3)) (show jG (Ip (Jm P)) .Eq by kernel_rfl) (by kernel_rfl)
  (cy (n:=91) (o:=S.sv) (k:=.int 0) (show cf (eL (Ip (Jm P))) by kernel_rfl) (by kernel_rfl) (cy (n:=90) (o:=.ref si) (k:=.str (nm i)) (show cf (eL (eL (Ip (Jm P)))) by kernel_rfl) (by kernel_rfl) (by kernel_rfl) h1 (eE hd hs)) (by kernel_rfl) (by kernel_rfl)) (by kernel_rfl) (by kernel_rfl)) (by kernel_rfl)).trans ?_
 cases lb S n<;>rfl
theorem Bo (T:T3 σ ci si p A B C):ak 99 (cc P) (EV P 195 ((gb ci si p n 0 p 0).take 4)) σ (bI P 195 0)=some ((.next,EV P 195 ((gb ci si p n (oe (lb A n) (lb B n) (lb C n)) p 0).take 5)),σ,true):=by
 refine Hh fun G_ k_=>?_
 obtain ⟨d,hd,h1,h2,h3⟩:=T.sd
 refine k_ ?_
 have c:=bW (n:=94) (held:=false) (C:=cc P) (E:=EV P 195 ((gb ci si p n 0 p 0).take 4)) (σ:=σ) (items:=[.int 0,.int 1,.int 2]) (show mH (Jm P) by kernel_rfl) (by kernel_rfl) (by kernel_rfl) (show 3≤Hk by unfold Hk;decide)
  (dS (fK hd h1 (by kernel_rfl) (by kernel_rfl)) (dS (fK hd h2 (by kernel_rfl) (by kernel_rfl)) (dS (fK hd h3 (by kernel_rfl) (by kernel_rfl)) rfl)))
 rw [tT] at c
 exact bO (n:=98) (show bN (bI P 195 0) "first" by kernel_rfl) (by kernel_rfl) (cy (n:=97) (k:=.int 0) (show cf (af (bI P 195 0)) by kernel_rfl) (by kernel_rfl) (bA (n:=96) (show bw (eL (af (bI P 195 0))) .Add by kernel_rfl) c (by kernel_rfl) xt) (by kernel_rfl) xu) (by kernel_rfl)
theorem Bp (hf:f < 3):ak 98 (cc P) (EV P 195 ((gb ci si p n f p 0).take 5)) σ (bI P 195 1)=some ((.next,EV P 195 ((gb ci si p n f (eF f p) 0).take 6)),σ,true):=
 match f,hf with
 |0,_=>by kernel_rfl
 |1,_=>by kernel_rfl
 |2,_=>by kernel_rfl
 |f+3,h=>absurd h (by omega)
theorem G8 (x:Int):(x.fmod 2).natAbs < 2 ^ 64:=by
 have h0:=Int.fmod_nonneg_of_pos x (show (0:Int) < 2 by decide)
 have h1:=Int.fmod_lt_of_pos x (show (0:Int) < 2 by decide)
 omega
theorem Bq:ak 97 (cc P) (EV P 195 ((gb ci si p n f q 0).take 6)) σ (bI P 195 2)=some ((.next,EV P 195 ((gb ci si p n f q 0).take 7)),σ,true):=
 bO (n:=96) (show bN (bI P 195 2) "times" by kernel_rfl) (by kernel_rfl) (n7 (n:=95) (v:=.lst [.int (t0 n),.int (t1 n),.int (t2 n)]) (show IsList (af (bI P 195 2)) by kernel_rfl) (by kernel_rfl)
  ((congrArg (aevs 95 (cc P) _ σ) (show au (af (bI P 195 2))=[eN (af (bI P 195 2)) 0,eN (af (bI P 195 2)) 1,eN (af (bI P 195 2)) 2] by kernel_rfl)).trans (am (n:=94) (v:=.int (t0 n)) (by kernel_rfl) (am (n:=93) (v:=.int (t1 n)) (by kernel_rfl) (am (n:=92) (v:=.int (t2 n)) (bA (n:=91) (show bw (eN (af (bI P 195 2)) 2) .Mult by kernel_rfl) (a:=.int ((n.fdiv 3).fmod 2)) (b:=.int (1+(n.fdiv 96).fmod 4)) (by kernel_rfl) (by kernel_rfl) (tR (G8 _))) rfl)))) (by kernel_rfl)) (by kernel_rfl)
theorem Br {j:Nat} {d:List (Str×AV)} (h:aQ σ j=some d) (hl:d.length≤Hk):me lG [.ref j] σ=some (.int d.length,σ,true):=by
 have e:aF σ j=none:=by
  unfold aQ at h
  unfold aF
  split at h
  ·rename_i z;rw [z]
  ·cases h
 show els (ij (bp σ (.ref j))) _ (els (aQ σ j) _ _)=_
 rw [show bp σ (.ref j) = .ref j by show (match aF σ j with | some l=>AV.lst l | none=>.ref j)=_;rw [e],h]
 show eZ σ d.length=_
 unfold eZ
 rw [if_pos hl]
theorem Bs (h4:4≤L) (h8:L≤8) {d:List (Str×AV)} (hd:aQ σ ci=some d) (hl:d.length=L):ak 96 (cc P) (EV P 195 ((gb ci si p n f q 0).take 7)) σ (bI P 195 3)=some ((.next,EV P 195 (gb ci si p n f q L)),σ,true):=by
 have hn:ib σ (.str "abcde") (.int ((L:Int) - 4))=some (.str (nm L)):=by
  match L,h4,h8 with
  |4,_,_=>kernel_rfl
  |5,_,_=>kernel_rfl
  |6,_,_=>kernel_rfl
  |7,_,_=>kernel_rfl
  |8,_,_=>kernel_rfl
  |L+9,_,h=>exact absurd h (by omega)
 exact bO (n:=95) (show bN (bI P 195 3) "fresh" by kernel_rfl) (by kernel_rfl) (cy (n:=94) (o:=.str "abcde") (show cf (af (bI P 195 3)) by kernel_rfl) (by kernel_rfl) (by kernel_rfl) (bA (n:=93) (show bw (eR (af (bI P 195 3))) .Sub by kernel_rfl) (a:=.int L) (b:=.int 4) ((aP (n:=92) (w:=.builtin "len") (as:=[.ref ci]) (Φ:=me lG) (show aO (eL (eR (af (bI P 195 3)))) "len" by kernel_rfl) (by kernel_rfl) (by kernel_rfl) (by kernel_rfl)).trans (hl▸Br hd (by rw [hl];exact Nat.le_trans h8 (by unfold Hk;decide)))) (by kernel_rfl) (by kernel_rfl)) hn) (by kernel_rfl)
end
end Internal
namespace Internal
theorem lq (n:Int):1≤t0 n∧t0 n≤4:=by
 have h0:=Int.fmod_nonneg_of_pos (n.fdiv 6) (show (0:Int) < 4 by decide)
 have h1:=Int.fmod_lt_of_pos (n.fdiv 6) (show (0:Int) < 4 by decide)
 unfold t0
 omega
theorem lr (n:Int):1≤t1 n∧t1 n≤4:=by
 have h0:=Int.fmod_nonneg_of_pos (n.fdiv 24) (show (0:Int) < 4 by decide)
 have h1:=Int.fmod_lt_of_pos (n.fdiv 24) (show (0:Int) < 4 by decide)
 unfold t1
 omega
theorem ls (n:Int):0≤t2 n∧t2 n≤4:=by
 have h0:=Int.fmod_nonneg_of_pos (n.fdiv 96) (show (0:Int) < 4 by decide)
 have h1:=Int.fmod_lt_of_pos (n.fdiv 96) (show (0:Int) < 4 by decide)
 have h2:=Int.fmod_nonneg_of_pos (n.fdiv 3) (show (0:Int) < 2 by decide)
 have h3:=Int.fmod_lt_of_pos (n.fdiv 3) (show (0:Int) < 2 by decide)
 unfold t2
 generalize (n.fdiv 3).fmod 2=a at *
 have h:a=0∨a=1:=by omega
 rcases h with rfl | rfl
 ·rw [Int.zero_mul];decide
 ·rw [Int.one_mul];omega
theorem Bt {x:Int} (h0:0≤x) (h4:x≤4):x.natAbs < 2 ^ 64:=by omega
noncomputable def mix (n a b c:Int):Int:=t0 n * a+(t1 n * b+(t2 n * c+0))
theorem mP {σ:St} {j:Nat} {d:List (Str×AV)} {k:Str} {v:AV} (h:aQ σ j=some d) (hl:d.length≤Hk):Co σ (.ref j) (.str k) v=some (σ.set j (.dic (upd d k v))):=by
 show (aQ σ j).bind (fun d=>if d.length≤Hk then some (σ.set j (.dic (upd d k v))) else none)=_
 rw [h]
 exact if_pos hl
theorem oh:∀ {d:List (Str×AV)} {k:Str} {v:AV},(upd d k v).lookup k=some v
 | [],k,v=>by
  show List.lookup k [(k,v)]=_
  rw [List.lookup_cons,beq_self_eq_true]
 |(y,u)::d,k,v=>by
  unfold upd
  by_cases h:y=k
  ·rw [if_pos h,List.lookup_cons,beq_self_eq_true]
  ·rw [if_neg h,List.lookup_cons,beq_false_of_ne (Ne.symm h)]
   exact oh
theorem DK {σ:St} {j:Nat} {d:List (Str×AV)} (h:aQ σ j=some d):j < σ.length:=by
 unfold aQ at h
 split at h
 ·rename_i z;exact (List.getElem?_eq_some_iff.mp z).1
 ·cases h
theorem Bu {σ:St} {j:Nat} {d:List (Str×AV)} (h:j < σ.length):aQ (σ.set j (.dic d)) j=some d:=by
 unfold aQ
 rw [List.getElem?_set_self h]
theorem DL {σ:St} {i j:Nat} {o:AObj} (h:i≠j):aQ (σ.set i o) j=aQ σ j:=by
 unfold aQ
 rw [List.getElem?_set_ne h]
section
variable {P:Params} {σ:St} {ci si L f:Nat} {p q:Nat×Nat×Nat} {A B C:Cor} {n:Int}
noncomputable def Jn (P:Params):Expr:=af (bI P 195 4)
noncomputable def Jo (P:Params):Expr:=eN (eL (Jn P)) 0
noncomputable abbrev EO (P:Params) (ci si:Nat) (p:Nat×Nat×Nat) (n:Int) (f:Nat) (q:Nat×Nat×Nat) (L:Nat) (i:Int):AEnv:={ ag (EV P 195 (gb ci si p n f q L)) (aw (Jn P)) with vars:=[("corners", .ref ci),("names", .str (pc q)),("times", .lst [.int (t0 n),.int (t1 n),.int (t2 n)]),("i", .int i)] }
noncomputable abbrev EI (P:Params) (ci si:Nat) (p:Nat×Nat×Nat) (n:Int) (f:Nat) (q:Nat×Nat×Nat) (L:Nat) (i k:Int):AEnv:={ ag (EO P ci si p n f q L i) (aw (Jo P)) with vars:=[("corners", .ref ci),("names", .str (pc q)),("times", .lst [.int (t0 n),.int (t1 n),.int (t2 n)]),("i", .int i),("k", .int k)] }
theorem jQ {i k t u:Int} {a:Nat} {S:Cor} {d:List (Str×AV)} (hd:aQ σ ci=some d) (hs:d.lookup (nm a)=some S.av)
  (h0:aA (ag (EO P ci si p n f q L i) (aw (Jo P))) (dF (Jo P)).target (.int k)=some (EI P ci si p n f q L i k))
  (h1:Hs 87 (cc P) (EI P ci si p n f q L i k) σ (eL (eL (Jo P)))=some (.int t,σ,true)) (h2:Hs 85 (cc P) (EI P ci si p n f q L i k) σ (eR (eL (eR (eL (Jo P)))))=some (.str (nm a),σ,true)) (h3:ib σ S.av (.int i)=some (.int u)) (ht:t.natAbs < 2 ^ 64) :
  dI 88 (cc P) (EO P ci si p n f q L i) (eL (Jo P)) (dF (Jo P)).target [] (aw (Jo P)) (.int k) σ=some (some (.int (t * u)),σ,true):=
 bf (n:=87) h0 (bA (n:=87) (show bw (eL (Jo P)) .Mult by kernel_rfl) h1 (cy (n:=86) (o:=S.av) (k:=.int i) (show cf (eR (eL (Jo P))) by kernel_rfl) (by kernel_rfl) (cy (n:=85) (o:=.ref ci) (k:=.str (nm a)) (show cf (eL (eR (eL (Jo P)))) by kernel_rfl) (by kernel_rfl) (by kernel_rfl) h2 (eE hd hs)) (by kernel_rfl) h3) (tR ht))
theorem mQ (T:T3 σ ci si q A B C) {i u v w:Int} (h0:aA (ag (EV P 195 (gb ci si p n f q L)) (aw (Jn P))) (dF (Jn P)).target (.int i)=some (EO P ci si p n f q L i)) (h1:ib σ A.av (.int i)=some (.int u)) (h2:ib σ B.av (.int i)=some (.int v)) (h3:ib σ C.av (.int i)=some (.int w)) :
  dI 92 (cc P) (EV P 195 (gb ci si p n f q L)) (eL (Jn P)) (dF (Jn P)).target [] (aw (Jn P)) (.int i) σ=some (some (.int (mix n u v w)),σ,true):=by
 refine Hh fun G_ k_=>?_
 obtain ⟨d,hd,k1,k2,k3⟩:=T.cd
 refine k_ ?_
 have c:Hs 90 (cc P) (EO P ci si p n f q L i) σ (Jo P)=some (.lst [.int (t0 n * u),.int (t1 n * v),.int (t2 n * w)],σ,true):=
  bW (n:=88) (held:=false) (items:=[.int 0,.int 1,.int 2]) (show bG (Jo P) by kernel_rfl) (by kernel_rfl) (by kernel_rfl) (show 3≤Hk by unfold Hk;decide)
   (ah (jQ hd k1 (by kernel_rfl) (by kernel_rfl) (by kernel_rfl) h1 (Bt (Int.le_trans (by decide) (lq n).1) (lq n).2)) (ah (jQ hd k2 (by kernel_rfl) (by kernel_rfl) (by kernel_rfl) h2 (Bt (Int.le_trans (by decide) (lr n).1) (lr n).2)) (ah (jQ hd k3 (by kernel_rfl) (by kernel_rfl) (by kernel_rfl) h3 (Bt (ls n).1 (ls n).2)) rfl)))
 exact bf (n:=91) h0 ((aP (n:=91) (w:=.builtin "sum") (Φ:=ya) (show aO (eL (Jn P)) "sum" by kernel_rfl) (by kernel_rfl) (by kernel_rfl) ((congrArg (aevs 91 (cc P) _ σ) (show au (eL (Jn P))=[Jo P] by kernel_rfl)).trans (am (n:=90) c rfl))).trans rfl)
theorem Bv (T:T3 σ ci si q A B C) {d:List (Str×AV)} (hd:aQ σ ci=some d) (hl:d.length≤Hk):ak 95 (cc P) (EV P 195 (gb ci si p n f q L)) σ (bI P 195 4)=some ((.next,EV P 195 (gb ci si p n f q L)),σ.set ci (.dic (upd d (nm L) (IC (mix n A.x B.x C.x) (mix n A.y B.y C.y) (mix n A.z B.z C.z)))),false):=
 AF (n:=94) (ov:=.ref ci) (kv:=.str (nm L)) (show AC (bI P 195 4) by kernel_rfl) (bW (n:=92) (held:=false) (items:=[.int 0,.int 1,.int 2]) (show bG (Jn P) by kernel_rfl) (by kernel_rfl) (by kernel_rfl) (show 3≤Hk by unfold Hk;decide)
  (ah (mQ T (by kernel_rfl) (by kernel_rfl) (by kernel_rfl) (by kernel_rfl)) (ah (mQ T (by kernel_rfl) (by kernel_rfl) (by kernel_rfl) (by kernel_rfl)) (ah (mQ T (by kernel_rfl) (by kernel_rfl) (by kernel_rfl) (by kernel_rfl)) rfl)))) (by kernel_rfl) (by kernel_rfl) (mP hd hl)
theorem Bw {d s:List (Str×AV)} {F:Cor} (hd:aQ σ ci=some d) (hk:d.lookup (nm L)=some F.av) (hs:aQ σ si=some s) (hl:s.length≤Hk) (hF:F.Ok):ak 94 (cc P) (EV P 195 (gb ci si p n f q L)) σ (bI P 195 5)=some ((.next,EV P 195 (gb ci si p n f q L)),σ.set si (.dic (upd s (nm L) F.sv)),false):=
 AF (n:=93) (ov:=.ref si) (kv:=.str (nm L)) (show AC (bI P 195 5) by kernel_rfl) ((aP (n:=92) (as:=[F.av]) (w:=.ref 185) (Φ:=At P) (show aO (af (bI P 195 5)) "_law_seen" by kernel_rfl) (by kernel_rfl) (by kernel_rfl)
  ((congrArg (aevs 92 (cc P) _ σ) (show au (af (bI P 195 5))=[eN (af (bI P 195 5)) 0] by kernel_rfl)).trans (am (n:=91) (cy (n:=90) (o:=.ref ci) (k:=.str (nm L)) (show cf (eN (af (bI P 195 5)) 0) by kernel_rfl) (by kernel_rfl) (by kernel_rfl) (by kernel_rfl) (eE hd hk)) rfl))).trans (tJ hF)) (by kernel_rfl) (by kernel_rfl) (mP hs hl)
noncomputable def xv (z:Bool) (q:Nat×Nat×Nat) (L:Nat):List (Nat×Nat×Nat):=match z with
 |true=>[(q.1,L,q.2.2),(L,q.2.1,q.2.2)]
 |false=>[(q.1,q.2.1,L),(q.2.1,q.2.2,L),(q.2.2,q.1,L)]
theorem DN:res 94 (cc P) (EV P 195 (gb ci si p n f q L)) σ [bI P 195 6,bI P 195 7]=some (.lst ((xv (t2 n==0) q L).map fun r=>.str (pc r)),σ,true):=by
 have h:=dG (n:=92) (C:=cc P) (E:=EV P 195 (gb ci si p n f q L)) (σ:=σ) (t2 n==0) (show jE (bI P 195 6) by kernel_rfl) (by kernel_rfl) rfl
 cases e:t2 n==0 with
 |true=>
  rw [e] at h
  exact jH (n:=93) (EV P 195 (gb ci si p n f q L)) (h.trans (show aexecs 92 (cc P) _ σ (aM (bI P 195 6))=_ by kernel_rfl))
 |false=>
  rw [e] at h
  exact (Ir (n:=93) _ (h.trans (show aexecs 92 (cc P) _ σ (cR (bI P 195 6))=some ((.next,EV P 195 (gb ci si p n f q L)),σ,true) by kernel_rfl))).trans (by kernel_rfl)
end
end Internal
namespace Internal
theorem Jp {n:Nat} {C:Cfg} {E E₁:AEnv} {σ σ₁ σ₂:St} {p q:Bool} {st:Stmt} {r:List Stmt} {v:AV} (h:ak n C E σ st=some ((.next,E₁),σ₁,p)) (h2:res n C E₁ σ₁ r=some (v,σ₂,q)):res (n+1) C E σ (st::r)=some (v,σ₂,p&&q):=by
 unfold res at *
 cases hx:aexecs n C E₁ σ₁ r with
 |none=>rw [hx] at h2;cases h2
 |some z=>
  obtain ⟨w,σ',q'⟩:=z
  rw [hx] at h2
  cases h2
  rw [ay h hx]
  rfl
theorem tU {f:Cor→AV} : ∀ {cs:List Cor} {k:Nat},(dD f k cs).length=cs.length
 | [],_=>rfl
 |_::cs,k=>congrArg (· + 1) (tU (cs:=cs) (k:=k+1))
theorem tV {f:Cor→AV} {F:Cor} : ∀ {cs:List Cor} {k:Nat},k+cs.length < 9→upd (dD f k cs) (nm (k+cs.length)) (f F)=dD f k (cs++[F])
 | [],k,_=>rfl
 |c::cs,k,h=>by
  have h:k+(cs.length+1) < 9:=h
  have hk:k < k+(cs.length+1):=Nat.lt_add_of_pos_right (Nat.succ_pos _)
  have e:nm k≠nm (k+(cs.length+1)):=fun z=>by
   have:=DE k (Nat.lt_trans hk h) _ h (Nat.ne_of_lt hk)
   rw [z,beq_self_eq_true] at this
   cases this
  show upd ((nm k,f c)::dD f (k+1) cs) (nm (k+(cs.length+1))) (f F)=_
  unfold upd
  rw [if_neg e,Nat.add_comm cs.length 1,←Nat.add_assoc,tV (by rw [Nat.add_assoc,Nat.add_comm 1];exact h)]
  rfl
section
variable {P:Params} {σ:St} {ci si f:Nat} {p:Nat×Nat×Nat} {A B C F:Cor} {n:Int} {cs:List Cor}
structure On (cs:List Cor) (p:Nat×Nat×Nat) (A B C:Cor):Prop where
 a:cs[p.1]? = some A
 b:cs[p.2.1]? = some B
 c:cs[p.2.2]? = some C
theorem On.t3 (O:On cs p A B C) (hl:cs.length≤9) (hd:aQ σ ci=some (dD Cor.av 0 cs)) (hs:aQ σ si=some (dD Cor.sv 0 cs)):T3 σ ci si p A B C:=by
 have k:=fun (f:Cor→AV) {a:Nat} {c:Cor} (h:cs[a]? = some c)=>DG (f:=f) (k:=0) (by rwa [Nat.zero_add]) h
 simp only [Nat.zero_add] at k
 exact ⟨⟨_,hd,k _ O.a,k _ O.b,k _ O.c⟩,⟨_,hs,k _ O.a,k _ O.b,k _ O.c⟩⟩
theorem On.rot (O:On cs p A B C):On cs (eF f p) (eF f (A,B,C)).1 (eF f (A,B,C)).2.1 (eF f (A,B,C)).2.2:=by
 unfold eF
 split
 ·exact O
 ·exact ⟨O.b,O.c,O.a⟩
 ·exact ⟨O.c,O.a,O.b⟩
theorem DO {a b c:Bool} : oe a b c < 3:=by cases a<;>cases b<;>cases c<;>decide
noncomputable def B1 (n:Int) (A B C F:Cor):Prop:=F.av=IC (mix n A.x B.x C.x) (mix n A.y B.y C.y) (mix n A.z B.z C.z)
theorem xw (h4:4≤cs.length) (h8:cs.length≤8) (hd:aQ σ ci=some (dD Cor.av 0 cs)) (hs:aQ σ si=some (dD Cor.sv 0 cs)) (hne:ci≠si) (O:On cs p A B C) (hf:f=oe (lb A n) (lb B n) (lb C n)) (hF:F.Ok) (hm:B1 n (eF f (A,B,C)).1 (eF f (A,B,C)).2.1 (eF f (A,B,C)).2.2 F) :
  Ez P [.str (pc p),.int n,.ref ci,.ref si] σ=some (.lst ((xv (t2 n==0) (eF f p) cs.length).map fun r=>.str (pc r)),(σ.set ci (.dic (dD Cor.av 0 (cs++[F])))).set si (.dic (dD Cor.sv 0 (cs++[F]))),false):=by
 have hl9:cs.length < 9:=Nat.lt_succ_of_le h8
 have hlim:∀ f:Cor→AV,(dD f 0 cs).length≤Hk:=fun f=>by rw [tU];exact Nat.le_trans h8 (by unfold Hk;decide)
 have T:=O.t3 (Nat.le_of_lt hl9) hd hs
 have T':=(O.rot (f:=f)).t3 (σ:=σ) (Nat.le_of_lt hl9) hd hs
 have e4:=Bv (P:=P) (p:=p) (n:=n) (f:=f) (L:=cs.length) T' hd (hlim _)
 have ea:=tV (f:=Cor.av) (F:=F) (cs:=cs) (k:=0) (by rwa [Nat.zero_add])
 have es:=tV (f:=Cor.sv) (F:=F) (cs:=cs) (k:=0) (by rwa [Nat.zero_add])
 rw [Nat.zero_add] at ea es
 unfold B1 at hm
 rw [←hm,ea] at e4
 have Il:aQ (σ.set ci (.dic (dD Cor.av 0 (cs++[F])))) ci=some (dD Cor.av 0 (cs++[F])):=Bu (DK hd)
 have hs1:aQ (σ.set ci (.dic (dD Cor.av 0 (cs++[F])))) si=some (dD Cor.sv 0 cs):=(DL hne).trans hs
 have e5:=Bw (P:=P) (p:=p) (n:=n) (f:=f) (q:=eF f p) (L:=cs.length) Il (by rw [←ea];exact oh) hs1 (hlim _) hF
 rw [es] at e5
 subst hf
 refine cz (vs:=(gb ci si p n 0 p 0).take 4) (by kernel_rfl) ((congrArg (res 100 (cc P) _ σ) (Bn P)).trans ((Ir (n:=99) _ (Bo T)).trans ((Ir (n:=98) _ (Bp DO)).trans ((Ir (n:=97) _ Bq).trans ((Ir (n:=96) _ (Bs h4 h8 hd tU)).trans ?_)))))
 exact Jp (n:=95) (p:=false) e4 (Jp (n:=94) (p:=false) e5 DN)
end
end Internal
namespace Internal
noncomputable def Jq (k:Nat):Str:=⟨(List.replicate k 32).toArray⟩
theorem tW (i:Nat):Jg i < 0x110000:=by
 unfold Jg
 by_cases h:i < 9
 ·exact (show ∀ i < 9,([34,92,32,35,97,98,99,100,101]:List Nat).getD i 0 < 0x110000 by decide) i h
 ·rw [List.getD_eq_getElem?_getD,List.getElem?_eq_none (Nat.le_of_not_lt h)]
  decide
theorem tX (p:Nat×Nat×Nat):PyData.strOk (pc p)=true:=by
 unfold PyData.strOk pc
 rw [←Array.all_toList]
 show (decide (Jg p.1 < 0x110000)&&(decide (Jg p.2.1 < 0x110000)&&(decide (Jg p.2.2 < 0x110000)&&true)))=true
 rw [decide_eq_true (tW _),decide_eq_true (tW _),decide_eq_true (tW _)]
 rfl
theorem tY (k:Nat) (h:k < 6):PyData.strOk (Jq k)=true:=(show ∀ k < 6,PyData.strOk (Jq k)=true by decide +kernel) k h
theorem dL {v:AV} {d:PyData} (h:pS v=some d) (hs:PySem.SeqAt.shaped d=true):dZ v v=some true:=by
 unfold dZ
 rw [h,Option.bind_some,Option.bind_some,hs,if_pos (by rfl),PySem.SeqAt.eqv_refl d (PySem.SeqAt.canLay_of_shaped hs)]
theorem DP {σ:St} {x:Str} (h:PyData.strOk x=true):io σ .NotEq (.str x) (.str x)=some false:=by
 show Ho ((dZ (.str x) (.str x)).map (!·)) _=_
 rw [dL (d:=.str x) rfl (by show (PyData.strOk x&&true)=true;rw [h];rfl)]
 rfl
theorem ne_tup {σ:St} {x y:Str} (h:PyData.strOk x=true) (h2:PyData.strOk y=true):io σ .NotEq (.tup [.str x,.str y]) (.tup [.str x,.str y])=some false:=by
 show Ho ((dZ (.tup [.str x,.str y]) (.tup [.str x,.str y])).map (!·)) _=_
 rw [dL (d:=.tuple [.str x,.str y]) rfl (by show (PyData.strOk x&&(PyData.strOk y&&true)&&true)=true;rw [h,h2];rfl)]
 rfl
theorem lu:∀ {l:List Int},toPys (l.map .int)=some (l.map .int)
 | []=>rfl
 |i::l=>by
  show (pS (.int i)).bind (fun d=>(toPys (l.map .int)).map fun ds=>d::ds)=_
  rw [lu]
  rfl
theorem jR:∀ {l:List Int},PyData.canLayAll0 (l.map .int)=true∧PyData.depthAll (l.map .int)=0
 | []=>⟨rfl,rfl⟩
 |i::l=>⟨(jR (l:=l)).1,by show max 0 (PyData.depthAll (l.map .int))=0;rw [(jR (l:=l)).2];rfl⟩
theorem oi:∀ {l:List Int},(l.map PyData.int).any (fun e=>PyData.eqv e .none)=false
 | []=>rfl
 |i::l=>by
  rw [List.map_cons,List.any_cons,oi (l:=l)]
  rfl
theorem Bx {σ:St} {l:List Int} : io σ .In .none (.lst (l.map .int))=some false:=by
 show Ho none ((toPys (l.map .int)).map PyData.list |>.bind fun e=>(B4 e).bind fun l=>if (PySem.SeqAt.shaped .none&&PySem.SeqAt.shaped (.list l))=true then some (l.any fun e=>PyData.eqv e .none) else none)=_
 rw [lu]
 show (if (true&&(PyData.canLayAll0 (l.map .int)&&decide (PyData.depthAll (l.map .int)+1≤64)))=true then some ((l.map PyData.int).any fun e=>PyData.eqv e .none) else none)=_
 rw [jR.1,jR.2,if_pos (by rfl),oi]
structure LS (ix:List Nat) (σ₀ σ:St) (ob:List AObj):Prop where
 at':∀ (k i:Nat) (o:AObj),ix[k]? = some i→ob[k]? = some o→σ[i]? = some o
 fr:∀ j:Nat,j ∉ ix→σ[j]? = σ₀[j]?
 len:σ.length=σ₀.length
theorem LS.set {ix:List Nat} {σ₀ σ:St} {ob:List AObj} (H:LS ix σ₀ σ ob) (nd:ix.Nodup) (k:Nat) {i:Nat} (hk:ix[k]? = some i) {o:AObj} {o':AObj} (ho:ob[k]? = some o'):LS ix σ₀ (σ.set i o) (ob.set k o) where
 at':=fun m j x hm hx=>by
  by_cases e:m=k
  ·subst e
   rw [hk] at hm
   cases hm
   rw [List.getElem?_set_self (List.getElem?_eq_some_iff.mp ho).1] at hx
   rw [List.getElem?_set_self (List.getElem?_eq_some_iff.mp (H.at' _ _ _ hk ho)).1]
   exact hx
  ·rw [List.getElem?_set_ne (Ne.symm e)] at hx
   have hne:i≠j:=fun z=>e (by
    rw [←z] at hm
    exact (List.getElem?_inj (List.getElem?_eq_some_iff.mp hm).1 nd).mp (hm.trans hk.symm))
   rw [List.getElem?_set_ne hne]
   exact H.at' m j x hm hx
 fr:=fun j hj=>by
  have hij:i≠j:=fun z=>hj (z▸List.mem_of_getElem? hk)
  rw [List.getElem?_set_ne hij]
  exact H.fr j hj
 len:=by rw [List.length_set];exact H.len
theorem LS.five {σ:St} {c s t r q:Nat} {oc os ot or oq:AObj} (h0:σ[c]? = some oc) (h1:σ[s]? = some os) (h2:σ[t]? = some ot) (h3:σ[r]? = some or) (h4:σ[q]? = some oq):LS [c,s,t,r,q] σ σ [oc,os,ot,or,oq] where
 at':=fun k i o hi ho=>by
  match k,hi,ho with
  |0,hi,ho=>cases hi;cases ho;exact h0
  |1,hi,ho=>cases hi;cases ho;exact h1
  |2,hi,ho=>cases hi;cases ho;exact h2
  |3,hi,ho=>cases hi;cases ho;exact h3
  |4,hi,ho=>cases hi;cases ho;exact h4
  |k+5,hi,_=>cases hi
 fr:=fun __ __=>rfl
 len:=rfl
theorem tZ {σ:St} {j:Nat} {d:List (Str×AV)} (h:σ[j]? = some (.dic d)):aQ σ j=some d:=by unfold aQ;rw [h]
theorem yG {σ:St} {j:Nat} {l:List AV} (h:σ[j]? = some (.lst l)):aF σ j=some l:=by unfold aF;rw [h]
theorem By {σ:St} {j:Nat} {l:List (Str×AV)} (h:σ[j]? = some (.ns l)):pX σ j=some l:=by unfold pX;rw [h]
end Internal
namespace Internal
section
variable {α:Type} {n:Nat} {C:Cfg} {E E₁:AEnv} {σ σ₁ σ₂:St} {p:Bool} {e:Expr} {st:Stmt} {v:AV}
theorem DQ (h:ak (n+1) C E σ st=some ((.next,E₁),σ₁,p)):res (n+2) C E σ [st]=some (.none,σ₁,p):=by
 have:=Jp (n:=n+1) (q:=true) (v:=.none) (r:=[]) h rfl
 rwa [Bool.and_true] at this
theorem fZ {pos:Pos} (he:st = .Expr e pos) (hc:gN e=false) (h:Hs n C E σ e=some (v,σ₁,p)):ak (n+1) C E σ st=some ((.next,E),σ₁,p):=by
 subst he
 show (if (gN e)=true then _ else _)=_
 rw [hc,if_neg (by decide)]
 exact (aT (x:=Hs n C E σ e) (q:=true) h rfl).trans (by rw [Bool.and_true])
noncomputable abbrev f4 (s:Stmt):Prop:=s = .Expr (af s) (w5 s)
theorem t4 {o:Expr} {x:Str} {pos:Pos} {ov:AV} (he:e = .Attribute o x pos) (hb:bo o=false) (h:Hs n C E σ o=some (ov,σ,true)) (ha:lO C σ ov x=some v):Hs (n+1) C E σ e=some (v,σ,true):=by
 subst he
 show (if (bo o)=true then _ else _)=_
 rw [hb,if_neg (by decide)]
 exact (ae (x:=Hs n C E σ o) h).trans (by rw [ha];rfl)
noncomputable abbrev t5 (e:Expr) (x:Str):Prop:=e = .Attribute (eL e) x (cA e)
end
noncomputable abbrev uv:List (Str×AV):=[("_initial_size", .int 2)]
structure AccIn (σ:St) (ai di:Nat) (l:List AV):Prop where
 acc:σ[ai]? = some (.acc 115 di l)
 ns:σ[di]? = some (.ns uv)
section
variable {P:Params} {σ:St} {ai di i j:Nat} {l:List AV} {v w:AV} {len str:Fn} {ext:H6} {lm ct:Option Fn} {f:Addr} {Φ:Fn} {x:Int} {b:Bool}
theorem AccIn.get (H:AccIn σ ai di l):bv σ (.ref ai)=some ⟨ai,di,l,uv⟩:=by
 show js σ ai=_
 unfold js
 rw [H.acc]
 show (if (115:Nat)=115 then (pX σ di).map fun m=>(⟨ai,di,l,m⟩:AccQ) else none)=_
 rw [if_pos rfl,By H.ns]
 rfl
theorem AccIn.no (H:AccIn σ ai di l):aF σ ai=none∧dh σ ai=none∧oJ σ ai=some (115,uv):=by
 refine ⟨?_,?_,?_⟩
 ·unfold aF;rw [H.acc]
 ·unfold dh;rw [H.acc]
 ·unfold oJ;rw [H.acc];show (pX σ di).map _=_;rw [By H.ns];rfl
theorem AccIn.meth (H:AccIn σ ai di l) {name:Str} (h:Cg (H9 len str ext lm ct) (.ref ai) name (115,uv)=some (Φ,[.ref ai])):fM (H9 len str ext lm ct) σ (.ref ai) name=some (Φ,[.ref ai]):=by
 obtain ⟨h1,h2,h3⟩:=H.no
 show Ho ((aF σ ai).bind _) (Ho ((dh σ ai).bind _) ((oJ σ ai).bind _))=_
 rw [h1,h2,h3]
 exact h
theorem iX (h:aF σ i=some l) {name:Str} (k:BT (H9 len str ext lm ct) (.ref i) name=some (Φ,[.ref i])):fM (H9 len str ext lm ct) σ (.ref i) name=some (Φ,[.ref i]):=by
 show Ho ((aF σ i).bind fun __=>BT (H9 len str ext lm ct) (.ref i) name) _=_
 rw [h]
 show Ho (BT (H9 len str ext lm ct) (.ref i) name) _=_
 rw [k]
 rfl
theorem Bz (h:aF σ i=some l):ik σ (.ref i)=some (i,l):=by
 show (aF σ i).map (fun l=>(i,l))=_
 rw [h]
 rfl
theorem mR (h:aF σ i=some l) (hz:l.length≤Hk):yk [.ref i,v] σ=some (.none,σ.set i (.lst (l++[v])),false):=by
 show Ho ((ik σ (.ref i)).bind fun q=>if q.2.length≤Hk then some (AV.none,σ.set q.1 (.lst (q.2++[v])),false) else none) _=_
 rw [Bz h]
 show Ho (if l.length≤Hk then some (AV.none,σ.set i (.lst (l++[v])),false) else none) _=_
 rw [if_pos hz]
 rfl
theorem AccIn.app (H:AccIn σ ai di l) (hz:l.length≤Hk):yk [.ref ai,v] σ=some (.none,σ.set ai (.acc 115 di (l++[v])),false):=by
 have e:ik σ (.ref ai)=none:=by
  show (aF σ ai).map _=_
  rw [H.no.1]
  rfl
 show Ho ((ik σ (.ref ai)).bind _) ((bv σ (.ref ai)).bind fun q=>if q.l.length≤Hk then some (AV.none,σ.set q.i (.acc 115 q.d (q.l++[v])),false) else none)=_
 rw [e,H.get]
 show (if l.length≤Hk then some (AV.none,σ.set ai (.acc 115 di (l++[v])),false) else none)=_
 rw [if_pos hz]
theorem xx (h:aF σ i=some (l++[v])) (hz:(l++[v]).length≤Hk):zE [.ref i] σ=some (v,σ.set i (.lst l),false):=by
 show Ho ((ik σ (.ref i)).bind fun q=>if q.2.length≤Hk then CA σ q (q.2.length - 1) else none) _=_
 rw [Bz h]
 show Ho (if (l++[v]).length≤Hk then ((l++[v])[(l++[v]).length - 1]?).map (fun x=>(x,σ.set i (.lst ((l++[v]).eraseIdx ((l++[v]).length - 1))),false)) else none) _=_
 rw [if_pos hz,List.length_append,List.length_singleton,Nat.add_sub_cancel,List.getElem?_append_right (Nat.le_refl _),Nat.sub_self,List.eraseIdx_append_of_length_le (Nat.le_refl _),Nat.sub_self]
 show Ho (some (v,σ.set i (.lst (l++[])),false)) _=_
 rw [List.append_nil]
 rfl
theorem lw (h:aF σ i=some (v::l)) (hz:(v::l).length≤Hk):zE [.ref i,.int 0] σ=some (v,σ.set i (.lst l),false):=by
 show (ik σ (.ref i)).bind (fun q=>if q.2.length≤Hk∧(0:Int)=0 then CA σ q 0 else none)=_
 rw [Bz h]
 exact if_pos ⟨hz,rfl⟩
theorem t6 (H:AccIn σ ai di l) (hz:l.length≤Hk):Ib P [.ref ai,v,w] σ=some (.none,σ.set ai (.acc 115 di (l++[.tup [v,w]])),false):=
 cz (vs:=[("self", .ref ai),("fws", v),("string", w)]) (by kernel_rfl) ((congrArg (res 100 c0 _ σ) (show aq P 59=[bI P 59 0] by kernel_rfl)).trans (DQ (n:=98) (fZ (n:=98) (show f4 (bI P 59 0) by kernel_rfl) (by kernel_rfl)
  ((bz (n:=97) (ov:=.ref ai) (first:=[.ref ai]) (Φ:=yk) (σ₁:=σ) (σ₂:=σ) (as:=[.tup [v,w]]) (show bx (af (bI P 59 0)) "append" by kernel_rfl) (by kernel_rfl) (by kernel_rfl) (H.meth (by kernel_rfl)) (by kernel_rfl)).trans (H.app hz)))))
theorem jS (H:AccIn σ ai di (l++[v])) (hz:(l++[v]).length≤Hk):Ic P [.ref ai] σ=some (v,σ.set ai (.acc 115 di l),false):=by
 have hp:il [.ref ai] σ=some (.int ((l++[v]).length:Nat),σ,true):=by
  show (bv σ (.ref ai)).bind (fun q=>if q.l.length≤Hk then some (AV.int q.l.length,σ,true) else none)=_
  rw [H.get]
  exact if_pos hz
 have ht:atest 6 ca (dw P 75 (.ref ai)) σ (cX (aq P 75))=some (((((l++[v]).length:Nat):Int)==0),σ,true):=
  mJ (n:=4) (a:=.int ((l++[v]).length:Nat)) (b:=.int 0) (show jG (cX (aq P 75)) .Eq by kernel_rfl) (by kernel_rfl) ((bz (n:=4) (ov:=.ref ai) (first:=[.ref ai]) (Φ:=il) (σ₁:=σ) (σ₂:=σ) (as:=[]) (show bx (eL (cX (aq P 75))) "part_count" by kernel_rfl) (by kernel_rfl) (by kernel_rfl) (H.meth (by kernel_rfl)) (by kernel_rfl)).trans hp) (by kernel_rfl) (by kernel_rfl)
 have hn:((((l++[v]).length:Nat):Int)==0)=false:=by rw [List.length_append];rfl
 rw [hn] at ht
 show (bv σ (.ref ai)).bind (fun __=>Hp (atest 6 ca (dw P 75 (.ref ai)) σ (cX (aq P 75))) (nQ P ca (.ref ai)))=_
 rw [H.get]
 refine (ae ht).trans ((aR H.get).trans ?_)
 show (if 0 < (l++[v]).length∧(l++[v]).length≤Hk then ((l++[v])[(l++[v]).length - 1]?).map (fun x=>(x,σ.set ai (.acc 115 di ((l++[v]).eraseIdx ((l++[v]).length - 1))),false)) else none)=_
 rw [if_pos ⟨by rw [List.length_append];exact Nat.succ_pos _,hz⟩,List.length_append,List.length_singleton,Nat.add_sub_cancel,List.getElem?_append_right (Nat.le_refl _),Nat.sub_self,List.eraseIdx_append_of_length_le (Nat.le_refl _),Nat.sub_self]
 show some (v,σ.set ai (.acc 115 di (l++[])),false)=_
 rw [List.append_nil]
theorem xy (H:AccIn σ ai di []):Ic P [.ref ai] σ=some (.tup [.str "", .str ""],σ,true):=by
 have hp:il [.ref ai] σ=some (.int 0,σ,true):=by
  show (bv σ (.ref ai)).bind (fun q=>if q.l.length≤Hk then some (AV.int q.l.length,σ,true) else none)=_
  rw [H.get]
  rfl
 have ht:atest 6 ca (dw P 75 (.ref ai)) σ (cX (aq P 75))=some (true,σ,true):=
  mJ (n:=4) (a:=.int 0) (b:=.int 0) (show jG (cX (aq P 75)) .Eq by kernel_rfl) (by kernel_rfl) ((bz (n:=4) (ov:=.ref ai) (first:=[.ref ai]) (Φ:=il) (σ₁:=σ) (σ₂:=σ) (as:=[]) (show bx (eL (cX (aq P 75))) "part_count" by kernel_rfl) (by kernel_rfl) (by kernel_rfl) (H.meth (by kernel_rfl)) (by kernel_rfl)).trans hp) (by kernel_rfl) (by kernel_rfl)
 show (bv σ (.ref ai)).bind (fun __=>Hp (atest 6 ca (dw P 75 (.ref ai)) σ (cX (aq P 75))) (nQ P ca (.ref ai)))=_
 rw [H.get]
 exact (ae ht).trans (by kernel_rfl)
noncomputable def Jr:Str := "\n\t\r "
noncomputable def Js (x:Int):List (Str×AV):=[("lineno", .int x),("instream", .ref 7),("whitespace", .str Jr),("pushback", .ref 12)]
structure RdIn (σ:St) (x:Int) (l:List AV):Prop where
 inst:σ[11]? = some (.inst 157 10)
 ns:σ[10]? = some (.ns (Js x))
 back:σ[12]? = some (.lst l)
theorem RdIn.at (H:RdIn σ x l):dh σ 11=some (157,Js x)∧aF σ 11=none∧aF σ 12=some l:=by
 refine ⟨?_,?_,yG H.back⟩
 ·unfold dh;rw [H.inst];show (pX σ 10).map _=_;rw [By H.ns];rfl
 ·unfold aF;rw [H.inst]
theorem RdIn.attr (H:RdIn σ x l) {name:Str} (h:yX (H9 len str ext lm ct) 11 name (157,Js x)=some v):lO (H9 len str ext lm ct) σ (.ref 11) name=some v:=by
 show (dh σ 11).bind _=_
 rw [H.at.1]
 exact h
theorem RdIn.meth (H:RdIn σ x l) {name:Str} (h:pY (H9 len str ext lm ct) (.ref 11) name (157,Js x)=some (Φ,[.ref 11])):fM (H9 len str ext lm ct) σ (.ref 11) name=some (Φ,[.ref 11]):=by
 obtain ⟨h1,h2,h3⟩:=H.at
 show Ho ((aF σ 11).bind _) (Ho ((dh σ 11).bind _) _)=_
 rw [h1,h2]
 show Ho (pY (H9 len str ext lm ct) (.ref 11) name (157,Js x)) _=_
 rw [h]
 rfl
theorem xz (H:RdIn σ x l) (hz:l.length≤Hk):BW P [.ref 11,v] σ=some (.none,σ.set 12 (.lst (l++[v])),false):=
 cz (vs:=[("self", .ref 11),("token", v)]) (by kernel_rfl) ((congrArg (res 100 c0 _ σ) (show aq P 154=[bI P 154 0] by kernel_rfl)).trans (DQ (n:=98) (fZ (n:=98) (show f4 (bI P 154 0) by kernel_rfl) (by kernel_rfl)
  ((bz (n:=97) (ov:=.ref 12) (first:=[.ref 12]) (Φ:=yk) (σ₁:=σ) (σ₂:=σ) (as:=[v]) (show bx (af (bI P 154 0)) "append" by kernel_rfl) (by kernel_rfl) (t4 (n:=96) (ov:=.ref 11) (show t5 (eL (eL (af (bI P 154 0)))) "pushback" by kernel_rfl) (by kernel_rfl) (by kernel_rfl) (H.attr (by kernel_rfl))) (iX H.at.2.2 (by kernel_rfl)) (by kernel_rfl)).trans (mR H.at.2.2 hz)))))
theorem lA (H:RdIn σ x (v::l)) (hz:(v::l).length≤Hk):ga P [.ref 11] σ=some (v,σ.set 12 (.lst l),false):=by
 have ht:atest 98 (c3 P) (EV P 147 [("self", .ref 11)]) σ (af (bI P 147 0))=some (true,σ,true):=by
  have k:=t4 (n:=96) (C:=c3 P) (E:=EV P 147 [("self", .ref 11)]) (σ:=σ) (ov:=.ref 11) (v:=.ref 12) (show t5 (af (bI P 147 0)) "pushback" by kernel_rfl) (by kernel_rfl) (by kernel_rfl) (H.attr (by kernel_rfl))
  rw [show af (bI P 147 0) = .Attribute (eL (af (bI P 147 0))) "pushback" (cA (af (bI P 147 0))) by kernel_rfl] at k ⊢
  refine (ae (f:=fun v σ₁=>pur σ₁ (B7 σ₁ v)) k).trans ?_
  show pur σ ((aF σ 12).bind Eo)=_
  rw [H.at.2.2]
  show pur σ (if (v::l).length≤Hk then some (!(v::l).isEmpty) else none)=_
  rw [if_pos hz]
  rfl
 refine cz (vs:=[("self", .ref 11)]) (by kernel_rfl) ((congrArg (res 100 (c3 P) _ σ) (show aq P 147=bI P 147 0::(aq P 147).tail by kernel_rfl)).trans (jH (n:=99) (EV P 147 [("self", .ref 11)]) ((Fk (n:=98) (c:=true) (show jE (bI P 147 0) by kernel_rfl) ht).trans ?_)))
 refine (congrArg (aexecs 98 (c3 P) _ σ) (show aM (bI P 147 0)=[Il (aM (bI P 147 0))] by kernel_rfl)).trans (iT (n:=97) (fj (n:=96) (show jF (Il (aM (bI P 147 0))) by kernel_rfl) ?_))
 exact (bz (n:=95) (ov:=.ref 12) (first:=[.ref 12]) (Φ:=zE) (σ₁:=σ) (σ₂:=σ) (as:=[.int 0]) (show bx (af (Il (aM (bI P 147 0)))) "pop" by kernel_rfl) (by kernel_rfl) (t4 (n:=94) (ov:=.ref 11) (show t5 (eL (eL (af (Il (aM (bI P 147 0)))))) "pushback" by kernel_rfl) (by kernel_rfl) (by kernel_rfl) (H.attr (by kernel_rfl))) (iX H.at.2.2 (by kernel_rfl)) (by kernel_rfl)).trans (lw H.at.2.2 hz)
end
end Internal
namespace Internal
structure Fx where
 nums:AV
 hal:AV
 dp:Bool
 ci:Nat
 si:Nat
 ti:Nat
 ai:Nat
 ri:Nat
 qi:Nat
noncomputable def Fx.vs (X:Fx) (fr st pi tl du ca:AV):List (Str×AV):=[("numbers", X.nums),("halves", X.hal),("lexer", .ref 11),("deep", .bool X.dp),("corners", .ref X.ci),("seen", .ref X.si),("turns", .ref X.ti),("pile", .ref X.ai),("row", .ref X.ri),("fresh", fr),("step", st),("piece", pi),("told", tl),("due", du),("came", ca)]
noncomputable def Fx.env (X:Fx) (P:Params) (fr st pi tl du ca:AV):AEnv:=EV P 212 (X.vs fr st pi tl du ca)
noncomputable def Fx.ix (X:Fx):List Nat:=[X.ci,X.si,X.ti,X.ri,X.qi]
noncomputable abbrev Pc:=Nat×Nat×Nat
noncomputable abbrev aS:=Nat×Pc
noncomputable def Jt (e:aS):AV:=.tup [.str (Jq e.1),.str (pc e.2)]
noncomputable def Ju (cs:List Cor) (i:Nat):Nat:=match cs[i]? with | some c=>c.lp | none=>0
noncomputable def T (cs:List Cor) (p:Pc):Int:=tv (Ju cs p.1) (Ju cs p.2.1) (Ju cs p.2.2)
theorem xA {cs:List Cor} {p:Pc} {A B C:Cor} (O:On cs p A B C):T cs p=tv A.lp B.lp C.lp:=by
 unfold T Ju
 rw [O.a,O.b,O.c]
noncomputable def obs (cs:List Cor) (td:List (Str×AV)) (row:List aS) (q:AObj):List AObj:=[.dic (dD Cor.av 0 cs),.dic (dD Cor.sv 0 cs),.dic td,.lst (row.map Jt),q]
noncomputable def fB (P:Params) (i:Nat):Stmt:=(aM (bI P 212 3)).getD i AA
noncomputable def iB (P:Params) (i:Nat):Stmt:=(aM (fB P 0)).getD i AA
noncomputable def kB (P:Params) (i:Nat):Stmt:=(aM (fB P 3)).getD i AA
structure Qu (P:Params) (X:Fx) (σ₀:St) (qo:List aS→AObj):Prop where
 nd:X.ix.Nodup
 push:∀ {σ:St} {cs:List Cor} {td:List (Str×AV)} {row row':List aS} {k:Nat} {p:Pc} {fr a b c:AV},LS X.ix σ₀ σ (obs cs td row' (qo row))→row.length≤Hk→k < 6 →
  ak 90 (cn P) (X.env P fr (.int k) (.str (pc p)) a b c) σ (iB P 2)=some ((.next,X.env P fr (.int k) (.str (pc p)) a b c),σ.set X.qi (qo (row++[(k,p)])),false)
section
variable {P:Params} {X:Fx} {σ₀ σ:St} {cs:List Cor} {td:List (Str×AV)} {row:List aS} {q:AObj} {qo:List aS→AObj} {k:Nat} {p:Pc} {fr y a b c:AV} {A B C:Cor}
theorem LS.dc (H:LS X.ix σ₀ σ (obs cs td row q)):aQ σ X.ci=some (dD Cor.av 0 cs):=tZ (H.at' 0 _ _ rfl rfl)
theorem LS.ds (H:LS X.ix σ₀ σ (obs cs td row q)):aQ σ X.si=some (dD Cor.sv 0 cs):=tZ (H.at' 1 _ _ rfl rfl)
theorem LS.dt (H:LS X.ix σ₀ σ (obs cs td row q)):aQ σ X.ti=some td:=tZ (H.at' 2 _ _ rfl rfl)
theorem LS.dr (H:LS X.ix σ₀ σ (obs cs td row q)):aF σ X.ri=some (row.map Jt):=yG (H.at' 3 _ _ rfl rfl)
theorem LS.setT (H:LS X.ix σ₀ σ (obs cs td row q)) (nd:X.ix.Nodup) {t:List (Str×AV)} : LS X.ix σ₀ (σ.set X.ti (.dic t)) (obs cs t row q):=H.set nd 2 rfl rfl
theorem LS.setR (H:LS X.ix σ₀ σ (obs cs td row q)) (nd:X.ix.Nodup) {r:List aS} : LS X.ix σ₀ (σ.set X.ri (.lst (r.map Jt))) (obs cs td r q):=H.set nd 3 rfl rfl
theorem LS.setQ (H:LS X.ix σ₀ σ (obs cs td row q)) (nd:X.ix.Nodup) {o:AObj} : LS X.ix σ₀ (σ.set X.qi o) (obs cs td row o):=H.set nd 4 rfl rfl
theorem LS.setC (H:LS X.ix σ₀ σ (obs cs td row q)) (nd:X.ix.Nodup) {ds:List Cor} : LS X.ix σ₀ ((σ.set X.ci (.dic (dD Cor.av 0 ds))).set X.si (.dic (dD Cor.sv 0 ds))) (obs ds td row q):=(H.set nd 0 (o:=.dic (dD Cor.av 0 ds)) rfl rfl).set nd 1 rfl rfl
theorem t7 (h:k < 6):h9 .Mult (.str " ") (.int k)=some (.str (Jq k)):=
 match k,h with
 |0,_=>by kernel_rfl
 |1,_=>by kernel_rfl
 |2,_=>by kernel_rfl
 |3,_=>by kernel_rfl
 |4,_=>by kernel_rfl
 |5,_=>by kernel_rfl
 |k+6,h=>absurd h (by omega)
theorem Jv (Q:Qu P X σ₀ qo) (H:LS X.ix σ₀ σ (obs cs td row q)) (O:On cs p A B C) (hA:A.Ok) (hB:B.Ok) (hC:C.Ok) (hl:cs.length≤9) (ht:td.length≤Hk) :
  ak 92 (cn P) (X.env P fr (.int k) (.str (pc p)) a b c) σ (iB P 0)=some ((.next,X.env P fr (.int k) (.str (pc p)) a b c),σ.set X.ti (.dic (upd td (pc p) (.int (T cs p)))),false):=by
 rw [xA O]
 exact AF (n:=91) (ov:=.ref X.ti) (kv:=.str (pc p)) (show AC (iB P 0) by kernel_rfl) ((aP (n:=90) (as:=[.str (pc p),.ref X.ci,.ref X.si]) (w:=.ref 190) (Φ:=Ey P) (show aO (af (iB P 0)) "_law_turn" by kernel_rfl) (by kernel_rfl) (by kernel_rfl) (by kernel_rfl)).trans (xq hA hB hC (O.t3 hl H.dc H.ds))) (by kernel_rfl) (by kernel_rfl) (mP H.dt ht)
theorem in1 (H:LS X.ix σ₀ σ (obs cs td row q)) (hk:k < 6) (hr:row.length≤Hk) :
  ak 91 (cn P) (X.env P fr (.int k) (.str (pc p)) a b c) σ (iB P 1)=some ((.next,X.env P fr (.int k) (.str (pc p)) a b c),σ.set X.ri (.lst ((row++[(k,p)]).map Jt)),false):=by
 have ha:Hs 88 (cn P) (X.env P fr (.int k) (.str (pc p)) a b c) σ (eN (af (iB P 1)) 0)=some (Jt (k,p),σ,true):=
  Dm (n:=87) (show Dk (eN (af (iB P 1)) 0) by kernel_rfl) (by kernel_rfl) ((congrArg (aevs 87 (cn P) _ σ) (show au (eN (af (iB P 1)) 0)=eN (eN (af (iB P 1)) 0) 0::(au (eN (af (iB P 1)) 0)).tail by kernel_rfl)).trans
   (am (n:=86) (bA (n:=85) (show bw (eN (eN (af (iB P 1)) 0) 0) .Mult by kernel_rfl) (by kernel_rfl) (by kernel_rfl) (t7 hk)) (show aevs 86 (cn P) _ σ _=some ([.str (pc p)],σ,true) by kernel_rfl))) (show 2≤Hk by unfold Hk;decide)
 rw [List.map_append]
 exact fZ (n:=90) (show f4 (iB P 1) by kernel_rfl) (by kernel_rfl) ((bz (n:=89) (ov:=.ref X.ri) (first:=[.ref X.ri]) (Φ:=yk) (σ₁:=σ) (σ₂:=σ) (as:=[Jt (k,p)]) (show bx (af (iB P 1)) "append" by kernel_rfl) (by kernel_rfl) (by kernel_rfl) (iX H.dr (by kernel_rfl))
  ((congrArg (aevs 89 (cn P) _ σ) (show au (af (iB P 1))=[eN (af (iB P 1)) 0] by kernel_rfl)).trans (am (n:=88) ha rfl))).trans (mR H.dr (by rwa [List.length_map])))
theorem BA (Q:Qu P X σ₀ qo) (H:LS X.ix σ₀ σ (obs cs td row (qo row))) (O:On cs p A B C) (hA:A.Ok) (hB:B.Ok) (hC:C.Ok) (hl:cs.length≤9) (ht:td.length≤Hk) (hk:k < 6) (hr:row.length≤Hk) :
  ∃ σ',eC 93 (cn P) (fY (fB P 0)) (aM (fB P 0)) (.str (pc p)) (X.env P fr (.int k) y a b c) σ=some ((.next,X.env P fr (.int k) (.str (pc p)) a b c),σ',false)∧LS X.ix σ₀ σ' (obs cs (upd td (pc p) (.int (T cs p))) (row++[(k,p)]) (qo (row++[(k,p)]))):=by
 have H1:=H.setT Q.nd (t:=upd td (pc p) (.int (T cs p)))
 have H2:=H1.setR Q.nd (r:=row++[(k,p)])
 have H3:=H2.setQ Q.nd (o:=qo (row++[(k,p)]))
 refine ⟨_,?_,H3⟩
 refine (dH (E₁:=X.env P fr (.int k) (.str (pc p)) a b c) (by kernel_rfl)).trans ((congrArg (aexecs 93 (cn P) _ σ) (show aM (fB P 0)=[iB P 0,iB P 1,iB P 2] by kernel_rfl)).trans ?_)
 exact ay (n:=92) (p:=false) (Jv Q H O hA hB hC hl ht) (ay (n:=91) (p:=false) (q:=false) (in1 H1 hk hr) (ay (n:=90) (p:=false) (q:=true) (Q.push H2 hr hk) rfl))
end
end Internal
namespace Internal
section
variable {β ι:Type} {n:Nat} {C:Cfg} {E E₁:AEnv} {σ σ₁ σ₂:St} {p q:Bool} {e:Expr} {st:Stmt} {v:AV}
theorem oj {t i:Expr} {b:List Stmt} {pos:Pos} {items:List AV} {x:AFlow×AEnv} (he:st = .For t i b [] pos) (h0:oU C E σ i=none) (h1:(!bD i&&dU C E i t)=true) (h2:asrc n C E σ i=some ((items,false),σ₁,true))
  (h3:m6 (eC n C t b) items E σ₁=some (x,σ₂,q)):ak (n+1) C E σ st=some (x,σ₂,q):=by
 subst he
 rw [Bool.and_eq_true,Bool.not_eq_true'] at h1
 show els (oU C E σ i) _ (if bD i=false∧dU C E i t=true then _ else _)=_
 rw [h0,if_pos h1]
 refine (ae (x:=asrc n C E σ i) h2).trans ((congrArg (cW false) h3).trans ?_)
 show (if false=true∧q=false then none else some (x,σ₂,q))=_
 rw [if_neg (fun h=>nomatch h.1)]
theorem c7 {t:AV→AEnv→St→Option ((AFlow×AEnv)×St×Bool)} {x:AV} {xs:List AV} {w:AFlow×AEnv} (h:t x E σ=some ((.next,E₁),σ₁,p)) (h2:m6 t xs E₁ σ₁=some (w,σ₂,q)):m6 t (x::xs) E σ=some (w,σ₂,p&&q):=aT h h2
theorem t8 {i:Nat} {l:List AV} (hz:ie C E e=none) (h:Hs n C E σ e=some (.ref i,σ,true)) (hl:aF σ i=some l):asrc (n+1) C E σ e=some ((l,true),σ,true):=by
 show els (ie C E e) _ (Hp (Hs n C E σ e) fun v σ₁=>pur σ₁ (bQ σ₁ v))=_
 rw [hz]
 refine (ae (x:=Hs n C E σ e) h).trans ?_
 show pur σ (Ho ((aF σ i).map fun l=>(l,true)) _)=_
 rw [hl]
 rfl
theorem hW {step:AV→St→Option (Option AV×St×Bool)} {a g:ι→AV} : ∀ (ys:List ι),(∀ y∈ys,step (a y) σ=some (some (g y),σ,true))→eG step (ys.map a) σ=some (ys.map g,σ,true)
 | [],_=>rfl
 |y::ys,h=>ah (h y List.mem_cons_self) (hW ys fun z hz=>h z (List.mem_cons_of_mem _ hz))
end
theorem mS:∀ a < 9,∀ b < 9,Jg a=Jg b→a=b:=by decide +kernel
noncomputable def Jw (n:Nat) (p:Pc):Prop:=p.1 < n∧p.2.1 < n∧p.2.2 < n
theorem DS {p q:Pc} (hp:Jw 9 p) (hq:Jw 9 q) (h:pc p=pc q):p=q:=by
 have h:[Jg p.1,Jg p.2.1,Jg p.2.2]=[Jg q.1,Jg q.2.1,Jg q.2.2]:=congrArg (fun s:Str=>s.cps.toList) h
 injection h with h1 h
 injection h with h2 h
 injection h with h3 _
 exact Prod.ext (mS _ hp.1 _ hq.1 h1) (Prod.ext (mS _ hp.2.1 _ hq.2.1 h2) (mS _ hp.2.2 _ hq.2.2 h3))
theorem yH:∀ {d:List (Str×AV)} {k k':Str} {v:AV},k≠k'→(upd d k v).lookup k'=d.lookup k'
 | [],k,k',v,h=>by
  show List.lookup k' [(k,v)]=_
  rw [List.lookup_cons,beq_false_of_ne (Ne.symm h)]
 |(y,u)::d,k,k',v,h=>by
  unfold upd
  by_cases e:y=k
  ·subst e
   rw [if_pos rfl,List.lookup_cons,List.lookup_cons,beq_false_of_ne (Ne.symm h)]
  ·rw [if_neg e,List.lookup_cons,List.lookup_cons,yH h]
theorem t9:∀ {d:List (Str×AV)} {k:Str} {v:AV},(upd d k v).length≤d.length+1
 | [],_,_=>Nat.le_refl _
 |(y,u)::d,k,v=>by
  unfold upd
  split
  ·exact Nat.le_succ _
  ·exact Nat.succ_le_succ t9
structure Gd (cs:List Cor) (m:Nat) (p:Pc):Prop where
 ex:∃ A B C,On cs p A B C∧A.Ok∧B.Ok∧C.Ok∧A.x+B.x+C.x≤3 * 5 ^ m∧A.y+B.y+C.y≤3 * 5 ^ m∧A.z+B.z+C.z≤3 * 5 ^ m
theorem On.inR {cs:List Cor} {p:Pc} {A B C:Cor} (O:On cs p A B C):Jw cs.length p:=
 ⟨(List.getElem?_eq_some_iff.mp O.a).1,(List.getElem?_eq_some_iff.mp O.b).1,(List.getElem?_eq_some_iff.mp O.c).1⟩
theorem Gd.inR {cs:List Cor} {m:Nat} {p:Pc} (G:Gd cs m p) (hl:cs.length≤9):Jw 9 p:=by
 refine Hh fun G_ k_=>?_
 obtain ⟨A,B,C,O,-⟩:=G.ex
 refine k_ ?_
 have:=O.inR
 exact ⟨Nat.lt_of_lt_of_le this.1 hl,Nat.lt_of_lt_of_le this.2.1 hl,Nat.lt_of_lt_of_le this.2.2 hl⟩
noncomputable def Tok (cs:List Cor) (td:List (Str×AV)) (row:List aS):Prop:=∀ e∈row,td.lookup (pc e.2)=some (.int (T cs e.2))
theorem Tok.upd {cs:List Cor} {td:List (Str×AV)} {row:List aS} {k:Nat} {p:Pc} (H:Tok cs td row) (hr:∀ e∈row,Jw 9 e.2) (hp:Jw 9 p):Tok cs (upd td (pc p) (.int (T cs p))) (row++[(k,p)]):=fun e he=>by
 rcases List.mem_append.mp he with h | h
 ·by_cases z:pc p=pc e.2
  ·rw [←DS hp (hr e h) z,oh]
  ·rw [yH z,H e h]
 ·rw [List.mem_singleton.mp h]
  exact oh
section
variable {P:Params} {X:Fx} {σ₀ σ:St} {cs:List Cor} {td:List (Str×AV)} {row:List aS} {q:AObj} {qo:List aS→AObj} {k m:Nat} {p:Pc} {fr y a b c:AV} {A B C:Cor}
theorem ua (Q:Qu P X σ₀ qo) (hl:cs.length≤9) (hk:k < 6):∀ (fs:List Pc) {σ:St} {td:List (Str×AV)} {row:List aS} {y:AV},LS X.ix σ₀ σ (obs cs td row (qo row))→Tok cs td row→(∀ e∈row,Gd cs m e.2)→(∀ p∈fs,Gd cs m p)→td.length+fs.length≤Hk→row.length+fs.length≤Hk →
  ∃ σ' y' td' q,m6 (eC 93 (cn P) (fY (fB P 0)) (aM (fB P 0))) (fs.map fun p=>.str (pc p)) (X.env P fr (.int k) y a b c) σ=some ((.next,X.env P fr (.int k) y' a b c),σ',q) ∧
   LS X.ix σ₀ σ' (obs cs td' (row++fs.map fun p=>(k,p)) (qo (row++fs.map fun p=>(k,p))))∧Tok cs td' (row++fs.map fun p=>(k,p))∧td'.length≤td.length+fs.length
 | [],σ,td,row,y,H,K,_,_,_,_=>⟨σ,y,td,true,rfl,by rw [List.map_nil,List.append_nil];exact H,by rw [List.map_nil,List.append_nil];exact K,Nat.le_refl _⟩
 |p::fs,σ,td,row,y,H,K,hr,hf,h1,h2=>by
  rw [List.length_cons] at h1 h2
  have G:=hf p List.mem_cons_self
  refine Hh fun G_ k_=>?_
  obtain ⟨A,B,C,O,hA,hB,hC,-⟩:=G.ex
  obtain ⟨σ₁,e1,H1⟩:=BA (fr:=fr) (y:=y) (a:=a) (b:=b) (c:=c) Q H O hA hB hC hl (Nat.le_trans (Nat.le_add_right _ _) h1) hk (Nat.le_trans (Nat.le_add_right _ _) h2)
  have K1:=K.upd (k:=k) (fun e he=>(hr e he).inR hl) (G.inR hl)
  have u:=t9 (d:=td) (k:=pc p) (v:=.int (T cs p))
  obtain ⟨σ',y',td',q,e2,H2,K2,u2⟩:=ua Q hl hk fs (y:=.str (pc p)) H1 K1 (fun e he=>(List.mem_append.mp he).elim (hr e) fun h=>by rw [List.mem_singleton.mp h];exact G) (fun p hp=>hf p (List.mem_cons_of_mem _ hp))
   (Nat.le_trans (Nat.add_le_add_right u _) (by rw [Nat.add_assoc,Nat.add_comm 1];exact h1)) (by rw [List.length_append,List.length_singleton,Nat.add_assoc,Nat.add_comm 1];exact h2)
  refine k_ ?_
  have e3:row++[(k,p)]++fs.map (fun p=>(k,p))=row++(p::fs).map fun p=>(k,p):=by rw [List.append_assoc];rfl
  rw [e3] at H2 K2
  exact ⟨σ',y',td',_,c7 e1 e2,H2,K2,Nat.le_trans u2 (Nat.le_trans (Nat.add_le_add_right u _) (by rw [Nat.add_assoc,Nat.add_comm 1];exact Nat.le_refl _))⟩
noncomputable abbrev Jx (cs:List Cor) (row:List aS):AV:=.lst ((row.map fun e=>T cs e.2).map .int)
theorem xB (H:LS X.ix σ₀ σ (obs cs td row q)) (K:Tok cs td row) (hr:row.length≤Hk):ak 93 (cn P) (X.env P fr (.int k) y a b c) σ (fB P 1)=some ((.next,X.env P fr (.int k) y (Jx cs row) b c),σ,true):=by
 refine bO (n:=92) (show bN (fB P 1) "told" by kernel_rfl) (by kernel_rfl) (bW (n:=90) (held:=true) (items:=row.map Jt) (l:=(row.map fun e=>T cs e.2).map .int) (show bG (af (fB P 1)) by kernel_rfl) (by kernel_rfl) (t8 (n:=89) (by kernel_rfl) (by kernel_rfl) H.dr) (by rwa [List.length_map]) ?_) (by kernel_rfl)
 rw [List.map_map]
 exact hW row fun e he=>bf (n:=89) (E₁:={ ag (X.env P fr (.int k) y a b c) (aw (af (fB P 1))) with vars:=[("turns", .ref X.ti),("mark", .str (Jq e.1)),("piece", .str (pc e.2))] }) (by kernel_rfl)
  (cy (n:=89) (o:=.ref X.ti) (k:=.str (pc e.2)) (show cf (eL (af (fB P 1))) by kernel_rfl) (by kernel_rfl) (by kernel_rfl) (by kernel_rfl) (eE H.dt (K e he)))
theorem sum_ints {l:List Int} : ya [.lst (l.map .int)] σ=some (.int l.sum,σ,true):=by
 have e:∀ l:List Int,iE (l.map .int)=some l:=fun l=>by
  induction l with
  |nil=>rfl
  |cons i l ih=>show (iE (l.map .int)).map (fun r=>i::r)=_;rw [ih];rfl
 show (iE (l.map .int)).map (fun ns=>(AV.int ns.sum,σ,true))=_
 rw [e]
 rfl
theorem BB (h:(row.map fun e=>T cs e.2).sum=1):ak 92 (cn P) (X.env P fr (.int k) y (Jx cs row) b c) σ (fB P 2)=some ((.next,X.env P fr (.int k) y (Jx cs row) b c),σ,true):=by
 refine (dG (n:=91) false (c:=false) (show jE (fB P 2) by kernel_rfl) ?_ rfl).trans (show aexecs 91 (cn P) _ σ (cR (fB P 2))=_ by kernel_rfl)
 refine (iU (n:=90) (show iS (af (fB P 2)) .Or by kernel_rfl)).trans ((congrArg (aall 90 (cn P) _ σ .Or) (show au (af (fB P 2))=[eN (af (fB P 2)) 0,eN (af (fB P 2)) 1] by kernel_rfl)).trans ((yu (n:=89) ?_).trans ((yu (n:=88) ?_).trans rfl)))
 ·exact mJ (n:=87) (a:=.none) (b:=Jx cs row) (show jG (eN (af (fB P 2)) 0) .In by kernel_rfl) (by kernel_rfl) (by kernel_rfl) (by kernel_rfl) Bx
 ·refine mJ (n:=86) (a:=.int 1) (b:=.int 1) (show jG (eN (af (fB P 2)) 1) .NotEq by kernel_rfl) (by kernel_rfl) ((aP (n:=86) (σ₁:=σ) (as:=[Jx cs row]) (w:=.builtin "sum") (Φ:=ya) (show aO (eL (eN (af (fB P 2)) 1)) "sum" by kernel_rfl) (by kernel_rfl) (by kernel_rfl) (by kernel_rfl)).trans (sum_ints.trans ?_)) (by kernel_rfl) (by kernel_rfl)
  rw [h]
end
end Internal
namespace Internal
theorem ub {n a b c S:Int} (ha:0≤a) (hb:0≤b) (hc:0≤c) (h:a+b+c≤S):0≤mix n a b c∧mix n a b c≤4 * S∧a+b≤S∧b+c≤S∧a+c≤S:=by
 have m:=fun {t x:Int} (h1:t≤4) (h0:0≤x)=>Int.mul_le_mul_of_nonneg_right h1 h0
 have p0:=Int.mul_nonneg (Int.le_trans (by decide) (lq n).1) ha
 have p1:=Int.mul_nonneg (Int.le_trans (by decide) (lr n).1) hb
 have p2:=Int.mul_nonneg (ls n).1 hc
 have q0:=m (lq n).2 ha
 have q1:=m (lr n).2 hb
 have q2:=m (ls n).2 hc
 unfold mix
 generalize t0 n * a=u at *
 generalize t1 n * b=v at *
 generalize t2 n * c=w at *
 refine ⟨Int.add_nonneg p0 (Int.add_nonneg p1 (Int.add_nonneg p2 (Int.le_refl 0))),?_,Int.le_trans (Int.le_add_of_nonneg_right hc) h,?_,?_⟩
 ·clear p0 p1 p2 ha hb hc;omega
 ·clear p0 p1 p2 q0 q1 q2 hb hc;omega
 ·clear p0 p1 p2 q0 q1 q2 ha hc;omega
theorem BC {n a b c:Int} (ha:0 < a) (hb:0 < b) (hc:0 < c):0 < mix n a b c:=by
 have p0:=Int.mul_pos (Int.lt_of_lt_of_le (by decide) (lq n).1) ha
 have p1:=Int.mul_pos (Int.lt_of_lt_of_le (by decide) (lr n).1) hb
 have p2:=Int.mul_nonneg (ls n).1 (Int.le_of_lt hc)
 exact Int.add_pos_of_pos_of_nonneg p0 (Int.add_nonneg (Int.le_of_lt p1) (by rw [Int.add_zero];exact p2))
theorem BD {f:Nat} {A B C:Cor} : tv (eF f (A,B,C)).1.lp (eF f (A,B,C)).2.1.lp (eF f (A,B,C)).2.2.lp=tv A.lp B.lp C.lp:=by
 have r:=fun a b c:Cor=>rot a.lp (bH _ _ _) b.lp (bH _ _ _) c.lp (bH _ _ _)
 unfold eF
 split
 ·rfl
 ·exact r A B C
 ·exact (r C A B).symm
theorem DT {m:Nat} (h:m≤4):4 * (3 * 5 ^ m) < 2 ^ 13:=Nat.lt_of_le_of_lt (Nat.mul_le_mul_left 4 (Nat.mul_le_mul_left 3 (Nat.pow_le_pow_right (by decide) h))) (by decide)
theorem uc {x:Int} {m:Nat} (hm:m≤4) (h0:0≤x) (h:x≤4 * (3 * 5 ^ m)):x.natAbs < 2 ^ 13:=by
 have k:((4 * (3 * 5 ^ m):Nat):Int) < 2 ^ 13:=Int.ofNat_lt.mpr (DT hm)
 rw [Int.natCast_mul,Int.natCast_mul,Int.natCast_pow] at k
 have:=Int.lt_of_le_of_lt h k
 omega
theorem DU {a b F S:Int} (h1:F≤4 * S) (h2:a+b≤S):a+b+F≤5 * S:=by omega
structure Tri (m:Nat) (A B C:Cor):Prop where
 a:A.Ok
 b:B.Ok
 c:C.Ok
 x:A.x+B.x+C.x≤3 * 5 ^ m
 y:A.y+B.y+C.y≤3 * 5 ^ m
 z:A.z+B.z+C.z≤3 * 5 ^ m
theorem pQ {a b c S:Int} (h:a+b+c≤S):b+c+a≤S∧c+a+b≤S:=by omega
theorem Tri.rot {f m:Nat} {A B C:Cor} (H:Tri m A B C):Tri m (eF f (A,B,C)).1 (eF f (A,B,C)).2.1 (eF f (A,B,C)).2.2:=by
 unfold eF
 split
 ·exact H
 ·exact ⟨H.b,H.c,H.a,(pQ H.x).1,(pQ H.y).1,(pQ H.z).1⟩
 ·exact ⟨H.c,H.a,H.b,(pQ H.x).2,(pQ H.y).2,(pQ H.z).2⟩
structure NewC (n:Int) (m:Nat) (A B C F:Cor):Prop where
 ok:F.Ok
 mix:B1 n A B C F
 ab:Tri (m+1) A B F
 bc:Tri (m+1) B C F
 ca:Tri (m+1) C A F
 ac:Tri (m+1) A F C
 fb:Tri (m+1) F B C
 flat:t2 n=0→tv A.lp F.lp B.lp=0
theorem iY {n:Int} {m:Nat} {A B C:Cor} (H:Tri m A B C) (hm:m≤4):∃ F,NewC n m A B C F:=by
 refine Hh fun G_ k_=>?_
 obtain ⟨x0,x1,x2,x3,x4⟩:=ub (n:=n) H.a.px H.b.px H.c.px H.x
 obtain ⟨y0,y1,y2,y3,y4⟩:=ub (n:=n) H.a.py H.b.py H.c.py H.y
 obtain ⟨z0,z1,z2,z3,z4⟩:=ub (n:=n) (Int.le_of_lt H.a.pz) (Int.le_of_lt H.b.pz) (Int.le_of_lt H.c.pz) H.z
 obtain ⟨F,hF,ex,ey,ez⟩:=DB x0 y0 (BC (n:=n) H.a.pz H.b.pz H.c.pz) (uc hm x0 x1) (uc hm y0 y1) (uc hm z0 z1)
 refine k_ ?_
 rw [←ex] at x1
 rw [←ey] at y1
 rw [←ez] at z1
 have e5:(5:Int) * (3 * 5 ^ m)=3 * 5 ^ (m+1):=by rw [Int.pow_succ];ac_rfl
 have u:=fun {a b c:Int} (h1:c≤4 * (3 * 5 ^ m)) (h2:a+b≤3 * 5 ^ m)=>e5▸DU h1 h2
 have ab:Tri (m+1) A B F:=⟨H.a,H.b,hF,u x1 x2,u y1 y2,u z1 z2⟩
 have bc:Tri (m+1) B C F:=⟨H.b,H.c,hF,u x1 x3,u y1 y3,u z1 z3⟩
 have c:=fun {a b:Int} (h:a+b≤3 * 5 ^ m)=>show b+a≤3 * 5 ^ m by rwa [Int.add_comm]
 have ca:Tri (m+1) C A F:=⟨H.c,H.a,hF,u x1 (c x4),u y1 (c y4),u z1 (c z4)⟩
 refine ⟨F,hF,by unfold B1 Cor.av;rw [ex,ey,ez],ab,bc,ca,ca.rot (f:=1),bc.rot (f:=2),fun h0=>tQ H.a hF H.b ?_⟩
 unfold ut
 rw [ex,ey,ez]
 unfold mix
 rw [h0,Int.zero_mul,Int.zero_mul,Int.zero_mul,Int.add_zero,Int.add_zero,Int.add_zero,Int.add_zero]
 exact xo _ _ _ _ _ _ _ _
section
variable {cs:List Cor} {p:Pc} {A B C F:Cor} {m:Nat} {n:Int}
theorem On.mono (O:On cs p A B C):On (cs++[F]) p A B C:=
 ⟨by rw [List.getElem?_append_left O.inR.1];exact O.a,by rw [List.getElem?_append_left O.inR.2.1];exact O.b,by rw [List.getElem?_append_left O.inR.2.2];exact O.c⟩
theorem hX:(cs++[F])[cs.length]? = some F:=by rw [List.getElem?_append_right (Nat.le_refl _),Nat.sub_self];rfl
theorem Gd.of (O:On cs p A B C) (H:Tri m A B C):Gd cs m p:=⟨A,B,C,O,H.a,H.b,H.c,H.x,H.y,H.z⟩
theorem Gd.tri (G:Gd cs m p):∃ A B C,On cs p A B C∧Tri m A B C:=by
 refine Hh fun G_ k_=>?_
 obtain ⟨A,B,C,O,a,b,c,x,y,z⟩:=G.ex
 refine k_ ?_
 exact ⟨A,B,C,O,a,b,c,x,y,z⟩
theorem Gd.mono (G:Gd cs m p):Gd (cs++[F]) (m+1) p∧T (cs++[F]) p=T cs p:=by
 refine Hh fun G_ k_=>?_
 obtain ⟨A,B,C,O,H⟩:=G.tri
 refine k_ ?_
 have k:(3 * 5 ^ m:Int)≤3 * 5 ^ (m+1):=by
  have:=Int.ofNat_le.mpr (Nat.mul_le_mul_left 3 (Nat.pow_le_pow_right (n:=5) (by decide) (Nat.le_succ m)))
  rwa [Int.natCast_mul,Int.natCast_mul,Int.natCast_pow,Int.natCast_pow] at this
 exact ⟨.of O.mono ⟨H.a,H.b,H.c,Int.le_trans H.x k,Int.le_trans H.y k,Int.le_trans H.z k⟩,by rw [xA O,xA O.mono]⟩
theorem DV (O:On cs p A B C) (H:Tri m A B C) (N:NewC n m A B C F):(∀ r∈xv (t2 n==0) p cs.length,Gd (cs++[F]) (m+1) r)∧((xv (t2 n==0) p cs.length).map (T (cs++[F]))).sum=tv A.lp B.lp C.lp∧(xv (t2 n==0) p cs.length).length≤3∧2≤(xv (t2 n==0) p cs.length).length:=by
 have O':=O.mono (F:=F)
 have l:=bH
 cases hz:t2 n==0 with
 |true=>
  have o1:On (cs++[F]) (p.1,cs.length,p.2.2) A F C:=⟨O'.a,hX,O'.c⟩
  have o2:On (cs++[F]) (cs.length,p.2.1,p.2.2) F B C:=⟨hX,O'.b,O'.c⟩
  refine ⟨List.forall_mem_cons.mpr ⟨.of o1 N.ac,List.forall_mem_cons.mpr ⟨.of o2 N.fb,fun __ h=>nomatch h⟩⟩,?_,by show 2≤3;decide,Nat.le_refl 2⟩
  show T (cs++[F]) (p.1,cs.length,p.2.2)+(T (cs++[F]) (cs.length,p.2.1,p.2.2)+0)=_
  rw [xA o1,xA o2,Int.add_zero]
  exact G7 _ (l _ _ _) _ (l _ _ _) _ (l _ _ _) _ (l _ _ _) (N.flat (eq_of_beq hz))
 |false=>
  have o1:On (cs++[F]) (p.1,p.2.1,cs.length) A B F:=⟨O'.a,O'.b,hX⟩
  have o2:On (cs++[F]) (p.2.1,p.2.2,cs.length) B C F:=⟨O'.b,O'.c,hX⟩
  have o3:On (cs++[F]) (p.2.2,p.1,cs.length) C A F:=⟨O'.c,O'.a,hX⟩
  refine ⟨List.forall_mem_cons.mpr ⟨.of o1 N.ab,List.forall_mem_cons.mpr ⟨.of o2 N.bc,List.forall_mem_cons.mpr ⟨.of o3 N.ca,fun __ h=>nomatch h⟩⟩⟩,?_,Nat.le_refl 3,by show 2≤3;decide⟩
  show T (cs++[F]) (p.1,p.2.1,cs.length)+(T (cs++[F]) (p.2.1,p.2.2,cs.length)+(T (cs++[F]) (p.2.2,p.1,cs.length)+0))=_
  rw [xA o1,xA o2,xA o3,Int.add_zero,←Int.add_assoc]
  exact G6 _ (l _ _ _) _ (l _ _ _) _ (l _ _ _) _ (l _ _ _)
end
end Internal
namespace Internal
structure Tk (P:Params) (X:Fx) (σ₀:St) (qo:List aS→AObj) (dv:aS→AV) (tk:List aS→aS→List aS→Prop):Prop extends Qu P X σ₀ qo where
 due:∀ {σ:St} {cs:List Cor} {td:List (Str×AV)} {row r:List aS} {e:aS} {fr st y t a b:AV},LS X.ix σ₀ σ (obs cs td row (qo row))→row.length≤Hk→tk row e r→ak 89 (cn P) (X.env P fr st y t a b) σ (kB P 0)=some ((.next,X.env P fr st y t (dv e) b),σ.set X.ri (.lst (r.map Jt)),false)
 came:∀ {σ:St} {cs:List Cor} {td:List (Str×AV)} {row r:List aS} {e:aS} {fr st y t a b:AV},LS X.ix σ₀ σ (obs cs td r (qo row))→row.length≤Hk→tk row e r→ak 88 (cn P) (X.env P fr st y t a b) σ (kB P 1)=some ((.next,X.env P fr st y t a (dv e)),σ.set X.qi (qo r),false)
 same:∀ {σ:St} {e:aS},e.1 < 6→io σ .NotEq (dv e) (dv e)=some false
 word:∀ {σ:St} {e:aS} {fr st y t a:AV},Hs 83 (cn P) (X.env P fr st y t a (dv e)) σ (eN (af (kB P 3)) 0)=some (.str (pc e.2),σ,true)
 has:∀ {row:List aS},row≠[]→∃ e r,tk row e r
 perm:∀ {row r:List aS} {e:aS},tk row e r→row.Perm (e::r)
theorem xC {f:aS→Int} {l m:List aS} (h:l.Perm m):(l.map f).sum=(m.map f).sum:=by
 induction h with
 |nil=>rfl
 |cons x _ ih=>rw [List.map_cons,List.map_cons,List.sum_cons,List.sum_cons,ih]
 |swap x y l=>rw [List.map_cons,List.map_cons,List.map_cons,List.map_cons,List.sum_cons,List.sum_cons,List.sum_cons,List.sum_cons,Int.add_left_comm]
 |trans _ _ h1 h2=>exact h1.trans h2
structure PI (cs:List Cor) (row:List aS) (fs:List Pc) (m:Nat):Prop where
 len:cs.length=4+m
 gr:∀ e∈row,Gd cs m e.2
 mks:∀ e∈row,e.1 < 6
 gf:∀ p∈fs,Gd cs m p
 sum:(row.map fun e=>T cs e.2).sum+(fs.map (T cs)).sum=1
 lo:m+2≤row.length+fs.length
 hi:row.length+fs.length≤2 * m+2
 fl:fs.length≤3
noncomputable def Jy (m:Nat) (row:List aS) (fs:List Pc):List aS:=row++fs.map fun p=>(m,p)
section
variable {P:Params} {X:Fx} {σ₀ σ:St} {cs:List Cor} {td:List (Str×AV)} {row r:List aS} {fs:List Pc} {qo:List aS→AObj} {dv:aS→AV} {tk:List aS→aS→List aS→Prop} {m:Nat} {e:aS} {fr st y t a b c:AV} {A B C F:Cor} {n:Int}
theorem PI.all (I:PI cs row fs m) (hm:m < 6):(∀ e∈Jy m row fs,Gd cs m e.2∧e.1 < 6)∧((Jy m row fs).map fun e=>T cs e.2).sum=1∧(Jy m row fs).length=row.length+fs.length:=by
 refine ⟨fun e he=>?_,?_,?_⟩
 ·rcases List.mem_append.mp he with h | h
  ·exact ⟨I.gr e h,I.mks e h⟩
  ·obtain ⟨p,hp,rfl⟩:=List.mem_map.mp h
   exact ⟨I.gf p hp,hm⟩
 ·unfold Jy
  rw [List.map_append,List.sum_append,List.map_map]
  exact I.sum
 ·unfold Jy
  rw [List.length_append,List.length_map]
theorem Fy (F:Cor) {l:List aS} (h:∀ e∈l,Gd cs m e.2):(l.map fun e=>T (cs++[F]) e.2).sum=(l.map fun e=>T cs e.2).sum:=by
 congr 1
 exact List.map_congr_left fun e he=>(h e he).mono.2
theorem PI.next (I:PI cs row fs m) (hm:m≤4) (hp:(Jy m row fs).Perm (e::r)) {f:Nat} (O:On cs e.2 A B C) (H:Tri m A B C) (N:NewC n m (eF f (A,B,C)).1 (eF f (A,B,C)).2.1 (eF f (A,B,C)).2.2 F):PI (cs++[F]) r (xv (t2 n==0) (eF f e.2) cs.length) (m+1):=by
 refine Hh fun G_ k_=>?_
 obtain ⟨h1,h2,h3⟩:=I.all (Nat.lt_of_le_of_lt hm (by decide))
 obtain ⟨c1,c2,c3,c4⟩:=DV (O.rot (f:=f)) (H.rot (f:=f)) N
 refine k_ ?_
 have hl:=hp.length_eq
 rw [h3,List.length_cons] at hl
 have hr:∀ x∈r,Gd cs m x.2∧x.1 < 6:=fun x hx=>h1 x (hp.mem_iff.mpr (List.mem_cons_of_mem _ hx))
 have s:=xC (f:=fun e=>T cs e.2) hp
 rw [h2,List.map_cons,List.sum_cons,xA O] at s
 rw [BD] at c2
 have lo:=I.lo
 have hi:=I.hi
 exact ⟨by rw [List.length_append,I.len];rfl,fun x hx=>(hr x hx).1.mono.1,fun x hx=>(hr x hx).2,c1,by rw [Fy F fun x hx=>(hr x hx).1,c2,Int.add_comm];exact s.symm,by omega,by omega,c3⟩
theorem DW (Q:Tk P X σ₀ qo dv tk) (H:LS X.ix σ₀ σ (obs cs td r (qo r))) (h4:4≤cs.length) (h8:cs.length≤8) (O:On cs e.2 A B C) (hF:F.Ok) (hn:∀ σ,ib σ X.nums (.int m)=some (.int n))
  (hx:B1 n (eF (oe (lb A n) (lb B n) (lb C n)) (A,B,C)).1 (eF (oe (lb A n) (lb B n) (lb C n)) (A,B,C)).2.1 (eF (oe (lb A n) (lb B n) (lb C n)) (A,B,C)).2.2 F) :
  ∃ σ',ak 86 (cn P) (X.env P fr (.int m) y t a (dv e)) σ (kB P 3)=some ((.next,X.env P (.lst ((xv (t2 n==0) (eF (oe (lb A n) (lb B n) (lb C n)) e.2) cs.length).map fun r=>.str (pc r))) (.int m) y t a (dv e)),σ',false)∧LS X.ix σ₀ σ' (obs (cs++[F]) td r (qo r)):=by
 have hne:X.ci≠X.si:=fun z=>by
  have:=Q.nd
  unfold Fx.ix at this
  rw [z] at this
  exact (List.nodup_cons.mp this).1 List.mem_cons_self
 have f:=xw (P:=P) (n:=n) h4 h8 H.dc H.ds hne O rfl hF hx
 exact ⟨_,bO (n:=85) (show bN (kB P 3) "fresh" by kernel_rfl) (by kernel_rfl) ((aP (n:=84) (w:=.ref 195) (Φ:=Ez P) (as:=[.str (pc e.2),.int n,.ref X.ci,.ref X.si]) (show aO (af (kB P 3)) "_law_cut" by kernel_rfl) (by kernel_rfl) (by kernel_rfl)
  ((congrArg (aevs 84 (cn P) _ _) (show au (af (kB P 3))=eN (af (kB P 3)) 0::eN (af (kB P 3)) 1::((au (af (kB P 3))).drop 2) by kernel_rfl)).trans (am (n:=83) Q.word (am (n:=82) (cy (n:=81) (o:=X.nums) (k:=.int m) (show cf (eN (af (kB P 3)) 1) by kernel_rfl) (by kernel_rfl) (by kernel_rfl) (by kernel_rfl) (hn _)) (by kernel_rfl))))).trans f) (by kernel_rfl),H.setC Q.nd⟩
theorem BE (Q:Tk P X σ₀ qo dv tk) (H:LS X.ix σ₀ σ (obs cs td row (qo row))) (hr:row.length≤Hk) (ht:tk row e r) (hk:e.1 < 6) (h4:4≤cs.length) (h8:cs.length≤8) (O:On cs e.2 A B C) (hF:F.Ok) (hm:m < 5) (hn:∀ σ,ib σ X.nums (.int m)=some (.int n))
  (hx:B1 n (eF (oe (lb A n) (lb B n) (lb C n)) (A,B,C)).1 (eF (oe (lb A n) (lb B n) (lb C n)) (A,B,C)).2.1 (eF (oe (lb A n) (lb B n) (lb C n)) (A,B,C)).2.2 F) :
  ∃ σ',ak 91 (cn P) (X.env P fr (.int m) y t a b) σ (fB P 3)=some ((.next,X.env P (.lst ((xv (t2 n==0) (eF (oe (lb A n) (lb B n) (lb C n)) e.2) cs.length).map fun r=>.str (pc r))) (.int m) y t (dv e) (dv e)),σ',false)∧LS X.ix σ₀ σ' (obs (cs++[F]) td r (qo r)):=by
 have H1:=H.setR Q.nd (r:=r)
 refine Hh fun G_ k_=>?_
 obtain ⟨σ',z,H3⟩:=DW (fr:=fr) (y:=y) (t:=t) (a:=dv e) Q (H1.setQ Q.nd (o:=qo r)) h4 h8 O hF hn hx
 refine k_ ?_
 refine ⟨σ',?_,H3⟩
 have h5:decide ((m:Int) < 5)=true:=decide_eq_true (Int.ofNat_lt.mpr hm)
 refine (dG (n:=90) (decide ((m:Int) < 5)) (c:=true) (show jE (fB P 3) by kernel_rfl) (by kernel_rfl) h5).trans ((congrArg (aexecs 90 (cn P) _ σ) (show aM (fB P 3)=[kB P 0,kB P 1,kB P 2,kB P 3] by kernel_rfl)).trans ?_)
 refine ay (n:=89) (p:=false) (q:=false) (Q.due H hr ht) (ay (n:=88) (p:=false) (q:=false) (Q.came H1 hr ht) ((Is (n:=87) (X.env P fr (.int m) y t (dv e) (dv e)) ?_).trans (ay (n:=86) (p:=false) (q:=true) z rfl)))
 refine (dG (n:=86) false (c:=false) (show jE (kB P 2) by kernel_rfl) ?_ rfl).trans (show aexecs 86 (cn P) _ _ (cR (kB P 2))=_ by kernel_rfl)
 exact mJ (n:=84) (show jG (af (kB P 2)) .NotEq by kernel_rfl) (by kernel_rfl) (by kernel_rfl) (by kernel_rfl) (Q.same hk)
structure Hold (P:Params) (X:Fx) (σ₀:St) (qo:List aS→AObj) (m:Nat) (σ:St) (E:AEnv):Prop where
 ex:∃ cs td row fs st y t a b,E=X.env P (.lst (fs.map fun p=>.str (pc p))) st y t a b∧PI cs row fs m∧LS X.ix σ₀ σ (obs cs td row (qo row))∧Tok cs td row∧td.length≤3 * m
theorem bn {a b:Nat} (h:a≤b) (hb:b≤100):a≤Hk:=Nat.le_trans h (Nat.le_trans hb (by unfold Hk;decide))
theorem ue (Q:Tk P X σ₀ qo dv tk) (hm:m < 6) (I:PI cs row fs m) (H:LS X.ix σ₀ σ (obs cs td row (qo row))) (K:Tok cs td row) (ht:td.length≤3 * m) {st:AV} : ∃ σ' y' td',LS X.ix σ₀ σ' (obs cs td' (Jy m row fs) (qo (Jy m row fs)))∧Tok cs td' (Jy m row fs)∧td'.length≤3 * (m+1) ∧
  ∀ l w σ₂ q,aexecs 92 (cn P) (X.env P (.lst (fs.map fun p=>.str (pc p))) (.int m) y' (Jx cs (Jy m row fs)) a b) σ' l=some (w,σ₂,q)→∃ q',eC 95 (cn P) (fY (bI P 212 3)) (fB P 0::fB P 1::fB P 2::l) (.int m) (X.env P (.lst (fs.map fun p=>.str (pc p))) st y t a b) σ=some (w,σ₂,q'):=by
 have hl:cs.length≤9:=by rw [I.len];exact Nat.add_le_add_left (Nat.le_of_lt_succ hm) 4
 refine Hh fun G_ k_=>?_
 obtain ⟨h1,h2,h3⟩:=I.all hm
 have hi:=I.hi
 have fl:=I.fl
 have r1:td.length+fs.length≤Hk:=bn (b:=3 * m+3) (Nat.add_le_add ht fl) (by omega)
 have r2:row.length+fs.length≤Hk:=bn hi (by omega)
 obtain ⟨σ',y',td',q0,e1,H1,K1,u1⟩:=ua (fr:=.lst (fs.map fun p=>.str (pc p))) (a:=t) (b:=a) (c:=b) Q.toQu hl hm fs (y:=y) H K I.gr I.gf r1 r2
 refine k_ ?_
 refine ⟨σ',y',td',H1,K1,Nat.le_trans u1 (Nat.add_le_add ht fl),fun l w σ₂ q z=>⟨_,(dH (E₁:=X.env P (.lst (fs.map fun p=>.str (pc p))) (.int m) y t a b) (by kernel_rfl)).trans (ay (n:=94) (oj (n:=93) (show mG (fB P 0) by kernel_rfl) (by kernel_rfl) (by kernel_rfl) (by kernel_rfl) e1) ((Is (n:=93) _ (xB H1 K1 (by rw [←h3] at r2;exact r2))).trans ((Is (n:=92) _ (BB h2)).trans z)))⟩⟩
theorem mT (P:Params):aM (bI P 212 3)=[fB P 0,fB P 1,fB P 2,fB P 3]:=by kernel_rfl
theorem gh {E:AEnv} (Q:Tk P X σ₀ qo dv tk) (hm:m < 5) (hn:∀ σ,ib σ X.nums (.int m)=some (.int n)) (Hd:Hold P X σ₀ qo m σ E):∃ σ' E' q,eC 95 (cn P) (fY (bI P 212 3)) (aM (bI P 212 3)) (.int m) E σ=some ((.next,E'),σ',q)∧Hold P X σ₀ qo (m+1) σ' E':=by
 obtain ⟨cs,td,row,fs,st,y,t,a,b,rfl,I,H,K,ht⟩:=Hd.ex
 have h6:=Nat.lt_succ_of_lt hm
 refine Hh fun G_ k_=>?_
 obtain ⟨σ',y',td',H1,K1,u1,G⟩:=ue (st:=st) (y:=y) (t:=t) (a:=a) (b:=b) Q h6 I H K ht
 obtain ⟨h1,h2,h3⟩:=I.all h6
 have lo:=I.lo
 have hi:=I.hi
 obtain ⟨e,r,k⟩:=Q.has (row:=Jy m row fs) (fun z=>by rw [z] at h3;rw [←h3] at lo;exact absurd lo (by simp))
 have pm:=Q.perm k
 obtain ⟨he,hk⟩:=h1 e (pm.mem_iff.mpr List.mem_cons_self)
 obtain ⟨A,B,C,O,Z⟩:=he.tri
 obtain ⟨F,N⟩:=iY (n:=n) (Z.rot (f:=oe (lb A n) (lb B n) (lb C n))) (Nat.le_of_lt_succ hm)
 have hl:=I.len
 obtain ⟨σ₂,z,H2⟩:=BE (fr:=.lst (fs.map fun p=>.str (pc p))) (y:=y') (t:=Jx cs (Jy m row fs)) (a:=a) (b:=b) Q H1 (bn (by rw [h3];exact hi) (by omega)) k hk (by rw [hl];exact Nat.le_add_right _ _) (by rw [hl];exact Nat.add_le_add_left (Nat.le_of_lt_succ hm) 4) O N.ok hm hn N.mix
 obtain ⟨q',z2⟩:=G [fB P 3] _ _ _ (ay (n:=91) (p:=false) (q:=true) z rfl)
 refine k_ ?_
 rw [mT]
 exact ⟨σ₂,_,q',z2,⟨cs++[F],td',r,_,_,_,_,_,_,rfl,I.next (Nat.le_of_lt_succ hm) pm O Z N,H2,fun x hx=>(K1 x (pm.mem_iff.mpr (List.mem_cons_of_mem _ hx))).trans (by rw [(h1 x (pm.mem_iff.mpr (List.mem_cons_of_mem _ hx))).1.mono.2]),u1⟩⟩
end
end Internal
namespace Internal
section
variable {n:Nat} {C:Cfg} {E E₁:AEnv} {σ σ₁ σ₂:St} {p:Bool} {e:Expr} {st:Stmt} {v:AV}
theorem DX {a i:Expr} {pos:Pos} {o k:AV} (he:e = .Subscript a i pos) (hi:dg i=false) (h1:Hs n C E σ a=some (o,σ₁,p)) (h2:Hs n C E σ₁ i=some (k,σ₁,true)) (h3:ib σ₁ o k=some v):Hs (n+1) C E σ e=some (v,σ₁,p):=by
 subst he
 have k1:Hp (Hs n C E σ a) (fun o σ₁=>Hp (Hs n C E σ₁ i) fun k σ₂=>pur σ₂ (ib σ₂ o k))=some (v,σ₁,p):=(aT h1 ((ae h2).trans (by rw [h3];rfl))).trans (by rw [Bool.and_true])
 cases i with
 |Slice=>cases hi
 |_=>exact k1
theorem yI (h:ak (n+1) C E σ st=some ((.next,E₁),σ₁,p)):aexecs (n+2) C E σ [st]=some ((.next,E₁),σ₁,p):=(ay (n:=n+1) (q:=true) h rfl).trans (by rw [Bool.and_true])
end
noncomputable abbrev Xs (nums hal:AV) (ci si ti ai ri:Nat):Fx:=⟨nums,hal,false,ci,si,ti,ai,ri,12⟩
noncomputable abbrev Xd (nums hal:AV) (ci si ti ai ri:Nat):Fx:=⟨nums,hal,true,ci,si,ti,ai,ri,ai⟩
noncomputable abbrev wL (row:List aS):List AV:=row.map fun e=>.str (pc e.2)
section
variable {P:Params} {nums hal:AV} {ci si ti ai ri di:Nat} {σ₀:St} {x:Int}
theorem LS.rd {σ:St} {cs:List Cor} {td:List (Str×AV)} {row row':List aS} (h1:σ₀[11]? = some (.inst 157 10)) (h2:σ₀[10]? = some (.ns (Js x))) (n1:11 ∉ (Xs nums hal ci si ti ai ri).ix) (n2:10 ∉ (Xs nums hal ci si ti ai ri).ix) (H:LS (Xs nums hal ci si ti ai ri).ix σ₀ σ (obs cs td row' (.lst (wL row)))):RdIn σ x (wL row):=
 ⟨(H.fr 11 n1).trans h1,(H.fr 10 n2).trans h2,H.at' 4 12 _ rfl rfl⟩
theorem BF (nd:(Xs nums hal ci si ti ai ri).ix.Nodup) (h1:σ₀[11]? = some (.inst 157 10)) (h2:σ₀[10]? = some (.ns (Js x))) (n1:11 ∉ (Xs nums hal ci si ti ai ri).ix) (n2:10 ∉ (Xs nums hal ci si ti ai ri).ix):Tk P (Xs nums hal ci si ti ai ri) σ₀ (fun row=>.lst (wL row)) (fun e=>.str (pc e.2)) (fun row e r=>row=e::r) where
 nd:=nd
 push:=fun {σ cs td row row' k p fr a b c} H hr hk=>by
  have R:=H.rd h1 h2 n1 n2
  refine (dG (n:=89) false (c:=false) (show jE (iB P 2) by kernel_rfl) (by kernel_rfl) rfl).trans ((congrArg (aexecs 89 (cn P) _ σ) (show cR (iB P 2)=[Il (cR (iB P 2))] by kernel_rfl)).trans ?_)
  show _=some ((_,_),σ.set 12 (.lst ((row++[(k,p)]).map _)),false)
  rw [List.map_append]
  exact yI (n:=87) (fZ (n:=87) (show f4 (Il (cR (iB P 2))) by kernel_rfl) (by kernel_rfl) ((bz (n:=86) (ov:=.ref 11) (first:=[.ref 11]) (Φ:=BW P) (σ₁:=σ) (σ₂:=σ) (as:=[.str (pc p)]) (show bx (af (Il (cR (iB P 2)))) "push_token" by kernel_rfl) (by kernel_rfl) (by kernel_rfl) (R.meth (by kernel_rfl)) (by kernel_rfl)).trans (xz R (by rwa [List.length_map]))))
 due:=fun {σ cs td row r e fr st y t a b} H hr ht=>by
  subst ht
  refine bO (v:=.str (pc e.2)) (n:=88) (show bN (kB P 0) "due" by kernel_rfl) (by kernel_rfl) ((pN (n:=87) (c:=false) (show pM (af (kB P 0)) by kernel_rfl) (by kernel_rfl)).trans ?_) (by kernel_rfl)
  exact DX (n:=86) (o:=Jt e) (k:=.int 1) (show cf (eR (af (kB P 0))) by kernel_rfl) (by kernel_rfl) ((bz (n:=85) (ov:=.ref ri) (first:=[.ref ri]) (Φ:=zE) (σ₁:=σ) (σ₂:=σ) (as:=[.int 0]) (show bx (eL (eR (af (kB P 0)))) "pop" by kernel_rfl) (by kernel_rfl) (by kernel_rfl) (iX H.dr (by kernel_rfl)) (by kernel_rfl)).trans (lw (l:=r.map Jt) H.dr (by rw [List.length_cons,List.length_map];exact hr))) (by kernel_rfl) (by kernel_rfl)
 came:=fun {σ cs td row r e fr st y t a b} H hr ht=>by
  subst ht
  have R:=H.rd h1 h2 n1 n2
  refine bO (v:=.str (pc e.2)) (n:=87) (show bN (kB P 1) "came" by kernel_rfl) (by kernel_rfl) ((pN (n:=86) (c:=false) (show pM (af (kB P 1)) by kernel_rfl) (by kernel_rfl)).trans ?_) (by kernel_rfl)
  exact (bz (n:=85) (ov:=.ref 11) (first:=[.ref 11]) (Φ:=ga P) (σ₁:=σ) (σ₂:=σ) (as:=[]) (show bx (eR (af (kB P 1))) "get_token" by kernel_rfl) (by kernel_rfl) (by kernel_rfl) (R.meth (by kernel_rfl)) (by kernel_rfl)).trans (lA (l:=wL r) R (by rw [List.length_cons,List.length_map];exact hr))
 same:=fun __=>DP (tX _)
 word:=by intros;kernel_rfl
 has:=fun {row} h=>by
  cases row with
  |nil=>exact absurd rfl h
  |cons e r=>exact ⟨e,r,rfl⟩
 perm:=fun h=>h▸List.Perm.refl _
theorem LS.ac {σ:St} {cs:List Cor} {td:List (Str×AV)} {row row':List aS} (h:σ₀[di]? = some (.ns uv)) (n1:di ∉ (Xd nums hal ci si ti ai ri).ix) (H:LS (Xd nums hal ci si ti ai ri).ix σ₀ σ (obs cs td row' (.acc 115 di (row.map Jt)))):AccIn σ ai di (row.map Jt):=
 ⟨H.at' 4 ai _ rfl rfl,(H.fr di n1).trans h⟩
theorem deep (nd:(Xd nums hal ci si ti ai ri).ix.Nodup) (h:σ₀[di]? = some (.ns uv)) (n1:di ∉ (Xd nums hal ci si ti ai ri).ix):Tk P (Xd nums hal ci si ti ai ri) σ₀ (fun row=>.acc 115 di (row.map Jt)) Jt (fun row e r=>row=r++[e]) where
 nd:=nd
 push:=fun {σ cs td row row' k p fr a b c} H hr hk=>by
  have R:=H.ac h n1
  refine (dG (n:=89) true (c:=true) (show jE (iB P 2) by kernel_rfl) (by kernel_rfl) rfl).trans ((congrArg (aexecs 89 (cn P) _ σ) (show aM (iB P 2)=[Il (aM (iB P 2))] by kernel_rfl)).trans ?_)
  show _=some ((_,_),σ.set ai (.acc 115 di ((row++[(k,p)]).map _)),false)
  rw [List.map_append]
  exact yI (n:=87) (fZ (n:=87) (show f4 (Il (aM (iB P 2))) by kernel_rfl) (by kernel_rfl) ((bz (n:=86) (ov:=.ref ai) (first:=[.ref ai]) (Φ:=Ib P) (σ₁:=σ) (σ₂:=σ) (as:=[.str (Jq k),.str (pc p)]) (show bx (af (Il (aM (iB P 2)))) "push" by kernel_rfl) (by kernel_rfl) (by kernel_rfl) (R.meth (by kernel_rfl))
   ((congrArg (aevs 86 (cn P) _ σ) (show au (af (Il (aM (iB P 2))))=eN (af (Il (aM (iB P 2)))) 0::(au (af (Il (aM (iB P 2))))).tail by kernel_rfl)).trans (am (n:=85) (bA (n:=84) (show bw (eN (af (Il (aM (iB P 2)))) 0) .Mult by kernel_rfl) (by kernel_rfl) (by kernel_rfl) (t7 hk)) (by kernel_rfl)))).trans (t6 R (by rwa [List.length_map]))))
 due:=fun {σ cs td row r e fr st y t a b} H hr ht=>by
  subst ht
  refine bO (v:=Jt e) (n:=88) (show bN (kB P 0) "due" by kernel_rfl) (by kernel_rfl) ((pN (n:=87) (c:=true) (show pM (af (kB P 0)) by kernel_rfl) (by kernel_rfl)).trans ?_) (by kernel_rfl)
  have hd:=H.dr
  rw [List.map_append] at hd
  exact (bz (n:=86) (ov:=.ref ri) (first:=[.ref ri]) (Φ:=zE) (σ₁:=σ) (σ₂:=σ) (as:=[]) (show bx (eL (af (kB P 0))) "pop" by kernel_rfl) (by kernel_rfl) (by kernel_rfl) (iX hd (by kernel_rfl)) (by kernel_rfl)).trans (xx (l:=r.map Jt) (v:=Jt e) hd (by rw [List.length_append,List.length_map];rwa [List.length_append] at hr))
 came:=fun {σ cs td row r e fr st y t a b} H hr ht=>by
  subst ht
  have R:=H.ac h n1
  rw [List.map_append] at R
  refine bO (v:=Jt e) (n:=87) (show bN (kB P 1) "came" by kernel_rfl) (by kernel_rfl) ((pN (n:=86) (c:=true) (show pM (af (kB P 1)) by kernel_rfl) (by kernel_rfl)).trans ?_) (by kernel_rfl)
  exact (bz (n:=85) (ov:=.ref ai) (first:=[.ref ai]) (Φ:=Ic P) (σ₁:=σ) (σ₂:=σ) (as:=[]) (show bx (eL (af (kB P 1))) "pop" by kernel_rfl) (by kernel_rfl) (by kernel_rfl) (R.meth (by kernel_rfl)) (by kernel_rfl)).trans (jS R (by rw [List.length_append,List.length_map];rwa [List.length_append] at hr))
 same:=fun h=>ne_tup (tY _ h) (tX _)
 word:=by intros;kernel_rfl
 has:=fun {row} h=>⟨row.getLast h,row.dropLast,(List.dropLast_concat_getLast h).symm⟩
 perm:=fun h=>h▸List.perm_append_singleton _ _
end
end Internal
namespace Internal
noncomputable def Jz:List Cor:=[⟨0,0,1,99,99,0⟩,⟨1,0,1,0,99,0⟩,⟨1,1,1,0,0,0⟩,⟨0,1,1,99,0,0⟩]
noncomputable def pA:Pc:=(0,1,2)
noncomputable def pB:Pc:=(3,0,2)
theorem v0:Vl 0 99:=.inl ⟨rfl,rfl⟩
theorem v1:Vl 1 0:=.inr ⟨by decide,0,rfl⟩
theorem uf:∀ c∈Jz,c.Ok:=by
 refine List.forall_mem_cons.mpr ⟨⟨v0,v0,v1,by decide,by decide,by decide,by decide,by decide,by decide,by decide,by decide,by decide,by decide⟩,List.forall_mem_cons.mpr ⟨⟨v1,v0,v1,by decide,by decide,by decide,by decide,by decide,by decide,by decide,by decide,by decide,by decide⟩,
  List.forall_mem_cons.mpr ⟨⟨v1,v1,v1,by decide,by decide,by decide,by decide,by decide,by decide,by decide,by decide,by decide,by decide⟩,List.forall_mem_cons.mpr ⟨⟨v0,v1,v1,by decide,by decide,by decide,by decide,by decide,by decide,by decide,by decide,by decide,by decide⟩,fun __ h=>nomatch h⟩⟩⟩⟩
theorem JA {p:Pc} {A B C:Cor} (O:On Jz p A B C) (hx:A.x+B.x+C.x≤3 * 5 ^ 0) (hy:A.y+B.y+C.y≤3 * 5 ^ 0) (hz:A.z+B.z+C.z≤3 * 5 ^ 0):Tri 0 A B C:=
 ⟨uf _ (List.mem_of_getElem? O.a),uf _ (List.mem_of_getElem? O.b),uf _ (List.mem_of_getElem? O.c),hx,hy,hz⟩
theorem JB:On Jz pA ⟨0,0,1,99,99,0⟩ ⟨1,0,1,0,99,0⟩ ⟨1,1,1,0,0,0⟩:=⟨rfl,rfl,rfl⟩
theorem JC:On Jz pB ⟨0,1,1,99,0,0⟩ ⟨0,0,1,99,99,0⟩ ⟨1,1,1,0,0,0⟩:=⟨rfl,rfl,rfl⟩
theorem Gp:Tri 0 ⟨0,0,1,99,99,0⟩ ⟨1,0,1,0,99,0⟩ ⟨1,1,1,0,0,0⟩:=JA JB (by decide) (by decide) (by decide)
theorem Gq:Tri 0 ⟨0,1,1,99,0,0⟩ ⟨0,0,1,99,99,0⟩ ⟨1,1,1,0,0,0⟩:=JA JC (by decide) (by decide) (by decide)
theorem pi0:PI Jz [] [pA,pB] 0 where
 len:=rfl
 gr:=fun __ h=>nomatch h
 mks:=fun __ h=>nomatch h
 gf:=List.forall_mem_cons.mpr ⟨.of JB Gp,List.forall_mem_cons.mpr ⟨.of JC Gq,fun __ h=>nomatch h⟩⟩
 sum:=by decide +kernel
 lo:=Nat.le_refl _
 hi:=Nat.le_refl _
 fl:=by decide
noncomputable def JD:List (Str×AV):=[(pc pA,.int 0),(pc pB,.int 1)]
theorem G9:Tok Jz JD [(0,pA),(0,pB)]:=List.forall_mem_cons.mpr ⟨by kernel_rfl,List.forall_mem_cons.mpr ⟨by kernel_rfl,fun __ h=>nomatch h⟩⟩
section
variable {P:Params} {X:Fx} {σ₀ σ:St} {qo:List aS→AObj} {dv:aS→AV} {tk:List aS→aS→List aS→Prop} {r:List aS} {e:aS} {fr st y t a b:AV} {n n0 n1 n2 n3 n4:Int} {E:AEnv}
theorem ug {A B C:Cor} (Q:Tk P X σ₀ qo dv tk) (H:LS X.ix σ₀ σ (obs Jz JD r (qo r))) (hp:[((0:Nat),pA),(0,pB)].Perm (e::r)) (O:On Jz e.2 A B C) (Z:Tri 0 A B C) (hn:∀ σ,ib σ X.nums (.int 0)=some (.int n)) :
  ∃ σ' E',ak 86 (cn P) (X.env P fr (.int 0) y t a (dv e)) σ (kB P 3)=some ((.next,E'),σ',false)∧Hold P X σ₀ qo 1 σ' E':=by
 refine Hh fun G_ k_=>?_
 obtain ⟨F,N⟩:=iY (n:=n) (Z.rot (f:=oe (lb A n) (lb B n) (lb C n))) (by decide)
 obtain ⟨σ',z,H'⟩:=DW (m:=0) (fr:=fr) (y:=y) (t:=t) (a:=a) Q H (by decide) (by decide) O N.ok hn N.mix
 refine k_ ?_
 have all:=pi0.all (by decide)
 exact ⟨σ',_,z,⟨Jz++[F],JD,r,_,_,_,_,_,_,rfl,pi0.next (by decide) hp O Z N,H',fun x hx=>(G9 x (hp.mem_iff.mpr (List.mem_cons_of_mem _ hx))).trans (by rw [(all.1 x (hp.mem_iff.mpr (List.mem_cons_of_mem _ hx))).1.mono.2]),by decide⟩⟩
structure Done (P:Params) (X:Fx) (σ₀:St) (qo:List aS→AObj) (σ:St) (E:AEnv):Prop where
 ex:∃ cs td row fr st y t a b,E=X.env P fr st y t a b∧LS X.ix σ₀ σ (obs cs td row (qo row))∧(∀ e∈row,e.1 < 6)∧7≤row.length∧row.length≤12
theorem xD (Q:Tk P X σ₀ qo dv tk) (Hd:Hold P X σ₀ qo 5 σ E):∃ σ' E' q,eC 95 (cn P) (fY (bI P 212 3)) (aM (bI P 212 3)) (.int 5) E σ=some ((.next,E'),σ',q)∧Done P X σ₀ qo σ' E':=by
 obtain ⟨cs,td,row,fs,st,y,t,a,b,rfl,I,H,K,ht⟩:=Hd.ex
 refine Hh fun G_ k_=>?_
 obtain ⟨σ',y',td',H1,-,-,G⟩:=ue (m:=5) (st:=st) (y:=y) (t:=t) (a:=a) (b:=b) Q (by decide) I H K ht
 obtain ⟨h1,-,h3⟩:=I.all (by decide)
 have z:=(dG (n:=90) (C:=cn P) (E:=X.env P (.lst (fs.map fun p=>.str (pc p))) (.int 5) y' (Jx cs (Jy 5 row fs)) a b) (σ:=σ') false (c:=false) (show jE (fB P 3) by kernel_rfl) (by kernel_rfl) rfl).trans (show aexecs 90 (cn P) _ σ' (cR (fB P 3))=some ((.next,X.env P (.lst (fs.map fun p=>.str (pc p))) (.int 5) y' (Jx cs (Jy 5 row fs)) a b),σ',true) by kernel_rfl)
 obtain ⟨q',z2⟩:=G [fB P 3] _ _ _ ((Is (n:=91) _ z).trans rfl)
 refine k_ ?_
 rw [mT]
 exact ⟨σ',_,q',z2,⟨cs,td',_,_,_,_,_,_,_,rfl,H1,fun e he=>(h1 e he).2,by rw [h3];exact I.lo,by rw [h3];exact I.hi⟩⟩
theorem xE (Q:Tk P X σ₀ qo dv tk) (hn:X.nums = .lst [.int n0,.int n1,.int n2,.int n3,.int n4]) (Hd:Hold P X σ₀ qo 1 σ E):∃ σ' E' q,m6 (eC 95 (cn P) (fY (bI P 212 3)) (aM (bI P 212 3))) [.int 1,.int 2,.int 3,.int 4,.int 5] E σ=some ((.next,E'),σ',q)∧Done P X σ₀ qo σ' E':=by
 refine Hh fun G_ k_=>?_
 obtain ⟨σ1,E1,q1,e1,H1⟩:=gh (n:=n1) Q (m:=1) (by decide) (fun σ=>by rw [hn];kernel_rfl) Hd
 obtain ⟨σ2,E2,q2,e2,H2⟩:=gh (n:=n2) Q (m:=2) (by decide) (fun σ=>by rw [hn];kernel_rfl) H1
 obtain ⟨σ3,E3,q3,e3,H3⟩:=gh (n:=n3) Q (m:=3) (by decide) (fun σ=>by rw [hn];kernel_rfl) H2
 obtain ⟨σ4,E4,q4,e4,H4⟩:=gh (n:=n4) Q (m:=4) (by decide) (fun σ=>by rw [hn];kernel_rfl) H3
 obtain ⟨σ5,E5,q5,e5,H5⟩:=xD Q H4
 refine k_ ?_
 exact ⟨σ5,E5,_,c7 e1 (c7 e2 (c7 e3 (c7 e4 (c7 (q:=true) e5 rfl)))),H5⟩
end
end Internal
namespace Internal
noncomputable def bT:AV:=.lst [.str (pc pA),.str (pc pB)]
noncomputable abbrev n5 (n0 n1 n2 n3 n4:Int):AV:=.lst [.int n0,.int n1,.int n2,.int n3,.int n4]
noncomputable def cS:List AV:=[Jt (0,pA),Jt (0,pB)]
noncomputable def cE:AV:=.lst [.int 0,.int 1]
noncomputable def JE (td:List (Str×AV)) (di:Nat) (pl row:List AV):St:=[.dic (dD Cor.av 0 Jz),.dic (dD Cor.sv 0 Jz),.dic td,.ns uv,.acc 115 di pl,.lst row]
noncomputable def JF (P:Params) (nums:AV) (dp:Bool):AEnv:=EV P 212 [("numbers", nums),("halves", bT),("lexer", .ref 11),("deep", .bool dp)]
noncomputable def Fx.env0 (X:Fx) (P:Params) (w:List (Str×AV)):AEnv:=EV P 212 ((X.vs bT .none .none .none .none .none).take 10++w)
theorem om (P:Params):aq P 212=bI P 212 0::bI P 212 1::bI P 212 2::bI P 212 3::(aq P 212).drop 4:=by kernel_rfl
theorem BG (P:Params) (vs:List (Str×AV)) (σ:St):asrc 95 (cn P) (EV P 212 vs) σ (im (bI P 212 3))=some (([.int 0,.int 1,.int 2,.int 3,.int 4,.int 5],false),σ,true):=by kernel_rfl
theorem BH (P:Params):mG (bI P 212 3):=by kernel_rfl
section
variable {P:Params} {n0 n1 n2 n3 n4 x:Int} {a0 a1 a2 a3 a4 a5 a6 a7 a8 a9 c0 c1 c2:AObj} {b0 b1 b2 b3 b4 b5 b6 b7 b8 b9 b10 b11 b12 b13 b14 b15 b16 b17 b18 b19 b20 b21 b22:AObj}
noncomputable def sA (a0 a1 a2 a3 a4 a5 a6 a7 a8 a9:AObj) (x:Int) (w:List AV) (c0 c1 c2:AObj):St:=[a0,a1,a2,a3,a4,a5,a6,a7,a8,a9,.ns (Js x),.inst 157 10,.lst w,c0,c1,c2]
noncomputable def sB (b0 b1 b2 b3 b4 b5 b6 b7 b8 b9 b10 b11 b12 b13 b14 b15 b16 b17 b18 b19 b20 b21 b22:AObj):St:=[b0,b1,b2,b3,b4,b5,b6,b7,b8,b9,b10,b11,b12,b13,b14,b15,b16,b17,b18,b19,b20,b21,b22]
theorem JG:aexecs 100 (cn P) (JF P (n5 n0 n1 n2 n3 n4) false) (sA a0 a1 a2 a3 a4 a5 a6 a7 a8 a9 x [] c0 c1 c2) [bI P 212 0,bI P 212 1,bI P 212 2]=some ((.next,(Xs (n5 n0 n1 n2 n3 n4) bT 16 17 18 20 21).env0 P []),((sA a0 a1 a2 a3 a4 a5 a6 a7 a8 a9 x [] c0 c1 c2)++JE [] 19 [] []),false):=by kernel_rfl
theorem ha1:ak 94 (cn P) ((Xs (n5 n0 n1 n2 n3 n4) bT 16 17 18 20 21).env0 P [("step", .int 0)]) ((sA a0 a1 a2 a3 a4 a5 a6 a7 a8 a9 x [] c0 c1 c2)++JE [] 19 [] []) (fB P 0)=some ((.next,(Xs (n5 n0 n1 n2 n3 n4) bT 16 17 18 20 21).env0 P [("step", .int 0),("piece", .str (pc pB))]),((sA a0 a1 a2 a3 a4 a5 a6 a7 a8 a9 x [.str (pc pA),.str (pc pB)] c0 c1 c2)++JE JD 19 [] cS),false):=by kernel_rfl
theorem ha2:ak 93 (cn P) ((Xs (n5 n0 n1 n2 n3 n4) bT 16 17 18 20 21).env0 P [("step", .int 0),("piece", .str (pc pB))]) ((sA a0 a1 a2 a3 a4 a5 a6 a7 a8 a9 x [.str (pc pA),.str (pc pB)] c0 c1 c2)++JE JD 19 [] cS) (fB P 1)=some ((.next,(Xs (n5 n0 n1 n2 n3 n4) bT 16 17 18 20 21).env0 P [("step", .int 0),("piece", .str (pc pB)),("told", cE)]),((sA a0 a1 a2 a3 a4 a5 a6 a7 a8 a9 x [.str (pc pA),.str (pc pB)] c0 c1 c2)++JE JD 19 [] cS),true):=by kernel_rfl
theorem JH:ak 92 (cn P) ((Xs (n5 n0 n1 n2 n3 n4) bT 16 17 18 20 21).env0 P [("step", .int 0),("piece", .str (pc pB)),("told", cE)]) ((sA a0 a1 a2 a3 a4 a5 a6 a7 a8 a9 x [.str (pc pA),.str (pc pB)] c0 c1 c2)++JE JD 19 [] cS) (fB P 2)=some ((.next,(Xs (n5 n0 n1 n2 n3 n4) bT 16 17 18 20 21).env0 P [("step", .int 0),("piece", .str (pc pB)),("told", cE)]),((sA a0 a1 a2 a3 a4 a5 a6 a7 a8 a9 x [.str (pc pA),.str (pc pB)] c0 c1 c2)++JE JD 19 [] cS),true):=by kernel_rfl
theorem JI:ak 89 (cn P) ((Xs (n5 n0 n1 n2 n3 n4) bT 16 17 18 20 21).env0 P [("step", .int 0),("piece", .str (pc pB)),("told", cE)]) ((sA a0 a1 a2 a3 a4 a5 a6 a7 a8 a9 x [.str (pc pA),.str (pc pB)] c0 c1 c2)++JE JD 19 [] cS) (kB P 0)=some ((.next,(Xs (n5 n0 n1 n2 n3 n4) bT 16 17 18 20 21).env0 P [("step", .int 0),("piece", .str (pc pB)),("told", cE),("due", (.str (pc pA)))]),((sA a0 a1 a2 a3 a4 a5 a6 a7 a8 a9 x [.str (pc pA),.str (pc pB)] c0 c1 c2)++JE JD 19 [] [Jt (0,pB)]),false):=by kernel_rfl
theorem JJ:ak 88 (cn P) ((Xs (n5 n0 n1 n2 n3 n4) bT 16 17 18 20 21).env0 P [("step", .int 0),("piece", .str (pc pB)),("told", cE),("due", (.str (pc pA)))]) ((sA a0 a1 a2 a3 a4 a5 a6 a7 a8 a9 x [.str (pc pA),.str (pc pB)] c0 c1 c2)++JE JD 19 [] [Jt (0,pB)]) (kB P 1)=some ((.next,(Xs (n5 n0 n1 n2 n3 n4) bT 16 17 18 20 21).env P bT (.int 0) (.str (pc pB)) cE (.str (pc pA)) (.str (pc pA))),((sA a0 a1 a2 a3 a4 a5 a6 a7 a8 a9 x [.str (pc pB)] c0 c1 c2)++JE JD 19 [] [Jt (0,pB)]),false):=by kernel_rfl
theorem JK:ak 87 (cn P) ((Xs (n5 n0 n1 n2 n3 n4) bT 16 17 18 20 21).env P bT (.int 0) (.str (pc pB)) cE (.str (pc pA)) (.str (pc pA))) ((sA a0 a1 a2 a3 a4 a5 a6 a7 a8 a9 x [.str (pc pB)] c0 c1 c2)++JE JD 19 [] [Jt (0,pB)]) (kB P 2)=some ((.next,(Xs (n5 n0 n1 n2 n3 n4) bT 16 17 18 20 21).env P bT (.int 0) (.str (pc pB)) cE (.str (pc pA)) (.str (pc pA))),((sA a0 a1 a2 a3 a4 a5 a6 a7 a8 a9 x [.str (pc pB)] c0 c1 c2)++JE JD 19 [] [Jt (0,pB)]),true):=by kernel_rfl
theorem hb0:aexecs 100 (cn P) (JF P (n5 n0 n1 n2 n3 n4) true) (sB b0 b1 b2 b3 b4 b5 b6 b7 b8 b9 b10 b11 b12 b13 b14 b15 b16 b17 b18 b19 b20 b21 b22) [bI P 212 0,bI P 212 1,bI P 212 2]=some ((.next,(Xd (n5 n0 n1 n2 n3 n4) bT 23 24 25 27 28).env0 P []),((sB b0 b1 b2 b3 b4 b5 b6 b7 b8 b9 b10 b11 b12 b13 b14 b15 b16 b17 b18 b19 b20 b21 b22)++JE [] 26 [] []),false):=by kernel_rfl
theorem hb1:ak 94 (cn P) ((Xd (n5 n0 n1 n2 n3 n4) bT 23 24 25 27 28).env0 P [("step", .int 0)]) ((sB b0 b1 b2 b3 b4 b5 b6 b7 b8 b9 b10 b11 b12 b13 b14 b15 b16 b17 b18 b19 b20 b21 b22)++JE [] 26 [] []) (fB P 0)=some ((.next,(Xd (n5 n0 n1 n2 n3 n4) bT 23 24 25 27 28).env0 P [("step", .int 0),("piece", .str (pc pB))]),((sB b0 b1 b2 b3 b4 b5 b6 b7 b8 b9 b10 b11 b12 b13 b14 b15 b16 b17 b18 b19 b20 b21 b22)++JE JD 26 cS cS),false):=by kernel_rfl
theorem hb2:ak 93 (cn P) ((Xd (n5 n0 n1 n2 n3 n4) bT 23 24 25 27 28).env0 P [("step", .int 0),("piece", .str (pc pB))]) ((sB b0 b1 b2 b3 b4 b5 b6 b7 b8 b9 b10 b11 b12 b13 b14 b15 b16 b17 b18 b19 b20 b21 b22)++JE JD 26 cS cS) (fB P 1)=some ((.next,(Xd (n5 n0 n1 n2 n3 n4) bT 23 24 25 27 28).env0 P [("step", .int 0),("piece", .str (pc pB)),("told", cE)]),((sB b0 b1 b2 b3 b4 b5 b6 b7 b8 b9 b10 b11 b12 b13 b14 b15 b16 b17 b18 b19 b20 b21 b22)++JE JD 26 cS cS),true):=by kernel_rfl
theorem JL:ak 92 (cn P) ((Xd (n5 n0 n1 n2 n3 n4) bT 23 24 25 27 28).env0 P [("step", .int 0),("piece", .str (pc pB)),("told", cE)]) ((sB b0 b1 b2 b3 b4 b5 b6 b7 b8 b9 b10 b11 b12 b13 b14 b15 b16 b17 b18 b19 b20 b21 b22)++JE JD 26 cS cS) (fB P 2)=some ((.next,(Xd (n5 n0 n1 n2 n3 n4) bT 23 24 25 27 28).env0 P [("step", .int 0),("piece", .str (pc pB)),("told", cE)]),((sB b0 b1 b2 b3 b4 b5 b6 b7 b8 b9 b10 b11 b12 b13 b14 b15 b16 b17 b18 b19 b20 b21 b22)++JE JD 26 cS cS),true):=by kernel_rfl
theorem JM:ak 89 (cn P) ((Xd (n5 n0 n1 n2 n3 n4) bT 23 24 25 27 28).env0 P [("step", .int 0),("piece", .str (pc pB)),("told", cE)]) ((sB b0 b1 b2 b3 b4 b5 b6 b7 b8 b9 b10 b11 b12 b13 b14 b15 b16 b17 b18 b19 b20 b21 b22)++JE JD 26 cS cS) (kB P 0)=some ((.next,(Xd (n5 n0 n1 n2 n3 n4) bT 23 24 25 27 28).env0 P [("step", .int 0),("piece", .str (pc pB)),("told", cE),("due", (Jt (0,pB)))]),((sB b0 b1 b2 b3 b4 b5 b6 b7 b8 b9 b10 b11 b12 b13 b14 b15 b16 b17 b18 b19 b20 b21 b22)++JE JD 26 cS [Jt (0,pA)]),false):=by kernel_rfl
theorem JN:ak 88 (cn P) ((Xd (n5 n0 n1 n2 n3 n4) bT 23 24 25 27 28).env0 P [("step", .int 0),("piece", .str (pc pB)),("told", cE),("due", (Jt (0,pB)))]) ((sB b0 b1 b2 b3 b4 b5 b6 b7 b8 b9 b10 b11 b12 b13 b14 b15 b16 b17 b18 b19 b20 b21 b22)++JE JD 26 cS [Jt (0,pA)]) (kB P 1)=some ((.next,(Xd (n5 n0 n1 n2 n3 n4) bT 23 24 25 27 28).env P bT (.int 0) (.str (pc pB)) cE (Jt (0,pB)) (Jt (0,pB))),((sB b0 b1 b2 b3 b4 b5 b6 b7 b8 b9 b10 b11 b12 b13 b14 b15 b16 b17 b18 b19 b20 b21 b22)++JE JD 26 [Jt (0,pA)] [Jt (0,pA)]),false):=by kernel_rfl
theorem JO:ak 87 (cn P) ((Xd (n5 n0 n1 n2 n3 n4) bT 23 24 25 27 28).env P bT (.int 0) (.str (pc pB)) cE (Jt (0,pB)) (Jt (0,pB))) ((sB b0 b1 b2 b3 b4 b5 b6 b7 b8 b9 b10 b11 b12 b13 b14 b15 b16 b17 b18 b19 b20 b21 b22)++JE JD 26 [Jt (0,pA)] [Jt (0,pA)]) (kB P 2)=some ((.next,(Xd (n5 n0 n1 n2 n3 n4) bT 23 24 25 27 28).env P bT (.int 0) (.str (pc pB)) cE (Jt (0,pB)) (Jt (0,pB))),((sB b0 b1 b2 b3 b4 b5 b6 b7 b8 b9 b10 b11 b12 b13 b14 b15 b16 b17 b18 b19 b20 b21 b22)++JE JD 26 [Jt (0,pA)] [Jt (0,pA)]),true):=by kernel_rfl
end
end Internal
namespace Internal
theorem iZ {C:Cfg} {ys:List Stmt} {n:Nat} {r:AFlow×AEnv} {σ₂:St} {q:Bool} : ∀ {xs:List Stmt} {E E':AEnv} {σ σ':St} {p:Bool},aexecs (n+xs.length) C E σ xs=some ((.next,E'),σ',p)→aexecs n C E' σ' ys=some (r,σ₂,q)→∃ p',aexecs (n+xs.length) C E σ (xs++ys)=some (r,σ₂,p')
 | [],E,E',σ,σ',p,h,h2=>by
  cases n with
  |zero=>exact aa h
  |succ n=>cases h;exact ⟨q,h2⟩
 |x::xs,E,E',σ,σ',p,h,h2=>aJ (x:=ak (n+xs.length) C E σ x) h fun f σ₁ p₁ p₂ e1 e2 __=>by
  obtain ⟨fl,E₁⟩:=f
  cases fl with
  |next=>
   obtain ⟨p',e3⟩:=iZ (xs:=xs) e2 h2
   exact ⟨p₁&&p',aT (x:=ak (n+xs.length) C E σ x) e1 e3⟩
  |_=>cases e2
structure Upto (P:Params) (X:Fx) (σ₀:St) (qo:List aS→AObj) (E:AEnv) (σ:St):Prop where
 go:∃ σ' E',Done P X σ₀ qo σ' E'∧∀ l w σ₂ q,aexecs 96 (cn P) E' σ' l=some (w,σ₂,q)→∃ q',aexecs 100 (cn P) E σ (bI P 212 0::bI P 212 1::bI P 212 2::bI P 212 3::l)=some (w,σ₂,q')
theorem Gr {P:Params} {X:Fx} {σ σ1 σ2 σ3 σ4:St} {qo:List aS→AObj} {dv:aS→AV} {tk:List aS→aS→List aS→Prop} {r:List aS} {e:aS} {n0 n1 n2 n3 n4:Int} {E Ea Eb Ec:AEnv} {A B C:Cor} {p0 p1 p4 p5:Bool}
  (Q:Tk P X σ4 qo dv tk) (hn:X.nums=n5 n0 n1 n2 n3 n4) (h0:aexecs 100 (cn P) E σ [bI P 212 0,bI P 212 1,bI P 212 2]=some ((.next,X.env0 P []),σ1,p0))
  (h1:ak 94 (cn P) (X.env0 P [("step", .int 0)]) σ1 (fB P 0)=some ((.next,Ea),σ2,p1)) (h2:ak 93 (cn P) Ea σ2 (fB P 1)=some ((.next,Eb),σ2,true)) (h3:ak 92 (cn P) Eb σ2 (fB P 2)=some ((.next,Eb),σ2,true)) (ht:atest 90 (cn P) Eb σ2 (af (fB P 3))=some (true,σ2,true))
  (h4:ak 89 (cn P) Eb σ2 (kB P 0)=some ((.next,Ec),σ3,p4)) (h5:ak 88 (cn P) Ec σ3 (kB P 1)=some ((.next,X.env P bT (.int 0) (.str (pc pB)) cE (dv e) (dv e)),σ4,p5)) (h6:ak 87 (cn P) (X.env P bT (.int 0) (.str (pc pB)) cE (dv e) (dv e)) σ4 (kB P 2)=some ((.next,X.env P bT (.int 0) (.str (pc pB)) cE (dv e) (dv e)),σ4,true))
  (H:LS X.ix σ4 σ4 (obs Jz JD r (qo r))) (hp:[((0:Nat),pA),(0,pB)].Perm (e::r)) (O:On Jz e.2 A B C) (Z:Tri 0 A B C):Upto P X σ4 qo E σ:=by
 obtain ⟨σ',E',z,Hd⟩:=ug (n:=n0) (fr:=bT) (y:=.str (pc pB)) (t:=cE) (a:=dv e) Q H hp O Z (fun σ=>by rw [hn];kernel_rfl)
 obtain ⟨σ'',E'',q,z2,D⟩:=xE Q hn Hd
 refine ⟨σ'',E'',D,fun l w σ₂ q' hl=>?_⟩
 obtain ⟨pk,k⟩:∃ p,ak 91 (cn P) Eb σ2 (fB P 3)=some ((.next,E'),σ',p):=⟨_,(Fk (n:=90) (c:=true) (show jE (fB P 3) by kernel_rfl) ht).trans ((congrArg (aexecs 90 (cn P) _ _) (show aM (fB P 3)=[kB P 0,kB P 1,kB P 2,kB P 3] by kernel_rfl)).trans (ay (n:=89) h4 (ay (n:=88) h5 ((Is (n:=87) _ h6).trans (ay (n:=86) (q:=true) z rfl)))))⟩
 obtain ⟨pt,t0⟩:∃ p,eC 95 (cn P) (fY (bI P 212 3)) (aM (bI P 212 3)) (.int 0) (X.env0 P []) σ1=some ((.next,E'),σ',p):=by
  rw [mT]
  exact ⟨_,(dH (E₁:=X.env0 P [("step", .int 0)]) (by kernel_rfl)).trans (ay (n:=94) h1 ((Is (n:=93) _ h2).trans ((Is (n:=92) _ h3).trans (ay (n:=91) (q:=true) k rfl))))⟩
 exact iZ (n:=97) (xs:=[bI P 212 0,bI P 212 1,bI P 212 2]) (ys:=bI P 212 3::l) h0 (ay (n:=96) (oj (n:=95) (BH P) (by kernel_rfl) (by kernel_rfl) (BG P _ _) (c7 t0 z2)) hl)
section
variable {P:Params} {n0 n1 n2 n3 n4 x:Int} {a0 a1 a2 a3 a4 a5 a6 a7 a8 a9 c0 c1 c2:AObj} {b0 b1 b2 b3 b4 b5 b6 b7 b8 b9 b10 b11 b12 b13 b14 b15 b16 b17 b18 b19 b20 b21 b22:AObj}
noncomputable abbrev JP (a0 a1 a2 a3 a4 a5 a6 a7 a8 a9:AObj) (x:Int) (c0 c1 c2:AObj):St:=sA a0 a1 a2 a3 a4 a5 a6 a7 a8 a9 x [.str (pc pB)] c0 c1 c2++JE JD 19 [] [Jt (0,pB)]
noncomputable abbrev JQ (b0 b1 b2 b3 b4 b5 b6 b7 b8 b9 b10 b11 b12 b13 b14 b15 b16 b17 b18 b19 b20 b21 b22:AObj):St:=sB b0 b1 b2 b3 b4 b5 b6 b7 b8 b9 b10 b11 b12 b13 b14 b15 b16 b17 b18 b19 b20 b21 b22++JE JD 26 [Jt (0,pA)] [Jt (0,pA)]
theorem DY:Upto P (Xs (n5 n0 n1 n2 n3 n4) bT 16 17 18 20 21) (JP a0 a1 a2 a3 a4 a5 a6 a7 a8 a9 x c0 c1 c2) (fun row=>.lst (wL row)) (JF P (n5 n0 n1 n2 n3 n4) false) (sA a0 a1 a2 a3 a4 a5 a6 a7 a8 a9 x [] c0 c1 c2):=
 Gr (e:=(0,pA)) (r:=[(0,pB)]) (dv:=fun e=>.str (pc e.2)) (BF (show ([16,17,18,21,12]:List Nat).Nodup by decide) rfl rfl (show 11 ∉ ([16,17,18,21,12]:List Nat) by decide) (show 10 ∉ ([16,17,18,21,12]:List Nat) by decide)) rfl JG ha1 ha2 JH (by kernel_rfl) JI JJ JK (LS.five rfl rfl rfl rfl rfl) (List.Perm.refl _) JB Gp
theorem DZ:Upto P (Xd (n5 n0 n1 n2 n3 n4) bT 23 24 25 27 28) (JQ b0 b1 b2 b3 b4 b5 b6 b7 b8 b9 b10 b11 b12 b13 b14 b15 b16 b17 b18 b19 b20 b21 b22) (fun row=>.acc 115 26 (row.map Jt)) (JF P (n5 n0 n1 n2 n3 n4) true) (sB b0 b1 b2 b3 b4 b5 b6 b7 b8 b9 b10 b11 b12 b13 b14 b15 b16 b17 b18 b19 b20 b21 b22):=
 Gr (e:=(0,pB)) (r:=[(0,pA)]) (dv:=Jt) (deep (show ([23,24,25,28,27]:List Nat).Nodup by decide) rfl (show 26 ∉ ([23,24,25,28,27]:List Nat) by decide)) rfl hb0 hb1 hb2 JL (by kernel_rfl) JM JN JO (LS.five rfl rfl rfl rfl rfl) (List.Perm.swap _ _ _) JC Gq
end
end Internal
namespace Internal
section
variable {n:Nat} {C:Cfg} {E:AEnv} {σ σ₁ σ₂:St} {p q:Bool} {e:Expr} {a b:AV}
theorem yJ {l r:Expr} {op:CmpOp} {pos:Pos} {c:Bool} (he:e = .Compare l [op] [r] pos) (hs:bD r=false) (h1:Hs (n+1) C E σ l=some (a,σ₁,p)) (h2:Hs n C E σ₁ r=some (b,σ₂,q)) (h3:io σ₂ op a b=some c):Hs (n+2) C E σ e=some (.bool c,σ₂,p&&q):=by
 subst he
 show (if (bD r || false)=true then _ else _)=_
 rw [hs,if_neg (by decide)]
 refine aT (x:=Hs (n+1) C E σ l) h1 ((aT (x:=Hs n C E σ₁ r) (q:=true) h2 (aR h3)).trans ?_)
 rw [Bool.and_true]
theorem BI {elt target iter:Expr} {ifs:List Expr} {scope:Scope} {pos:Pos} {items l:List AV} (he:e = .ListComp elt [⟨target,iter,ifs,0⟩] scope pos) (hc:(!bD iter&&cT E scope&&dU C E iter target)=true) (hs:asrc n C E σ iter=some ((items,false),σ₁,true)) (hl:items.length≤Hk)
  (hm:eG (dI n C E elt target ifs scope) items σ₁=some (l,σ₂,q)):Hs (n+2) C E σ e=some (.lst l,σ₂,q):=by
 subst he
 simp only [Bool.and_eq_true,Bool.not_eq_true'] at hc
 refine (aT (x:=acomp (n+1) C E σ elt target iter ifs 0 scope) (f:=fun l σ₁=>some (AV.lst l,σ₁,true)) (p:=q) (q:=true) ?_ rfl).trans (by rw [Bool.and_true])
 show (if (0:Int)=0∧bD iter=false∧cT E scope=true∧dU C E iter target=true then _ else _)=_
 rw [if_pos ⟨rfl,hc.1.1,hc.1.2,hc.2⟩]
 refine (ae (x:=asrc n C E σ iter) hs).trans ?_
 show (if items.length≤Hk then _ else _)=_
 rw [if_pos hl]
 refine (congrArg (cW false) hm).trans ?_
 show (if false=true∧q=false then none else some (l,σ₂,q))=_
 rw [if_neg (fun h=>nomatch h.1)]
end
theorem mU {n:Nat} {C:Cfg} {E:AEnv} {σ:St} {e:Expr} {v:AV} {q:List AV×Bool} (hz:ie C E e=none) (h:Hs n C E σ e=some (v,σ,true)) (hl:bQ σ v=some q):asrc (n+1) C E σ e=some (q,σ,true):=by
 show els (ie C E e) _ (Hp (Hs n C E σ e) fun v σ₁=>pur σ₁ (bQ σ₁ v))=_
 rw [hz]
 refine (ae (x:=Hs n C E σ e) h).trans ?_
 rw [hl]
 rfl
theorem LS.uniq {ix:List Nat} {σ₀ σ τ:St} {ob:List AObj} (h:ix.length=ob.length) (H:LS ix σ₀ σ ob) (K:LS ix σ₀ τ ob):σ=τ:=List.ext_getElem? fun j=>by
 by_cases hj:j∈ix
 ·obtain ⟨k,hk⟩:=List.mem_iff_getElem?.mp hj
  have hl:k < ob.length:=h▸(List.getElem?_eq_some_iff.mp hk).1
  rw [H.at' k j _ hk (List.getElem?_eq_getElem hl),K.at' k j _ hk (List.getElem?_eq_getElem hl)]
 ·rw [H.fr j hj,K.fr j hj]
theorem LS.put5 {X:Fx} {σ₀ σ:St} {cs ds:List Cor} {td ud:List (Str×AV)} {row r:List aS} {q o:AObj} (nd:X.ix.Nodup) (H:LS X.ix σ₀ σ (obs cs td row q)) (K:LS X.ix σ₀ σ₀ (obs ds ud r o)):σ=((((σ₀.set X.ci (.dic (dD Cor.av 0 cs))).set X.si (.dic (dD Cor.sv 0 cs))).set X.ti (.dic td)).set X.ri (.lst (row.map Jt))).set X.qi q:=
 H.uniq rfl ((((K.setC nd).setT nd).setR nd).setQ nd)
theorem mV {l m:List AV} (h:l.length+m.length≤Hk):h9 .Add (.lst l) (.lst m)=some (.lst (l++m)):=by
 show Ho none (Ho none (Ho none (Ho none (if l.length+m.length≤Hk then some (AV.lst (l++m)) else none))))=_
 rw [if_pos h]
 rfl
theorem lB:∀ {l:List Str},toPys (l.map .str)=some (l.map .str)
 | []=>rfl
 |x::l=>by
  show (pS (.str x)).bind (fun d=>(toPys (l.map .str)).map fun ds=>d::ds)=_
  rw [lB]
  rfl
theorem mW:∀ {l:List Str},(∀ x∈l,PyData.strOk x=true)→PyData.canLayAll0 (l.map .str)=true∧PyData.depthAll (l.map .str)=0
 | [],_=>⟨rfl,rfl⟩
 |x::l,h=>by
  obtain ⟨h1,h2⟩:=mW (l:=l) fun y hy=>h y (List.mem_cons_of_mem _ hy)
  exact ⟨by show (PyData.strOk x&&PyData.canLayAll0 (l.map .str))=true;rw [h x List.mem_cons_self,h1];rfl,by show max 0 (PyData.depthAll (l.map .str))=0;rw [h2];rfl⟩
theorem BJ {σ:St} {l:List Str} (h:∀ x∈l,PyData.strOk x=true):io σ .Eq (.lst (l.map .str)) (.lst (l.map .str))=some true:=by
 show Ho none (Ho none (Ho none (dZ (.lst (l.map .str)) (.lst (l.map .str)))))=_
 rw [dL (d:=.list (l.map .str)) (by show (toPys (l.map .str)).map PyData.list=_;rw [lB];rfl) (by
  show (PyData.canLayAll0 (l.map .str)&&decide (PyData.depthAll (l.map .str)+1≤64))=true
  rw [(mW h).1,(mW h).2]
  rfl)]
 rfl
theorem BK {σ:St} {i:Nat} {l:List AV} {acc:Fn} (h:aF σ i=some l) (hl:l.length≤Hk):me acc [.ref i] σ=some (.int l.length,σ,true):=by
 show els (ij (bp σ (.ref i))) _ _=_
 rw [show bp σ (.ref i) = .lst l by show (match aF σ i with | some l=>AV.lst l | none=>.ref i)=_;rw [h]]
 show eZ σ l.length=_
 unfold eZ
 rw [if_pos hl]
noncomputable def gR (P:Params):Expr:=af (Il (aM (bI P 212 4)))
noncomputable def JR:List (Str×AV):=[("lineno", .int 1),("instream", .none),("whitespace", .str Jr),("pushback", .ref 8),("read", .lam 9)]
section
variable {P:Params} {x:Int} {nums fr st y t a b:AV} {σ σ':St} {q:Bool} {l:List AV}
noncomputable abbrev XA (nums:AV):Fx:=Xs nums bT 16 17 18 20 21
theorem oo {i v:AV} (R:RdIn σ x l) (h:ga P [.ref 11] σ=some (v,σ',q)):dI 89 (cn P) ((XA nums).env P fr st y t a b) (eL (eL (gR P))) (dF (eL (gR P))).target [] (aw (eL (gR P))) i σ=some (some v,σ',q):=
 (aR (a:={ ag ((XA nums).env P fr st y t a b) (aw (eL (gR P))) with vars:=[("lexer", .ref 11),("turn", i)] }) (by kernel_rfl)).trans ((ae (a:=true) (σ₁:=σ) rfl).trans ((aT (q:=true) ((bz (n:=88) (e:=eL (eL (gR P))) (ov:=.ref 11) (first:=[.ref 11]) (Φ:=ga P) (σ₁:=σ) (σ₂:=σ) (as:=[]) (show bx (eL (eL (gR P))) "get_token" by kernel_rfl) (by kernel_rfl) (by kernel_rfl) (R.meth (by kernel_rfl)) (by kernel_rfl)).trans h) rfl).trans (by rw [Bool.and_true])))
theorem ou {τ σe:St} {qe:Bool} (h1:τ[11]? = some (.inst 157 10)) (h2:τ[10]? = some (.ns (Js x))) (h3:12 < τ.length) (he:ga P [.ref 11] (τ.set 12 (.lst []))=some (.str "", σe,qe)):∀ (l items:List AV),items.length=l.length+1→l.length≤Hk→∃ q,eG (dI 89 (cn P) ((XA nums).env P fr st y t a b) (eL (eL (gR P))) (dF (eL (gR P))).target [] (aw (eL (gR P)))) items (τ.set 12 (.lst l))=some (l++[.str ""],σe,q)
 |l,[],hn,_=>nomatch hn
 | [],[i],_,_=>⟨_,(aT (oo ⟨by rwa [List.getElem?_set_ne (by decide)],by rwa [List.getElem?_set_ne (by decide)],List.getElem?_set_self h3⟩ he) (aT (q:=true) (p:=true) (b:=[AV.str ""]) rfl rfl))⟩
 | [],_::_::_,hn,_=>nomatch hn
 |v::l,i::items,hn,hl=>by
  obtain ⟨q,z⟩:=ou h1 h2 h3 he l items (Nat.succ.inj hn) (Nat.le_trans (Nat.le_succ _) hl)
  have R:RdIn (τ.set 12 (.lst (v::l))) x (v::l):=⟨by rwa [List.getElem?_set_ne (by decide)],by rwa [List.getElem?_set_ne (by decide)],List.getElem?_set_self h3⟩
  have w:=lA (P:=P) R hl
  rw [List.set_set] at w
  exact ⟨_,aT (oo R w) (aT (q:=true) z rfl)⟩
end
section
variable {P:Params} {n0 n1 n2 n3 n4 x:Int} {a0 a1 a2 a3 a4 c0 c1 c2:AObj} {fr st y t a b:AV} {cs:List Cor} {td:List (Str×AV)} {row:List aS}
noncomputable def sE (a0 a1 a2 a3 a4:AObj) (x:Int) (c0 c1 c2:AObj) (cs:List Cor) (td:List (Str×AV)) (w row:List AV):St:=[a0,a1,a2,a3,a4,.pos [],.ns JR,.inst 157 6,.lst [],.cell (.ref 5),.ns (Js x),.inst 157 10,.lst w,c0,c1,c2,.dic (dD Cor.av 0 cs),.dic (dD Cor.sv 0 cs),.dic td,.ns uv,.acc 115 19 [],.lst row]
noncomputable abbrev sZ (a0 a1 a2 a3 a4:AObj) (x:Int) (c0 c1 c2:AObj) (cs:List Cor) (td:List (Str×AV)) (row:List AV):St:=sE a0 a1 a2 a3 a4 x c0 c1 c2 cs td [] row++[.cit 140 11 true]
theorem xF {row:List AV} : ga P [.ref 11] (sE a0 a1 a2 a3 a4 x c0 c1 c2 cs td [] row)=some (.str "", sZ a0 a1 a2 a3 a4 x c0 c1 c2 cs td row,false):=by kernel_rfl
theorem mX {n:Nat} (h:n≤100) {σ:St} : ∃ items,bQ σ (.rng 0 n)=some (items,false)∧items.length=n:=by
 refine ⟨(List.range ((n:Int) - 0).toNat).map fun (i:Nat)=>AV.int (0+(i:Int)),?_,?_⟩
 ·show (if (0:Int).natAbs < 2 ^ 40∧(n:Int).natAbs < 2 ^ 40 then some _ else none)=_
  rw [if_pos ⟨by decide,Nat.lt_of_le_of_lt h (by decide)⟩]
 ·rw [List.length_map,List.length_range,Int.sub_zero,Int.toNat_natCast]
theorem Fz (hr:row.length≤12):∃ p,ak 95 (cn P) ((XA (n5 n0 n1 n2 n3 n4)).env P fr st y t a b) (sE a0 a1 a2 a3 a4 x c0 c1 c2 cs td (wL row) (row.map Jt)) (bI P 212 4)=some ((.ret (.bool true),(XA (n5 n0 n1 n2 n3 n4)).env P fr st y t a b),sZ a0 a1 a2 a3 a4 x c0 c1 c2 cs td (row.map Jt),p):=by
 have hl:row.length≤Hk:=bn hr (by decide)
 obtain ⟨items,i1,i2⟩:=mX (n:=row.length+1) (σ:=sE a0 a1 a2 a3 a4 x c0 c1 c2 cs td (wL row) (row.map Jt)) (Nat.succ_le_of_lt (Nat.lt_of_le_of_lt hr (by decide)))
 obtain ⟨q,k⟩:=ou (P:=P) (nums:=n5 n0 n1 n2 n3 n4) (fr:=fr) (st:=st) (y:=y) (t:=t) (a:=a) (b:=b) (x:=x) (τ:=sE a0 a1 a2 a3 a4 x c0 c1 c2 cs td [] (row.map Jt)) rfl rfl (by show 12 < 22;decide) xF (wL row) items (by rw [i2,List.length_map]) (by rwa [List.length_map])
 have src:asrc 89 (cn P) ((XA (n5 n0 n1 n2 n3 n4)).env P fr st y t a b) (sE a0 a1 a2 a3 a4 x c0 c1 c2 cs td (wL row) (row.map Jt)) (dF (eL (gR P))).iter=some ((items,false),sE a0 a1 a2 a3 a4 x c0 c1 c2 cs td (wL row) (row.map Jt),true):=by
  have e:Hs 88 (cn P) ((XA (n5 n0 n1 n2 n3 n4)).env P fr st y t a b) (sE a0 a1 a2 a3 a4 x c0 c1 c2 cs td (wL row) (row.map Jt)) (dF (eL (gR P))).iter=some (.rng 0 (row.length+1:Nat),sE a0 a1 a2 a3 a4 x c0 c1 c2 cs td (wL row) (row.map Jt),true):=
   (aP (n:=87) (w:=.type "range") (Φ:=rF) (σ₁:=sE a0 a1 a2 a3 a4 x c0 c1 c2 cs td (wL row) (row.map Jt)) (as:=[.int (row.length+1:Nat)]) (show aO (dF (eL (gR P))).iter "range" by kernel_rfl) (by kernel_rfl) (by kernel_rfl) ((congrArg (aevs 87 (cn P) _ _) (show au (dF (eL (gR P))).iter=[eN (dF (eL (gR P))).iter 0] by kernel_rfl)).trans
    (am (n:=86) (bA (n:=85) (a:=.int row.length) (b:=.int 1) (show bw (eN (dF (eL (gR P))).iter 0) .Add by kernel_rfl) ((aP (n:=84) (w:=.builtin "len") (Φ:=me lG) (as:=[.ref 21]) (show aO (eL (eN (dF (eL (gR P))).iter 0)) "len" by kernel_rfl) (by kernel_rfl) (by kernel_rfl) (by kernel_rfl)).trans ((BK (l:=row.map Jt) rfl (by rwa [List.length_map])).trans (by rw [List.length_map]))) (by kernel_rfl) (by kernel_rfl)) rfl))).trans (by kernel_rfl)
  exact mU (n:=88) (by kernel_rfl) e i1
 have lhs:=BI (n:=89) (e:=eL (gR P)) (E:=(XA (n5 n0 n1 n2 n3 n4)).env P fr st y t a b) (C:=cn P) (show bG (eL (gR P)) by kernel_rfl) (by kernel_rfl) src (by rw [i2];exact bn (Nat.succ_le_succ hr) (by decide)) k
 have rc:Hs 89 (cn P) ((XA (n5 n0 n1 n2 n3 n4)).env P fr st y t a b) (sZ a0 a1 a2 a3 a4 x c0 c1 c2 cs td (row.map Jt)) (eL (eR (gR P)))=some (.lst (wL row),sZ a0 a1 a2 a3 a4 x c0 c1 c2 cs td (row.map Jt),true):=
  bW (n:=87) (held:=true) (items:=row.map Jt) (show bG (eL (eR (gR P))) by kernel_rfl) (by kernel_rfl) (t8 (n:=86) (i:=21) (by kernel_rfl) (by kernel_rfl) rfl) (by rwa [List.length_map]) (hW row fun e __=>bf (n:=86) (E₁:={ ag ((XA (n5 n0 n1 n2 n3 n4)).env P fr st y t a b) (aw (eL (eR (gR P)))) with vars:=[("mark", .str (Jq e.1)),("piece", .str (pc e.2))] }) (by kernel_rfl) (by kernel_rfl))
 have rhs:=bA (n:=89) (e:=eR (gR P)) (show bw (eR (gR P)) .Add by kernel_rfl) rc (show Hs 89 (cn P) _ _ _=some (.lst [.str ""],_,true) by kernel_rfl) (mV (by rw [List.length_map];exact bn (Nat.succ_le_succ hr) (by decide)))
 have ew:wL row++[.str ""]=((row.map fun e:aS=>pc e.2)++[("" : Str)]).map .str:=by rw [List.map_append,List.map_map];rfl
 have ec:io (sZ a0 a1 a2 a3 a4 x c0 c1 c2 cs td (row.map Jt)) .Eq (.lst (wL row++[.str ""])) (.lst (wL row++[.str ""]))=some true:=by
  rw [ew]
  exact BJ fun z hz=>by
   rcases List.mem_append.mp hz with h | h
   ·obtain ⟨e,_,rfl⟩:=List.mem_map.mp h;exact tX _
   ·rw [List.mem_singleton.mp h];kernel_rfl
 have v:=fj (n:=92) (st:=Il (aM (bI P 212 4))) (show jF (Il (aM (bI P 212 4))) by kernel_rfl) (yJ (n:=90) (e:=gR P) (show jG (gR P) .Eq by kernel_rfl) (by kernel_rfl) lhs rhs ec)
 exact ⟨_,(dG (n:=94) true (c:=true) (show jE (bI P 212 4) by kernel_rfl) (by kernel_rfl) rfl).trans ((congrArg (aexecs 94 (cn P) _ _) (show aM (bI P 212 4)=[Il (aM (bI P 212 4))] by kernel_rfl)).trans (iT (n:=93) v))⟩
end
end Internal
namespace Internal
section
variable {P:Params} {n0 n1 n2 n3 n4 x:Int} {a0 a1 a2 a3 a4 c0 c1 c2:AObj}
noncomputable abbrev sR (a0 a1 a2 a3 a4:AObj) (x:Int) (c0 c1 c2:AObj):St:=sA a0 a1 a2 a3 a4 (.pos []) (.ns JR) (.inst 157 6) (.lst []) (.cell (.ref 5)) x [] c0 c1 c2
theorem ow (P:Params):(aq P 212).drop 4=[bI P 212 4,bI P 212 5,bI P 212 6,bI P 212 7,bI P 212 8,bI P 212 9]:=by kernel_rfl
theorem FA:∃ cs td row p,BY P [n5 n0 n1 n2 n3 n4,bT,.ref 11,.bool false] (sR a0 a1 a2 a3 a4 x c0 c1 c2)=some (.bool true,sZ a0 a1 a2 a3 a4 x c0 c1 c2 cs td row,p):=by
 obtain ⟨σ',E',D,G⟩:=(DY (P:=P) (n0:=n0) (n1:=n1) (n2:=n2) (n3:=n3) (n4:=n4) (x:=x) (a0:=a0) (a1:=a1) (a2:=a2) (a3:=a3) (a4:=a4) (a5:=.pos []) (a6:=.ns JR) (a7:=.inst 157 6) (a8:=.lst []) (a9:=.cell (.ref 5)) (c0:=c0) (c1:=c1) (c2:=c2)).go
 obtain ⟨cs,td,row,fr,st,y,t,a,b,rfl,H,-,-,hr⟩:=D.ex
 have e:=LS.put5 (X:=XA (n5 n0 n1 n2 n3 n4)) (H:=H) (ds:=Jz) (ud:=JD) (r:=[(0,pB)]) (o:=.lst (wL [(0,pB)])) (show ([16,17,18,21,12]:List Nat).Nodup by decide) (LS.five rfl rfl rfl rfl rfl)
 have e:σ'=sE a0 a1 a2 a3 a4 x c0 c1 c2 cs td (wL row) (row.map Jt):=e
 subst e
 obtain ⟨p,z⟩:=Fz (P:=P) (n0:=n0) (n1:=n1) (n2:=n2) (n3:=n3) (n4:=n4) (x:=x) (a0:=a0) (a1:=a1) (a2:=a2) (a3:=a3) (a4:=a4) (c0:=c0) (c1:=c1) (c2:=c2) (fr:=fr) (st:=st) (y:=y) (t:=t) (a:=a) (b:=b) (cs:=cs) (td:=td) hr
 obtain ⟨q,z2⟩:=G _ _ _ _ (iT (n:=95) (r:=[bI P 212 5,bI P 212 6,bI P 212 7,bI P 212 8,bI P 212 9]) z)
 exact ⟨cs,td,row.map Jt,q,cz (vs:=[("numbers", n5 n0 n1 n2 n3 n4),("halves", bT),("lexer", .ref 11),("deep", .bool false)]) (by kernel_rfl) ((congrArg (res 100 (cn P) _ _) ((om P).trans (by rw [ow]))).trans (congrArg vI z2))⟩
end
end Internal
namespace Internal
noncomputable def pq (e:aS):Str×Str:=(Jq e.1,pc e.2)
noncomputable def JS (row:List aS):Str:=Txt.join "" ((row.map pq).map cK)
noncomputable def view (row:List aS):AV:=.lst [.int (bU (row.map pq)),.str (JS row),.int row.length]
noncomputable def LowR (row:List aS):Prop:=(∀ e∈row,e.1 < 6)∧row.length≤100
theorem uh (k:Nat):(Jq k).length=k:=by
 show (List.replicate k 32).toArray.size=k
 rw [List.size_toArray,List.length_replicate]
theorem BL (a:Str):a++("" : Str)=a:=by
 show (⟨a.cps ++ #[]⟩:Str)=a
 rw [Array.append_empty]
theorem xG (q:Str×Str):cK q=q.1++q.2:=by
 show q.1++("" : Str)++q.2=_
 rw [BL]
section
variable {row:List aS} {σ:St}
theorem LowR.short (h:LowR row):cx 100 (row.map pq)=true:=by
 unfold cx
 rw [List.all_map]
 exact List.all_eq_true.mpr fun e he=>decide_eq_true ⟨by show (Jq e.1).length≤100;rw [uh];exact Nat.le_of_lt (Nat.lt_trans (h.1 e he) (by decide)),by show 3≤100;decide⟩
theorem LowR.short2 (h:LowR row):cx 1000 (row.map pq)=true:=by
 have:=h.short
 unfold cx at *
 exact List.all_eq_true.mpr fun q hq=>decide_eq_true (by
  have k:=of_decide_eq_true (List.all_eq_true.mp this q hq)
  exact ⟨Nat.le_trans k.1 (by decide),Nat.le_trans k.2 (by decide)⟩)
theorem LowR.len (h:LowR row):(row.map pq).length≤1000:=by
 rw [List.length_map]
 exact Nat.le_trans h.2 (by decide)
theorem LowR.join (h:LowR row):JoinOk "" ((row.map pq).map cK)=true:=lf h.len h.short
theorem hY:∀ {row:List aS},bF (row.map Jt)=some (row.map pq)
 | []=>rfl
 |e::row=>by
  show (bF (row.map Jt)).map (pq e :: ·)=_
  rw [hY]
  rfl
theorem ui:∀ (xs:List Str) (acc:Array Nat),acc.all (· < 0x110000)=true→(∀ x∈xs,PyData.strOk x=true)→(xs.foldl (fun acc p=>acc++("" : Str).cps++p.cps) acc).all (· < 0x110000)=true
 | [],_,h,_=>h
 |x::xs,acc,h,hx=>ui xs _ (by
   have k:x.cps.all (· < 0x110000)=true:=hx x List.mem_cons_self
   rw [Array.all_append,Array.all_append,h,k,show ("" : Str).cps.all (· < 0x110000)=true by kernel_rfl]
   rfl) fun y hy=>hx y (List.mem_cons_of_mem _ hy)
theorem oy:∀ (xs:List Str),(∀ x∈xs,PyData.strOk x=true)→PyData.strOk (Txt.join "" xs)=true
 | [],_=>by kernel_rfl
 |x::xs,h=>ui xs x.cps (h x List.mem_cons_self) fun y hy=>h y (List.mem_cons_of_mem _ hy)
theorem D1 (h:LowR row):PyData.strOk (JS row)=true:=oy _ fun x hx=>by
 rw [List.map_map] at hx
 obtain ⟨e,he,rfl⟩:=List.mem_map.mp hx
 exact oy [Jq e.1,pc e.2] (List.forall_mem_cons.mpr ⟨tY _ (h.1 e he),List.forall_mem_cons.mpr ⟨tX _,fun __ h=>nomatch h⟩⟩)
structure PileIn (σ:St) (pl:List AV):Prop extends AccIn σ 27 26 pl where
 t1:dz σ 1=some (c9 77 cQ)
 t2:dz σ 2=some (c9 84 cY)
theorem oz {n:Nat} {C:Cfg} {E:AEnv} {σ σ₁ σ₂:St} {p q:Bool} {e:Expr} {v:AV} {es:List Expr} {vs:List AV} (h:Hs n C E σ e=some (v,σ₁,p)) (h2:aevs n C E σ₁ es=some (vs,σ₂,q)):aevs (n+1) C E σ (e::es)=some (v::vs,σ₂,p&&q):=
 aT (x:=Hs n C E σ e) h ((aT (x:=aevs n C E σ₁ es) (q:=true) h2 rfl).trans (by rw [Bool.and_true]))
theorem jT {n:Nat} {C:Cfg} {E:AEnv} {σ σ₁:St} {p:Bool} {e:Expr} {es:List Expr} {pos:Pos} {l:List AV} {v:AV} (he:e = .List es pos) (hn:es.any aH=false) (h:aevs n C E σ es=some (l,σ₁,p)) (hm:mk C pos l σ₁=some (v,σ₁,true)):Hs (n+1) C E σ e=some (v,σ₁,p):=by
 subst he
 show (if (es.any aH)=true then _ else _)=_
 rw [hn,if_neg (by decide)]
 exact (aT (x:=aevs n C E σ es) h hm).trans (by rw [Bool.and_true])
variable {P:Params}
noncomputable def vE (P:Params) (i:Nat):Expr:=eN (af (bI P 202 0)) i
theorem gj (h:LowR row) (H:PileIn σ (row.map Jt)):Au P [.ref 27] σ=some (view row,σ,false):=by
 have hl:me sX [.ref 27] σ=some (.int (bU (row.map pq)),σ,false):=by
  have e:aQ σ 27=none:=by unfold aQ;rw [H.acc]
  show els (ij (bp σ (.ref 27))) _ (els (aQ σ 27) _ (sX [.ref 27] σ))=_
  rw [show bp σ (.ref 27) = .ref 27 by show (match aF σ 27 with | some l=>AV.lst l | none=>.ref 27)=_;rw [H.no.1],e]
  show (bv σ (.ref 27)).bind (fun q=>(bF q.l).bind fun ps=>if (q.m.lookup ("_initial_size" : Str)).bind dT=some 2∧dz σ 1=some (c9 77 cQ)∧ps.length≤1000∧cx 1000 ps=true then some (AV.int (bU ps),σ,false) else none)=_
  rw [H.get]
  show (bF (row.map Jt)).bind _=_
  rw [hY]
  exact if_pos ⟨by kernel_rfl,H.t1,h.len,h.short2⟩
 have hs:wG [.ref 27] σ=some (.str (JS row),σ,false):=by
  show (bv σ (.ref 27)).bind (fun q=>(bF q.l).bind fun ps=>if dz σ 2=some (c9 84 cY)∧ps.length≤1000∧cx 100 ps=true then some (AV.str (Txt.join "" (ps.map cK)),σ,false) else none)=_
  rw [H.get]
  show (bF (row.map Jt)).bind _=_
  rw [hY]
  exact if_pos ⟨H.t2,h.len,h.short⟩
 have hp:il [.ref 27] σ=some (.int row.length,σ,true):=by
  show (bv σ (.ref 27)).bind (fun q=>if q.l.length≤Hk then some (AV.int q.l.length,σ,true) else none)=_
  rw [H.get]
  show (if (row.map Jt).length≤Hk then some (AV.int (row.map Jt).length,σ,true) else none)=_
  rw [List.length_map,if_pos (bn h.2 (Nat.le_refl _))]
 refine cz (vs:=[("pile", .ref 27)]) (by kernel_rfl) ((congrArg (res 100 cv _ σ) (show aq P 202=[bI P 202 0] by kernel_rfl)).trans (jH (n:=99) (EV P 202 [("pile", .ref 27)]) (fj (n:=98) (show jF (bI P 202 0) by kernel_rfl) (jT (n:=97) (show IsList (af (bI P 202 0)) by kernel_rfl) (by kernel_rfl)
  ((congrArg (aevs 97 cv _ σ) (show au (af (bI P 202 0))=[vE P 0,vE P 1,vE P 2] by kernel_rfl)).trans (oz (n:=96) (p:=false) ((aP (n:=95) (w:=.builtin "len") (Φ:=me sX) (as:=[.ref 27]) (show aO (vE P 0) "len" by kernel_rfl) (by kernel_rfl) (by kernel_rfl) (by kernel_rfl)).trans hl)
   (oz (n:=95) (p:=false) ((aP (n:=94) (w:=.type "str") (Φ:=wG) (as:=[.ref 27]) (show aO (vE P 1) "str" by kernel_rfl) (by kernel_rfl) (by kernel_rfl) (by kernel_rfl)).trans hs)
    (oz (n:=94) (q:=true) ((bz (n:=93) (ov:=.ref 27) (first:=[.ref 27]) (Φ:=il) (σ₁:=σ) (σ₂:=σ) (as:=[]) (show bx (vE P 2) "part_count" by kernel_rfl) (by kernel_rfl) (by kernel_rfl) (H.meth (by kernel_rfl)) (by kernel_rfl)).trans hp) rfl)))) (by kernel_rfl)))))
theorem uj {x y:Str} (h:x.length+y.length≤Hk):h9 .Add (.str x) (.str y)=some (.str (x++y)):=by
 show Ho none (Ho none (Ho none (Ho (if x.length+y.length≤Hk then some (AV.str (x++y)) else none) _)))=_
 rw [if_pos h]
 rfl
theorem oA {e:aS} (h:e.1 < 6):h9 .Add (.str (Jq e.1)) (.str (pc e.2))=some (.str (cK (pq e)))∧((cK (pq e)).length:Int)=dy (pq e)∧(cK (pq e)).length≤Hk:=by
 have hl:(Jq e.1).length+(pc e.2).length≤Hk:=by rw [uh];exact bn (b:=9) (Nat.add_le_add (Nat.le_of_lt h) (show 3≤3 from Nat.le_refl _)) (by decide)
 rw [xG]
 exact ⟨uj hl,by rw [jB];exact Int.natCast_add _ _,by rw [jB];exact hl⟩
noncomputable def JT (P:Params) (i:Nat):Expr:=eN (af (bI P 207 0)) i
noncomputable def dC (P:Params):Expr:=eN (eR (JT P 0)) 0
noncomputable def dJ (P:Params):Expr:=eN (JT P 1) 0
theorem oB:∀ {l:List Str},iH (l.map .str)=some l
 | []=>rfl
 |x::l=>by
  show (iH (l.map .str)).map (x :: ·)=_
  rw [oB]
  rfl
theorem xH {v:AV} {hd:Bool} (h:LowR row) (h1:bp σ v = .lst (row.map Jt)) (h2:bQ σ v=some (row.map Jt,hd)) (h3:db v=none):Ew P [v] σ=some (view row,σ,true):=by
 have hl:row.length≤Hk:=bn h.2 (Nat.le_refl _)
 have c1:Hs 93 c0 (EV P 207 [("row", v)]) σ (dC P)=some (.lst ((row.map fun e=>dy (pq e)).map .int),σ,true):=by
  rw [List.map_map]
  exact bW (n:=91) (held:=hd) (items:=row.map Jt) (show bG (dC P) by kernel_rfl) (by kernel_rfl) (mU (n:=90) (v:=v) (by kernel_rfl) (by kernel_rfl) h2) (by rwa [List.length_map]) (hW row fun e he=>bf (n:=90) (E₁:={ ag (EV P 207 [("row", v)]) (aw (dC P)) with vars:=[("mark", .str (Jq e.1)),("piece", .str (pc e.2))] }) (by kernel_rfl)
   ((aP (n:=90) (w:=.builtin "len") (Φ:=me lG) (as:=[.str (cK (pq e))]) (show aO (eL (dC P)) "len" by kernel_rfl) (by kernel_rfl) (by kernel_rfl) ((congrArg (aevs 90 c0 _ σ) (show au (eL (dC P))=[eN (eL (dC P)) 0] by kernel_rfl)).trans (am (n:=89) (bA (n:=88) (show bw (eN (eL (dC P)) 0) .Add by kernel_rfl) (by kernel_rfl) (by kernel_rfl) (oA (h.1 e he)).1) rfl))).trans (by
    show eZ σ (cK (pq e)).length=some (AV.int (dy (pq e)),σ,true)
    unfold eZ
    rw [if_pos (oA (h.1 e he)).2.2,(oA (h.1 e he)).2.1])))
 have c2:Hs 93 c0 (EV P 207 [("row", v)]) σ (dJ P)=some (.lst (((row.map pq).map cK).map .str),σ,true):=by
  rw [List.map_map,List.map_map]
  exact bW (n:=91) (held:=hd) (items:=row.map Jt) (show bG (dJ P) by kernel_rfl) (by kernel_rfl) (mU (n:=90) (v:=v) (by kernel_rfl) (by kernel_rfl) h2) (by rwa [List.length_map]) (hW row fun e he=>bf (n:=90) (E₁:={ ag (EV P 207 [("row", v)]) (aw (dJ P)) with vars:=[("mark", .str (Jq e.1)),("piece", .str (pc e.2))] }) (by kernel_rfl)
   (bA (n:=90) (show bw (eL (dJ P)) .Add by kernel_rfl) (by kernel_rfl) (by kernel_rfl) (oA (h.1 e he)).1))
 have hj:vN [.str "", .lst (((row.map pq).map cK).map .str)] σ=some (.str (JS row),σ,true):=by
  show (iH (((row.map pq).map cK).map .str)).bind (fun xs=>if JoinOk "" xs=true then some (AV.str (Txt.join "" xs),σ,true) else none)=_
  rw [oB]
  exact if_pos h.join
 have hn:me lG [v] σ=some (.int row.length,σ,true):=by
  show els (db v) _ (els (ij (bp σ v)) _ _)=_
  rw [h3,h1]
  show eZ σ (row.map Jt).length=_
  unfold eZ
  rw [List.length_map,if_pos hl]
 have e0:bU (row.map pq)=2+(row.map fun e=>dy (pq e)).sum:=by unfold bU;rw [List.map_map];rfl
 refine cz (vs:=[("row", v)]) (by kernel_rfl) ((congrArg (res 100 c0 _ σ) (show aq P 207=[bI P 207 0] by kernel_rfl)).trans (jH (n:=99) (EV P 207 [("row", v)]) (fj (n:=98) (show jF (bI P 207 0) by kernel_rfl) (n7 (n:=97) (show IsList (af (bI P 207 0)) by kernel_rfl) (by kernel_rfl)
  ((congrArg (aevs 97 c0 _ σ) (show au (af (bI P 207 0))=[JT P 0,JT P 1,JT P 2] by kernel_rfl)).trans (am (n:=96) (v:=.int (bU (row.map pq))) (bA (n:=95) (a:=.int 2) (b:=.int (row.map fun e=>dy (pq e)).sum) (show bw (JT P 0) .Add by kernel_rfl) (by kernel_rfl) ((aP (n:=94) (w:=.builtin "sum") (Φ:=ya) (σ₁:=σ) (show aO (eR (JT P 0)) "sum" by kernel_rfl) (by kernel_rfl) (by kernel_rfl)
    ((congrArg (aevs 94 c0 _ σ) (show au (eR (JT P 0))=[dC P] by kernel_rfl)).trans (am (n:=93) c1 rfl))).trans sum_ints) (by rw [e0];rfl))
   (am (n:=95) (v:=.str (JS row)) ((bz (n:=94) (ov:=.str "") (first:=[.str ""]) (Φ:=vN) (σ₁:=σ) (σ₂:=σ) (show bx (JT P 1) "join" by kernel_rfl) (by kernel_rfl) (by kernel_rfl) (by kernel_rfl) ((congrArg (aevs 94 c0 _ σ) (show au (JT P 1)=[dJ P] by kernel_rfl)).trans (am (n:=93) c2 rfl))).trans hj)
    (am (n:=94) (v:=.int row.length) ((aP (n:=93) (w:=.builtin "len") (Φ:=me lG) (as:=[v]) (show aO (JT P 2) "len" by kernel_rfl) (by kernel_rfl) (by kernel_rfl) (by kernel_rfl)).trans hn) rfl)))) (by kernel_rfl)))))
end
end Internal
namespace Internal
theorem xI {n k:Nat} (h:k≤n):clipAt n (k:Int)=k:=by
 unfold clipAt
 rw [if_neg (Int.not_lt.mpr (Int.natCast_nonneg k)),Int.min_eq_left (Int.ofNat_le.mpr h),Int.max_eq_right (Int.natCast_nonneg k),Int.toNat_natCast]
theorem uk {l:List AV} {k:Nat} (hk:k≤l.length):lJ l none (some (k:Int)) none=l.take k:=by
 unfold lJ
 rw [sliceBounds_plain]
 show (sliceRange ((0:Nat):Int) ((clipAt l.length k:Nat):Int) 1).filterMap _=_
 rw [xI hk,sliceRange_one,List.filterMap_map,Nat.sub_zero,fF l 0 k (by rwa [Nat.zero_add]),List.drop_zero]
theorem jU {σ:St} {i a:Nat} {l:List AV} {v:AV} (h:aF σ i=some l) (ha:l[a]? = some v) (hl:l.length≤100):ib σ (.ref i) (.int a)=some v:=by
 have hn:=(List.getElem?_eq_some_iff.mp ha).1
 have e:seqIndex? (a:Int) l.length=some a:=by
  unfold seqIndex?
  rw [if_neg (Int.not_lt.mpr (Int.natCast_nonneg a))]
  exact if_pos (Bool.and_eq_true_iff.mpr ⟨decide_eq_true (Int.natCast_nonneg a),decide_eq_true (Int.ofNat_lt.mpr hn)⟩)
 have s:small (a:Int)=true:=decide_eq_true (Nat.lt_trans (Nat.lt_of_lt_of_le hn hl) (by decide))
 show Ho ((aF σ i).bind fun l=>lI l a) _=_
 rw [h]
 show Ho (if small (a:Int) then (seqIndex? (a:Int) l.length).bind (l[·]?) else none) _=_
 rw [if_pos s,e]
 show Ho l[a]? _=_
 rw [ha]
 rfl
structure Good (k:Nat) (v:AV):Prop where
 d:∃ d,pS v=some d∧d.canLay0=true∧d.depth≤k
theorem BM:∀ {k:Nat} {l:List AV},(∀ v∈l,Good k v)→∃ ds,toPys l=some ds∧PyData.canLayAll0 ds=true∧PyData.depthAll ds≤k
 |_,[],_=>⟨[],rfl,rfl,Nat.zero_le _⟩
 |k,v::l,h=>by
  obtain ⟨d,e1,c1,d1⟩:=(h v List.mem_cons_self).d
  obtain ⟨ds,e2,c2,d2⟩:=BM fun w hw=>h w (List.mem_cons_of_mem _ hw)
  refine ⟨d::ds,?_,?_,Nat.max_le.mpr ⟨d1,d2⟩⟩
  ·show (pS v).bind (fun d=>(toPys l).map fun ds=>d::ds)=_
   rw [e1,e2]
   rfl
  ·show (d.canLay0&&PyData.canLayAll0 ds)=true
   rw [c1,c2]
   rfl
theorem Good.lst {k:Nat} {l:List AV} (h:∀ v∈l,Good k v):Good (k+1) (.lst l):=by
 obtain ⟨ds,e,c,d⟩:=BM h
 exact ⟨.list ds,by show (toPys l).map PyData.list=_;rw [e];rfl,c,Nat.succ_le_succ d⟩
theorem Good.tup {k:Nat} {l:List AV} (h:∀ v∈l,Good k v):Good (k+1) (.tup l):=by
 obtain ⟨ds,e,c,d⟩:=BM h
 exact ⟨.tuple ds,by show (toPys l).map PyData.tuple=_;rw [e];rfl,c,Nat.succ_le_succ d⟩
theorem Good.up {k m:Nat} {v:AV} (h:Good k v) (hk:k≤m):Good m v:=let ⟨d,a,b,c⟩:=h.d;⟨d,a,b,Nat.le_trans c hk⟩
theorem oC {k:Nat} {i:Int} : Good k (.int i):=⟨_,rfl,rfl,Nat.zero_le _⟩
theorem fo {k:Nat} {x:Str} (h:PyData.strOk x=true):Good k (.str x):=⟨_,rfl,h,Nat.zero_le _⟩
theorem oE {e:aS} (h:e.1 < 6):Good 1 (Jt e):=Good.tup (List.forall_mem_cons.mpr ⟨fo (tY _ h),List.forall_mem_cons.mpr ⟨fo (tX _),fun __ h=>nomatch h⟩⟩)
theorem lC {row:List aS} (h:∀ e∈row,e.1 < 6):Good 2 (.lst (row.map Jt)):=Good.lst fun v hv=>by
 obtain ⟨e,he,rfl⟩:=List.mem_map.mp hv
 exact oE (h e he)
theorem fq {row:List aS} (h:LowR row):Good 2 (view row):=(Good.lst (k:=1) (List.forall_mem_cons.mpr ⟨oC,List.forall_mem_cons.mpr ⟨fo (D1 h),List.forall_mem_cons.mpr ⟨oC,fun __ h=>nomatch h⟩⟩⟩))
theorem BN {σ:St} {k:Nat} {l:List AV} (h:∀ v∈l,Good k v) (hk:k≤60):io σ .Eq (.lst l) (.lst l)=some true:=by
 obtain ⟨d,e,c,dd⟩:=(Good.lst h).d
 show Ho none (Ho none (Ho none (dZ (.lst l) (.lst l))))=_
 rw [dL e (Bool.and_eq_true_iff.mpr ⟨c,decide_eq_true (Nat.le_trans dd (Nat.succ_le_succ (Nat.le_trans hk (by decide))))⟩)]
 rfl
section
variable {P:Params} {σ:St} {pl ql:List AV} {row:List aS} {r0 r1 r2:aS} {R:List aS} {fr st y t a b nums:AV} {v:AV} {k:Nat}
noncomputable def i8 (σ:St) (pl:List AV):St:=σ.set 27 (.acc 115 26 pl)
theorem PileIn.put (H:PileIn σ pl):PileIn (i8 σ ql) ql where
 acc:=List.getElem?_set_self (List.getElem?_eq_some_iff.mp H.acc).1
 ns:=by unfold i8;rw [List.getElem?_set_ne (by decide)];exact H.ns
 t1:=by unfold i8 dz;rw [List.getElem?_set_ne (by decide)];exact H.t1
 t2:=by unfold i8 dz;rw [List.getElem?_set_ne (by decide)];exact H.t2
theorem xJ {xl:List AV} : (i8 σ pl).set 27 (.acc 115 26 xl)=i8 σ xl:=List.set_set ..
theorem hZ {xl:List AV} : i8 (i8 σ pl) xl=i8 σ xl:=List.set_set ..
theorem mY (h:aF σ 28=some ql):aF (i8 σ pl) 28=some ql:=by unfold i8 aF;rw [List.getElem?_set_ne (by decide)];exact h
theorem D2 (H:AccIn σ 27 26 pl) (hk:k≤pl.length) (hl:pl.length≤100):gV σ (.ref 27) (.int k)=some (.lst (pl.drop k),i8 σ (pl.take k),false):=by
 show (bv σ (.ref 27)).bind (fun q=>if q.l.length≤Hk∧(0:Int)≤k∧(k:Int).toNat≤q.l.length then some (AV.lst (q.l.drop (k:Int).toNat),σ.set q.i (.acc 115 q.d (q.l.take (k:Int).toNat)),false) else none)=_
 rw [H.get]
 show (if pl.length≤Hk∧(0:Int)≤k∧(k:Int).toNat≤pl.length then some (AV.lst (pl.drop (k:Int).toNat),σ.set 27 (.acc 115 26 (pl.take (k:Int).toNat)),false) else none)=_
 rw [Int.toNat_natCast,if_pos ⟨bn hl (Nat.le_refl _),Int.natCast_nonneg k,hk⟩]
 rfl
theorem D3 (H:AccIn σ 27 26 pl) (hk:k≤pl.length) (hl:pl.length≤100):dR [.ref 27,.int k] σ=some (.lst (pl.drop k),i8 σ (pl.take k),false):=by
 show Ho (gV σ (.ref 27) (.int k)) _=_
 rw [D2 H hk hl]
 rfl
theorem D4 (H:AccIn σ 27 26 pl) (hl:pl.length≤100):dR [.ref 27] σ=some (.lst pl,i8 σ [],false):=D2 (k:=0) H (Nat.zero_le _) hl
noncomputable abbrev XB (nums:AV):Fx:=Xd nums bT 23 24 25 27 28
theorem fL {n:Nat} {e:Expr} {m:Str} {E:AEnv} {Φ:Fn} {as:List AV} (H:AccIn σ 27 26 pl) (he:bx e m) (hn:((au e).any aH || bo (eL (eL e)) || (cA (eL e)).endLine != (cA e).line || decide ((au e).length > 20))=false) (ho:Hs n (cn P) E σ (eL (eL e))=some (.ref 27,σ,true)) (hm:Cg (cn P) (.ref 27) m (115,uv)=some (Φ,[.ref 27])) (ha:aevs n (cn P) E σ (au e)=some (as,σ,true)):Hs (n+1) (cn P) E σ e=Φ (.ref 27::as) σ:=
 bz (first:=[.ref 27]) (σ₁:=σ) (σ₂:=σ) he hn ho (H.meth hm) ha
noncomputable def l5 (P:Params) (i:Nat):Expr:=eN (af (bI P 212 5)) i
noncomputable def l7 (P:Params) (i:Nat):Expr:=eN (eR (af (bI P 212 7))) i
end
end Internal
namespace Internal
theorem D5 {n:Nat} {C:Cfg} {E:AEnv} {σ σ₁:St} {p:Bool} {e l r:Expr} {op:Operator} {pos:Pos} {a b v:AV} (he:e = .BinOp l op r pos) (h1:Hs n C E σ l=some (a,σ,true)) (h2:Hs n C E σ r=some (b,σ₁,p)) (h3:h9 op a b=some v):Hs (n+1) C E σ e=some (v,σ₁,p):=by
 subst he
 exact (ae (x:=Hs n C E σ l) h1).trans ((aT (x:=Hs n C E σ r) (q:=true) h2 (by rw [h3];rfl)).trans (by rw [Bool.and_true]))
noncomputable def Fx.envW (X:Fx) (P:Params) (fr st y t a b:AV) (w:List (Str×AV)):AEnv:=EV P 212 (X.vs fr st y t a b++w)
noncomputable def JU:AV:=.tup [.str "", .str ""]
noncomputable abbrev L1 (r0 r1 r2:aS) (R:List aS):List AV:=[view (r0::r1::r2::R),.lst (R.map Jt),view [r0,r1,r2],Jt r2,.lst [Jt r0,Jt r1]]
noncomputable abbrev L2 (r0:aS):List AV:=[view [r0],Jt r0,JU,view []]
section
variable {P:Params} {σ:St} {r0 r1 r2:aS} {R:List aS} {fr st y t a b nums:AV} {k:Nat} {E:AEnv} {l:List AV}
theorem BO {pos:Pos} (h:aF σ 28=some l) (hk:k≤l.length) (hl:l.length≤100) (hm:(cn P).mu pos=false):fN (cn P) pos σ (.ref 28) (.int k) .none .none=some (.lst (l.drop k),σ,true):=by
 show opt (aF σ 28) (fun xs=>j2 (cn P) pos σ (some (k:Int)) none none xs)=_
 rw [h]
 show (if l.length≤Hk then mk (cn P) pos (lJ l (some (k:Int)) none none) σ else none)=_
 rw [if_pos (bn hl (Nat.le_refl _)),k5 hk]
 unfold mk
 rw [if_pos (bn (Nat.le_trans (by rw [List.length_drop];exact Nat.sub_le _ _) hl) (Nat.le_refl _)),hm]
theorem mZ {pos:Pos} (h:aF σ 28=some l) (hk:k≤l.length) (hl:l.length≤100) (hm:(cn P).mu pos=false):fN (cn P) pos σ (.ref 28) .none (.int k) .none=some (.lst (l.take k),σ,true):=by
 show opt (aF σ 28) (fun xs=>j2 (cn P) pos σ none (some (k:Int)) none xs)=_
 rw [h]
 show (if l.length≤Hk then mk (cn P) pos (lJ l none (some (k:Int)) none) σ else none)=_
 rw [if_pos (bn hl (Nat.le_refl _)),uk hk]
 unfold mk
 rw [if_pos (bn (Nat.le_trans (by rw [List.length_take];exact Nat.min_le_right _ _) hl) (Nat.le_refl _)),hm]
structure Low4 (r0 r1 r2:aS) (R:List aS):Prop where
 all:LowR (r0::r1::r2::R)
theorem Low4.three (h:Low4 r0 r1 r2 R):LowR [r0,r1,r2]:=⟨fun e he=>h.all.1 e (by
 rcases List.mem_cons.mp he with rfl | he
 ·exact .head _
 ·rcases List.mem_cons.mp he with rfl | he
  ·exact .tail _ (.head _)
  ·rw [List.mem_singleton.mp he];exact .tail _ (.tail _ (.head _))),show 3≤100 by decide⟩
theorem Low4.one (h:Low4 r0 r1 r2 R):LowR [r0]:=⟨fun e he=>h.three.1 e (by rw [List.mem_singleton.mp he];exact .head _),show 1≤100 by decide⟩
theorem m2:LowR []:=⟨fun __ h=>(nomatch h),Nat.zero_le _⟩
theorem JV (h:Low4 r0 r1 r2 R) (H:PileIn σ ((r0::r1::r2::R).map Jt)):∃ p,ak 94 (cn P) ((XB nums).env P fr st y t a b) σ (bI P 212 5)=some ((.next,(XB nums).envW P fr st y t a b [("left", .lst (L1 r0 r1 r2 R))]),i8 σ [],p):=by
 have hz:((r0::r1::r2::R).map Jt).length≤100:=by rw [List.length_map];exact h.all.2
 have H1:=H.put (ql:=[Jt r0,Jt r1,Jt r2])
 have H2:=H.put (ql:=[Jt r0,Jt r1])
 have g1:=D3 (k:=3) H.toAccIn (by rw [List.length_map];exact Nat.le_add_left 3 R.length) hz
 have g3:=jS (P:=P) (l:=[Jt r0,Jt r1]) (v:=Jt r2) H1.toAccIn (show 3≤Hk by unfold Hk;decide)
 have g4:=D4 H2.toAccIn (show 2≤100 by decide)
 rw [xJ] at g3
 rw [hZ] at g4
 exact ⟨_,bO (n:=93) (show bN (bI P 212 5) "left" by kernel_rfl) (by kernel_rfl) (jT (n:=92) (v:=.lst (L1 r0 r1 r2 R)) (show IsList (af (bI P 212 5)) by kernel_rfl) (by kernel_rfl) ((congrArg (aevs 92 (cn P) _ σ) (show au (af (bI P 212 5))=[l5 P 0,l5 P 1,l5 P 2,l5 P 3,l5 P 4] by kernel_rfl)).trans
  (oz (n:=91) ((aP (n:=90) (w:=.ref 202) (Φ:=Au P) (as:=[.ref 27]) (show aO (l5 P 0) "_law_view" by kernel_rfl) (by kernel_rfl) (by kernel_rfl) (by kernel_rfl)).trans (gj h.all H))
  (oz (n:=90) ((fL (n:=89) (m := "pop_from") (Φ:=dR) (as:=[.int 3]) H.toAccIn (by kernel_rfl) (by kernel_rfl) (by kernel_rfl) (by kernel_rfl) (by kernel_rfl)).trans g1)
  (oz (n:=89) ((aP (n:=88) (w:=.ref 202) (Φ:=Au P) (as:=[.ref 27]) (show aO (l5 P 2) "_law_view" by kernel_rfl) (by kernel_rfl) (by kernel_rfl) (by kernel_rfl)).trans (gj (row:=[r0,r1,r2]) h.three H1))
  (oz (n:=88) ((fL (n:=87) (m := "pop") (Φ:=Ic P) (as:=[]) H1.toAccIn (by kernel_rfl) (by kernel_rfl) (by kernel_rfl) (by kernel_rfl) (by kernel_rfl)).trans g3)
  (oz (n:=87) (q:=true) ((fL (n:=86) (m := "pop_from") (Φ:=dR) (as:=[]) H2.toAccIn (by kernel_rfl) (by kernel_rfl) (by kernel_rfl) (by kernel_rfl) (by kernel_rfl)).trans g4) rfl)))))) (by kernel_rfl)) (by kernel_rfl)⟩
variable {τ:St}
theorem JW {left:AV} (hr:aF σ 28=some ((r0::r1::r2::R).map Jt)) (hl:((r0::r1::r2::R).map Jt).length≤100) (H:AccIn σ 27 26 []):ak 93 (cn P) ((XB nums).envW P fr st y t a b [("left", left)]) σ (bI P 212 6)=some ((.next,(XB nums).envW P fr st y t a b [("left", left)]),i8 σ [Jt r0],false):=by
 have i0:=jU (a:=0) hr rfl hl
 exact fZ (n:=92) (show f4 (bI P 212 6) by kernel_rfl) (by kernel_rfl) ((fL (n:=91) (m := "push") (Φ:=Ib P) (as:=[.str (Jq r0.1),.str (pc r0.2)]) H (by kernel_rfl) (by kernel_rfl) (by kernel_rfl) (by kernel_rfl)
  ((congrArg (aevs 91 (cn P) _ σ) (show au (af (bI P 212 6))=[eN (af (bI P 212 6)) 0,eN (af (bI P 212 6)) 1] by kernel_rfl)).trans (am (n:=90) (cy (n:=89) (o:=Jt r0) (k:=.int 0) (show cf (eN (af (bI P 212 6)) 0) by kernel_rfl) (by kernel_rfl) (cy (n:=88) (o:=.ref 28) (k:=.int 0) (show cf (eL (eN (af (bI P 212 6)) 0)) by kernel_rfl) (by kernel_rfl) (by kernel_rfl) (by kernel_rfl) i0) (by kernel_rfl) (by kernel_rfl))
   (am (n:=89) (cy (n:=88) (o:=Jt r0) (k:=.int 1) (show cf (eN (af (bI P 212 6)) 1) by kernel_rfl) (by kernel_rfl) (cy (n:=87) (o:=.ref 28) (k:=.int 0) (show cf (eL (eN (af (bI P 212 6)) 1)) by kernel_rfl) (by kernel_rfl) (by kernel_rfl) (by kernel_rfl) i0) (by kernel_rfl) (by kernel_rfl)) rfl)))).trans (t6 (l:=[]) H (Nat.zero_le _)))
theorem JX {l:List AV} (h:LowR [r0]) (hl:l.length≤90) (H:PileIn σ [Jt r0]):∃ p,ak 92 (cn P) ((XB nums).envW P fr st y t a b [("left", .lst l)]) σ (bI P 212 7)=some ((.next,(XB nums).envW P fr st y t a b [("left", .lst (l++L2 r0))]),i8 σ [],p):=by
 have H1:=H.put (ql:=[])
 have g1:=jS (P:=P) (l:=[]) (v:=Jt r0) H.toAccIn (show 1≤Hk by unfold Hk;decide)
 exact ⟨_,bO (n:=91) (show bN (bI P 212 7) "left" by kernel_rfl) (by kernel_rfl) (D5 (n:=90) (a:=.lst l) (b:=.lst (L2 r0)) (show bw (af (bI P 212 7)) .Add by kernel_rfl) (by kernel_rfl) (jT (n:=89) (v:=.lst (L2 r0)) (show IsList (eR (af (bI P 212 7))) by kernel_rfl) (by kernel_rfl) ((congrArg (aevs 89 (cn P) _ σ) (show au (eR (af (bI P 212 7)))=[l7 P 0,l7 P 1,l7 P 2,l7 P 3] by kernel_rfl)).trans
  (oz (n:=88) ((aP (n:=87) (w:=.ref 202) (Φ:=Au P) (as:=[.ref 27]) (show aO (l7 P 0) "_law_view" by kernel_rfl) (by kernel_rfl) (by kernel_rfl) (by kernel_rfl)).trans (gj (row:=[r0]) h H))
  (oz (n:=87) ((fL (n:=86) (m := "pop") (Φ:=Ic P) (as:=[]) H.toAccIn (by kernel_rfl) (by kernel_rfl) (by kernel_rfl) (by kernel_rfl) (by kernel_rfl)).trans g1)
  (oz (n:=86) ((fL (n:=85) (m := "pop") (Φ:=Ic P) (as:=[]) H1.toAccIn (by kernel_rfl) (by kernel_rfl) (by kernel_rfl) (by kernel_rfl) (by kernel_rfl)).trans (xy H1.toAccIn))
  (oz (n:=85) (q:=true) ((aP (n:=84) (w:=.ref 202) (Φ:=Au P) (as:=[.ref 27]) (show aO (l7 P 3) "_law_view" by kernel_rfl) (by kernel_rfl) (by kernel_rfl) (by kernel_rfl)).trans (gj (row:=[]) m2 H1)) rfl))))) (by kernel_rfl)) (mV (bn (b:=94) (Nat.add_le_add_right hl 4) (by decide)))) (by kernel_rfl)⟩
noncomputable def l8 (P:Params) (i:Nat):Expr:=eN (af (bI P 212 8)) i
noncomputable def l9 (P:Params) (i:Nat):Expr:=eN (eR (eR (af (bI P 212 9)))) i
theorem oF {n:Nat} {e:Expr} {v:AV} {row:List aS} {hd:Bool} {E:AEnv} (he:aO e "_law_due") (hn:((au e).any aH || decide ((au e).length > 20))=false) (hc:gy (cn P) E "_law_due" = some (.ref 207,Ew P)) (ha:au e=[eN e 0]) (hv:Hs n (cn P) E σ (eN e 0)=some (v,σ,true)) (h:LowR row) (h1:bp σ v = .lst (row.map Jt)) (h2:bQ σ v=some (row.map Jt,hd)) (h3:db v=none):Hs (n+2) (cn P) E σ e=some (view row,σ,true):=
 (aP (n:=n+1) he hn hc ((congrArg (aevs (n+1) (cn P) E σ) ha).trans (am (n:=n) hv (by
  cases n with
  |zero=>exact aa hv
  |succ n=>rfl)))).trans (xH h h1 h2 h3)
theorem JY {left:AV} (h:Low4 r0 r1 r2 R) (hr:aF σ 28=some ((r0::r1::r2::R).map Jt)) (hl:((r0::r1::r2::R).map Jt).length≤100):ak 91 (cn P) ((XB nums).envW P fr st y t a b [("left", left)]) σ (bI P 212 8)=some ((.next,(XB nums).envW P fr st y t a b [("left", left),("parted", .lst (L1 r0 r1 r2 R))]),σ,true):=by
 have d0:bp σ (.ref 28) = .lst ((r0::r1::r2::R).map Jt):=by show (match aF σ 28 with | some l=>AV.lst l | none=>.ref 28)=_;rw [hr]
 have i0:bQ σ (.ref 28)=some ((r0::r1::r2::R).map Jt,true):=by show Ho ((aF σ 28).map fun l=>(l,true)) _=_;rw [hr];rfl
 have h3:3≤((r0::r1::r2::R).map Jt).length:=by rw [List.length_map];exact Nat.le_add_left 3 R.length
 exact bO (n:=90) (show bN (bI P 212 8) "parted" by kernel_rfl) (by kernel_rfl) (n7 (n:=89) (v:=.lst (L1 r0 r1 r2 R)) (show IsList (af (bI P 212 8)) by kernel_rfl) (by kernel_rfl) ((congrArg (aevs 89 (cn P) _ σ) (show au (af (bI P 212 8))=[l8 P 0,l8 P 1,l8 P 2,l8 P 3,l8 P 4] by kernel_rfl)).trans
  (am (n:=88) (oF (n:=86) (v:=.ref 28) (by kernel_rfl) (by kernel_rfl) (by kernel_rfl) (by kernel_rfl) (by kernel_rfl) h.all d0 i0 rfl)
  (am (n:=87) ((dK (n:=86) (o:=.ref 28) (l:=.int 3) (h:=.none) (k:=.none) (show yr (l8 P 1) by kernel_rfl) (by kernel_rfl) (by kernel_rfl) (by kernel_rfl) (by kernel_rfl)).trans (BO (k:=3) hr h3 hl (by kernel_rfl)))
  (am (n:=86) (oF (n:=84) (v:=.lst ([r0,r1,r2].map Jt)) (hd:=false) (by kernel_rfl) (by kernel_rfl) (by kernel_rfl) (by kernel_rfl) ((dK (n:=83) (o:=.ref 28) (l:=.none) (h:=.int 3) (k:=.none) (show yr (eN (l8 P 2) 0) by kernel_rfl) (by kernel_rfl) (by kernel_rfl) (by kernel_rfl) (by kernel_rfl)).trans (mZ (k:=3) hr h3 hl (by kernel_rfl))) h.three rfl rfl rfl)
  (am (n:=85) (cy (n:=84) (o:=.ref 28) (k:=.int 2) (show cf (l8 P 3) by kernel_rfl) (by kernel_rfl) (by kernel_rfl) (by kernel_rfl) (jU (a:=2) hr rfl hl))
  (am (n:=84) ((dK (n:=83) (o:=.ref 28) (l:=.none) (h:=.int 2) (k:=.none) (show yr (l8 P 4) by kernel_rfl) (by kernel_rfl) (by kernel_rfl) (by kernel_rfl) (by kernel_rfl)).trans (mZ (k:=2) hr (Nat.le_trans (by decide) h3) hl (by kernel_rfl))) rfl)))))) (by kernel_rfl)) (by kernel_rfl)
theorem JZ (h:Low4 r0 r1 r2 R) (hr:aF σ 28=some ((r0::r1::r2::R).map Jt)) (hl:((r0::r1::r2::R).map Jt).length≤100):ak 90 (cn P) ((XB nums).envW P fr st y t a b [("left", .lst (L1 r0 r1 r2 R++L2 r0)),("parted", .lst (L1 r0 r1 r2 R))]) σ (bI P 212 9)=some ((.ret (.bool true),(XB nums).envW P fr st y t a b [("left", .lst (L1 r0 r1 r2 R++L2 r0)),("parted", .lst (L1 r0 r1 r2 R))]),σ,true):=by
 have g:=fun e he=>oE (h.all.1 e he)
 have gt:Good 2 JU:=(Good.tup (k:=0) (l:=[.str "", .str ""]) (List.forall_mem_cons.mpr ⟨fo (by kernel_rfl),List.forall_mem_cons.mpr ⟨fo (by kernel_rfl),fun __ h=>nomatch h⟩⟩)).up (by decide)
 have ok:∀ v∈L1 r0 r1 r2 R++L2 r0,Good 2 v:=List.forall_mem_cons.mpr ⟨fq h.all,List.forall_mem_cons.mpr ⟨lC fun e he=>h.all.1 e (.tail _ (.tail _ (.tail _ he))),List.forall_mem_cons.mpr ⟨fq h.three,List.forall_mem_cons.mpr ⟨(g r2 (.tail _ (.tail _ (.head _)))).up (by decide),List.forall_mem_cons.mpr ⟨lC (row:=[r0,r1]) fun e he=>h.three.1 e (by
   rcases List.mem_cons.mp he with rfl | he
   ·exact .head _
   ·rw [List.mem_singleton.mp he];exact .tail _ (.head _)),
  List.forall_mem_cons.mpr ⟨fq h.one,List.forall_mem_cons.mpr ⟨(g r0 (.head _)).up (by decide),List.forall_mem_cons.mpr ⟨gt,List.forall_mem_cons.mpr ⟨fq m2,fun __ h=>nomatch h⟩⟩⟩⟩⟩⟩⟩⟩⟩
 refine fj (n:=89) (show jF (bI P 212 9) by kernel_rfl) (yJ (n:=87) (p:=true) (q:=true) (show jG (af (bI P 212 9)) .Eq by kernel_rfl) (by kernel_rfl) (by kernel_rfl) (bA (n:=86) (a:=.lst (L1 r0 r1 r2 R)) (b:=.lst (L2 r0)) (show bw (eR (af (bI P 212 9))) .Add by kernel_rfl) (by kernel_rfl) (n7 (n:=85) (v:=.lst (L2 r0)) (show IsList (eR (eR (af (bI P 212 9)))) by kernel_rfl) (by kernel_rfl) ((congrArg (aevs 85 (cn P) _ σ) (show au (eR (eR (af (bI P 212 9))))=[l9 P 0,l9 P 1,l9 P 2,l9 P 3] by kernel_rfl)).trans
  (am (n:=84) (oF (n:=82) (v:=.lst ([r0].map Jt)) (hd:=false) (by kernel_rfl) (by kernel_rfl) (by kernel_rfl) (by kernel_rfl) ((dK (n:=81) (o:=.ref 28) (l:=.none) (h:=.int 1) (k:=.none) (show yr (eN (l9 P 0) 0) by kernel_rfl) (by kernel_rfl) (by kernel_rfl) (by kernel_rfl) (by kernel_rfl)).trans (mZ (k:=1) hr (by rw [List.length_map];exact Nat.le_add_left 1 _) hl (by kernel_rfl))) h.one rfl rfl rfl)
  (am (n:=83) (cy (n:=82) (o:=.ref 28) (k:=.int 0) (show cf (l9 P 1) by kernel_rfl) (by kernel_rfl) (by kernel_rfl) (by kernel_rfl) (jU (a:=0) hr rfl hl))
  (am (n:=82) (v:=JU) (by kernel_rfl) (am (n:=81) (oF (n:=79) (v:=.lst (([]:List aS).map Jt)) (hd:=false) (by kernel_rfl) (by kernel_rfl) (by kernel_rfl) (by kernel_rfl) (by kernel_rfl) m2 rfl rfl rfl) rfl))))) (by kernel_rfl)) (mV (show 9≤Hk by unfold Hk;decide))) (BN ok (by decide)))
end
end Internal
namespace Internal
section
variable {P:Params} {n0 n1 n2 n3 n4:Int} {b3 b4 b5 b6 b7 b8 b9 b10 b11 b12 b13 b14 b15 b16 b17 b18 b19 b20 b21 b22:AObj} {v0:Array Value}
noncomputable abbrev sT (v0:Array Value) (b3 b4 b5 b6 b7 b8 b9 b10 b11 b12 b13 b14 b15 b16 b17 b18 b19 b20 b21 b22:AObj):St:=sB (.tab v0) (.tab (c9 77 cQ)) (.tab (c9 84 cY)) b3 b4 b5 b6 b7 b8 b9 b10 b11 b12 b13 b14 b15 b16 b17 b18 b19 b20 b21 b22
theorem D6 {σ:St} {row:List aS} {nums fr st y t a b:AV} (hr:aF σ 28=some (row.map Jt)) (H:PileIn σ (row.map Jt)) (h6:∀ e∈row,e.1 < 6) (h3:3≤row.length) (h12:row.length≤12):∃ q E',aexecs 96 (cn P) ((XB nums).env P fr st y t a b) σ [bI P 212 4,bI P 212 5,bI P 212 6,bI P 212 7,bI P 212 8,bI P 212 9]=some ((.ret (.bool true),E'),i8 σ [],q):=by
 obtain ⟨r0,r1,r2,R,rfl⟩:∃ r0 r1 r2 R,row=r0::r1::r2::R:=by
  match row,h3 with
  |r0::r1::r2::R,_=>exact ⟨r0,r1,r2,R,rfl⟩
  | [],h=>exact absurd h (by decide)
  | [_],h=>exact absurd h (by show ¬ 3≤1;decide)
  | [_,_],h=>exact absurd h (by show ¬ 3≤2;decide)
 have L:Low4 r0 r1 r2 R:=⟨⟨h6,Nat.le_trans h12 (by decide)⟩⟩
 have hl:((r0::r1::r2::R).map Jt).length≤100:=by rw [List.length_map];exact L.all.2
 obtain ⟨p5,e5⟩:=JV (P:=P) (nums:=nums) (fr:=fr) (st:=st) (y:=y) (t:=t) (a:=a) (b:=b) L H
 have K5:=H.put (ql:=[])
 have e6:=JW (P:=P) (nums:=nums) (fr:=fr) (st:=st) (y:=y) (t:=t) (a:=a) (b:=b) (left:=.lst (L1 r0 r1 r2 R)) (mY hr) hl K5.toAccIn
 rw [hZ] at e6
 obtain ⟨p7,e7⟩:=JX (P:=P) (nums:=nums) (fr:=fr) (st:=st) (y:=y) (t:=t) (a:=a) (b:=b) (l:=L1 r0 r1 r2 R) L.one (show 5≤90 by decide) (H.put (ql:=[Jt r0]))
 rw [hZ] at e7
 have e8:=JY (P:=P) (nums:=nums) (fr:=fr) (st:=st) (y:=y) (t:=t) (a:=a) (b:=b) (left:=.lst (L1 r0 r1 r2 R++L2 r0)) L (mY (pl:=[]) hr) hl
 have e9:=JZ (P:=P) (nums:=nums) (fr:=fr) (st:=st) (y:=y) (t:=t) (a:=a) (b:=b) L (mY (pl:=[]) hr) hl
 exact ⟨_,_,(Is (n:=95) ((XB nums).env P fr st y t a b) ((dG (n:=94) false (c:=false) (show jE (bI P 212 4) by kernel_rfl) (by kernel_rfl) rfl).trans (show aexecs 94 (cn P) _ _ (cR (bI P 212 4))=_ by kernel_rfl))).trans (ay (n:=94) e5 (ay (n:=93) e6 (ay (n:=92) e7 ((Is (n:=91) _ e8).trans (iT (n:=90) e9)))))⟩
theorem FB:∃ σ₂ p,BY P [n5 n0 n1 n2 n3 n4,bT,.ref 11,.bool true] (sT v0 b3 b4 b5 b6 b7 b8 b9 b10 b11 b12 b13 b14 b15 b16 b17 b18 b19 b20 b21 b22)=some (.bool true,σ₂,p)∧∀ j,j < 3→∃ vt,σ₂[j]? = some (.tab vt):=by
 obtain ⟨σ',E',D,G⟩:=(DZ (P:=P) (n0:=n0) (n1:=n1) (n2:=n2) (n3:=n3) (n4:=n4) (b0:=.tab v0) (b1:=.tab (c9 77 cQ)) (b2:=.tab (c9 84 cY)) (b3:=b3) (b4:=b4) (b5:=b5) (b6:=b6) (b7:=b7) (b8:=b8) (b9:=b9) (b10:=b10) (b11:=b11) (b12:=b12) (b13:=b13) (b14:=b14) (b15:=b15) (b16:=b16) (b17:=b17) (b18:=b18) (b19:=b19) (b20:=b20) (b21:=b21) (b22:=b22)).go
 obtain ⟨cs,td,row,fr,st,y,t,a,b,rfl,H,h6,h7,h12⟩:=D.ex
 have nin:=fun (j:Nat) (h:j < 23∨j=26)=>show j ∉ (XB (n5 n0 n1 n2 n3 n4)).ix from (show ∀ j:Nat,j < 27→(j < 23∨j=26)→j ∉ ([23,24,25,28,27]:List Nat) by decide) j (by omega) h
 have t0:=H.fr 0 (nin 0 (by decide))
 have t1:=H.fr 1 (nin 1 (by decide))
 have t2:=H.fr 2 (nin 2 (by decide))
 have K:PileIn σ' (row.map Jt):=⟨⟨H.at' 4 27 _ rfl rfl,(H.fr 26 (nin 26 (by decide))).trans rfl⟩,by unfold dz;rw [t1];rfl,by unfold dz;rw [t2];rfl⟩
 obtain ⟨q,E2,z⟩:=D6 (P:=P) (nums:=n5 n0 n1 n2 n3 n4) (fr:=fr) (st:=st) (y:=y) (t:=t) (a:=a) (b:=b) H.dr K h6 (Nat.le_trans (by decide) h7) h12
 obtain ⟨q',z2⟩:=G _ _ _ _ z
 refine ⟨i8 σ' [],q',cz (vs:=[("numbers", n5 n0 n1 n2 n3 n4),("halves", bT),("lexer", .ref 11),("deep", .bool true)]) (by kernel_rfl) ((congrArg (res 100 (cn P) _ _) ((om P).trans (by rw [ow]))).trans (congrArg vI z2)),fun j hj=>?_⟩
 unfold i8
 match j,hj with
 |0,_=>exact ⟨_,by rw [List.getElem?_set_ne (by decide),t0];rfl⟩
 |1,_=>exact ⟨_,by rw [List.getElem?_set_ne (by decide),t1];rfl⟩
 |2,_=>exact ⟨_,by rw [List.getElem?_set_ne (by decide),t2];rfl⟩
end
end Internal
namespace Internal
noncomputable def J0 (ns:List Int) (i:Int):List Int:=(sliceRange (sliceBounds (some i) none (some 5) ns.length).1 (sliceBounds (some i) none (some 5) ns.length).2.1 (sliceBounds (some i) none (some 5) ns.length).2.2).filterMap (ns[·]?)
section
variable {P:Params} {σ:St} {ns:List Int} {i c:Int} {n:Nat}
theorem ul:lJ (ns.map .int) (some i) none (some 5)=(J0 ns i).map .int:=by
 unfold lJ J0
 rw [List.length_map,List.map_filterMap]
 congr 1
 funext i
 exact List.getElem?_map
theorem BP {a:Int} (h:ns.length≤63) (h0:0≤a) (hb:sliceBounds (some i) none (some 5) ns.length=(a,(ns.length:Int),5)):(J0 ns i).length≤100:=by
 unfold J0
 rw [hb]
 exact Nat.le_trans (List.length_filterMap_le _ _) (Nat.le_trans (sliceRange_length_le _ _ _ ns.length (fun __=>⟨h0,Int.le_refl _⟩) fun h=>absurd (show (5:Int) > 0 by decide) h) (Nat.le_trans h (by decide)))
noncomputable def eD (P:Params) (ns:List Int):AEnv:=EV P 217 [("script", .lst (ns.map .int))]
noncomputable def J1 (P:Params):Expr:=af (bI P 217 0)
theorem draw {a:Int} (h:ns.length≤63) (h0:0≤a) (hb:sliceBounds (some i) none (some 5) ns.length=(a,(ns.length:Int),5))
  (ht:aA (ag (eD P ns) (aw (J1 P))) (dF (J1 P)).target (.int i)=some { ag (eD P ns) (aw (J1 P)) with vars:=[("script", .lst (ns.map .int)),("place", .int i)] }) (hl:Hs 95 (cw P) { ag (eD P ns) (aw (J1 P)) with vars:=[("script", .lst (ns.map .int)),("place", .int i)] } σ (eL (eL (J1 P)))=some (.int c,σ,true)) :
  dI 96 (cw P) (eD P ns) (eL (J1 P)) (dF (J1 P)).target [] (aw (J1 P)) (.int i) σ=some (some (.int (c+(J0 ns i).sum)),σ,true):=by
 have s:fN (cw P) (cA (eN (eR (eL (J1 P))) 0)) σ (.lst (ns.map .int)) (.int i) .none (.int 5)=some (.lst ((J0 ns i).map .int),σ,true):=by
  show (if (ns.map AV.int).length≤Hk then mk (cw P) (cA (eN (eR (eL (J1 P))) 0)) (lJ (ns.map .int) (some i) none (some 5)) σ else none)=_
  rw [if_pos (by rw [List.length_map];exact bn h (by decide)),ul]
  unfold mk
  rw [if_pos (by rw [List.length_map];exact bn (BP h h0 hb) (Nat.le_refl _)),show (cw P).mu (cA (eN (eR (eL (J1 P))) 0))=false by kernel_rfl]
 exact bf (n:=95) ht (bA (n:=95) (show bw (eL (J1 P)) .Add by kernel_rfl) hl ((aP (n:=94) (w:=.builtin "sum") (Φ:=ya) (σ₁:=σ) (as:=[.lst ((J0 ns i).map .int)]) (show aO (eR (eL (J1 P))) "sum" by kernel_rfl) (by kernel_rfl) (by kernel_rfl)
  ((congrArg (aevs 94 (cw P) _ σ) (show au (eR (eL (J1 P)))=[eN (eR (eL (J1 P))) 0] by kernel_rfl)).trans (am (n:=93) ((dK (n:=92) (o:=.lst (ns.map .int)) (l:=.int i) (h:=.none) (k:=.int 5) (show yr (eN (eR (eL (J1 P))) 0) by kernel_rfl) (by kernel_rfl) (by kernel_rfl) (by kernel_rfl) (by kernel_rfl)).trans s) rfl))).trans sum_ints) (by kernel_rfl))
noncomputable def J2 (ns:List Int):AV:=n5 (100+(J0 ns 0).sum) (204+(J0 ns 1).sum) (384+(J0 ns 2).sum) (1+(J0 ns 3).sum) (131+(J0 ns 4).sum)
noncomputable def J3 (P:Params) (sc dr:AV) (w:List (Str×AV)):AEnv:=EV P 217 (("script", sc)::("drawn", dr)::w)
theorem FC (h:ns.length≤63):ak 99 (cw P) (eD P ns) σ (bI P 217 0)=some ((.next,J3 P (.lst (ns.map .int)) (J2 ns) []),σ,true):=by
 have m:=fun x:Int=>Int.le_max_left 0 x
 exact bO (n:=98) (show bN (bI P 217 0) "drawn" by kernel_rfl) (by kernel_rfl) (bW (n:=96) (held:=false) (items:=[.int 0,.int 1,.int 2,.int 3,.int 4]) (show bG (J1 P) by kernel_rfl) (by kernel_rfl) (by kernel_rfl) (show 5≤Hk by unfold Hk;decide)
  (ah (draw (c:=100) (a:=max 0 (min 0 (ns.length:Int))) h (m _) rfl (by kernel_rfl) (by kernel_rfl)) (ah (draw (c:=204) (a:=max 0 (min 1 (ns.length:Int))) h (m _) rfl (by kernel_rfl) (by kernel_rfl)) (ah (draw (c:=384) (a:=max 0 (min 2 (ns.length:Int))) h (m _) rfl (by kernel_rfl) (by kernel_rfl)) (ah (draw (c:=1) (a:=max 0 (min 3 (ns.length:Int))) h (m _) rfl (by kernel_rfl) (by kernel_rfl)) (ah (draw (c:=131) (a:=max 0 (min 4 (ns.length:Int))) h (m _) rfl (by kernel_rfl) (by kernel_rfl)) rfl)))))) (by kernel_rfl)
end
end Internal
namespace Internal
noncomputable def tk (l:List Nat):Str:=⟨l.toArray⟩
theorem D7 {a b:List Nat} : tk a++tk b=tk (a++b):=by
 show (⟨a.toArray++b.toArray⟩:Str)=⟨(a++b).toArray⟩
 rw [List.append_toArray]
theorem um {a:List Nat} : (tk a).length=a.length:=List.size_toArray
theorem oG {a b:List Nat} (h:a.length+b.length≤100):h9 .Add (.str (tk a)) (.str (tk b))=some (.str (tk (a++b))):=by
 rw [uj (by rw [um,um];exact bn h (Nat.le_refl _)),D7]
noncomputable def wc (c:Nat):Nat:=([10,9,13,32]:List Nat).getD c 0
noncomputable def wd (s:Nat):Pc:=match s with | 0=>pA | _=>pB
noncomputable def J4 (s w:Nat):List Nat:=match s,w with
 |0,0=>[34,92,34,92,92,32,34]
 |0,1=>[34,92,34,92,92,92,32,34]
 |0,_=>[92,34,92,92,92,32]
 |_,0=>[34,35,92,34,32,34]
 |_,1=>[34,92,35,92,34,92,32,34]
 |_,2=>[35,34,92,32]
 |_,_=>[92,35,92,34,92,32]
noncomputable def J5 (b c:Nat):List Nat:=match b with | 0=>[] | _=>[wc c]
noncomputable def J6 (w b c:Nat):List Nat:=match w with | 0=>[] | 1=>[] | _=>J5 b c
noncomputable def J7 (l:List Nat):Int:=((Builtin.Str.occurrences (tk l) "\n" 0 (tk l).length ((tk l).length+1)).length:Nat)
section
variable {P:Params} {σ:St} {s w b c:Nat} {p:List Nat} {sc:AV} {d0 d1 d2 d3 d4:Int} {l:List AV} {a0 a1 a2 a3:AV}
theorem xK (hs:s < 2) (hw:w < 4):Ev P [.str (pc (wd s)),.int w] σ=some (.str (tk (J4 s w)),σ,true):=
 match s,w,hs,hw with
 |0,0,_,_=>by kernel_rfl
 |0,1,_,_=>by kernel_rfl
 |0,2,_,_=>by kernel_rfl
 |0,3,_,_=>by kernel_rfl
 |1,0,_,_=>by kernel_rfl
 |1,1,_,_=>by kernel_rfl
 |1,2,_,_=>by kernel_rfl
 |1,3,_,_=>by kernel_rfl
 |_+2,_,h,_=>absurd h (by omega)
 |_,_+4,_,h=>absurd h (by omega)
theorem D8 (hb:b < 2) (hw:w < 4):h9 .Mult (.str (tk (J5 b c))) (.int ((w:Int).fdiv 2))=some (.str (tk (J6 w b c))):=
 match b,w,hb,hw with
 |0,0,_,_=>by kernel_rfl
 |0,1,_,_=>by kernel_rfl
 |0,2,_,_=>by kernel_rfl
 |0,3,_,_=>by kernel_rfl
 |1,0,_,_=>by kernel_rfl
 |1,1,_,_=>by kernel_rfl
 |1,2,_,_=>by kernel_rfl
 |1,3,_,_=>by kernel_rfl
 |_+2,_,h,_=>absurd h (by omega)
 |_,_+4,_,h=>absurd h (by omega)
theorem D9 (hc:c < 4):ib σ (.str "\n\t\r ") (.int c)=some (.str (tk [wc c])):=
 match c,hc with
 |0,_=>by kernel_rfl
 |1,_=>by kernel_rfl
 |2,_=>by kernel_rfl
 |3,_=>by kernel_rfl
 |_+4,h=>absurd h (by omega)
theorem yK {pos:Pos} (hb:b < 2):fN (cw P) pos σ (.str (tk [wc c])) .none (.int b) .none=some (.str (tk (J5 b c)),σ,true):=
 match b,hb with
 |0,_=>by kernel_rfl
 |1,_=>by kernel_rfl
 |_+2,h=>absurd h (by omega)
noncomputable def eW (P:Params) (sc dr:AV) (p:List Nat) (w:List (Str×AV)):AEnv:=EV P 217 (([("script", sc),("drawn", dr),("pair", bT),("page", .str (tk p)),("lines", .ref 3),("read", .ref 4)]:List (Str×AV))++w)
noncomputable def w4 (sp wh wy bh:AV):List (Str×AV):=[("spot", sp),("way", wy),("white", wh),("behind", bh)]
noncomputable def sL (l r:List AV):St:=Ij++[.lst l,.lst r]
noncomputable def J8 (P:Params) (i:Nat):Stmt:=(aM (bI P 217 2)).getD i AA
theorem FD (dr:AV):ak 98 (cw P) (J3 P sc dr []) Ij (bI P 217 1)=some ((.next,eW P sc dr [] []),sL [] [],false):=by kernel_rfl
noncomputable abbrev E4 (P:Params) (sc dr:AV) (p:List Nat) (s w b c:Nat):AEnv:=eW P sc dr p (w4 (.int s) (.str (tk [wc c])) (.int w) (.str (tk (J5 b c))))
theorem BQ (hs:s < 2):ib σ bT (.int s)=some (.str (pc (wd s))):=
 match s,hs with
 |0,_=>by kernel_rfl
 |1,_=>by kernel_rfl
 |_+2,h=>absurd h (by omega)
noncomputable def Gs (P:Params):Expr:=eR (eN (af (J8 P 3)) 0)
theorem oH (b c:Nat):(J5 b c).length≤1:=by unfold J5;split<;>first | exact Nat.zero_le _ | exact Nat.le_refl 1
theorem Ed (w b c:Nat):(J6 w b c).length≤1:=by unfold J6;split<;>first | exact Nat.zero_le _ | exact oH b c
theorem m3 (hs:s < 2) (hw:w < 4):(J4 s w).length≤8:=(show ∀ s < 2,∀ w < 4,(J4 s w).length≤8 by decide) s hs w hw
theorem lD {n:Nat} {E:AEnv} {e:Expr} {q:List Nat} {r:List AV} (hl:l.length≤10) (he:bx e "append") (hn:((au e).any aH || bo (eL (eL e)) || (cA (eL e)).endLine != (cA e).line || decide ((au e).length > 20))=false) (ho:Hs (n+4) (cw P) E (sL l r) (eL (eL e))=some (.ref 3,sL l r,true)) (ha:au e=[eN e 0]) (hb:bw (eN e 0) .Add) (h1:Hs (n+2) (cw P) E (sL l r) (eL (eN e 0))=some (.int 1,sL l r,true)) (hm:bx (eR (eN e 0)) "count")
  (hn2:((au (eR (eN e 0))).any aH || bo (eL (eL (eR (eN e 0)))) || (cA (eL (eR (eN e 0)))).endLine != (cA (eR (eN e 0))).line || decide ((au (eR (eN e 0))).length > 20))=false) (hp:Hs (n+1) (cw P) E (sL l r) (eL (eL (eR (eN e 0))))=some (.str (tk q),sL l r,true)) (hx:aevs (n+1) (cw P) E (sL l r) (au (eR (eN e 0)))=some ([.str "\n"],sL l r,true)):Hs (n+5) (cw P) E (sL l r) e=some (.none,sL (l++[.int (1+J7 q)]) r,false):=
 (bz (n:=n+4) (ov:=.ref 3) (first:=[.ref 3]) (Φ:=yk) (σ₁:=sL l r) (σ₂:=sL l r) (as:=[.int (1+J7 q)]) he hn ho (iX (l:=l) rfl (by kernel_rfl)) ((congrArg (aevs (n+4) (cw P) E _) ha).trans (am (n:=n+3) (bA (n:=n+2) (b:=.int (J7 q)) hb h1 ((bz (n:=n+1) (ov:=.str (tk q)) (first:=[.str (tk q)]) (Φ:=mi) (σ₁:=sL l r) (σ₂:=sL l r) (as:=[.str "\n"]) hm hn2 hp (by kernel_rfl) hx).trans rfl) rfl) rfl))).trans (mR (l:=l) rfl (bn hl (by decide)))
theorem Ee {r:List AV} (hs:s < 2) (hw:w < 4) (hb:b < 2) (hp:p.length≤50) (hl:l.length≤10) (dr:AV):∃ q,aexecs 94 (cw P) (E4 P sc dr p s w b c) (sL l r) [J8 P 2,J8 P 3,J8 P 4]=some ((.next,E4 P sc dr (p++[wc c]++J4 s w++J5 b c) s w b c),sL (l++[.int (1+J7 (p++[wc c]++J4 s w++J6 w b c))]) r,q):=by
 have l0:=m3 hs hw
 have l1:(p++[wc c]).length≤51:=by rw [List.length_append];exact Nat.succ_le_succ hp
 have l2:(p++[wc c]++J4 s w).length≤59:=by rw [List.length_append];exact Nat.add_le_add l1 l0
 have e2:ak 93 (cw P) (E4 P sc dr p s w b c) (sL l r) (J8 P 2)=some ((.next,E4 P sc dr (p++[wc c]++J4 s w) s w b c),sL l r,true):=
  bO (n:=92) (show bN (J8 P 2) "page" by kernel_rfl) (by kernel_rfl) (bA (n:=91) (show bw (af (J8 P 2)) .Add by kernel_rfl) (bA (n:=90) (show bw (eL (af (J8 P 2))) .Add by kernel_rfl) (by kernel_rfl) (by kernel_rfl) (oG (Nat.le_trans (Nat.succ_le_succ hp) (by decide))))
   ((aP (n:=90) (w:=.ref 173) (Φ:=Ev P) (as:=[.str (pc (wd s)),.int w]) (show aO (eR (af (J8 P 2))) "_law_written" by kernel_rfl) (by kernel_rfl) (by kernel_rfl) ((congrArg (aevs 90 (cw P) _ _) (show au (eR (af (J8 P 2)))=eN (eR (af (J8 P 2))) 0::(au (eR (af (J8 P 2)))).tail by kernel_rfl)).trans (am (n:=89) (cy (n:=88) (o:=bT) (k:=.int s) (show cf (eN (eR (af (J8 P 2))) 0) by kernel_rfl) (by kernel_rfl) (by kernel_rfl) (by kernel_rfl) (BQ hs)) (by kernel_rfl)))).trans (xK hs hw)) (oG (Nat.le_trans (Nat.add_le_add l1 l0) (by decide)))) (by kernel_rfl)
 have e3:ak 92 (cw P) (E4 P sc dr (p++[wc c]++J4 s w) s w b c) (sL l r) (J8 P 3)=some ((.next,E4 P sc dr (p++[wc c]++J4 s w) s w b c),sL (l++[.int (1+J7 (p++[wc c]++J4 s w++J6 w b c))]) r,false):=
  fZ (n:=91) (show f4 (J8 P 3) by kernel_rfl) (by kernel_rfl) (lD (n:=86) hl (by kernel_rfl) (by kernel_rfl) (by kernel_rfl) (by kernel_rfl) (by kernel_rfl) (by kernel_rfl) (by kernel_rfl) (by kernel_rfl) (bA (n:=86) (show bw (eL (eL (Gs P))) .Add by kernel_rfl) (by kernel_rfl) (bA (n:=85) (b:=.int ((w:Int).fdiv 2)) (show bw (eR (eL (eL (Gs P)))) .Mult by kernel_rfl) (by kernel_rfl) (by kernel_rfl) (D8 hb hw)) (oG (Nat.le_trans (Nat.add_le_add l2 (Ed w b c)) (by decide)))) (by kernel_rfl))
 have e4:ak 91 (cw P) (E4 P sc dr (p++[wc c]++J4 s w) s w b c) (sL (l++[.int (1+J7 (p++[wc c]++J4 s w++J6 w b c))]) r) (J8 P 4)=some ((.next,E4 P sc dr (p++[wc c]++J4 s w++J5 b c) s w b c),sL (l++[.int (1+J7 (p++[wc c]++J4 s w++J6 w b c))]) r,true):=
  bO (n:=90) (show bN (J8 P 4) "page" by kernel_rfl) (by kernel_rfl) (bA (n:=89) (show bw (af (J8 P 4)) .Add by kernel_rfl) (by kernel_rfl) (by kernel_rfl) (oG (Nat.le_trans (Nat.add_le_add l2 (oH b c)) (by decide)))) (by kernel_rfl)
 exact ⟨_,(Is (n:=93) _ e2).trans (ay (n:=92) e3 ((Is (n:=91) _ e4).trans rfl))⟩
theorem FE {r:List AV} (hw:(d0+2 * 0).fmod 4=w) (hw4:w < 4) (hc:d2.fmod 4=c) (hc4:c < 4) (hb:1 - 0 * d4.fmod 2=b) (hb2:b < 2) (hp:p.length≤50) (hl:l.length≤10):∃ q,eC 96 (cw P) (fY (bI P 217 2)) (aM (bI P 217 2)) (.int 0) (eW P sc (n5 d0 d1 d2 d3 d4) p []) (sL l r)=some ((.next,E4 P sc (n5 d0 d1 d2 d3 d4) (p++[wc c]++J4 0 w++J5 b c) 0 w b c),sL (l++[.int (1+J7 (p++[wc c]++J4 0 w++J6 w b c))]) r,q):=by
 obtain ⟨q,z⟩:=Ee (P:=P) (sc:=sc) (s:=0) (w:=w) (b:=b) (c:=c) (p:=p) (l:=l) (r:=r) (by decide) hw4 hb2 hp hl (n5 d0 d1 d2 d3 d4)
 have e0:ak 95 (cw P) (eW P sc (n5 d0 d1 d2 d3 d4) p [("spot", .int 0)]) (sL l r) (J8 P 0)=some ((.next,eW P sc (n5 d0 d1 d2 d3 d4) p [("spot", .int 0),("way", .int w),("white", .str (tk [wc c]))]),sL l r,true):=
  AG (n:=93) (b:=true) (l:=[.str (tk [wc c]),.int w]) (show IsTup (J8 P 0) by kernel_rfl) (by kernel_rfl) (by kernel_rfl) ((congrArg (aevs 93 (cw P) _ _) (show au (af (J8 P 0))=[eN (af (J8 P 0)) 0,eN (af (J8 P 0)) 1] by kernel_rfl)).trans
   (am (n:=92) (cy (n:=91) (o:=.str "\n\t\r ") (k:=.int c) (show cf (eN (af (J8 P 0)) 0) by kernel_rfl) (by kernel_rfl) (by kernel_rfl) (by rw [←hc];kernel_rfl) (D9 hc4)) (am (n:=91) (v:=.int w) (by rw [←hw];kernel_rfl) rfl))) (show 2≤Hk by unfold Hk;decide) (by kernel_rfl) (by kernel_rfl)
 have e1:ak 94 (cw P) (eW P sc (n5 d0 d1 d2 d3 d4) p [("spot", .int 0),("way", .int w),("white", .str (tk [wc c]))]) (sL l r) (J8 P 1)=some ((.next,E4 P sc (n5 d0 d1 d2 d3 d4) p 0 w b c),sL l r,true):=
  bO (n:=93) (show bN (J8 P 1) "behind" by kernel_rfl) (by kernel_rfl) ((dK (n:=92) (o:=.str (tk [wc c])) (l:=.none) (h:=.int b) (k:=.none) (show yr (af (J8 P 1)) by kernel_rfl) (by kernel_rfl) (by kernel_rfl) (by rw [←hb];kernel_rfl) (by kernel_rfl)).trans (yK hb2)) (by kernel_rfl)
 exact ⟨q,(dH (E₁:=eW P sc (n5 d0 d1 d2 d3 d4) p [("spot", .int 0)]) (by kernel_rfl)).trans ((congrArg (aexecs 96 (cw P) _ _) (show aM (bI P 217 2)=[J8 P 0,J8 P 1,J8 P 2,J8 P 3,J8 P 4] by kernel_rfl)).trans ((Is (n:=95) _ e0).trans ((Is (n:=94) _ e1).trans z)))⟩
theorem FF {r:List AV} (hw:(d1+2 * 1).fmod 4=w) (hw4:w < 4) (hc:d3.fmod 4=c) (hc4:c < 4) (hb:1 - 1 * d4.fmod 2=b) (hb2:b < 2) (hp:p.length≤50) (hl:l.length≤10):∃ q,eC 96 (cw P) (fY (bI P 217 2)) (aM (bI P 217 2)) (.int 1) (eW P sc (n5 d0 d1 d2 d3 d4) p (w4 a0 a1 a2 a3)) (sL l r)=some ((.next,E4 P sc (n5 d0 d1 d2 d3 d4) (p++[wc c]++J4 1 w++J5 b c) 1 w b c),sL (l++[.int (1+J7 (p++[wc c]++J4 1 w++J6 w b c))]) r,q):=by
 obtain ⟨q,z⟩:=Ee (P:=P) (sc:=sc) (s:=1) (w:=w) (b:=b) (c:=c) (p:=p) (l:=l) (r:=r) (by decide) hw4 hb2 hp hl (n5 d0 d1 d2 d3 d4)
 have e0:ak 95 (cw P) (eW P sc (n5 d0 d1 d2 d3 d4) p (w4 (.int 1) a1 a2 a3)) (sL l r) (J8 P 0)=some ((.next,eW P sc (n5 d0 d1 d2 d3 d4) p (w4 (.int 1) (.str (tk [wc c])) (.int w) a3)),sL l r,true):=
  AG (n:=93) (b:=true) (l:=[.str (tk [wc c]),.int w]) (show IsTup (J8 P 0) by kernel_rfl) (by kernel_rfl) (by kernel_rfl) ((congrArg (aevs 93 (cw P) _ _) (show au (af (J8 P 0))=[eN (af (J8 P 0)) 0,eN (af (J8 P 0)) 1] by kernel_rfl)).trans
   (am (n:=92) (cy (n:=91) (o:=.str "\n\t\r ") (k:=.int c) (show cf (eN (af (J8 P 0)) 0) by kernel_rfl) (by kernel_rfl) (by kernel_rfl) (by rw [←hc];kernel_rfl) (D9 hc4)) (am (n:=91) (v:=.int w) (by rw [←hw];kernel_rfl) rfl))) (show 2≤Hk by unfold Hk;decide) (by kernel_rfl) (by kernel_rfl)
 have e1:ak 94 (cw P) (eW P sc (n5 d0 d1 d2 d3 d4) p (w4 (.int 1) (.str (tk [wc c])) (.int w) a3)) (sL l r) (J8 P 1)=some ((.next,E4 P sc (n5 d0 d1 d2 d3 d4) p 1 w b c),sL l r,true):=
  bO (n:=93) (show bN (J8 P 1) "behind" by kernel_rfl) (by kernel_rfl) ((dK (n:=92) (o:=.str (tk [wc c])) (l:=.none) (h:=.int b) (k:=.none) (show yr (af (J8 P 1)) by kernel_rfl) (by kernel_rfl) (by kernel_rfl) (by rw [←hb];kernel_rfl) (by kernel_rfl)).trans (yK hb2)) (by kernel_rfl)
 exact ⟨q,(dH (E₁:=eW P sc (n5 d0 d1 d2 d3 d4) p (w4 (.int 1) a1 a2 a3)) (by kernel_rfl)).trans ((congrArg (aexecs 96 (cw P) _ _) (show aM (bI P 217 2)=[J8 P 0,J8 P 1,J8 P 2,J8 P 3,J8 P 4] by kernel_rfl)).trans ((Is (n:=95) _ e0).trans ((Is (n:=94) _ e1).trans z)))⟩
end
end Internal
namespace Internal
noncomputable def J9 (k:Nat):AV:=.str ⟨#[k]⟩
noncomputable def Ka (l:List Nat):List AV:=l.map J9
noncomputable def Kb (l r fw:List AV) (x:Int) (b:List AV) (cs:List AObj):St:=[.tab fX,.tab (c9 77 cQ),.tab (c9 84 cY)]++([.lst l,.lst r,.pos fw,.ns JR,.inst 157 6,.lst [],.cell (.ref 5),.ns (Js x),.inst 157 10,.lst b]++cs)
noncomputable def Kc (g:Nat):List Nat:=match g with | 4=>[] | _=>[wc g]
noncomputable def Kd (g:Nat) (x:Int):Int:=match g with | 0=>x+1 | _=>x
noncomputable def Ke (c w:Nat):List Nat:=wc c::(J4 0 w++[wc c])
noncomputable def Kf (g c w b:Nat):List Nat:=Kc g++(wc c::(J4 1 w++J5 b c))
noncomputable def Kg (c w:Nat):Nat:=match w with | 0=>c | 1=>c | _=>4
noncomputable def Ki (c w:Nat) (x:Int):Int:=match w with | 0=>Kd c x | 1=>Kd c x | _=>Kd c (Kd c x)
noncomputable def Kj (c w b:Nat):Nat:=match w,b with | 0,1=>c | 1,1=>c | _,_=>4
noncomputable def Kk (g c w b:Nat) (x:Int):Int:=match w,b with | 0,_=>Kd c (Kd g x) | 1,_=>Kd c (Kd g x) | _,0=>Kd c (Kd g x) | _,_=>Kd c (Kd c (Kd g x))
noncomputable def Kl (w b:Nat):Bool:=match w,b with | 0,_=>false | 1,_=>false | _,0=>true | _,_=>false
noncomputable abbrev Km (e:Bool):AObj:=.cit 140 11 e
section
variable {P:Params} {l r fw:List AV} {x:Int} {o1 o2:AObj}
theorem FG:([0,1,2,3]:List Nat).map (fun c=>([0,1,2,3]:List Nat).map fun w=>ga P [.ref 11] (Kb l r (Ka (Ke c w)++fw) x [] []))=([0,1,2,3]:List Nat).map (fun c=>([0,1,2,3]:List Nat).map fun w=>some (.str (pc pA),Kb l r (Ka (Kc (Kg c w))++fw) (Ki c w x) [] [Km false],false)):=by kernel_rfl
theorem Ef:([0,1,2,3]:List Nat).map (fun c=>([0,1,2,3]:List Nat).map fun w=>([0,1]:List Nat).map fun b=>ga P [.ref 11] (Kb l r (Ka (Kf 0 c w b)) x [] [o1]))=([0,1,2,3]:List Nat).map (fun c=>([0,1,2,3]:List Nat).map fun w=>([0,1]:List Nat).map fun b=>some (.str (pc pB),Kb l r (Ka (Kc (Kj c w b))) (Kk 0 c w b x) [] [o1,Km (Kl w b)],false)):=by kernel_rfl
theorem Eg:([0,1,2,3]:List Nat).map (fun c=>([0,1,2,3]:List Nat).map fun w=>([0,1]:List Nat).map fun b=>ga P [.ref 11] (Kb l r (Ka (Kf 1 c w b)) x [] [o1]))=([0,1,2,3]:List Nat).map (fun c=>([0,1,2,3]:List Nat).map fun w=>([0,1]:List Nat).map fun b=>some (.str (pc pB),Kb l r (Ka (Kc (Kj c w b))) (Kk 1 c w b x) [] [o1,Km (Kl w b)],false)):=by kernel_rfl
theorem Eh:([0,1,2,3]:List Nat).map (fun c=>([0,1,2,3]:List Nat).map fun w=>([0,1]:List Nat).map fun b=>ga P [.ref 11] (Kb l r (Ka (Kf 2 c w b)) x [] [o1]))=([0,1,2,3]:List Nat).map (fun c=>([0,1,2,3]:List Nat).map fun w=>([0,1]:List Nat).map fun b=>some (.str (pc pB),Kb l r (Ka (Kc (Kj c w b))) (Kk 2 c w b x) [] [o1,Km (Kl w b)],false)):=by kernel_rfl
theorem Ei:([0,1,2,3]:List Nat).map (fun c=>([0,1,2,3]:List Nat).map fun w=>([0,1]:List Nat).map fun b=>ga P [.ref 11] (Kb l r (Ka (Kf 3 c w b)) x [] [o1]))=([0,1,2,3]:List Nat).map (fun c=>([0,1,2,3]:List Nat).map fun w=>([0,1]:List Nat).map fun b=>some (.str (pc pB),Kb l r (Ka (Kc (Kj c w b))) (Kk 3 c w b x) [] [o1,Km (Kl w b)],false)):=by kernel_rfl
theorem Ej:([0,1,2,3]:List Nat).map (fun c=>([0,1,2,3]:List Nat).map fun w=>([0,1]:List Nat).map fun b=>ga P [.ref 11] (Kb l r (Ka (Kf 4 c w b)) x [] [o1]))=([0,1,2,3]:List Nat).map (fun c=>([0,1,2,3]:List Nat).map fun w=>([0,1]:List Nat).map fun b=>some (.str (pc pB),Kb l r (Ka (Kc (Kj c w b))) (Kk 4 c w b x) [] [o1,Km (Kl w b)],false)):=by kernel_rfl
theorem FH:([0,1,2,3,4]:List Nat).map (fun g=>ga P [.ref 11] (Kb l r (Ka (Kc g)) x [] [o1,o2]))=([0,1,2,3,4]:List Nat).map (fun g=>some (.str "", Kb l r [] (Kd g x) [] [o1,o2,Km true],false)):=by kernel_rfl
end
end Internal
namespace Internal
section
variable {n:Nat} {C:Cfg} {E E₁:AEnv} {σ σ₁ σ₂:St} {p q:Bool} {e:Expr} {st:Stmt} {v:AV}
theorem uo {t i:Expr} {b:List Stmt} {pos:Pos} {items:List AV} {x:AFlow×AEnv} (he:st = .For t i b [] pos) (h0:oU C E σ i=none) (h1:(!bD i&&dU C E i t)=true) (h2:asrc n C E σ i=some ((items,false),σ₁,p))
  (h3:m6 (eC n C t b) items E σ₁=some (x,σ₂,q)):ak (n+1) C E σ st=some (x,σ₂,p&&q):=by
 subst he
 rw [Bool.and_eq_true,Bool.not_eq_true'] at h1
 show els (oU C E σ i) _ (if bD i=false∧dU C E i t=true then _ else _)=_
 rw [h0,if_pos h1]
 refine aT (x:=asrc n C E σ i) h2 ((congrArg (cW false) h3).trans ?_)
 show (if false=true∧q=false then none else some (x,σ₂,q))=_
 rw [if_neg (fun h=>nomatch h.1)]
theorem FI {s:List AV×Bool} (hz:ie C E e=none) (h:Hs n C E σ e=some (v,σ₁,p)) (hl:bQ σ₁ v=some s):asrc (n+1) C E σ e=some (s,σ₁,p):=by
 show els (ie C E e) _ (Hp (Hs n C E σ e) fun v σ₁=>pur σ₁ (bQ σ₁ v))=_
 rw [hz]
 exact (aT (x:=Hs n C E σ e) (q:=true) h (by rw [hl];rfl)).trans (by rw [Bool.and_true])
theorem BR {f:Str} {fp pos:Pos} {args:List Expr} {as:List AV} {w:Value} {Φ:Fn} (he:e = .Call (.Name f fp) args [] pos) (hn:(args.any aH || decide (args.length > 20))=false) (hc:gy C E f=some (w,Φ)) (h:aevs n C E σ args=some (as,σ₁,p)) (h2:Φ as σ₁=some (v,σ₂,q)):Hs (n+1) C E σ e=some (v,σ₂,p&&q):=by
 subst he
 show (if (args.any aH || decide (args.length > 20))=true then _ else _)=_
 rw [hn,if_neg (by decide)]
 exact (aR hc).trans (aT (x:=aevs n C E σ args) h h2)
end
theorem xL {l:List AV} : lJ l none none (some (-1))=l.reverse:=by
 unfold lJ
 rw [krv_bounds,krv_sliceRange,krv_range,List.filterMap_reverse]
 congr 1
 have h:=krv_all l.toArray
 rw [List.size_toArray] at h
 simpa using h
noncomputable def lE (P:Params) (i:Nat):Stmt:=(aM (bI P 217 5)).getD i AA
noncomputable def aW (k:Nat) (a w:AV):List (Str×AV):=match k with | 0=>[] | _=>[("ask", a),("word", w)]
noncomputable def Kn:List (Str×AV):=[("reader", .ref 11)]
section
variable {P:Params} {sc dr a0 a1 a2 a3 a w r0 r1:AV} {p:List Nat} {l fw fw':List AV} {x x':Int} {t:Str} {o1 o2 o3:AObj}
noncomputable abbrev eA (P:Params) (sc dr:AV) (p:List Nat) (a0 a1 a2 a3:AV) (k:Nat) (a w:AV):AEnv:=eW P sc dr p (w4 a0 a1 a2 a3++(Kn++aW k a w))
theorem FJ {r:List AV} (hp:p.length≤100):∃ q,ak 95 (cw P) (eW P sc dr p (w4 a0 a1 a2 a3)) (sL l r) (bI P 217 4)=some ((.next,eA P sc dr p a0 a1 a2 a3 0 .none .none),Kb l r (Ka p) 1 [] [],q):=by
 have hl:(Ka p).length≤Hk:=by unfold Ka;rw [List.length_map];exact bn hp (Nat.le_refl _)
 have e0:vO [.str (tk p)] (sL l r)=some (.lst (Ka p),sL l r,true):=by
  show (if (tk p).cps.size≤Hk then some (AV.lst ((tk p).cps.toList.map fun c=>.str ⟨#[c]⟩),sL l r,true) else none)=_
  rw [if_pos (show (tk p).cps.size≤Hk by show (tk p).length≤Hk;rw [um];exact bn hp (Nat.le_refl _))]
  rfl
 have e1:fN (cw P) (cA (eN (af (bI P 217 4)) 0)) (sL l r) (.lst (Ka p)) .none .none (.int (-1))=some (.ref 5,sL l r++[.pos (Ka p)],false):=by
  show (if (Ka p).length≤Hk then mk (cw P) (cA (eN (af (bI P 217 4)) 0)) (lJ (Ka p) none none (some (-1))) (sL l r) else none)=_
  rw [if_pos hl,xL]
  unfold mk
  rw [if_pos (by rwa [List.length_reverse]),show (cw P).mu (cA (eN (af (bI P 217 4)) 0))=true by kernel_rfl]
  show some (AV.ref 5,sL l r++[oI (cA (eN (af (bI P 217 4)) 0)) (Ka p).reverse],false)=_
  rw [show oI (cA (eN (af (bI P 217 4)) 0)) (Ka p).reverse = .pos (Ka p).reverse.reverse by kernel_rfl,List.reverse_reverse]
 exact ⟨_,bO (n:=94) (show bN (bI P 217 4) "reader" by kernel_rfl) (by kernel_rfl) (BR (n:=93) (w:=.ref 168) (Φ:=Fa P) (as:=[.ref 5]) (σ₁:=sL l r++[.pos (Ka p)]) (v:=.ref 11) (σ₂:=Kb l r (Ka p) 1 [] []) (q:=false) (show aO (af (bI P 217 4)) "_law_lexer" by kernel_rfl) (by kernel_rfl) (by kernel_rfl)
  ((congrArg (aevs 93 (cw P) _ _) (show au (af (bI P 217 4))=[eN (af (bI P 217 4)) 0] by kernel_rfl)).trans (oz (n:=92) (q:=true) ((dK (n:=91) (o:=.lst (Ka p)) (l:=.none) (h:=.none) (k:=.int (-1)) (show yr (eN (af (bI P 217 4)) 0) by kernel_rfl) ((aP (n:=90) (w:=.type "list") (Φ:=vO) (as:=[.str (tk p)]) (σ₁:=sL l r) (show aO (eL (eN (af (bI P 217 4)) 0)) "list" by kernel_rfl) (by kernel_rfl) (by kernel_rfl) (by kernel_rfl)).trans e0) (by kernel_rfl) (by kernel_rfl) (by kernel_rfl)).trans e1) rfl)) (by kernel_rfl)) (by kernel_rfl)⟩
theorem m4 {E:AEnv} {σ σ':St} (hr:Hs 87 (cw P) E σ (eL (eL (eN (im (lE P 0)) 0)))=some (.ref 11,σ,true)) (hm:fM (cw P) σ (.ref 11) "get_token" = some (ga P,[.ref 11])) (hz:ie (cw P) E (im (lE P 0))=none) (h:ga P [.ref 11] σ=some (.str t,σ',false)):asrc 91 (cw P) E σ (im (lE P 0))=some (([.str t,.str ""],false),σ',false):=
 FI (n:=90) (v:=.lst [.str t,.str ""]) hz (jT (n:=89) (show IsList (im (lE P 0)) by kernel_rfl) (by kernel_rfl) ((congrArg (aevs 89 (cw P) E σ) (show au (im (lE P 0))=eN (im (lE P 0)) 0::(au (im (lE P 0))).tail by kernel_rfl)).trans (oz (n:=88) (p:=false) (q:=true) (vs:=[.str ""]) ((bz (n:=87) (first:=[.ref 11]) (Φ:=ga P) (σ₁:=σ) (σ₂:=σ) (as:=[]) (show bx (eN (im (lE P 0)) 0) "get_token" by kernel_rfl) (by kernel_rfl) hr hm (by kernel_rfl)).trans h) (by kernel_rfl))) (by kernel_rfl)) rfl
theorem Ha (h:ga P [.ref 11] (Kb l [] fw x [] [])=some (.str t,Kb l [] fw' x' [] [o1],false)):∃ q,eC 93 (cw P) (fY (bI P 217 5)) (aM (bI P 217 5)) (.int 0) (eA P sc dr p a0 a1 a2 a3 0 a w) (Kb l [] fw x [] [])=some ((.next,eA P sc dr p a0 a1 a2 a3 1 (.int 0) (.str "")),Kb l [.lst [.str t,.str "", .int x']] fw' x' [] [o1],q):=
 ⟨_,(dH (E₁:=eW P sc dr p (w4 a0 a1 a2 a3++(Kn++([("ask", .int 0)]:List (Str×AV))))) (by kernel_rfl)).trans ((congrArg (aexecs 93 (cw P) _ _) (show aM (bI P 217 5)=[lE P 0,lE P 1] by kernel_rfl)).trans (ay (n:=92) (p:=false) (E₁:=eA P sc dr p a0 a1 a2 a3 1 (.int 0) (.str "")) (σ₁:=Kb l [] fw' x' [.str t,.str ""] [o1]) (uo (n:=91) (p:=false) (q:=false) (show mG (lE P 0) by kernel_rfl) (by kernel_rfl) (by kernel_rfl) (m4 (by kernel_rfl) (by kernel_rfl) (by kernel_rfl) h) (by kernel_rfl)) (ay (n:=91) (p:=false) (q:=true) (by kernel_rfl) rfl)))⟩
theorem Hb (h:ga P [.ref 11] (Kb l [r0] fw x [] [o1])=some (.str t,Kb l [r0] fw' x' [] [o1,o2],false)):∃ q,eC 93 (cw P) (fY (bI P 217 5)) (aM (bI P 217 5)) (.int 1) (eA P sc dr p a0 a1 a2 a3 1 a w) (Kb l [r0] fw x [] [o1])=some ((.next,eA P sc dr p a0 a1 a2 a3 1 (.int 1) (.str "")),Kb l [r0,.lst [.str t,.str "", .int x']] fw' x' [] [o1,o2],q):=
 ⟨_,(dH (E₁:=eA P sc dr p a0 a1 a2 a3 1 (.int 1) w) (by kernel_rfl)).trans ((congrArg (aexecs 93 (cw P) _ _) (show aM (bI P 217 5)=[lE P 0,lE P 1] by kernel_rfl)).trans (ay (n:=92) (p:=false) (E₁:=eA P sc dr p a0 a1 a2 a3 1 (.int 1) (.str "")) (σ₁:=Kb l [r0] fw' x' [.str t,.str ""] [o1,o2]) (uo (n:=91) (p:=false) (q:=false) (show mG (lE P 0) by kernel_rfl) (by kernel_rfl) (by kernel_rfl) (m4 (by kernel_rfl) (by kernel_rfl) (by kernel_rfl) h) (by kernel_rfl)) (ay (n:=91) (p:=false) (q:=true) (by kernel_rfl) rfl)))⟩
theorem Hc (h:ga P [.ref 11] (Kb l [r0,r1] fw x [] [o1,o2])=some (.str t,Kb l [r0,r1] fw' x' [] [o1,o2,o3],false)):∃ q,eC 93 (cw P) (fY (bI P 217 5)) (aM (bI P 217 5)) (.int 2) (eA P sc dr p a0 a1 a2 a3 2 a w) (Kb l [r0,r1] fw x [] [o1,o2])=some ((.next,eA P sc dr p a0 a1 a2 a3 1 (.int 2) (.str "")),Kb l [r0,r1,.lst [.str t,.str "", .int x']] fw' x' [] [o1,o2,o3],q):=
 ⟨_,(dH (E₁:=eA P sc dr p a0 a1 a2 a3 1 (.int 2) w) (by kernel_rfl)).trans ((congrArg (aexecs 93 (cw P) _ _) (show aM (bI P 217 5)=[lE P 0,lE P 1] by kernel_rfl)).trans (ay (n:=92) (p:=false) (E₁:=eA P sc dr p a0 a1 a2 a3 1 (.int 2) (.str "")) (σ₁:=Kb l [r0,r1] fw' x' [.str t,.str ""] [o1,o2,o3]) (uo (n:=91) (p:=false) (q:=false) (show mG (lE P 0) by kernel_rfl) (by kernel_rfl) (by kernel_rfl) (m4 (by kernel_rfl) (by kernel_rfl) (by kernel_rfl) h) (by kernel_rfl)) (ay (n:=91) (p:=false) (q:=true) (by kernel_rfl) rfl)))⟩
end
end Internal
namespace Internal
noncomputable def r4:List Nat:=[0,1,2,3]
theorem c8 {c:Nat} (h:c < 4):c∈r4:=(show ∀ c < 4,c∈r4 by decide) c h
theorem lF (d:Int) {m:Int} {k:Nat} (hm:m=k) (h:0 < m):∃ c:Nat,c < k∧d.fmod m=c:=by
 have h0:=Int.fmod_nonneg_of_pos d h
 have h1:=Int.fmod_lt_of_pos d h
 subst hm
 exact ⟨(d.fmod k).toNat,(Int.toNat_lt h0).mpr h1,(Int.toNat_of_nonneg h0).symm⟩
noncomputable def p1 (c w:Nat):List Nat:=[]++[wc c]++J4 0 w++J5 1 c
noncomputable def q1 (c w:Nat):List Nat:=[]++[wc c]++J4 0 w++J6 w 1 c
noncomputable def p2 (c w d v b:Nat):List Nat:=p1 c w++[wc d]++J4 1 v++J5 b d
noncomputable def q2 (c w d v b:Nat):List Nat:=p1 c w++[wc d]++J4 1 v++J6 v b d
noncomputable def y1 (c w:Nat):Int:=Ki c w 1
noncomputable def y2 (c w d v b:Nat):Int:=Kk (Kg c w) d v b (y1 c w)
noncomputable def y3 (c w d v b:Nat):Int:=Kd (Kj d v b) (y2 c w d v b)
theorem BS:r4.all (fun c=>r4.all fun w=>1+J7 (q1 c w)==y1 c w)=true:=by kernel_rfl
theorem xM:([0]:List Nat).all (fun c=>r4.all fun w=>r4.all fun d=>r4.all fun v=>([0,1]:List Nat).all fun b=>1+J7 (q2 c w d v b)==y2 c w d v b&&1+J7 (p2 c w d v b)==y3 c w d v b)=true:=by kernel_rfl
theorem xN:([1]:List Nat).all (fun c=>r4.all fun w=>r4.all fun d=>r4.all fun v=>([0,1]:List Nat).all fun b=>1+J7 (q2 c w d v b)==y2 c w d v b&&1+J7 (p2 c w d v b)==y3 c w d v b)=true:=by kernel_rfl
theorem xO:([2]:List Nat).all (fun c=>r4.all fun w=>r4.all fun d=>r4.all fun v=>([0,1]:List Nat).all fun b=>1+J7 (q2 c w d v b)==y2 c w d v b&&1+J7 (p2 c w d v b)==y3 c w d v b)=true:=by kernel_rfl
theorem xP:([3]:List Nat).all (fun c=>r4.all fun w=>r4.all fun d=>r4.all fun v=>([0,1]:List Nat).all fun b=>1+J7 (q2 c w d v b)==y2 c w d v b&&1+J7 (p2 c w d v b)==y3 c w d v b)=true:=by kernel_rfl
end Internal
namespace Internal
section
variable {c w d v b:Nat}
theorem FK (hc:c < 4) (hw:w < 4):1+J7 (q1 c w)=y1 c w:=eq_of_beq (List.all_eq_true.mp (List.all_eq_true.mp BS c (c8 hc)) w (c8 hw))
theorem yL (hc:c < 4) (hw:w < 4) (hd:d < 4) (hv:v < 4) (hb:b∈([0,1]:List Nat)):1+J7 (q2 c w d v b)=y2 c w d v b∧1+J7 (p2 c w d v b)=y3 c w d v b:=by
 have k:∀ c∈r4,(r4.all fun w=>r4.all fun d=>r4.all fun v=>([0,1]:List Nat).all fun b=>1+J7 (q2 c w d v b)==y2 c w d v b&&1+J7 (p2 c w d v b)==y3 c w d v b)=true:=
  List.forall_mem_cons.mpr ⟨List.all_eq_true.mp xM 0 (.head _),List.forall_mem_cons.mpr ⟨List.all_eq_true.mp xN 1 (.head _),List.forall_mem_cons.mpr ⟨List.all_eq_true.mp xO 2 (.head _),List.forall_mem_cons.mpr ⟨List.all_eq_true.mp xP 3 (.head _),fun __ h=>nomatch h⟩⟩⟩⟩
 have k:=Bool.and_eq_true_iff.mp (List.all_eq_true.mp (List.all_eq_true.mp (List.all_eq_true.mp (List.all_eq_true.mp (k c (c8 hc)) w (c8 hw)) d (c8 hd)) v (c8 hv)) b hb)
 exact ⟨eq_of_beq k.1,eq_of_beq k.2⟩
theorem p2_eq:p2 c w d v b=Ke c w++(wc d::(J4 1 v++J5 b d)):=by
 unfold p2 p1 Ke
 simp only [List.nil_append,List.cons_append,List.append_assoc]
 rfl
theorem Ek (hw:w < 4) (hv:v < 4):(p1 c w).length≤50∧(p2 c w d v b).length≤100:=by
 have h1:=m3 (s:=0) (by decide) hw
 have h2:=m3 (s:=1) (by decide) hv
 have l1:(p1 c w).length≤50:=by
  unfold p1
  rw [List.length_append,List.length_append]
  exact Nat.le_trans (Nat.add_le_add (Nat.add_le_add (Nat.le_refl 1) h1) (oH 1 c)) (by decide)
 refine ⟨l1,?_⟩
 unfold p2
 rw [List.length_append,List.length_append,List.length_append]
 exact Nat.le_trans (Nat.add_le_add (Nat.add_le_add (Nat.add_le_add l1 (Nat.le_refl 1)) h2) (oH b d)) (by decide)
theorem El (hc:c < 4):Kg c w < 5:=by
 unfold Kg
 split<;>first | exact Nat.lt_succ_of_lt hc | decide
theorem Em (hd:d < 4):Kj d v b < 5:=by
 unfold Kj
 split<;>first | exact Nat.lt_succ_of_lt hd | decide
end
section
variable {P:Params} {l r fw:List AV} {x:Int} {o1 o2:AObj} {c w g b:Nat}
theorem He (hc:c < 4) (hw:w < 4):ga P [.ref 11] (Kb l r (Ka (Ke c w)++fw) x [] [])=some (.str (pc pA),Kb l r (Ka (Kc (Kg c w))++fw) (Ki c w x) [] [Km false],false):=
 List.map_inj_left.mp (List.map_inj_left.mp FG c (c8 hc)) w (c8 hw)
theorem Hf (hg:g < 5) (hc:c < 4) (hw:w < 4) (hb:b∈([0,1]:List Nat)):ga P [.ref 11] (Kb l r (Ka (Kf g c w b)) x [] [o1])=some (.str (pc pB),Kb l r (Ka (Kc (Kj c w b))) (Kk g c w b x) [] [o1,Km (Kl w b)],false):=by
 match g,hg with
 |0,_=>exact List.map_inj_left.mp (List.map_inj_left.mp (List.map_inj_left.mp Ef c (c8 hc)) w (c8 hw)) b hb
 |1,_=>exact List.map_inj_left.mp (List.map_inj_left.mp (List.map_inj_left.mp Eg c (c8 hc)) w (c8 hw)) b hb
 |2,_=>exact List.map_inj_left.mp (List.map_inj_left.mp (List.map_inj_left.mp Eh c (c8 hc)) w (c8 hw)) b hb
 |3,_=>exact List.map_inj_left.mp (List.map_inj_left.mp (List.map_inj_left.mp Ei c (c8 hc)) w (c8 hw)) b hb
 |4,_=>exact List.map_inj_left.mp (List.map_inj_left.mp (List.map_inj_left.mp Ej c (c8 hc)) w (c8 hw)) b hb
 |g+5,h=>exact absurd h (by omega)
theorem Hg (hg:g < 5):ga P [.ref 11] (Kb l r (Ka (Kc g)) x [] [o1,o2])=some (.str "", Kb l r [] (Kd g x) [] [o1,o2,Km true],false):=
 List.map_inj_left.mp FH g ((show ∀ g < 5,g∈([0,1,2,3,4]:List Nat) by decide) g hg)
end
theorem FL {n:Nat} {C:Cfg} {E:AEnv} {σ σ₁ σ₂:St} {p q:Bool} {e e1 e2:Expr} {pos:Pos} {v:AV} (he:e = .BoolOp .And [e1,e2] pos) (h1:Hs (n+1) C E σ e1=some (.bool true,σ₁,p)) (h2:Hs n C E σ₁ e2=some (v,σ₂,q)):Hs (n+3) C E σ e=some (v,σ₂,p&&q):=by
 subst he
 exact aT (x:=Hs (n+1) C E σ e1) h1 h2
noncomputable def pR (x:Int) (t:Str):AV:=.lst [.str t,.str "", .int x]
noncomputable abbrev Ko (x y z:Int):List AV:=[pR x (pc pA),pR y (pc pB),pR z ""]
noncomputable abbrev Kp (x y z:Int):List AV:=[.int x,.int y,.int z]
section
variable {P:Params} {sc a0 a1 a2 a3 a:AV} {n0 n1 n2 n3 n4 x y z:Int} {p:List Nat} {o1 o2 o3:AObj}
theorem FM:ak 93 (cw P) (eA P sc (n5 n0 n1 n2 n3 n4) p a0 a1 a2 a3 1 a (.str "")) (Kb (Kp x y z) (Ko x y z) [] z [] [o1,o2,o3]) (bI P 217 6)=some ((.next,eA P sc (n5 n0 n1 n2 n3 n4) p a0 a1 a2 a3 1 a (.str "")),Kb (Kp x y z) (Ko x y z) [] z [] [o1,o2,o3],true):=by
 refine (dG (n:=92) false (c:=false) (show jE (bI P 217 6) by kernel_rfl) ?_ rfl).trans (show aexecs 92 (cw P) _ _ (cR (bI P 217 6))=_ by kernel_rfl)
 refine (iU (n:=91) (show iS (af (bI P 217 6)) .Or by kernel_rfl)).trans ((congrArg (aall 91 (cw P) _ _ .Or) (show au (af (bI P 217 6))=[eN (af (bI P 217 6)) 0,eN (af (bI P 217 6)) 1] by kernel_rfl)).trans ((yu (n:=90) ?_).trans ((yu (n:=89) (by kernel_rfl)).trans rfl)))
 refine mJ (n:=88) (a:=.ref 4) (b:=.lst (Ko x y z)) (show jG (eN (af (bI P 217 6)) 0) .NotEq by kernel_rfl) (by kernel_rfl) (by kernel_rfl) (by kernel_rfl) ?_
 show Ho ((dZ (.lst (Ko x y z)) (.lst (Ko x y z))).map (!·)) _=_
 rw [dL (d:=.list [.list [.str (pc pA),.str "", .int x],.list [.str (pc pB),.str "", .int y],.list [.str "", .str "", .int z]]) (by kernel_rfl) (by kernel_rfl)]
 rfl
theorem FN:∃ σ₂ p',ak 92 (cw P) (eA P sc (n5 n0 n1 n2 n3 n4) p a0 a1 a2 a3 1 a (.str "")) (Kb (Kp x y z) (Ko x y z) [] z [] [o1,o2,o3]) (bI P 217 7)=some ((.ret (.bool true),eA P sc (n5 n0 n1 n2 n3 n4) p a0 a1 a2 a3 1 a (.str "")),σ₂,p')∧∀ j,j < 3→∃ vt,σ₂[j]? = some (.tab vt):=by
 obtain ⟨cs,td,row,pa,e1⟩:=FA (P:=P) (n0:=n0) (n1:=n1) (n2:=n2) (n3:=n3) (n4:=n4) (x:=z) (a0:=.tab fX) (a1:=.tab (c9 77 cQ)) (a2:=.tab (c9 84 cY)) (a3:=.lst (Kp x y z)) (a4:=.lst (Ko x y z)) (c0:=o1) (c1:=o2) (c2:=o3)
 obtain ⟨σ₂,pb,e2,ht⟩:=FB (P:=P) (n0:=n0) (n1:=n1) (n2:=n2) (n3:=n3) (n4:=n4) (v0:=fX) (b3:=.lst (Kp x y z)) (b4:=.lst (Ko x y z)) (b5:=.pos []) (b6:=.ns JR) (b7:=.inst 157 6) (b8:=.lst []) (b9:=.cell (.ref 5)) (b10:=.ns (Js z)) (b11:=.inst 157 10) (b12:=.lst []) (b13:=o1) (b14:=o2) (b15:=o3)
  (b16:=.dic (dD Cor.av 0 cs)) (b17:=.dic (dD Cor.sv 0 cs)) (b18:=.dic td) (b19:=.ns uv) (b20:=.acc 115 19 []) (b21:=.lst row) (b22:=.cit 140 11 true)
 exact ⟨σ₂,_,fj (n:=91) (show jF (bI P 217 7) by kernel_rfl) (FL (n:=88) (e1:=eN (af (bI P 217 7)) 0) (e2:=eN (af (bI P 217 7)) 1) (pos:=cA (af (bI P 217 7))) (by kernel_rfl)
  ((aP (n:=88) (w:=.ref 212) (Φ:=BY P) (as:=[n5 n0 n1 n2 n3 n4,bT,.ref 11,.bool false]) (σ₁:=Kb (Kp x y z) (Ko x y z) [] z [] [o1,o2,o3]) (show aO (eN (af (bI P 217 7)) 0) "_law_run" by kernel_rfl) (by kernel_rfl) (by kernel_rfl) (by kernel_rfl)).trans e1)
  ((aP (n:=87) (w:=.ref 212) (Φ:=BY P) (as:=[n5 n0 n1 n2 n3 n4,bT,.ref 11,.bool true]) (σ₁:=sZ (.tab fX) (.tab (c9 77 cQ)) (.tab (c9 84 cY)) (.lst (Kp x y z)) (.lst (Ko x y z)) z o1 o2 o3 cs td row) (show aO (eN (af (bI P 217 7)) 1) "_law_run" by kernel_rfl) (by kernel_rfl) (by kernel_rfl) (by kernel_rfl)).trans e2)),ht⟩
end
end Internal
namespace Internal
section
variable {P:Params} {sc a0 a1 a2 a3 a w0:AV} {c w d v b:Nat} {d0 d1 d2 d3 d4:Int}
theorem FO (h0:(d0+2 * 0).fmod 4=w) (h1:(d1+2 * 1).fmod 4=v) (h2:d2.fmod 4=c) (h3:d3.fmod 4=d) (h4:1 - 1 * d4.fmod 2=b) (hw:w < 4) (hv:v < 4) (hc:c < 4) (hd:d < 4) (hb:b < 2) :
  ∃ q,ak 97 (cw P) (eW P sc (n5 d0 d1 d2 d3 d4) [] []) (sL [] []) (bI P 217 2)=some ((.next,E4 P sc (n5 d0 d1 d2 d3 d4) (p2 c w d v b) 1 v b d),sL [.int (1+J7 (q1 c w)),.int (1+J7 (q2 c w d v b))] [],q):=by
 obtain ⟨qa,ea⟩:=FE (P:=P) (sc:=sc) (w:=w) (c:=c) (b:=1) (p:=[]) (l:=[]) (r:=[]) (d0:=d0) (d1:=d1) (d2:=d2) (d3:=d3) (d4:=d4) h0 hw h2 hc (by rw [Int.zero_mul];rfl) (by decide) (Nat.zero_le _) (Nat.zero_le _)
 obtain ⟨qb,eb⟩:=FF (P:=P) (sc:=sc) (w:=v) (c:=d) (b:=b) (p:=p1 c w) (l:=[.int (1+J7 (q1 c w))]) (r:=[]) (d0:=d0) (d1:=d1) (d2:=d2) (d3:=d3) (d4:=d4) (a0:=.int 0) (a1:=.str (tk [wc c])) (a2:=.int w) (a3:=.str (tk (J5 1 c))) h1 hv h3 hd h4 hb (Ek (c:=c) (w:=w) (d:=d) (v:=v) (b:=b) hw hv).1 (show 1≤10 by decide)
 exact ⟨_,oj (n:=96) (items:=[.int 0,.int 1]) (σ₁:=sL [] []) (show mG (bI P 217 2) by kernel_rfl) (by kernel_rfl) (by kernel_rfl) (by kernel_rfl) (c7 ea (c7 eb rfl))⟩
theorem FP {x y z:Int} (hw:w < 4) (hv:v < 4) (hc:c < 4) (hd:d < 4) (hb:b < 2) (dr:AV) (hx:y1 c w=x) (hy:y2 c w d v b=y) (hz:y3 c w d v b=z) :
  ∃ q,ak 94 (cw P) (eA P sc dr (p2 c w d v b) a0 a1 a2 a3 0 .none .none) (Kb (Kp x y z) [] (Ka (p2 c w d v b)) 1 [] []) (bI P 217 5)=some ((.next,eA P sc dr (p2 c w d v b) a0 a1 a2 a3 1 (.int 2) (.str "")),Kb (Kp x y z) (Ko x y z) [] z [] [Km false,Km (Kl v b),Km true],q):=by
 subst hx hy hz
 obtain ⟨qa,ea⟩:=Ha (P:=P) (sc:=sc) (dr:=dr) (a0:=a0) (a1:=a1) (a2:=a2) (a3:=a3) (a:=.none) (w:=.none) (p:=p2 c w d v b) (He (P:=P) (l:=Kp (y1 c w) (y2 c w d v b) (y3 c w d v b)) (r:=[]) (fw:=Ka (wc d::(J4 1 v++J5 b d))) (x:=1) hc hw)
 have hl:Ka (Kc (Kg c w))++Ka (wc d::(J4 1 v++J5 b d))=Ka (Kf (Kg c w) d v b):=List.map_append.symm
 have hm:Ka (Ke c w)++Ka (wc d::(J4 1 v++J5 b d))=Ka (p2 c w d v b):=List.map_append.symm.trans (congrArg Ka p2_eq.symm)
 rw [hl,hm] at ea
 obtain ⟨qb,eb⟩:=Hb (P:=P) (sc:=sc) (dr:=dr) (a0:=a0) (a1:=a1) (a2:=a2) (a3:=a3) (a:=.int 0) (w:=.str "") (p:=p2 c w d v b) (Hf (c:=d) (w:=v) (b:=b) (P:=P) (l:=Kp (y1 c w) (y2 c w d v b) (y3 c w d v b)) (r:=[pR (y1 c w) (pc pA)]) (x:=y1 c w) (o1:=Km false) (El (w:=w) hc) hd hv ((show ∀ b < 2,b∈([0,1]:List Nat) by decide) b hb))
 obtain ⟨qc,ec⟩:=Hc (P:=P) (sc:=sc) (dr:=dr) (a0:=a0) (a1:=a1) (a2:=a2) (a3:=a3) (a:=.int 1) (w:=.str "") (p:=p2 c w d v b) (Hg (P:=P) (l:=Kp (y1 c w) (y2 c w d v b) (y3 c w d v b)) (r:=[pR (y1 c w) (pc pA),pR (y2 c w d v b) (pc pB)]) (x:=y2 c w d v b) (o1:=Km false) (o2:=Km (Kl v b)) (Em (v:=v) (b:=b) hd))
 exact ⟨_,oj (n:=93) (items:=[.int 0,.int 1,.int 2]) (σ₁:=Kb (Kp (y1 c w) (y2 c w d v b) (y3 c w d v b)) [] (Ka (p2 c w d v b)) 1 [] []) (show mG (bI P 217 5) by kernel_rfl) (by kernel_rfl) (by kernel_rfl) (by kernel_rfl) (c7 ea (c7 eb (c7 ec rfl)))⟩
end
theorem uq (P:Params) (ns:List Int) (h:ns.length≤63):jD P ns:=fun G g=>by
 suffices H:∃ E₂ σ₂ p₂,aexecs 100 (cw P) (Dh P (.lst (ns.map .int))) Ij (aq P 217)=some ((.ret (.bool true),E₂),σ₂,p₂)∧(∀ i,i < 3→∃ vt,σ₂[i]? = some (.tab vt)) from
  let ⟨E₂,σ₂,p₂,e,t⟩:=H
  g E₂ σ₂ p₂ e t
 obtain ⟨w,hw,ew⟩:=lF (100+(J0 ns 0).sum+2 * 0) (m:=4) (k:=4) rfl (by decide)
 obtain ⟨v,hv,ev⟩:=lF (204+(J0 ns 1).sum+2 * 1) (m:=4) (k:=4) rfl (by decide)
 obtain ⟨c,hc,ec⟩:=lF (384+(J0 ns 2).sum) (m:=4) (k:=4) rfl (by decide)
 obtain ⟨d,hd,ed⟩:=lF (1+(J0 ns 3).sum) (m:=4) (k:=4) rfl (by decide)
 obtain ⟨b,hb,eb⟩:∃ b:Nat,b < 2∧1 - 1 * (131+(J0 ns 4).sum).fmod 2=(b:Int):=by
  obtain ⟨k,hk,ek⟩:=lF (131+(J0 ns 4).sum) (m:=2) (k:=2) rfl (by decide)
  rw [ek]
  match k,hk with
  |0,_=>exact ⟨1,by decide,by decide⟩
  |1,_=>exact ⟨0,by decide,by decide⟩
  |k+2,h=>exact absurd h (by omega)
 obtain ⟨q2,e2⟩:=FO (P:=P) (sc:=.lst (ns.map .int)) ew ev ec ed eb hw hv hc hd hb
 rw [FK hc hw,(yL hc hw hd hv ((show ∀ b < 2,b∈([0,1]:List Nat) by decide) b hb)).1] at e2
 have e3:ak 96 (cw P) (E4 P (.lst (ns.map .int)) (J2 ns) (p2 c w d v b) 1 v b d) (sL [.int (y1 c w),.int (y2 c w d v b)] []) (bI P 217 3)=some ((.next,E4 P (.lst (ns.map .int)) (J2 ns) (p2 c w d v b) 1 v b d),sL (Kp (y1 c w) (y2 c w d v b) (y3 c w d v b)) [],false):=by
  rw [←(yL hc hw hd hv ((show ∀ b < 2,b∈([0,1]:List Nat) by decide) b hb)).2]
  exact fZ (n:=95) (show f4 (bI P 217 3) by kernel_rfl) (by kernel_rfl) (lD (n:=90) (show 2≤10 by decide) (by kernel_rfl) (by kernel_rfl) (by kernel_rfl) (by kernel_rfl) (by kernel_rfl) (by kernel_rfl) (by kernel_rfl) (by kernel_rfl) (by kernel_rfl) (by kernel_rfl))
 obtain ⟨q4,e4⟩:=FJ (P:=P) (sc:=.lst (ns.map .int)) (dr:=J2 ns) (a0:=.int 1) (a1:=.str (tk [wc d])) (a2:=.int v) (a3:=.str (tk (J5 b d))) (l:=Kp (y1 c w) (y2 c w d v b) (y3 c w d v b)) (r:=[]) (Ek (c:=c) (d:=d) (b:=b) hw hv).2
 obtain ⟨q5,e5⟩:=FP (P:=P) (sc:=.lst (ns.map .int)) (a0:=.int 1) (a1:=.str (tk [wc d])) (a2:=.int v) (a3:=.str (tk (J5 b d))) hw hv hc hd hb (J2 ns) rfl rfl rfl
 obtain ⟨σ₂,p',e7,ht⟩:=FN (P:=P) (sc:=.lst (ns.map .int)) (n0:=100+(J0 ns 0).sum) (n1:=204+(J0 ns 1).sum) (n2:=384+(J0 ns 2).sum) (n3:=1+(J0 ns 3).sum) (n4:=131+(J0 ns 4).sum) (a0:=.int 1) (a1:=.str (tk [wc d])) (a2:=.int v) (a3:=.str (tk (J5 b d))) (a:=.int 2) (x:=y1 c w) (y:=y2 c w d v b) (z:=y3 c w d v b) (p:=p2 c w d v b) (o1:=Km false) (o2:=Km (Kl v b)) (o3:=Km true)
 refine ⟨_,σ₂,_,(congrArg (aexecs 100 (cw P) _ _) (show aq P 217=[bI P 217 0,bI P 217 1,bI P 217 2,bI P 217 3,bI P 217 4,bI P 217 5,bI P 217 6,bI P 217 7] by kernel_rfl)).trans ((Is (n:=99) _ (FC h)).trans (ay (n:=98) (FD (J2 ns)) (ay (n:=97) e2 (ay (n:=96) e3 (ay (n:=95) e4 (ay (n:=94) e5 (ay (n:=93) FM (iT (n:=92) e7)))))))),ht⟩
theorem law_holds:PySem.Challenge.rw_tr0030_01.Holds:=Di uq
end Internal

theorem PySem.Challenge.cw_tr0030_01_holds : PySem.Challenge.rw_tr0030_01.Holds := by
 exact Internal.law_holds
