/- own -/
import Derived.Orders
import Derived.Below
import Derived.KernelRfl
import Derived.Deep.LoopGhost
import Derived.OrdersIn
import Derived.RangeFuncRecord
import Derived.Laws.Sem
import Derived.Laws.Entries
import Derived.WalkKit
import Derived.ProofKit
import Derived.OpenShut
import Derived.ChangeOld
import Derived.Carry
namespace Go.Mx
open Go.RowKit
def Grow (w w':World):Prop:=Below w.heap.size w w'
theorem Grow.refl (w:World):Grow w w:=Below.refl _ _
theorem Grow.trans {a b c:World}(h:Grow a b) (k:Grow b c):Grow a c:=Below.trans h (Below.mono k h.size)
def Keep (S:Nat→Prop) (w w':World):Prop:=∀ k o,¬ S k→w.heap[k]? = some o→w'.heap[k]? = some o
theorem Keep.refl (S:Nat→Prop) (w:World):Keep S w w:=fun _ _ _ h=>h
theorem Keep.trans {S:Nat→Prop}{a b c:World}(h:Keep S a b) (k:Keep S b c):Keep S a c:=fun x o hx ho=>k x o hx (h x o hx ho)
theorem Keep.mono {S T:Nat→Prop}{a b:World}(h:Keep S a b) (k:∀ x,S x→T x):Keep T a b:=fun x o hx ho=>h x o (fun hs=>hx (k x hs)) ho
theorem Grow.keep {w w':World}(g:Grow w w') (S:Nat→Prop):Keep S w w':=fun k o _ h=>by
 rw [g.block k (Array.getElem?_eq_some_iff.1 h).1]; exact h
theorem Keep.all (w w':World):Keep (fun _=>True) w w':=fun _ _ h=>absurd trivial h
def Any (_ _:World):Prop:=True
@[reducible] def rel:Bool→World→World→Prop
 | false=>Any
 | true=>Grow
structure RelOk (ρ:World→World→Prop):Prop where
 refl:∀ w,ρ w w
 trans:∀ a b c,ρ a b→ρ b c→ρ a c
theorem relOk:∀ ld,RelOk (rel ld)
 | false=>⟨fun _=>trivial,fun _ _ _ _ _=>trivial⟩
 | true=>⟨Grow.refl,fun _ _ _=>Grow.trans⟩
theorem keepOk (S:Nat→Prop):RelOk (Keep S):=⟨Keep.refl S,fun _ _ _=>Keep.trans⟩
def execAt (ops:Array Oper) (i:Nat) (a:Act):Sem Next:=
 match ops[i]? with
 | none => .halt (.stuck "")
 | some o=>if Region.wanted o (yielded ops a.tmps) then execOp a.eval o else .pure (.value undef)
def dstAt (ops:Array Oper) (i:Nat):Option Tmp:=(ops[i]?).bind (·.dst)
def NoP (K:Act→World→Prop):Exit→Act→World→Prop
 | .normal,a,w=>K a w
 | _,_,_=>False
def nextV (s:Sem Value):Sem Next:=do pure (.value (← s))
def nextU (s:Sem Unit):Sem Next:=do s; pure .skip
section
variable {P : Program} {ops : Array Oper} {K : Act → World → Prop} {a : Act} {w w' : World} {i : Nat}
variable {Kn : Act → World → Prop}
theorem wpOp_val {v:Value}{d:Option Tmp}(hd:dstAt ops i=d) (h:(execAt ops i a).run P w = .ok (.value v) w') (k:K (a.put d v) w'):wpOp P ops (NoP Kn) i K a w:=by
 subst hd
 cases ho:ops[i]? with
 | none=>unfold execAt at h; rw [ho] at h; cases h
 | some o=>
  unfold wpOp
  unfold execAt at h
  unfold dstAt at k
  simp only [ho,Option.bind_some] at h k ⊢
  split
  ·rename_i hw
   simp only [hw,if_true] at h
   exact .inl (by simp only [Oper.wp,h,Oper.upon]; exact k)
  ·rename_i hw
   simp only [hw] at h
   simp at h
   obtain ⟨rfl,rfl⟩:=h
   exact k
theorem wpOp_skip {d:Option Tmp}(hd:dstAt ops i=d) (h:(execAt ops i a).run P w = .ok .skip w') (k:K (a.put d undef) w'):wpOp P ops (NoP Kn) i K a w:=by
 subst hd
 cases ho:ops[i]? with
 | none=>unfold execAt at h; rw [ho] at h; cases h
 | some o=>
  unfold wpOp
  unfold execAt at h
  unfold dstAt at k
  simp only [ho,Option.bind_some] at h k ⊢
  split
  ·rename_i hw
   simp only [hw,if_true] at h
   exact .inl (by simp only [Oper.wp,h,Oper.upon]; exact k)
  ·rename_i hw
   simp only [hw] at h
   simp at h
theorem wpOp_call {f:FuncId}{args:Array Value}{R:Ending→World→Prop}{d:Option Tmp}(hd:dstAt ops i=d) (h:∀ w,(execAt ops i a).run P w = .ok (.enter f args) w) (c:Calls P f args w R)
  (k:∀ e w',R e w'→∃ v,e = .returned v∧K (a.put d v) w'):wpOp P ops (NoP Kn) i K a w:=by
 subst hd
 have h:=h w
 cases ho:ops[i]? with
 | none=>unfold execAt at h; rw [ho] at h; cases h
 | some o=>
  unfold wpOp
  unfold execAt at h
  unfold dstAt at k
  simp only [ho,Option.bind_some] at h k ⊢
  split
  ·rename_i hw
   simp only [hw,if_true] at h
   refine .inl ?_
   simp only [Oper.wp,h,Oper.upon]
   refine Calls.mono c fun e w'' hr=>?_
   obtain ⟨v,rfl,hk⟩:=k e w'' hr
   exact hk
  ·rename_i hw
   simp only [hw] at h
   simp at h
def FR (r:Option Nat):Fence:={ Fence.wide with round:=r }
theorem calls_FR {r:Option Nat}{f:FuncId}{args:Array Value}{R:Ending→World→Prop}(h:Calls P f args w R):CallsIn (FR r) 0 P f args w R:=callsIn_wide.2 h
theorem round_FR {r:Option Nat}{l:Nat}{f:FuncId}{tmps:Array Value}{assign body:Code}{R:Ending→World→Prop}(h:RoundIn (FR none) 0 P l f tmps assign body w R):RoundIn (FR r) 0 P l f tmps assign body w R:=h
theorem rows_FR {r:Option Nat}{row:String}{args:Array Value}{R:Value→World→Prop}(h:Rows P row args w R):RowsIn (FR r) 0 P row args w R:=fun c cs _=>let ⟨v,w',hv,hs⟩:=h c cs; ⟨v,w',hv,stepsIn_wide.2 hs⟩
def RdOp (P:Program) (ops:Array Oper) (i:Nat) (K:Act→World→Prop) (a:Act) (w:World):Prop:=
 ∃ o l f tmps assign body w',ops[i]? = some o∧Region.wanted o (yielded ops a.tmps)=true∧(execOp a.eval o).run P w = .ok (.round l f tmps assign body) w'∧
  RoundIn (FR none) 0 P l f tmps assign body w' (fun e w''=>∃ v,e = .returned v∧K (a.put o.dst v) w'')
def wpO (P:Program) (ops:Array Oper) (Kn:Act→World→Prop) (i:Nat) (K:Act→World→Prop) (a:Act) (w:World):Prop:=wpOp P ops (NoP Kn) i K a w∨RdOp P ops i K a w
theorem wpO_mono {K':Act→World→Prop}(h:∀ a w,K a w→K' a w) (hh:wpO P ops Kn i K a w):wpO P ops Kn i K' a w:=by
 rcases hh with hh | ⟨o,l,f,tmps,assign,body,w',ho,hw,hr,hR⟩
 ·exact .inl (wpOp_mono h hh)
 ·exact .inr ⟨o,l,f,tmps,assign,body,w',ho,hw,hr,hR.mono fun e w'' ⟨v,hv,hk⟩=>⟨v,hv,h _ _ hk⟩⟩
def noDefer (ops:Array Oper):Bool:=ops.all fun o=>match o.op with | .defer ..=>false | _=>true
theorem noDefer_spec (h:noDefer ops=true) {o:Oper}(ho:ops[i]? = some o):∀ c,o.op ≠ .defer c:=fun c heq=>by
 have:=Array.all_eq_true_iff_forall_mem.1 h o (Array.mem_of_getElem? ho)
 simp [heq] at this
theorem wpO_in {r:Option Nat}(hd:noDefer ops=true) (h:wpO P ops Kn i K a w):wpOpIn (FR r) 0 P ops (NoP Kn) i K a w:=by
 unfold wpOpIn
 rcases h with h | ⟨o,l,f,tmps,assign,body,w',ho,hw,hr,hR⟩
 ·unfold wpOp at h
  cases ho:ops[i]? with
  | none=>simp only [ho] at h ⊢; exact h
  | some o=>
   simp only [ho] at h ⊢
   by_cases hw:Region.wanted o (yielded ops a.tmps)=true
   ·simp only [hw,if_true] at h ⊢
    rcases h with h | ⟨_,a0,w0,hl⟩
    case inr=>exact hl.elim
    refine ⟨fun _ _=>trivial,?_⟩
    rw [Oper.semAt_eq _ _ _ (noDefer_spec hd ho)]
    unfold Oper.wp at h
    generalize (execOp a.eval o).run P w=res at *
    cases res with
    | ok n w'=>
     cases n<;>simp only [Oper.upon] at h<;>simp only [Oper.uponIn]
     case value u=>exact h
     case skip=>exact h
     case defer d=>exact h
     case enter f args=>
      refine ⟨fun h=>by simp [FR,Fence.wide] at h,(calls_FR h).mono fun e w'' he=>?_⟩
      cases e with
      | returned u=>exact he
      | panicked c=>exact he
      | outgrown=>exact he
     case row row args=>exact ⟨fun h=>by simp [FR,Fence.wide] at h,rows_FR h⟩
    | halt x w'=>
     cases x<;>simp only [Oper.upon] at h<;>simp only [Oper.uponIn]
     case panic u=>exact h
   ·simp only [hw,if_false,Bool.false_eq_true] at h ⊢
    exact ⟨fun _ _=>trivial,h⟩
 ·simp only [ho,hw,if_true]
  refine ⟨fun _ _=>trivial,?_⟩
  rw [Oper.semAt_eq _ _ _ (noDefer_spec hd ho),hr]
  simp only [Oper.uponIn]
  refine ⟨fun h=>by simp [FR,Fence.wide] at h,(round_FR hR).mono fun e w'' he=>?_⟩
  obtain ⟨v,rfl,hk⟩:=he
  exact hk
def Yld (P:Program) (ops:Array Oper) (ρ:World→World→Prop) (i:Nat) (a:Act) (w:World) (v:Value):Prop:=
 ∀ w',ρ w w'→(execAt ops i a).run P w' = .ok (.value v) w'
theorem execAt_put {j:Nat}{oj:Oper}(hj:ops[j]? = some oj) (hs:∀ cs b,oj.op ≠ .select cs b) (a:Act) (dst:Option Tmp) (v:Value)
  (h:∀ d,dst=some d→d∉oj.looksAt ops):execAt ops j (a.put dst v)=execAt ops j a:=by
 unfold execAt
 simp only [hj]
 rw [wanted_put oj a dst v h,execOp_put oj hs a dst v h]
def gr (ng:List Nat) (i:Nat):Bool:=!ng.contains i
def Cl (ng:List Nat) (S:Nat→Prop) (i:Nat) (w w':World):Prop:=(gr ng i=true→Grow w w')∧Keep S w w'
theorem Cl.refl {ng:List Nat}{S:Nat→Prop}{i:Nat}(w:World):Cl ng S i w w:=⟨fun _=>Grow.refl w,Keep.refl S w⟩
theorem Cl.of {ng:List Nat}{S:Nat→Prop}{i:Nat}{w w':World}(g:Grow w w'):Cl ng S i w w':=⟨fun _=>g,g.keep S⟩
def wpG (P:Program) (ops:Array Oper) (K:Act→World→Prop) (ng:List Nat) (S:Nat→Prop):Nat→Array Bool→Act→World→Prop
 | 0,listed,a,w=>Region.ready .any ops listed=[]∧K a w
 | fuel+1,listed,a,w=>
  (Region.ready .any ops listed=[]→K a w)∧
  ∀ i∈Region.ready .any ops listed,wpO P ops K i (fun a' w'=>Cl ng S i w w'∧wpG P ops K ng S fuel (listed.setIfInBounds i true) a' w') a w
theorem wpAny_of_wpG {r:Option Nat}{ng:List Nat}{S:Nat→Prop}(hnd:noDefer ops=true):∀ (fuel:Nat) (listed:Array Bool) (a:Act) (w:World),wpG P ops K ng S fuel listed a w→wpAnyIn (FR r) 0 P .any ops (NoP K) fuel listed a w
 | 0,_,_,_,h=>h
 | fuel+1,_,_,_,h=>⟨h.1,fun i hi=>wpOpIn_mono (fun a' w' h'=>wpAny_of_wpG hnd fuel _ a' w' h'.2) (wpO_in hnd (h.2 i hi))⟩
theorem wpOp_after {ng:List Nat}{S:Nat→Prop}{ρ:World→World→Prop}(hρ:RelOk ρ) {j:Nat}{oi oj:Oper}{v:Value}(hi:ops[i]? = some oi) (hj:ops[j]? = some oj) (hap:oi.apart ops oj=true) (hg:∀ w w',Cl ng S j w w'→ρ w w')
  (hsi:∀ cs b,oi.op ≠ .select cs b) (hsj:∀ cs b,oj.op ≠ .select cs b) {K':Act→World→Prop}
  (hy:Yld P ops ρ i a w v) (h:wpOp P ops (NoP K) j (fun a' w'=>Cl ng S j w w'∧K' a' w') (a.put oi.dst v) w) :
  wpOp P ops (NoP K) j (fun a' w'=>Yld P ops ρ i a' w' v∧Cl ng S j w w'∧K' (a'.put oi.dst v) w') a w:=by
 obtain ⟨h1,h2,h3⟩:=Oper.apart_spec hap
 have keep:∀ u w',Cl ng S j w w'→Yld P ops ρ i (a.put oj.dst u) w' v:=fun u w' g=>by
  intro w'' g'
  rw [execAt_put hi hsi a oj.dst u h3]
  exact hy w'' (hρ.trans _ _ _ (hg _ _ g) g')
 have keepD:∀ d u w',Cl ng S j w w'→Yld P ops ρ i (({ a with defers:=d::a.defers } : Act).put oj.dst u) w' v:=fun d u w' g=>by
  intro w'' g'
  rw [execAt_put hi hsi _ oj.dst u h3]
  exact hy w'' (hρ.trans _ _ _ (hg _ _ g) g')
 unfold wpOp at *
 simp only [hj] at *
 rw [wanted_put oj a oi.dst v h1] at h
 split
 ·rename_i hw
  simp only [hw,if_true] at h
  rcases h with h | ⟨hasks,a0,w0,hl⟩
  case inr=>exact hl.elim
  refine .inl ?_
  unfold Oper.wp at *
  rw [execOp_put oj hsj a oi.dst v h1] at h
  generalize (execOp a.eval oj).run P w=r at *
  cases r with
  | ok n w'=>
   cases n<;>simp only [Oper.upon] at h ⊢
   case value u=>exact ⟨keep u w' h.1,h.1,by rw [← Act.put_comm a v u h2]; exact h.2⟩
   case skip=>exact ⟨keep _ w' h.1,h.1,by rw [← Act.put_comm a v undef h2]; exact h.2⟩
   case defer d=>
    refine ⟨keepD _ _ w' h.1,h.1,?_⟩
    rw [← Act.put_comm _ v undef h2,← Act.put_defers]
    exact h.2
   case enter f args=>
    refine Calls.mono h fun e w'' he=>?_
    cases e with
    | returned u=>exact ⟨keep u w'' he.1,he.1,by rw [← Act.put_comm a v u h2]; exact he.2⟩
    | panicked c=>exact he.elim
    | outgrown=>obtain ⟨_,_,hl⟩:=he; exact hl.elim
   case row row args=>exact Rows.mono h fun u w'' he=>⟨keep u w'' he.1,he.1,by rw [← Act.put_comm a v u h2]; exact he.2⟩
  | halt x w'=>
   cases x<;>simp only [Oper.upon] at h ⊢
   case panic u=>exact h.elim
 ·rename_i hw
  simp only [hw] at h
  exact ⟨keep _ w h.1,h.1,by rw [← Act.put_comm a v undef h2]; exact h.2⟩
theorem wpO_after {ng:List Nat}{S:Nat→Prop}{ρ:World→World→Prop}(hρ:RelOk ρ) {j:Nat}{oi oj:Oper}{v:Value}(hi:ops[i]? = some oi) (hj:ops[j]? = some oj) (hap:oi.apart ops oj=true) (hg:∀ w w',Cl ng S j w w'→ρ w w')
  (hsi:∀ cs b,oi.op ≠ .select cs b) (hsj:∀ cs b,oj.op ≠ .select cs b) {K':Act→World→Prop}
  (hy:Yld P ops ρ i a w v) (h:wpO P ops K j (fun a' w'=>Cl ng S j w w'∧K' a' w') (a.put oi.dst v) w) :
  wpO P ops K j (fun a' w'=>Yld P ops ρ i a' w' v∧Cl ng S j w w'∧K' (a'.put oi.dst v) w') a w:=by
 rcases h with h | ⟨o,l,f,tmps,assign,body,w',ho,hw,hr,hR⟩
 ·exact .inl (wpOp_after hρ hi hj hap hg hsi hsj hy h)
 ·obtain ⟨h1,h2,h3⟩:=Oper.apart_spec hap
  rw [hj] at ho
  obtain rfl:=Option.some.inj ho
  rw [wanted_put oj a oi.dst v h1] at hw
  rw [execOp_put oj hsj a oi.dst v h1] at hr
  refine .inr ⟨oj,l,f,tmps,assign,body,w',hj,hw,hr,hR.mono fun e w'' ⟨u,he,hc,hk⟩=>⟨u,he,?_,hc,?_⟩⟩
  ·intro w3 g'
   rw [execAt_put hi hsi a oj.dst u h3]
   exact hy w3 (hρ.trans _ _ _ (hg _ _ hc) g')
  ·rw [← Act.put_comm a v u h2]; exact hk
theorem wpG_take' {ng:List Nat}{S:Nat→Prop}{ρ:World→World→Prop}(hρ:RelOk ρ) {oi:Oper}{v:Value}(Bl:List Nat) (hi:ops[i]? = some oi) (hsel:∀ (j:Nat) (o:Oper) cs b,ops[j]? = some o→o.op ≠ .select cs b)
  (hBl:∀ j∈Bl,j≠i→∀ oj,ops[j]? = some oj→∃ e∈oj.after,Region.binds .any e=true∧e.on∈Bl) :
  ∀ (fuel:Nat) (listed:Array Bool) (a:Act) (w:World),
   (∀ j∈Bl,listed.getD j true=false) →
   (∀ j oj,ops[j]? = some oj→j≠i→j∉Bl→listed.getD j true=false→oi.apart ops oj=true∧(∀ w w',Cl ng S j w w'→ρ w w')) →
   i∈Region.ready .any ops listed→Yld P ops ρ i a w v →
   wpG P ops K ng S fuel (listed.setIfInBounds i true) (a.put oi.dst v) w→wpG P ops K ng S (fuel+1) listed a w:=by
 have hd:dstAt ops i=oi.dst:=by simp [dstAt,hi]
 intro fuel
 induction fuel with
 | zero=>
  intro listed a w _ _ hr hy H
  refine ⟨fun h=>(by rw [h] at hr; cases hr),fun j hj=>?_⟩
  by_cases hji:j=i
  ·subst hji; exact .inl (wpOp_val rfl (hy w (hρ.refl w)) ⟨Cl.refl w,by rw [hd]; exact H⟩)
  ·have:=ready_mono hj hji
   rw [H.1] at this
   cases this
 | succ fuel ih=>
  intro listed a w hun hfree hr hy H
  refine ⟨fun h=>(by rw [h] at hr; cases hr),fun j hj=>?_⟩
  by_cases hji:j=i
  ·subst hji; exact .inl (wpOp_val rfl (hy w (hρ.refl w)) ⟨Cl.refl w,by rw [hd]; exact H⟩)
  ·have h1:=H.2 j (ready_mono hj hji)
   obtain ⟨hjun,oj,hoj,hall⟩:=mem_ready.1 hj
   have hnot:j∉Bl:=fun hjB=>by
    obtain ⟨e,he,hb,heB⟩:=hBl j hjB hji oj hoj
    have h1:=hall e he hb
    have h0:=hun e.on heB
    rcases Nat.lt_or_ge e.on listed.size with h' | h'
    ·simp [h'] at h0 h1; rw [h0] at h1; cases h1
    ·simp [Array.getElem?_eq_none h'] at h0
   have hf:=hfree j oj hoj hji hnot hjun
   have h2:=wpO_after hρ hi hoj hf.1 hf.2 (fun cs b=>hsel i oi cs b hi) (fun cs b=>hsel j oj cs b hoj) hy h1
   have hfree':∀ k ok,ops[k]? = some ok→k≠i→k∉Bl→(listed.setIfInBounds j true).getD k true=false→oi.apart ops ok=true∧(∀ w w',Cl ng S k w w'→ρ w w'):=fun k ok hk hki hkB hun'=>by
    refine hfree k ok hk hki hkB ?_
    by_cases hjk:j=k
    ·subst hjk; exact hjun
    ·rw [getD_set_ne true hjk] at hun'; exact hun'
   have hun':∀ k∈Bl,(listed.setIfInBounds j true).getD k true=false:=fun k hk=>by
    have hjk:j≠k:=fun h=>by subst h; exact hnot hk
    rw [getD_set_ne true hjk]
    exact hun k hk
   refine wpO_mono (fun a' w' h3=>⟨h3.2.1,ih (listed.setIfInBounds j true) a' w' hun' hfree' (ready_mono hr (Ne.symm hji)) h3.1 ?_⟩) h2
   rw [Array.setIfInBounds_comm _ _ hji]
   exact h3.2.2
def readyB (ops:Array Oper) (listed:Array Bool) (i:Nat):Bool:=(Region.ready .any ops listed).contains i
def openB (ops:Array Oper) (listed:Array Bool) (i:Nat) (Bl:List Nat) (ok:Nat→Bool):Bool:=
 match ops[i]? with
  | none=>false
  | some oi=>(List.range ops.size).all fun j=>j == i || Bl.contains j || listed.getD j true || match ops[j]? with
    | some oj=>oi.apart ops oj && ok j
    | none=>true
def blockB (ops:Array Oper) (listed:Array Bool) (i:Nat) (Bl:List Nat):Bool:=
 Bl.all (fun j=>!listed.getD j true && (j == i || match ops[j]? with
  | some oj=>oj.after.any (fun e=>Region.binds .any e && Bl.contains e.on)
  | none=>true)) && (readyB ops listed i && Region.noSelect ops)
theorem wpG_takeB {ng:List Nat}{S:Nat→Prop}{ρ:World→World→Prop}(hρ:RelOk ρ) {fuel:Nat}{listed:Array Bool}(Bl:List Nat) (i:Nat) (d:Option Tmp) (v:Value) (ok:Nat→Bool) (hok:∀ j,ok j=true→∀ w w',Cl ng S j w w'→ρ w w')
  (hd':dstAt ops i=d) (hf:openB ops listed i Bl ok=true) (hb:blockB ops listed i Bl=true) (hy:Yld P ops ρ i a w v)
  (H:wpG P ops K ng S fuel (listed.setIfInBounds i true) (a.put d v) w):wpG P ops K ng S (fuel+1) listed a w:=by
 subst hd'
 unfold blockB at hb
 simp only [Bool.and_eq_true] at hb
 obtain ⟨hb,hr,hs⟩:=hb
 have hr':i∈Region.ready .any ops listed:=by unfold readyB at hr; exact List.contains_iff_mem.1 hr
 obtain ⟨_,oi,hoi,_⟩:=mem_ready.1 hr'
 have hd:dstAt ops i=oi.dst:=by simp [dstAt,hoi]
 rw [hd] at H
 rw [List.all_eq_true] at hb
 have hb1:∀ j∈Bl,listed.getD j true=false:=fun j hj=>by
  have:=hb j hj
  simp only [Bool.and_eq_true,Bool.not_eq_true'] at this
  exact this.1
 have hb2:∀ j∈Bl,j≠i→∀ oj,ops[j]? = some oj→∃ e∈oj.after,Region.binds .any e=true∧e.on∈Bl:=fun j hj hne oj hoj=>by
  have:=hb j hj
  simp only [Bool.and_eq_true,Bool.or_eq_true,beq_iff_eq,hne,false_or,hoj] at this
  obtain ⟨e,he,h2⟩:=Array.any_eq_true'.1 this.2
  simp only [Bool.and_eq_true] at h2
  exact ⟨e,he,h2.1,List.contains_iff_mem.1 h2.2⟩
 refine wpG_take' hρ Bl hoi (Region.noSelect_spec hs) hb2 fuel listed a w hb1 (fun j oj hj hne hnB hun=>?_) hr' hy H
 simp only [openB,hoi,List.all_eq_true,List.mem_range] at hf
 have h1:=hf j (Array.getElem?_eq_some_iff.1 hj).1
 have hnB':Bl.contains j=false:=by
  cases h:Bl.contains j with
  | false=>rfl
  | true=>exact absurd (List.contains_iff_mem.1 h) hnB
 simp only [hj,Bool.or_eq_true,beq_iff_eq,hne,false_or,hun,hnB',Bool.false_eq_true,Bool.and_eq_true] at h1
 exact ⟨h1.1,hok j h1.2⟩
def takeB (ops:Array Oper) (ng:List Nat) (listed:Array Bool) (i:Nat) (ld:Bool) (Bl:List Nat):Bool:=openB ops listed i Bl (fun j=>!ld || gr ng j) && blockB ops listed i Bl
theorem wpG.take {ng:List Nat}{S:Nat→Prop}{fuel:Nat}{listed:Array Bool}(Bl:List Nat) (i:Nat) (ld:Bool) (d:Option Tmp) (v:Value) (hd':dstAt ops i=d) (hc:takeB ops ng listed i ld Bl=true) (hy:Yld P ops (rel ld) i a w v)
  (H:wpG P ops K ng S fuel (listed.setIfInBounds i true) (a.put d v) w):wpG P ops K ng S (fuel+1) listed a w:=by
 unfold takeB at hc
 rw [Bool.and_eq_true] at hc
 refine wpG_takeB (relOk ld) Bl i d v _ (fun j hj w w' hC=>?_) hd' hc.1 hc.2 hy H
 cases ld with
 | false=>trivial
 | true=>exact hC.1 (by simpa using hj)
def waitL (ops:Array Oper) (i:Nat):List Nat:=(List.range ops.size).filter fun j=>j == i || match ops[j]? with
 | some oj=>oj.after.any (fun e=>Region.binds .any e && e.on == i)
 | none=>false
theorem wpG.takeD {ng:List Nat}{S:Nat→Prop}{fuel:Nat}{listed:Array Bool}(i:Nat) (ld:Bool) (d:Option Tmp) (v:Value) (hd':dstAt ops i=d) (hc:takeB ops ng listed i ld (waitL ops i)=true) (hy:Yld P ops (rel ld) i a w v)
  (H:wpG P ops K ng S fuel (listed.setIfInBounds i true) (a.put d v) w):wpG P ops K ng S (fuel+1) listed a w:=wpG.take _ i ld d v hd' hc hy H
def takeKB (ops:Array Oper) (listed:Array Bool) (i:Nat) (Bl:List Nat):Bool:=openB ops listed i Bl (fun _=>true) && blockB ops listed i Bl
theorem wpG.takeK {ng:List Nat}{S:Nat→Prop}{fuel:Nat}{listed:Array Bool}(Bl:List Nat) (i:Nat) (d:Option Tmp) (v:Value) (hd':dstAt ops i=d) (hc:takeKB ops listed i Bl=true) (hy:Yld P ops (Keep S) i a w v)
  (H:wpG P ops K ng S fuel (listed.setIfInBounds i true) (a.put d v) w):wpG P ops K ng S (fuel+1) listed a w:=by
 unfold takeKB at hc
 rw [Bool.and_eq_true] at hc
 exact wpG_takeB (keepOk S) Bl i d v _ (fun j _ w w' hC=>hC.2) hd' hc.1 hc.2 hy H
theorem wpG.only {ng:List Nat}{S:Nat→Prop}{fuel:Nat}{listed:Array Bool}(i:Nat) (hc:Region.ready .any ops listed=[i])
  (H:wpOp P ops (NoP K) i (fun a' w'=>Cl ng S i w w'∧wpG P ops K ng S fuel (listed.setIfInBounds i true) a' w') a w):wpG P ops K ng S (fuel+1) listed a w:=
 by
 refine ⟨fun h=>?_,fun j hj=>?_⟩
 ·rw [hc] at h; cases h
 ·rw [hc] at hj; obtain rfl:=List.mem_singleton.1 hj; exact .inl H
theorem wpG.onlyR {ng:List Nat}{S:Nat→Prop}{fuel:Nat}{listed:Array Bool}(i:Nat) (hc:Region.ready .any ops listed=[i])
  (H:RdOp P ops i (fun a' w'=>Cl ng S i w w'∧wpG P ops K ng S fuel (listed.setIfInBounds i true) a' w') a w):wpG P ops K ng S (fuel+1) listed a w:=
 by
 refine ⟨fun h=>?_,fun j hj=>?_⟩
 ·rw [hc] at h; cases h
 ·rw [hc] at hj; obtain rfl:=List.mem_singleton.1 hj; exact .inr H
theorem wpG.many {ng:List Nat}{S:Nat→Prop}{fuel:Nat}{listed:Array Bool}(l:List Nat) (hc:Region.ready .any ops listed=l) (hne:l≠[])
  (H:∀ i∈l,wpOp P ops (NoP K) i (fun a' w'=>Cl ng S i w w'∧wpG P ops K ng S fuel (listed.setIfInBounds i true) a' w') a w):wpG P ops K ng S (fuel+1) listed a w:=by
 subst hc
 exact ⟨fun h=>absurd h hne,fun i hi=>.inl (H i hi)⟩
theorem forall_nil {p:Nat→Prop} : ∀ i∈([]:List Nat),p i:=fun _ h=>(by cases h)
theorem forall_cons {p:Nat→Prop}{x:Nat}{l:List Nat}(h:p x) (hl:∀ i∈l,p i):∀ i∈x::l,p i:=fun i hi=>by
 rcases List.mem_cons.1 hi with rfl | hi
 ·exact h
 ·exact hl i hi
theorem wpG.fin {ng:List Nat}{S:Nat→Prop}{fuel:Nat}{listed:Array Bool}{a':Act}(hc:Region.ready .any ops listed=[]) (ha:a=a') (H:K a' w):wpG P ops K ng S fuel listed a w:=by
 subst ha
 cases fuel with
 | zero=>exact ⟨hc,H⟩
 | succ n=>
  refine ⟨fun _=>H,fun i hi=>?_⟩
  rw [hc] at hi; cases hi
def wpS (P:Program) (ops:Array Oper) (K:Act→World→Prop):List Nat→Act→World→Prop
 | [],a,w=>K a w
 | i::l,a,w=>wpO P ops K i (wpS P ops K l) a w
theorem wpS.take {l:List Nat}(i:Nat) (ld:Bool) (d:Option Tmp) (v:Value) (hd:dstAt ops i=d) (hy:Yld P ops (rel ld) i a w v) (H:wpS P ops K l (a.put d v) w):wpS P ops K (i::l) a w:=
 .inl (wpOp_val hd (hy w ((relOk ld).refl w)) H)
theorem wpS.only {l:List Nat}(i:Nat) (H:wpOp P ops (NoP K) i (fun a' w'=>(true=true→True)∧wpS P ops K l a' w') a w):wpS P ops K (i::l) a w:=
 .inl (wpOp_mono (fun _ _ h=>h.2) H)
theorem wpS.onlyR {l:List Nat}(i:Nat) (H:RdOp P ops i (fun a' w'=>(true=true→True)∧wpS P ops K l a' w') a w):wpS P ops K (i::l) a w:=
 wpO_mono (fun _ _ h=>h.2) (.inr H:wpO P ops K i _ a w)
theorem wpS.fin {a':Act}(ha:a=a') (H:K a' w):wpS P ops K [] a w:=by subst ha; exact H
theorem wpOps_of_wpS {r:Option Nat}(hnd:noDefer ops=true):∀ (l:List Nat) (a:Act) (w:World),wpS P ops K l a w→wpOpsIn (FR r) 0 P ops (NoP K) l a w
 | [],_,_,h=>h
 | i::l,a,w,h=>by
  rw [wpOpsIn_cons]
  exact wpOpIn_mono (fun a' w' h'=>wpOps_of_wpS hnd l a' w' h') (wpO_in hnd h)
theorem NoP.imp {Q:Exit→Act→World→Prop}(h:∀ a w,K a w→Q .normal a w):∀ e a w,NoP K e a w→Q e a w:=fun e a w hk=>by
 cases e<;>first | exact h a w hk | exact hk.elim
def World.drawn1 (w:World):World:={ w with drawn:=w.drawn+1 }
theorem Grow.drawn1 (w:World):Grow w (World.drawn1 w):=⟨rfl,rfl,rfl,Nat.le_refl _,fun _ _=>rfl⟩
theorem wp_regS {r:Option Nat}{id:Nat}{Q:Exit→Act→World→Prop}{l:List Nat}(hl:List.range ops.size=l) (hnd:noDefer ops=true) (h:∀ K:Act→World→Prop,(∀ a w,Q .normal a w→K a w)→wpS P ops K l a w):(Code.region id ops false).wpIn (FR r) 0 P Q a w:=by
 subst hl
 exact wpIn_mono (wpIn_region (Q:=NoP (Q .normal)) (wpOps_of_wpS hnd _ _ _ (h _ fun _ _ h=>h))) (NoP.imp fun _ _ h=>h)
theorem wp_regG {r:Option Nat}{id:Nat}{Q:Exit→Act→World→Prop}(ng:List Nat) (S:Nat→Prop) (fuel:Nat) (hm:P.follows .mixedOrders=true) (hl:ops.size=fuel) (hnd:noDefer ops=true)
  (h:∀ K:Act→World→Prop,(∀ a w,Q .normal a w→K a w)→wpG P ops K ng S fuel (Array.replicate fuel false) a (World.drawn1 w)):(Code.region id ops true).wpIn (FR r) 0 P Q a w:=by
 subst hl
 exact wpIn_mono (wpIn_region_any (Q:=NoP (Q .normal)) hm (wpAny_of_wpG hnd _ _ _ _ (h _ fun _ _ h=>h))) (NoP.imp fun _ _ h=>h)
theorem wpG.tD {ng:List Nat}{S:Nat→Prop}{fuel:Nat}{listed:Array Bool}(i:Nat) (ld:Bool) (d:Option Tmp) (v:Value) (hy:Yld P ops (rel ld) i a w v) (H:wpG P ops K ng S fuel (listed.setIfInBounds i true) (a.put d v) w)
  (hd':dstAt ops i=d:=by kernel_rfl) (hc:takeB ops ng listed i ld (waitL ops i)=true:=by kernel_rfl):wpG P ops K ng S (fuel+1) listed a w:=wpG.takeD i ld d v hd' hc hy H
theorem wpS.tk {l:List Nat}(i:Nat) (ld:Bool) (d:Option Tmp) (v:Value) (hy:Yld P ops (rel ld) i a w v) (H:wpS P ops K l (a.put d v) w) (hd:dstAt ops i=d:=by kernel_rfl):wpS P ops K (i::l) a w:=wpS.take i ld d v hd hy H
end
structure Ent where
 foot:Nat→Prop
 p:World→Prop
 loc:∀ w w':World,(∀ b,foot b→w'.heap[b]? = w.heap[b]?)→p w→p w'
def Ent.blk (b:Nat) (c:List Value) (t:TypeId):Ent where
 foot:=fun k=>k=b
 p:=fun w=>w.heap[b]? = some (.cells c.toArray t (0,0))
 loc:=fun _ _ h hp=>(h b rfl).trans hp
def Ent.obj (b:Nat) (o:Obj):Ent where
 foot:=fun k=>k=b
 p:=fun w=>w.heap[b]? = some o
 loc:=fun _ _ h hp=>(h b rfl).trans hp
structure St (w0:World) (X:List Nat) (L R:List Ent) (w:World):Prop where
 os:w.os=w0.os
 tape:w.tape=w0.tape
 output:w.output=w0.output
 size:w0.heap.size≤w.heap.size
 block:∀ k,k<w0.heap.size→k∉X→w.heap[k]? = w0.heap[k]?
 own:∀ e∈L,e.p w∧∀ b,e.foot b→b<w.heap.size∧(b∈X∨w0.heap.size≤b)
 apart:L.Pairwise fun e e'=>∀ b,e.foot b→¬ e'.foot b
 read:∀ e∈R,e.p w∧∀ b,e.foot b→b<w.heap.size∧∀ e'∈L,¬ e'.foot b
theorem St.start (w:World):St w [] [] [] w:=⟨rfl,rfl,rfl,Nat.le_refl _,fun _ _ _=>rfl,fun _ h=>(by cases h),.nil,fun _ h=>(by cases h)⟩
theorem St.below {w0 w:World}{L R:List Ent}(h:St w0 [] L R w):Below w0.heap.size w0 w:=⟨h.os,h.tape,h.output,h.size,fun k hk=>h.block k hk (by simp)⟩
theorem St.grow {w0 w:World}{L R:List Ent}(h:St w0 [] L R w):Grow w0 w:=h.below
theorem St.drop {w0 w:World}{X:List Nat}{L L' R:List Ent}(h:St w0 X L R w) (hs:L'.Sublist L):St w0 X L' R w:=
 ⟨h.os,h.tape,h.output,h.size,h.block,fun e he=>h.own e (hs.subset he),h.apart.sublist hs,fun e he=>⟨(h.read e he).1,fun b hb=>⟨((h.read e he).2 b hb).1,fun e' he'=>((h.read e he).2 b hb).2 e' (hs.subset he')⟩⟩⟩
theorem St.none {w0 w:World}{X:List Nat}{L R:List Ent}(h:St w0 X L R w):St w0 X [] [] w:=
 ⟨h.os,h.tape,h.output,h.size,h.block,fun _ h=>(by cases h),.nil,fun _ h=>(by cases h)⟩
theorem St.conv {w0 w:World}{X:List Nat}{L L' R:List Ent}(h:St w0 X L R w) (e:L=L'):St w0 X L' R w:=e ▸ h
theorem St.grown {w0 w w':World}{X:List Nat}{L R L':List Ent}(h:St w0 X L R w) (g:St w [] L' [] w'):St w0 X (L'++L) R w':=by
 refine ⟨g.os.trans h.os,g.tape.trans h.tape,g.output.trans h.output,Nat.le_trans h.size g.size,fun k hk hx=>(g.block k (Nat.lt_of_lt_of_le hk h.size) (by simp)).trans (h.block k hk hx),?_,?_,?_⟩
 ·intro e he
  rcases List.mem_append.1 he with he | he
  ·obtain ⟨h1,h2⟩:=g.own e he
   refine ⟨h1,fun b hb=>⟨(h2 b hb).1,.inr ?_⟩⟩
   rcases (h2 b hb).2 with h | h'
   ·cases h
   ·exact Nat.le_trans h.size h'
  ·obtain ⟨h1,h2⟩:=h.own e he
   exact ⟨e.loc w w' (fun b hb=>g.block b (h2 b hb).1 (by simp)) h1,fun b hb=>⟨Nat.lt_of_lt_of_le (h2 b hb).1 g.size,(h2 b hb).2⟩⟩
 ·refine List.pairwise_append.2 ⟨g.apart,h.apart,fun e he e' he' b hb hb'=>?_⟩
  rcases ((g.own e he).2 b hb).2 with h1 | h1
  ·cases h1
  ·exact absurd ((h.own e' he').2 b hb').1 (by omega)
 ·intro e he
  obtain ⟨h1,h2⟩:=h.read e he
  refine ⟨e.loc w w' (fun b hb=>g.block b (h2 b hb).1 (by simp)) h1,fun b hb=>⟨Nat.lt_of_lt_of_le (h2 b hb).1 g.size,fun e' he' hb'=>?_⟩⟩
  rcases List.mem_append.1 he' with he' | he'
  ·rcases ((g.own e' he').2 b hb').2 with h1 | h1
   ·cases h1
   ·exact absurd (h2 b hb).1 (by omega)
  ·exact (h2 b hb).2 e' he' hb'
theorem St.move {w0 w w':World}{X:List Nat}{L R:List Ent}(h:St w0 X L R w) (g:Grow w w'):St w0 X L R w':=
 h.grown (L':=[]) ⟨g.os,g.tape,g.output,g.size,fun k hk _=>g.block k hk,fun _ h=>(by cases h),.nil,fun _ h=>(by cases h)⟩
theorem St.drawn1 {w0 w:World}{X:List Nat}{L R:List Ent}(h:St w0 X L R w):St w0 X L R (World.drawn1 w):=h.move (Grow.drawn1 w)
theorem St.blkAt {w0 w:World}{X:List Nat}{L R:List Ent}(h:St w0 X L R w) (j:Nat) {b:Nat}{c:List Value}{t:TypeId}(hj:L[j]? = some (.blk b c t)) :
  w.heap[b]? = some (.cells c.toArray t (0,0)):=(h.own _ (List.mem_of_getElem? hj)).1
theorem St.objSet {w0 w w':World}{X:List Nat}{L R:List Ent}(h:St w0 X L R w) (j:Nat) {b:Nat}{o o':Obj}(hj:L[j]? = some (.obj b o))
  (hos:w'.os=w.os) (htape:w'.tape=w.tape) (hout:w'.output=w.output) (hsz:w'.heap.size=w.heap.size)
  (hb:w'.heap[b]? = some o') (hk:∀ k,k≠b→w'.heap[k]? = w.heap[k]?):St w0 X (L.set j (.obj b o')) R w':=by
 have hjl:j<L.length:=(List.getElem?_eq_some_iff.1 hj).1
 have hjm:Ent.obj b o∈L:=List.mem_of_getElem? hj
 have hfb:=(h.own _ hjm).2 b rfl
 refine ⟨hos.trans h.os,htape.trans h.tape,hout.trans h.output,by rw [hsz]; exact h.size,fun k hk0 hx=>?_,?_,?_,?_⟩
 ·rw [hk k (fun e=>by subst e; rcases hfb.2 with h1 | h1; exact hx h1; omega)]
  exact h.block k hk0 hx
 ·intro e he
  rw [List.mem_iff_getElem?] at he
  obtain ⟨m,hm⟩:=he
  rw [List.getElem?_set] at hm
  split at hm
  ·rename_i hjm'
   simp only [Option.some.injEq] at hm
   subst hm
   refine ⟨hb,fun b' hb'=>?_⟩
   obtain rfl:b'=b:=hb'
   exact ⟨by rw [hsz]; exact hfb.1,hfb.2⟩
  ·rename_i hne
   have hem:=List.mem_of_getElem? hm
   obtain ⟨h1,h2⟩:=h.own e hem
   refine ⟨e.loc w w' (fun b' hb'=>hk b' fun heq=>?_) h1,fun b' hb'=>⟨by rw [hsz]; exact (h2 b' hb').1,(h2 b' hb').2⟩⟩
   subst heq
   have hpw:=List.pairwise_iff_getElem.1 h.apart
   obtain ⟨hml,hme⟩:=List.getElem?_eq_some_iff.1 hm
   obtain ⟨_,hje⟩:=List.getElem?_eq_some_iff.1 hj
   rcases Nat.lt_or_gt_of_ne hne with hlt | hgt
   ·exact hpw j m hjl hml hlt b' (by rw [hje]; exact rfl) (by rw [hme]; exact hb')
   ·exact hpw m j hml hjl hgt b' (by rw [hme]; exact hb') (by rw [hje]; exact rfl)
 ·rw [List.pairwise_iff_getElem]
  intro m n hm hn hmn b' hb1 hb2
  rw [List.length_set] at hm hn
  have hpw:=List.pairwise_iff_getElem.1 h.apart m n hm hn hmn b'
  have foots:∀ q (hq:q<L.length) (hq':q<(L.set j (.obj b o')).length),(L.set j (.obj b o'))[q].foot b'→L[q].foot b':=fun q hq hq' hf=>by
   rw [List.getElem_set] at hf
   split at hf
   ·rename_i hjq
    subst hjq
    obtain ⟨_,hje⟩:=List.getElem?_eq_some_iff.1 hj
    rw [hje]; exact hf
   ·exact hf
  exact hpw (foots m hm _ hb1) (foots n hn _ hb2)
 ·intro e he
  obtain ⟨h1,h2⟩:=h.read e he
  refine ⟨e.loc w w' (fun b' hb'=>hk b' fun heq=>?_) h1,fun b' hb'=>⟨by rw [hsz]; exact (h2 b' hb').1,fun e' he' hf=>?_⟩⟩
  ·subst heq; exact (h2 b' hb').2 _ hjm rfl
  ·rw [List.mem_iff_getElem?] at he'
   obtain ⟨m,hm⟩:=he'
   rw [List.getElem?_set] at hm
   split at hm
   ·simp only [Option.some.injEq] at hm
    subst hm
    exact (h2 b' hb').2 _ hjm hf
   ·exact (h2 b' hb').2 _ (List.mem_of_getElem? hm) hf
theorem St.blkSet {w0 w w':World}{X:List Nat}{L R:List Ent}(h:St w0 X L R w) (j:Nat) {b:Nat}{c c':List Value}{t:TypeId}(hj:L[j]? = some (.blk b c t))
  (hos:w'.os=w.os) (htape:w'.tape=w.tape) (hout:w'.output=w.output) (hsz:w'.heap.size=w.heap.size)
  (hb:w'.heap[b]? = some (.cells c'.toArray t (0,0))) (hk:∀ k,k≠b→w'.heap[k]? = w.heap[k]?):St w0 X (L.set j (.blk b c' t)) R w':=
 St.objSet (o:=.cells c.toArray t (0,0)) (o':=.cells c'.toArray t (0,0)) h j hj hos htape hout hsz hb hk
theorem St.newObj {w0 w:World}{X:List Nat}{L R:List Ent}(h:St w0 X L R w) (o:Obj):St w0 X (.obj w.heap.size o::L) R { w with heap:=w.heap.push o }:=by
 have g:St w [] [.obj w.heap.size o] [] { w with heap:=w.heap.push o }:=by
  refine ⟨rfl,rfl,rfl,by simp,fun k hk _=>?_,?_,.cons (fun _ h=>(by cases h)) .nil,fun _ h=>(by cases h)⟩
  ·show (w.heap.push _)[k]? = _
   rw [Array.getElem?_push,if_neg (by omega)]
  ·intro e he
   obtain rfl:=List.mem_singleton.1 he
   refine ⟨?_,fun b hb=>?_⟩
   ·show (w.heap.push _)[w.heap.size]? = _
    simp
   ·obtain rfl:b=w.heap.size:=hb
    exact ⟨by simp,.inr (Nat.le_refl _)⟩
 exact h.grown g
theorem St.new {w0 w:World}{X:List Nat}{L R:List Ent}(h:St w0 X L R w) (c:List Value) (t:TypeId):St w0 X (.blk w.heap.size c t::L) R { w with heap:=w.heap.push (.cells c.toArray t) }:=h.newObj (.cells c.toArray t)
theorem grow_new (w:World) (o:Obj):Grow w { w with heap:=w.heap.push o }:=
 ⟨rfl,rfl,rfl,by simp,fun k hk=>by show (w.heap.push _)[k]? = _; rw [Array.getElem?_push,if_neg (by omega)]⟩
attribute [irreducible] wpS wpG
end Go.Mx

/- own -/
namespace Go.Mx
open Go.RowKit
section
variable {P : Program} {ops : Array Oper} {K Kn : Act → World → Prop} {a : Act} {w w' : World} {i : Nat} {w0 : World} {X : List Nat} {L R : List Ent}
theorem yld {v:Value}(h:∀ w',(execAt ops i a).run P w' = .ok (.value v) w'):Yld P ops Any i a w v:=fun w' _=>h w'
theorem wpS.p {l:List Nat}(i:Nat) (t:Tmp) (v:Value) (h:(dstAt ops i,fun w'=>(execAt ops i a).run P w')=(some t,fun w'=>.ok (.value v) w')) (H:wpS P ops K l (a.put (some t) v) w):wpS P ops K (i::l) a w:=
 wpS.take i false (some t) v (Prod.mk.inj h).1 (yld fun w'=>congrFun (Prod.mk.inj h).2 w') H
theorem wpG.p {ng:List Nat}{S:Nat→Prop}{fuel:Nat}{listed:Array Bool}(i:Nat) (t:Tmp) (v:Value) (hc:takeB ops ng listed i false (waitL ops i)=true) (h:(dstAt ops i,fun w'=>(execAt ops i a).run P w')=(some t,fun w'=>.ok (.value v) w'))
  (H:wpG P ops K ng S fuel (listed.setIfInBounds i true) (a.put (some t) v) w):wpG P ops K ng S (fuel+1) listed a w:=
 wpG.takeD i false (some t) v (Prod.mk.inj h).1 hc (yld fun w'=>congrFun (Prod.mk.inj h).2 w') H
theorem wpS.q {l:List Nat}(i:Nat) (t:Tmp) (v:Value) (H:wpS P ops K l (a.put (some t) v) w) (h:(dstAt ops i,fun w'=>(execAt ops i a).run P w')=(some t,fun w'=>.ok (.value v) w'):=by kernel_rfl):wpS P ops K (i::l) a w:=wpS.p i t v h H
theorem wpG.q {ng:List Nat}{S:Nat→Prop}{fuel:Nat}{listed:Array Bool}(i:Nat) (t:Tmp) (v:Value) (H:wpG P ops K ng S fuel (listed.setIfInBounds i true) (a.put (some t) v) w) (hc:takeB ops ng listed i false (waitL ops i)=true:=by kernel_rfl)
  (h:(dstAt ops i,fun w'=>(execAt ops i a).run P w')=(some t,fun w'=>.ok (.value v) w'):=by kernel_rfl):wpG P ops K ng S (fuel+1) listed a w:=wpG.p i t v hc h H
def puts:Act→List (Nat × Tmp × Value)→Act
 | a,[]=>a
 | a,x::l=>puts (a.put (some x.2.1) x.2.2) l
def pureRun (P:Program) (ops:Array Oper):Act→List (Nat × Tmp × Value)→List (Option Tmp × (World→Result Next))
 | _,[]=>[]
 | a,x::l=>(dstAt ops x.1,fun w'=>(execAt ops x.1 a).run P w')::pureRun P ops (a.put (some x.2.1) x.2.2) l
def pureTold:List (Nat × Tmp × Value)→List (Option Tmp × (World→Result Next))
 | []=>[]
 | x::l=>(some x.2.1,fun w'=>.ok (.value x.2.2) w')::pureTold l
theorem wpS.ps (l:List (Nat × Tmp × Value)) {a:Act}{r:List Nat}(h:pureRun P ops a l=pureTold l) (H:wpS P ops K r (puts a l) w):wpS P ops K (l.map (·.1)++r) a w:=by
 induction l generalizing a with
 | nil=>exact H
 | cons x l ih=>exact wpS.p x.1 x.2.1 x.2.2 (List.cons.inj h).1 (ih (List.cons.inj h).2 H)
theorem wpS.qs (l:List (Nat × Tmp × Value)) {a:Act}{r:List Nat}(H:wpS P ops K r (puts a l) w) (h:pureRun P ops a l=pureTold l:=by kernel_rfl):wpS P ops K (l.map (·.1)++r) a w:=wpS.ps l h H
theorem rb {α β:Type}{s:Sem α}{f:α→Sem β}{x:α}(h:s.run P w = .ok x w'):(s >>= f).run P w=(f x).run P w':=by
 rw [Sem.run_bind,h]; rfl
theorem run_ti {t:TypeId}{x:TypeInfo}(h:P.toTables.info? t=some x):(typeInfo t).run P w = .ok x w:=by
 simp [typeInfo,h]
theorem run_nextV {s:Sem Value}{v:Value}(h:s.run P w = .ok v w'):(nextV s).run P w = .ok (.value v) w':=by
 unfold nextV
 rw [rb h]
 rfl
theorem run_nextU {s:Sem Unit}(h:s.run P w = .ok () w'):(nextU s).run P w = .ok .skip w':=by
 unfold nextU
 rw [rb h]
 rfl
def szOf (P:Program) (t:TypeId):Option Nat:=(P.toTables.info? t).map (·.size)
def aggB (P:Program) (t:TypeId):Option Bool:=(P.underlying t).map fun | .struct _=>true | .array _ _=>true | _=>false
theorem run_sizeOf {t:TypeId}{n:Nat}(h:szOf P t=some n):(sizeOf t).run P w = .ok n w:=by
 unfold szOf at h
 cases hi:P.toTables.info? t with
 | none=>rw [hi] at h; cases h
 | some x=>rw [hi] at h; cases h; unfold sizeOf; rw [rb (run_ti hi)]; rfl
theorem run_isAgg {t:TypeId}{c:Bool}(h:aggB P t=some c):(isAgg t).run P w = .ok c w:=by
 unfold aggB at h
 cases hi:P.underlying t with
 | none=>rw [hi] at h; cases h
 | some x=>rw [hi] at h; cases h; unfold isAgg; rw [rb (run_underlying hi w)]; cases x<;>rfl
theorem add_plain (b o n:Nat):(⟨b,o,none⟩ : Addr).add n=⟨b,o+n,none⟩:=by
 unfold Addr.add
 split
 ·rename_i h; subst h; rfl
 ·rfl
theorem yld_idx {t e:TypeId}{n sz b o:Nat}{k:IntKind}{x:Int}(he:execAt ops i a=nextV (Instr.indexAt t (.pointer (some ⟨b,o,none⟩)) (.int k x)))
  (hu:P.underlying t=some (.array n e)) (hs:szOf P e=some sz) (h0:0≤x) (h1:x<n):Yld P ops Any i a w (.pointer (some ⟨b,o+x.toNat*sz,none⟩)):=by
 intro w' _
 rw [he]
 refine run_nextV ?_
 unfold Instr.indexAt
 simp [asIntOf,run_underlying hu,Instr.sureAddr,run_sizeOf hs,h0,h1,add_plain]
theorem cell_of_blk {b o:Nat}{c:List Value}{t:TypeId}{v:Value}(h:w.heap[b]? = some (.cells c.toArray t (0,0))) (hv:c[o]? = some v):w.cell? ⟨b,o,none⟩=some v:=by
 unfold World.cell?
 simp [h,hv]
theorem run_load_blk {b o:Nat}{c:List Value}{t:TypeId}{v:Value}(h:w.heap[b]? = some (.cells c.toArray t (0,0))) (hv:c[o]? = some v):(load ⟨b,o,none⟩).run P w = .ok v w:=by
 unfold load
 simp only [Sem.run,cell_of_blk h hv]
theorem run_loadCellsFrom {b o:Nat}{c:List Value}{t:TypeId}(h:w.heap[b]? = some (.cells c.toArray t (0,0))):∀ (n j:Nat) (acc:Array Value),o+j+n≤c.length →
  (loadCellsFrom ⟨b,o,none⟩ j n acc).run P w = .ok (acc++((c.drop (o+j)).take n).toArray) w:=by
 intro n
 induction n with
 | zero=>intro j acc _; simp [loadCellsFrom]
 | succ n ih=>
  intro j acc hl
  unfold loadCellsFrom
  have hlt:o+j<c.length:=by omega
  rw [add_plain,rb (run_load_blk h (List.getElem?_eq_getElem hlt))]
  show (loadCellsFrom ⟨b,o,none⟩ (j+1) n (acc.push c[o+j])).run P w=_
  rw [ih (j+1) _ (by omega),List.drop_eq_getElem_cons hlt,List.take_succ_cons,← Nat.add_assoc]
  simp
theorem run_loadVar1 {b o:Nat}{c:List Value}{t e:TypeId}{v:Value}(h:w.heap[b]? = some (.cells c.toArray t (0,0))) (hg:aggB P e=some false) (hv:c[o]? = some v) :
  (loadVar e ⟨b,o,none⟩).run P w = .ok v w:=by
 unfold loadVar
 rw [rb (run_isAgg hg)]
 exact run_load_blk h hv
theorem run_loadVarN {b o n:Nat}{c mid:List Value}{t e:TypeId}(h:w.heap[b]? = some (.cells c.toArray t (0,0))) (hg:aggB P e=some true) (hn:szOf P e=some n)
  (hm:(c.drop o).take n=mid) (hl:mid.length=n):(loadVar e ⟨b,o,none⟩).run P w = .ok (.agg mid.toArray) w:=by
 have hle:o+n≤c.length∨n=0:=by
  rw [← hm,List.length_take,List.length_drop] at hl
  omega
 unfold loadVar
 rw [rb (run_isAgg hg)]
 show ((do pure (.agg (← loadCells ⟨b,o,none⟩ (← sizeOf e))):Sem Value)).run P w=_
 rw [rb (run_sizeOf hn)]
 refine (rb (x:=mid.toArray) (w':=w) ?_).trans rfl
 unfold loadCells
 rcases hle with hle | hle
 ·rw [run_loadCellsFrom h n 0 #[] (by omega),Nat.add_zero,hm]
  simp
 ·subst hle
  obtain rfl:mid=[]:=List.eq_nil_of_length_eq_zero hl
  simp [loadCellsFrom]
def Bears (ρ:World→World→Prop) (w:World) (b:Nat):Prop:=∀ w' o,ρ w w'→w.heap[b]? = some o→w'.heap[b]? = some o
theorem Bears.grow {b:Nat} : Bears Grow w b:=fun _ _ g h=>g.keep (fun _=>False) _ _ (fun h=>h) h
theorem Bears.keep {S:Nat→Prop}{b:Nat}(h:¬ S b):Bears (Keep S) w b:=fun _ _ g h'=>g _ _ h h'
theorem yld_load1 {ρ:World→World→Prop}(hs:St w0 X L R w) (j:Nat) {b o:Nat}{c:List Value}{t e:TypeId}{v:Value}(hj:L[j]? = some (.blk b c t)) (he:execAt ops i a=nextV (Instr.loadAt e (.pointer (some ⟨b,o,none⟩))))
  (hg:aggB P e=some false) (hv:c[o]? = some v) (hB:Bears ρ w b):Yld P ops ρ i a w v:=by
 intro w' g
 rw [he]
 refine run_nextV ?_
 exact run_loadVar1 (hB _ _ g (hs.blkAt j hj)) hg hv
theorem yld_loadN {ρ:World→World→Prop}(hs:St w0 X L R w) (j:Nat) {b o n:Nat}{c mid:List Value}{t e:TypeId}(hj:L[j]? = some (.blk b c t)) (he:execAt ops i a=nextV (Instr.loadAt e (.pointer (some ⟨b,o,none⟩))))
  (hg:aggB P e=some true) (hn:szOf P e=some n) (hm:(c.drop o).take n=mid) (hl:mid.length=n) (hB:Bears ρ w b):Yld P ops ρ i a w (.agg mid.toArray):=by
 intro w' g
 rw [he]
 refine run_nextV ?_
 exact run_loadVarN (hB _ _ g (hs.blkAt j hj)) hg hn hm hl
theorem op_box {d:Option Tmp}(hd:dstAt ops i=d) {t:TypeId}{v:Value}(hs:St w0 X L R w) (c:List Value) (he:execAt ops i a=nextV (Instr.box t v)) (hc:v.cells=c.toArray)
  (k:∀ b w',Grow w w'→St w0 X (.blk b c t::L) R w'→K (a.put d (.pointer (some ⟨b,0,none⟩))) w'):wpOp P ops (NoP Kn) i K a w:=by
 refine wpOp_val hd (w':={ w with heap:=w.heap.push (.cells c.toArray t) }) (v:=.pointer (some ⟨w.heap.size,0,none⟩)) ?_ (k _ _ (grow_new w _) (hs.new c t))
 rw [he]
 refine run_nextV ?_
 unfold Instr.box newVar newRow
 rw [hc]
 rfl
def zeroOf (P:Program) (t:TypeId):Option Value:=(P.toTables.info? t).bind (·.zero)
theorem run_zeroValue {t:TypeId}{z:Value}(h:zeroOf P t=some z):(zeroValue t).run P w = .ok z w:=by
 unfold zeroOf at h
 cases hi:P.toTables.info? t with
 | none=>rw [hi] at h; cases h
 | some x=>
  rw [hi] at h
  unfold zeroValue
  rw [rb (run_ti hi)]
  simp only [Option.bind_some] at h
  simp [h]
theorem op_alloc {d:Option Tmp}(hd:dstAt ops i=d) {t:TypeId}(hs:St w0 X L R w) (c:List Value) (z:Value) (he:execAt ops i a=nextV (Instr.alloc t true (.tuple #[]))) (hz:zeroOf P t=some z) (hc:z.cells=c.toArray)
  (k:∀ b w',Grow w w'→St w0 X (.blk b c t::L) R w'→K (a.put d (.pointer (some ⟨b,0,none⟩))) w'):wpOp P ops (NoP Kn) i K a w:=by
 refine wpOp_val hd (w':={ w with heap:=w.heap.push (.cells c.toArray t) }) (v:=.pointer (some ⟨w.heap.size,0,none⟩)) ?_ (k _ _ (grow_new w _) (hs.new c t))
 rw [he]
 refine run_nextV ?_
 unfold Instr.alloc
 rw [rb (run_zeroValue hz)]
 show ((do pure (.pointer (some (← newVar t z))):Sem Value)).run P w=_
 unfold newVar newRow
 rw [hc]
 rfl
def splice (c:List Value) (o:Nat) (vs:List Value):List Value:=c.take o++vs++c.drop (o+vs.length)
theorem splice_one (c:List Value) (o:Nat) (v:Value) (h:o<c.length):splice c o [v]=c.set o v:=by
 unfold splice
 rw [List.set_eq_take_append_cons_drop,if_pos h]
 simp
theorem heap_setCell {b o:Nat}{c:List Value}{t:TypeId}{v:Value}(h:w.heap[b]? = some (.cells c.toArray t (0,0))) :
  (w.setCell ⟨b,o,none⟩ v).heap[b]? = some (.cells (c.set o v).toArray t (0,0)):=by
 unfold World.setCell
 simp [Array.getElem?_modify,h]
theorem run_store_blk {b o:Nat}{c:List Value}{t:TypeId}{v:Value}(h:w.heap[b]? = some (.cells c.toArray t (0,0))) (ho:o<c.length) (hv:v.oneCell'=true) :
  (store ⟨b,o,none⟩ v).run P w = .ok () (w.setCell ⟨b,o,none⟩ v):=by
 have hc:=cell_of_blk h (List.getElem?_eq_getElem ho)
 have hf:w.frozen? ⟨b,o,none⟩=false:=by unfold World.frozen?; simp [h]
 unfold store
 cases v<;>first | (simp [Sem.run,hc,hf]; done) | (simp [Value.oneCell'] at hv)
theorem run_storeCells {b o:Nat}{t:TypeId} : ∀ (vs:List Value) (j:Nat) (c:List Value) (w:World),w.heap[b]? = some (.cells c.toArray t (0,0))→o+j+vs.length≤c.length→(∀ v∈vs,v.oneCell'=true) →
  ∃ w',(storeCells ⟨b,o,none⟩ vs j).run P w = .ok () w'∧w'.heap[b]? = some (.cells (splice c (o+j) vs).toArray t (0,0))∧w'.os=w.os∧w'.tape=w.tape∧w'.output=w.output∧w'.heap.size=w.heap.size∧∀ k,k≠b→w'.heap[k]? = w.heap[k]?:=by
 intro vs
 induction vs with
 | nil=>intro j c w h _ _; exact ⟨w,rfl,by simpa [splice] using h,rfl,rfl,rfl,rfl,fun _ _=>rfl⟩
 | cons v vs ih=>
  intro j c w h hl hone
  rw [List.length_cons] at hl
  have ho:o+j<c.length:=by omega
  obtain ⟨w',hr,hb,h1,h2,h3,h4,h5⟩:=ih (j+1) (c.set (o+j) v) (w.setCell ⟨b,o+j,none⟩ v) (heap_setCell h) (by rw [List.length_set]; omega) (fun u hu=>hone u (List.mem_cons_of_mem _ hu))
  refine ⟨w',?_,?_,h1,h2,h3,?_,fun k hk=>(h5 k hk).trans (Below.heap_setCell _ _ _ _ hk)⟩
  ·unfold storeCells
   rw [add_plain,rb (run_store_blk h ho (hone v (List.mem_cons_self ..)))]
   exact hr
  ·rw [hb]
   congr 2
   unfold splice
   rw [← Nat.add_assoc,List.take_add_one,List.take_set,List.getElem?_set_self ho,List.drop_set_of_lt (by omega)]
   rw [show o+j+1+vs.length=o+j+(v::vs).length from by simp; omega,List.set_eq_of_length_le (by simp; omega)]
   simp
  ·rw [h4]; simp [World.setCell]
theorem op_storeN {d:Option Tmp}(hd:dstAt ops i=d) {t:TypeId}{v:Value}{b o:Nat}{c vs:List Value}{T:TypeId}(hs:St w0 X L R w) (j:Nat) (hj:L[j]? = some (.blk b c T)) (he:execAt ops i a=nextU (Instr.storeAt t (.pointer (some ⟨b,o,none⟩)) v))
  (hc:v.cells=vs.toArray) (hn:szOf P t=some vs.length) (hl:o+vs.length≤c.length) (hone:∀ u∈vs,u.oneCell'=true)
  (k:∀ w',Keep (fun k=>k=b) w w'→St w0 X (L.set j (.blk b (splice c o vs) T)) R w'→K (a.put d undef) w'):wpOp P ops (NoP Kn) i K a w:=by
 obtain ⟨w',hr,hb,h1,h2,h3,h4,h5⟩:=run_storeCells (P:=P) (o:=o) vs 0 c w (hs.blkAt j hj) (by omega) hone
 refine wpOp_skip hd (w':=w') ?_ (k w' (fun x o hx ho=>(h5 x hx).trans ho) (hs.blkSet j hj h1 h2 h3 h4 hb h5))
 rw [he]
 refine run_nextU ?_
 unfold Instr.storeAt storeVar
 simp [Instr.sureAddr,run_sizeOf hn,hc,hr]
theorem op_store1 {d:Option Tmp}(hd:dstAt ops i=d) {t:TypeId}{v:Value}{b o:Nat}{c:List Value}{T:TypeId}(hs:St w0 X L R w) (j:Nat) (hj:L[j]? = some (.blk b c T)) (he:execAt ops i a=nextU (Instr.storeAt t (.pointer (some ⟨b,o,none⟩)) v))
  (hv:v.oneCell'=true) (hn:szOf P t=some 1) (hl:o<c.length)
  (k:∀ w',Keep (fun k=>k=b) w w'→St w0 X (L.set j (.blk b (c.set o v) T)) R w'→K (a.put d undef) w'):wpOp P ops (NoP Kn) i K a w:=by
 have hc:v.cells=[v].toArray:=by cases v<;>first | rfl | simp [Value.oneCell'] at hv
 refine op_storeN hd hs j hj he hc hn (by simp; omega) (fun u hu=>by obtain rfl:=List.mem_singleton.1 hu; exact hv) fun w' hk h=>k w' hk ?_
 rw [splice_one _ _ _ hl] at h
 exact h
end
end Go.Mx

/- own -/
namespace Go.Mx
open Go.RowKit
def iadd (k:IntKind) (x y:Int):Int:=k.wrap (x+y)
def isub (k:IntKind) (x y:Int):Int:=k.wrap (x-y)
def imul (k:IntKind) (x y:Int):Int:=k.wrap (x*y)
def iquo (k:IntKind) (x y:Int):Int:=k.wrap (x.tdiv y)
def irem (_:IntKind) (x y:Int):Int:=x.tmod y
def iand (k:IntKind) (x y:Int):Int:=k.wrap ((BitVec.ofInt k.bits x &&& BitVec.ofInt k.bits y).toNat:Int)
def ior (k:IntKind) (x y:Int):Int:=k.wrap ((BitVec.ofInt k.bits x ||| BitVec.ofInt k.bits y).toNat:Int)
def ixor (k:IntKind) (x y:Int):Int:=k.wrap ((BitVec.ofInt k.bits x ^^^ BitVec.ofInt k.bits y).toNat:Int)
def iandn (k:IntKind) (x y:Int):Int:=k.wrap ((BitVec.ofInt k.bits x &&& ~~~ BitVec.ofInt k.bits y).toNat:Int)
def ishl (k:IntKind) (x n:Int):Int:=k.wrap (x*2^(min n.toNat k.bits))
def ishr (k:IntKind) (x n:Int):Int:=x.fdiv (2^(min n.toNat k.bits))
def iconv (k:IntKind) (x:Int):Int:=k.wrap x
def imin (x y:Int):Int:=if y<x then y else x
abbrev Arr (n:Nat):=Vector Int n
def rd {n:Nat}(a:Arr n) (i:Int):Int:=a.toList.getD i.toNat 0
def wr {n:Nat}(a:Arr n) (i:Int) (x:Int):Arr n:=a.setIfInBounds i.toNat x
def enc {n:Nat}(k:IntKind) (a:Arr n):List Value:=a.toList.map (Value.int k)
def zeroA (n:Nat):Arr n:=Vector.replicate n 0
def strAt (l:List UInt8) (i:Int):Int:=(l.getD i.toNat 0).toNat
theorem enc_len {n:Nat}(k:IntKind) (a:Arr n):(enc k a).length=n:=by simp [enc]
theorem enc_one {n:Nat}(k:IntKind) (a:Arr n):∀ v∈enc k a,v.oneCell'=true:=by
 intro v hv
 obtain ⟨x,_,rfl⟩:=List.mem_map.1 hv
 rfl
theorem enc_get {n:Nat}(k:IntKind) (a:Arr n) (x:Int) (_h0:0≤x) (h1:x<n):(enc k a)[x.toNat]? = some (.int k (rd a x)):=by
 have hl:x.toNat<a.toList.length:=by rw [Vector.length_toList]; omega
 simp only [enc,rd,List.getElem?_map,List.getD_eq_getElem?_getD,List.getElem?_eq_getElem hl,Option.map_some,Option.getD_some]
theorem enc_set {n:Nat}(k:IntKind) (a:Arr n) (x:Int) (v:Int):(enc k a).set x.toNat (.int k v)=enc k (wr a x v):=by
 simp only [enc,wr,Vector.toList,Vector.toArray_setIfInBounds,Array.toList_setIfInBounds,List.map_set]
theorem enc_get' {n m:Nat}{pre post:List Value}(k:IntKind) (a:Arr n) (x:Int) (h0:0≤x) (h1:x<n) (hm:pre.length=m):(pre++enc k a++post)[m+x.toNat]? = some (.int k (rd a x)):=by
 subst hm
 have hl:x.toNat<n:=by omega
 rw [List.append_assoc,List.getElem?_append_right (by omega),Nat.add_sub_cancel_left,List.getElem?_append_left (by rw [enc_len]; exact hl)]
 exact enc_get k a x h0 h1
theorem enc_set' {n m:Nat}{pre post:List Value}(k:IntKind) (a:Arr n) (x:Int) (v:Int) (h0:0≤x) (h1:x<n) (hm:pre.length=m):(pre++enc k a++post).set (m+x.toNat) (.int k v)=pre++enc k (wr a x v)++post:=by
 subst hm
 have hl:x.toNat<n:=by omega
 rw [List.append_assoc,List.set_append_right _ _ (by omega),Nat.add_sub_cancel_left,List.set_append_left _ _ (by rw [enc_len]; exact hl),enc_set,List.append_assoc]
theorem dt {p:Prop}[Decidable p] (h:p):decide p=true:=decide_eq_true h
theorem df {p:Prop}[Decidable p] (h:¬ p):decide p=false:=decide_eq_false h
theorem et {x y:Int}(h:x=y):(x == y)=true:=beq_iff_eq.2 h
theorem ef {x y:Int}(h:¬ x=y):(x == y)=false:=beq_eq_false_iff_ne.2 h
theorem nt {x y:Int}(h:¬ x=y):(x != y)=true:=bne_iff_ne.2 h
theorem nf {x y:Int}(h:x=y):(x != y)=false:=by subst h; exact bne_self_eq_false x
theorem of_chk {α:Type}{p:Prop}[Decidable p] {A:Option α}{r:α}(h:(if p then A else none)=some r):p∧A=some r:=by
 split at h
 ·exact ⟨‹_›,h⟩
 ·cases h
theorem of_if {α:Type}{p:Prop}[Decidable p] {A B:Option α}{r:α}(h:(if p then A else B)=some r):(p∧A=some r)∨(¬ p∧B=some r):=by
 split at h
 ·exact .inl ⟨‹_›,h⟩
 ·exact .inr ⟨‹_›,h⟩
theorem of_bind {α β:Type}{x:Option α}{f:α→Option β}{r:β}(h:x.bind f=some r):∃ y,x=some y∧f y=some r:=by
 cases x with
 | none=>cases h
 | some y=>exact ⟨y,rfl,h⟩
theorem of_some {α:Type}{x y:α}(h:some x=some y):x=y:=Option.some.inj h
section
variable {P : Program} {ops : Array Oper} {K Kn : Act → World → Prop} {a a' : Act} {w w' : World} {i : Nat} {w0 : World} {X : List Nat} {L R : List Ent} {Q : Exit → Act → World → Prop}
theorem yld_b {b c:Bool}(hb:b=c) (h:∀ w',(execAt ops i a).run P w' = .ok (.value (.bool b)) w'):Yld P ops Any i a w (.bool c):=by
 subst hb
 exact yld h
theorem yld_int {k:IntKind}{e x:Int}(hx:some e=some x) (h:∀ w',(execAt ops i a).run P w' = .ok (.value (.int k e)) w'):Yld P ops Any i a w (.int k x):=by
 cases hx
 exact yld h
variable {r : Option Nat}
theorem wp_conv {c:Code}(ha:a=a') (h:c.wpIn (FR r) 0 P Q a' w):c.wpIn (FR r) 0 P Q a w:=ha ▸ h
theorem wp_cond_t {c:Operand}{x y:Code}(hc:a.eval c = .bool true) (h:x.wpIn (FR r) 0 P Q a w):(Code.cond c x y).wpIn (FR r) 0 P Q a w:=wpIn_cond_true hc h
theorem wp_cond_f {c:Operand}{x y:Code}(hc:a.eval c = .bool false) (h:y.wpIn (FR r) 0 P Q a w):(Code.cond c x y).wpIn (FR r) 0 P Q a w:=wpIn_cond_false hc h
theorem xskip (h:Q .normal a w):Code.skip.wpIn (FR r) 0 P Q a w:=wpIn_skip h
theorem xexit {id:Nat}(h:Q (.exit id) a w):(Code.exit id).wpIn (FR r) 0 P Q a w:=wpIn_exit h
theorem xret (h:Q .ret a w):Code.ret.wpIn (FR r) 0 P Q a w:=wpIn_ret h
theorem xblock {id:Nat}{c:Code}(h:c.wpIn (FR r) 0 P (Exit.inBlock id Q) a w):(Code.block id c).wpIn (FR r) 0 P Q a w:=wpIn_block h
theorem xseq_k {x y:Code}(h:∀ K:Act→World→Prop,(∀ a w,y.wpIn (FR r) 0 P Q a w→K a w)→x.wpIn (FR r) 0 P (Exit.then K Q) a w):(Code.seq x y).wpIn (FR r) 0 P Q a w:=wpIn_seq_k h
theorem wpIn_loop_ghost {c:Code}(I:Nat→Act→World→Prop) (n₀:Nat) (h₀:I n₀ a w)
  (round:∀ n a w,I n a w→c.wpIn (FR r) 0 P (Exit.then (fun a' w'=>∃ n',n'<n∧I n' a' w') Q) a w):(Code.loop c).wpIn (FR r) 0 P Q a w:=by
 refine wpIn_loop (fun a w=>∃ n,I n a w) (fun a w=>leastOf (fun n=>I n a w)) ⟨n₀,h₀⟩ ?_
 intro a w hI
 refine wpIn_mono (round _ a w (leastOf_spec hI).1) ?_
 intro e a' w' hq
 cases e with
 | normal=>
  obtain ⟨n',hlt,hI'⟩:=hq
  exact show (∃ n,I n a' w')∧leastOf (fun n=>I n a' w')<leastOf (fun n=>I n a w) from ⟨⟨n',hI'⟩,Nat.lt_of_le_of_lt ((leastOf_spec ⟨n',hI'⟩).2 n' hI') hlt⟩
 | exit id=>exact hq
 | goto l=>exact hq
 | ret=>exact hq
 | panic c=>exact hq
 | outgrown=>exact hq
theorem wp_loop_k {c:Code}(I:Nat→Act→World→Prop) (n:Nat) (h0:I n a w)
  (round:∀ n a w,I n a w→∀ K:Act→World→Prop,(∀ a' w',(∃ n',n'<n∧I n' a' w')→K a' w')→c.wpIn (FR r) 0 P (Exit.then K Q) a w):(Code.loop c).wpIn (FR r) 0 P Q a w:=wpIn_loop_ghost I n h0 fun n a w h=>round n a w h _ fun _ _ h=>h
def resS (tmps:Array Value):ResultVar→Sem Value
 | .tmp t=>pure (tmps.getD t undef)
 | .cell a t=>do loadVar t (← asAddr (tmps.getD a undef))
def ResOK (P:Program) (tmps:Array Value) (w:World) (rv:ResultVar) (v:Value):Prop:=(resS tmps rv).run P w = .ok v w
inductive All2 {α β:Type}(r:α→β→Prop):List α→List β→Prop
 | nil:All2 r [] []
 | cons {x:α}{y:β}{l:List α}{m:List β}(h:r x y) (t:All2 r l m):All2 r (x::l) (y::m)
theorem run_mapM_res {tmps:Array Value} : ∀ (rs:List ResultVar) (vs:List Value),All2 (ResOK P tmps w) rs vs→(rs.mapM (resS tmps)).run P w = .ok vs w
 | [],_,h=>by cases h; rfl
 | rv::rs,_,h=>by
  cases h with
  | cons h1 h2=>
   rw [List.mapM_cons,rb h1,rb (run_mapM_res rs _ h2)]
   rfl
theorem results_eq (fn:Func) (tmps:Array Value):results fn tmps=(do let vs ← fn.results.mapM (resS tmps); pure (if h:vs.size=1 then vs[0] else .tuple vs)):=by
 unfold results
 congr
theorem run_results {fn:Func}{tmps:Array Value}(rs:List ResultVar) (vs:List Value) (hr:fn.results=rs.toArray) (h:All2 (ResOK P tmps w) rs vs) :
  (results fn tmps).run P w = .ok (if h:vs.toArray.size=1 then vs.toArray[0] else .tuple vs.toArray) w:=by
 have:=run_mapM_res rs vs h
 rw [results_eq,hr,List.mapM_toArray,Sem.run_bind,Sem.run_map,this]
 rfl
theorem res_tmp {tmps:Array Value}{t:Tmp}{v:Value}(h:tmps.getD t undef=v):ResOK P tmps w (.tmp t) v:=by subst h; rfl
theorem res_cell1 {tmps:Array Value}{s b:Nat}{t T:TypeId}{c:List Value}{v:Value}(hs:St w0 X L R w) (j:Nat) (hj:L[j]? = some (.blk b c T)) (h:tmps.getD s undef = .pointer (some ⟨b,0,none⟩))
  (hg:aggB P t=some false) (hv:c[0]? = some v):ResOK P tmps w (.cell s t) v:=by
 show ((do loadVar t (← asAddr (tmps.getD s undef)):Sem Value)).run P w=_
 rw [h]
 exact run_loadVar1 (hs.blkAt j hj) hg hv
theorem res_cellN {tmps:Array Value}{s b n:Nat}{t T:TypeId}{c:List Value}(hs:St w0 X L R w) (j:Nat) (hj:L[j]? = some (.blk b c T)) (h:tmps.getD s undef = .pointer (some ⟨b,0,none⟩))
  (hg:aggB P t=some true) (hn:szOf P t=some n) (hl:c.length=n):ResOK P tmps w (.cell s t) (.agg c.toArray):=by
 show ((do loadVar t (← asAddr (tmps.getD s undef)):Sem Value)).run P w=_
 rw [h]
 exact run_loadVarN (hs.blkAt j hj) hg hn (by rw [List.drop_zero,List.take_of_length_le (by omega)]) hl
def Ret (P:Program) (f:FuncId) (args:Array Value) (w:World) (v:Value):Prop:=Calls P f args w fun e w'=>e = .returned v∧St w [] [] [] w'
theorem post_ret {fn:Func}{R':Ending→World→Prop}{v:Value}(hd:a.defers=[]) (h:(results fn a.tmps).run P w = .ok v w) (hR:R' (.returned v) w):bodyPost P fn R' .ret a w:=⟨hd,v,h,hR⟩
theorem op_call {d:Option Tmp}(hd:dstAt ops i=d) {f:FuncId}{args:Array Value}{v:Value}(hs:St w0 X L R w) (he:∀ w,(execAt ops i a).run P w = .ok (.enter f args) w) (c:Ret P f args w v)
  (k:∀ w',Grow w w'→St w0 X L R w'→K (a.put d v) w'):wpOp P ops (NoP Kn) i K a w:=
 wpOp_call hd he c fun _ w' ⟨h1,h2⟩=>⟨v,h1,k w' h2.grow (hs.grown h2)⟩
theorem St.reads {w0 w:World}{X:List Nat}{L R:List Ent}(h:St w0 X L R w) (j:Nat) {b:Nat}{c:List Value}{t:TypeId}(hj:L[j]? = some (.blk b c t)):w.heap[b]? = some (.cells c.toArray t (0,0)):=h.blkAt j hj
theorem of_if_t {α:Type}{A B:Option α}{r:α}(h:(if true=true then A else B)=some r):A=some r:=h
theorem of_if_f {α:Type}{A B:Option α}{r:α}(h:(if false=true then A else B)=some r):B=some r:=h
theorem of_ifb {α:Type}{b:Bool}{A B:Option α}{r:α}(h:(if b=true then A else B)=some r):(b=true∧A=some r)∨(b=false∧B=some r):=by
 cases b
 ·exact .inr ⟨rfl,h⟩
 ·exact .inl ⟨rfl,h⟩
theorem yld_bb {b c:Bool}(hb:b=c) (h:Yld P ops Any i a w (.bool b)):Yld P ops Any i a w (.bool c):=by
 subst hb
 exact h
theorem then_n {N:Act→World→Prop}(h:N a w):Exit.then N Q .normal a w:=h
theorem then_x {N:Act→World→Prop}{id:Nat}(h:Q (.exit id) a w):Exit.then N Q (.exit id) a w:=h
theorem then_r {N:Act→World→Prop}(h:Q .ret a w):Exit.then N Q .ret a w:=h
theorem inBlock_n {id:Nat}(h:Q .normal a w):Exit.inBlock id Q .normal a w:=h
theorem inBlock_r {id:Nat}(h:Q .ret a w):Exit.inBlock id Q .ret a w:=h
theorem inBlock_hit {id:Nat}(h:Q .normal a w):Exit.inBlock id Q (.exit id) a w:=by
 show (if id=id then Q .normal a w else Q (.exit id) a w)
 rw [if_pos rfl]
 exact h
def ExQ (N:Act→World→Prop) (Q:Exit→Act→World→Prop):Exit→Act→World→Prop
 | .normal,a,w=>N a w
 | .ret,a,w=>Q .ret a w
 | _,_,_=>False
theorem wp_exq {c:Code}{N:Act→World→Prop}(h:∀ N':Act→World→Prop,(∀ a w,N a w→N' a w)→c.wpIn (FR r) 0 P (ExQ N' Q) a w) (k:∀ a w,N a w→Q .normal a w):c.wpIn (FR r) 0 P Q a w:=
 wpIn_mono (h N fun _ _ h=>h) fun e a w hq=>by
  cases e<;>first | exact k a w hq | exact hq | exact hq.elim
theorem calls_k {f:FuncId}{fn:Func}{c:Code}{args:Array Value}{R':Ending→World→Prop}(hf:P.funcs[f]? = some fn) (hb:fn.body=some c)
  (h:∀ Q:Exit→Act→World→Prop,(∀ a w,bodyPost P fn R' .ret a w→Q .ret a w)→c.wpIn (FR none) 0 P Q { tmps:=args++Array.replicate (fn.ntmps-args.size) undef,defers:=[] } w):Calls P f args w R':=
 callsIn_wide.1 (callsIn_of_wp (n:=0) hf hb trivial (h _ fun _ _ h=>h))
theorem wp_join {c:Code}{N:Act→World→Prop}(h:∀ N':Act→World→Prop,(∀ a w,N a w→N' a w)→c.wpIn (FR r) 0 P (NoP N') a w) (k:∀ a w,N a w→Q .normal a w):c.wpIn (FR r) 0 P Q a w:=
 wpIn_mono (h N fun _ _ h=>h) (NoP.imp k)
theorem exq_n {N:Act→World→Prop}(h:N a w):ExQ N Q .normal a w:=h
theorem exq_r {N:Act→World→Prop}(h:Q .ret a w):ExQ N Q .ret a w:=h
theorem exg {T:(Nat→Value)→Act}(h:a=T (fun i=>a.tmps.getD i undef)):∃ g:Nat→Value,a=T g:=⟨_,h⟩
theorem yld_quo {t:TypeId}{k:IntKind}{x y:Int}(he:execAt ops i a=nextV (do eqGuard .quo t (.const undef) (.const undef) (.int k x) (.int k y); Op.intDiv .quo k x y)) (h0:¬ y=0):Yld P ops Any i a w (.int k (iquo k x y)):=by
 refine yld fun w'=>?_
 rw [he]
 refine run_nextV ?_
 refine (rb (x:=()) (w':=w') rfl).trans ?_
 unfold Op.intDiv
 rw [if_neg h0]
 rfl
theorem yld_rem {t:TypeId}{k:IntKind}{x y:Int}(he:execAt ops i a=nextV (do eqGuard .rem t (.const undef) (.const undef) (.int k x) (.int k y); Op.intDiv .rem k x y)) (h0:¬ y=0):Yld P ops Any i a w (.int k (irem k x y)):=by
 refine yld fun w'=>?_
 rw [he]
 refine run_nextV ?_
 refine (rb (x:=()) (w':=w') rfl).trans ?_
 unfold Op.intDiv
 rw [if_neg h0]
 rfl
theorem yld_shl {t:TypeId}{k k':IntKind}{x y:Int}(he:execAt ops i a=nextV (do eqGuard .shl t (.const undef) (.const undef) (.int k x) (.int k' y); Op.shift .shl k x k' y)) (h0:0≤y):Yld P ops Any i a w (.int k (ishl k x y)):=by
 refine yld fun w'=>?_
 rw [he]
 refine run_nextV ?_
 refine (rb (x:=()) (w':=w') rfl).trans ?_
 unfold Op.shift
 rw [if_neg (by omega)]
 rfl
theorem yld_shr {t:TypeId}{k k':IntKind}{x y:Int}(he:execAt ops i a=nextV (do eqGuard .shr t (.const undef) (.const undef) (.int k x) (.int k' y); Op.shift .shr k x k' y)) (h0:0≤y):Yld P ops Any i a w (.int k (ishr k x y)):=by
 refine yld fun w'=>?_
 rw [he]
 refine run_nextV ?_
 refine (rb (x:=()) (w':=w') rfl).trans ?_
 unfold Op.shift
 rw [if_neg (by omega)]
 rfl
theorem yld_at {t e:TypeId}{n:Nat}{k k':IntKind}{b:Arr n}{x:Int}(he:execAt ops i a=nextV (Instr.index t (.agg (enc k b).toArray) (.int k' x))) (hu:P.underlying t=some (.array n e)) (hs:szOf P e=some 1) (hg:aggB P e=some false)
  (h0:0≤x) (h1:x<n):Yld P ops Any i a w (.int k (rd b x)):=by
 refine yld fun w'=>?_
 rw [he]
 refine run_nextV ?_
 unfold Instr.index
 simp [asIntOf,run_underlying hu,h0,h1,run_sizeOf hs,part,run_isAgg hg,enc_get k b x h0 h1]
theorem yld_str {t:TypeId}{l:List UInt8}{k':IntKind}{x:Int}(he:execAt ops i a=nextV (Instr.index t (.string ⟨l.toArray⟩) (.int k' x))) (hu:P.underlying t=some .string)
  (h0:0≤x) (h1:x<l.length):Yld P ops Any i a w (.int .u8 (strAt l x)):=by
 refine yld fun w'=>?_
 rw [he]
 refine run_nextV ?_
 unfold Instr.index
 have hl:x.toNat<l.length:=by omega
 have hg:(ByteArray.mk l.toArray)[x.toNat]? = some l[x.toNat]:=by
  rw [getElem?_pos _ _ (by show x.toNat<l.toArray.size; simpa using hl)]
  rfl
 simp [asIntOf,run_underlying hu,h0,hg,strAt,List.getD_eq_getElem?_getD,List.getElem?_eq_getElem hl]
theorem yld_loadA {ρ:World→World→Prop}{n:Nat}(hs:St w0 X L R w) (j:Nat) {b:Nat}{t e:TypeId}{k:IntKind}{c:Arr n}{x:Int}(hj:L[j]? = some (.blk b (enc k c) t)) (he:execAt ops i a=nextV (Instr.loadAt e (.pointer (some ⟨b,0+x.toNat*1,none⟩))))
  (hg:aggB P e=some false) (h0:0≤x) (h1:x<n) (hB:Bears ρ w b):Yld P ops ρ i a w (.int k (rd c x)):=
 yld_load1 hs j hj he hg (by rw [Nat.zero_add,Nat.mul_one]; exact enc_get k c x h0 h1) hB
theorem yld_loadP {ρ:World→World→Prop}{n m:Nat}(hs:St w0 X L R w) (j:Nat) {b:Nat}{t e:TypeId}{k:IntKind}{pre post:List Value}{c:Arr n}{x:Int}(hj:L[j]? = some (.blk b (pre++enc k c++post) t)) (he:execAt ops i a=nextV (Instr.loadAt e (.pointer (some ⟨b,m+x.toNat*1,none⟩))))
  (hg:aggB P e=some false) (h0:0≤x) (h1:x<n) (hm:pre.length=m) (hB:Bears ρ w b):Yld P ops ρ i a w (.int k (rd c x)):=
 yld_load1 hs j hj he hg (by rw [Nat.mul_one]; exact enc_get' k c x h0 h1 hm) hB
theorem yld_loadW {ρ:World→World→Prop}(hs:St w0 X L R w) (j:Nat) {b n:Nat}{c:List Value}{t e:TypeId}(hj:L[j]? = some (.blk b c t)) (he:execAt ops i a=nextV (Instr.loadAt e (.pointer (some ⟨b,0,none⟩))))
  (hg:aggB P e=some true) (hn:szOf P e=some n) (hl:c.length=n) (hB:Bears ρ w b):Yld P ops ρ i a w (.agg c.toArray):=
 yld_loadN hs j hj he hg hn (by rw [List.drop_zero,List.take_of_length_le (by omega)]) hl hB
theorem op_storeA {d:Option Tmp}(hd:dstAt ops i=d) {n:Nat}{t:TypeId}{v:Int}{b:Nat}{c:Arr n}{T:TypeId}{k:IntKind}{x:Int}(hs:St w0 X L R w) (j:Nat) (hj:L[j]? = some (.blk b (enc k c) T)) (he:execAt ops i a=nextU (Instr.storeAt t (.pointer (some ⟨b,0+x.toNat*1,none⟩)) (.int k v)))
  (hn:szOf P t=some 1) (h0:0≤x) (h1:x<n) (K':∀ w',Keep (fun k=>k=b) w w'→St w0 X (L.set j (.blk b (enc k (wr c x v)) T)) R w'→K (a.put d undef) w'):wpOp P ops (NoP Kn) i K a w:=by
 refine op_store1 hd hs j hj he rfl hn (by rw [enc_len]; omega) fun w' hk h=>K' w' hk ?_
 rw [Nat.zero_add,Nat.mul_one,enc_set] at h
 exact h
theorem op_storeP {d:Option Tmp}(hd:dstAt ops i=d) {n m:Nat}{t:TypeId}{v:Int}{b:Nat}{pre post:List Value}{c:Arr n}{T:TypeId}{k:IntKind}{x:Int}(hs:St w0 X L R w) (j:Nat) (hj:L[j]? = some (.blk b (pre++enc k c++post) T)) (he:execAt ops i a=nextU (Instr.storeAt t (.pointer (some ⟨b,m+x.toNat*1,none⟩)) (.int k v)))
  (hn:szOf P t=some 1) (h0:0≤x) (h1:x<n) (hm:pre.length=m) (K':∀ w',Keep (fun k=>k=b) w w'→St w0 X (L.set j (.blk b (pre++enc k (wr c x v)++post) T)) R w'→K (a.put d undef) w'):wpOp P ops (NoP Kn) i K a w:=by
 refine op_store1 hd hs j hj he rfl hn (by simp only [List.length_append,enc_len]; omega) fun w' hk h=>K' w' hk ?_
 rw [Nat.mul_one,enc_set' k c x v h0 h1 hm] at h
 exact h
theorem op_storeW {d:Option Tmp}(hd:dstAt ops i=d) {n:Nat}{t:TypeId}{v:Value}{b:Nat}{c vs:List Value}{T:TypeId}(hs:St w0 X L R w) (j:Nat) (hj:L[j]? = some (.blk b c T)) (he:execAt ops i a=nextU (Instr.storeAt t (.pointer (some ⟨b,0,none⟩)) v))
  (hc:v.cells=vs.toArray) (hn:szOf P t=some n) (hv:vs.length=n) (hl:c.length=n) (hone:∀ u∈vs,u.oneCell'=true)
  (k:∀ w',Keep (fun k=>k=b) w w'→St w0 X (L.set j (.blk b vs T)) R w'→K (a.put d undef) w'):wpOp P ops (NoP Kn) i K a w:=by
 subst hv
 refine op_storeN hd hs j hj he hc hn (by omega) hone fun w' hk h=>k w' hk ?_
 unfold splice at h
 rw [List.take_zero,List.nil_append,Nat.zero_add,← hl,List.drop_length,List.append_nil] at h
 exact h
theorem op_callB {d:Option Tmp}(hd:dstAt ops i=d) {f:FuncId}{args:Array Value}{v:Nat→Value}{L':Nat→List Ent}(hs:St w0 X L R w) (he:∀ w,(execAt ops i a).run P w = .ok (.enter f args) w)
  (c:Calls P f args w fun e w'=>∃ b,e = .returned (v b)∧St w [] (L' b) [] w') (k:∀ b w',Grow w w'→St w0 X (L' b++L) R w'→K (a.put d (v b)) w'):wpOp P ops (NoP Kn) i K a w:=
 wpOp_call hd he c fun _ w' ⟨b,h1,h2⟩=>⟨v b,h1,k b w' ⟨h2.os,h2.tape,h2.output,h2.size,fun k hk=>h2.block k hk (by simp)⟩ (hs.grown h2)⟩
theorem run_equalIn_int {d:Nat}{t:TypeId}{k:IntKind}{x y:Int}(hu:P.underlying t=some (.int k)):(Op.equalIn (d+1) t (.int k x) (.int k y)).run P w = .ok (x == y) w:=by
 unfold Op.equalIn
 rw [rb (run_underlying hu w)]
 simp
theorem run_part1 {e:TypeId}{c:Array Value}{o:Nat}{v:Value}(hg:aggB P e=some false) (hv:c[o]? = some v):(part e c o).run P w = .ok v w:=by
 unfold part
 rw [rb (run_isAgg hg)]
 simp [hv]
end
end Go.Mx

/- own -/
namespace Go.Mx
open Go.RowKit Go.ChangeShapes Go.WideShapes Go.ChangeAt
def InR (k:IntKind) (x:Int):Prop:=k.min≤x∧x≤k.max
theorem inR_of_wf {k:IntKind}{x:Int}(h:(Lit.int k x).wf=true):InR k x:=by
 simp only [Lit.wf,Bool.and_eq_true,decide_eq_true_eq] at h
 exact h
end Go.Mx
