/- Own library of this work (1): rules by which a Go function's code is followed operation by operation: any order that a region may draw, blocks of the call's own, calls by contract. -/
import Derived.Orders
import Derived.Below
import Derived.KernelRfl
import Derived.Deep.LoopGhost
import Derived.OrdersIn
import Derived.RangeFuncRecord
namespace Go.Mx
open Go.RowKit

/-! ### growth -/
def Grow (w w' : World) : Prop := Below w.heap.size w w'
theorem Grow.refl (w : World) : Grow w w := Below.refl _ _
theorem Grow.trans {a b c : World} (h : Grow a b) (k : Grow b c) : Grow a c := Below.trans h (Below.mono k h.size)
/-- All that is there stays, but for the blocks of S. -/
def Keep (S : Nat → Prop) (w w' : World) : Prop := ∀ k o, ¬ S k → w.heap[k]? = some o → w'.heap[k]? = some o
theorem Keep.refl (S : Nat → Prop) (w : World) : Keep S w w := fun _ _ _ h => h
theorem Keep.trans {S : Nat → Prop} {a b c : World} (h : Keep S a b) (k : Keep S b c) : Keep S a c := fun x o hx ho => k x o hx (h x o hx ho)
theorem Keep.mono {S T : Nat → Prop} {a b : World} (h : Keep S a b) (k : ∀ x, S x → T x) : Keep T a b := fun x o hx ho => h x o (fun hs => hx (k x hs)) ho
theorem Grow.keep {w w' : World} (g : Grow w w') (S : Nat → Prop) : Keep S w w' := fun k o _ h => by
  rw [g.block k (Array.getElem?_eq_some_iff.1 h).1]; exact h
theorem Keep.all (w w' : World) : Keep (fun _ => True) w w' := fun _ _ h => absurd trivial h
def Any (_ _ : World) : Prop := True
/-- in which worlds a value is still told -/
@[reducible] def rel : Bool → World → World → Prop
  | false => Any
  | true => Grow
structure RelOk (ρ : World → World → Prop) : Prop where
  refl : ∀ w, ρ w w
  trans : ∀ a b c, ρ a b → ρ b c → ρ a c
theorem relOk : ∀ ld, RelOk (rel ld)
  | false => ⟨fun _ => trivial, fun _ _ _ _ _ => trivial⟩
  | true => ⟨Grow.refl, fun _ _ _ => Grow.trans⟩
theorem keepOk (S : Nat → Prop) : RelOk (Keep S) := ⟨Keep.refl S, fun _ _ _ => Keep.trans⟩

/-! ### an operation of a region -/
def execAt (ops : Array Oper) (i : Nat) (a : Act) : Sem Next :=
  match ops[i]? with
  | none => .halt (.stuck "")
  | some o => if Region.wanted o (yielded ops a.tmps) then execOp a.eval o else .pure (.value undef)
def dstAt (ops : Array Oper) (i : Nat) : Option Tmp := (ops[i]?).bind (·.dst)
def NoP (K : Act → World → Prop) : Exit → Act → World → Prop
  | .normal, a, w => K a w
  | _, _, _ => False
def nextV (s : Sem Value) : Sem Next := do pure (.value (← s))
def nextU (s : Sem Unit) : Sem Next := do s; pure .skip

section
variable {P : Program} {ops : Array Oper} {K : Act → World → Prop} {a : Act} {w w' : World} {i : Nat}

variable {Kn : Act → World → Prop}
theorem wpOp_val {v : Value} {d : Option Tmp} (hd : dstAt ops i = d) (h : (execAt ops i a).run P w = .ok (.value v) w') (k : K (a.put d v) w') : wpOp P ops (NoP Kn) i K a w := by
  subst hd
  cases ho : ops[i]? with
  | none => unfold execAt at h; rw [ho] at h; cases h
  | some o =>
    unfold wpOp
    unfold execAt at h
    unfold dstAt at k
    simp only [ho, Option.bind_some] at h k ⊢
    split
    · rename_i hw
      simp only [hw, if_true] at h
      exact .inl (by simp only [Oper.wp, h, Oper.upon]; exact k)
    · rename_i hw
      simp only [hw] at h
      simp at h
      obtain ⟨rfl, rfl⟩ := h
      exact k
theorem wpOp_skip {d : Option Tmp} (hd : dstAt ops i = d) (h : (execAt ops i a).run P w = .ok .skip w') (k : K (a.put d undef) w') : wpOp P ops (NoP Kn) i K a w := by
  subst hd
  cases ho : ops[i]? with
  | none => unfold execAt at h; rw [ho] at h; cases h
  | some o =>
    unfold wpOp
    unfold execAt at h
    unfold dstAt at k
    simp only [ho, Option.bind_some] at h k ⊢
    split
    · rename_i hw
      simp only [hw, if_true] at h
      exact .inl (by simp only [Oper.wp, h, Oper.upon]; exact k)
    · rename_i hw
      simp only [hw] at h
      simp at h
theorem wpOp_call {f : FuncId} {args : Array Value} {R : Ending → World → Prop} {d : Option Tmp} (hd : dstAt ops i = d) (h : ∀ w, (execAt ops i a).run P w = .ok (.enter f args) w) (c : Calls P f args w R)
    (k : ∀ e w', R e w' → ∃ v, e = .returned v ∧ K (a.put d v) w') : wpOp P ops (NoP Kn) i K a w := by
  subst hd
  have h := h w
  cases ho : ops[i]? with
  | none => unfold execAt at h; rw [ho] at h; cases h
  | some o =>
    unfold wpOp
    unfold execAt at h
    unfold dstAt at k
    simp only [ho, Option.bind_some] at h k ⊢
    split
    · rename_i hw
      simp only [hw, if_true] at h
      refine .inl ?_
      simp only [Oper.wp, h, Oper.upon]
      refine Calls.mono c fun e w'' hr => ?_
      obtain ⟨v, rfl, hk⟩ := k e w'' hr
      exact hk
    · rename_i hw
      simp only [hw] at h
      simp at h

/-! ### in a loop's round too; a call that asks for a round -/
/-- The fence of all texts here: whatever function, whatever depth; r: the loop whose round it is. -/
def FR (r : Option Nat) : Fence := { Fence.wide with round := r }
theorem calls_FR {r : Option Nat} {f : FuncId} {args : Array Value} {R : Ending → World → Prop} (h : Calls P f args w R) : CallsIn (FR r) 0 P f args w R := callsIn_wide.2 h
theorem round_FR {r : Option Nat} {l : Nat} {f : FuncId} {tmps : Array Value} {assign body : Code} {R : Ending → World → Prop} (h : RoundIn (FR none) 0 P l f tmps assign body w R) : RoundIn (FR r) 0 P l f tmps assign body w R := h
theorem rows_FR {r : Option Nat} {row : String} {args : Array Value} {R : Value → World → Prop} (h : Rows P row args w R) : RowsIn (FR r) 0 P row args w R := fun c cs _ => let ⟨v, w', hv, hs⟩ := h c cs; ⟨v, w', hv, stepsIn_wide.2 hs⟩
def RdOp (P : Program) (ops : Array Oper) (i : Nat) (K : Act → World → Prop) (a : Act) (w : World) : Prop :=
  ∃ o l f tmps assign body w', ops[i]? = some o ∧ Region.wanted o (yielded ops a.tmps) = true ∧ (execOp a.eval o).run P w = .ok (.round l f tmps assign body) w' ∧
    RoundIn (FR none) 0 P l f tmps assign body w' (fun e w'' => ∃ v, e = .returned v ∧ K (a.put o.dst v) w'')
def wpO (P : Program) (ops : Array Oper) (Kn : Act → World → Prop) (i : Nat) (K : Act → World → Prop) (a : Act) (w : World) : Prop := wpOp P ops (NoP Kn) i K a w ∨ RdOp P ops i K a w
theorem wpO_mono {K' : Act → World → Prop} (h : ∀ a w, K a w → K' a w) (hh : wpO P ops Kn i K a w) : wpO P ops Kn i K' a w := by
  rcases hh with hh | ⟨o, l, f, tmps, assign, body, w', ho, hw, hr, hR⟩
  · exact .inl (wpOp_mono h hh)
  · exact .inr ⟨o, l, f, tmps, assign, body, w', ho, hw, hr, hR.mono fun e w'' ⟨v, hv, hk⟩ => ⟨v, hv, h _ _ hk⟩⟩
/-- No 'defer' statement. -/
def noDefer (ops : Array Oper) : Bool := ops.all fun o => match o.op with | .defer .. => false | _ => true
theorem noDefer_spec (h : noDefer ops = true) {o : Oper} (ho : ops[i]? = some o) : ∀ c, o.op ≠ .defer c := fun c heq => by
  have := Array.all_eq_true_iff_forall_mem.1 h o (Array.mem_of_getElem? ho)
  simp [heq] at this
theorem wpO_in {r : Option Nat} (hd : noDefer ops = true) (h : wpO P ops Kn i K a w) : wpOpIn (FR r) 0 P ops (NoP Kn) i K a w := by
  unfold wpOpIn
  rcases h with h | ⟨o, l, f, tmps, assign, body, w', ho, hw, hr, hR⟩
  · unfold wpOp at h
    cases ho : ops[i]? with
    | none => simp only [ho] at h ⊢; exact h
    | some o =>
      simp only [ho] at h ⊢
      by_cases hw : Region.wanted o (yielded ops a.tmps) = true
      · simp only [hw, if_true] at h ⊢
        rcases h with h | ⟨_, a0, w0, hl⟩
        case inr => exact hl.elim
        refine ⟨fun _ _ => trivial, ?_⟩
        rw [Oper.semAt_eq _ _ _ (noDefer_spec hd ho)]
        unfold Oper.wp at h
        generalize (execOp a.eval o).run P w = res at *
        cases res with
        | ok n w' =>
          cases n <;> simp only [Oper.upon] at h <;> simp only [Oper.uponIn]
          case value u => exact h
          case skip => exact h
          case defer d => exact h
          case enter f args =>
            refine ⟨fun h => by simp [FR, Fence.wide] at h, (calls_FR h).mono fun e w'' he => ?_⟩
            cases e with
            | returned u => exact he
            | panicked c => exact he
            | outgrown => exact he
          case row row args => exact ⟨fun h => by simp [FR, Fence.wide] at h, rows_FR h⟩
        | halt x w' =>
          cases x <;> simp only [Oper.upon] at h <;> simp only [Oper.uponIn]
          case panic u => exact h
      · simp only [hw, if_false, Bool.false_eq_true] at h ⊢
        exact ⟨fun _ _ => trivial, h⟩
  · simp only [ho, hw, if_true]
    refine ⟨fun _ _ => trivial, ?_⟩
    rw [Oper.semAt_eq _ _ _ (noDefer_spec hd ho), hr]
    simp only [Oper.uponIn]
    refine ⟨fun h => by simp [FR, Fence.wide] at h, (round_FR hR).mono fun e w'' he => ?_⟩
    obtain ⟨v, rfl, hk⟩ := he
    exact hk

/-- Operation i yields v and leaves the world as it is, in every world that stands in ρ to w. -/
def Yld (P : Program) (ops : Array Oper) (ρ : World → World → Prop) (i : Nat) (a : Act) (w : World) (v : Value) : Prop :=
  ∀ w', ρ w w' → (execAt ops i a).run P w' = .ok (.value v) w'

theorem execAt_put {j : Nat} {oj : Oper} (hj : ops[j]? = some oj) (hs : ∀ cs b, oj.op ≠ .select cs b) (a : Act) (dst : Option Tmp) (v : Value)
    (h : ∀ d, dst = some d → d ∉ oj.looksAt ops) : execAt ops j (a.put dst v) = execAt ops j a := by
  unfold execAt
  simp only [hj]
  rw [wanted_put oj a dst v h, execOp_put oj hs a dst v h]

/-! ### a region that draws its order -/
def gr (ng : List Nat) (i : Nat) : Bool := !ng.contains i
/-- what number i does to the world: no more than to grow it, unless i is of ng; and to keep what is not of S -/
def Cl (ng : List Nat) (S : Nat → Prop) (i : Nat) (w w' : World) : Prop := (gr ng i = true → Grow w w') ∧ Keep S w w'
theorem Cl.refl {ng : List Nat} {S : Nat → Prop} {i : Nat} (w : World) : Cl ng S i w w := ⟨fun _ => Grow.refl w, Keep.refl S w⟩
theorem Cl.of {ng : List Nat} {S : Nat → Prop} {i : Nat} {w w' : World} (g : Grow w w') : Cl ng S i w w' := ⟨fun _ => g, g.keep S⟩
def wpG (P : Program) (ops : Array Oper) (K : Act → World → Prop) (ng : List Nat) (S : Nat → Prop) : Nat → Array Bool → Act → World → Prop
  | 0, listed, a, w => Region.ready .any ops listed = [] ∧ K a w
  | fuel + 1, listed, a, w =>
    (Region.ready .any ops listed = [] → K a w) ∧
    ∀ i ∈ Region.ready .any ops listed, wpO P ops K i (fun a' w' => Cl ng S i w w' ∧ wpG P ops K ng S fuel (listed.setIfInBounds i true) a' w') a w
theorem wpAny_of_wpG {r : Option Nat} {ng : List Nat} {S : Nat → Prop} (hnd : noDefer ops = true) : ∀ (fuel : Nat) (listed : Array Bool) (a : Act) (w : World), wpG P ops K ng S fuel listed a w → wpAnyIn (FR r) 0 P .any ops (NoP K) fuel listed a w
  | 0, _, _, _, h => h
  | fuel + 1, _, _, _, h => ⟨h.1, fun i hi => wpOpIn_mono (fun a' w' h' => wpAny_of_wpG hnd fuel _ a' w' h'.2) (wpO_in hnd (h.2 i hi))⟩

theorem wpOp_after {ng : List Nat} {S : Nat → Prop} {ρ : World → World → Prop} (hρ : RelOk ρ) {j : Nat} {oi oj : Oper} {v : Value} (hi : ops[i]? = some oi) (hj : ops[j]? = some oj) (hap : oi.apart ops oj = true) (hg : ∀ w w', Cl ng S j w w' → ρ w w')
    (hsi : ∀ cs b, oi.op ≠ .select cs b) (hsj : ∀ cs b, oj.op ≠ .select cs b) {K' : Act → World → Prop}
    (hy : Yld P ops ρ i a w v) (h : wpOp P ops (NoP K) j (fun a' w' => Cl ng S j w w' ∧ K' a' w') (a.put oi.dst v) w) :
    wpOp P ops (NoP K) j (fun a' w' => Yld P ops ρ i a' w' v ∧ Cl ng S j w w' ∧ K' (a'.put oi.dst v) w') a w := by
  obtain ⟨h1, h2, h3⟩ := Oper.apart_spec hap
  have keep : ∀ u w', Cl ng S j w w' → Yld P ops ρ i (a.put oj.dst u) w' v := fun u w' g => by
    intro w'' g'
    rw [execAt_put hi hsi a oj.dst u h3]
    exact hy w'' (hρ.trans _ _ _ (hg _ _ g) g')
  have keepD : ∀ d u w', Cl ng S j w w' → Yld P ops ρ i (({ a with defers := d :: a.defers } : Act).put oj.dst u) w' v := fun d u w' g => by
    intro w'' g'
    rw [execAt_put hi hsi _ oj.dst u h3]
    exact hy w'' (hρ.trans _ _ _ (hg _ _ g) g')
  unfold wpOp at *
  simp only [hj] at *
  rw [wanted_put oj a oi.dst v h1] at h
  split
  · rename_i hw
    simp only [hw, if_true] at h
    rcases h with h | ⟨hasks, a0, w0, hl⟩
    case inr => exact hl.elim
    refine .inl ?_
    unfold Oper.wp at *
    rw [execOp_put oj hsj a oi.dst v h1] at h
    generalize (execOp a.eval oj).run P w = r at *
    cases r with
    | ok n w' =>
      cases n <;> simp only [Oper.upon] at h ⊢
      case value u => exact ⟨keep u w' h.1, h.1, by rw [← Act.put_comm a v u h2]; exact h.2⟩
      case skip => exact ⟨keep _ w' h.1, h.1, by rw [← Act.put_comm a v undef h2]; exact h.2⟩
      case defer d =>
        refine ⟨keepD _ _ w' h.1, h.1, ?_⟩
        rw [← Act.put_comm _ v undef h2, ← Act.put_defers]
        exact h.2
      case enter f args =>
        refine Calls.mono h fun e w'' he => ?_
        cases e with
        | returned u => exact ⟨keep u w'' he.1, he.1, by rw [← Act.put_comm a v u h2]; exact he.2⟩
        | panicked c => exact he.elim
        | outgrown => obtain ⟨_, _, hl⟩ := he; exact hl.elim
      case row row args => exact Rows.mono h fun u w'' he => ⟨keep u w'' he.1, he.1, by rw [← Act.put_comm a v u h2]; exact he.2⟩
    | halt x w' =>
      cases x <;> simp only [Oper.upon] at h ⊢
      case panic u => exact h.elim
  · rename_i hw
    simp only [hw] at h
    exact ⟨keep _ w h.1, h.1, by rw [← Act.put_comm a v undef h2]; exact h.2⟩

theorem wpO_after {ng : List Nat} {S : Nat → Prop} {ρ : World → World → Prop} (hρ : RelOk ρ) {j : Nat} {oi oj : Oper} {v : Value} (hi : ops[i]? = some oi) (hj : ops[j]? = some oj) (hap : oi.apart ops oj = true) (hg : ∀ w w', Cl ng S j w w' → ρ w w')
    (hsi : ∀ cs b, oi.op ≠ .select cs b) (hsj : ∀ cs b, oj.op ≠ .select cs b) {K' : Act → World → Prop}
    (hy : Yld P ops ρ i a w v) (h : wpO P ops K j (fun a' w' => Cl ng S j w w' ∧ K' a' w') (a.put oi.dst v) w) :
    wpO P ops K j (fun a' w' => Yld P ops ρ i a' w' v ∧ Cl ng S j w w' ∧ K' (a'.put oi.dst v) w') a w := by
  rcases h with h | ⟨o, l, f, tmps, assign, body, w', ho, hw, hr, hR⟩
  · exact .inl (wpOp_after hρ hi hj hap hg hsi hsj hy h)
  · obtain ⟨h1, h2, h3⟩ := Oper.apart_spec hap
    rw [hj] at ho
    obtain rfl := Option.some.inj ho
    rw [wanted_put oj a oi.dst v h1] at hw
    rw [execOp_put oj hsj a oi.dst v h1] at hr
    refine .inr ⟨oj, l, f, tmps, assign, body, w', hj, hw, hr, hR.mono fun e w'' ⟨u, he, hc, hk⟩ => ⟨u, he, ?_, hc, ?_⟩⟩
    · intro w3 g'
      rw [execAt_put hi hsi a oj.dst u h3]
      exact hy w3 (hρ.trans _ _ _ (hg _ _ hc) g')
    · rw [← Act.put_comm a v u h2]; exact hk

theorem wpG_take' {ng : List Nat} {S : Nat → Prop} {ρ : World → World → Prop} (hρ : RelOk ρ) {oi : Oper} {v : Value} (Bl : List Nat) (hi : ops[i]? = some oi) (hsel : ∀ (j : Nat) (o : Oper) cs b, ops[j]? = some o → o.op ≠ .select cs b)
    (hBl : ∀ j ∈ Bl, j ≠ i → ∀ oj, ops[j]? = some oj → ∃ e ∈ oj.after, Region.binds .any e = true ∧ e.on ∈ Bl) :
    ∀ (fuel : Nat) (listed : Array Bool) (a : Act) (w : World),
      (∀ j ∈ Bl, listed.getD j true = false) →
      (∀ j oj, ops[j]? = some oj → j ≠ i → j ∉ Bl → listed.getD j true = false → oi.apart ops oj = true ∧ (∀ w w', Cl ng S j w w' → ρ w w')) →
      i ∈ Region.ready .any ops listed → Yld P ops ρ i a w v →
      wpG P ops K ng S fuel (listed.setIfInBounds i true) (a.put oi.dst v) w → wpG P ops K ng S (fuel + 1) listed a w := by
  have hd : dstAt ops i = oi.dst := by simp [dstAt, hi]
  intro fuel
  induction fuel with
  | zero =>
    intro listed a w _ _ hr hy H
    refine ⟨fun h => (by rw [h] at hr; cases hr), fun j hj => ?_⟩
    by_cases hji : j = i
    · subst hji; exact .inl (wpOp_val rfl (hy w (hρ.refl w)) ⟨Cl.refl w, by rw [hd]; exact H⟩)
    · have := ready_mono hj hji
      rw [H.1] at this
      cases this
  | succ fuel ih =>
    intro listed a w hun hfree hr hy H
    refine ⟨fun h => (by rw [h] at hr; cases hr), fun j hj => ?_⟩
    by_cases hji : j = i
    · subst hji; exact .inl (wpOp_val rfl (hy w (hρ.refl w)) ⟨Cl.refl w, by rw [hd]; exact H⟩)
    · have h1 := H.2 j (ready_mono hj hji)
      obtain ⟨hjun, oj, hoj, hall⟩ := mem_ready.1 hj
      have hnot : j ∉ Bl := fun hjB => by
        obtain ⟨e, he, hb, heB⟩ := hBl j hjB hji oj hoj
        have h1 := hall e he hb
        have h0 := hun e.on heB
        rcases Nat.lt_or_ge e.on listed.size with h' | h'
        · simp [h'] at h0 h1; rw [h0] at h1; cases h1
        · simp [Array.getElem?_eq_none h'] at h0
      have hf := hfree j oj hoj hji hnot hjun
      have h2 := wpO_after hρ hi hoj hf.1 hf.2 (fun cs b => hsel i oi cs b hi) (fun cs b => hsel j oj cs b hoj) hy h1
      have hfree' : ∀ k ok, ops[k]? = some ok → k ≠ i → k ∉ Bl → (listed.setIfInBounds j true).getD k true = false → oi.apart ops ok = true ∧ (∀ w w', Cl ng S k w w' → ρ w w') := fun k ok hk hki hkB hun' => by
        refine hfree k ok hk hki hkB ?_
        by_cases hjk : j = k
        · subst hjk; exact hjun
        · rw [getD_set_ne true hjk] at hun'; exact hun'
      have hun' : ∀ k ∈ Bl, (listed.setIfInBounds j true).getD k true = false := fun k hk => by
        have hjk : j ≠ k := fun h => by subst h; exact hnot hk
        rw [getD_set_ne true hjk]
        exact hun k hk
      refine wpO_mono (fun a' w' h3 => ⟨h3.2.1, ih (listed.setIfInBounds j true) a' w' hun' hfree' (ready_mono hr (Ne.symm hji)) h3.1 ?_⟩) h2
      rw [Array.setIfInBounds_comm _ _ hji]
      exact h3.2.2
def readyB (ops : Array Oper) (listed : Array Bool) (i : Nat) : Bool := (Region.ready .any ops listed).contains i
/-- all open ones but those of Bl are apart from i, and ok -/
def openB (ops : Array Oper) (listed : Array Bool) (i : Nat) (Bl : List Nat) (ok : Nat → Bool) : Bool :=
  match ops[i]? with
    | none => false
    | some oi => (List.range ops.size).all fun j => j == i || Bl.contains j || listed.getD j true || match ops[j]? with
        | some oj => oi.apart ops oj && ok j
        | none => true
def blockB (ops : Array Oper) (listed : Array Bool) (i : Nat) (Bl : List Nat) : Bool :=
  Bl.all (fun j => !listed.getD j true && (j == i || match ops[j]? with
    | some oj => oj.after.any (fun e => Region.binds .any e && Bl.contains e.on)
    | none => true)) && (readyB ops listed i && Region.noSelect ops)
theorem wpG_takeB {ng : List Nat} {S : Nat → Prop} {ρ : World → World → Prop} (hρ : RelOk ρ) {fuel : Nat} {listed : Array Bool} (Bl : List Nat) (i : Nat) (d : Option Tmp) (v : Value) (ok : Nat → Bool) (hok : ∀ j, ok j = true → ∀ w w', Cl ng S j w w' → ρ w w')
    (hd' : dstAt ops i = d) (hf : openB ops listed i Bl ok = true) (hb : blockB ops listed i Bl = true) (hy : Yld P ops ρ i a w v)
    (H : wpG P ops K ng S fuel (listed.setIfInBounds i true) (a.put d v) w) : wpG P ops K ng S (fuel + 1) listed a w := by
  subst hd'
  unfold blockB at hb
  simp only [Bool.and_eq_true] at hb
  obtain ⟨hb, hr, hs⟩ := hb
  have hr' : i ∈ Region.ready .any ops listed := by unfold readyB at hr; exact List.contains_iff_mem.1 hr
  obtain ⟨_, oi, hoi, _⟩ := mem_ready.1 hr'
  have hd : dstAt ops i = oi.dst := by simp [dstAt, hoi]
  rw [hd] at H
  rw [List.all_eq_true] at hb
  have hb1 : ∀ j ∈ Bl, listed.getD j true = false := fun j hj => by
    have := hb j hj
    simp only [Bool.and_eq_true, Bool.not_eq_true'] at this
    exact this.1
  have hb2 : ∀ j ∈ Bl, j ≠ i → ∀ oj, ops[j]? = some oj → ∃ e ∈ oj.after, Region.binds .any e = true ∧ e.on ∈ Bl := fun j hj hne oj hoj => by
    have := hb j hj
    simp only [Bool.and_eq_true, Bool.or_eq_true, beq_iff_eq, hne, false_or, hoj] at this
    obtain ⟨e, he, h2⟩ := Array.any_eq_true'.1 this.2
    simp only [Bool.and_eq_true] at h2
    exact ⟨e, he, h2.1, List.contains_iff_mem.1 h2.2⟩
  refine wpG_take' hρ Bl hoi (Region.noSelect_spec hs) hb2 fuel listed a w hb1 (fun j oj hj hne hnB hun => ?_) hr' hy H
  simp only [openB, hoi, List.all_eq_true, List.mem_range] at hf
  have h1 := hf j (Array.getElem?_eq_some_iff.1 hj).1
  have hnB' : Bl.contains j = false := by
    cases h : Bl.contains j with
    | false => rfl
    | true => exact absurd (List.contains_iff_mem.1 h) hnB
  simp only [hj, Bool.or_eq_true, beq_iff_eq, hne, false_or, hun, hnB', Bool.false_eq_true, Bool.and_eq_true] at h1
  exact ⟨h1.1, hok j h1.2⟩
def takeB (ops : Array Oper) (ng : List Nat) (listed : Array Bool) (i : Nat) (ld : Bool) (Bl : List Nat) : Bool := openB ops listed i Bl (fun j => !ld || gr ng j) && blockB ops listed i Bl
/-- In a region that draws: value operation number i is taken now. Bl: i, and what waits for it, be it through others. -/
theorem wpG.take {ng : List Nat} {S : Nat → Prop} {fuel : Nat} {listed : Array Bool} (Bl : List Nat) (i : Nat) (ld : Bool) (d : Option Tmp) (v : Value) (hd' : dstAt ops i = d) (hc : takeB ops ng listed i ld Bl = true) (hy : Yld P ops (rel ld) i a w v)
    (H : wpG P ops K ng S fuel (listed.setIfInBounds i true) (a.put d v) w) : wpG P ops K ng S (fuel + 1) listed a w := by
  unfold takeB at hc
  rw [Bool.and_eq_true] at hc
  refine wpG_takeB (relOk ld) Bl i d v _ (fun j hj w w' hC => ?_) hd' hc.1 hc.2 hy H
  cases ld with
  | false => trivial
  | true => exact hC.1 (by simpa using hj)
def waitL (ops : Array Oper) (i : Nat) : List Nat := (List.range ops.size).filter fun j => j == i || match ops[j]? with
  | some oj => oj.after.any (fun e => Region.binds .any e && e.on == i)
  | none => false
/-- The same where all that waits for i does so at once. -/
theorem wpG.takeD {ng : List Nat} {S : Nat → Prop} {fuel : Nat} {listed : Array Bool} (i : Nat) (ld : Bool) (d : Option Tmp) (v : Value) (hd' : dstAt ops i = d) (hc : takeB ops ng listed i ld (waitL ops i) = true) (hy : Yld P ops (rel ld) i a w v)
    (H : wpG P ops K ng S fuel (listed.setIfInBounds i true) (a.put d v) w) : wpG P ops K ng S (fuel + 1) listed a w := wpG.take _ i ld d v hd' hc hy H
def takeKB (ops : Array Oper) (listed : Array Bool) (i : Nat) (Bl : List Nat) : Bool := openB ops listed i Bl (fun _ => true) && blockB ops listed i Bl
/-- The same for a load from a block that no store of the region meets. -/
theorem wpG.takeK {ng : List Nat} {S : Nat → Prop} {fuel : Nat} {listed : Array Bool} (Bl : List Nat) (i : Nat) (d : Option Tmp) (v : Value) (hd' : dstAt ops i = d) (hc : takeKB ops listed i Bl = true) (hy : Yld P ops (Keep S) i a w v)
    (H : wpG P ops K ng S fuel (listed.setIfInBounds i true) (a.put d v) w) : wpG P ops K ng S (fuel + 1) listed a w := by
  unfold takeKB at hc
  rw [Bool.and_eq_true] at hc
  exact wpG_takeB (keepOk S) Bl i d v _ (fun j _ w w' hC => hC.2) hd' hc.1 hc.2 hy H
/-- In a region that draws: number i alone can come up now. -/
theorem wpG.only {ng : List Nat} {S : Nat → Prop} {fuel : Nat} {listed : Array Bool} (i : Nat) (hc : Region.ready .any ops listed = [i])
    (H : wpOp P ops (NoP K) i (fun a' w' => Cl ng S i w w' ∧ wpG P ops K ng S fuel (listed.setIfInBounds i true) a' w') a w) : wpG P ops K ng S (fuel + 1) listed a w :=
  by
  refine ⟨fun h => ?_, fun j hj => ?_⟩
  · rw [hc] at h; cases h
  · rw [hc] at hj; obtain rfl := List.mem_singleton.1 hj; exact .inl H
/-- The same where it asks for a round. -/
theorem wpG.onlyR {ng : List Nat} {S : Nat → Prop} {fuel : Nat} {listed : Array Bool} (i : Nat) (hc : Region.ready .any ops listed = [i])
    (H : RdOp P ops i (fun a' w' => Cl ng S i w w' ∧ wpG P ops K ng S fuel (listed.setIfInBounds i true) a' w') a w) : wpG P ops K ng S (fuel + 1) listed a w :=
  by
  refine ⟨fun h => ?_, fun j hj => ?_⟩
  · rw [hc] at h; cases h
  · rw [hc] at hj; obtain rfl := List.mem_singleton.1 hj; exact .inr H
theorem wpG.many {ng : List Nat} {S : Nat → Prop} {fuel : Nat} {listed : Array Bool} (l : List Nat) (hc : Region.ready .any ops listed = l) (hne : l ≠ [])
    (H : ∀ i ∈ l, wpOp P ops (NoP K) i (fun a' w' => Cl ng S i w w' ∧ wpG P ops K ng S fuel (listed.setIfInBounds i true) a' w') a w) : wpG P ops K ng S (fuel + 1) listed a w := by
  subst hc
  exact ⟨fun h => absurd h hne, fun i hi => .inl (H i hi)⟩
theorem forall_nil {p : Nat → Prop} : ∀ i ∈ ([] : List Nat), p i := fun _ h => (by cases h)
theorem forall_cons {p : Nat → Prop} {x : Nat} {l : List Nat} (h : p x) (hl : ∀ i ∈ l, p i) : ∀ i ∈ x :: l, p i := fun i hi => by
  rcases List.mem_cons.1 hi with rfl | hi
  · exact h
  · exact hl i hi
theorem wpG.fin {ng : List Nat} {S : Nat → Prop} {fuel : Nat} {listed : Array Bool} {a' : Act} (hc : Region.ready .any ops listed = []) (ha : a = a') (H : K a' w) : wpG P ops K ng S fuel listed a w := by
  subst ha
  cases fuel with
  | zero => exact ⟨hc, H⟩
  | succ n =>
    refine ⟨fun _ => H, fun i hi => ?_⟩
    rw [hc] at hi; cases hi

/-! ### a region in the order of the text -/
def wpS (P : Program) (ops : Array Oper) (K : Act → World → Prop) : List Nat → Act → World → Prop
  | [], a, w => K a w
  | i :: l, a, w => wpO P ops K i (wpS P ops K l) a w
theorem wpS.take {l : List Nat} (i : Nat) (ld : Bool) (d : Option Tmp) (v : Value) (hd : dstAt ops i = d) (hy : Yld P ops (rel ld) i a w v) (H : wpS P ops K l (a.put d v) w) : wpS P ops K (i :: l) a w :=
  .inl (wpOp_val hd (hy w ((relOk ld).refl w)) H)
theorem wpS.only {l : List Nat} (i : Nat) (H : wpOp P ops (NoP K) i (fun a' w' => (true = true → True) ∧ wpS P ops K l a' w') a w) : wpS P ops K (i :: l) a w :=
  .inl (wpOp_mono (fun _ _ h => h.2) H)
theorem wpS.onlyR {l : List Nat} (i : Nat) (H : RdOp P ops i (fun a' w' => (true = true → True) ∧ wpS P ops K l a' w') a w) : wpS P ops K (i :: l) a w :=
  wpO_mono (fun _ _ h => h.2) (.inr H : wpO P ops K i _ a w)
theorem wpS.fin {a' : Act} (ha : a = a') (H : K a' w) : wpS P ops K [] a w := by subst ha; exact H
theorem wpOps_of_wpS {r : Option Nat} (hnd : noDefer ops = true) : ∀ (l : List Nat) (a : Act) (w : World), wpS P ops K l a w → wpOpsIn (FR r) 0 P ops (NoP K) l a w
  | [], _, _, h => h
  | i :: l, a, w, h => by
    rw [wpOpsIn_cons]
    exact wpOpIn_mono (fun a' w' h' => wpOps_of_wpS hnd l a' w' h') (wpO_in hnd h)

theorem NoP.imp {Q : Exit → Act → World → Prop} (h : ∀ a w, K a w → Q .normal a w) : ∀ e a w, NoP K e a w → Q e a w := fun e a w hk => by
  cases e <;> first | exact h a w hk | exact hk.elim
def World.drawn1 (w : World) : World := { w with drawn := w.drawn + 1 }
theorem Grow.drawn1 (w : World) : Grow w (World.drawn1 w) := ⟨rfl, rfl, rfl, Nat.le_refl _, fun _ _ => rfl⟩
/-- The two regions; what follows stands behind a variable. -/
theorem wp_regS {r : Option Nat} {id : Nat} {Q : Exit → Act → World → Prop} {l : List Nat} (hl : List.range ops.size = l) (hnd : noDefer ops = true) (h : ∀ K : Act → World → Prop, (∀ a w, Q .normal a w → K a w) → wpS P ops K l a w) : (Code.region id ops false).wpIn (FR r) 0 P Q a w := by
  subst hl
  exact wpIn_mono (wpIn_region (Q := NoP (Q .normal)) (wpOps_of_wpS hnd _ _ _ (h _ fun _ _ h => h))) (NoP.imp fun _ _ h => h)
theorem wp_regG {r : Option Nat} {id : Nat} {Q : Exit → Act → World → Prop} (ng : List Nat) (S : Nat → Prop) (fuel : Nat) (hm : P.follows .mixedOrders = true) (hl : ops.size = fuel) (hnd : noDefer ops = true)
    (h : ∀ K : Act → World → Prop, (∀ a w, Q .normal a w → K a w) → wpG P ops K ng S fuel (Array.replicate fuel false) a (World.drawn1 w)) : (Code.region id ops true).wpIn (FR r) 0 P Q a w := by
  subst hl
  exact wpIn_mono (wpIn_region_any (Q := NoP (Q .normal)) hm (wpAny_of_wpG hnd _ _ _ _ (h _ fun _ _ h => h))) (NoP.imp fun _ _ h => h)
/-- the same, in short -/
theorem xregS {r : Option Nat} {id : Nat} {Q : Exit → Act → World → Prop} (l : List Nat) (h : ∀ K : Act → World → Prop, (∀ a w, Q .normal a w → K a w) → wpS P ops K l a w) (hl : List.range ops.size = l := by kernel_rfl) (hnd : noDefer ops = true := by kernel_rfl) : (Code.region id ops false).wpIn (FR r) 0 P Q a w := wp_regS hl hnd h
theorem wpG.tD {ng : List Nat} {S : Nat → Prop} {fuel : Nat} {listed : Array Bool} (i : Nat) (ld : Bool) (d : Option Tmp) (v : Value) (hy : Yld P ops (rel ld) i a w v) (H : wpG P ops K ng S fuel (listed.setIfInBounds i true) (a.put d v) w)
    (hd' : dstAt ops i = d := by kernel_rfl) (hc : takeB ops ng listed i ld (waitL ops i) = true := by kernel_rfl) : wpG P ops K ng S (fuel + 1) listed a w := wpG.takeD i ld d v hd' hc hy H
theorem wpS.tk {l : List Nat} (i : Nat) (ld : Bool) (d : Option Tmp) (v : Value) (hy : Yld P ops (rel ld) i a w v) (H : wpS P ops K l (a.put d v) w) (hd : dstAt ops i = d := by kernel_rfl) : wpS P ops K (i :: l) a w := wpS.take i ld d v hd hy H
end

/-! ### what the call owns -/
structure Ent where
  foot : Nat → Prop
  p : World → Prop
  loc : ∀ w w' : World, (∀ b, foot b → w'.heap[b]? = w.heap[b]?) → p w → p w'
def Ent.blk (b : Nat) (c : List Value) (t : TypeId) : Ent where
  foot := fun k => k = b
  p := fun w => w.heap[b]? = some (.cells c.toArray t (0, 0))
  loc := fun _ _ h hp => (h b rfl).trans hp
/-- a block that is what it is: a loop's record, and the like -/
def Ent.obj (b : Nat) (o : Obj) : Ent where
  foot := fun k => k = b
  p := fun w => w.heap[b]? = some o
  loc := fun _ _ h hp => (h b rfl).trans hp
/-- w0: the world when the call began; X: blocks that came in and may be written; L: what is owned; R: what is read. -/
structure St (w0 : World) (X : List Nat) (L R : List Ent) (w : World) : Prop where
  os : w.os = w0.os
  tape : w.tape = w0.tape
  output : w.output = w0.output
  size : w0.heap.size ≤ w.heap.size
  block : ∀ k, k < w0.heap.size → k ∉ X → w.heap[k]? = w0.heap[k]?
  own : ∀ e ∈ L, e.p w ∧ ∀ b, e.foot b → b < w.heap.size ∧ (b ∈ X ∨ w0.heap.size ≤ b)
  apart : L.Pairwise fun e e' => ∀ b, e.foot b → ¬ e'.foot b
  read : ∀ e ∈ R, e.p w ∧ ∀ b, e.foot b → b < w.heap.size ∧ ∀ e' ∈ L, ¬ e'.foot b
theorem St.start (w : World) : St w [] [] [] w := ⟨rfl, rfl, rfl, Nat.le_refl _, fun _ _ _ => rfl, fun _ h => (by cases h), .nil, fun _ h => (by cases h)⟩
theorem St.below {w0 w : World} {L R : List Ent} (h : St w0 [] L R w) : Below w0.heap.size w0 w := ⟨h.os, h.tape, h.output, h.size, fun k hk => h.block k hk (by simp)⟩
theorem St.grow {w0 w : World} {L R : List Ent} (h : St w0 [] L R w) : Grow w0 w := h.below
theorem St.drop {w0 w : World} {X : List Nat} {L L' R : List Ent} (h : St w0 X L R w) (hs : L'.Sublist L) : St w0 X L' R w :=
  ⟨h.os, h.tape, h.output, h.size, h.block, fun e he => h.own e (hs.subset he), h.apart.sublist hs, fun e he => ⟨(h.read e he).1, fun b hb => ⟨((h.read e he).2 b hb).1, fun e' he' => ((h.read e he).2 b hb).2 e' (hs.subset he')⟩⟩⟩
theorem St.none {w0 w : World} {X : List Nat} {L R : List Ent} (h : St w0 X L R w) : St w0 X [] [] w :=
  ⟨h.os, h.tape, h.output, h.size, h.block, fun _ h => (by cases h), .nil, fun _ h => (by cases h)⟩
theorem St.conv {w0 w : World} {X : List Nat} {L L' R : List Ent} (h : St w0 X L R w) (e : L = L') : St w0 X L' R w := e ▸ h
/-- The world has grown (a call that leaves all that was there). -/
theorem St.grown {w0 w w' : World} {X : List Nat} {L R L' : List Ent} (h : St w0 X L R w) (g : St w [] L' [] w') : St w0 X (L' ++ L) R w' := by
  refine ⟨g.os.trans h.os, g.tape.trans h.tape, g.output.trans h.output, Nat.le_trans h.size g.size, fun k hk hx => (g.block k (Nat.lt_of_lt_of_le hk h.size) (by simp)).trans (h.block k hk hx), ?_, ?_, ?_⟩
  · intro e he
    rcases List.mem_append.1 he with he | he
    · obtain ⟨h1, h2⟩ := g.own e he
      refine ⟨h1, fun b hb => ⟨(h2 b hb).1, .inr ?_⟩⟩
      rcases (h2 b hb).2 with h | h'
      · cases h
      · exact Nat.le_trans h.size h'
    · obtain ⟨h1, h2⟩ := h.own e he
      exact ⟨e.loc w w' (fun b hb => g.block b (h2 b hb).1 (by simp)) h1, fun b hb => ⟨Nat.lt_of_lt_of_le (h2 b hb).1 g.size, (h2 b hb).2⟩⟩
  · refine List.pairwise_append.2 ⟨g.apart, h.apart, fun e he e' he' b hb hb' => ?_⟩
    rcases ((g.own e he).2 b hb).2 with h1 | h1
    · cases h1
    · exact absurd ((h.own e' he').2 b hb').1 (by omega)
  · intro e he
    obtain ⟨h1, h2⟩ := h.read e he
    refine ⟨e.loc w w' (fun b hb => g.block b (h2 b hb).1 (by simp)) h1, fun b hb => ⟨Nat.lt_of_lt_of_le (h2 b hb).1 g.size, fun e' he' hb' => ?_⟩⟩
    rcases List.mem_append.1 he' with he' | he'
    · rcases ((g.own e' he').2 b hb').2 with h1 | h1
      · cases h1
      · exact absurd (h2 b hb).1 (by omega)
    · exact (h2 b hb).2 e' he' hb'
theorem St.move {w0 w w' : World} {X : List Nat} {L R : List Ent} (h : St w0 X L R w) (g : Grow w w') : St w0 X L R w' :=
  h.grown (L' := []) ⟨g.os, g.tape, g.output, g.size, fun k hk _ => g.block k hk, fun _ h => (by cases h), .nil, fun _ h => (by cases h)⟩
theorem St.drawn1 {w0 w : World} {X : List Nat} {L R : List Ent} (h : St w0 X L R w) : St w0 X L R (World.drawn1 w) := h.move (Grow.drawn1 w)

theorem St.blkAt {w0 w : World} {X : List Nat} {L R : List Ent} (h : St w0 X L R w) (j : Nat) {b : Nat} {c : List Value} {t : TypeId} (hj : L[j]? = some (.blk b c t)) :
    w.heap[b]? = some (.cells c.toArray t (0, 0)) := (h.own _ (List.mem_of_getElem? hj)).1

/-- one block changes -/
theorem St.objSet {w0 w w' : World} {X : List Nat} {L R : List Ent} (h : St w0 X L R w) (j : Nat) {b : Nat} {o o' : Obj} (hj : L[j]? = some (.obj b o))
    (hos : w'.os = w.os) (htape : w'.tape = w.tape) (hout : w'.output = w.output) (hsz : w'.heap.size = w.heap.size)
    (hb : w'.heap[b]? = some o') (hk : ∀ k, k ≠ b → w'.heap[k]? = w.heap[k]?) : St w0 X (L.set j (.obj b o')) R w' := by
  have hjl : j < L.length := (List.getElem?_eq_some_iff.1 hj).1
  have hjm : Ent.obj b o ∈ L := List.mem_of_getElem? hj
  have hfb := (h.own _ hjm).2 b rfl
  refine ⟨hos.trans h.os, htape.trans h.tape, hout.trans h.output, by rw [hsz]; exact h.size, fun k hk0 hx => ?_, ?_, ?_, ?_⟩
  · rw [hk k (fun e => by subst e; rcases hfb.2 with h1 | h1; exact hx h1; omega)]
    exact h.block k hk0 hx
  · intro e he
    rw [List.mem_iff_getElem?] at he
    obtain ⟨m, hm⟩ := he
    rw [List.getElem?_set] at hm
    split at hm
    · rename_i hjm'
      simp only [Option.some.injEq] at hm
      subst hm
      refine ⟨hb, fun b' hb' => ?_⟩
      obtain rfl : b' = b := hb'
      exact ⟨by rw [hsz]; exact hfb.1, hfb.2⟩
    · rename_i hne
      have hem := List.mem_of_getElem? hm
      obtain ⟨h1, h2⟩ := h.own e hem
      refine ⟨e.loc w w' (fun b' hb' => hk b' fun heq => ?_) h1, fun b' hb' => ⟨by rw [hsz]; exact (h2 b' hb').1, (h2 b' hb').2⟩⟩
      subst heq
      have hpw := List.pairwise_iff_getElem.1 h.apart
      obtain ⟨hml, hme⟩ := List.getElem?_eq_some_iff.1 hm
      obtain ⟨_, hje⟩ := List.getElem?_eq_some_iff.1 hj
      rcases Nat.lt_or_gt_of_ne hne with hlt | hgt
      · exact hpw j m hjl hml hlt b' (by rw [hje]; exact rfl) (by rw [hme]; exact hb')
      · exact hpw m j hml hjl hgt b' (by rw [hme]; exact hb') (by rw [hje]; exact rfl)
  · rw [List.pairwise_iff_getElem]
    intro m n hm hn hmn b' hb1 hb2
    rw [List.length_set] at hm hn
    have hpw := List.pairwise_iff_getElem.1 h.apart m n hm hn hmn b'
    have foots : ∀ q (hq : q < L.length) (hq' : q < (L.set j (.obj b o')).length), (L.set j (.obj b o'))[q].foot b' → L[q].foot b' := fun q hq hq' hf => by
      rw [List.getElem_set] at hf
      split at hf
      · rename_i hjq
        subst hjq
        obtain ⟨_, hje⟩ := List.getElem?_eq_some_iff.1 hj
        rw [hje]; exact hf
      · exact hf
    exact hpw (foots m hm _ hb1) (foots n hn _ hb2)
  · intro e he
    obtain ⟨h1, h2⟩ := h.read e he
    refine ⟨e.loc w w' (fun b' hb' => hk b' fun heq => ?_) h1, fun b' hb' => ⟨by rw [hsz]; exact (h2 b' hb').1, fun e' he' hf => ?_⟩⟩
    · subst heq; exact (h2 b' hb').2 _ hjm rfl
    · rw [List.mem_iff_getElem?] at he'
      obtain ⟨m, hm⟩ := he'
      rw [List.getElem?_set] at hm
      split at hm
      · simp only [Option.some.injEq] at hm
        subst hm
        exact (h2 b' hb').2 _ hjm hf
      · exact (h2 b' hb').2 _ (List.mem_of_getElem? hm) hf

/-- one block's cells change -/
theorem St.blkSet {w0 w w' : World} {X : List Nat} {L R : List Ent} (h : St w0 X L R w) (j : Nat) {b : Nat} {c c' : List Value} {t : TypeId} (hj : L[j]? = some (.blk b c t))
    (hos : w'.os = w.os) (htape : w'.tape = w.tape) (hout : w'.output = w.output) (hsz : w'.heap.size = w.heap.size)
    (hb : w'.heap[b]? = some (.cells c'.toArray t (0, 0))) (hk : ∀ k, k ≠ b → w'.heap[k]? = w.heap[k]?) : St w0 X (L.set j (.blk b c' t)) R w' :=
  St.objSet (o := .cells c.toArray t (0, 0)) (o' := .cells c'.toArray t (0, 0)) h j hj hos htape hout hsz hb hk

/-- a new block -/
theorem St.newObj {w0 w : World} {X : List Nat} {L R : List Ent} (h : St w0 X L R w) (o : Obj) : St w0 X (.obj w.heap.size o :: L) R { w with heap := w.heap.push o } := by
  have g : St w [] [.obj w.heap.size o] [] { w with heap := w.heap.push o } := by
    refine ⟨rfl, rfl, rfl, by simp, fun k hk _ => ?_, ?_, .cons (fun _ h => (by cases h)) .nil, fun _ h => (by cases h)⟩
    · show (w.heap.push _)[k]? = _
      rw [Array.getElem?_push, if_neg (by omega)]
    · intro e he
      obtain rfl := List.mem_singleton.1 he
      refine ⟨?_, fun b hb => ?_⟩
      · show (w.heap.push _)[w.heap.size]? = _
        simp
      · obtain rfl : b = w.heap.size := hb
        exact ⟨by simp, .inr (Nat.le_refl _)⟩
  exact h.grown g
theorem St.new {w0 w : World} {X : List Nat} {L R : List Ent} (h : St w0 X L R w) (c : List Value) (t : TypeId) : St w0 X (.blk w.heap.size c t :: L) R { w with heap := w.heap.push (.cells c.toArray t) } := h.newObj (.cells c.toArray t)
theorem grow_new (w : World) (o : Obj) : Grow w { w with heap := w.heap.push o } :=
  ⟨rfl, rfl, rfl, by simp, fun k hk => by show (w.heap.push _)[k]? = _; rw [Array.getElem?_push, if_neg (by omega)]⟩
attribute [irreducible] wpS wpG
end Go.Mx
