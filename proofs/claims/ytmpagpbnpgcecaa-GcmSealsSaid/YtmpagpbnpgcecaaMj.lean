/- Own library of this work (16): an element's element; a call that is followed in place; a loop that its function's return leaves. -/
import Derived.Test.YtmpagpbnpgcecaaMi
set_option linter.unusedSimpArgs false
set_option linter.unusedVariables false
namespace Go.Mx
open Go.RowKit
section
variable {P : Program} {ops : Array Oper} {K Kn : Act → World → Prop} {a : Act} {w w' : World} {i : Nat} {w0 : World} {X : List Nat} {L R : List Ent} {Q : Exit → Act → World → Prop}
/-! ### an element's element -/
/-! ### a call that is followed in place -/
theorem op_inline {d : Option Tmp} (hd : dstAt ops i = d) {f : FuncId} {args : Array Value} (he : ∀ w, (execAt ops i a).run P w = .ok (.enter f args) w)
    (h : ∀ R' : Ending → World → Prop, (∀ v w', K (a.put d v) w' → R' (.returned v) w') → Calls P f args w R') : wpOp P ops (NoP Kn) i K a w :=
  wpOp_call hd he (h (fun e w' => ∃ v, e = .returned v ∧ K (a.put d v) w') fun v w' hk => ⟨v, rfl, hk⟩) fun _ _ hr => hr
/-! ### is a slice nil? -/
theorem yld_nilS {T : Type} {C : Cod T} {t e n c : Nat} {A : Option Addr} {l : List T} (xo yo : Operand) (hr : RowL C w A n c l) (hn : l = [] → A = none)
    (he : execAt ops i a = nextV (do eqGuard .eql t xo yo (.slice A n c) (.slice none 0 0); binOp .eql t (.slice A n c) (.slice none 0 0))) (hq : P.eqGuardType P.depth t = false) (hu : P.underlying t = some (.slice e)) : Yld P ops Any i a w (.bool l.isEmpty) := by
  refine yld fun w' => ?_
  rw [he]
  refine run_nextV ?_
  refine (rb (x := ()) (w' := w') ?_).trans ?_
  · unfold eqGuard
    simp [hq]
  · show ((do pure (.bool (← Op.equal t (.slice A n c) (.slice none 0 0))) : Sem Value)).run P w' = _
    have hb : (Op.equal t (.slice A n c) (.slice none 0 0)).run P w' = .ok l.isEmpty w' := by
      unfold Op.equal Op.maxDepth
      unfold Op.equalIn
      rw [rb (run_underlying hu w')]
      cases A with
      | none =>
        have h1 := hr.length
        have h2 := hr.2.1
        have : l = [] := List.eq_nil_of_length_eq_zero (by have := h2.2 rfl; omega)
        subst this
        rfl
      | some x =>
        have : l ≠ [] := fun h => by cases hn h
        cases l with
        | nil => exact absurd rfl this
        | cons y l => rfl
    rw [rb hb]
    rfl
end
end Go.Mx
