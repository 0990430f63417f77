/- Own library of this work (17): a row's arguments that are structs of single cells, or slices of rows of numbers. -/
import Derived.Test.YtmpagpbnpgcecaaMk
import Derived.OpenShut
set_option linter.unusedSimpArgs false
set_option linter.unusedVariables false
namespace Go.Mx
open Go.RowKit Go.ChangeShapes Go.WideShapes Go.ChangeAt
theorem list_of {α : Type} {p : Nat → α → Prop} : ∀ m : Nat, (∀ i, i < m → ∃ x, p i x) → ∃ l : List α, l.length = m ∧ ∀ (i : Nat) (h : i < l.length), p i l[i]
  | 0, _ => ⟨[], rfl, fun i h => by simp at h⟩
  | m + 1, h => by
    obtain ⟨l, h1, h2⟩ := list_of m fun i hi => h i (by omega)
    obtain ⟨x, hx⟩ := h m (by omega)
    refine ⟨l ++ [x], by simp [h1], fun i hi => ?_⟩
    by_cases hm : i < l.length
    · rw [List.getElem_append_left hm]; exact h2 i hm
    · have : i = l.length := by simp at hi; omega
      subst this
      rw [List.getElem_append_right (Nat.le_refl _)]
      simp only [Nat.sub_self, List.getElem_singleton]
      rw [h1]; exact hx
end Go.Mx
