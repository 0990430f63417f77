/- Layer 1 (bits), plain laws: the document's bytes of numbers; texts that are the same. -/
import Derived.Test.YtblploekkjeolaaKf
set_option linter.unusedSimpArgs false
set_option linter.unusedVariables false
namespace Go.Proofs.Ytblploekkjeolaa
open Go Go.Mx
/-! ### texts that are the same -/
theorem ref01_Same_l0 (K : Nat) (a : List Int) (ha : a.length ≤ 9223372036854775807) : ∀ (r i k : Nat), i + r = a.length → r < k → ref01_Same.l0 K k a a (i : Int) = some (.inl ()) := by
  intro r
  induction r with
  | zero =>
    intro i k hi hk
    obtain ⟨k, rfl⟩ : ∃ m, k = m + 1 := ⟨k - 1, by omega⟩
    simp only [ref01_Same.l0, show ¬ (i : Int) < (a.length : Int) by omega, if_false]
  | succ r ih =>
    intro i k hi hk
    obtain ⟨k, rfl⟩ : ∃ m, k = m + 1 := ⟨k - 1, by omega⟩
    have e4 : iadd .i64 (i : Int) 1 = ((i + 1 : Nat) : Int) := by rw [add64 (by omega) (by omega)]; rfl
    simp only [ref01_Same.l0, show (i : Int) < (a.length : Int) by omega, if_true, show (0 : Int) ≤ (i : Int) by omega, Option.bind_some, e4]
    exact ih (i + 1) k (by omega) (by omega)
theorem ref01_Same_self (K : Nat) (a : List Int) (ha : a.length ≤ 9223372036854775807) (hK : a.length < K) : ref01_Same.f K a a = some true := by
  unfold ref01_Same.f
  rw [if_pos rfl]
  have := ref01_Same_l0 K a ha a.length 0 K (by omega) hK
  have h0 : ((0 : Nat) : Int) = 0 := rfl
  rw [h0] at this
  rw [this]
  rfl
end Go.Proofs.Ytblploekkjeolaa
