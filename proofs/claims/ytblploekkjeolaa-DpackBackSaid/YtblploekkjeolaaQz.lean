/- Layer 21 (zq), plain laws: what the functions compute. -/
import Derived.Test.YtblploekkjeolaaDF0
import Derived.Test.YtblploekkjeolaaMq
set_option linter.unusedSimpArgs false
set_option linter.unusedVariables false
namespace Go.Proofs.Ytblploekkjeolaa
open Go Go.Mx
def fitQ (x : Int) : Bool := decide (0 ≤ x) && decide (x < 8380417)
theorem fitQ_iff {x : Int} : fitQ x = true ↔ 0 ≤ x ∧ x < 8380417 := by simp [fitQ]
theorem allA_rd {n : Nat} {p : Int → Bool} {a : Arr n} (h : allA p a = true) (i : Nat) (hi : i < n) : p (rd a i) = true := by
  unfold allA at h
  exact (of_decide_eq_true h) i hi

theorem zq_Fit_eq (K : Nat) (hK : 256 < K) (a : Arr 256) : zq_Fit.f K a = some (allA fitQ a) := by
  unfold zq_Fit.f
  rw [loop_all (n := 256) (fun k i => zq_Fit.l0 K k a i) fitQ false a ?_ ?_ ?_ K hK]
  · cases allA fitQ a <;> rfl
  · intro k i hi hp
    obtain ⟨h0, h1⟩ := fitQ_iff.1 hp
    simp only [zq_Fit.l0, show (i : Int) < 256 by omega, show (0 : Int) ≤ i by omega, if_true, Option.bind_some, show ¬ rd a i < 0 by omega, show ¬ rd a i ≥ 8380417 by omega, if_false, add64 (x := (i : Int)) (y := 1) (by omega) (by omega)]
    rfl
  · intro k i hi hp
    have hp' : ¬ (0 ≤ rd a i ∧ rd a i < 8380417) := fun h => by rw [fitQ_iff.2 h] at hp; cases hp
    simp only [zq_Fit.l0, show (i : Int) < 256 by omega, show (0 : Int) ≤ i by omega, if_true, Option.bind_some]
    by_cases h : rd a i < 0
    · rw [if_pos h]
    · rw [if_neg h, if_pos (by omega)]
  · intro k
    simp only [zq_Fit.l0, show ¬ ((256 : Nat) : Int) < 256 by omega, if_false]
/-- A polynomial that is fit. -/
def FitP (a : Arr 256) : Prop := ∀ i : Nat, i < 256 → 0 ≤ rd a i ∧ rd a i < 8380417
theorem fitP_of {a : Arr 256} (h : allA fitQ a = true) : FitP a := fun i hi => fitQ_iff.1 (allA_rd h i hi)
theorem of_fitP {a : Arr 256} (h : FitP a) : allA fitQ a = true := by
  unfold allA
  exact decide_eq_true fun i hi => fitQ_iff.2 (h i hi)
end Go.Proofs.Ytblploekkjeolaa
