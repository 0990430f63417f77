/- Layer 21 (zq), plain laws: what the functions compute. -/
import Derived.Test.YtblploekkjeolaaDF0
import Derived.Test.YtblploekkjeolaaMq
set_option linter.unusedSimpArgs false
set_option linter.unusedVariables false
namespace Go.Proofs.Ytblploekkjeolaa
open Go Go.Mx
def fitQ (x : Int) : Bool := decide (0 ≤ x) && decide (x < 8380417)
theorem fitQ_iff {x : Int} : fitQ x = true ↔ 0 ≤ x ∧ x < 8380417 := by simp [fitQ]
theorem allA_rd {n : Nat} {p : Int → Bool} {a : Arr n} (h : allA p a = true) (i : Nat) (hi : i < n) : p (rd a i) = true := by
  unfold allA at h
  exact (of_decide_eq_true h) i hi

theorem mul_bounds {x y : Int} (hx0 : 0 ≤ x) (hx : x < 8380417) (hy0 : 0 ≤ y) (hy : y < 8380417) : 0 ≤ x * y ∧ x * y ≤ 70231389093889 := by
  refine ⟨Int.mul_nonneg hx0 hy0, ?_⟩
  calc x * y ≤ 8380417 * y := Int.mul_le_mul_of_nonneg_right (by omega) hy0
    _ ≤ 8380417 * 8380417 := Int.mul_le_mul_of_nonneg_left (by omega) (by omega)
    _ = 70231389093889 := by decide
theorem zq_Fit_eq (K : Nat) (hK : 256 < K) (a : Arr 256) : zq_Fit.f K a = some (allA fitQ a) := by
  unfold zq_Fit.f
  rw [loop_all (n := 256) (fun k i => zq_Fit.l0 K k a i) fitQ false a ?_ ?_ ?_ K hK]
  · cases allA fitQ a <;> rfl
  · intro k i hi hp
    obtain ⟨h0, h1⟩ := fitQ_iff.1 hp
    simp only [zq_Fit.l0, show (i : Int) < 256 by omega, show (0 : Int) ≤ i by omega, if_true, Option.bind_some, show ¬ rd a i < 0 by omega, show ¬ rd a i ≥ 8380417 by omega, if_false, add64 (x := (i : Int)) (y := 1) (by omega) (by omega)]
    rfl
  · intro k i hi hp
    have hp' : ¬ (0 ≤ rd a i ∧ rd a i < 8380417) := fun h => by rw [fitQ_iff.2 h] at hp; cases hp
    simp only [zq_Fit.l0, show (i : Int) < 256 by omega, show (0 : Int) ≤ i by omega, if_true, Option.bind_some]
    by_cases h : rd a i < 0
    · rw [if_pos h]
    · rw [if_neg h, if_pos (by omega)]
  · intro k
    simp only [zq_Fit.l0, show ¬ ((256 : Nat) : Int) < 256 by omega, if_false]
theorem ref21_Fit_eq (K : Nat) (hK : 256 < K) (a : Arr 256) : ref21_Fit.f K a = some (allA fitQ a) := by
  unfold ref21_Fit.f
  rw [loop_all (n := 256) (fun k i => ref21_Fit.l0 K k a i) fitQ false a ?_ ?_ ?_ K hK]
  · cases allA fitQ a <;> rfl
  · intro k i hi hp
    obtain ⟨h0, h1⟩ := fitQ_iff.1 hp
    simp only [ref21_Fit.l0, show (i : Int) < 256 by omega, show (0 : Int) ≤ i by omega, if_true, Option.bind_some, show ¬ rd a i < 0 by omega, show ¬ rd a i ≥ 8380417 by omega, if_false, add64 (x := (i : Int)) (y := 1) (by omega) (by omega)]
    rfl
  · intro k i hi hp
    have hp' : ¬ (0 ≤ rd a i ∧ rd a i < 8380417) := fun h => by rw [fitQ_iff.2 h] at hp; cases hp
    simp only [ref21_Fit.l0, show (i : Int) < 256 by omega, show (0 : Int) ≤ i by omega, if_true, Option.bind_some]
    by_cases h : rd a i < 0
    · rw [if_pos h]
    · rw [if_neg h, if_pos (by omega)]
  · intro k
    simp only [ref21_Fit.l0, show ¬ ((256 : Nat) : Int) < 256 by omega, if_false]

/-- A polynomial that is fit. -/
def FitP (a : Arr 256) : Prop := ∀ i : Nat, i < 256 → 0 ≤ rd a i ∧ rd a i < 8380417
theorem fitP_of {a : Arr 256} (h : allA fitQ a = true) : FitP a := fun i hi => fitQ_iff.1 (allA_rd h i hi)
theorem of_fitP {a : Arr 256} (h : FitP a) : allA fitQ a = true := by
  unfold allA
  exact decide_eq_true fun i hi => fitQ_iff.2 (h i hi)
def padd (a b : Arr 256) : Arr 256 := mapA 256 fun i => (rd a i + rd b i) % 8380417
def psub (a b : Arr 256) : Arr 256 := mapA 256 fun i => (rd a i - rd b i) % 8380417
def pmul (a b : Arr 256) : Arr 256 := mapA 256 fun i => (rd a i * rd b i) % 8380417
theorem fit_map {f : Nat → Int} (h : ∀ i : Nat, i < 256 → 0 ≤ f i ∧ f i < 8380417) : FitP (mapA 256 f) := fun i hi => by rw [rd_mapA _ _ hi]; exact h i hi
theorem fit_padd (a b : Arr 256) : FitP (padd a b) := fit_map fun i _ => by omega
theorem fit_psub (a b : Arr 256) : FitP (psub a b) := fit_map fun i _ => by omega
theorem fit_pmul (a b : Arr 256) : FitP (pmul a b) := fit_map fun i _ => ⟨Int.emod_nonneg _ (by decide), Int.emod_lt_of_pos _ (by decide)⟩

/-- The greatest distance from 0. -/
def amt (x : Int) : Int := if x > 4190208 then 8380417 - x else x
def pnorm (a : Arr 256) : Int := (List.range 256).foldl (fun s i => imax s (amt (rd a (i : Nat)))) 0
end Go.Proofs.Ytblploekkjeolaa
