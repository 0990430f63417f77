/- Layer 21 (zq), plain laws: what the functions compute. -/
import Derived.Test.YtppohhnfojalbaaDoorVF0
import Derived.Test.YtppohhnfojalbaaDoorVFDsampBounds
import Derived.Test.YtppohhnfojalbaaDoorMq
set_option linter.unusedSimpArgs false
set_option linter.unusedVariables false
namespace Go.Proofs.YtppohhnfojalbaaDoor
open Go Go.Mx
def fitQ (x : Int) : Bool := decide (0 ≤ x) && decide (x < 8380417)
theorem fitQ_iff {x : Int} : fitQ x = true ↔ 0 ≤ x ∧ x < 8380417 := by simp [fitQ]
theorem ref21_Fit_eq (K : Nat) (hK : 256 < K) (a : Arr 256) : ref21_Fit.f K a = some (allA fitQ a) := by
  unfold ref21_Fit.f
  rw [loop_all (n := 256) (fun k i => ref21_Fit.l0 K k a i) fitQ false a ?_ ?_ ?_ K hK]
  · cases allA fitQ a <;> rfl
  · intro k i hi hp
    obtain ⟨h0, h1⟩ := fitQ_iff.1 hp
    simp only [ref21_Fit.l0, show (i : Int) < 256 by omega, show (0 : Int) ≤ i by omega, if_true, Option.bind_some, show ¬ rd a i < 0 by omega, show ¬ rd a i ≥ 8380417 by omega, if_false, add64 (x := (i : Int)) (y := 1) (by omega) (by omega)]
    rfl
  · intro k i hi hp
    have hp' : ¬ (0 ≤ rd a i ∧ rd a i < 8380417) := fun h => by rw [fitQ_iff.2 h] at hp; cases hp
    simp only [ref21_Fit.l0, show (i : Int) < 256 by omega, show (0 : Int) ≤ i by omega, if_true, Option.bind_some]
    by_cases h : rd a i < 0
    · rw [if_pos h]
    · rw [if_neg h, if_pos (by omega)]
  · intro k
    simp only [ref21_Fit.l0, show ¬ ((256 : Nat) : Int) < 256 by omega, if_false]

/-- A polynomial that is fit. -/
def FitP (a : Arr 256) : Prop := ∀ i : Nat, i < 256 → 0 ≤ rd a i ∧ rd a i < 8380417
theorem of_fitP {a : Arr 256} (h : FitP a) : allA fitQ a = true := by
  unfold allA
  exact decide_eq_true fun i hi => fitQ_iff.2 (h i hi)
/-- The greatest distance from 0. -/
def amt (x : Int) : Int := if x > 4190208 then 8380417 - x else x
def pnorm (a : Arr 256) : Int := (List.range 256).foldl (fun s i => imax s (amt (rd a (i : Nat)))) 0
theorem ref21_Norm_eq (K : Nat) (hK : 256 < K) (a : Arr 256) (ha : FitP a) : ref21_Norm.f K a = some (pnorm a) := by
  unfold ref21_Norm.f
  rw [loop_fold (fun k s i => ref21_Norm.l0 K k a s i) (fun s i => imax s (amt (rd a (i : Nat)))) 256 ?_ ?_ K hK]
  · rfl
  · intro k i s hi
    obtain ⟨h0, h1⟩ := ha i hi
    have e : ref21_Amount.f K (rd a i) = some (amt (rd a i)) := by
      unfold ref21_Amount.f amt
      split
      · rw [sub32 (by omega) (by omega)]; rfl
      · rfl
    simp only [ref21_Norm.l0, show (i : Int) < 256 by omega, show (0 : Int) ≤ i by omega, if_true, Option.bind_some, e, add64 (x := (i : Int)) (y := 1) (by omega) (by omega)]
    rfl
  · intro k s
    simp only [ref21_Norm.l0, show ¬ ((256 : Nat) : Int) < 256 by omega, if_false]
end Go.Proofs.YtppohhnfojalbaaDoor
