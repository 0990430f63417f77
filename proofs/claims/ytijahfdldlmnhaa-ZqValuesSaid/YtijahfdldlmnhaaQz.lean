/- Layer 21 (zq), plain laws: what the functions compute. -/
import Derived.Test.YtijahfdldlmnhaaF0
import Derived.Test.YtijahfdldlmnhaaMq
set_option linter.unusedSimpArgs false
set_option linter.unusedVariables false
namespace Go.Proofs.Ytijahfdldlmnhaa
open Go Go.Mx
def fitQ (x : Int) : Bool := decide (0 ≤ x) && decide (x < 8380417)
theorem fitQ_iff {x : Int} : fitQ x = true ↔ 0 ≤ x ∧ x < 8380417 := by simp [fitQ]
theorem allA_rd {n : Nat} {p : Int → Bool} {a : Arr n} (h : allA p a = true) (i : Nat) (hi : i < n) : p (rd a i) = true := by
  unfold allA at h
  exact (of_decide_eq_true h) i hi

theorem zq_plus_eq (K : Nat) {x y : Int} (hx0 : 0 ≤ x) (hx : x < 8380417) (hy0 : 0 ≤ y) (hy : y < 8380417) : zq_plus.f K x y = some ((x + y) % 8380417) := by
  unfold zq_plus.f
  simp only [Option.bind_some]
  rw [add32 (by omega) (by omega)]
  split
  · rw [sub32 (by omega) (by omega)]
    simp only [Option.bind_some, Option.some.injEq]
    omega
  · simp only [Option.bind_some, Option.some.injEq]
    omega
theorem zq_minus_eq (K : Nat) {x y : Int} (hx0 : 0 ≤ x) (hx : x < 8380417) (hy0 : 0 ≤ y) (hy : y < 8380417) : zq_minus.f K x y = some ((x - y) % 8380417) := by
  unfold zq_minus.f
  simp only [Option.bind_some]
  rw [sub32 (by omega) (by omega)]
  split
  · rw [add32 (by omega) (by omega)]
    simp only [Option.bind_some, Option.some.injEq]
    omega
  · simp only [Option.bind_some, Option.some.injEq]
    omega
theorem mul_bounds {x y : Int} (hx0 : 0 ≤ x) (hx : x < 8380417) (hy0 : 0 ≤ y) (hy : y < 8380417) : 0 ≤ x * y ∧ x * y ≤ 70231389093889 := by
  refine ⟨Int.mul_nonneg hx0 hy0, ?_⟩
  calc x * y ≤ 8380417 * y := Int.mul_le_mul_of_nonneg_right (by omega) hy0
    _ ≤ 8380417 * 8380417 := Int.mul_le_mul_of_nonneg_left (by omega) (by omega)
    _ = 70231389093889 := by decide
theorem zq_times_eq (K : Nat) {x y : Int} (hx0 : 0 ≤ x) (hx : x < 8380417) (hy0 : 0 ≤ y) (hy : y < 8380417) : zq_times.f K x y = some (x * y % 8380417) := by
  unfold zq_times.f
  obtain ⟨h0, h1⟩ := mul_bounds hx0 hx hy0 hy
  rw [conv64 (by omega) (by omega), conv64 (by omega) (by omega), mul64 (by omega) (by omega)]
  unfold irem
  rw [tmodN h0, conv32 (by omega) (by omega)]
  rfl
theorem ref21_mod_eq (K : Nat) {x : Int} (h0 : -1000000000000000000 ≤ x) (h1 : x ≤ 1000000000000000000) : ref21_mod.f K x = some (x % 8380417) := by
  unfold ref21_mod.f irem
  have h2 := Int.tmod_def x 8380417
  have h3 : -8380417 < x.tmod 8380417 ∧ x.tmod 8380417 < 8380417 := ⟨by have := Int.lt_tmod_of_pos x (b := 8380417) (by decide); omega, Int.tmod_lt_of_pos x (by decide)⟩
  rw [add64 (by omega) (by omega), tmodN (by omega), conv32 (by omega) (by omega)]
  simp only [Option.bind_some, Option.some.injEq]
  rw [Int.add_emod_right]
  rw [h2, Int.sub_emod, Int.mul_emod_right]
  simp

theorem zq_Fit_eq (K : Nat) (hK : 256 < K) (a : Arr 256) : zq_Fit.f K a = some (allA fitQ a) := by
  unfold zq_Fit.f
  rw [loop_all (n := 256) (fun k i => zq_Fit.l0 K k a i) fitQ false a ?_ ?_ ?_ K hK]
  · cases allA fitQ a <;> rfl
  · intro k i hi hp
    obtain ⟨h0, h1⟩ := fitQ_iff.1 hp
    simp only [zq_Fit.l0, show (i : Int) < 256 by omega, show (0 : Int) ≤ i by omega, if_true, Option.bind_some, show ¬ rd a i < 0 by omega, show ¬ rd a i ≥ 8380417 by omega, if_false, add64 (x := (i : Int)) (y := 1) (by omega) (by omega)]
    rfl
  · intro k i hi hp
    have hp' : ¬ (0 ≤ rd a i ∧ rd a i < 8380417) := fun h => by rw [fitQ_iff.2 h] at hp; cases hp
    simp only [zq_Fit.l0, show (i : Int) < 256 by omega, show (0 : Int) ≤ i by omega, if_true, Option.bind_some]
    by_cases h : rd a i < 0
    · rw [if_pos h]
    · rw [if_neg h, if_pos (by omega)]
  · intro k
    simp only [zq_Fit.l0, show ¬ ((256 : Nat) : Int) < 256 by omega, if_false]
theorem ref21_Fit_eq (K : Nat) (hK : 256 < K) (a : Arr 256) : ref21_Fit.f K a = some (allA fitQ a) := by
  unfold ref21_Fit.f
  rw [loop_all (n := 256) (fun k i => ref21_Fit.l0 K k a i) fitQ false a ?_ ?_ ?_ K hK]
  · cases allA fitQ a <;> rfl
  · intro k i hi hp
    obtain ⟨h0, h1⟩ := fitQ_iff.1 hp
    simp only [ref21_Fit.l0, show (i : Int) < 256 by omega, show (0 : Int) ≤ i by omega, if_true, Option.bind_some, show ¬ rd a i < 0 by omega, show ¬ rd a i ≥ 8380417 by omega, if_false, add64 (x := (i : Int)) (y := 1) (by omega) (by omega)]
    rfl
  · intro k i hi hp
    have hp' : ¬ (0 ≤ rd a i ∧ rd a i < 8380417) := fun h => by rw [fitQ_iff.2 h] at hp; cases hp
    simp only [ref21_Fit.l0, show (i : Int) < 256 by omega, show (0 : Int) ≤ i by omega, if_true, Option.bind_some]
    by_cases h : rd a i < 0
    · rw [if_pos h]
    · rw [if_neg h, if_pos (by omega)]
  · intro k
    simp only [ref21_Fit.l0, show ¬ ((256 : Nat) : Int) < 256 by omega, if_false]

/-- A polynomial that is fit. -/
def FitP (a : Arr 256) : Prop := ∀ i : Nat, i < 256 → 0 ≤ rd a i ∧ rd a i < 8380417
theorem fitP_of {a : Arr 256} (h : allA fitQ a = true) : FitP a := fun i hi => fitQ_iff.1 (allA_rd h i hi)
theorem of_fitP {a : Arr 256} (h : FitP a) : allA fitQ a = true := by
  unfold allA
  exact decide_eq_true fun i hi => fitQ_iff.2 (h i hi)
def padd (a b : Arr 256) : Arr 256 := mapA 256 fun i => (rd a i + rd b i) % 8380417
def psub (a b : Arr 256) : Arr 256 := mapA 256 fun i => (rd a i - rd b i) % 8380417
def pmul (a b : Arr 256) : Arr 256 := mapA 256 fun i => (rd a i * rd b i) % 8380417
theorem fit_map {f : Nat → Int} (h : ∀ i : Nat, i < 256 → 0 ≤ f i ∧ f i < 8380417) : FitP (mapA 256 f) := fun i hi => by rw [rd_mapA _ _ hi]; exact h i hi
theorem fit_padd (a b : Arr 256) : FitP (padd a b) := fit_map fun i _ => by omega
theorem fit_psub (a b : Arr 256) : FitP (psub a b) := fit_map fun i _ => by omega
theorem fit_pmul (a b : Arr 256) : FitP (pmul a b) := fit_map fun i _ => ⟨Int.emod_nonneg _ (by decide), Int.emod_lt_of_pos _ (by decide)⟩

theorem zq_Add_eq (K : Nat) (hK : 256 < K) (a b : Arr 256) (ha : FitP a) (hb : FitP b) : zq_Add.f K a b = some (padd a b) := by
  unfold zq_Add.f
  rw [loop_map (n := 256) (fun k i z => zq_Add.l0 K k b i z) (fun i x => (x + rd b i) % 8380417) a ?_ ?_ K hK]
  · rfl
  · intro k i z hi hz
    obtain ⟨h0, h1⟩ := ha i hi
    obtain ⟨h2, h3⟩ := hb i hi
    simp only [zq_Add.l0, show (i : Int) < 256 by omega, show (0 : Int) ≤ i by omega, if_true, hz, zq_plus_eq K h0 h1 h2 h3, Option.bind_some, add64 (x := (i : Int)) (y := 1) (by omega) (by omega)]
    rfl
  · intro k z
    simp only [zq_Add.l0, show ¬ ((256 : Nat) : Int) < 256 by omega, if_false]
theorem zq_Sub_eq (K : Nat) (hK : 256 < K) (a b : Arr 256) (ha : FitP a) (hb : FitP b) : zq_Sub.f K a b = some (psub a b) := by
  unfold zq_Sub.f
  rw [loop_map (n := 256) (fun k i z => zq_Sub.l0 K k b i z) (fun i x => (x - rd b i) % 8380417) a ?_ ?_ K hK]
  · rfl
  · intro k i z hi hz
    obtain ⟨h0, h1⟩ := ha i hi
    obtain ⟨h2, h3⟩ := hb i hi
    simp only [zq_Sub.l0, show (i : Int) < 256 by omega, show (0 : Int) ≤ i by omega, if_true, hz, zq_minus_eq K h0 h1 h2 h3, Option.bind_some, add64 (x := (i : Int)) (y := 1) (by omega) (by omega)]
    rfl
  · intro k z
    simp only [zq_Sub.l0, show ¬ ((256 : Nat) : Int) < 256 by omega, if_false]
theorem zq_Mul_eq (K : Nat) (hK : 256 < K) (a b : Arr 256) (ha : FitP a) (hb : FitP b) : zq_Mul.f K a b = some (pmul a b) := by
  unfold zq_Mul.f
  rw [loop_map (n := 256) (fun k i z => zq_Mul.l0 K k b i z) (fun i x => (x * rd b i) % 8380417) a ?_ ?_ K hK]
  · rfl
  · intro k i z hi hz
    obtain ⟨h0, h1⟩ := ha i hi
    obtain ⟨h2, h3⟩ := hb i hi
    simp only [zq_Mul.l0, show (i : Int) < 256 by omega, show (0 : Int) ≤ i by omega, if_true, hz, zq_times_eq K h0 h1 h2 h3, Option.bind_some, add64 (x := (i : Int)) (y := 1) (by omega) (by omega)]
    rfl
  · intro k z
    simp only [zq_Mul.l0, show ¬ ((256 : Nat) : Int) < 256 by omega, if_false]
theorem ref21_Add_eq (K : Nat) (hK : 256 < K) (a b : Arr 256) (ha : FitP a) (hb : FitP b) : ref21_Add.f K a b = some (padd a b) := by
  unfold ref21_Add.f
  rw [loop_map (n := 256) (fun k i z => ref21_Add.l0 K k b i z) (fun i x => (x + rd b i) % 8380417) a ?_ ?_ K hK]
  · rfl
  · intro k i z hi hz
    obtain ⟨h0, h1⟩ := ha i hi
    obtain ⟨h2, h3⟩ := hb i hi
    simp only [ref21_Add.l0, show (i : Int) < 256 by omega, show (0 : Int) ≤ i by omega, if_true, hz]
    rw [conv64 (x := rd a i) (by omega) (by omega), conv64 (x := rd b i) (by omega) (by omega), add64 (by omega) (by omega), ref21_mod_eq K (by omega) (by omega)]
    simp only [Option.bind_some, add64 (x := (i : Int)) (y := 1) (by omega) (by omega)]
    rfl
  · intro k z
    simp only [ref21_Add.l0, show ¬ ((256 : Nat) : Int) < 256 by omega, if_false]
theorem ref21_Sub_eq (K : Nat) (hK : 256 < K) (a b : Arr 256) (ha : FitP a) (hb : FitP b) : ref21_Sub.f K a b = some (psub a b) := by
  unfold ref21_Sub.f
  rw [loop_map (n := 256) (fun k i z => ref21_Sub.l0 K k b i z) (fun i x => (x - rd b i) % 8380417) a ?_ ?_ K hK]
  · rfl
  · intro k i z hi hz
    obtain ⟨h0, h1⟩ := ha i hi
    obtain ⟨h2, h3⟩ := hb i hi
    simp only [ref21_Sub.l0, show (i : Int) < 256 by omega, show (0 : Int) ≤ i by omega, if_true, hz]
    rw [conv64 (x := rd a i) (by omega) (by omega), conv64 (x := rd b i) (by omega) (by omega), sub64 (by omega) (by omega), ref21_mod_eq K (by omega) (by omega)]
    simp only [Option.bind_some, add64 (x := (i : Int)) (y := 1) (by omega) (by omega)]
    rfl
  · intro k z
    simp only [ref21_Sub.l0, show ¬ ((256 : Nat) : Int) < 256 by omega, if_false]
theorem ref21_Mul_eq (K : Nat) (hK : 256 < K) (a b : Arr 256) (ha : FitP a) (hb : FitP b) : ref21_Mul.f K a b = some (pmul a b) := by
  unfold ref21_Mul.f
  rw [loop_map (n := 256) (fun k i z => ref21_Mul.l0 K k b i z) (fun i x => (x * rd b i) % 8380417) a ?_ ?_ K hK]
  · rfl
  · intro k i z hi hz
    obtain ⟨h0, h1⟩ := ha i hi
    obtain ⟨h2, h3⟩ := hb i hi
    obtain ⟨h4, h5⟩ := mul_bounds h0 h1 h2 h3
    simp only [ref21_Mul.l0, show (i : Int) < 256 by omega, show (0 : Int) ≤ i by omega, if_true, hz]
    rw [conv64 (x := rd a i) (by omega) (by omega), conv64 (x := rd b i) (by omega) (by omega), mul64 (by omega) (by omega)]
    unfold irem
    rw [tmodN h4, conv32 (by omega) (by omega)]
    simp only [Option.bind_some, add64 (x := (i : Int)) (y := 1) (by omega) (by omega)]
    rfl
  · intro k z
    simp only [ref21_Mul.l0, show ¬ ((256 : Nat) : Int) < 256 by omega, if_false]

/-- The greatest distance from 0. -/
def amt (x : Int) : Int := if x > 4190208 then 8380417 - x else x
def pnorm (a : Arr 256) : Int := (List.range 256).foldl (fun s i => imax s (amt (rd a (i : Nat)))) 0
theorem zq_Norm_eq (K : Nat) (hK : 256 < K) (a : Arr 256) (ha : FitP a) : zq_Norm.f K a = some (pnorm a) := by
  unfold zq_Norm.f
  rw [loop_fold (fun k s i => zq_Norm.l0 K k a s i) (fun s i => imax s (amt (rd a (i : Nat)))) 256 ?_ ?_ K hK]
  · rfl
  · intro k i s hi
    obtain ⟨h0, h1⟩ := ha i hi
    have e : imin (rd a i) (isub .i32 8380417 (rd a i)) = amt (rd a i) := by
      rw [sub32 (by omega) (by omega)]
      unfold imin amt
      split <;> split <;> omega
    simp only [zq_Norm.l0, show (i : Int) < 256 by omega, show (0 : Int) ≤ i by omega, if_true, Option.bind_some, e, add64 (x := (i : Int)) (y := 1) (by omega) (by omega)]
    rfl
  · intro k s
    simp only [zq_Norm.l0, show ¬ ((256 : Nat) : Int) < 256 by omega, if_false]
theorem ref21_Norm_eq (K : Nat) (hK : 256 < K) (a : Arr 256) (ha : FitP a) : ref21_Norm.f K a = some (pnorm a) := by
  unfold ref21_Norm.f
  rw [loop_fold (fun k s i => ref21_Norm.l0 K k a s i) (fun s i => imax s (amt (rd a (i : Nat)))) 256 ?_ ?_ K hK]
  · rfl
  · intro k i s hi
    obtain ⟨h0, h1⟩ := ha i hi
    have e : ref21_Amount.f K (rd a i) = some (amt (rd a i)) := by
      unfold ref21_Amount.f amt
      split
      · rw [sub32 (by omega) (by omega)]; rfl
      · rfl
    simp only [ref21_Norm.l0, show (i : Int) < 256 by omega, show (0 : Int) ≤ i by omega, if_true, Option.bind_some, e, add64 (x := (i : Int)) (y := 1) (by omega) (by omega)]
    rfl
  · intro k s
    simp only [ref21_Norm.l0, show ¬ ((256 : Nat) : Int) < 256 by omega, if_false]
end Go.Proofs.Ytijahfdldlmnhaa
