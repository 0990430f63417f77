/- Layer 21 (zq), plain laws: the document's transform and product are those. -/
import Derived.Test.YtijahfdldlmnhaaQd
import Derived.Test.YtijahfdldlmnhaaQf
set_option linter.unusedSimpArgs false
set_option linter.unusedVariables false
set_option maxRecDepth 100000
namespace Go.Proofs.Ytijahfdldlmnhaa
open Go Go.Mx
theorem brv8_lt (j : Nat) : brv8 j < 256 := by unfold brv8; omega
theorem bind1 {A B C : Type} {x : A} {f : A → Option B} {g : B → Option C} {y : B} {r : Option C} (h : f x = some y) (k : g y = r) : ((some x).bind fun r3 => (f r3).bind g) = r := by
  simp only [Option.bind_some, h, k]
theorem c_pow512 : Cg Q (1753 ^ 512) 1 := .of (by decide +kernel)
theorem pow_mod (n : Nat) : Cg Q (1753 ^ (n % 512)) (1753 ^ n) := by
  have e : (1753 : Int) ^ n = (1753 ^ 512) ^ (n / 512) * 1753 ^ (n % 512) := by
    rw [← Int.pow_mul, ← Int.pow_add]
    congr 1
    omega
  rw [e]
  have := (c_pow512.pow (n / 512)).mul (Cg.refl (M := Q) (1753 ^ (n % 512)))
  rw [Int.one_pow, Int.one_mul] at this
  exact this.symm
theorem nat_pow (n : Nat) : Cg Q ((1753 ^ n % 8380417 : Nat) : Int) (1753 ^ n) := by
  rw [Int.natCast_emod, Int.natCast_pow]
  exact Cg.mod _ _
theorem rd_pow (n : Nat) : Cg Q (rd powA ((n % 512 : Nat) : Int)) (1753 ^ n) := by
  unfold powA
  rw [rd_mapA _ _ (by omega)]
  exact (nat_pow _).trans (pow_mod n)
theorem rho_z {j : Nat} (hj : j < 256) : Cg Q (rhoR (256 + j)) (1753 ^ omR j) := (Cg.of (ck_om j hj)).trans (nat_pow _)
theorem iota_z {j : Nat} (hj : j < 256) : Cg Q (iotaR (256 + j)) (1753 ^ (512 - omR j)) := (Cg.of (ck_iom j hj)).trans (nat_pow _)
theorem pow_bd (n : Nat) : 0 ≤ rd powA ((n % 512 : Nat) : Int) ∧ rd powA ((n % 512 : Nat) : Int) < 8380417 := by
  unfold powA
  rw [rd_mapA _ _ (by omega)]
  have := Nat.mod_lt (1753 ^ (n % 512)) (show 8380417 > 0 by decide)
  omega
theorem acc_step {S x : Int} {i : Nat} (hi : i < 256) (h0 : 0 ≤ S) (h1 : S ≤ i * 8380417) (h2 : 0 ≤ x) (h3 : x ≤ 8380417) : iadd .i64 S x = S + x := by
  rw [add64 (by omega) (by omega)]
theorem term_bd {x y : Int} : 0 ≤ x * y % 8380417 ∧ x * y % 8380417 ≤ 8380417 := ⟨Int.emod_nonneg _ (by decide), Int.le_of_lt (Int.emod_lt_of_pos _ (by decide))⟩

/-! ### values -/
theorem ref_ntt_l1 (a : Arr 256) (ha : FitP a) (e : Nat) (he : e < 512) : ref21_Ntt.l1 KK KK a powA e 0 0 = some (sm 256 fun t => rd a (t : Nat) * rd powA ((e * t % 512 : Nat) : Int) % 8380417) := by
  refine loop_sum (fun k s i => ref21_Ntt.l1 KK k a powA e s i) _ 256 ?_ ?_ KK (by decide)
  · intro k t ht
    obtain ⟨a0, a1⟩ := ha t ht
    obtain ⟨p0, p1⟩ := pow_bd (e * t)
    obtain ⟨m0, m1⟩ := mul_bounds a0 a1 p0 p1
    obtain ⟨s0, s1⟩ := sm_bound (n := t) (f := fun t => rd a (t : Nat) * rd powA ((e * t % 512 : Nat) : Int) % 8380417) (B := 8380417) (fun i hi => term_bd)
    have het : e * t ≤ 512 * 256 := Nat.mul_le_mul (by omega) (by omega)
    have e1 : irem .i64 (imul .i64 (e : Int) (t : Int)) 512 = ((e * t % 512 : Nat) : Int) := by
      have hc : (e : Int) * (t : Int) = ((e * t : Nat) : Int) := by rw [Int.natCast_mul]
      rw [mul64 (by rw [hc]; omega) (by rw [hc]; omega), hc]
      unfold irem
      rw [tmodN (by omega)]
      omega
    have e2 : irem .i64 (imul .i64 (iconv .i64 (rd a (t : Nat))) (rd powA ((e * t % 512 : Nat) : Int))) 8380417 = rd a (t : Nat) * rd powA ((e * t % 512 : Nat) : Int) % 8380417 := by
      rw [conv64 (by omega) (by omega), mul64 (by omega) (by omega)]
      unfold irem
      rw [tmodN m0]
    have h1 : (t : Int) < 256 := by omega
    have h2 : (0 : Int) ≤ t := by omega
    have h3 : (0 : Int) ≤ ((e * t % 512 : Nat) : Int) := by omega
    have h4 : ((e * t % 512 : Nat) : Int) < 512 := by omega
    obtain ⟨q0, q1⟩ := term_bd (x := rd a (t : Nat)) (y := rd powA ((e * t % 512 : Nat) : Int))
    have h5 := acc_step ht s0 s1 q0 q1
    have h6 : iadd .i64 (t : Int) 1 = ((t + 1 : Nat) : Int) := by rw [add64 (by omega) (by omega)]; rfl
    simp only [ref21_Ntt.l1, h1, h2, if_true, e1, Option.bind_some, h3, h4, e2, h5, h6]
    rfl
  · intro k s
    simp only [ref21_Ntt.l1, show ¬ ((256 : Nat) : Int) < 256 by omega, if_false]
theorem omR_lt (j : Nat) : omR j < 512 := by
  have := brv8_lt j
  unfold omR
  omega
theorem ref_ntt_val (a : Arr 256) (j : Nat) (hj : j < 256) : Cg Q (sm 256 fun t => rd a (t : Nat) * rd powA ((omR j * t % 512 : Nat) : Int) % 8380417) (sm 256 fun t => rd a (t : Nat) * rhoR (256 + j) ^ t) := by
  refine sm_cg fun t ht => (Cg.mod _ _).trans ((Cg.refl _).mul ((rd_pow _).trans ?_))
  rw [Int.pow_mul]
  exact ((rho_z hj).pow t).symm
theorem om_step {j : Nat} (hj : j < 256) : iadd .i64 (imul .i64 2 ((brv8 j : Nat) : Int)) 1 = ((omR j : Nat) : Int) := by
  have := brv8_lt j
  rw [mul64 (by omega) (by omega), add64 (by omega) (by omega)]
  unfold omR
  omega
theorem ref21_Ntt_eq (a : Arr 256) (ha : FitP a) : ref21_Ntt.f KK a = some (pntt a) := by
  rw [ref21_Ntt.f, ref21_powers_eq]
  have h0 : ref21_Ntt.l0 KK KK a powA 0 (zeroA 256) = some (mapA 256 fun j => (sm 256 fun t => rd a (t : Nat) * rd powA ((omR j * t % 512 : Nat) : Int) % 8380417) % 8380417) := by
    refine loop_map (n := 256) (fun k i z => ref21_Ntt.l0 KK k a powA i z) (fun j _ => (sm 256 fun t => rd a (t : Nat) * rd powA ((omR j * t % 512 : Nat) : Int) % 8380417) % 8380417) (zeroA 256) ?_ ?_ KK (by decide)
    · intro k j z hj hz
      have h1 : (j : Int) < 256 := by omega
      have h2 : (0 : Int) ≤ j := by omega
      have h6 : iadd .i64 (j : Int) 1 = ((j + 1 : Nat) : Int) := by rw [add64 (by omega) (by omega)]; rfl
      obtain ⟨s0, s1⟩ := sm_bound (n := 256) (f := fun t => rd a (t : Nat) * rd powA ((omR j * t % 512 : Nat) : Int) % 8380417) (B := 8380417) (fun i hi => term_bd)
      have h7 := ref_ntt_l1 a ha (omR j) (omR_lt j)
      generalize (sm 256 fun t => rd a (t : Nat) * rd powA ((omR j * t % 512 : Nat) : Int) % 8380417) = S at *
      have h8 : iconv .i32 (irem .i64 S 8380417) = S % 8380417 := by
        unfold irem
        rw [tmodN s0, conv32 (by omega) (by omega)]
      simp only [ref21_Ntt.l0, h1, h2, if_true, turned_eq hj, Option.bind_some, om_step hj, h7, h8, h6]
    · intro k z
      simp only [ref21_Ntt.l0, show ¬ ((256 : Nat) : Int) < 256 by omega, if_false]
  refine (bind1 (f := fun p => ref21_Ntt.l0 KK KK a p 0 (zeroA 256)) (g := fun y => some y) h0 rfl).trans ?_
  refine congrArg some (fit_eq (fit_map fun j hj => ⟨Int.emod_nonneg _ (by decide), Int.emod_lt_of_pos _ (by decide)⟩) (fit_pntt ha) fun j hj => ?_)
  rw [rd_mapA _ _ hj]
  exact (Cg.mod _ _).trans ((ref_ntt_val a j hj).trans (pntt_sum a j hj).symm)

/-! ### back -/
theorem ref_back_l1 (a : Arr 256) (ha : FitP a) (c : Nat) (hc : c < 256) : ref21_Back.l1 KK KK a powA c 0 0 = some (sm 256 fun j => rd a (j : Nat) * rd powA (((512 - omR j) * c % 512 : Nat) : Int) % 8380417) := by
  refine loop_sum (fun k s i => ref21_Back.l1 KK k a powA c s i) _ 256 ?_ ?_ KK (by decide)
  · intro k j hj
    obtain ⟨a0, a1⟩ := ha j hj
    obtain ⟨p0, p1⟩ := pow_bd ((512 - omR j) * c)
    obtain ⟨m0, m1⟩ := mul_bounds a0 a1 p0 p1
    obtain ⟨s0, s1⟩ := sm_bound (n := j) (f := fun j => rd a (j : Nat) * rd powA (((512 - omR j) * c % 512 : Nat) : Int) % 8380417) (B := 8380417) (fun i hi => term_bd)
    have hom := omR_lt j
    have het : omR j * c ≤ 512 * 256 := Nat.mul_le_mul (by omega) (by omega)
    have e1 : irem .i64 (isub .i64 512 (irem .i64 (imul .i64 ((omR j : Nat) : Int) (c : Int)) 512)) 512 = (((512 - omR j) * c % 512 : Nat) : Int) := by
      have hcc : ((omR j : Nat) : Int) * (c : Int) = ((omR j * c : Nat) : Int) := by rw [Int.natCast_mul]
      have hx : (512 - omR j) * c = 512 * c - omR j * c := Nat.sub_mul _ _ _
      have hle : omR j * c ≤ 512 * c := Nat.mul_le_mul_right _ (by omega)
      rw [mul64 (by rw [hcc]; omega) (by rw [hcc]; omega), hcc, hx]
      generalize omR j * c = y at *
      have i1 : irem .i64 (y : Int) 512 = ((y % 512 : Nat) : Int) := by
        unfold irem
        rw [tmodN (by omega)]
        omega
      rw [i1, sub64 (by omega) (by omega)]
      unfold irem
      rw [tmodN (by omega)]
      omega
    have e2 : irem .i64 (imul .i64 (iconv .i64 (rd a (j : Nat))) (rd powA (((512 - omR j) * c % 512 : Nat) : Int))) 8380417 = rd a (j : Nat) * rd powA (((512 - omR j) * c % 512 : Nat) : Int) % 8380417 := by
      rw [conv64 (by omega) (by omega), mul64 (by omega) (by omega)]
      unfold irem
      rw [tmodN m0]
    have h1 : (j : Int) < 256 := by omega
    have h2 : (0 : Int) ≤ j := by omega
    have h3 : (0 : Int) ≤ (((512 - omR j) * c % 512 : Nat) : Int) := by omega
    have h4 : (((512 - omR j) * c % 512 : Nat) : Int) < 512 := by omega
    obtain ⟨q0, q1⟩ := term_bd (x := rd a (j : Nat)) (y := rd powA (((512 - omR j) * c % 512 : Nat) : Int))
    have h5 := acc_step hj s0 s1 q0 q1
    have h6 : iadd .i64 (j : Int) 1 = ((j + 1 : Nat) : Int) := by rw [add64 (by omega) (by omega)]; rfl
    simp only [ref21_Back.l1, h1, h2, if_true, turned_eq hj, om_step hj, e1, Option.bind_some, h3, h4, e2, h5, h6]
    rfl
  · intro k s
    simp only [ref21_Back.l1, show ¬ ((256 : Nat) : Int) < 256 by omega, if_false]
theorem ref_back_val (a : Arr 256) (c : Nat) (hc : c < 256) : Cg Q (sm 256 fun j => rd a (j : Nat) * rd powA (((512 - omR j) * c % 512 : Nat) : Int) % 8380417) (sm 256 fun j => rd a (j : Nat) * iotaR (256 + j) ^ c) := by
  refine sm_cg fun j hj => (Cg.mod _ _).trans ((Cg.refl _).mul ((rd_pow _).trans ?_))
  rw [Int.pow_mul]
  exact ((iota_z hj).pow c).symm
theorem ref21_Back_eq (a : Arr 256) (ha : FitP a) : ref21_Back.f KK a = some (pback a) := by
  rw [ref21_Back.f, ref21_powers_eq]
  have h0 : ref21_Back.l0 KK KK a powA 0 (zeroA 256) = some (mapA 256 fun c => ((sm 256 fun j => rd a (j : Nat) * rd powA (((512 - omR j) * c % 512 : Nat) : Int) % 8380417) % 8380417) * 8347681 % 8380417) := by
    refine loop_map (n := 256) (fun k i z => ref21_Back.l0 KK k a powA i z) (fun c _ => ((sm 256 fun j => rd a (j : Nat) * rd powA (((512 - omR j) * c % 512 : Nat) : Int) % 8380417) % 8380417) * 8347681 % 8380417) (zeroA 256) ?_ ?_ KK (by decide)
    · intro k j z hj hz
      have h1 : (j : Int) < 256 := by omega
      have h2 : (0 : Int) ≤ j := by omega
      have h6 : iadd .i64 (j : Int) 1 = ((j + 1 : Nat) : Int) := by rw [add64 (by omega) (by omega)]; rfl
      obtain ⟨s0, s1⟩ := sm_bound (n := 256) (f := fun i => rd a (i : Nat) * rd powA (((512 - omR i) * j % 512 : Nat) : Int) % 8380417) (B := 8380417) (fun i hi => term_bd)
      have h7 := ref_back_l1 a ha j hj
      generalize (sm 256 fun i => rd a (i : Nat) * rd powA (((512 - omR i) * j % 512 : Nat) : Int) % 8380417) = S at *
      have h8 : iconv .i32 (irem .i64 (imul .i64 (irem .i64 S 8380417) 8347681) 8380417) = S % 8380417 * 8347681 % 8380417 := by
        unfold irem
        rw [tmodN s0, mul64 (by omega) (by omega), tmodN (by omega), conv32 (by omega) (by omega)]
      simp only [ref21_Back.l0, h1, h2, if_true, Option.bind_some, h7, h8, h6]
    · intro k z
      simp only [ref21_Back.l0, show ¬ ((256 : Nat) : Int) < 256 by omega, if_false]
  refine (bind1 (f := fun p => ref21_Back.l0 KK KK a p 0 (zeroA 256)) (g := fun y => some y) h0 rfl).trans ?_
  refine congrArg some (fit_eq (fit_map fun j hj => ⟨Int.emod_nonneg _ (by decide), Int.emod_lt_of_pos _ (by decide)⟩) (fit_pback a) fun j hj => ?_)
  unfold pback
  rw [rd_mapA _ _ hj, rd_mapA _ _ hj]
  exact (Cg.mod _ _).trans ((((Cg.mod _ _).trans ((ref_back_val a j hj).trans (nttB_sum a j hj).symm)).mul (.refl _)).trans (Cg.mod _ _).symm)

/-! ### products -/
def ev (c : Arr 512) (x : Int) : Int := sm 512 fun m => rd c (m : Nat) * x ^ m
def Fit5 (c : Arr 512) : Prop := ∀ i : Nat, i < 512 → 0 ≤ rd c i ∧ rd c i < 8380417
theorem ev_wr (c : Arr 512) (p : Nat) (hp : p < 512) (v x : Int) : ev (wr c (p : Nat) v) x = ev c x + (v - rd c (p : Nat)) * x ^ p := by
  unfold ev
  rw [sm_upd (p := p) (f := fun m => rd c (m : Nat) * x ^ m) hp fun i hi hne => by rw [rd_wr_ne _ _ _ _ hi (Ne.symm hne)], rd_wr_same _ _ _ hp, Int.sub_mul]
theorem fit5_wr {c : Arr 512} (h : Fit5 c) {p : Nat} {v : Int} (v0 : 0 ≤ v) (v1 : v < 8380417) : Fit5 (wr c (p : Nat) v) := fun i hi => by
  rw [rd_wr _ _ _ _ hi]
  split
  · exact ⟨v0, v1⟩
  · exact h i hi
theorem alg1 (e9 ai xi sj bj xj e0 cv q w sN u : Int) (hu : e9 + ai * xi * (sj + bj * xj) = e0 + (cv + ai * bj + q * w - cv) * (xi * xj) + ai * xi * sN + q * u) : e9 + ai * xi * sj = e0 + ai * xi * sN + q * (u + w * (xi * xj)) := by
  grind
theorem alg2 (e9 si ai xi sN e1 tN q u e0 w : Int) (hu : e9 + (si + ai * xi) * sN = e1 + tN * sN + q * u) (hw : e1 + ai * xi * 0 = e0 + ai * xi * sN + q * w) : e9 + si * sN = e0 + tN * sN + q * (u + w) := by
  grind
theorem times_l1 (a b : Arr 256) (ha : FitP a) (hb : FitP b) (i : Nat) (hi : i < 256) : ∀ (d j k : Nat) (c : Arr 512), j + d = 256 → d < k → Fit5 c →
    ∃ c', ref21_Times.l1 KK k a b i j c = some c' ∧ Fit5 c' ∧ ∀ x, Cg Q (ev c' x + rd a (i : Nat) * x ^ i * sm j fun t => rd b (t : Nat) * x ^ t) (ev c x + rd a (i : Nat) * x ^ i * sm 256 fun t => rd b (t : Nat) * x ^ t) := by
  intro d
  induction d with
  | zero =>
    intro j k c hj hk hc
    obtain ⟨k, rfl⟩ : ∃ m, k = m + 1 := ⟨k - 1, by omega⟩
    obtain rfl : j = 256 := by omega
    refine ⟨c, ?_, hc, fun x => .refl _⟩
    simp only [ref21_Times.l1, show ¬ ((256 : Nat) : Int) < 256 by omega, if_false]
  | succ d ih =>
    intro j k c hj hk hc
    obtain ⟨k, rfl⟩ : ∃ m, k = m + 1 := ⟨k - 1, by omega⟩
    obtain ⟨a0, a1⟩ := ha i hi
    obtain ⟨b0, b1⟩ := hb j (by omega)
    obtain ⟨m0, m1⟩ := mul_bounds a0 a1 b0 b1
    obtain ⟨c0, c1⟩ := hc (i + j) (by omega)
    have e1 : iadd .i64 (i : Int) (j : Int) = ((i + j : Nat) : Int) := by rw [add64 (by omega) (by omega)]; omega
    have e2 : irem .i64 (iadd .i64 (rd c ((i + j : Nat) : Int)) (imul .i64 (iconv .i64 (rd a (i : Nat))) (iconv .i64 (rd b (j : Nat))))) 8380417 = (rd c ((i + j : Nat) : Int) + rd a (i : Nat) * rd b (j : Nat)) % 8380417 := by
      rw [conv64 (x := rd a (i : Nat)) (by omega) (by omega), conv64 (x := rd b (j : Nat)) (by omega) (by omega), mul64 (by omega) (by omega), add64 (by omega) (by omega)]
      unfold irem
      rw [tmodN (by omega)]
    have h1 : (j : Int) < 256 := by omega
    have h2 : (0 : Int) ≤ j := by omega
    have h3 : (0 : Int) ≤ ((i + j : Nat) : Int) := by omega
    have h4 : ((i + j : Nat) : Int) < 512 := by omega
    have h5 : (i : Int) < 256 := by omega
    have h6 : (0 : Int) ≤ i := by omega
    have h7 : iadd .i64 (j : Int) 1 = ((j + 1 : Nat) : Int) := by rw [add64 (by omega) (by omega)]; rfl
    have v0 : 0 ≤ (rd c ((i + j : Nat) : Int) + rd a (i : Nat) * rd b (j : Nat)) % 8380417 := Int.emod_nonneg _ (by decide)
    have v1 : (rd c ((i + j : Nat) : Int) + rd a (i : Nat) * rd b (j : Nat)) % 8380417 < 8380417 := Int.emod_lt_of_pos _ (by decide)
    obtain ⟨c', r1, r2, r3⟩ := ih (j + 1) k (wr c ((i + j : Nat) : Int) ((rd c ((i + j : Nat) : Int) + rd a (i : Nat) * rd b (j : Nat)) % 8380417)) (by omega) (by omega) (fit5_wr hc v0 v1)
    refine ⟨c', ?_, r2, fun x => ?_⟩
    · simp only [ref21_Times.l1, h1, h2, h3, h4, h5, h6, if_true, e1, Option.bind_some, e2, h7]
      exact r1
    · have q := r3 x
      rw [ev_wr c (i + j) (by omega)] at q
      obtain ⟨u, hu⟩ := q
      obtain ⟨w, hw⟩ := Cg.mod Q (rd c ((i + j : Nat) : Int) + rd a (i : Nat) * rd b (j : Nat))
      unfold Q at hu hw ⊢
      rw [hw] at hu
      simp only [sm] at hu
      rw [Int.pow_add] at hu
      exact ⟨u + w * (x ^ i * x ^ j), alg1 _ _ _ _ _ _ _ _ _ _ _ _ hu⟩
theorem times_l0 (a b : Arr 256) (ha : FitP a) (hb : FitP b) : ∀ (d i k : Nat) (c : Arr 512), i + d = 256 → d < k → Fit5 c →
    ∃ c', ref21_Times.l0 KK k a b i c = some c' ∧ Fit5 c' ∧ ∀ x, Cg Q (ev c' x + (sm i fun t => rd a (t : Nat) * x ^ t) * sm 256 fun t => rd b (t : Nat) * x ^ t) (ev c x + (sm 256 fun t => rd a (t : Nat) * x ^ t) * sm 256 fun t => rd b (t : Nat) * x ^ t) := by
  intro d
  induction d with
  | zero =>
    intro i k c hj hk hc
    obtain ⟨k, rfl⟩ : ∃ m, k = m + 1 := ⟨k - 1, by omega⟩
    obtain rfl : i = 256 := by omega
    refine ⟨c, ?_, hc, fun x => .refl _⟩
    simp only [ref21_Times.l0, show ¬ ((256 : Nat) : Int) < 256 by omega, if_false]
  | succ d ih =>
    intro i k c hj hk hc
    obtain ⟨k, rfl⟩ : ∃ m, k = m + 1 := ⟨k - 1, by omega⟩
    obtain ⟨c1, p1, p2, p3⟩ := times_l1 a b ha hb i (by omega) 256 0 KK c (by omega) (by decide) hc
    obtain ⟨c', r1, r2, r3⟩ := ih (i + 1) k c1 (by omega) (by omega) p2
    have h1 : (i : Int) < 256 := by omega
    have h7 : iadd .i64 (i : Int) 1 = ((i + 1 : Nat) : Int) := by rw [add64 (by omega) (by omega)]; rfl
    rw [show ((0 : Nat) : Int) = 0 from rfl] at p1
    refine ⟨c', ?_, r2, fun x => ?_⟩
    · simp only [ref21_Times.l0, h1, if_true, p1, Option.bind_some, h7]
      exact r1
    · obtain ⟨u, hu⟩ := r3 x
      obtain ⟨w, hw⟩ := p3 x
      simp only [sm] at hu
      rw [show (sm 0 fun t => rd b (t : Nat) * x ^ t) = 0 from rfl] at hw
      exact ⟨u + w, alg2 _ _ _ _ _ _ _ _ _ _ _ hu hw⟩
def fold5 (c : Arr 512) : Arr 256 := mapA 256 fun i => (rd c (i : Nat) - rd c (i + 256 : Nat)) % 8380417
theorem times_l2 (c : Arr 512) (hc : Fit5 c) : ref21_Times.l2 KK KK c 0 (zeroA 256) = some (fold5 c) := by
  refine loop_map (n := 256) (fun k i z => ref21_Times.l2 KK k c i z) (fun i _ => (rd c (i : Nat) - rd c (i + 256 : Nat)) % 8380417) (zeroA 256) ?_ ?_ KK (by decide)
  · intro k i z hi hz
    obtain ⟨x0, x1⟩ := hc i (by omega)
    obtain ⟨y0, y1⟩ := hc (i + 256) (by omega)
    have h1 : (i : Int) < 256 := by omega
    have h2 : (0 : Int) ≤ i := by omega
    have h3 : (i : Int) < 512 := by omega
    have e1 : iadd .i64 (i : Int) 256 = ((i + 256 : Nat) : Int) := by rw [add64 (by omega) (by omega)]; omega
    have h4 : (0 : Int) ≤ ((i + 256 : Nat) : Int) := by omega
    have h5 : ((i + 256 : Nat) : Int) < 512 := by omega
    have e2 : isub .i64 (rd c (i : Nat)) (rd c ((i + 256 : Nat) : Int)) = rd c (i : Nat) - rd c ((i + 256 : Nat) : Int) := sub64 (by omega) (by omega)
    have h6 : iadd .i64 (i : Int) 1 = ((i + 1 : Nat) : Int) := by rw [add64 (by omega) (by omega)]; rfl
    simp only [ref21_Times.l2, h1, h2, h3, if_true, e1, Option.bind_some, h4, h5, e2, ref21_mod_eq KK (x := rd c (i : Nat) - rd c ((i + 256 : Nat) : Int)) (by omega) (by omega), h6]
  · intro k z
    simp only [ref21_Times.l2, show ¬ ((256 : Nat) : Int) < 256 by omega, if_false]
theorem ref21_Times_eq (a b : Arr 256) (ha : FitP a) (hb : FitP b) : ref21_Times.f KK a b = some (ptimes a b) := by
  have hz : Fit5 (zeroA 512) := fun i hi => by rw [rd_zeroA _ hi]; omega
  obtain ⟨c, p1, p2, p3⟩ := times_l0 a b ha hb 256 0 KK (zeroA 512) (by omega) (by decide) hz
  rw [show ((0 : Nat) : Int) = 0 from rfl] at p1
  rw [ref21_Times.f, p1]
  refine (bind1 (f := fun p => ref21_Times.l2 KK KK p 0 (zeroA 256)) (g := fun y => some y) (times_l2 c p2) rfl).trans ?_
  have hf : FitP (fold5 c) := fit_map fun j hj => ⟨Int.emod_nonneg _ (by decide), Int.emod_lt_of_pos _ (by decide)⟩
  refine congrArg some (pntt_inj hf (fit_ptimes a b) ?_)
  rw [pntt_ptimes]
  refine fit_eq (fit_pntt hf) (fit_pmul _ _) fun j hj => ?_
  refine (pntt_sum _ j hj).trans (Cg.trans ?_ ((rd_pmul _ _ hj).trans ((pntt_sum a j hj).mul (pntt_sum b j hj))).symm)
  have e0 : ∀ x, ev (zeroA 512) x = 0 := fun x => by
    unfold ev
    rw [sm_congr (g := fun _ => 0) fun t ht => by rw [rd_zeroA _ ht, Int.zero_mul], sm_zero]
  have q := p3 (rhoR (256 + j))
  rw [e0, show (sm 0 fun t => rd a (t : Nat) * rhoR (256 + j) ^ t) = 0 from rfl, Int.zero_mul, Int.add_zero, Int.zero_add] at q
  refine Cg.trans ?_ q
  have es : ev c (rhoR (256 + j)) = sm (256 + 256) fun m => rd c (m : Nat) * rhoR (256 + j) ^ m := rfl
  rw [es, sm_app, ← sm_add]
  refine sm_cg fun t ht => ?_
  unfold fold5
  rw [rd_mapA _ _ ht]
  refine ((Cg.mod _ _).mul (.refl _)).trans (Cg.symm ?_)
  rw [Int.pow_add, Nat.add_comm 256 t]
  refine ((Cg.refl _).add ((Cg.refl _).mul ((rho_256 hj).mul (.refl _)))).trans (.of_eq ?_)
  grind
end Go.Proofs.Ytijahfdldlmnhaa
