/- Layer 25 (kq), plain laws: sums, products of parts, the document's transforms. -/
import Derived.Test.YtijahfdldlmnhaaKv
set_option linter.unusedSimpArgs false
set_option linter.unusedVariables false
set_option maxRecDepth 100000
namespace Go.Proofs.Ytijahfdldlmnhaa
open Go Go.Mx
theorem rd_wr2 (z : Arr 256) (i j : Nat) (v : Int) (hj : j < 256) : rd (wr z (i : Nat) v) (j : Nat) = if i = j then v else rd z (j : Nat) := rd_wr z i j v hj
/-! ### sums -/
def padd (a b : Arr 256) : Arr 256 := mapA 256 fun i => (rd a (i : Nat) + rd b (i : Nat)) % 3329
theorem fit_padd (a b : Arr 256) : FitK (padd a b) := fit_map fun j _ => ⟨Int.emod_nonneg _ (by decide), Int.emod_lt_of_pos _ (by decide)⟩
theorem fit_ksub (a b : Arr 256) : FitK (ksub a b) := fit_map fun j _ => ⟨Int.emod_nonneg _ (by decide), Int.emod_lt_of_pos _ (by decide)⟩
theorem kq_Add_eq (K : Nat) (hK : 256 < K) (a b : Arr 256) (ha : FitK a) (hb : FitK b) : kq_Add.f K a b = some (padd a b) := by
  rw [kq_Add.f]
  rw [loop_map (n := 256) (fun k i z => kq_Add.l0 K k b i z) (fun i x => (x + rd b (i : Nat)) % 3329) a ?_ ?_ K hK]
  · rfl
  · intro k i z hi hz
    obtain ⟨x0, x1⟩ := ha i hi
    obtain ⟨y0, y1⟩ := hb i hi
    have g1 : (i : Int) < 256 := by omega
    have g2 : (0 : Int) ≤ i := by omega
    have e1 : iadd .i32 (rd a (i : Nat)) (rd b (i : Nat)) = rd a (i : Nat) + rd b (i : Nat) := add32 (by omega) (by omega)
    have e3 := fun v => rd_wr_same z i v hi
    have e4 : iadd .i64 (i : Int) 1 = ((i + 1 : Nat) : Int) := by rw [add64 (by omega) (by omega)]; rfl
    by_cases h : rd a (i : Nat) + rd b (i : Nat) ≥ 3329
    · have e2 : isub .i32 (rd a (i : Nat) + rd b (i : Nat)) 3329 = (rd a (i : Nat) + rd b (i : Nat)) % 3329 := by rw [sub32 (by omega) (by omega)]; omega
      simp only [kq_Add.l0, g1, g2, if_true, hz, Option.bind_some, e1, e3, h, e2, wr_wr, e4]
    · have e2 : rd a (i : Nat) + rd b (i : Nat) = (rd a (i : Nat) + rd b (i : Nat)) % 3329 := by omega
      simp only [kq_Add.l0, g1, g2, if_true, hz, Option.bind_some, e1, e3, h, if_false, e4]
      rw [← e2]
  · intro k z
    simp only [kq_Add.l0, show ¬ ((256 : Nat) : Int) < 256 by omega, if_false]
theorem ref25_Add_eq (K : Nat) (hK : 256 < K) (a b : Arr 256) (ha : FitK a) (hb : FitK b) : ref25_Add.f K a b = some (padd a b) := by
  rw [ref25_Add.f]
  rw [loop_map (n := 256) (fun k i z => ref25_Add.l0 K k b i z) (fun i x => (x + rd b (i : Nat)) % 3329) a ?_ ?_ K hK]
  · rfl
  · intro k i z hi hz
    obtain ⟨x0, x1⟩ := ha i hi
    obtain ⟨y0, y1⟩ := hb i hi
    have e4 : iadd .i64 (i : Int) 1 = ((i + 1 : Nat) : Int) := by rw [add64 (by omega) (by omega)]; rfl
    simp only [ref25_Add.l0, show (i : Int) < 256 by omega, show (0 : Int) ≤ i by omega, if_true, hz, Option.bind_some, addq x0 x1 y0 y1, e4]
  · intro k z
    simp only [ref25_Add.l0, show ¬ ((256 : Nat) : Int) < 256 by omega, if_false]
theorem ref25_Sub_eq (K : Nat) (hK : 256 < K) (a b : Arr 256) (ha : FitK a) (hb : FitK b) : ref25_Sub.f K a b = some (ksub a b) := by
  rw [ref25_Sub.f]
  rw [loop_map (n := 256) (fun k i z => ref25_Sub.l0 K k b i z) (fun i x => (x - rd b (i : Nat)) % 3329) a ?_ ?_ K hK]
  · rfl
  · intro k i z hi hz
    obtain ⟨x0, x1⟩ := ha i hi
    obtain ⟨y0, y1⟩ := hb i hi
    have e4 : iadd .i64 (i : Int) 1 = ((i + 1 : Nat) : Int) := by rw [add64 (by omega) (by omega)]; rfl
    simp only [ref25_Sub.l0, show (i : Int) < 256 by omega, show (0 : Int) ≤ i by omega, if_true, hz, Option.bind_some, subq x0 x1 y0 y1, e4]
  · intro k z
    simp only [ref25_Sub.l0, show ¬ ((256 : Nat) : Int) < 256 by omega, if_false]
/-! ### products of parts -/
def Zr (j : Nat) : Int := if j % 2 = 0 then zR (64 + j / 2) else 3329 - zR (64 + j / 2)
theorem ck_Z : ∀ j, j < 128 → Zr j = ((17 ^ omR j % 3329 : Nat) : Int) := by decide +kernel
theorem Zr_bd {j : Nat} (h : j < 128) : 0 ≤ Zr j ∧ Zr j < 3329 := by
  rw [ck_Z j h]
  have := Nat.mod_lt (17 ^ omR j) (show 3329 > 0 by decide)
  omega
def evn (a b : Arr 256) (j : Nat) : Int := (rd a ((2 * j : Nat) : Int) * rd b ((2 * j : Nat) : Int) + rd a ((2 * j + 1 : Nat) : Int) * rd b ((2 * j + 1 : Nat) : Int) % 3329 * Zr j) % 3329
def odd (a b : Arr 256) (j : Nat) : Int := (rd a ((2 * j : Nat) : Int) * rd b ((2 * j + 1 : Nat) : Int) + rd a ((2 * j + 1 : Nat) : Int) * rd b ((2 * j : Nat) : Int)) % 3329
def pmul (a b : Arr 256) : Arr 256 := mapA 256 fun i => if i % 2 = 0 then evn a b (i / 2) else odd a b (i / 2)
theorem fit_pmul (a b : Arr 256) : FitK (pmul a b) := fit_map fun j _ => by
  split
  · exact ⟨Int.emod_nonneg _ (by decide), Int.emod_lt_of_pos _ (by decide)⟩
  · exact ⟨Int.emod_nonneg _ (by decide), Int.emod_lt_of_pos _ (by decide)⟩
theorem mul2_bd {x y u v : Int} (x0 : 0 ≤ x) (x1 : x < 3329) (y0 : 0 ≤ y) (y1 : y < 3329) (u0 : 0 ≤ u) (u1 : u < 3329) (v0 : 0 ≤ v) (v1 : v < 3329) : irem .i32 (iadd .i32 (imul .i32 x y) (imul .i32 u v)) 3329 = (x * y + u * v) % 3329 := by
  obtain ⟨h0, h1⟩ := mulq_bd x0 x1 y0 (by omega)
  obtain ⟨h2, h3⟩ := mulq_bd u0 u1 v0 (by omega)
  rw [mul32 (x := x) (by omega) (by omega), mul32 (x := u) (by omega) (by omega), add32 (by omega) (by omega)]
  unfold irem
  rw [tmodN (by omega)]
theorem pair_eq (K : Nat) (a b : Arr 256) (ha : FitK a) (hb : FitK b) (j : Nat) (hj : j < 128) : kq_pair_times.f K (rd a ((2 * j : Nat) : Int)) (rd a ((2 * j + 1 : Nat) : Int)) (rd b ((2 * j : Nat) : Int)) (rd b ((2 * j + 1 : Nat) : Int)) (Zr j) = some (evn a b j, odd a b j) := by
  obtain ⟨x0, x1⟩ := ha (2 * j) (by omega)
  obtain ⟨y0, y1⟩ := ha (2 * j + 1) (by omega)
  obtain ⟨u0, u1⟩ := hb (2 * j) (by omega)
  obtain ⟨v0, v1⟩ := hb (2 * j + 1) (by omega)
  obtain ⟨z0, z1⟩ := Zr_bd hj
  unfold kq_pair_times.f evn odd
  rw [mulq y0 y1 v0 (by omega), mul2_bd x0 x1 u0 u1 (Int.emod_nonneg _ (by decide)) (Int.emod_lt_of_pos _ (by decide)) z0 z1, mul2_bd x0 x1 v0 v1 y0 y1 u0 u1]
theorem rd_pmul0 (a b : Arr 256) {j : Nat} (hj : j < 128) : rd (pmul a b) ((2 * j : Nat) : Int) = evn a b j := by
  unfold pmul
  rw [rd_mapA _ _ (by omega), if_pos (by omega), show 2 * j / 2 = j by omega]
theorem rd_pmul1 (a b : Arr 256) {j : Nat} (hj : j < 128) : rd (pmul a b) ((2 * j + 1 : Nat) : Int) = odd a b j := by
  unfold pmul
  rw [rd_mapA _ _ (by omega), if_neg (by omega), show (2 * j + 1) / 2 = j by omega]
theorem kq_Mul_l0 (K : Nat) (a b : Arr 256) (ha : FitK a) (hb : FitK b) : ∀ (d m k : Nat) (z : Arr 256), m + d = 64 → d < k → (∀ i, i < 4 * m → rd z (i : Nat) = rd (pmul a b) (i : Nat)) → kq_Mul.l0 K k a b rootsA ((4 * m : Nat) : Int) z = some (pmul a b) := by
  intro d
  induction d with
  | zero =>
    intro m k z hm hk hz
    obtain ⟨k, rfl⟩ : ∃ m, k = m + 1 := ⟨k - 1, by omega⟩
    obtain rfl : m = 64 := by omega
    simp only [kq_Mul.l0, show ¬ ((4 * 64 : Nat) : Int) < 256 by omega, if_false]
    exact congrArg some (arr_ext fun i hi => hz i hi)
  | succ d ih =>
    intro m k z hm hk hz
    obtain ⟨k, rfl⟩ : ∃ m, k = m + 1 := ⟨k - 1, by omega⟩
    have g0 : ((4 * m : Nat) : Int) < 256 := by omega
    have g00 : (0 : Int) ≤ ((4 * m : Nat) : Int) := by omega
    have e1 : iadd .i64 64 (iquo .i64 ((4 * m : Nat) : Int) 4) = ((64 + m : Nat) : Int) := by
      unfold iquo
      rw [tdivN (by omega), id64 (by omega) (by omega), add64 (by omega) (by omega)]
      omega
    have g1 : (0 : Int) ≤ ((64 + m : Nat) : Int) := by omega
    have g2 : ((64 + m : Nat) : Int) < 128 := by omega
    have hr : rd rootsA ((64 + m : Nat) : Int) = zR (64 + m) := rd_roots (by omega)
    have i1 : iadd .i64 ((4 * m : Nat) : Int) 1 = ((4 * m + 1 : Nat) : Int) := by rw [add64 (by omega) (by omega)]; omega
    have i2 : iadd .i64 ((4 * m : Nat) : Int) 2 = ((4 * m + 2 : Nat) : Int) := by rw [add64 (by omega) (by omega)]; omega
    have i3 : iadd .i64 ((4 * m : Nat) : Int) 3 = ((4 * m + 3 : Nat) : Int) := by rw [add64 (by omega) (by omega)]; omega
    have i4 : iadd .i64 ((4 * m : Nat) : Int) 4 = ((4 * (m + 1) : Nat) : Int) := by rw [add64 (by omega) (by omega)]; omega
    have p0 := pair_eq K a b ha hb (2 * m) (by omega)
    have p1 := pair_eq K a b ha hb (2 * m + 1) (by omega)
    have z0 : Zr (2 * m) = zR (64 + m) := by unfold Zr; rw [if_pos (by omega), show 2 * m / 2 = m by omega]
    have z1 : isub .i32 3329 (zR (64 + m)) = Zr (2 * m + 1) := by
      have hb := Zr_bd (j := 2 * m) (by omega)
      rw [z0] at hb
      rw [sub32 (by omega) (by omega)]
      unfold Zr
      rw [if_neg (by omega), show (2 * m + 1) / 2 = m by omega]
    rw [z0, show 2 * (2 * m) = 4 * m by omega] at p0
    rw [show 2 * (2 * m + 1) = 4 * m + 2 by omega, show 4 * m + 2 + 1 = 4 * m + 3 by omega] at p1
    simp only [kq_Mul.l0, g0, g00, if_true, e1, Option.bind_some, g1, g2, hr, i1, i2, i3, i4, show (0 : Int) ≤ ((4 * m + 1 : Nat) : Int) by omega, show ((4 * m + 1 : Nat) : Int) < 256 by omega, show (0 : Int) ≤ ((4 * m + 2 : Nat) : Int) by omega, show ((4 * m + 2 : Nat) : Int) < 256 by omega,
      show (0 : Int) ≤ ((4 * m + 3 : Nat) : Int) by omega, show ((4 * m + 3 : Nat) : Int) < 256 by omega, p0, z1, p1]
    refine ih (m + 1) k _ (by omega) (by omega) fun i hi => ?_
    have q0 := rd_pmul0 a b (j := 2 * m) (by omega)
    have q1 := rd_pmul1 a b (j := 2 * m) (by omega)
    have q2 := rd_pmul0 a b (j := 2 * m + 1) (by omega)
    have q3 := rd_pmul1 a b (j := 2 * m + 1) (by omega)
    rw [show 2 * (2 * m) = 4 * m by omega] at q0 q1
    rw [show 2 * (2 * m + 1) = 4 * m + 2 by omega] at q2 q3
    rw [rd_wr2 _ _ _ _ (by omega), rd_wr2 _ _ _ _ (by omega), rd_wr2 _ _ _ _ (by omega), rd_wr2 _ _ _ _ (by omega)]
    by_cases h3 : 4 * m + 3 = i
    · rw [if_pos h3, ← h3, ← q3]
    rw [if_neg h3]
    by_cases h2 : 4 * m + 2 = i
    · rw [if_pos h2, ← h2, ← q2]
    rw [if_neg h2]
    by_cases h1 : 4 * m + 1 = i
    · rw [if_pos h1, ← h1, ← q1]
    rw [if_neg h1]
    by_cases h0 : 4 * m = i
    · rw [if_pos h0, ← h0, ← q0]
    rw [if_neg h0]
    exact hz i (by omega)
theorem kq_Mul_eq (a b : Arr 256) (ha : FitK a) (hb : FitK b) : kq_Mul.f KK a b = some (pmul a b) := by
  unfold kq_Mul.f
  rw [kq_roots_eq, Option.bind_some]
  have := kq_Mul_l0 KK a b ha hb 64 0 KK (zeroA 256) (by omega) (by decide) (fun i hi => by omega)
  rw [show ((4 * 0 : Nat) : Int) = 0 from rfl] at this
  rw [this]
  rfl
def ptimes (a b : Arr 256) : Arr 256 := pback (pmul (pntt a) (pntt b))
theorem fit_ptimes (a b : Arr 256) : FitK (ptimes a b) := fit_pback _
theorem times_core {fN fB : Arr 256 → Option (Arr 256)} {fM : Arr 256 → Arr 256 → Option (Arr 256)} {a b x y m z : Arr 256} (h1 : fN a = some x) (h2 : fN b = some y) (h3 : fM x y = some m) (h4 : fB m = some z) :
    ((fN a).bind fun r4 => (fN b).bind fun r5 => (fM r4 r5).bind fun r6 => (fB r6).bind fun r7 => some r7) = some z := by
  simp only [h1, h2, h3, h4, Option.bind_some]
theorem kq_Times_eq (a b : Arr 256) (ha : FitK a) (hb : FitK b) : kq_Times.f KK a b = some (ptimes a b) := by
  rw [kq_Times.f]
  exact times_core (fN := kq_Ntt.f KK) (fB := kq_Back.f KK) (fM := kq_Mul.f KK) (kq_Ntt_eq a ha) (kq_Ntt_eq b hb) (kq_Mul_eq _ _ (fit_pntt ha) (fit_pntt hb)) (kq_Back_eq _ (fit_pmul _ _))
theorem pntt_ptimes (a b : Arr 256) : pntt (ptimes a b) = pmul (pntt a) (pntt b) := pntt_pback _ (fit_pmul _ _)
theorem pntt_inj {a b : Arr 256} (ha : FitK a) (hb : FitK b) (h : pntt a = pntt b) : a = b := by
  rw [← pback_pntt a ha, ← pback_pntt b hb, h]
/-! ### what products are, by congruence -/
theorem fit_eq2 {a b : Arr 256} (ha : FitK a) (hb : FitK b) (h : ∀ j p : Nat, j < 128 → p < 2 → Cg Q (rd a ((2 * j + p : Nat) : Int)) (rd b ((2 * j + p : Nat) : Int))) : a = b :=
  fit_eq ha hb fun i hi => by
    have := h (i / 2) (i % 2) (by omega) (by omega)
    rwa [show 2 * (i / 2) + i % 2 = i by omega] at this
theorem c_Z {j : Nat} (hj : j < 128) : Cg Q (Zr j) (rhoR (128 + j)) := by
  unfold Zr rhoR
  rw [show (128 + j) / 2 = 64 + j / 2 by omega, show (128 + j) % 2 = j % 2 by omega]
  split
  · exact .refl _
  · exact ⟨1, by unfold Q; omega⟩
theorem evn_cg (a b : Arr 256) {j : Nat} (hj : j < 128) : Cg Q (evn a b j) (rd a ((2 * j : Nat) : Int) * rd b ((2 * j : Nat) : Int) + rhoR (128 + j) * (rd a ((2 * j + 1 : Nat) : Int) * rd b ((2 * j + 1 : Nat) : Int))) := by
  unfold evn
  refine (Cg.mod Q _).trans ((Cg.refl _).add (((Cg.mod Q _).mul (c_Z hj)).trans (.of_eq (Int.mul_comm _ _))))
theorem odd_cg (a b : Arr 256) (j : Nat) : Cg Q (odd a b j) (rd a ((2 * j : Nat) : Int) * rd b ((2 * j + 1 : Nat) : Int) + rd a ((2 * j + 1 : Nat) : Int) * rd b ((2 * j : Nat) : Int)) := Cg.mod Q _
theorem rd_padd (a b : Arr 256) {i : Nat} (hi : i < 256) : Cg Q (rd (padd a b) (i : Nat)) (rd a (i : Nat) + rd b (i : Nat)) := by
  unfold padd
  rw [rd_mapA _ _ hi]
  exact Cg.mod _ _
theorem rd_psub (a b : Arr 256) {i : Nat} (hi : i < 256) : Cg Q (rd (ksub a b) (i : Nat)) (rd a (i : Nat) - rd b (i : Nat)) := by
  unfold ksub
  rw [rd_mapA _ _ hi]
  exact Cg.mod _ _
theorem pntt_padd (a b : Arr 256) (ha : FitK a) (hb : FitK b) : pntt (padd a b) = padd (pntt a) (pntt b) := by
  refine fit_eq2 (fit_pntt (fit_padd _ _)) (fit_padd _ _) fun j p hj hp => ?_
  refine (pntt_sum _ j p hj hp).trans (Cg.trans ?_ ((rd_padd _ _ (by omega)).trans ((pntt_sum a j p hj hp).add (pntt_sum b j p hj hp))).symm)
  rw [← sm_add]
  refine sm_cg fun t ht => ?_
  rw [← Int.add_mul]
  exact (rd_padd a b (by omega)).mul (.refl _)
theorem pntt_psub (a b : Arr 256) (ha : FitK a) (hb : FitK b) : pntt (ksub a b) = ksub (pntt a) (pntt b) := by
  refine fit_eq2 (fit_pntt (fit_ksub _ _)) (fit_ksub _ _) fun j p hj hp => ?_
  refine (pntt_sum _ j p hj hp).trans (Cg.trans ?_ ((rd_psub _ _ (by omega)).trans ((pntt_sum a j p hj hp).sub (pntt_sum b j p hj hp))).symm)
  rw [← sm_sub]
  refine sm_cg fun t ht => ?_
  rw [← Int.sub_mul]
  exact (rd_psub a b (by omega)).mul (.refl _)
theorem alg_e (x y u v s t r : Int) : x * (u + s) + r * (y * (v + t)) = x * u + r * (y * v) + (x * s + r * (y * t)) := by grind
theorem alg_o (x y u v s t : Int) : x * (v + t) + y * (u + s) = x * v + y * u + (x * t + y * s) := by grind
theorem pmul_padd (a b c : Arr 256) : pmul a (padd b c) = padd (pmul a b) (pmul a c) := by
  refine fit_eq2 (fit_pmul _ _) (fit_padd _ _) fun j p hj hp => ?_
  refine Cg.trans ?_ (rd_padd _ _ (by omega)).symm
  have b0 := rd_padd b c (i := 2 * j) (by omega)
  have b1 := rd_padd b c (i := 2 * j + 1) (by omega)
  obtain rfl | rfl : p = 0 ∨ p = 1 := by omega
  · simp only [Nat.add_zero]
    rw [rd_pmul0 _ _ hj, rd_pmul0 _ _ hj, rd_pmul0 _ _ hj]
    refine (evn_cg _ _ hj).trans (Cg.trans ?_ ((evn_cg a b hj).add (evn_cg a c hj)).symm)
    exact (((Cg.refl _).mul b0).add ((Cg.refl _).mul ((Cg.refl _).mul b1))).trans (.of_eq (alg_e _ _ _ _ _ _ _))
  · rw [rd_pmul1 _ _ hj, rd_pmul1 _ _ hj, rd_pmul1 _ _ hj]
    refine (odd_cg _ _ _).trans (Cg.trans ?_ ((odd_cg a b j).add (odd_cg a c j)).symm)
    exact (((Cg.refl _).mul b1).add ((Cg.refl _).mul b0)).trans (.of_eq (alg_o _ _ _ _ _ _))
theorem ptimes_padd (a b c : Arr 256) (ha : FitK a) (hb : FitK b) (hc : FitK c) : ptimes a (padd b c) = padd (ptimes a b) (ptimes a c) := by
  refine pntt_inj (fit_ptimes _ _) (fit_padd _ _) ?_
  rw [pntt_ptimes, pntt_padd b c hb hc, pntt_padd _ _ (fit_ptimes _ _) (fit_ptimes _ _), pntt_ptimes, pntt_ptimes, pmul_padd]
theorem padd_psub (a b : Arr 256) (ha : FitK a) (hb : FitK b) : padd (ksub a b) b = a := by
  refine fit_eq (fit_padd _ _) ha fun j hj => ?_
  refine (rd_padd _ _ hj).trans (((rd_psub _ _ hj).add (.refl _)).trans (.of_eq ?_))
  omega
theorem fit_zero : FitK (zeroA 256) := fun i hi => by
  rw [rd_zeroA _ hi]; omega
theorem c_rho_sq {i : Nat} (h1 : 2 ≤ i) (h : i < 2 * 128) : Cg Q (rhoR i ^ 2) (rhoR (i / 2)) := by
  have h3 := c_sq (i := i / 2) (by omega) (by omega)
  rcases Nat.mod_two_eq_zero_or_one i with h2 | h2
  · have e := (c_rho (i / 2)).1
    rw [show 2 * (i / 2) = i by omega] at e
    exact (e.pow 2).trans h3
  · have e := (c_rho (i / 2)).2
    rw [show 2 * (i / 2) + 1 = i by omega] at e
    refine (e.pow 2).trans (Cg.trans (.of_eq ?_) h3)
    grind
theorem rho_128 {j : Nat} (hj : j < 128) : Cg Q (rhoR (128 + j) ^ 128) (-1) := by
  have h := chain_pow (M := Q) (ι := rhoR) (N := 128) (fun i h1 h2 => c_rho_sq h1 h2) 7 (128 + j) (by omega) (by omega)
  rw [show (2 : Nat) ^ 7 = 128 by decide, show (128 + j) / 128 = 1 by omega] at h
  exact h.trans (.of_eq (by decide +kernel))
/-- x to the 128. -/
def pX : Arr 256 := wr (zeroA 256) 128 1
theorem rd_pX {t : Nat} (ht : t < 256) : rd pX (t : Nat) = if 128 = t then 1 else 0 := by
  have := rd_wr (zeroA 256) 128 t 1 ht
  unfold pX
  rw [show (128 : Int) = ((128 : Nat) : Int) from rfl, this, rd_zeroA _ ht]
theorem fit_pX : FitK pX := fun i hi => by
  rw [rd_pX hi]
  split <;> omega
theorem pntt_pX (j p : Nat) (hj : j < 128) (hp : p < 2) : Cg Q (rd (pntt pX) ((2 * j + p : Nat) : Int)) (if p = 0 then rhoR (128 + j) ^ 64 else 0) := by
  refine (pntt_sum _ j p hj hp).trans (.of_eq ?_)
  obtain rfl | rfl : p = 0 ∨ p = 1 := by omega
  · rw [sm_one 128 64 _ (by decide) fun i hi hne => by rw [rd_pX (by omega), if_neg (by omega), Int.zero_mul], rd_pX (by omega), if_pos rfl, if_pos rfl, Int.one_mul]
  · rw [sm_congr (g := fun _ => 0) fun t ht => by rw [rd_pX (by omega), if_neg (by omega), Int.zero_mul], sm_zero, if_neg (by omega)]
theorem pX_part (b : Arr 256) (j p : Nat) (hj : j < 128) (hp : p < 2) : Cg Q (rd (pmul (pntt pX) b) ((2 * j + p : Nat) : Int)) (rhoR (128 + j) ^ 64 * rd b ((2 * j + p : Nat) : Int)) := by
  have x0 := pntt_pX j 0 hj (by decide)
  have x1 := pntt_pX j 1 hj (by decide)
  rw [if_pos rfl, Nat.add_zero] at x0
  rw [if_neg (by decide)] at x1
  obtain rfl | rfl : p = 0 ∨ p = 1 := by omega
  · rw [Nat.add_zero, rd_pmul0 _ _ hj]
    refine (evn_cg _ _ hj).trans (((x0.mul (.refl _)).add ((Cg.refl _).mul (x1.mul (.refl _)))).trans (.of_eq ?_))
    rw [Int.zero_mul, Int.mul_zero, Int.add_zero]
  · rw [rd_pmul1 _ _ hj]
    refine (odd_cg _ _ _).trans (((x0.mul (.refl _)).add (x1.mul (.refl _))).trans (.of_eq ?_))
    rw [Int.zero_mul, Int.add_zero]
theorem pX_pX (a : Arr 256) (ha : FitK a) : padd (ptimes pX (ptimes pX a)) a = zeroA 256 := by
  refine pntt_inj (fit_padd _ _) fit_zero ?_
  rw [pntt_padd _ _ (fit_ptimes _ _) ha, pntt_ptimes, pntt_ptimes]
  refine fit_eq2 (fit_padd _ _) (fit_pntt fit_zero) fun j p hj hp => ?_
  have hz : Cg Q (rd (pntt (zeroA 256)) ((2 * j + p : Nat) : Int)) 0 := (pntt_sum _ j p hj hp).trans (.of_eq (by
    rw [sm_congr (g := fun _ => 0) fun t ht => by rw [rd_zeroA _ (by omega), Int.zero_mul], sm_zero]))
  refine (rd_padd _ _ (by omega)).trans (Cg.trans (((pX_part _ j p hj hp).trans ((Cg.refl _).mul (pX_part _ j p hj hp))).add (.refl _)) (Cg.trans ?_ hz.symm))
  rw [← Int.mul_assoc, ← Int.pow_add]
  refine (((rho_128 hj).mul (.refl _)).add (.refl _)).trans (.of_eq ?_)
  omega
end Go.Proofs.Ytijahfdldlmnhaa
