/- Layer 25 (kq), plain laws: the document's product is that. -/
import Derived.Test.YtijahfdldlmnhaaKy
set_option linter.unusedSimpArgs false
set_option linter.unusedVariables false
set_option maxRecDepth 100000
namespace Go.Proofs.Ytijahfdldlmnhaa
open Go Go.Mx
def evF (c : Arr 512) (F : Nat → Int) : Int := sm 512 fun m => rd c (m : Nat) * F m
theorem evF_wr (c : Arr 512) (p : Nat) (hp : p < 512) (v : Int) (F : Nat → Int) : evF (wr c (p : Nat) v) F = evF c F + (v - rd c (p : Nat)) * F p := by
  unfold evF
  rw [sm_upd (p := p) (f := fun m => rd c (m : Nat) * F m) hp fun i hi hne => by rw [rd_wr_ne _ _ _ _ hi (Ne.symm hne)], rd_wr_same _ _ _ hp, Int.sub_mul]
/-- how great the numbers are, in row i up to j -/
def Bd (c : Arr 512) (i j : Nat) : Prop := ∀ m : Nat, m < 512 → 0 ≤ rd c m ∧ rd c m ≤ 11082241 * (i : Int) + (if m < i + j then 11082241 else 0)
theorem alg1 (e9 ai Fij sj bj e0 cv sN : Int) (hu : e9 + ai * (sj + bj * Fij) = e0 + (cv + ai * bj - cv) * Fij + ai * sN) : e9 + ai * sj = e0 + ai * sN := by
  grind
theorem times_l1 (a b : Arr 256) (ha : FitK a) (hb : FitK b) (i : Nat) (hi : i < 256) : ∀ (d j k : Nat) (c : Arr 512), j + d = 256 → d < k → Bd c i j →
    ∃ c', ref25_Times.l1 KK k a b (i : Int) (j : Int) c = some c' ∧ Bd c' i 256 ∧ ∀ F : Nat → Int, evF c' F + rd a (i : Nat) * (sm j fun t => rd b (t : Nat) * F (i + t)) = evF c F + rd a (i : Nat) * sm 256 fun t => rd b (t : Nat) * F (i + t) := by
  intro d
  induction d with
  | zero =>
    intro j k c hj hk hc
    obtain ⟨k, rfl⟩ : ∃ m, k = m + 1 := ⟨k - 1, by omega⟩
    obtain rfl : j = 256 := by omega
    refine ⟨c, ?_, hc, fun F => rfl⟩
    simp only [ref25_Times.l1, show ¬ ((256 : Nat) : Int) < 256 by omega, if_false]
  | succ d ih =>
    intro j k c hj hk hc
    obtain ⟨k, rfl⟩ : ∃ m, k = m + 1 := ⟨k - 1, by omega⟩
    obtain ⟨a0, a1⟩ := ha i hi
    obtain ⟨b0, b1⟩ := hb j (by omega)
    obtain ⟨m0, _⟩ := mulq_bd a0 a1 b0 (by omega)
    have m1 : rd a (i : Nat) * rd b (j : Nat) ≤ 11082241 := by
      have h : rd a (i : Nat) * rd b (j : Nat) ≤ 3329 * rd b (j : Nat) := Int.mul_le_mul_of_nonneg_right (by omega) b0
      omega
    obtain ⟨c0, c1⟩ := hc (i + j) (by omega)
    rw [if_neg (by omega)] at c1
    have e1 : iadd .i64 (i : Int) (j : Int) = ((i + j : Nat) : Int) := by rw [add64 (by omega) (by omega)]; omega
    have e2 : iadd .i64 (rd c ((i + j : Nat) : Int)) (imul .i64 (iconv .i64 (rd a (i : Nat))) (iconv .i64 (rd b (j : Nat)))) = rd c ((i + j : Nat) : Int) + rd a (i : Nat) * rd b (j : Nat) := by
      rw [conv64 (x := rd a (i : Nat)) (by omega) (by omega), conv64 (x := rd b (j : Nat)) (by omega) (by omega), mul64 (by omega) (by omega), add64 (by omega) (by omega)]
    have h7 : iadd .i64 (j : Int) 1 = ((j + 1 : Nat) : Int) := by rw [add64 (by omega) (by omega)]; rfl
    obtain ⟨c', r1, r2, r3⟩ := ih (j + 1) k (wr c ((i + j : Nat) : Int) (rd c ((i + j : Nat) : Int) + rd a (i : Nat) * rd b (j : Nat))) (by omega) (by omega) (fun m hm => by
      rw [rd_wr _ _ _ _ hm]
      obtain ⟨h0, h1⟩ := hc m hm
      by_cases h : i + j = m
      · rw [if_pos h, if_pos (by omega)]
        omega
      · rw [if_neg h]
        refine ⟨h0, ?_⟩
        split at h1 <;> split <;> omega)
    refine ⟨c', ?_, r2, fun F => ?_⟩
    · simp only [ref25_Times.l1, show (j : Int) < 256 by omega, show (0 : Int) ≤ j by omega, show (0 : Int) ≤ ((i + j : Nat) : Int) by omega, show ((i + j : Nat) : Int) < 512 by omega, show (i : Int) < 256 by omega, show (0 : Int) ≤ (i : Int) by omega, if_true, e1, Option.bind_some, e2, h7]
      exact r1
    · have q := r3 F
      rw [evF_wr c (i + j) (by omega)] at q
      have es : (sm (j + 1) fun t => rd b (t : Nat) * F (i + t)) = (sm j fun t => rd b (t : Nat) * F (i + t)) + rd b (j : Nat) * F (i + j) := rfl
      rw [es] at q
      exact alg1 _ _ _ _ _ _ _ _ q
theorem times_l0 (a b : Arr 256) (ha : FitK a) (hb : FitK b) : ∀ (d i k : Nat) (c : Arr 512), i + d = 256 → d < k → Bd c i 0 →
    ∃ c', ref25_Times.l0 KK k a b (i : Int) c = some c' ∧ Bd c' 256 0 ∧ ∀ F : Nat → Int, evF c' F + (sm i fun s => rd a (s : Nat) * sm 256 fun t => rd b (t : Nat) * F (s + t)) = evF c F + sm 256 fun s => rd a (s : Nat) * sm 256 fun t => rd b (t : Nat) * F (s + t) := by
  intro d
  induction d with
  | zero =>
    intro i k c hj hk hc
    obtain ⟨k, rfl⟩ : ∃ m, k = m + 1 := ⟨k - 1, by omega⟩
    obtain rfl : i = 256 := by omega
    refine ⟨c, ?_, hc, fun F => rfl⟩
    simp only [ref25_Times.l0, show ¬ ((256 : Nat) : Int) < 256 by omega, if_false]
  | succ d ih =>
    intro i k c hj hk hc
    obtain ⟨k, rfl⟩ : ∃ m, k = m + 1 := ⟨k - 1, by omega⟩
    obtain ⟨c1, p1, p2, p3⟩ := times_l1 a b ha hb i (by omega) 256 0 KK c (by omega) (by decide) hc
    obtain ⟨c', r1, r2, r3⟩ := ih (i + 1) k c1 (by omega) (by omega) (fun m hm => by
      obtain ⟨h0, h1⟩ := p2 m hm
      refine ⟨h0, ?_⟩
      split at h1 <;> split <;> omega)
    have h7 : iadd .i64 (i : Int) 1 = ((i + 1 : Nat) : Int) := by rw [add64 (by omega) (by omega)]; rfl
    rw [show ((0 : Nat) : Int) = 0 from rfl] at p1
    refine ⟨c', ?_, r2, fun F => ?_⟩
    · rw [ref25_Times.l0, if_pos (by omega), p1, Option.bind_some, Option.bind_some, h7]
      exact r1
    · have hu := r3 F
      have hw := p3 F
      have es : (sm (i + 1) fun s => rd a (s : Nat) * sm 256 fun t => rd b (t : Nat) * F (s + t)) = (sm i fun s => rd a (s : Nat) * sm 256 fun t => rd b (t : Nat) * F (s + t)) + rd a (i : Nat) * sm 256 fun t => rd b (t : Nat) * F (i + t) := rfl
      rw [es] at hu
      rw [show (sm 0 fun t => rd b (t : Nat) * F (i + t)) = 0 from rfl, Int.mul_zero, Int.add_zero] at hw
      omega
def fold5 (c : Arr 512) : Arr 256 := mapA 256 fun i => (rd c (i : Nat) - rd c ((i + 256 : Nat) : Int)) % 3329
theorem times_l2 (c : Arr 512) (hc : Bd c 256 0) : ref25_Times.l2 KK KK c 0 (zeroA 256) = some (fold5 c) := by
  refine loop_map (n := 256) (fun k i z => ref25_Times.l2 KK k c i z) (fun i _ => (rd c (i : Nat) - rd c ((i + 256 : Nat) : Int)) % 3329) (zeroA 256) ?_ ?_ KK (by decide)
  · intro k i z hi hz
    obtain ⟨x0, x1⟩ := hc i (by omega)
    obtain ⟨y0, y1⟩ := hc (i + 256) (by omega)
    have e1 : iadd .i64 (i : Int) 256 = ((i + 256 : Nat) : Int) := by rw [add64 (by omega) (by omega)]; omega
    have e2 : iconv .i32 (irem .i64 (iadd .i64 (isub .i64 (irem .i64 (rd c (i : Nat)) 3329) (irem .i64 (rd c ((i + 256 : Nat) : Int)) 3329)) 3329) 3329) = (rd c (i : Nat) - rd c ((i + 256 : Nat) : Int)) % 3329 := by
      unfold irem
      rw [tmodN x0, tmodN y0, sub64 (by omega) (by omega), add64 (by omega) (by omega), tmodN (by omega), conv32 (by omega) (by omega)]
      omega
    have h6 : iadd .i64 (i : Int) 1 = ((i + 1 : Nat) : Int) := by rw [add64 (by omega) (by omega)]; rfl
    simp only [ref25_Times.l2, show (i : Int) < 256 by omega, show (0 : Int) ≤ i by omega, show (i : Int) < 512 by omega, if_true, e1, Option.bind_some, show (0 : Int) ≤ ((i + 256 : Nat) : Int) by omega, show ((i + 256 : Nat) : Int) < 512 by omega, e2, h6]
  · intro k z
    simp only [ref25_Times.l2, show ¬ ((256 : Nat) : Int) < 256 by omega, if_false]
/-- powers of x, where x^2 is r: the part of x^p -/
def Pp (p : Nat) (r : Int) (m : Nat) : Int := if m % 2 = p then r ^ (m / 2) else 0
theorem sm_par (f : Nat → Int) (r : Int) (p : Nat) (hp : p < 2) : sm 256 (fun m => f m * Pp p r m) = sm 128 (fun t => f (2 * t + p) * r ^ t) := by
  rw [show (256 : Nat) = 2 * 128 from rfl, sm_two]
  obtain rfl | rfl : p = 0 ∨ p = 1 := by omega
  · rw [sm_congr (n := 128) (f := fun i => f (2 * i + 1) * Pp 0 r (2 * i + 1)) (g := fun _ => 0) (fun i hi => by unfold Pp; rw [if_neg (by omega), Int.mul_zero]), sm_zero, Int.add_zero]
    refine sm_congr fun i hi => ?_
    unfold Pp
    rw [if_pos (by omega), show 2 * i / 2 = i by omega]
    rfl
  · rw [sm_congr (n := 128) (f := fun i => f (2 * i) * Pp 1 r (2 * i)) (g := fun _ => 0) (fun i hi => by unfold Pp; rw [if_neg (by omega), Int.mul_zero]), sm_zero, Int.zero_add]
    refine sm_congr fun i hi => ?_
    unfold Pp
    rw [if_pos (by omega), show (2 * i + 1) / 2 = i by omega]
theorem Pp0 (r : Int) (s t : Nat) : Pp 0 r (s + t) = Pp 0 r s * Pp 0 r t + r * (Pp 1 r s * Pp 1 r t) := by
  unfold Pp
  rcases Nat.mod_two_eq_zero_or_one s with hs | hs <;> rcases Nat.mod_two_eq_zero_or_one t with ht | ht
  · rw [if_pos (by omega), if_pos hs, if_pos ht, if_neg (by omega), show (s + t) / 2 = s / 2 + t / 2 by omega, Int.pow_add]; simp
  · rw [if_neg (by omega), if_pos hs, if_neg (by omega), if_neg (by omega)]; simp
  · rw [if_neg (by omega), if_neg (by omega), if_pos ht, if_pos hs, if_neg (by omega)]; simp
  · rw [if_pos (by omega), if_neg (by omega), if_neg (by omega), if_pos hs, if_pos ht, show (s + t) / 2 = s / 2 + t / 2 + 1 by omega, Int.pow_succ, Int.pow_add]
    rw [Int.mul_comm r]; simp
theorem Pp1 (r : Int) (s t : Nat) : Pp 1 r (s + t) = Pp 0 r s * Pp 1 r t + Pp 1 r s * Pp 0 r t := by
  unfold Pp
  rcases Nat.mod_two_eq_zero_or_one s with hs | hs <;> rcases Nat.mod_two_eq_zero_or_one t with ht | ht
  · rw [if_neg (by omega), if_pos hs, if_neg (by omega), if_neg (by omega)]; simp
  · rw [if_pos (by omega), if_pos hs, if_pos ht, if_neg (by omega), show (s + t) / 2 = s / 2 + t / 2 by omega, Int.pow_add]; simp
  · rw [if_pos (by omega), if_neg (by omega), if_pos hs, if_pos ht, show (s + t) / 2 = s / 2 + t / 2 by omega, Int.pow_add]; simp
  · rw [if_neg (by omega), if_neg (by omega), if_pos hs, if_pos ht, if_neg (by omega)]; simp
theorem dsum (n m : Nat) (a b U V : Nat → Int) : sm n (fun s => a s * sm m fun t => b t * (U s * V t)) = sm n (fun s => a s * U s) * sm m fun t => b t * V t := by
  rw [Int.mul_comm (sm n _), ← sm_mul]
  refine sm_congr fun s hs => ?_
  rw [sm_congr (n := m) (g := fun t => U s * (b t * V t)) (fun t _ => by rw [Int.mul_left_comm]), sm_mul, ← Int.mul_assoc, Int.mul_comm]
theorem dsum2 (n m : Nat) (a b U V U' V' : Nat → Int) (r : Int) : sm n (fun s => a s * sm m fun t => b t * (U s * V t + r * (U' s * V' t))) = (sm n fun s => a s * U s) * (sm m fun t => b t * V t) + r * ((sm n fun s => a s * U' s) * sm m fun t => b t * V' t) := by
  rw [← dsum, ← dsum, ← sm_mul, ← sm_add]
  refine sm_congr fun s hs => ?_
  rw [sm_congr (n := m) (g := fun t => b t * (U s * V t) + r * (b t * (U' s * V' t))) (fun t _ => by rw [Int.mul_add, Int.mul_left_comm (b t) r]), sm_add, sm_mul, Int.mul_add, Int.mul_left_comm]
theorem Pp_256 {j p : Nat} (hj : j < 128) (m : Nat) : Cg Q (Pp p (rhoR (128 + j)) (256 + m)) (- Pp p (rhoR (128 + j)) m) := by
  unfold Pp
  rw [show (256 + m) % 2 = m % 2 by omega, show (256 + m) / 2 = 128 + m / 2 by omega]
  split
  · rw [Int.pow_add]
    refine ((rho_128 hj).mul (.refl _)).trans (.of_eq ?_)
    rw [Int.neg_mul, Int.one_mul]
  · exact .refl _
theorem part_fold (c : Arr 512) (j p : Nat) (hj : j < 128) (hp : p < 2) : Cg Q (rd (pntt (fold5 c)) ((2 * j + p : Nat) : Int)) (evF c (Pp p (rhoR (128 + j)))) := by
  refine (pntt_sum _ j p hj hp).trans ?_
  rw [← sm_par (fun m => rd (fold5 c) (m : Nat)) (rhoR (128 + j)) p hp]
  have es : evF c (Pp p (rhoR (128 + j))) = sm (256 + 256) fun m => rd c (m : Nat) * Pp p (rhoR (128 + j)) m := rfl
  rw [es, sm_app, ← sm_add]
  refine sm_cg fun t ht => ?_
  unfold fold5
  rw [rd_mapA _ _ ht, Nat.add_comm t 256]
  refine ((Cg.mod Q _).mul (.refl _)).trans (Cg.symm (((Cg.refl _).add ((Cg.refl _).mul (Pp_256 hj t))).trans (.of_eq ?_)))
  grind
theorem part_a (a : Arr 256) (j p : Nat) (hj : j < 128) (hp : p < 2) : Cg Q (rd (pntt a) ((2 * j + p : Nat) : Int)) (sm 256 fun m => rd a (m : Nat) * Pp p (rhoR (128 + j)) m) := by
  refine (pntt_sum a j p hj hp).trans (.of_eq ?_)
  rw [sm_par (fun m => rd a (m : Nat)) (rhoR (128 + j)) p hp]
theorem ref25_Times_eq (a b : Arr 256) (ha : FitK a) (hb : FitK b) : ref25_Times.f KK a b = some (ptimes a b) := by
  have hz : Bd (zeroA 512) 0 0 := fun i hi => by rw [rd_zeroA _ hi]; omega
  obtain ⟨c, p1, p2, p3⟩ := times_l0 a b ha hb 256 0 KK (zeroA 512) (by omega) (by decide) hz
  rw [show ((0 : Nat) : Int) = 0 from rfl] at p1
  rw [ref25_Times.f, p1]
  refine (bind1 (f := fun p => ref25_Times.l2 KK KK p 0 (zeroA 256)) (g := fun y => some y) (times_l2 c p2) rfl).trans ?_
  have hf : FitK (fold5 c) := fit_map fun j hj => modb _
  refine congrArg some (pntt_inj hf (fit_ptimes a b) ?_)
  rw [pntt_ptimes]
  have e0 : ∀ F, evF (zeroA 512) F = 0 := fun F => by
    unfold evF
    rw [sm_congr (g := fun _ => 0) fun t ht => by rw [rd_zeroA _ ht, Int.zero_mul], sm_zero]
  have key : ∀ F, evF c F = sm 256 fun s => rd a (s : Nat) * sm 256 fun t => rd b (t : Nat) * F (s + t) := fun F => by
    have q := p3 F
    rw [e0, show (sm 0 fun s => rd a (s : Nat) * sm 256 fun t => rd b (t : Nat) * F (s + t)) = 0 from rfl, Int.add_zero, Int.zero_add] at q
    exact q
  refine fit_eq2 (fit_pntt hf) (fit_pmul _ _) fun j p hj hp => ?_
  refine (part_fold c j p hj hp).trans ?_
  rw [key]
  have a0 := part_a a j 0 hj (by decide)
  have a1 := part_a a j 1 hj (by decide)
  have b0 := part_a b j 0 hj (by decide)
  have b1 := part_a b j 1 hj (by decide)
  rw [Nat.add_zero] at a0 b0
  obtain rfl | rfl : p = 0 ∨ p = 1 := by omega
  · rw [Nat.add_zero, rd_pmul0 _ _ hj]
    refine Cg.trans (.of_eq ?_) ((evn_cg _ _ hj).trans ((a0.mul b0).add ((Cg.refl (rhoR (128 + j))).mul (a1.mul b1)))).symm
    rw [← dsum2]
    exact sm_congr fun s _ => congrArg _ (sm_congr fun t _ => congrArg _ (Pp0 _ s t))
  · rw [rd_pmul1 _ _ hj]
    refine Cg.trans (.of_eq ?_) ((odd_cg _ _ _).trans ((a0.mul b1).add (a1.mul b0))).symm
    rw [show ((sm 256 fun m => rd a (m : Nat) * Pp 1 (rhoR (128 + j)) m) * sm 256 fun m => rd b (m : Nat) * Pp 0 (rhoR (128 + j)) m) = 1 * ((sm 256 fun m => rd a (m : Nat) * Pp 1 (rhoR (128 + j)) m) * sm 256 fun m => rd b (m : Nat) * Pp 0 (rhoR (128 + j)) m) from (Int.one_mul _).symm, ← dsum2]
    exact sm_congr fun s _ => congrArg _ (sm_congr fun t _ => congrArg _ (by rw [Pp1, Int.one_mul]))
end Go.Proofs.Ytijahfdldlmnhaa
