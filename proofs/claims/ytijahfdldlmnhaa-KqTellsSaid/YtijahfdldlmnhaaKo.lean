/- Layer 25 (kq), plain laws: the roots; the transform back, layer by layer. -/
import Derived.Test.YtijahfdldlmnhaaKn
import Derived.Test.YtijahfdldlmnhaaMz
set_option linter.unusedSimpArgs false
set_option linter.unusedVariables false
namespace Go.Proofs.Ytijahfdldlmnhaa
open Go Go.Mx
def brv7 (i : Nat) : Nat := i % 2 * 64 + i / 2 % 2 * 32 + i / 4 % 2 * 16 + i / 8 % 2 * 8 + i / 16 % 2 * 4 + i / 32 % 2 * 2 + i / 64 % 2
/-- Enough rounds for all that follows. -/
def KK : Nat := 1000
def rootsA : Arr 128 := mapA 128 fun i => ((17 ^ brv7 i % 3329 : Nat) : Int)
theorem fit_rootsA : FitR rootsA := fun i hi => by
  have := Nat.mod_lt (17 ^ brv7 i) (show 3329 > 0 by decide)
  unfold rootsA
  rw [rd_mapA _ _ hi]
  omega
set_option maxRecDepth 100000 in
theorem roots_list : (kq_roots.f 1000).map (fun r => r.toList) = some ((List.range 128).map fun i => ((17 ^ brv7 i % 3329 : Nat) : Int)) := by decide +kernel
theorem kq_roots_eq : kq_roots.f KK = some rootsA := by
  have h := roots_list
  rw [Option.map_eq_some_iff] at h
  obtain ⟨r, hr, hl⟩ := h
  show kq_roots.f 1000 = _
  rw [hr]
  refine congrArg some (arr_ext fun i hi => ?_)
  unfold rootsA
  rw [rd_mapA _ _ hi]
  unfold rd
  rw [hl]
  simp [List.getD_eq_getElem?_getD, hi]
def pntt (a : Arr 256) : Arr 256 := nttR rootsA a
theorem kq_Ntt_eq (a : Arr 256) (ha : FitK a) : kq_Ntt.f KK a = some (pntt a) := by
  unfold kq_Ntt.f
  rw [kq_roots_eq]
  simp only [Option.bind_some]
  rw [ntt_l0_eq KK (by decide) rootsA a fit_rootsA ha]
  rfl
/-- One block's halves, up to i. -/
def bfB (s f : Nat) (c : Int) (i : Nat) (z : Arr 256) : Arr 256 := mapA 256 fun j =>
  if f ≤ j ∧ j < i then (rd z j + rd z (j + s : Nat)) % 3329
  else if f + s ≤ j ∧ j < i + s then c * (rd z j - rd z (j - s : Nat) + 3329) % 3329 else rd z j
theorem bfB_start (s f : Nat) (c : Int) (z : Arr 256) : bfB s f c f z = z := by
  refine arr_ext fun j hj => ?_
  unfold bfB
  rw [rd_mapA _ _ hj, if_neg (by omega), if_neg (by omega)]
theorem bfB_step {s f i : Nat} {c : Int} {z : Arr 256} (hf : f + 2 * s ≤ 256) (hi0 : f ≤ i) (hi : i < f + s) :
    wr (wr (bfB s f c i z) (i : Nat) ((rd z i + rd z (i + s : Nat)) % 3329)) ((i + s : Nat) : Int) (c * (rd z (i + s : Nat) - rd z i + 3329) % 3329) = bfB s f c (i + 1) z := by
  refine arr_ext fun j hj => ?_
  rw [rd_wr _ _ _ _ hj, rd_wr _ _ _ _ hj]
  unfold bfB
  rw [rd_mapA _ _ hj, rd_mapA _ _ hj]
  by_cases h1 : i = j
  · subst h1
    rw [if_neg (show ¬ i + s = i by omega), if_pos rfl, if_pos ⟨hi0, by omega⟩]
  · by_cases h2 : i + s = j
    · subst h2
      rw [if_pos rfl, if_neg (by omega), if_pos ⟨by omega, by omega⟩, Nat.add_sub_cancel]
    · rw [if_neg h2, if_neg h1]
      by_cases h3 : f ≤ j ∧ j < i
      · rw [if_pos h3, if_pos ⟨h3.1, by omega⟩]
      · have h3' : ¬ (f ≤ j ∧ j < i + 1) := by omega
        rw [if_neg h3, if_neg h3']
        by_cases h4 : f + s ≤ j ∧ j < i + s
        · rw [if_pos h4, if_pos ⟨h4.1, by omega⟩]
        · rw [if_neg h4, if_neg (by omega)]
theorem rd_bfB_lo {s f i : Nat} {c : Int} {z : Arr 256} (hi : i < f + s) (h : i < 256) : rd (bfB s f c i z) i = rd z i := by
  unfold bfB
  rw [rd_mapA _ _ h, if_neg (by omega), if_neg (by omega)]
theorem rd_bfB_hi {s f i : Nat} {c : Int} {z : Arr 256} (hs : 0 < s) (hi0 : f ≤ i) (hi : i < f + s) (h : i + s < 256) : rd (bfB s f c i z) (i + s : Nat) = rd z (i + s : Nat) := by
  unfold bfB
  rw [rd_mapA _ _ h, if_neg (by omega), if_neg (by omega)]
theorem back_l2 (K : Nat) (r : Arr 128) (z : Arr 256) (hr : FitR r) (hz : FitK z) (s f m : Nat) (hs : 0 < s) (hf : f + 2 * s ≤ 256) (hm : m < 128) :
    ∀ (d i k : Nat), i + d = f + s → f ≤ i → d < k → kq_Back.l2 K k r s f m i (bfB s f (rd r m) i z) = some (bfB s f (rd r m) (f + s) z) := by
  intro d
  induction d with
  | zero =>
    intro i k hi hfi hk
    obtain ⟨k, rfl⟩ : ∃ m, k = m + 1 := ⟨k - 1, by omega⟩
    obtain rfl : i = f + s := by omega
    simp only [kq_Back.l2, add64 (x := (f : Int)) (y := s) (by omega) (by omega), show ¬ ((f + s : Nat) : Int) < (f : Int) + s by omega, if_false]
  | succ d ih =>
    intro i k hi hfi hk
    obtain ⟨k, rfl⟩ : ∃ m, k = m + 1 := ⟨k - 1, by omega⟩
    obtain ⟨c0, c1⟩ := hr m hm
    obtain ⟨x0, x1⟩ := hz i (by omega)
    obtain ⟨y0, y1⟩ := hz (i + s) (by omega)
    have e1 : iadd .i64 (i : Int) s = ((i + s : Nat) : Int) := by rw [add64 (by omega) (by omega)]; omega
    have t2 : iadd .i32 (isub .i32 (rd z (i + s : Nat)) (rd z i)) 3329 = rd z (i + s : Nat) - rd z i + 3329 := by rw [sub32 (by omega) (by omega), add32 (by omega) (by omega)]
    have t3 := mulq c0 c1 (show 0 ≤ rd z (i + s : Nat) - rd z i + 3329 by omega) (by omega)
    have hlo := rd_bfB_lo (s := s) (f := f) (i := i) (c := rd r m) (z := z) (by omega) (by omega)
    have hhi := rd_bfB_hi (s := s) (f := f) (i := i) (c := rd r m) (z := z) hs hfi (by omega) (by omega)
    have hw := rd_wr_ne (bfB s f (rd r m) i z) i (i + s) ((rd z i + rd z (i + s : Nat)) % 3329) (by omega) (by omega)
    rw [hhi] at hw
    have h1 : (i : Int) < (f : Int) + s := by omega
    have h2 : (0 : Int) ≤ m := by omega
    have h3 : (m : Int) < 128 := by omega
    have h4 : (0 : Int) ≤ ((i + s : Nat) : Int) := by omega
    have h5 : ((i + s : Nat) : Int) < 256 := by omega
    have h6 : (0 : Int) ≤ i := by omega
    have h7 : (i : Int) < 256 := by omega
    have h8 : iadd .i64 (i : Int) 1 = ((i + 1 : Nat) : Int) := by rw [add64 (by omega) (by omega)]; rfl
    simp only [kq_Back.l2, add64 (x := (f : Int)) (y := s) (by omega) (by omega), h1, h2, h3, if_true, e1, Option.bind_some, h4, h5, hlo, hhi, h6, h7, addq x0 x1 y0 y1, hw, t2, t3, h8]
    rw [bfB_step hf hfi (by omega)]
    exact ih (i + 1) k (by omega) (by omega) (by omega)
/-- A layer, its first b blocks of n. -/
def layB (r : Arr 128) (s n b : Nat) (z : Arr 256) : Arr 256 := mapA 256 fun j =>
  if j < b * (2 * s) then
    (if j % (2 * s) < s then (rd z j + rd z (j + s : Nat)) % 3329
     else rd r (2 * n - 1 - j / (2 * s) : Nat) * (rd z j - rd z (j - s : Nat) + 3329) % 3329)
  else rd z j
theorem fit_layB {r : Arr 128} {s n b : Nat} {z : Arr 256} (hz : FitK z) : FitK (layB r s n b z) := fit_map fun j hj => by
  split
  · split
    · exact ⟨Int.emod_nonneg _ (by decide), Int.emod_lt_of_pos _ (by decide)⟩
    · exact ⟨Int.emod_nonneg _ (by decide), Int.emod_lt_of_pos _ (by decide)⟩
  · exact hz j hj
theorem layB_start (r : Arr 128) (s n : Nat) (z : Arr 256) : layB r s n 0 z = z := by
  refine arr_ext fun j hj => ?_
  unfold layB
  rw [rd_mapA _ _ hj, if_neg (by omega)]
theorem layB_step {r : Arr 128} {s n b : Nat} {z : Arr 256} (hs : 0 < s) (hb : (b + 1) * (2 * s) ≤ 256) :
    bfB s (b * (2 * s)) (rd r (2 * n - 1 - b : Nat)) (b * (2 * s) + s) (layB r s n b z) = layB r s n (b + 1) z := by
  have hmul : (b + 1) * (2 * s) = b * (2 * s) + 2 * s := Nat.succ_mul _ _
  generalize hB : b * (2 * s) = B at *
  refine arr_ext fun j hj => ?_
  unfold bfB
  rw [rd_mapA _ _ hj]
  have big : ∀ j', B ≤ j' → j' < 256 → rd (layB r s n b z) (j' : Nat) = rd z (j' : Nat) := fun j' h h' => by
    unfold layB
    rw [rd_mapA _ _ h', hB, if_neg (by omega)]
  by_cases h1 : B ≤ j ∧ j < B + s
  · have hq : j / (2 * s) = b := by
      rw [Nat.div_eq_iff (by omega)]
      rw [Nat.mul_comm] at hB
      constructor <;> (rw [Nat.mul_comm]; omega)
    have hm : j % (2 * s) = j - B := by
      have := Nat.div_add_mod j (2 * s)
      rw [hq, Nat.mul_comm, hB] at this
      omega
    rw [if_pos h1, big j h1.1 hj, big (j + s) (by omega) (by omega)]
    unfold layB
    rw [rd_mapA _ _ hj, hmul, if_pos (by omega), hm, if_pos (by omega)]
  · rw [if_neg h1]
    by_cases h2 : B + s ≤ j ∧ j < B + s + s
    · have hq : j / (2 * s) = b := by
        rw [Nat.div_eq_iff (by omega)]
        rw [Nat.mul_comm] at hB
        constructor <;> (rw [Nat.mul_comm]; omega)
      have hm : j % (2 * s) = j - B := by
        have := Nat.div_add_mod j (2 * s)
        rw [hq, Nat.mul_comm, hB] at this
        omega
      rw [if_pos h2, big j (by omega) hj, big (j - s) (by omega) (by omega)]
      unfold layB
      rw [rd_mapA _ _ hj, hmul, if_pos (by omega), hm, if_neg (by omega), hq]
    · rw [if_neg h2]
      unfold layB
      rw [rd_mapA _ _ hj, rd_mapA _ _ hj, hmul, hB]
      by_cases h3 : j < B
      · have h4 : j < B + 2 * s := by omega
        rw [if_pos h3, if_pos h4]
      · have h4 : ¬ j < B + 2 * s := by omega
        rw [if_neg h3, if_neg h4]
theorem back_l1 (K : Nat) (hK : 256 < K) (r : Arr 128) (z : Arr 256) (hr : FitR r) (hz : FitK z) (s n : Nat) (hs : 0 < s) (hn : n * (2 * s) = 256) (hn2 : n ≤ 64) :
    ∀ (d b k : Nat), b + d = n → d < k → kq_Back.l1 K k r s ((2 * n - b : Nat) : Int) ((b * (2 * s) : Nat) : Int) (layB r s n b z) = some (((n : Nat) : Int), layB r s n n z) := by
  intro d
  induction d with
  | zero =>
    intro b k hb hk
    obtain ⟨k, rfl⟩ : ∃ m, k = m + 1 := ⟨k - 1, by omega⟩
    obtain rfl : b = n := by omega
    rw [hn, show 2 * b - b = b by omega]
    simp only [kq_Back.l1, show ¬ ((256 : Nat) : Int) < 256 by omega, if_false]
  | succ d ih =>
    intro b k hb hk
    obtain ⟨k, rfl⟩ : ∃ m, k = m + 1 := ⟨k - 1, by omega⟩
    have hb1 : (b + 1) * (2 * s) ≤ 256 := by rw [← hn]; exact Nat.mul_le_mul_right _ (by omega)
    have hmul : (b + 1) * (2 * s) = b * (2 * s) + 2 * s := Nat.succ_mul _ _
    have h1 : ((b * (2 * s) : Nat) : Int) < 256 := by omega
    have h2 : isub .i64 ((2 * n - b : Nat) : Int) 1 = ((2 * n - 1 - b : Nat) : Int) := by rw [sub64 (by omega) (by omega)]; omega
    have h3 := back_l2 K r (layB r s n b z) hr (fit_layB hz) s (b * (2 * s)) (2 * n - 1 - b) hs (by omega) (by omega) s (b * (2 * s)) K (by omega) (by omega) (by omega)
    rw [bfB_start] at h3
    have h4 : iadd .i64 ((b * (2 * s) : Nat) : Int) (imul .i64 2 (s : Int)) = (((b + 1) * (2 * s) : Nat) : Int) := by
      rw [mul64 (by omega) (by omega), add64 (by omega) (by omega), hmul]
      omega
    simp only [kq_Back.l1, h1, if_true, h2, Option.bind_some, h3, h4]
    rw [layB_step hs hb1, show 2 * n - 1 - b = 2 * n - (b + 1) by omega]
    exact ih (b + 1) k (by omega) (by omega)
theorem back_l0_step (K k : Nat) (hK : 256 < K) (r : Arr 128) (z : Arr 256) (hr : FitR r) (hz : FitK z) (s n : Nat) (hs : 0 < s) (hn : n * (2 * s) = 256) (hn2 : n ≤ 64) (hs2 : s ≤ 128) :
    kq_Back.l0 K (k + 1) r ((2 * n : Nat) : Int) (s : Int) z = kq_Back.l0 K k r (n : Int) ((2 * s : Nat) : Int) (layB r s n n z) := by
  have h1 : (s : Int) ≤ 128 := by omega
  have h2 : imul .i64 (s : Int) 2 = ((2 * s : Nat) : Int) := by rw [mul64 (by omega) (by omega)]; omega
  have h3 := back_l1 K hK r z hr hz s n hs hn hn2 n 0 K (by omega) (by omega)
  rw [layB_start] at h3
  simp only [Nat.sub_zero, Nat.zero_mul, Int.natCast_zero] at h3
  simp only [kq_Back.l0, h1, if_true, h3, Option.bind_some, h2]
/-- The transform back by the given roots, 256 times. -/
def nttB (r : Arr 128) (a : Arr 256) : Arr 256 :=
  layB r 128 1 1 (layB r 64 2 2 (layB r 32 4 4 (layB r 16 8 8 (layB r 8 16 16 (layB r 4 32 32 (layB r 2 64 64 a))))))
theorem fit_nttB {r : Arr 128} {a : Arr 256} (ha : FitK a) : FitK (nttB r a) :=
  fit_layB (fit_layB (fit_layB (fit_layB (fit_layB (fit_layB (fit_layB ha))))))
theorem back_l0_eq (K : Nat) (hK : 256 < K) (r : Arr 128) (a : Arr 256) (hr : FitR r) (ha : FitK a) : kq_Back.l0 K K r 128 2 a = some (nttB r a) := by
  obtain ⟨k, rfl⟩ : ∃ k, K = k + 9 := ⟨K - 9, by omega⟩
  have f2 := fit_layB (r := r) (s := 2) (n := 64) (b := 64) ha
  have f3 := fit_layB (r := r) (s := 4) (n := 32) (b := 32) f2
  have f4 := fit_layB (r := r) (s := 8) (n := 16) (b := 16) f3
  have f5 := fit_layB (r := r) (s := 16) (n := 8) (b := 8) f4
  have f6 := fit_layB (r := r) (s := 32) (n := 4) (b := 4) f5
  have f7 := fit_layB (r := r) (s := 64) (n := 2) (b := 2) f6
  have e2 := back_l0_step (k + 9) (k + 8) hK r _ hr ha 2 64 (by decide) (by decide) (by decide) (by decide)
  have e3 := back_l0_step (k + 9) (k + 7) hK r _ hr f2 4 32 (by decide) (by decide) (by decide) (by decide)
  have e4 := back_l0_step (k + 9) (k + 6) hK r _ hr f3 8 16 (by decide) (by decide) (by decide) (by decide)
  have e5 := back_l0_step (k + 9) (k + 5) hK r _ hr f4 16 8 (by decide) (by decide) (by decide) (by decide)
  have e6 := back_l0_step (k + 9) (k + 4) hK r _ hr f5 32 4 (by decide) (by decide) (by decide) (by decide)
  have e7 := back_l0_step (k + 9) (k + 3) hK r _ hr f6 64 2 (by decide) (by decide) (by decide) (by decide)
  have e8 := back_l0_step (k + 9) (k + 2) hK r _ hr f7 128 1 (by decide) (by decide) (by decide) (by decide)
  refine (e2.trans (e3.trans (e4.trans (e5.trans (e6.trans (e7.trans (e8.trans ?_)))))))
  simp only [kq_Back.l0, show ¬ (((2 * 128 : Nat) : Int) ≤ 128) by decide, if_false]
  rfl
def pback (a : Arr 256) : Arr 256 := mapA 256 fun i => rd (nttB rootsA a) i * 3303 % 3329
theorem fit_pback (a : Arr 256) : FitK (pback a) := fit_map fun i _ => ⟨Int.emod_nonneg _ (by decide), Int.emod_lt_of_pos _ (by decide)⟩
theorem kq_Back_eq (a : Arr 256) (ha : FitK a) : kq_Back.f KK a = some (pback a) := by
  unfold kq_Back.f
  rw [kq_roots_eq]
  simp only [Option.bind_some]
  rw [back_l0_eq KK (by decide) rootsA a fit_rootsA ha]
  simp only [Option.bind_some]
  have hf := fit_nttB (r := rootsA) ha
  rw [loop_map (n := 256) (fun k i z => kq_Back.l3 KK k i z) (fun i x => x * 3303 % 3329) (nttB rootsA a) ?_ ?_ KK (by decide)]
  · rfl
  · intro k i z hi hz
    obtain ⟨h0, h1⟩ := hf i hi
    simp only [kq_Back.l3, show (i : Int) < 256 by omega, show (0 : Int) ≤ i by omega, if_true, hz, mulq h0 h1 (show (0 : Int) ≤ 3303 by decide) (show (3303 : Int) < 6658 by decide), Option.bind_some, add64 (x := (i : Int)) (y := 1) (by omega) (by omega)]
    rfl
  · intro k z
    simp only [kq_Back.l3, show ¬ ((256 : Nat) : Int) < 256 by omega, if_false]
end Go.Proofs.Ytijahfdldlmnhaa
