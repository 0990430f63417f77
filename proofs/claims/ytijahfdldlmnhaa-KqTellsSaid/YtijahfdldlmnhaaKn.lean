/- Layer 25 (kq), plain laws: the transform, layer by layer. -/
import Derived.Test.YtijahfdldlmnhaaKb
set_option linter.unusedSimpArgs false
set_option linter.unusedVariables false
namespace Go.Proofs.Ytijahfdldlmnhaa
open Go Go.Mx
abbrev FitK (a : Arr 256) : Prop := Bel 3329 a
abbrev FitR (r : Arr 128) : Prop := ∀ i : Nat, i < 128 → 0 ≤ rd r i ∧ rd r i < 3329
theorem fit_map {f : Nat → Int} (h : ∀ i, i < 256 → 0 ≤ f i ∧ f i < 3329) : FitK (mapA 256 f) := fun i hi => by rw [rd_mapA _ _ hi]; exact h i hi
theorem mulq_bd {x y : Int} (x0 : 0 ≤ x) (x1 : x < 3329) (y0 : 0 ≤ y) (y1 : y < 6658) : 0 ≤ x * y ∧ x * y ≤ 22164482 := by
  refine ⟨Int.mul_nonneg x0 y0, ?_⟩
  have h : x * y ≤ 3329 * y := Int.mul_le_mul_of_nonneg_right (by omega) y0
  omega
theorem mulq {x y : Int} (x0 : 0 ≤ x) (x1 : x < 3329) (y0 : 0 ≤ y) (y1 : y < 6658) : irem .i32 (imul .i32 x y) 3329 = x * y % 3329 := by
  obtain ⟨h0, h1⟩ := mulq_bd x0 x1 y0 y1
  rw [mul32 (by omega) (by omega)]
  unfold irem
  rw [tmodN h0]
theorem addq {x y : Int} (x0 : 0 ≤ x) (x1 : x < 3329) (y0 : 0 ≤ y) (y1 : y < 3329) : irem .i32 (iadd .i32 x y) 3329 = (x + y) % 3329 := by
  rw [add32 (by omega) (by omega)]
  unfold irem
  rw [tmodN (by omega)]
theorem subq {x y : Int} (x0 : 0 ≤ x) (x1 : x < 3329) (y0 : 0 ≤ y) (y1 : y < 3329) : irem .i32 (iadd .i32 (isub .i32 x y) 3329) 3329 = (x - y) % 3329 := by
  rw [sub32 (by omega) (by omega), add32 (by omega) (by omega)]
  unfold irem
  rw [tmodN (by omega)]
  omega
theorem mapA_self (a : Arr 256) : mapA 256 (fun j => rd a j) = a := arr_ext fun i hi => by rw [rd_mapA _ _ hi]
/-- One block's halves, up to i. -/
def bfU (s f : Nat) (c : Int) (i : Nat) (z : Arr 256) : Arr 256 := mapA 256 fun j =>
  if f ≤ j ∧ j < i then (rd z j + c * rd z (j + s : Nat) % 3329) % 3329
  else if f + s ≤ j ∧ j < i + s then (rd z (j - s : Nat) - c * rd z j % 3329) % 3329 else rd z j
theorem fit_bfU {s f : Nat} {c : Int} {i : Nat} {z : Arr 256} (hz : FitK z) : FitK (bfU s f c i z) := fit_map fun j hj => by
  split
  · exact ⟨Int.emod_nonneg _ (by decide), Int.emod_lt_of_pos _ (by decide)⟩
  · split
    · exact ⟨Int.emod_nonneg _ (by decide), Int.emod_lt_of_pos _ (by decide)⟩
    · exact hz j hj
theorem bfU_start (s f : Nat) (c : Int) (z : Arr 256) : bfU s f c f z = z := by
  refine arr_ext fun j hj => ?_
  unfold bfU
  rw [rd_mapA _ _ hj, if_neg (by omega), if_neg (by omega)]
theorem bfU_step {s f i : Nat} {c : Int} {z : Arr 256} (hf : f + 2 * s ≤ 256) (hi0 : f ≤ i) (hi : i < f + s) :
    wr (wr (bfU s f c i z) ((i + s : Nat) : Int) ((rd z i - c * rd z (i + s : Nat) % 3329) % 3329)) (i : Nat) ((rd z i + c * rd z (i + s : Nat) % 3329) % 3329) = bfU s f c (i + 1) z := by
  refine arr_ext fun j hj => ?_
  rw [rd_wr _ _ _ _ hj, rd_wr _ _ _ _ hj]
  unfold bfU
  rw [rd_mapA _ _ hj, rd_mapA _ _ hj]
  by_cases h1 : i = j
  · subst h1
    rw [if_pos rfl, if_pos ⟨hi0, by omega⟩]
  · rw [if_neg h1]
    by_cases h2 : i + s = j
    · subst h2
      rw [if_pos rfl, if_neg (by omega), if_pos ⟨by omega, by omega⟩, Nat.add_sub_cancel]
    · rw [if_neg h2]
      by_cases h3 : f ≤ j ∧ j < i
      · rw [if_pos h3, if_pos ⟨h3.1, by omega⟩]
      · have h3' : ¬ (f ≤ j ∧ j < i + 1) := by omega
        rw [if_neg h3, if_neg h3']
        by_cases h4 : f + s ≤ j ∧ j < i + s
        · rw [if_pos h4, if_pos ⟨h4.1, by omega⟩]
        · rw [if_neg h4, if_neg (by omega)]
theorem rd_bfU_lo {s f i : Nat} {c : Int} {z : Arr 256} (hi : i < f + s) (h : i < 256) : rd (bfU s f c i z) i = rd z i := by
  unfold bfU
  rw [rd_mapA _ _ h, if_neg (by omega), if_neg (by omega)]
theorem rd_bfU_hi {s f i : Nat} {c : Int} {z : Arr 256} (hs : 0 < s) (hi0 : f ≤ i) (hi : i < f + s) (h : i + s < 256) : rd (bfU s f c i z) (i + s : Nat) = rd z (i + s : Nat) := by
  unfold bfU
  rw [rd_mapA _ _ h, if_neg (by omega), if_neg (by omega)]

theorem ntt_l2 (K : Nat) (r : Arr 128) (z : Arr 256) (hr : FitR r) (hz : FitK z) (s f m : Nat) (hs : 0 < s) (hf : f + 2 * s ≤ 256) (hm : m < 128) :
    ∀ (d i k : Nat), i + d = f + s → f ≤ i → d < k → kq_Ntt.l2 K k r s f m i (bfU s f (rd r m) i z) = some (bfU s f (rd r m) (f + s) z) := by
  intro d
  induction d with
  | zero =>
    intro i k hi hfi hk
    obtain ⟨k, rfl⟩ : ∃ m, k = m + 1 := ⟨k - 1, by omega⟩
    obtain rfl : i = f + s := by omega
    simp only [kq_Ntt.l2, add64 (x := (f : Int)) (y := s) (by omega) (by omega), show ¬ ((f + s : Nat) : Int) < (f : Int) + s by omega, if_false]
  | succ d ih =>
    intro i k hi hfi hk
    obtain ⟨k, rfl⟩ : ∃ m, k = m + 1 := ⟨k - 1, by omega⟩
    obtain ⟨c0, c1⟩ := hr m hm
    obtain ⟨x0, x1⟩ := hz i (by omega)
    obtain ⟨y0, y1⟩ := hz (i + s) (by omega)
    have e1 : iadd .i64 (i : Int) s = ((i + s : Nat) : Int) := by rw [add64 (by omega) (by omega)]; omega
    have t0 : 0 ≤ rd r m * rd z (i + s : Nat) % 3329 := Int.emod_nonneg _ (by decide)
    have t1 : rd r m * rd z (i + s : Nat) % 3329 < 3329 := Int.emod_lt_of_pos _ (by decide)
    have hlo := rd_bfU_lo (s := s) (f := f) (i := i) (c := rd r m) (z := z) (by omega) (by omega)
    have hhi := rd_bfU_hi (s := s) (f := f) (i := i) (c := rd r m) (z := z) hs hfi (by omega) (by omega)
    have h1 : (i : Int) < (f : Int) + s := by omega
    have h2 : (0 : Int) ≤ m := by omega
    have h3 : (m : Int) < 128 := by omega
    have h4 : (0 : Int) ≤ ((i + s : Nat) : Int) := by omega
    have h5 : ((i + s : Nat) : Int) < 256 := by omega
    have h6 : (0 : Int) ≤ i := by omega
    have h7 : (i : Int) < 256 := by omega
    have h8 : iadd .i64 (i : Int) 1 = ((i + 1 : Nat) : Int) := by rw [add64 (by omega) (by omega)]; rfl
    simp only [kq_Ntt.l2, add64 (x := (f : Int)) (y := s) (by omega) (by omega), h1, h2, h3, if_true, e1, Option.bind_some, h4, h5, hlo, hhi, mulq c0 c1 y0 (show rd z (i + s : Nat) < 6658 by omega), h6, h7, subq x0 x1 t0 t1, addq x0 x1 t0 t1, h8]
    rw [bfU_step hf hfi (by omega)]
    exact ih (i + 1) k (by omega) (by omega) (by omega)

/-- A layer, its first b blocks. -/
def layU (r : Arr 128) (s m b : Nat) (z : Arr 256) : Arr 256 := mapA 256 fun j =>
  if j < b * (2 * s) then
    (if j % (2 * s) < s then (rd z j + rd r (m + 1 + j / (2 * s) : Nat) * rd z (j + s : Nat) % 3329) % 3329
     else (rd z (j - s : Nat) - rd r (m + 1 + j / (2 * s) : Nat) * rd z j % 3329) % 3329)
  else rd z j
theorem fit_layU {r : Arr 128} {s m b : Nat} {z : Arr 256} (hz : FitK z) : FitK (layU r s m b z) := fit_map fun j hj => by
  split
  · split
    · exact ⟨Int.emod_nonneg _ (by decide), Int.emod_lt_of_pos _ (by decide)⟩
    · exact ⟨Int.emod_nonneg _ (by decide), Int.emod_lt_of_pos _ (by decide)⟩
  · exact hz j hj
theorem layU_start (r : Arr 128) (s m : Nat) (z : Arr 256) : layU r s m 0 z = z := by
  refine arr_ext fun j hj => ?_
  unfold layU
  rw [rd_mapA _ _ hj, if_neg (by omega)]
theorem layU_step {r : Arr 128} {s m b : Nat} {z : Arr 256} (hs : 0 < s) (hb : (b + 1) * (2 * s) ≤ 256) :
    bfU s (b * (2 * s)) (rd r (m + 1 + b : Nat)) (b * (2 * s) + s) (layU r s m b z) = layU r s m (b + 1) z := by
  have hmul : (b + 1) * (2 * s) = b * (2 * s) + 2 * s := Nat.succ_mul _ _
  generalize hB : b * (2 * s) = B at *
  refine arr_ext fun j hj => ?_
  unfold bfU
  rw [rd_mapA _ _ hj]
  have big : ∀ j', B ≤ j' → j' < 256 → rd (layU r s m b z) (j' : Nat) = rd z (j' : Nat) := fun j' h h' => by
    unfold layU
    rw [rd_mapA _ _ h', hB, if_neg (by omega)]
  by_cases h1 : B ≤ j ∧ j < B + s
  · have hq : j / (2 * s) = b := by
      rw [Nat.div_eq_iff (by omega)]
      rw [Nat.mul_comm] at hB
      constructor <;> (rw [Nat.mul_comm]; omega)
    have hm : j % (2 * s) = j - B := by
      have := Nat.div_add_mod j (2 * s)
      rw [hq, Nat.mul_comm, hB] at this
      omega
    rw [if_pos h1, big j h1.1 hj, big (j + s) (by omega) (by omega)]
    unfold layU
    rw [rd_mapA _ _ hj, hmul, if_pos (by omega), hm, if_pos (by omega), hq]
  · rw [if_neg h1]
    by_cases h2 : B + s ≤ j ∧ j < B + s + s
    · have hq : j / (2 * s) = b := by
        rw [Nat.div_eq_iff (by omega)]
        rw [Nat.mul_comm] at hB
        constructor <;> (rw [Nat.mul_comm]; omega)
      have hm : j % (2 * s) = j - B := by
        have := Nat.div_add_mod j (2 * s)
        rw [hq, Nat.mul_comm, hB] at this
        omega
      rw [if_pos h2, big j (by omega) hj, big (j - s) (by omega) (by omega)]
      unfold layU
      rw [rd_mapA _ _ hj, hmul, if_pos (by omega), hm, if_neg (by omega), hq]
    · rw [if_neg h2]
      unfold layU
      rw [rd_mapA _ _ hj, rd_mapA _ _ hj, hmul, hB]
      by_cases h3 : j < B
      · have h4 : j < B + 2 * s := by omega
        rw [if_pos h3, if_pos h4]
      · have h4 : ¬ j < B + 2 * s := by omega
        rw [if_neg h3, if_neg h4]

theorem ntt_l1 (K : Nat) (hK : 256 < K) (r : Arr 128) (z : Arr 256) (hr : FitR r) (hz : FitK z) (s m n : Nat) (hs : 0 < s) (hn : n * (2 * s) = 256) (hm : m + n < 128) :
    ∀ (d b k : Nat), b + d = n → d < k → kq_Ntt.l1 K k r s ((m + b : Nat) : Int) ((b * (2 * s) : Nat) : Int) (layU r s m b z) = some (((m + n : Nat) : Int), layU r s m n z) := by
  intro d
  induction d with
  | zero =>
    intro b k hb hk
    obtain ⟨k, rfl⟩ : ∃ m, k = m + 1 := ⟨k - 1, by omega⟩
    obtain rfl : b = n := by omega
    rw [hn]
    simp only [kq_Ntt.l1, show ¬ ((256 : Nat) : Int) < 256 by omega, if_false]
  | succ d ih =>
    intro b k hb hk
    obtain ⟨k, rfl⟩ : ∃ m, k = m + 1 := ⟨k - 1, by omega⟩
    have hb1 : (b + 1) * (2 * s) ≤ 256 := by rw [← hn]; exact Nat.mul_le_mul_right _ (by omega)
    have hmul : (b + 1) * (2 * s) = b * (2 * s) + 2 * s := Nat.succ_mul _ _
    have h1 : ((b * (2 * s) : Nat) : Int) < 256 := by omega
    have h2 : iadd .i64 ((m + b : Nat) : Int) 1 = ((m + 1 + b : Nat) : Int) := by rw [add64 (by omega) (by omega)]; omega
    have h3 := ntt_l2 K r (layU r s m b z) hr (fit_layU hz) s (b * (2 * s)) (m + 1 + b) hs (by omega) (by omega) s (b * (2 * s)) K (by omega) (by omega) (by omega)
    rw [bfU_start] at h3
    have h4 : iadd .i64 ((b * (2 * s) : Nat) : Int) (imul .i64 2 (s : Int)) = (((b + 1) * (2 * s) : Nat) : Int) := by
      rw [mul64 (by omega) (by omega), add64 (by omega) (by omega), hmul]
      omega
    simp only [kq_Ntt.l1, h1, if_true, h2, Option.bind_some, h3, h4]
    rw [layU_step hs hb1, show m + 1 + b = m + (b + 1) by omega]
    exact ih (b + 1) k (by omega) (by omega)
theorem ntt_layer (K : Nat) (hK : 256 < K) (r : Arr 128) (z : Arr 256) (hr : FitR r) (hz : FitK z) (s m n : Nat) (hs : 0 < s) (hn : n * (2 * s) = 256) (hm : m + n < 128) :
    kq_Ntt.l1 K K r s (m : Int) 0 z = some (((m + n : Nat) : Int), layU r s m n z) := by
  have hnl : n ≤ 256 := by
    have : n * 1 ≤ n * (2 * s) := Nat.mul_le_mul_left _ (by omega)
    omega
  have := ntt_l1 K hK r z hr hz s m n hs hn hm n 0 K (by omega) (by omega)
  rw [layU_start] at this
  simpa using this
/-- The transform by the given roots. -/
def nttR (r : Arr 128) (a : Arr 256) : Arr 256 :=
  layU r 2 63 64 (layU r 4 31 32 (layU r 8 15 16 (layU r 16 7 8 (layU r 32 3 4 (layU r 64 1 2 (layU r 128 0 1 a))))))
theorem fit_nttR {r : Arr 128} {a : Arr 256} (ha : FitK a) : FitK (nttR r a) :=
  fit_layU (fit_layU (fit_layU (fit_layU (fit_layU (fit_layU (fit_layU ha))))))
theorem ntt_l0_step (K k : Nat) (hK : 256 < K) (r : Arr 128) (z : Arr 256) (hr : FitR r) (hz : FitK z) (s m n : Nat) (hs : 2 ≤ s) (hn : n * (2 * s) = 256) (hm : m + n < 128) :
    kq_Ntt.l0 K (k + 1) r (m : Int) (s : Int) z = kq_Ntt.l0 K k r ((m + n : Nat) : Int) ((s / 2 : Nat) : Int) (layU r s m n z) := by
  have hs2 : s ≤ 256 := by
    have : 1 * (2 * s) ≤ n * (2 * s) := Nat.mul_le_mul_right _ (by
      rcases Nat.eq_zero_or_pos n with h | h
      · subst h; simp at hn
      · exact h)
    omega
  have h1 : (s : Int) ≥ 2 := by omega
  have h2 : iquo .i64 (s : Int) 2 = ((s / 2 : Nat) : Int) := by
    unfold iquo
    rw [tdivN (by omega), id64 (by omega) (by omega)]
    omega
  simp only [kq_Ntt.l0, h1, if_true, ntt_layer K hK r z hr hz s m n (by omega) hn hm, Option.bind_some, h2]
theorem ntt_l0_eq (K : Nat) (hK : 256 < K) (r : Arr 128) (a : Arr 256) (hr : FitR r) (ha : FitK a) : kq_Ntt.l0 K K r 0 128 a = some (nttR r a) := by
  obtain ⟨k, rfl⟩ : ∃ k, K = k + 9 := ⟨K - 9, by omega⟩
  have f1 := fit_layU (r := r) (s := 128) (m := 0) (b := 1) ha
  have f2 := fit_layU (r := r) (s := 64) (m := 1) (b := 2) f1
  have f3 := fit_layU (r := r) (s := 32) (m := 3) (b := 4) f2
  have f4 := fit_layU (r := r) (s := 16) (m := 7) (b := 8) f3
  have f5 := fit_layU (r := r) (s := 8) (m := 15) (b := 16) f4
  have f6 := fit_layU (r := r) (s := 4) (m := 31) (b := 32) f5
  have e1 := ntt_l0_step (k + 9) (k + 8) hK r a hr ha 128 0 1 (by decide) (by decide) (by decide)
  have e2 := ntt_l0_step (k + 9) (k + 7) hK r _ hr f1 64 1 2 (by decide) (by decide) (by decide)
  have e3 := ntt_l0_step (k + 9) (k + 6) hK r _ hr f2 32 3 4 (by decide) (by decide) (by decide)
  have e4 := ntt_l0_step (k + 9) (k + 5) hK r _ hr f3 16 7 8 (by decide) (by decide) (by decide)
  have e5 := ntt_l0_step (k + 9) (k + 4) hK r _ hr f4 8 15 16 (by decide) (by decide) (by decide)
  have e6 := ntt_l0_step (k + 9) (k + 3) hK r _ hr f5 4 31 32 (by decide) (by decide) (by decide)
  have e7 := ntt_l0_step (k + 9) (k + 2) hK r _ hr f6 2 63 64 (by decide) (by decide) (by decide)
  refine (e1.trans (e2.trans (e3.trans (e4.trans (e5.trans (e6.trans (e7.trans ?_)))))))
  simp only [kq_Ntt.l0, show ¬ (((2 / 2 : Nat) : Int) ≥ 2) by decide, if_false]
  rfl
end Go.Proofs.Ytijahfdldlmnhaa
