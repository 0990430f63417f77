/- Layer 12 (gcm), plain laws: elements there and back, xored texts as elements, products and sums of blocks. -/
import Derived.Test.YtmpagpbnpgcecaaGFGcmFields
import Derived.Test.YtmpagpbnpgcecaaGFGcmTells
import Derived.Test.YtmpagpbnpgcecaaGg
set_option linter.unusedSimpArgs false
set_option linter.unusedVariables false
set_option maxRecDepth 100000
namespace Go.Proofs.Ytmpagpbnpgcecaa
open Go Go.Mx
theorem horner {a i : Nat} (ha : a < 2 ^ 64) : (a / 2 ^ (8 * (i + 1)) * 256 + a / 2 ^ (8 * i) % 256) % 2 ^ 64 = a / 2 ^ (8 * i) := by
  have h1 : a / 2 ^ (8 * (i + 1)) = a / 2 ^ (8 * i) / 256 := by
    rw [Nat.div_div_eq_div_mul, show 8 * (i + 1) = 8 * i + 8 by omega, Nat.pow_add]
  have h2 : a / 2 ^ (8 * i) ≤ a := Nat.div_le_self _ _
  rw [h1]
  omega
def hF (n : Nat) (c : Int) : Nat := (n * 256 + c.toNat) % 2 ^ 64
theorem hF_by {a : Nat} (ha : a < 2 ^ 64) (i : Nat) : hF (a / 2 ^ (8 * (i + 1))) (by8 a i) = a / 2 ^ (8 * i) := by
  unfold hF by8
  rw [Int.toNat_natCast]
  exact horner ha
theorem num_be8 {a : Nat} (ha : a < 2 ^ 64) : num (be8 a) = a := by
  have z : a / 2 ^ (8 * (7 + 1)) = 0 := Nat.div_eq_of_lt ha
  have s7 : hF 0 (by8 a 7) = a / 2 ^ (8 * 7) := by
    have := hF_by ha 7
    rw [z] at this
    exact this
  have s6 : hF (a / 2 ^ (8 * 7)) (by8 a 6) = a / 2 ^ (8 * 6) := hF_by ha 6
  have s5 : hF (a / 2 ^ (8 * 6)) (by8 a 5) = a / 2 ^ (8 * 5) := hF_by ha 5
  have s4 : hF (a / 2 ^ (8 * 5)) (by8 a 4) = a / 2 ^ (8 * 4) := hF_by ha 4
  have s3 : hF (a / 2 ^ (8 * 4)) (by8 a 3) = a / 2 ^ (8 * 3) := hF_by ha 3
  have s2 : hF (a / 2 ^ (8 * 3)) (by8 a 2) = a / 2 ^ (8 * 2) := hF_by ha 2
  have s1 : hF (a / 2 ^ (8 * 2)) (by8 a 1) = a / 2 ^ (8 * 1) := hF_by ha 1
  have s0 : hF (a / 2 ^ (8 * 1)) (by8 a 0) = a / 2 ^ (8 * 0) := hF_by ha 0
  show hF (hF (hF (hF (hF (hF (hF (hF 0 (by8 a 7)) (by8 a 6)) (by8 a 5)) (by8 a 4)) (by8 a 3)) (by8 a 2)) (by8 a 1)) (by8 a 0) = a
  rw [s7, s6, s5, s4, s3, s2, s1, s0, Nat.mul_zero, Nat.pow_zero, Nat.div_one]
theorem hF_m {n m : Nat} (hn : n < 2 ^ 56) (hm : m < 256) : hF n (m : Int) = n * 256 + m ∧ n * 256 + m < 2 ^ 64 := by
  unfold hF
  rw [Int.toNat_natCast]
  exact ⟨Nat.mod_eq_of_lt (by omega), by omega⟩
theorem by8_z {n m : Nat} (hm : m < 256) : by8 (n * 256 + m) 0 = (m : Int) := by
  unfold by8
  rw [Nat.mul_zero, Nat.pow_zero, Nat.div_one]
  omega
theorem by8_s {n m : Nat} (hm : m < 256) (i : Nat) : by8 (n * 256 + m) (i + 1) = by8 n i := by
  unfold by8
  have h : (n * 256 + m) / 2 ^ (8 * (i + 1)) = n / 2 ^ (8 * i) := by
    rw [show 8 * (i + 1) = 8 + 8 * i by omega, Nat.pow_add, ← Nat.div_div_eq_div_mul, show (n * 256 + m) / 2 ^ 8 = n by omega]
  rw [h]
theorem be8_num {v : List Int} (hv : InL .u8 v) (hl : v.length = 8) : be8 (num v) = v := by
  match v, hl with
  | [x0, x1, x2, x3, x4, x5, x6, x7], _ =>
    obtain ⟨m0, rfl, l0⟩ := byte_nat hv (x := x0) (by simp)
    obtain ⟨m1, rfl, l1⟩ := byte_nat hv (x := x1) (by simp)
    obtain ⟨m2, rfl, l2⟩ := byte_nat hv (x := x2) (by simp)
    obtain ⟨m3, rfl, l3⟩ := byte_nat hv (x := x3) (by simp)
    obtain ⟨m4, rfl, l4⟩ := byte_nat hv (x := x4) (by simp)
    obtain ⟨m5, rfl, l5⟩ := byte_nat hv (x := x5) (by simp)
    obtain ⟨m6, rfl, l6⟩ := byte_nat hv (x := x6) (by simp)
    obtain ⟨m7, rfl, l7⟩ := byte_nat hv (x := x7) (by simp)
    have a0 := (hF_m (n := 0) (m := m0) (by decide) l0).1
    obtain ⟨n1, e1⟩ : ∃ n1, n1 = 0 * 256 + m0 := ⟨_, rfl⟩
    rw [← e1] at a0
    have a1 := (hF_m (n := n1) (m := m1) (by omega) l1).1
    obtain ⟨n2, e2⟩ : ∃ n2, n2 = n1 * 256 + m1 := ⟨_, rfl⟩
    rw [← e2] at a1
    have a2 := (hF_m (n := n2) (m := m2) (by omega) l2).1
    obtain ⟨n3, e3⟩ : ∃ n3, n3 = n2 * 256 + m2 := ⟨_, rfl⟩
    rw [← e3] at a2
    have a3 := (hF_m (n := n3) (m := m3) (by omega) l3).1
    obtain ⟨n4, e4⟩ : ∃ n4, n4 = n3 * 256 + m3 := ⟨_, rfl⟩
    rw [← e4] at a3
    have a4 := (hF_m (n := n4) (m := m4) (by omega) l4).1
    obtain ⟨n5, e5⟩ : ∃ n5, n5 = n4 * 256 + m4 := ⟨_, rfl⟩
    rw [← e5] at a4
    have a5 := (hF_m (n := n5) (m := m5) (by omega) l5).1
    obtain ⟨n6, e6⟩ : ∃ n6, n6 = n5 * 256 + m5 := ⟨_, rfl⟩
    rw [← e6] at a5
    have a6 := (hF_m (n := n6) (m := m6) (by omega) l6).1
    obtain ⟨n7, e7⟩ : ∃ n7, n7 = n6 * 256 + m6 := ⟨_, rfl⟩
    rw [← e7] at a6
    have a7 := (hF_m (n := n7) (m := m7) (by omega) l7).1
    have h0 : num [(m0 : Int), (m1 : Int), (m2 : Int), (m3 : Int), (m4 : Int), (m5 : Int), (m6 : Int), (m7 : Int)] = n7 * 256 + m7 := by
      show hF (hF (hF (hF (hF (hF (hF (hF 0 (m0 : Int)) (m1 : Int)) (m2 : Int)) (m3 : Int)) (m4 : Int)) (m5 : Int)) (m6 : Int)) (m7 : Int) = _
      rw [a0, a1, a2, a3, a4, a5, a6, a7]
    rw [h0]
    unfold be8
    rw [by8_z l7, by8_s l7 0, by8_s l7 1, by8_s l7 2, by8_s l7 3, by8_s l7 4, by8_s l7 5, by8_s l7 6, e7]
    rw [by8_z l6, by8_s l6 0, by8_s l6 1, by8_s l6 2, by8_s l6 3, by8_s l6 4, by8_s l6 5, e6]
    rw [by8_z l5, by8_s l5 0, by8_s l5 1, by8_s l5 2, by8_s l5 3, by8_s l5 4, e5]
    rw [by8_z l4, by8_s l4 0, by8_s l4 1, by8_s l4 2, by8_s l4 3, e4]
    rw [by8_z l3, by8_s l3 0, by8_s l3 1, by8_s l3 2, e3]
    rw [by8_z l2, by8_s l2 0, by8_s l2 1, e2]
    rw [by8_z l1, by8_s l1 0, e1]
    rw [by8_z l0]
theorem rd_wr {p : EL} (hp : P64 p) : rd16 (wr16 p) = p := by
  show (num (be8 p.1), num (be8 p.2)) = p
  rw [num_be8 hp.1, num_be8 hp.2]
theorem wr_rd {b : List Int} (hb : InL .u8 b) (hl : b.length = 16) : wr16 (rd16 b) = b := by
  show be8 (num (b.take 8)) ++ be8 (num (b.drop 8)) = b
  rw [be8_num (g_take hb 8) (by rw [List.length_take]; omega), be8_num (g_drop hb 8) (by rw [List.length_drop]; omega), List.take_append_drop]
theorem or_xor {x b h : Nat} (hx : x < 2 ^ h) : x + b * 2 ^ h = x ^^^ b * 2 ^ h := by
  rw [← or_parts hx]
  refine Nat.eq_of_testBit_eq fun i => ?_
  rw [Nat.testBit_or, Nat.testBit_xor]
  by_cases hi : i < h
  · have : (b * 2 ^ h).testBit i = false := by
      rw [Nat.mul_comm, Nat.testBit_two_pow_mul]
      simp [show ¬ h ≤ i by omega]
    simp [this]
  · have : x.testBit i = false := Nat.testBit_lt_two_pow (Nat.lt_of_lt_of_le hx (Nat.pow_le_pow_right (by decide) (by omega)))
    simp [this]
theorem mul_xor (a b h : Nat) : (a ^^^ b) * 2 ^ h = a * 2 ^ h ^^^ b * 2 ^ h := by
  have := Nat.shiftLeft_xor_distrib (a := a) (b := b) (i := h)
  simpa [Nat.shiftLeft_eq] using this
theorem hF_xor {n m x y : Nat} (hx : x < 256) (hy : y < 256) : hF (n ^^^ m) ((x ^^^ y : Nat) : Int) = hF n (x : Int) ^^^ hF m (y : Int) := by
  unfold hF
  rw [Int.toNat_natCast, Int.toNat_natCast, Int.toNat_natCast]
  have hxy := Nat.xor_lt_two_pow (n := 8) (x := x) (y := y) (by omega) (by omega)
  have e : ∀ a z : Nat, z < 256 → a * 256 + z = z ^^^ a * 2 ^ 8 := fun a z hz => by rw [← or_xor (h := 8) (by omega)]; omega
  rw [e _ _ (by omega), e _ _ hx, e _ _ hy, mul_xor, ← Nat.xor_mod_two_pow, Nat.xor_assoc, Nat.xor_assoc, ← Nat.xor_assoc y, Nat.xor_comm y (n * 2 ^ 8), Nat.xor_assoc (n * 2 ^ 8)]
theorem num_xr : ∀ (a b : List Int) (n m : Nat), InL .u8 a → InL .u8 b → a.length = b.length → (xr a b).foldl hF (n ^^^ m) = a.foldl hF n ^^^ b.foldl hF m
  | [], [], _, _, _, _, _ => rfl
  | [], _ :: _, _, _, _, _, h => by cases h
  | _ :: _, [], _, _, _, _, h => by cases h
  | x :: a, y :: b, n, m, ha, hb, hl => by
    obtain ⟨p, rfl, hp⟩ := byte_nat ha (x := x) (by simp)
    obtain ⟨q, rfl, hq⟩ := byte_nat hb (x := y) (by simp)
    have e : ixor .u8 (p : Int) (q : Int) = ((p ^^^ q : Nat) : Int) := ixor_nat (k := .u8) (show p < 2 ^ 8 by omega) (show q < 2 ^ 8 by omega)
    show (ixor .u8 (p : Int) (q : Int) :: xr a b).foldl hF (n ^^^ m) = (a.foldl hF (hF n (p : Int))) ^^^ (b.foldl hF (hF m (q : Int)))
    rw [List.foldl_cons, e, hF_xor hp hq]
    exact num_xr a b _ _ (fun z hz => ha z (List.mem_cons_of_mem _ hz)) (fun z hz => hb z (List.mem_cons_of_mem _ hz)) (by simpa using hl)
theorem num_x {a b : List Int} (ha : InL .u8 a) (hb : InL .u8 b) (hl : a.length = b.length) : num (xr a b) = num a ^^^ num b := by
  have := num_xr a b 0 0 ha hb hl
  rw [Nat.xor_self] at this
  exact this
theorem xr_take (a b : List Int) (n : Nat) : (xr a b).take n = xr (a.take n) (b.take n) := by
  unfold xr
  exact List.take_zipWith ..
theorem xr_drop (a b : List Int) (n : Nat) : (xr a b).drop n = xr (a.drop n) (b.drop n) := by
  unfold xr
  exact List.drop_zipWith ..
theorem rd_xr {a b : List Int} (ha : InL .u8 a) (hb : InL .u8 b) (la : a.length = 16) (lb : b.length = 16) : rd16 (xr a b) = xp (rd16 a) (rd16 b) := by
  unfold rd16 xp
  rw [xr_take, xr_drop, num_x (g_take ha 8) (g_take hb 8) (by rw [List.length_take, List.length_take, la, lb]), num_x (g_drop ha 8) (g_drop hb 8) (by rw [List.length_drop, List.length_drop, la, lb])]
theorem gMul {a b : List Int} (ha : InL .u8 a) (hb : InL .u8 b) (la : a.length = 16) (lb : b.length = 16) : gcm_Mul.f 1000 a b = some (wr16 (tm (rd16 a) (rd16 b))) := by
  have r1 := gRead ha la
  have r2 := gRead hb lb
  have r3 := gTimes (rd16_P a) (rd16_P b)
  have r4 := gBytes (tm (rd16 a) (rd16 b))
  unfold gcm_Mul.f
  rw [if_pos (by omega), if_pos (by omega), r1]
  simp only [Option.bind_some]
  rw [r2]
  simp only [Option.bind_some]
  rw [r3]
  simp only [Option.bind_some]
  rw [r4]
  rfl
theorem gAdd {h s : EL} (hh : P64 h) (hs : P64 s) {z : List Int} (hz : InL .u8 z) (hl : z.length < 900) : gcm_summer_add.f 1000 (h.1 : Int) (h.2 : Int) (s.1 : Int) (s.2 : Int) z = some ((h.1 : Int), (h.2 : Int), ((sm h 60 s z).1 : Int), ((sm h 60 s z).2 : Int)) := by
  have a := gAdd_l0 hh 60 1000 hs hz (by omega) (by omega) (by decide)
  unfold gcm_summer_add.f
  rw [a]
  rfl
theorem gGhash {h b : List Int} (hh : InL .u8 h) (hb : InL .u8 b) (lh : h.length = 16) (l16 : b.length % 16 = 0) (lb : b.length < 900) : gcm_Ghash.f 1000 h b = some (wr16 (sm (rd16 h) 60 (0, 0) b)) := by
  have r1 := gRead hh lh
  have a : gcm_summer_add.f 1000 ((rd16 h).1 : Int) ((rd16 h).2 : Int) 0 0 b = some (((rd16 h).1 : Int), ((rd16 h).2 : Int), ((sm (rd16 h) 60 (0, 0) b).1 : Int), ((sm (rd16 h) 60 (0, 0) b).2 : Int)) := gAdd (rd16_P h) P0 hb lb
  have r4 := gBytes (sm (rd16 h) 60 (0, 0) b)
  have m : irem .i64 ((b.length : Nat) : Int) 16 = 0 := by
    unfold irem
    rw [show Int.tmod ((b.length : Nat) : Int) 16 = ((b.length % 16 : Nat) : Int) from rfl, l16]
    rfl
  unfold gcm_Ghash.f
  rw [if_pos (by omega), if_pos m, r1]
  simp only [Option.bind_some]
  rw [a]
  simp only [Option.bind_some]
  rw [r4]
  rfl
end Go.Proofs.Ytmpagpbnpgcecaa
