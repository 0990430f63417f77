/- Layer 1 (bits), plain laws: the document's numbers out of bytes. -/
import Derived.Test.YtemdbgmldljbpaaDoorKd
set_option linter.unusedSimpArgs false
set_option linter.unusedVariables false
namespace Go.Proofs.YtemdbgmldljbpaaDoor
open Go Go.Mx
theorem rdL_u8 {b : List Int} (hb : Byt b) (j : Nat) : ∃ c : Nat, rdL (CI .u8) b (j : Nat) = (c : Int) ∧ c < 256 ∧ (b.getD j 0).toNat = c := by
  refine ⟨(b.getD j 0).toNat, ?_, ?_, rfl⟩
  · show b.getD (j : Int).toNat 0 = _
    rw [Int.toNat_natCast]
    by_cases h : j < b.length
    · have := hb (b.getD j 0) (by rw [List.getD_eq_getElem?_getD, List.getElem?_eq_getElem h]; exact List.getElem_mem h)
      omega
    · rw [List.getD_eq_getElem?_getD, List.getElem?_eq_none (by omega)]; rfl
  · by_cases h : j < b.length
    · have := hb (b.getD j 0) (by rw [List.getD_eq_getElem?_getD, List.getElem?_eq_getElem h]; exact List.getElem_mem h)
      omega
    · rw [List.getD_eq_getElem?_getD, List.getElem?_eq_none (by omega)]; simp
theorem bit8 {c s : Nat} (hc : c < 256) (hs : s < 8) : iconv .u32 (iand .u8 (ishr .u8 (c : Int) (s : Int)) 1) = ((c / 2 ^ s % 2 : Nat) : Int) := by
  have h1 : c / 2 ^ s ≤ c := Nat.div_le_self _ _
  rw [ishr_nat (by simp only [IntKind.bits]; omega)]
  generalize c / 2 ^ s = q at *
  have : iand .u8 (q : Int) 1 = ((q &&& 1 : Nat) : Int) := iand_nat (y := 1) (by simp only [top, IntKind.bits, IntKind.signed]; exact Nat.lt_of_le_of_lt h1 hc) (by decide)
  rw [this, Nat.and_one_is_mod]
  exact wrap_nat (Nat.lt_of_lt_of_le (Nat.mod_lt _ (by decide)) (by decide))
theorem ref01_Unpack_l1 (K d i : Nat) (b : List Int) (hb : Byt b) (hd : d ≤ 24) (hi : d * i + d ≤ 8 * b.length) (hl2 : b.length ≤ 1000000) : ∀ (j k : Nat), j ≤ d → j < k →
    ref01_Unpack.l1 K k b (d : Int) (i : Int) ((NB b / 2 ^ (d * i) % 2 ^ d / 2 ^ j : Nat) : Int) ((j : Int) - 1) = some ((NB b / 2 ^ (d * i) % 2 ^ d : Nat) : Int) := by
  intro j
  induction j with
  | zero =>
    intro k hj hk
    obtain ⟨k, rfl⟩ : ∃ m, k = m + 1 := ⟨k - 1, by omega⟩
    simp only [ref01_Unpack.l1, show ¬ ((0 : Nat) : Int) - 1 ≥ 0 by omega, if_false, Nat.pow_zero, Nat.div_one]
  | succ j ih =>
    intro k hj hk
    obtain ⟨k, rfl⟩ : ∃ m, k = m + 1 := ⟨k - 1, by omega⟩
    have g0 : ((j + 1 : Nat) : Int) - 1 = (j : Int) := by omega
    rw [g0]
    have hmul : (i : Int) * (d : Int) = ((d * i : Nat) : Int) := by rw [Int.natCast_mul, Int.mul_comm]
    have hle : d * i ≤ 8 * b.length := by omega
    have g1 : iadd .i64 (imul .i64 (i : Int) (d : Int)) (j : Int) = ((d * i + j : Nat) : Int) := by
      rw [mul64 (by rw [hmul]; omega) (by rw [hmul]; omega), hmul, add64 (by omega) (by omega)]
      omega
    have g2 : iquo .i64 ((d * i + j : Nat) : Int) 8 = (((d * i + j) / 8 : Nat) : Int) := by
      unfold iquo
      rw [tdivN (by omega), id64 (by omega) (by omega)]
      omega
    have g3 : irem .i64 ((d * i + j : Nat) : Int) 8 = (((d * i + j) % 8 : Nat) : Int) := by
      unfold irem
      rw [tmodN (by omega)]
      omega
    obtain ⟨c, hc1, hc2, hc3⟩ := rdL_u8 hb ((d * i + j) / 8)
    have hbit := NB_bit hb (d * i + j) (by omega)
    rw [hc3] at hbit
    have g4 := bit8 (s := (d * i + j) % 8) hc2 (by omega)
    have hV : NB b / 2 ^ (d * i + j) % 2 = NB b / 2 ^ (d * i) % 2 ^ d / 2 ^ j % 2 := by
      rw [Nat.pow_add, ← Nat.div_div_eq_div_mul]
      generalize NB b / 2 ^ (d * i) = M
      obtain ⟨e, rfl⟩ : ∃ e, d = j + (e + 1) := ⟨d - j - 1, by omega⟩
      rw [Nat.pow_add, Nat.mod_mul_right_div_self, Nat.pow_succ, Nat.mul_comm (2 ^ e) 2, Nat.mod_mul_right_mod]
    have hvlt : NB b / 2 ^ (d * i) % 2 ^ d < 2 ^ d := Nat.mod_lt _ (Nat.two_pow_pos d)
    have p1 : 2 ^ d ≤ 2 ^ 24 := Nat.pow_le_pow_right (by decide) hd
    generalize NB b / 2 ^ (d * i) % 2 ^ d = V at *
    rw [hbit, hV] at g4
    have hsub : isub .i64 (j : Int) 1 = (j : Int) - 1 := sub64 (by omega) (by omega)
    have hq : V / 2 ^ (j + 1) ≤ V := Nat.div_le_self _ _
    have g5 : iadd .u32 (imul .u32 ((V / 2 ^ (j + 1) : Nat) : Int) 2) ((V / 2 ^ j % 2 : Nat) : Int) = ((V / 2 ^ j : Nat) : Int) := by
      have e1 : V / 2 ^ (j + 1) = V / 2 ^ j / 2 := by rw [Nat.pow_succ, Nat.div_div_eq_div_mul]
      have hv2 : V / 2 ^ j ≤ V := Nat.div_le_self _ _
      rw [e1]
      generalize V / 2 ^ j = W at *
      unfold iadd imul
      rw [wu32, wu32]
      omega
    simp only [ref01_Unpack.l1, show (j : Int) ≥ 0 by omega, if_true, g1, g2, g3, Option.bind_some, show (0 : Int) ≤ (((d * i + j) / 8 : Nat) : Int) by omega, show (((d * i + j) / 8 : Nat) : Int) < (b.length : Int) by omega, show (0 : Int) ≤ (((d * i + j) % 8 : Nat) : Int) by omega, hc1, g4, g5, hsub]
    exact ih k (by omega) (by omega)
theorem ref01_Unpack_l0 (K d n : Nat) (b : List Int) (hb : Byt b) (hd1 : 1 ≤ d) (hd : d ≤ 24) (hl : d * n ≤ 8 * b.length) (hl2 : b.length ≤ 1000000) (hn : n ≤ 100000) (hK : 30 < K) : ∀ (r i k : Nat), i + r = n → r < k →
    ref01_Unpack.l0 K k b (d : Int) (n : Int) (i : Int) (dig d i (NB b)) = some (dig d n (NB b)) := by
  intro r
  induction r with
  | zero =>
    intro i k hi hk
    obtain ⟨k, rfl⟩ : ∃ m, k = m + 1 := ⟨k - 1, by omega⟩
    obtain rfl : i = n := by omega
    simp only [ref01_Unpack.l0, show ¬ (i : Int) < (i : Int) by omega, if_false]
  | succ r ih =>
    intro i k hi hk
    obtain ⟨k, rfl⟩ : ∃ m, k = m + 1 := ⟨k - 1, by omega⟩
    have hmm : d * (i + 1) ≤ d * n := Nat.mul_le_mul_left d (by omega)
    rw [Nat.mul_add, Nat.mul_one] at hmm
    have hsub : isub .i64 (d : Int) 1 = (d : Int) - 1 := sub64 (by omega) (by omega)
    have h1 := ref01_Unpack_l1 K d i b hb hd (by omega) hl2 d K (Nat.le_refl _) (by omega)
    rw [Nat.div_eq_of_lt (Nat.mod_lt _ (Nat.two_pow_pos d))] at h1
    have h0 : ((0 : Nat) : Int) = 0 := rfl
    rw [h0] at h1
    have e4 : iadd .i64 (i : Int) 1 = ((i + 1 : Nat) : Int) := by rw [add64 (by omega) (by omega)]; rfl
    have hc : (dig d i (NB b)).length + ([((NB b / 2 ^ (d * i) % 2 ^ d : Nat) : Int)] : List Int).length ≤ 35184372088832 := by rw [dig_len]; simp; omega
    simp only [ref01_Unpack.l0, show (i : Int) < (n : Int) by omega, if_true, hsub, Option.bind_some, h1, hc, e4]
    rw [← dig_snoc]
    exact ih (i + 1) k (by omega) (by omega)
theorem ref01_Unpack_eq (K d n : Nat) (b : List Int) (hb : Byt b) (hl : d * n ≤ 8 * b.length) (hl2 : b.length ≤ 1000000) (hd1 : 1 ≤ d) (hd : d ≤ 24) (hn : n ≤ 100000) (hK : 30 < K) (hKn : n < K) : ref01_Unpack.f K b (d : Int) (n : Int) = some (dig d n (NB b)) := by
  have hs : ref01_such.f K b (d : Int) (n : Int) = some true := by
    unfold ref01_such.f
    rw [if_pos (by omega), if_pos (by omega), if_pos (by omega), if_pos (by omega), mul64 (by omega) (by omega)]
    unfold iquo
    rw [tdivN (by omega)]
    have hq : (b.length : Int) * 8 / (d : Int) = ((b.length * 8 / d : Nat) : Int) := by rw [Int.natCast_ediv]; rfl
    have h1 : n ≤ b.length * 8 / d := by rw [Nat.le_div_iff_mul_le (by omega), Nat.mul_comm n d]; omega
    have h2 : b.length * 8 / d ≤ b.length * 8 := Nat.div_le_self _ _
    rw [hq]
    generalize b.length * 8 / d = q at *
    rw [id64 (by omega) (by omega)]
    exact congrArg some (decide_eq_true (by omega))
  unfold ref01_Unpack.f
  rw [hs]
  simp only [Option.bind_some, if_true]
  have := ref01_Unpack_l0 K d n b hb hd1 hd hl hl2 hn hK n 0 K (by omega) hKn
  have h0 : ((0 : Nat) : Int) = 0 := rfl
  rw [h0] at this
  rw [show ([] : List Int) = dig d 0 (NB b) from rfl, this]
  rfl
end Go.Proofs.YtemdbgmldljbpaaDoor
