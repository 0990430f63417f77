/- Layer 22 (dpack), plain laws: how many bits a number needs. -/
import Derived.Test.YtppohhnfojalbaaDoorVF0
import Derived.Test.YtppohhnfojalbaaDoorVFDsampBounds
import Derived.Test.YtppohhnfojalbaaDoorMw
import Derived.Test.YtppohhnfojalbaaDoorMq
import Derived.Test.YtppohhnfojalbaaDoorMb
set_option linter.unusedSimpArgs false
set_option linter.unusedVariables false
set_option maxRecDepth 100000
namespace Go.Proofs.YtppohhnfojalbaaDoor
open Go Go.Mx
def blF : Nat → Nat → Nat
  | 0, _ => 0
  | k + 1, n => if n = 0 then 0 else blF k (n / 2) + 1
/-- how many bits -/
def bl (n : Nat) : Nat := blF 32 n
theorem blF_zero : ∀ k, blF k 0 = 0
  | 0 => rfl
  | _ + 1 => rfl
theorem blF_more : ∀ (k m n : Nat), n < 2 ^ k → k ≤ m → blF m n = blF k n
  | 0, m, n, h, _ => by
    obtain rfl : n = 0 := by omega
    rw [blF_zero]; rfl
  | k + 1, m, n, h, hm => by
    obtain ⟨m, rfl⟩ : ∃ q, m = q + 1 := ⟨m - 1, by omega⟩
    unfold blF
    by_cases h0 : n = 0
    · rw [if_pos h0, if_pos h0]
    · rw [if_neg h0, if_neg h0, blF_more k m (n / 2) (by rw [Nat.pow_succ] at h; omega) (by omega)]
theorem blF_le : ∀ (m k n : Nat), n < 2 ^ m → blF k n ≤ m
  | 0, k, n, h => by
    obtain rfl : n = 0 := by omega
    rw [blF_zero]; omega
  | m + 1, 0, n, _ => Nat.zero_le _
  | m + 1, k + 1, n, h => by
    unfold blF
    split
    · omega
    · have := blF_le m k (n / 2) (by rw [Nat.pow_succ] at h; omega)
      omega
theorem blF_shift : ∀ (j k n : Nat), 2 ^ j ≤ n → blF (k + j) n = blF k (n / 2 ^ j) + j
  | 0, k, n, _ => by rw [Nat.pow_zero, Nat.div_one]; rfl
  | j + 1, k, n, h => by
    have hp : 2 ^ (j + 1) = 2 ^ j * 2 := Nat.pow_succ ..
    have h1 : 0 < 2 ^ j := Nat.two_pow_pos j
    show (if n = 0 then 0 else blF (k + j) (n / 2) + 1) = _
    rw [if_neg (by omega), blF_shift j k (n / 2) (by omega), Nat.div_div_eq_div_mul, show 2 * 2 ^ j = 2 ^ (j + 1) by omega]
    omega
theorem bl_pos {n : Nat} (h : n ≠ 0) : 1 ≤ bl n := by
  show 1 ≤ (if n = 0 then 0 else blF 31 (n / 2) + 1)
  rw [if_neg h]
  omega
theorem len_tail : ∃ T : Int × Int → Option Int, (∀ K n, math_bits_Len32.f K n = (((if n ≥ 65536 then ((some (ishr .u32 n 16)).bind fun x3 => some (x3, 16)) else (some (n, 0)) : Option (Int × Int))).bind fun p => ((if p.1 ≥ 256 then ((some (ishr .u32 p.1 8)).bind fun x6 => (some (iadd .i64 p.2 8)).bind fun x7 => some (x6, x7)) else (some (p.1, p.2)) : Option (Int × Int))).bind T))
    ∧ (∀ (x : Fin 256) (s : Fin 3), T ((x.val : Int), ((8 * s.val : Nat) : Int)) = some ((8 * s.val + blF 8 x.val : Nat) : Int)) := ⟨_, fun _ _ => rfl, by decide +kernel⟩
theorem len32 (K : Nat) {n : Nat} (h : n < 2 ^ 22) : math_bits_Len32.f K (n : Int) = some ((bl n : Nat) : Int) := by
  obtain ⟨T, h1, h2⟩ := len_tail
  rw [h1]
  have hb : bl n = blF 22 n := blF_more 22 32 n h (by decide)
  by_cases c1 : 65536 ≤ n
  · have e : ishr .u32 (n : Int) 16 = ((n / 65536 : Nat) : Int) := ishr_nat (k := .u32) (x := n) (n := 16) (by decide)
    have hx : n / 65536 < 256 := by omega
    rw [if_pos (by omega), e]
    show ((if ((n / 65536 : Nat) : Int) ≥ 256 then ((some (ishr .u32 ((n / 65536 : Nat) : Int) 8)).bind fun x6 => (some (iadd .i64 16 8)).bind fun x7 => some (x6, x7)) else (some (((n / 65536 : Nat) : Int), 16)) : Option (Int × Int))).bind T = _
    rw [if_neg (by omega), Option.bind_some]
    have := h2 ⟨n / 65536, hx⟩ 2
    refine this.trans ?_
    show some ((8 * 2 + blF 8 (n / 65536) : Nat) : Int) = _
    have e2 := blF_shift 16 6 n c1
    have e3 : blF 8 (n / 65536) = blF 6 (n / 65536) := blF_more 6 8 _ (by omega) (by decide)
    have e4 : blF 22 n = blF 6 (n / 65536) + 16 := e2
    rw [hb, e4, e3]
    congr 2
    omega
  · rw [if_neg (by omega), Option.bind_some]
    show ((if (n : Int) ≥ 256 then ((some (ishr .u32 (n : Int) 8)).bind fun x6 => (some (iadd .i64 0 8)).bind fun x7 => some (x6, x7)) else (some ((n : Int), 0)) : Option (Int × Int))).bind T = _
    by_cases c2 : 256 ≤ n
    · have e : ishr .u32 (n : Int) 8 = ((n / 256 : Nat) : Int) := ishr_nat (k := .u32) (x := n) (n := 8) (by decide)
      have hx : n / 256 < 256 := by omega
      rw [if_pos (by omega), e]
      have := h2 ⟨n / 256, hx⟩ 1
      have e5 : iadd .i64 0 8 = 8 := by rw [add64 (by decide) (by decide)]; rfl
      rw [e5]
      refine this.trans ?_
      show some ((8 * 1 + blF 8 (n / 256) : Nat) : Int) = _
      have e2 : blF 22 n = blF 14 (n / 256) + 8 := blF_shift 8 14 n c2
      have e3 : blF 14 (n / 256) = blF 8 (n / 256) := blF_more 8 14 _ (by omega) (by decide)
      rw [hb, e2, e3]
      congr 2
      omega
    · rw [if_neg (by omega), Option.bind_some]
      have := h2 ⟨n, by omega⟩ 0
      refine this.trans ?_
      show some ((8 * 0 + blF 8 n : Nat) : Int) = _
      rw [hb, blF_more 8 22 n (by omega) (by decide)]
      congr 2
      omega
/-! ### spans -/
/-- what numbers may be packed -/
def fitS (low high : Int) : Bool := decide (-1 ≤ low) && (decide (low ≤ 1048576) && (decide (1 ≤ high) && decide (high ≤ 1048576)))
theorem fitS_iff {low high : Int} : fitS low high = true ↔ -1 ≤ low ∧ low ≤ 1048576 ∧ 1 ≤ high ∧ high ≤ 1048576 := by
  unfold fitS
  simp only [Bool.and_eq_true, decide_eq_true_iff]
theorem dFit (K : Nat) (low high : Int) : dpack_span_fit.f K low high = some (fitS low high) := by
  unfold dpack_span_fit.f fitS
  (repeat' split) <;> simp_all <;> (intros; omega)
/-- the greatest packed number -/
def allS (low high : Int) : Nat := ((if low < 0 then 0 else low) + high).toNat
theorem allS_eq {low high : Int} (h : fitS low high = true) : iadd .i32 (imax low 0) high = (allS low high : Int) ∧ allS low high < 2 ^ 22 ∧ allS low high ≠ 0 := by
  obtain ⟨h0, h1, h2, h3⟩ := fitS_iff.1 h
  unfold allS imax
  by_cases hl : low < 0
  · rw [if_pos hl, add32 (by omega) (by omega)]
    refine ⟨?_, ?_, ?_⟩ <;> omega
  · rw [if_neg hl, add32 (by omega) (by omega)]
    refine ⟨?_, ?_, ?_⟩ <;> omega
/-- how many bits each has -/
def widS (low high : Int) : Nat := bl (allS low high)
theorem widS_bd {low high : Int} (h : fitS low high = true) : 1 ≤ widS low high ∧ widS low high ≤ 22 := by
  obtain ⟨_, h1, h2⟩ := allS_eq h
  exact ⟨bl_pos h2, blF_le 22 32 _ h1⟩
theorem dAll (K : Nat) {low high : Int} (h : fitS low high = true) : dpack_span_all.f K low high = some (allS low high : Int) := by
  unfold dpack_span_all.f
  rw [(allS_eq h).1]
  rfl
theorem convU32 {n : Nat} (h : n < 2 ^ 32) : iconv .u32 (n : Int) = (n : Int) := by
  unfold iconv
  rw [wu32]
  omega
theorem dWid (K : Nat) {low high : Int} (h : fitS low high = true) : dpack_span_width.f K low high = some (widS low high : Int) := by
  obtain ⟨_, h1, h2⟩ := allS_eq h
  unfold dpack_span_width.f
  rw [dAll K h, Option.bind_some, convU32 (by omega), len32 K h1]
  rfl
theorem dSize (K : Nat) {low high : Int} (h : fitS low high = true) : dpack_span_size.f K low high = some ((32 * widS low high : Nat) : Int) := by
  obtain ⟨w1, w2⟩ := widS_bd h
  unfold dpack_span_size.f
  rw [dWid K h, Option.bind_some, mul64 (by omega) (by omega)]
  show some (32 * (widS low high : Int)) = _
  congr 1
end Go.Proofs.YtppohhnfojalbaaDoor
