/- Layer 10 (aes), plain laws: products of bytes. -/
import Derived.Test.YtmpagpbnpgcecaaGFAesBlocks
import Derived.Test.YtmpagpbnpgcecaaMw
import Derived.Test.YtmpagpbnpgcecaaMq
set_option linter.unusedSimpArgs false
set_option linter.unusedVariables false
set_option maxRecDepth 100000
namespace Go.Proofs.Ytmpagpbnpgcecaa
open Go Go.Mx
/-- a byte times x -/
def xt (a : Nat) : Nat := if a.testBit 7 then (a <<< 1) ^^^ 283 else a <<< 1
/-- the sum of a's multiples that b tells -/
def xs : Nat → Nat → Nat → Nat
  | 0, _, _ => 0
  | n + 1, a, b => (if b.testBit 0 then a else 0) ^^^ xs n (xt a) (b >>> 1)
def gm (a b : Nat) : Nat := xs 8 a b
theorem xt_lt {a : Nat} (h : a < 256) : xt a < 256 := by
  have : ∀ a : Fin 256, xt a.val < 256 := by decide +kernel
  exact this ⟨a, h⟩
theorem xor_lt {a b : Nat} (ha : a < 256) (hb : b < 256) : a ^^^ b < 256 := Nat.xor_lt_two_pow (n := 8) ha hb
theorem xs_lt : ∀ (n a b : Nat), a < 256 → xs n a b < 256
  | 0, _, _, _ => by unfold xs; decide
  | n + 1, a, b, h => by
    unfold xs
    refine xor_lt ?_ (xs_lt n _ _ (xt_lt h))
    split
    · exact h
    · decide
theorem gm_lt {a b : Nat} (h : a < 256) : gm a b < 256 := xs_lt 8 a b h
theorem xt_xor (a b : Nat) : xt (a ^^^ b) = xt a ^^^ xt b := by
  unfold xt
  rw [Nat.testBit_xor, Nat.shiftLeft_xor_distrib]
  cases a.testBit 7 <;> cases b.testBit 7 <;> simp
  · rw [Nat.xor_assoc]
  · rw [Nat.xor_assoc, Nat.xor_assoc, Nat.xor_comm 283]
  · rw [Nat.xor_assoc, ← Nat.xor_assoc 283, Nat.xor_comm 283, Nat.xor_assoc (b <<< 1), Nat.xor_self, Nat.xor_zero]
/-! ### the document's product -/
theorem t_hi : ∀ a : Fin 256, (a.val : Int) ≥ 128 → ixor .u8 (ishl .u8 (a.val : Int) 1) 27 = ((xt a.val : Nat) : Int) := by decide +kernel
theorem t_lo : ∀ a : Fin 256, ¬ (a.val : Int) ≥ 128 → ishl .u8 (a.val : Int) 1 = ((xt a.val : Nat) : Int) := by decide +kernel
theorem t_bit : ∀ b : Fin 256, (iand .u8 (b.val : Int) 1 = 1 ↔ b.val.testBit 0 = true) ∧ ishr .u8 (b.val : Int) 1 = ((b.val >>> 1 : Nat) : Int) := by decide +kernel
theorem half_lt {b : Nat} (h : b < 256) : b >>> 1 < 256 := by rw [Nat.shiftRight_eq_div_pow]; omega
theorem ref_l0 (K : Nat) : ∀ (n k a b p : Nat), n ≤ 8 → n < k → a < 256 → b < 256 → p < 256 → ref10_Mul.l0 K k (a : Int) (b : Int) (p : Int) ((8 - n : Nat) : Int) = some ((p ^^^ xs n a b : Nat) : Int) := by
  intro n
  induction n with
  | zero =>
    intro k a b p _ hk ha hb hp
    obtain ⟨k, rfl⟩ : ∃ m, k = m + 1 := ⟨k - 1, by omega⟩
    have h8 : ¬ ((8 - 0 : Nat) : Int) < 8 := by decide
    simp only [ref10_Mul.l0, h8, if_false]
    rw [show xs 0 a b = 0 from rfl, Nat.xor_zero]
  | succ n ih =>
    intro k a b p hn hk ha hb hp
    obtain ⟨k, rfl⟩ : ∃ m, k = m + 1 := ⟨k - 1, by omega⟩
    have h8 : ((8 - (n + 1) : Nat) : Int) < 8 := by omega
    have hi : iadd .i64 ((8 - (n + 1) : Nat) : Int) 1 = ((8 - n : Nat) : Int) := by rw [add64 (by omega) (by omega)]; omega
    have hb1 := (t_bit ⟨b, hb⟩).1
    have hb2 := (t_bit ⟨b, hb⟩).2
    simp only at hb1 hb2
    have hx : ixor .u8 (p : Int) (a : Int) = ((p ^^^ a : Nat) : Int) := ixor_nat (by show p < 2 ^ 8; omega) (by show a < 2 ^ 8; omega)
    have hpa := xor_lt hp ha
    have hxt := xt_lt ha
    have hh := half_lt hb
    have e : ∀ q : Nat, q < 256 → ref10_Mul.l0 K k ((xt a : Nat) : Int) ((b >>> 1 : Nat) : Int) (q : Int) ((8 - n : Nat) : Int) = some ((q ^^^ xs n (xt a) (b >>> 1) : Nat) : Int) := fun q hq => ih k _ _ q (by omega) (by omega) hxt hh hq
    have ex : ∀ r, r = xs (n + 1) a b → (if b.testBit 0 = true then a else 0) ^^^ xs n (xt a) (b >>> 1) = r := fun r hr => hr.symm
    by_cases hbit : b.testBit 0 = true
    · have c1 : iand .u8 (b : Int) 1 = 1 := hb1.2 hbit
      have r1 : p ^^^ xs (n + 1) a b = (p ^^^ a) ^^^ xs n (xt a) (b >>> 1) := by
        show p ^^^ ((if b.testBit 0 = true then a else 0) ^^^ xs n (xt a) (b >>> 1)) = _
        rw [if_pos hbit, Nat.xor_assoc]
      by_cases hhi : (a : Int) ≥ 128
      · have c2 := t_hi ⟨a, ha⟩ hhi
        simp only at c2
        simp only [ref10_Mul.l0, h8, if_true, c1, hhi, Option.bind_some, hx, c2, hb2, hi]
        rw [e _ hpa, r1]
      · have c2 := t_lo ⟨a, ha⟩ hhi
        simp only at c2
        simp only [ref10_Mul.l0, h8, if_true, c1, hhi, if_false, Option.bind_some, hx, c2, hb2, hi]
        rw [e _ hpa, r1]
    · have c1 : ¬ iand .u8 (b : Int) 1 = 1 := fun h => hbit (hb1.1 h)
      have r1 : p ^^^ xs (n + 1) a b = p ^^^ xs n (xt a) (b >>> 1) := by
        show p ^^^ ((if b.testBit 0 = true then a else 0) ^^^ xs n (xt a) (b >>> 1)) = _
        rw [if_neg hbit, Nat.zero_xor]
      by_cases hhi : (a : Int) ≥ 128
      · have c2 := t_hi ⟨a, ha⟩ hhi
        simp only at c2
        simp only [ref10_Mul.l0, h8, if_true, c1, if_false, hhi, Option.bind_some, c2, hb2, hi]
        rw [e _ hp, r1]
      · have c2 := t_lo ⟨a, ha⟩ hhi
        simp only at c2
        simp only [ref10_Mul.l0, h8, if_true, c1, hhi, if_false, Option.bind_some, c2, hb2, hi]
        rw [e _ hp, r1]
theorem rMul (K : Nat) (hK : 8 < K) {a b : Nat} (ha : a < 256) (hb : b < 256) : ref10_Mul.f K (a : Int) (b : Int) = some ((gm a b : Nat) : Int) := by
  unfold ref10_Mul.f
  have h := ref_l0 K 8 K a b 0 (by decide) hK ha hb (by decide)
  rw [Nat.zero_xor] at h
  have h2 : ref10_Mul.l0 K K (a : Int) (b : Int) 0 0 = some ((gm a b : Nat) : Int) := h
  rw [h2]
  rfl
end Go.Proofs.Ytmpagpbnpgcecaa
