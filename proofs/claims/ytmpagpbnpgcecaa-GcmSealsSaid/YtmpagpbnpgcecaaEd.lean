/- Layer 10 (aes), plain laws: products of bytes. -/
import Derived.Test.YtmpagpbnpgcecaaGFAesBlocks
import Derived.Test.YtmpagpbnpgcecaaGFGcmSeals
import Derived.Test.YtmpagpbnpgcecaaMw
import Derived.Test.YtmpagpbnpgcecaaMq
set_option linter.unusedSimpArgs false
set_option linter.unusedVariables false
set_option maxRecDepth 100000
namespace Go.Proofs.Ytmpagpbnpgcecaa
open Go Go.Mx
/-- a byte times x -/
def xt (a : Nat) : Nat := if a.testBit 7 then (a <<< 1) ^^^ 283 else a <<< 1
/-- the sum of a's multiples that b tells -/
def xs : Nat → Nat → Nat → Nat
  | 0, _, _ => 0
  | n + 1, a, b => (if b.testBit 0 then a else 0) ^^^ xs n (xt a) (b >>> 1)
def gm (a b : Nat) : Nat := xs 8 a b
theorem xt_lt {a : Nat} (h : a < 256) : xt a < 256 := by
  have : ∀ a : Fin 256, xt a.val < 256 := by decide +kernel
  exact this ⟨a, h⟩
theorem xor_lt {a b : Nat} (ha : a < 256) (hb : b < 256) : a ^^^ b < 256 := Nat.xor_lt_two_pow (n := 8) ha hb
theorem xs_lt : ∀ (n a b : Nat), a < 256 → xs n a b < 256
  | 0, _, _, _ => by unfold xs; decide
  | n + 1, a, b, h => by
    unfold xs
    refine xor_lt ?_ (xs_lt n _ _ (xt_lt h))
    split
    · exact h
    · decide
theorem gm_lt {a b : Nat} (h : a < 256) : gm a b < 256 := xs_lt 8 a b h
theorem xt_xor (a b : Nat) : xt (a ^^^ b) = xt a ^^^ xt b := by
  unfold xt
  rw [Nat.testBit_xor, Nat.shiftLeft_xor_distrib]
  cases a.testBit 7 <;> cases b.testBit 7 <;> simp
  · rw [Nat.xor_assoc]
  · rw [Nat.xor_assoc, Nat.xor_assoc, Nat.xor_comm 283]
  · rw [Nat.xor_assoc, ← Nat.xor_assoc 283, Nat.xor_comm 283, Nat.xor_assoc (b <<< 1), Nat.xor_self, Nat.xor_zero]
/-! ### the document's product -/
theorem t_hi : ∀ a : Fin 256, (a.val : Int) ≥ 128 → ixor .u8 (ishl .u8 (a.val : Int) 1) 27 = ((xt a.val : Nat) : Int) := by decide +kernel
theorem t_lo : ∀ a : Fin 256, ¬ (a.val : Int) ≥ 128 → ishl .u8 (a.val : Int) 1 = ((xt a.val : Nat) : Int) := by decide +kernel
theorem t_bit : ∀ b : Fin 256, (iand .u8 (b.val : Int) 1 = 1 ↔ b.val.testBit 0 = true) ∧ ishr .u8 (b.val : Int) 1 = ((b.val >>> 1 : Nat) : Int) := by decide +kernel
theorem half_lt {b : Nat} (h : b < 256) : b >>> 1 < 256 := by rw [Nat.shiftRight_eq_div_pow]; omega
theorem ref_l0 (K : Nat) : ∀ (n k a b p : Nat), n ≤ 8 → n < k → a < 256 → b < 256 → p < 256 → ref10_Mul.l0 K k (a : Int) (b : Int) (p : Int) ((8 - n : Nat) : Int) = some ((p ^^^ xs n a b : Nat) : Int) := by
  intro n
  induction n with
  | zero =>
    intro k a b p _ hk ha hb hp
    obtain ⟨k, rfl⟩ : ∃ m, k = m + 1 := ⟨k - 1, by omega⟩
    have h8 : ¬ ((8 - 0 : Nat) : Int) < 8 := by decide
    simp only [ref10_Mul.l0, h8, if_false]
    rw [show xs 0 a b = 0 from rfl, Nat.xor_zero]
  | succ n ih =>
    intro k a b p hn hk ha hb hp
    obtain ⟨k, rfl⟩ : ∃ m, k = m + 1 := ⟨k - 1, by omega⟩
    have h8 : ((8 - (n + 1) : Nat) : Int) < 8 := by omega
    have hi : iadd .i64 ((8 - (n + 1) : Nat) : Int) 1 = ((8 - n : Nat) : Int) := by rw [add64 (by omega) (by omega)]; omega
    have hb1 := (t_bit ⟨b, hb⟩).1
    have hb2 := (t_bit ⟨b, hb⟩).2
    simp only at hb1 hb2
    have hx : ixor .u8 (p : Int) (a : Int) = ((p ^^^ a : Nat) : Int) := ixor_nat (by show p < 2 ^ 8; omega) (by show a < 2 ^ 8; omega)
    have hpa := xor_lt hp ha
    have hxt := xt_lt ha
    have hh := half_lt hb
    have e : ∀ q : Nat, q < 256 → ref10_Mul.l0 K k ((xt a : Nat) : Int) ((b >>> 1 : Nat) : Int) (q : Int) ((8 - n : Nat) : Int) = some ((q ^^^ xs n (xt a) (b >>> 1) : Nat) : Int) := fun q hq => ih k _ _ q (by omega) (by omega) hxt hh hq
    have ex : ∀ r, r = xs (n + 1) a b → (if b.testBit 0 = true then a else 0) ^^^ xs n (xt a) (b >>> 1) = r := fun r hr => hr.symm
    by_cases hbit : b.testBit 0 = true
    · have c1 : iand .u8 (b : Int) 1 = 1 := hb1.2 hbit
      have r1 : p ^^^ xs (n + 1) a b = (p ^^^ a) ^^^ xs n (xt a) (b >>> 1) := by
        show p ^^^ ((if b.testBit 0 = true then a else 0) ^^^ xs n (xt a) (b >>> 1)) = _
        rw [if_pos hbit, Nat.xor_assoc]
      by_cases hhi : (a : Int) ≥ 128
      · have c2 := t_hi ⟨a, ha⟩ hhi
        simp only at c2
        simp only [ref10_Mul.l0, h8, if_true, c1, hhi, Option.bind_some, hx, c2, hb2, hi]
        rw [e _ hpa, r1]
      · have c2 := t_lo ⟨a, ha⟩ hhi
        simp only at c2
        simp only [ref10_Mul.l0, h8, if_true, c1, hhi, if_false, Option.bind_some, hx, c2, hb2, hi]
        rw [e _ hpa, r1]
    · have c1 : ¬ iand .u8 (b : Int) 1 = 1 := fun h => hbit (hb1.1 h)
      have r1 : p ^^^ xs (n + 1) a b = p ^^^ xs n (xt a) (b >>> 1) := by
        show p ^^^ ((if b.testBit 0 = true then a else 0) ^^^ xs n (xt a) (b >>> 1)) = _
        rw [if_neg hbit, Nat.zero_xor]
      by_cases hhi : (a : Int) ≥ 128
      · have c2 := t_hi ⟨a, ha⟩ hhi
        simp only at c2
        simp only [ref10_Mul.l0, h8, if_true, c1, if_false, hhi, Option.bind_some, c2, hb2, hi]
        rw [e _ hp, r1]
      · have c2 := t_lo ⟨a, ha⟩ hhi
        simp only at c2
        simp only [ref10_Mul.l0, h8, if_true, c1, hhi, if_false, Option.bind_some, c2, hb2, hi]
        rw [e _ hp, r1]
theorem rMul (K : Nat) (hK : 8 < K) {a b : Nat} (ha : a < 256) (hb : b < 256) : ref10_Mul.f K (a : Int) (b : Int) = some ((gm a b : Nat) : Int) := by
  unfold ref10_Mul.f
  have h := ref_l0 K 8 K a b 0 (by decide) hK ha hb (by decide)
  rw [Nat.zero_xor] at h
  have h2 : ref10_Mul.l0 K K (a : Int) (b : Int) 0 0 = some ((gm a b : Nat) : Int) := h
  rw [h2]
  rfl
end Go.Proofs.Ytmpagpbnpgcecaa

/- Layer 10 (aes), plain laws: the program's product; what the cipher makes of a byte. -/
set_option linter.unusedSimpArgs false
set_option linter.unusedVariables false
set_option maxRecDepth 100000
namespace Go.Proofs.Ytmpagpbnpgcecaa
open Go Go.Mx
/-- products without carry -/
def ca : Nat → Nat → Nat → Nat
  | 0, _, _ => 0
  | n + 1, x, y => (if y.testBit 0 then x else 0) ^^^ ca n (x <<< 1) (y >>> 1)
def redN : Nat → Nat → Nat
  | 0, p => p
  | n + 1, p => redN n (if p.testBit (n + 8) then p ^^^ (283 <<< n) else p)
def xtn : Nat → Nat → Nat
  | 0, a => a
  | j + 1, a => xt (xtn j a)
theorem ca_zero : ∀ (n x : Nat), ca n x 0 = 0
  | 0, _ => rfl
  | n + 1, x => by
    show (if Nat.testBit 0 0 = true then x else 0) ^^^ ca n (x <<< 1) (0 >>> 1) = 0
    rw [if_neg (by decide), Nat.zero_shiftRight, ca_zero n]
    rfl
theorem redN_xor : ∀ (n p q : Nat), redN n (p ^^^ q) = redN n p ^^^ redN n q
  | 0, _, _ => rfl
  | n + 1, p, q => by
    show redN n (if (p ^^^ q).testBit (n + 8) = true then (p ^^^ q) ^^^ (283 <<< n) else p ^^^ q) = redN n (if p.testBit (n + 8) = true then p ^^^ (283 <<< n) else p) ^^^ redN n (if q.testBit (n + 8) = true then q ^^^ (283 <<< n) else q)
    rw [← redN_xor n, Nat.testBit_xor]
    congr 1
    cases p.testBit (n + 8) <;> cases q.testBit (n + 8) <;> simp
    · rw [Nat.xor_assoc]
    · rw [Nat.xor_assoc, Nat.xor_assoc, Nat.xor_comm q]
    · rw [Nat.xor_assoc, ← Nat.xor_assoc (283 <<< n), Nat.xor_comm (283 <<< n), Nat.xor_assoc q, Nat.xor_self, Nat.xor_zero]
theorem red_xtn : ∀ (j : Fin 8) (a : Fin 256), redN 7 (a.val <<< j.val) = xtn j.val a.val := by decide +kernel
theorem red_ca : ∀ (n a b : Nat), n ≤ 8 → a < 256 → redN 7 (ca n (a <<< (8 - n)) b) = xs n (xtn (8 - n) a) b
  | 0, a, b, _, _ => by
    show redN 7 0 = 0
    decide
  | n + 1, a, b, hn, ha => by
    show redN 7 ((if b.testBit 0 = true then a <<< (8 - (n + 1)) else 0) ^^^ ca n (a <<< (8 - (n + 1)) <<< 1) (b >>> 1)) = (if b.testBit 0 = true then xtn (8 - (n + 1)) a else 0) ^^^ xs n (xt (xtn (8 - (n + 1)) a)) (b >>> 1)
    have e1 : a <<< (8 - (n + 1)) <<< 1 = a <<< (8 - n) := by rw [← Nat.shiftLeft_add, show 8 - (n + 1) + 1 = 8 - n by omega]
    have e2 : xt (xtn (8 - (n + 1)) a) = xtn (8 - n) a := by rw [show 8 - n = (8 - (n + 1)) + 1 by omega]; rfl
    have e3 := red_xtn ⟨8 - (n + 1), by omega⟩ ⟨a, ha⟩
    simp only at e3
    rw [redN_xor, e1, e2, red_ca n a (b >>> 1) (by omega) ha]
    congr 1
    cases b.testBit 0
    · show redN 7 0 = 0
      decide
    · exact e3
theorem shl1 (x : Nat) : x <<< 1 = x * 2 := by rw [Nat.shiftLeft_eq]
theorem shr1 (x : Nat) : x >>> 1 = x / 2 := by rw [Nat.shiftRight_eq_div_pow]
theorem and1 (y : Nat) : y &&& 1 = y % 2 := Nat.and_one_is_mod y
theorem aes_l0 (K : Nat) : ∀ (n k p x y : Nat), n ≤ 8 → n < k → p < 65536 → x < 2 ^ (16 - n) → y < 2 ^ n → aes_Mul.l0 K k (p : Int) (x : Int) (y : Int) = some ((p ^^^ ca n x y : Nat) : Int) := by
  intro n
  induction n with
  | zero =>
    intro k p x y _ hk hp hx hy
    obtain ⟨k, rfl⟩ : ∃ m, k = m + 1 := ⟨k - 1, by omega⟩
    obtain rfl : y = 0 := by omega
    have h0 : ((0 : Nat) : Int) = 0 := rfl
    simp only [aes_Mul.l0, h0, if_true]
    rw [show ca 0 x 0 = 0 from rfl, Nat.xor_zero]
  | succ n ih =>
    intro k p x y hn hk hp hx hy
    obtain ⟨k, rfl⟩ : ∃ m, k = m + 1 := ⟨k - 1, by omega⟩
    by_cases hy0 : y = 0
    · subst hy0
      have h0 : ((0 : Nat) : Int) = 0 := rfl
      simp only [aes_Mul.l0, h0, if_true]
      rw [ca_zero, Nat.xor_zero]
    have hyz : ¬ (y : Int) = 0 := by omega
    have hp2 : 2 ^ (n + 1) ≤ 2 ^ 8 := Nat.pow_le_pow_right (by decide) hn
    have hy256 : y < 256 := by omega
    have hx2 : 2 ^ (16 - n) ≤ 2 ^ 16 := Nat.pow_le_pow_right (by decide) (by omega)
    have hxx : 2 ^ (16 - n) = 2 ^ (16 - (n + 1)) * 2 := by rw [← Nat.pow_succ, show (16 - (n + 1)).succ = 16 - n by omega]
    have hyy : 2 ^ (n + 1) = 2 ^ n * 2 := Nat.pow_succ ..
    have hx3 : x < 65536 := by omega
    have hx4 : x * 2 < 65536 := by omega
    have f1 : iand .i64 (y : Int) 1 = ((y % 2 : Nat) : Int) := by
      rw [← and1]; exact iand_nat (k := .i64) (x := y) (y := 1) (by show y < 2 ^ 63; omega) (by decide)
    have f2 : ixor .i64 (p : Int) (x : Int) = ((p ^^^ x : Nat) : Int) := ixor_nat (by show p < 2 ^ 63; omega) (by show x < 2 ^ 63; omega)
    have f3 : ishl .i64 (x : Int) 1 = ((x <<< 1 : Nat) : Int) := by
      rw [shl1]; exact ishl_nat (k := .i64) (x := x) (n := 1) (by decide) (by show x * 2 ^ 1 < 2 ^ 63; omega)
    have f4 : ishr .i64 (y : Int) 1 = ((y >>> 1 : Nat) : Int) := by
      rw [shr1]; exact ishr_nat (k := .i64) (x := y) (n := 1) (by decide)
    have hbit : y.testBit 0 = decide (y % 2 = 1) := by simp [Nat.testBit_zero]
    have hpx : p ^^^ x < 65536 := Nat.xor_lt_two_pow (n := 16) hp hx3
    have e : ∀ q : Nat, q < 65536 → aes_Mul.l0 K k (q : Int) ((x <<< 1 : Nat) : Int) ((y >>> 1 : Nat) : Int) = some ((q ^^^ ca n (x <<< 1) (y >>> 1) : Nat) : Int) := fun q hq =>
      ih k q _ _ (by omega) (by omega) hq (by rw [shl1]; omega) (by rw [shr1]; omega)
    by_cases hb : y % 2 = 1
    · have c1 : iand .i64 (y : Int) 1 = 1 := by rw [f1, hb]; rfl
      simp only [aes_Mul.l0, hyz, if_false, c1, if_true, Option.bind_some, f2, f3, f4]
      rw [e _ hpx]
      congr 2
      show _ = p ^^^ ((if y.testBit 0 = true then x else 0) ^^^ ca n (x <<< 1) (y >>> 1))
      rw [hbit, decide_eq_true hb, if_pos rfl, Nat.xor_assoc]
    · have c1 : ¬ iand .i64 (y : Int) 1 = 1 := by rw [f1]; omega
      simp only [aes_Mul.l0, hyz, if_false, c1, Option.bind_some, f3, f4]
      rw [e _ hp]
      congr 2
      show _ = p ^^^ ((if y.testBit 0 = true then x else 0) ^^^ ca n (x <<< 1) (y >>> 1))
      rw [hbit, decide_eq_false hb, if_neg (by decide), Nat.zero_xor]
theorem aes_l1 (K : Nat) : ∀ (n k p : Nat), n ≤ 7 → n < k → p < 65536 → aes_Mul.l1 K k (p : Int) ((n + 7 : Nat) : Int) = some ((redN n p : Nat) : Int) := by
  intro n
  induction n with
  | zero =>
    intro k p _ hk hp
    obtain ⟨k, rfl⟩ : ∃ m, k = m + 1 := ⟨k - 1, by omega⟩
    have h7 : ¬ ((0 + 7 : Nat) : Int) ≥ 8 := by decide
    simp only [aes_Mul.l1, h7, if_false]
    rfl
  | succ n ih =>
    intro k p hn hk hp
    obtain ⟨k, rfl⟩ : ∃ m, k = m + 1 := ⟨k - 1, by omega⟩
    have h8 : ((n + 1 + 7 : Nat) : Int) ≥ 8 := by omega
    have h0 : (0 : Int) ≤ ((n + 1 + 7 : Nat) : Int) := by omega
    have hs : isub .i64 ((n + 1 + 7 : Nat) : Int) 8 = (n : Int) := by rw [sub64 (by omega) (by omega)]; omega
    have hs1 : isub .i64 ((n + 1 + 7 : Nat) : Int) 1 = ((n + 7 : Nat) : Int) := by rw [sub64 (by omega) (by omega)]; omega
    have hn0 : (0 : Int) ≤ (n : Int) := by omega
    have f0 : ishr .i64 (p : Int) ((n + 1 + 7 : Nat) : Int) = ((p / 2 ^ (n + 8) : Nat) : Int) := ishr_nat (k := .i64) (x := p) (n := n + 1 + 7) (by show n + 1 + 7 ≤ 64; omega)
    have hd : p / 2 ^ (n + 8) ≤ p := Nat.div_le_self _ _
    have f1 : iand .i64 (ishr .i64 (p : Int) ((n + 1 + 7 : Nat) : Int)) 1 = ((p / 2 ^ (n + 8) % 2 : Nat) : Int) := by
      rw [f0, ← and1]; exact iand_nat (k := .i64) (x := p / 2 ^ (n + 8)) (y := 1) (by show _ < 2 ^ 63; omega) (by decide)
    have hpw : 2 ^ n ≤ 2 ^ 6 := Nat.pow_le_pow_right (by decide) (by omega)
    have f2 : ishl .i64 283 (n : Int) = ((283 <<< n : Nat) : Int) := by
      rw [Nat.shiftLeft_eq]; exact ishl_nat (k := .i64) (x := 283) (n := n) (by show n ≤ 64; omega) (by show 283 * 2 ^ n < 2 ^ 63; omega)
    have hc : 283 <<< n < 65536 := by rw [Nat.shiftLeft_eq]; omega
    have f3 : ixor .i64 (p : Int) ((283 <<< n : Nat) : Int) = ((p ^^^ (283 <<< n) : Nat) : Int) := ixor_nat (by show p < 2 ^ 63; omega) (by show 283 <<< n < 2 ^ 63; omega)
    have hpc : p ^^^ (283 <<< n) < 65536 := Nat.xor_lt_two_pow (n := 16) hp hc
    have hbit : p.testBit (n + 8) = decide (p / 2 ^ (n + 8) % 2 = 1) := Nat.testBit_eq_decide_div_mod_eq
    by_cases hb : p / 2 ^ (n + 8) % 2 = 1
    · have c1 : iand .i64 (ishr .i64 (p : Int) ((n + 1 + 7 : Nat) : Int)) 1 = 1 := by rw [f1, hb]; rfl
      simp only [aes_Mul.l1, h8, if_true, h0, c1, hs, hn0, f2, f3, Option.bind_some, hs1]
      rw [ih k _ (by omega) (by omega) hpc]
      show _ = some ((redN n (if p.testBit (n + 8) = true then p ^^^ (283 <<< n) else p) : Nat) : Int)
      rw [hbit, decide_eq_true hb, if_pos rfl]
    · have c1 : ¬ iand .i64 (ishr .i64 (p : Int) ((n + 1 + 7 : Nat) : Int)) 1 = 1 := by rw [f1]; omega
      simp only [aes_Mul.l1, h8, if_true, h0, c1, if_false, Option.bind_some, hs1]
      rw [ih k _ (by omega) (by omega) hp]
      show _ = some ((redN n (if p.testBit (n + 8) = true then p ^^^ (283 <<< n) else p) : Nat) : Int)
      rw [hbit, decide_eq_false hb, if_neg (by decide)]
theorem ca_lt : ∀ (n x y : Nat), n ≤ 8 → x < 2 ^ (16 - n) → ca n x y < 65536
  | 0, _, _, _, _ => by
    show 0 < 65536
    decide
  | n + 1, x, y, hn, hx => by
    have hxx : 2 ^ (16 - n) = 2 ^ (16 - (n + 1)) * 2 := by rw [← Nat.pow_succ, show (16 - (n + 1)).succ = 16 - n by omega]
    have hx2 : 2 ^ (16 - n) ≤ 2 ^ 16 := Nat.pow_le_pow_right (by decide) (by omega)
    refine Nat.xor_lt_two_pow (n := 16) ?_ (ca_lt n _ _ (by omega) (by rw [shl1]; omega))
    split <;> omega
theorem conv8 {x : Nat} (h : x < 256) : iconv .u8 (x : Int) = (x : Int) := by
  have : ∀ x : Fin 256, iconv .u8 (x.val : Int) = (x.val : Int) := by decide +kernel
  exact this ⟨x, h⟩
theorem aMul (K : Nat) (hK : 8 < K) {a b : Nat} (ha : a < 256) (hb : b < 256) : aes_Mul.f K (a : Int) (b : Int) = some ((gm a b : Nat) : Int) := by
  have h := aes_l0 K 8 K 0 a b (by decide) hK (by decide) (by show a < 256; exact ha) (by show b < 256; exact hb)
  rw [Nat.zero_xor] at h
  have h' : aes_Mul.l0 K K 0 (a : Int) (b : Int) = some ((ca 8 a b : Nat) : Int) := h
  have h2 := aes_l1 K 7 K (ca 8 a b) (by decide) (by omega) (ca_lt 8 a b (by decide) (by show a < 256; exact ha))
  have h2' : aes_Mul.l1 K K ((ca 8 a b : Nat) : Int) 14 = some ((redN 7 (ca 8 a b) : Nat) : Int) := h2
  have e := red_ca 8 a b (by decide) ha
  have e' : redN 7 (ca 8 a b) = gm a b := e
  unfold aes_Mul.f
  have c1 : iconv .i64 (a : Int) = (a : Int) := conv64 (by omega) (by omega)
  have c2 : iconv .i64 (b : Int) = (b : Int) := conv64 (by omega) (by omega)
  rw [c1, c2, Option.bind_some, Option.bind_some, h', Option.bind_some, h2', Option.bind_some, e', conv8 (gm_lt ha)]
  rfl
/-! ### what the cipher makes of a byte: the document -/
def iv : Nat → Nat → Nat → Nat
  | 0, _, x => x
  | n + 1, c, x => iv n (gm c c) (gm x (gm c c))
theorem ref_inv (K : Nat) (hK : 8 < K) : ∀ (n k c x : Nat), n ≤ 7 → n < k → c < 256 → x < 256 → ref10_inverse.l0 K k (c : Int) (x : Int) ((7 - n : Nat) : Int) = some ((iv n c x : Nat) : Int) ∧ iv n c x < 256 := by
  intro n
  induction n with
  | zero =>
    intro k c x _ hk hc hx
    obtain ⟨k, rfl⟩ : ∃ m, k = m + 1 := ⟨k - 1, by omega⟩
    have h7 : ¬ ((7 - 0 : Nat) : Int) < 7 := by decide
    simp only [ref10_inverse.l0, h7, if_false]
    exact ⟨rfl, hx⟩
  | succ n ih =>
    intro k c x hn hk hc hx
    obtain ⟨k, rfl⟩ : ∃ m, k = m + 1 := ⟨k - 1, by omega⟩
    have h7 : ((7 - (n + 1) : Nat) : Int) < 7 := by omega
    have hi : iadd .i64 ((7 - (n + 1) : Nat) : Int) 1 = ((7 - n : Nat) : Int) := by rw [add64 (by omega) (by omega)]; omega
    have hg := gm_lt (b := c) hc
    simp only [ref10_inverse.l0, h7, if_true, rMul K hK hc hc, Option.bind_some, rMul K hK hx hg, hi]
    exact ih k _ _ (by omega) (by omega) hg (gm_lt hx)
def rot (x i : Nat) : Nat := (x <<< i) % 256 ||| (x >>> (8 - i))
theorem t_rot : ∀ (i : Fin 5) (x : Fin 256), ior .u8 (ishl .u8 (x.val : Int) (i.val : Int)) (ishr .u8 (x.val : Int) (8 - (i.val : Int))) = ((rot x.val i.val : Nat) : Int) ∧ rot x.val i.val < 256 := by decide +kernel
def bxl : Nat → Nat → Nat → Nat
  | 0, _, y => y
  | n + 1, x, y => bxl n x (y ^^^ rot x (5 - (n + 1)))
theorem ref_bx (K : Nat) : ∀ (n k x y : Nat), n ≤ 5 → n < k → x < 256 → y < 256 → ref10_Box.l0 K k (x : Int) (y : Int) ((5 - n : Nat) : Int) = some ((bxl n x y : Nat) : Int) ∧ bxl n x y < 256 := by
  intro n
  induction n with
  | zero =>
    intro k x y _ hk hx hy
    obtain ⟨k, rfl⟩ : ∃ m, k = m + 1 := ⟨k - 1, by omega⟩
    have h5 : ¬ ((5 - 0 : Nat) : Int) < 5 := by decide
    simp only [ref10_Box.l0, h5, if_false]
    exact ⟨rfl, hy⟩
  | succ n ih =>
    intro k x y hn hk hx hy
    obtain ⟨k, rfl⟩ : ∃ m, k = m + 1 := ⟨k - 1, by omega⟩
    have h5 : ((5 - (n + 1) : Nat) : Int) < 5 := by omega
    have h0 : (0 : Int) ≤ ((5 - (n + 1) : Nat) : Int) := by omega
    have hs : isub .i64 8 ((5 - (n + 1) : Nat) : Int) = 8 - ((5 - (n + 1) : Nat) : Int) := by rw [sub64 (by omega) (by omega)]
    have hs0 : (0 : Int) ≤ 8 - ((5 - (n + 1) : Nat) : Int) := by omega
    have hi : iadd .i64 ((5 - (n + 1) : Nat) : Int) 1 = ((5 - n : Nat) : Int) := by rw [add64 (by omega) (by omega)]; omega
    obtain ⟨hr, hl⟩ := t_rot ⟨5 - (n + 1), by omega⟩ ⟨x, hx⟩
    simp only at hr hl
    have hxr : ixor .u8 (y : Int) ((rot x (5 - (n + 1)) : Nat) : Int) = ((y ^^^ rot x (5 - (n + 1)) : Nat) : Int) := ixor_nat (by show y < 2 ^ 8; omega) (by show _ < 2 ^ 8; omega)
    simp only [ref10_Box.l0, h5, if_true, h0, hs, hs0, hr, hxr, Option.bind_some, hi]
    exact ih k _ _ (by omega) (by omega) hx (xor_lt hy hl)
def bx (c : Nat) : Nat := bxl 5 (iv 7 c 1) 99
theorem rBox (K : Nat) (hK : 8 < K) {c : Nat} (hc : c < 256) : ref10_Box.f K (c : Int) = some ((bx c : Nat) : Int) ∧ bx c < 256 := by
  obtain ⟨h1, l1⟩ := ref_inv K hK 7 K c 1 (by decide) (by omega) hc (by decide)
  obtain ⟨h2, l2⟩ := ref_bx K 5 K (iv 7 c 1) 99 (by decide) (by omega) l1 (by decide)
  have h1' : ref10_inverse.l0 K K (c : Int) 1 0 = some ((iv 7 c 1 : Nat) : Int) := h1
  have h2' : ref10_Box.l0 K K ((iv 7 c 1 : Nat) : Int) 99 0 = some ((bx c : Nat) : Int) := h2
  unfold ref10_Box.f ref10_inverse.f
  rw [h1', Option.bind_some, Option.bind_some, h2']
  exact ⟨rfl, l2⟩
/-! ### the program's tables -/
def stl : Nat → Nat → Nat → Nat
  | 0, _, x => x
  | n + 1, y, x => stl n (rot y 1) (x ^^^ rot y 1)
def st (y : Nat) : Nat := stl 4 y y ^^^ 99
theorem t_rot1 : ∀ (x : Fin 256), ior .u8 (ishl .u8 (x.val : Int) 1) (ishr .u8 (x.val : Int) 7) = ((rot x.val 1 : Nat) : Int) ∧ rot x.val 1 < 256 := by decide +kernel
theorem aes_st (K : Nat) : ∀ (n k y x : Nat), n ≤ 4 → n < k → y < 256 → x < 256 → aes_stirred.l0 K k (y : Int) (x : Int) ((4 - n : Nat) : Int) = some ((stl n y x : Nat) : Int) ∧ stl n y x < 256 := by
  intro n
  induction n with
  | zero =>
    intro k y x _ hk hy hx
    obtain ⟨k, rfl⟩ : ∃ m, k = m + 1 := ⟨k - 1, by omega⟩
    have h5 : ¬ ((4 - 0 : Nat) : Int) < 4 := by decide
    simp only [aes_stirred.l0, h5, if_false]
    exact ⟨rfl, hx⟩
  | succ n ih =>
    intro k y x hn hk hy hx
    obtain ⟨k, rfl⟩ : ∃ m, k = m + 1 := ⟨k - 1, by omega⟩
    have h5 : ((4 - (n + 1) : Nat) : Int) < 4 := by omega
    have hi : iadd .i64 ((4 - (n + 1) : Nat) : Int) 1 = ((4 - n : Nat) : Int) := by rw [add64 (by omega) (by omega)]; omega
    obtain ⟨hr, hl⟩ := t_rot1 ⟨y, hy⟩
    simp only at hr hl
    have hxr : ixor .u8 (x : Int) ((rot y 1 : Nat) : Int) = ((x ^^^ rot y 1 : Nat) : Int) := ixor_nat (by show x < 2 ^ 8; omega) (by show _ < 2 ^ 8; omega)
    simp only [aes_stirred.l0, h5, if_true, hr, hxr, Option.bind_some, hi]
    exact ih k _ _ (by omega) (by omega) hl (xor_lt hx hl)
theorem aSt (K : Nat) (hK : 8 < K) {y : Nat} (hy : y < 256) : aes_stirred.f K (y : Int) = some ((st y : Nat) : Int) ∧ st y < 256 := by
  obtain ⟨h1, l1⟩ := aes_st K 4 K y y (by decide) (by omega) hy hy
  have h1' : aes_stirred.l0 K K (y : Int) (y : Int) 0 = some ((stl 4 y y : Nat) : Int) := h1
  unfold aes_stirred.f
  have hxr : ixor .u8 ((stl 4 y y : Nat) : Int) 99 = ((stl 4 y y ^^^ 99 : Nat) : Int) := ixor_nat (k := .u8) (y := 99) (by show _ < 2 ^ 8; omega) (by decide)
  rw [h1', Option.bind_some, hxr]
  exact ⟨rfl, xor_lt l1 (by decide)⟩
def madeN : Nat → Nat → Nat → Arr 256 → Arr 256 → Arr 256 × Arr 256
  | 0, _, _, t, u => (t, u)
  | n + 1, x, y, t, u => madeN n (gm x 3) (gm y 246) (wr t (x : Int) ((st y : Nat) : Int)) (wr u ((st y : Nat) : Int) (x : Int))
theorem aes_made_l0 (K : Nat) (hK : 8 < K) : ∀ (n k x y : Nat) (t u : Arr 256), n ≤ 255 → n < k → x < 256 → y < 256 → aes_made.l0 K k (x : Int) (y : Int) ((255 - n : Nat) : Int) t u = some (madeN n x y t u) := by
  intro n
  induction n with
  | zero =>
    intro k x y t u _ hk hx hy
    obtain ⟨k, rfl⟩ : ∃ m, k = m + 1 := ⟨k - 1, by omega⟩
    have h5 : ¬ ((255 - 0 : Nat) : Int) < 255 := by decide
    simp only [aes_made.l0, h5, if_false]
    rfl
  | succ n ih =>
    intro k x y t u hn hk hx hy
    obtain ⟨k, rfl⟩ : ∃ m, k = m + 1 := ⟨k - 1, by omega⟩
    have h5 : ((255 - (n + 1) : Nat) : Int) < 255 := by omega
    have hi : iadd .i64 ((255 - (n + 1) : Nat) : Int) 1 = ((255 - n : Nat) : Int) := by rw [add64 (by omega) (by omega)]; omega
    obtain ⟨hr, hl⟩ := aSt K hK hy
    have a1 : aes_Mul.f K (x : Int) 3 = some ((gm x 3 : Nat) : Int) := aMul K hK (b := 3) hx (by decide)
    have a2 : aes_Mul.f K (y : Int) 246 = some ((gm y 246 : Nat) : Int) := aMul K hK (b := 246) hy (by decide)
    have b0 : (0 : Int) ≤ (x : Int) := by omega
    have b1 : (x : Int) < 256 := by omega
    have b2 : (0 : Int) ≤ ((st y : Nat) : Int) := by omega
    have b3 : ((st y : Nat) : Int) < 256 := by omega
    simp only [aes_made.l0, h5, if_true, hr, Option.bind_some, b0, b1, b2, b3, a1, a2, hi]
    exact ih k _ _ _ _ (by omega) (by omega) (gm_lt hx) (gm_lt hy)
def tabs : Arr 256 × Arr 256 := madeN 255 1 1 (wr (zeroA 256) 0 99) (wr (zeroA 256) 99 0)
theorem aMade : aes_made.f 1000 = some tabs := by
  unfold aes_made.f aes_powers.f
  have h := aes_made_l0 1000 (by decide) 255 1000 1 1 (wr (zeroA 256) 0 99) (wr (zeroA 256) 99 0) (by decide) (by decide) (by decide) (by decide)
  have h' : aes_made.l0 1000 1000 1 1 0 (wr (zeroA 256) 0 99) (wr (zeroA 256) 99 0) = some tabs := h
  rw [Option.bind_some, h']
  rfl
end Go.Proofs.Ytmpagpbnpgcecaa

/- Layer 10 (aes), plain laws: the program's tables are the document's. -/
set_option linter.unusedSimpArgs false
set_option linter.unusedVariables false
set_option maxRecDepth 100000
namespace Go.Proofs.Ytmpagpbnpgcecaa
open Go Go.Mx
theorem box_list : tabs.1.toList = (List.range 256).map (fun c => ((bx c : Nat) : Int)) := by decide +kernel
theorem rd_box {c : Nat} (hc : c < 256) : rd tabs.1 (c : Int) = ((bx c : Nat) : Int) := by
  unfold rd
  rw [box_list]
  simp [List.getD_eq_getElem?_getD, hc]
end Go.Proofs.Ytmpagpbnpgcecaa

/- Layer 10 (aes), plain laws: a block's rounds, each stage. -/
set_option linter.unusedSimpArgs false
set_option linter.unusedVariables false
set_option maxRecDepth 100000
namespace Go.Proofs.Ytmpagpbnpgcecaa
open Go Go.Mx
/-- A loop that fills places base .. base + m of something with N places. -/
theorem fillS {S : Type} (get : S → Nat → Int) (set : S → Nat → Int → S) (Inv : S → Prop) (N : Nat)
    (hset : ∀ z i x, Inv z → i < N → Inv (set z i x) ∧ ∀ j, j < N → get (set z i x) j = if i = j then x else get z j)
    (l : Nat → Int → S → Option S) (base m : Nat) (hN : base + m ≤ N) (F : Nat → Int) (z0 : S)
    (hs : ∀ k i z, i < m → Inv z → get z (base + i) = get z0 (base + i) → l (k + 1) (i : Int) z = l k ((i + 1 : Nat) : Int) (set z (base + i) (F i)))
    (he : ∀ k z, l (k + 1) (m : Int) z = some z) :
    ∀ n i k z, i + n = m → n < k → Inv z → (∀ j, base + i ≤ j → j < base + m → get z j = get z0 j) →
      ∃ y, l k (i : Int) z = some y ∧ Inv y ∧ ∀ j, j < N → get y j = if base + i ≤ j ∧ j < base + m then F (j - base) else get z j := by
  intro n
  induction n with
  | zero =>
    intro i k z hi hk hz _
    obtain ⟨k, rfl⟩ : ∃ q, k = q + 1 := ⟨k - 1, by omega⟩
    obtain rfl : i = m := by omega
    refine ⟨z, he k z, hz, fun j hj => ?_⟩
    rw [if_neg (by omega)]
  | succ n ih =>
    intro i k z hi hk hz hg
    obtain ⟨k, rfl⟩ : ∃ q, k = q + 1 := ⟨k - 1, by omega⟩
    obtain ⟨h1, h2⟩ := hset z (base + i) (F i) hz (by omega)
    obtain ⟨y, h3, h4, h5⟩ := ih (i + 1) k (set z (base + i) (F i)) (by omega) (by omega) h1 (fun j h6 h7 => by
      rw [h2 j (by omega), if_neg (by omega)]
      exact hg j (by omega) h7)
    refine ⟨y, by rw [hs k i z (by omega) hz (hg _ (by omega) (by omega))]; exact h3, h4, fun j hj => ?_⟩
    rw [h5 j hj]
    by_cases h6 : base + i ≤ j ∧ j < base + m
    · rw [if_pos h6]
      by_cases h7 : base + i = j
      · rw [if_neg (by omega), h2 j hj, if_pos h7]
        rw [show j - base = i by omega]
      · rw [if_pos (by omega)]
    · rw [if_neg (by omega), if_neg h6, h2 j hj, if_neg (by omega)]
theorem setA {n : Nat} (z : Arr n) (i : Nat) (x : Int) (_ : True) (_ : i < n) : True ∧ ∀ j, j < n → rd (wr z (i : Int) x) (j : Int) = if i = j then x else rd z (j : Int) := ⟨trivial, fun j hj => rd_wr z i j x hj⟩
theorem setL (N : Nat) (z : List Int) (i : Nat) (x : Int) (hz : z.length = N) (hi : i < N) : (wrL z (i : Int) x).length = N ∧ ∀ j, j < N → rdL (CI .u8) (wrL z (i : Int) x) (j : Int) = if i = j then x else rdL (CI .u8) z (j : Int) := by
  refine ⟨by simp [wrL, hz], fun j hj => ?_⟩
  unfold rdL wrL
  rw [List.getD_eq_getElem?_getD, List.getD_eq_getElem?_getD, Int.toNat_natCast, Int.toNat_natCast, List.getElem?_set]
  split
  · rename_i h
    subst h
    rw [if_pos (by omega)]
    rfl
  · rfl
/-- a block of 16 bytes, as a row and as a list -/
def ArS (b : Arr 16) (s : Nat → Nat) : Prop := ∀ j : Nat, j < 16 → rd b (j : Int) = ((s j : Nat) : Int)
def LsS (z : List Int) (s : Nat → Nat) : Prop := z.length = 16 ∧ ∀ j : Nat, j < 16 → rdL (CI .u8) z (j : Int) = ((s j : Nat) : Int)
def Bd (s : Nat → Nat) : Prop := ∀ j, j < 16 → s j < 256
theorem ls_eq {z : List Int} {b : Arr 16} {s : Nat → Nat} (hz : LsS z s) (hb : ArS b s) : lA b = z := by
  refine List.ext_getElem (by rw [lA_len, hz.1]) fun j h1 h2 => ?_
  have hj : j < 16 := by rw [lA_len] at h1; exact h1
  have e1 := hz.2 j hj
  have e2 := hb j hj
  unfold rdL at e1
  unfold rd at e2
  rw [List.getD_eq_getElem?_getD, Int.toNat_natCast, List.getElem?_eq_getElem h2] at e1
  have e3 : (b.toList.getD j 0) = (lA b)[j] := by rw [List.getD_eq_getElem?_getD, List.getElem?_eq_getElem (show j < b.toList.length from h1)]; rfl
  rw [Int.toNat_natCast] at e2
  rw [← e3, e2]
  exact e1.symm
theorem lt16 {i : Nat} (h : i < 16) : (0 : Int) ≤ (i : Int) ∧ (i : Int) < 16 := by omega
theorem inc {i : Nat} (h : i < 1000000) : iadd .i64 (i : Int) 1 = ((i + 1 : Nat) : Int) := by rw [add64 (by omega) (by omega)]; omega
/-! ### bytes, shifted -/
def sh (s : Nat → Nat) (j : Nat) : Nat := bx (s ((j + 4 * (j % 4)) % 16))
theorem bx_lt {c : Nat} (h : c < 256) : bx c < 256 := (rBox 9 (by decide) h).2
theorem sh_bd {s : Nat → Nat} (h : Bd s) : Bd (sh s) := fun j hj => bx_lt (h _ (Nat.mod_lt _ (by decide)))
theorem pos6 : ∀ i : Fin 16, irem .i64 (iadd .i64 (i.val : Int) (imul .i64 4 (irem .i64 (i.val : Int) 4))) 16 = (((i.val + 4 * (i.val % 4)) % 16 : Nat) : Int) := by decide
theorem aShift (K : Nat) (hK : 16 < K) {b : Arr 16} {s : Nat → Nat} (hb : ArS b s) (hs : Bd s) (z0 : Arr 16) : ∃ y, aes_cipher_there_s.l1 K K tabs.1 b 0 z0 = some y ∧ ArS y (sh s) := by
  obtain ⟨y, h1, _, h2⟩ := fillS (S := Arr 16) (fun z j => rd z (j : Int)) (fun z i x => wr z (i : Int) x) (fun _ => True) 16 (fun z i x => setA z i x) (fun k i z => aes_cipher_there_s.l1 K k tabs.1 b i z) 0 16 (by decide)
    (fun j => ((sh s j : Nat) : Int)) z0 (fun k i z hi _ _ => by
      obtain ⟨b0, b1⟩ := lt16 hi
      have hp := pos6 ⟨i, hi⟩
      dsimp only at hp
      have hq : (i + 4 * (i % 4)) % 16 < 16 := Nat.mod_lt _ (by decide)
      have hr := hb _ hq
      have hl := hs _ hq
      have ht := rd_box hl
      obtain ⟨c0, c1⟩ := lt16 hq
      have d0 : (0 : Int) ≤ ((s ((i + 4 * (i % 4)) % 16) : Nat) : Int) := by omega
      have d1 : ((s ((i + 4 * (i % 4)) % 16) : Nat) : Int) < 256 := by omega
      simp only [aes_cipher_there_s.l1, b0, b1, hp, c0, c1, hr, d0, d1, ht, if_true, Option.bind_some, inc (i := i) (by omega), Nat.zero_add]
      rfl) (fun k z => by simp only [aes_cipher_there_s.l1]; rfl) 16 0 K z0 (by decide) hK trivial (fun _ _ _ => rfl)
  refine ⟨y, h1, fun j hj => ?_⟩
  rw [h2 j hj, if_pos (by omega)]
  rfl
/-! ### a round's key -/
def xk (s t : Nat → Nat) (j : Nat) : Nat := s j ^^^ t j
theorem xk_bd {s t : Nat → Nat} (hs : Bd s) (ht : Bd t) : Bd (xk s t) := fun j hj => xor_lt (hs j hj) (ht j hj)
theorem ix8 {a b : Nat} (ha : a < 256) (hb : b < 256) : ixor .u8 (a : Int) (b : Int) = ((a ^^^ b : Nat) : Int) := ixor_nat (by show _ < 2 ^ 8; omega) (by show _ < 2 ^ 8; omega)
theorem aKey (K : Nat) (hK : 16 < K) {b : Arr 16} {s t : Nat → Nat} (hb : ArS b s) (hs : Bd s) (ht : Bd t) (y465 : List (Arr 16)) (r : Int) (hk : ArS (rdL (CA .u8 16 (by decide)) y465 r) t) : ∃ y, aes_cipher_add_s.l0 K K y465 r 0 b = some y ∧ ArS y (xk s t) := by
  obtain ⟨y, h1, _, h2⟩ := fillS (S := Arr 16) (fun z j => rd z (j : Int)) (fun z i x => wr z (i : Int) x) (fun _ => True) 16 (fun z i x => setA z i x) (fun k i z => aes_cipher_add_s.l0 K k y465 r i z) 0 16 (by decide)
    (fun j => ((xk s t j : Nat) : Int)) b (fun k i z hi _ hz => by
      obtain ⟨b0, b1⟩ := lt16 hi
      rw [Nat.zero_add] at hz
      have hz' : rd z (i : Int) = ((s i : Nat) : Int) := hz.trans (hb i hi)
      simp only [aes_cipher_add_s.l0, b0, b1, hk i hi, hz', ix8 (hs i hi) (ht i hi), if_true, Option.bind_some, inc (i := i) (by omega), Nat.zero_add]
      rfl) (fun k z => by simp only [aes_cipher_add_s.l0]; rfl) 16 0 K b (by decide) hK trivial (fun _ _ _ => rfl)
  refine ⟨y, h1, fun j hj => ?_⟩
  rw [h2 j hj, if_pos (by omega)]
  rfl
end Go.Proofs.Ytmpagpbnpgcecaa
