/- Layer 10 (aes), plain laws: products of bytes. -/
import Derived.Test.YtmpagpbnpgcecaaRFAesBlocks
import Derived.Test.YtmpagpbnpgcecaaRFAesChains
import Derived.Test.YtmpagpbnpgcecaaMw
import Derived.Test.YtmpagpbnpgcecaaMq
set_option linter.unusedSimpArgs false
set_option linter.unusedVariables false
set_option maxRecDepth 100000
namespace Go.Proofs.Ytmpagpbnpgcecaa
open Go Go.Mx
/-- a byte times x -/
def xt (a : Nat) : Nat := if a.testBit 7 then (a <<< 1) ^^^ 283 else a <<< 1
/-- the sum of a's multiples that b tells -/
def xs : Nat → Nat → Nat → Nat
  | 0, _, _ => 0
  | n + 1, a, b => (if b.testBit 0 then a else 0) ^^^ xs n (xt a) (b >>> 1)
def gm (a b : Nat) : Nat := xs 8 a b
theorem xt_lt {a : Nat} (h : a < 256) : xt a < 256 := by
  have : ∀ a : Fin 256, xt a.val < 256 := by decide +kernel
  exact this ⟨a, h⟩
theorem xor_lt {a b : Nat} (ha : a < 256) (hb : b < 256) : a ^^^ b < 256 := Nat.xor_lt_two_pow (n := 8) ha hb
theorem xs_lt : ∀ (n a b : Nat), a < 256 → xs n a b < 256
  | 0, _, _, _ => by unfold xs; decide
  | n + 1, a, b, h => by
    unfold xs
    refine xor_lt ?_ (xs_lt n _ _ (xt_lt h))
    split
    · exact h
    · decide
theorem gm_lt {a b : Nat} (h : a < 256) : gm a b < 256 := xs_lt 8 a b h
theorem xt_xor (a b : Nat) : xt (a ^^^ b) = xt a ^^^ xt b := by
  unfold xt
  rw [Nat.testBit_xor, Nat.shiftLeft_xor_distrib]
  cases a.testBit 7 <;> cases b.testBit 7 <;> simp
  · rw [Nat.xor_assoc]
  · rw [Nat.xor_assoc, Nat.xor_assoc, Nat.xor_comm 283]
  · rw [Nat.xor_assoc, ← Nat.xor_assoc 283, Nat.xor_comm 283, Nat.xor_assoc (b <<< 1), Nat.xor_self, Nat.xor_zero]
theorem xor4 (a b c d : Nat) : (a ^^^ b) ^^^ (c ^^^ d) = (a ^^^ c) ^^^ (b ^^^ d) := by
  rw [Nat.xor_assoc, Nat.xor_assoc, ← Nat.xor_assoc b, Nat.xor_comm b c, Nat.xor_assoc c]
theorem ite_xor (p : Bool) (a b : Nat) : (if p = true then a ^^^ b else 0) = (if p = true then a else 0) ^^^ (if p = true then b else 0) := by
  cases p <;> simp
theorem ite_bxor (p q : Bool) (a : Nat) : (if (p ^^ q) = true then a else 0) = (if p = true then a else 0) ^^^ (if q = true then a else 0) := by
  cases p <;> cases q <;> simp
theorem xs_xor : ∀ (n a a' b : Nat), xs n (a ^^^ a') b = xs n a b ^^^ xs n a' b
  | 0, _, _, _ => (Nat.xor_self 0).symm
  | n + 1, a, a', b => by
    show (if b.testBit 0 = true then a ^^^ a' else 0) ^^^ xs n (xt (a ^^^ a')) (b >>> 1) = ((if b.testBit 0 = true then a else 0) ^^^ xs n (xt a) (b >>> 1)) ^^^ ((if b.testBit 0 = true then a' else 0) ^^^ xs n (xt a') (b >>> 1))
    rw [xt_xor, xs_xor n, ite_xor, xor4]
theorem xs_xor_r : ∀ (n a b b' : Nat), xs n a (b ^^^ b') = xs n a b ^^^ xs n a b'
  | 0, _, _, _ => (Nat.xor_self 0).symm
  | n + 1, a, b, b' => by
    show (if (b ^^^ b').testBit 0 = true then a else 0) ^^^ xs n (xt a) ((b ^^^ b') >>> 1) = ((if b.testBit 0 = true then a else 0) ^^^ xs n (xt a) (b >>> 1)) ^^^ ((if b'.testBit 0 = true then a else 0) ^^^ xs n (xt a) (b' >>> 1))
    rw [Nat.shiftRight_xor_distrib, xs_xor_r n, Nat.testBit_xor, ite_bxor, xor4]
theorem gm_xor (a a' b : Nat) : gm (a ^^^ a') b = gm a b ^^^ gm a' b := xs_xor 8 a a' b
theorem gm_xor_r (a b b' : Nat) : gm a (b ^^^ b') = gm a b ^^^ gm a b' := xs_xor_r 8 a b b'
/-- What holds of 0 and of single bits, and of sums, holds of bytes. -/
theorem byte_ind {p : Nat → Prop} (h0 : p 0) (h1 : ∀ i : Fin 8, p (1 <<< i.val)) (hx : ∀ a b, a < 256 → b < 256 → p a → p b → p (a ^^^ b)) {a : Nat} (h : a < 256) : p a := by
  have key : ∀ a : Fin 256, a.val = (List.range 8).foldl (fun s i => s ^^^ (a.val &&& (1 <<< i))) 0 ∧ ∀ i : Fin 8, (a.val &&& (1 <<< i.val) = 0 ∨ a.val &&& (1 <<< i.val) = 1 <<< i.val) := by decide +kernel
  obtain ⟨e, hb⟩ := key ⟨a, h⟩
  simp only at e hb
  have hp : ∀ i, i < 8 → p (a &&& (1 <<< i)) ∧ a &&& (1 <<< i) < 256 := fun i hi => by
    refine ⟨?_, Nat.lt_of_le_of_lt Nat.and_le_left h⟩
    rcases hb ⟨i, hi⟩ with h | h
    · rw [h]; exact h0
    · rw [h]; exact h1 ⟨i, hi⟩
  have hf : ∀ (l : List Nat) (s : Nat), (∀ i ∈ l, i < 8) → p s → s < 256 → p (l.foldl (fun s i => s ^^^ (a &&& (1 <<< i))) s) := by
    intro l
    induction l with
    | nil => intro s _ hs _; exact hs
    | cons i l ih =>
      intro s hl hs hs2
      have hi := hp i (hl i (List.mem_cons_self ..))
      exact ih _ (fun j hj => hl j (List.mem_cons_of_mem _ hj)) (hx _ _ hs2 hi.2 hs hi.1) (xor_lt hs2 hi.2)
  rw [e]
  exact hf _ 0 (fun i hi => List.mem_range.1 hi) h0 (by decide)
theorem gm_zero_l (b : Nat) : gm 0 b = 0 := by
  have h := gm_xor 0 0 b
  rw [Nat.xor_self, Nat.xor_self] at h
  exact h
theorem gm_zero_r (a : Nat) : gm a 0 = 0 := by
  have h := gm_xor_r a 0 0
  rw [Nat.xor_self, Nat.xor_self] at h
  exact h
theorem gm_comm {a b : Nat} (ha : a < 256) (hb : b < 256) : gm a b = gm b a := by
  refine byte_ind (p := fun a => gm a b = gm b a) ?_ ?_ ?_ ha
  · rw [gm_zero_l, gm_zero_r]
  · intro i
    refine byte_ind (p := fun b => gm (1 <<< i.val) b = gm b (1 <<< i.val)) ?_ ?_ ?_ hb
    · rw [gm_zero_l, gm_zero_r]
    · revert i; decide +kernel
    · intro a b _ _ h1 h2
      rw [gm_xor_r, gm_xor, h1, h2]
  · intro a a' _ _ h1 h2
    show gm (a ^^^ a') b = gm b (a ^^^ a')
    rw [gm_xor, gm_xor_r, h1, h2]
theorem gm_one {a : Nat} (ha : a < 256) : gm a 1 = a := by
  have : ∀ a : Fin 256, gm a.val 1 = a.val := by decide +kernel
  exact this ⟨a, ha⟩
/-! ### the document's product -/
theorem t_hi : ∀ a : Fin 256, (a.val : Int) ≥ 128 → ixor .u8 (ishl .u8 (a.val : Int) 1) 27 = ((xt a.val : Nat) : Int) := by decide +kernel
theorem t_lo : ∀ a : Fin 256, ¬ (a.val : Int) ≥ 128 → ishl .u8 (a.val : Int) 1 = ((xt a.val : Nat) : Int) := by decide +kernel
theorem t_bit : ∀ b : Fin 256, (iand .u8 (b.val : Int) 1 = 1 ↔ b.val.testBit 0 = true) ∧ ishr .u8 (b.val : Int) 1 = ((b.val >>> 1 : Nat) : Int) := by decide +kernel
theorem half_lt {b : Nat} (h : b < 256) : b >>> 1 < 256 := by rw [Nat.shiftRight_eq_div_pow]; omega
theorem ref_l0 (K : Nat) : ∀ (n k a b p : Nat), n ≤ 8 → n < k → a < 256 → b < 256 → p < 256 → ref10_Mul.l0 K k (a : Int) (b : Int) (p : Int) ((8 - n : Nat) : Int) = some ((p ^^^ xs n a b : Nat) : Int) := by
  intro n
  induction n with
  | zero =>
    intro k a b p _ hk ha hb hp
    obtain ⟨k, rfl⟩ : ∃ m, k = m + 1 := ⟨k - 1, by omega⟩
    have h8 : ¬ ((8 - 0 : Nat) : Int) < 8 := by decide
    simp only [ref10_Mul.l0, h8, if_false]
    rw [show xs 0 a b = 0 from rfl, Nat.xor_zero]
  | succ n ih =>
    intro k a b p hn hk ha hb hp
    obtain ⟨k, rfl⟩ : ∃ m, k = m + 1 := ⟨k - 1, by omega⟩
    have h8 : ((8 - (n + 1) : Nat) : Int) < 8 := by omega
    have hi : iadd .i64 ((8 - (n + 1) : Nat) : Int) 1 = ((8 - n : Nat) : Int) := by rw [add64 (by omega) (by omega)]; omega
    have hb1 := (t_bit ⟨b, hb⟩).1
    have hb2 := (t_bit ⟨b, hb⟩).2
    simp only at hb1 hb2
    have hx : ixor .u8 (p : Int) (a : Int) = ((p ^^^ a : Nat) : Int) := ixor_nat (by show p < 2 ^ 8; omega) (by show a < 2 ^ 8; omega)
    have hpa := xor_lt hp ha
    have hxt := xt_lt ha
    have hh := half_lt hb
    have e : ∀ q : Nat, q < 256 → ref10_Mul.l0 K k ((xt a : Nat) : Int) ((b >>> 1 : Nat) : Int) (q : Int) ((8 - n : Nat) : Int) = some ((q ^^^ xs n (xt a) (b >>> 1) : Nat) : Int) := fun q hq => ih k _ _ q (by omega) (by omega) hxt hh hq
    have ex : ∀ r, r = xs (n + 1) a b → (if b.testBit 0 = true then a else 0) ^^^ xs n (xt a) (b >>> 1) = r := fun r hr => hr.symm
    by_cases hbit : b.testBit 0 = true
    · have c1 : iand .u8 (b : Int) 1 = 1 := hb1.2 hbit
      have r1 : p ^^^ xs (n + 1) a b = (p ^^^ a) ^^^ xs n (xt a) (b >>> 1) := by
        show p ^^^ ((if b.testBit 0 = true then a else 0) ^^^ xs n (xt a) (b >>> 1)) = _
        rw [if_pos hbit, Nat.xor_assoc]
      by_cases hhi : (a : Int) ≥ 128
      · have c2 := t_hi ⟨a, ha⟩ hhi
        simp only at c2
        simp only [ref10_Mul.l0, h8, if_true, c1, hhi, Option.bind_some, hx, c2, hb2, hi]
        rw [e _ hpa, r1]
      · have c2 := t_lo ⟨a, ha⟩ hhi
        simp only at c2
        simp only [ref10_Mul.l0, h8, if_true, c1, hhi, if_false, Option.bind_some, hx, c2, hb2, hi]
        rw [e _ hpa, r1]
    · have c1 : ¬ iand .u8 (b : Int) 1 = 1 := fun h => hbit (hb1.1 h)
      have r1 : p ^^^ xs (n + 1) a b = p ^^^ xs n (xt a) (b >>> 1) := by
        show p ^^^ ((if b.testBit 0 = true then a else 0) ^^^ xs n (xt a) (b >>> 1)) = _
        rw [if_neg hbit, Nat.zero_xor]
      by_cases hhi : (a : Int) ≥ 128
      · have c2 := t_hi ⟨a, ha⟩ hhi
        simp only at c2
        simp only [ref10_Mul.l0, h8, if_true, c1, if_false, hhi, Option.bind_some, c2, hb2, hi]
        rw [e _ hp, r1]
      · have c2 := t_lo ⟨a, ha⟩ hhi
        simp only at c2
        simp only [ref10_Mul.l0, h8, if_true, c1, hhi, if_false, Option.bind_some, c2, hb2, hi]
        rw [e _ hp, r1]
theorem rMul (K : Nat) (hK : 8 < K) {a b : Nat} (ha : a < 256) (hb : b < 256) : ref10_Mul.f K (a : Int) (b : Int) = some ((gm a b : Nat) : Int) := by
  unfold ref10_Mul.f
  have h := ref_l0 K 8 K a b 0 (by decide) hK ha hb (by decide)
  rw [Nat.zero_xor] at h
  have h2 : ref10_Mul.l0 K K (a : Int) (b : Int) 0 0 = some ((gm a b : Nat) : Int) := h
  rw [h2]
  rfl
end Go.Proofs.Ytmpagpbnpgcecaa
