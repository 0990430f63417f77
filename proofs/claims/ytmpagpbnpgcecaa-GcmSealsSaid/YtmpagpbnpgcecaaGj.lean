/- Layer 12 (gcm), plain laws: the document's product, bit by bit. -/
import Derived.Test.YtmpagpbnpgcecaaGFAesBlocks
import Derived.Test.YtmpagpbnpgcecaaGFGcmSeals
import Derived.Test.YtmpagpbnpgcecaaGi
set_option linter.unusedSimpArgs false
set_option linter.unusedVariables false
set_option maxRecDepth 100000
namespace Go.Proofs.Ytmpagpbnpgcecaa
open Go Go.Mx
/-! ### bits of blocks -/
theorem num_NB : ∀ (l : List Int), Byt l → l.length ≤ 8 → ∀ n, n < 256 ^ (8 - l.length) → l.foldl hF n = n * 256 ^ l.length + NB l.reverse
  | [], _, _, n, _ => by simp [NB]
  | x :: l, hb, hl, n, hn => by
    obtain ⟨a0, a1⟩ := hb.head
    obtain ⟨m, rfl⟩ : ∃ m : Nat, x = (m : Int) := ⟨x.toNat, by omega⟩
    have hl' : l.length + 1 ≤ 8 := hl
    have hm : m < 256 := by omega
    have hpow : 256 ^ (8 - l.length) = 256 ^ (8 - (l.length + 1)) * 256 := by rw [← Nat.pow_succ]; congr 1; omega
    have hn' : n < 256 ^ (8 - (l.length + 1)) := hn
    have h1 : n * 256 + m < 256 ^ (8 - l.length) := by rw [hpow]; omega
    have h2 : 256 ^ (8 - l.length) ≤ 256 ^ 8 := Nat.pow_le_pow_right (by decide) (by omega)
    have e : hF n (m : Int) = n * 256 + m := by
      unfold hF
      rw [Int.toNat_natCast]
      exact Nat.mod_eq_of_lt (Nat.lt_of_lt_of_le h1 (Nat.le_trans h2 (by decide)))
    rw [List.foldl_cons, e, num_NB l hb.tail (by omega) _ h1, List.reverse_cons, NB_append, List.length_reverse]
    show (n * 256 + m) * 256 ^ l.length + NB l.reverse = n * 256 ^ (l.length + 1) + (NB l.reverse + 256 ^ l.length * ((m : Int).toNat + 256 * 0))
    rw [Int.toNat_natCast, Nat.pow_succ, Nat.add_mul, Nat.mul_comm (256 ^ l.length) 256, Nat.mul_assoc n, Nat.mul_zero, Nat.add_zero, Nat.mul_comm (256 ^ l.length) m]
    omega
theorem byt_of {l : List Int} (h : InL .u8 l) : Byt l := fun x hx => h x hx
theorem num_bit {v : List Int} (hv : InL .u8 v) (hl : v.length = 8) {i : Nat} (hi : i < 64) : num v / 2 ^ (63 - i) % 2 = (v.getD (i / 8) 0).toNat / 2 ^ (7 - i % 8) % 2 := by
  have hr : Byt v.reverse := fun x hx => hv x (List.mem_reverse.1 hx)
  have e : num v = NB v.reverse := by
    have := num_NB v (byt_of hv) (by omega) 0 (by rw [hl]; decide)
    rw [Nat.zero_mul, Nat.zero_add] at this
    exact this
  have h := NB_bit hr (63 - i) (by rw [List.length_reverse]; omega)
  rw [e, ← h, show (63 - i) / 8 = 7 - i / 8 by omega, show (63 - i) % 8 = 7 - i % 8 by omega]
  congr 3
  rw [List.getD_eq_getElem?_getD, List.getD_eq_getElem?_getD, List.getElem?_reverse (by omega), hl, show 8 - 1 - (7 - i / 8) = i / 8 by omega]
/-- bit i of a block -/
def bb (b : List Int) (i : Nat) : Nat := (b.getD (i / 8) 0).toNat / 2 ^ (7 - i % 8) % 2
theorem bt_bb {b : List Int} (hb : InL .u8 b) (hl : b.length = 16) {i : Nat} (hi : i < 128) : bt (rd16 b) i ↔ bb b i = 1 := by
  unfold bt bb
  by_cases h : i ≥ 64
  · rw [if_pos h]
    show num (b.drop 8) / _ % 2 = 1 ↔ _
    have := num_bit (g_drop hb 8) (by rw [List.length_drop]; omega) (show i - 64 < 64 by omega)
    rw [show 63 - i % 64 = 63 - (i - 64) by omega, this, List.getD_eq_getElem?_getD, List.getElem?_drop, ← List.getD_eq_getElem?_getD, show 8 + (i - 64) / 8 = i / 8 by omega, show (i - 64) % 8 = i % 8 by omega]
  · rw [if_neg h]
    show num (b.take 8) / _ % 2 = 1 ↔ _
    have := num_bit (g_take hb 8) (by rw [List.length_take]; omega) (show i < 64 by omega)
    rw [show i % 64 = i by omega, this, List.getD_eq_getElem?_getD, List.getElem?_take_of_lt (by omega), ← List.getD_eq_getElem?_getD]
theorem gBit {b : List Int} (hb : InL .u8 b) (hl : b.length = 16) {i : Nat} (hi : i < 128) : ref12_bit.f 1000 b (i : Int) = some ((bb b i : Nat) : Int) := by
  have q : iquo .i64 (i : Int) 8 = ((i / 8 : Nat) : Int) := by
    unfold iquo
    rw [tdivN (by omega), id64 (by omega) (by omega)]
    omega
  have s : isub .i64 7 (irem .i64 (i : Int) 8) = ((7 - i % 8 : Nat) : Int) := by
    unfold irem
    rw [show Int.tmod (i : Int) 8 = ((i % 8 : Nat) : Int) from rfl, sub64 (by omega) (by omega)]
    omega
  have hil : i / 8 < b.length := by omega
  obtain ⟨x, hx, hx2⟩ := byte_nat hb (List.getElem_mem hil)
  have e : rdL (CI .u8) b ((i / 8 : Nat) : Int) = (x : Int) := by rw [rdL_get hil, hx]
  have g : (b.getD (i / 8) 0).toNat = x := by rw [List.getD_eq_getElem?_getD, List.getElem?_eq_getElem hil, Option.getD_some, hx, Int.toNat_natCast]
  have c0 : (0 : Int) ≤ ((i / 8 : Nat) : Int) := by omega
  have c1 : ((i / 8 : Nat) : Int) < ((b.length : Nat) : Int) := by omega
  have c2 : (0 : Int) ≤ ((7 - i % 8 : Nat) : Int) := by omega
  have hd : x / 2 ^ (7 - i % 8) < 2 ^ 8 := Nat.lt_of_le_of_lt (Nat.div_le_self _ _) (by omega)
  have a := iand_nat (k := .u8) (x := x / 2 ^ (7 - i % 8)) (y := 1) hd (by decide)
  rw [Nat.and_one_is_mod] at a
  have a' : iand .u8 ((x / 2 ^ (7 - i % 8) : Nat) : Int) 1 = ((x / 2 ^ (7 - i % 8) % 2 : Nat) : Int) := a
  unfold ref12_bit.f bb
  rw [g, q]
  simp only [Option.bind_some, s, c0, c1, c2, e, if_true]
  rw [ishr_nat (k := .u8) (show 7 - i % 8 ≤ 8 by omega), a']
end Go.Proofs.Ytmpagpbnpgcecaa
