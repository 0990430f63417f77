/- Layer 10 (aes), plain laws: a block's rounds, each stage. -/
import Derived.Test.YtmpagpbnpgcecaaEc
set_option linter.unusedSimpArgs false
set_option linter.unusedVariables false
set_option maxRecDepth 100000
namespace Go.Proofs.Ytmpagpbnpgcecaa
open Go Go.Mx
/-- A loop that fills places base .. base + m of something with N places. -/
theorem fillS {S : Type} (get : S → Nat → Int) (set : S → Nat → Int → S) (Inv : S → Prop) (N : Nat)
    (hset : ∀ z i x, Inv z → i < N → Inv (set z i x) ∧ ∀ j, j < N → get (set z i x) j = if i = j then x else get z j)
    (l : Nat → Int → S → Option S) (base m : Nat) (hN : base + m ≤ N) (F : Nat → Int) (z0 : S)
    (hs : ∀ k i z, i < m → Inv z → get z (base + i) = get z0 (base + i) → l (k + 1) (i : Int) z = l k ((i + 1 : Nat) : Int) (set z (base + i) (F i)))
    (he : ∀ k z, l (k + 1) (m : Int) z = some z) :
    ∀ n i k z, i + n = m → n < k → Inv z → (∀ j, base + i ≤ j → j < base + m → get z j = get z0 j) →
      ∃ y, l k (i : Int) z = some y ∧ Inv y ∧ ∀ j, j < N → get y j = if base + i ≤ j ∧ j < base + m then F (j - base) else get z j := by
  intro n
  induction n with
  | zero =>
    intro i k z hi hk hz _
    obtain ⟨k, rfl⟩ : ∃ q, k = q + 1 := ⟨k - 1, by omega⟩
    obtain rfl : i = m := by omega
    refine ⟨z, he k z, hz, fun j hj => ?_⟩
    rw [if_neg (by omega)]
  | succ n ih =>
    intro i k z hi hk hz hg
    obtain ⟨k, rfl⟩ : ∃ q, k = q + 1 := ⟨k - 1, by omega⟩
    obtain ⟨h1, h2⟩ := hset z (base + i) (F i) hz (by omega)
    obtain ⟨y, h3, h4, h5⟩ := ih (i + 1) k (set z (base + i) (F i)) (by omega) (by omega) h1 (fun j h6 h7 => by
      rw [h2 j (by omega), if_neg (by omega)]
      exact hg j (by omega) h7)
    refine ⟨y, by rw [hs k i z (by omega) hz (hg _ (by omega) (by omega))]; exact h3, h4, fun j hj => ?_⟩
    rw [h5 j hj]
    by_cases h6 : base + i ≤ j ∧ j < base + m
    · rw [if_pos h6]
      by_cases h7 : base + i = j
      · rw [if_neg (by omega), h2 j hj, if_pos h7]
        rw [show j - base = i by omega]
      · rw [if_pos (by omega)]
    · rw [if_neg (by omega), if_neg h6, h2 j hj, if_neg (by omega)]
theorem setA {n : Nat} (z : Arr n) (i : Nat) (x : Int) (_ : True) (_ : i < n) : True ∧ ∀ j, j < n → rd (wr z (i : Int) x) (j : Int) = if i = j then x else rd z (j : Int) := ⟨trivial, fun j hj => rd_wr z i j x hj⟩
theorem setL (N : Nat) (z : List Int) (i : Nat) (x : Int) (hz : z.length = N) (hi : i < N) : (wrL z (i : Int) x).length = N ∧ ∀ j, j < N → rdL (CI .u8) (wrL z (i : Int) x) (j : Int) = if i = j then x else rdL (CI .u8) z (j : Int) := by
  refine ⟨by simp [wrL, hz], fun j hj => ?_⟩
  unfold rdL wrL
  rw [List.getD_eq_getElem?_getD, List.getD_eq_getElem?_getD, Int.toNat_natCast, Int.toNat_natCast, List.getElem?_set]
  split
  · rename_i h
    subst h
    rw [if_pos (by omega)]
    rfl
  · rfl
/-- a block of 16 bytes, as a row and as a list -/
def ArS (b : Arr 16) (s : Nat → Nat) : Prop := ∀ j : Nat, j < 16 → rd b (j : Int) = ((s j : Nat) : Int)
def LsS (z : List Int) (s : Nat → Nat) : Prop := z.length = 16 ∧ ∀ j : Nat, j < 16 → rdL (CI .u8) z (j : Int) = ((s j : Nat) : Int)
def Bd (s : Nat → Nat) : Prop := ∀ j, j < 16 → s j < 256
theorem ls_eq {z : List Int} {b : Arr 16} {s : Nat → Nat} (hz : LsS z s) (hb : ArS b s) : lA b = z := by
  refine List.ext_getElem (by rw [lA_len, hz.1]) fun j h1 h2 => ?_
  have hj : j < 16 := by rw [lA_len] at h1; exact h1
  have e1 := hz.2 j hj
  have e2 := hb j hj
  unfold rdL at e1
  unfold rd at e2
  rw [List.getD_eq_getElem?_getD, Int.toNat_natCast, List.getElem?_eq_getElem h2] at e1
  have e3 : (b.toList.getD j 0) = (lA b)[j] := by rw [List.getD_eq_getElem?_getD, List.getElem?_eq_getElem (show j < b.toList.length from h1)]; rfl
  rw [Int.toNat_natCast] at e2
  rw [← e3, e2]
  exact e1.symm
theorem lt16 {i : Nat} (h : i < 16) : (0 : Int) ≤ (i : Int) ∧ (i : Int) < 16 := by omega
theorem inc {i : Nat} (h : i < 1000000) : iadd .i64 (i : Int) 1 = ((i + 1 : Nat) : Int) := by rw [add64 (by omega) (by omega)]; omega
/-! ### bytes, shifted -/
def sh (s : Nat → Nat) (j : Nat) : Nat := bx (s ((j + 4 * (j % 4)) % 16))
theorem bx_lt {c : Nat} (h : c < 256) : bx c < 256 := (rBox 9 (by decide) h).2
theorem sh_bd {s : Nat → Nat} (h : Bd s) : Bd (sh s) := fun j hj => bx_lt (h _ (Nat.mod_lt _ (by decide)))
theorem pos6 : ∀ i : Fin 16, irem .i64 (iadd .i64 (i.val : Int) (imul .i64 4 (irem .i64 (i.val : Int) 4))) 16 = (((i.val + 4 * (i.val % 4)) % 16 : Nat) : Int) := by decide
theorem aShift (K : Nat) (hK : 16 < K) {b : Arr 16} {s : Nat → Nat} (hb : ArS b s) (hs : Bd s) (z0 : Arr 16) : ∃ y, aes_cipher_there_s.l1 K K tabs.1 b 0 z0 = some y ∧ ArS y (sh s) := by
  obtain ⟨y, h1, _, h2⟩ := fillS (S := Arr 16) (fun z j => rd z (j : Int)) (fun z i x => wr z (i : Int) x) (fun _ => True) 16 (fun z i x => setA z i x) (fun k i z => aes_cipher_there_s.l1 K k tabs.1 b i z) 0 16 (by decide)
    (fun j => ((sh s j : Nat) : Int)) z0 (fun k i z hi _ _ => by
      obtain ⟨b0, b1⟩ := lt16 hi
      have hp := pos6 ⟨i, hi⟩
      dsimp only at hp
      have hq : (i + 4 * (i % 4)) % 16 < 16 := Nat.mod_lt _ (by decide)
      have hr := hb _ hq
      have hl := hs _ hq
      have ht := rd_box hl
      obtain ⟨c0, c1⟩ := lt16 hq
      have d0 : (0 : Int) ≤ ((s ((i + 4 * (i % 4)) % 16) : Nat) : Int) := by omega
      have d1 : ((s ((i + 4 * (i % 4)) % 16) : Nat) : Int) < 256 := by omega
      simp only [aes_cipher_there_s.l1, b0, b1, hp, c0, c1, hr, d0, d1, ht, if_true, Option.bind_some, inc (i := i) (by omega), Nat.zero_add]
      rfl) (fun k z => by simp only [aes_cipher_there_s.l1]; rfl) 16 0 K z0 (by decide) hK trivial (fun _ _ _ => rfl)
  refine ⟨y, h1, fun j hj => ?_⟩
  rw [h2 j hj, if_pos (by omega)]
  rfl
/-! ### a round's key -/
def xk (s t : Nat → Nat) (j : Nat) : Nat := s j ^^^ t j
theorem xk_bd {s t : Nat → Nat} (hs : Bd s) (ht : Bd t) : Bd (xk s t) := fun j hj => xor_lt (hs j hj) (ht j hj)
theorem ix8 {a b : Nat} (ha : a < 256) (hb : b < 256) : ixor .u8 (a : Int) (b : Int) = ((a ^^^ b : Nat) : Int) := ixor_nat (by show _ < 2 ^ 8; omega) (by show _ < 2 ^ 8; omega)
theorem aKey (K : Nat) (hK : 16 < K) {b : Arr 16} {s t : Nat → Nat} (hb : ArS b s) (hs : Bd s) (ht : Bd t) (y465 : List (Arr 16)) (r : Int) (hk : ArS (rdL (CA .u8 16 (by decide)) y465 r) t) : ∃ y, aes_cipher_add_s.l0 K K y465 r 0 b = some y ∧ ArS y (xk s t) := by
  obtain ⟨y, h1, _, h2⟩ := fillS (S := Arr 16) (fun z j => rd z (j : Int)) (fun z i x => wr z (i : Int) x) (fun _ => True) 16 (fun z i x => setA z i x) (fun k i z => aes_cipher_add_s.l0 K k y465 r i z) 0 16 (by decide)
    (fun j => ((xk s t j : Nat) : Int)) b (fun k i z hi _ hz => by
      obtain ⟨b0, b1⟩ := lt16 hi
      rw [Nat.zero_add] at hz
      have hz' : rd z (i : Int) = ((s i : Nat) : Int) := hz.trans (hb i hi)
      simp only [aes_cipher_add_s.l0, b0, b1, hk i hi, hz', ix8 (hs i hi) (ht i hi), if_true, Option.bind_some, inc (i := i) (by omega), Nat.zero_add]
      rfl) (fun k z => by simp only [aes_cipher_add_s.l0]; rfl) 16 0 K b (by decide) hK trivial (fun _ _ _ => rfl)
  refine ⟨y, h1, fun j hj => ?_⟩
  rw [h2 j hj, if_pos (by omega)]
  rfl
end Go.Proofs.Ytmpagpbnpgcecaa
