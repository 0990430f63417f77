/- Layer 12 (gcm), plain laws: what seals, what opens. -/
import Derived.Test.YtmpagpbnpgcecaaGd
import Derived.Test.YtmpagpbnpgcecaaEn
set_option linter.unusedSimpArgs false
set_option linter.unusedVariables false
set_option maxRecDepth 100000
namespace Go.Proofs.Ytmpagpbnpgcecaa
open Go Go.Mx
def Szk (key : List Int) : Prop := key.length = 16 ∨ key.length = 24 ∨ key.length = 32
theorem xor_zero_iff {x y : Nat} : x ^^^ y = 0 ↔ x = y := by
  constructor
  · intro h
    have h2 : (x ^^^ y) ^^^ y = 0 ^^^ y := by rw [h]
    rwa [Nat.xor_assoc, Nat.xor_self, Nat.xor_zero, Nat.zero_xor] at h2
  · rintro rfl
    exact Nat.xor_self x
theorem gSame_l0 {a b : List Int} (ha : InL .u8 a) (hb : InL .u8 b) (hl : a.length = b.length) (hs : a.length < 100000) : ∀ (m i k z : Nat), i + m = a.length → m < k → z < 256 →
    ∃ w : Nat, bits_Same.l0 1000 k a b (z : Int) (i : Int) = some (w : Int) ∧ (w = 0 ↔ z = 0 ∧ a.drop i = b.drop i) := by
  intro m
  induction m with
  | zero =>
    intro i k z hi hk hz
    obtain ⟨k, rfl⟩ : ∃ q, k = q + 1 := ⟨k - 1, by omega⟩
    have c : ¬ (i : Int) < ((a.length : Nat) : Int) := by omega
    refine ⟨z, by simp only [bits_Same.l0, c, if_false], ?_⟩
    rw [List.drop_of_length_le (show a.length ≤ i by omega), List.drop_of_length_le (show b.length ≤ i by omega)]
    simp
  | succ m ih =>
    intro i k z hi hk hz
    obtain ⟨k, rfl⟩ : ∃ q, k = q + 1 := ⟨k - 1, by omega⟩
    have hia : i < a.length := by omega
    have hib : i < b.length := by omega
    have c0 : (i : Int) < ((a.length : Nat) : Int) := by omega
    have c1 : (0 : Int) ≤ (i : Int) := by omega
    have c3 : (i : Int) < ((b.length : Nat) : Int) := by omega
    obtain ⟨x, hx, hx2⟩ := byte_nat ha (List.getElem_mem hia)
    obtain ⟨y, hy, hy2⟩ := byte_nat hb (List.getElem_mem hib)
    have hxy := Nat.xor_lt_two_pow (n := 8) (x := x) (y := y) (by omega) (by omega)
    have e1 : ior .u8 (z : Int) (ixor .u8 (x : Int) (y : Int)) = ((z ||| (x ^^^ y) : Nat) : Int) := by
      rw [ixor_nat (k := .u8) (show x < 2 ^ 8 by omega) (show y < 2 ^ 8 by omega), ior_nat (k := .u8) (show z < 2 ^ 8 by omega) hxy]
    have hw := Nat.or_lt_two_pow (n := 8) (x := z) (y := x ^^^ y) (by omega) hxy
    obtain ⟨w, h1, h2⟩ := ih (i + 1) k (z ||| (x ^^^ y)) (by omega) (by omega) (by omega)
    refine ⟨w, ?_, ?_⟩
    · simp only [bits_Same.l0, c0, c1, c3, rdL_get hia, rdL_get hib, hx, hy, e1, if_true, Option.bind_some, ginc (i := i) (by omega)]
      exact h1
    · rw [h2, Nat.or_eq_zero_iff, xor_zero_iff, List.drop_eq_getElem_cons hia, List.drop_eq_getElem_cons hib, hx, hy, List.cons.injEq]
      constructor
      · rintro ⟨⟨q1, q2⟩, q3⟩
        exact ⟨q1, by rw [q2], q3⟩
      · rintro ⟨q1, q2, q3⟩
        exact ⟨⟨q1, by omega⟩, q3⟩
theorem gSame {a b : List Int} (ha : InL .u8 a) (hb : InL .u8 b) (hl : a.length = b.length) (hs : a.length < 900) : bits_Same.f 1000 a b = some (decide (a = b)) := by
  obtain ⟨w, h1, h2⟩ := gSame_l0 ha hb hl (by omega) a.length 0 1000 0 (by omega) (by omega) (by decide)
  have h1' : bits_Same.l0 1000 1000 a b 0 0 = some (w : Int) := h1
  unfold bits_Same.f
  rw [if_pos (by rw [hl]), h1', Option.bind_some]
  congr 1
  by_cases h : a = b
  · have : w = 0 := h2.2 ⟨rfl, by rw [h]⟩
    subst this
    simp [h]
  · have hw : w ≠ 0 := fun q => h (h2.1 q).2
    rw [decide_eq_false h]
    have : ¬ (w : Int) = 0 := by omega
    simpa using hw
theorem gSized {key : List Int} : (Szk key → gcm_sized.f 1000 key = some true) ∧ (¬ Szk key → gcm_sized.f 1000 key = some false) := by
  unfold gcm_sized.f Szk
  constructor
  · rintro (h | h | h)
    · rw [if_pos (by omega)]
    · rw [if_neg (by omega), if_pos (by omega)]
    · rw [if_neg (by omega), if_neg (by omega), h]; rfl
  · intro h
    rw [if_neg (by omega), if_neg (by omega)]
    have : ((key.length : Nat) : Int) ≠ 32 := by omega
    simp only [beq_eq_false_iff_ne.2 this]
section
variable {E : List Int → List Int} {key nonce beside : List Int}
theorem gSeal (hk : Szk key) (hE : CaK key E) (hn : InL .u8 nonce) (ln : nonce.length = 12) (hs : InL .u8 beside) (ls : beside.length < 900) {t : List Int} (ht : InL .u8 t) (lt : t.length < 850) :
    gcm_Seal.f 1000 key nonce beside t = some (str E nonce t.length 2 t ++ tgv E (E (nonce ++ be4 1)) beside (str E nonce t.length 2 t), 0) := by
  obtain ⟨_, _, _, b4, b5⟩ := gBlk hE hn ln 1
  have sl : (str E nonce t.length 2 t).length = t.length := str_len hE hn ln _ _ (by omega)
  have si := str_in hE hn ln t.length 2 ht
  have g := gTagv hE b4 hs si ls (by omega)
  have tl := tgv_len (E := E) (beside := beside) (b := str E nonce t.length 2 t) b4
  unfold gcm_Seal.f
  rw [gSized.1 hk, Option.bind_some, if_pos rfl, if_pos (by omega), if_neg (by omega), if_neg (by omega), gStream hE hn ln (by omega)]
  simp only [Option.bind_some]
  rw [g, Option.bind_some, if_pos (by omega)]
theorem gOpen (hk : Szk key) (hE : CaK key E) (hn : InL .u8 nonce) (ln : nonce.length = 12) (hs : InL .u8 beside) (ls : beside.length < 900) {c m : List Int} (hc : InL .u8 c) (hm : InL .u8 m) (lc : c.length < 850) (lm : m.length = 16) :
    gcm_Open.f 1000 key nonce beside (c ++ m) = some (if tgv E (E (nonce ++ be4 1)) beside c = m then (str E nonce c.length 2 c, 0) else ([], 17)) := by
  obtain ⟨_, _, _, b4, b5⟩ := gBlk hE hn ln 1
  have g := gTagv hE b4 hs hc ls (by omega)
  have tl := tgv_len (E := E) (beside := beside) (b := c) b4
  have sm_ := gSame (tgv_in (E := E) (beside := beside) (b := c) b5) hm (by omega) (by omega)
  have la : (c ++ m).length = c.length + 16 := by rw [List.length_append, lm]
  have e0 : isub .i64 (((c ++ m).length : Nat) : Int) 16 = ((c.length : Nat) : Int) := by rw [sub64 (by omega) (by omega)]; omega
  have s1 : subL (c ++ m) 0 ((c.length : Nat) : Int) = c := by
    show ((c ++ m).take (((c.length : Nat) : Int)).toNat).drop 0 = c
    rw [Int.toNat_natCast, List.drop_zero, List.take_left]
  have s2 : subL (c ++ m) ((c.length : Nat) : Int) (((c ++ m).length : Nat) : Int) = m := by
    rw [g_sub, List.take_length, List.drop_left]
  unfold gcm_Open.f
  rw [gSized.1 hk, Option.bind_some, if_pos rfl, if_pos (by omega), if_neg (by omega), if_neg (by omega), if_neg (by omega), e0, s1, s2, if_pos (by decide), if_pos (by omega), if_pos (by omega), if_pos (by omega), if_pos (by omega), if_pos (by omega), gStream hE hn ln (by omega)]
  simp only [Option.bind_some]
  rw [g, Option.bind_some, sm_, Option.bind_some]
  by_cases h : tgv E (E (nonce ++ be4 1)) beside c = m
  · rw [if_pos h, if_pos (decide_eq_true h)]
  · rw [if_neg h, if_neg (by rw [decide_eq_false h]; decide)]
end
end Go.Proofs.Ytmpagpbnpgcecaa
