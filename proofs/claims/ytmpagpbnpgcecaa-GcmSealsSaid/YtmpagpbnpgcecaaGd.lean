/- Layer 12 (gcm), plain laws: the stream of a key and a nonce, and the tag. -/
import Derived.Test.YtmpagpbnpgcecaaGc
set_option linter.unusedSimpArgs false
set_option linter.unusedVariables false
set_option maxRecDepth 100000
namespace Go.Proofs.Ytmpagpbnpgcecaa
open Go Go.Mx
/-- what a key makes of a block -/
def CaK (key : List Int) (E : List Int → List Int) : Prop := ∀ b, InL .u8 b → b.length = 16 → aes_Block.f 1000 key b = some (E b, 0) ∧ (E b).length = 16 ∧ InL .u8 (E b)
def str (E : List Int → List Int) (nonce : List Int) : Nat → Nat → List Int → List Int
  | 0, _, _ => []
  | m + 1, i, t => if t = [] then [] else xr (t.take 16) (E (nonce ++ be4 i)) ++ str E nonce m (i + 1) (t.drop 16)
section
variable {E : List Int → List Int} {key nonce : List Int}
theorem gincU {i : Nat} (h : i < 1000000) : iadd .u64 (i : Int) 1 = ((i + 1 : Nat) : Int) := by
  unfold iadd
  rw [wu64]
  omega
theorem gBlk (hE : CaK key E) (hn : InL .u8 nonce) (ln : nonce.length = 12) (i : Nat) : bits_Be.f 1000 (i : Int) 4 = some (be4 i) ∧ bits_Join.f 1000 [nonce, be4 i] = some (nonce ++ be4 i) ∧ aes_Block.f 1000 key (nonce ++ be4 i) = some (E (nonce ++ be4 i), 0) ∧ (E (nonce ++ be4 i)).length = 16 ∧ InL .u8 (E (nonce ++ be4 i)) := by
  have hl : (be4 i).length = 4 := rfl
  obtain ⟨h1, h2, h3⟩ := hE (nonce ++ be4 i) (g_app hn (be4_in i)) (by rw [List.length_append, ln, hl])
  exact ⟨gBe4 i, gJoin (by rw [ln, hl]; decide), h1, h2, h3⟩
theorem str_nil (m i : Nat) : str E nonce m i [] = [] := by
  cases m with
  | zero => rfl
  | succ m => simp [str]
theorem gStr_l0 (hE : CaK key E) (hn : InL .u8 nonce) (ln : nonce.length = 12) {one : List Int} (h1 : one.length = 16) : ∀ (m i k : Nat) (out t : List Int), t ≠ [] → t.length ≤ 16 * m → m ≤ k → i + m < 1000000 → out.length + t.length < 100000 →
    gcm_stream.l0 1000 k key nonce (i : Int) out one t = some (.inr (out ++ str E nonce m i t, one, [])) := by
  intro m
  induction m with
  | zero =>
    intro i k out t ht hl hk hi ho
    exact absurd (List.eq_nil_of_length_eq_zero (by omega)) ht
  | succ m ih =>
    intro i k out t ht hl hk hi ho
    obtain ⟨k, rfl⟩ : ∃ q, k = q + 1 := ⟨k - 1, by omega⟩
    obtain ⟨b1, b2, b3, b4, b5⟩ := gBlk hE hn ln i
    have hone : one.isEmpty = false := by
      cases one with
      | nil => cases h1
      | cons x l => rfl
    have tl : 0 < t.length := List.length_pos_iff.2 ht
    have mn : imin 16 ((t.length : Nat) : Int) = ((min 16 t.length : Nat) : Int) := by
      unfold imin
      split <;> omega
    have s1 : subL t 0 ((min 16 t.length : Nat) : Int) = t.take 16 := by
      show (t.take (((min 16 t.length : Nat) : Int)).toNat).drop 0 = _
      rw [Int.toNat_natCast, List.drop_zero]
      by_cases h : 16 ≤ t.length
      · rw [Nat.min_eq_left h]
      · rw [Nat.min_eq_right (by omega), List.take_length, List.take_of_length_le (by omega)]
    have s2 : subL t ((min 16 t.length : Nat) : Int) ((t.length : Nat) : Int) = t.drop 16 := by
      rw [g_sub, List.take_length]
      by_cases h : 16 ≤ t.length
      · rw [Nat.min_eq_left h]
      · rw [List.drop_of_length_le (by omega), List.drop_of_length_le (by omega)]
    have tk : (t.take 16).length = min 16 t.length := List.length_take
    have x1 := gXor 1000 (a := t.take 16) (b := E (nonce ++ be4 i)) (by omega) (by omega) (by omega)
    have xl : (xr (t.take 16) (E (nonce ++ be4 i))).length = min 16 t.length := by rw [xr_len (by omega), tk]
    have c0 : (0 : Int) ≤ 0 := by decide
    have c1 : (0 : Int) ≤ ((min 16 t.length : Nat) : Int) := by omega
    have c2 : ((min 16 t.length : Nat) : Int) ≤ ((t.length : Nat) : Int) := by omega
    have c3 : out.length + (xr (t.take 16) (E (nonce ++ be4 i))).length ≤ 140737488355328 := by omega
    have c4 : ((t.length : Nat) : Int) ≤ ((t.length : Nat) : Int) := Int.le_refl _
    have st : str E nonce (m + 1) i t = xr (t.take 16) (E (nonce ++ be4 i)) ++ str E nonce m (i + 1) (t.drop 16) := by simp only [str, ht, if_false]
    unfold gcm_stream.l0
    simp only [b1, b2, b3, hone, Bool.false_eq_true, mn, s1, s2, x1, c0, c1, c2, c3, c4, if_true, if_false, Option.bind_some]
    by_cases hd : t.drop 16 = []
    · rw [if_pos (show (((t.drop 16).length : Nat) : Int) = 0 by rw [hd]; rfl), st, hd, str_nil, List.append_nil]
    · have hd0 : 0 < (t.drop 16).length := List.length_pos_iff.2 hd
      have hdl : (t.drop 16).length = t.length - 16 := List.length_drop
      rw [if_neg (by omega), gincU (by omega), ih (i + 1) k (out ++ xr (t.take 16) (E (nonce ++ be4 i))) (t.drop 16) hd (by omega) (by omega) (by omega) (by rw [List.length_append]; omega), st, List.append_assoc]
theorem gStream (hE : CaK key E) (hn : InL .u8 nonce) (ln : nonce.length = 12) {t : List Int} (hl : t.length < 900) :
    gcm_stream.f 1000 key nonce t = some (str E nonce t.length 2 t, E (nonce ++ be4 1)) := by
  obtain ⟨b1, b2, b3, b4, b5⟩ := gBlk hE hn ln 1
  have b1' : bits_Be.f 1000 1 4 = some (be4 1) := b1
  have hne : (E (nonce ++ be4 1)).isEmpty = false := by
    cases h : E (nonce ++ be4 1) with
    | nil => rw [h] at b4; cases b4
    | cons x l => rfl
  have key1 : gcm_stream.l0 1000 1000 key nonce 1 [] [] t = some (.inr (str E nonce t.length 2 t, E (nonce ++ be4 1), [])) := by
    show gcm_stream.l0 1000 (999 + 1) key nonce 1 [] [] t = _
    unfold gcm_stream.l0
    simp only [b1', b2, b3, List.isEmpty_nil, if_true, hne, Bool.false_eq_true, not_false_eq_true, Option.bind_some]
    by_cases ht : t = []
    · subst ht
      rfl
    · have : 0 < t.length := List.length_pos_iff.2 ht
      have i2 : iadd .u64 1 1 = ((2 : Nat) : Int) := by decide
      have := gStr_l0 hE hn ln b4 t.length 2 999 [] t ht (by omega) (by omega) (by omega) (by simp; omega)
      rw [if_neg (by omega), i2, this]
      rfl
  have c0 : (0 : Int) ≤ iadd .i64 ((t.length : Nat) : Int) 16 := by rw [add64 (by omega) (by omega)]; omega
  have c1 : iadd .i64 ((t.length : Nat) : Int) 16 ≤ 140737488355328 := by rw [add64 (by omega) (by omega)]; omega
  unfold gcm_stream.f
  simp only [c0, c1, key1, if_true, Option.bind_some]
theorem str_len (hE : CaK key E) (hn : InL .u8 nonce) (ln : nonce.length = 12) : ∀ (m i : Nat) {t : List Int}, t.length ≤ 16 * m → (str E nonce m i t).length = t.length
  | 0, _, t, h => by show 0 = t.length; omega
  | m + 1, i, t, h => by
    unfold str
    split
    next h0 => rw [h0]
    next h0 =>
      have h2 := (gBlk hE hn ln i).2.2.2.1
      rw [List.length_append, xr_len (by rw [List.length_take]; omega), str_len hE hn ln m (i + 1) (by rw [List.length_drop]; omega), List.length_take, List.length_drop]
      omega
theorem str_in (hE : CaK key E) (hn : InL .u8 nonce) (ln : nonce.length = 12) : ∀ (m i : Nat) {t : List Int}, InL .u8 t → InL .u8 (str E nonce m i t)
  | 0, _, _, _ => fun x hx => (by cases hx)
  | m + 1, i, t, h => by
    unfold str
    split
    next => exact fun x hx => (by cases hx)
    next => exact g_app (xr_in (g_take h 16) (gBlk hE hn ln i).2.2.2.2) (str_in hE hn ln m (i + 1) (g_drop h 16))
/-! ### the tag -/
def tgv (E : List Int → List Int) (one beside b : List Int) : List Int :=
  xr (wr16 (sm (rd16 (E (List.replicate 16 0))) 1 (sm (rd16 (E (List.replicate 16 0))) 60 (sm (rd16 (E (List.replicate 16 0))) 60 (0, 0) beside) b) (be8 (8 * beside.length) ++ be8 (8 * b.length)))) one
theorem gMul8 {n : Nat} (h : n < 100000) : imul .u64 8 (iconv .u64 ((n : Nat) : Int)) = ((8 * n : Nat) : Int) := by
  unfold imul iconv
  rw [wu64, wu64]
  omega
theorem gAddS {h s : EL} (hh : P64 h) (hs : P64 s) {z : List Int} (hz : InL .u8 z) (hl : z.length < 900) : gcm_summer_add_s.f 1000 (h.1 : Int) (h.2 : Int) (s.1 : Int) (s.2 : Int) z = some ((h.1 : Int), (h.2 : Int), ((sm h 60 s z).1 : Int), ((sm h 60 s z).2 : Int)) := by
  have a := gAddS_l0 hh 60 1000 hs hz (by omega) (by omega) (by decide)
  unfold gcm_summer_add_s.f
  rw [a]
  rfl
theorem gTagv (hE : CaK key E) {one beside b : List Int} (h1 : one.length = 16) (hs : InL .u8 beside) (hb : InL .u8 b) (ls : beside.length < 900) (lb : b.length < 900) : gcm_tag.f 1000 key one beside b = some (tgv E one beside b) := by
  have hz : InL .u8 (List.replicate 16 (0 : Int)) := fun x hx => by
    rw [List.eq_of_mem_replicate hx]
    exact (⟨by decide, by decide⟩ : (0 : Int) ≤ 0 ∧ (0 : Int) ≤ 255)
  obtain ⟨e1, e2, e3⟩ := hE _ hz (by decide)
  have e1' : aes_Block.f 1000 key (List.replicate (16 : Int).toNat (Cod.zero (CI .u8))) = some (E (List.replicate 16 0), 0) := e1
  have r := gRead e3 e2
  have P := rd16_P (E (List.replicate 16 (0 : Int)))
  have P0 : P64 ((0, 0) : EL) := ⟨by decide, by decide⟩
  have f1 : gcm_summer_add_s.f 1000 ((rd16 (E (List.replicate 16 0))).1 : Int) ((rd16 (E (List.replicate 16 0))).2 : Int) 0 0 beside = some (((rd16 (E (List.replicate 16 0))).1 : Int), ((rd16 (E (List.replicate 16 0))).2 : Int), ((sm (rd16 (E (List.replicate 16 0))) 60 (0, 0) beside).1 : Int), ((sm (rd16 (E (List.replicate 16 0))) 60 (0, 0) beside).2 : Int)) := gAddS P P0 hs (by omega)
  have P1 := sm_P P 60 beside P0
  have f2 := gAddS P P1 hb (show b.length < 900 by omega)
  have P2 := sm_P P 60 b P1
  have a3 := gTag_l0 P 1 1000 (z := be8 (8 * beside.length) ++ be8 (8 * b.length)) P2 (g_app (be8_in _) (be8_in _)) (by rw [List.length_append, be8_len, be8_len]; decide) (by rw [List.length_append, be8_len, be8_len]; decide) (by decide)
  have j := gJoin (a := be8 (8 * beside.length)) (b := be8 (8 * b.length)) (by rw [be8_len, be8_len]; decide)
  have x := gXor 1000 (a := wr16 (sm (rd16 (E (List.replicate 16 0))) 1 (sm (rd16 (E (List.replicate 16 0))) 60 (sm (rd16 (E (List.replicate 16 0))) 60 (0, 0) beside) b) (be8 (8 * beside.length) ++ be8 (8 * b.length)))) (b := one) (by rw [wr16_len, h1]; exact Nat.le_refl _) (by rw [wr16_len]; decide) (by rw [wr16_len]; decide)
  have g := gBytes (sm (rd16 (E (List.replicate 16 0))) 1 (sm (rd16 (E (List.replicate 16 0))) 60 (sm (rd16 (E (List.replicate 16 0))) 60 (0, 0) beside) b) (be8 (8 * beside.length) ++ be8 (8 * b.length)))
  unfold gcm_tag.f
  rw [e1']
  simp only [Option.bind_some]
  rw [r]
  simp only [Option.bind_some]
  rw [f1]
  simp only [Option.bind_some]
  rw [f2]
  simp only [Option.bind_some]
  rw [gMul8 (by omega), gMul8 (by omega), aBe, aBe]
  simp only [Option.bind_some]
  rw [j]
  simp only [Option.bind_some]
  rw [a3]
  simp only [Option.bind_some]
  rw [g]
  simp only [Option.bind_some]
  rw [x]
  rfl
theorem tgv_len {one beside b : List Int} (h1 : one.length = 16) : (tgv E one beside b).length = 16 := by
  unfold tgv
  rw [xr_len (by rw [wr16_len, h1]; exact Nat.le_refl _), wr16_len]
theorem tgv_in {one beside b : List Int} (h1 : InL .u8 one) : InL .u8 (tgv E one beside b) := xr_in (wr16_in _) h1
end
end Go.Proofs.Ytmpagpbnpgcecaa
