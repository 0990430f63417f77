/- Layer 12 (gcm), plain laws: elements as two numbers, their product, the sum of blocks by a key. -/
import Derived.Test.YtmpagpbnpgcecaaGb
set_option linter.unusedSimpArgs false
set_option linter.unusedVariables false
set_option maxRecDepth 100000
namespace Go.Proofs.Ytmpagpbnpgcecaa
open Go Go.Mx
abbrev EL := Nat × Nat
def P64 (p : EL) : Prop := p.1 < 2 ^ 64 ∧ p.2 < 2 ^ 64
def xp (p q : EL) : EL := (p.1 ^^^ q.1, p.2 ^^^ q.2)
def nx (p : EL) : EL := ((p.1 / 2) ^^^ (if p.2 % 2 = 1 then 16212958658533785600 else 0), (p.2 / 2) ||| (p.1 % 2 * 2 ^ 63))
def bt (e : EL) (i : Nat) : Prop := (if i ≥ 64 then e.2 else e.1) / 2 ^ (63 - i % 64) % 2 = 1
instance (e : EL) (i : Nat) : Decidable (bt e i) := by unfold bt; infer_instance
def tms (e : EL) : Nat → Nat → EL → EL → EL × EL
  | 0, _, p, f => (p, f)
  | m + 1, i, p, f => tms e m (i + 1) (if bt e i then xp p f else p) (nx f)
def tm (e f : EL) : EL := (tms e 128 0 (0, 0) f).1
theorem P64.xp {p q : EL} (hp : P64 p) (hq : P64 q) : P64 (xp p q) := ⟨Nat.xor_lt_two_pow hp.1 hq.1, Nat.xor_lt_two_pow hp.2 hq.2⟩
theorem P64.nx {p : EL} (hp : P64 p) : P64 (nx p) := by
  obtain ⟨h1, h2⟩ := hp
  constructor
  · refine Nat.xor_lt_two_pow (n := 64) (by omega) ?_
    split <;> decide
  · exact Nat.or_lt_two_pow (n := 64) (by omega) (by omega)
theorem tms_P {e : EL} : ∀ (m i : Nat) {p f : EL}, P64 p → P64 f → P64 (tms e m i p f).1 ∧ P64 (tms e m i p f).2
  | 0, _, _, _, hp, hf => ⟨hp, hf⟩
  | m + 1, i, p, f, hp, hf => by
    refine tms_P m (i + 1) ?_ hf.nx
    split
    · exact hp.xp hf
    · exact hp
theorem tm_P {e f : EL} (hf : P64 f) : P64 (tm e f) := (tms_P 128 0 ⟨by decide, by decide⟩ hf).1
theorem gNext {p : EL} (hp : P64 p) : gcm_element_next.f 1000 (p.1 : Int) (p.2 : Int) = some (((nx p).1 : Int), ((nx p).2 : Int)) := by
  obtain ⟨h1, h2⟩ := hp
  have e1 : iand .u64 (p.2 : Int) 1 = ((p.2 % 2 : Nat) : Int) := by
    have := iand_nat (k := .u64) (x := p.2) (y := 1) h2 (by decide)
    rw [Nat.and_one_is_mod] at this
    exact this
  have e2 : ishr .u64 (p.1 : Int) 1 = ((p.1 / 2 : Nat) : Int) := ishr_nat (k := .u64) (n := 1) (by decide)
  have e3 : ishr .u64 (p.2 : Int) 1 = ((p.2 / 2 : Nat) : Int) := ishr_nat (k := .u64) (n := 1) (by decide)
  have e4 : ishl .u64 (p.1 : Int) 63 = ((p.1 % 2 * 2 ^ 63 : Nat) : Int) := by
    unfold ishl
    rw [show min (63 : Int).toNat IntKind.u64.bits = 63 from rfl, wu64]
    omega
  have e5 : iand .u64 16212958658533785600 (isub .u64 0 ((p.2 % 2 : Nat) : Int)) = (((if p.2 % 2 = 1 then 16212958658533785600 else 0 : Nat)) : Int) := by
    rcases Nat.mod_two_eq_zero_or_one p.2 with h | h <;> rw [h] <;> decide
  have e6 : (if p.2 % 2 = 1 then 16212958658533785600 else 0) < 2 ^ 64 := by split <;> decide
  unfold gcm_element_next.f
  rw [e1, Option.bind_some, e5, e2, e3, e4, ixor_nat (k := .u64) (show _ < 2 ^ 64 by omega) e6, ior_nat (k := .u64) (show _ < 2 ^ 64 by omega) (show _ < 2 ^ 64 by omega)]
  rfl
theorem gXp {p q : EL} (hp : P64 p) (hq : P64 q) : gcm_element_xor.f 1000 (p.1 : Int) (p.2 : Int) (q.1 : Int) (q.2 : Int) = some (((xp p q).1 : Int), ((xp p q).2 : Int)) := by
  unfold gcm_element_xor.f
  rw [ixor_nat (k := .u64) hp.1 hq.1, ixor_nat (k := .u64) hp.2 hq.2]
  rfl
theorem bt_iff {e : EL} (he : P64 e) {i : Nat} (hi : i < 128) (y : Nat) (hy : y = if i ≥ 64 then e.2 else e.1) : (iand .u64 (ishr .u64 (y : Int) (isub .i64 63 (irem .i64 (i : Int) 64))) 1 = 1 ↔ bt e i) ∧ 0 ≤ isub .i64 63 (irem .i64 (i : Int) 64) := by
  have hs : isub .i64 63 (irem .i64 (i : Int) 64) = ((63 - i % 64 : Nat) : Int) := by
    unfold irem
    rw [show Int.tmod (i : Int) 64 = ((i % 64 : Nat) : Int) from rfl, sub64 (by omega) (by omega)]
    omega
  have hyl : y < 2 ^ 64 := by
    rw [hy]
    split
    · exact he.2
    · exact he.1
  rw [hs, ishr_nat (k := .u64) (show 63 - i % 64 ≤ 64 by omega)]
  have hd : y / 2 ^ (63 - i % 64) < 2 ^ 64 := Nat.lt_of_le_of_lt (Nat.div_le_self _ _) hyl
  have := iand_nat (k := .u64) (x := y / 2 ^ (63 - i % 64)) (y := 1) hd (by decide)
  rw [Nat.and_one_is_mod] at this
  refine ⟨?_, by omega⟩
  rw [show iand .u64 ((y / 2 ^ (63 - i % 64) : Nat) : Int) 1 = ((y / 2 ^ (63 - i % 64) % 2 : Nat) : Int) from this]
  unfold bt
  rw [← hy]
  omega
theorem gTimes_l0 {e : EL} (he : P64 e) : ∀ (m i k : Nat) {p f : EL}, P64 p → P64 f → i + m = 128 → m < k →
    gcm_element_times.l0 1000 k (e.1 : Int) (e.2 : Int) (i : Int) (p.1 : Int) (p.2 : Int) (f.1 : Int) (f.2 : Int) = some (((tms e m i p f).1.1 : Int), ((tms e m i p f).1.2 : Int), ((tms e m i p f).2.1 : Int), ((tms e m i p f).2.2 : Int)) := by
  intro m
  induction m with
  | zero =>
    intro i k p f hp hf hi hk
    obtain ⟨k, rfl⟩ : ∃ q, k = q + 1 := ⟨k - 1, by omega⟩
    have c : ¬ (i : Int) < 128 := by omega
    simp only [gcm_element_times.l0, c, if_false]
    rfl
  | succ m ih =>
    intro i k p f hp hf hi hk
    obtain ⟨k, rfl⟩ : ∃ q, k = q + 1 := ⟨k - 1, by omega⟩
    have c : (i : Int) < 128 := by omega
    have hy : (if (i : Int) ≥ 64 then some (e.2 : Int) else some (e.1 : Int) : Option Int) = some (((if i ≥ 64 then e.2 else e.1 : Nat)) : Int) := by
      by_cases h : i ≥ 64
      · rw [if_pos (show (i : Int) ≥ 64 by omega), if_pos h]
      · rw [if_neg (show ¬ (i : Int) ≥ 64 by omega), if_neg h]
    obtain ⟨b1, b2⟩ := bt_iff he (show i < 128 by omega) _ rfl
    have hx := gXp hp hf
    have hn := gNext hf
    have hc : (if iand .u64 (ishr .u64 (((if i ≥ 64 then e.2 else e.1 : Nat)) : Int) (isub .i64 63 (irem .i64 (i : Int) 64))) 1 = 1 then ((gcm_element_xor.f 1000 (p.1 : Int) (p.2 : Int) (f.1 : Int) (f.2 : Int)).bind fun (r12_0, r12_1) => some (r12_0, r12_1)) else (some ((p.1 : Int), (p.2 : Int))) : Option (Int × Int)) = some ((((if bt e i then xp p f else p) : EL).1 : Int), (((if bt e i then xp p f else p) : EL).2 : Int)) := by
      by_cases h : bt e i
      · rw [if_pos (b1.2 h), if_pos h, hx]
        rfl
      · rw [if_neg (fun q => h (b1.1 q)), if_neg h]
    have hp' : P64 (if bt e i then xp p f else p) := by
      split
      · exact hp.xp hf
      · exact hp
    have i1 := ih (i + 1) k hp' hf.nx (by omega) (by omega)
    unfold gcm_element_times.l0
    rw [if_pos c, hy, Option.bind_some, if_pos b2, hc, Option.bind_some, hn]
    simp only [Option.bind_some, ginc (i := i) (by omega)]
    exact i1
theorem gTimes {e f : EL} (he : P64 e) (hf : P64 f) : gcm_element_times.f 1000 (e.1 : Int) (e.2 : Int) (f.1 : Int) (f.2 : Int) = some (((tm e f).1 : Int), ((tm e f).2 : Int)) := by
  have h : gcm_element_times.l0 1000 1000 (e.1 : Int) (e.2 : Int) 0 0 0 (f.1 : Int) (f.2 : Int) = _ := gTimes_l0 he 128 0 1000 (p := (0, 0)) (f := f) ⟨by decide, by decide⟩ hf (by decide) (by decide)
  unfold gcm_element_times.f
  rw [h]
  rfl
/-! ### elements of blocks, and back -/
def rd16 (b : List Int) : EL := (num (b.take 8), num (b.drop 8))
def wr16 (p : EL) : List Int := be8 p.1 ++ be8 p.2
theorem rd16_P (b : List Int) : P64 (rd16 b) := ⟨num_lt _, num_lt _⟩
theorem wr16_len (p : EL) : (wr16 p).length = 16 := rfl
theorem wr16_in (p : EL) : InL .u8 (wr16 p) := g_app (be8_in _) (be8_in _)
theorem gRead {b : List Int} (hb : InL .u8 b) (hl : b.length = 16) : gcm_read.f 1000 b = some (((rd16 b).1 : Int), ((rd16 b).2 : Int)) := by
  have s1 : subL b 0 8 = b.take 8 := rfl
  have s2 : subL b 8 16 = b.drop 8 := by
    show (b.take 16).drop 8 = _
    rw [List.take_of_length_le (by omega)]
  have c0 : (0 : Int) ≤ 0 := by decide
  have c1 : (0 : Int) ≤ 8 := by decide
  have c2 : (8 : Int) ≤ ((b.length : Nat) : Int) := by omega
  have c3 : (8 : Int) ≤ 16 := by decide
  have c4 : (16 : Int) ≤ ((b.length : Nat) : Int) := by omega
  have n1 := gNum 1000 (g_take hb 8) (by rw [List.length_take]; omega) (by rw [List.length_take]; omega)
  have n2 := gNum 1000 (g_drop hb 8) (by rw [List.length_drop]; omega) (by rw [List.length_drop]; omega)
  unfold gcm_read.f
  simp only [c0, c1, c2, c3, c4, s1, s2, n1, n2, if_true, Option.bind_some]
  rfl
theorem gBytes (p : EL) : gcm_element_bytes.f 1000 (p.1 : Int) (p.2 : Int) = some (wr16 p) := by
  unfold gcm_element_bytes.f
  rw [aBe, aBe]
  simp only [Option.bind_some]
  rw [gJoin (by rw [be8_len, be8_len]; decide)]
  rfl
/-! ### the sum of blocks -/
def fl (z : List Int) : List Int := subL (lA (cpA (zeroA 16) 0 (z.take ((16 : Int).toNat - (0 : Int).toNat)))) 0 16
theorem fl_len (z : List Int) : (fl z).length = 16 := by
  unfold fl
  rw [subL_len (by decide) (by rw [lA_len]; decide) (by decide)]
  rfl
theorem fl_get (z : List Int) {i : Nat} (h : i < (fl z).length) : (fl z)[i] = if i < (z.take 16).length then (z.take 16).getD i 0 else 0 := by
  have h16 : i < 16 := by rw [fl_len] at h; exact h
  have e : fl z = lA (cpA (zeroA 16) 0 (z.take 16)) := by
    unfold fl
    show ((lA (cpA (zeroA 16) 0 (z.take 16))).take 16).drop 0 = _
    rw [List.drop_zero, List.take_of_length_le (by rw [lA_len]; exact Nat.le_refl _)]
  have e2 : (fl z)[i] = (lA (cpA (zeroA 16) 0 (z.take 16)))[i]'(by rw [lA_len]; exact h16) := by simp only [e]
  refine e2.trans ?_
  unfold lA cpA
  simp only [Vector.getElem_toList, Vector.getElem_ofFn]
  have z0 : rd (zeroA 16) (i : Int) = 0 := by
    have : ∀ j : Fin 16, rd (zeroA 16) (j.val : Int) = 0 := by decide
    exact this ⟨i, h16⟩
  by_cases hc : i < (z.take 16).length
  · rw [if_pos ⟨Nat.zero_le _, by show i < 0 + _; omega⟩, if_pos hc]
    rfl
  · rw [if_neg (fun q => hc (by have : i < 0 + (z.take 16).length := q.2; omega)), if_neg hc, z0]
theorem fl_in {z : List Int} (hz : InL .u8 z) : InL .u8 (fl z) := fun x hx => by
  obtain ⟨i, hi, rfl⟩ := List.getElem_of_mem hx
  rw [fl_get z hi]
  split
  next h =>
    rw [List.getD_eq_getElem?_getD, List.getElem?_eq_getElem h]
    exact g_take hz 16 _ (List.getElem_mem h)
  next => exact (⟨by decide, by decide⟩ : (0 : Int) ≤ 0 ∧ (0 : Int) ≤ 255)
def sm (h : EL) : Nat → EL → List Int → EL
  | 0, s, _ => s
  | m + 1, s, z => if z = [] then s else sm h m (tm (xp s (rd16 (fl z))) h) (z.drop 16)
theorem sm_P {h : EL} (hh : P64 h) : ∀ (m : Nat) {s : EL} (z : List Int), P64 s → P64 (sm h m s z)
  | 0, _, _, hs => hs
  | m + 1, s, z, hs => by
    unfold sm
    split
    · exact hs
    · exact sm_P hh m _ (tm_P hh)
theorem gAddS_l0 {h : EL} (hh : P64 h) : ∀ (m k : Nat) {s : EL} {z : List Int}, P64 s → InL .u8 z → z.length ≤ 16 * m → z.length < 100000 → m < k →
    gcm_summer_add_s.l0 1000 k (h.1 : Int) (h.2 : Int) (s.1 : Int) (s.2 : Int) z = some ((h.1 : Int), (h.2 : Int), ((sm h m s z).1 : Int), ((sm h m s z).2 : Int)) := by
  intro m
  induction m with
  | zero =>
    intro k s z hs hz hl hl2 hk
    obtain ⟨k, rfl⟩ : ∃ q, k = q + 1 := ⟨k - 1, by omega⟩
    have c : ¬ ((z.length : Nat) : Int) > 0 := by omega
    simp only [gcm_summer_add_s.l0, c, if_false]
    rfl
  | succ m ih =>
    intro k s z hs hz hl hl2 hk
    obtain ⟨k, rfl⟩ : ∃ q, k = q + 1 := ⟨k - 1, by omega⟩
    by_cases hn : z = []
    · subst hn
      simp only [gcm_summer_add_s.l0, List.length_nil, show ¬ ((0 : Nat) : Int) > 0 by decide, if_false]
      rfl
    · have h0 : 0 < z.length := List.length_pos_iff.2 hn
      have c : ((z.length : Nat) : Int) > 0 := by omega
      have r1 := gRead (fl_in hz) (fl_len z)
      have r2 := gXp hs (rd16_P (fl z))
      have r3 := gTimes (hs.xp (rd16_P (fl z))) hh
      have c1 : (0 : Int) ≤ ((min z.length 16 : Nat) : Int) := by omega
      have c2 : ((min z.length 16 : Nat) : Int) ≤ ((z.length : Nat) : Int) := by omega
      have c3 : ((z.length : Nat) : Int) ≤ ((z.length : Nat) : Int) := Int.le_refl _
      have e : subL z ((min z.length 16 : Nat) : Int) ((z.length : Nat) : Int) = z.drop 16 := by
        rw [g_sub, List.take_length]
        by_cases h16 : 16 ≤ z.length
        · rw [Nat.min_eq_right h16]
        · rw [List.drop_of_length_le (by omega), List.drop_of_length_le (by omega)]
      have i1 := ih k (tm_P (e := xp s (rd16 (fl z))) hh) (g_drop hz 16) (by rw [List.length_drop]; omega) (by rw [List.length_drop]; omega) (by omega)
      unfold gcm_summer_add_s.l0
      have r1' : gcm_read.f 1000 (subL (lA (cpA (zeroA 16) 0 (z.take ((16 : Int).toNat - (0 : Int).toNat)))) 0 16) = some (((rd16 (fl z)).1 : Int), ((rd16 (fl z)).2 : Int)) := r1
      rw [if_pos c, Option.bind_some, r1', Option.bind_some]
      simp only [Option.bind_some, r2, r3, show (16 : Int).toNat - (0 : Int).toNat = 16 from rfl, c1, c2, c3, e, if_true]
      rw [i1]
      simp only [sm, hn, if_false]
theorem gTag_l0 {h : EL} (hh : P64 h) : ∀ (m k : Nat) {s : EL} {z : List Int}, P64 s → InL .u8 z → z.length ≤ 16 * m → z.length < 100000 → m < k →
    gcm_tag.l0 1000 k (h.1 : Int) (h.2 : Int) (s.1 : Int) (s.2 : Int) z = some ((h.1 : Int), (h.2 : Int), ((sm h m s z).1 : Int), ((sm h m s z).2 : Int)) := by
  intro m
  induction m with
  | zero =>
    intro k s z hs hz hl hl2 hk
    obtain ⟨k, rfl⟩ : ∃ q, k = q + 1 := ⟨k - 1, by omega⟩
    have c : ¬ ((z.length : Nat) : Int) > 0 := by omega
    simp only [gcm_tag.l0, c, if_false]
    rfl
  | succ m ih =>
    intro k s z hs hz hl hl2 hk
    obtain ⟨k, rfl⟩ : ∃ q, k = q + 1 := ⟨k - 1, by omega⟩
    by_cases hn : z = []
    · subst hn
      simp only [gcm_tag.l0, List.length_nil, show ¬ ((0 : Nat) : Int) > 0 by decide, if_false]
      rfl
    · have h0 : 0 < z.length := List.length_pos_iff.2 hn
      have c : ((z.length : Nat) : Int) > 0 := by omega
      have r1 := gRead (fl_in hz) (fl_len z)
      have r2 := gXp hs (rd16_P (fl z))
      have r3 := gTimes (hs.xp (rd16_P (fl z))) hh
      have c1 : (0 : Int) ≤ ((min z.length 16 : Nat) : Int) := by omega
      have c2 : ((min z.length 16 : Nat) : Int) ≤ ((z.length : Nat) : Int) := by omega
      have c3 : ((z.length : Nat) : Int) ≤ ((z.length : Nat) : Int) := Int.le_refl _
      have e : subL z ((min z.length 16 : Nat) : Int) ((z.length : Nat) : Int) = z.drop 16 := by
        rw [g_sub, List.take_length]
        by_cases h16 : 16 ≤ z.length
        · rw [Nat.min_eq_right h16]
        · rw [List.drop_of_length_le (by omega), List.drop_of_length_le (by omega)]
      have i1 := ih k (tm_P (e := xp s (rd16 (fl z))) hh) (g_drop hz 16) (by rw [List.length_drop]; omega) (by rw [List.length_drop]; omega) (by omega)
      unfold gcm_tag.l0
      have r1' : gcm_read.f 1000 (subL (lA (cpA (zeroA 16) 0 (z.take ((16 : Int).toNat - (0 : Int).toNat)))) 0 16) = some (((rd16 (fl z)).1 : Int), ((rd16 (fl z)).2 : Int)) := r1
      rw [if_pos c, Option.bind_some, r1', Option.bind_some]
      simp only [Option.bind_some, r2, r3, show (16 : Int).toNat - (0 : Int).toNat = 16 from rfl, c1, c2, c3, e, if_true]
      rw [i1]
      simp only [sm, hn, if_false]
end Go.Proofs.Ytmpagpbnpgcecaa
