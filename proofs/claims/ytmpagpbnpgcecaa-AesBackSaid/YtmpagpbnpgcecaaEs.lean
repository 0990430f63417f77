/- Layer 10 (aes), plain laws: texts filled up, chains and the texts of chains, in the program and in the document. -/
import Derived.Test.YtmpagpbnpgcecaaRFAesBlocks
import Derived.Test.YtmpagpbnpgcecaaRFAesChains
import Derived.Test.YtmpagpbnpgcecaaEr
set_option linter.unusedSimpArgs false
set_option linter.unusedVariables false
set_option maxRecDepth 100000
namespace Go.Proofs.Ytmpagpbnpgcecaa
open Go Go.Mx
theorem byt_nat {l : List Int} (h : InL .u8 l) {x : Int} (hx : x ∈ l) : ∃ n : Nat, x = (n : Int) ∧ n < 256 := by
  obtain ⟨h0, h1⟩ : 0 ≤ x ∧ x ≤ 255 := h x hx
  exact ⟨x.toNat, by omega, by omega⟩
theorem rdL_at {l : List Int} {i : Nat} (h : i < l.length) : rdL (CI .u8) l (i : Int) = l[i] := by
  unfold rdL
  rw [Int.toNat_natCast, List.getD_eq_getElem?_getD, List.getElem?_eq_getElem h]
  rfl
/-! ### filled up -/
def padN (l : List Int) : Nat := 16 - l.length % 16
def fillN (n : Nat) : List Int := List.replicate n (n : Int)
def pad (l : List Int) : List Int := l ++ fillN (padN l)
theorem padN_bd (l : List Int) : 1 ≤ padN l ∧ padN l ≤ 16 := by unfold padN; omega
theorem fillN_in {n : Nat} (h : n ≤ 16) : InL .u8 (fillN n) := fun x hx => by
  obtain ⟨_, rfl⟩ := List.mem_replicate.1 hx
  exact (⟨by omega, by omega⟩ : (0 : Int) ≤ (n : Int) ∧ (n : Int) ≤ 255)
theorem fillN_len (n : Nat) : (fillN n).length = n := List.length_replicate
theorem pad_len (l : List Int) : (pad l).length = 16 * (l.length / 16 + 1) := by
  unfold pad padN
  rw [List.length_append, fillN_len]
  omega
theorem pad_in {l : List Int} (h : InL .u8 l) : InL .u8 (pad l) := ap_in h (fillN_in (padN_bd l).2)
theorem rep_all : ∀ n : Fin 17, n.val ≠ 0 → bytes_Repeat.f 1000 [(n.val : Int)] (n.val : Int) = some (fillN n.val) := by decide +kernel
theorem rep {n : Nat} (h0 : 1 ≤ n) (h1 : n ≤ 16) : bytes_Repeat.f 1000 [(n : Int)] (n : Int) = some (fillN n) := rep_all ⟨n, by omega⟩ (by show n ≠ 0; omega)
theorem rPad (K : Nat) {n : Nat} (hn : n ≤ 16) : ∀ (m i k : Nat) (l : List Int), i + m = n → m < k → l.length + m < 100000 → ref10_Chain.l0 K k (n : Int) (i : Int) l = some (l ++ List.replicate m (n : Int)) := by
  intro m
  induction m with
  | zero =>
    intro i k l hi hk hl
    obtain ⟨k, rfl⟩ : ∃ q, k = q + 1 := ⟨k - 1, by omega⟩
    have c : ¬ (i : Int) < (n : Int) := by omega
    simp only [ref10_Chain.l0, c, if_false, List.replicate_zero, List.append_nil]
  | succ m ih =>
    intro i k l hi hk hl
    obtain ⟨k, rfl⟩ : ∃ q, k = q + 1 := ⟨k - 1, by omega⟩
    have c0 : (i : Int) < (n : Int) := by omega
    have c1 : l.length + ([(n : Int)] : List Int).length ≤ 140737488355328 := by show l.length + 1 ≤ _; omega
    have e := ih (i + 1) k (l ++ [(n : Int)]) (by omega) (by omega) (by rw [List.length_append]; show l.length + 1 + m < _; omega)
    simp only [ref10_Chain.l0, c0, conv8 (show n < 256 by omega), c1, if_true, Option.bind_some, inc (i := i) (by omega)]
    rw [e, List.append_assoc, List.replicate_succ]
    rfl
theorem padI {l : List Int} (h : l.length < 100000) : isub .i64 16 (irem .i64 ((l.length : Nat) : Int) 16) = ((padN l : Nat) : Int) := by
  have h1 : irem .i64 ((l.length : Nat) : Int) 16 = ((l.length % 16 : Nat) : Int) := irem_nat (b := 16) (by omega)
  rw [h1, sub64 (by omega) (by omega)]
  unfold padN
  omega
/-! ### texts behind one another -/
theorem rdLL_at {W : List (List Int)} {i : Nat} (h : i < W.length) : rdLL W (i : Int) = W[i] := by
  unfold rdLL
  rw [Int.toNat_natCast, List.getD_eq_getElem?_getD, List.getElem?_eq_getElem h]
  rfl
theorem flt_take {W : List (List Int)} {i : Nat} (h : i < W.length) : (W.take (i + 1)).flatten = (W.take i).flatten ++ W[i] := by
  rw [List.take_succ_eq_append_getElem h, List.flatten_append]
  simp
theorem flt_le (W : List (List Int)) (i : Nat) : (W.take i).flatten.length ≤ W.flatten.length := by
  have h : W.flatten = (W.take i).flatten ++ (W.drop i).flatten := by rw [← List.flatten_append, List.take_append_drop]
  rw [h, List.length_append]
  omega
theorem ct_l0 (K : Nat) {W : List (List Int)} (hl : W.length < 100000) (hf : W.flatten.length < 100000) : ∀ (m i k : Nat), i + m = W.length → m < k → slices_Concat_byte_byte.l0 K k W (((W.take i).flatten.length : Nat) : Int) (i : Int) = some ((W.flatten.length : Nat) : Int) := by
  intro m
  induction m with
  | zero =>
    intro i k hi hk
    obtain ⟨k, rfl⟩ : ∃ q, k = q + 1 := ⟨k - 1, by omega⟩
    have c : ¬ (i : Int) < ((W.length : Nat) : Int) := by omega
    simp only [slices_Concat_byte_byte.l0, c, if_false, List.take_of_length_le (Nat.le_of_eq (show W.length = i by omega))]
  | succ m ih =>
    intro i k hi hk
    obtain ⟨k, rfl⟩ : ∃ q, k = q + 1 := ⟨k - 1, by omega⟩
    have hil : i < W.length := by omega
    have c0 : (i : Int) < ((W.length : Nat) : Int) := by omega
    have c1 : (0 : Int) ≤ (i : Int) := by omega
    have h2 := flt_le W (i + 1)
    rw [flt_take hil, List.length_append] at h2
    have p : iadd .i64 (((W.take i).flatten.length : Nat) : Int) ((W[i].length : Nat) : Int) = (((W.take (i + 1)).flatten.length : Nat) : Int) := by
      rw [add64 (by omega) (by omega), flt_take hil, List.length_append]
      omega
    have c2 : ¬ (((W.take (i + 1)).flatten.length : Nat) : Int) < 0 := by omega
    simp only [slices_Concat_byte_byte.l0, c0, c1, hil, rdLL_at hil, p, c2, if_true, if_false, Option.bind_some, inc (i := i) (by omega)]
    exact ih (i + 1) k (by omega) (by omega)
theorem ct_l1 (K : Nat) {W : List (List Int)} (hl : W.length < 100000) (hf : W.flatten.length < 100000) : ∀ (m i k : Nat), i + m = W.length → m < k → slices_Concat_byte_byte.l1 K k W (i : Int) (W.take i).flatten = some W.flatten := by
  intro m
  induction m with
  | zero =>
    intro i k hi hk
    obtain ⟨k, rfl⟩ : ∃ q, k = q + 1 := ⟨k - 1, by omega⟩
    have c : ¬ (i : Int) < ((W.length : Nat) : Int) := by omega
    simp only [slices_Concat_byte_byte.l1, c, if_false, List.take_of_length_le (Nat.le_of_eq (show W.length = i by omega))]
  | succ m ih =>
    intro i k hi hk
    obtain ⟨k, rfl⟩ : ∃ q, k = q + 1 := ⟨k - 1, by omega⟩
    have hil : i < W.length := by omega
    have c0 : (i : Int) < ((W.length : Nat) : Int) := by omega
    have c1 : (0 : Int) ≤ (i : Int) := by omega
    have h2 := flt_le W (i + 1)
    rw [flt_take hil, List.length_append] at h2
    have c2 : (W.take i).flatten.length + W[i].length ≤ 140737488355328 := by omega
    simp only [slices_Concat_byte_byte.l1, c0, c1, hil, rdLL_at hil, c2, if_true, Option.bind_some, inc (i := i) (by omega), ← flt_take hil]
    exact ih (i + 1) k (by omega) (by omega)
theorem joinW (K : Nat) {W : List (List Int)} (hK : W.length < K) (hl : W.length < 100000) (hf : W.flatten.length < 100000) : bits_Join.f K W = some W.flatten := by
  have h0 : slices_Concat_byte_byte.l0 K K W 0 0 = some ((W.flatten.length : Nat) : Int) := ct_l0 K hl hf W.length 0 K (by omega) hK
  have h1 := ct_l1 K hl hf W.length 0 K (by omega) hK
  have h1' : slices_Concat_byte_byte.l1 K K W 0 [] = some W.flatten := h1
  unfold bits_Join.f slices_Concat_byte_byte.f
  have c0 : ¬ ((W.flatten.length : Nat) : Int) < 0 := by omega
  have p : isub .i64 ((W.flatten.length : Nat) : Int) 0 = ((W.flatten.length : Nat) : Int) := by rw [sub64 (by omega) (by omega)]; omega
  rw [h0]
  simp only [Option.bind_some, c0, if_false, p]
  by_cases hz : ((W.flatten.length : Nat) : Int) > 0
  · have c1 : (1 : Int) ≤ ((W.flatten.length : Nat) : Int) := by omega
    have c2 : ((W.flatten.length : Nat) : Int) ≤ 140737488355328 := by omega
    have c3 : (0 : Int) ≤ (((List.replicate (((W.flatten.length : Nat) : Int)).toNat (Cod.zero (CI .u8))).length : Nat) : Int) := by omega
    have c4 : (0 : Int) ≤ 0 := by decide
    simp only [hz, c1, c2, c3, c4, if_true, Option.bind_some, show (0 : Int).toNat = 0 from rfl, List.take_zero, h1']
  · simp only [hz, if_false, Option.bind_some, h1']
theorem joinC {a b : List Int} (hl : a.length + b.length < 100000) : bits_Join.f 1000 [a, b] = some (a ++ b) := by
  have h := joinW 1000 (W := [a, b]) (by show 2 < 1000; decide) (by show 2 < 100000; decide) (by simp; omega)
  simpa using h
/-! ### bytes as strings -/
theorem strL_data : ∀ (l : List Int) (s : ByteArray), (l.foldl (fun r n => r.push (UInt8.ofNat n.toNat)) s).data.toList = s.data.toList ++ l.map fun n => UInt8.ofNat n.toNat
  | [], s => by simp
  | x :: l, s => by
    rw [List.foldl_cons, strL_data l]
    simp [ByteArray.push]
theorem u8_inj {a b : Nat} (ha : a < 256) (hb : b < 256) (h : UInt8.ofNat a = UInt8.ofNat b) : a = b := by
  have h1 := congrArg UInt8.toNat h
  simp only [UInt8.toNat_ofNat'] at h1
  omega
theorem str_eq {a b : List Int} (ha : InL .u8 a) (hb : InL .u8 b) : ((strL a).toList == (strL b).toList) = decide (a = b) := by
  rw [ByteArray.toList_eq, ByteArray.toList_eq]
  have e : ∀ l : List Int, (strL l).data.toList = l.map fun n => UInt8.ofNat n.toNat := fun l => by
    have := strL_data l ByteArray.empty
    simpa [strL] using this
  rw [e, e]
  by_cases h : a = b
  · subst h; simp
  · have hne : ¬ (a.map fun n => UInt8.ofNat n.toNat) = b.map fun n => UInt8.ofNat n.toNat := fun hm => h (by
      refine List.ext_getElem (by have := congrArg List.length hm; simpa using this) fun i h1 h2 => ?_
      have h3 : (a.map fun n => UInt8.ofNat n.toNat)[i]'(by simpa using h1) = (b.map fun n => UInt8.ofNat n.toNat)[i]'(by simpa using h2) := by simp only [hm]
      rw [List.getElem_map, List.getElem_map] at h3
      obtain ⟨x, ex, lx⟩ := byt_nat ha (List.getElem_mem h1)
      obtain ⟨y, ey, ly⟩ := byt_nat hb (List.getElem_mem h2)
      rw [ex, ey, Int.toNat_natCast, Int.toNat_natCast] at h3
      rw [ex, ey, u8_inj lx ly h3])
    simp [h, hne]
/-! ### what is told at the end -/
def unfin (y : List Int) : List Int × Int :=
  if (y.getD (y.length - 1) 0).toNat < 1 then ([], 15) else if (y.getD (y.length - 1) 0).toNat > 16 then ([], 15)
  else if y.drop (y.length - (y.getD (y.length - 1) 0).toNat) = fillN (y.getD (y.length - 1) 0).toNat then (y.take (y.length - (y.getD (y.length - 1) 0).toNat), 0) else ([], 15)
theorem rTail (K : Nat) {y : List Int} (hy : InL .u8 y) (hl : y.length < 100000) {n : Nat} : ∀ (m i k : Nat), i + m = y.length → m < k →
    ref10_Unchain.l1 K k y (n : Int) (i : Int) = some (if y.drop i = List.replicate m (n : Int) then .inl () else .inr ([], 15)) := by
  intro m
  induction m with
  | zero =>
    intro i k hi hk
    obtain ⟨k, rfl⟩ : ∃ q, k = q + 1 := ⟨k - 1, by omega⟩
    have c : ¬ (i : Int) < ((y.length : Nat) : Int) := by omega
    simp only [ref10_Unchain.l1, c, if_false, List.drop_of_length_le (Nat.le_of_eq (show y.length = i by omega)), List.replicate_zero, if_true]
  | succ m ih =>
    intro i k hi hk
    obtain ⟨k, rfl⟩ : ∃ q, k = q + 1 := ⟨k - 1, by omega⟩
    have hil : i < y.length := by omega
    have c0 : (i : Int) < ((y.length : Nat) : Int) := by omega
    have c1 : (0 : Int) ≤ (i : Int) := by omega
    obtain ⟨x, hx, lx⟩ := byt_nat hy (List.getElem_mem hil)
    have e : iconv .i64 (x : Int) = (x : Int) := conv64 (by omega) (by omega)
    have hd : y.drop i = y[i] :: y.drop (i + 1) := List.drop_eq_getElem_cons hil
    rw [hd, List.replicate_succ, hx]
    simp only [ref10_Unchain.l1, c0, c1, hil, rdL_at hil, hx, e, if_true, Option.bind_some, inc (i := i) (by omega)]
    by_cases h : (x : Int) = (n : Int)
    · rw [if_pos h, ih (i + 1) k (by omega) (by omega), h]
      simp
    · rw [if_neg h, if_neg (by intro h2; exact h (List.cons.inj h2).1)]
section
variable {kek : List Int} {rk : List (Arr 16)} {z : List Int} {E D : List Int → List Int}
def Szk (a : List Int) : Prop := a.length = 16 ∨ a.length = 24 ∨ a.length = 32
theorem szk_T {a : List Int} (h : Szk a) (K : Nat) : aes_sized.f K a = some true ∧ ref10_Sized.f K a = some true := by
  unfold aes_sized.f ref10_Sized.f
  rcases h with h | h | h <;> rw [h] <;> exact ⟨rfl, rfl⟩
theorem szk_F {a : List Int} (h : ¬ Szk a) (K : Nat) : aes_sized.f K a = some false ∧ ref10_Sized.f K a = some false := by
  have h1 : ¬ ((a.length : Nat) : Int) = 16 := fun e => h (.inl (by omega))
  have h2 : ¬ ((a.length : Nat) : Int) = 24 := fun e => h (.inr (.inl (by omega)))
  have h3 : ¬ ((a.length : Nat) : Int) = 32 := fun e => h (.inr (.inr (by omega)))
  unfold aes_sized.f ref10_Sized.f
  rw [if_neg h1, if_neg h2]
  simp only [Option.some.injEq, beq_eq_false_iff_ne, ne_eq, and_self]
  exact h3
def chainT (E : List Int → List Int) (first l : List Int) : List Int := chain E (l.length / 16 + 1) first (pad l)
def unchT (D : List Int → List Int) (first l : List Int) : List Int := unch D (l.length / 16) first l
theorem bothChain (hc : Cy kek rk z E D) (hs : Szk kek) {first l : List Int} (hf : Blk first) (h : InL .u8 l) (hl : l.length ≤ 1000) :
    aes_Chain.f 1000 kek first l = some (chainT E first l, 0) ∧ ref10_Chain.f 1000 kek first l = some (chainT E first l, 0) := by
  obtain ⟨n1, n2⟩ := padN_bd l
  obtain ⟨s1, s2⟩ := szk_T hs 1000
  have c1 : ((first.length : Nat) : Int) = 16 := by have := hf.2; omega
  have c2 : ¬ ((l.length : Nat) : Int) > 1048576 := by omega
  have pl := pad_len l
  constructor
  · have w : aes_wrong.f 1000 kek first = some 0 := by
      unfold aes_wrong.f
      simp only [s1, c1, if_true, Option.bind_some]
    have j := joinC (a := l) (b := fillN (padN l)) (by rw [fillN_len]; omega)
    obtain ⟨l', e⟩ := aChain_l0 hc (pad_in h) pl (by omega) (l.length / 16 + 1) 0 1000 [] first (by omega) (by omega) rfl hf
    have e' : aes_Chain.l0 1000 1000 tabs.1 tabs.2 rk (l ++ fillN (padN l)) 0 [] first = some (chainT E first l, l') := e
    unfold aes_Chain.f
    simp only [w, c2, padI (show l.length < 100000 by omega), hc.began, conv8 (show padN l < 256 by omega), rep n1 n2, j, e', if_true, if_false, Option.bind_some]
  · have c3 : ([] : List Int).length + l.length ≤ 140737488355328 := by rw [List.length_nil]; omega
    have p := rPad 1000 n2 (padN l) 0 1000 l (by omega) (by omega) (by omega)
    have p' : ref10_Chain.l0 1000 1000 ((padN l : Nat) : Int) 0 l = some (pad l) := p
    have e := rChain_l1 hc (pad_in h) pl (by omega) (l.length / 16 + 1) 0 1000 [] first (by omega) (by omega) rfl hf
    have e' : ref10_Chain.l1 1000 1000 (pad l) tabs.1 z 0 [] first = some (chainT E first l) := e
    unfold ref10_Chain.f
    simp only [s2, c1, c2, padI (show l.length < 100000 by omega), c3, List.nil_append, p', rBoxes 1000 (by decide), hc.keys, e', if_true, if_false, Option.bind_some]
theorem lastB {y : List Int} (hy : InL .u8 y) (h0 : 0 < y.length) : ∃ n : Nat, n < 256 ∧ (y.getD (y.length - 1) 0).toNat = n ∧ rdL (CI .u8) y ((y.length - 1 : Nat) : Int) = (n : Int) := by
  have hi : y.length - 1 < y.length := by omega
  obtain ⟨n, hn, ln⟩ := byt_nat hy (List.getElem_mem hi)
  refine ⟨n, ln, ?_, by rw [rdL_at hi, hn]⟩
  rw [List.getD_eq_getElem?_getD, List.getElem?_eq_getElem hi]
  show (y[y.length - 1]).toNat = n
  rw [hn, Int.toNat_natCast]
theorem bothUn (hc : Cy kek rk z E D) (hs : Szk kek) {first l : List Int} (hf : Blk first) (h : InL .u8 l) {m : Nat} (hm : 0 < m) (hl : l.length = 16 * m) (hl2 : l.length ≤ 1600) :
    aes_Unchain.f 1000 kek first l = some (unfin (unchT D first l)) ∧ ref10_Unchain.f 1000 kek first l = some (unfin (unchT D first l)) := by
  obtain ⟨s1, s2⟩ := szk_T hs 1000
  have c1 : ((first.length : Nat) : Int) = 16 := by have := hf.2; omega
  have c2 : ¬ ((l.length : Nat) : Int) = 0 := by omega
  have c3 : irem .i64 ((l.length : Nat) : Int) 16 = 0 := by
    have h1 : irem .i64 ((l.length : Nat) : Int) 16 = ((l.length % 16 : Nat) : Int) := irem_nat (b := 16) (by omega)
    rw [h1]
    omega
  have c4 : ¬ ((l.length : Nat) : Int) > 1048592 := by omega
  have hm2 : l.length / 16 = m := by omega
  obtain ⟨yi, yl⟩ := unch_ok hc m first l hf h hl
  have hy : unchT D first l = unch D m first l := by unfold unchT; rw [hm2]
  rw [← hy] at yi yl
  obtain ⟨n, ln, en, rn⟩ := lastB yi (by omega)
  obtain ⟨l', e⟩ := aUn_l0 hc h hl (by omega) m 0 1000 [] first (by omega) (by omega) rfl hf
  have e' : aes_Unchain.l0 1000 1000 l tabs.1 tabs.2 rk 0 [] first = some (unchT D first l, l') := by rw [hy]; exact e
  have f := rUn_l0 hc h hl (by omega) m 0 1000 [] first (by omega) (by omega) rfl hf
  have f' : ref10_Unchain.l0 1000 1000 l tabs.2 z 0 [] first = some (unchT D first l) := by rw [hy]; exact f
  have p1 : isub .i64 (((unchT D first l).length : Nat) : Int) 1 = (((unchT D first l).length - 1 : Nat) : Int) := sub_nat (b := 1) (by omega) (by omega)
  have c5 : (0 : Int) ≤ (((unchT D first l).length - 1 : Nat) : Int) := by omega
  have c6 : (((unchT D first l).length - 1 : Nat) : Int) < (((unchT D first l).length : Nat) : Int) := by omega
  have cn : iconv .i64 (n : Int) = (n : Int) := conv64 (by omega) (by omega)
  have w : aes_wrong.f 1000 kek first = some 0 := by
    unfold aes_wrong.f
    simp only [s1, c1, if_true, Option.bind_some]
  unfold aes_Unchain.f ref10_Unchain.f unfin
  simp only [w, s2, c1, c2, c3, c4, hc.began, hc.keys, rBoxes 1000 (by decide), e', f', p1, c5, c6, rn, cn, en, if_true, if_false, Option.bind_some]
  by_cases h1 : n < 1
  · have g1 : (n : Int) < 1 := by omega
    simp only [h1, g1, if_true, and_self]
  · have g1 : ¬ (n : Int) < 1 := by omega
    by_cases h2 : n > 16
    · have g2 : (n : Int) > 16 := by omega
      simp only [h1, g1, h2, g2, if_true, if_false, and_self]
    · have g2 : ¬ (n : Int) > 16 := by omega
      have p2 : isub .i64 (((unchT D first l).length : Nat) : Int) (n : Int) = (((unchT D first l).length - n : Nat) : Int) := sub_nat (by omega) (by omega)
      have c7 : (0 : Int) ≤ (((unchT D first l).length - n : Nat) : Int) := by omega
      have c8 : (((unchT D first l).length - n : Nat) : Int) ≤ (((unchT D first l).length : Nat) : Int) := by omega
      have c9 : (((unchT D first l).length : Nat) : Int) ≤ (((unchT D first l).length : Nat) : Int) := Int.le_refl _
      have c0 : (0 : Int) ≤ 0 := by decide
      have sd : subL (unchT D first l) (((unchT D first l).length - n : Nat) : Int) (((unchT D first l).length : Nat) : Int) = (unchT D first l).drop ((unchT D first l).length - n) := by
        unfold subL
        rw [Int.toNat_natCast, Int.toNat_natCast, List.take_length]
      have st : subL (unchT D first l) 0 (((unchT D first l).length - n : Nat) : Int) = (unchT D first l).take ((unchT D first l).length - n) := by
        unfold subL
        rw [Int.toNat_natCast]
        rfl
      have eq : bytes_Equal.f 1000 ((unchT D first l).drop ((unchT D first l).length - n)) (fillN n) = some (decide ((unchT D first l).drop ((unchT D first l).length - n) = fillN n)) := by
        unfold bytes_Equal.f
        rw [str_eq (dp_in yi _) (fillN_in (by omega))]
      have tl := rTail 1000 yi (by omega) (n := n) n ((unchT D first l).length - n) 1000 (by omega) (by omega)
      have tl' : ref10_Unchain.l1 1000 1000 (unchT D first l) (n : Int) (((unchT D first l).length - n : Nat) : Int) = some (if (unchT D first l).drop ((unchT D first l).length - n) = fillN n then .inl () else .inr ([], 15)) := tl
      simp only [h1, g1, h2, g2, p2, c7, c8, c9, c0, conv8 (show n < 256 by omega), rep (show 1 ≤ n by omega) (show n ≤ 16 by omega), sd, st, eq, tl', Int.toNat_natCast, if_true, if_false, Option.bind_some]
      by_cases h3 : (unchT D first l).drop ((unchT D first l).length - n) = fillN n
      · simp only [h3, decide_true, if_true, and_self]
      · simp only [h3, decide_false, if_false, Bool.false_eq_true, and_self]
end
/-- what is refused, and what is done -/
theorem chain_no {kek first l : List Int} (h : ¬ (Szk kek ∧ first.length = 16)) : ∃ e, aes_Chain.f 1000 kek first l = some ([], e) ∧ ref10_Chain.f 1000 kek first l = some ([], e) ∧ ¬ e = 0 := by
  by_cases hs : Szk kek
  · obtain ⟨s1, s2⟩ := szk_T hs 1000
    have c1 : ¬ ((first.length : Nat) : Int) = 16 := fun e => h ⟨hs, by omega⟩
    have c : ¬ (14 : Int) = 0 := by decide
    refine ⟨14, ?_, ?_, c⟩
    · unfold aes_Chain.f aes_wrong.f
      simp only [s1, c1, c, if_true, if_false, Option.bind_some]
    · unfold ref10_Chain.f
      simp only [s2, c1, if_true, if_false, Option.bind_some]
  · obtain ⟨s1, s2⟩ := szk_F hs 1000
    have c : ¬ (10 : Int) = 0 := by decide
    refine ⟨10, ?_, ?_, c⟩
    · unfold aes_Chain.f aes_wrong.f
      simp only [s1, c, if_true, if_false, Bool.false_eq_true, Option.bind_some]
    · unfold ref10_Chain.f
      simp only [s2, if_false, Bool.false_eq_true, Option.bind_some]
theorem un_no {kek first l : List Int} (hl : l.length ≤ 10000) (h : ¬ (Szk kek ∧ first.length = 16 ∧ 0 < l.length ∧ l.length % 16 = 0)) : ∃ e, aes_Unchain.f 1000 kek first l = some ([], e) ∧ ref10_Unchain.f 1000 kek first l = some ([], e) ∧ ¬ e = 0 := by
  by_cases hs : Szk kek
  · obtain ⟨s1, s2⟩ := szk_T hs 1000
    have c : ¬ (14 : Int) = 0 := by decide
    refine ⟨14, ?_, ?_, c⟩
    · unfold aes_Unchain.f aes_wrong.f
      by_cases h1 : first.length = 16
      · have c1 : ((first.length : Nat) : Int) = 16 := by omega
        by_cases h2 : l.length = 0
        · have c2 : ((l.length : Nat) : Int) = 0 := by omega
          simp only [s1, c1, c2, if_true, Option.bind_some]
        · have c2 : ¬ ((l.length : Nat) : Int) = 0 := by omega
          have c3 : ¬ irem .i64 ((l.length : Nat) : Int) 16 = 0 := by
            have h3 : irem .i64 ((l.length : Nat) : Int) 16 = ((l.length % 16 : Nat) : Int) := irem_nat (b := 16) (by omega)
            rw [h3]
            intro h4
            exact h ⟨hs, h1, by omega, by omega⟩
          simp only [s1, c1, c2, c3, if_true, if_false, Option.bind_some]
      · have c1 : ¬ ((first.length : Nat) : Int) = 16 := fun e => h1 (by omega)
        simp only [s1, c1, c, if_true, if_false, Option.bind_some]
    · unfold ref10_Unchain.f
      by_cases h1 : first.length = 16
      · have c1 : ((first.length : Nat) : Int) = 16 := by omega
        by_cases h2 : l.length = 0
        · have c2 : ((l.length : Nat) : Int) = 0 := by omega
          simp only [s2, c1, c2, if_true, Option.bind_some]
        · have c2 : ¬ ((l.length : Nat) : Int) = 0 := by omega
          have c3 : ¬ irem .i64 ((l.length : Nat) : Int) 16 = 0 := by
            have h3 : irem .i64 ((l.length : Nat) : Int) 16 = ((l.length % 16 : Nat) : Int) := irem_nat (b := 16) (by omega)
            rw [h3]
            intro h4
            exact h ⟨hs, h1, by omega, by omega⟩
          simp only [s2, c1, c2, c3, if_true, if_false, Option.bind_some]
      · have c1 : ¬ ((first.length : Nat) : Int) = 16 := fun e => h1 (by omega)
        simp only [s2, c1, if_true, if_false, Option.bind_some]
  · obtain ⟨s1, s2⟩ := szk_F hs 1000
    have c : ¬ (10 : Int) = 0 := by decide
    refine ⟨10, ?_, ?_, c⟩
    · unfold aes_Unchain.f aes_wrong.f
      simp only [s1, c, if_true, if_false, Bool.false_eq_true, Option.bind_some]
    · unfold ref10_Unchain.f
      simp only [s2, if_false, Bool.false_eq_true, Option.bind_some]
end Go.Proofs.Ytmpagpbnpgcecaa
