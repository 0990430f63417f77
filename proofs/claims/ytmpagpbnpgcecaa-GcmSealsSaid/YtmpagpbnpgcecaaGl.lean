/- Layer 12 (gcm), plain laws: the document's stream and tag, what it seals and opens. -/
import Derived.Test.YtmpagpbnpgcecaaGFAesBlocks
import Derived.Test.YtmpagpbnpgcecaaGFGcmSeals
import Derived.Test.YtmpagpbnpgcecaaGk
import Derived.Test.YtmpagpbnpgcecaaGe
set_option linter.unusedSimpArgs false
set_option linter.unusedVariables false
set_option maxRecDepth 100000
namespace Go.Proofs.Ytmpagpbnpgcecaa
open Go Go.Mx
/-! ### numbers as bytes -/
theorem sh8 (n : Nat) : ishr .u64 (n : Int) 8 = ((n / 256 : Nat) : Int) := ishr_nat (k := .u64) (n := 8) (by decide)
theorem lo8 {n : Nat} (h : n < 2 ^ 64) : iconv .u8 (iand .u64 (n : Int) 255) = ((n % 256 : Nat) : Int) := by
  have h1 := iand_nat (k := .u64) (x := n) (y := 255) h (by decide)
  have h2 : iand .u64 (n : Int) 255 = ((n &&& 255 : Nat) : Int) := h1
  rw [h2, cv8, show (255 : Nat) = 2 ^ 8 - 1 from rfl, Nat.and_two_pow_sub_one_eq_mod]
  congr 1
  omega
theorem rBe8 {n : Nat} (h : n < 2 ^ 64) : ref01_Be.f 1000 (n : Int) 8 = some (be8 n) := by
  let s : Int → Int := fun x => ishr .u64 x 8
  let c : Int → Int := fun x => iconv .u8 (iand .u64 x 255)
  have h1 : ref01_Be.f 1000 (n : Int) 8 = some [c (s (s (s (s (s (s (s (n : Int)))))))), c (s (s (s (s (s (s (n : Int))))))), c (s (s (s (s (s (n : Int)))))), c (s (s (s (s (n : Int))))), c (s (s (s (n : Int)))), c (s (s (n : Int))), c (s (n : Int)), c (n : Int)] := by kernel_rfl
  have hs : ∀ m : Nat, s (m : Int) = ((m / 256 : Nat) : Int) := sh8
  have hc : ∀ m : Nat, m < 2 ^ 64 → c (m : Int) = ((m % 256 : Nat) : Int) := fun m hm => lo8 hm
  rw [h1]
  simp only [hs]
  rw [hc _ (by omega), hc _ (by omega), hc _ (by omega), hc _ (by omega), hc _ (by omega), hc _ (by omega), hc _ (by omega), hc _ (by omega)]
  simp only [Nat.div_div_eq_div_mul]
  unfold be8 by8
  simp
theorem rBe4 {n : Nat} (h : n < 2 ^ 64) : ref01_Be.f 1000 (n : Int) 4 = some (be4 n) := by
  let s : Int → Int := fun x => ishr .u64 x 8
  let c : Int → Int := fun x => iconv .u8 (iand .u64 x 255)
  have h1 : ref01_Be.f 1000 (n : Int) 4 = some [c (s (s (s (n : Int)))), c (s (s (n : Int))), c (s (n : Int)), c (n : Int)] := by kernel_rfl
  have hs : ∀ m : Nat, s (m : Int) = ((m / 256 : Nat) : Int) := sh8
  have hc : ∀ m : Nat, m < 2 ^ 64 → c (m : Int) = ((m % 256 : Nat) : Int) := fun m hm => lo8 hm
  rw [h1]
  simp only [hs]
  rw [hc _ (by omega), hc _ (by omega), hc _ (by omega), hc _ (by omega)]
  simp only [Nat.div_div_eq_div_mul]
  unfold be4 by8
  simp
/-! ### what a key makes of a block, by the document -/
def CaR (key : List Int) (E : List Int → List Int) : Prop := ∃ w, ref10_keys.f 1000 key tabs.1 = some w ∧ ∀ b, InL .u8 b → b.length = 16 → ref10_there.f 1000 w b tabs.1 = some (E b)
theorem there_core {A : Option Bool} (hA : A = some true) {B : Option (Arr 256 × Arr 256)} {t u : Arr 256} (hB : B = some (t, u)) {K : Arr 256 → Option (List Int)} {T : List Int → List Int → Arr 256 → Option (List Int)} {b y : List Int} (lb : ((b.length : Nat) : Int) = 16)
    (h : (A.bind fun r1 => if r1 = true then (if (b.length : Int) = 16 then (B.bind fun (r2, r3) => (K r2).bind fun r6 => (T r6 b r2).bind fun r7 => some (r7, (0 : Int))) else (some (([] : List Int), 14))) else (some (([] : List Int), 10))) = some (y, 0)) : ∃ w, K t = some w ∧ T w b t = some y := by
  subst hA hB
  simp only [Option.bind_some, if_true, lb] at h
  cases hk : K t with
  | none => rw [hk] at h; cases h
  | some w =>
    rw [hk, Option.bind_some] at h
    refine ⟨w, rfl, ?_⟩
    cases ht : T w b t with
    | none => rw [ht] at h; cases h
    | some z =>
      rw [ht, Option.bind_some] at h
      have := Option.some.inj h
      rw [(Prod.mk.inj this).1]
theorem cak_both {kek : List Int} (hb : InL .u8 kek) (hl : Szk kek) : ∃ E, CaK kek E ∧ CaR kek E := by
  obtain ⟨nk, hn, hl⟩ : ∃ nk, (nk = 4 ∨ nk = 6 ∨ nk = 8) ∧ kek.length = 4 * nk := by
    rcases hl with h | h | h
    · exact ⟨4, by simp, h⟩
    · exact ⟨6, by simp, h⟩
    · exact ⟨8, by simp, h⟩
  have h1 : ∀ b : List Int, ∃ y, InL .u8 b → b.length = 16 → aes_Block.f 1000 kek b = some (y, 0) ∧ ref10_Block.f 1000 kek b = some (y, 0) ∧ y.length = 16 ∧ InL .u8 y := fun b => by
    by_cases h : InL .u8 b ∧ b.length = 16
    · obtain ⟨y, e1, e2, e3⟩ := blockThere' 1000 (by decide) aMade hb h.1 hn hl h.2
      exact ⟨y, fun _ _ => ⟨e1, e2, e3⟩⟩
    · exact ⟨[], fun a c => absurd ⟨a, c⟩ h⟩
  have h2 : ∀ b : List Int, InL .u8 b → b.length = 16 → ∃ w, ref10_keys.f 1000 kek tabs.1 = some w ∧ ref10_there.f 1000 w b tabs.1 = some (Classical.choose (h1 b)) := fun b hi h16 => by
    obtain ⟨_, e2, _⟩ := Classical.choose_spec (h1 b) hi h16
    exact there_core (sizedN hn hl 1000).2 (rBoxes 1000 (by decide)) (K := ref10_keys.f 1000 kek) (T := ref10_there.f 1000) (by omega) e2
  have hz : InL .u8 (List.replicate 16 (0 : Int)) := fun x hx => by
    rw [List.eq_of_mem_replicate hx]
    exact (⟨by decide, by decide⟩ : (0 : Int) ≤ 0 ∧ (0 : Int) ≤ 255)
  obtain ⟨w, hw, _⟩ := h2 _ hz (by decide)
  refine ⟨fun b => Classical.choose (h1 b), fun b hi h16 => ?_, w, hw, fun b hi h16 => ?_⟩
  · obtain ⟨e1, _, e3⟩ := Classical.choose_spec (h1 b) hi h16
    exact ⟨e1, e3⟩
  · obtain ⟨w', hw', ht⟩ := h2 b hi h16
    rw [hw] at hw'
    rw [Option.some.inj hw']
    exact ht
/-! ### texts behind one another, texts xored with longer ones -/
theorem gJoinRW {W : List (List Int)} (hl : W.length < 900) (hf : W.flatten.length < 100000) : ref01_Join.f 1000 W = some W.flatten := by
  have h0 : ref01_Join.l0 1000 1000 W 0 [] = some W.flatten := gJoinR_l0 (W := W) (by omega) hf W.length 0 1000 (by omega) (by omega)
  unfold ref01_Join.f
  rw [h0]
  rfl
theorem gXorL_l0 {a b : List Int} (h : a.length ≤ b.length) (hs : a.length < 100000) : ∀ (m i k : Nat), i + m = a.length → m < k → ref01_Xor.l0 1000 k a b (i : Int) ((xr a b).take i) = some (xr a b) := by
  have hx := xr_len h
  intro m
  induction m with
  | zero =>
    intro i k hi hk
    obtain ⟨k, rfl⟩ : ∃ q, k = q + 1 := ⟨k - 1, by omega⟩
    have c : ¬ (i : Int) < ((a.length : Nat) : Int) := by omega
    simp only [ref01_Xor.l0, c, if_false, List.take_of_length_le (Nat.le_of_eq (show (xr a b).length = i by omega))]
  | succ m ih =>
    intro i k hi hk
    obtain ⟨k, rfl⟩ : ∃ q, k = q + 1 := ⟨k - 1, by omega⟩
    have hil : i < a.length := by omega
    have hib : i < b.length := by omega
    have hix : i < (xr a b).length := by omega
    have c0 : (i : Int) < ((a.length : Nat) : Int) := by omega
    have c1 : (0 : Int) ≤ (i : Int) := by omega
    have c3 : (i : Int) < ((b.length : Nat) : Int) := by omega
    have ht : ((xr a b).take i).length = i := by rw [List.length_take]; omega
    have e3 : ixor .u8 a[i] b[i] = (xr a b)[i] := (xr_get hix hil hib).symm
    have c4 : ((xr a b).take i).length + ([(xr a b)[i]] : List Int).length ≤ 140737488355328 := by rw [ht]; show i + 1 ≤ _; omega
    have e4 : (xr a b).take i ++ [(xr a b)[i]] = (xr a b).take (i + 1) := (List.take_succ_eq_append_getElem hix).symm
    simp only [ref01_Xor.l0, c0, c1, c3, rdL_get hil, rdL_get hib, e3, c4, e4, if_true, Option.bind_some, ginc (i := i) (by omega)]
    exact ih (i + 1) k (by omega) (by omega)
theorem gXorL {a b : List Int} (h : a.length ≤ b.length) (hs : a.length < 900) : ref01_Xor.f 1000 a b = some (xr a b) := by
  have h0 : ref01_Xor.l0 1000 1000 a b 0 [] = some (xr a b) := gXorL_l0 h (by omega) a.length 0 1000 (by omega) (by omega)
  unfold ref01_Xor.f
  rw [h0]
  rfl
theorem xr_app {t a r : List Int} (h : a.length = 16) : xr t (a ++ r) = xr (t.take 16) a ++ xr (t.drop 16) r := by
  by_cases ht : 16 ≤ t.length
  · have e : xr (t.take 16 ++ t.drop 16) (a ++ r) = _ := List.zipWith_append (by rw [List.length_take, h]; omega)
    rw [List.take_append_drop] at e
    exact e
  · rw [List.drop_of_length_le (by omega), List.take_of_length_le (by omega)]
    have e : xr t (a ++ r) = xr t a := by
      refine List.ext_getElem (by unfold xr; rw [List.length_zipWith, List.length_zipWith, List.length_append]; omega) fun i h1 h2 => ?_
      have l1 : i < t.length := by unfold xr at h2; rw [List.length_zipWith] at h2; omega
      have l2 : i < a.length := by omega
      rw [xr_get h1 l1 (by rw [List.length_append]; omega), xr_get h2 l1 l2, List.getElem_append_left l2]
    rw [e]
    show _ = _ ++ xr [] r
    simp [xr]
/-! ### the stream -/
section
variable {E : List Int → List Int} {key nonce : List Int}
/-- the blocks of m numbers, from i on -/
def blks (E : List Int → List Int) (nonce : List Int) : Nat → Nat → List (List Int)
  | 0, _ => []
  | m + 1, i => E (nonce ++ be4 i) :: blks E nonce m (i + 1)
theorem blks_len : ∀ m i, (blks E nonce m i).length = m
  | 0, _ => rfl
  | m + 1, i => by simp [blks, blks_len m (i + 1)]
theorem blks_flat (hE : CaK key E) (hn : InL .u8 nonce) (ln : nonce.length = 12) : ∀ m i, (blks E nonce m i).flatten.length = 16 * m
  | 0, _ => rfl
  | m + 1, i => by
    obtain ⟨_, _, _, b4, _⟩ := gBlk hE hn ln i
    show (E (nonce ++ be4 i) ++ (blks E nonce m (i + 1)).flatten).length = _
    rw [List.length_append, b4, blks_flat hE hn ln m (i + 1)]
    omega
theorem blks_str (hE : CaK key E) (hn : InL .u8 nonce) (ln : nonce.length = 12) : ∀ (m i : Nat) (t : List Int), t.length ≤ 16 * m → xr t (blks E nonce m i).flatten = str E nonce m i t
  | 0, _, t, h => by
    rw [List.eq_nil_of_length_eq_zero (show t.length = 0 by omega)]
    rfl
  | m + 1, i, t, h => by
    obtain ⟨_, _, _, b4, _⟩ := gBlk hE hn ln i
    show xr t (E (nonce ++ be4 i) ++ (blks E nonce m (i + 1)).flatten) = if t = [] then [] else _
    by_cases ht : t = []
    · rw [if_pos ht, ht]
      rfl
    · rw [if_neg ht, xr_app b4, blks_str hE hn ln m (i + 1) (t.drop 16) (by rw [List.length_drop]; omega)]
theorem str_fuel : ∀ (m m' i : Nat) (t : List Int), t.length ≤ 16 * m → t.length ≤ 16 * m' → str E nonce m i t = str E nonce m' i t
  | 0, m', i, t, h, _ => by
    rw [List.eq_nil_of_length_eq_zero (show t.length = 0 by omega), str_nil, str_nil]
  | m + 1, 0, i, t, _, h => by
    rw [List.eq_nil_of_length_eq_zero (show t.length = 0 by omega), str_nil, str_nil]
  | m + 1, m' + 1, i, t, h, h' => by
    show (if t = [] then [] else _) = (if t = [] then [] else _)
    by_cases ht : t = []
    · rw [if_pos ht, if_pos ht]
    · rw [if_neg ht, if_neg ht, str_fuel m m' (i + 1) (t.drop 16) (by rw [List.length_drop]; omega) (by rw [List.length_drop]; omega)]
/-- the numbers' blocks, ahead of the cipher -/
def nums (nonce : List Int) : Nat → Nat → List (List Int)
  | 0, _ => []
  | m + 1, i => (nonce ++ be4 i) :: nums nonce m (i + 1)
theorem nums_len : ∀ m i, (nums nonce m i).length = m
  | 0, _ => rfl
  | m + 1, i => by simp [nums, nums_len m (i + 1)]
theorem nums_map : ∀ m i, (nums nonce m i).map E = blks E nonce m i
  | 0, _ => rfl
  | m + 1, i => by
    show E (nonce ++ be4 i) :: (nums nonce m (i + 1)).map E = _
    rw [nums_map m (i + 1)]
    rfl
theorem nums_in (hn : InL .u8 nonce) (ln : nonce.length = 12) : ∀ m i, ∀ b ∈ nums nonce m i, InL .u8 b ∧ b.length = 16
  | 0, _, _, h => by cases h
  | m + 1, i, b, h => by
    rcases List.mem_cons.1 h with rfl | h
    · exact ⟨g_app hn (be4_in i), by rw [List.length_append, ln]; rfl⟩
    · exact nums_in hn ln m (i + 1) b h
theorem rStr_l0 (ln : nonce.length = 12) {t : List Int} (lt : t.length < 900) : ∀ (m i k : Nat) (z : List (List Int)), i + m = (t.length + 15) / 16 + 1 → m < k → z.length + m < 10000 →
    ref12_stream_s.l0 1000 k nonce t (i : Int) z = some (z ++ nums nonce m (i + 1)) := by
  have q : iquo .i64 (iadd .i64 ((t.length : Nat) : Int) 15) 16 = (((t.length + 15) / 16 : Nat) : Int) := by
    rw [show iadd .i64 ((t.length : Nat) : Int) 15 = ((t.length + 15 : Nat) : Int) from gaddN (i := t.length) (j := 15) (by omega)]
    unfold iquo
    rw [tdivN (by omega), id64 (by omega) (by omega)]
    omega
  intro m
  induction m with
  | zero =>
    intro i k z hi hk hz
    obtain ⟨k, rfl⟩ : ∃ q, k = q + 1 := ⟨k - 1, by omega⟩
    have c : ¬ (i : Int) ≤ (((t.length + 15) / 16 : Nat) : Int) := by omega
    simp only [ref12_stream_s.l0, q, c, if_false, nums, List.append_nil]
  | succ m ih =>
    intro i k z hi hk hz
    obtain ⟨k, rfl⟩ : ∃ q, k = q + 1 := ⟨k - 1, by omega⟩
    have c : (i : Int) ≤ (((t.length + 15) / 16 : Nat) : Int) := by omega
    have cv : iconv .u64 ((i + 1 : Nat) : Int) = ((i + 1 : Nat) : Int) := by
      unfold iconv
      rw [wu64]
      omega
    have hb := rBe4 (n := i + 1) (by omega)
    have hj := gJoinR (a := nonce) (b := be4 (i + 1)) (by rw [ln]; show 12 + 4 < 900; decide)
    have c2 : z.length + 1 ≤ 5864062014805 := by omega
    have i1 := ih (i + 1) k (z ++ [nonce ++ be4 (i + 1)]) (by omega) (by omega) (by rw [List.length_append]; show z.length + 1 + m < _; omega)
    by_cases hz' : z.length + 1 < 10000
    · simp only [ref12_stream_s.l0, q, c, ginc (i := i) (by omega), cv, hb, hj, c2, if_true, Option.bind_some]
      rw [i1, List.append_assoc]
      rfl
    · exact absurd hz' (by omega)
theorem rMany_l0 {w : List Int} (hw : ∀ b, InL .u8 b → b.length = 16 → ref10_there.f 1000 w b tabs.1 = some (E b)) {l : List (List Int)} (hl : ∀ b ∈ l, InL .u8 b ∧ b.length = 16) (ll : l.length < 900) : ∀ (m i k : Nat), i + m = l.length → m < k →
    ref10_Many_s.l0 1000 k l tabs.1 w (i : Int) ((l.take i).map E) = some (l.map E) := by
  intro m
  induction m with
  | zero =>
    intro i k hi hk
    obtain ⟨k, rfl⟩ : ∃ q, k = q + 1 := ⟨k - 1, by omega⟩
    have c : ¬ (i : Int) < ((l.length : Nat) : Int) := by omega
    simp only [ref10_Many_s.l0, c, if_false, List.take_of_length_le (Nat.le_of_eq (show l.length = i by omega))]
  | succ m ih =>
    intro i k hi hk
    obtain ⟨k, rfl⟩ : ∃ q, k = q + 1 := ⟨k - 1, by omega⟩
    have hil : i < l.length := by omega
    have c : (i : Int) < ((l.length : Nat) : Int) := by omega
    have c1 : (0 : Int) ≤ (i : Int) := by omega
    obtain ⟨h1, h2⟩ := hl _ (List.getElem_mem hil)
    have ht := hw _ h1 h2
    have c2 : ((l.take i).map E).length + 1 ≤ 5864062014805 := by rw [List.length_map, List.length_take]; omega
    have e : (l.take i).map E ++ [E l[i]] = (l.take (i + 1)).map E := by rw [List.take_succ_eq_append_getElem hil, List.map_append]; rfl
    simp only [ref10_Many_s.l0, c, c1, g_rdLL hil, ht, c2, e, if_true, Option.bind_some, ginc (i := i) (by omega)]
    exact ih (i + 1) k (by omega) (by omega)
theorem rMany (hR : CaR key E) {l : List (List Int)} (hl : ∀ b ∈ l, InL .u8 b ∧ b.length = 16) (ll : l.length < 900) : ref10_Many_s.f 1000 key l = some (l.map E) := by
  obtain ⟨w, hw, ht⟩ := hR
  have h0 : ref10_Many_s.l0 1000 1000 l tabs.1 w 0 [] = some (l.map E) := rMany_l0 ht hl ll l.length 0 1000 (by omega) (by omega)
  unfold ref10_Many_s.f
  rw [rBoxes 1000 (by decide)]
  simp only [Option.bind_some]
  rw [hw]
  simp only [Option.bind_some]
  rw [h0]
  rfl
theorem rStream (hE : CaK key E) (hR : CaR key E) (hn : InL .u8 nonce) (ln : nonce.length = 12) {t : List Int} (lt : t.length < 850) :
    ref12_stream_s.f 1000 key nonce t = some (str E nonce t.length 2 t, E (List.replicate 16 0), E (nonce ++ be4 1)) := by
  obtain ⟨c, hc⟩ : ∃ c, c = (t.length + 15) / 16 := ⟨_, rfl⟩
  have h0 : ref12_stream_s.l0 1000 1000 nonce t 0 [List.replicate (16 : Int).toNat (Cod.zero (CI .u8))] = some ([List.replicate 16 0] ++ nums nonce (c + 1) 1) := rStr_l0 ln (by omega) (c + 1) 0 1000 [List.replicate 16 0] (by omega) (by omega) (by show 1 + (c + 1) < 10000; omega)
  have hz : InL .u8 (List.replicate 16 (0 : Int)) := fun x hx => by
    rw [List.eq_of_mem_replicate hx]
    exact (⟨by decide, by decide⟩ : (0 : Int) ≤ 0 ∧ (0 : Int) ≤ 255)
  have hm := rMany hR (l := [List.replicate 16 0] ++ nums nonce (c + 1) 1) (fun b hb => by
    rcases List.mem_append.1 hb with h | h
    · rw [List.mem_singleton.1 h]; exact ⟨hz, by decide⟩
    · exact nums_in hn ln _ _ b h) (by rw [List.length_append, nums_len]; show 1 + (c + 1) < 900; omega)
  rw [List.map_append, nums_map] at hm
  obtain ⟨M, eM⟩ : ∃ M, M = ([List.replicate 16 (0 : Int)] : List (List Int)).map E ++ blks E nonce (c + 1) 1 := ⟨_, rfl⟩
  rw [← eM] at hm
  have lM : M.length = c + 2 := by rw [eM, List.length_append, blks_len]; show 1 + (c + 1) = _; omega
  have m0 : rdLL M 0 = E (List.replicate 16 0) := by rw [eM]; rfl
  have m1 : rdLL M 1 = E (nonce ++ be4 1) := by rw [eM]; rfl
  have m2 : subL M 2 ((M.length : Nat) : Int) = blks E nonce c 2 := by
    show (M.take (((M.length : Nat) : Int)).toNat).drop 2 = _
    rw [Int.toNat_natCast, List.take_length, eM]
    rfl
  have bf := blks_flat hE hn ln c 2
  have hj := gJoinRW (W := blks E nonce c 2) (by rw [blks_len]; omega) (by rw [bf]; omega)
  have hx := gXorL (a := t) (b := (blks E nonce c 2).flatten) (by rw [bf]; omega) (by omega)
  rw [blks_str hE hn ln c 2 t (by omega), str_fuel c t.length 2 t (by omega) (by omega)] at hx
  have c0 : (0 : Int) ≤ 2 := by decide
  have c1 : (2 : Int) ≤ ((M.length : Nat) : Int) := by omega
  have c2 : ((M.length : Nat) : Int) ≤ ((M.length : Nat) : Int) := Int.le_refl _
  have c3 : (0 : Int) ≤ 0 := by decide
  have c4 : (0 : Int) < ((M.length : Nat) : Int) := by omega
  have c5 : (0 : Int) ≤ 1 := by decide
  have c6 : (1 : Int) < ((M.length : Nat) : Int) := by omega
  unfold ref12_stream_s.f
  rw [h0]
  simp only [Option.bind_some]
  rw [hm]
  simp only [Option.bind_some, c0, c1, c2, c3, c4, c5, c6, m0, m1, m2, if_true]
  rw [hj]
  simp only [Option.bind_some]
  rw [hx]
  rfl
end
/-! ### the tag -/
/-- a text, with 0 behind it up to a whole block -/
def fil (z : List Int) : List Int := z ++ List.replicate ((16 - z.length % 16) % 16) 0
theorem fil_len (z : List Int) : (fil z).length = 16 * ((z.length + 15) / 16) := by
  unfold fil
  rw [List.length_append, List.length_replicate]
  omega
theorem fil_in {z : List Int} (hz : InL .u8 z) : InL .u8 (fil z) := g_app hz fun x hx => by
  rw [List.eq_of_mem_replicate hx]
  exact (⟨by decide, by decide⟩ : (0 : Int) ≤ 0 ∧ (0 : Int) ≤ 255)
theorem rFilled {z : List Int} (h : z.length < 800) : ref12_filled.f 1000 z = some (fil z) := by
  have e : irem .i64 (isub .i64 16 (irem .i64 ((z.length : Nat) : Int) 16)) 16 = (((16 - z.length % 16) % 16 : Nat) : Int) := by
    have e1 : irem .i64 ((z.length : Nat) : Int) 16 = ((z.length % 16 : Nat) : Int) := rfl
    have e2 : isub .i64 16 ((z.length % 16 : Nat) : Int) = ((16 - z.length % 16 : Nat) : Int) := by rw [sub64 (by omega) (by omega)]; omega
    rw [e1, e2]
    rfl
  have j := gJoinR (a := z) (b := List.replicate ((16 - z.length % 16) % 16) 0) (by rw [List.length_replicate]; omega)
  have c0 : (0 : Int) ≤ (((16 - z.length % 16) % 16 : Nat) : Int) := by omega
  have c1 : (((16 - z.length % 16) % 16 : Nat) : Int) ≤ 140737488355328 := by omega
  unfold ref12_filled.f
  rw [e, if_pos c0, if_pos c1, Int.toNat_natCast]
  show (ref01_Join.f 1000 [z, List.replicate ((16 - z.length % 16) % 16) 0]).bind _ = _
  rw [j]
  rfl
theorem fl_fil (z : List Int) : fl (fil z) = fl z := by
  refine List.ext_getElem (by rw [fl_len, fl_len]) fun i h1 h2 => ?_
  rw [fl_get _ h1, fl_get _ h2]
  rw [fl_len] at h1
  by_cases hz : i < z.length
  · have a1 : i < (z.take 16).length := by rw [List.length_take]; omega
    have a2 : i < ((fil z).take 16).length := by rw [List.length_take]; unfold fil; rw [List.length_append]; omega
    rw [if_pos a1, if_pos a2, List.getD_eq_getElem?_getD, List.getD_eq_getElem?_getD, List.getElem?_take_of_lt h1, List.getElem?_take_of_lt h1]
    unfold fil
    rw [List.getElem?_append_left hz]
  · have a1 : ¬ i < (z.take 16).length := by rw [List.length_take]; omega
    rw [if_neg a1]
    split
    next h =>
      rw [List.getD_eq_getElem?_getD, List.getElem?_take_of_lt h1]
      unfold fil
      rw [List.getElem?_append_right (by omega)]
      by_cases h3 : i - z.length < (16 - z.length % 16) % 16
      · rw [List.getElem?_replicate, if_pos h3]; rfl
      · rw [List.getElem?_eq_none (by rw [List.length_replicate]; omega)]; rfl
    next => rfl
theorem fil_drop (z : List Int) : z ≠ [] → (fil z).drop 16 = fil (z.drop 16) := fun hne => by
  have h0 : 0 < z.length := List.length_pos_iff.2 hne
  by_cases h : 16 ≤ z.length
  · unfold fil
    rw [List.drop_append_of_le_length h, List.length_drop]
    congr 2
    omega
  · have h1 := fil_len z
    rw [List.drop_of_length_le (show (fil z).length ≤ 16 by omega), List.drop_of_length_le (show z.length ≤ 16 by omega)]
    rfl
theorem sm_fil {h : EL} : ∀ (m : Nat) (s : EL) (z : List Int), sm h m s (fil z) = sm h m s z
  | 0, _, _ => rfl
  | m + 1, s, z => by
    by_cases hz : z = []
    · rw [hz]; rfl
    · have hf : fil z ≠ [] := fun e => hz (List.append_eq_nil_iff.1 e).1
      rw [sm_step m hf, sm_step m hz, fl_fil, fil_drop z hz, sm_fil m]
theorem rTag {E : List Int → List Int} {one beside b : List Int} (h1 : one.length = 16) (hI : InL .u8 one) (hh : InL .u8 (E (List.replicate 16 0))) (lh : (E (List.replicate 16 0)).length = 16) (hs : InL .u8 beside) (hb : InL .u8 b) (ls : beside.length ≤ 200) (lb : b.length ≤ 200) :
    ref12_tag.f 1000 (E (List.replicate 16 0)) one beside b = some (tgv E one beside b) := by
  have e1 := rBe8 (n := 8 * beside.length) (by omega)
  have e2 := rBe8 (n := 8 * b.length) (by omega)
  have f1 := rFilled (z := beside) (by omega)
  have f2 := rFilled (z := b) (by omega)
  have l1 := fil_len beside
  have l2 := fil_len b
  have sz : (be8 (8 * beside.length) ++ be8 (8 * b.length)).length = 16 := by rw [List.length_append, be8_len, be8_len]
  have j : ref01_Join.f 1000 [fil beside, fil b, be8 (8 * beside.length) ++ be8 (8 * b.length)] = some (fil beside ++ (fil b ++ (be8 (8 * beside.length) ++ be8 (8 * b.length)))) := by
    have := gJoinRW (W := [fil beside, fil b, be8 (8 * beside.length) ++ be8 (8 * b.length)]) (by show 3 < 900; decide) (by
      simp only [List.flatten_cons, List.flatten_nil, List.append_nil]
      rw [List.length_append, List.length_append, sz]
      omega)
    simpa using this
  have lj : (fil beside ++ (fil b ++ (be8 (8 * beside.length) ++ be8 (8 * b.length)))).length = 16 * ((beside.length + 15) / 16) + (16 * ((b.length + 15) / 16) + 16) := by
    rw [List.length_append, List.length_append, sz, l1, l2]
  have g := gGhashR hh (g_app (fil_in hs) (g_app (fil_in hb) (g_app (be8_in (8 * beside.length)) (be8_in (8 * b.length))))) lh (by rw [lj]; omega) (by rw [lj]; omega)
  have es : sm (rd16 (E (List.replicate 16 0))) 60 (0, 0) (fil beside ++ (fil b ++ (be8 (8 * beside.length) ++ be8 (8 * b.length)))) =
      sm (rd16 (E (List.replicate 16 0))) 1 (sm (rd16 (E (List.replicate 16 0))) 60 (sm (rd16 (E (List.replicate 16 0))) 60 (0, 0) beside) b) (be8 (8 * beside.length) ++ be8 (8 * b.length)) := by
    rw [sm_fuel 60 ((beside.length + 15) / 16 + ((b.length + 15) / 16 + 1)) (by rw [lj]; omega) (by rw [lj]; omega), sm_app _ _ l1, sm_app _ _ l2, sm_fil, sm_fil,
      sm_fuel ((beside.length + 15) / 16) 60 (by omega) (by omega), sm_fuel ((b.length + 15) / 16) 60 (by omega) (by omega)]
  rw [es] at g
  have x := gXorR (a := wr16 (sm (rd16 (E (List.replicate 16 0))) 1 (sm (rd16 (E (List.replicate 16 0))) 60 (sm (rd16 (E (List.replicate 16 0))) 60 (0, 0) beside) b) (be8 (8 * beside.length) ++ be8 (8 * b.length)))) (b := one) (by rw [wr16_len, h1]) (by rw [wr16_len]; decide)
  have c : (be8 (8 * beside.length)).length + (be8 (8 * b.length)).length ≤ 140737488355328 := by rw [be8_len, be8_len]; decide
  unfold ref12_tag.f
  rw [gMul8 (by omega), gMul8 (by omega), e1, Option.bind_some, e2, Option.bind_some, if_pos c, f1, Option.bind_some, f2, Option.bind_some, j, Option.bind_some, g, Option.bind_some, x]
  rfl
/-! ### the same texts -/
theorem gSameR_l0 {a b : List Int} (hl : a.length = b.length) (hs : a.length < 100000) : ∀ (m i k : Nat), i + m = a.length → m < k →
    ref01_Same.l0 1000 k a b (i : Int) = some (if a.drop i = b.drop i then .inl () else .inr false) := by
  intro m
  induction m with
  | zero =>
    intro i k hi hk
    obtain ⟨k, rfl⟩ : ∃ q, k = q + 1 := ⟨k - 1, by omega⟩
    have c : ¬ (i : Int) < ((a.length : Nat) : Int) := by omega
    rw [List.drop_of_length_le (show a.length ≤ i by omega), List.drop_of_length_le (show b.length ≤ i by omega), if_pos rfl]
    simp only [ref01_Same.l0, c, if_false]
  | succ m ih =>
    intro i k hi hk
    obtain ⟨k, rfl⟩ : ∃ q, k = q + 1 := ⟨k - 1, by omega⟩
    have hia : i < a.length := by omega
    have hib : i < b.length := by omega
    have c0 : (i : Int) < ((a.length : Nat) : Int) := by omega
    have c1 : (0 : Int) ≤ (i : Int) := by omega
    have c3 : (i : Int) < ((b.length : Nat) : Int) := by omega
    have i1 := ih (i + 1) k (by omega) (by omega)
    rw [List.drop_eq_getElem_cons hia, List.drop_eq_getElem_cons hib]
    by_cases h : a[i] = b[i]
    · simp only [ref01_Same.l0, c0, c1, c3, rdL_get hia, rdL_get hib, h, if_true, Option.bind_some, ginc (i := i) (by omega), List.cons.injEq, true_and]
      exact i1
    · simp only [ref01_Same.l0, c0, c1, c3, rdL_get hia, rdL_get hib, h, if_true, if_false, List.cons.injEq, false_and]
theorem gSameR {a b : List Int} (hl : a.length = b.length) (hs : a.length < 900) : ref01_Same.f 1000 a b = some (decide (a = b)) := by
  have h0 : ref01_Same.l0 1000 1000 a b 0 = some (if a = b then .inl () else .inr false) := gSameR_l0 hl (by omega) a.length 0 1000 (by omega) (by omega)
  unfold ref01_Same.f
  rw [if_pos (by omega), h0, Option.bind_some]
  by_cases h : a = b
  · rw [if_pos h, decide_eq_true h]
  · rw [if_neg h, decide_eq_false h]
theorem rSized {key : List Int} : (Szk key → ref10_Sized.f 1000 key = some true) ∧ (¬ Szk key → ref10_Sized.f 1000 key = some false) := gSized
end Go.Proofs.Ytmpagpbnpgcecaa
