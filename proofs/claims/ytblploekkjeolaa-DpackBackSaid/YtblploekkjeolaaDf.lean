/- Layer 22 (dpack), plain laws: what the code does with hints as bytes. -/
import Derived.Test.YtblploekkjeolaaDe
set_option linter.unusedSimpArgs false
set_option linter.unusedVariables false
set_option maxRecDepth 100000
namespace Go.Proofs.Ytblploekkjeolaa
open Go Go.Mx
theorem rdL_b (l : List Int) (i : Nat) : rdL (CI .u8) l (i : Int) = l.getD i 0 := by
  unfold rdL
  rw [Int.toNat_natCast]
  rfl
theorem getD_byt {b : List Int} (hb : Byt b) (p : Nat) : 0 ≤ b.getD p 0 ∧ b.getD p 0 ≤ 255 := segF_mem hb 1 p _ (by simp [segF])
theorem eAt_val {b : List Int} (hb : Byt b) (m i : Nat) : ((eAt b m i : Nat) : Int) = b.getD (m + i) 0 := by
  unfold eAt
  have := (getD_byt hb (m + i)).1
  omega
theorem rd_mid (pre post : List (Arr 256)) (c : Arr 256) : rdL CP (pre ++ c :: post) (pre.length : Int) = c := by
  rw [rdL_P _ _ (by simp)]
  simp
theorem wr_mid (pre post : List (Arr 256)) (c v : Arr 256) : wrL (pre ++ c :: post) (pre.length : Int) v = pre ++ v :: post := by
  unfold wrL
  rw [Int.toNat_natCast, List.set_append_right _ _ (Nat.le_refl _), Nat.sub_self, List.set_cons_zero]
theorem dU_l1 (K : Nat) (b : List Int) (hb : Byt b) (hbl : b.length ≤ 1000) (f e : Nat) (he : e ≤ b.length) (pre post : List (Arr 256)) : ∀ (r p k : Nat) (cur : Arr 256), p + r = e → f ≤ p → r < k →
    dpack_Unhints.l1 K k b (f : Int) (pre.length : Int) (e : Int) (p : Int) (pre ++ cur :: post) = some (if chkF b f p r = true then .inl ((e : Int), pre ++ put1 cur (segF b p r) :: post) else .inr ([], false)) := by
  intro r
  induction r with
  | zero =>
    intro p k cur hp hf hk
    obtain ⟨k, rfl⟩ : ∃ m, k = m + 1 := ⟨k - 1, by omega⟩
    obtain rfl : p = e := by omega
    have c : ¬ (p : Int) < (p : Int) := by omega
    simp only [dpack_Unhints.l1, c, if_false]
    rw [if_pos (by rfl)]
    rfl
  | succ r ih =>
    intro p k cur hp hf hk
    obtain ⟨k, rfl⟩ : ∃ m, k = m + 1 := ⟨k - 1, by omega⟩
    have c : (p : Int) < (e : Int) := by omega
    have c0 : (0 : Int) ≤ (p : Int) := by omega
    have c1 : (p : Int) < (b.length : Int) := by omega
    have ci0 : (0 : Int) ≤ (pre.length : Int) := by omega
    have ci1 : (pre.length : Int) < ((pre ++ cur :: post).length : Int) := by simp; omega
    obtain ⟨x0, x1⟩ := getD_byt hb p
    have x1' : b.getD p 0 < 256 := by omega
    have e1 : iadd .i64 (p : Int) 1 = ((p + 1 : Nat) : Int) := by rw [add64 (by omega) (by omega)]; omega
    have hput : put1 (wr cur (b.getD p 0) 1) (segF b (p + 1) r) = put1 cur (segF b p (r + 1)) := rfl
    by_cases hf2 : p ≤ f
    · have c2 : ¬ (p : Int) > (f : Int) := by omega
      simp only [dpack_Unhints.l1, c, if_true, c2, if_false, c0, c1, ci0, ci1, rdL_b, Option.bind_some, x0, x1', e1, rd_mid, wr_mid]
      rw [ih (p + 1) k _ (by omega) (by omega) (by omega), hput]
      have e2 : chkF b f p (r + 1) = chkF b f (p + 1) r := by
        show ((decide (p ≤ f) || decide (b.getD (p - 1) 0 < b.getD p 0)) && chkF b f (p + 1) r) = _
        rw [decide_eq_true hf2, Bool.true_or, Bool.true_and]
      rw [e2]
    · have c2 : (p : Int) > (f : Int) := by omega
      have e3 : isub .i64 (p : Int) 1 = ((p - 1 : Nat) : Int) := by rw [sub64 (by omega) (by omega)]; omega
      have c3 : (0 : Int) ≤ ((p - 1 : Nat) : Int) := by omega
      have c4 : ((p - 1 : Nat) : Int) < (b.length : Int) := by omega
      by_cases hlt : b.getD (p - 1) 0 < b.getD p 0
      · have c5 : ¬ b.getD p 0 ≤ b.getD (p - 1) 0 := by omega
        simp only [dpack_Unhints.l1, c, if_true, c2, c0, c1, rdL_b, e3, Option.bind_some, c3, c4, c5, if_false, ci0, ci1, x0, x1', e1, rd_mid, wr_mid]
        rw [ih (p + 1) k _ (by omega) (by omega) (by omega), hput]
        have e2 : chkF b f p (r + 1) = chkF b f (p + 1) r := by
          show ((decide (p ≤ f) || decide (b.getD (p - 1) 0 < b.getD p 0)) && chkF b f (p + 1) r) = _
          rw [decide_eq_true hlt, Bool.or_true, Bool.true_and]
        rw [e2]
      · have c5 : b.getD p 0 ≤ b.getD (p - 1) 0 := by omega
        simp only [dpack_Unhints.l1, c, if_true, c2, c0, c1, rdL_b, e3, Option.bind_some, c3, c4, c5]
        have e2 : chkF b f p (r + 1) = false := by
          show ((decide (p ≤ f) || decide (b.getD (p - 1) 0 < b.getD p 0)) && chkF b f (p + 1) r) = _
          rw [decide_eq_false hlt, decide_eq_false hf2]; rfl
        rw [e2, if_neg (by decide)]
theorem dU_l0 (K : Nat) (hK : 1000 < K) (b : List Int) (hb : Byt b) (kk m : Nat) (hk1 : kk ≤ 100) (hm : m ≤ 100) (hbl : b.length = kk + m) : ∀ (r i at_ k : Nat) (pre : List (Arr 256)), i + r = kk → pre.length = i → r < k → at_ ≤ m →
    dpack_Unhints.l0 K k b (kk : Int) (m : Int) (at_ : Int) (i : Int) (pre ++ List.replicate r (zeroA 256)) = some (match pu b m at_ i r with | some q => .inl ((q.2 : Int), pre ++ q.1) | none => .inr ([], false)) := by
  have hlen : ((List.replicate ((kk : Nat) : Int).toNat (Cod.zero CP)).length : Int) = (kk : Int) := by rw [List.length_replicate, Int.toNat_natCast]
  intro r
  induction r with
  | zero =>
    intro i at_ k pre hi hpl hk ha
    obtain ⟨k, rfl⟩ : ∃ m, k = m + 1 := ⟨k - 1, by omega⟩
    have c : ¬ (i : Int) < (kk : Int) := by omega
    simp only [dpack_Unhints.l0, hlen, c, if_false]
    rfl
  | succ r ih =>
    intro i at_ k pre hi hpl hk ha
    obtain ⟨k, rfl⟩ : ∃ m, k = m + 1 := ⟨k - 1, by omega⟩
    subst hpl
    have c : (pre.length : Int) < (kk : Int) := by omega
    have e1 : iadd .i64 (m : Int) (pre.length : Int) = ((m + pre.length : Nat) : Int) := by rw [add64 (by omega) (by omega)]; omega
    have c1 : (0 : Int) ≤ ((m + pre.length : Nat) : Int) := by omega
    have c2 : ((m + pre.length : Nat) : Int) < (b.length : Int) := by omega
    have ev := eAt_val hb m pre.length
    have hle : eAt b m pre.length ≤ 255 := by have := (getD_byt hb (m + pre.length)).2; omega
    have e2 : iconv .i64 (b.getD (m + pre.length) 0) = ((eAt b m pre.length : Nat) : Int) := by rw [← ev, conv64 (by omega) (by omega)]
    have e3 : iadd .i64 (pre.length : Int) 1 = (((pre ++ [mk (segF b at_ (eAt b m pre.length - at_))]).length : Nat) : Int) := by rw [add64 (by omega) (by omega), List.length_append]; simp
    unfold pu
    by_cases h1 : eAt b m pre.length < at_
    · have c3 : ((eAt b m pre.length : Nat) : Int) < (at_ : Int) := by omega
      simp only [dpack_Unhints.l0, hlen, c, if_true, e1, Option.bind_some, c1, c2, rdL_b, e2, c3, h1]
    · have c3 : ¬ ((eAt b m pre.length : Nat) : Int) < (at_ : Int) := by omega
      by_cases h2 : eAt b m pre.length > m
      · have c4 : ((eAt b m pre.length : Nat) : Int) > (m : Int) := by omega
        simp only [dpack_Unhints.l0, hlen, c, if_true, e1, Option.bind_some, c1, c2, rdL_b, e2, c3, h1, if_false, c4, h2]
      · have c4 : ¬ ((eAt b m pre.length : Nat) : Int) > (m : Int) := by omega
        have hin := dU_l1 K b hb (by omega) at_ (eAt b m pre.length) (by omega) pre (List.replicate r (zeroA 256)) (eAt b m pre.length - at_) at_ K (zeroA 256) (by omega) (Nat.le_refl _) (by omega)
        rw [← List.replicate_succ] at hin
        by_cases h3 : chkF b at_ at_ (eAt b m pre.length - at_) = true
        · rw [if_pos h3] at hin
          have := ih (pre.length + 1) (eAt b m pre.length) k (pre ++ [mk (segF b at_ (eAt b m pre.length - at_))]) (by omega) (by simp) (by omega) (by omega)
          have el : (((pre ++ [mk (segF b at_ (eAt b m pre.length - at_))]).length : Nat) : Int) = ((pre.length + 1 : Nat) : Int) := by simp
          simp only [dpack_Unhints.l0, hlen, c, if_true, e1, Option.bind_some, c1, c2, rdL_b, e2, c3, h1, if_false, c4, h2, hin, h3, e3, el]
          rw [List.append_assoc] at this
          have e4 : ([mk (segF b at_ (eAt b m pre.length - at_))] ++ List.replicate r (zeroA 256)) = put1 (zeroA 256) (segF b at_ (eAt b m pre.length - at_)) :: List.replicate r (zeroA 256) := rfl
          rw [e4] at this
          rw [this]
          cases pu b m (eAt b m pre.length) (pre.length + 1) r with
          | none => rfl
          | some q => simp [List.append_assoc]
        · rw [if_neg h3] at hin
          simp only [dpack_Unhints.l0, hlen, c, if_true, e1, Option.bind_some, c1, c2, rdL_b, e2, c3, h1, if_false, c4, h2, hin, h3]
          rfl
theorem dU_l2 (K : Nat) (b : List Int) (a2 y5 : Int) (S : List Int) (hS : subL b y5 a2 = S) (hl : S.length ≤ 1000) : ∀ (r j k : Nat), j + r = S.length → r < k →
    ∃ o, dpack_Unhints.l2 K k b a2 y5 (j : Int) = some o ∧ (match o with | .inl _ => (S.drop j).all (fun x => x == 0) = true | .inr v => (S.drop j).all (fun x => x == 0) = false ∧ 0 ≤ v) := by
  intro r
  induction r with
  | zero =>
    intro j k hj hk
    obtain ⟨k, rfl⟩ : ∃ m, k = m + 1 := ⟨k - 1, by omega⟩
    have c : ¬ (j : Int) < (S.length : Int) := by omega
    refine ⟨.inl (), by simp only [dpack_Unhints.l2, hS, c, if_false], ?_⟩
    rw [List.drop_of_length_le (by omega)]
    rfl
  | succ r ih =>
    intro j k hj hk
    obtain ⟨k, rfl⟩ : ∃ m, k = m + 1 := ⟨k - 1, by omega⟩
    have hjl : j < S.length := by omega
    have c : (j : Int) < (S.length : Int) := by omega
    have c0 : (0 : Int) ≤ (j : Int) := by omega
    have e1 : iadd .i64 (j : Int) 1 = ((j + 1 : Nat) : Int) := by rw [add64 (by omega) (by omega)]; omega
    have hg : S.getD j 0 = S[j] := by rw [List.getD_eq_getElem?_getD, List.getElem?_eq_getElem hjl]; rfl
    rw [List.drop_eq_getElem_cons hjl, List.all_cons]
    by_cases hz : S[j] = 0
    · have e2 : ((S[j] != 0) = true) = False := by rw [hz]; simp
      obtain ⟨o, h1, h2⟩ := ih (j + 1) k (by omega) (by omega)
      refine ⟨o, ?_, ?_⟩
      · simp only [dpack_Unhints.l2, hS, c, if_true, c0, rdL_b, hg, Option.bind_some, e2, if_false, e1]
        exact h1
      · rw [hz]; simpa using h2
    · have e2 : ((S[j] != 0) = true) = True := by simp [hz]
      refine ⟨.inr (j : Int), ?_, ?_⟩
      · simp only [dpack_Unhints.l2, hS, c, if_true, c0, rdL_b, hg, Option.bind_some, e2]
      · rw [beq_eq_false_iff_ne.2 hz]; exact ⟨rfl, c0⟩
theorem sub_seg {b : List Int} {z m : Nat} (hz : z ≤ m) (hm : m ≤ b.length) : subL b (z : Int) (m : Int) = segF b z (m - z) := by
  unfold subL
  rw [Int.toNat_natCast, Int.toNat_natCast]
  have h := segF_all b
  have e : b.length = z + ((m - z) + (b.length - m)) := by omega
  rw [e, segF_add, segF_add, Nat.zero_add] at h
  conv => lhs; rw [← h]
  rw [← List.append_assoc, List.take_append_of_le_length (by rw [List.length_append, segF_len, segF_len]; omega), List.take_of_length_le (by rw [List.length_append, segF_len, segF_len]; omega), List.drop_append_of_le_length (by rw [segF_len]; omega), List.drop_of_length_le (by rw [segF_len]; omega), List.nil_append]
/-- the hints that bytes are -/
def unhV (b : List Int) (k m : Int) : List (Arr 256) × Bool :=
  if k < 1 then ([], false) else if k > 100 then ([], false) else if m < 1 then ([], false) else if m > 100 then ([], false) else
    if (b.length : Int) = k + m then unhS b k.toNat m.toNat else ([], false)
theorem dUnhints (K : Nat) (hK : 1000 < K) (b : List Int) (hb : Byt b) (k m : Int) : dpack_Unhints.f K b k m = some (unhV b k m) := by
  unfold dpack_Unhints.f unhV
  by_cases h1 : k < 1
  · rw [if_pos h1, if_pos h1]
  rw [if_neg h1, if_neg h1]
  by_cases h2 : k > 100
  · rw [if_pos h2, if_pos h2]
  rw [if_neg h2, if_neg h2]
  by_cases h3 : m < 1
  · rw [if_pos h3, if_pos h3]
  rw [if_neg h3, if_neg h3]
  by_cases h4 : m > 100
  · rw [if_pos h4, if_pos h4]
  rw [if_neg h4, if_neg h4, add64 (by omega) (by omega)]
  by_cases h5 : (b.length : Int) = k + m
  · obtain ⟨k, rfl⟩ := Int.eq_ofNat_of_zero_le (show 0 ≤ k by omega)
    obtain ⟨m, rfl⟩ := Int.eq_ofNat_of_zero_le (show 0 ≤ m by omega)
    rw [if_pos h5, if_pos h5, if_pos (by omega), if_pos (by omega), Int.toNat_natCast, Int.toNat_natCast]
    have hl := dU_l0 K hK b hb k m (by omega) (by omega) (by omega) k 0 0 K [] (by omega) rfl (by omega) (by omega)
    have hl' : dpack_Unhints.l0 K K b (k : Int) (m : Int) 0 0 (List.replicate k (Cod.zero CP)) = some (match pu b m 0 0 k with | some q => .inl ((q.2 : Int), q.1) | none => .inr ([], false)) := hl
    rw [hl', Option.bind_some]
    unfold unhS
    cases hp : pu b m 0 0 k with
    | none => rfl
    | some q =>
      obtain ⟨l, z⟩ := q
      obtain ⟨_, _, _, hz, _⟩ := pu_ru hb m (by omega) k (by omega) k 0 0 l z (by omega) (by omega) hp
      show (if 0 ≤ (z : Int) then (if (z : Int) ≤ (m : Int) then (if (m : Int) ≤ b.length then _ else none) else none) else none) = some (if zerB b z (m - z) = true then (l, true) else ([], false))
      rw [if_pos (by omega), if_pos (by omega), if_pos (by omega)]
      obtain ⟨o, ho, hc⟩ := dU_l2 K b (m : Int) (z : Int) (segF b z (m - z)) (sub_seg hz (by omega)) (by rw [segF_len]; omega) (m - z) 0 K (by rw [segF_len]; omega) (by omega)
      have ho' : dpack_Unhints.l2 K K b (m : Int) (z : Int) 0 = some o := ho
      rw [ho', Option.bind_some]
      cases o with
      | inl u =>
        have hc' : zerB b z (m - z) = true := hc
        rw [hc', if_pos rfl]
        rfl
      | inr v =>
        obtain ⟨hc1, hc2⟩ := hc
        have hc' : zerB b z (m - z) = false := hc1
        rw [hc', if_neg (by decide)]
        show (if decide (v ≥ 0) = true then _ else _) = _
        rw [if_pos (decide_eq_true hc2)]
  · rw [if_neg h5, if_neg h5]
end Go.Proofs.Ytblploekkjeolaa
