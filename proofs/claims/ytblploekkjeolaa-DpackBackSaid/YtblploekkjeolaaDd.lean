/- Layer 22 (dpack), plain laws: hints as bytes are the document's. -/
import Derived.Test.YtblploekkjeolaaDb
set_option linter.unusedSimpArgs false
set_option linter.unusedVariables false
set_option maxRecDepth 100000
namespace Go.Proofs.Ytblploekkjeolaa
open Go Go.Mx
abbrev CP : Cod (Arr 256) := CA .i32 256 (by decide)
/-- where a polynomial is 1, from j on -/
def posF (a : Arr 256) : Nat → Nat → List Int
  | _, 0 => []
  | j, r + 1 => if rd a (j : Int) = 1 then (j : Int) :: posF a (j + 1) r else posF a (j + 1) r
def binF (a : Arr 256) : Nat → Nat → Bool
  | _, 0 => true
  | j, r + 1 => (rd a (j : Int) == 0 || rd a (j : Int) == 1) && binF a (j + 1) r
def pos (a : Arr 256) : List Int := posF a 0 256
def bin (a : Arr 256) : Bool := binF a 0 256
def places : List (Arr 256) → List Int
  | [] => []
  | a :: t => pos a ++ places t
def endsF : Nat → List (Arr 256) → List Int
  | _, [] => []
  | c, a :: t => ((c + (pos a).length : Nat) : Int) :: endsF (c + (pos a).length) t
def allBin : List (Arr 256) → Bool
  | [] => true
  | a :: t => bin a && allBin t
theorem endsF_len : ∀ (c : Nat) (t : List (Arr 256)), (endsF c t).length = t.length
  | _, [] => rfl
  | c, a :: t => by
    show (endsF _ t).length + 1 = t.length + 1
    rw [endsF_len]
/-- places, zeros, ends -/
def O (m : Nat) (P E : List Int) : List Int := P ++ (List.replicate (m - P.length) 0 ++ E)
theorem O_len {m : Nat} {P E : List Int} (h : P.length ≤ m) : (O m P E).length = m + E.length := by
  unfold O
  simp only [List.length_append, List.length_replicate]
  omega
theorem O_put {m : Nat} {P E : List Int} (h : P.length < m) (v : Int) : wrL (O m P E) (P.length : Int) v = O m (P ++ [v]) E := by
  unfold wrL O
  rw [Int.toNat_natCast, List.set_append_right _ _ (Nat.le_refl _), Nat.sub_self, show m - P.length = (m - P.length - 1) + 1 by omega, List.replicate_succ, List.cons_append, List.set_cons_zero, List.length_append, List.length_singleton, List.append_assoc, show m - P.length - 1 = m - (P.length + 1) by omega]
  rfl
theorem O_end {m i : Nat} {P E : List Int} (h : P.length ≤ m) (v : Int) : wrL (O m P E) ((m + i : Nat) : Int) v = O m P (E.set i v) := by
  unfold wrL O
  rw [Int.toNat_natCast, List.set_append_right _ _ (by omega), List.set_append_right _ _ (by rw [List.length_replicate]; omega), List.length_replicate]
  congr 3
  omega
theorem rdL_P (l : List (Arr 256)) (i : Nat) (h : i < l.length) : rdL CP l (i : Int) = l[i] := by
  unfold rdL
  rw [Int.toNat_natCast, List.getD_eq_getElem?_getD, List.getElem?_eq_getElem h]
  rfl
theorem u8_small {n : Nat} (h : n < 256) : iconv .u8 (n : Int) = (n : Int) := by
  unfold iconv
  rw [wu8]
  omega
/-! ### one polynomial -/
theorem dHints_l1 (K : Nat) (h : List (Arr 256)) (i : Nat) (hi : i < h.length) (m : Nat) (hm : m ≤ 100) (E : List Int) : ∀ (r j k : Nat) (P : List Int), j + r = 256 → r < k → P.length ≤ m →
    dpack_Hints.l1 K k h (m : Int) (i : Int) (P.length : Int) (j : Int) (O m P E) = some (if (binF h[i] j r && decide (P.length + (posF h[i] j r).length ≤ m)) = true then .inl (((P.length + (posF h[i] j r).length : Nat) : Int), O m (P ++ posF h[i] j r) E) else .inr []) := by
  intro r
  induction r with
  | zero =>
    intro j k P hj hk hP
    obtain ⟨k, rfl⟩ : ∃ m, k = m + 1 := ⟨k - 1, by omega⟩
    have c : ¬ (j : Int) < 256 := by omega
    simp only [dpack_Hints.l1, c, if_false]
    rw [if_pos (by unfold binF posF; rw [Bool.true_and]; exact decide_eq_true (by simpa using hP))]
    unfold posF
    rw [List.append_nil]
    rfl
  | succ r ih =>
    intro j k P hj hk hP
    obtain ⟨k, rfl⟩ : ∃ m, k = m + 1 := ⟨k - 1, by omega⟩
    have c : (j : Int) < 256 := by omega
    have c0 : (0 : Int) ≤ (j : Int) := by omega
    have hi1 : iadd .i64 (j : Int) 1 = ((j + 1 : Nat) : Int) := by rw [add64 (by omega) (by omega)]; omega
    have hrd := rdL_P h i hi
    by_cases x0 : rd h[i] (j : Int) = 0
    · have e1 : binF h[i] j (r + 1) = binF h[i] (j + 1) r := by
        show ((rd h[i] (j : Int) == 0 || rd h[i] (j : Int) == 1) && binF h[i] (j + 1) r) = _
        rw [x0]; rfl
      have e2 : posF h[i] j (r + 1) = posF h[i] (j + 1) r := by
        show (if rd h[i] (j : Int) = 1 then _ else _) = _
        rw [x0, if_neg (by decide)]
      simp only [dpack_Hints.l1, c, c0, if_true, hrd, x0, Option.bind_some, hi1]
      rw [ih (j + 1) k P (by omega) (by omega) hP, e1, e2]
    · by_cases x1 : rd h[i] (j : Int) = 1
      · have e1 : binF h[i] j (r + 1) = binF h[i] (j + 1) r := by
          show ((rd h[i] (j : Int) == 0 || rd h[i] (j : Int) == 1) && binF h[i] (j + 1) r) = _
          rw [x1]; rfl
        have e2 : posF h[i] j (r + 1) = (j : Int) :: posF h[i] (j + 1) r := by
          show (if rd h[i] (j : Int) = 1 then _ else _) = _
          rw [x1, if_pos rfl]
        have n10 : ¬ (1 : Int) = 0 := by decide
        by_cases hf : P.length = m
        · have c3 : (P.length : Int) = (m : Int) := by omega
          simp only [dpack_Hints.l1, c, c0, if_true, hrd, x1, n10, if_false, Option.bind_some, c3]
          rw [if_neg]
          rw [e2, List.length_cons, decide_eq_false (by omega), Bool.and_false]
          decide
        · have c3 : ¬ (P.length : Int) = (m : Int) := by omega
          have c4 : (0 : Int) ≤ (P.length : Int) := by omega
          have c5 : (P.length : Int) < ((O m P E).length : Int) := by rw [O_len hP]; omega
          have c5' : (P.length : Int) < (O m P E).length := c5
          have e5 : iconv .u8 (j : Int) = (j : Int) := u8_small (by omega)
          have e6 : iadd .i64 (P.length : Int) 1 = (((P ++ [(j : Int)]).length : Nat) : Int) := by rw [add64 (by omega) (by omega), List.length_append]; simp
          simp only [dpack_Hints.l1, c, c0, if_true, hrd, x1, n10, if_false, Option.bind_some, c3, c4, c5', e5, e6, hi1, O_put (m := m) (P := P) (E := E) (by omega)]
          rw [ih (j + 1) k (P ++ [(j : Int)]) (by omega) (by omega) (by rw [List.length_append, List.length_singleton]; omega), e1, e2, List.length_append, List.length_singleton, List.length_cons, List.append_assoc]
          have e7 : P.length + 1 + (posF h[i] (j + 1) r).length = P.length + ((posF h[i] (j + 1) r).length + 1) := by omega
          rw [e7]
          rfl
      · have e1 : binF h[i] j (r + 1) = false := by
          show ((rd h[i] (j : Int) == 0 || rd h[i] (j : Int) == 1) && binF h[i] (j + 1) r) = _
          rw [beq_eq_false_iff_ne.2 x0, beq_eq_false_iff_ne.2 x1]; rfl
        simp only [dpack_Hints.l1, c, c0, if_true, hrd, x0, x1, if_false, Option.bind_some]
        rw [e1, Bool.false_and, if_neg (by decide)]
/-! ### all -/
theorem dHints_l0 (K : Nat) (hK : 256 < K) (m : Nat) (hm : m ≤ 100) : ∀ (t pre : List (Arr 256)) (k : Nat) (P D : List Int), t.length < k → pre.length + t.length ≤ 100 → P.length ≤ m → D.length = pre.length →
    dpack_Hints.l0 K k (pre ++ t) (m : Int) (P.length : Int) (pre.length : Int) (O m P (D ++ List.replicate t.length 0)) = some (if (allBin t && decide (P.length + (places t).length ≤ m)) = true then .inl (O m (P ++ places t) (D ++ endsF P.length t)) else .inr []) := by
  intro t
  induction t with
  | nil =>
    intro pre k P D hk hn hP hD
    obtain ⟨k, rfl⟩ : ∃ m, k = m + 1 := ⟨k - 1, by simp at hk; omega⟩
    have c : ¬ (pre.length : Int) < ((pre ++ []).length : Int) := by rw [List.append_nil]; omega
    simp only [dpack_Hints.l0, c, if_false]
    rw [if_pos (by unfold allBin places; rw [Bool.true_and]; exact decide_eq_true (by simpa using hP))]
    unfold places endsF
    rw [List.append_nil P]
    rfl
  | cons a t ih =>
    intro pre k P D hk hn hP hD
    rw [List.length_cons] at hk hn
    obtain ⟨k, rfl⟩ : ∃ m, k = m + 1 := ⟨k - 1, by omega⟩
    have hlt : pre.length < (pre ++ a :: t).length := by simp
    have c : (pre.length : Int) < ((pre ++ a :: t).length : Int) := by omega
    have c' : (pre.length : Int) < (pre ++ a :: t).length := c
    have c0 : (0 : Int) ≤ (pre.length : Int) := by omega
    have hget : (pre ++ a :: t)[pre.length] = a := by simp
    have h1 := dHints_l1 K (pre ++ a :: t) pre.length hlt m hm (D ++ List.replicate (t.length + 1) 0) 256 0 K P rfl hK hP
    rw [hget] at h1
    have h1' : dpack_Hints.l1 K K (pre ++ a :: t) (m : Int) (pre.length : Int) (P.length : Int) 0 (O m P (D ++ List.replicate (t.length + 1) 0)) = some (if (bin a && decide (P.length + (pos a).length ≤ m)) = true then .inl (((P.length + (pos a).length : Nat) : Int), O m (P ++ pos a) (D ++ List.replicate (t.length + 1) 0)) else .inr []) := h1
    rw [List.length_cons]
    by_cases hc : (bin a && decide (P.length + (pos a).length ≤ m)) = true
    · rw [if_pos hc] at h1'
      simp only [Bool.and_eq_true, decide_eq_true_iff] at hc
      obtain ⟨hb, hl⟩ := hc
      have e1 : iadd .i64 (m : Int) (pre.length : Int) = ((m + pre.length : Nat) : Int) := by rw [add64 (by omega) (by omega)]; omega
      have hPl : (P ++ pos a).length ≤ m := by rw [List.length_append]; exact hl
      have c1 : (0 : Int) ≤ ((m + pre.length : Nat) : Int) := by omega
      have c2 : ((m + pre.length : Nat) : Int) < ((O m (P ++ pos a) (D ++ List.replicate (t.length + 1) 0)).length : Int) := by
        rw [O_len hPl, List.length_append, List.length_replicate]; omega
      have c2' : ((m + pre.length : Nat) : Int) < (O m (P ++ pos a) (D ++ List.replicate (t.length + 1) 0)).length := c2
      have e2 : iconv .u8 ((P.length + (pos a).length : Nat) : Int) = ((P.length + (pos a).length : Nat) : Int) := u8_small (by omega)
      have e3 : iadd .i64 (pre.length : Int) 1 = (((pre ++ [a]).length : Nat) : Int) := by rw [add64 (by omega) (by omega), List.length_append]; simp
      have hset : (D ++ List.replicate (t.length + 1) 0).set pre.length ((P.length + (pos a).length : Nat) : Int) = (D ++ [((P.length + (pos a).length : Nat) : Int)]) ++ List.replicate t.length 0 := by
        rw [List.set_append_right _ _ (by omega), hD, Nat.sub_self, List.replicate_succ, List.set_cons_zero, List.append_assoc]
        rfl
      simp only [dpack_Hints.l0, c, c', c0, if_true, h1', Option.bind_some, e1, c1, c2', e2, O_end hPl, hset, e3]
      have e4 : ((P.length + (pos a).length : Nat) : Int) = (((P ++ pos a).length : Nat) : Int) := by rw [List.length_append]
      have := ih (pre ++ [a]) k (P ++ pos a) (D ++ [((P.length + (pos a).length : Nat) : Int)]) (by omega) (by rw [List.length_append, List.length_singleton]; omega) hPl (by rw [List.length_append, List.length_append, hD]; rfl)
      rw [List.append_assoc pre] at this
      have hp : pre ++ ([a] ++ t) = pre ++ a :: t := rfl
      rw [hp, ← e4] at this
      rw [this]
      have e5 : (allBin t && decide ((P ++ pos a).length + (places t).length ≤ m)) = (allBin (a :: t) && decide (P.length + (places (a :: t)).length ≤ m)) := by
        show _ = ((bin a && allBin t) && decide (P.length + (pos a ++ places t).length ≤ m))
        rw [hb, Bool.true_and, List.length_append, List.length_append, Nat.add_assoc]
      rw [e5]
      have e6 : P ++ pos a ++ places t = P ++ places (a :: t) := List.append_assoc ..
      have e7 : D ++ [((P.length + (pos a).length : Nat) : Int)] ++ endsF (P ++ pos a).length t = D ++ endsF P.length (a :: t) := by
        rw [List.append_assoc, List.length_append]; rfl
      rw [e6, e7]
    · rw [if_neg hc] at h1'
      simp only [dpack_Hints.l0, c, c', c0, if_true, h1', Option.bind_some]
      rw [if_neg]
      intro h
      simp only [Bool.and_eq_true, decide_eq_true_iff] at h
      obtain ⟨h2, h3⟩ := h
      have h2' : (bin a && allBin t) = true := h2
      have h3' : P.length + (pos a ++ places t).length ≤ m := h3
      rw [List.length_append] at h3'
      simp only [Bool.and_eq_true] at h2'
      exact hc (by rw [h2'.1, Bool.true_and]; exact decide_eq_true (by omega))
/-- hints as bytes -/
def hintS (h : List (Arr 256)) (m : Int) : List Int :=
  if (h.length : Int) < 1 then [] else if (h.length : Int) > 100 then [] else if m < 1 then [] else if m > 100 then [] else
    if (allBin h && decide ((places h).length ≤ m.toNat)) = true then O m.toNat (places h) (endsF 0 h) else []
theorem dHints (K : Nat) (hK : 256 < K) (h : List (Arr 256)) (m : Int) : dpack_Hints.f K h m = some (hintS h m) := by
  unfold dpack_Hints.f hintS
  by_cases h1 : (h.length : Int) < 1
  · rw [if_pos h1, if_pos h1]
  rw [if_neg h1, if_neg h1]
  by_cases h2 : (h.length : Int) > 100
  · rw [if_pos h2, if_pos h2]
  rw [if_neg h2, if_neg h2]
  by_cases h3 : m < 1
  · rw [if_pos h3, if_pos h3]
  rw [if_neg h3, if_neg h3]
  by_cases h4 : m > 100
  · rw [if_pos h4, if_pos h4]
  rw [if_neg h4, if_neg h4]
  obtain ⟨m, rfl⟩ := Int.eq_ofNat_of_zero_le (show 0 ≤ m by omega)
  have e1 : iadd .i64 (m : Int) (h.length : Int) = ((m + h.length : Nat) : Int) := by rw [add64 (by omega) (by omega)]; omega
  rw [e1, if_pos (by omega), if_pos (by omega)]
  have hO : List.replicate ((m + h.length : Nat) : Int).toNat (Cod.zero (CI .u8)) = O m [] (([] : List Int) ++ List.replicate h.length 0) := by
    unfold O
    rw [Int.toNat_natCast, List.nil_append, List.nil_append, List.length_nil, Nat.sub_zero, List.replicate_append_replicate]
    rfl
  have hl := dHints_l0 K hK m (by omega) h [] K [] [] (by omega) (by simp; omega) (by simp) rfl
  have hl' : dpack_Hints.l0 K K h (m : Int) 0 0 (O m [] (([] : List Int) ++ List.replicate h.length 0)) = some (if (allBin h && decide (0 + (places h).length ≤ m)) = true then .inl (O m ([] ++ places h) ([] ++ endsF 0 h)) else .inr []) := hl
  rw [hO, hl', Option.bind_some, Nat.zero_add, List.nil_append, List.nil_append, Int.toNat_natCast]
  by_cases hc : (allBin h && decide ((places h).length ≤ m)) = true
  · rw [if_pos hc, if_pos hc]
  · rw [if_neg hc, if_neg hc]
theorem hintS_len (h : List (Arr 256)) (m : Int) : (hintS h m).length ≤ 200 := by
  unfold hintS
  split
  · exact Nat.zero_le _
  split
  · exact Nat.zero_le _
  split
  · exact Nat.zero_le _
  split
  · exact Nat.zero_le _
  split
  · rename_i hc
    simp only [Bool.and_eq_true, decide_eq_true_iff] at hc
    rw [O_len hc.2, endsF_len]
    omega
  · exact Nat.zero_le _
end Go.Proofs.Ytblploekkjeolaa
