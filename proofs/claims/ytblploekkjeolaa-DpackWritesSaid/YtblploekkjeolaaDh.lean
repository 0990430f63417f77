/- Layer 22 (dpack), plain laws: keys and signatures as bytes. -/
import Derived.Test.YtblploekkjeolaaDg
set_option linter.unusedSimpArgs false
set_option linter.unusedVariables false
set_option maxRecDepth 100000
namespace Go.Proofs.Ytblploekkjeolaa
open Go Go.Mx
/-- polynomials as bytes -/
def packL (lo hi : Int) (l : List (Arr 256)) : List Int := l.flatMap (packS lo hi)
def okL (lo hi : Int) (l : List (Arr 256)) : Bool := l.all fun a => !(packS lo hi a).isEmpty
theorem packL_len (lo hi : Int) : ∀ l : List (Arr 256), (packL lo hi l).length ≤ 704 * l.length
  | [] => Nat.le_refl _
  | a :: l => by
    have h1 := packL_len lo hi l
    have h2 := packS_len lo hi a
    show (packS lo hi a ++ packL lo hi l).length ≤ _
    rw [List.length_append, List.length_cons]
    omega
theorem rowW (K : Nat) (hK : 256 < K) (lo hi : Int) (l : List (Arr 256)) (hl : l.length ≤ 1000) (f : Nat → Int → List Int → Bool → Option (List Int × Bool))
    (hf : ∀ k z out bad, f (k + 1) z out bad = if z < (l.length : Int) then (if 0 ≤ z then (if z < l.length then ((dpack_Pack.f K (rdL CP l z) lo hi).bind fun r => ((if bad = true then (some true) else ((some (r.isEmpty)).bind fun x => some x) : Option (Bool))).bind fun y => if out.length + r.length ≤ 140737488355328 then (f k (iadd .i64 z 1) (out ++ r) y) else none) else none) else none) else (some (out, bad))) :
    ∀ (r i k : Nat) (out : List Int) (bad : Bool), i + r = l.length → r < k → out.length + 704 * r ≤ 100000000 → f k (i : Int) out bad = some (out ++ packL lo hi (l.drop i), bad || !okL lo hi (l.drop i)) := by
  intro r
  induction r with
  | zero =>
    intro i k out bad hi' hk ho
    obtain ⟨k, rfl⟩ : ∃ m, k = m + 1 := ⟨k - 1, by omega⟩
    have c : ¬ (i : Int) < (l.length : Int) := by omega
    rw [hf, if_neg c, List.drop_of_length_le (by omega)]
    simp [packL, okL]
  | succ r ih =>
    intro i k out bad hi' hk ho
    obtain ⟨k, rfl⟩ : ∃ m, k = m + 1 := ⟨k - 1, by omega⟩
    have c : (i : Int) < (l.length : Int) := by omega
    have c0 : (0 : Int) ≤ (i : Int) := by omega
    have e4 : iadd .i64 (i : Int) 1 = ((i + 1 : Nat) : Int) := by rw [add64 (by omega) (by omega)]; omega
    have hlt : i < l.length := by omega
    have h7 := packS_len lo hi l[i]
    rw [hf, if_pos c, if_pos c0, if_pos c, dPack K hK, Option.bind_some, rdL_P l i hlt, e4]
    have hb : ((if bad = true then (some true) else ((some ((packS lo hi l[i]).isEmpty)).bind fun x => some x) : Option (Bool))) = some (bad || (packS lo hi l[i]).isEmpty) := by cases bad <;> rfl
    rw [hb, Option.bind_some, if_pos (by omega), ih (i + 1) k _ _ (by omega) (by omega) (by rw [List.length_append]; omega), List.drop_eq_getElem_cons hlt]
    have e1 : packL lo hi (l[i] :: l.drop (i + 1)) = packS lo hi l[i] ++ packL lo hi (l.drop (i + 1)) := rfl
    have e2 : okL lo hi (l[i] :: l.drop (i + 1)) = (!(packS lo hi l[i]).isEmpty && okL lo hi (l.drop (i + 1))) := rfl
    rw [e1, e2, List.append_assoc]
    cases bad <;> cases (packS lo hi l[i]).isEmpty <;> cases okL lo hi (l.drop (i + 1)) <;> rfl
theorem rRow_l0 (K : Nat) (hK : 256 < K) (lo hi : Int) (l : List (Arr 256)) (hl : l.length ≤ 1000) : ∀ (r i k : Nat) (out : List Int), i + r = l.length → r < k → out.length + 704 * r ≤ 100000000 →
    ref22_row.l0 K k l lo hi (i : Int) out = some (if okL lo hi (l.drop i) = true then .inl (out ++ packL lo hi (l.drop i)) else .inr ([], false)) := by
  intro r
  induction r with
  | zero =>
    intro i k out hi' hk ho
    obtain ⟨k, rfl⟩ : ∃ m, k = m + 1 := ⟨k - 1, by omega⟩
    have c : ¬ (i : Int) < (l.length : Int) := by omega
    rw [ref22_row.l0, if_neg c, List.drop_of_length_le (by omega)]
    simp [packL, okL]
  | succ r ih =>
    intro i k out hi' hk ho
    obtain ⟨k, rfl⟩ : ∃ m, k = m + 1 := ⟨k - 1, by omega⟩
    have c : (i : Int) < (l.length : Int) := by omega
    have c0 : (0 : Int) ≤ (i : Int) := by omega
    have e4 : iadd .i64 (i : Int) 1 = ((i + 1 : Nat) : Int) := by rw [add64 (by omega) (by omega)]; omega
    have hlt : i < l.length := by omega
    have h7 := packS_len lo hi l[i]
    have e0 : rdL (CA .i32 256 (by decide)) l (i : Int) = l[i] := rdL_P l i hlt
    have e1 : packL lo hi (l[i] :: l.drop (i + 1)) = packS lo hi l[i] ++ packL lo hi (l.drop (i + 1)) := rfl
    have e2 : okL lo hi (l[i] :: l.drop (i + 1)) = (!(packS lo hi l[i]).isEmpty && okL lo hi (l.drop (i + 1))) := rfl
    rw [ref22_row.l0, if_pos c, if_pos c0, if_pos c, e0, rPack K hK, Option.bind_some, List.drop_eq_getElem_cons hlt, e1, e2]
    by_cases hz : ((packS lo hi l[i]).length : Int) = 0
    · have hz' : packS lo hi l[i] = [] := List.eq_nil_of_length_eq_zero (by omega)
      rw [if_pos hz, hz']
      rfl
    · have hz' : (packS lo hi l[i]).isEmpty = false := by
        cases h : packS lo hi l[i] with
        | nil => rw [h] at hz; exact absurd rfl hz
        | cons _ _ => rfl
      rw [if_neg hz, if_pos (by omega), Option.bind_some, e4, ih (i + 1) k _ (by omega) (by omega) (by rw [List.length_append]; omega), hz', List.append_assoc]
      rfl
theorem rRow (K : Nat) (hK : 1000 < K) (l : List (Arr 256)) (hl : l.length ≤ 1000) (n lo hi : Int) : ref22_row.f K l n lo hi = some (if okL lo hi l = true then (packL lo hi l, ((l.length : Int) == n)) else ([], false)) := by
  unfold ref22_row.f
  have h := rRow_l0 K (by omega) lo hi l hl l.length 0 K [] (by omega) (by omega) (by simp; omega)
  have h' : ref22_row.l0 K K l lo hi 0 [] = _ := h
  rw [h', List.drop_zero, Option.bind_some]
  by_cases hc : okL lo hi l = true
  · rw [if_pos hc, if_pos hc]; rfl
  · rw [if_neg hc, if_neg hc]
/-! ### texts, one behind the other -/
theorem rJoin_l0 (K : Nat) (L : List (List Int)) (hL : L.length ≤ 1000) : ∀ (r i k : Nat) (out : List Int), i + r = L.length → r < k → out.length + (L.drop i).flatten.length ≤ 100000000 → ref01_Join.l0 K k L (i : Int) out = some (out ++ (L.drop i).flatten) := by
  intro r
  induction r with
  | zero =>
    intro i k out hi' hk ho
    obtain ⟨k, rfl⟩ : ∃ m, k = m + 1 := ⟨k - 1, by omega⟩
    have c : ¬ (i : Int) < (L.length : Int) := by omega
    rw [ref01_Join.l0, if_neg c, List.drop_of_length_le (by omega)]
    simp
  | succ r ih =>
    intro i k out hi' hk ho
    obtain ⟨k, rfl⟩ : ∃ m, k = m + 1 := ⟨k - 1, by omega⟩
    have c : (i : Int) < (L.length : Int) := by omega
    have c0 : (0 : Int) ≤ (i : Int) := by omega
    have e4 : iadd .i64 (i : Int) 1 = ((i + 1 : Nat) : Int) := by rw [add64 (by omega) (by omega)]; omega
    have hlt : i < L.length := by omega
    have e0 : rdLL L (i : Int) = L[i] := by simp [rdLL, List.getD_eq_getElem?_getD, hlt]
    rw [List.drop_eq_getElem_cons hlt] at ho ⊢
    rw [List.flatten_cons, List.length_append] at ho
    rw [ref01_Join.l0, if_pos c, if_pos c0, if_pos c, e0, if_pos (by omega), Option.bind_some, e4, ih (i + 1) k _ (by omega) (by omega) (by rw [List.length_append]; omega), List.flatten_cons, List.append_assoc]
theorem rJoin (K : Nat) (hK : 1000 < K) (L : List (List Int)) (hL : L.length ≤ 1000) (ho : L.flatten.length ≤ 100000000) : ref01_Join.f K L = some L.flatten := by
  unfold ref01_Join.f
  have h := rJoin_l0 K L hL L.length 0 K [] (by omega) (by omega) (by simpa using ho)
  have h' : ref01_Join.l0 K K L 0 [] = _ := h
  rw [h', List.drop_zero]
  rfl
/-! ### kinds -/
theorem dKnown (a0 a1 a2 a3 a4 a5 a6 a7 : Int) : dpack_known.f 60000 a0 a1 a2 a3 a4 a5 a6 a7 = some (decide (kind3 a0 a1 a2 a3 a4 a5 a6 a7)) := by
  by_cases h : kind3 a0 a1 a2 a3 a4 a5 a6 a7
  · rw [decide_eq_true h]
    rcases h with ⟨rfl, rfl, rfl, rfl, rfl, rfl, rfl, rfl⟩ | ⟨rfl, rfl, rfl, rfl, rfl, rfl, rfl, rfl⟩ | ⟨rfl, rfl, rfl, rfl, rfl, rfl, rfl, rfl⟩ <;> decide +kernel
  · rw [decide_eq_false h]
    unfold dpack_known.f
    rw [known_l0 60000 59996 a0 a1 a2 a3 a4 a5 a6 a7 h]
    rfl
theorem rKnown (a0 a1 a2 a3 a4 a5 a6 a7 : Int) : ref22_Known.f 60000 a0 a1 a2 a3 a4 a5 a6 a7 = some (decide (kind3 a0 a1 a2 a3 a4 a5 a6 a7)) := by
  by_cases h : kind3 a0 a1 a2 a3 a4 a5 a6 a7
  · rw [decide_eq_true h]
    rcases h with ⟨rfl, rfl, rfl, rfl, rfl, rfl, rfl, rfl⟩ | ⟨rfl, rfl, rfl, rfl, rfl, rfl, rfl, rfl⟩ | ⟨rfl, rfl, rfl, rfl, rfl, rfl, rfl, rfl⟩ <;> decide +kernel
  · rw [decide_eq_false h]
    exact rKnown_no 60000 a0 a1 a2 a3 a4 a5 a6 a7 h
/-! ### the keys -/
theorem orB (b c : Bool) : ((if b = true then (some true) else ((some c).bind fun x => some x) : Option (Bool))) = some (b || c) := by cases b <;> rfl
theorem doneB (b kn : Bool) (o : List Int) (d : Option Bool) (hd : d = some kn) : ((if b = true then (some ([] : List Int)) else (d.bind fun r21 => if r21 = true then (some o) else (some ([] : List Int))) : Option ((List Int)))) = some (if (!b && kn) = true then o else []) := by
  subst hd
  cases b <;> cases kn <;> rfl
def pubS (a0 a1 a2 a3 a4 a5 a6 a7 : Int) (rho : List Int) (t : List (Arr 256)) : List Int :=
  if ((!((((rho.length : Int) != 32) || ((t.length : Int) != a0)) || !okL (-1) 1023 t)) && decide (kind3 a0 a1 a2 a3 a4 a5 a6 a7)) = true then rho ++ packL (-1) 1023 t else []
theorem dPublic (a0 a1 a2 a3 a4 a5 a6 a7 : Int) (rho : List Int) (hr : rho.length ≤ 1000) (t : List (Arr 256)) (ht : t.length ≤ 1000) : dpack_Public.f 60000 a0 a1 a2 a3 a4 a5 a6 a7 rho t = some (pubS a0 a1 a2 a3 a4 a5 a6 a7 rho t) := by
  unfold dpack_Public.f
  rw [Option.bind_some, if_pos (by simp; omega), orB, Option.bind_some]
  have h := rowW 60000 (by decide) (-1) 1023 t ht (fun k z o b => dpack_Public.l0 60000 k t z o b) (fun k z o b => rfl) t.length 0 60000 ([] ++ rho) (((rho.length : Int) != 32) || ((t.length : Int) != a0)) (by omega) (by omega) (by simp; omega)
  have h' : dpack_Public.l0 60000 60000 t 0 ([] ++ rho) (((rho.length : Int) != 32) || ((t.length : Int) != a0)) = _ := h
  rw [h', List.drop_zero, Option.bind_some]
  dsimp only
  rw [doneB _ _ _ _ (dKnown a0 a1 a2 a3 a4 a5 a6 a7)]
  rfl
theorem rPublic (a0 a1 a2 a3 a4 a5 a6 a7 : Int) (rho : List Int) (hr : rho.length ≤ 1000) (t : List (Arr 256)) (ht : t.length ≤ 1000) : ref22_Public.f 60000 a0 a1 a2 a3 a4 a5 a6 a7 rho t = some (pubS a0 a1 a2 a3 a4 a5 a6 a7 rho t) := by
  unfold ref22_Public.f pubS
  have h7 := packL_len (-1) 1023 t
  rw [rRow 60000 (by decide) t ht, rKnown]
  by_cases hok : okL (-1) 1023 t = true
  · rw [if_pos hok, hok]
    rw [Option.bind_some]
    dsimp only
    by_cases hk : kind3 a0 a1 a2 a3 a4 a5 a6 a7
    · rw [decide_eq_true hk]
      by_cases h1 : (t.length : Int) = a0
      · rw [if_pos (by simpa using h1)]
        rw [Option.bind_some, if_pos rfl]
        by_cases h2 : (rho.length : Int) = 32
        · rw [if_pos h2, rJoin 60000 (by decide) _ (by simp) (by simp; omega)]
          simp [h1, h2]
        · rw [if_neg h2]
          simp [h1, h2]
      · rw [if_neg (by simpa using h1)]
        simp [h1]
    · rw [decide_eq_false hk]
      simp
  · rw [if_neg hok, Bool.eq_false_iff.2 hok]
    rw [Option.bind_some]
    dsimp only
    rw [if_neg (by decide)]
    cases decide (kind3 a0 a1 a2 a3 a4 a5 a6 a7) <;> simp
def privS (a0 a1 a2 a3 a4 a5 a6 a7 : Int) (rho key tr : List Int) (s1 s2 t0 : List (Arr 256)) : List Int :=
  if ((!((((((((((rho.length : Int) != 32) || ((key.length : Int) != 32)) || ((tr.length : Int) != 64)) || ((s1.length : Int) != a1)) || !okL a2 a2 s1) || ((s2.length : Int) != a0)) || !okL a2 a2 s2) || ((t0.length : Int) != a0)) || !okL 4095 4096 t0)) && decide (kind3 a0 a1 a2 a3 a4 a5 a6 a7)) = true then
    ((((rho ++ key) ++ tr) ++ packL a2 a2 s1) ++ packL a2 a2 s2) ++ packL 4095 4096 t0 else []
theorem dPrivate (a0 a1 a2 a3 a4 a5 a6 a7 : Int) (rho key tr : List Int) (h1 : rho.length ≤ 1000) (h2 : key.length ≤ 1000) (h3 : tr.length ≤ 1000) (s1 s2 t0 : List (Arr 256)) (h4 : s1.length ≤ 1000) (h5 : s2.length ≤ 1000) (h6 : t0.length ≤ 1000) :
    dpack_Private.f 60000 a0 a1 a2 a3 a4 a5 a6 a7 rho key tr s1 s2 t0 = some (privS a0 a1 a2 a3 a4 a5 a6 a7 rho key tr s1 s2 t0) := by
  have p1 := packL_len a2 a2 s1
  have p2 := packL_len a2 a2 s2
  unfold dpack_Private.f
  rw [Option.bind_some, if_pos (by simp; omega), orB, Option.bind_some, if_pos (by simp; omega), orB, Option.bind_some, if_pos (by simp; omega), orB, Option.bind_some]
  generalize hb1 : (((((rho.length : Int) != 32) || ((key.length : Int) != 32)) || ((tr.length : Int) != 64)) || ((s1.length : Int) != a1)) = b1
  have q1 := rowW 60000 (by decide) a2 a2 s1 h4 (fun k z o b => dpack_Private.l0 60000 k a2 s1 z o b) (fun k z o b => rfl) s1.length 0 60000 ((([] ++ rho) ++ key) ++ tr) b1 (by omega) (by omega) (by simp; omega)
  have q1' : dpack_Private.l0 60000 60000 a2 s1 0 ((([] ++ rho) ++ key) ++ tr) b1 = _ := q1
  rw [q1', List.drop_zero, Option.bind_some]
  dsimp only
  rw [orB, Option.bind_some]
  generalize hb2 : ((b1 || !okL a2 a2 s1) || ((s2.length : Int) != a0)) = b2
  have q2 := rowW 60000 (by decide) a2 a2 s2 h5 (fun k z o b => dpack_Private.l1 60000 k a2 s2 z o b) (fun k z o b => rfl) s2.length 0 60000 ((([] ++ rho) ++ key) ++ tr ++ packL a2 a2 s1) b2 (by omega) (by omega) (by simp; omega)
  have q2' : dpack_Private.l1 60000 60000 a2 s2 0 ((([] ++ rho) ++ key) ++ tr ++ packL a2 a2 s1) b2 = _ := q2
  rw [q2', List.drop_zero, Option.bind_some]
  dsimp only
  rw [orB, Option.bind_some]
  generalize hb3 : ((b2 || !okL a2 a2 s2) || ((t0.length : Int) != a0)) = b3
  have q3 := rowW 60000 (by decide) 4095 4096 t0 h6 (fun k z o b => dpack_Private.l2 60000 k t0 z o b) (fun k z o b => rfl) t0.length 0 60000 ((([] ++ rho) ++ key) ++ tr ++ packL a2 a2 s1 ++ packL a2 a2 s2) b3 (by omega) (by omega) (by simp; omega)
  have q3' : dpack_Private.l2 60000 60000 t0 0 ((([] ++ rho) ++ key) ++ tr ++ packL a2 a2 s1 ++ packL a2 a2 s2) b3 = _ := q3
  rw [q3', List.drop_zero, Option.bind_some]
  dsimp only
  rw [doneB _ _ _ _ (dKnown a0 a1 a2 a3 a4 a5 a6 a7)]
  subst hb3 hb2 hb1
  rfl
theorem rPrivate (a0 a1 a2 a3 a4 a5 a6 a7 : Int) (rho key tr : List Int) (h1 : rho.length ≤ 1000) (h2 : key.length ≤ 1000) (h3 : tr.length ≤ 1000) (s1 s2 t0 : List (Arr 256)) (h4 : s1.length ≤ 1000) (h5 : s2.length ≤ 1000) (h6 : t0.length ≤ 1000) :
    ref22_Private.f 60000 a0 a1 a2 a3 a4 a5 a6 a7 rho key tr s1 s2 t0 = some (privS a0 a1 a2 a3 a4 a5 a6 a7 rho key tr s1 s2 t0) := by
  have p1 := packL_len a2 a2 s1
  have p2 := packL_len a2 a2 s2
  have p3 := packL_len 4095 4096 t0
  unfold ref22_Private.f privS
  rw [rKnown, rRow 60000 (by decide) s1 h4, rRow 60000 (by decide) s2 h5, rRow 60000 (by decide) t0 h6]
  by_cases hk : kind3 a0 a1 a2 a3 a4 a5 a6 a7
  · rw [decide_eq_true hk, Option.bind_some, if_pos rfl]
    by_cases c1 : (rho.length : Int) = 32
    · rw [if_pos c1]
      by_cases c2 : (key.length : Int) = 32
      · rw [if_pos c2]
        by_cases c3 : (tr.length : Int) = 64
        · rw [if_pos c3]
          by_cases o1 : okL a2 a2 s1 = true
          · by_cases n1 : (s1.length : Int) = a1
            · by_cases o2 : okL a2 a2 s2 = true
              · by_cases n2 : (s2.length : Int) = a0
                · by_cases o3 : okL 4095 4096 t0 = true
                  · by_cases n3 : (t0.length : Int) = a0
                    · have hj := rJoin 60000 (by decide) [rho, key, tr, packL a2 a2 s1, packL a2 a2 s2, packL 4095 4096 t0] (by simp) (by simp; omega)
                      simp [o1, n1, o2, n2, o3, n3, c1, c2, c3, hj]
                    · simp [o1, n1, o2, n2, o3, n3, c1, c2, c3]
                  · simp [o1, n1, o2, n2, o3, c1, c2, c3]
                · cases okL 4095 4096 t0 <;> simp [o1, n1, o2, n2, c1, c2, c3]
              · cases okL 4095 4096 t0 <;> simp [o1, n1, o2, c1, c2, c3]
            · cases okL 4095 4096 t0 <;> cases okL a2 a2 s2 <;> simp [o1, n1, c1, c2, c3]
          · cases okL 4095 4096 t0 <;> cases okL a2 a2 s2 <;> simp [o1, c1, c2, c3]
        · rw [if_neg c3]
          simp [c3]
      · rw [if_neg c2]
        simp [c2]
    · rw [if_neg c1]
      simp [c1]
  · rw [decide_eq_false hk]
    simp
/-! ### signatures -/
theorem hintS_cases (h : List (Arr 256)) (m : Int) : hintS h m = [] ∨ (0 ≤ m ∧ m ≤ 100 ∧ 1 ≤ h.length ∧ ((hintS h m).length : Int) = m + h.length) := by
  unfold hintS
  split
  · exact .inl rfl
  split
  · exact .inl rfl
  split
  · exact .inl rfl
  split
  · exact .inl rfl
  split
  · rename_i hc
    simp only [Bool.and_eq_true, decide_eq_true_iff] at hc
    right
    rw [O_len hc.2, endsF_len]
    omega
  · exact .inl rfl
def sigS (a0 a1 a2 a3 a4 a5 a6 a7 : Int) (c : List Int) (z h : List (Arr 256)) : List Int :=
  if (h.length : Int) = a0 then
    (if ((!((((((c.length : Int) != a7) || ((z.length : Int) != a1)) || !okL (isub .i32 a4 1) a4 z)) || (((hintS h a6).length : Int) != iadd .i64 a6 a0))) && decide (kind3 a0 a1 a2 a3 a4 a5 a6 a7)) = true then (c ++ packL (isub .i32 a4 1) a4 z) ++ hintS h a6 else []) else []
theorem dSig (a0 a1 a2 a3 a4 a5 a6 a7 : Int) (c : List Int) (h1 : c.length ≤ 1000) (z h : List (Arr 256)) (h2 : z.length ≤ 1000) (h3 : h.length ≤ 1000) : dpack_Sig.f 60000 a0 a1 a2 a3 a4 a5 a6 a7 c z h = some (sigS a0 a1 a2 a3 a4 a5 a6 a7 c z h) := by
  have p1 := packL_len (isub .i32 a4 1) a4 z
  have p2 := hintS_len h a6
  unfold dpack_Sig.f sigS
  rw [Option.bind_some, if_pos (by simp; omega), orB, Option.bind_some]
  generalize hb1 : (((c.length : Int) != a7) || ((z.length : Int) != a1)) = b1
  have q1 := rowW 60000 (by decide) (isub .i32 a4 1) a4 z h2 (fun k i o b => dpack_Sig.l0 60000 k a4 z i o b) (fun k z o b => rfl) z.length 0 60000 ([] ++ c) b1 (by omega) (by omega) (by simp; omega)
  have q1' : dpack_Sig.l0 60000 60000 a4 z 0 ([] ++ c) b1 = _ := q1
  rw [q1', List.drop_zero, Option.bind_some, dHints 60000 (by decide)]
  by_cases hh : (h.length : Int) = a0
  · rw [if_pos hh]
    dsimp only
    rw [if_pos hh, Option.bind_some, orB, Option.bind_some, if_pos (by simp; omega), doneB _ _ _ _ (dKnown a0 a1 a2 a3 a4 a5 a6 a7)]
    rfl
  · rw [if_neg hh]
    dsimp only
    rw [if_neg hh]
theorem rSig (a0 a1 a2 a3 a4 a5 a6 a7 : Int) (c : List Int) (h1 : c.length ≤ 1000) (z h : List (Arr 256)) (h2 : z.length ≤ 1000) (h3 : h.length ≤ 1000) : ref22_Sig.f 60000 a0 a1 a2 a3 a4 a5 a6 a7 c z h = some (sigS a0 a1 a2 a3 a4 a5 a6 a7 c z h) := by
  have p1 := packL_len (isub .i32 a4 1) a4 z
  have p2 := hintS_len h a6
  unfold ref22_Sig.f sigS
  rw [rKnown, rRow 60000 (by decide) z h2, rHints 60000 (by decide)]
  by_cases hk : kind3 a0 a1 a2 a3 a4 a5 a6 a7
  · rw [decide_eq_true hk, Option.bind_some, if_pos rfl]
    have hadd : (h.length : Int) = a0 → (((hintS h a6).length : Int) = iadd .i64 a6 a0 ↔ ¬ ((hintS h a6).length : Int) = 0) := fun hh => by
      have e : iadd .i64 a6 a0 = a6 + a0 ∧ a6 + a0 ≠ 0 := by
        rcases hk with ⟨rfl, rfl, rfl, rfl, rfl, rfl, rfl, rfl⟩ | ⟨rfl, rfl, rfl, rfl, rfl, rfl, rfl, rfl⟩ | ⟨rfl, rfl, rfl, rfl, rfl, rfl, rfl, rfl⟩ <;> exact ⟨by rw [add64 (by decide) (by decide)], by decide⟩
      rw [e.1]
      rcases hintS_cases h a6 with h4 | ⟨_, _, _, h4⟩
      · rw [h4]
        simp only [List.length_nil]
        omega
      · omega
    by_cases c1 : (c.length : Int) = a7
    · rw [if_pos c1]
      by_cases hh : (h.length : Int) = a0
      · rw [if_pos hh, if_pos hh]
        have hadd := hadd hh
        by_cases o1 : okL (isub .i32 a4 1) a4 z = true
        · by_cases n1 : (z.length : Int) = a1
          · by_cases n2 : ((hintS h a6).length : Int) = 0
            · have n3 : ¬ ((hintS h a6).length : Int) = iadd .i64 a6 a0 := fun e => (hadd.1 e) n2
              simp only [o1, n1, n2, if_true, Option.bind_some, beq_self_eq_true, c1]
              rw [if_neg]
              simp only [Bool.and_eq_true, Bool.not_eq_true', Bool.or_eq_false_iff, bne_eq_false_iff_eq]
              rintro ⟨⟨_, e⟩, _⟩
              exact n3 (n2.trans e)
            · have n3 := hadd.2 n2
              have hj := rJoin 60000 (by decide) [c, packL (isub .i32 a4 1) a4 z, hintS h a6] (by simp) (by simp; omega)
              simp only [o1, n1, n2, if_true, if_false, Option.bind_some, beq_self_eq_true, c1, hj]
              rw [if_pos]
              · simp
              · simp [n3]
          · simp [o1, n1, c1]
        · simp [o1, c1]
      · rw [if_neg hh, if_neg hh]
    · rw [if_neg c1]
      split <;> simp [c1]
  · rw [decide_eq_false hk]
    split <;> simp
theorem pubS_len (a0 a1 a2 a3 a4 a5 a6 a7 : Int) (rho : List Int) (h1 : rho.length ≤ 1000) (t : List (Arr 256)) (h2 : t.length ≤ 60) : (pubS a0 a1 a2 a3 a4 a5 a6 a7 rho t).length ≤ 50000 := by
  have := packL_len (-1) 1023 t
  unfold pubS
  split
  · rw [List.length_append]; omega
  · exact Nat.zero_le _
end Go.Proofs.Ytblploekkjeolaa
