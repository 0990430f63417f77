/- Layer 22 (dpack), plain laws: hints that bytes are, are the document's. -/
import Derived.Test.YtblploekkjeolaaDd
set_option linter.unusedSimpArgs false
set_option linter.unusedVariables false
set_option maxRecDepth 100000
namespace Go.Proofs.Ytblploekkjeolaa
open Go Go.Mx
/-! ### texts that are the same -/
theorem same_l0 (K : Nat) (a b : List Int) (hl : a.length = b.length) (ha : a.length ≤ 1000000) : ∀ (r i k : Nat), i + r = a.length → r < k → ref01_Same.l0 K k a b (i : Int) = some (if a.drop i = b.drop i then .inl () else .inr false) := by
  intro r
  induction r with
  | zero =>
    intro i k hi hk
    obtain ⟨k, rfl⟩ : ∃ m, k = m + 1 := ⟨k - 1, by omega⟩
    have c : ¬ (i : Int) < (a.length : Int) := by omega
    simp only [ref01_Same.l0, c, if_false]
    rw [List.drop_of_length_le (by omega), List.drop_of_length_le (by omega), if_pos rfl]
  | succ r ih =>
    intro i k hi hk
    obtain ⟨k, rfl⟩ : ∃ m, k = m + 1 := ⟨k - 1, by omega⟩
    have hia : i < a.length := by omega
    have hib : i < b.length := by omega
    have c : (i : Int) < (a.length : Int) := by omega
    have c' : (i : Int) < (b.length : Int) := by omega
    have c0 : (0 : Int) ≤ (i : Int) := by omega
    have e4 : iadd .i64 (i : Int) 1 = ((i + 1 : Nat) : Int) := by rw [add64 (by omega) (by omega)]; omega
    have ra : rdL (CI .u8) a (i : Int) = a[i] := by unfold rdL; rw [Int.toNat_natCast, List.getD_eq_getElem?_getD, List.getElem?_eq_getElem hia]; rfl
    have rb' : rdL (CI .u8) b (i : Int) = b[i] := by unfold rdL; rw [Int.toNat_natCast, List.getD_eq_getElem?_getD, List.getElem?_eq_getElem hib]; rfl
    rw [List.drop_eq_getElem_cons hia, List.drop_eq_getElem_cons hib]
    by_cases he : a[i] = b[i]
    · simp only [ref01_Same.l0, c, c', c0, if_true, ra, rb', he, Option.bind_some, e4]
      rw [ih (i + 1) k (by omega) (by omega)]
      by_cases ht : a.drop (i + 1) = b.drop (i + 1)
      · rw [if_pos ht, if_pos (by rw [ht])]
      · rw [if_neg ht, if_neg (fun h => ht (List.cons.inj h).2)]
    · simp only [ref01_Same.l0, c, c', c0, if_true, ra, rb', he, if_false]
      rw [if_neg (fun h => he (List.cons.inj h).1)]
theorem same_eq (K : Nat) (a b : List Int) (ha : a.length ≤ 1000000) (hK : a.length < K) : ref01_Same.f K a b = some (decide (a = b)) := by
  unfold ref01_Same.f
  by_cases hl : a.length = b.length
  · have := same_l0 K a b hl ha a.length 0 K (by omega) hK
    rw [List.drop_zero, List.drop_zero] at this
    have h0 : ((0 : Nat) : Int) = 0 := rfl
    rw [h0] at this
    rw [if_pos (by omega), this, Option.bind_some]
    by_cases he : a = b
    · rw [if_pos he, decide_eq_true he]
    · rw [if_neg he, decide_eq_false he]
  · rw [if_neg (by omega), decide_eq_false (fun h => hl (by rw [h]))]
/-! ### parts of a text -/
def segF (b : List Int) : Nat → Nat → List Int
  | _, 0 => []
  | p, r + 1 => b.getD p 0 :: segF b (p + 1) r
def chkF (b : List Int) (f : Nat) : Nat → Nat → Bool
  | _, 0 => true
  | p, r + 1 => (decide (p ≤ f) || decide (b.getD (p - 1) 0 < b.getD p 0)) && chkF b f (p + 1) r
theorem segF_len (b : List Int) : ∀ (r p : Nat), (segF b p r).length = r
  | 0, _ => rfl
  | r + 1, p => by
    show (segF b (p + 1) r).length + 1 = r + 1
    rw [segF_len b r]
theorem segF_add (b : List Int) : ∀ (r s p : Nat), segF b p (r + s) = segF b p r ++ segF b (p + r) s
  | 0, s, p => by rw [Nat.zero_add]; rfl
  | r + 1, s, p => by
    rw [show r + 1 + s = (r + s) + 1 by omega]
    show b.getD p 0 :: segF b (p + 1) (r + s) = b.getD p 0 :: (segF b (p + 1) r ++ segF b (p + (r + 1)) s)
    rw [segF_add b r s (p + 1), show p + 1 + r = p + (r + 1) by omega]
theorem segF_all (b : List Int) : segF b 0 b.length = b := by
  have key : ∀ (pre t : List Int), segF (pre ++ t) pre.length t.length = t := by
    intro pre t
    induction t generalizing pre with
    | nil => rfl
    | cons x t ih =>
      show (pre ++ x :: t).getD pre.length 0 :: segF (pre ++ x :: t) (pre.length + 1) t.length = _
      have h1 : (pre ++ x :: t).getD pre.length 0 = x := by simp [List.getD_eq_getElem?_getD]
      have h2 := ih (pre ++ [x])
      rw [List.append_assoc, List.length_append] at h2
      rw [h1]
      exact congrArg _ h2
  exact key [] b
theorem segF_mem {b : List Int} (hb : Byt b) : ∀ (r p : Nat), ∀ x ∈ segF b p r, 0 ≤ x ∧ x ≤ 255
  | 0, _, _, h => by cases h
  | r + 1, p, x, h => by
    rcases List.mem_cons.1 h with rfl | h
    · by_cases hp : p < b.length
      · rw [List.getD_eq_getElem?_getD, List.getElem?_eq_getElem hp]
        exact hb _ (List.getElem_mem hp)
      · rw [List.getD_eq_getElem?_getD, List.getElem?_eq_none (by omega)]
        decide
    · exact segF_mem hb r _ x h
theorem chk_iff (b : List Int) (f : Nat) : ∀ (r p : Nat), f < p → (chkF b f p r = true ↔ (b.getD (p - 1) 0 :: segF b p r).Pairwise (· < ·)) := by
  intro r
  induction r with
  | zero => intro p _; simp [chkF, segF]
  | succ r ih =>
    intro p hp
    have h := ih (p + 1) (by omega)
    rw [Nat.add_sub_cancel] at h
    show ((decide (p ≤ f) || decide (b.getD (p - 1) 0 < b.getD p 0)) && chkF b f (p + 1) r) = true ↔ (b.getD (p - 1) 0 :: b.getD p 0 :: segF b (p + 1) r).Pairwise (· < ·)
    rw [decide_eq_false (by omega), Bool.false_or, Bool.and_eq_true, decide_eq_true_iff, h, List.pairwise_cons (a := b.getD (p - 1) 0)]
    constructor
    · rintro ⟨h1, h2⟩
      refine ⟨fun x hx => ?_, h2⟩
      rcases List.mem_cons.1 hx with rfl | hx
      · exact h1
      · exact Int.lt_trans h1 ((List.pairwise_cons.1 h2).1 x hx)
    · rintro ⟨h1, h2⟩
      exact ⟨h1 _ List.mem_cons_self, h2⟩
theorem chk_seg (b : List Int) (f r : Nat) : chkF b f f r = true ↔ (segF b f r).Pairwise (· < ·) := by
  cases r with
  | zero => simp [chkF, segF]
  | succ r =>
    have h := chk_iff b f r (f + 1) (by omega)
    rw [Nat.add_sub_cancel] at h
    show ((decide (f ≤ f) || decide (b.getD (f - 1) 0 < b.getD f 0)) && chkF b f (f + 1) r) = true ↔ _
    rw [decide_eq_true (Nat.le_refl f), Bool.true_or, Bool.true_and]
    exact h
/-! ### polynomials of places -/
def put1 (a : Arr 256) (l : List Int) : Arr 256 := l.foldl (fun a x => wr a x 1) a
def mk (l : List Int) : Arr 256 := put1 (zeroA 256) l
theorem rd_put1 : ∀ (l : List Int) (a : Arr 256), (∀ x ∈ l, 0 ≤ x ∧ x ≤ 255) → ∀ j : Nat, j < 256 → rd (put1 a l) (j : Int) = if (j : Int) ∈ l then 1 else rd a (j : Int)
  | [], a, _, j, _ => by rw [if_neg (by simp)]; rfl
  | x :: l, a, hx, j, hj => by
    show rd (put1 (wr a x 1) l) (j : Int) = _
    obtain ⟨h0, h1⟩ := hx x List.mem_cons_self
    obtain ⟨x, rfl⟩ := Int.eq_ofNat_of_zero_le h0
    rw [rd_put1 l _ (fun y hy => hx y (List.mem_cons_of_mem _ hy)) j hj, rd_wr _ _ _ _ hj]
    by_cases h2 : (j : Int) ∈ l
    · rw [if_pos h2, if_pos (List.mem_cons_of_mem _ h2)]
    · rw [if_neg h2]
      by_cases h3 : x = j
      · subst h3; rw [if_pos rfl, if_pos List.mem_cons_self]
      · rw [if_neg h3, if_neg]
        intro h4
        rcases List.mem_cons.1 h4 with h4 | h4
        · omega
        · exact h2 h4
theorem posF_of (a : Arr 256) : ∀ (r j : Nat) (l : List Int), l.Pairwise (· < ·) → (∀ x ∈ l, (j : Int) ≤ x ∧ x < (j + r : Nat)) → (∀ x : Nat, j ≤ x → x < j + r → (rd a (x : Int) = 1 ↔ (x : Int) ∈ l)) → posF a j r = l := by
  intro r
  induction r with
  | zero =>
    intro j l _ hx _
    cases l with
    | nil => rfl
    | cons s t => have := hx s List.mem_cons_self; omega
  | succ r ih =>
    intro j l hl hx hm
    have hj := hm j (Nat.le_refl _) (by omega)
    unfold posF
    by_cases h1 : rd a (j : Int) = 1
    · rw [if_pos h1]
      have hmem := hj.1 h1
      cases l with
      | nil => cases hmem
      | cons s t =>
        obtain ⟨p1, p2⟩ := List.pairwise_cons.1 hl
        have hs : s = (j : Int) := by
          rcases List.mem_cons.1 hmem with h | h
          · exact h.symm
          · have := p1 _ h
            have := (hx s List.mem_cons_self).1
            omega
        subst hs
        refine congrArg _ (ih (j + 1) t p2 (fun x hxt => ?_) fun x hx1 hx2 => ?_)
        · have := p1 x hxt
          have := (hx x (List.mem_cons_of_mem _ hxt)).2
          constructor <;> omega
        · rw [hm x (by omega) (by omega), List.mem_cons]
          constructor
          · rintro (h | h)
            · omega
            · exact h
          · exact .inr
    · rw [if_neg h1]
      have hn : ¬ (j : Int) ∈ l := fun h => h1 (hj.2 h)
      refine ih (j + 1) l hl (fun x hxt => ?_) fun x hx1 hx2 => hm x (by omega) (by omega)
      obtain ⟨q1, q2⟩ := hx x hxt
      refine ⟨?_, by omega⟩
      have : x ≠ (j : Int) := fun h => hn (h ▸ hxt)
      omega
theorem posF_inc (a : Arr 256) : ∀ (r j : Nat), (posF a j r).Pairwise (· < ·) ∧ ∀ x ∈ posF a j r, (j : Int) ≤ x
  | 0, _ => ⟨.nil, fun _ h => by cases h⟩
  | r + 1, j => by
    obtain ⟨h1, h2⟩ := posF_inc a r (j + 1)
    unfold posF
    split
    · refine ⟨List.pairwise_cons.2 ⟨fun x hx => ?_, h1⟩, fun x hx => ?_⟩
      · have := h2 x hx; omega
      · rcases List.mem_cons.1 hx with rfl | hx
        · exact Int.le_refl _
        · have := h2 x hx; omega
    · exact ⟨h1, fun x hx => by have := h2 x hx; omega⟩
theorem pos_mk {l : List Int} (hl : l.Pairwise (· < ·)) (hb : ∀ x ∈ l, 0 ≤ x ∧ x ≤ 255) : pos (mk l) = l := by
  refine posF_of _ 256 0 l hl (fun x hx => ?_) fun x _ hx => ?_
  · have := hb x hx
    constructor <;> omega
  · have := rd_put1 l (zeroA 256) hb x (by omega)
    show rd (put1 (zeroA 256) l) (x : Int) = 1 ↔ _
    rw [this]
    by_cases h : (x : Int) ∈ l
    · rw [if_pos h]; exact ⟨fun _ => h, fun _ => rfl⟩
    · rw [if_neg h, rd_zeroA _ (by omega)]
      exact ⟨fun h2 => absurd h2 (by decide), fun h2 => absurd h2 h⟩
theorem binF_of (a : Arr 256) : ∀ (r j : Nat), (∀ x : Nat, j ≤ x → x < j + r → rd a (x : Int) = 0 ∨ rd a (x : Int) = 1) → binF a j r = true
  | 0, _, _ => rfl
  | r + 1, j, h => by
    show ((rd a (j : Int) == 0 || rd a (j : Int) == 1) && binF a (j + 1) r) = true
    rw [binF_of a r (j + 1) (fun x h1 h2 => h x (by omega) (by omega)), Bool.and_true]
    rcases h j (Nat.le_refl _) (by omega) with h | h <;> rw [h] <;> decide
theorem bin_mk {l : List Int} (hb : ∀ x ∈ l, 0 ≤ x ∧ x ≤ 255) : bin (mk l) = true := by
  refine binF_of _ 256 0 fun x _ hx => ?_
  show rd (put1 (zeroA 256) l) (x : Int) = 0 ∨ rd (put1 (zeroA 256) l) (x : Int) = 1
  rw [rd_put1 l (zeroA 256) hb x (by omega)]
  by_cases h : (x : Int) ∈ l
  · rw [if_pos h]; exact .inr rfl
  · rw [if_neg h, rd_zeroA _ (by omega)]; exact .inl rfl
/-! ### what both do -/
def eAt (b : List Int) (m i : Nat) : Nat := (b.getD (m + i) 0).toNat
def pu (b : List Int) (m : Nat) : Nat → Nat → Nat → Option (List (Arr 256) × Nat)
  | at_, _, 0 => some ([], at_)
  | at_, i, r + 1 =>
    if eAt b m i < at_ then none else if eAt b m i > m then none else
      if chkF b at_ at_ (eAt b m i - at_) = true then
        match pu b m (eAt b m i) (i + 1) r with
        | some q => some (mk (segF b at_ (eAt b m i - at_)) :: q.1, q.2)
        | none => none
      else none
def ru (b : List Int) (m : Nat) : Nat → Nat → Nat → List (Arr 256)
  | _, _, 0 => []
  | at_, i, r + 1 => mk (segF b at_ (min (eAt b m i) m - at_)) :: ru b m (at_ + (min (eAt b m i) m - at_)) (i + 1) r
theorem pu_ru {b : List Int} (hb : Byt b) (m : Nat) (hm : m ≤ 100) (k : Nat) (hbl : b.length = k + m) : ∀ (r at_ i : Nat) (l : List (Arr 256)) (z : Nat), i + r = k → at_ ≤ m → pu b m at_ i r = some (l, z) →
    ru b m at_ i r = l ∧ allBin l = true ∧ at_ ≤ z ∧ z ≤ m ∧ places l = segF b at_ (z - at_) ∧ endsF at_ l = segF b (m + i) r ∧ l.length = r := by
  intro r
  induction r with
  | zero =>
    intro at_ i l z hi ha h
    obtain ⟨rfl, rfl⟩ : ([] : List (Arr 256)) = l ∧ at_ = z := Prod.mk.inj (Option.some.inj h)
    rw [Nat.sub_self]
    exact ⟨rfl, rfl, Nat.le_refl _, ha, rfl, rfl, rfl⟩
  | succ r ih =>
    intro at_ i l z hi ha h
    unfold pu at h
    by_cases h1 : eAt b m i < at_
    · rw [if_pos h1] at h; cases h
    rw [if_neg h1] at h
    by_cases h2 : eAt b m i > m
    · rw [if_pos h2] at h; cases h
    rw [if_neg h2] at h
    by_cases h3 : chkF b at_ at_ (eAt b m i - at_) = true
    · rw [if_pos h3] at h
      cases hp : pu b m (eAt b m i) (i + 1) r with
      | none => rw [hp] at h; cases h
      | some q =>
        rw [hp] at h
        obtain ⟨q1, q2⟩ := q
        obtain ⟨rfl, rfl⟩ := Prod.mk.inj (Option.some.inj h)
        obtain ⟨i1, i2, i3, i4, i5, i6, i7⟩ := ih (eAt b m i) (i + 1) q1 q2 (by omega) (by omega) hp
        have hbs := segF_mem hb (eAt b m i - at_) at_
        have hps := pos_mk ((chk_seg b at_ (eAt b m i - at_)).1 h3) hbs
        have e1 : at_ + (min (eAt b m i) m - at_) = eAt b m i := by omega
        have e2 : min (eAt b m i) m - at_ = eAt b m i - at_ := by omega
        have hval : (((eAt b m i : Nat)) : Int) = b.getD (m + i) 0 := by
          unfold eAt
          have : 0 ≤ b.getD (m + i) 0 := by
            have := (segF_mem hb 1 (m + i) (b.getD (m + i) 0) (by simp [segF])).1
            exact this
          omega
        refine ⟨?_, ?_, by omega, i4, ?_, ?_, ?_⟩
        · show mk (segF b at_ (min (eAt b m i) m - at_)) :: ru b m (at_ + (min (eAt b m i) m - at_)) (i + 1) r = _
          rw [e1, e2, i1]
        · show (bin (mk _) && allBin q1) = true
          rw [bin_mk hbs, i2]; rfl
        · show pos (mk _) ++ places q1 = _
          rw [hps, i5, show q2 - at_ = (eAt b m i - at_) + (q2 - eAt b m i) by omega, segF_add, show at_ + (eAt b m i - at_) = eAt b m i by omega]
        · show ((at_ + (pos (mk _)).length : Nat) : Int) :: endsF (at_ + (pos (mk _)).length) q1 = b.getD (m + i) 0 :: segF b (m + i + 1) r
          rw [hps, segF_len, show at_ + (eAt b m i - at_) = eAt b m i by omega, hval, i6]
          rfl
        · show q1.length + 1 = r + 1
          rw [i7]
    · rw [if_neg h3] at h; cases h
theorem segF_prefix {b : List Int} {p n : Nat} {x y : List Int} (h : x ++ y = segF b p n) : x = segF b p x.length ∧ y = segF b (p + x.length) y.length := by
  have hn : n = x.length + y.length := by rw [← List.length_append, h, segF_len]
  subst hn
  rw [segF_add] at h
  exact List.append_inj h (by rw [segF_len])
theorem ru_pu {b : List Int} (m : Nat) (hm : m ≤ 100) (k : Nat) (hbl : b.length = k + m) (hb : Byt b) : ∀ (r at_ i : Nat), i + r = k → at_ ≤ m → endsF at_ (ru b m at_ i r) = segF b (m + i) r → at_ + (places (ru b m at_ i r)).length ≤ m →
    places (ru b m at_ i r) = segF b at_ (places (ru b m at_ i r)).length → ∃ z, pu b m at_ i r = some (ru b m at_ i r, z) := by
  intro r
  induction r with
  | zero => intro at_ i _ _ _ _ _; exact ⟨at_, rfl⟩
  | succ r ih =>
    intro at_ i hi ha he hl hp
    have hval : (((eAt b m i : Nat)) : Int) = b.getD (m + i) 0 := by
      unfold eAt
      have : 0 ≤ b.getD (m + i) 0 := (segF_mem hb 1 (m + i) (b.getD (m + i) 0) (by simp [segF])).1
      omega
    have hr : ru b m at_ i (r + 1) = mk (segF b at_ (min (eAt b m i) m - at_)) :: ru b m (at_ + (min (eAt b m i) m - at_)) (i + 1) r := rfl
    rw [hr] at he hl hp
    generalize ha' : mk (segF b at_ (min (eAt b m i) m - at_)) = a at he hl hp
    have he1 : ((at_ + (pos a).length : Nat) : Int) :: endsF (at_ + (pos a).length) (ru b m (at_ + (min (eAt b m i) m - at_)) (i + 1) r) = b.getD (m + i) 0 :: segF b (m + i + 1) r := he
    obtain ⟨he2, he3⟩ := List.cons.inj he1
    have hpl : places (a :: ru b m (at_ + (min (eAt b m i) m - at_)) (i + 1) r) = pos a ++ places (ru b m (at_ + (min (eAt b m i) m - at_)) (i + 1) r) := rfl
    rw [hpl] at hl hp
    rw [List.length_append] at hl
    have hea : eAt b m i = at_ + (pos a).length := by omega
    have e1 : at_ + (min (eAt b m i) m - at_) = eAt b m i := by omega
    have e2 : min (eAt b m i) m - at_ = eAt b m i - at_ := by omega
    rw [e1] at he3 hl hp
    obtain ⟨hp1, hp2⟩ := segF_prefix hp
    have hchk : chkF b at_ at_ (eAt b m i - at_) = true := by
      rw [chk_seg, show eAt b m i - at_ = (pos a).length by omega, ← hp1]
      exact (posF_inc a 256 0).1
    rw [← hea] at he3 hp2
    obtain ⟨z, hz⟩ := ih (eAt b m i) (i + 1) (by omega) (by omega) (by rw [he3]; rfl) (by omega) hp2
    refine ⟨z, ?_⟩
    unfold pu
    rw [if_neg (by omega), if_neg (by omega), if_pos hchk, hz, hr, e1, e2]
def zerB (b : List Int) (z n : Nat) : Bool := (segF b z n).all (fun x => x == 0)
def unhS (b : List Int) (k m : Nat) : List (Arr 256) × Bool :=
  match pu b m 0 0 k with
  | none => ([], false)
  | some (l, z) => if zerB b z (m - z) = true then (l, true) else ([], false)
theorem zer_iff (b : List Int) : ∀ (n z : Nat), zerB b z n = true ↔ segF b z n = List.replicate n 0
  | 0, z => by simp [zerB, segF]
  | n + 1, z => by
    have h := zer_iff b n (z + 1)
    unfold zerB at h ⊢
    show ((b.getD z 0 == 0) && (segF b (z + 1) n).all (fun x => x == 0)) = true ↔ b.getD z 0 :: segF b (z + 1) n = 0 :: List.replicate n 0
    rw [Bool.and_eq_true, beq_iff_eq, h, List.cons.injEq]
/-- What the document does tells the same. -/
theorem unh_doc {b : List Int} (hb : Byt b) (k m : Nat) (hk : 1 ≤ k) (hk2 : k ≤ 100) (hm0 : 1 ≤ m) (hm : m ≤ 100) (hbl : b.length = k + m) :
    (if decide (hintS (ru b m 0 0 k) (m : Int) = b) = true then (ru b m 0 0 k, true) else (([] : List (Arr 256)), false)) = unhS b k m := by
  have hsplit : b = segF b 0 m ++ segF b m k := by
    have := segF_all b
    rw [hbl, Nat.add_comm, segF_add, Nat.zero_add] at this
    exact this.symm
  have hrl : ∀ (r at_ i : Nat), (ru b m at_ i r).length = r := by
    intro r
    induction r with
    | zero => intro _ _; rfl
    | succ r ih => intro at_ i; show (ru b m _ _ r).length + 1 = r + 1; rw [ih]
  have hs : ∀ l : List (Arr 256), l.length = k → hintS l (m : Int) = if (allBin l && decide ((places l).length ≤ m)) = true then O m (places l) (endsF 0 l) else [] := fun l hl => by
    unfold hintS
    rw [if_neg (by omega), if_neg (by omega), if_neg (by omega), if_neg (by omega), Int.toNat_natCast]
  unfold unhS
  cases hp : pu b m 0 0 k with
  | some q =>
    obtain ⟨l, z⟩ := q
    obtain ⟨i1, i2, i3, i4, i5, i6, i7⟩ := pu_ru hb m hm k hbl k 0 0 l z (by omega) (by omega) hp
    rw [i1, hs l i7, i2, i5, i6, segF_len, Nat.sub_zero, Bool.true_and, decide_eq_true (p := z ≤ m) i4, if_pos rfl, Nat.add_zero]
    have hiff : O m (segF b 0 z) (segF b m k) = b ↔ zerB b z (m - z) = true := by
      rw [zer_iff]
      unfold O
      rw [segF_len]
      conv => lhs; rhs; rw [hsplit]
      rw [← List.append_assoc]
      have e : segF b 0 m = segF b 0 z ++ segF b z (m - z) := by
        have := segF_add b z (m - z) 0
        rw [Nat.zero_add] at this
        rw [← this, show z + (m - z) = m by omega]
      rw [e]
      constructor
      · intro h
        have h1 := (List.append_inj' h rfl).1
        exact ((List.append_inj h1 rfl).2).symm
      · intro h
        rw [h]
    by_cases hz : zerB b z (m - z) = true
    · rw [if_pos (decide_eq_true (hiff.2 hz))]
      show _ = if zerB b z (m - z) = true then (l, true) else ([], false)
      rw [if_pos hz]
    · rw [if_neg (by rw [decide_eq_true_iff]; exact fun h => hz (hiff.1 h))]
      show _ = if zerB b z (m - z) = true then (l, true) else ([], false)
      rw [if_neg hz]
  | none =>
    show _ = (([] : List (Arr 256)), false)
    rw [if_neg]
    rw [decide_eq_true_iff]
    intro h
    rw [hs _ (hrl k 0 0)] at h
    by_cases hc : (allBin (ru b m 0 0 k) && decide ((places (ru b m 0 0 k)).length ≤ m)) = true
    · rw [if_pos hc] at h
      simp only [Bool.and_eq_true, decide_eq_true_iff] at hc
      have h' := h.trans hsplit
      unfold O at h'
      rw [← List.append_assoc] at h'
      have hl1 : (places (ru b m 0 0 k) ++ List.replicate (m - (places (ru b m 0 0 k)).length) (0 : Int)).length = (segF b 0 m).length := by
        rw [List.length_append, List.length_replicate, segF_len]; omega
      obtain ⟨h1, h2⟩ := List.append_inj h' hl1
      obtain ⟨h3, _⟩ := segF_prefix h1
      obtain ⟨z, hz⟩ := ru_pu m hm k hbl hb k 0 0 (by omega) (by omega) (by rw [h2]; rfl) (by omega) h3
      rw [hp] at hz
      cases hz
    · rw [if_neg hc] at h
      have : b.length = 0 := by rw [← h]; rfl
      omega
end Go.Proofs.Ytblploekkjeolaa
