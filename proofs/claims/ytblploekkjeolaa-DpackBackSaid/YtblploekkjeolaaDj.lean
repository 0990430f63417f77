/- Layer 22 (dpack), plain laws: there and back. -/
import Derived.Test.YtblploekkjeolaaDh
import Derived.Test.YtblploekkjeolaaDi
set_option linter.unusedSimpArgs false
set_option linter.unusedVariables false
set_option maxRecDepth 100000
namespace Go.Proofs.Ytblploekkjeolaa
open Go Go.Mx
def dign (d : Nat) : Nat → Nat → List Nat
  | 0, _ => []
  | n + 1, M => M % 2 ^ d :: dign d n (M / 2 ^ d)
theorem dig_dign (d : Nat) : ∀ n M, dig d n M = (dign d n M).map fun (x : Nat) => (x : Int)
  | 0, _ => rfl
  | n + 1, M => by
    show ((M % 2 ^ d : Nat) : Int) :: dig d n (M / 2 ^ d) = ((M % 2 ^ d : Nat) : Int) :: (dign d n (M / 2 ^ d)).map _
    rw [dig_dign d n]
theorem dign_len (d : Nat) : ∀ n M, (dign d n M).length = n
  | 0, _ => rfl
  | n + 1, M => by simp [dign, dign_len d n]
theorem ND_dign (d : Nat) : ∀ n M, ND d (dign d n M) = M % 2 ^ (d * n)
  | 0, M => by simp [dign, ND, Nat.mod_one]
  | n + 1, M => by
    show M % 2 ^ d % 2 ^ d + 2 ^ d * ND d (dign d n (M / 2 ^ d)) = _
    rw [ND_dign d n, Nat.mod_mod, Nat.mul_add, Nat.mul_one, Nat.add_comm (d * n) d, Nat.pow_add, Nat.mod_mul]
theorem dign_ND (d : Nat) : ∀ l : List Nat, (∀ x ∈ l, x < 2 ^ d) → dign d l.length (ND d l) = l
  | [], _ => rfl
  | x :: l, h => by
    have hx := h x List.mem_cons_self
    show (x % 2 ^ d + 2 ^ d * ND d l) % 2 ^ d :: dign d l.length ((x % 2 ^ d + 2 ^ d * ND d l) / 2 ^ d) = x :: l
    rw [Nat.mod_eq_of_lt hx, Nat.add_mul_mod_self_left, Nat.mod_eq_of_lt hx, Nat.add_mul_div_left _ _ (Nat.two_pow_pos d), Nat.div_eq_of_lt hx, Nat.zero_add, dign_ND d l fun y hy => h y (List.mem_cons_of_mem _ hy)]
theorem ND_lt' (d m : Nat) (l : List Nat) (hm : d * l.length = 8 * m) : ND d l < 256 ^ m := by
  rw [two_mul8, ← hm]
  exact ND_lt d l
theorem allS_lt {lo hi : Int} (hf : fitS lo hi = true) : allS lo hi < 2 ^ widS lo hi := by
  obtain ⟨_, h2, _⟩ := allS_eq hf
  exact blF_lt 32 _ (Nat.lt_of_lt_of_le h2 (Nat.pow_le_pow_right (by decide) (by decide)))
theorem valP_le {lo hi x : Int} (hf : fitS lo hi = true) (h0 : 0 ≤ x) (h1 : x < 8380417) (hok : okP lo hi x = true) : valP lo hi x ≤ allS lo hi ∧ bkS lo hi ((valP lo hi x : Nat) : Int) = x := by
  obtain ⟨l0, l1, l2, l3⟩ := fitS_iff.1 hf
  unfold okP at hok
  unfold valP allS bkS cen
  unfold cen at hok
  by_cases hl : lo < 0
  · rw [if_pos hl] at hok ⊢
    have := of_decide_eq_true hok
    rw [if_pos hl, if_pos hl]
    omega
  · rw [if_neg hl] at hok
    simp only [Bool.and_eq_true, decide_eq_true_iff] at hok
    rw [if_neg hl, if_neg hl, if_neg hl]
    split at hok <;> split <;> (try split) <;> omega
theorem getD_map (l : List Nat) (i : Nat) (h : i < l.length) : (l.map fun (x : Nat) => (x : Int)).getD i 0 = ((l[i] : Nat) : Int) := by
  rw [List.getD_eq_getElem?_getD, List.getElem?_map, List.getElem?_eq_getElem h]; rfl
/-- what is packed is read as it -/
theorem unp_packP {lo hi : Int} {a : Arr 256} (h : packS lo hi a ≠ []) : unpS lo hi (packS lo hi a) = (a, true) := by
  unfold packS at h ⊢
  by_cases hf : fitS lo hi = true
  · rw [if_pos hf] at h ⊢
    by_cases hq : allA fitQ a = true
    · rw [if_pos hq] at h ⊢
      by_cases ho : (List.range 256).all (fun (i : Nat) => okP lo hi (rd a (i : Int))) = true
      · rw [if_pos ho] at h ⊢
        obtain ⟨w1, w2⟩ := widS_bd hf
        have ha := fitP_of hq
        have hv : ∀ i : Nat, i < 256 → valP lo hi (rd a (i : Int)) ≤ allS lo hi ∧ bkS lo hi ((valP lo hi (rd a (i : Int)) : Nat) : Int) = rd a (i : Int) := fun i hi' => valP_le hf (ha i hi').1 (ha i hi').2 (List.all_eq_true.1 ho i (List.mem_range.2 hi'))
        have hlt := allS_lt hf
        generalize hV : ((List.range 256).map fun (i : Nat) => valP lo hi (rd a (i : Int))) = V
        have hlen : V.length = 256 := by rw [← hV]; simp
        have hget : ∀ (i : Nat) (hi' : i < V.length), V[i] = valP lo hi (rd a (i : Int)) := fun i hi' => by subst hV; simp
        have hVlt : ∀ x ∈ V, x < 2 ^ widS lo hi := fun x hx => by
          obtain ⟨i, hi', rfl⟩ := List.mem_iff_getElem.1 hx
          rw [hget i hi']
          have := (hv i (by omega)).1
          omega
        have hN : NB (dig 8 ((widS lo hi * 256 + 7) / 8) (ND (widS lo hi) V)) = ND (widS lo hi) V := by
          rw [NB_dig, Nat.mod_eq_of_lt]
          exact ND_lt' _ _ _ (by rw [hlen]; omega)
        have hD : dig (widS lo hi) 256 (ND (widS lo hi) V) = V.map fun (x : Nat) => (x : Int) := by
          rw [dig_dign]
          have := dign_ND (widS lo hi) V hVlt
          rw [hlen] at this
          rw [this]
        unfold unpS
        rw [if_pos hf, if_pos (by rw [dig_len]; omega), hN, hD, if_pos]
        · refine Prod.ext (arr_ext fun i hi' => ?_) rfl
          show rd (mapA 256 fun i => bkS lo hi ((V.map fun (x : Nat) => (x : Int)).getD i 0)) (i : Int) = _
          rw [rd_mapA _ _ hi', getD_map V i (by omega), hget, (hv i hi').2]
        · refine List.all_eq_true.2 fun i hi' => decide_eq_true ?_
          have hi2 := List.mem_range.1 hi'
          rw [getD_map V i (by omega), hget]
          have := (hv i hi2).1
          omega
      · rw [if_neg ho] at h; exact absurd rfl h
    · rw [if_neg hq] at h; exact absurd rfl h
  · rw [if_neg hf] at h; exact absurd rfl h
theorem bkS_ok {lo hi : Int} (hf : fitS lo hi = true) {v : Nat} (hv : v ≤ allS lo hi) : (0 ≤ bkS lo hi (v : Int) ∧ bkS lo hi (v : Int) < 8380417) ∧ okP lo hi (bkS lo hi (v : Int)) = true ∧ valP lo hi (bkS lo hi (v : Int)) = v := by
  obtain ⟨l0, l1, l2, l3⟩ := fitS_iff.1 hf
  unfold allS at hv
  by_cases hl : lo < 0
  · have e : bkS lo hi (v : Int) = v := by unfold bkS; rw [if_pos hl]
    rw [e]
    rw [if_pos hl] at hv
    refine ⟨by omega, ?_, ?_⟩
    · unfold okP; rw [if_pos hl]; exact decide_eq_true (by omega)
    · unfold valP; rw [if_pos hl]; omega
  · rw [if_neg hl] at hv
    have e : bkS lo hi (v : Int) = if hi - v < 0 then hi - v + 8380417 else hi - v := by unfold bkS; rw [if_neg hl]
    have ec : cen (bkS lo hi (v : Int)) = hi - v := by
      rw [e]
      unfold cen
      split <;> split <;> omega
    refine ⟨by rw [e]; split <;> omega, ?_, ?_⟩
    · unfold okP
      rw [if_neg hl, ec]
      simp only [Bool.and_eq_true, decide_eq_true_iff]
      omega
    · unfold valP
      rw [if_neg hl, ec]
      omega
/-- bytes that are read are packed so again -/
theorem pack_unpP {lo hi : Int} {b : List Int} {c : Arr 256} (hb : Byt b) (h : unpS lo hi b = (c, true)) : packS lo hi c = b ∧ b.length = 32 * widS lo hi ∧ 1 ≤ widS lo hi := by
  unfold unpS at h
  by_cases hf : fitS lo hi = true
  · rw [if_pos hf] at h
    by_cases hl : b.length = 32 * widS lo hi
    · rw [if_pos hl] at h
      by_cases hall : (List.range 256).all (fun i => decide ((dig (widS lo hi) 256 (NB b)).getD i 0 ≤ allS lo hi)) = true
      · rw [if_pos hall] at h
        obtain ⟨rfl, _⟩ := Prod.mk.inj h
        obtain ⟨w1, w2⟩ := widS_bd hf
        refine ⟨?_, hl, w1⟩
        have hg : ∀ i : Nat, i < 256 → ∃ v : Nat, (dig (widS lo hi) 256 (NB b)).getD i 0 = (v : Int) ∧ v ≤ allS lo hi := fun i hi' => by
          obtain ⟨v, hv, _⟩ := getD_dig (d := widS lo hi) (n := 256) (M := NB b) hi'
          have := of_decide_eq_true (List.all_eq_true.1 hall i (List.mem_range.2 hi'))
          rw [hv] at this
          exact ⟨v, hv, by omega⟩
        have hr : ∀ i : Nat, i < 256 → rd (mapA 256 fun i => bkS lo hi ((dig (widS lo hi) 256 (NB b)).getD i 0)) (i : Int) = bkS lo hi ((dig (widS lo hi) 256 (NB b)).getD i 0) := fun i hi' => rd_mapA _ _ hi'
        unfold packS
        rw [if_pos hf, if_pos, if_pos]
        · have hV : ((List.range 256).map fun (i : Nat) => valP lo hi (rd (mapA 256 fun i => bkS lo hi ((dig (widS lo hi) 256 (NB b)).getD i 0)) (i : Int))) = dign (widS lo hi) 256 (NB b) := by
            refine List.ext_getElem (by rw [dign_len]; simp) fun i h1 h2 => ?_
            rw [dign_len] at h2
            rw [List.getElem_map, List.getElem_range, hr i h2]
            obtain ⟨v, hv, hle⟩ := hg i h2
            rw [hv, (bkS_ok hf hle).2.2]
            have e := getD_map (dign (widS lo hi) 256 (NB b)) i (by rw [dign_len]; exact h2)
            rw [← dig_dign, hv] at e
            exact Int.ofNat_inj.1 e
          rw [hV, ND_dign]
          have hlt := NB_lt hb
          rw [two_mul8, hl, show 8 * (32 * widS lo hi) = widS lo hi * 256 by omega] at hlt
          rw [Nat.mod_eq_of_lt hlt]
          refine NB_inj (dig_byt _ _) hb (by rw [dig_len]; omega) ?_
          rw [NB_dig, Nat.mod_eq_of_lt]
          rw [two_mul8, show 8 * ((widS lo hi * 256 + 7) / 8) = widS lo hi * 256 by omega]
          exact hlt
        · refine List.all_eq_true.2 fun i hi' => ?_
          have h2 := List.mem_range.1 hi'
          obtain ⟨v, hv, hle⟩ := hg i h2
          rw [hr i h2, hv]
          exact (bkS_ok hf hle).2.1
        · refine of_fitP fun i hi' => ?_
          obtain ⟨v, hv, hle⟩ := hg i hi'
          rw [hr i hi', hv]
          exact (bkS_ok hf hle).1
      · rw [if_neg hall] at h; cases (Prod.mk.inj h).2
    · rw [if_neg hl] at h; cases (Prod.mk.inj h).2
  · rw [if_neg hf] at h; cases (Prod.mk.inj h).2
/-! ### rows -/
theorem rows_back {lo hi : Int} : ∀ (n : Nat) (b : List Int), Byt b → n * (32 * widS lo hi) ≤ b.length → rdK lo hi n b = true → packL lo hi (rdR lo hi n b) = b.take (n * (32 * widS lo hi)) ∧ okL lo hi (rdR lo hi n b) = true
  | 0, b, _, _, _ => by rw [Nat.zero_mul]; exact ⟨rfl, rfl⟩
  | n + 1, b, hb, hl, hk => by
    have hm : (n + 1) * (32 * widS lo hi) = n * (32 * widS lo hi) + 32 * widS lo hi := Nat.succ_mul _ _
    have hk' : ((unpS lo hi (b.take (32 * widS lo hi))).2 && rdK lo hi n (b.drop (32 * widS lo hi))) = true := hk
    rw [Bool.and_eq_true] at hk'
    obtain ⟨c, ok, hu⟩ : ∃ c ok, unpS lo hi (b.take (32 * widS lo hi)) = (c, ok) := ⟨_, _, rfl⟩
    rw [hu] at hk'
    obtain rfl : ok = true := hk'.1
    obtain ⟨h1, h2, h3⟩ := pack_unpP (bytTake hb _) hu
    obtain ⟨i1, i2⟩ := rows_back n (b.drop (32 * widS lo hi)) (bytDrop hb _) (by rw [List.length_drop]; omega) hk'.2
    have e : rdR lo hi (n + 1) b = c :: rdR lo hi n (b.drop (32 * widS lo hi)) := by show (unpS lo hi (b.take (32 * widS lo hi))).1 :: _ = _; rw [hu]
    rw [e]
    constructor
    · show packS lo hi c ++ packL lo hi (rdR lo hi n (b.drop (32 * widS lo hi))) = _
      rw [h1, i1, hm, Nat.add_comm, List.take_add]
    · show (!(packS lo hi c).isEmpty && okL lo hi (rdR lo hi n (b.drop (32 * widS lo hi)))) = true
      rw [i2, h1, Bool.and_true]
      cases hc : b.take (32 * widS lo hi) with
      | nil => rw [hc] at h2; simp at h2; omega
      | cons _ _ => rfl
/-! ### hints -/
theorem segF_sub (b : List Int) : ∀ (n p : Nat), p + n ≤ b.length → segF b p n = (b.drop p).take n
  | 0, p, _ => by simp [segF]
  | n + 1, p, h => by
    have hp : p < b.length := by omega
    show b.getD p 0 :: segF b (p + 1) n = _
    rw [segF_sub b n (p + 1) (by omega), List.drop_eq_getElem_cons hp, List.take_succ_cons, List.getD_eq_getElem?_getD, List.getElem?_eq_getElem hp]
    rfl
theorem mem_posF (a : Arr 256) : ∀ (r j : Nat) (x : Nat), ((x : Int) ∈ posF a j r ↔ j ≤ x ∧ x < j + r ∧ rd a (x : Int) = 1)
  | 0, j, x => by simp [posF]; omega
  | r + 1, j, x => by
    have ih := mem_posF a r (j + 1) x
    unfold posF
    by_cases h : rd a (j : Int) = 1
    · rw [if_pos h, List.mem_cons, ih]
      constructor
      · rintro (h1 | h1)
        · obtain rfl : x = j := by omega
          exact ⟨Nat.le_refl _, by omega, h⟩
        · exact ⟨by omega, by omega, h1.2.2⟩
      · rintro ⟨h1, h2, h3⟩
        by_cases hx : x = j
        · left; omega
        · right; exact ⟨by omega, by omega, h3⟩
    · rw [if_neg h, ih]
      constructor
      · rintro ⟨h1, h2, h3⟩; exact ⟨by omega, by omega, h3⟩
      · rintro ⟨h1, h2, h3⟩
        by_cases hx : x = j
        · subst hx; exact absurd h3 h
        · exact ⟨by omega, by omega, h3⟩
theorem binF_at {a : Arr 256} : ∀ (r j : Nat), binF a j r = true → ∀ x : Nat, j ≤ x → x < j + r → rd a (x : Int) = 0 ∨ rd a (x : Int) = 1
  | 0, j, _, x, h1, h2 => by omega
  | r + 1, j, h, x, h1, h2 => by
    have h' : ((rd a (j : Int) == 0 || rd a (j : Int) == 1) && binF a (j + 1) r) = true := h
    simp only [Bool.and_eq_true, Bool.or_eq_true, beq_iff_eq] at h'
    by_cases hx : x = j
    · subst hx; exact h'.1
    · exact binF_at r (j + 1) h'.2 x (by omega) (by omega)
theorem pos_bd (a : Arr 256) : ∀ x ∈ pos a, 0 ≤ x ∧ x ≤ 255 := fun x hx => by
  have h1 := (posF_inc a 256 0).2 x hx
  obtain ⟨x, rfl⟩ := Int.eq_ofNat_of_zero_le (show 0 ≤ x by omega)
  have := (mem_posF a 256 0 x).1 hx
  omega
theorem mk_pos {a : Arr 256} (h : bin a = true) : mk (pos a) = a := by
  refine arr_ext fun i hi => ?_
  show rd (put1 (zeroA 256) (pos a)) (i : Int) = _
  rw [rd_put1 _ _ (pos_bd a) i hi]
  have hm := mem_posF a 256 0 i
  by_cases hc : (i : Int) ∈ pos a
  · rw [if_pos hc, (hm.1 hc).2.2]
  · rw [if_neg hc, rd_zeroA _ hi]
    rcases binF_at 256 0 h i (by omega) (by omega) with h1 | h1
    · exact h1.symm
    · exact absurd (hm.2 ⟨by omega, by omega, h1⟩) hc
theorem places_app (x y : List (Arr 256)) : places (x ++ y) = places x ++ places y := by
  induction x with
  | nil => rfl
  | cons a x ih => show pos a ++ places (x ++ y) = pos a ++ places x ++ places y; rw [ih, List.append_assoc]
theorem endsF_app (x y : List (Arr 256)) : ∀ c, endsF c (x ++ y) = endsF c x ++ endsF (c + (places x).length) y := by
  induction x with
  | nil => intro c; rfl
  | cons a x ih =>
    intro c
    show _ :: endsF (c + (pos a).length) (x ++ y) = _ :: (endsF (c + (pos a).length) x ++ endsF (c + (pos a ++ places x).length) y)
    rw [ih, List.length_append, Nat.add_assoc]
theorem ru_hint (h : List (Arr 256)) (m : Nat) (hm : m ≤ 100) (hp : (places h).length ≤ m) (hbin : allBin h = true) : ∀ (t pre : List (Arr 256)), h = pre ++ t → allBin t = true → ru (O m (places h) (endsF 0 h)) m (places pre).length pre.length t.length = t
  | [], _, _, _ => rfl
  | a :: t, pre, he, hb => by
    have hb' : (bin a && allBin t) = true := hb
    rw [Bool.and_eq_true] at hb'
    have hpl : places h = places pre ++ (pos a ++ places t) := by rw [he, places_app]; rfl
    have hel : endsF 0 h = endsF 0 pre ++ (((0 + (places pre).length + (pos a).length : Nat) : Int) :: endsF (0 + (places pre).length + (pos a).length) t) := by rw [he, endsF_app]; rfl
    have hlen : (places h).length = (places pre).length + ((pos a).length + (places t).length) := by rw [hpl]; simp
    have hbl : (O m (places h) (endsF 0 h)).length = m + h.length := by rw [O_len hp, endsF_len]
    have hE : eAt (O m (places h) (endsF 0 h)) m pre.length = (places pre).length + (pos a).length := by
      unfold eAt
      have e1 : (O m (places h) (endsF 0 h)).getD (m + pre.length) 0 = ((0 + (places pre).length + (pos a).length : Nat) : Int) := by
        unfold O
        rw [List.getD_eq_getElem?_getD, ← List.append_assoc, List.getElem?_append_right (by simp; omega)]
        have e2 : m + pre.length - (places h ++ List.replicate (m - (places h).length) (0 : Int)).length = pre.length := by simp; omega
        rw [e2, hel, List.getElem?_append_right (by rw [endsF_len]; exact Nat.le_refl _), endsF_len, Nat.sub_self]
        rfl
      rw [e1]
      omega
    have hS : segF (O m (places h) (endsF 0 h)) (places pre).length (pos a).length = pos a := by
      rw [segF_sub _ _ _ (by rw [hbl]; omega)]
      unfold O
      rw [hpl, List.append_assoc, List.drop_append_of_le_length (Nat.le_refl _), List.drop_length, List.nil_append, List.append_assoc, List.take_append_of_le_length (Nat.le_refl _), List.take_length]
    have hr : ru (O m (places h) (endsF 0 h)) m (places pre).length pre.length (a :: t).length = mk (segF (O m (places h) (endsF 0 h)) (places pre).length (min (eAt (O m (places h) (endsF 0 h)) m pre.length) m - (places pre).length)) :: ru (O m (places h) (endsF 0 h)) m ((places pre).length + (min (eAt (O m (places h) (endsF 0 h)) m pre.length) m - (places pre).length)) (pre.length + 1) t.length := rfl
    rw [hr, hE, show min ((places pre).length + (pos a).length) m - (places pre).length = (pos a).length by omega, hS, mk_pos hb'.1]
    have ih := ru_hint h m hm hp hbin t (pre ++ [a]) (by rw [he]; simp) hb'.2
    rw [places_app, List.length_append, List.length_append] at ih
    have e3 : (places [a]).length = (pos a).length := by show (pos a ++ []).length = _; rw [List.append_nil]
    rw [e3] at ih
    have e4 : pre.length + [a].length = pre.length + 1 := rfl
    rw [e4] at ih
    rw [ih]
theorem hintS_iff {h : List (Arr 256)} {m : Int} (hn : hintS h m ≠ []) : 1 ≤ h.length ∧ h.length ≤ 100 ∧ 1 ≤ m ∧ m ≤ 100 ∧ allBin h = true ∧ (places h).length ≤ m.toNat ∧ hintS h m = O m.toNat (places h) (endsF 0 h) := by
  unfold hintS at hn ⊢
  by_cases h1 : (h.length : Int) < 1
  · rw [if_pos h1] at hn; exact absurd rfl hn
  rw [if_neg h1] at hn ⊢
  by_cases h2 : (h.length : Int) > 100
  · rw [if_pos h2] at hn; exact absurd rfl hn
  rw [if_neg h2] at hn ⊢
  by_cases h3 : m < 1
  · rw [if_pos h3] at hn; exact absurd rfl hn
  rw [if_neg h3] at hn ⊢
  by_cases h4 : m > 100
  · rw [if_pos h4] at hn; exact absurd rfl hn
  rw [if_neg h4] at hn ⊢
  by_cases hc : (allBin h && decide ((places h).length ≤ m.toNat)) = true
  · rw [if_pos hc]
    simp only [Bool.and_eq_true, decide_eq_true_iff] at hc
    exact ⟨by omega, by omega, by omega, by omega, hc.1, hc.2, rfl⟩
  · rw [if_neg hc] at hn; exact absurd rfl hn
theorem places_bd : ∀ (h : List (Arr 256)), ∀ x ∈ places h, 0 ≤ x ∧ x ≤ 255
  | [], x, hx => by cases hx
  | a :: h, x, hx => by
    rcases List.mem_append.1 (show x ∈ pos a ++ places h from hx) with h1 | h1
    · exact pos_bd a x h1
    · exact places_bd h x h1
theorem ends_bd : ∀ (h : List (Arr 256)) (c m : Nat), c + (places h).length ≤ m → m ≤ 255 → ∀ x ∈ endsF c h, 0 ≤ x ∧ x ≤ 255
  | [], _, _, _, _, x, hx => by cases hx
  | a :: h, c, m, hl, hm, x, hx => by
    have hl' : c + ((pos a).length + (places h).length) ≤ m := by
      have : (places (a :: h)).length = (pos a).length + (places h).length := by show (pos a ++ places h).length = _; simp
      omega
    rcases List.mem_cons.1 (show x ∈ ((c + (pos a).length : Nat) : Int) :: endsF (c + (pos a).length) h from hx) with h1 | h1
    · omega
    · exact ends_bd h (c + (pos a).length) m (by omega) hm x h1
theorem hintS_byt (h : List (Arr 256)) (m : Int) : Byt (hintS h m) := by
  by_cases hn : hintS h m = []
  · rw [hn]; exact Byt.nil
  · obtain ⟨h1, h2, h3, h4, h5, h6, h7⟩ := hintS_iff hn
    rw [h7]
    intro x hx
    unfold O at hx
    rcases List.mem_append.1 hx with hx | hx
    · exact places_bd h x hx
    · rcases List.mem_append.1 hx with hx | hx
      · rw [List.eq_of_mem_replicate hx]; decide
      · exact ends_bd h 0 m.toNat (by omega) (by omega) x hx
/-- hints that are packed are read as they -/
theorem unh_hint {h : List (Arr 256)} {m : Int} (hn : hintS h m ≠ []) : unhV (hintS h m) (h.length : Int) m = (h, true) := by
  have hb := hintS_byt h m
  obtain ⟨h1, h2, h3, h4, h5, h6, h7⟩ := hintS_iff hn
  obtain ⟨m, rfl⟩ := Int.eq_ofNat_of_zero_le (show 0 ≤ m by omega)
  rw [Int.toNat_natCast] at h6 h7
  have hl : (hintS h (m : Int)).length = h.length + m := by rw [h7, O_len h6, endsF_len]; omega
  have hru := ru_hint h m (by omega) h6 h5 h [] rfl h5
  unfold unhV
  rw [if_neg (by omega), if_neg (by omega), if_neg (by omega), if_neg (by omega), if_pos (by omega), Int.toNat_natCast, Int.toNat_natCast]
  have hd := unh_doc hb h.length m h1 h2 (by omega) (by omega) hl
  rw [← hd]
  have hru' : ru (hintS h (m : Int)) m 0 0 h.length = h := by rw [h7]; exact hru
  rw [hru', decide_eq_true rfl, if_pos rfl]
/-- bytes that are read as hints are packed so again -/
theorem hint_unh {b : List Int} (hb : Byt b) {k m : Int} {l : List (Arr 256)} (h : unhV b k m = (l, true)) : hintS l m = b ∧ (l.length : Int) = k := by
  unfold unhV at h
  by_cases h1 : k < 1
  · rw [if_pos h1] at h; cases (Prod.mk.inj h).2
  rw [if_neg h1] at h
  by_cases h2 : k > 100
  · rw [if_pos h2] at h; cases (Prod.mk.inj h).2
  rw [if_neg h2] at h
  by_cases h3 : m < 1
  · rw [if_pos h3] at h; cases (Prod.mk.inj h).2
  rw [if_neg h3] at h
  by_cases h4 : m > 100
  · rw [if_pos h4] at h; cases (Prod.mk.inj h).2
  rw [if_neg h4] at h
  by_cases h5 : (b.length : Int) = k + m
  · rw [if_pos h5] at h
    obtain ⟨k, rfl⟩ := Int.eq_ofNat_of_zero_le (show 0 ≤ k by omega)
    obtain ⟨m, rfl⟩ := Int.eq_ofNat_of_zero_le (show 0 ≤ m by omega)
    rw [Int.toNat_natCast, Int.toNat_natCast] at h
    have hd := unh_doc hb k m (by omega) (by omega) (by omega) (by omega) (by omega)
    rw [← hd] at h
    by_cases hc : hintS (ru b m 0 0 k) (m : Int) = b
    · rw [decide_eq_true hc, if_pos rfl] at h
      obtain ⟨rfl, _⟩ := Prod.mk.inj h
      refine ⟨hc, ?_⟩
      have hne : hintS (ru b m 0 0 k) (m : Int) ≠ [] := fun e => by
        have := congrArg List.length (hc.symm.trans e)
        rw [List.length_nil] at this
        omega
      obtain ⟨_, _, _, _, _, q6, q7⟩ := hintS_iff hne
      have := congrArg List.length (q7.symm.trans hc)
      rw [Int.toNat_natCast] at q6 this
      rw [O_len q6, endsF_len] at this
      omega
    · rw [decide_eq_false hc, if_neg (by decide)] at h
      cases (Prod.mk.inj h).2
  · rw [if_neg h5] at h; cases (Prod.mk.inj h).2
end Go.Proofs.Ytblploekkjeolaa
