/- Layer 22 (dpack), plain laws: numbers as bytes, and back, are the document's. -/
import Derived.Test.YtppohhnfojalbaaDoorDa
import Derived.Test.YtppohhnfojalbaaDoorKg
import Derived.Test.YtppohhnfojalbaaDoorQz
set_option linter.unusedSimpArgs false
set_option linter.unusedVariables false
set_option maxRecDepth 100000
namespace Go.Proofs.YtppohhnfojalbaaDoor
open Go Go.Mx
/-! ### loops that may stop -/
theorem loop_unp {n : Nat} {V U : Type} (l : Nat → Int → Arr n → Option (V ⊕ U)) (p : Nat → Bool) (f : Nat → Int) (no : U) (g : Arr n → V) (a0 : Arr n)
    (yes : ∀ (k i : Nat) (z : Arr n), i < n → p i = true → l (k + 1) i z = l k ((i + 1 : Nat) : Int) (wr z i (f i)))
    (not : ∀ (k i : Nat) (z : Arr n), i < n → p i = false → l (k + 1) i z = some (.inr no))
    (stop : ∀ (k : Nat) (z : Arr n), l (k + 1) n z = some (.inl (g z))) (K : Nat) (hK : n < K) : l K 0 a0 = some (if (List.range n).all p = true then .inl (g (mapA n f)) else .inr no) := by
  have key : ∀ (d i k : Nat) (z : Arr n), i + d = n → d < k → (∀ j, j < i → p j = true) → (∀ j, j < i → rd z j = f j) → l k i z = some (if (List.range n).all p = true then .inl (g (mapA n f)) else .inr no) := by
    intro d
    induction d with
    | zero =>
      intro i k z hi hk hp hz
      obtain ⟨k, rfl⟩ : ∃ m, k = m + 1 := ⟨k - 1, by omega⟩
      obtain rfl : i = n := by omega
      rw [stop, if_pos (List.all_eq_true.2 fun j hj => hp j (List.mem_range.1 hj)), show z = mapA i f from arr_ext fun j hj => by rw [hz j hj, rd_mapA _ _ hj]]
    | succ d ih =>
      intro i k z hi hk hp hz
      obtain ⟨k, rfl⟩ : ∃ m, k = m + 1 := ⟨k - 1, by omega⟩
      have hin : i < n := by omega
      cases hpi : p i with
      | true =>
        rw [yes k i z hin hpi]
        refine ih (i + 1) k _ (by omega) (by omega) (fun j hj => ?_) fun j hj => ?_
        · by_cases h : j = i
          · subst h; exact hpi
          · exact hp j (by omega)
        · rw [rd_wr _ _ _ _ (by omega)]
          by_cases h : i = j
          · subst h; rw [if_pos rfl]
          · rw [if_neg h]; exact hz j (by omega)
      | false =>
        rw [not k i z hin hpi, if_neg]
        intro h
        have := List.all_eq_true.1 h i (List.mem_range.2 hin)
        rw [hpi] at this
        cases this
  have := key n 0 K a0 (by omega) hK (fun j hj => by omega) fun j hj => by omega
  simpa using this
/-! ### Unpack -/
theorem dig_mem (d : Nat) : ∀ (n M : Nat), ∀ x ∈ dig d n M, ∃ v : Nat, x = (v : Int) ∧ v < 2 ^ d
  | 0, M, x, h => by cases h
  | n + 1, M, x, h => by
    rcases List.mem_cons.1 h with rfl | h
    · exact ⟨_, rfl, Nat.mod_lt _ (Nat.two_pow_pos d)⟩
    · exact dig_mem d n _ x h
def bkS (low high : Int) (v : Int) : Int := if low < 0 then v else if high - v < 0 then high - v + 8380417 else high - v
def unpS (low high : Int) (b : List Int) : Arr 256 × Bool :=
  if fitS low high = true then
    if b.length = 32 * widS low high then
      if (List.range 256).all (fun i => decide ((dig (widS low high) 256 (NB b)).getD i 0 ≤ allS low high)) = true then (mapA 256 fun i => bkS low high ((dig (widS low high) 256 (NB b)).getD i 0), true) else (zeroA 256, false)
    else (zeroA 256, false)
  else (zeroA 256, false)
theorem rdL_getD (l : List Int) (i : Nat) : rdL (CI .u32) l (i : Int) = l.getD i 0 := by
  unfold rdL
  rw [Int.toNat_natCast]
  rfl
theorem getD_dig {d n M i : Nat} (h : i < n) : ∃ v : Nat, (dig d n M).getD i 0 = (v : Int) ∧ v < 2 ^ d := by
  have hl : i < (dig d n M).length := by rw [dig_len]; exact h
  rw [List.getD_eq_getElem?_getD, List.getElem?_eq_getElem hl]
  exact dig_mem d n M _ (List.getElem_mem hl)
theorem dUnpack (K : Nat) (hK : 256 < K) (b : List Int) (hb : Byt b) (hbl : b.length ≤ 1000000) (low high : Int) : dpack_Unpack.f K b low high = some (unpS low high b) := by
  unfold dpack_Unpack.f unpS
  rw [dFit, Option.bind_some]
  by_cases hf : fitS low high = true
  · obtain ⟨w1, w2⟩ := widS_bd hf
    obtain ⟨ha, ha2, _⟩ := allS_eq hf
    obtain ⟨l0, l1, l2, l3⟩ := fitS_iff.1 hf
    rw [if_pos hf, if_pos hf, dSize K hf, Option.bind_some]
    by_cases hl : b.length = 32 * widS low high
    · rw [if_pos (by omega), if_pos hl, dWid K hf, Option.bind_some]
      have hu : bits_Unpack.f K b (widS low high : Int) 256 = some (dig (widS low high) 256 (NB b)) := bits_Unpack_eq K (widS low high) 256 b hb (by omega) hbl w1 (by omega) (by decide) (by omega) (by omega)
      rw [hu, Option.bind_some]
      generalize hL : dig (widS low high) 256 (NB b) = L
      have hlen : L.length = 256 := by rw [← hL, dig_len]
      have hv : ∀ i : Nat, i < 256 → ∃ v : Nat, L.getD i 0 = (v : Int) ∧ v < 2 ^ 22 := fun i hi => by
        subst hL
        obtain ⟨v, h1, h2⟩ := getD_dig (d := widS low high) (n := 256) (M := NB b) hi
        exact ⟨v, h1, Nat.lt_of_lt_of_le h2 (Nat.pow_le_pow_right (by decide) w2)⟩
      have hloop := loop_unp (fun k i z => dpack_Unpack.l0 K k low high L i z (zeroA 256)) (fun i => decide (L.getD i 0 ≤ allS low high)) (fun i => bkS low high (L.getD i 0)) ((zeroA 256, false) : Arr 256 × Bool) (fun z => (z, zeroA 256)) (zeroA 256) ?_ ?_ ?_ K hK
      · rw [hloop]
        by_cases hall : (List.range 256).all (fun i => decide (L.getD i 0 ≤ allS low high)) = true
        · rw [if_pos hall, if_pos hall]; rfl
        · rw [if_neg hall, if_neg hall]; rfl
      · intro k i z hi hp
        obtain ⟨v, hv1, hv2⟩ := hv i hi
        have c0 : (i : Int) < (L.length : Int) := by omega
        have c1 : (0 : Int) ≤ (i : Int) := by omega
        have c2 : (i : Int) < 256 := by omega
        have hp' : L.getD i 0 ≤ (allS low high : Int) := of_decide_eq_true hp
        have c3 : ¬ (L.getD i 0) > iconv .u32 (allS low high : Int) := by rw [convU32 (by omega)]; omega
        have hi1 : iadd .i64 (i : Int) 1 = ((i + 1 : Nat) : Int) := by rw [add64 (by omega) (by omega)]; omega
        have hbk : dpack_span_back.f K low high (L.getD i 0) = some (bkS low high (L.getD i 0)) := by
          rw [hv1]
          unfold dpack_span_back.f bkS
          rw [conv32 (by omega) (by omega), sub32 (by omega) (by omega), Option.bind_some, Option.bind_some]
          by_cases h1 : low < 0
          · rw [if_pos h1, if_pos h1]
          · rw [if_neg h1, if_neg h1]
            by_cases h2 : high - (v : Int) < 0
            · rw [if_pos h2, if_pos h2, add32 (by omega) (by omega)]; rfl
            · rw [if_neg h2, if_neg h2]
        simp only [dpack_Unpack.l0, c0, c1, c2, if_true, rdL_getD, Option.bind_some, dAll K hf, c3, if_false, hbk, hi1]
      · intro k i z hi hp
        obtain ⟨v, hv1, hv2⟩ := hv i hi
        have c0 : (i : Int) < (L.length : Int) := by omega
        have c1 : (0 : Int) ≤ (i : Int) := by omega
        have hp' : ¬ L.getD i 0 ≤ (allS low high : Int) := of_decide_eq_false hp
        have c3 : (L.getD i 0) > iconv .u32 (allS low high : Int) := by rw [convU32 (by omega)]; omega
        simp only [dpack_Unpack.l0, c0, c1, if_true, rdL_getD, Option.bind_some, dAll K hf, c3]
      · intro k z
        have c0 : ¬ ((256 : Nat) : Int) < (L.length : Int) := by omega
        simp only [dpack_Unpack.l0, c0, if_false]
    · rw [if_neg (by omega), if_neg hl]
  · rw [if_neg hf, if_neg hf]
end Go.Proofs.YtppohhnfojalbaaDoor
