/- Layer 10 (aes), plain laws: the keys of all rounds. -/
import Derived.Test.YtmpagpbnpgcecaaEj
set_option linter.unusedSimpArgs false
set_option linter.unusedVariables false
set_option maxRecDepth 100000
namespace Go.Proofs.Ytmpagpbnpgcecaa
open Go Go.Mx
theorem rdL_subL {T : Type} (C : Cod T) (l : List T) {lo hi i : Nat} (h : lo + i < hi) : rdL C (subL l (lo : Int) (hi : Int)) (i : Int) = rdL C l ((lo + i : Nat) : Int) := by
  unfold rdL subL
  rw [Int.toNat_natCast, Int.toNat_natCast, Int.toNat_natCast, Int.toNat_natCast, List.getD_eq_getElem?_getD, List.getD_eq_getElem?_getD, List.getElem?_drop, List.getElem?_take, if_pos h]
theorem subL_lenN {T : Type} {l : List T} {lo hi : Nat} (h1 : lo ≤ hi) (h2 : hi ≤ l.length) : (subL l (lo : Int) (hi : Int)).length = hi - lo := by
  rw [subL_len (by omega) (by omega) (by omega)]
  omega
theorem keyLoops (K : Nat) (hK : 8 < K) {nk : Nat} (n0 : 4 ≤ nk) (n1 : nk ≤ 8) : ∀ (n i s k k' : Nat) (ws : List (Arr 4)) (z : List Int) (g : Nat → Nat), i + n = 4 * (nk + 7) → n < k → n < k' → nk ≤ i → s < 256 → WS ws i g → ZS z i g → BG g i →
    ∃ ws' z' g', aes_began_s.l1 K k tabs.1 tabs.2 (nk : Int) (i : Int) (s : Int) ws = some ws' ∧ ref10_keys.l0 K k' tabs.1 (nk : Int) (s : Int) (i : Int) z = some z' ∧ WS ws' (4 * (nk + 7)) g' ∧ ZS z' (4 * (nk + 7)) g' ∧ BG g' (4 * (nk + 7)) := by
  intro n
  induction n with
  | zero =>
    intro i s k k' ws z g hi hk hk' hn hs hw hz hg
    obtain ⟨k, rfl⟩ : ∃ q, k = q + 1 := ⟨k - 1, by omega⟩
    obtain ⟨k', rfl⟩ : ∃ q, k' = q + 1 := ⟨k' - 1, by omega⟩
    obtain rfl : i = 4 * (nk + 7) := by omega
    have h : ¬ ((4 * (nk + 7) : Nat) : Int) < ((4 * (nk + 7) : Nat) : Int) := by omega
    exact ⟨ws, z, g, by simp only [aes_began_s.l1, nwords n1, h, if_false], by simp only [ref10_keys.l0, nwords n1, h, if_false], hw, hz, hg⟩
  | succ n ih =>
    intro i s k k' ws z g hi hk hk' hn hs hw hz hg
    obtain ⟨k, rfl⟩ : ∃ q, k = q + 1 := ⟨k - 1, by omega⟩
    obtain ⟨k', rfl⟩ : ∃ q, k' = q + 1 := ⟨k' - 1, by omega⟩
    obtain ⟨ws1, e1, w1⟩ := aStep K hK (k := k) hw hg n0 n1 hn (by omega) hs
    obtain ⟨z1, e2, w2⟩ := rStep K hK (k := k') hz hg n0 n1 hn (by omega) hs
    rw [e1, e2]
    exact ih (i + 1) _ k k' ws1 z1 _ (by omega) (by omega) (by omega) (by omega) (sN_lt hs) w1 w2 (more_bd hg (wN_bd hg (by omega) hn hs))
/-! ### the key's own words -/
theorem rd_arrL {n : Nat} (l : List Int) {r : Nat} (hr : r < n) : rd (arrL n l) (r : Int) = l.getD r 0 := by
  rw [rd_eq _ _ hr]
  simp [arrL]
theorem imin4 {x : Nat} (h : 4 ≤ x) : imin 4 (x : Int) = 4 := by
  unfold imin
  omega
theorem aWords (K : Nat) {a : List Int} {g : Nat → Nat} {nk : Nat} (n1 : nk ≤ 8) (ha : ZS a nk g) : ∀ (n p k : Nat) (ws : List (Arr 4)), p + n = nk → n < k → WS ws p g → ∃ ws', aes_began_s.l0 K k a ((4 * p : Nat) : Int) ws = some ws' ∧ WS ws' nk g := by
  have hlen := ha.len
  intro n
  induction n with
  | zero =>
    intro p k ws hp hk hw
    obtain ⟨k, rfl⟩ : ∃ q, k = q + 1 := ⟨k - 1, by omega⟩
    obtain rfl : p = nk := by omega
    have h : ¬ ((4 * p : Nat) : Int) < ((a.length : Nat) : Int) := by rw [hlen]; omega
    exact ⟨ws, by simp only [aes_began_s.l0, h, if_false], hw⟩
  | succ n ih =>
    intro p k ws hp hk hw
    obtain ⟨k, rfl⟩ : ∃ q, k = q + 1 := ⟨k - 1, by omega⟩
    have c0 : ((4 * p : Nat) : Int) < ((a.length : Nat) : Int) := by rw [hlen]; omega
    have c1 : (0 : Int) ≤ ((4 * p : Nat) : Int) := by omega
    have c2 : ((4 * p : Nat) : Int) ≤ ((a.length : Nat) : Int) := by rw [hlen]; omega
    have c3 : ((a.length : Nat) : Int) ≤ ((a.length : Nat) : Int) := by omega
    have s1 : (subL a ((4 * p : Nat) : Int) ((a.length : Nat) : Int)).length = a.length - 4 * p := subL_lenN (by rw [hlen]; omega) (by omega)
    have m1 : imin 4 ((a.length - 4 * p : Nat) : Int) = 4 := imin4 (by rw [hlen]; omega)
    have p1 : iadd .i64 ((4 * p : Nat) : Int) 4 = ((4 * (p + 1) : Nat) : Int) := by rw [add64 (by omega) (by omega)]; omega
    have c4 : ((4 * p : Nat) : Int) ≤ ((4 * (p + 1) : Nat) : Int) := by omega
    have c5 : ((4 * (p + 1) : Nat) : Int) ≤ ((4 * (p + 1) : Nat) : Int) := by omega
    have c6 : ((4 * (p + 1) : Nat) : Int) ≤ ((a.length : Nat) : Int) := by rw [hlen]; omega
    have s2 : (subL a ((4 * p : Nat) : Int) ((4 * (p + 1) : Nat) : Int)).length = 4 := by rw [subL_lenN (by omega) (by rw [hlen]; omega)]; omega
    have c7 : 4 ≤ (subL a ((4 * p : Nat) : Int) ((4 * (p + 1) : Nat) : Int)).length := by rw [s2]; exact Nat.le_refl _
    have c8 : ∀ w : Arr 4, ws.length + ([w] : List (Arr 4)).length ≤ 35184372088832 := fun w => by rw [hw.1]; show p + 1 ≤ _; omega
    have hwd : WdS (arrL 4 (subL a ((4 * p : Nat) : Int) ((4 * (p + 1) : Nat) : Int))) (fun r => g (4 * p + r)) := fun r hr => by
      rw [rd_arrL _ hr]
      have h1 := rdL_subL (CI .u8) a (lo := 4 * p) (hi := 4 * (p + 1)) (i := r) (by omega)
      rw [ha.rd (by omega)] at h1
      exact h1
    have hw' : WS (ws ++ [arrL 4 (subL a ((4 * p : Nat) : Int) ((4 * (p + 1) : Nat) : Int))]) (p + 1) g := by
      obtain ⟨h1, h2⟩ := hw.more hwd
      refine ⟨h1, fun q hq r hr => ?_⟩
      rw [h2 q hq r hr]
      show ((more g p (fun r => g (4 * p + r)) (4 * q + r) : Nat) : Int) = _
      unfold more
      split
      · rfl
      · show ((g (4 * p + (4 * q + r - 4 * p)) : Nat) : Int) = ((g (4 * q + r) : Nat) : Int)
        rw [show 4 * p + (4 * q + r - 4 * p) = 4 * q + r by omega]
    obtain ⟨w2, h1, h2⟩ := ih (p + 1) k _ (by omega) (by omega) hw'
    refine ⟨w2, ?_, h2⟩
    simp only [aes_began_s.l0, c0, c1, c2, c3, s1, m1, p1, c4, c5, c6, c7, c8, if_true, Option.bind_some]
    exact h1
/-! ### the rounds' keys -/
abbrev C16 : Cod (Arr 16) := CA .u8 16 (by decide)
def RK (rk : List (Arr 16)) (p : Nat) (g : Nat → Nat) : Prop := rk.length = p ∧ ∀ r : Nat, r < p → ArS (rdL C16 rk (r : Int)) (fun j => g (16 * r + j))
theorem aOne (K : Nat) (hK : 4 < K) {ws : List (Arr 4)} {g : Nat → Nat} {N p : Nat} (hN : N ≤ 1000) (hw : WS ws N g) (hp : 4 * (p + 1) ≤ N) : ∃ y, aes_began_s.l3 K K ws ((4 * p : Nat) : Int) 4 0 (zeroA 16) = some y ∧ ArS y (fun j => g (16 * p + j)) := by
  have p1 : iadd .i64 ((4 * p : Nat) : Int) 4 = ((4 * (p + 1) : Nat) : Int) := by rw [add64 (by omega) (by omega)]; omega
  have hl : (subL ws ((4 * p : Nat) : Int) ((4 * (p + 1) : Nat) : Int)).length = 4 := by rw [subL_lenN (by omega) (by rw [hw.1]; omega)]; omega
  have key : ∀ (n i k : Nat) (z : Arr 16), i + n = 4 → n < k → (∀ j : Nat, j < 4 * i → rd z (j : Int) = ((g (16 * p + j) : Nat) : Int)) → ∃ y, aes_began_s.l3 K k ws ((4 * p : Nat) : Int) 4 (i : Int) z = some y ∧ ArS y (fun j => g (16 * p + j)) := by
    intro n
    induction n with
    | zero =>
      intro i k z hi hk hz
      obtain ⟨k, rfl⟩ : ∃ q, k = q + 1 := ⟨k - 1, by omega⟩
      obtain rfl : i = 4 := by omega
      have h : ¬ ((4 : Nat) : Int) < ((4 : Nat) : Int) := by omega
      exact ⟨z, by simp only [aes_began_s.l3, p1, hl, h, if_false], fun j hj => hz j (by omega)⟩
    | succ n ih =>
      intro i k z hi hk hz
      obtain ⟨k, rfl⟩ : ∃ q, k = q + 1 := ⟨k - 1, by omega⟩
      have c0 : (i : Int) < ((4 : Nat) : Int) := by omega
      have c1 : (0 : Int) ≤ (i : Int) := by omega
      have p2 : imul .i64 4 (i : Int) = ((4 * i : Nat) : Int) := by rw [mul64 (by omega) (by omega)]; omega
      have c2 : (0 : Int) ≤ ((4 * i : Nat) : Int) := by omega
      have c3 : ((4 * i : Nat) : Int) ≤ 16 := by omega
      have c4 : ((4 * i : Nat) : Int) < 16 := by omega
      have hwd := hw.2 (4 * p + i) (by omega)
      have e := rdL_subL C4 ws (lo := 4 * p) (hi := 4 * (p + 1)) (i := i) (by omega)
      obtain ⟨y, h1, h2⟩ := ih (i + 1) k (cpA z ((4 * i : Nat) : Int) ((subL (lA (rdL C4 (subL ws ((4 * p : Nat) : Int) ((4 * (p + 1) : Nat) : Int)) (i : Int))) 0 4).take ((16 : Int).toNat - ((4 * i : Nat) : Int).toNat))) (by omega) (by omega) (fun j hj => by
        rw [rd_cpA _ _ _ j (by omega), e]
        have hlen : ((subL (lA (rdL C4 ws ((4 * p + i : Nat) : Int))) 0 4).take ((16 : Int).toNat - ((4 * i : Nat) : Int).toNat)).length = 4 := by
          rw [List.length_take, show (subL (lA (rdL C4 ws ((4 * p + i : Nat) : Int))) 0 4).length = 4 from by rw [subL_len (by omega) (by rw [lA_len]; omega) (by omega)]; rfl]
          omega
        rw [hlen, Int.toNat_natCast]
        split
        · rename_i h5
          rw [List.getD_eq_getElem?_getD, List.getElem?_take, if_pos (by omega)]
          have h6 := rdL_subL (CI .u8) (lA (rdL C4 ws ((4 * p + i : Nat) : Int))) (lo := 0) (hi := 4) (i := j - 4 * i) (by omega)
          have h7 := hwd (j - 4 * i) (by omega)
          rw [Nat.zero_add] at h6
          have h8 : rdL (CI .u8) (lA (rdL C4 ws ((4 * p + i : Nat) : Int))) ((j - 4 * i : Nat) : Int) = rd (rdL C4 ws ((4 * p + i : Nat) : Int)) ((j - 4 * i : Nat) : Int) := rfl
          rw [h8, h7] at h6
          unfold rdL at h6
          rw [Int.toNat_natCast, List.getD_eq_getElem?_getD] at h6
          refine h6.trans ?_
          show ((g (4 * (4 * p + i) + (j - 4 * i)) : Nat) : Int) = _
          rw [show 4 * (4 * p + i) + (j - 4 * i) = 16 * p + j by omega]
        · exact hz j (by omega))
      refine ⟨y, ?_, h2⟩
      simp only [aes_began_s.l3, p1, hl, c0, c1, p2, c2, c3, c4, if_true, inc (i := i) (by omega)]
      exact h1
  exact key 4 0 K (zeroA 16) (by decide) hK (fun j hj => absurd hj (by omega))
theorem aRounds (K : Nat) (hK : 4 < K) {ws : List (Arr 4)} {g : Nat → Nat} {m : Nat} (hm : m ≤ 100) (hw : WS ws (4 * m) g) : ∀ (n p k : Nat) (rk : List (Arr 16)), p + n = m → n < k → RK rk p g → ∃ rk', aes_began_s.l2 K k ws ((4 * p : Nat) : Int) rk = some rk' ∧ RK rk' m g := by
  have hlen := hw.1
  intro n
  induction n with
  | zero =>
    intro p k rk hp hk hr
    obtain ⟨k, rfl⟩ : ∃ q, k = q + 1 := ⟨k - 1, by omega⟩
    obtain rfl : p = m := by omega
    have h : ¬ ((4 * p : Nat) : Int) < ((ws.length : Nat) : Int) := by rw [hlen]; omega
    exact ⟨rk, by simp only [aes_began_s.l2, h, if_false], hr⟩
  | succ n ih =>
    intro p k rk hp hk hr
    obtain ⟨k, rfl⟩ : ∃ q, k = q + 1 := ⟨k - 1, by omega⟩
    have c0 : ((4 * p : Nat) : Int) < ((ws.length : Nat) : Int) := by rw [hlen]; omega
    have c1 : (0 : Int) ≤ ((4 * p : Nat) : Int) := by omega
    have c2 : ((4 * p : Nat) : Int) ≤ ((ws.length : Nat) : Int) := by rw [hlen]; omega
    have c3 : ((ws.length : Nat) : Int) ≤ ((ws.length : Nat) : Int) := by omega
    have s1 : (subL ws ((4 * p : Nat) : Int) ((ws.length : Nat) : Int)).length = ws.length - 4 * p := subL_lenN (by rw [hlen]; omega) (by omega)
    have m1 : imin 4 ((ws.length - 4 * p : Nat) : Int) = 4 := imin4 (by rw [hlen]; omega)
    have p1 : iadd .i64 ((4 * p : Nat) : Int) 4 = ((4 * (p + 1) : Nat) : Int) := by rw [add64 (by omega) (by omega)]; omega
    have c4 : ((4 * p : Nat) : Int) ≤ ((4 * (p + 1) : Nat) : Int) := by omega
    have c5 : ((4 * (p + 1) : Nat) : Int) ≤ ((4 * (p + 1) : Nat) : Int) := by omega
    have c6 : ((4 * (p + 1) : Nat) : Int) ≤ ((ws.length : Nat) : Int) := by rw [hlen]; omega
    have c8 : ∀ w : Arr 16, rk.length + ([w] : List (Arr 16)).length ≤ 8796093022208 := fun w => by rw [hr.1]; show p + 1 ≤ _; omega
    obtain ⟨y, h3, hy⟩ := aOne K hK (by omega) hw (p := p) (by omega)
    have hr' : RK (rk ++ [y]) (p + 1) g := by
      refine ⟨by rw [List.length_append, hr.1]; rfl, fun r hr1 => ?_⟩
      by_cases hrp : r < p
      · have e : rdL C16 (rk ++ [y]) (r : Int) = rdL C16 rk (r : Int) := by
          unfold rdL
          rw [Int.toNat_natCast, List.getD_eq_getElem?_getD, List.getD_eq_getElem?_getD, List.getElem?_append_left (by rw [hr.1]; exact hrp)]
        rw [e]
        exact hr.2 r hrp
      · obtain rfl : r = p := by omega
        have e : rdL C16 (rk ++ [y]) (r : Int) = y := by
          unfold rdL
          rw [Int.toNat_natCast, List.getD_eq_getElem?_getD, List.getElem?_append_right (by rw [hr.1]; omega), hr.1, Nat.sub_self]
          rfl
        rw [e]
        exact hy
    obtain ⟨r2, h1, h2⟩ := ih (p + 1) k _ (by omega) (by omega) hr'
    refine ⟨r2, ?_, h2⟩
    simp only [aes_began_s.l2, c0, c1, c2, c3, s1, m1, p1, c4, c5, c6, h3, c8, if_true, Option.bind_some]
    exact h1
end Go.Proofs.Ytmpagpbnpgcecaa
