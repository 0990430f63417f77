/- Layer 10 (aes), plain laws: the document's stages. -/
import Derived.Test.YtmpagpbnpgcecaaEf
set_option linter.unusedSimpArgs false
set_option linter.unusedVariables false
set_option maxRecDepth 100000
namespace Go.Proofs.Ytmpagpbnpgcecaa
open Go Go.Mx
theorem ls_map (s : Nat → Nat) : LsS ((List.range 16).map fun j => ((s j : Nat) : Int)) s := by
  refine ⟨by simp, fun j hj => ?_⟩
  unfold rdL
  rw [Int.toNat_natCast, List.getD_eq_getElem?_getD, List.getElem?_map, List.getElem?_range hj]
  rfl
theorem LsS.congr {z : List Int} {s t : Nat → Nat} (h : LsS z s) (e : ∀ j, j < 16 → s j = t j) : LsS z t := ⟨h.1, fun j hj => by rw [h.2 j hj, e j hj]⟩
abbrev zero16 : List Int := List.replicate (16 : Int).toNat (Cod.zero (CI .u8))
theorem len16 : zero16.length = 16 := rfl
theorem rEach (K : Nat) (hK : 16 < K) {z : List Int} {s : Nat → Nat} (hz : LsS z s) (hs : Bd s) (t : Arr 256) (f : Nat → Nat) (ht : ∀ c : Nat, c < 256 → rd t (c : Int) = ((f c : Nat) : Int)) : ∃ y, ref10_each.f K z t = some y ∧ LsS y (fun j => f (s j)) := by
  obtain ⟨y, h1, h0, h2⟩ := fillS (S := List Int) (fun z j => rdL (CI .u8) z (j : Int)) (fun z i x => wrL z (i : Int) x) (fun z => z.length = 16) 16 (setL 16) (fun k i w => ref10_each.l0 K k z t i w) 0 16 (by decide)
    (fun j => ((f (s j) : Nat) : Int)) zero16 (fun k i w hi hw _ => by
      obtain ⟨b0, b1⟩ := lt16 hi
      have hl := hs i hi
      have c0 : (0 : Int) ≤ ((s i : Nat) : Int) := by omega
      have c1 : ((s i : Nat) : Int) < 256 := by omega
      have d1 : (i : Int) < ((z.length : Nat) : Int) := by rw [hz.1]; exact b1
      have d2 : (i : Int) < ((w.length : Nat) : Int) := by rw [hw]; exact b1
      simp only [ref10_each.l0, b0, b1, d1, d2, hz.2 i hi, c0, c1, ht _ hl, if_true, Option.bind_some, inc (i := i) (by omega), Nat.zero_add]) (fun k w => by simp only [ref10_each.l0]; rfl) 16 0 K zero16 (by decide) hK len16 (fun _ _ _ => rfl)
  refine ⟨y, ?_, h0, fun j hj => ?_⟩
  · unfold ref10_each.f
    rw [show ref10_each.l0 K K z t 0 zero16 = some y from h1]
    rfl
  · rw [h2 j hj, if_pos (by omega)]
    rfl
/-- Loops that fill a block column by column. -/
theorem cols (g : Nat → List Int → Option (List Int)) (l : Nat → Int → List Int → Option (List Int)) (s : Nat → Nat)
    (hg : ∀ c z, c < 4 → z.length = 16 → ∃ y, g c z = some y ∧ y.length = 16 ∧ ∀ j : Nat, j < 16 → rdL (CI .u8) y (j : Int) = if 4 * c ≤ j ∧ j < 4 * c + 4 then ((s j : Nat) : Int) else rdL (CI .u8) z (j : Int))
    (hl : ∀ k (c : Nat) z, c < 4 → l (k + 1) (c : Int) z = (g c z).bind fun y => l k ((c + 1 : Nat) : Int) y) (he : ∀ k z, l (k + 1) 4 z = some z) :
    ∀ n c k z, c + n = 4 → n < k → z.length = 16 → (∀ j : Nat, j < 4 * c → rdL (CI .u8) z (j : Int) = ((s j : Nat) : Int)) → ∃ y, l k (c : Int) z = some y ∧ LsS y s := by
  intro n
  induction n with
  | zero =>
    intro c k z hc hk hz hj
    obtain ⟨k, rfl⟩ : ∃ q, k = q + 1 := ⟨k - 1, by omega⟩
    obtain rfl : c = 4 := by omega
    exact ⟨z, he k z, hz, fun j h => hj j (by omega)⟩
  | succ n ih =>
    intro c k z hc hk hz hj
    obtain ⟨k, rfl⟩ : ∃ q, k = q + 1 := ⟨k - 1, by omega⟩
    obtain ⟨y, h1, h2, h3⟩ := hg c z (by omega) hz
    obtain ⟨w, h4, h5⟩ := ih (c + 1) k y (by omega) (by omega) h2 (fun j h => by
      rw [h3 j (by omega)]
      split
      · rfl
      · exact hj j (by omega))
    refine ⟨w, ?_, h5⟩
    rw [hl k c z (by omega), h1]
    exact h4
theorem inc4 {a b : Nat} (h : a < 4) (h' : b < 4) : iadd .i64 (imul .i64 4 (a : Int)) (b : Int) = ((4 * a + b : Nat) : Int) := by
  rw [mul64 (by omega) (by omega), add64 (by omega) (by omega)]
  omega
theorem rRow (K : Nat) (hK : 4 < K) {z : List Int} {s : Nat → Nat} (hz : LsS z s) (a1 : Int) (ρ : Nat → Nat → Nat)
    (hρ : ∀ c r : Nat, c < 4 → r < 4 → iadd .i64 (imul .i64 4 (irem .i64 (iadd .i64 (iadd .i64 (c : Int) (imul .i64 a1 (r : Int))) 4) 4)) (r : Int) = ((ρ c r : Nat) : Int) ∧ ρ c r < 16) {c : Nat} (hc : c < 4) (w : List Int) (hw : w.length = 16) :
    ∃ y, ref10_rows.l1 K K z a1 (c : Int) 0 w = some y ∧ y.length = 16 ∧ ∀ j : Nat, j < 16 → rdL (CI .u8) y (j : Int) = if 4 * c ≤ j ∧ j < 4 * c + 4 then ((s (ρ (j / 4) (j % 4)) : Nat) : Int) else rdL (CI .u8) w (j : Int) := by
  obtain ⟨y, h1, h0, h2⟩ := fillS (S := List Int) (fun z j => rdL (CI .u8) z (j : Int)) (fun z i x => wrL z (i : Int) x) (fun z => z.length = 16) 16 (setL 16) (fun k i w => ref10_rows.l1 K k z a1 (c : Int) i w) (4 * c) 4 (by omega)
    (fun r => ((s (ρ c r) : Nat) : Int)) w (fun k i w hi hw _ => by
      obtain ⟨p, q⟩ := hρ c i hc hi
      have b1 : (i : Int) < 4 := by omega
      have c0 : (0 : Int) ≤ ((ρ c i : Nat) : Int) := by omega
      have c1 : ((ρ c i : Nat) : Int) < ((z.length : Nat) : Int) := by rw [hz.1]; omega
      have p2 := inc4 hc hi
      have d0 : (0 : Int) ≤ ((4 * c + i : Nat) : Int) := by omega
      have d1 : ((4 * c + i : Nat) : Int) < ((w.length : Nat) : Int) := by rw [hw]; omega
      have hr := hz.2 _ q
      simp only [ref10_rows.l1, b1, p, p2, c0, c1, d0, d1, hr, if_true, Option.bind_some, inc (i := i) (by omega)]) (fun k w => by simp only [ref10_rows.l1]; rfl) 4 0 K w (by decide) hK hw (fun _ _ _ => rfl)
  refine ⟨y, h1, h0, fun j hj => ?_⟩
  rw [h2 j hj]
  split
  · rename_i h
    rw [if_pos (by omega), show j / 4 = c by omega, show j % 4 = j - 4 * c by omega]
  · rw [if_neg (by omega)]
theorem rRows (K : Nat) (hK : 4 < K) {z : List Int} {s : Nat → Nat} (hz : LsS z s) (a1 : Int) (ρ : Nat → Nat → Nat)
    (hρ : ∀ c r : Nat, c < 4 → r < 4 → iadd .i64 (imul .i64 4 (irem .i64 (iadd .i64 (iadd .i64 (c : Int) (imul .i64 a1 (r : Int))) 4) 4)) (r : Int) = ((ρ c r : Nat) : Int) ∧ ρ c r < 16) : ∃ y, ref10_rows.f K z a1 = some y ∧ LsS y (fun j => s (ρ (j / 4) (j % 4))) := by
  obtain ⟨y, h1, h2⟩ := cols (fun c w => ref10_rows.l1 K K z a1 (c : Int) 0 w) (fun k c w => ref10_rows.l0 K k z a1 c w) (fun j => s (ρ (j / 4) (j % 4))) (fun c w hc hw => rRow K hK hz a1 ρ hρ hc w hw)
    (fun k c w hc => by
      have b1 : (c : Int) < 4 := by omega
      simp only [ref10_rows.l0, b1, if_true, Option.bind_some, inc (i := c) (by omega)]) (fun k w => by simp only [ref10_rows.l0]; rfl) 4 0 K zero16 (by decide) hK len16 (fun j h => absurd h (by omega))
  refine ⟨y, ?_, h2⟩
  unfold ref10_rows.f
  rw [show ref10_rows.l0 K K z a1 0 zero16 = some y from h1]
  rfl
theorem row_there : ∀ c r : Fin 4, iadd .i64 (imul .i64 4 (irem .i64 (iadd .i64 (iadd .i64 (c.val : Int) (imul .i64 1 (r.val : Int))) 4) 4)) (r.val : Int) = ((4 * ((c.val + r.val) % 4) + r.val : Nat) : Int) ∧ 4 * ((c.val + r.val) % 4) + r.val < 16 := by decide
/-! ### columns -/
theorem pc0 : ∀ c r : Fin 4, iadd .i64 (imul .i64 4 (c.val : Int)) (irem .i64 (iadd .i64 (r.val : Int) 0) 4) = ((4 * c.val + (r.val + 0) % 4 : Nat) : Int) := by decide
theorem pc1 : ∀ c r : Fin 4, iadd .i64 (imul .i64 4 (c.val : Int)) (irem .i64 (iadd .i64 (r.val : Int) 1) 4) = ((4 * c.val + (r.val + 1) % 4 : Nat) : Int) := by decide
theorem pc2 : ∀ c r : Fin 4, iadd .i64 (imul .i64 4 (c.val : Int)) (irem .i64 (iadd .i64 (r.val : Int) 2) 4) = ((4 * c.val + (r.val + 2) % 4 : Nat) : Int) := by decide
theorem pc3 : ∀ c r : Fin 4, iadd .i64 (imul .i64 4 (c.val : Int)) (irem .i64 (iadd .i64 (r.val : Int) 3) 4) = ((4 * c.val + (r.val + 3) % 4 : Nat) : Int) := by decide
theorem atq_cq (m0 m1 m2 m3 : Nat) (s : Nat → Nat) (c : Nat) : ∀ r, r < 4 → atq (cq m0 m1 m2 m3 (colq s c)) r = ((gm m0 (s (4 * c + (r + 0) % 4)) ^^^ gm m1 (s (4 * c + (r + 1) % 4))) ^^^ gm m2 (s (4 * c + (r + 2) % 4))) ^^^ gm m3 (s (4 * c + (r + 3) % 4))
  | 0, _ => rfl
  | 1, _ => rfl
  | 2, _ => rfl
  | 3, _ => rfl
theorem rCell (K : Nat) (hK : 8 < K) {z : List Int} {s : Nat → Nat} (hz : LsS z s) (hs : Bd s) (a1 : Arr 4) (m0 m1 m2 m3 : Nat) (l0 : m0 < 256) (l1 : m1 < 256) (l2 : m2 < 256) (l3 : m3 < 256)
    (e0 : rd a1 0 = (m0 : Int)) (e1 : rd a1 1 = (m1 : Int)) (e2 : rd a1 2 = (m2 : Int)) (e3 : rd a1 3 = (m3 : Int)) {c r : Nat} (hc : c < 4) (hr : r < 4) :
    ref10_columns.l2 K K z a1 (c : Int) (r : Int) 0 0 = some ((atq (cq m0 m1 m2 m3 (colq s c)) r : Nat) : Int) := by
  obtain ⟨k, rfl⟩ : ∃ q, K = q + 5 := ⟨K - 5, by omega⟩
  have i0 : iadd .i64 0 1 = 1 := by decide
  have i1 : iadd .i64 1 1 = 2 := by decide
  have i2 : iadd .i64 2 1 = 3 := by decide
  have i3 : iadd .i64 3 1 = 4 := by decide
  have c0 : (0 : Int) < 4 := by decide
  have c1 : (1 : Int) < 4 := by decide
  have c2 : (2 : Int) < 4 := by decide
  have c3 : (3 : Int) < 4 := by decide
  have c4 : ¬ (4 : Int) < 4 := by decide
  have n0 : (0 : Int) ≤ 0 := by decide
  have n1 : (0 : Int) ≤ 1 := by decide
  have n2 : (0 : Int) ≤ 2 := by decide
  have n3 : (0 : Int) ≤ 3 := by decide
  have p0 := pc0 ⟨c, hc⟩ ⟨r, hr⟩
  have p1 := pc1 ⟨c, hc⟩ ⟨r, hr⟩
  have p2 := pc2 ⟨c, hc⟩ ⟨r, hr⟩
  have p3 := pc3 ⟨c, hc⟩ ⟨r, hr⟩
  dsimp only at p0 p1 p2 p3
  have q : ∀ i, 4 * c + (r + i) % 4 < 16 := fun i => by omega
  have g : ∀ i, rdL (CI .u8) z ((4 * c + (r + i) % 4 : Nat) : Int) = ((s (4 * c + (r + i) % 4) : Nat) : Int) := fun i => hz.2 _ (q i)
  have d0 : ∀ i, (0 : Int) ≤ ((4 * c + (r + i) % 4 : Nat) : Int) := fun i => by omega
  have d1 : ∀ i, ((4 * c + (r + i) % 4 : Nat) : Int) < ((z.length : Nat) : Int) := fun i => by rw [hz.1]; omega
  have b : ∀ i, s (4 * c + (r + i) % 4) < 256 := fun i => hs _ (q i)
  have x0 := rMul (k + 5) hK l0 (b 0)
  have x1 := rMul (k + 5) hK l1 (b 1)
  have x2 := rMul (k + 5) hK l2 (b 2)
  have x3 := rMul (k + 5) hK l3 (b 3)
  have g0 := gm_lt (b := s (4 * c + (r + 0) % 4)) l0
  have g1 := gm_lt (b := s (4 * c + (r + 1) % 4)) l1
  have g2 := gm_lt (b := s (4 * c + (r + 2) % 4)) l2
  have g3 := gm_lt (b := s (4 * c + (r + 3) % 4)) l3
  have y0 : ixor .u8 0 ((gm m0 (s (4 * c + (r + 0) % 4)) : Nat) : Int) = ((gm m0 (s (4 * c + (r + 0) % 4)) : Nat) : Int) := by
    have := ix8 (a := 0) (by decide) g0
    rw [Nat.zero_xor] at this
    exact this
  have y1 := ix8 g0 g1
  have y2 := ix8 (xor_lt g0 g1) g2
  have y3 := ix8 (xor_lt (xor_lt g0 g1) g2) g3
  rw [atq_cq m0 m1 m2 m3 s c r hr]
  simp only [ref10_columns.l2, c0, c1, c2, c3, c4, n0, n1, n2, n3, p0, p1, p2, p3, d0, d1, e0, e1, e2, e3, g, x0, x1, x2, x3, y0, y1, y2, y3, i0, i1, i2, i3, if_true, if_false, Option.bind_some]
theorem rCols (K : Nat) (hK : 8 < K) {z : List Int} {s : Nat → Nat} (hz : LsS z s) (hs : Bd s) (a1 : Arr 4) (m0 m1 m2 m3 : Nat) (l0 : m0 < 256) (l1 : m1 < 256) (l2 : m2 < 256) (l3 : m3 < 256)
    (e0 : rd a1 0 = (m0 : Int)) (e1 : rd a1 1 = (m1 : Int)) (e2 : rd a1 2 = (m2 : Int)) (e3 : rd a1 3 = (m3 : Int)) : ∃ y, ref10_columns.f K z a1 = some y ∧ LsS y (onq (cq m0 m1 m2 m3) s) := by
  obtain ⟨y, h1, h2⟩ := cols (fun c w => ref10_columns.l1 K K z a1 (c : Int) 0 w) (fun k c w => ref10_columns.l0 K k z a1 c w) (onq (cq m0 m1 m2 m3) s) (fun c w hc hw => by
      obtain ⟨y, h1, h0, h2⟩ := fillS (S := List Int) (fun z j => rdL (CI .u8) z (j : Int)) (fun z i x => wrL z (i : Int) x) (fun z => z.length = 16) 16 (setL 16) (fun k i w => ref10_columns.l1 K k z a1 (c : Int) i w) (4 * c) 4 (by omega)
        (fun r => ((atq (cq m0 m1 m2 m3 (colq s c)) r : Nat) : Int)) w (fun k i w hi hw _ => by
          have b1 : (i : Int) < 4 := by omega
          have p2 := inc4 hc hi
          have d0 : (0 : Int) ≤ ((4 * c + i : Nat) : Int) := by omega
          have d1 : ((4 * c + i : Nat) : Int) < ((w.length : Nat) : Int) := by rw [hw]; omega
          have hr := rCell K hK hz hs a1 m0 m1 m2 m3 l0 l1 l2 l3 e0 e1 e2 e3 hc hi
          simp only [ref10_columns.l1, b1, p2, d0, d1, hr, if_true, Option.bind_some, inc (i := i) (by omega)]) (fun k w => by simp only [ref10_columns.l1]; rfl) 4 0 K w (by decide) (by omega) hw (fun _ _ _ => rfl)
      refine ⟨y, h1, h0, fun j hj => ?_⟩
      rw [h2 j hj]
      split
      · rename_i h
        rw [if_pos (by omega)]
        have e : onq (cq m0 m1 m2 m3) s j = atq (cq m0 m1 m2 m3 (colq s c)) (j - 4 * c) := by
          unfold onq
          rw [show j / 4 = c by omega, show j % 4 = j - 4 * c by omega]
        rw [e]
      · rw [if_neg (by omega)])
    (fun k c w hc => by
      have b1 : (c : Int) < 4 := by omega
      simp only [ref10_columns.l0, b1, if_true, Option.bind_some, inc (i := c) (by omega)]) (fun k w => by simp only [ref10_columns.l0]; rfl) 4 0 K zero16 (by decide) (by omega) len16 (fun j h => absurd h (by omega))
  refine ⟨y, ?_, h2⟩
  unfold ref10_columns.f
  rw [show ref10_columns.l0 K K z a1 0 zero16 = some y from h1]
  rfl
/-! ### xor -/
theorem rXor (K : Nat) (hK : 16 < K) {z w : List Int} {s t : Nat → Nat} (hz : LsS z s) (hw : LsS w t) (hs : Bd s) (ht : Bd t) : ∃ y, ref01_Xor.f K z w = some y ∧ LsS y (xk s t) := by
  have key : ∀ n (i k : Nat), i + n = 16 → n < k → ref01_Xor.l0 K k z w (i : Int) ((List.range i).map fun j => ((xk s t j : Nat) : Int)) = some ((List.range 16).map fun j => ((xk s t j : Nat) : Int)) := by
    intro n
    induction n with
    | zero =>
      intro i k hi hk
      obtain ⟨k, rfl⟩ : ∃ q, k = q + 1 := ⟨k - 1, by omega⟩
      obtain rfl : i = 16 := by omega
      have h : ¬ ((16 : Nat) : Int) < ((z.length : Nat) : Int) := by rw [hz.1]; omega
      simp only [ref01_Xor.l0, h, if_false]
    | succ n ih =>
      intro i k hi hk
      obtain ⟨k, rfl⟩ : ∃ q, k = q + 1 := ⟨k - 1, by omega⟩
      obtain ⟨b0, b1⟩ := lt16 (i := i) (by omega)
      have h1 : (i : Int) < ((z.length : Nat) : Int) := by rw [hz.1]; exact b1
      have h2 : (i : Int) < ((w.length : Nat) : Int) := by rw [hw.1]; exact b1
      have x1 := ix8 (hs i (by omega)) (ht i (by omega))
      have hl : ((List.range i).map fun j => ((xk s t j : Nat) : Int)).length + ([((s i ^^^ t i : Nat) : Int)] : List Int).length ≤ 140737488355328 := by simp; omega
      simp only [ref01_Xor.l0, b0, h1, h2, hz.2 i (by omega), hw.2 i (by omega), x1, hl, if_true, Option.bind_some, inc (i := i) (by omega)]
      rw [← ih (i + 1) k (by omega) (by omega), List.range_succ, List.map_append]
      rfl
  refine ⟨_, ?_, ls_map _⟩
  unfold ref01_Xor.f
  rw [show ref01_Xor.l0 K K z w 0 ([] : List Int) = _ from key 16 0 K (by decide) hK]
  rfl
end Go.Proofs.Ytmpagpbnpgcecaa
