/- Layer 10 (aes), plain laws: a block there is the document's. -/
import Derived.Test.YtmpagpbnpgcecaaEl
set_option linter.unusedSimpArgs false
set_option linter.unusedVariables false
set_option maxRecDepth 100000
namespace Go.Proofs.Ytmpagpbnpgcecaa
open Go Go.Mx
theorem byte_at {a : List Int} (ha : InL .u8 a) (q : Nat) (hq : q < a.length) : 0 ≤ a.getD q 0 ∧ a.getD q 0 < 256 := by
  rw [List.getD_eq_getElem?_getD, List.getElem?_eq_getElem hq]
  obtain ⟨h0, h1⟩ : 0 ≤ a[q] ∧ a[q] ≤ 255 := ha _ (List.getElem_mem hq)
  exact ⟨h0, by show a[q] < 256; omega⟩
theorem zs_of {a : List Int} (ha : InL .u8 a) {n : Nat} (hl : a.length = 4 * n) : ∃ g, ZS a n g ∧ BG g n := by
  refine ⟨fun q => (a.getD q 0).toNat, ?_, fun q hq => ?_⟩
  · refine List.ext_getElem (by simp [hl]) fun q h1 h2 => ?_
    have h := byte_at ha q h1
    rw [List.getElem_map, List.getElem_range]
    show _ = (((a.getD q 0).toNat : Nat) : Int)
    rw [Int.toNat_of_nonneg h.1, List.getD_eq_getElem?_getD, List.getElem?_eq_getElem h1]
    rfl
  · have h := byte_at ha q (by omega)
    show (a.getD q 0).toNat < 256
    omega
/-- a list's bytes -/
def bS (b : List Int) (q : Nat) : Nat := (b.getD q 0).toNat
theorem ls_of {a : List Int} (ha : InL .u8 a) (hl : a.length = 16) : LsS a (bS a) ∧ Bd (bS a) ∧ ArS (arrL 16 a) (bS a) := by
  have key : ∀ j : Nat, j < 16 → a.getD j 0 = (((a.getD j 0).toNat : Nat) : Int) := fun j hj => (Int.toNat_of_nonneg (byte_at ha j (by omega)).1).symm
  refine ⟨⟨hl, fun j hj => ?_⟩, fun j hj => ?_, fun j hj => ?_⟩
  · exact key j hj
  · have h := byte_at ha j (by omega)
    show (a.getD j 0).toNat < 256
    omega
  · rw [rd_arrL a hj]
    exact key j hj
/-- what both make of a key -/
def Keys (K : Nat) (a : List Int) (nk : Nat) (g : Nat → Nat) : Prop :=
  ∃ ws0 ws rk z, aes_began_s.l0 K K a 0 [] = some ws0 ∧ aes_began_s.l1 K K tabs.1 tabs.2 (nk : Int) (nk : Int) 1 ws0 = some ws ∧ aes_began_s.l2 K K ws 0 [] = some rk ∧ RK rk (nk + 7) g ∧ ref10_keys.f K a tabs.1 = some z ∧ ZS z (4 * (nk + 7)) g ∧ BG g (4 * (nk + 7))
theorem keysOf (K : Nat) (hK : 256 < K) {a : List Int} (ha : InL .u8 a) {nk : Nat} (n0 : 4 ≤ nk) (n1 : nk ≤ 8) (hl : a.length = 4 * nk) : ∃ g, Keys K a nk g := by
  obtain ⟨g0, hz, hg⟩ := zs_of ha hl
  obtain ⟨ws0, e1, w1⟩ := aWords K n1 hz nk 0 K [] (by omega) (by omega) ⟨rfl, fun p hp => absurd hp (by omega)⟩
  obtain ⟨ws, z, g, e2, e3, w2, z2, g2⟩ := keyLoops K (by omega) n0 n1 (4 * (nk + 7) - nk) nk 1 K K ws0 a g0 (by omega) (by omega) (by omega) (Nat.le_refl _) (by decide) w1 hz hg
  obtain ⟨rk, e4, r4⟩ := aRounds K (by omega) (m := nk + 7) (by omega) w2 (nk + 7) 0 K [] (by omega) (by omega) ⟨rfl, fun p hp => absurd hp (by omega)⟩
  refine ⟨g, ws0, ws, rk, z, e1, e2, e4, r4, ?_, z2, g2⟩
  unfold ref10_keys.f
  have q : iquo .i64 ((a.length : Nat) : Int) 4 = (nk : Int) := by
    unfold iquo
    rw [hl, tdivN (by omega), id64 (by omega) (by omega)]
    omega
  have c : ([] : List Int).length + a.length ≤ 140737488355328 := by rw [hl]; show 0 + 4 * nk ≤ _; omega
  have e3' : ref10_keys.l0 K K tabs.1 (nk : Int) 1 (nk : Int) (([] : List Int) ++ a) = some z := e3
  simp only [q, c, e3', if_true, Option.bind_some]
theorem iq4 {nk : Nat} (h : nk ≤ 8) : iquo .i64 ((4 * nk : Nat) : Int) 4 = (nk : Int) := by
  unfold iquo
  rw [tdivN (by omega), id64 (by omega) (by omega)]
  omega
theorem subL_all {l : List Int} (h : l.length = 16) : subL l 0 16 = l := by
  unfold subL
  show (l.take 16).drop 0 = l
  rw [← h, List.take_length]
  rfl
theorem bytes_of {x : List Int} {s : Nat → Nat} (h : LsS x s) (hb : Bd s) : x.length = 16 ∧ InL .u8 x := by
  refine ⟨h.1, fun v hv => ?_⟩
  obtain ⟨j, hj, rfl⟩ := List.mem_iff_getElem.1 hv
  have h1 := h.2 j (by rw [← h.1]; exact hj)
  have h2 := hb j (by rw [← h.1]; exact hj)
  have h3 : x[j] = ((s j : Nat) : Int) := by
    rw [← h1]
    show _ = x.getD j 0
    rw [List.getD_eq_getElem?_getD, List.getElem?_eq_getElem hj]
    rfl
  rw [h3]
  exact (⟨by omega, by omega⟩ : (0 : Int) ≤ ((s j : Nat) : Int) ∧ ((s j : Nat) : Int) ≤ 255)
/-- the cipher, there -/
def tF (g : Nat → Nat) (m : Nat) (s : Nat → Nat) : Nat → Nat := thR (m - 1) g (m - 1) 1 (xk s (kS g 0))
end Go.Proofs.Ytmpagpbnpgcecaa
