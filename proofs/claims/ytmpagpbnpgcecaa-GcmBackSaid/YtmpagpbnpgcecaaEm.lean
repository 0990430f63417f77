/- Layer 10 (aes), plain laws: a block there is the document's. -/
import Derived.Test.YtmpagpbnpgcecaaEl
set_option linter.unusedSimpArgs false
set_option linter.unusedVariables false
set_option maxRecDepth 100000
namespace Go.Proofs.Ytmpagpbnpgcecaa
open Go Go.Mx
theorem byte_at {a : List Int} (ha : InL .u8 a) (q : Nat) (hq : q < a.length) : 0 ≤ a.getD q 0 ∧ a.getD q 0 < 256 := by
  rw [List.getD_eq_getElem?_getD, List.getElem?_eq_getElem hq]
  obtain ⟨h0, h1⟩ : 0 ≤ a[q] ∧ a[q] ≤ 255 := ha _ (List.getElem_mem hq)
  exact ⟨h0, by show a[q] < 256; omega⟩
theorem zs_of {a : List Int} (ha : InL .u8 a) {n : Nat} (hl : a.length = 4 * n) : ∃ g, ZS a n g ∧ BG g n := by
  refine ⟨fun q => (a.getD q 0).toNat, ?_, fun q hq => ?_⟩
  · refine List.ext_getElem (by simp [hl]) fun q h1 h2 => ?_
    have h := byte_at ha q h1
    rw [List.getElem_map, List.getElem_range]
    show _ = (((a.getD q 0).toNat : Nat) : Int)
    rw [Int.toNat_of_nonneg h.1, List.getD_eq_getElem?_getD, List.getElem?_eq_getElem h1]
    rfl
  · have h := byte_at ha q (by omega)
    show (a.getD q 0).toNat < 256
    omega
/-- a list's bytes -/
def bS (b : List Int) (q : Nat) : Nat := (b.getD q 0).toNat
theorem ls_of {a : List Int} (ha : InL .u8 a) (hl : a.length = 16) : LsS a (bS a) ∧ Bd (bS a) ∧ ArS (arrL 16 a) (bS a) := by
  have key : ∀ j : Nat, j < 16 → a.getD j 0 = (((a.getD j 0).toNat : Nat) : Int) := fun j hj => (Int.toNat_of_nonneg (byte_at ha j (by omega)).1).symm
  refine ⟨⟨hl, fun j hj => ?_⟩, fun j hj => ?_, fun j hj => ?_⟩
  · exact key j hj
  · have h := byte_at ha j (by omega)
    show (a.getD j 0).toNat < 256
    omega
  · rw [rd_arrL a hj]
    exact key j hj
/-- what both make of a key -/
def Keys (K : Nat) (a : List Int) (nk : Nat) (g : Nat → Nat) : Prop :=
  ∃ ws0 ws rk z, aes_began_s.l0 K K a 0 [] = some ws0 ∧ aes_began_s.l1 K K tabs.1 tabs.2 (nk : Int) (nk : Int) 1 ws0 = some ws ∧ aes_began_s.l2 K K ws 0 [] = some rk ∧ RK rk (nk + 7) g ∧ ref10_keys.f K a tabs.1 = some z ∧ ZS z (4 * (nk + 7)) g ∧ BG g (4 * (nk + 7))
theorem keysOf (K : Nat) (hK : 256 < K) {a : List Int} (ha : InL .u8 a) {nk : Nat} (n0 : 4 ≤ nk) (n1 : nk ≤ 8) (hl : a.length = 4 * nk) : ∃ g, Keys K a nk g := by
  obtain ⟨g0, hz, hg⟩ := zs_of ha hl
  obtain ⟨ws0, e1, w1⟩ := aWords K n1 hz nk 0 K [] (by omega) (by omega) ⟨rfl, fun p hp => absurd hp (by omega)⟩
  obtain ⟨ws, z, g, e2, e3, w2, z2, g2⟩ := keyLoops K (by omega) n0 n1 (4 * (nk + 7) - nk) nk 1 K K ws0 a g0 (by omega) (by omega) (by omega) (Nat.le_refl _) (by decide) w1 hz hg
  obtain ⟨rk, e4, r4⟩ := aRounds K (by omega) (m := nk + 7) (by omega) w2 (nk + 7) 0 K [] (by omega) (by omega) ⟨rfl, fun p hp => absurd hp (by omega)⟩
  refine ⟨g, ws0, ws, rk, z, e1, e2, e4, r4, ?_, z2, g2⟩
  unfold ref10_keys.f
  have q : iquo .i64 ((a.length : Nat) : Int) 4 = (nk : Int) := by
    unfold iquo
    rw [hl, tdivN (by omega), id64 (by omega) (by omega)]
    omega
  have c : ([] : List Int).length + a.length ≤ 140737488355328 := by rw [hl]; show 0 + 4 * nk ≤ _; omega
  have e3' : ref10_keys.l0 K K tabs.1 (nk : Int) 1 (nk : Int) (([] : List Int) ++ a) = some z := e3
  simp only [q, c, e3', if_true, Option.bind_some]
theorem iq4 {nk : Nat} (h : nk ≤ 8) : iquo .i64 ((4 * nk : Nat) : Int) 4 = (nk : Int) := by
  unfold iquo
  rw [tdivN (by omega), id64 (by omega) (by omega)]
  omega
theorem sizedN {nk : Nat} (h : nk = 4 ∨ nk = 6 ∨ nk = 8) {a : List Int} (hl : a.length = 4 * nk) (K : Nat) : aes_sized.f K a = some true ∧ ref10_Sized.f K a = some true := by
  unfold aes_sized.f ref10_Sized.f
  rw [hl]
  rcases h with rfl | rfl | rfl <;> exact ⟨rfl, rfl⟩
theorem subL_all {l : List Int} (h : l.length = 16) : subL l 0 16 = l := by
  unfold subL
  show (l.take 16).drop 0 = l
  rw [← h, List.take_length]
  rfl
theorem bytes_of {x : List Int} {s : Nat → Nat} (h : LsS x s) (hb : Bd s) : x.length = 16 ∧ InL .u8 x := by
  refine ⟨h.1, fun v hv => ?_⟩
  obtain ⟨j, hj, rfl⟩ := List.mem_iff_getElem.1 hv
  have h1 := h.2 j (by rw [← h.1]; exact hj)
  have h2 := hb j (by rw [← h.1]; exact hj)
  have h3 : x[j] = ((s j : Nat) : Int) := by
    rw [← h1]
    show _ = x.getD j 0
    rw [List.getD_eq_getElem?_getD, List.getElem?_eq_getElem hj]
    rfl
  rw [h3]
  exact (⟨by omega, by omega⟩ : (0 : Int) ≤ ((s j : Nat) : Int) ∧ ((s j : Nat) : Int) ≤ 255)
/-- the cipher, there -/
def tF (g : Nat → Nat) (m : Nat) (s : Nat → Nat) : Nat → Nat := thR (m - 1) g (m - 1) 1 (xk s (kS g 0))
theorem blockThereK (K : Nat) (hK : 256 < K) (hM : aes_made.f K = some (tabs.1, tabs.2)) {a b : List Int} (hb : InL .u8 b) {nk : Nat} (hn : nk = 4 ∨ nk = 6 ∨ nk = 8) (hl : a.length = 4 * nk) (hlb : b.length = 16) {g : Nat → Nat} (hkey : Keys K a nk g) :
    ∃ y, aes_Block.f K a b = some (y, 0) ∧ ref10_Block.f K a b = some (y, 0) ∧ y.length = 16 ∧ InL .u8 y ∧ LsS y (tF g (nk + 7) (bS b)) := by
  obtain ⟨hs1, hs2⟩ := sizedN hn hl K
  have n0 : 4 ≤ nk := by omega
  have n1 : nk ≤ 8 := by omega
  obtain ⟨ws0, ws, rk, z, e1, e2, e3, hrk, e4, hz, hg⟩ := hkey
  obtain ⟨hs, bs, as⟩ := ls_of hb hlb
  have bk := kS_bd hg (r := 0) (by omega)
  obtain ⟨y0, e5, a0⟩ := aKey K (by omega) as bs bk rk 0 (hrk.2 0 (by omega))
  obtain ⟨x0, f0, b0⟩ := rXor K (by omega) hs (rKey hz (r := 0) (by omega)) bs bk
  obtain ⟨y, x, s', e6, f1, a1, b1, bs', hs'⟩ := aThere K (by omega) (by omega) (by omega) hrk hz hg (nk + 7 - 1) 1 K K y0 x0 _ (by omega) (by omega) (by omega) a0 b0 (xk_bd bs bk)
  have hxy : lA y = x := ls_eq b1 a1
  have e6' : aes_cipher_there_s.l0 K K tabs.1 tabs.2 rk ((nk + 7 - 1 : Nat) : Int) 1 y0 = some y := e6
  have f1' : ref10_there.l0 K K z tabs.1 ((nk + 7 - 1 : Nat) : Int) 1 x0 = some x := f1
  have f0' : ref01_Xor.f K b (subL z 0 16) = some x0 := f0
  refine ⟨x, ?_, ?_, (bytes_of b1 bs').1, (bytes_of b1 bs').2, by rw [hs'] at b1; exact b1⟩
  · unfold aes_Block.f aes_wrong.f aes_began_s.f aes_cipher_there_s.f
    have c1 : ((b.length : Nat) : Int) = 16 := by omega
    have c2 : 16 ≤ b.length := by omega
    have c3 : (0 : Int) ≤ ((4 * (nk + 7) : Nat) : Int) := by omega
    have c4 : ((4 * (nk + 7) : Nat) : Int) ≤ 35184372088832 := by omega
    have c5 : (0 : Int) ≤ 0 := by decide
    have c6 : (0 : Int) < ((rk.length : Nat) : Int) := by rw [hrk.1]; omega
    have p1 : isub .i64 ((rk.length : Nat) : Int) 1 = ((nk + 7 - 1 : Nat) : Int) := by rw [hrk.1]; exact sub_nat (b := 1) (by omega) (by omega)
    have e5' : aes_cipher_add_s.f K tabs.1 tabs.2 rk (arrL 16 b) 0 = some y0 := addS K (r := 0) (by rw [hrk.1]; omega) e5
    simp only [hs1, c1, c2, hM, hl, iq4 n1, nwords n1, c3, c4, e1, e2, e3, p1, e5', e6', if_true, Option.bind_some]
    rw [subL_all (lA_len y), hxy]
  · unfold ref10_Block.f ref10_there.f
    have c1 : ((b.length : Nat) : Int) = 16 := by omega
    have q : iquo .i64 ((z.length : Nat) : Int) 16 = ((nk + 7 : Nat) : Int) := by
      unfold iquo
      rw [hz.len, tdivN (by omega), id64 (by omega) (by omega)]
      omega
    have p1 : isub .i64 ((nk + 7 : Nat) : Int) 1 = ((nk + 7 - 1 : Nat) : Int) := sub_nat (b := 1) (by omega) (by omega)
    have c5 : (0 : Int) ≤ 0 := by decide
    have c6 : (0 : Int) ≤ 16 := by decide
    have c7 : (16 : Int) ≤ ((z.length : Nat) : Int) := by rw [hz.len]; omega
    simp only [hs2, c1, rBoxes K hK, e4, q, p1, c5, c6, c7, f0', f1', if_true, Option.bind_some]
theorem blockThere' (K : Nat) (hK : 256 < K) (hM : aes_made.f K = some (tabs.1, tabs.2)) {a b : List Int} (ha : InL .u8 a) (hb : InL .u8 b) {nk : Nat} (hn : nk = 4 ∨ nk = 6 ∨ nk = 8) (hl : a.length = 4 * nk) (hlb : b.length = 16) :
    ∃ y, aes_Block.f K a b = some (y, 0) ∧ ref10_Block.f K a b = some (y, 0) ∧ y.length = 16 ∧ InL .u8 y := by
  obtain ⟨g, hg⟩ := keysOf K hK ha (by omega) (by omega) hl
  obtain ⟨y, h1, h2, h3, h4, _⟩ := blockThereK K hK hM hb hn hl hlb hg
  exact ⟨y, h1, h2, h3, h4⟩
end Go.Proofs.Ytmpagpbnpgcecaa
