/- Layer 10 (aes), plain laws: a block there. -/
import Derived.Test.YtmpagpbnpgcecaaEk
set_option linter.unusedSimpArgs false
set_option linter.unusedVariables false
set_option maxRecDepth 100000
namespace Go.Proofs.Ytmpagpbnpgcecaa
open Go Go.Mx
def boxN : Nat → Nat → Arr 256 → Arr 256 → Arr 256 × Arr 256
  | 0, _, z, w => (z, w)
  | n + 1, c, z, w => boxN n (c + 1) (wr z ((bx c : Nat) : Int) (c : Int)) (wr w (c : Int) ((bx c : Nat) : Int))
theorem rBoxes_l0 (K : Nat) (hK : 8 < K) : ∀ (n c k : Nat) (z w : Arr 256), c + n = 256 → n < k → ref10_boxes.l0 K k (c : Int) z w = some (boxN n c z w) := by
  intro n
  induction n with
  | zero =>
    intro c k z w hc hk
    obtain ⟨k, rfl⟩ : ∃ q, k = q + 1 := ⟨k - 1, by omega⟩
    obtain rfl : c = 256 := by omega
    have h : ¬ ((256 : Nat) : Int) < 256 := by decide
    simp only [ref10_boxes.l0, h, if_false]
    rfl
  | succ n ih =>
    intro c k z w hc hk
    obtain ⟨k, rfl⟩ : ∃ q, k = q + 1 := ⟨k - 1, by omega⟩
    have c0 : (0 : Int) ≤ (c : Int) := by omega
    have c1 : (c : Int) < 256 := by omega
    have e : iconv .u8 (c : Int) = (c : Int) := conv8 (by omega)
    obtain ⟨h1, h2⟩ := rBox K hK (c := c) (by omega)
    have c2 : (0 : Int) ≤ ((bx c : Nat) : Int) := by omega
    have c3 : ((bx c : Nat) : Int) < 256 := by omega
    simp only [ref10_boxes.l0, c0, c1, e, h1, c2, c3, if_true, Option.bind_some, inc (i := c) (by omega)]
    exact ih (c + 1) k _ _ (by omega) (by omega)
theorem box_pair : boxN 256 0 (zeroA 256) (zeroA 256) = (tabs.2, tabs.1) := by decide +kernel
theorem rBoxes (K : Nat) (hK : 256 < K) : ref10_boxes.f K = some (tabs.1, tabs.2) := by
  have h := rBoxes_l0 K (by omega) 256 0 K (zeroA 256) (zeroA 256) (by decide) hK
  rw [box_pair] at h
  unfold ref10_boxes.f
  rw [show ref10_boxes.l0 K K 0 (zeroA 256) (zeroA 256) = some (tabs.2, tabs.1) from h]
  rfl
/-! ### rounds -/
def kS (g : Nat → Nat) (r j : Nat) : Nat := g (16 * r + j)
theorem kS_bd {g : Nat → Nat} {m r : Nat} (hg : BG g (4 * m)) (hr : r < m) : Bd (kS g r) := fun j hj => hg _ (by omega)
theorem rKey {z : List Int} {g : Nat → Nat} {m r : Nat} (hz : ZS z (4 * m) g) (hr : r < m) : LsS (subL z ((16 * r : Nat) : Int) ((16 * (r + 1) : Nat) : Int)) (kS g r) := by
  refine ⟨by rw [subL_lenN (by omega) (by rw [hz.len]; omega)]; omega, fun j hj => ?_⟩
  rw [rdL_subL (CI .u8) z (by omega)]
  exact hz.rd (by omega)
theorem addS (K : Nat) {rk : List (Arr 16)} {r : Nat} (hr : r < rk.length) {b y : Arr 16} (e : aes_cipher_add_s.l0 K K rk (r : Int) 0 b = some y) : aes_cipher_add_s.f K tabs.1 tabs.2 rk b (r : Int) = some y := by
  unfold aes_cipher_add_s.f
  have c1 : (0 : Int) ≤ (r : Int) := by omega
  have c2 : (r : Int) < ((rk.length : Nat) : Int) := by omega
  rw [if_pos c1, if_pos c2, e]
  rfl
theorem m_there : rd (wr (wr (wr (wr (zeroA 4) 0 2) 1 3) 2 1) 3 1) 0 = ((2 : Nat) : Int) ∧ rd (wr (wr (wr (wr (zeroA 4) 0 2) 1 3) 2 1) 3 1) 1 = ((3 : Nat) : Int) ∧ rd (wr (wr (wr (wr (zeroA 4) 0 2) 1 3) 2 1) 3 1) 2 = ((1 : Nat) : Int) ∧ rd (wr (wr (wr (wr (zeroA 4) 0 2) 1 3) 2 1) 3 1) 3 = ((1 : Nat) : Int) := rd4 _ _ _ _ _
def rdT (last r : Nat) (g s : Nat → Nat) : Nat → Nat := xk (if r < last then onq mq (sh s) else sh s) (kS g r)
def thR (last : Nat) (g : Nat → Nat) : Nat → Nat → (Nat → Nat) → Nat → Nat
  | 0, _, s => s
  | n + 1, r, s => thR last g n (r + 1) (rdT last r g s)
theorem aThere (K : Nat) (hK : 100 < K) {rk : List (Arr 16)} {g : Nat → Nat} {m : Nat} (h0 : 0 < m) (hm : m ≤ 100) (hrk : RK rk m g) {z : List Int} (hz : ZS z (4 * m) g) (hg : BG g (4 * m)) : ∀ (n r k k' : Nat) (b : Arr 16) (x : List Int) (s : Nat → Nat), r + n = m → n < k → n < k' → ArS b s → LsS x s → Bd s →
    ∃ b' x' s', aes_cipher_there_s.l0 K k tabs.1 tabs.2 rk ((m - 1 : Nat) : Int) (r : Int) b = some b' ∧ ref10_there.l0 K k' z tabs.1 ((m - 1 : Nat) : Int) (r : Int) x = some x' ∧ ArS b' s' ∧ LsS x' s' ∧ Bd s' ∧ s' = thR (m - 1) g n r s := by
  intro n
  induction n with
  | zero =>
    intro r k k' b x s hr hk hk' hb hx hs
    obtain ⟨k, rfl⟩ : ∃ q, k = q + 1 := ⟨k - 1, by omega⟩
    obtain ⟨k', rfl⟩ : ∃ q, k' = q + 1 := ⟨k' - 1, by omega⟩
    have h : ¬ (r : Int) ≤ ((m - 1 : Nat) : Int) := by omega
    exact ⟨b, x, s, by simp only [aes_cipher_there_s.l0, h, if_false], by simp only [ref10_there.l0, h, if_false], hb, hx, hs, rfl⟩
  | succ n ih =>
    intro r k k' b x s hr hk hk' hb hx hs
    obtain ⟨k, rfl⟩ : ∃ q, k = q + 1 := ⟨k - 1, by omega⟩
    obtain ⟨k', rfl⟩ : ∃ q, k' = q + 1 := ⟨k' - 1, by omega⟩
    have c0 : (r : Int) ≤ ((m - 1 : Nat) : Int) := by omega
    have c1 : (0 : Int) ≤ (r : Int) := by omega
    have c2 : r < rk.length := by rw [hrk.1]; omega
    have p1 : imul .i64 16 (r : Int) = ((16 * r : Nat) : Int) := by rw [mul64 (by omega) (by omega)]; omega
    have p2 : iadd .i64 ((16 * r : Nat) : Int) 16 = ((16 * (r + 1) : Nat) : Int) := by rw [add64 (by omega) (by omega)]; omega
    have c3 : (0 : Int) ≤ ((16 * r : Nat) : Int) := by omega
    have c4 : ((16 * r : Nat) : Int) ≤ ((16 * (r + 1) : Nat) : Int) := by omega
    have c5 : ((16 * (r + 1) : Nat) : Int) ≤ ((z.length : Nat) : Int) := by rw [hz.len]; omega
    have bsh := sh_bd hs
    have bk := kS_bd hg (r := r) (by omega)
    obtain ⟨y1, e1, a1⟩ := aShift K (by omega) hb hs (zeroA 16)
    obtain ⟨x1, f1, b1⟩ := rEach K (by omega) hx hs tabs.1 bx (fun c hc => rd_box hc)
    obtain ⟨x2, f2, b2'⟩ := rRows K (by omega) b1 1 (fun c r => 4 * ((c + r) % 4) + r) (fun c r hc hr => row_there ⟨c, hc⟩ ⟨r, hr⟩)
    have b2 : LsS x2 (sh s) := b2'.congr fun j hj => by
      show bx (s (4 * ((j / 4 + j % 4) % 4) + j % 4)) = bx (s ((j + 4 * (j % 4)) % 16))
      rw [show 4 * ((j / 4 + j % 4) % 4) + j % 4 = (j + 4 * (j % 4)) % 16 by omega]
    have hkey : ArS (rdL C16 rk (r : Int)) (kS g r) := hrk.2 r (by omega)
    by_cases hl : r < m - 1
    · have c6 : (r : Int) < ((m - 1 : Nat) : Int) := by omega
      obtain ⟨y2, e2, a2⟩ := aMix K (by omega) a1 bsh
      obtain ⟨q0, q1, q2, q3⟩ := m_there
      obtain ⟨x3, f3, b3'⟩ := rCols K (by omega) b2 bsh _ 2 3 1 1 (by decide) (by decide) (by decide) (by decide) q0 q1 q2 q3
      have b3 : LsS x3 (onq mq (sh s)) := b3'.congr fun j hj => (onq_congr bsh (fun a b c d ha hb hc hd => mq_cq ha hb hc hd) j hj).symm
      obtain ⟨y3, e3, a3⟩ := aKey K (by omega) a2 (onq_mq_bd bsh) bk rk (r : Int) hkey
      obtain ⟨x4, f4, b4⟩ := rXor K (by omega) b3 (rKey hz (r := r) (by omega)) (onq_mq_bd bsh) bk
      obtain ⟨b', x', s', g1, g2, g3⟩ := ih (r + 1) k k' y3 x4 _ (by omega) (by omega) (by omega) a3 b4 (xk_bd (onq_mq_bd bsh) bk)
      refine ⟨b', x', s', ?_, ?_, g3.1, g3.2.1, g3.2.2.1, by rw [g3.2.2.2]; show _ = thR (m - 1) g n (r + 1) (rdT (m - 1) r g s); unfold rdT; rw [if_pos hl]⟩
      · simp only [aes_cipher_there_s.l0, c0, c6, e1, e2, addS K c2 e3, if_true, Option.bind_some, inc (i := r) (by omega)]
        exact g1
      · simp only [ref10_there.l0, c0, f1, f2, c6, f3, p1, p2, c3, c4, c5, f4, if_true, Option.bind_some, inc (i := r) (by omega)]
        exact g2
    · have c6 : ¬ (r : Int) < ((m - 1 : Nat) : Int) := by omega
      obtain ⟨y3, e3, a3⟩ := aKey K (by omega) a1 bsh bk rk (r : Int) hkey
      obtain ⟨x4, f4, b4⟩ := rXor K (by omega) b2 (rKey hz (r := r) (by omega)) bsh bk
      obtain ⟨b', x', s', g1, g2, g3⟩ := ih (r + 1) k k' y3 x4 _ (by omega) (by omega) (by omega) a3 b4 (xk_bd bsh bk)
      refine ⟨b', x', s', ?_, ?_, g3.1, g3.2.1, g3.2.2.1, by rw [g3.2.2.2]; show _ = thR (m - 1) g n (r + 1) (rdT (m - 1) r g s); unfold rdT; rw [if_neg hl]⟩
      · simp only [aes_cipher_there_s.l0, c0, c6, e1, addS K c2 e3, if_true, if_false, Option.bind_some, inc (i := r) (by omega)]
        exact g1
      · simp only [ref10_there.l0, c0, f1, f2, c6, p1, p2, c3, c4, c5, f4, if_true, if_false, Option.bind_some, inc (i := r) (by omega)]
        exact g2
end Go.Proofs.Ytmpagpbnpgcecaa
