/- Layer 10 (aes), plain laws: a block back is the document's. -/
import Derived.Test.YtmpagpbnpgcecaaEm
set_option linter.unusedSimpArgs false
set_option linter.unusedVariables false
set_option maxRecDepth 100000
namespace Go.Proofs.Ytmpagpbnpgcecaa
open Go Go.Mx
def bk (c : Nat) : Nat := (rd tabs.2 (c : Int)).toNat
theorem back_all : tabs.2.toList.all (fun x => decide (0 ≤ x) && decide (x < 256)) = true := by decide +kernel
theorem rd_back {c : Nat} (hc : c < 256) : rd tabs.2 (c : Int) = ((bk c : Nat) : Int) ∧ bk c < 256 := by
  have h := List.all_eq_true.1 back_all (tabs.2.toList[c]'(by simp; exact hc)) (List.getElem_mem _)
  simp only [Bool.and_eq_true, decide_eq_true_iff] at h
  have e : rd tabs.2 (c : Int) = tabs.2.toList[c]'(by simp; exact hc) := by
    unfold rd
    rw [Int.toNat_natCast, List.getD_eq_getElem?_getD, List.getElem?_eq_getElem (by simp; exact hc)]
    rfl
  unfold bk
  rw [e]
  omega
/-! ### bytes back -/
def inv16 (j : Nat) : Nat := (j + 16 - 4 * (j % 4)) % 16
def unsh (s : Nat → Nat) (j : Nat) : Nat := bk (s (inv16 j))
theorem unsh_bd {s : Nat → Nat} (h : Bd s) : Bd (unsh s) := fun j hj => (rd_back (h _ (Nat.mod_lt _ (by decide)))).2
theorem aUnshift (K : Nat) (hK : 16 < K) {b : Arr 16} {s : Nat → Nat} (hb : ArS b s) (hs : Bd s) : ∃ y, aes_cipher_undo_s.l1 K K tabs.2 b 0 (zeroA 16) = some y ∧ ArS y (unsh s) := by
  have key : ∀ (n i k : Nat) (z : Arr 16), i + n = 16 → n < k → (∀ j : Nat, j < 16 → inv16 j < i → rd z (j : Int) = ((unsh s j : Nat) : Int)) → ∃ y, aes_cipher_undo_s.l1 K k tabs.2 b (i : Int) z = some y ∧ ArS y (unsh s) := by
    intro n
    induction n with
    | zero =>
      intro i k z hi hk hz
      obtain ⟨k, rfl⟩ : ∃ q, k = q + 1 := ⟨k - 1, by omega⟩
      obtain rfl : i = 16 := by omega
      have h : ¬ ((16 : Nat) : Int) < 16 := by decide
      exact ⟨z, by simp only [aes_cipher_undo_s.l1, h, if_false], fun j hj => hz j hj (Nat.mod_lt _ (by decide))⟩
    | succ n ih =>
      intro i k z hi hk hz
      obtain ⟨k, rfl⟩ : ∃ q, k = q + 1 := ⟨k - 1, by omega⟩
      obtain ⟨b0, b1⟩ := lt16 (i := i) (by omega)
      have hp := pos6 ⟨i, by omega⟩
      dsimp only at hp
      have hq : (i + 4 * (i % 4)) % 16 < 16 := Nat.mod_lt _ (by decide)
      obtain ⟨c0, c1⟩ := lt16 hq
      have hl := hs i (by omega)
      have d0 : (0 : Int) ≤ ((s i : Nat) : Int) := by omega
      have d1 : ((s i : Nat) : Int) < 256 := by omega
      obtain ⟨t1, t2⟩ := rd_back hl
      obtain ⟨y, h1, h2⟩ := ih (i + 1) k (wr z (((i + 4 * (i % 4)) % 16 : Nat) : Int) ((bk (s i) : Nat) : Int)) (by omega) (by omega) (fun j hj hji => by
        rw [rd_wr _ _ _ _ hj]
        split
        · rename_i h
          have e : inv16 j = i := by unfold inv16; omega
          unfold unsh
          rw [e]
        · rename_i h
          refine hz j hj ?_
          have : inv16 j ≠ i := fun e => h (by unfold inv16 at e; omega)
          omega)
      refine ⟨y, ?_, h2⟩
      simp only [aes_cipher_undo_s.l1, b0, b1, hb i (by omega), d0, d1, hp, c0, c1, t1, if_true, Option.bind_some, inc (i := i) (by omega)]
      exact h1
  exact key 16 0 K (zeroA 16) (by decide) hK (fun j hj h => absurd h (by omega))
theorem m_back : rd (wr (wr (wr (wr (zeroA 4) 0 14) 1 11) 2 13) 3 9) 0 = ((14 : Nat) : Int) ∧ rd (wr (wr (wr (wr (zeroA 4) 0 14) 1 11) 2 13) 3 9) 1 = ((11 : Nat) : Int) ∧ rd (wr (wr (wr (wr (zeroA 4) 0 14) 1 11) 2 13) 3 9) 2 = ((13 : Nat) : Int) ∧ rd (wr (wr (wr (wr (zeroA 4) 0 14) 1 11) 2 13) 3 9) 3 = ((9 : Nat) : Int) := rd4 _ _ _ _ _
theorem unmix_bd {s : Nat → Nat} (hs : Bd s) : Bd (onq (cq 14 11 13 9) s) := fun j hj => by
  have h := onq_congr hs (f := fun q => mq (mq (mq q))) (g := cq 14 11 13 9) (fun a b c d ha hb hc hd => mq3_cq ha hb hc hd) j hj
  rw [← h]
  have h2 := onq_mq_bd (onq_mq_bd (onq_mq_bd hs)) j hj
  rw [onq_onq, onq_onq] at h2
  exact h2
def bkR (last : Nat) (g : Nat → Nat) : Nat → (Nat → Nat) → Nat → Nat
  | 0, s => s
  | r + 1, s => bkR last g r (unsh (if r + 1 < last then onq (cq 14 11 13 9) (xk s (kS g (r + 1))) else xk s (kS g (r + 1))))
theorem aBackL (K : Nat) (hK : 100 < K) {rk : List (Arr 16)} {g : Nat → Nat} {m : Nat} (hm : m ≤ 100) (hrk : RK rk m g) {z : List Int} (hz : ZS z (4 * m) g) (hg : BG g (4 * m)) : ∀ (r k k' : Nat) (b : Arr 16) (x : List Int) (s : Nat → Nat), r < m → r < k → r < k' → ArS b s → LsS x s → Bd s →
    ∃ b' x' s', aes_cipher_undo_s.l0 K k tabs.1 tabs.2 rk ((m - 1 : Nat) : Int) (r : Int) b = some b' ∧ ref10_back.l0 K k' z tabs.2 ((m - 1 : Nat) : Int) (r : Int) x = some x' ∧ ArS b' s' ∧ LsS x' s' ∧ Bd s' ∧ s' = bkR (m - 1) g r s := by
  intro r
  induction r with
  | zero =>
    intro k k' b x s hr hk hk' hb hx hs
    obtain ⟨k, rfl⟩ : ∃ q, k = q + 1 := ⟨k - 1, by omega⟩
    obtain ⟨k', rfl⟩ : ∃ q, k' = q + 1 := ⟨k' - 1, by omega⟩
    have h : ¬ ((0 : Nat) : Int) > 0 := by decide
    have h' : ¬ ((0 : Nat) : Int) ≥ 1 := by decide
    exact ⟨b, x, s, by simp only [aes_cipher_undo_s.l0, h, if_false], by simp only [ref10_back.l0, h', if_false], hb, hx, hs, rfl⟩
  | succ r ih =>
    intro k k' b x s hr hk hk' hb hx hs
    obtain ⟨k, rfl⟩ : ∃ q, k = q + 1 := ⟨k - 1, by omega⟩
    obtain ⟨k', rfl⟩ : ∃ q, k' = q + 1 := ⟨k' - 1, by omega⟩
    have c0 : ((r + 1 : Nat) : Int) > 0 := by omega
    have c0' : ((r + 1 : Nat) : Int) ≥ 1 := by omega
    have c1 : (0 : Int) ≤ ((r + 1 : Nat) : Int) := by omega
    have c2 : r + 1 < rk.length := by rw [hrk.1]; omega
    have p1 : imul .i64 16 ((r + 1 : Nat) : Int) = ((16 * (r + 1) : Nat) : Int) := by rw [mul64 (by omega) (by omega)]; omega
    have p2 : iadd .i64 ((16 * (r + 1) : Nat) : Int) 16 = ((16 * (r + 1 + 1) : Nat) : Int) := by rw [add64 (by omega) (by omega)]; omega
    have p3 : isub .i64 ((r + 1 : Nat) : Int) 1 = (r : Int) := by rw [sub64 (by omega) (by omega)]; omega
    have c3 : (0 : Int) ≤ ((16 * (r + 1) : Nat) : Int) := by omega
    have c4 : ((16 * (r + 1) : Nat) : Int) ≤ ((16 * (r + 1 + 1) : Nat) : Int) := by omega
    have c5 : ((16 * (r + 1 + 1) : Nat) : Int) ≤ ((z.length : Nat) : Int) := by rw [hz.len]; omega
    have bk' := kS_bd hg (r := r + 1) hr
    obtain ⟨y1, e1, a1⟩ := aKey K (by omega) hb hs bk' rk ((r + 1 : Nat) : Int) (hrk.2 (r + 1) hr)
    obtain ⟨x1, f1, b1⟩ := rXor K (by omega) hx (rKey hz (r := r + 1) hr) hs bk'
    have bx1 := xk_bd hs bk'
    have fin : ∀ (y2 : Arr 16) (x2 : List Int) (t : Nat → Nat), ArS y2 t → LsS x2 t → Bd t → ∃ y3 x3 x4, aes_cipher_undo_s.l1 K K tabs.2 y2 0 (zeroA 16) = some y3 ∧ ref10_rows.f K x2 (-1) = some x3 ∧ ref10_each.f K x3 tabs.2 = some x4 ∧ ArS y3 (unsh t) ∧ LsS x4 (unsh t) := fun y2 x2 t hy hx ht => by
      obtain ⟨y3, e3, a3⟩ := aUnshift K (by omega) hy ht
      obtain ⟨x3, f3, b3⟩ := rRows K (by omega) hx (-1) (fun c r => 4 * ((c + 4 - r) % 4) + r) (fun c r hc hr => row_back ⟨c, hc⟩ ⟨r, hr⟩)
      obtain ⟨x4, f4, b4⟩ := rEach K (by omega) b3 (fun j hj => ht _ (by omega)) tabs.2 bk (fun c hc => (rd_back hc).1)
      refine ⟨y3, x3, x4, e3, f3, f4, a3, b4.congr fun j hj => ?_⟩
      show bk (t (4 * ((j / 4 + 4 - j % 4) % 4) + j % 4)) = bk (t (inv16 j))
      rw [show 4 * ((j / 4 + 4 - j % 4) % 4) + j % 4 = inv16 j by unfold inv16; omega]
    by_cases hl : r + 1 < m - 1
    · have c6 : ((r + 1 : Nat) : Int) < ((m - 1 : Nat) : Int) := by omega
      obtain ⟨y2, e2, a2⟩ := aUnmix K (by omega) a1 bx1
      obtain ⟨q0, q1, q2, q3⟩ := m_back
      obtain ⟨x2, f2, b2⟩ := rCols K (by omega) b1 bx1 _ 14 11 13 9 (by decide) (by decide) (by decide) (by decide) q0 q1 q2 q3
      obtain ⟨y3, x3, x4, e3, f3, f4, a3, b4⟩ := fin y2 x2 _ a2 b2 (unmix_bd bx1)
      obtain ⟨b', x', s', g1, g2, g3⟩ := ih k k' y3 x4 _ (by omega) (by omega) (by omega) a3 b4 (unsh_bd (unmix_bd bx1))
      refine ⟨b', x', s', ?_, ?_, g3.1, g3.2.1, g3.2.2.1, by rw [g3.2.2.2]; show _ = bkR (m - 1) g r (unsh (if r + 1 < m - 1 then _ else _)); rw [if_pos hl]⟩
      · simp only [aes_cipher_undo_s.l0, c0, addS K c2 e1, c6, e2, e3, p3, if_true, Option.bind_some]
        exact g1
      · simp only [ref10_back.l0, c0', p1, p2, c3, c4, c5, f1, c6, f2, f3, f4, p3, if_true, Option.bind_some]
        exact g2
    · have c6 : ¬ ((r + 1 : Nat) : Int) < ((m - 1 : Nat) : Int) := by omega
      obtain ⟨y3, x3, x4, e3, f3, f4, a3, b4⟩ := fin y1 x1 _ a1 b1 bx1
      obtain ⟨b', x', s', g1, g2, g3⟩ := ih k k' y3 x4 _ (by omega) (by omega) (by omega) a3 b4 (unsh_bd bx1)
      refine ⟨b', x', s', ?_, ?_, g3.1, g3.2.1, g3.2.2.1, by rw [g3.2.2.2]; show _ = bkR (m - 1) g r (unsh (if r + 1 < m - 1 then _ else _)); rw [if_neg hl]⟩
      · simp only [aes_cipher_undo_s.l0, c0, addS K c2 e1, c6, e3, p3, if_true, if_false, Option.bind_some]
        exact g1
      · simp only [ref10_back.l0, c0', p1, p2, c3, c4, c5, f1, c6, f3, f4, p3, if_true, if_false, Option.bind_some]
        exact g2
/-- the cipher, back -/
def bF (g : Nat → Nat) (m : Nat) (s : Nat → Nat) : Nat → Nat := xk (bkR (m - 1) g (m - 1) s) (kS g 0)
theorem blockBackK (K : Nat) (hK : 256 < K) (hM : aes_made.f K = some (tabs.1, tabs.2)) {a b : List Int} (hb : InL .u8 b) {nk : Nat} (hn : nk = 4 ∨ nk = 6 ∨ nk = 8) (hl : a.length = 4 * nk) (hlb : b.length = 16) {g : Nat → Nat} (hkey : Keys K a nk g) :
    ∃ y, aes_Back.f K a b = some (y, 0) ∧ ref10_Back.f K a b = some (y, 0) ∧ y.length = 16 ∧ InL .u8 y ∧ LsS y (bF g (nk + 7) (bS b)) := by
  obtain ⟨hs1, hs2⟩ := sizedN hn hl K
  have n0 : 4 ≤ nk := by omega
  have n1 : nk ≤ 8 := by omega
  obtain ⟨ws0, ws, rk, z, e1, e2, e3, hrk, e4, hz, hg⟩ := hkey
  obtain ⟨hs, bs, as⟩ := ls_of hb hlb
  have bk' := kS_bd hg (r := 0) (by omega)
  obtain ⟨y, x, s', e6, f1, a1, b1, bs', hs'⟩ := aBackL K (by omega) (by omega) hrk hz hg (nk + 7 - 1) K K _ _ (bS b) (by omega) (by omega) (by omega) as hs bs
  obtain ⟨y0, e5, a0⟩ := aKey K (by omega) a1 bs' bk' rk 0 (hrk.2 0 (by omega))
  obtain ⟨x0, f0, b0⟩ := rXor K (by omega) b1 (rKey hz (r := 0) (by omega)) bs' bk'
  have hxy : lA y0 = x0 := ls_eq b0 a0
  have f0' : ref01_Xor.f K x (subL z 0 16) = some x0 := f0
  refine ⟨x0, ?_, ?_, (bytes_of b0 (xk_bd bs' bk')).1, (bytes_of b0 (xk_bd bs' bk')).2, by rw [hs'] at b0; exact b0⟩
  · unfold aes_Back.f aes_wrong.f aes_began_s.f aes_cipher_undo_s.f
    have c1 : ((b.length : Nat) : Int) = 16 := by omega
    have c2 : 16 ≤ b.length := by omega
    have c3 : (0 : Int) ≤ ((4 * (nk + 7) : Nat) : Int) := by omega
    have c4 : ((4 * (nk + 7) : Nat) : Int) ≤ 35184372088832 := by omega
    have c5 : (0 : Int) ≤ 0 := by decide
    have c6 : (0 : Int) < ((rk.length : Nat) : Int) := by rw [hrk.1]; omega
    have p1 : isub .i64 ((rk.length : Nat) : Int) 1 = ((nk + 7 - 1 : Nat) : Int) := by rw [hrk.1]; exact sub_nat (b := 1) (by omega) (by omega)
    have e5' : aes_cipher_add_s.f K tabs.1 tabs.2 rk y 0 = some y0 := addS K (r := 0) (by rw [hrk.1]; omega) e5
    simp only [hs1, c1, c2, hM, hl, iq4 n1, nwords n1, c3, c4, e1, e2, e3, p1, e6, e5', if_true, Option.bind_some]
    rw [subL_all (lA_len y0), hxy]
  · unfold ref10_Back.f ref10_back.f
    have c1 : ((b.length : Nat) : Int) = 16 := by omega
    have q : iquo .i64 ((z.length : Nat) : Int) 16 = ((nk + 7 : Nat) : Int) := by
      unfold iquo
      rw [hz.len, tdivN (by omega), id64 (by omega) (by omega)]
      omega
    have p1 : isub .i64 ((nk + 7 : Nat) : Int) 1 = ((nk + 7 - 1 : Nat) : Int) := sub_nat (b := 1) (by omega) (by omega)
    have c5 : (0 : Int) ≤ 0 := by decide
    have c6 : (0 : Int) ≤ 16 := by decide
    have c7 : (16 : Int) ≤ ((z.length : Nat) : Int) := by rw [hz.len]; omega
    simp only [hs2, c1, rBoxes K hK, e4, q, p1, f1, c5, c6, c7, f0', if_true, Option.bind_some]
end Go.Proofs.Ytmpagpbnpgcecaa
