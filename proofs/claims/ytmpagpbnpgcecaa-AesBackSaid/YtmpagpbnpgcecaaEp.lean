/- Layer 10 (aes), plain laws: there and back undo each other. -/
import Derived.Test.YtmpagpbnpgcecaaEn
set_option linter.unusedSimpArgs false
set_option linter.unusedVariables false
set_option maxRecDepth 100000
namespace Go.Proofs.Ytmpagpbnpgcecaa
open Go Go.Mx
/-- the same 16 bytes -/
def E16 (s t : Nat → Nat) : Prop := ∀ j, j < 16 → s j = t j
theorem E16.refl (s : Nat → Nat) : E16 s s := fun _ _ => rfl
theorem E16.trans {s t u : Nat → Nat} (h : E16 s t) (k : E16 t u) : E16 s u := fun j hj => (h j hj).trans (k j hj)
theorem E16.symm {s t : Nat → Nat} (h : E16 s t) : E16 t s := fun j hj => (h j hj).symm
theorem sh_c {s t : Nat → Nat} (h : E16 s t) : E16 (sh s) (sh t) := fun j hj => by unfold sh; rw [h _ (Nat.mod_lt _ (by decide))]
theorem unsh_c {s t : Nat → Nat} (h : E16 s t) : E16 (unsh s) (unsh t) := fun j hj => by
  have hi : inv16 j < 16 := Nat.mod_lt _ (by decide)
  unfold unsh
  rw [h _ hi]
theorem xk_c {s t k : Nat → Nat} (h : E16 s t) : E16 (xk s k) (xk t k) := fun j hj => by unfold xk; rw [h j hj]
theorem onq_c (f : Qd → Qd) {s t : Nat → Nat} (h : E16 s t) : E16 (onq f s) (onq f t) := fun j hj => by
  unfold onq colq
  rw [h _ (by omega), h _ (by omega), h _ (by omega), h _ (by omega)]
theorem xk_xk (s k : Nat → Nat) : xk (xk s k) k = s := funext fun j => by
  unfold xk
  rw [Nat.xor_assoc, Nat.xor_self, Nat.xor_zero]
theorem bk_bx : ∀ c : Fin 256, bk (bx c.val) = c.val := by decide +kernel
theorem bx_bk : ∀ c : Fin 256, bx (bk c.val) = c.val := by decide +kernel
theorem ix1 : ∀ j : Fin 16, (inv16 j.val + 4 * (inv16 j.val % 4)) % 16 = j.val := by decide
theorem ix2 : ∀ j : Fin 16, inv16 ((j.val + 4 * (j.val % 4)) % 16) = j.val := by decide
theorem unsh_sh {s : Nat → Nat} (hs : Bd s) : E16 (unsh (sh s)) s := fun j hj => by
  show bk (bx (s ((inv16 j + 4 * (inv16 j % 4)) % 16))) = s j
  rw [show (inv16 j + 4 * (inv16 j % 4)) % 16 = j from ix1 ⟨j, hj⟩]
  exact bk_bx ⟨s j, hs j hj⟩
theorem sh_unsh {s : Nat → Nat} (hs : Bd s) : E16 (sh (unsh s)) s := fun j hj => by
  show bx (bk (s (inv16 ((j + 4 * (j % 4)) % 16)))) = s j
  rw [show inv16 ((j + 4 * (j % 4)) % 16) = j from ix2 ⟨j, hj⟩]
  exact bx_bk ⟨s j, hs j hj⟩
theorem onq_id {s : Nat → Nat} : E16 (onq (fun q => q) s) s := fun j hj => by
  have h := onq_at (fun q => q) s (c := j / 4) (r := j % 4) (Nat.mod_lt _ (by decide))
  rw [show 4 * (j / 4) + j % 4 = j by omega] at h
  rw [h]
  have hr : j % 4 = 0 ∨ j % 4 = 1 ∨ j % 4 = 2 ∨ j % 4 = 3 := by omega
  rcases hr with hr | hr | hr | hr <;> rw [hr]
  · show s (4 * (j / 4)) = s j
    rw [show 4 * (j / 4) = j by omega]
  · show s (4 * (j / 4) + 1) = s j
    rw [show 4 * (j / 4) + 1 = j by omega]
  · show s (4 * (j / 4) + 2) = s j
    rw [show 4 * (j / 4) + 2 = j by omega]
  · show s (4 * (j / 4) + 3) = s j
    rw [show 4 * (j / 4) + 3 = j by omega]
theorem cq_mq3 {s : Nat → Nat} (hs : Bd s) : E16 (onq (cq 14 11 13 9) s) (onq (fun q => mq (mq (mq q))) s) := fun j hj => (onq_congr hs (fun a b c d ha hb hc hd => mq3_cq ha hb hc hd) j hj).symm
theorem un_mix {s : Nat → Nat} (hs : Bd s) : E16 (onq (cq 14 11 13 9) (onq mq s)) s := by
  refine (cq_mq3 (onq_mq_bd hs)).trans ?_
  rw [onq_onq]
  exact E16.trans (fun j hj => onq_congr hs (g := fun q => q) (fun a b c d ha hb hc hd => mq4 ha hb hc hd) j hj) onq_id
theorem mix_un {s : Nat → Nat} (hs : Bd s) : E16 (onq mq (onq (cq 14 11 13 9) s)) s := by
  refine (onq_c mq (cq_mq3 hs)).trans ?_
  rw [onq_onq]
  exact E16.trans (fun j hj => onq_congr hs (g := fun q => q) (fun a b c d ha hb hc hd => mq4 ha hb hc hd) j hj) onq_id
/-- a round back -/
def rdB (last r : Nat) (g s : Nat → Nat) : Nat → Nat := unsh (if r < last then onq (cq 14 11 13 9) (xk s (kS g r)) else xk s (kS g r))
theorem rdB_c {last r : Nat} {g s t : Nat → Nat} (h : E16 s t) : E16 (rdB last r g s) (rdB last r g t) := by
  unfold rdB
  split
  · exact unsh_c (onq_c _ (xk_c h))
  · exact unsh_c (xk_c h)
theorem rdT_c {last r : Nat} {g s t : Nat → Nat} (h : E16 s t) : E16 (rdT last r g s) (rdT last r g t) := by
  unfold rdT
  split
  · exact xk_c (onq_c _ (sh_c h))
  · exact xk_c (sh_c h)
theorem rdB_bd {last r m : Nat} {g s : Nat → Nat} (hg : BG g (4 * m)) (hr : r < m) (hs : Bd s) : Bd (rdB last r g s) := by
  unfold rdB
  split
  · exact unsh_bd (unmix_bd (xk_bd hs (kS_bd hg hr)))
  · exact unsh_bd (xk_bd hs (kS_bd hg hr))
theorem rdB_T {last r : Nat} {g s : Nat → Nat} (hs : Bd s) : E16 (rdB last r g (rdT last r g s)) s := by
  unfold rdB rdT
  rw [xk_xk]
  split
  · exact (unsh_c (un_mix (sh_bd hs))).trans (unsh_sh hs)
  · exact unsh_sh hs
theorem rdT_B {last r m : Nat} {g s : Nat → Nat} (hg : BG g (4 * m)) (hr : r < m) (hs : Bd s) : E16 (rdT last r g (rdB last r g s)) s := by
  have hk := xk_bd hs (kS_bd hg hr)
  have h : E16 (xk (xk s (kS g r)) (kS g r)) s := by rw [xk_xk]; exact E16.refl s
  unfold rdB rdT
  split
  · exact (xk_c ((onq_c mq (sh_unsh (unmix_bd hk))).trans (mix_un hk))).trans h
  · exact (xk_c (sh_unsh hk)).trans h
theorem thR_snoc (last : Nat) (g : Nat → Nat) : ∀ (n r : Nat) (s : Nat → Nat), thR last g (n + 1) r s = rdT last (r + n) g (thR last g n r s)
  | 0, r, s => rfl
  | n + 1, r, s => by
    show thR last g (n + 1) (r + 1) (rdT last r g s) = rdT last (r + (n + 1)) g (thR last g n (r + 1) (rdT last r g s))
    rw [thR_snoc last g n (r + 1), show r + 1 + n = r + (n + 1) by omega]
theorem bkR_step (last : Nat) (g : Nat → Nat) (r : Nat) (s : Nat → Nat) : bkR last g (r + 1) s = bkR last g r (rdB last (r + 1) g s) := rfl
theorem bkR_c (last : Nat) (g : Nat → Nat) : ∀ (r : Nat) {s t : Nat → Nat}, E16 s t → E16 (bkR last g r s) (bkR last g r t)
  | 0, _, _, h => h
  | r + 1, s, t, h => by rw [bkR_step, bkR_step]; exact bkR_c last g r (rdB_c h)
theorem thR_c (last : Nat) (g : Nat → Nat) : ∀ (n r : Nat) {s t : Nat → Nat}, E16 s t → E16 (thR last g n r s) (thR last g n r t)
  | 0, _, _, _, h => h
  | n + 1, r, s, t, h => thR_c last g n (r + 1) (rdT_c h)
theorem thR_bd {last m : Nat} {g : Nat → Nat} (hg : BG g (4 * m)) : ∀ (n r : Nat) {s : Nat → Nat}, r + n ≤ m → Bd s → Bd (thR last g n r s)
  | 0, _, _, _, h => h
  | n + 1, r, s, hr, h => thR_bd hg n (r + 1) (by omega) (rdT_bd hg (by omega) h)
theorem bk_th {last m : Nat} {g : Nat → Nat} (hg : BG g (4 * m)) : ∀ (n : Nat) {s : Nat → Nat}, n < m → Bd s → E16 (bkR last g n (thR last g n 1 s)) s
  | 0, s, _, _ => E16.refl s
  | n + 1, s, hn, h => by
    rw [thR_snoc, bkR_step, Nat.add_comm 1 n]
    exact (bkR_c last g n (rdB_T (thR_bd hg n 1 (by omega) h))).trans (bk_th hg n (by omega) h)
theorem th_bk {last m : Nat} {g : Nat → Nat} (hg : BG g (4 * m)) : ∀ (n : Nat) {s : Nat → Nat}, n < m → Bd s → E16 (thR last g n 1 (bkR last g n s)) s
  | 0, s, _, _ => E16.refl s
  | n + 1, s, hn, h => by
    rw [thR_snoc, bkR_step, Nat.add_comm 1 n]
    exact (rdT_c (th_bk hg n (by omega) (rdB_bd hg hn h))).trans (rdT_B hg hn h)
theorem bF_tF {m : Nat} {g : Nat → Nat} (hm : 0 < m) (hg : BG g (4 * m)) {s : Nat → Nat} (hs : Bd s) : E16 (bF g m (tF g m s)) s := by
  unfold bF tF
  have h := xk_c (k := kS g 0) (bk_th (last := m - 1) hg (m - 1) (by omega) (xk_bd hs (kS_bd hg hm)))
  rw [xk_xk] at h
  exact h
theorem tF_bF {m : Nat} {g : Nat → Nat} (hm : 0 < m) (hg : BG g (4 * m)) {s : Nat → Nat} (hs : Bd s) : E16 (tF g m (bF g m s)) s := by
  unfold bF tF
  rw [xk_xk]
  exact th_bk hg (m - 1) (by omega) hs
theorem tF_c {m : Nat} {g s t : Nat → Nat} (h : E16 s t) : E16 (tF g m s) (tF g m t) := thR_c _ g _ _ (xk_c h)
theorem bF_c {m : Nat} {g s t : Nat → Nat} (h : E16 s t) : E16 (bF g m s) (bF g m t) := xk_c (bkR_c _ g _ h)
theorem bS_of {y : List Int} {s : Nat → Nat} (h : LsS y s) : E16 (bS y) s := fun j hj => by
  have h1 : y.getD j 0 = ((s j : Nat) : Int) := h.2 j hj
  unfold bS
  rw [h1, Int.toNat_natCast]
theorem list_of {y z : List Int} {s t : Nat → Nat} (h : LsS y s) (k : LsS z t) (e : E16 s t) : y = z := by
  refine List.ext_getElem (by rw [h.1, k.1]) fun j h1 h2 => ?_
  have hj : j < 16 := by rw [h.1] at h1; exact h1
  have e1 : y.getD j 0 = ((s j : Nat) : Int) := h.2 j hj
  have e2 : z.getD j 0 = ((t j : Nat) : Int) := k.2 j hj
  rw [List.getD_eq_getElem?_getD, List.getElem?_eq_getElem h1] at e1
  rw [List.getD_eq_getElem?_getD, List.getElem?_eq_getElem h2] at e2
  have e3 : y[j] = ((s j : Nat) : Int) := e1
  have e4 : z[j] = ((t j : Nat) : Int) := e2
  rw [e3, e4, e j hj]
theorem inv_blocks {g : Nat → Nat} {m : Nat} (hm : 0 < m) (hg : BG g (4 * m)) {b y x : List Int} (hb : InL .u8 b) (hl : b.length = 16) :
    (LsS y (tF g m (bS b)) → LsS x (bF g m (bS y)) → x = b) ∧ (LsS y (bF g m (bS b)) → LsS x (tF g m (bS y)) → x = b) := by
  obtain ⟨h1, h2, _⟩ := ls_of hb hl
  exact ⟨fun hy hx => list_of hx h1 ((bF_c (bS_of hy)).trans (bF_tF hm hg h2)), fun hy hx => list_of hx h1 ((tF_c (bS_of hy)).trans (tF_bF hm hg h2))⟩
end Go.Proofs.Ytmpagpbnpgcecaa
