/- Layer 21 (zq), plain laws: products. -/
import Derived.Test.YtijahfdldlmnhaaQc
set_option linter.unusedSimpArgs false
set_option linter.unusedVariables false
namespace Go.Proofs.Ytijahfdldlmnhaa
open Go Go.Mx
def ptimes (a b : Arr 256) : Arr 256 := pback (pmul (pntt a) (pntt b))
theorem fit_ptimes (a b : Arr 256) : FitP (ptimes a b) := fit_pback _
theorem times_core {fN fB : Arr 256 → Option (Arr 256)} {fM : Arr 256 → Arr 256 → Option (Arr 256)} {a b x y m z : Arr 256} (h1 : fN a = some x) (h2 : fN b = some y) (h3 : fM x y = some m) (h4 : fB m = some z) :
    ((fN a).bind fun r4 => (fN b).bind fun r5 => (fM r4 r5).bind fun r6 => (fB r6).bind fun r7 => some r7) = some z := by
  simp only [h1, h2, h3, h4, Option.bind_some]
theorem zq_Times_eq (a b : Arr 256) (ha : FitP a) (hb : FitP b) : zq_Times.f KK a b = some (ptimes a b) := by
  rw [zq_Times.f]
  exact times_core (fN := zq_Ntt.f KK) (fB := zq_Back.f KK) (fM := zq_Mul.f KK) (zq_Ntt_eq a ha) (zq_Ntt_eq b hb) (zq_Mul_eq KK (by decide) _ _ (fit_pntt ha) (fit_pntt hb)) (zq_Back_eq _ (fit_pmul _ _))
theorem pntt_ptimes (a b : Arr 256) : pntt (ptimes a b) = pmul (pntt a) (pntt b) := pntt_pback _ (fit_pmul _ _)
theorem pntt_inj {a b : Arr 256} (ha : FitP a) (hb : FitP b) (h : pntt a = pntt b) : a = b := by
  rw [← pback_pntt a ha, ← pback_pntt b hb, h]
theorem rd_padd (a b : Arr 256) {i : Nat} (hi : i < 256) : Cg Q (rd (padd a b) (i : Nat)) (rd a (i : Nat) + rd b (i : Nat)) := by
  unfold padd
  rw [rd_mapA _ _ hi]
  exact Cg.mod _ _
theorem rd_psub (a b : Arr 256) {i : Nat} (hi : i < 256) : Cg Q (rd (psub a b) (i : Nat)) (rd a (i : Nat) - rd b (i : Nat)) := by
  unfold psub
  rw [rd_mapA _ _ hi]
  exact Cg.mod _ _
theorem rd_pmul (a b : Arr 256) {i : Nat} (hi : i < 256) : Cg Q (rd (pmul a b) (i : Nat)) (rd a (i : Nat) * rd b (i : Nat)) := by
  unfold pmul
  rw [rd_mapA _ _ hi]
  exact Cg.mod _ _
theorem pntt_padd (a b : Arr 256) (ha : FitP a) (hb : FitP b) : pntt (padd a b) = padd (pntt a) (pntt b) := by
  refine fit_eq (fit_pntt (fit_padd _ _)) (fit_padd _ _) fun j hj => ?_
  refine (pntt_sum _ j hj).trans (Cg.trans ?_ ((rd_padd _ _ hj).trans ((pntt_sum a j hj).add (pntt_sum b j hj))).symm)
  rw [← sm_add]
  refine sm_cg fun t ht => ?_
  rw [← Int.add_mul]
  exact (rd_padd a b ht).mul (.refl _)
theorem pntt_psub (a b : Arr 256) (ha : FitP a) (hb : FitP b) : pntt (psub a b) = psub (pntt a) (pntt b) := by
  refine fit_eq (fit_pntt (fit_psub _ _)) (fit_psub _ _) fun j hj => ?_
  refine (pntt_sum _ j hj).trans (Cg.trans ?_ ((rd_psub _ _ hj).trans ((pntt_sum a j hj).sub (pntt_sum b j hj))).symm)
  rw [← sm_sub]
  refine sm_cg fun t ht => ?_
  rw [← Int.sub_mul]
  exact (rd_psub a b ht).mul (.refl _)
theorem pmul_padd (a b c : Arr 256) : pmul a (padd b c) = padd (pmul a b) (pmul a c) := by
  refine fit_eq (fit_pmul _ _) (fit_padd _ _) fun j hj => ?_
  refine ((rd_pmul _ _ hj).trans ((Cg.refl _).mul (rd_padd _ _ hj))).trans (Cg.trans ?_ ((rd_padd _ _ hj).trans ((rd_pmul _ _ hj).add (rd_pmul _ _ hj))).symm)
  rw [Int.mul_add]
  exact .refl _
theorem ptimes_padd (a b c : Arr 256) (ha : FitP a) (hb : FitP b) (hc : FitP c) : ptimes a (padd b c) = padd (ptimes a b) (ptimes a c) := by
  refine pntt_inj (fit_ptimes _ _) (fit_padd _ _) ?_
  rw [pntt_ptimes, pntt_padd b c hb hc, pntt_padd _ _ (fit_ptimes _ _) (fit_ptimes _ _), pntt_ptimes, pntt_ptimes, pmul_padd]
theorem padd_psub (a b : Arr 256) (ha : FitP a) (hb : FitP b) : padd (psub a b) b = a := by
  refine fit_eq (fit_padd _ _) ha fun j hj => ?_
  refine (rd_padd _ _ hj).trans (((rd_psub _ _ hj).add (.refl _)).trans (.of_eq ?_))
  omega
theorem fit_zero : FitP (zeroA 256) := fun i hi => by
  rw [rd_zeroA _ hi]; omega
theorem c_rho_sq {i : Nat} (h1 : 2 ≤ i) (h : i < 2 * 256) : Cg Q (rhoR i ^ 2) (rhoR (i / 2)) := by
  have h3 := c_sq (i := i / 2) (by omega) (by omega)
  rcases Nat.mod_two_eq_zero_or_one i with h2 | h2
  · have e := (c_rho (i / 2)).1
    rw [show 2 * (i / 2) = i by omega] at e
    exact (e.pow 2).trans h3
  · have e := (c_rho (i / 2)).2
    rw [show 2 * (i / 2) + 1 = i by omega] at e
    refine (e.pow 2).trans (Cg.trans (.of_eq ?_) h3)
    grind
theorem rho_256 {j : Nat} (hj : j < 256) : Cg Q (rhoR (256 + j) ^ 256) (-1) := by
  have h := chain_pow (M := Q) (ι := rhoR) (N := 256) (fun i h1 h2 => c_rho_sq h1 h2) 8 (256 + j) (by omega) (by omega)
  rw [show (2 : Nat) ^ 8 = 256 by decide, show (256 + j) / 256 = 1 by omega] at h
  exact h.trans (.of_eq (by decide +kernel))
/-- x to the 128. -/
def pX : Arr 256 := wr (zeroA 256) 128 1
theorem fit_pX : FitP pX := fun i hi => by
  have := rd_wr (zeroA 256) 128 i 1 hi
  unfold pX
  rw [show (128 : Int) = ((128 : Nat) : Int) from rfl, this]
  rw [rd_zeroA _ hi]
  split <;> omega
theorem pntt_pX (j : Nat) (hj : j < 256) : Cg Q (rd (pntt pX) (j : Nat)) (rhoR (256 + j) ^ 128) := by
  refine (pntt_sum _ j hj).trans (.of_eq ?_)
  have e : ∀ t : Nat, t < 256 → rd pX (t : Nat) = if 128 = t then 1 else 0 := fun t ht => by
    have := rd_wr (zeroA 256) 128 t 1 ht
    unfold pX
    rw [show (128 : Int) = ((128 : Nat) : Int) from rfl, this, rd_zeroA _ ht]
  rw [sm_one 256 128 _ (by decide) fun i hi hne => by rw [e i hi, if_neg (Ne.symm hne), Int.zero_mul], e 128 (by decide), if_pos rfl, Int.one_mul]
theorem pX_pX (a : Arr 256) (ha : FitP a) : ptimes pX (ptimes pX a) = psub (zeroA 256) a := by
  refine pntt_inj (fit_ptimes _ _) (fit_psub _ _) ?_
  rw [pntt_ptimes, pntt_ptimes, pntt_psub _ _ fit_zero ha]
  refine fit_eq (fit_pmul _ _) (fit_psub _ _) fun j hj => ?_
  have hz : Cg Q (rd (pntt (zeroA 256)) (j : Nat)) 0 := (pntt_sum _ j hj).trans (.of_eq (by
    rw [sm_congr (g := fun _ => 0) fun t ht => by rw [rd_zeroA _ ht, Int.zero_mul], sm_zero]))
  refine ((rd_pmul _ _ hj).trans ((pntt_pX j hj).mul ((rd_pmul _ _ hj).trans ((pntt_pX j hj).mul (.refl _))))).trans (Cg.trans ?_ ((rd_psub _ _ hj).trans (hz.sub (.refl _))).symm)
  rw [← Int.mul_assoc, ← Int.pow_add]
  refine ((rho_256 hj).mul (.refl _)).trans (.of_eq ?_)
  omega
end Go.Proofs.Ytijahfdldlmnhaa
