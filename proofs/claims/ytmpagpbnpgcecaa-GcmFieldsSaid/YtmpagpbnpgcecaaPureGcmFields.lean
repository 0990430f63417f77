/- Layer 12: products do not hang on the order or on brackets, and go over xor; the sum of two rows of blocks; in plain Lean. -/
import Derived.Test.YtmpagpbnpgcecaaLGcmFields
import Derived.Test.YtmpagpbnpgcecaaGi
set_option linter.unusedSimpArgs false
set_option linter.unusedVariables false
set_option maxRecDepth 100000
namespace Go.Proofs.Ytmpagpbnpgcecaa.Pure
open Go Go.Mx
theorem sub_all {l : List Int} (h : l.length = 16) : subL l 0 16 = l := by
  show (l.take 16).drop 0 = l
  rw [List.drop_zero, List.take_of_length_le (by omega)]
theorem whole (l : List Int) (h : l.length ≤ 100) : imul .i64 (iquo .i64 ((l.length : Nat) : Int) 16) 16 = ((16 * (l.length / 16) : Nat) : Int) := by
  have e : iquo .i64 ((l.length : Nat) : Int) 16 = ((l.length / 16 : Nat) : Int) := by
    unfold iquo
    rw [tdivN (by omega), id64 (by omega) (by omega)]
    omega
  rw [e]
  unfold imul
  rw [id64 (by omega) (by omega)]
  omega
theorem GcmFields : law12_GcmFields.Pure := by
  intro a0 h0 a1 h1 a2 h2 a3 h3 a4 h4
  refine ⟨1000, ?_⟩
  unfold law12_GcmFields.f
  rcases gFew (W := [a3, a4]) (show 2 < 900 by decide) with hf | ⟨hf, hl⟩
  · simp only [hf, awake12, Bool.false_eq_true, if_false, Option.bind_some]
  have l3 : a3.length ≤ 100 := hl a3 (by simp)
  have l4 : a4.length ≤ 100 := hl a4 (by simp)
  obtain ⟨A, eA⟩ : ∃ A, A = lA a0 := ⟨_, rfl⟩
  obtain ⟨B, eB⟩ : ∃ B, B = lA a1 := ⟨_, rfl⟩
  obtain ⟨C, eC⟩ : ∃ C, C = lA a2 := ⟨_, rfl⟩
  have hA : InL .u8 A := by rw [eA]; exact h0
  have hB : InL .u8 B := by rw [eB]; exact h1
  have hC : InL .u8 C := by rw [eC]; exact h2
  have lA_ : A.length = 16 := by rw [eA, lA_len]
  have lB : B.length = 16 := by rw [eB, lA_len]
  have lC : C.length = 16 := by rw [eC, lA_len]
  rw [← eA, ← eB, ← eC, sub_all lA_, sub_all lB, sub_all lC, whole a3 l3, whole a4 l4]
  have PA := rd16_P A
  have PB := rd16_P B
  have PC := rd16_P C
  have m1 := gMul hA hB lA_ lB
  have m2 : gcm_Mul.f 1000 B A = some (wr16 (tm (rd16 A) (rd16 B))) := by rw [gMul hB hA lB lA_, tm_comm PB PA]
  have m3 := gMul hB hC lB lC
  have m4 : gcm_Mul.f 1000 A (wr16 (tm (rd16 B) (rd16 C))) = some (wr16 (tm (tm (rd16 A) (rd16 B)) (rd16 C))) := by
    rw [gMul hA (wr16_in _) lA_ (wr16_len _), rd_wr (tm_P PC), tm_assoc PA PB PC]
  have m5 : gcm_Mul.f 1000 (wr16 (tm (rd16 A) (rd16 B))) C = some (wr16 (tm (tm (rd16 A) (rd16 B)) (rd16 C))) := by
    rw [gMul (wr16_in _) hC (wr16_len _) lC, rd_wr (tm_P PB)]
  have x1 := gXorR (a := B) (b := C) (by omega) (by omega)
  have xl : (xr B C).length = 16 := by rw [xr_len (by omega), lB]
  have m6 : gcm_Mul.f 1000 A (xr B C) = some (wr16 (xp (tm (rd16 A) (rd16 B)) (tm (rd16 A) (rd16 C)))) := by
    rw [gMul hA (xr_in hB hC) lA_ xl, rd_xr hB hC lB lC, tm_xp PB PC]
  have m7 := gMul hA hC lA_ lC
  have x2 : ref01_Xor.f 1000 (wr16 (tm (rd16 A) (rd16 B))) (wr16 (tm (rd16 A) (rd16 C))) = some (wr16 (xp (tm (rd16 A) (rd16 B)) (tm (rd16 A) (rd16 C)))) := by
    rw [gXorR (by rw [wr16_len, wr16_len]) (by rw [wr16_len]; decide), wr_xp (tm_P PB) (tm_P PC)]
  have ss : ∀ p : EL, ref01_Same.f 1000 (wr16 p) (wr16 p) = some true := fun p => gsame 1000 (by rw [wr16_len]; decide) (by rw [wr16_len]; decide)
  have c0 : (0 : Int) ≤ 0 := by decide
  have c1 : (0 : Int) ≤ ((16 * (a3.length / 16) : Nat) : Int) := by omega
  have c2 : ((16 * (a3.length / 16) : Nat) : Int) ≤ ((a3.length : Nat) : Int) := by omega
  have c3 : (0 : Int) ≤ ((16 * (a4.length / 16) : Nat) : Int) := by omega
  have c4 : ((16 * (a4.length / 16) : Nat) : Int) ≤ ((a4.length : Nat) : Int) := by omega
  obtain ⟨p, ep⟩ : ∃ p, p = subL a3 0 ((16 * (a3.length / 16) : Nat) : Int) := ⟨_, rfl⟩
  obtain ⟨q, eq⟩ : ∃ q, q = subL a4 0 ((16 * (a4.length / 16) : Nat) : Int) := ⟨_, rfl⟩
  have ep' : p = a3.take (16 * (a3.length / 16)) := by
    rw [ep]
    show (a3.take (((16 * (a3.length / 16) : Nat) : Int)).toNat).drop 0 = _
    rw [Int.toNat_natCast, List.drop_zero]
  have eq' : q = a4.take (16 * (a4.length / 16)) := by
    rw [eq]
    show (a4.take (((16 * (a4.length / 16) : Nat) : Int)).toNat).drop 0 = _
    rw [Int.toNat_natCast, List.drop_zero]
  have hp : InL .u8 p := by rw [ep']; exact g_take h3 _
  have hq : InL .u8 q := by rw [eq']; exact g_take h4 _
  have lp : p.length = 16 * (a3.length / 16) := by rw [ep', List.length_take]; omega
  have lq : q.length = 16 * (a4.length / 16) := by rw [eq', List.length_take]; omega
  simp only [hf, m1, m2, m3, m4, m5, m6, m7, x1, x2, ss, c0, c1, c2, c3, c4, ← ep, ← eq, if_true, Option.bind_some]
  by_cases hz : ((q.length : Nat) : Int) = 0
  · simp only [hz, awake12, if_true, Option.bind_some]
  have g1 := gGhash hA hp lA_ (by omega) (by omega)
  have l16 : 16 ≤ q.length := by omega
  have d1 : (0 : Int) ≤ 16 := by decide
  have d2 : (16 : Int) ≤ ((q.length : Nat) : Int) := by omega
  have d3 : ((q.length : Nat) : Int) ≤ ((q.length : Nat) : Int) := Int.le_refl _
  have s1 : subL q 0 16 = q.take 16 := rfl
  have s2 : subL q 16 ((q.length : Nat) : Int) = q.drop 16 := by
    show (q.take (((q.length : Nat) : Int)).toNat).drop 16 = _
    rw [Int.toNat_natCast, List.take_length]
  have tq : (q.take 16).length = 16 := by rw [List.length_take]; omega
  have x3 := gXorR (a := q.take 16) (b := wr16 (sm (rd16 A) 60 (0, 0) p)) (by rw [tq, wr16_len]) (by omega)
  have xl3 : (xr (q.take 16) (wr16 (sm (rd16 A) 60 (0, 0) p))).length = 16 := by rw [xr_len (by rw [tq, wr16_len]; exact Nat.le_refl _), tq]
  have dq : (q.drop 16).length = q.length - 16 := List.length_drop
  have d4 : (xr (q.take 16) (wr16 (sm (rd16 A) 60 (0, 0) p))).length + (q.drop 16).length ≤ 140737488355328 := by omega
  have j := gJoinR (a := p) (b := q) (by omega)
  have g2 := gGhash hA (g_app hp hq) lA_ (by rw [List.length_append]; omega) (by rw [List.length_append]; omega)
  have g3 := gGhash hA (g_app (xr_in (g_take hq 16) (wr16_in (sm (rd16 A) 60 (0, 0) p))) (g_drop hq 16)) lA_ (by rw [List.length_append]; omega) (by rw [List.length_append]; omega)
  rw [← sm_two PA lp hq l16 (by omega)] at g3
  simp only [hz, g1, d1, d2, d3, s1, s2, x3, d4, j, g2, g3, ss, c0, awake12, if_true, if_false, Option.bind_some]
end Go.Proofs.Ytmpagpbnpgcecaa.Pure
