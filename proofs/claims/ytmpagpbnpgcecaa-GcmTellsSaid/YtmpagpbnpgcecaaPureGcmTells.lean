/- Layer 12: products of blocks, and the sum of blocks by a key, are the document's; in plain Lean. -/
import Derived.Test.YtmpagpbnpgcecaaLGcmTells
import Derived.Test.YtmpagpbnpgcecaaGk
set_option linter.unusedSimpArgs false
set_option linter.unusedVariables false
set_option maxRecDepth 100000
namespace Go.Proofs.Ytmpagpbnpgcecaa.Pure
open Go Go.Mx
theorem mulBoth {a b : List Int} (ha : InL .u8 a) (hb : InL .u8 b) : ∃ r, gcm_Mul.f 1000 a b = some r ∧ ref12_Mul.f 1000 a b = some r ∧ r.length < 900 := by
  by_cases la : a.length = 16
  · by_cases lb : b.length = 16
    · exact ⟨_, gMul ha hb la lb, gMulR ha hb la lb, by rw [wr16_len]; decide⟩
    · refine ⟨[], ?_, ?_, by decide⟩
      · unfold gcm_Mul.f
        rw [if_pos (by omega), if_neg (by omega)]
      · unfold ref12_Mul.f
        rw [if_pos (by omega), if_neg (by omega)]
  · refine ⟨[], ?_, ?_, by decide⟩
    · unfold gcm_Mul.f
      rw [if_neg (by omega)]
    · unfold ref12_Mul.f
      rw [if_neg (by omega)]
theorem ghashBoth {a b : List Int} (ha : InL .u8 a) (hb : InL .u8 b) (l : b.length ≤ 100) : ∃ r, gcm_Ghash.f 1000 a b = some r ∧ ref12_Ghash.f 1000 a b = some r ∧ r.length < 900 := by
  have m : irem .i64 ((b.length : Nat) : Int) 16 = ((b.length % 16 : Nat) : Int) := rfl
  by_cases la : a.length = 16
  · by_cases lb : b.length % 16 = 0
    · exact ⟨_, gGhash ha hb la lb (by omega), gGhashR ha hb la lb (by omega), by rw [wr16_len]; decide⟩
    · refine ⟨[], ?_, ?_, by decide⟩
      · unfold gcm_Ghash.f
        rw [if_pos (by omega), if_neg (by rw [m]; omega)]
      · unfold ref12_Ghash.f
        rw [if_pos (by omega), if_neg (by rw [m]; omega)]
  · refine ⟨[], ?_, ?_, by decide⟩
    · unfold gcm_Ghash.f
      rw [if_neg (by omega)]
    · unfold ref12_Ghash.f
      rw [if_neg (by omega)]
theorem GcmTells : law12_GcmTells.Pure := by
  intro a0 h0 a1 h1 a2 h2
  refine ⟨1000, ?_⟩
  unfold law12_GcmTells.f
  rcases gFew (W := [a0, a1, a2]) (show 3 < 900 by decide) with hf | ⟨hf, hl⟩
  · simp only [hf, awake12, Bool.false_eq_true, if_false, Option.bind_some]
  have l2 : a2.length ≤ 100 := hl a2 (by simp)
  obtain ⟨r, r1, r2, r3⟩ := mulBoth h0 h1
  obtain ⟨s, s1, s2, s3⟩ := ghashBoth h0 h2 l2
  have q1 := gsame 1000 (y := r) (by omega) (by omega)
  have q2 := gsame 1000 (y := s) (by omega) (by omega)
  simp only [hf, r1, r2, q1, s1, s2, q2, awake12, if_true, Option.bind_some]
end Go.Proofs.Ytmpagpbnpgcecaa.Pure
