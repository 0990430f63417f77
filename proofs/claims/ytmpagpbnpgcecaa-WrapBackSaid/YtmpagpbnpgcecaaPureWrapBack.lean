/- Layer 11: there and back: what is wrapped is unwrapped as it was, and what is unwrapped is wrapped as it was read; in plain Lean. -/
import Derived.Test.YtmpagpbnpgcecaaLWrapBack
import Derived.Test.YtmpagpbnpgcecaaWe
set_option linter.unusedSimpArgs false
set_option linter.unusedVariables false
set_option maxRecDepth 100000
namespace Go.Proofs.Ytmpagpbnpgcecaa.Pure
open Go Go.Mx
theorem awake11 : law11_awake.f 1000 = some true := by decide +kernel
/-- the law's first half: no way out -/
theorem first {a0 a1 : List Int} (h0 : InL .u8 a0) (h1 : InL .u8 a1) (hl : a1.length ≤ 80) : ∃ x e, wrap_Wrap.f 1000 a0 a1 = some (x, e) ∧
    ((e = 0 ∧ ∃ y, wrap_Unwrap.f 1000 a0 x = some (y, 0) ∧ ref01_Same.f 1000 y a1 = some true ∧ (x.length : Int) = iadd .i64 (a1.length : Int) 8) ∨ (¬ e = 0 ∧ x = [])) := by
  by_cases h : Szd a0 ∧ 16 ≤ a1.length ∧ a1.length % 8 = 0
  · obtain ⟨hs, h2, h3⟩ := h
    obtain ⟨E, D, hc, hi⟩ := ci_inv h0 hs
    have hl8 : a1.length = 8 * (a1.length / 8) := by omega
    obtain ⟨e1, _⟩ := aWrap hc hs (show 2 ≤ a1.length / 8 by omega) (by omega) hl8 h1
    obtain ⟨w1, w2⟩ := wrapD_len hc (show 0 < a1.length / 8 by omega) (by omega) hl8 h1
    obtain ⟨e2, _⟩ := aUnwrap hc hs (show 2 ≤ a1.length / 8 by omega) (by omega) w1 w2
    rw [unw_wrap hc hi (show 0 < a1.length / 8 by omega) (by omega) hl8 h1, if_pos rfl] at e2
    have e3 : (mark, chs (a1.length / 8) a1).2.flatten = a1 := chs_flat _ _ hl8
    rw [e3] at e2
    refine ⟨_, _, e1, .inl ⟨rfl, a1, e2, same 1000 (by omega) (by omega), ?_⟩⟩
    rw [w1, add64 (by omega) (by omega)]
    omega
  · obtain ⟨e, e1, e2⟩ := wrap_no (by omega) h
    exact ⟨_, _, e1, .inr ⟨e2, rfl⟩⟩
theorem second {a0 a2 : List Int} (h0 : InL .u8 a0) (h2 : InL .u8 a2) (hl : a2.length ≤ 80) : ∃ y f, wrap_Unwrap.f 1000 a0 a2 = some (y, f) ∧
    ((f = 0 ∧ wrap_Wrap.f 1000 a0 y = some (a2, 0)) ∨ (¬ f = 0 ∧ y = [])) := by
  by_cases h : Szd a0 ∧ 24 ≤ a2.length ∧ a2.length % 8 = 0
  · obtain ⟨hs, h3, h4⟩ := h
    obtain ⟨E, D, hc, hi⟩ := ci_inv h0 hs
    have hl8 : a2.length = 8 * (a2.length / 8 - 1 + 1) := by omega
    have hok := unwS_ok hc (show 0 < a2.length / 8 - 1 by omega) (by omega) hl8 h2
    obtain ⟨e1, _⟩ := aUnwrap hc hs (show 2 ≤ a2.length / 8 - 1 by omega) (by omega) hl8 h2
    by_cases hm : (unwS D (a2.length / 8 - 1) a2).1 = mark
    · rw [if_pos hm] at e1
      obtain ⟨e2, _⟩ := aWrap hc hs (show 2 ≤ a2.length / 8 - 1 by omega) (by omega) hok.2.flat hok.2.flat_in
      rw [wrap_unw hc hi (show 0 < a2.length / 8 - 1 by omega) (by omega) hl8 h2 hm] at e2
      exact ⟨_, _, e1, .inl ⟨rfl, e2⟩⟩
    · rw [if_neg hm] at e1
      exact ⟨_, _, e1, .inr ⟨by decide, rfl⟩⟩
  · obtain ⟨e, e1, e2⟩ := unw_no (by omega) h
    exact ⟨_, _, e1, .inr ⟨e2, rfl⟩⟩
theorem WrapBack : law11_WrapBack.Pure := by
  intro a0 h0 a1 h1 a2 h2
  refine ⟨1000, ?_⟩
  unfold law11_WrapBack.f
  by_cases c0 : ((a0.length : Nat) : Int) > 100
  · simp only [c0, awake11, if_true, Option.bind_some]
  by_cases c1 : ((a1.length : Nat) : Int) > 80
  · simp only [c0, c1, awake11, if_true, if_false, Option.bind_some]
  by_cases c2 : ((a2.length : Nat) : Int) > 80
  · simp only [c0, c1, c2, awake11, if_true, if_false, Option.bind_some]
  obtain ⟨x, e, p1, p2⟩ := first h0 h1 (by omega)
  obtain ⟨y, f, q1, q2⟩ := second h0 h2 (by omega)
  have s2 := same 1000 (y := a2) (by omega) (by omega)
  have z0 : ((([] : List Int).length : Nat) : Int) = 0 := rfl
  have z1 : ¬ ((([] : List Int).length : Nat) : Int) > 0 := by decide
  have z2 : ¬ (0 : Int) > 0 := by decide
  rcases p2 with ⟨rfl, z, p3, p4, p5⟩ | ⟨p3, rfl⟩ <;> rcases q2 with ⟨rfl, q3⟩ | ⟨q3, rfl⟩
  · simp only [c0, c1, c2, p1, p3, p4, p5, q1, q3, s2, awake11, if_true, if_false, Option.bind_some]
  · simp only [c0, c1, c2, p1, p3, p4, p5, q1, q3, z0, awake11, if_true, if_false, Option.bind_some]
  · simp only [c0, c1, c2, p1, p3, z1, q1, q3, s2, awake11, if_true, if_false, Option.bind_some]
  · simp only [c0, c1, c2, p1, p3, z0, z2, q1, q3, awake11, if_true, if_false, Option.bind_some]
end Go.Proofs.Ytmpagpbnpgcecaa.Pure
