/- Layer 11: a key wrapped by another one, and the key that is wrapped, are the document's; in plain Lean. -/
import Derived.Test.YtmpagpbnpgcecaaLWrapTells
import Derived.Test.YtmpagpbnpgcecaaWd
set_option linter.unusedSimpArgs false
set_option linter.unusedVariables false
set_option maxRecDepth 100000
namespace Go.Proofs.Ytmpagpbnpgcecaa.Pure
open Go Go.Mx
theorem awake11 : law11_awake.f 1000 = some true := by decide +kernel
theorem WrapTells : law11_WrapTells.Pure := by
  intro a0 h0 a1 h1
  refine ⟨1000, ?_⟩
  unfold law11_WrapTells.f
  by_cases c0 : ((a0.length : Nat) : Int) > 100
  · simp only [c0, awake11, if_true, Option.bind_some]
  by_cases c1 : ((a1.length : Nat) : Int) > 80 ∧ ((a1.length : Nat) : Int) ≤ 4200
  · simp only [c0, c1.1, c1.2, awake11, if_true, if_false, Option.bind_some]
  obtain ⟨⟨x, e, p1, p2, p3⟩, ⟨y, f, q1, q2, q3⟩⟩ := bothWrap (kek := a0) (l := a1) h0 h1 (by omega)
  have s1 := same 1000 p3 p3
  have s2 := same 1000 q3 q3
  by_cases c2 : ((a1.length : Nat) : Int) > 80
  · have c3 : ¬ ((a1.length : Nat) : Int) ≤ 4200 := fun h => c1 ⟨c2, h⟩
    simp only [c0, c2, c3, p1, p2, q1, q2, s1, s2, awake11, if_true, if_false, Option.bind_some]
  · simp only [c0, c2, p1, p2, q1, q2, s1, s2, awake11, if_true, if_false, Option.bind_some]
end Go.Proofs.Ytmpagpbnpgcecaa.Pure
