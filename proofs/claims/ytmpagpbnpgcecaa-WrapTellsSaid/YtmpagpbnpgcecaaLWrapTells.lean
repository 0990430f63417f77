/- Printed by this work's own program: the plain form of the law. -/
import Derived.Test.YtmpagpbnpgcecaaPF0
import Derived.Test.YtmpagpbnpgcecaaMp
set_option linter.unusedVariables false
set_option linter.unusedSimpArgs false
namespace Go.Proofs.Ytmpagpbnpgcecaa
open Go.Mx

def law11_WrapTells.f (K : Nat) (a0 : List Int) (a1 : List Int) : Option (Bool) :=
  ((if (a0.length : Int) > 100 then ((law11_awake.f K).bind fun r1 => some (.inr r1)) else (if (a1.length : Int) > 80 then (if (a1.length : Int) ≤ 4200 then ((law11_awake.f K).bind fun r2 => some (.inr r2)) else (some (.inl ()))) else (some (.inl ()))) : Option ((Unit) ⊕ (Bool)))).bind fun tv4 => (match tv4 with | .inl _ => (wrap_Wrap.f K a0 a1).bind fun (r3, r4) => (ref11_Wrap.f K a0 a1).bind fun (r5, r6) => (wrap_Unwrap.f K a0 a1).bind fun (r7, r8) => (ref11_Unwrap.f K a0 a1).bind fun (r9, r10) => (ref01_Same.f K r3 r5).bind fun r11 => if r11 = true then (if r4 = r6 then ((ref01_Same.f K r7 r9).bind fun r12 => if r12 = true then (if r8 = r10 then ((law11_awake.f K).bind fun r13 => some r13) else (some false)) else (some false)) else (some false)) else (some false) | .inr r => some r)

def law11_WrapTells.Pure : Prop := ∀ (a0 : List Int), InL .u8 a0 → ∀ (a1 : List Int), InL .u8 a1 → ∃ K, law11_WrapTells.f K a0 a1 = some true

end Go.Proofs.Ytmpagpbnpgcecaa
