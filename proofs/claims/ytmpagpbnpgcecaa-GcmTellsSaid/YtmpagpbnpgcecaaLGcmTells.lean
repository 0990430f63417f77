/- Printed by this work's own program: the plain form of the law. -/
import Derived.Test.YtmpagpbnpgcecaaGFGcmTells
import Derived.Test.YtmpagpbnpgcecaaMp
set_option linter.unusedVariables false
set_option linter.unusedSimpArgs false
namespace Go.Proofs.Ytmpagpbnpgcecaa
open Go.Mx

def law12_GcmTells.f (K : Nat) (a0 : List Int) (a1 : List Int) (a2 : List Int) : Option (Bool) :=
  (law12_few.f K ([a0, a1, a2] : List (List Int))).bind fun r2 => if r2 = true then ((gcm_Mul.f K a0 a1).bind fun r3 => (ref12_Mul.f K a0 a1).bind fun r4 => (ref01_Same.f K r3 r4).bind fun r5 => if r5 = true then ((gcm_Ghash.f K a0 a2).bind fun r6 => (ref12_Ghash.f K a0 a2).bind fun r7 => (ref01_Same.f K r6 r7).bind fun r8 => if r8 = true then ((law12_awake.f K).bind fun r9 => some r9) else (some false)) else (some false)) else ((law12_awake.f K).bind fun r10 => some r10)

def law12_GcmTells.Pure : Prop := ∀ (a0 : List Int), InL .u8 a0 → ∀ (a1 : List Int), InL .u8 a1 → ∀ (a2 : List Int), InL .u8 a2 → ∃ K, law12_GcmTells.f K a0 a1 a2 = some true

end Go.Proofs.Ytmpagpbnpgcecaa
