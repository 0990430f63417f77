/- Printed by this work's own program: the plain form of the law. -/
import Derived.Test.YtmpagpbnpgcecaaGFGcmSeals
import Derived.Test.YtmpagpbnpgcecaaMp
set_option linter.unusedVariables false
set_option linter.unusedSimpArgs false
namespace Go.Proofs.Ytmpagpbnpgcecaa
open Go.Mx

def law12_GcmSeals.f (K : Nat) (a0 : List Int) (a1 : List Int) (a2 : List Int) (a3 : List Int) : Option (Bool) :=
  (law12_few.f K ([a0, a1, a2, a3] : List (List Int))).bind fun r2 => if r2 = true then ((gcm_Seal.f K a0 a1 a2 a3).bind fun (r3, r4) => (ref12_Seal.f K a0 a1 a2 a3).bind fun (r5, r6) => (gcm_Open.f K a0 a1 a2 a3).bind fun (r7, r8) => (ref12_Open.f K a0 a1 a2 a3).bind fun (r9, r10) => (ref01_Same.f K r3 r5).bind fun r11 => if r11 = true then (if r4 = r6 then ((ref01_Same.f K r7 r9).bind fun r12 => if r12 = true then (if r8 = r10 then ((law12_awake.f K).bind fun r13 => some r13) else (some false)) else (some false)) else (some false)) else (some false)) else ((law12_awake.f K).bind fun r14 => some r14)

def law12_GcmSeals.Pure : Prop := ∀ (a0 : List Int), InL .u8 a0 → ∀ (a1 : List Int), InL .u8 a1 → ∀ (a2 : List Int), InL .u8 a2 → ∀ (a3 : List Int), InL .u8 a3 → ∃ K, law12_GcmSeals.f K a0 a1 a2 a3 = some true

end Go.Proofs.Ytmpagpbnpgcecaa
