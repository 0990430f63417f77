/- Printed by this work's own program: the plain form of the law. -/
import Derived.Test.YtmpagpbnpgcecaaRFAesChains
import Derived.Test.YtmpagpbnpgcecaaMp
set_option linter.unusedVariables false
set_option linter.unusedSimpArgs false
namespace Go.Proofs.Ytmpagpbnpgcecaa
open Go.Mx

def law10_AesChains.f (K : Nat) (a0 : List Int) (a1 : List Int) (a2 : List Int) : Option (Bool) :=
  if (a0.length : Int) > 100 then ((law10_awake.f K).bind fun r1 => some r1) else (if (a1.length : Int) > 100 then ((law10_awake.f K).bind fun r2 => some r2) else (if (a2.length : Int) > 400 then ((law10_awake.f K).bind fun r3 => some r3) else ((aes_Chain.f K a0 a1 a2).bind fun (r4, r5) => (ref10_Chain.f K a0 a1 a2).bind fun (r6, r7) => (aes_Unchain.f K a0 a1 a2).bind fun (r8, r9) => (ref10_Unchain.f K a0 a1 a2).bind fun (r10, r11) => (ref01_Same.f K r4 r6).bind fun r12 => if r12 = true then (if r5 = r7 then ((ref01_Same.f K r8 r10).bind fun r13 => if r13 = true then (if r9 = r11 then ((law10_awake.f K).bind fun r14 => some r14) else (some false)) else (some false)) else (some false)) else (some false))))

def law10_AesChains.Pure : Prop := ∀ (a0 : List Int), InL .u8 a0 → ∀ (a1 : List Int), InL .u8 a1 → ∀ (a2 : List Int), InL .u8 a2 → ∃ K, law10_AesChains.f K a0 a1 a2 = some true

end Go.Proofs.Ytmpagpbnpgcecaa
