/- Printed by this work's own program: the plain form of the law. -/
import Derived.Test.YtmpagpbnpgcecaaEF0
import Derived.Test.YtmpagpbnpgcecaaMp
set_option linter.unusedVariables false
set_option linter.unusedSimpArgs false
namespace Go.Proofs.Ytmpagpbnpgcecaa
open Go.Mx

def law10_AesBlocks.f (K : Nat) (a0 : List Int) (a1 : List Int) : Option (Bool) :=
  if (a0.length : Int) > 100 then ((law10_awake.f K).bind fun r1 => some r1) else (if (a1.length : Int) > 100 then ((law10_awake.f K).bind fun r2 => some r2) else ((aes_Block.f K a0 a1).bind fun (r3, r4) => (ref10_Block.f K a0 a1).bind fun (r5, r6) => (aes_Back.f K a0 a1).bind fun (r7, r8) => (ref10_Back.f K a0 a1).bind fun (r9, r10) => (ref01_Same.f K r3 r5).bind fun r11 => if r11 = true then (if r4 = r6 then ((ref01_Same.f K r7 r9).bind fun r12 => if r12 = true then (if r8 = r10 then ((law10_awake.f K).bind fun r13 => some r13) else (some false)) else (some false)) else (some false)) else (some false)))

def law10_AesBlocks.Pure : Prop := ∀ (a0 : List Int), InL .u8 a0 → ∀ (a1 : List Int), InL .u8 a1 → ∃ K, law10_AesBlocks.f K a0 a1 = some true

end Go.Proofs.Ytmpagpbnpgcecaa
