/- Printed by this work's own program: the plain form of the law. -/
import Derived.Test.YtmpagpbnpgcecaaEF0
import Derived.Test.YtmpagpbnpgcecaaMp
set_option linter.unusedVariables false
set_option linter.unusedSimpArgs false
namespace Go.Proofs.Ytmpagpbnpgcecaa
open Go.Mx

def law10_AesBytes.f (K : Nat) (a0 : Int) (a1 : Int) (a2 : Int) : Option (Bool) :=
  (aes_Box.f K a0).bind fun r1 => (ref10_Box.f K a0).bind fun r2 => if r1 = r2 then ((aes_Mul.f K a0 a1).bind fun r3 => (ref10_Mul.f K a0 a1).bind fun r4 => if r3 = r4 then ((aes_Box.f K a0).bind fun r5 => (aes_Box.f K a1).bind fun r6 => if (!((r5 == r6) == (a0 == a1))) = true then (some false) else ((aes_Mul.f K a0 a1).bind fun r7 => (aes_Mul.f K a1 a0).bind fun r8 => if r7 = r8 then ((aes_Mul.f K a1 a2).bind fun r9 => (aes_Mul.f K a0 r9).bind fun r10 => (aes_Mul.f K a0 a1).bind fun r11 => (aes_Mul.f K r11 a2).bind fun r12 => if r10 = r12 then ((aes_Mul.f K a0 (ixor .u8 a1 a2)).bind fun r13 => (aes_Mul.f K a0 a1).bind fun r14 => (aes_Mul.f K a0 a2).bind fun r15 => if r13 = (ixor .u8 r14 r15) then ((aes_Mul.f K a0 1).bind fun r16 => if r16 = a0 then ((law10_awake.f K).bind fun r17 => some r17) else (some false)) else (some false)) else (some false)) else (some false))) else (some false)) else (some false)

def law10_AesBytes.Pure : Prop := ∀ (a0 : Int), InR .u8 a0 → ∀ (a1 : Int), InR .u8 a1 → ∀ (a2 : Int), InR .u8 a2 → ∃ K, law10_AesBytes.f K a0 a1 a2 = some true

end Go.Proofs.Ytmpagpbnpgcecaa
