/- Printed by this work's own program: the plain form of the law. -/
import Derived.Test.YtmpagpbnpgcecaaRFAesBack
import Derived.Test.YtmpagpbnpgcecaaMp
set_option linter.unusedVariables false
set_option linter.unusedSimpArgs false
namespace Go.Proofs.Ytmpagpbnpgcecaa
open Go.Mx

def law10_AesBack.f (K : Nat) (a0 : List Int) (a1 : List Int) (a2 : List Int) (a3 : List Int) : Option (Bool) :=
  if (a0.length : Int) > 100 then ((law10_awake.f K).bind fun r1 => some r1) else (if (a1.length : Int) > 100 then ((law10_awake.f K).bind fun r2 => some r2) else (if (a2.length : Int) > 400 then ((law10_awake.f K).bind fun r3 => some r3) else (if (a3.length : Int) > 400 then ((law10_awake.f K).bind fun r4 => some r4) else ((((aes_Block.f K a0 a1).bind fun (r5, r6) => if r6 = 0 then ((aes_Back.f K a0 r5).bind fun (r7, r8) => (aes_Back.f K a0 a1).bind fun (r9, r10) => (aes_Block.f K a0 r9).bind fun (r11, r12) => if r8 = 0 then (if r10 = 0 then (if r12 = 0 then ((ref01_Same.f K r7 a1).bind fun r13 => if r13 = true then ((ref01_Same.f K r11 a1).bind fun r14 => if r14 = true then (some (.inl ())) else (some (.inr false))) else (some (.inr false))) else (some (.inr false))) else (some (.inr false))) else (some (.inr false))) else (some (.inl ())) : Option ((Unit) ⊕ (Bool)))).bind fun tv15 => (match tv15 with | .inl _ => (((aes_Chain.f K a0 a1 a2).bind fun (r15, r16) => if r16 = 0 then ((aes_Unchain.f K a0 a1 r15).bind fun (r17, r18) => if r18 = 0 then ((ref01_Same.f K r17 a2).bind fun r19 => if r19 = true then (if (irem .i64 (r15.length : Int) 16) = 0 then (if (r15.length : Int) ≤ (a2.length : Int) then (some (.inr false)) else (some (.inl ()))) else (some (.inr false))) else (some (.inr false))) else (some (.inr false))) else (some (.inl ())) : Option ((Unit) ⊕ (Bool)))).bind fun tv39 => (match tv39 with | .inl _ => (aes_Unchain.f K a0 a1 a3).bind fun (r20, r21) => if r21 = 0 then ((aes_Chain.f K a0 a1 r20).bind fun (r22, r23) => if r23 = 0 then ((ref01_Same.f K r22 a3).bind fun r24 => if r24 = true then ((law10_awake.f K).bind fun r25 => some r25) else (some false)) else (some false)) else (if (r20.length : Int) = 0 then ((law10_awake.f K).bind fun r26 => some r26) else (some false)) | .inr r => some r) | .inr r => some r)))))

def law10_AesBack.Pure : Prop := ∀ (a0 : List Int), InL .u8 a0 → ∀ (a1 : List Int), InL .u8 a1 → ∀ (a2 : List Int), InL .u8 a2 → ∀ (a3 : List Int), InL .u8 a3 → ∃ K, law10_AesBack.f K a0 a1 a2 a3 = some true

end Go.Proofs.Ytmpagpbnpgcecaa
