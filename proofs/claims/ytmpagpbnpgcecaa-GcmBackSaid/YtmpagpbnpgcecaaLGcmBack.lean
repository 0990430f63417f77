/- Printed by this work's own program: the plain form of the law. -/
import Derived.Test.YtmpagpbnpgcecaaGFGcmBack
import Derived.Test.YtmpagpbnpgcecaaMp
set_option linter.unusedVariables false
set_option linter.unusedSimpArgs false
namespace Go.Proofs.Ytmpagpbnpgcecaa
open Go.Mx

def law12_GcmBack.f (K : Nat) (a0 : List Int) (a1 : List Int) (a2 : List Int) (a3 : List Int) (a4 : List Int) : Option (Bool) :=
  (law12_few.f K ([a0, a1, a2, a3, a4] : List (List Int))).bind fun r2 => if r2 = true then ((((gcm_Seal.f K a0 a1 a2 a3).bind fun (r3, r4) => if r4 = 0 then ((gcm_Open.f K a0 a1 a2 r3).bind fun (r5, r6) => if r6 = 0 then ((ref01_Same.f K r5 a3).bind fun r7 => if r7 = true then (if (r3.length : Int) = (iadd .i64 (a3.length : Int) 16) then (if ([] : List Int).length + r3.length ≤ 140737488355328 then ((some (isub .i64 (r3.length : Int) 1)).bind fun x10 => if 0 ≤ x10 then (if x10 < (([] : List Int) ++ r3).length then ((some (isub .i64 (r3.length : Int) 1)).bind fun x11 => if 0 ≤ x11 then (if x11 < (([] : List Int) ++ r3).length then ((some (ixor .u8 (rdL (CI .u8) (([] : List Int) ++ r3) x10) 1)).bind fun x12 => (gcm_Open.f K a0 a1 a2 (wrL (([] : List Int) ++ r3) x11 x12)).bind fun (r13, r14) => if r14 = 17 then (if (r13.length : Int) > 0 then (some (.inr false)) else (some (.inl ()))) else (some (.inr false))) else none) else none) else none) else none) else none) else (some (.inr false))) else (some (.inr false))) else (some (.inr false))) else (if (r3.length : Int) > 0 then (some (.inr false)) else (some (.inl ()))) : Option ((Unit) ⊕ (Bool)))).bind fun tv7 => (match tv7 with | .inl _ => (gcm_Open.f K a0 a1 a2 a4).bind fun (r15, r16) => if r16 = 0 then ((gcm_Seal.f K a0 a1 a2 r15).bind fun (r17, r18) => if r18 = 0 then ((ref01_Same.f K r17 a4).bind fun r19 => if r19 = true then ((law12_awake.f K).bind fun r20 => some r20) else (some false)) else (some false)) else (if (r15.length : Int) = 0 then ((law12_awake.f K).bind fun r21 => some r21) else (some false)) | .inr r => some r)) else ((law12_awake.f K).bind fun r22 => some r22)

def law12_GcmBack.Pure : Prop := ∀ (a0 : List Int), InL .u8 a0 → ∀ (a1 : List Int), InL .u8 a1 → ∀ (a2 : List Int), InL .u8 a2 → ∀ (a3 : List Int), InL .u8 a3 → ∀ (a4 : List Int), InL .u8 a4 → ∃ K, law12_GcmBack.f K a0 a1 a2 a3 a4 = some true

end Go.Proofs.Ytmpagpbnpgcecaa
