/- Printed by this work's own program: the plain form of the law. -/
import Derived.Test.YtmpagpbnpgcecaaQFWrapBack
import Derived.Test.YtmpagpbnpgcecaaMp
set_option linter.unusedVariables false
set_option linter.unusedSimpArgs false
namespace Go.Proofs.Ytmpagpbnpgcecaa
open Go.Mx

def law11_WrapBack.f (K : Nat) (a0 : List Int) (a1 : List Int) (a2 : List Int) : Option (Bool) :=
  if (a0.length : Int) > 100 then ((law11_awake.f K).bind fun r1 => some r1) else (if (a1.length : Int) > 80 then ((law11_awake.f K).bind fun r2 => some r2) else (if (a2.length : Int) > 80 then ((law11_awake.f K).bind fun r3 => some r3) else ((wrap_Wrap.f K a0 a1).bind fun (r4, r5) => ((if r5 = 0 then ((wrap_Unwrap.f K a0 r4).bind fun (r6, r7) => if r7 = 0 then ((ref01_Same.f K r6 a1).bind fun r8 => if r8 = true then (if (r4.length : Int) = (iadd .i64 (a1.length : Int) 8) then (some (.inl ())) else (some (.inr false))) else (some (.inr false))) else (some (.inr false))) else (if (r4.length : Int) > 0 then (some (.inr false)) else (some (.inl ()))) : Option ((Unit) ⊕ (Bool)))).bind fun tv15 => (match tv15 with | .inl _ => (wrap_Unwrap.f K a0 a2).bind fun (r9, r10) => if r10 = 0 then ((wrap_Wrap.f K a0 r9).bind fun (r11, r12) => if r12 = 0 then ((ref01_Same.f K r11 a2).bind fun r13 => if r13 = true then ((law11_awake.f K).bind fun r14 => some r14) else (some false)) else (some false)) else (if (r9.length : Int) = 0 then ((law11_awake.f K).bind fun r15 => some r15) else (some false)) | .inr r => some r))))

def law11_WrapBack.Pure : Prop := ∀ (a0 : List Int), InL .u8 a0 → ∀ (a1 : List Int), InL .u8 a1 → ∀ (a2 : List Int), InL .u8 a2 → ∃ K, law11_WrapBack.f K a0 a1 a2 = some true

end Go.Proofs.Ytmpagpbnpgcecaa
