/- Printed by this work's own program: the plain form of the law. -/
import Derived.Test.YtijahfdldlmnhaaF0
import Derived.Test.YtijahfdldlmnhaaMr
set_option linter.unusedVariables false
namespace Go.Proofs.Ytijahfdldlmnhaa
open Go.Mx

def law21_ZqTells.f (K : Nat) (a0 : Arr 256) (a1 : Arr 256) : Option (Bool) :=
  (zq_Fit.f K a0).bind fun r3 => (ref21_Fit.f K a0).bind fun r4 => if (!(r3 == r4)) = true then (some false) else ((ref21_Fit.f K a0).bind fun r5 => if r5 = true then ((ref21_Fit.f K a1).bind fun r6 => if r6 = true then ((zq_Add.f K a0 a1).bind fun r7 => (ref21_Add.f K a0 a1).bind fun r8 => if (eqA r7 r8) = true then ((zq_Sub.f K a0 a1).bind fun r9 => (ref21_Sub.f K a0 a1).bind fun r10 => if (eqA r9 r10) = true then ((zq_Norm.f K a0).bind fun r11 => (ref21_Norm.f K a0).bind fun r12 => if r11 = r12 then ((law21_awake.f K).bind fun r13 => some r13) else (some false)) else (some false)) else (some false)) else ((law21_awake.f K).bind fun r14 => some r14)) else ((law21_awake.f K).bind fun r15 => some r15))

def law21_ZqTells.Pure : Prop := ∀ (a0 : Arr 256), InA .i32 a0 → ∀ (a1 : Arr 256), InA .i32 a1 → ∃ K, law21_ZqTells.f K a0 a1 = some true

end Go.Proofs.Ytijahfdldlmnhaa
