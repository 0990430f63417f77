/- Printed by this work's own program: the plain form of the law. -/
import Derived.Test.YtijahfdldlmnhaaF0
import Derived.Test.YtijahfdldlmnhaaMr
set_option linter.unusedVariables false
namespace Go.Proofs.Ytijahfdldlmnhaa
open Go.Mx

def law21_ZqValues.f (K : Nat) (a0 : Arr 256) (a1 : Arr 256) : Option (Bool) :=
  (ref21_Fit.f K a0).bind fun r3 => if r3 = true then ((ref21_Fit.f K a1).bind fun r4 => if r4 = true then ((zq_Ntt.f K a0).bind fun r5 => (ref21_Ntt.f K a0).bind fun r6 => if (eqA r5 r6) = true then ((zq_Back.f K a0).bind fun r7 => (ref21_Back.f K a0).bind fun r8 => if (eqA r7 r8) = true then ((zq_Mul.f K a0 a1).bind fun r9 => (ref21_Mul.f K a0 a1).bind fun r10 => if (eqA r9 r10) = true then ((zq_Times.f K a0 a1).bind fun r11 => (ref21_Times.f K a0 a1).bind fun r12 => if (eqA r11 r12) = true then ((law21_awake.f K).bind fun r13 => some r13) else (some false)) else (some false)) else (some false)) else (some false)) else ((law21_awake.f K).bind fun r14 => some r14)) else ((law21_awake.f K).bind fun r15 => some r15)

def law21_ZqValues.Pure : Prop := ∀ (a0 : Arr 256), InA .i32 a0 → ∀ (a1 : Arr 256), InA .i32 a1 → ∃ K, law21_ZqValues.f K a0 a1 = some true

end Go.Proofs.Ytijahfdldlmnhaa
