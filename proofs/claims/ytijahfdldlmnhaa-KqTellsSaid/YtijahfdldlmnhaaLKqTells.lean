/- Printed by this work's own program: the plain form of the law. -/
import Derived.Test.YtijahfdldlmnhaaKF0
import Derived.Test.YtijahfdldlmnhaaMp
set_option linter.unusedVariables false
set_option linter.unusedSimpArgs false
namespace Go.Proofs.Ytijahfdldlmnhaa
open Go.Mx

def law25_KqTells.f (K : Nat) (a0 : Arr 256) (a1 : Arr 256) : Option (Bool) :=
  (kq_Fit.f K a0).bind fun r3 => (ref25_Fit.f K a0).bind fun r4 => if (!(r3 == r4)) = true then (some false) else ((ref25_Fit.f K a0).bind fun r5 => if r5 = true then ((ref25_Fit.f K a1).bind fun r6 => if r6 = true then ((kq_Add.f K a0 a1).bind fun r7 => (ref25_Add.f K a0 a1).bind fun r8 => if (eqA r7 r8) = true then ((kq_Sub.f K a0 a1).bind fun r9 => (ref25_Sub.f K a0 a1).bind fun r10 => if (eqA r9 r10) = true then ((kq_Times.f K a0 a1).bind fun r11 => (ref25_Times.f K a0 a1).bind fun r12 => if (eqA r11 r12) = true then ((kq_Ntt.f K a0).bind fun r13 => (ref25_Ntt.f K a0).bind fun r14 => if (eqA r13 r14) = true then ((kq_Back.f K a0).bind fun r15 => (ref25_Back.f K a0).bind fun r16 => if (eqA r15 r16) = true then ((kq_Mul.f K a0 a1).bind fun r17 => (ref25_Mul.f K a0 a1).bind fun r18 => if (eqA r17 r18) = true then ((law25_awake.f K).bind fun r19 => some r19) else (some false)) else (some false)) else (some false)) else (some false)) else (some false)) else (some false)) else ((law25_awake.f K).bind fun r20 => some r20)) else ((law25_awake.f K).bind fun r21 => some r21))

def law25_KqTells.Pure : Prop := ∀ (a0 : Arr 256), InA .i32 a0 → ∀ (a1 : Arr 256), InA .i32 a1 → ∃ K, law25_KqTells.f K a0 a1 = some true

end Go.Proofs.Ytijahfdldlmnhaa
