/- Printed by this work's own program: the plain form of the law. -/
import Derived.Test.YtijahfdldlmnhaaF0
import Derived.Test.YtijahfdldlmnhaaMr
set_option linter.unusedVariables false
namespace Go.Proofs.Ytijahfdldlmnhaa
open Go.Mx

def law21_ZqBack.f (K : Nat) (a0 : Arr 256) (a1 : Arr 256) (a2 : Arr 256) : Option (Bool) :=
  (ref21_Fit.f K a0).bind fun r4 => if r4 = true then ((ref21_Fit.f K a1).bind fun r5 => if r5 = true then ((ref21_Fit.f K a2).bind fun r6 => if r6 = true then ((zq_Ntt.f K a0).bind fun r7 => (zq_Back.f K r7).bind fun r8 => if (!(eqA r8 a0)) = true then (some false) else ((zq_Back.f K a0).bind fun r9 => (zq_Ntt.f K r9).bind fun r10 => if (!(eqA r10 a0)) = true then (some false) else ((zq_Times.f K a0 a1).bind fun r11 => (zq_Ntt.f K r11).bind fun r12 => (zq_Ntt.f K a0).bind fun r13 => (zq_Ntt.f K a1).bind fun r14 => (zq_Mul.f K r13 r14).bind fun r15 => if (!(eqA r12 r15)) = true then (some false) else ((zq_Add.f K a1 a2).bind fun r16 => (zq_Times.f K a0 r16).bind fun r17 => (zq_Times.f K a0 a1).bind fun r18 => (zq_Times.f K a0 a2).bind fun r19 => (zq_Add.f K r18 r19).bind fun r20 => if (!(eqA r17 r20)) = true then (some false) else ((zq_Sub.f K a0 a1).bind fun r21 => (zq_Add.f K r21 a1).bind fun r22 => if (!(eqA r22 a0)) = true then (some false) else ((zq_Times.f K (wr (zeroA 256) 128 1) a0).bind fun r24 => (zq_Times.f K (wr (zeroA 256) 128 1) r24).bind fun r25 => (zq_Add.f K r25 a0).bind fun r27 => if (eqA r27 (zeroA 256)) = true then ((law21_awake.f K).bind fun r28 => some r28) else (some false))))))) else ((law21_awake.f K).bind fun r29 => some r29)) else ((law21_awake.f K).bind fun r30 => some r30)) else ((law21_awake.f K).bind fun r31 => some r31)

def law21_ZqBack.Pure : Prop := ∀ (a0 : Arr 256), InA .i32 a0 → ∀ (a1 : Arr 256), InA .i32 a1 → ∀ (a2 : Arr 256), InA .i32 a2 → ∃ K, law21_ZqBack.f K a0 a1 a2 = some true

end Go.Proofs.Ytijahfdldlmnhaa
