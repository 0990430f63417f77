/- Printed by this work's own program: the plain form of the law. -/
import Derived.Test.YtijahfdldlmnhaaKF0
import Derived.Test.YtijahfdldlmnhaaMp
set_option linter.unusedVariables false
namespace Go.Proofs.Ytijahfdldlmnhaa
open Go.Mx

def law25_KqBits.f (K : Nat) (a0 : Arr 256) (a1 : Int) (a2 : List Int) : Option (Bool) :=
  if (a2.length : Int) > 1000 then ((law25_awake.f K).bind fun r2 => some r2) else ((kq_Unpack.f K a2 a1).bind fun (r3, r4) => (ref25_Unpack.f K a2 a1).bind fun (r6, r7) => if (!(eqA r3 r6)) = true then (some false) else (if (!(r4 == r7)) = true then (some false) else ((ref25_Fit.f K a0).bind fun r9 => if r9 = true then ((kq_Squeeze.f K a0 a1).bind fun r10 => (ref25_Squeeze.f K a0 a1).bind fun r11 => if (!(eqA r10 r11)) = true then (some false) else ((kq_Widen.f K a0 a1).bind fun r12 => (ref25_Widen.f K a0 a1).bind fun r13 => if (eqA r12 r13) = true then ((kq_Pack.f K a0 a1).bind fun r14 => (ref25_Pack.f K a0 a1).bind fun r15 => (ref01_Same.f K r14 r15).bind fun r16 => if r16 = true then ((law25_awake.f K).bind fun r17 => some r17) else (some false)) else (some false))) else ((kq_Widen.f K a0 a1).bind fun r18 => (ref25_Widen.f K a0 a1).bind fun r19 => if (eqA r18 r19) = true then ((kq_Pack.f K a0 a1).bind fun r20 => (ref25_Pack.f K a0 a1).bind fun r21 => (ref01_Same.f K r20 r21).bind fun r22 => if r22 = true then ((law25_awake.f K).bind fun r23 => some r23) else (some false)) else (some false)))))

def law25_KqBits.Pure : Prop := ∀ (a0 : Arr 256), InA .i32 a0 → ∀ (a1 : Int), InR .i64 a1 → ∀ (a2 : List Int), InL .u8 a2 → ∃ K, law25_KqBits.f K a0 a1 a2 = some true

end Go.Proofs.Ytijahfdldlmnhaa
