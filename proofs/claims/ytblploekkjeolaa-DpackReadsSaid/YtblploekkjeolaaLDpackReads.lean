/- Printed by this work's own program: the plain form of the law. -/
import Derived.Test.YtblploekkjeolaaDFDpackReads
import Derived.Test.YtblploekkjeolaaMp
set_option linter.unusedVariables false
set_option linter.unusedSimpArgs false
namespace Go.Proofs.Ytblploekkjeolaa
open Go.Mx

def law22_DpackReads.f (K : Nat) (a0 : Int) (a1_0 : Int) (a1_1 : Int) (a1_2 : Int) (a1_3 : Int) (a1_4 : Int) (a1_5 : Int) (a1_6 : Int) (a1_7 : Int) (a2 : List Int) : Option (Bool) :=
  (law22_kind.f K a0 a1_0 a1_1 a1_2 a1_3 a1_4 a1_5 a1_6 a1_7).bind fun (r2_0, r2_1, r2_2, r2_3, r2_4, r2_5, r2_6, r2_7) => if (a2.length : Int) > 6000 then ((law22_awake.f K).bind fun r3 => some r3) else ((dpack_UnPublic.f K r2_0 r2_1 r2_2 r2_3 r2_4 r2_5 r2_6 r2_7 a2).bind fun (r4_0, r4_1, r5) => (ref22_UnPublic.f K r2_0 r2_1 r2_2 r2_3 r2_4 r2_5 r2_6 r2_7 a2).bind fun (r7_0, r7_1, r8) => (dpack_UnPrivate.f K r2_0 r2_1 r2_2 r2_3 r2_4 r2_5 r2_6 r2_7 a2).bind fun (r10_0, r10_1, r10_2, r10_3, r10_4, r10_5, r11) => (ref22_UnPrivate.f K r2_0 r2_1 r2_2 r2_3 r2_4 r2_5 r2_6 r2_7 a2).bind fun (r13_0, r13_1, r13_2, r13_3, r13_4, r13_5, r14) => (dpack_UnSig.f K r2_0 r2_1 r2_2 r2_3 r2_4 r2_5 r2_6 r2_7 a2).bind fun (r16_0, r16_1, r16_2, r17) => (ref22_UnSig.f K r2_0 r2_1 r2_2 r2_3 r2_4 r2_5 r2_6 r2_7 a2).bind fun (r19_0, r19_1, r19_2, r20) => (ref22_SamePublic.f K r4_0 r4_1 r7_0 r7_1).bind fun r22 => if r22 = true then (if (r5 == r8) = true then ((ref22_SamePrivate.f K r10_0 r10_1 r10_2 r10_3 r10_4 r10_5 r13_0 r13_1 r13_2 r13_3 r13_4 r13_5).bind fun r23 => if r23 = true then (if (r11 == r14) = true then ((ref22_SameSig.f K r16_0 r16_1 r16_2 r19_0 r19_1 r19_2).bind fun r24 => if r24 = true then (if (r17 == r20) = true then ((law22_awake.f K).bind fun r25 => some r25) else (some false)) else (some false)) else (some false)) else (some false)) else (some false)) else (some false))

def law22_DpackReads.Pure : Prop := ∀ (a0 : Int), InR .u8 a0 → ∀ (a1_0 : Int) (a1_1 : Int) (a1_2 : Int) (a1_3 : Int) (a1_4 : Int) (a1_5 : Int) (a1_6 : Int) (a1_7 : Int), InR .i64 a1_0 → InR .i64 a1_1 → InR .i32 a1_2 → InR .i64 a1_3 → InR .i32 a1_4 → InR .i32 a1_5 → InR .i64 a1_6 → InR .i64 a1_7 → ∀ (a2 : List Int), InL .u8 a2 → ∃ K, law22_DpackReads.f K a0 a1_0 a1_1 a1_2 a1_3 a1_4 a1_5 a1_6 a1_7 a2 = some true

end Go.Proofs.Ytblploekkjeolaa
