/- Printed by this work's own program: the plain form of the law. -/
import Derived.Test.YtemdbgmldljbpaaDoorYF0
import Derived.Test.YtemdbgmldljbpaaDoorMp
set_option linter.unusedVariables false
set_option linter.unusedSimpArgs false
namespace Go.Proofs.YtemdbgmldljbpaaDoor
open Go.Mx

def law26_KpkeDraws.f (K : Nat) (a0 : Int) (a1_0 : Int) (a1_1 : Int) (a1_2 : Int) (a1_3 : Int) (a1_4 : Int) (a2 : Int) (a3 : List Int) (a4 : Int) (a5 : Int) : Option (Bool) :=
  (law26_few.f K ([a3] : List (List Int))).bind fun r3 => if r3 = true then ((kpke_Set.f K a0).bind fun (r4_0, r4_1, r4_2, r4_3, r4_4, r5) => (ref26_Set.f K a0).bind fun (r7_0, r7_1, r7_2, r7_3, r7_4, r8) => (kpke_Sizes.f K a1_0 a1_1 a1_2 a1_3 a1_4).bind fun (r10, r11, r12) => (ref26_Sizes.f K a1_0 a1_1 a1_2 a1_3 a1_4).bind fun (r13, r14, r15) => (kpke_Parts.f K a3 a4 a5).bind fun (r16, r17) => (ref26_Parts.f K a3 a4 a5).bind fun (r19, r20) => if ((r4_0 == r7_0) && ((r4_1 == r7_1) && ((r4_2 == r7_2) && ((r4_3 == r7_3) && ((r4_4 == r7_4) && true))))) = true then (if (r5 == r8) = true then (if r10 = r13 then (if r11 = r14 then (if r12 = r15 then (if (eqA r16 r19) = true then (if r17 = r20 then ((kpke_Noise.f K a2 a3 a4).bind fun r22 => (ref26_Noise.f K a2 a3 a4).bind fun r23 => if (eqA r22 r23) = true then ((law26_awake.f K).bind fun r24 => some r24) else (some false)) else (some false)) else (some false)) else (some false)) else (some false)) else (some false)) else (some false)) else (some false)) else ((law26_awake.f K).bind fun r25 => some r25)

def law26_KpkeDraws.Pure : Prop := ∀ (a0 : Int), InR .i64 a0 → ∀ (a1_0 : Int) (a1_1 : Int) (a1_2 : Int) (a1_3 : Int) (a1_4 : Int), InR .i64 a1_0 → InR .i64 a1_1 → InR .i64 a1_2 → InR .i64 a1_3 → InR .i64 a1_4 → ∀ (a2 : Int), InR .i64 a2 → ∀ (a3 : List Int), InL .u8 a3 → ∀ (a4 : Int), InR .u8 a4 → ∀ (a5 : Int), InR .u8 a5 → ∃ K, law26_KpkeDraws.f K a0 a1_0 a1_1 a1_2 a1_3 a1_4 a2 a3 a4 a5 = some true

end Go.Proofs.YtemdbgmldljbpaaDoor
