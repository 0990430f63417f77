/- Printed by this work's own program: the plain form of the law. -/
import Derived.Test.YtijahfdldlmnhaaDoorSF0
import Derived.Test.YtijahfdldlmnhaaDoorMp
set_option linter.unusedVariables false
set_option linter.unusedSimpArgs false
namespace Go.Proofs.YtijahfdldlmnhaaDoor
open Go.Mx

def law08_KeccakTells.f (K : Nat) (a0 : Arr 25) (a1 : Int) (a2 : List Int) (a3 : Int) (a4_0 : Int) (a4_1 : Arr 25) (a4_2 : Int) (a4_3 : Bool) : Option (Bool) :=
  if (a2.length : Int) > 500 then ((law08_awake.f K).bind fun r3 => some r3) else (if a3 > 500 then (if a3 ≤ 16777216 then ((law08_awake.f K).bind fun r4 => some r4) else ((keccak_Sum.f K a1 a2 a3).bind fun (r5, r6) => (ref08_Sum.f K a1 a2 a3).bind fun (r7, r8) => (keccak_New.f K a1).bind fun (r9_0, r9_1, r9_2, r9_3, r10) => (ref08_New.f K a1).bind fun (r12_0, r12_1, r12_2, r12_3, r13) => (keccak_Permute.f K a0).bind fun r15 => (ref08_Permute.f K a0).bind fun r16 => if (eqA r15 r16) = true then ((ref01_Same.f K r5 r7).bind fun r17 => if r17 = true then (if r6 = r8 then (if ((r9_0 == r12_0) && ((eqA r9_1 r12_1) && ((r9_2 == r12_2) && ((r9_3 == r12_3) && true)))) = true then (if r10 = r13 then ((keccak_Fit.f K a4_0 a4_1 a4_2 a4_3).bind fun r18 => (ref08_Fit.f K a4_0 a4_1 a4_2 a4_3).bind fun r19 => if (r18 == r19) = true then ((law08_awake.f K).bind fun r20 => some r20) else (some false)) else (some false)) else (some false)) else (some false)) else (some false)) else (some false))) else ((keccak_Sum.f K a1 a2 a3).bind fun (r21, r22) => (ref08_Sum.f K a1 a2 a3).bind fun (r23, r24) => (keccak_New.f K a1).bind fun (r25_0, r25_1, r25_2, r25_3, r26) => (ref08_New.f K a1).bind fun (r28_0, r28_1, r28_2, r28_3, r29) => (keccak_Permute.f K a0).bind fun r31 => (ref08_Permute.f K a0).bind fun r32 => if (eqA r31 r32) = true then ((ref01_Same.f K r21 r23).bind fun r33 => if r33 = true then (if r22 = r24 then (if ((r25_0 == r28_0) && ((eqA r25_1 r28_1) && ((r25_2 == r28_2) && ((r25_3 == r28_3) && true)))) = true then (if r26 = r29 then ((keccak_Fit.f K a4_0 a4_1 a4_2 a4_3).bind fun r34 => (ref08_Fit.f K a4_0 a4_1 a4_2 a4_3).bind fun r35 => if (r34 == r35) = true then ((law08_awake.f K).bind fun r36 => some r36) else (some false)) else (some false)) else (some false)) else (some false)) else (some false)) else (some false)))

def law08_KeccakTells.Pure : Prop := ∀ (a0 : Arr 25), InA .u64 a0 → ∀ (a1 : Int), InR .i64 a1 → ∀ (a2 : List Int), InL .u8 a2 → ∀ (a3 : Int), InR .i64 a3 → ∀ (a4_0 : Int) (a4_1 : Arr 25) (a4_2 : Int) (a4_3 : Bool), InR .i64 a4_0 → InA .u64 a4_1 → InR .i64 a4_2 → ∃ K, law08_KeccakTells.f K a0 a1 a2 a3 a4_0 a4_1 a4_2 a4_3 = some true

end Go.Proofs.YtijahfdldlmnhaaDoor
