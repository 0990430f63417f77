/- Printed by this work's own program: the plain form of the law. -/
import Derived.Test.YtijahfdldlmnhaaDoorSF0
import Derived.Test.YtijahfdldlmnhaaDoorMp
set_option linter.unusedVariables false
set_option linter.unusedSimpArgs false
namespace Go.Proofs.YtijahfdldlmnhaaDoor
open Go.Mx

def law08_KeccakGoes.f (K : Nat) (a0_0 : Int) (a0_1 : Arr 25) (a0_2 : Int) (a0_3 : Bool) (a1 : List Int) (a2 : Int) : Option (Bool) :=
  (ref08_Fit.f K a0_0 a0_1 a0_2 a0_3).bind fun r2 => if r2 = true then (if (a1.length : Int) > 500 then ((law08_awake.f K).bind fun r3 => some r3) else (if a2 > 500 then ((law08_awake.f K).bind fun r4 => some r4) else ((((keccak_Absorb.f K a0_0 a0_1 a0_2 a0_3 a1).bind fun (r9_0, r9_1, r9_2, r9_3) => (ref08_Absorb.f K a0_0 a0_1 a0_2 a0_3 a1).bind fun (r10_0, r10_1, r10_2, r10_3) => some (r9_0, r9_1, r9_2, r9_3, r10_0, r10_1, r10_2, r10_3) : Option (Int × (Arr 25) × Int × Bool × Int × (Arr 25) × Int × Bool))).bind fun (y6_0, y6_1, y6_2, y6_3, y8_0, y8_1, y8_2, y8_3) => (keccak_Squeeze.f K a0_0 a0_1 a0_2 a0_3 a2).bind fun (r43_0, r43_1, r43_2, r43_3, r44) => (ref08_Squeeze.f K a0_0 a0_1 a0_2 a0_3 a2).bind fun (r46_0, r46_1, r46_2, r46_3, r47) => if ((y6_0 == y8_0) && ((eqA y6_1 y8_1) && ((y6_2 == y8_2) && ((y6_3 == y8_3) && true)))) = true then (if ((r43_0 == r46_0) && ((eqA r43_1 r46_1) && ((r43_2 == r46_2) && ((r43_3 == r46_3) && true)))) = true then ((ref01_Same.f K r44 r47).bind fun r49 => if r49 = true then ((ref08_Fit.f K y6_0 y6_1 y6_2 y6_3).bind fun r50 => if r50 = true then ((ref08_Fit.f K r43_0 r43_1 r43_2 r43_3).bind fun r51 => if r51 = true then ((law08_awake.f K).bind fun r52 => some r52) else (some false)) else (some false)) else (some false)) else (some false)) else (some false)))) else ((law08_awake.f K).bind fun r53 => some r53)

def law08_KeccakGoes.Pure : Prop := ∀ (a0_0 : Int) (a0_1 : Arr 25) (a0_2 : Int) (a0_3 : Bool), InR .i64 a0_0 → InA .u64 a0_1 → InR .i64 a0_2 → ∀ (a1 : List Int), InL .u8 a1 → ∀ (a2 : Int), InR .i64 a2 → ∃ K, law08_KeccakGoes.f K a0_0 a0_1 a0_2 a0_3 a1 a2 = some true

end Go.Proofs.YtijahfdldlmnhaaDoor
