/- Printed by this work's own program: the plain form of the law. -/
import Derived.Test.YtijahfdldlmnhaaDoorSF0
import Derived.Test.YtijahfdldlmnhaaDoorMp
set_option linter.unusedVariables false
set_option linter.unusedSimpArgs false
namespace Go.Proofs.YtijahfdldlmnhaaDoor
open Go.Mx

def law08_KeccakSums.f (K : Nat) (a0 : Int) (a1 : List Int) (a2 : Int) (a3 : Int) : Option (Bool) :=
  if (a1.length : Int) > 900 then ((law08_awake.f K).bind fun r1 => some r1) else ((some (iadd .i64 4 (iconv .i64 (irem .u8 a0 4)))).bind fun x2 => (keccak_Sum.f K x2 a1 (iconv .i64 a2)).bind fun (r3, r4) => (keccak_Sum.f K x2 a1 (iadd .i64 (iconv .i64 a2) (iconv .i64 a3))).bind fun (r5, r6) => (keccak_New.f K x2).bind fun (r7_0, r7_1, r7_2, r7_3, r8) => (keccak_Absorb.f K r7_0 r7_1 r7_2 r7_3 a1).bind fun (r10_0, r10_1, r10_2, r10_3) => (keccak_Squeeze.f K r10_0 r10_1 r10_2 r10_3 (iconv .i64 a2)).bind fun (r11_0, r11_1, r11_2, r11_3, r12) => if r4 = 0 then (if r6 = 0 then (if r8 = 0 then (if (r5.length : Int) = (iadd .i64 (iconv .i64 a2) (iconv .i64 a3)) then (if 0 ≤ (0 : Int) then (if (0 : Int) ≤ (iconv .i64 a2) then (if (iconv .i64 a2) ≤ r5.length then ((ref01_Same.f K r3 (subL r5 0 (iconv .i64 a2))).bind fun r15 => if r15 = true then ((ref01_Same.f K r3 r12).bind fun r16 => if r16 = true then ((law08_awake.f K).bind fun r17 => some r17) else (some false)) else (some false)) else none) else none) else none) else (some false)) else (some false)) else (some false)) else (some false))

def law08_KeccakSums.Pure : Prop := ∀ (a0 : Int), InR .u8 a0 → ∀ (a1 : List Int), InL .u8 a1 → ∀ (a2 : Int), InR .u8 a2 → ∀ (a3 : Int), InR .u8 a3 → ∃ K, law08_KeccakSums.f K a0 a1 a2 a3 = some true

end Go.Proofs.YtijahfdldlmnhaaDoor
