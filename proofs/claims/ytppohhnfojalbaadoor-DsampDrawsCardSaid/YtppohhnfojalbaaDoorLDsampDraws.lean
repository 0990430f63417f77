/- Printed by this work's own program: the plain form of the law. -/
import Derived.Test.YtppohhnfojalbaaDoorVFDsampDraws
import Derived.Test.YtppohhnfojalbaaDoorMp
set_option linter.unusedVariables false
set_option linter.unusedSimpArgs false
namespace Go.Proofs.YtppohhnfojalbaaDoor
open Go.Mx

def law23_DsampDraws.f (K : Nat) (a0 : List Int) (a1 : Int) (a2 : Int) (a3 : Int) (a4 : Int) : Option (Bool) :=
  if (a0.length : Int) > 300 then ((law23_awake.f K).bind fun r1 => some r1) else ((dsamp_Values.f K a0 (iconv .u8 a1) (iconv .u8 (ishr .u16 a1 8))).bind fun (r2, r3) => (ref23_Values.f K a0 (iconv .u8 a1) (iconv .u8 (ishr .u16 a1 8))).bind fun (r5, r6) => (dsamp_Small.f K a0 a1 a2).bind fun (r8, r9) => (ref23_Small.f K a0 a1 a2).bind fun (r11, r12) => (dsamp_Mask.f K a0 a1 a3).bind fun (r14, r15) => (ref23_Mask.f K a0 a1 a3).bind fun (r17, r18) => (dsamp_Ball.f K a0 a4).bind fun (r20, r21) => (ref23_Ball.f K a0 a4).bind fun (r23, r24) => if (eqA r2 r5) = true then (if r3 = r6 then (if (eqA r8 r11) = true then (if r9 = r12 then (if (eqA r14 r17) = true then (if r15 = r18 then (if (eqA r20 r23) = true then (if r21 = r24 then ((law23_awake.f K).bind fun r26 => some r26) else (some false)) else (some false)) else (some false)) else (some false)) else (some false)) else (some false)) else (some false)) else (some false))

def law23_DsampDraws.Pure : Prop := ∀ (a0 : List Int), InL .u8 a0 → ∀ (a1 : Int), InR .u16 a1 → ∀ (a2 : Int), InR .i32 a2 → ∀ (a3 : Int), InR .i32 a3 → ∀ (a4 : Int), InR .i64 a4 → ∃ K, law23_DsampDraws.f K a0 a1 a2 a3 a4 = some true

end Go.Proofs.YtppohhnfojalbaaDoor
