/- own -/
import Derived.Test.YtemdbgmldljbpaaGreatDoorBFKemOpens
import Derived.Test.YtemdbgmldljbpaaGreatDoorMp
set_option linter.unusedVariables false
set_option linter.unusedSimpArgs false
namespace Go.Proofs.YtemdbgmldljbpaaGreatDoor
open Go.Mx
def law27_KemOpens.f (K:Nat) (a0:Int) (a1_0:Int) (a1_1:Int) (a1_2:Int) (a1_3:Int) (a1_4:Int) (a2:List Int) (a3:List Int):Option (Bool):=
 (law27_kind.f K a0 a1_0 a1_1 a1_2 a1_3 a1_4).bind fun (r2_0,r2_1,r2_2,r2_3,r2_4)=>if (iadd .i64 (a2.length:Int) (a3.length:Int))>8000 then ((law27_awake.f K).bind fun r3=>some r3) else ((kem_Open.f K r2_0 r2_1 r2_2 r2_3 r2_4 a2 a3).bind fun (r4,r5)=>(ref27_Open.f K r2_0 r2_1 r2_2 r2_3 r2_4 a2 a3).bind fun (r6,r7)=>(ref01_Same.f K r4 r6).bind fun r8=>if r8=true then (if r5=r7 then ((law27_awake.f K).bind fun r9=>some r9) else (some false)) else (some false))
def law27_KemOpens.Pure:Prop:=∀ (a0:Int),InR .u8 a0→∀ (a1_0:Int) (a1_1:Int) (a1_2:Int) (a1_3:Int) (a1_4:Int),InR .i64 a1_0→InR .i64 a1_1→InR .i64 a1_2→InR .i64 a1_3→InR .i64 a1_4→∀ (a2:List Int),InL .u8 a2→a2.length≤140737488351232→∀ (a3:List Int),InL .u8 a3→a3.length≤140737488351232→∃ K,law27_KemOpens.f K a0 a1_0 a1_1 a1_2 a1_3 a1_4 a2 a3=some true
end Go.Proofs.YtemdbgmldljbpaaGreatDoor
