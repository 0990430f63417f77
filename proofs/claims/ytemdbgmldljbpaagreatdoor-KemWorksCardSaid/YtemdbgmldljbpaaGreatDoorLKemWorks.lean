/- own -/
import Derived.Test.YtemdbgmldljbpaaGreatDoorBFKemWorks
import Derived.Test.YtemdbgmldljbpaaGreatDoorMp
set_option linter.unusedVariables false
set_option linter.unusedSimpArgs false
namespace Go.Proofs.YtemdbgmldljbpaaGreatDoor
open Go.Mx
def law27_KemWorks.f (K:Nat) (a0:Int) (a1_0:Int) (a1_1:Int) (a1_2:Int) (a1_3:Int) (a1_4:Int) (a2:List Int) (a3:List Int) (a4:List Int) (a5:List Int):Option (Bool):=
 (law27_kind.f K a0 a1_0 a1_1 a1_2 a1_3 a1_4).bind fun (r2_0,r2_1,r2_2,r2_3,r2_4)=>(law27_few.f K ([a2,a3,a5]:List (List Int))).bind fun r4=>if r4=true then (if (a4.length:Int)>3000 then ((law27_awake.f K).bind fun r5=>some r5) else ((kem_Sizes.f K r2_0 r2_1 r2_2 r2_3 r2_4).bind fun (r6,r7,r8)=>(ref27_Sizes.f K r2_0 r2_1 r2_2 r2_3 r2_4).bind fun (r9,r10,r11)=>(kem_Keys.f K r2_0 r2_1 r2_2 r2_3 r2_4 a2 a3).bind fun (r12,r13,r14)=>(ref27_Keys.f K r2_0 r2_1 r2_2 r2_3 r2_4 a2 a3).bind fun (r15,r16,r17)=>(kem_Seal.f K r2_0 r2_1 r2_2 r2_3 r2_4 a4 a5).bind fun (r18,r19,r20)=>(ref27_Seal.f K r2_0 r2_1 r2_2 r2_3 r2_4 a4 a5).bind fun (r21,r22,r23)=>if r6=r9 then (if r7=r10 then (if r8=r11 then ((ref01_Same.f K r12 r15).bind fun r24=>if r24=true then ((ref01_Same.f K r13 r16).bind fun r25=>if r25=true then (if r14=r17 then ((ref01_Same.f K r18 r21).bind fun r26=>if r26=true then ((ref01_Same.f K r19 r22).bind fun r27=>if r27=true then (if r20=r23 then ((law27_awake.f K).bind fun r28=>some r28) else (some false)) else (some false)) else (some false)) else (some false)) else (some false)) else (some false)) else (some false)) else (some false)) else (some false))) else ((law27_awake.f K).bind fun r29=>some r29)
def law27_KemWorks.Pure:Prop:=∀ (a0:Int),InR .u8 a0→∀ (a1_0:Int) (a1_1:Int) (a1_2:Int) (a1_3:Int) (a1_4:Int),InR .i64 a1_0→InR .i64 a1_1→InR .i64 a1_2→InR .i64 a1_3→InR .i64 a1_4→∀ (a2:List Int),InL .u8 a2→∀ (a3:List Int),InL .u8 a3→∀ (a4:List Int),InL .u8 a4→∀ (a5:List Int),InL .u8 a5→∃ K,law27_KemWorks.f K a0 a1_0 a1_1 a1_2 a1_3 a1_4 a2 a3 a4 a5=some true
end Go.Proofs.YtemdbgmldljbpaaGreatDoor
