/- own -/
import Derived.Test.YtemdbgmldljbpaaDoorZFKpkeWorks
import Derived.Test.YtemdbgmldljbpaaDoorMp
set_option linter.unusedVariables false
set_option linter.unusedSimpArgs false
namespace Go.Proofs.YtemdbgmldljbpaaDoor
open Go.Mx
def law26_KpkeWorks.f (K:Nat) (a0:Int) (a1_0:Int) (a1_1:Int) (a1_2:Int) (a1_3:Int) (a1_4:Int) (a2:List Int) (a3:List Int) (a4:List Int) (a5:List Int) (a6:List Int) (a7:List Int):Option (Bool):=
 (law26_kind.f K a0 a1_0 a1_1 a1_2 a1_3 a1_4).bind fun (r2_0,r2_1,r2_2,r2_3,r2_4)=>(law26_few.f K ([a2,a5,a6]:List (List Int))).bind fun r4=>if r4=true then (if (iadd .i64 (iadd .i64 (a3.length:Int) (a4.length:Int)) (a7.length:Int))>6000 then ((law26_awake.f K).bind fun r5=>some r5) else ((kpke_Keys.f K r2_0 r2_1 r2_2 r2_3 r2_4 a2).bind fun (r6,r7,r8)=>(ref26_Keys.f K r2_0 r2_1 r2_2 r2_3 r2_4 a2).bind fun (r9,r10,r11)=>(kpke_Encrypt.f K r2_0 r2_1 r2_2 r2_3 r2_4 a3 a5 a6).bind fun (r12,r13)=>(ref26_Encrypt.f K r2_0 r2_1 r2_2 r2_3 r2_4 a3 a5 a6).bind fun (r14,r15)=>(kpke_Decrypt.f K r2_0 r2_1 r2_2 r2_3 r2_4 a4 a7).bind fun (r16,r17)=>(ref26_Decrypt.f K r2_0 r2_1 r2_2 r2_3 r2_4 a4 a7).bind fun (r18,r19)=>(ref01_Same.f K r6 r9).bind fun r20=>if r20=true then ((ref01_Same.f K r7 r10).bind fun r21=>if r21=true then (if r8=r11 then ((ref01_Same.f K r12 r14).bind fun r22=>if r22=true then (if r13=r15 then ((ref01_Same.f K r16 r18).bind fun r23=>if r23=true then (if r17=r19 then ((law26_awake.f K).bind fun r24=>some r24) else (some false)) else (some false)) else (some false)) else (some false)) else (some false)) else (some false)) else (some false))) else ((law26_awake.f K).bind fun r25=>some r25)
def law26_KpkeWorks.Pure:Prop:=∀ (a0:Int),InR .u8 a0→∀ (a1_0:Int) (a1_1:Int) (a1_2:Int) (a1_3:Int) (a1_4:Int),InR .i64 a1_0→InR .i64 a1_1→InR .i64 a1_2→InR .i64 a1_3→InR .i64 a1_4→∀ (a2:List Int),InL .u8 a2→∀ (a3:List Int),InL .u8 a3→∀ (a4:List Int),InL .u8 a4→∀ (a5:List Int),InL .u8 a5→∀ (a6:List Int),InL .u8 a6→∀ (a7:List Int),InL .u8 a7→∃ K,law26_KpkeWorks.f K a0 a1_0 a1_1 a1_2 a1_3 a1_4 a2 a3 a4 a5 a6 a7=some true
end Go.Proofs.YtemdbgmldljbpaaDoor
