/- own -/
import Derived.Test.YtemdbgmldljbpaaDoorYFKemEach
import Derived.Test.YtemdbgmldljbpaaDoorMp
set_option linter.unusedVariables false
set_option linter.unusedSimpArgs false
namespace Go.Proofs.YtemdbgmldljbpaaDoor
open Go.Mx
def law27_KemEach.f (K:Nat) (a0:Int) (a1:Arr 32) (a2:Arr 32) (a3:List Int):Option (Bool):=
 (law27_kind.f K (irem .u8 a0 3) 0 0 0 0 0).bind fun (r3_0,r3_1,r3_2,r3_3,r3_4)=>if (a3.length:Int)>2000 then ((law27_awake.f K).bind fun r5=>some r5) else ((kem_Keys.f K r3_0 r3_1 r3_2 r3_3 r3_4 (subL (lA a1) 0 32) (subL (lA a2) 0 32)).bind fun (r6,r7,r8)=>if r8=0 then ((kem_Sizes.f K r3_0 r3_1 r3_2 r3_3 r3_4).bind fun (r9,r10,r11)=>if r11<1 then (some false) else (if 0≤r11 then (if r11≤140737488355328 then (if 0<(List.replicate (r11:Int).toNat (Cod.zero (CI .u8))).length then ((kem_Open.f K r3_0 r3_1 r3_2 r3_3 r3_4 r7 (cpL (List.replicate (r11:Int).toNat (Cod.zero (CI .u8))) a3)).bind fun (r13,r14)=>(kem_Open.f K r3_0 r3_1 r3_2 r3_3 r3_4 r7 (cpL (List.replicate (r11:Int).toNat (Cod.zero (CI .u8))) a3)).bind fun (r15,r16)=>if 0≤(1:Int) then (if (1:Int)≤((cpL (List.replicate (r11:Int).toNat (Cod.zero (CI .u8))) a3).length:Int) then (if ((cpL (List.replicate (r11:Int).toNat (Cod.zero (CI .u8))) a3).length:Int)≤(cpL (List.replicate (r11:Int).toNat (Cod.zero (CI .u8))) a3).length then ((kem_Open.f K r3_0 r3_1 r3_2 r3_3 r3_4 r7 (subL (cpL (List.replicate (r11:Int).toNat (Cod.zero (CI .u8))) a3) 1 ((cpL (List.replicate (r11:Int).toNat (Cod.zero (CI .u8))) a3).length:Int))).bind fun (r18,r19)=>if r14=0 then (if r16=0 then (if (r13.length:Int)=32 then ((ref01_Same.f K r13 r15).bind fun r20=>if r20=true then (if r19=14 then ((law27_awake.f K).bind fun r21=>some r21) else (some false)) else (some false)) else (some false)) else (some false)) else (some false)) else none) else none) else none) else none) else none) else none)) else (if r8=12 then ((law27_awake.f K).bind fun r22=>some r22) else (some false)))
def law27_KemEach.Pure:Prop:=∀ (a0:Int),InR .u8 a0→∀ (a1:Arr 32),InA .u8 a1→∀ (a2:Arr 32),InA .u8 a2→∀ (a3:List Int),InL .u8 a3→∃ K,law27_KemEach.f K a0 a1 a2 a3=some true
end Go.Proofs.YtemdbgmldljbpaaDoor
