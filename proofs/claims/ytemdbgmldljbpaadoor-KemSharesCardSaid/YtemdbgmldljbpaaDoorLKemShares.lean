/- own -/
import Derived.Test.YtemdbgmldljbpaaDoorYFKemShares
import Derived.Test.YtemdbgmldljbpaaDoorMp
set_option linter.unusedVariables false
set_option linter.unusedSimpArgs false
namespace Go.Proofs.YtemdbgmldljbpaaDoor
open Go.Mx
def law27_KemShares.f (K:Nat) (a0:Int) (a1:Arr 32) (a2:Arr 32) (a3:Arr 32):Option (Bool):=
 (law27_kind.f K (irem .u8 a0 3) 0 0 0 0 0).bind fun (r4_0,r4_1,r4_2,r4_3,r4_4)=>(kem_Keys.f K r4_0 r4_1 r4_2 r4_3 r4_4 (subL (lA a1) 0 32) (subL (lA a2) 0 32)).bind fun (r6,r7,r8)=>if r8=0 then ((kem_Seal.f K r4_0 r4_1 r4_2 r4_3 r4_4 r6 (subL (lA a3) 0 32)).bind fun (r9,r10,r11)=>(kem_Open.f K r4_0 r4_1 r4_2 r4_3 r4_4 r7 r10).bind fun (r12,r13)=>if r11=0 then (if r13=0 then (if (r9.length:Int)=32 then (if (r12.length:Int)=32 then ((ref01_Same.f K r9 r12).bind fun r14=>if r14=true then ((law27_awake.f K).bind fun r15=>some r15) else ((ref26_Sizes.f K r4_0 r4_1 r4_2 r4_3 r4_4).bind fun (r16,r17,r18)=>if 0≤r17 then (if r17≤r7.length then ((ref26_Decrypt.f K r4_0 r4_1 r4_2 r4_3 r4_4 (r7.take (r17:Int).toNat) r10).bind fun (r19,r20)=>(ref01_Same.f K r19 (subL (lA a3) 0 32)).bind fun r21=>if r21=true then (some false) else ((law27_awake.f K).bind fun r22=>some r22)) else none) else none)) else (some false)) else (some false)) else (some false)) else (some false)) else (if r8=12 then (if (iadd .i64 (r6.length:Int) (r7.length:Int))=0 then ((law27_awake.f K).bind fun r23=>some r23) else (some false)) else (some false))
def law27_KemShares.Pure:Prop:=∀ (a0:Int),InR .u8 a0→∀ (a1:Arr 32),InA .u8 a1→∀ (a2:Arr 32),InA .u8 a2→∀ (a3:Arr 32),InA .u8 a3→∃ K,law27_KemShares.f K a0 a1 a2 a3=some true
end Go.Proofs.YtemdbgmldljbpaaDoor
