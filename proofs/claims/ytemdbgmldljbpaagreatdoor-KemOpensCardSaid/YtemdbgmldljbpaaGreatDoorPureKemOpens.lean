/- own -/
import Derived.Test.YtemdbgmldljbpaaGreatDoorLKemOpens
import Derived.Test.YtemdbgmldljbpaaGreatDoorJe
set_option linter.unusedSimpArgs false
set_option linter.unusedVariables false
set_option maxRecDepth 100000
namespace Go.Proofs.YtemdbgmldljbpaaGreatDoor.Pure
open Go Go.Mx
theorem opens_core {W:Option Bool}{Ki:Option (Int × Int × Int × Int × Int)}{c:Prop}[Decidable c] {O1 O2:Int→Int→Int→Int→Int→Option (List Int × Int)}{Sm:List Int→List Int→Option Bool}{p0 p1 p2 p3 p4:Int}
  (hW:W=some true) (hK:Ki=some (p0,p1,p2,p3,p4)) (hO:¬ c→∃ o,O1 p0 p1 p2 p3 p4=some o∧O2 p0 p1 p2 p3 p4=some o∧Sm o.1 o.1=some true) :
  (Ki.bind fun (r2_0,r2_1,r2_2,r2_3,r2_4)=>if c then (W.bind fun r3=>some r3) else ((O1 r2_0 r2_1 r2_2 r2_3 r2_4).bind fun (r4,r5)=>(O2 r2_0 r2_1 r2_2 r2_3 r2_4).bind fun (r6,r7)=>(Sm r4 r6).bind fun r8=>if r8=true then (if r5=r7 then (W.bind fun r9=>some r9) else (some false)) else (some false)))=some true:=by
 subst hW hK
 by_cases hc:c
 ·simp only [Option.bind_some,hc,if_true]
 ·obtain ⟨⟨o,e⟩,h1,h2,h3⟩:=hO hc
  simp only [Option.bind_some,hc,if_false,h1,h2,h3,if_true]
theorem KemOpens:law27_KemOpens.Pure:=by
 intro a0 h0 a b c d e _ _ _ _ _ a2 h2 l2 a3 h3 l3
 refine ⟨60000,?_⟩
 obtain ⟨p0,p1,p2,p3,p4,hK⟩:=kind_any27 h0 a b c d e
 unfold law27_KemOpens.f
 refine opens_core (O1:=fun p0 p1 p2 p3 p4=>kem_Open.f 60000 p0 p1 p2 p3 p4 a2 a3) (O2:=fun p0 p1 p2 p3 p4=>ref27_Open.f 60000 p0 p1 p2 p3 p4 a2 a3) (Sm:=fun s t=>ref01_Same.f 60000 s t) awake27 hK (fun hc=>?_)
 have el:iadd .i64 (a2.length:Int) (a3.length:Int)=(a2.length:Int)+(a3.length:Int):=add64 (by omega) (by omega)
 rw [el] at hc
 obtain ⟨o,o1,o2,o3⟩:=openBoth27 (a:=p0) (b:=p1) (c:=p2) (d:=p3) (e:=p4) (x:=a2) (y:=a3) h2 (by omega) h3 (by omega)
 have l:=o3.1
 exact ⟨o,o1,o2,(jsame_eq 60000 _ _ (by omega) (by omega)).trans (congrArg some (decide_eq_true rfl))⟩
end Go.Proofs.YtemdbgmldljbpaaGreatDoor.Pure
