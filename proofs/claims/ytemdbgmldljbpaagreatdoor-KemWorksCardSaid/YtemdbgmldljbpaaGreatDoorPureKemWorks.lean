/- own -/
import Derived.Test.YtemdbgmldljbpaaGreatDoorLKemWorks
import Derived.Test.YtemdbgmldljbpaaGreatDoorJe
set_option linter.unusedSimpArgs false
set_option linter.unusedVariables false
set_option maxRecDepth 100000
namespace Go.Proofs.YtemdbgmldljbpaaGreatDoor.Pure
open Go Go.Mx
theorem works_core {W F:Option Bool}{Ki:Option (Int × Int × Int × Int × Int)}{c:Prop}[Decidable c] {Z1 Z2:Int→Int→Int→Int→Int→Option (Int × Int × Int)}{K1 K2 S1 S2:Int→Int→Int→Int→Int→Option (List Int × List Int × Int)}{Sm:List Int→List Int→Option Bool}{p0 p1 p2 p3 p4:Int}{b:Bool}
  (hW:W=some true) (hK:Ki=some (p0,p1,p2,p3,p4)) (hF:F=some b) (hO:b=true→¬ c→∃ z k s,Z1 p0 p1 p2 p3 p4=some z∧Z2 p0 p1 p2 p3 p4=some z∧K1 p0 p1 p2 p3 p4=some k∧K2 p0 p1 p2 p3 p4=some k∧S1 p0 p1 p2 p3 p4=some s∧S2 p0 p1 p2 p3 p4=some s∧Sm k.1 k.1=some true∧Sm k.2.1 k.2.1=some true∧Sm s.1 s.1=some true∧Sm s.2.1 s.2.1=some true) :
  (Ki.bind fun (r2_0,r2_1,r2_2,r2_3,r2_4)=>F.bind fun r4=>if r4=true then (if c then (W.bind fun r5=>some r5) else ((Z1 r2_0 r2_1 r2_2 r2_3 r2_4).bind fun (r6,r7,r8)=>(Z2 r2_0 r2_1 r2_2 r2_3 r2_4).bind fun (r9,r10,r11)=>(K1 r2_0 r2_1 r2_2 r2_3 r2_4).bind fun (r12,r13,r14)=>(K2 r2_0 r2_1 r2_2 r2_3 r2_4).bind fun (r15,r16,r17)=>(S1 r2_0 r2_1 r2_2 r2_3 r2_4).bind fun (r18,r19,r20)=>(S2 r2_0 r2_1 r2_2 r2_3 r2_4).bind fun (r21,r22,r23)=>if r6=r9 then (if r7=r10 then (if r8=r11 then ((Sm r12 r15).bind fun r24=>if r24=true then ((Sm r13 r16).bind fun r25=>if r25=true then (if r14=r17 then ((Sm r18 r21).bind fun r26=>if r26=true then ((Sm r19 r22).bind fun r27=>if r27=true then (if r20=r23 then (W.bind fun r28=>some r28) else (some false)) else (some false)) else (some false)) else (some false)) else (some false)) else (some false)) else (some false)) else (some false)) else (some false))) else (W.bind fun r29=>some r29))=some true:=by
 subst hW hK hF
 cases b with
 | false=>rfl
 | true=>
  simp only [Option.bind_some,if_true]
  by_cases hc:c
  ·rw [if_pos hc]
  ·rw [if_neg hc]
   obtain ⟨⟨z0,z1,z2⟩,⟨k0,k1,k2⟩,⟨s0,s1,s2⟩,h1,h2,h3,h4,h5,h6,h7,h8,h9,h10⟩:=hO rfl hc
   simp only at h7 h8 h9 h10
   simp only [h1,h2,h3,h4,h5,h6,h7,h8,h9,h10,Option.bind_some,if_true]
theorem KemWorks:law27_KemWorks.Pure:=by
 intro a0 h0 a b c d e _ _ _ _ _ a2 h2 a3 h3 a4 h4 a5 h5
 refine ⟨60000,?_⟩
 obtain ⟨p0,p1,p2,p3,p4,hK⟩:=kind_any27 h0 a b c d e
 obtain ⟨f,hF,hl⟩ : ∃ f,law27_few.f 60000 [a2,a3,a5]=some f∧(f=true→a5.length≤300):=by
  rcases few27 (W:=[a2,a3,a5]) (show 3<900 by decide) with h | ⟨h,hl⟩
  ·exact ⟨_,h,fun q=>by cases q⟩
  ·exact ⟨_,h,fun _=>hl a5 (by simp)⟩
 have same:∀ l:List Int,l.length<50000→ref01_Same.f 60000 l l=some true:=fun l hl=>(jsame_eq 60000 l l (by omega) (by omega)).trans (congrArg some (decide_eq_true rfl))
 unfold law27_KemWorks.f
 refine works_core (c:=(a4.length:Int)>3000) (Z1:=fun p0 p1 p2 p3 p4=>kem_Sizes.f 60000 p0 p1 p2 p3 p4) (Z2:=fun p0 p1 p2 p3 p4=>ref27_Sizes.f 60000 p0 p1 p2 p3 p4) (K1:=fun p0 p1 p2 p3 p4=>kem_Keys.f 60000 p0 p1 p2 p3 p4 a2 a3) (K2:=fun p0 p1 p2 p3 p4=>ref27_Keys.f 60000 p0 p1 p2 p3 p4 a2 a3) (S1:=fun p0 p1 p2 p3 p4=>kem_Seal.f 60000 p0 p1 p2 p3 p4 a4 a5) (S2:=fun p0 p1 p2 p3 p4=>ref27_Seal.f 60000 p0 p1 p2 p3 p4 a4 a5) (Sm:=fun s t=>ref01_Same.f 60000 s t) awake27 hK hF (fun hf hc=>?_)
 obtain ⟨z,z1,z2⟩:=sizesBoth27 p0 p1 p2 p3 p4
 obtain ⟨k,k1,k2,l1,l2⟩:=keysBoth27 (a:=p0) (b:=p1) (c:=p2) (d:=p3) (e:=p4) (x:=a2) (y:=a3)
 have lf:=hl hf
 obtain ⟨s,s1,s2,l3,l4⟩:=sealBoth27 (a:=p0) (b:=p1) (c:=p2) (d:=p3) (e:=p4) (x:=a4) (y:=a5) ⟨by omega,h4⟩ ⟨by omega,h5⟩
 exact ⟨z,k,s,z1,z2,k1,k2,s1,s2,same _ l1,same _ l2,same _ (Nat.lt_trans l3.1 (by decide)),same _ (Nat.lt_trans l4.1 (by decide))⟩
end Go.Proofs.YtemdbgmldljbpaaGreatDoor.Pure
