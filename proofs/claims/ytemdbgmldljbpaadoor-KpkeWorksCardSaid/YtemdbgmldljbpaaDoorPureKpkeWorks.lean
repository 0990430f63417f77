/- own -/
import Derived.Test.YtemdbgmldljbpaaDoorLKpkeWorks
import Derived.Test.YtemdbgmldljbpaaDoorUm
set_option linter.unusedSimpArgs false
set_option linter.unusedVariables false
set_option maxRecDepth 100000
namespace Go.Proofs.YtemdbgmldljbpaaDoor.Pure
open Go Go.Mx
theorem set_some2 (K:Nat) (k:Int):∃ s,ref26_Set.f K k=some s:=by
 rw [set_same]
 unfold kpke_Set.f
 by_cases h1:k=512
 ·rw [if_pos h1]; exact ⟨_,rfl⟩
 ·rw [if_neg h1]
  by_cases h2:k=768
  ·rw [if_pos h2]; exact ⟨_,rfl⟩
  ·rw [if_neg h2]
   by_cases h3:k=1024
   ·rw [if_pos h3]; exact ⟨_,rfl⟩
   ·rw [if_neg h3]; exact ⟨_,rfl⟩
theorem kind_core {S:Option (Int × Int × Int × Int × Int × Bool)}{s:Int × Int × Int × Int × Int × Bool}(hs:S=some s) (a b c d e:Int):∃ p0 p1 p2 p3 p4,(S.bind fun (r5_0,r5_1,r5_2,r5_3,r5_4,r6)=>if r6=true then (some (r5_0,r5_1,r5_2,r5_3,r5_4)) else (some (a,b,c,d,e)))=some (p0,p1,p2,p3,p4):=by
 subst hs
 obtain ⟨q0,q1,q2,q3,q4,q5⟩:=s
 cases q5
 ·exact ⟨a,b,c,d,e,rfl⟩
 ·exact ⟨q0,q1,q2,q3,q4,rfl⟩
theorem kind_any {a0:Int}(h:InR .u8 a0) (a b c d e:Int):∃ p0 p1 p2 p3 p4,law26_kind.f 60000 a0 a b c d e=some (p0,p1,p2,p3,p4):=by
 have h0:0≤a0∧a0≤255:=h
 have er:irem .u8 a0 4=a0%4:=by unfold irem; rw [tmodN h0.1]
 have c0:0≤a0%4:=by omega
 have c1:a0%4<((([512,768,1024,0]:List Int).length:Nat):Int):=by show a0%4<4; omega
 obtain ⟨s,hs⟩:=set_some2 60000 (rdL (CI .i64) ([512,768,1024,0]:List Int) (a0%4))
 have core:=kind_core hs a b c d e
 unfold law26_kind.f
 rw [er,Option.bind_some,if_pos c0,if_pos c1]
 exact core
theorem works_core {W F:Option Bool}{Ki:Option (Int × Int × Int × Int × Int)}{c:Prop}[Decidable c] {Ke1 Ke2:Int→Int→Int→Int→Int→Option (List Int × List Int × Int)}{En1 En2 De1 De2:Int→Int→Int→Int→Int→Option (List Int × Int)}{Sm:List Int→List Int→Option Bool}{p0 p1 p2 p3 p4:Int}{b:Bool}{k:List Int × List Int × Int}{e d:List Int × Int}
  (hW:W=some true) (hF:F=some b) (hK:Ki=some (p0,p1,p2,p3,p4)) (hk1:Ke1 p0 p1 p2 p3 p4=some k) (hk2:Ke2 p0 p1 p2 p3 p4=some k) (he1:En1 p0 p1 p2 p3 p4=some e) (he2:En2 p0 p1 p2 p3 p4=some e) (hd1:De1 p0 p1 p2 p3 p4=some d) (hd2:De2 p0 p1 p2 p3 p4=some d)
  (l1:k.1.length<50000) (l2:k.2.1.length<50000) (l3:e.1.length<50000) (l4:d.1.length<50000) (hS:∀ l:List Int,l.length<50000→Sm l l=some true) :
  (Ki.bind fun (r2_0,r2_1,r2_2,r2_3,r2_4)=>F.bind fun r4=>if r4=true then (if c then (W.bind fun r5=>some r5) else ((Ke1 r2_0 r2_1 r2_2 r2_3 r2_4).bind fun (r6,r7,r8)=>(Ke2 r2_0 r2_1 r2_2 r2_3 r2_4).bind fun (r9,r10,r11)=>(En1 r2_0 r2_1 r2_2 r2_3 r2_4).bind fun (r12,r13)=>(En2 r2_0 r2_1 r2_2 r2_3 r2_4).bind fun (r14,r15)=>(De1 r2_0 r2_1 r2_2 r2_3 r2_4).bind fun (r16,r17)=>(De2 r2_0 r2_1 r2_2 r2_3 r2_4).bind fun (r18,r19)=>(Sm r6 r9).bind fun r20=>if r20=true then ((Sm r7 r10).bind fun r21=>if r21=true then (if r8=r11 then ((Sm r12 r14).bind fun r22=>if r22=true then (if r13=r15 then ((Sm r16 r18).bind fun r23=>if r23=true then (if r17=r19 then (W.bind fun r24=>some r24) else (some false)) else (some false)) else (some false)) else (some false)) else (some false)) else (some false)) else (some false))) else (W.bind fun r25=>some r25))=some true:=by
 subst hW hF hK
 obtain ⟨k0,k1,k2⟩:=k
 obtain ⟨e0,e1⟩:=e
 obtain ⟨d0,d1⟩:=d
 have s1:=hS k0 l1
 have s2:=hS k1 l2
 have s3:=hS e0 l3
 have s4:=hS d0 l4
 cases b with
 | false=>rfl
 | true=>
  simp only [Option.bind_some,if_true]
  by_cases hc:c
  ·rw [if_pos hc]
  ·rw [if_neg hc]
   simp only [hk1,hk2,he1,he2,hd1,hd2,s1,s2,s3,s4,if_true,Option.bind_some]
theorem KpkeWorks:law26_KpkeWorks.Pure:=by
 intro a0 h0 a b c d e _ _ _ _ _ a2 h2 a3 h3 a4 h4 a5 h5 a6 h6 a7 h7
 refine ⟨60000,?_⟩
 obtain ⟨p0,p1,p2,p3,p4,hK⟩:=kind_any h0 a b c d e
 obtain ⟨f,hF⟩ : ∃ f,law26_few.f 60000 [a2,a5,a6]=some f:=by
  rcases few26 (W:=[a2,a5,a6]) (show 3<900 by decide) with h | ⟨h,_⟩
  ·exact ⟨_,h⟩
  ·exact ⟨_,h⟩
 obtain ⟨k,k1,k2,l1,l2⟩:=keysBoth2 (a:=p0) (b:=p1) (c:=p2) (d:=p3) (e:=p4) (seed:=a2)
 obtain ⟨en,e1,e2,l3⟩:=encBoth (a:=p0) (b:=p1) (c:=p2) (d:=p3) (e:=p4) (pk:=a3) (m:=a5) (rnd:=a6) h3 h5
 obtain ⟨de,d1,d2,l4⟩:=decBoth (a:=p0) (b:=p1) (c:=p2) (d:=p3) (e:=p4) (sk:=a4) (x:=a7) h4 h7
 have hS:∀ l:List Int,l.length<50000→ref01_Same.f 60000 l l=some true:=fun l hl=>ref01_Same_self 60000 l (by omega) (by omega)
 have core:=works_core (c:=iadd .i64 (iadd .i64 (a3.length:Int) (a4.length:Int)) (a7.length:Int)>6000) (Ke1:=fun r0 r1 r2 r3 r4=>kpke_Keys.f 60000 r0 r1 r2 r3 r4 a2) (Ke2:=fun r0 r1 r2 r3 r4=>ref26_Keys.f 60000 r0 r1 r2 r3 r4 a2) (En1:=fun r0 r1 r2 r3 r4=>kpke_Encrypt.f 60000 r0 r1 r2 r3 r4 a3 a5 a6) (En2:=fun r0 r1 r2 r3 r4=>ref26_Encrypt.f 60000 r0 r1 r2 r3 r4 a3 a5 a6) (De1:=fun r0 r1 r2 r3 r4=>kpke_Decrypt.f 60000 r0 r1 r2 r3 r4 a4 a7) (De2:=fun r0 r1 r2 r3 r4=>ref26_Decrypt.f 60000 r0 r1 r2 r3 r4 a4 a7) (Sm:=ref01_Same.f 60000)
  awake26 hF hK k1 k2 e1 e2 d1 d2 l1 l2 l3 l4 hS
 unfold law26_KpkeWorks.f
 exact core
end Go.Proofs.YtemdbgmldljbpaaDoor.Pure
