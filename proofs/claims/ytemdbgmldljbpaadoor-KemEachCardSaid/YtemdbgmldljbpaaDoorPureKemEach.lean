/- own -/
import Derived.Test.YtemdbgmldljbpaaDoorLKemEach
import Derived.Test.YtemdbgmldljbpaaDoorJc
set_option linter.unusedSimpArgs false
set_option linter.unusedVariables false
set_option maxRecDepth 100000
namespace Go.Proofs.YtemdbgmldljbpaaDoor.Pure
open Go Go.Mx
section
variable {W : Option Bool} {Ki : Option (Int × Int × Int × Int × Int)} {Ke : Int → Int → Int → Int → Int → Option (List Int × List Int × Int)} {Op : Int → Int → Int → Int → Int → List Int → List Int → Option (List Int × Int)} {Sz : Int → Int → Int → Int → Int → Option (Int × Int × Int)} {Sm : List Int → List Int → Option Bool} {a3 : List Int} {p0 p1 p2 p3 p4 : Int}
def eachE (W:Option Bool) (Ki:Option (Int × Int × Int × Int × Int)) (Ke:Int→Int→Int→Int→Int→Option (List Int × List Int × Int)) (Op:Int→Int→Int→Int→Int→List Int→List Int→Option (List Int × Int)) (Sz:Int→Int→Int→Int→Int→Option (Int × Int × Int)) (Sm:List Int→List Int→Option Bool) (a3:List Int):Option Bool:=
 Ki.bind fun (r3_0,r3_1,r3_2,r3_3,r3_4)=>if (a3.length:Int)>2000 then (W.bind fun r5=>some r5) else ((Ke r3_0 r3_1 r3_2 r3_3 r3_4).bind fun (r6,r7,r8)=>if r8=0 then ((Sz r3_0 r3_1 r3_2 r3_3 r3_4).bind fun (r9,r10,r11)=>if r11<1 then (some false) else (if 0≤r11 then (if r11≤140737488355328 then (if 0<(List.replicate (r11:Int).toNat (Cod.zero (CI .u8))).length then ((Op r3_0 r3_1 r3_2 r3_3 r3_4 r7 (cpL (List.replicate (r11:Int).toNat (Cod.zero (CI .u8))) a3)).bind fun (r13,r14)=>(Op r3_0 r3_1 r3_2 r3_3 r3_4 r7 (cpL (List.replicate (r11:Int).toNat (Cod.zero (CI .u8))) a3)).bind fun (r15,r16)=>if 0≤(1:Int) then (if (1:Int)≤((cpL (List.replicate (r11:Int).toNat (Cod.zero (CI .u8))) a3).length:Int) then (if ((cpL (List.replicate (r11:Int).toNat (Cod.zero (CI .u8))) a3).length:Int)≤(cpL (List.replicate (r11:Int).toNat (Cod.zero (CI .u8))) a3).length then ((Op r3_0 r3_1 r3_2 r3_3 r3_4 r7 (subL (cpL (List.replicate (r11:Int).toNat (Cod.zero (CI .u8))) a3) 1 ((cpL (List.replicate (r11:Int).toNat (Cod.zero (CI .u8))) a3).length:Int))).bind fun (r18,r19)=>if r14=0 then (if r16=0 then (if (r13.length:Int)=32 then ((Sm r13 r15).bind fun r20=>if r20=true then (if r19=14 then (W.bind fun r21=>some r21) else (some false)) else (some false)) else (some false)) else (some false)) else (some false)) else none) else none) else none) else none) else none) else none)) else (if r8=12 then (W.bind fun r22=>some r22) else (some false)))
theorem each_none (hW:W=some true) (hK:Ki=some (p0,p1,p2,p3,p4)) (hE:Ke p0 p1 p2 p3 p4=some ([],[],12)):eachE W Ki Ke Op Sz Sm a3=some true:=by
 subst hW hK
 unfold eachE
 simp only [Option.bind_some,hE]
 by_cases h:(a3.length:Int)>2000
 ·rw [if_pos h]
 ·rw [if_neg h]
  rfl
theorem each_some {pk b t:List Int}{n:Nat}{q r:Int}(hW:W=some true) (hK:Ki=some (p0,p1,p2,p3,p4)) (hE:Ke p0 p1 p2 p3 p4=some (pk,b,0)) (hz:Sz p0 p1 p2 p3 p4=some (q,r,(n:Int))) (hn:1≤n) (hn2:n≤100000) (hO:∀ c,c=cpL (List.replicate n (0:Int)) a3→Op p0 p1 p2 p3 p4 b c=some (t,0)) (lt:t.length=32) (hm:Sm t t=some true) (h14:∀ c:List Int,c.length≠n→Op p0 p1 p2 p3 p4 b c=some ([],14)):eachE W Ki Ke Op Sz Sm a3=some true:=by
 subst hW hK
 have e0:(Cod.zero (CI .u8):Int)=0:=rfl
 have c1:¬ (n:Int)<1:=by omega
 have c2:(0:Int)≤(n:Int):=by omega
 have c3:(n:Int)≤140737488355328:=by omega
 have c4:0<(List.replicate n (0:Int)).length:=by rw [List.length_replicate]; omega
 have lc:(cpL (List.replicate n (0:Int)) a3).length=n:=by rw [cpL_len,List.length_replicate]
 have o1:=hO _ rfl
 unfold eachE
 simp only [Option.bind_some,hE,hz,e0,Int.toNat_natCast,c1,c2,c3,c4,if_true,if_false,o1]
 have o2:=h14 (subL (cpL (List.replicate n (0:Int)) a3) 1 (((cpL (List.replicate n (0:Int)) a3).length:Nat):Int)) (by
  have:=g_sub (cpL (List.replicate n (0:Int)) a3) 1 (cpL (List.replicate n (0:Int)) a3).length
  rw [List.take_length] at this
  have e:subL (cpL (List.replicate n (0:Int)) a3) 1 (((cpL (List.replicate n (0:Int)) a3).length:Nat):Int)=(cpL (List.replicate n (0:Int)) a3).drop 1:=this
  rw [e,List.length_drop,lc]
  omega)
 rw [lc] at o2
 have c5:(0:Int)≤1:=by decide
 have c6:(1:Int)≤(n:Int):=by omega
 have c7:(n:Int)≤(n:Int):=Int.le_refl _
 have c8:((t.length:Nat):Int)=32:=by omega
 simp only [lc,c5,c6,c7,c8,o2,hm,if_true,Option.bind_some]
 by_cases h:(a3.length:Int)>2000
 ·rw [if_pos h]
 ·rw [if_neg h]
end
theorem KemEach:law27_KemEach.Pure:=by
 intro a0 h0 a1 h1 a2 h2 a3 h3
 refine ⟨60000,?_⟩
 obtain ⟨k,e1,e2,du,dv,hx,hk⟩:=kind27 a0 h0
 obtain ⟨k2,k4,d1,d2,v1,v2⟩:=hx.bd
 have hb1:du*k≤11*4:=Nat.mul_le_mul (by omega) k4
 have l1:(lA a1).length=32:=lA_len a1
 have l2:(lA a2).length=32:=lA_len a2
 have b2:=jbyt_lA h2
 obtain ⟨kn,ks⟩:=kemKeys hx (d:=lA a1) (z:=lA a2) l1 l2
 have ea:law27_KemEach.f 60000 a0 a1 a2 a3=eachE (law27_awake.f 60000) (law27_kind.f 60000 (irem .u8 a0 3) 0 0 0 0 0) (fun p0 p1 p2 p3 p4=>kem_Keys.f 60000 p0 p1 p2 p3 p4 (lA a1) (lA a2)) (fun p0 p1 p2 p3 p4 b c=>kem_Open.f 60000 p0 p1 p2 p3 p4 b c) (fun p0 p1 p2 p3 p4=>kem_Sizes.f 60000 p0 p1 p2 p3 p4) (fun s t=>ref01_Same.f 60000 s t) a3:=by
  unfold law27_KemEach.f eachE
  rw [jsub_lA a1,jsub_lA a2]
 rw [ea]
 obtain ⟨o,hM⟩ : ∃ o,matF (pt (rhoV (lA a1) k)) k k 0 []=o:=⟨_,rfl⟩
 cases o with
 | none=>exact each_none awake27 hk (kn hM)
 | some M=>
  have hE:=ks M hM
  obtain ⟨E,_,hO,h14⟩:=kemAll hx (d:=lA a1) (z:=lA a2) l2 b2 hM
  have lc:(cpL (List.replicate (32*(du*k+dv)) (0:Int)) a3).length=32*(du*k+dv):=by rw [cpL_len,List.length_replicate]
  have bc:Byt (cpL (List.replicate (32*(du*k+dv)) (0:Int)) a3):=fun x hx=>by
   rcases List.mem_append.1 hx with h | h
   ·exact h3 x (List.mem_of_mem_take h)
   ·have:=List.eq_of_mem_replicate (List.mem_of_mem_drop h)
    subst this
    decide
  have o1:=hO _ bc lc
  generalize hV (pkS (lA a1) k e1 M)=h at hE h14 o1
  generalize decV (sK (lA a1) k e1) (cpL (List.replicate (32*(du*k+dv)) (0:Int)) a3) k du dv=m at o1
  obtain ⟨g2,_⟩:=dV_len m h
  obtain ⟨g3,_⟩:=oV_len (lA a2) (cpL (List.replicate (32*(du*k+dv)) (0:Int)) a3)
  have lt:(if decide (E m ((dV m h).drop 32)=cpL (List.replicate (32*(du*k+dv)) (0:Int)) a3)=true then (dV m h).take 32 else oV (lA a2) (cpL (List.replicate (32*(du*k+dv)) (0:Int)) a3)).length=32:=by
   split
   ·rw [List.length_take]; omega
   ·exact g3
  refine each_some awake27 hk hE (jSizes hx) (by omega) (by omega) (fun c hc=>?_) lt ?_ h14
  ·subst hc
   exact o1
  ·rw [jsame_eq 60000 _ _ (by omega) (by omega),decide_eq_true rfl]
end Go.Proofs.YtemdbgmldljbpaaDoor.Pure
