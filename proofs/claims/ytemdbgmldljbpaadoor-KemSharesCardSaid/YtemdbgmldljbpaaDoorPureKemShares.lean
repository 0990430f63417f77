/- own -/
import Derived.Test.YtemdbgmldljbpaaDoorLKemShares
import Derived.Test.YtemdbgmldljbpaaDoorUm
import Derived.Test.YtemdbgmldljbpaaDoorJc
set_option linter.unusedSimpArgs false
set_option linter.unusedVariables false
set_option maxRecDepth 100000
namespace Go.Proofs.YtemdbgmldljbpaaDoor.Pure
open Go Go.Mx
section
variable {W : Option Bool} {Ki : Option (Int × Int × Int × Int × Int)} {Ke : Int → Int → Int → Int → Int → Option (List Int × List Int × Int)} {Se : Int → Int → Int → Int → Int → List Int → Option (List Int × List Int × Int)} {Op : Int → Int → Int → Int → Int → List Int → List Int → Option (List Int × Int)} {Sz : Int → Int → Int → Int → Int → Option (Int × Int × Int)} {De : Int → Int → Int → Int → Int → List Int → List Int → Option (List Int × Int)} {Sm : List Int → List Int → Option Bool} {rnd : List Int} {p0 p1 p2 p3 p4 : Int}
def sharesE (W:Option Bool) (Ki:Option (Int × Int × Int × Int × Int)) (Ke:Int→Int→Int→Int→Int→Option (List Int × List Int × Int)) (Se:Int→Int→Int→Int→Int→List Int→Option (List Int × List Int × Int)) (Op:Int→Int→Int→Int→Int→List Int→List Int→Option (List Int × Int)) (Sz:Int→Int→Int→Int→Int→Option (Int × Int × Int)) (De:Int→Int→Int→Int→Int→List Int→List Int→Option (List Int × Int)) (Sm:List Int→List Int→Option Bool) (rnd:List Int):Option Bool:=
 Ki.bind fun (r4_0,r4_1,r4_2,r4_3,r4_4)=>(Ke r4_0 r4_1 r4_2 r4_3 r4_4).bind fun (r6,r7,r8)=>if r8=0 then ((Se r4_0 r4_1 r4_2 r4_3 r4_4 r6).bind fun (r9,r10,r11)=>(Op r4_0 r4_1 r4_2 r4_3 r4_4 r7 r10).bind fun (r12,r13)=>if r11=0 then (if r13=0 then (if (r9.length:Int)=32 then (if (r12.length:Int)=32 then ((Sm r9 r12).bind fun r14=>if r14=true then (W.bind fun r15=>some r15) else ((Sz r4_0 r4_1 r4_2 r4_3 r4_4).bind fun (r16,r17,r18)=>if 0≤r17 then (if r17≤r7.length then ((De r4_0 r4_1 r4_2 r4_3 r4_4 (r7.take (r17:Int).toNat) r10).bind fun (r19,r20)=>(Sm r19 rnd).bind fun r21=>if r21=true then (some false) else (W.bind fun r22=>some r22)) else none) else none)) else (some false)) else (some false)) else (some false)) else (some false)) else (if r8=12 then (if (iadd .i64 (r6.length:Int) (r7.length:Int))=0 then (W.bind fun r23=>some r23) else (some false)) else (some false))
theorem shares_none (hW:W=some true) (hK:Ki=some (p0,p1,p2,p3,p4)) (hE:Ke p0 p1 p2 p3 p4=some ([],[],12)):sharesE W Ki Ke Se Op Sz De Sm rnd=some true:=by
 subst hW hK
 unfold sharesE
 simp only [Option.bind_some,hE]
 rfl
theorem shares_some {pk b s c t m sk:List Int}{x:Bool}{n:Nat}{q r em:Int}(hW:W=some true) (hK:Ki=some (p0,p1,p2,p3,p4)) (hE:Ke p0 p1 p2 p3 p4=some (pk,b,0)) (hS:Se p0 p1 p2 p3 p4 pk=some (s,c,0)) (hO:Op p0 p1 p2 p3 p4 b c=some (t,0)) (ls:s.length=32) (lt:t.length=32)
  (hm:Sm s t=some x) (hz:Sz p0 p1 p2 p3 p4=some (q,(n:Int),r)) (hn:n≤b.length) (hb:b.take n=sk) (hd:De p0 p1 p2 p3 p4 sk c=some (m,em)) (hx:x=false→Sm m rnd=some false):sharesE W Ki Ke Se Op Sz De Sm rnd=some true:=by
 subst hW hK
 have c1:((s.length:Nat):Int)=32:=by omega
 have c2:((t.length:Nat):Int)=32:=by omega
 have c3:(0:Int)≤(n:Int):=by omega
 have c4:(n:Int)≤((b.length:Nat):Int):=by omega
 unfold sharesE
 simp only [Option.bind_some,hE,hS,hO,c1,c2,hm,if_true]
 cases x with
 | true=>rfl
 | false=>
  have h:=hx rfl
  simp only [Bool.false_eq_true,if_false,hz,Option.bind_some,c3,c4,if_true,Int.toNat_natCast,hb,hd,h]
end
theorem KemShares:law27_KemShares.Pure:=by
 intro a0 h0 a1 h1 a2 h2 a3 h3
 refine ⟨60000,?_⟩
 obtain ⟨k,e1,e2,du,dv,hx,hk⟩:=kind27 a0 h0
 obtain ⟨k2,k4,_,d2,_,v2⟩:=hx.bd
 have hb1:du*k≤11*4:=Nat.mul_le_mul (by omega) k4
 have l1:(lA a1).length=32:=lA_len a1
 have l2:(lA a2).length=32:=lA_len a2
 have l3:(lA a3).length=32:=lA_len a3
 have b2:=jbyt_lA h2
 have b3:=jbyt_lA h3
 obtain ⟨kn,ks⟩:=kemKeys hx (d:=lA a1) (z:=lA a2) l1 l2
 have ea:law27_KemShares.f 60000 a0 a1 a2 a3=sharesE (law27_awake.f 60000) (law27_kind.f 60000 (irem .u8 a0 3) 0 0 0 0 0) (fun p0 p1 p2 p3 p4=>kem_Keys.f 60000 p0 p1 p2 p3 p4 (lA a1) (lA a2)) (fun p0 p1 p2 p3 p4 pk=>kem_Seal.f 60000 p0 p1 p2 p3 p4 pk (lA a3)) (fun p0 p1 p2 p3 p4 b c=>kem_Open.f 60000 p0 p1 p2 p3 p4 b c) (fun p0 p1 p2 p3 p4=>ref26_Sizes.f 60000 p0 p1 p2 p3 p4) (fun p0 p1 p2 p3 p4 s c=>ref26_Decrypt.f 60000 p0 p1 p2 p3 p4 s c) (fun s t=>ref01_Same.f 60000 s t) (lA a3):=by
  unfold law27_KemShares.f sharesE
  rw [jsub_lA a1,jsub_lA a2,jsub_lA a3]
 rw [ea]
 obtain ⟨o,hM⟩ : ∃ o,matF (pt (rhoV (lA a1) k)) k k 0 []=o:=⟨_,rfl⟩
 cases o with
 | none=>exact shares_none awake27 hk (kn hM)
 | some M=>
  have hE:=ks M hM
  obtain ⟨E,hS,hO,_⟩:=kemAll hx (d:=lA a1) (z:=lA a2) l2 b2 hM
  obtain ⟨lh,bh⟩:=hV_len (pkS (lA a1) k e1 M)
  obtain ⟨lp,bp⟩:=pkS_len (lA a1) k e1 M
  obtain ⟨ls,bs⟩:=skS_len (lA a1) k e1
  obtain ⟨s1,s2,s3⟩:=hS (lA a3) b3 l3
  generalize hV (pkS (lA a1) k e1 M)=h at lh bh hE hO s1 s2 s3
  have o1:=hO _ s3 s2
  have dd:=rDecryptG hx bs ls (skS_rd (lA a1) k e1) (sK_fit (lA a1) k e1) (sK_len (lA a1) k e1) s3 s2
  generalize hc:E (lA a3) ((dV (lA a3) h).drop 32)=c at s1 s2 s3 o1 dd
  have ld:=decV_len (k:=k) (du:=du) (dv:=dv) (sK (lA a1) k e1) c
  generalize decV (sK (lA a1) k e1) c k du dv=m at o1 dd ld
  obtain ⟨g1,_⟩:=dV_len (lA a3) h
  obtain ⟨g2,_⟩:=dV_len m h
  obtain ⟨g3,_⟩:=oV_len (lA a2) c
  have sz:ref26_Sizes.f 60000 (k:Int) (e1:Int) (e2:Int) (du:Int) (dv:Int)=some (((384*k+32:Nat):Int),((384*k:Nat):Int),((32*(du*k+dv):Nat):Int)):=(sizes_same _ _ _ _ _ _).trans hx.sizes
  have lt:(if decide (E m ((dV m h).drop 32)=c)=true then (dV m h).take 32 else oV (lA a2) c).length=32:=by
   split
   ·rw [List.length_take]; omega
   ·exact g3
  have lsec:((dV (lA a3) h).take 32).length=32:=by rw [List.length_take]; omega
  refine shares_some awake27 hk hE s1 o1 lsec lt (jsame_eq 60000 _ _ (by omega) (by omega)) sz (by simp only [List.length_append]; omega) (by rw [← ls,List.take_left]) dd (fun hx=>?_)
  rw [jsame_eq 60000 m (lA a3) (by omega) (by omega)]
  refine congrArg some (decide_eq_false (fun e=>?_))
  subst e
  rw [if_pos (decide_eq_true hc),decide_eq_true rfl] at hx
  cases hx
end Go.Proofs.YtemdbgmldljbpaaDoor.Pure
