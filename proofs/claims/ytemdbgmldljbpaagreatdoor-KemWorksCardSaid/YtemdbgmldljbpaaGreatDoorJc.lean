/- own -/
import Derived.Test.YtemdbgmldljbpaaGreatDoorUg
set_option linter.unusedSimpArgs false
set_option linter.unusedVariables false
set_option maxRecDepth 100000
namespace Go.Proofs.YtemdbgmldljbpaaGreatDoor
open Go Go.Mx
theorem jsame_l0 (K:Nat) (a b:List Int) (hl:a.length=b.length) (ha:a.length≤1000000):∀ (r i k:Nat),i+r=a.length→r<k→ref01_Same.l0 K k a b (i:Int)=some (if a.drop i=b.drop i then .inl () else .inr false):=by
 intro r
 induction r with
 | zero=>
  intro i k hi hk
  obtain ⟨k,rfl⟩ : ∃ m,k=m+1:=⟨k-1,by omega⟩
  have c:¬ (i:Int)<(a.length:Int):=by omega
  simp only [ref01_Same.l0,c,if_false]
  rw [List.drop_of_length_le (by omega),List.drop_of_length_le (by omega),if_pos rfl]
 | succ r ih=>
  intro i k hi hk
  obtain ⟨k,rfl⟩ : ∃ m,k=m+1:=⟨k-1,by omega⟩
  have hia:i<a.length:=by omega
  have hib:i<b.length:=by omega
  have c:(i:Int)<(a.length:Int):=by omega
  have c':(i:Int)<(b.length:Int):=by omega
  have c0:(0:Int)≤(i:Int):=by omega
  have e4:iadd .i64 (i:Int) 1=((i+1:Nat):Int):=by rw [add64 (by omega) (by omega)]; omega
  have ra:rdL (CI .u8) a (i:Int)=a[i]:=by unfold rdL; rw [Int.toNat_natCast,List.getD_eq_getElem?_getD,List.getElem?_eq_getElem hia]; rfl
  have rb':rdL (CI .u8) b (i:Int)=b[i]:=by unfold rdL; rw [Int.toNat_natCast,List.getD_eq_getElem?_getD,List.getElem?_eq_getElem hib]; rfl
  rw [List.drop_eq_getElem_cons hia,List.drop_eq_getElem_cons hib]
  by_cases he:a[i]=b[i]
  ·simp only [ref01_Same.l0,c,c',c0,if_true,ra,rb',he,Option.bind_some,e4]
   rw [ih (i+1) k (by omega) (by omega)]
   by_cases ht:a.drop (i+1)=b.drop (i+1)
   ·rw [if_pos ht,if_pos (by rw [ht])]
   ·rw [if_neg ht,if_neg (fun h=>ht (List.cons.inj h).2)]
  ·simp only [ref01_Same.l0,c,c',c0,if_true,ra,rb',he,if_false]
   rw [if_neg (fun h=>he (List.cons.inj h).1)]
theorem jsame_eq (K:Nat) (a b:List Int) (ha:a.length≤1000000) (hK:a.length<K):ref01_Same.f K a b=some (decide (a=b)):=by
 unfold ref01_Same.f
 by_cases hl:a.length=b.length
 ·have:=jsame_l0 K a b hl ha a.length 0 K (by omega) hK
  rw [List.drop_zero,List.drop_zero] at this
  have h0:((0:Nat):Int)=0:=rfl
  rw [h0] at this
  rw [if_pos (by omega),this,Option.bind_some]
  by_cases he:a=b
  ·rw [if_pos he,decide_eq_true he]
  ·rw [if_neg he,decide_eq_false he]
 ·rw [if_neg (by omega),decide_eq_false (fun h=>hl (by rw [h]))]
theorem sumVg {kind:Int}(h:rateN kind≠0) (b:List Int) {n:Nat}(hn:n≤14000):(sumV kind b (n:Int)).1.length=n∧Byt (sumV kind b (n:Int)).1:=by
 unfold sumV
 rw [if_neg h,if_neg (by omega),if_neg (by omega)]
 exact ⟨by rw [sqv_len]; exact Int.toNat_natCast n,sqv_byt _ _ _ _⟩
def hV (b:List Int):List Int:=(sumV 4 b 32).1
theorem hV_len (b:List Int):(hV b).length=32∧Byt (hV b):=sumVg (kind:=4) (by decide) b (n:=32) (by decide)
def dV (m h:List Int):List Int:=(sumV 5 (m++h) 64).1
theorem dV_len (m h:List Int):(dV m h).length=64∧Byt (dV m h):=sumVg (kind:=5) (by decide) (m++h) (n:=64) (by decide)
theorem jDigest {b:List Int}(h:b.length≤14000):kem_digest.f 60000 b=some (hV b):=by
 have s:=kSum 4 b h 32 (.inl (by decide))
 unfold kem_digest.f
 rw [s]
 rfl
theorem jJoin2 {a b:List Int}(h:a.length+b.length<100000):bits_Join.f 60000 [a,b]=some (a++b):=by
 have jn:=gJoinW 60000 (W:=[a,b]) (by show 2<60000; decide) (by show 2<100000; decide) (by simp; omega)
 rw [show ([a,b]:List (List Int)).flatten=a++b by simp] at jn
 exact jn
theorem jJoin4 {a b c d:List Int}(h:a.length+(b.length+(c.length+d.length))<100000):bits_Join.f 60000 [a,b,c,d]=some (a++(b++(c++d))):=by
 have jn:=gJoinW 60000 (W:=[a,b,c,d]) (by show 4<60000; decide) (by show 4<100000; decide) (by simp; omega)
 rw [show ([a,b,c,d]:List (List Int)).flatten=a++(b++(c++d)) by simp] at jn
 exact jn
theorem jSizes {k e1 e2 du dv:Nat}(hx:KX k e1 e2 du dv):kem_Sizes.f 60000 (k:Int) (e1:Int) (e2:Int) (du:Int) (dv:Int)=some (((384*k+32:Nat):Int),((384*k+(384*k+32)+64:Nat):Int),((32*(du*k+dv):Nat):Int)):=by
 obtain ⟨k2,k4,_⟩:=hx.bd
 have c:¬ ((384*k+32:Nat):Int)=0:=by omega
 have e:iadd .i64 (iadd .i64 ((384*k:Nat):Int) ((384*k+32:Nat):Int)) 64=((384*k+(384*k+32)+64:Nat):Int):=by
  rw [add64 (x:=((384*k:Nat):Int)) (by omega) (by omega),add64 (by omega) (by omega)]
  omega
 unfold kem_Sizes.f
 rw [hx.sizes]
 simp only [Option.bind_some,c,if_false,e]
end Go.Proofs.YtemdbgmldljbpaaGreatDoor

/- own -/
set_option linter.unusedSimpArgs false
set_option linter.unusedVariables false
set_option maxRecDepth 100000
namespace Go.Proofs.YtemdbgmldljbpaaGreatDoor
open Go Go.Mx
def sealE (Sz:Option (Int × Int × Int)) (Go:List Int→Option Bool) (Di:List Int→Option (List Int)) (J2:List Int→List Int→Option (List Int)) (S5:List Int→Option (List Int × Int)) (En:List Int→List Int→List Int→Option (List Int × Int)) (a1 a2:List Int):Option (List Int × List Int × Int):=
 Sz.bind fun (r2,r3,r4)=>if r2=0 then (some (([]:List Int),([]:List Int),9)) else ((Go a1).bind fun r5=>if r5=true then (if (a2.length:Int)=32 then ((Di a1).bind fun r6=>(J2 a2 r6).bind fun r8=>(S5 r8).bind fun (r9,r10)=>if 0≤(0:Int) then (if (0:Int)≤(32:Int) then (if (32:Int)≤(32:Int) then (if (32:Int)≤r9.length then (if 0≤(32:Int) then (if (32:Int)≤(r9.length:Int) then (if (r9.length:Int)≤r9.length then ((En a1 a2 (subL r9 32 (r9.length:Int))).bind fun (r13,r14)=>if r14=0 then (some ((subL r9 0 32),r13,0)) else (some (([]:List Int),([]:List Int),r14))) else none) else none) else none) else none) else none) else none) else none) else (some (([]:List Int),([]:List Int),14))) else (some (([]:List Int),([]:List Int),10)))
def keysE (Sz:Option (Int × Int × Int)) (Ke:Option (List Int × List Int × Int)) (Di:List Int→Option (List Int)) (J4:List Int→List Int→List Int→List Int→Option (List Int)) (a1 a2:List Int):Option (List Int × List Int × Int):=
 Sz.bind fun (r2,r3,r4)=>if r2=0 then (some (([]:List Int),([]:List Int),9)) else (if (a1.length:Int)=32 then (if (a2.length:Int)=32 then (Ke.bind fun (r5,r6,r7)=>if r7=0 then ((Di r5).bind fun r8=>(J4 r6 r5 r8 a2).bind fun r10=>some (r5,r10,0)) else (some (([]:List Int),([]:List Int),r7))) else (some (([]:List Int),([]:List Int),14))) else (some (([]:List Int),([]:List Int),14)))
section
variable {Sz : Option (Int × Int × Int)} {De : List Int → List Int → Option (List Int × Int)} {Go : List Int → Option Bool} {Di : List Int → Option (List Int)} {Sm : List Int → List Int → Option Bool} {J2 J3 : List Int → List Int → Option (List Int)} {S5 S7 : List Int → Option (List Int × Int)} {En : List Int → List Int → List Int → Option (List Int × Int)} {J4 : List Int → List Int → List Int → List Int → Option (List Int)} {Ke : Option (List Int × List Int × Int)} {a1 a2 sk pk th z : List Int} {p n c : Nat}
end
end Go.Proofs.YtemdbgmldljbpaaGreatDoor

/- own -/
set_option linter.unusedSimpArgs false
set_option linter.unusedVariables false
set_option maxRecDepth 100000
namespace Go.Proofs.YtemdbgmldljbpaaGreatDoor
open Go Go.Mx
theorem jSeal_E (a b c d e:Int) (x y:List Int):kem_Seal.f 60000 a b c d e x y=sealE (kem_Sizes.f 60000 a b c d e) (fun s=>kem_good.f 60000 a b c d e s) (fun s=>kem_digest.f 60000 s) (fun s t=>bits_Join.f 60000 [s,t]) (fun s=>keccak_Sum.f 60000 5 s 64) (fun s t u=>kpke_Encrypt.f 60000 a b c d e s t u) x y:=by
 unfold kem_Seal.f sealE
 rfl
theorem jKeys_E (a b c d e:Int) (x y:List Int):kem_Keys.f 60000 a b c d e x y=keysE (kem_Sizes.f 60000 a b c d e) (kpke_Keys.f 60000 a b c d e x) (fun s=>kem_digest.f 60000 s) (fun s t u v=>bits_Join.f 60000 [s,t,u,v]) x y:=by
 unfold kem_Keys.f keysE
 rfl
theorem jSum5 {m h:List Int}(hl:m.length+h.length≤14000):keccak_Sum.f 60000 5 (m++h) 64=some (dV m h,(sumV 5 (m++h) 64).2):=kSum 5 (m++h) (by rw [List.length_append]; exact hl) 64 (.inl (by decide))
theorem awake27:law27_awake.f 60000=some true:=by decide +kernel
end Go.Proofs.YtemdbgmldljbpaaGreatDoor
