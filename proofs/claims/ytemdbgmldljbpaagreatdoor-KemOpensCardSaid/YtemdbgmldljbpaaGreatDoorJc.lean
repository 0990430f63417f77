/- own -/
import Derived.Test.YtemdbgmldljbpaaGreatDoorUg
set_option linter.unusedSimpArgs false
set_option linter.unusedVariables false
set_option maxRecDepth 100000
namespace Go.Proofs.YtemdbgmldljbpaaGreatDoor
open Go Go.Mx
theorem jXor0 {x y:Nat} : x ^^^ y=0↔x=y:=by
 constructor
 ·intro h
  have h2:(x ^^^ y) ^^^ y=0 ^^^ y:=by rw [h]
  rwa [Nat.xor_assoc,Nat.xor_self,Nat.xor_zero,Nat.zero_xor] at h2
 ·rintro rfl
  exact Nat.xor_self x
theorem jSame_l0 {a b:List Int}(ha:InL .u8 a) (hb:InL .u8 b) (hl:a.length=b.length) (hs:a.length<100000):∀ (m i k z:Nat),i+m=a.length→m<k→z<256 →
  ∃ w:Nat,bits_Same.l0 60000 k a b (z:Int) (i:Int)=some (w:Int)∧(w=0↔z=0∧a.drop i=b.drop i):=by
 intro m
 induction m with
 | zero=>
  intro i k z hi hk hz
  obtain ⟨k,rfl⟩ : ∃ q,k=q+1:=⟨k-1,by omega⟩
  have c:¬ (i:Int)<((a.length:Nat):Int):=by omega
  refine ⟨z,by simp only [bits_Same.l0,c,if_false],?_⟩
  rw [List.drop_of_length_le (show a.length≤i by omega),List.drop_of_length_le (show b.length≤i by omega)]
  simp
 | succ m ih=>
  intro i k z hi hk hz
  obtain ⟨k,rfl⟩ : ∃ q,k=q+1:=⟨k-1,by omega⟩
  have hia:i<a.length:=by omega
  have hib:i<b.length:=by omega
  have c0:(i:Int)<((a.length:Nat):Int):=by omega
  have c1:(0:Int)≤(i:Int):=by omega
  have c3:(i:Int)<((b.length:Nat):Int):=by omega
  obtain ⟨x,hx,hx2⟩:=byte_nat ha (List.getElem_mem hia)
  obtain ⟨y,hy,hy2⟩:=byte_nat hb (List.getElem_mem hib)
  have hxy:=Nat.xor_lt_two_pow (n:=8) (x:=x) (y:=y) (by omega) (by omega)
  have e1:ior .u8 (z:Int) (ixor .u8 (x:Int) (y:Int))=((z ||| (x ^^^ y):Nat):Int):=by
   rw [ixor_nat (k:=.u8) (show x<2^8 by omega) (show y<2^8 by omega),ior_nat (k:=.u8) (show z<2^8 by omega) hxy]
  have hw:=Nat.or_lt_two_pow (n:=8) (x:=z) (y:=x ^^^ y) (by omega) hxy
  obtain ⟨w,h1,h2⟩:=ih (i+1) k (z ||| (x ^^^ y)) (by omega) (by omega) (by omega)
  refine ⟨w,?_,?_⟩
  ·simp only [bits_Same.l0,c0,c1,c3,rdL_get hia,rdL_get hib,hx,hy,e1,if_true,Option.bind_some,ginc (i:=i) (by omega)]
   exact h1
  ·rw [h2,Nat.or_eq_zero_iff,jXor0,List.drop_eq_getElem_cons hia,List.drop_eq_getElem_cons hib,hx,hy,List.cons.injEq]
   constructor
   ·rintro ⟨⟨q1,q2⟩,q3⟩
    exact ⟨q1,by rw [q2],q3⟩
   ·rintro ⟨q1,q2,q3⟩
    exact ⟨⟨q1,by omega⟩,q3⟩
theorem jSame {a b:List Int}(ha:Byt a) (hb:Byt b) (hs:a.length<50000):bits_Same.f 60000 a b=some (decide (a=b)):=by
 unfold bits_Same.f
 by_cases hl:a.length=b.length
 ·obtain ⟨w,h1,h2⟩:=jSame_l0 ha hb hl (by omega) a.length 0 60000 0 (by omega) (by omega) (by decide)
  have h1':bits_Same.l0 60000 60000 a b 0 0=some (w:Int):=h1
  rw [if_pos (by rw [hl]),h1',Option.bind_some]
  congr 1
  by_cases h:a=b
  ·have:w=0:=h2.2 ⟨rfl,by rw [h]⟩
   subst this
   simp [h]
  ·have hw:w≠0:=fun q=>h (h2.1 q).2
   rw [decide_eq_false h]
   have:¬ (w:Int)=0:=by omega
   simpa using hw
 ·rw [if_neg (by omega),decide_eq_false (fun h=>hl (by rw [h]))]
theorem jsame_l0 (K:Nat) (a b:List Int) (hl:a.length=b.length) (ha:a.length≤1000000):∀ (r i k:Nat),i+r=a.length→r<k→ref01_Same.l0 K k a b (i:Int)=some (if a.drop i=b.drop i then .inl () else .inr false):=by
 intro r
 induction r with
 | zero=>
  intro i k hi hk
  obtain ⟨k,rfl⟩ : ∃ m,k=m+1:=⟨k-1,by omega⟩
  have c:¬ (i:Int)<(a.length:Int):=by omega
  simp only [ref01_Same.l0,c,if_false]
  rw [List.drop_of_length_le (by omega),List.drop_of_length_le (by omega),if_pos rfl]
 | succ r ih=>
  intro i k hi hk
  obtain ⟨k,rfl⟩ : ∃ m,k=m+1:=⟨k-1,by omega⟩
  have hia:i<a.length:=by omega
  have hib:i<b.length:=by omega
  have c:(i:Int)<(a.length:Int):=by omega
  have c':(i:Int)<(b.length:Int):=by omega
  have c0:(0:Int)≤(i:Int):=by omega
  have e4:iadd .i64 (i:Int) 1=((i+1:Nat):Int):=by rw [add64 (by omega) (by omega)]; omega
  have ra:rdL (CI .u8) a (i:Int)=a[i]:=by unfold rdL; rw [Int.toNat_natCast,List.getD_eq_getElem?_getD,List.getElem?_eq_getElem hia]; rfl
  have rb':rdL (CI .u8) b (i:Int)=b[i]:=by unfold rdL; rw [Int.toNat_natCast,List.getD_eq_getElem?_getD,List.getElem?_eq_getElem hib]; rfl
  rw [List.drop_eq_getElem_cons hia,List.drop_eq_getElem_cons hib]
  by_cases he:a[i]=b[i]
  ·simp only [ref01_Same.l0,c,c',c0,if_true,ra,rb',he,Option.bind_some,e4]
   rw [ih (i+1) k (by omega) (by omega)]
   by_cases ht:a.drop (i+1)=b.drop (i+1)
   ·rw [if_pos ht,if_pos (by rw [ht])]
   ·rw [if_neg ht,if_neg (fun h=>ht (List.cons.inj h).2)]
  ·simp only [ref01_Same.l0,c,c',c0,if_true,ra,rb',he,if_false]
   rw [if_neg (fun h=>he (List.cons.inj h).1)]
theorem jsame_eq (K:Nat) (a b:List Int) (ha:a.length≤1000000) (hK:a.length<K):ref01_Same.f K a b=some (decide (a=b)):=by
 unfold ref01_Same.f
 by_cases hl:a.length=b.length
 ·have:=jsame_l0 K a b hl ha a.length 0 K (by omega) hK
  rw [List.drop_zero,List.drop_zero] at this
  have h0:((0:Nat):Int)=0:=rfl
  rw [h0] at this
  rw [if_pos (by omega),this,Option.bind_some]
  by_cases he:a=b
  ·rw [if_pos he,decide_eq_true he]
  ·rw [if_neg he,decide_eq_false he]
 ·rw [if_neg (by omega),decide_eq_false (fun h=>hl (by rw [h]))]
theorem sumVg {kind:Int}(h:rateN kind≠0) (b:List Int) {n:Nat}(hn:n≤14000):(sumV kind b (n:Int)).1.length=n∧Byt (sumV kind b (n:Int)).1:=by
 unfold sumV
 rw [if_neg h,if_neg (by omega),if_neg (by omega)]
 exact ⟨by rw [sqv_len]; exact Int.toNat_natCast n,sqv_byt _ _ _ _⟩
def hV (b:List Int):List Int:=(sumV 4 b 32).1
theorem hV_len (b:List Int):(hV b).length=32∧Byt (hV b):=sumVg (kind:=4) (by decide) b (n:=32) (by decide)
def dV (m h:List Int):List Int:=(sumV 5 (m++h) 64).1
theorem dV_len (m h:List Int):(dV m h).length=64∧Byt (dV m h):=sumVg (kind:=5) (by decide) (m++h) (n:=64) (by decide)
def oV (z c:List Int):List Int:=(sumV 7 (z++c) 32).1
theorem oV_len (z c:List Int):(oV z c).length=32∧Byt (oV z c):=sumVg (kind:=7) (by decide) (z++c) (n:=32) (by decide)
theorem jDigest {b:List Int}(h:b.length≤14000):kem_digest.f 60000 b=some (hV b):=by
 have s:=kSum 4 b h 32 (.inl (by decide))
 unfold kem_digest.f
 rw [s]
 rfl
theorem jJoin2 {a b:List Int}(h:a.length+b.length<100000):bits_Join.f 60000 [a,b]=some (a++b):=by
 have jn:=gJoinW 60000 (W:=[a,b]) (by show 2<60000; decide) (by show 2<100000; decide) (by simp; omega)
 rw [show ([a,b]:List (List Int)).flatten=a++b by simp] at jn
 exact jn
theorem jSizes {k e1 e2 du dv:Nat}(hx:KX k e1 e2 du dv):kem_Sizes.f 60000 (k:Int) (e1:Int) (e2:Int) (du:Int) (dv:Int)=some (((384*k+32:Nat):Int),((384*k+(384*k+32)+64:Nat):Int),((32*(du*k+dv):Nat):Int)):=by
 obtain ⟨k2,k4,_⟩:=hx.bd
 have c:¬ ((384*k+32:Nat):Int)=0:=by omega
 have e:iadd .i64 (iadd .i64 ((384*k:Nat):Int) ((384*k+32:Nat):Int)) 64=((384*k+(384*k+32)+64:Nat):Int):=by
  rw [add64 (x:=((384*k:Nat):Int)) (by omega) (by omega),add64 (by omega) (by omega)]
  omega
 unfold kem_Sizes.f
 rw [hx.sizes]
 simp only [Option.bind_some,c,if_false,e]
theorem sub_in (a b c:List Int) {i j:Nat}(hi:a.length=i) (hj:i+b.length=j):subL (a++(b++c)) (i:Int) (j:Int)=b:=by
 subst hi hj
 rw [g_sub,List.take_append,List.take_of_length_le (by omega),Nat.add_sub_cancel_left,List.take_left,List.drop_left]
theorem sub_at (a b:List Int) {i:Nat}{j:Int}(hi:a.length=i) (hj:j=((a.length+b.length:Nat):Int)):subL (a++b) (i:Int) j=b:=by
 subst hi hj
 rw [g_sub,← List.length_append,List.take_length,List.drop_left]
end Go.Proofs.YtemdbgmldljbpaaGreatDoor

/- own -/
set_option linter.unusedSimpArgs false
set_option linter.unusedVariables false
set_option maxRecDepth 100000
namespace Go.Proofs.YtemdbgmldljbpaaGreatDoor
open Go Go.Mx
def openT (De:List Int→List Int→Option (List Int × Int)) (Go:List Int→Option Bool) (Di:List Int→Option (List Int)) (Sm:List Int→List Int→Option Bool) (J2 J3:List Int→List Int→Option (List Int)) (S5 S7:List Int→Option (List Int × Int)) (En:List Int→List Int→List Int→Option (List Int × Int)) (sk pk th z:List Int) (r4:Int) (a2:List Int):Option (List Int × Int):=
 (De sk ([]:List Int)).bind fun (r16,r17)=>if r17=10 then (some (([]:List Int),10)) else ((Go pk).bind fun r19=>if r19=true then ((Di pk).bind fun r20=>(Sm r20 th).bind fun r21=>if r21=true then (if (a2.length:Int)=r4 then ((De sk a2).bind fun (r24,r25)=>(J2 r24 th).bind fun r27=>(S5 r27).bind fun (r28,r29)=>if 0≤(0:Int) then (if (0:Int)≤(32:Int) then (if (32:Int)≤(32:Int) then (if (32:Int)≤r28.length then (if 0≤(32:Int) then (if (32:Int)≤(r28.length:Int) then (if (r28.length:Int)≤r28.length then ((En pk r24 (subL r28 32 (r28.length:Int))).bind fun (r32,r33)=>if r33=0 then ((Sm r32 a2).bind fun r34=>if r34=true then (some ((subL r28 0 32),0)) else ((J3 z a2).bind fun r36=>(S7 r36).bind fun (r37,r38)=>some (r37,0))) else (some (([]:List Int),r33))) else none) else none) else none) else none) else none) else none) else none) else (some (([]:List Int),14))) else (some (([]:List Int),10))) else (some (([]:List Int),10)))
def openE (Sz:Option (Int × Int × Int)) (De:List Int→List Int→Option (List Int × Int)) (Go:List Int→Option Bool) (Di:List Int→Option (List Int)) (Sm:List Int→List Int→Option Bool) (J2 J3:List Int→List Int→Option (List Int)) (S5 S7:List Int→Option (List Int × Int)) (En:List Int→List Int→List Int→Option (List Int × Int)) (a1 a2:List Int):Option (List Int × Int):=
 Sz.bind fun (r2,r3,r4)=>if r2=0 then (some (([]:List Int),9)) else (Sz.bind fun (r7,r8,r9)=>if (a1.length:Int)=r8 then ((some (isub .i64 r8 64)).bind fun x10=>if 0≤(0:Int) then (if (0:Int)≤(isub .i64 x10 r7) then (if (isub .i64 x10 r7)≤a1.length then (if 0≤(isub .i64 x10 r7) then (if (isub .i64 x10 r7)≤x10 then (if x10≤a1.length then (if 0≤x10 then (if x10≤(iadd .i64 x10 32) then (if (iadd .i64 x10 32)≤a1.length then (if 0≤(iadd .i64 x10 32) then (if (iadd .i64 x10 32)≤(a1.length:Int) then (if (a1.length:Int)≤a1.length then ((De (subL a1 0 (isub .i64 x10 r7)) ([]:List Int)).bind fun (r16,r17)=>if r17=10 then (some (([]:List Int),10)) else ((Go (subL a1 (isub .i64 x10 r7) x10)).bind fun r19=>if r19=true then ((Di (subL a1 (isub .i64 x10 r7) x10)).bind fun r20=>(Sm r20 (subL a1 x10 (iadd .i64 x10 32))).bind fun r21=>if r21=true then (if (a2.length:Int)=r4 then ((De (subL a1 0 (isub .i64 x10 r7)) a2).bind fun (r24,r25)=>(J2 r24 (subL a1 x10 (iadd .i64 x10 32))).bind fun r27=>(S5 r27).bind fun (r28,r29)=>if 0≤(0:Int) then (if (0:Int)≤(32:Int) then (if (32:Int)≤(32:Int) then (if (32:Int)≤r28.length then (if 0≤(32:Int) then (if (32:Int)≤(r28.length:Int) then (if (r28.length:Int)≤r28.length then ((En (subL a1 (isub .i64 x10 r7) x10) r24 (subL r28 32 (r28.length:Int))).bind fun (r32,r33)=>if r33=0 then ((Sm r32 a2).bind fun r34=>if r34=true then (some ((subL r28 0 32),0)) else ((J3 (subL a1 (iadd .i64 x10 32) (a1.length:Int)) a2).bind fun r36=>(S7 r36).bind fun (r37,r38)=>some (r37,0))) else (some (([]:List Int),r33))) else none) else none) else none) else none) else none) else none) else none) else (some (([]:List Int),14))) else (some (([]:List Int),10))) else (some (([]:List Int),10)))) else none) else none) else none) else none) else none) else none) else none) else none) else none) else none) else none) else none) else (some (([]:List Int),10)))
section
variable {Sz : Option (Int × Int × Int)} {De : List Int → List Int → Option (List Int × Int)} {Go : List Int → Option Bool} {Di : List Int → Option (List Int)} {Sm : List Int → List Int → Option Bool} {J2 J3 : List Int → List Int → Option (List Int)} {S5 S7 : List Int → Option (List Int × Int)} {En : List Int → List Int → List Int → Option (List Int × Int)} {J4 : List Int → List Int → List Int → List Int → Option (List Int)} {Ke : Option (List Int × List Int × Int)} {a1 a2 sk pk th z : List Int} {p n c : Nat}
theorem open_9 {q r:Int}(h:Sz=some (0,q,r)):openE Sz De Go Di Sm J2 J3 S5 S7 En a1 a2=some ([],9):=by
 subst h
 rfl
theorem open_10 {r:Int}(hs:Sz=some ((p:Int),(n:Int),r)) (hp:0<p) (hl:a1.length≠n):openE Sz De Go Di Sm J2 J3 S5 S7 En a1 a2=some ([],10):=by
 subst hs
 have c0:¬ (p:Int)=0:=by omega
 have c1:¬ ((a1.length:Nat):Int)=(n:Int):=by omega
 unfold openE
 simp only [Option.bind_some,c0,c1,if_false]
theorem open_parse {r:Int}(hs:Sz=some ((p:Int),((n+p+64:Nat):Int),r)) (hp:0<p) (hn:n<10000) (hp2:p<10000) (ha:a1=sk++(pk++(th++z))) (l1:sk.length=n) (l2:pk.length=p) (l3:th.length=32) (l4:z.length=32) :
  openE Sz De Go Di Sm J2 J3 S5 S7 En a1 a2=openT De Go Di Sm J2 J3 S5 S7 En sk pk th z r a2:=by
 have la:a1.length=n+p+64:=by rw [ha]; simp only [List.length_append]; omega
 have e1:isub .i64 ((n+p+64:Nat):Int) 64=((n+p:Nat):Int):=by rw [sub64 (by omega) (by omega)]; omega
 have e2:isub .i64 ((n+p:Nat):Int) (p:Int)=(n:Int):=by rw [sub64 (by omega) (by omega)]; omega
 have e3:iadd .i64 ((n+p:Nat):Int) 32=((n+p+32:Nat):Int):=by rw [add64 (by omega) (by omega)]; omega
 have s1:subL a1 (0:Int) (n:Int)=sk:=by
  have:=sub_in [] sk (pk++(th++z)) (i:=0) (j:=n) rfl (by omega)
  rw [ha]
  exact this
 have s2:subL a1 (n:Int) ((n+p:Nat):Int)=pk:=by rw [ha]; exact sub_in sk pk (th++z) l1 (by omega)
 have s3:subL a1 ((n+p:Nat):Int) ((n+p+32:Nat):Int)=th:=by
  have:=sub_in (sk++pk) th z (i:=n+p) (j:=n+p+32) (by rw [List.length_append]; omega) (by omega)
  rw [ha,← List.append_assoc]
  exact this
 have s4:subL a1 ((n+p+32:Nat):Int) ((a1.length:Nat):Int)=z:=by
  have:=sub_at (sk++(pk++th)) z (i:=n+p+32) (j:=((a1.length:Nat):Int)) (by simp only [List.length_append]; omega) (by simp only [List.length_append]; omega)
  rw [← List.append_assoc,← List.append_assoc] at ha
  rw [← List.append_assoc,← ha] at this
  exact this
 subst hs
 have c0:¬ (p:Int)=0:=by omega
 have c1:((a1.length:Nat):Int)=((n+p+64:Nat):Int):=by omega
 have z0:(0:Int)≤0:=by decide
 have z1:(0:Int)≤(n:Int):=by omega
 have z2:(n:Int)≤((a1.length:Nat):Int):=by omega
 have z3:(n:Int)≤((n+p:Nat):Int):=by omega
 have z4:((n+p:Nat):Int)≤((a1.length:Nat):Int):=by omega
 have z5:(0:Int)≤((n+p:Nat):Int):=by omega
 have z6:((n+p:Nat):Int)≤((n+p+32:Nat):Int):=by omega
 have z7:((n+p+32:Nat):Int)≤((a1.length:Nat):Int):=by omega
 have z8:(0:Int)≤((n+p+32:Nat):Int):=by omega
 have z9:((a1.length:Nat):Int)≤((a1.length:Nat):Int):=Int.le_refl _
 unfold openE
 simp only [Option.bind_some,c0,if_false]
 rw [if_pos c1]
 simp only [e1,e2,e3,s1,s2,s3,s4,z0,z1,z2,z3,z4,z5,z6,z7,z8,z9,if_true]
 rfl
end
end Go.Proofs.YtemdbgmldljbpaaGreatDoor

/- own -/
set_option linter.unusedSimpArgs false
set_option linter.unusedVariables false
set_option maxRecDepth 100000
namespace Go.Proofs.YtemdbgmldljbpaaGreatDoor
open Go Go.Mx
theorem jOpen_E (a b c d e:Int) (x y:List Int):kem_Open.f 60000 a b c d e x y=openE (kem_Sizes.f 60000 a b c d e) (fun s t=>kpke_Decrypt.f 60000 a b c d e s t) (fun s=>kem_good.f 60000 a b c d e s) (fun s=>kem_digest.f 60000 s) (fun s t=>bits_Same.f 60000 s t) (fun s t=>bits_Join.f 60000 [s,t]) (fun s t=>bits_Join.f 60000 [s,t]) (fun s=>keccak_Sum.f 60000 5 s 64) (fun s=>keccak_Sum.f 60000 7 s 32) (fun s t u=>kpke_Encrypt.f 60000 a b c d e s t u) x y:=by
 unfold kem_Open.f openE
 rfl
theorem jSum5 {m h:List Int}(hl:m.length+h.length≤14000):keccak_Sum.f 60000 5 (m++h) 64=some (dV m h,(sumV 5 (m++h) 64).2):=kSum 5 (m++h) (by rw [List.length_append]; exact hl) 64 (.inl (by decide))
theorem jSum7 {z c:List Int}(hl:z.length+c.length≤14000):keccak_Sum.f 60000 7 (z++c) 32=some (oV z c,(sumV 7 (z++c) 32).2):=kSum 7 (z++c) (by rw [List.length_append]; exact hl) 32 (.inl (by decide))
theorem awake27:law27_awake.f 60000=some true:=by decide +kernel
end Go.Proofs.YtemdbgmldljbpaaGreatDoor
