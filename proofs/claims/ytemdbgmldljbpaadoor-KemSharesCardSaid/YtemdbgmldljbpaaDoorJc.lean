/- own -/
import Derived.Test.YtemdbgmldljbpaaDoorUg
set_option linter.unusedSimpArgs false
set_option linter.unusedVariables false
set_option maxRecDepth 100000
namespace Go.Proofs.YtemdbgmldljbpaaDoor
open Go Go.Mx
theorem jXor0 {x y:Nat} : x ^^^ y=0↔x=y:=by
 constructor
 ·intro h
  have h2:(x ^^^ y) ^^^ y=0 ^^^ y:=by rw [h]
  rwa [Nat.xor_assoc,Nat.xor_self,Nat.xor_zero,Nat.zero_xor] at h2
 ·rintro rfl
  exact Nat.xor_self x
theorem jSame_l0 {a b:List Int}(ha:InL .u8 a) (hb:InL .u8 b) (hl:a.length=b.length) (hs:a.length<100000):∀ (m i k z:Nat),i+m=a.length→m<k→z<256 →
  ∃ w:Nat,bits_Same.l0 60000 k a b (z:Int) (i:Int)=some (w:Int)∧(w=0↔z=0∧a.drop i=b.drop i):=by
 intro m
 induction m with
 | zero=>
  intro i k z hi hk hz
  obtain ⟨k,rfl⟩ : ∃ q,k=q+1:=⟨k-1,by omega⟩
  have c:¬ (i:Int)<((a.length:Nat):Int):=by omega
  refine ⟨z,by simp only [bits_Same.l0,c,if_false],?_⟩
  rw [List.drop_of_length_le (show a.length≤i by omega),List.drop_of_length_le (show b.length≤i by omega)]
  simp
 | succ m ih=>
  intro i k z hi hk hz
  obtain ⟨k,rfl⟩ : ∃ q,k=q+1:=⟨k-1,by omega⟩
  have hia:i<a.length:=by omega
  have hib:i<b.length:=by omega
  have c0:(i:Int)<((a.length:Nat):Int):=by omega
  have c1:(0:Int)≤(i:Int):=by omega
  have c3:(i:Int)<((b.length:Nat):Int):=by omega
  obtain ⟨x,hx,hx2⟩:=byte_nat ha (List.getElem_mem hia)
  obtain ⟨y,hy,hy2⟩:=byte_nat hb (List.getElem_mem hib)
  have hxy:=Nat.xor_lt_two_pow (n:=8) (x:=x) (y:=y) (by omega) (by omega)
  have e1:ior .u8 (z:Int) (ixor .u8 (x:Int) (y:Int))=((z ||| (x ^^^ y):Nat):Int):=by
   rw [ixor_nat (k:=.u8) (show x<2^8 by omega) (show y<2^8 by omega),ior_nat (k:=.u8) (show z<2^8 by omega) hxy]
  have hw:=Nat.or_lt_two_pow (n:=8) (x:=z) (y:=x ^^^ y) (by omega) hxy
  obtain ⟨w,h1,h2⟩:=ih (i+1) k (z ||| (x ^^^ y)) (by omega) (by omega) (by omega)
  refine ⟨w,?_,?_⟩
  ·simp only [bits_Same.l0,c0,c1,c3,rdL_get hia,rdL_get hib,hx,hy,e1,if_true,Option.bind_some,ginc (i:=i) (by omega)]
   exact h1
  ·rw [h2,Nat.or_eq_zero_iff,jXor0,List.drop_eq_getElem_cons hia,List.drop_eq_getElem_cons hib,hx,hy,List.cons.injEq]
   constructor
   ·rintro ⟨⟨q1,q2⟩,q3⟩
    exact ⟨q1,by rw [q2],q3⟩
   ·rintro ⟨q1,q2,q3⟩
    exact ⟨⟨q1,by omega⟩,q3⟩
theorem jSame {a b:List Int}(ha:Byt a) (hb:Byt b) (hs:a.length<50000):bits_Same.f 60000 a b=some (decide (a=b)):=by
 unfold bits_Same.f
 by_cases hl:a.length=b.length
 ·obtain ⟨w,h1,h2⟩:=jSame_l0 ha hb hl (by omega) a.length 0 60000 0 (by omega) (by omega) (by decide)
  have h1':bits_Same.l0 60000 60000 a b 0 0=some (w:Int):=h1
  rw [if_pos (by rw [hl]),h1',Option.bind_some]
  congr 1
  by_cases h:a=b
  ·have:w=0:=h2.2 ⟨rfl,by rw [h]⟩
   subst this
   simp [h]
  ·have hw:w≠0:=fun q=>h (h2.1 q).2
   rw [decide_eq_false h]
   have:¬ (w:Int)=0:=by omega
   simpa using hw
 ·rw [if_neg (by omega),decide_eq_false (fun h=>hl (by rw [h]))]
theorem jsame_l0 (K:Nat) (a b:List Int) (hl:a.length=b.length) (ha:a.length≤1000000):∀ (r i k:Nat),i+r=a.length→r<k→ref01_Same.l0 K k a b (i:Int)=some (if a.drop i=b.drop i then .inl () else .inr false):=by
 intro r
 induction r with
 | zero=>
  intro i k hi hk
  obtain ⟨k,rfl⟩ : ∃ m,k=m+1:=⟨k-1,by omega⟩
  have c:¬ (i:Int)<(a.length:Int):=by omega
  simp only [ref01_Same.l0,c,if_false]
  rw [List.drop_of_length_le (by omega),List.drop_of_length_le (by omega),if_pos rfl]
 | succ r ih=>
  intro i k hi hk
  obtain ⟨k,rfl⟩ : ∃ m,k=m+1:=⟨k-1,by omega⟩
  have hia:i<a.length:=by omega
  have hib:i<b.length:=by omega
  have c:(i:Int)<(a.length:Int):=by omega
  have c':(i:Int)<(b.length:Int):=by omega
  have c0:(0:Int)≤(i:Int):=by omega
  have e4:iadd .i64 (i:Int) 1=((i+1:Nat):Int):=by rw [add64 (by omega) (by omega)]; omega
  have ra:rdL (CI .u8) a (i:Int)=a[i]:=by unfold rdL; rw [Int.toNat_natCast,List.getD_eq_getElem?_getD,List.getElem?_eq_getElem hia]; rfl
  have rb':rdL (CI .u8) b (i:Int)=b[i]:=by unfold rdL; rw [Int.toNat_natCast,List.getD_eq_getElem?_getD,List.getElem?_eq_getElem hib]; rfl
  rw [List.drop_eq_getElem_cons hia,List.drop_eq_getElem_cons hib]
  by_cases he:a[i]=b[i]
  ·simp only [ref01_Same.l0,c,c',c0,if_true,ra,rb',he,Option.bind_some,e4]
   rw [ih (i+1) k (by omega) (by omega)]
   by_cases ht:a.drop (i+1)=b.drop (i+1)
   ·rw [if_pos ht,if_pos (by rw [ht])]
   ·rw [if_neg ht,if_neg (fun h=>ht (List.cons.inj h).2)]
  ·simp only [ref01_Same.l0,c,c',c0,if_true,ra,rb',he,if_false]
   rw [if_neg (fun h=>he (List.cons.inj h).1)]
theorem jsame_eq (K:Nat) (a b:List Int) (ha:a.length≤1000000) (hK:a.length<K):ref01_Same.f K a b=some (decide (a=b)):=by
 unfold ref01_Same.f
 by_cases hl:a.length=b.length
 ·have:=jsame_l0 K a b hl ha a.length 0 K (by omega) hK
  rw [List.drop_zero,List.drop_zero] at this
  have h0:((0:Nat):Int)=0:=rfl
  rw [h0] at this
  rw [if_pos (by omega),this,Option.bind_some]
  by_cases he:a=b
  ·rw [if_pos he,decide_eq_true he]
  ·rw [if_neg he,decide_eq_false he]
 ·rw [if_neg (by omega),decide_eq_false (fun h=>hl (by rw [h]))]
theorem sumVg {kind:Int}(h:rateN kind≠0) (b:List Int) {n:Nat}(hn:n≤14000):(sumV kind b (n:Int)).1.length=n∧Byt (sumV kind b (n:Int)).1:=by
 unfold sumV
 rw [if_neg h,if_neg (by omega),if_neg (by omega)]
 exact ⟨by rw [sqv_len]; exact Int.toNat_natCast n,sqv_byt _ _ _ _⟩
def hV (b:List Int):List Int:=(sumV 4 b 32).1
theorem hV_len (b:List Int):(hV b).length=32∧Byt (hV b):=sumVg (kind:=4) (by decide) b (n:=32) (by decide)
def dV (m h:List Int):List Int:=(sumV 5 (m++h) 64).1
theorem dV_len (m h:List Int):(dV m h).length=64∧Byt (dV m h):=sumVg (kind:=5) (by decide) (m++h) (n:=64) (by decide)
def oV (z c:List Int):List Int:=(sumV 7 (z++c) 32).1
theorem oV_len (z c:List Int):(oV z c).length=32∧Byt (oV z c):=sumVg (kind:=7) (by decide) (z++c) (n:=32) (by decide)
theorem jDigest {b:List Int}(h:b.length≤14000):kem_digest.f 60000 b=some (hV b):=by
 have s:=kSum 4 b h 32 (.inl (by decide))
 unfold kem_digest.f
 rw [s]
 rfl
theorem jJoin2 {a b:List Int}(h:a.length+b.length<100000):bits_Join.f 60000 [a,b]=some (a++b):=by
 have jn:=gJoinW 60000 (W:=[a,b]) (by show 2<60000; decide) (by show 2<100000; decide) (by simp; omega)
 rw [show ([a,b]:List (List Int)).flatten=a++b by simp] at jn
 exact jn
theorem jJoin4 {a b c d:List Int}(h:a.length+(b.length+(c.length+d.length))<100000):bits_Join.f 60000 [a,b,c,d]=some (a++(b++(c++d))):=by
 have jn:=gJoinW 60000 (W:=[a,b,c,d]) (by show 4<60000; decide) (by show 4<100000; decide) (by simp; omega)
 rw [show ([a,b,c,d]:List (List Int)).flatten=a++(b++(c++d)) by simp] at jn
 exact jn
theorem jSizes {k e1 e2 du dv:Nat}(hx:KX k e1 e2 du dv):kem_Sizes.f 60000 (k:Int) (e1:Int) (e2:Int) (du:Int) (dv:Int)=some (((384*k+32:Nat):Int),((384*k+(384*k+32)+64:Nat):Int),((32*(du*k+dv):Nat):Int)):=by
 obtain ⟨k2,k4,_⟩:=hx.bd
 have c:¬ ((384*k+32:Nat):Int)=0:=by omega
 have e:iadd .i64 (iadd .i64 ((384*k:Nat):Int) ((384*k+32:Nat):Int)) 64=((384*k+(384*k+32)+64:Nat):Int):=by
  rw [add64 (x:=((384*k:Nat):Int)) (by omega) (by omega),add64 (by omega) (by omega)]
  omega
 unfold kem_Sizes.f
 rw [hx.sizes]
 simp only [Option.bind_some,c,if_false,e]
theorem kEnc_nil {k e1 e2 du dv:Nat}(hx:KX k e1 e2 du dv) {pk:List Int}(hb:Byt pk) (lpk:pk.length=384*k+32) {t:PL}(hr:rdV pk 12 (32*12) k 0 []=(t,true)) :
  kpke_Encrypt.f 60000 (k:Int) (e1:Int) (e2:Int) (du:Int) (dv:Int) pk [] []=some ([],14):=by
 obtain ⟨k2,k4,_⟩:=hx.bd
 have rd:=kRead (b:=pk) (d:=12) (k0:=k) hb (by decide) (by omega) (by omega) (by omega)
 rw [hr] at rd
 have rd':kpke_read.f 60000 pk (k:Int) 12=some (t,true):=rd
 unfold kpke_Encrypt.f
 rw [hx.sizes,rd']
 have c0:¬ ((384*k+32:Nat):Int)=0:=by omega
 have c1:((pk.length:Nat):Int)=((384*k+32:Nat):Int):=by omega
 simp only [Option.bind_some,c0,if_false]
 rw [if_pos c1]
 rfl
theorem jGood {k e1 e2 du dv:Nat}(hx:KX k e1 e2 du dv) {pk:List Int}(hb:Byt pk) (lpk:pk.length=384*k+32) {t:PL}(hr:rdV pk 12 (32*12) k 0 []=(t,true)):kem_good.f 60000 (k:Int) (e1:Int) (e2:Int) (du:Int) (dv:Int) pk=some true:=by
 have h:=kEnc_nil hx hb lpk hr
 unfold kem_good.f
 rw [h]
 rfl
theorem kDec_nil {k e1 e2 du dv:Nat}(hx:KX k e1 e2 du dv) {sk:List Int}(hb:Byt sk) (lsk:sk.length=384*k) {s:PL}(hr:rdV sk 12 (32*12) k 0 []=(s,true)) :
  kpke_Decrypt.f 60000 (k:Int) (e1:Int) (e2:Int) (du:Int) (dv:Int) sk []=some ([],14):=by
 obtain ⟨k2,k4,d1,_,v1,_⟩:=hx.bd
 have rd:=kRead (b:=sk) (d:=12) (k0:=k) hb (by decide) (by omega) (by omega) (by omega)
 rw [hr] at rd
 have rd':kpke_read.f 60000 sk (k:Int) 12=some (s,true):=rd
 unfold kpke_Decrypt.f
 rw [hx.sizes,rd']
 have c0:¬ ((384*k:Nat):Int)=0:=by omega
 have c1:((sk.length:Nat):Int)=((384*k:Nat):Int):=by omega
 have c2:¬ ((([]:List Int).length:Nat):Int)=((32*(du*k+dv):Nat):Int):=by show ¬ ((0:Nat):Int)=_; omega
 simp only [Option.bind_some,c0,if_false]
 rw [if_pos c1]
 simp only [Option.bind_some,if_true]
 rw [if_neg c2]
theorem sub_in (a b c:List Int) {i j:Nat}(hi:a.length=i) (hj:i+b.length=j):subL (a++(b++c)) (i:Int) (j:Int)=b:=by
 subst hi hj
 rw [g_sub,List.take_append,List.take_of_length_le (by omega),Nat.add_sub_cancel_left,List.take_left,List.drop_left]
theorem sub_at (a b:List Int) {i:Nat}{j:Int}(hi:a.length=i) (hj:j=((a.length+b.length:Nat):Int)):subL (a++b) (i:Int) j=b:=by
 subst hi hj
 rw [g_sub,← List.length_append,List.take_length,List.drop_left]
end Go.Proofs.YtemdbgmldljbpaaDoor

/- own -/
set_option linter.unusedSimpArgs false
set_option linter.unusedVariables false
set_option maxRecDepth 100000
namespace Go.Proofs.YtemdbgmldljbpaaDoor
open Go Go.Mx
def openT (De:List Int→List Int→Option (List Int × Int)) (Go:List Int→Option Bool) (Di:List Int→Option (List Int)) (Sm:List Int→List Int→Option Bool) (J2 J3:List Int→List Int→Option (List Int)) (S5 S7:List Int→Option (List Int × Int)) (En:List Int→List Int→List Int→Option (List Int × Int)) (sk pk th z:List Int) (r4:Int) (a2:List Int):Option (List Int × Int):=
 (De sk ([]:List Int)).bind fun (r16,r17)=>if r17=10 then (some (([]:List Int),10)) else ((Go pk).bind fun r19=>if r19=true then ((Di pk).bind fun r20=>(Sm r20 th).bind fun r21=>if r21=true then (if (a2.length:Int)=r4 then ((De sk a2).bind fun (r24,r25)=>(J2 r24 th).bind fun r27=>(S5 r27).bind fun (r28,r29)=>if 0≤(0:Int) then (if (0:Int)≤(32:Int) then (if (32:Int)≤(32:Int) then (if (32:Int)≤r28.length then (if 0≤(32:Int) then (if (32:Int)≤(r28.length:Int) then (if (r28.length:Int)≤r28.length then ((En pk r24 (subL r28 32 (r28.length:Int))).bind fun (r32,r33)=>if r33=0 then ((Sm r32 a2).bind fun r34=>if r34=true then (some ((subL r28 0 32),0)) else ((J3 z a2).bind fun r36=>(S7 r36).bind fun (r37,r38)=>some (r37,0))) else (some (([]:List Int),r33))) else none) else none) else none) else none) else none) else none) else none) else (some (([]:List Int),14))) else (some (([]:List Int),10))) else (some (([]:List Int),10)))
def openE (Sz:Option (Int × Int × Int)) (De:List Int→List Int→Option (List Int × Int)) (Go:List Int→Option Bool) (Di:List Int→Option (List Int)) (Sm:List Int→List Int→Option Bool) (J2 J3:List Int→List Int→Option (List Int)) (S5 S7:List Int→Option (List Int × Int)) (En:List Int→List Int→List Int→Option (List Int × Int)) (a1 a2:List Int):Option (List Int × Int):=
 Sz.bind fun (r2,r3,r4)=>if r2=0 then (some (([]:List Int),9)) else (Sz.bind fun (r7,r8,r9)=>if (a1.length:Int)=r8 then ((some (isub .i64 r8 64)).bind fun x10=>if 0≤(0:Int) then (if (0:Int)≤(isub .i64 x10 r7) then (if (isub .i64 x10 r7)≤a1.length then (if 0≤(isub .i64 x10 r7) then (if (isub .i64 x10 r7)≤x10 then (if x10≤a1.length then (if 0≤x10 then (if x10≤(iadd .i64 x10 32) then (if (iadd .i64 x10 32)≤a1.length then (if 0≤(iadd .i64 x10 32) then (if (iadd .i64 x10 32)≤(a1.length:Int) then (if (a1.length:Int)≤a1.length then ((De (subL a1 0 (isub .i64 x10 r7)) ([]:List Int)).bind fun (r16,r17)=>if r17=10 then (some (([]:List Int),10)) else ((Go (subL a1 (isub .i64 x10 r7) x10)).bind fun r19=>if r19=true then ((Di (subL a1 (isub .i64 x10 r7) x10)).bind fun r20=>(Sm r20 (subL a1 x10 (iadd .i64 x10 32))).bind fun r21=>if r21=true then (if (a2.length:Int)=r4 then ((De (subL a1 0 (isub .i64 x10 r7)) a2).bind fun (r24,r25)=>(J2 r24 (subL a1 x10 (iadd .i64 x10 32))).bind fun r27=>(S5 r27).bind fun (r28,r29)=>if 0≤(0:Int) then (if (0:Int)≤(32:Int) then (if (32:Int)≤(32:Int) then (if (32:Int)≤r28.length then (if 0≤(32:Int) then (if (32:Int)≤(r28.length:Int) then (if (r28.length:Int)≤r28.length then ((En (subL a1 (isub .i64 x10 r7) x10) r24 (subL r28 32 (r28.length:Int))).bind fun (r32,r33)=>if r33=0 then ((Sm r32 a2).bind fun r34=>if r34=true then (some ((subL r28 0 32),0)) else ((J3 (subL a1 (iadd .i64 x10 32) (a1.length:Int)) a2).bind fun r36=>(S7 r36).bind fun (r37,r38)=>some (r37,0))) else (some (([]:List Int),r33))) else none) else none) else none) else none) else none) else none) else none) else (some (([]:List Int),14))) else (some (([]:List Int),10))) else (some (([]:List Int),10)))) else none) else none) else none) else none) else none) else none) else none) else none) else none) else none) else none) else none) else (some (([]:List Int),10)))
def sealE (Sz:Option (Int × Int × Int)) (Go:List Int→Option Bool) (Di:List Int→Option (List Int)) (J2:List Int→List Int→Option (List Int)) (S5:List Int→Option (List Int × Int)) (En:List Int→List Int→List Int→Option (List Int × Int)) (a1 a2:List Int):Option (List Int × List Int × Int):=
 Sz.bind fun (r2,r3,r4)=>if r2=0 then (some (([]:List Int),([]:List Int),9)) else ((Go a1).bind fun r5=>if r5=true then (if (a2.length:Int)=32 then ((Di a1).bind fun r6=>(J2 a2 r6).bind fun r8=>(S5 r8).bind fun (r9,r10)=>if 0≤(0:Int) then (if (0:Int)≤(32:Int) then (if (32:Int)≤(32:Int) then (if (32:Int)≤r9.length then (if 0≤(32:Int) then (if (32:Int)≤(r9.length:Int) then (if (r9.length:Int)≤r9.length then ((En a1 a2 (subL r9 32 (r9.length:Int))).bind fun (r13,r14)=>if r14=0 then (some ((subL r9 0 32),r13,0)) else (some (([]:List Int),([]:List Int),r14))) else none) else none) else none) else none) else none) else none) else none) else (some (([]:List Int),([]:List Int),14))) else (some (([]:List Int),([]:List Int),10)))
def keysE (Sz:Option (Int × Int × Int)) (Ke:Option (List Int × List Int × Int)) (Di:List Int→Option (List Int)) (J4:List Int→List Int→List Int→List Int→Option (List Int)) (a1 a2:List Int):Option (List Int × List Int × Int):=
 Sz.bind fun (r2,r3,r4)=>if r2=0 then (some (([]:List Int),([]:List Int),9)) else (if (a1.length:Int)=32 then (if (a2.length:Int)=32 then (Ke.bind fun (r5,r6,r7)=>if r7=0 then ((Di r5).bind fun r8=>(J4 r6 r5 r8 a2).bind fun r10=>some (r5,r10,0)) else (some (([]:List Int),([]:List Int),r7))) else (some (([]:List Int),([]:List Int),14))) else (some (([]:List Int),([]:List Int),14)))
section
variable {Sz : Option (Int × Int × Int)} {De : List Int → List Int → Option (List Int × Int)} {Go : List Int → Option Bool} {Di : List Int → Option (List Int)} {Sm : List Int → List Int → Option Bool} {J2 J3 : List Int → List Int → Option (List Int)} {S5 S7 : List Int → Option (List Int × Int)} {En : List Int → List Int → List Int → Option (List Int × Int)} {J4 : List Int → List Int → List Int → List Int → Option (List Int)} {Ke : Option (List Int × List Int × Int)} {a1 a2 sk pk th z : List Int} {p n c : Nat}
theorem open_parse {r:Int}(hs:Sz=some ((p:Int),((n+p+64:Nat):Int),r)) (hp:0<p) (hn:n<10000) (hp2:p<10000) (ha:a1=sk++(pk++(th++z))) (l1:sk.length=n) (l2:pk.length=p) (l3:th.length=32) (l4:z.length=32) :
  openE Sz De Go Di Sm J2 J3 S5 S7 En a1 a2=openT De Go Di Sm J2 J3 S5 S7 En sk pk th z r a2:=by
 have la:a1.length=n+p+64:=by rw [ha]; simp only [List.length_append]; omega
 have e1:isub .i64 ((n+p+64:Nat):Int) 64=((n+p:Nat):Int):=by rw [sub64 (by omega) (by omega)]; omega
 have e2:isub .i64 ((n+p:Nat):Int) (p:Int)=(n:Int):=by rw [sub64 (by omega) (by omega)]; omega
 have e3:iadd .i64 ((n+p:Nat):Int) 32=((n+p+32:Nat):Int):=by rw [add64 (by omega) (by omega)]; omega
 have s1:subL a1 (0:Int) (n:Int)=sk:=by
  have:=sub_in [] sk (pk++(th++z)) (i:=0) (j:=n) rfl (by omega)
  rw [ha]
  exact this
 have s2:subL a1 (n:Int) ((n+p:Nat):Int)=pk:=by rw [ha]; exact sub_in sk pk (th++z) l1 (by omega)
 have s3:subL a1 ((n+p:Nat):Int) ((n+p+32:Nat):Int)=th:=by
  have:=sub_in (sk++pk) th z (i:=n+p) (j:=n+p+32) (by rw [List.length_append]; omega) (by omega)
  rw [ha,← List.append_assoc]
  exact this
 have s4:subL a1 ((n+p+32:Nat):Int) ((a1.length:Nat):Int)=z:=by
  have:=sub_at (sk++(pk++th)) z (i:=n+p+32) (j:=((a1.length:Nat):Int)) (by simp only [List.length_append]; omega) (by simp only [List.length_append]; omega)
  rw [← List.append_assoc,← List.append_assoc] at ha
  rw [← List.append_assoc,← ha] at this
  exact this
 subst hs
 have c0:¬ (p:Int)=0:=by omega
 have c1:((a1.length:Nat):Int)=((n+p+64:Nat):Int):=by omega
 have z0:(0:Int)≤0:=by decide
 have z1:(0:Int)≤(n:Int):=by omega
 have z2:(n:Int)≤((a1.length:Nat):Int):=by omega
 have z3:(n:Int)≤((n+p:Nat):Int):=by omega
 have z4:((n+p:Nat):Int)≤((a1.length:Nat):Int):=by omega
 have z5:(0:Int)≤((n+p:Nat):Int):=by omega
 have z6:((n+p:Nat):Int)≤((n+p+32:Nat):Int):=by omega
 have z7:((n+p+32:Nat):Int)≤((a1.length:Nat):Int):=by omega
 have z8:(0:Int)≤((n+p+32:Nat):Int):=by omega
 have z9:((a1.length:Nat):Int)≤((a1.length:Nat):Int):=Int.le_refl _
 unfold openE
 simp only [Option.bind_some,c0,if_false]
 rw [if_pos c1]
 simp only [e1,e2,e3,s1,s2,s3,s4,z0,z1,z2,z3,z4,z5,z6,z7,z8,z9,if_true]
 rfl
theorem open_14 {d0:List Int}{e0:Int}(hd0:De sk []=some (d0,e0)) (h10:¬ e0=10) (hg:Go pk=some true) (hdi:Di pk=some th) (hsm:Sm th th=some true) (hc:a2.length≠c):openT De Go Di Sm J2 J3 S5 S7 En sk pk th z (c:Int) a2=some ([],14):=by
 have c2:¬ ((a2.length:Nat):Int)=(c:Int):=by omega
 unfold openT
 simp only [hd0,h10,hg,hdi,hsm,c2,Option.bind_some,if_true,if_false]
theorem open_good {d0 m mt g c' za o:List Int}{e0 em eg eo:Int}{b:Bool}(hd0:De sk []=some (d0,e0)) (h10:¬ e0=10) (hg:Go pk=some true) (hdi:Di pk=some th) (hsm:Sm th th=some true) (hc:a2.length=c)
  (hd:De sk a2=some (m,em)) (hj:J2 m th=some mt) (h5:S5 mt=some (g,eg)) (lg:g.length=64) (he:En pk m (g.drop 32)=some (c',0)) (hq:Sm c' a2=some b) (h3:J3 z a2=some za) (h7:S7 za=some (o,eo)) :
  openT De Go Di Sm J2 J3 S5 S7 En sk pk th z (c:Int) a2=some (if b=true then g.take 32 else o,0):=by
 have c2:((a2.length:Nat):Int)=(c:Int):=by omega
 have z0:(0:Int)≤0:=by decide
 have z1:(0:Int)≤32:=by decide
 have z2:(32:Int)≤32:=by decide
 have z3:(32:Int)≤((g.length:Nat):Int):=by omega
 have z4:((g.length:Nat):Int)≤((g.length:Nat):Int):=Int.le_refl _
 have t1:subL g 0 32=g.take 32:=(g_sub g 0 32).trans (List.drop_zero ..)
 have t2:subL g 32 ((g.length:Nat):Int)=g.drop 32:=by
  have:=g_sub g 32 g.length
  rw [List.take_length] at this
  exact this
 unfold openT
 rw [hd0]
 simp only [h10,hg,hdi,hsm,Option.bind_some,if_true,if_false]
 rw [if_pos c2]
 simp only [hd,hj,h5,z0,z1,z2,z3,z4,t1,t2,he,hq,Option.bind_some,if_true]
 cases b with
 | true=>simp only [if_true]
 | false=>simp only [Bool.false_eq_true,if_false,h3,h7,Option.bind_some]
theorem seal_good {q r:Int}{h mh g c':List Int}{eg:Int}(hs:Sz=some ((p:Int),q,r)) (hp:0<p) (hg:Go a1=some true) (l2:a2.length=32) (hdi:Di a1=some h) (hj:J2 a2 h=some mh) (h5:S5 mh=some (g,eg)) (lg:g.length=64) (he:En a1 a2 (g.drop 32)=some (c',0)) :
  sealE Sz Go Di J2 S5 En a1 a2=some (g.take 32,c',0):=by
 subst hs
 have c0:¬ (p:Int)=0:=by omega
 have c2:((a2.length:Nat):Int)=32:=by omega
 have z0:(0:Int)≤0:=by decide
 have z1:(0:Int)≤32:=by decide
 have z2:(32:Int)≤32:=by decide
 have z3:(32:Int)≤((g.length:Nat):Int):=by omega
 have z4:((g.length:Nat):Int)≤((g.length:Nat):Int):=Int.le_refl _
 have t1:subL g 0 32=g.take 32:=(g_sub g 0 32).trans (List.drop_zero ..)
 have t2:subL g 32 ((g.length:Nat):Int)=g.drop 32:=by
  have:=g_sub g 32 g.length
  rw [List.take_length] at this
  exact this
 unfold sealE
 simp only [Option.bind_some,c0,hg,if_true,if_false]
 rw [if_pos c2]
 simp only [hdi,hj,h5,z0,z1,z2,z3,z4,t1,t2,he,Option.bind_some,if_true]
theorem keys_good {q r:Int}{h j:List Int}{er:Int}(hs:Sz=some ((p:Int),q,r)) (hp:0<p) (l1:a1.length=32) (l2:a2.length=32) (hK:Ke=some (pk,sk,er)) (hdi:er=0→Di pk=some h) (hj:er=0→J4 sk pk h a2=some j) :
  keysE Sz Ke Di J4 a1 a2=some (if er=0 then (pk,j,0) else ([],[],er)):=by
 subst hs hK
 have c0:¬ (p:Int)=0:=by omega
 have c1:((a1.length:Nat):Int)=32:=by omega
 have c2:((a2.length:Nat):Int)=32:=by omega
 unfold keysE
 simp only [Option.bind_some,c0,c1,c2,if_true,if_false]
 by_cases h0:er=0
 ·simp only [h0,hdi h0,hj h0,Option.bind_some,if_true]
 ·simp only [h0,if_false]
end
end Go.Proofs.YtemdbgmldljbpaaDoor

/- own -/
set_option linter.unusedSimpArgs false
set_option linter.unusedVariables false
set_option maxRecDepth 100000
namespace Go.Proofs.YtemdbgmldljbpaaDoor
open Go Go.Mx
theorem jOpen_E (a b c d e:Int) (x y:List Int):kem_Open.f 60000 a b c d e x y=openE (kem_Sizes.f 60000 a b c d e) (fun s t=>kpke_Decrypt.f 60000 a b c d e s t) (fun s=>kem_good.f 60000 a b c d e s) (fun s=>kem_digest.f 60000 s) (fun s t=>bits_Same.f 60000 s t) (fun s t=>bits_Join.f 60000 [s,t]) (fun s t=>bits_Join.f 60000 [s,t]) (fun s=>keccak_Sum.f 60000 5 s 64) (fun s=>keccak_Sum.f 60000 7 s 32) (fun s t u=>kpke_Encrypt.f 60000 a b c d e s t u) x y:=by
 unfold kem_Open.f openE
 rfl
theorem jSeal_E (a b c d e:Int) (x y:List Int):kem_Seal.f 60000 a b c d e x y=sealE (kem_Sizes.f 60000 a b c d e) (fun s=>kem_good.f 60000 a b c d e s) (fun s=>kem_digest.f 60000 s) (fun s t=>bits_Join.f 60000 [s,t]) (fun s=>keccak_Sum.f 60000 5 s 64) (fun s t u=>kpke_Encrypt.f 60000 a b c d e s t u) x y:=by
 unfold kem_Seal.f sealE
 rfl
theorem jKeys_E (a b c d e:Int) (x y:List Int):kem_Keys.f 60000 a b c d e x y=keysE (kem_Sizes.f 60000 a b c d e) (kpke_Keys.f 60000 a b c d e x) (fun s=>kem_digest.f 60000 s) (fun s t u v=>bits_Join.f 60000 [s,t,u,v]) x y:=by
 unfold kem_Keys.f keysE
 rfl
theorem jSum5 {m h:List Int}(hl:m.length+h.length≤14000):keccak_Sum.f 60000 5 (m++h) 64=some (dV m h,(sumV 5 (m++h) 64).2):=kSum 5 (m++h) (by rw [List.length_append]; exact hl) 64 (.inl (by decide))
theorem jSum7 {z c:List Int}(hl:z.length+c.length≤14000):keccak_Sum.f 60000 7 (z++c) 32=some (oV z c,(sumV 7 (z++c) 32).2):=kSum 7 (z++c) (by rw [List.length_append]; exact hl) 32 (.inl (by decide))
def pkS (d:List Int) (k e1:Nat) (M:List PL):List Int:=pkV (tK d k e1 M) 12++rhoV d k
def skS (d:List Int) (k e1:Nat):List Int:=pkV (sK d k e1) 12
theorem pkS_len (d:List Int) (k e1:Nat) (M:List PL):(pkS d k e1 M).length=384*k+32∧Byt (pkS d k e1 M):=by
 obtain ⟨p1,p2⟩:=pkV_len (v:=tK d k e1 M) (tV_fit _ _ _ _)
 have l1:(tK d k e1 M).length=k:=tV_len _ _ _ _
 rw [l1] at p1
 refine ⟨?_,p2.append (byt_sub (gV_byt d k) 0 32)⟩
 unfold pkS
 rw [List.length_append,p1,rhoV_len]
theorem skS_len (d:List Int) (k e1:Nat):(skS d k e1).length=384*k∧Byt (skS d k e1):=by
 obtain ⟨p1,p2⟩:=pkV_len (sK_fit d k e1)
 rw [sK_len] at p1
 exact ⟨p1,p2⟩
theorem pkS_rd (d:List Int) (k e1:Nat) (M:List PL):rdV (pkS d k e1 M) 12 (32*12) k 0 []=(tK d k e1 M,true):=by
 have l1:(tK d k e1 M).length=k:=tV_len _ _ _ _
 have rv:=rdV_pk (rhoV d k) (tK d k e1 M) [] 0 [] (tV_fit _ _ _ _) rfl
 rw [l1] at rv
 exact rv
theorem skS_rd (d:List Int) (k e1:Nat):rdV (skS d k e1) 12 (32*12) k 0 []=(sK d k e1,true):=by
 have rv:=rdV_pk [] (sK d k e1) [] 0 [] (sK_fit d k e1) rfl
 rw [sK_len,List.append_nil] at rv
 exact rv
theorem pkS_drop (d:List Int) (k e1:Nat) (M:List PL):(pkS d k e1 M).drop (384*k)=rhoV d k:=by
 obtain ⟨p1,_⟩:=pkV_len (v:=tK d k e1 M) (tV_fit _ _ _ _)
 have l1:(tK d k e1 M).length=k:=tV_len _ _ _ _
 rw [l1] at p1
 unfold pkS
 rw [← p1,List.drop_left]
theorem keysV_some {d:List Int}{k e1:Nat}{M:List PL}(hM:matF (pt (rhoV d k)) k k 0 []=some M):keysV d k e1=(pkS d k e1 M,skS d k e1,0):=by
 unfold keysV
 rw [hM]
 rfl
theorem keysV_none {d:List Int}{k e1:Nat}(hM:matF (pt (rhoV d k)) k k 0 []=none):keysV d k e1=([],[],12):=by
 unfold keysV
 rw [hM]
theorem kemKeys {k e1 e2 du dv:Nat}(hx:KX k e1 e2 du dv) {d z:List Int}(ld:d.length=32) (lz:z.length=32) :
  (matF (pt (rhoV d k)) k k 0 []=none→kem_Keys.f 60000 (k:Int) (e1:Int) (e2:Int) (du:Int) (dv:Int) d z=some ([],[],12))∧
  ∀ M,matF (pt (rhoV d k)) k k 0 []=some M→kem_Keys.f 60000 (k:Int) (e1:Int) (e2:Int) (du:Int) (dv:Int) d z=some (pkS d k e1 M,skS d k e1++(pkS d k e1 M++(hV (pkS d k e1 M)++z)),0):=by
 obtain ⟨k2,k4,_⟩:=hx.bd
 have hk:=kKeys hx ld
 have hz:=jSizes hx
 constructor
 ·intro hM
  rw [keysV_none hM] at hk
  rw [jKeys_E]
  exact (keys_good (h:=[]) (j:=[]) hz (by omega) ld lz hk (fun h=>absurd h (by decide)) (fun h=>absurd h (by decide))).trans (congrArg some (if_neg (by decide)))
 ·intro M hM
  rw [keysV_some hM] at hk
  obtain ⟨l1,_⟩:=pkS_len d k e1 M
  obtain ⟨l2,_⟩:=skS_len d k e1
  obtain ⟨l3,_⟩:=hV_len (pkS d k e1 M)
  rw [jKeys_E]
  exact (keys_good hz (by omega) ld lz hk (fun _=>jDigest (by omega)) (fun _=>jJoin4 (by omega))).trans (congrArg some (if_pos rfl))
theorem kemAll {k e1 e2 du dv:Nat}(hx:KX k e1 e2 du dv) {d z:List Int}(lz:z.length=32) (hz:Byt z) {M:List PL}(hM:matF (pt (rhoV d k)) k k 0 []=some M) :
  ∃ E:List Int→List Int→List Int,(∀ rnd,Byt rnd→rnd.length=32→kem_Seal.f 60000 (k:Int) (e1:Int) (e2:Int) (du:Int) (dv:Int) (pkS d k e1 M) rnd=some ((dV rnd (hV (pkS d k e1 M))).take 32,E rnd ((dV rnd (hV (pkS d k e1 M))).drop 32),0)∧(E rnd ((dV rnd (hV (pkS d k e1 M))).drop 32)).length=32*(du*k+dv)∧Byt (E rnd ((dV rnd (hV (pkS d k e1 M))).drop 32)))∧
   (∀ a2,Byt a2→a2.length=32*(du*k+dv)→kem_Open.f 60000 (k:Int) (e1:Int) (e2:Int) (du:Int) (dv:Int) (skS d k e1++(pkS d k e1 M++(hV (pkS d k e1 M)++z))) a2=some (if decide (E (decV (sK d k e1) a2 k du dv) ((dV (decV (sK d k e1) a2 k du dv) (hV (pkS d k e1 M))).drop 32)=a2)=true then (dV (decV (sK d k e1) a2 k du dv) (hV (pkS d k e1 M))).take 32 else oV z a2,0))∧
   ∀ a2:List Int,a2.length≠32*(du*k+dv)→kem_Open.f 60000 (k:Int) (e1:Int) (e2:Int) (du:Int) (dv:Int) (skS d k e1++(pkS d k e1 M++(hV (pkS d k e1 M)++z))) a2=some ([],14):=by
 obtain ⟨k2,k4,d1,d2,v1,v2⟩:=hx.bd
 have hb1:du*k≤11*4:=Nat.mul_le_mul (by omega) k4
 obtain ⟨lp,bp⟩:=pkS_len d k e1 M
 obtain ⟨ls,bs⟩:=skS_len d k e1
 obtain ⟨lh,bh⟩:=hV_len (pkS d k e1 M)
 have rp:=pkS_rd d k e1 M
 have rs:=skS_rd d k e1
 have ft:FL (tK d k e1 M):=tV_fit _ _ _ _
 have lt:(tK d k e1 M).length=k:=tV_len _ _ _ _
 obtain ⟨_,_,m3⟩:=matF_some (pt_good (rhoV d k)) k 0 [] M hM (fun r h=>by cases h)
 obtain ⟨C,hC0⟩:=matF_ok (g:=fun i j=>pt (rhoV d k) j i) (k:=k) k 0 [] (fun p q _ hp hq=>m3 q p (by omega) (by omega) (by omega))
 have hC:matF (fun i j=>pt ((pkS d k e1 M).drop (384*k)) j i) k k 0 []=some C:=by rw [pkS_drop]; exact hC0
 have hg:=jGood hx bp lp rp
 have hdi:=jDigest (b:=pkS d k e1 M) (by omega)
 have hsz:=jSizes hx
 have hd0:=kDec_nil hx bs ls rs
 have hsm:bits_Same.f 60000 (hV (pkS d k e1 M)) (hV (pkS d k e1 M))=some true:=by rw [jSame bh bh (by omega),decide_eq_true rfl]
 generalize hV (pkS d k e1 M)=h at lh bh hdi hsm ⊢
 refine ⟨fun m r=>encV (tK d k e1 M) C m r k e1 e2 du dv,fun rnd hr lr=>?_,fun a2 b2 l2=>?_,fun a2 l2=>?_⟩
 ·obtain ⟨lg,bg⟩:=dV_len rnd h
  have en:=kEncryptG hx bp lp rp ft lt (m:=rnd) (rnd:=(dV rnd h).drop 32) hr lr (by rw [List.length_drop]; omega) hC
  have sz:=encV_size hx (tK d k e1 M) C rnd ((dV rnd h).drop 32)
  refine ⟨?_,sz⟩
  rw [jSeal_E]
  exact seal_good hsz (by omega) hg lr hdi (jJoin2 (by omega)) (jSum5 (by omega)) lg en
 ·have dd:=kDecryptG hx bs ls rs (sK_fit d k e1) (sK_len d k e1) b2 l2
  have ld:=decV_len (k:=k) (du:=du) (dv:=dv) (sK d k e1) a2
  have bd:Byt (decV (sK d k e1) a2 k du dv):=(packV_size (d:=1) (by decide) (by decide) (bel_sqz 1 _)).2
  generalize decV (sK d k e1) a2 k du dv=m at dd ld bd ⊢
  obtain ⟨lg,bg⟩:=dV_len m h
  have en:=kEncryptG hx bp lp rp ft lt (m:=m) (rnd:=(dV m h).drop 32) bd ld (by rw [List.length_drop]; omega) hC
  have sz:=encV_size hx (tK d k e1 M) C m ((dV m h).drop 32)
  have sm:=jSame (a:=encV (tK d k e1 M) C m ((dV m h).drop 32) k e1 e2 du dv) (b:=a2) sz.2 b2 (by rw [sz.1]; omega)
  rw [jOpen_E]
  refine (open_parse hsz (by omega) (by omega) (by omega) rfl ls lp lh lz).trans ?_
  exact open_good hd0 (by decide) hg hdi hsm l2 dd (jJoin2 (by omega)) (jSum5 (by omega)) lg en sm (jJoin2 (by omega)) (jSum7 (by omega))
 ·rw [jOpen_E]
  refine (open_parse hsz (by omega) (by omega) (by omega) rfl ls lp lh lz).trans ?_
  exact open_14 hd0 (by decide) hg hdi hsm l2
theorem jsub_lA (a:Arr 32):subL (lA a) 0 32=lA a:=by
 have l:(lA a).length=32:=lA_len a
 unfold subL
 simp [l]
 exact List.take_of_length_le (by rw [l]; decide)
theorem jbyt_lA {n:Nat}{a:Arr n}(h:InA .u8 a):Byt (lA a):=fun x hx=>h x hx
theorem kind27 (a0:Int) (h:InR .u8 a0):∃ k e1 e2 du dv:Nat,KX k e1 e2 du dv∧law27_kind.f 60000 (irem .u8 a0 3) 0 0 0 0 0=some ((k:Int),(e1:Int),(e2:Int),(du:Int),(dv:Int)):=by
 have h0:0≤a0∧a0≤255:=h
 have e:irem .u8 a0 3=a0%3:=by unfold irem; rw [tmodN h0.1]
 rw [e]
 have h3:a0%3=0∨a0%3=1∨a0%3=2:=by omega
 rcases h3 with h3 | h3 | h3<;>rw [h3]
 ·exact ⟨2,3,2,10,4,.inl ⟨rfl,rfl,rfl,rfl,rfl⟩,rfl⟩
 ·exact ⟨3,2,2,10,4,.inr (.inl ⟨rfl,rfl,rfl,rfl,rfl⟩),rfl⟩
 ·exact ⟨4,2,2,11,5,.inr (.inr ⟨rfl,rfl,rfl,rfl,rfl⟩),rfl⟩
theorem awake27:law27_awake.f 60000=some true:=by decide +kernel
end Go.Proofs.YtemdbgmldljbpaaDoor
