/- own -/
import Derived.Test.YtemdbgmldljbpaaGreatDoorJc
import Derived.Test.YtemdbgmldljbpaaGreatDoorUm
set_option linter.unusedSimpArgs false
set_option linter.unusedVariables false
set_option maxRecDepth 100000
namespace Go.Proofs.YtemdbgmldljbpaaGreatDoor
open Go Go.Mx
def ropenT (De:List Int→List Int→Option (List Int × Int)) (Go:List Int→Option Bool) (Di:List Int→Option (List Int)) (Sm:List Int→List Int→Option Bool) (Gg J3:List Int→List Int→Option (List Int)) (S7:List Int→Option (List Int × Int)) (En:List Int→List Int→List Int→Option (List Int × Int)) (sk pk th z:List Int) (r4:Int) (a2:List Int):Option (List Int × Int):=
 (De sk ([]:List Int)).bind fun (r8,r9)=>if r9=10 then (some (([]:List Int),10)) else ((Go pk).bind fun r10=>if r10=true then ((Di pk).bind fun r11=>(Sm r11 th).bind fun r12=>if r12=true then (if (a2.length:Int)=r4 then ((De sk a2).bind fun (r13,r14)=>(Gg r13 th).bind fun r15=>if 0≤(32:Int) then (if (32:Int)≤(r15.length:Int) then (if (r15.length:Int)≤r15.length then ((En pk r13 (subL r15 32 (r15.length:Int))).bind fun (r17,r18)=>if r18=0 then ((Sm r17 a2).bind fun r19=>if r19=true then (if 0≤(0:Int) then (if (0:Int)≤(32:Int) then (if (32:Int)≤r15.length then (some ((subL r15 0 32),0)) else none) else none) else none) else ((J3 z a2).bind fun r23=>(S7 r23).bind fun (r24,r25)=>some (r24,0))) else (some (([]:List Int),r18))) else none) else none) else none) else (some (([]:List Int),14))) else (some (([]:List Int),10))) else (some (([]:List Int),10)))
def ropenE (Sz:Option (Int × Int × Int)) (De:List Int→List Int→Option (List Int × Int)) (Go:List Int→Option Bool) (Di:List Int→Option (List Int)) (Sm:List Int→List Int→Option Bool) (Gg J3:List Int→List Int→Option (List Int)) (S7:List Int→Option (List Int × Int)) (En:List Int→List Int→List Int→Option (List Int × Int)) (a1 a2:List Int):Option (List Int × Int):=
 Sz.bind fun (r2,r3,r4)=>if r2=0 then (some (([]:List Int),9)) else (if (a1.length:Int)=(iadd .i64 (iadd .i64 r2 r3) 64) then (if 0≤(0:Int) then (if (0:Int)≤r3 then (if r3≤a1.length then (if 0≤r3 then (if r3≤(iadd .i64 r2 r3) then (if (iadd .i64 r2 r3)≤a1.length then (if 0≤(iadd .i64 r2 r3) then (if (iadd .i64 r2 r3)≤(iadd .i64 (iadd .i64 r2 r3) 32) then (if (iadd .i64 (iadd .i64 r2 r3) 32)≤a1.length then ((De (subL a1 0 r3) ([]:List Int)).bind fun (r8,r9)=>if r9=10 then (some (([]:List Int),10)) else ((Go (subL a1 r3 (iadd .i64 r2 r3))).bind fun r10=>if r10=true then ((Di (subL a1 r3 (iadd .i64 r2 r3))).bind fun r11=>(Sm r11 (subL a1 (iadd .i64 r2 r3) (iadd .i64 (iadd .i64 r2 r3) 32))).bind fun r12=>if r12=true then (if (a2.length:Int)=r4 then ((De (subL a1 0 r3) a2).bind fun (r13,r14)=>(Gg r13 (subL a1 (iadd .i64 r2 r3) (iadd .i64 (iadd .i64 r2 r3) 32))).bind fun r15=>if 0≤(32:Int) then (if (32:Int)≤(r15.length:Int) then (if (r15.length:Int)≤r15.length then ((En (subL a1 r3 (iadd .i64 r2 r3)) r13 (subL r15 32 (r15.length:Int))).bind fun (r17,r18)=>if r18=0 then ((Sm r17 a2).bind fun r19=>if r19=true then (if 0≤(0:Int) then (if (0:Int)≤(32:Int) then (if (32:Int)≤r15.length then (some ((subL r15 0 32),0)) else none) else none) else none) else (if 0≤(iadd .i64 (iadd .i64 r2 r3) 32) then (if (iadd .i64 (iadd .i64 r2 r3) 32)≤(a1.length:Int) then (if (a1.length:Int)≤a1.length then ((J3 (subL a1 (iadd .i64 (iadd .i64 r2 r3) 32) (a1.length:Int)) a2).bind fun r23=>(S7 r23).bind fun (r24,r25)=>some (r24,0)) else none) else none) else none)) else (some (([]:List Int),r18))) else none) else none) else none) else (some (([]:List Int),14))) else (some (([]:List Int),10))) else (some (([]:List Int),10)))) else none) else none) else none) else none) else none) else none) else none) else none) else none) else (some (([]:List Int),10)))
theorem sub_t {g:List Int} : subL g 0 32=g.take 32:=(g_sub g 0 32).trans (List.drop_zero ..)
theorem sub_d {g:List Int} : subL g 32 ((g.length:Nat):Int)=g.drop 32:=by
 have:=g_sub g 32 g.length
 rw [List.take_length] at this
 exact this
theorem sh_take {g:List Int}(lg:g.length=64) (bg:Byt g):Sh (g.take 32):=⟨by rw [List.length_take]; omega,fun x hx=>bg x (List.mem_of_mem_take hx)⟩
section
variable {De De' : List Int → List Int → Option (List Int × Int)} {Go Go' : List Int → Option Bool} {Di Di' : List Int → Option (List Int)} {Sm Sm' : List Int → List Int → Option Bool} {J2 J3 J3' Gg : List Int → List Int → Option (List Int)} {S5 S7 S7' : List Int → Option (List Int × Int)} {En En' : List Int → List Int → List Int → Option (List Int × Int)} {Sz Sz' : Option (Int × Int × Int)} {Kn : Option Bool} {Ke Ke' : Option (List Int × List Int × Int)} {J4 J4' : List Int → List Int → List Int → List Int → Option (List Int)} {a1 a2 sk pk th z : List Int} {p n c : Nat}
theorem ropen_9 {q r:Int}(h:Sz=some (0,q,r)):ropenE Sz De Go Di Sm Gg J3 S7 En a1 a2=some ([],9):=by
 subst h
 rfl
theorem ropen_10 {r:Int}(hs:Sz=some ((p:Int),(n:Int),r)) (hp:0<p) (hn:n<10000) (hp2:p<10000) (hl:a1.length≠n+p+64):ropenE Sz De Go Di Sm Gg J3 S7 En a1 a2=some ([],10):=by
 subst hs
 have c0:¬ (p:Int)=0:=by omega
 have e0:iadd .i64 (iadd .i64 (p:Int) (n:Int)) 64=((n+p+64:Nat):Int):=by
  rw [add64 (x:=(p:Int)) (by omega) (by omega),add64 (by omega) (by omega)]
  omega
 have c1:¬ ((a1.length:Nat):Int)=((n+p+64:Nat):Int):=by omega
 unfold ropenE
 simp only [Option.bind_some,c0,e0,c1,if_false]
theorem ropen_parse {r:Int}(hs:Sz=some ((p:Int),(n:Int),r)) (hp:0<p) (hn:n<10000) (hp2:p<10000) (ha:a1=sk++(pk++(th++z))) (l1:sk.length=n) (l2:pk.length=p) (l3:th.length=32) (l4:z.length=32) :
  ropenE Sz De Go Di Sm Gg J3 S7 En a1 a2=ropenT De Go Di Sm Gg J3 S7 En sk pk th z r a2:=by
 have la:a1.length=n+p+64:=by rw [ha]; simp only [List.length_append]; omega
 have e2:iadd .i64 (p:Int) (n:Int)=((n+p:Nat):Int):=by rw [add64 (by omega) (by omega)]; omega
 have e1:iadd .i64 ((n+p:Nat):Int) 64=((n+p+64:Nat):Int):=by rw [add64 (by omega) (by omega)]; omega
 have e3:iadd .i64 ((n+p:Nat):Int) 32=((n+p+32:Nat):Int):=by rw [add64 (by omega) (by omega)]; omega
 have s1:subL a1 (0:Int) (n:Int)=sk:=by
  have:=sub_in [] sk (pk++(th++z)) (i:=0) (j:=n) rfl (by omega)
  rw [ha]
  exact this
 have s2:subL a1 (n:Int) ((n+p:Nat):Int)=pk:=by rw [ha]; exact sub_in sk pk (th++z) l1 (by omega)
 have s3:subL a1 ((n+p:Nat):Int) ((n+p+32:Nat):Int)=th:=by
  have:=sub_in (sk++pk) th z (i:=n+p) (j:=n+p+32) (by rw [List.length_append]; omega) (by omega)
  rw [ha,← List.append_assoc]
  exact this
 have s4:subL a1 ((n+p+32:Nat):Int) ((a1.length:Nat):Int)=z:=by
  have:=sub_at (sk++(pk++th)) z (i:=n+p+32) (j:=((a1.length:Nat):Int)) (by simp only [List.length_append]; omega) (by simp only [List.length_append]; omega)
  rw [← List.append_assoc,← List.append_assoc] at ha
  rw [← List.append_assoc,← ha] at this
  exact this
 subst hs
 have c0:¬ (p:Int)=0:=by omega
 have c1:((a1.length:Nat):Int)=((n+p+64:Nat):Int):=by omega
 have z0:(0:Int)≤0:=by decide
 have z1:(0:Int)≤(n:Int):=by omega
 have z2:(n:Int)≤((a1.length:Nat):Int):=by omega
 have z3:(n:Int)≤((n+p:Nat):Int):=by omega
 have z4:((n+p:Nat):Int)≤((a1.length:Nat):Int):=by omega
 have z5:(0:Int)≤((n+p:Nat):Int):=by omega
 have z6:((n+p:Nat):Int)≤((n+p+32:Nat):Int):=by omega
 have z7:((n+p+32:Nat):Int)≤((a1.length:Nat):Int):=by omega
 have z8:(0:Int)≤((n+p+32:Nat):Int):=by omega
 have z9:((a1.length:Nat):Int)≤((a1.length:Nat):Int):=Int.le_refl _
 unfold ropenE
 simp only [Option.bind_some,c0,if_false,e2,e1]
 rw [if_pos c1]
 simp only [e3,s1,s2,s3,s4,z0,z1,z2,z3,z4,z5,z6,z7,z8,z9,if_true]
 rfl
theorem openT_both (h1:∀ s t,Byt s→Byt t→∃ v,De s t=some v∧De' s t=some v∧Sh v.1) (h2:∀ s,Byt s→∃ g,Go s=some g∧Go' s=some g) (h3:∀ s,Sh s→∃ h,Di s=some h∧Di' s=some h∧Sh h) (h4:∀ s t,Sh s→Sh t→∃ x,Sm s t=some x∧Sm' s t=some x) (h5:∀ m t,Sh m→t.length≤300→Byt t→∃ mt g e,J2 m t=some mt∧S5 mt=some (g,e)∧Gg m t=some g∧g.length=64∧Byt g) (h6:∀ s m r,Byt s→Byt m→∃ v,En s m r=some v∧En' s m r=some v∧Sh v.1) (h7:∀ z c,Sh z→z.length≤300→Sh c→∃ za o e,J3 z c=some za∧S7 za=some (o,e)∧J3' z c=some za∧S7' za=some (o,e)∧Sh o) (b1:Sh sk) (b2:Sh pk) (b3:Sh th) (l3:th.length=32) (b4:Sh z) (l4:z.length=32) (b5:Sh a2) (r:Int) :
  ∃ o,openT De Go Di Sm J2 J3 S5 S7 En sk pk th z r a2=some o∧ropenT De' Go' Di' Sm' Gg J3' S7' En' sk pk th z r a2=some o∧Sh o.1:=by
 obtain ⟨⟨d0,e0⟩,q1,q2,_⟩:=h1 sk [] b1.2 Byt.nil
 unfold openT ropenT
 simp only [q1,q2,Option.bind_some]
 by_cases h10:e0=10
 ·rw [if_pos h10,if_pos h10]
  exact ⟨_,rfl,rfl,sh_nil⟩
 rw [if_neg h10,if_neg h10]
 obtain ⟨g,q3,q4⟩:=h2 pk b2.2
 simp only [q3,q4,Option.bind_some]
 cases g with
 | false=>exact ⟨_,rfl,rfl,sh_nil⟩
 | true=>
 obtain ⟨hh,q5,q6,bh⟩:=h3 pk b2
 obtain ⟨x,q7,q8⟩:=h4 hh th bh b3
 simp only [q5,q6,q7,q8,Option.bind_some,if_true]
 cases x with
 | false=>exact ⟨_,rfl,rfl,sh_nil⟩
 | true=>
 simp only [if_true]
 by_cases hc:(a2.length:Int)=r
 case neg=>
  rw [if_neg hc,if_neg hc]
  exact ⟨_,rfl,rfl,sh_nil⟩
 rw [if_pos hc,if_pos hc]
 obtain ⟨⟨m,em⟩,q9,q10,bm⟩:=h1 sk a2 b1.2 b5.2
 obtain ⟨mt,gg,e5,w1,w2,w3,lg,bg⟩:=h5 m th bm (by omega) b3.2
 obtain ⟨⟨c',ec⟩,w4,w5,bc⟩:=h6 pk m (gg.drop 32) b2.2 bm.2
 have z0:(0:Int)≤0:=by decide
 have z1:(0:Int)≤32:=by decide
 have z2:(32:Int)≤32:=by decide
 have z3:(32:Int)≤((gg.length:Nat):Int):=by omega
 have z4:((gg.length:Nat):Int)≤((gg.length:Nat):Int):=Int.le_refl _
 simp only [q9,q10,w1,w2,w3,w4,w5,sub_t,sub_d,z0,z1,z2,z3,z4,Option.bind_some,if_true]
 by_cases he:ec=0
 case neg=>
  rw [if_neg he,if_neg he]
  exact ⟨_,rfl,rfl,sh_nil⟩
 rw [if_pos he,if_pos he]
 obtain ⟨y,w6,w7⟩:=h4 c' a2 bc b5
 obtain ⟨za,o,eo,w8,w9,w10,w11,bo⟩:=h7 z a2 b4 (by omega) b5
 simp only [w6,w7,Option.bind_some]
 cases y with
 | true=>exact ⟨_,rfl,rfl,sh_take lg bg⟩
 | false=>
  simp only [w8,w9,w10,w11,Option.bind_some,Bool.false_eq_true,if_false]
  exact ⟨_,rfl,rfl,bo⟩
end
end Go.Proofs.YtemdbgmldljbpaaGreatDoor

/- own -/
set_option linter.unusedSimpArgs false
set_option linter.unusedVariables false
set_option maxRecDepth 100000
namespace Go.Proofs.YtemdbgmldljbpaaGreatDoor
open Go Go.Mx
theorem rOpen_E (a b c d e:Int) (x y:List Int):ref27_Open.f 60000 a b c d e x y=ropenE (ref26_Sizes.f 60000 a b c d e) (fun s t=>ref26_Decrypt.f 60000 a b c d e s t) (fun s=>ref27_such.f 60000 a b c d e s) (fun s=>ref27_h.f 60000 s) (fun s t=>ref01_Same.f 60000 s t) (fun s t=>ref27_g.f 60000 s t) (fun s t=>ref01_Join.f 60000 [s,t]) (fun s=>ref08_Sum.f 60000 7 s 32) (fun s t u=>ref26_Encrypt.f 60000 a b c d e s t u) x y:=by
 unfold ref27_Open.f ropenE
 rfl
theorem rDigest {b:List Int}(h:b.length≤14000):ref27_h.f 60000 b=some (hV b):=by
 have s:=rSum 4 b h 32 (.inl (by decide))
 unfold ref27_h.f
 rw [s]
 rfl
theorem rG {m h:List Int}(hl:m.length+h.length≤14000):ref27_g.f 60000 m h=some (dV m h):=by
 have j:=jn2 m h (by omega)
 have s:=rSum 5 (m++h) (by rw [List.length_append]; exact hl) 64 (.inl (by decide))
 unfold ref27_g.f
 rw [j]
 simp only [Option.bind_some]
 rw [s]
 rfl
theorem good_core {X Y:Option (List Int × Int)}{v:List Int × Int}(h1:X=some v) (h2:Y=some v):∃ g,(X.bind fun (r2,r3)=>some (r3 == (14:Int)))=some g∧(Y.bind fun (r2,r3)=>some (r3 == (14:Int)))=some g:=by
 subst h1 h2
 exact ⟨_,rfl,rfl⟩
theorem goodBoth (a b c d e:Int) {s:List Int}(hs:Byt s):∃ g,kem_good.f 60000 a b c d e s=some g∧ref27_such.f 60000 a b c d e s=some g:=by
 obtain ⟨v,h1,h2,_⟩:=encBoth (a:=a) (b:=b) (c:=c) (d:=d) (e:=e) (pk:=s) (m:=[]) (rnd:=[]) hs Byt.nil
 unfold kem_good.f ref27_such.f
 exact good_core h1 h2
theorem h5Both {m t:List Int}(hm:Sh m) (lt:t.length≤300) (bt:Byt t):∃ mt g e,bits_Join.f 60000 [m,t]=some mt∧keccak_Sum.f 60000 5 mt 64=some (g,e)∧ref27_g.f 60000 m t=some g∧g.length=64∧Byt g:=by
 have lm:=hm.1
 obtain ⟨lg,bg⟩:=dV_len m t
 exact ⟨_,_,_,jJoin2 (by omega),jSum5 (by omega),rG (by omega),lg,bg⟩
theorem h7Both {z c:List Int}(lz:z.length≤300) (hc:Sh c):∃ za o e,bits_Join.f 60000 [z,c]=some za∧keccak_Sum.f 60000 7 za 32=some (o,e)∧ref01_Join.f 60000 [z,c]=some za∧ref08_Sum.f 60000 7 za 32=some (o,e)∧Sh o:=by
 have lc:=hc.1
 obtain ⟨lo,bo⟩:=oV_len z c
 have r:=rSum 7 (z++c) (by rw [List.length_append]; omega) 32 (.inl (by decide))
 exact ⟨_,_,_,jJoin2 (by omega),jSum7 (by omega),jn2 z c (by omega),r,by rw [lo]; decide,bo⟩
theorem sameBoth {s t:List Int}(hs:Sh s) (ht:Sh t):∃ x,bits_Same.f 60000 s t=some x∧ref01_Same.f 60000 s t=some x:=by
 have l:=hs.1
 exact ⟨_,jSame hs.2 ht.2 (by omega),jsame_eq 60000 s t (by omega) (by omega)⟩
theorem digBoth {s:List Int}(h:s.length<10000):∃ x,kem_digest.f 60000 s=some x∧ref27_h.f 60000 s=some x∧Sh x∧x.length≤300:=by
 obtain ⟨l,b⟩:=hV_len s
 exact ⟨_,jDigest (by omega),rDigest (by omega),⟨by rw [l]; decide,b⟩,by rw [l]; decide⟩
theorem jSizes_bad {a b c d e:Int}(h:kindB a b c d e=false):kem_Sizes.f 60000 a b c d e=some (0,0,0):=by
 have s:=sizes_bad h
 unfold kem_Sizes.f
 rw [s]
 rfl
theorem parts4 {x:List Int}{n p:Nat}(h:x.length=n+p+64):∃ sk pk th z:List Int,x=sk++(pk++(th++z))∧sk.length=n∧pk.length=p∧th.length=32∧z.length=32:=by
 refine ⟨x.take n,(x.drop n).take p,((x.drop n).drop p).take 32,((x.drop n).drop p).drop 32,?_,?_,?_,?_,?_⟩
 ·rw [List.take_append_drop,List.take_append_drop,List.take_append_drop]
 ·rw [List.length_take]; omega
 ·rw [List.length_take,List.length_drop]; omega
 ·rw [List.length_take,List.length_drop,List.length_drop]; omega
 ·rw [List.length_drop,List.length_drop,List.length_drop]; omega
theorem openBoth27 {a b c d e:Int}{x y:List Int}(hx:Byt x) (lx:x.length≤8000) (hy:Byt y) (ly:y.length≤8000):∃ o,kem_Open.f 60000 a b c d e x y=some o∧ref27_Open.f 60000 a b c d e x y=some o∧Sh o.1:=by
 rw [jOpen_E,rOpen_E]
 by_cases h:kindB a b c d e=true
 ·obtain ⟨k,e1,e2,du,dv,hk,rfl,rfl,rfl,rfl,rfl⟩:=kindB_KX h
  obtain ⟨k2,k4,_⟩:=hk.bd
  have s1:=jSizes hk
  have s2:ref26_Sizes.f 60000 (k:Int) (e1:Int) (e2:Int) (du:Int) (dv:Int)=some (((384*k+32:Nat):Int),((384*k:Nat):Int),((32*(du*k+dv):Nat):Int)):=(sizes_same _ _ _ _ _ _).trans hk.sizes
  by_cases hl:x.length=384*k+(384*k+32)+64
  ·obtain ⟨sk,pk,th,z,hp,l1,l2,l3,l4⟩:=parts4 hl
   have b1:Byt sk:=fun v hv=>hx v (by rw [hp]; simp [hv])
   have b2:Byt pk:=fun v hv=>hx v (by rw [hp]; simp [hv])
   have b3:Byt th:=fun v hv=>hx v (by rw [hp]; simp [hv])
   have b4:Byt z:=fun v hv=>hx v (by rw [hp]; simp [hv])
   obtain ⟨o,o1,o2,o3⟩:=openT_both (De:=fun s t=>kpke_Decrypt.f 60000 (k:Int) (e1:Int) (e2:Int) (du:Int) (dv:Int) s t) (De':=fun s t=>ref26_Decrypt.f 60000 (k:Int) (e1:Int) (e2:Int) (du:Int) (dv:Int) s t) (Go:=fun s=>kem_good.f 60000 (k:Int) (e1:Int) (e2:Int) (du:Int) (dv:Int) s) (Go':=fun s=>ref27_such.f 60000 (k:Int) (e1:Int) (e2:Int) (du:Int) (dv:Int) s) (Di:=fun s=>kem_digest.f 60000 s) (Di':=fun s=>ref27_h.f 60000 s) (Sm:=fun s t=>bits_Same.f 60000 s t) (Sm':=fun s t=>ref01_Same.f 60000 s t) (J2:=fun s t=>bits_Join.f 60000 [s,t]) (J3:=fun s t=>bits_Join.f 60000 [s,t]) (J3':=fun s t=>ref01_Join.f 60000 [s,t]) (Gg:=fun s t=>ref27_g.f 60000 s t) (S5:=fun s=>keccak_Sum.f 60000 5 s 64) (S7:=fun s=>keccak_Sum.f 60000 7 s 32) (S7':=fun s=>ref08_Sum.f 60000 7 s 32) (En:=fun s t u=>kpke_Encrypt.f 60000 (k:Int) (e1:Int) (e2:Int) (du:Int) (dv:Int) s t u) (En':=fun s t u=>ref26_Encrypt.f 60000 (k:Int) (e1:Int) (e2:Int) (du:Int) (dv:Int) s t u) (sk:=sk) (pk:=pk) (th:=th) (z:=z) (a2:=y)
    (fun s t hs ht=>decBoth hs ht) (fun s hs=>goodBoth _ _ _ _ _ hs) (fun s hs=>by obtain ⟨q,q1,q2,q3,_⟩:=digBoth hs.1; exact ⟨q,q1,q2,q3⟩) (fun s t hs ht=>sameBoth hs ht) (fun m t hm lt bt=>h5Both hm lt bt) (fun s m r hs hm=>encBoth hs hm) (fun z c _ lz hc=>h7Both lz hc) ⟨by omega,b1⟩ ⟨by omega,b2⟩ ⟨by omega,b3⟩ l3 ⟨by omega,b4⟩ l4 ⟨by omega,hy⟩ ((32*(du*k+dv):Nat):Int)
   exact ⟨o,(open_parse s1 (by omega) (by omega) (by omega) hp l1 l2 l3 l4).trans o1,(ropen_parse s2 (by omega) (by omega) (by omega) hp l1 l2 l3 l4).trans o2,o3⟩
  ·exact ⟨_,open_10 s1 (by omega) hl,ropen_10 s2 (by omega) (by omega) (by omega) hl,sh_nil⟩
 ·have h':kindB a b c d e=false:=by simpa using h
  exact ⟨_,open_9 (jSizes_bad h'),ropen_9 ((sizes_same 60000 a b c d e).trans (sizes_bad h')),sh_nil⟩
theorem jset_some (K:Nat) (k:Int):∃ s,ref26_Set.f K k=some s:=by
 rw [set_same]
 unfold kpke_Set.f
 by_cases h1:k=512
 ·rw [if_pos h1]; exact ⟨_,rfl⟩
 ·rw [if_neg h1]
  by_cases h2:k=768
  ·rw [if_pos h2]; exact ⟨_,rfl⟩
  ·rw [if_neg h2]
   by_cases h3:k=1024
   ·rw [if_pos h3]; exact ⟨_,rfl⟩
   ·rw [if_neg h3]; exact ⟨_,rfl⟩
theorem jkind_core {S:Option (Int × Int × Int × Int × Int × Bool)}{s:Int × Int × Int × Int × Int × Bool}(hs:S=some s) (a b c d e:Int):∃ p0 p1 p2 p3 p4,(S.bind fun (r5_0,r5_1,r5_2,r5_3,r5_4,r6)=>if r6=true then (some (r5_0,r5_1,r5_2,r5_3,r5_4)) else (some (a,b,c,d,e)))=some (p0,p1,p2,p3,p4):=by
 subst hs
 obtain ⟨q0,q1,q2,q3,q4,q5⟩:=s
 cases q5
 ·exact ⟨a,b,c,d,e,rfl⟩
 ·exact ⟨q0,q1,q2,q3,q4,rfl⟩
theorem kind_any27 {a0:Int}(h:InR .u8 a0) (a b c d e:Int):∃ p0 p1 p2 p3 p4,law27_kind.f 60000 a0 a b c d e=some (p0,p1,p2,p3,p4):=by
 have h0:0≤a0∧a0≤255:=h
 have er:irem .u8 a0 4=a0%4:=by unfold irem; rw [tmodN h0.1]
 have c0:0≤a0%4:=by omega
 have c1:a0%4<((([512,768,1024,0]:List Int).length:Nat):Int):=by show a0%4<4; omega
 obtain ⟨s,hs⟩:=jset_some 60000 (rdL (CI .i64) ([512,768,1024,0]:List Int) (a0%4))
 have core:=jkind_core hs a b c d e
 unfold law27_kind.f
 rw [er,Option.bind_some,if_pos c0,if_pos c1]
 exact core
end Go.Proofs.YtemdbgmldljbpaaGreatDoor
