/- own -/
import Derived.Test.YtemdbgmldljbpaaGreatDoorJc
import Derived.Test.YtemdbgmldljbpaaGreatDoorUm
set_option linter.unusedSimpArgs false
set_option linter.unusedVariables false
set_option maxRecDepth 100000
namespace Go.Proofs.YtemdbgmldljbpaaGreatDoor
open Go Go.Mx
def rsealE (Kn:Option Bool) (Go:List Int→Option Bool) (Di:List Int→Option (List Int)) (Gg:List Int→List Int→Option (List Int)) (En:List Int→List Int→List Int→Option (List Int × Int)) (a1 a2:List Int):Option (List Int × List Int × Int):=
 Kn.bind fun r2=>if r2=true then ((Go a1).bind fun r3=>if r3=true then (if (a2.length:Int)=32 then ((Di a1).bind fun r4=>(Gg a2 r4).bind fun r5=>if 0≤(32:Int) then (if (32:Int)≤(r5.length:Int) then (if (r5.length:Int)≤r5.length then ((En a1 a2 (subL r5 32 (r5.length:Int))).bind fun (r7,r8)=>if r8=0 then (if 0≤(0:Int) then (if (0:Int)≤(32:Int) then (if (32:Int)≤r5.length then (some ((subL r5 0 32),r7,0)) else none) else none) else none) else (some (([]:List Int),([]:List Int),r8))) else none) else none) else none) else (some (([]:List Int),([]:List Int),14))) else (some (([]:List Int),([]:List Int),10))) else (some (([]:List Int),([]:List Int),9))
def rkeysE (Kn:Option Bool) (Ke:Option (List Int × List Int × Int)) (Di:List Int→Option (List Int)) (J4:List Int→List Int→List Int→List Int→Option (List Int)) (a1 a2:List Int):Option (List Int × List Int × Int):=
 Kn.bind fun r2=>if r2=true then (if (a1.length:Int)=32 then (if (a2.length:Int)=32 then (Ke.bind fun (r3,r4,r5)=>if r5=0 then ((Di r3).bind fun r6=>(J4 r4 r3 r6 a2).bind fun r8=>some (r3,r8,0)) else (some (([]:List Int),([]:List Int),r5))) else (some (([]:List Int),([]:List Int),14))) else (some (([]:List Int),([]:List Int),14))) else (some (([]:List Int),([]:List Int),9))
theorem sub_t {g:List Int} : subL g 0 32=g.take 32:=(g_sub g 0 32).trans (List.drop_zero ..)
theorem sub_d {g:List Int} : subL g 32 ((g.length:Nat):Int)=g.drop 32:=by
 have:=g_sub g 32 g.length
 rw [List.take_length] at this
 exact this
theorem sh_take {g:List Int}(lg:g.length=64) (bg:Byt g):Sh (g.take 32):=⟨by rw [List.length_take]; omega,fun x hx=>bg x (List.mem_of_mem_take hx)⟩
section
variable {De De' : List Int → List Int → Option (List Int × Int)} {Go Go' : List Int → Option Bool} {Di Di' : List Int → Option (List Int)} {Sm Sm' : List Int → List Int → Option Bool} {J2 J3 J3' Gg : List Int → List Int → Option (List Int)} {S5 S7 S7' : List Int → Option (List Int × Int)} {En En' : List Int → List Int → List Int → Option (List Int × Int)} {Sz Sz' : Option (Int × Int × Int)} {Kn : Option Bool} {Ke Ke' : Option (List Int × List Int × Int)} {J4 J4' : List Int → List Int → List Int → List Int → Option (List Int)} {a1 a2 sk pk th z : List Int} {p n c : Nat}
theorem seal_both {b:Bool}{P0 q r:Int}(hs:Sz=some (P0,q,r)) (hK:Kn=some b) (hb:b=false↔P0=0) (h2:∀ s,Byt s→∃ g,Go s=some g∧Go' s=some g) (h3:∀ s,Sh s→∃ h,Di s=some h∧Di' s=some h∧Sh h∧h.length≤300) (h5:∀ m t,Sh m→t.length≤300→Byt t→∃ mt g e,J2 m t=some mt∧S5 mt=some (g,e)∧Gg m t=some g∧g.length=64∧Byt g) (h6:∀ s m r,Byt s→Byt m→∃ v,En s m r=some v∧En' s m r=some v∧Sh v.1) (b1:Sh a1) (b2:Sh a2) :
  ∃ o,sealE Sz Go Di J2 S5 En a1 a2=some o∧rsealE Kn Go' Di' Gg En' a1 a2=some o∧Sh o.1∧Sh o.2.1:=by
 subst hs hK
 unfold sealE rsealE
 simp only [Option.bind_some]
 cases b with
 | false=>
  rw [if_pos (hb.1 rfl)]
  exact ⟨_,rfl,rfl,sh_nil,sh_nil⟩
 | true=>
 have hp:¬ P0=0:=fun h=>by cases hb.2 h
 rw [if_neg hp]
 obtain ⟨g,q3,q4⟩:=h2 a1 b1.2
 simp only [q3,q4,Option.bind_some,if_true]
 cases g with
 | false=>exact ⟨_,rfl,rfl,sh_nil,sh_nil⟩
 | true=>
 simp only [if_true]
 by_cases hc:(a2.length:Int)=32
 case neg=>
  rw [if_neg hc,if_neg hc]
  exact ⟨_,rfl,rfl,sh_nil,sh_nil⟩
 rw [if_pos hc,if_pos hc]
 obtain ⟨hh,q5,q6,bh,lh⟩:=h3 a1 b1
 obtain ⟨mt,gg,e5,w1,w2,w3,lg,bg⟩:=h5 a2 hh b2 lh bh.2
 obtain ⟨⟨c',ec⟩,w4,w5,bc⟩:=h6 a1 a2 (gg.drop 32) b1.2 b2.2
 have z0:(0:Int)≤0:=by decide
 have z1:(0:Int)≤32:=by decide
 have z2:(32:Int)≤32:=by decide
 have z3:(32:Int)≤((gg.length:Nat):Int):=by omega
 have z4:((gg.length:Nat):Int)≤((gg.length:Nat):Int):=Int.le_refl _
 simp only [q5,q6,w1,w2,w3,w4,w5,sub_t,sub_d,z0,z1,z2,z3,z4,Option.bind_some,if_true]
 by_cases he:ec=0
 case neg=>
  rw [if_neg he]
  exact ⟨_,rfl,rfl,sh_nil,sh_nil⟩
 rw [if_pos he]
 exact ⟨_,rfl,rfl,sh_take lg bg,bc⟩
theorem keys_both {b:Bool}{P0 q r:Int}{v:List Int × List Int × Int}(hs:Sz=some (P0,q,r)) (hK:Kn=some b) (hb:b=false↔P0=0) (hv:Ke=some v) (hv':Ke'=some v) (l1:v.1.length<10000) (l2:v.2.1.length<10000) (h3:∀ s:List Int,s.length<10000→∃ h,Di s=some h∧Di' s=some h∧h.length≤300) (h8:∀ s t u w:List Int,s.length+(t.length+(u.length+w.length))<50000→J4 s t u w=some (s++(t++(u++w)))∧J4' s t u w=some (s++(t++(u++w)))) :
  ∃ o,keysE Sz Ke Di J4 a1 a2=some o∧rkeysE Kn Ke' Di' J4' a1 a2=some o∧o.1.length<50000∧o.2.1.length<50000:=by
 subst hs hK hv hv'
 obtain ⟨v1,v2,v3⟩:=v
 unfold keysE rkeysE
 simp only [Option.bind_some]
 cases b with
 | false=>
  rw [if_pos (hb.1 rfl)]
  exact ⟨_,rfl,rfl,by show 0<50000; decide,by show 0<50000; decide⟩
 | true=>
 have hp:¬ P0=0:=fun h=>by cases hb.2 h
 rw [if_neg hp]
 simp only [if_true]
 by_cases hc:(a1.length:Int)=32
 case neg=>
  rw [if_neg hc,if_neg hc]
  exact ⟨_,rfl,rfl,by show 0<50000; decide,by show 0<50000; decide⟩
 rw [if_pos hc,if_pos hc]
 by_cases hd:(a2.length:Int)=32
 case neg=>
  rw [if_neg hd,if_neg hd]
  exact ⟨_,rfl,rfl,by show 0<50000; decide,by show 0<50000; decide⟩
 rw [if_pos hd,if_pos hd]
 by_cases he:v3=0
 case neg=>
  rw [if_neg he,if_neg he]
  exact ⟨_,rfl,rfl,by show 0<50000; decide,by show 0<50000; decide⟩
 rw [if_pos he,if_pos he]
 simp only at l1 l2
 obtain ⟨h,q1,q2,lh⟩:=h3 v1 l1
 obtain ⟨q3,q4⟩:=h8 v2 v1 h a2 (by omega)
 simp only [q1,q2,q3,q4,Option.bind_some]
 refine ⟨_,rfl,rfl,by show v1.length<50000; omega,?_⟩
 show (v2++(v1++(h++a2))).length<50000
 simp only [List.length_append]
 omega
end
end Go.Proofs.YtemdbgmldljbpaaGreatDoor

/- own -/
set_option linter.unusedSimpArgs false
set_option linter.unusedVariables false
set_option maxRecDepth 100000
namespace Go.Proofs.YtemdbgmldljbpaaGreatDoor
open Go Go.Mx
theorem rSeal_E (a b c d e:Int) (x y:List Int):ref27_Seal.f 60000 a b c d e x y=rsealE (ref26_Known.f 60000 a b c d e) (fun s=>ref27_such.f 60000 a b c d e s) (fun s=>ref27_h.f 60000 s) (fun s t=>ref27_g.f 60000 s t) (fun s t u=>ref26_Encrypt.f 60000 a b c d e s t u) x y:=by
 unfold ref27_Seal.f rsealE
 rfl
theorem rKeys_E (a b c d e:Int) (x y:List Int):ref27_Keys.f 60000 a b c d e x y=rkeysE (ref26_Known.f 60000 a b c d e) (ref26_Keys.f 60000 a b c d e x) (fun s=>ref27_h.f 60000 s) (fun s t u v=>ref01_Join.f 60000 [s,t,u,v]) x y:=by
 unfold ref27_Keys.f rkeysE
 rfl
theorem jn4K (K:Nat) (x y z u:List Int) (h:x.length+(y.length+(z.length+u.length))≤1000000):ref01_Join.f (K+5) [x,y,z,u]=some (x++(y++(z++u))):=by
 have i0:iadd .i64 0 1=1:=by rw [add64 (by omega) (by omega)]; rfl
 have i1:iadd .i64 1 1=2:=by rw [add64 (by omega) (by omega)]; rfl
 have i2:iadd .i64 2 1=3:=by rw [add64 (by omega) (by omega)]; rfl
 have i3:iadd .i64 3 1=4:=by rw [add64 (by omega) (by omega)]; rfl
 have r0:rdLL [x,y,z,u] 0=x:=rfl
 have r1:rdLL [x,y,z,u] 1=y:=rfl
 have r2:rdLL [x,y,z,u] 2=z:=rfl
 have r3:rdLL [x,y,z,u] 3=u:=rfl
 unfold ref01_Join.f
 rw [jn_l0 (K+5) (K+4) [x,y,z,u] [] 0 (by decide) (by show (0:Int)<4; decide) (by rw [r0,List.length_nil]; omega),i0,r0,
  jn_l0 (K+5) (K+3) [x,y,z,u] _ 1 (by decide) (by show (1:Int)<4; decide) (by rw [r1,List.nil_append]; omega),i1,r1,
  jn_l0 (K+5) (K+2) [x,y,z,u] _ 2 (by decide) (by show (2:Int)<4; decide) (by rw [r2,List.nil_append,List.length_append]; omega),i2,r2,
  jn_l0 (K+5) (K+1) [x,y,z,u] _ 3 (by decide) (by show (3:Int)<4; decide) (by rw [r3,List.nil_append,List.length_append,List.length_append]; omega),i3,r3,jn_end (K+5) K [x,y,z,u] _ 4 (by show ¬ (4:Int)<4; decide)]
 simp
theorem jn4 (x y z u:List Int) (h:x.length+(y.length+(z.length+u.length))≤1000000):ref01_Join.f 60000 [x,y,z,u]=some (x++(y++(z++u))):=jn4K 59995 x y z u h
theorem rDigest {b:List Int}(h:b.length≤14000):ref27_h.f 60000 b=some (hV b):=by
 have s:=rSum 4 b h 32 (.inl (by decide))
 unfold ref27_h.f
 rw [s]
 rfl
theorem rG {m h:List Int}(hl:m.length+h.length≤14000):ref27_g.f 60000 m h=some (dV m h):=by
 have j:=jn2 m h (by omega)
 have s:=rSum 5 (m++h) (by rw [List.length_append]; exact hl) 64 (.inl (by decide))
 unfold ref27_g.f
 rw [j]
 simp only [Option.bind_some]
 rw [s]
 rfl
theorem good_core {X Y:Option (List Int × Int)}{v:List Int × Int}(h1:X=some v) (h2:Y=some v):∃ g,(X.bind fun (r2,r3)=>some (r3 == (14:Int)))=some g∧(Y.bind fun (r2,r3)=>some (r3 == (14:Int)))=some g:=by
 subst h1 h2
 exact ⟨_,rfl,rfl⟩
theorem goodBoth (a b c d e:Int) {s:List Int}(hs:Byt s):∃ g,kem_good.f 60000 a b c d e s=some g∧ref27_such.f 60000 a b c d e s=some g:=by
 obtain ⟨v,h1,h2,_⟩:=encBoth (a:=a) (b:=b) (c:=c) (d:=d) (e:=e) (pk:=s) (m:=[]) (rnd:=[]) hs Byt.nil
 unfold kem_good.f ref27_such.f
 exact good_core h1 h2
theorem h5Both {m t:List Int}(hm:Sh m) (lt:t.length≤300) (bt:Byt t):∃ mt g e,bits_Join.f 60000 [m,t]=some mt∧keccak_Sum.f 60000 5 mt 64=some (g,e)∧ref27_g.f 60000 m t=some g∧g.length=64∧Byt g:=by
 have lm:=hm.1
 obtain ⟨lg,bg⟩:=dV_len m t
 exact ⟨_,_,_,jJoin2 (by omega),jSum5 (by omega),rG (by omega),lg,bg⟩
theorem digBoth {s:List Int}(h:s.length<10000):∃ x,kem_digest.f 60000 s=some x∧ref27_h.f 60000 s=some x∧Sh x∧x.length≤300:=by
 obtain ⟨l,b⟩:=hV_len s
 exact ⟨_,jDigest (by omega),rDigest (by omega),⟨by rw [l]; decide,b⟩,by rw [l]; decide⟩
theorem jSizes_bad {a b c d e:Int}(h:kindB a b c d e=false):kem_Sizes.f 60000 a b c d e=some (0,0,0):=by
 have s:=sizes_bad h
 unfold kem_Sizes.f
 rw [s]
 rfl
theorem sizesB (a b c d e:Int):∃ P0 q r,kem_Sizes.f 60000 a b c d e=some (P0,q,r)∧(kindB a b c d e=false↔P0=0):=by
 by_cases h:kindB a b c d e=true
 ·obtain ⟨k,e1,e2,du,dv,hk,rfl,rfl,rfl,rfl,rfl⟩:=kindB_KX h
  refine ⟨_,_,_,jSizes hk,?_⟩
  rw [h]
  constructor
  ·intro q; cases q
  ·intro q; omega
 ·have h':kindB a b c d e=false:=by simpa using h
  exact ⟨0,0,0,jSizes_bad h',by rw [h']; simp⟩
theorem sealBoth27 {a b c d e:Int}{x y:List Int}(hx:Sh x) (hy:Sh y):∃ o,kem_Seal.f 60000 a b c d e x y=some o∧ref27_Seal.f 60000 a b c d e x y=some o∧Sh o.1∧Sh o.2.1:=by
 obtain ⟨P0,q,r,hs,hb⟩:=sizesB a b c d e
 have hK:ref26_Known.f 60000 a b c d e=some (kindB a b c d e):=rKnown 60000 a b c d e
 rw [jSeal_E,rSeal_E]
 exact seal_both (Go:=fun s=>kem_good.f 60000 a b c d e s) (Go':=fun s=>ref27_such.f 60000 a b c d e s) (Di:=fun s=>kem_digest.f 60000 s) (Di':=fun s=>ref27_h.f 60000 s) (J2:=fun s t=>bits_Join.f 60000 [s,t]) (Gg:=fun s t=>ref27_g.f 60000 s t) (S5:=fun s=>keccak_Sum.f 60000 5 s 64) (En:=fun s t u=>kpke_Encrypt.f 60000 a b c d e s t u) (En':=fun s t u=>ref26_Encrypt.f 60000 a b c d e s t u) hs hK hb (fun s hs=>goodBoth _ _ _ _ _ hs) (fun s hs=>digBoth hs.1) (fun m t hm lt bt=>h5Both hm lt bt) (fun s m r hs hm=>encBoth hs hm) hx hy
theorem keysBoth27 {a b c d e:Int}{x y:List Int} : ∃ o,kem_Keys.f 60000 a b c d e x y=some o∧ref27_Keys.f 60000 a b c d e x y=some o∧o.1.length<50000∧o.2.1.length<50000:=by
 obtain ⟨P0,q,r,hs,hb⟩:=sizesB a b c d e
 have hK:ref26_Known.f 60000 a b c d e=some (kindB a b c d e):=rKnown 60000 a b c d e
 obtain ⟨v,h1,h2,l1,l2⟩:=keysBoth2 (a:=a) (b:=b) (c:=c) (d:=d) (e:=e) (seed:=x)
 rw [jKeys_E,rKeys_E]
 exact keys_both (Di:=fun s=>kem_digest.f 60000 s) (Di':=fun s=>ref27_h.f 60000 s) (J4:=fun s t u v=>bits_Join.f 60000 [s,t,u,v]) (J4':=fun s t u v=>ref01_Join.f 60000 [s,t,u,v]) hs hK hb h1 h2 l1 l2 (fun s hs=>by obtain ⟨q,q1,q2,_,q4⟩:=digBoth hs; exact ⟨q,q1,q2,q4⟩) (fun s t u w hl=>⟨jJoin4 (by omega),jn4 s t u w (by omega)⟩)
theorem sizesBoth27 (a b c d e:Int):∃ v,kem_Sizes.f 60000 a b c d e=some v∧ref27_Sizes.f 60000 a b c d e=some v:=by
 by_cases h:kindB a b c d e=true
 ·obtain ⟨k,e1,e2,du,dv,hk,rfl,rfl,rfl,rfl,rfl⟩:=kindB_KX h
  obtain ⟨k2,k4,_⟩:=hk.bd
  refine ⟨_,jSizes hk,?_⟩
  have s2:ref26_Sizes.f 60000 (k:Int) (e1:Int) (e2:Int) (du:Int) (dv:Int)=some (((384*k+32:Nat):Int),((384*k:Nat):Int),((32*(du*k+dv):Nat):Int)):=(sizes_same _ _ _ _ _ _).trans hk.sizes
  have c:¬ ((384*k+32:Nat):Int)=0:=by omega
  have e:iadd .i64 (iadd .i64 ((384*k+32:Nat):Int) ((384*k:Nat):Int)) 64=((384*k+(384*k+32)+64:Nat):Int):=by
   rw [add64 (x:=((384*k+32:Nat):Int)) (by omega) (by omega),add64 (by omega) (by omega)]
   omega
  unfold ref27_Sizes.f
  rw [s2]
  simp only [Option.bind_some,c,if_false,e]
 ·have h':kindB a b c d e=false:=by simpa using h
  refine ⟨_,jSizes_bad h',?_⟩
  have s2:=(sizes_same 60000 a b c d e).trans (sizes_bad h')
  unfold ref27_Sizes.f
  rw [s2]
  rfl
theorem jset_some (K:Nat) (k:Int):∃ s,ref26_Set.f K k=some s:=by
 rw [set_same]
 unfold kpke_Set.f
 by_cases h1:k=512
 ·rw [if_pos h1]; exact ⟨_,rfl⟩
 ·rw [if_neg h1]
  by_cases h2:k=768
  ·rw [if_pos h2]; exact ⟨_,rfl⟩
  ·rw [if_neg h2]
   by_cases h3:k=1024
   ·rw [if_pos h3]; exact ⟨_,rfl⟩
   ·rw [if_neg h3]; exact ⟨_,rfl⟩
theorem jkind_core {S:Option (Int × Int × Int × Int × Int × Bool)}{s:Int × Int × Int × Int × Int × Bool}(hs:S=some s) (a b c d e:Int):∃ p0 p1 p2 p3 p4,(S.bind fun (r5_0,r5_1,r5_2,r5_3,r5_4,r6)=>if r6=true then (some (r5_0,r5_1,r5_2,r5_3,r5_4)) else (some (a,b,c,d,e)))=some (p0,p1,p2,p3,p4):=by
 subst hs
 obtain ⟨q0,q1,q2,q3,q4,q5⟩:=s
 cases q5
 ·exact ⟨a,b,c,d,e,rfl⟩
 ·exact ⟨q0,q1,q2,q3,q4,rfl⟩
theorem kind_any27 {a0:Int}(h:InR .u8 a0) (a b c d e:Int):∃ p0 p1 p2 p3 p4,law27_kind.f 60000 a0 a b c d e=some (p0,p1,p2,p3,p4):=by
 have h0:0≤a0∧a0≤255:=h
 have er:irem .u8 a0 4=a0%4:=by unfold irem; rw [tmodN h0.1]
 have c0:0≤a0%4:=by omega
 have c1:a0%4<((([512,768,1024,0]:List Int).length:Nat):Int):=by show a0%4<4; omega
 obtain ⟨s,hs⟩:=jset_some 60000 (rdL (CI .i64) ([512,768,1024,0]:List Int) (a0%4))
 have core:=jkind_core hs a b c d e
 unfold law27_kind.f
 rw [er,Option.bind_some,if_pos c0,if_pos c1]
 exact core
theorem few27_l0 {W:List (List Int)}(hW:W.length<50000):∀ (m i k:Nat),i+m=W.length→m<k→law27_few.l0 60000 k W (i:Int)=some (.inr false)∨(law27_few.l0 60000 k W (i:Int)=some (.inl ())∧∀ b∈W.drop i,b.length≤300):=by
 intro m
 induction m with
 | zero=>
  intro i k hi hk
  obtain ⟨k,rfl⟩ : ∃ q,k=q+1:=⟨k-1,by omega⟩
  have c:¬ (i:Int)<((W.length:Nat):Int):=by omega
  refine .inr ⟨by simp only [law27_few.l0,c,if_false],fun b hb=>?_⟩
  rw [List.drop_of_length_le (by omega)] at hb
  cases hb
 | succ m ih=>
  intro i k hi hk
  obtain ⟨k,rfl⟩ : ∃ q,k=q+1:=⟨k-1,by omega⟩
  have hil:i<W.length:=by omega
  have c0:(i:Int)<((W.length:Nat):Int):=by omega
  have c1:(0:Int)≤(i:Int):=by omega
  by_cases h:((W[i].length:Nat):Int)>300
  ·exact .inl (by simp only [law27_few.l0,c0,c1,g_rdLL hil,h,if_true])
  ·rcases ih (i+1) k (by omega) (by omega) with h1 | ⟨h1,h2⟩
   ·exact .inl (by simp only [law27_few.l0,c0,c1,g_rdLL hil,h,if_true,if_false,ginc (i:=i) (by omega)]; exact h1)
   ·refine .inr ⟨by simp only [law27_few.l0,c0,c1,g_rdLL hil,h,if_true,if_false,ginc (i:=i) (by omega)]; exact h1,fun b hb=>?_⟩
    rw [List.drop_eq_getElem_cons hil] at hb
    rcases List.mem_cons.1 hb with rfl | hb
    ·omega
    ·exact h2 b hb
theorem few27 {W:List (List Int)}(hW:W.length<900):law27_few.f 60000 W=some false∨(law27_few.f 60000 W=some true∧∀ b∈W,b.length≤300):=by
 have h:=few27_l0 (W:=W) (by omega) W.length 0 60000 (by omega) (by omega)
 unfold law27_few.f
 rcases h with h | ⟨h,h2⟩
 ·have h':law27_few.l0 60000 60000 W 0=some (.inr false):=h
  exact .inl (by rw [h']; rfl)
 ·have h':law27_few.l0 60000 60000 W 0=some (.inl ()):=h
  exact .inr ⟨by rw [h']; rfl,h2⟩
end Go.Proofs.YtemdbgmldljbpaaGreatDoor
