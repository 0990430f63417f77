/- own -/
import Derived.Test.YtemdbgmldljbpaaGreatDoorBF0
import Derived.Test.YtemdbgmldljbpaaGreatDoorBFKemWorks
import Derived.Test.YtemdbgmldljbpaaGreatDoorBFKemOpens
import Derived.Test.YtemdbgmldljbpaaGreatDoorVa
import Derived.Test.YtemdbgmldljbpaaGreatDoorKg
set_option linter.unusedSimpArgs false
set_option linter.unusedVariables false
set_option maxRecDepth 100000
namespace Go.Proofs.YtemdbgmldljbpaaGreatDoor
open Go Go.Mx
theorem set_same (K:Nat) (k:Int):ref26_Set.f K k=kpke_Set.f K k:=rfl
def kindB (a b c d e:Int):Bool:=decide (a=2∧b=3∧c=2∧d=10∧e=4∨a=3∧b=2∧c=2∧d=10∧e=4∨a=4∧b=2∧c=2∧d=11∧e=5)
theorem beq5 (p q r s t a b c d e:Int):((p == a) && ((q == b) && ((r == c) && ((s == d) && ((t == e) && true)))))=decide (a=p∧b=q∧c=r∧d=s∧e=t):=by
 rw [Bool.eq_iff_iff]
 simp only [Bool.and_eq_true,beq_iff_eq,Bool.and_true,decide_eq_true_eq]
 constructor
 ·rintro ⟨rfl,rfl,rfl,rfl,rfl⟩; exact ⟨rfl,rfl,rfl,rfl,rfl⟩
 ·rintro ⟨rfl,rfl,rfl,rfl,rfl⟩; exact ⟨rfl,rfl,rfl,rfl,rfl⟩
theorem mul256 {a:Int}(h:0≤a∧a≤1000):imul .i64 256 a=256*a:=by
 unfold imul
 rw [id64 (by omega) (by omega)]
theorem kKnown (K:Nat) (a b c d e:Int):kpke_known.f K a b c d e=some (kindB a b c d e):=by
 unfold kpke_known.f
 obtain ⟨z,ez⟩ : ∃ z,z=imul .i64 256 a:=⟨_,rfl⟩
 rw [← ez]
 unfold kpke_Set.f kindB
 by_cases h1:z=512
 ·rw [if_pos h1]
  simp only [Option.bind_some,if_true,beq5]
  congr 1
  refine decide_eq_decide.2 ⟨fun h=>.inl h,fun h=>?_⟩
  rcases h with h | h | h
  ·exact h
  ·rw [ez,h.1,mul256 (by omega)] at h1; omega
  ·rw [ez,h.1,mul256 (by omega)] at h1; omega
 ·rw [if_neg h1]
  by_cases h2:z=768
  ·rw [if_pos h2]
   simp only [Option.bind_some,if_true,beq5]
   congr 1
   refine decide_eq_decide.2 ⟨fun h=>.inr (.inl h),fun h=>?_⟩
   rcases h with h | h | h
   ·rw [ez,h.1,mul256 (by omega)] at h2; omega
   ·exact h
   ·rw [ez,h.1,mul256 (by omega)] at h2; omega
  ·rw [if_neg h2]
   by_cases h3:z=1024
   ·rw [if_pos h3]
    simp only [Option.bind_some,if_true,beq5]
    congr 1
    refine decide_eq_decide.2 ⟨fun h=>.inr (.inr h),fun h=>?_⟩
    rcases h with h | h | h
    ·rw [ez,h.1,mul256 (by omega)] at h3; omega
    ·rw [ez,h.1,mul256 (by omega)] at h3; omega
    ·exact h
   ·rw [if_neg h3]
    simp only [Option.bind_some,Bool.false_eq_true,if_false]
    congr 1
    refine (decide_eq_false fun h=>?_).symm
    rcases h with h | h | h
    ·rw [ez,h.1,mul256 (by omega)] at h1; omega
    ·rw [ez,h.1,mul256 (by omega)] at h2; omega
    ·rw [ez,h.1,mul256 (by omega)] at h3; omega
theorem rKnown (K:Nat) (a b c d e:Int):ref26_Known.f K a b c d e=some (kindB a b c d e):=by
 have s1:ref26_Set.f K 512=some (2,3,2,10,4,true):=rfl
 have s2:ref26_Set.f K 768=some (3,2,2,10,4,true):=rfl
 have s3:ref26_Set.f K 1024=some (4,2,2,11,5,true):=rfl
 have bq:∀ p q r s t:Int,((a == p) && ((b == q) && ((c == r) && ((d == s) && ((e == t) && true)))))=decide (a=p∧b=q∧c=r∧d=s∧e=t):=fun p q r s t=>by
  rw [Bool.eq_iff_iff]
  simp only [Bool.and_eq_true,beq_iff_eq,Bool.and_true,decide_eq_true_eq]
 unfold ref26_Known.f kindB
 rw [s1,s2,s3]
 simp only [Option.bind_some,bq,decide_eq_true_eq]
 by_cases h1:a=2∧b=3∧c=2∧d=10∧e=4
 ·rw [if_pos h1]
  congr 1
  exact (decide_eq_true (.inl h1)).symm
 ·rw [if_neg h1]
  by_cases h2:a=3∧b=2∧c=2∧d=10∧e=4
  ·rw [if_pos h2]
   congr 1
   exact (decide_eq_true (.inr (.inl h2))).symm
  ·rw [if_neg h2]
   congr 1
   refine decide_eq_decide.2 ⟨fun h=>.inr (.inr h),fun h=>?_⟩
   rcases h with h | h | h
   ·exact absurd h h1
   ·exact absurd h h2
   ·exact h
theorem sizes_same (K:Nat) (a b c d e:Int):ref26_Sizes.f K a b c d e=kpke_Sizes.f K a b c d e:=by
 unfold ref26_Sizes.f kpke_Sizes.f
 rw [kKnown,rKnown]
def n3 (a b c:Int):Int:=a+256*b+65536*c
def pck (v:Int):List Int:=if v<3329 then [v] else []
def pv:List Int→List Int
 | a::b::c::l=>pck (n3 a b c%4096)++(pck (n3 a b c/4096)++pv l)
 | _=>[]
theorem kNum3 {a b c:Int}(ha:0≤a∧a≤255) (hb:0≤b∧b≤255) (hc:0≤c∧c≤255):bits_NumLe.f 60000 [a,b,c]=some (n3 a b c):=by
 have h:bits_NumLe.f 60000 [a,b,c]=some (ior .u64 (ior .u64 (ior .u64 0 (ishl .u64 (iconv .u64 a) ((0:Nat):Int))) (ishl .u64 (iconv .u64 b) ((8:Nat):Int))) (ishl .u64 (iconv .u64 c) ((16:Nat):Int))):=by kernel_rfl
 obtain ⟨x,rfl⟩ : ∃ x:Nat,a=(x:Int):=⟨a.toNat,by omega⟩
 obtain ⟨y,rfl⟩ : ∃ y:Nat,b=(y:Int):=⟨b.toNat,by omega⟩
 obtain ⟨z,rfl⟩ : ∃ z:Nat,c=(z:Int):=⟨c.toNat,by omega⟩
 have cv:∀ n:Nat,n<256→iconv .u64 (n:Int)=(n:Int):=fun n hn=>by unfold iconv; rw [wu64]; omega
 rw [h,cv x (by omega),cv y (by omega),cv z (by omega)]
 rw [ishl_nat (k:=.u64) (x:=x) (n:=0) (by decide) (show x*2^0<2^64 by omega),ishl_nat (k:=.u64) (x:=y) (n:=8) (by decide) (show y*2^8<2^64 by omega),ishl_nat (k:=.u64) (x:=z) (n:=16) (by decide) (show z*2^16<2^64 by omega)]
 have e0:ior .u64 0 ((x*2^0:Nat):Int)=((x:Nat):Int):=by
  have:=ior_nat (k:=.u64) (x:=0) (y:=x*2^0) (by decide) (show x*2^0<2^64 by omega)
  rw [Nat.zero_or,Nat.pow_zero,Nat.mul_one] at this
  rw [Nat.pow_zero,Nat.mul_one]
  exact this
 rw [e0,ior_nat (k:=.u64) (show x<2^64 by omega) (show y*2^8<2^64 by omega),or_parts (h:=8) (show x<2^8 by omega),ior_nat (k:=.u64) (show x+y*2^8<2^64 by omega) (show z*2^16<2^64 by omega),or_parts (h:=16) (show x+y*2^8<2^16 by omega)]
 unfold n3
 congr 1
 omega
theorem n3_parts {v:Int}(h0:0≤v) (h1:v<16777216):iconv .i32 v=v∧iand .i32 v 4095=v%4096∧ishr .i32 v 12=v/4096:=by
 obtain ⟨m,rfl⟩ : ∃ m:Nat,v=(m:Int):=⟨v.toNat,by omega⟩
 refine ⟨by unfold iconv; rw [w32]; omega,?_,?_⟩
 ·have:=iand_nat (k:=.i32) (x:=m) (y:=4095) (show m<2^31 by omega) (by decide)
  rw [show (4095:Nat)=2^12-1 from rfl,Nat.and_two_pow_sub_one_eq_mod] at this
  have e:iand .i32 (m:Int) 4095=((m%2^12:Nat):Int):=this
  rw [e]
  omega
 ·have e:ishr .i32 (m:Int) 12=((m/2^12:Nat):Int):=ishr_nat (k:=.i32) (n:=12) (by decide)
  rw [e]
  omega
theorem fillP_cons {a:Arr 256}{n:Nat}(h:n<256) (x:Int) (l:List Int):fillP (a,n) (x::l)=fillP (wr a (n:Int) x,n+1) l:=by
 show (if n<256 then _ else _)=_
 rw [if_pos h]
abbrev SX:=Int × Arr 25 × Int × Bool × Int × Arr 256 × Int × Arr 256
def outP (s:Arr 25 × Nat) (o:Bool) (p:Arr 256 × Nat):SX ⊕ (Arr 256 × Int):=if p.2<256 then .inl (6,s.1,(s.2:Int),o,(p.2:Int),p.1,0,zeroA 256) else .inr (p.1,0)
theorem outP_full {s:Arr 25 × Nat}{o:Bool}{p:Arr 256 × Nat}(h:¬ p.2<256) (l:List Int):outP s o (fillP p l) = .inr (p.1,0):=by
 rw [fillP_full h]
 unfold outP
 rw [if_neg h]
theorem kParts_l0:∀ (m i k n:Nat) (s:Arr 25 × Nat) (o:Bool) (a:Arr 256),i+m=4096→m<k→FitS 6 s o→n<256 →
  ∃ (s':Arr 25 × Nat) (o':Bool),kpke_Parts.l0 60000 k (i:Int) 6 s.1 (s.2:Int) o (n:Int) a 0 (zeroA 256)=some (outP s' o' (fillP (a,n) (pv (sqV 6 s o ((3*m:Nat):Int)).1))):=by
 intro m
 induction m with
 | zero=>
  intro i k n s o a hi hk hs hn
  obtain ⟨k,rfl⟩ : ∃ q,k=q+1:=⟨k-1,by omega⟩
  have c:¬ (i:Int)<4096:=by omega
  refine ⟨s,o,?_⟩
  rw [sqv_nil 6 s o (by decide)]
  simp only [kpke_Parts.l0,c,if_false]
  show _=some (outP s o (a,n))
  unfold outP
  rw [if_pos hn]
 | succ m ih=>
  intro i k n s o a hi hk hs hn
  obtain ⟨k,rfl⟩ : ∃ q,k=q+1:=⟨k-1,by omega⟩
  have c:(i:Int)<4096:=by omega
  have q:=kSq 6 s o hs 3 (by decide)
  have hf:=fit_sq hs 3
  have ha:=sqv_add 6 s o (n:=3) (m:=((3*m:Nat):Int)) (by decide) (by omega)
  rw [show (3:Int)+((3*m:Nat):Int)=((3*(m+1):Nat):Int) by omega] at ha
  have hb:=sqv_byt 6 s o 3
  have hl:=sqv_len 6 s o 3
  have ei:=ginc (i:=i) (by omega)
  have ih':=fun n a hn=>ih (i+1) k n (sqV 6 s o 3).2.1 (sqV 6 s o 3).2.2 a (by omega) (by omega) hf hn
  rw [ha]
  generalize (sqV 6 (sqV 6 s o 3).2.1 (sqV 6 s o 3).2.2 ((3*m:Nat):Int)).1=rest at ih' ⊢
  generalize (sqV 6 s o 3).1=bs at q hb hl ⊢
  generalize (sqV 6 s o 3).2.1=s1 at q ih' hf ⊢
  generalize (sqV 6 s o 3).2.2=o1 at q ih' hf ⊢
  match bs,hl with
  | [x,y,z],_=>
   obtain ⟨x0,x1⟩:=hb.head
   obtain ⟨y0,y1⟩:=hb.tail.head
   obtain ⟨z0,z1⟩:=hb.tail.tail.head
   have nm:=kNum3 ⟨x0,x1⟩ ⟨y0,y1⟩ ⟨z0,z1⟩
   have hpv:pv ([x,y,z]++rest)=pck (n3 x y z%4096)++(pck (n3 x y z/4096)++pv rest):=rfl
   rw [hpv]
   obtain ⟨v,ev⟩ : ∃ v,v=n3 x y z:=⟨_,rfl⟩
   have hv0:0≤v:=by rw [ev]; unfold n3; omega
   have hv1:v<16777216:=by rw [ev]; unfold n3; omega
   obtain ⟨p1,p2,p3⟩:=n3_parts hv0 hv1
   rw [← ev] at nm ⊢
   have n0:(0:Int)≤(n:Int):=by omega
   have n1:(n:Int)<256:=by omega
   have en:=ginc (i:=n) (by omega)
   simp only [kpke_Parts.l0,c,if_true]
   rw [q]
   simp only [Option.bind_some]
   rw [nm]
   simp only [Option.bind_some,p1,p2,p3,ei,n0,n1,en,if_true]
   unfold pck
   by_cases h1:v%4096<3329
   ·rw [if_neg (show ¬ v%4096≥3329 by omega),if_pos h1,List.singleton_append,fillP_cons hn]
    by_cases h2:n+1<256
    ·rw [if_neg (show ¬ ((n+1:Nat):Int)=256 by omega)]
     by_cases h3:v/4096<3329
     ·rw [if_neg (show ¬ v/4096≥3329 by omega),if_pos h3,List.singleton_append,fillP_cons h2]
      rw [if_pos (show (0:Int)≤((n+1:Nat):Int) by omega),if_pos (show ((n+1:Nat):Int)<256 by omega),ginc (i:=n+1) (by omega)]
      by_cases h4:n+1+1<256
      ·rw [if_neg (show ¬ ((n+1+1:Nat):Int)=256 by omega)]
       exact ih' (n+1+1) _ h4
      ·refine ⟨s,o,?_⟩
       rw [if_pos (show ((n+1+1:Nat):Int)=256 by omega),outP_full (p:=(wr (wr a (n:Int) (v%4096)) ((n+1:Nat):Int) (v/4096),n+1+1)) h4]
     ·rw [if_pos (show v/4096≥3329 by omega),if_neg h3,List.nil_append]
      exact ih' (n+1) _ h2
    ·refine ⟨s,o,?_⟩
     rw [if_pos (show ((n+1:Nat):Int)=256 by omega),outP_full (p:=(wr a (n:Int) (v%4096),n+1)) h2]
   ·rw [if_pos (show v%4096≥3329 by omega),if_neg h1,List.nil_append]
    by_cases h3:v/4096<3329
    ·rw [if_neg (show ¬ v/4096≥3329 by omega),if_pos h3,List.singleton_append,fillP_cons hn]
     by_cases h2:n+1<256
     ·rw [if_neg (show ¬ ((n+1:Nat):Int)=256 by omega)]
      exact ih' (n+1) _ h2
     ·refine ⟨s,o,?_⟩
      rw [if_pos (show ((n+1:Nat):Int)=256 by omega),outP_full (p:=(wr a (n:Int) (v/4096),n+1)) h2]
    ·rw [if_pos (show v/4096≥3329 by omega),if_neg h3,List.nil_append]
     exact ih' n a hn
def partV (S:Arr 25 × Nat):Arr 256 × Int:=if (fillP (zeroA 256,0) (pv (sqV 6 S false 12288).1)).2<256 then (zeroA 256,12) else ((fillP (zeroA 256,0) (pv (sqV 6 S false 12288).1)).1,0)
theorem parts_core {J:Option (List Int)}{N:Option (Int × Arr 25 × Int × Bool × Int)}{A:Int→Arr 25→Int→Bool→List Int→Option (Int × Arr 25 × Int × Bool)}{L:Int→Arr 25→Int→Bool→Option (SX ⊕ (Arr 256 × Int))}{F:SX ⊕ (Arr 256 × Int)→Option (Arr 256 × Int)}{j:List Int}{k:Int}{a:Arr 25}{t:Int}{o:Bool}{e:Int}{k2:Int}{a2:Arr 25}{t2:Int}{o2:Bool}{T:SX ⊕ (Arr 256 × Int)}
  (h1:J=some j) (h2:N=some (k,a,t,o,e)) (h3:A k a t o j=some (k2,a2,t2,o2)) (h4:L k2 a2 t2 o2=some T) :
  (J.bind fun r7=>N.bind fun (r9_0,r9_1,r9_2,r9_3,r10)=>(A r9_0 r9_1 r9_2 r9_3 r7).bind fun (r12_0,r12_1,r12_2,r12_3)=>(L r12_0 r12_1 r12_2 r12_3).bind F)=F T:=by
 subst h1 h2
 simp only [Option.bind_some,h3,h4]
theorem kParts {rho:List Int}{i j:Int}(lr:rho.length≤300):kpke_Parts.f 60000 rho i j=some (partV (absV 6 (zeroA 25,0) false (rho++[j,i]))):=by
 have hk:rateN 6≠0:=by decide
 obtain ⟨S,eS⟩ : ∃ S,S=absV 6 (zeroA 25,0) false (rho++[j,i]):=⟨_,rfl⟩
 have fS:FitS 6 S false:=by rw [eS]; exact fit_abs (fit_new hk) _
 have hn:newV 6=(6,zeroA 25,0,false,0):=by unfold newV; rw [if_neg hk]
 have ln:(rho++[j,i]).length≤900:=by rw [List.length_append]; show rho.length+2≤900; omega
 have ab:=kAbs 6 (zeroA 25,0) false (fit_new hk) (rho++[j,i]) (by omega)
 rw [← eS] at ab ⊢
 have ab':keccak_Absorb.f 60000 6 (zeroA 25) 0 false (rho++[j,i])=some (6,S.1,(S.2:Int),false):=ab
 have jn:=gJoinW 60000 (W:=[rho,[j,i]]) (by show 2<60000; decide) (by show 2<100000; decide) (by simp; omega)
 rw [show ([rho,[j,i]]:List (List Int)).flatten=rho++[j,i] by simp] at jn
 obtain ⟨s',o',l⟩:=kParts_l0 4096 0 60000 0 S false (zeroA 256) (by decide) (by decide) fS (by decide)
 have l':kpke_Parts.l0 60000 60000 0 6 S.1 (S.2:Int) false 0 (zeroA 256) 0 (zeroA 256)=_:=l
 have nw:=(kNew 6).trans (congrArg some hn)
 unfold partV
 rw [show ((3*4096:Nat):Int)=12288 from rfl] at l'
 generalize fillP (zeroA 256,0) (pv (sqV 6 S false 12288).1)=p at l' ⊢
 have core:=parts_core (L:=fun r12_0 r12_1 r12_2 r12_3=>kpke_Parts.l0 60000 60000 0 r12_0 r12_1 r12_2 r12_3 0 (zeroA 256) 0 (zeroA 256)) (A:=keccak_Absorb.f 60000) (F:=fun t0=>match t0 with
  | .inl (y19_0,y19_1,y19_2,y19_3,y20,y21,y22,y23)=>some ((zeroA 256),12)
  | .inr r=>some r) jn nw ab' l'
 unfold kpke_Parts.f
 refine core.trans ?_
 unfold outP
 by_cases h:p.2<256
 ·rw [if_pos h,if_pos h]
 ·rw [if_neg h,if_neg h]
theorem rDrawn_l0 {l:List Int}(hl:∀ x∈l,0≤x∧x<4096) (ll:l.length≤10000):∀ (m i k n:Nat) (a:Arr 256),i+m=l.length→m<k→n≤256 →
  ref26_drawn.l0 60000 k l (n:Int) (i:Int) a=some (((fillP (a,n) ((l.drop i).flatMap pck)).2:Int),(fillP (a,n) ((l.drop i).flatMap pck)).1):=by
 intro m
 induction m with
 | zero=>
  intro i k n a hi hk hn
  obtain ⟨k,rfl⟩ : ∃ q,k=q+1:=⟨k-1,by omega⟩
  have c:¬ (i:Int)<((l.length:Nat):Int):=by omega
  rw [List.drop_of_length_le (by omega)]
  simp only [ref26_drawn.l0,c,if_false]
  rfl
 | succ m ih=>
  intro i k n a hi hk hn
  obtain ⟨k,rfl⟩ : ∃ q,k=q+1:=⟨k-1,by omega⟩
  have hil:i<l.length:=by omega
  have c:(i:Int)<((l.length:Nat):Int):=by omega
  have c0:(0:Int)≤(i:Int):=by omega
  obtain ⟨x0,x1⟩:=hl _ (List.getElem_mem hil)
  have er:rdL (CI .u32) l (i:Int)=l[i]:=by
   unfold rdL
   rw [Int.toNat_natCast,List.getD_eq_getElem?_getD,List.getElem?_eq_getElem hil]
   rfl
  have cv:iconv .i32 l[i]=l[i]:=by unfold iconv; rw [w32]; omega
  rw [List.drop_eq_getElem_cons hil,List.flatMap_cons]
  by_cases hn2:n<256
  ·have d0:(0:Int)≤(n:Int):=by omega
   have d1:(n:Int)<256:=by omega
   by_cases hx:l[i]<3329
   ·have ep:pck l[i]=[l[i]]:=if_pos hx
    rw [ep,List.singleton_append,fillP_cons hn2]
    simp only [ref26_drawn.l0,c,c0,d0,d1,er,hx,cv,ginc (i:=n) (by omega),ginc (i:=i) (by omega),if_true,Option.bind_some]
    exact ih (i+1) k (n+1) _ (by omega) (by omega) (by omega)
   ·have ep:pck l[i]=[]:=if_neg hx
    rw [ep,List.nil_append]
    simp only [ref26_drawn.l0,c,c0,d0,d1,er,hx,ginc (i:=i) (by omega),if_true,if_false,Option.bind_some]
    exact ih (i+1) k n a (by omega) (by omega) hn
  ·have d1:¬ (n:Int)<256:=by omega
   rw [fillP_full (p:=(a,n)) hn2]
   simp only [ref26_drawn.l0,c,d1,if_true,if_false]
theorem dig_pv:∀ (m:Nat) (b:List Int),Byt b→b.length=3*m→(dig 12 (2*m) (NB b)).flatMap pck=pv b
 | 0,b,hb,hl=>by
  rw [List.eq_nil_of_length_eq_zero (show b.length=0 by omega)]
  rfl
 | m+1,b,hb,hl=>by
  match b,hl with
  | x::y::z::l,hl=>
   obtain ⟨x0,x1⟩:=hb.head
   obtain ⟨y0,y1⟩:=hb.tail.head
   obtain ⟨z0,z1⟩:=hb.tail.tail.head
   have ih:=dig_pv m l hb.tail.tail.tail (by simp at hl; omega)
   have eN:NB (x::y::z::l)=x.toNat+256*(y.toNat+256*(z.toNat+256*NB l)):=rfl
   obtain ⟨M,eM⟩ : ∃ M,M=NB (x::y::z::l):=⟨_,rfl⟩
   have d1:dig 12 (2*(m+1)) M=((M%2^12:Nat):Int)::((M/2^12%2^12:Nat):Int)::dig 12 (2*m) (M/2^12/2^12):=rfl
   have e1:((M%2^12:Nat):Int)=n3 x y z%4096:=by unfold n3; omega
   have e2:((M/2^12%2^12:Nat):Int)=n3 x y z/4096:=by unfold n3; omega
   have e3:M/2^12/2^12=NB l:=by omega
   rw [← eM,d1,e1,e2,e3,List.flatMap_cons,List.flatMap_cons,ih]
   rfl
theorem dig_bd (d:Nat):∀ (n M:Nat),∀ x∈dig d n M,0≤x∧x<((2^d:Nat):Int)
 | 0,M,x,h=>by cases h
 | n+1,M,x,h=>by
  rcases List.mem_cons.1 h with rfl | h
  ·have:=Nat.mod_lt M (Nat.two_pow_pos d)
   exact ⟨by omega,by omega⟩
  ·exact dig_bd d n _ x h
theorem rdrawn_eq {seed:List Int}(ls:seed.length≤900) {n m:Nat}(hn:n=3*m) (h:n≤12288):ref26_drawn.f 60000 seed (n:Int)=some ((fillP (zeroA 256,0) (pv (sqV 6 (absV 6 (zeroA 25,0) false seed) false (n:Int)).1)).1,((fillP (zeroA 256,0) (pv (sqV 6 (absV 6 (zeroA 25,0) false seed) false (n:Int)).1)).2:Int)):=by
 have s:=sum_eq 6 (by decide) ls (n:=(n:Int)) (by omega) (by omega)
 have lb:=sqv_len 6 (absV 6 (zeroA 25,0) false seed) false (n:Int)
 have bb:=sqv_byt 6 (absV 6 (zeroA 25,0) false seed) false (n:Int)
 generalize (sqV 6 (absV 6 (zeroA 25,0) false seed) false (n:Int)).1=b at s lb bb ⊢
 rw [Int.toNat_natCast] at lb
 have ec:iquo .i64 (imul .i64 (n:Int) 2) 3=((2*m:Nat):Int):=by
  have e1:imul .i64 (n:Int) 2=((6*m:Nat):Int):=by unfold imul; rw [id64 (by omega) (by omega)]; omega
  rw [e1]
  unfold iquo
  rw [tdivN (by omega),id64 (by omega) (by omega)]
  omega
 have u:=ref01_Unpack_eq 60000 12 (2*m) b bb (by omega) (by omega) (by decide) (by decide) (by omega) (by decide) (by omega)
 have u':ref01_Unpack.f 60000 b 12 ((2*m:Nat):Int)=some (dig 12 (2*m) (NB b)):=u
 have l:=rDrawn_l0 (l:=dig 12 (2*m) (NB b)) (fun x hx=>dig_bd 12 _ _ x hx) (by rw [dig_len]; omega) (2*m) 0 60000 0 (zeroA 256) (by rw [dig_len]; omega) (by omega) (by decide)
 rw [List.drop_zero,dig_pv m b bb (by omega)] at l
 have l':ref26_drawn.l0 60000 60000 (dig 12 (2*m) (NB b)) 0 0 (zeroA 256)=_:=l
 unfold ref26_drawn.f
 rw [s]
 simp only [Option.bind_some]
 rw [ec,u']
 simp only [Option.bind_some]
 rw [l']
 rfl
theorem pv_app:∀ (m:Nat) (x y:List Int),x.length=3*m→pv (x++y)=pv x++pv y
 | 0,x,y,h=>by
  rw [List.eq_nil_of_length_eq_zero (show x.length=0 by omega)]
  rfl
 | m+1,x,y,h=>by
  match x,h with
  | a::b::c::x,h=>
   have ih:=pv_app m x y (by simp at h; omega)
   show pck (n3 a b c%4096)++(pck (n3 a b c/4096)++pv (x++y))=(pck (n3 a b c%4096)++(pck (n3 a b c/4096)++pv x))++pv y
   rw [ih,List.append_assoc,List.append_assoc]
theorem jn_l0 (K k:Nat) (xs:List (List Int)) (out:List Int) (i:Int) (h0:0≤i) (h1:i<(xs.length:Int)) (h2:out.length+(rdLL xs i).length≤1000000):ref01_Join.l0 K (k+1) xs i out=ref01_Join.l0 K k xs (iadd .i64 i 1) (out++rdLL xs i):=by
 have h3:out.length+(rdLL xs i).length≤140737488355328:=by omega
 simp only [ref01_Join.l0,h0,h1,h3,if_true,Option.bind_some]
theorem jn_end (K k:Nat) (xs:List (List Int)) (out:List Int) (i:Int) (h1:¬ i<(xs.length:Int)):ref01_Join.l0 K (k+1) xs i out=some out:=by
 simp only [ref01_Join.l0,h1,if_false]
theorem jn2K (K:Nat) (x y:List Int) (h:x.length+y.length≤1000000):ref01_Join.f (K+3) [x,y]=some (x++y):=by
 have i0:iadd .i64 0 1=1:=by rw [add64 (by omega) (by omega)]; rfl
 have i1:iadd .i64 1 1=2:=by rw [add64 (by omega) (by omega)]; rfl
 have r0:rdLL [x,y] 0=x:=rfl
 have r1:rdLL [x,y] 1=y:=rfl
 unfold ref01_Join.f
 rw [jn_l0 (K+3) (K+2) [x,y] [] 0 (by decide) (by show (0:Int)<2; decide) (by rw [r0,List.length_nil]; omega),i0,r0,
  jn_l0 (K+3) (K+1) [x,y] _ 1 (by decide) (by show (1:Int)<2; decide) (by rw [r1,List.nil_append]; omega),i1,r1,jn_end (K+3) K [x,y] _ 2 (by show ¬ (2:Int)<2; decide)]
 rfl
theorem jn2 (x y:List Int) (h:x.length+y.length≤1000000):ref01_Join.f 60000 [x,y]=some (x++y):=jn2K 59997 x y h
theorem rparts_core {D1 D2:Option (Arr 256 × Int)}{p q:Arr 256 × Nat}(h1:D1=some (p.1,(p.2:Int))) (h2:D2=some (q.1,(q.2:Int))) (more:¬ p.2<256→q=p) :
  (D1.bind fun (r5,r6)=>((if r6<256 then (D2.bind fun (r10,r11)=>some (r11,r10)) else (some (r6,r5)):Option (Int × (Arr 256)))).bind fun (y8,y9)=>if y8<256 then (some ((zeroA 256),(12:Int))) else (some (y9,0)))=some (if q.2<256 then (zeroA 256,12) else (q.1,0)):=by
 subst h1 h2
 simp only [Option.bind_some]
 by_cases h:p.2<256
 ·rw [if_pos (show (p.2:Int)<256 by omega)]
  simp only [Option.bind_some]
  by_cases h2:q.2<256
  ·rw [if_pos (show (q.2:Int)<256 by omega),if_pos h2]
  ·rw [if_neg (show ¬ (q.2:Int)<256 by omega),if_neg h2]
 ·rw [if_neg (show ¬ (p.2:Int)<256 by omega),more h]
  simp only [Option.bind_some]
  rw [if_neg (show ¬ (p.2:Int)<256 by omega),if_neg h]
theorem rParts {rho:List Int}{i j:Int}(lr:rho.length≤300):ref26_Parts.f 60000 rho i j=some (partV (absV 6 (zeroA 25,0) false (rho++[j,i]))):=by
 have jn:=jn2 rho [j,i] (by show rho.length+2≤_; omega)
 have ls:(rho++[j,i]).length≤900:=by rw [List.length_append]; show rho.length+2≤900; omega
 have v1:=rdrawn_eq ls (n:=672) (m:=224) (by decide) (by decide)
 have v2:=rdrawn_eq ls (n:=12288) (m:=4096) (by decide) (by decide)
 have et:=sqv_take 6 (absV 6 (zeroA 25,0) false (rho++[j,i])) false (n:=((672:Nat):Int)) (m:=((12288:Nat):Int)) (by decide) (by decide)
 have l672:=sqv_len 6 (absV 6 (zeroA 25,0) false (rho++[j,i])) false ((672:Nat):Int)
 have er:∃ r,pv (sqV 6 (absV 6 (zeroA 25,0) false (rho++[j,i])) false ((12288:Nat):Int)).1=pv (sqV 6 (absV 6 (zeroA 25,0) false (rho++[j,i])) false ((672:Nat):Int)).1++r:=by
  rw [et,pv_app 224 _ _ (by rw [l672]; rfl)]
  exact ⟨_,rfl⟩
 obtain ⟨r,er⟩:=er
 have c2:((12288:Nat):Int)=12288:=rfl
 have c1:((672:Nat):Int)=672:=rfl
 rw [c2] at v2 er
 rw [c1] at v1 er
 unfold partV ref26_Parts.f
 rw [jn,Option.bind_some]
 revert v1 v2 er
 generalize pv (sqV 6 (absV 6 (zeroA 25,0) false (rho++[j,i])) false 12288).1=Y
 generalize pv (sqV 6 (absV 6 (zeroA 25,0) false (rho++[j,i])) false 672).1=X
 intro v1 v2 er
 refine rparts_core v1 v2 fun h=>?_
 rw [er,fillP_app,fillP_full h]
end Go.Proofs.YtemdbgmldljbpaaGreatDoor
