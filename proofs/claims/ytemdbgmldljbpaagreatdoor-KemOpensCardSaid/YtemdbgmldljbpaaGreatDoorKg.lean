/- own -/
import Derived.Test.YtemdbgmldljbpaaGreatDoorBF0
import Derived.Test.YtemdbgmldljbpaaGreatDoorBFKemWorks
import Derived.Test.YtemdbgmldljbpaaGreatDoorBFKemOpens
import Derived.Test.YtemdbgmldljbpaaGreatDoorMb
set_option linter.unusedSimpArgs false
set_option linter.unusedVariables false
namespace Go.Proofs.YtemdbgmldljbpaaGreatDoor
open Go Go.Mx
theorem ior64_parts {h b s:Nat}(hh:h<2^s) (hb:b<256) (hs:s≤40):ior .u64 (h:Int) (ishl .u64 (iconv .u64 (b:Int)) (s:Int))=((h+b*2^s:Nat):Int):=by
 have p1:2^s≤2^40:=Nat.pow_le_pow_right (by decide) hs
 have p2:b*2^s≤255*2^40:=Nat.mul_le_mul (by omega) p1
 have e1:iconv .u64 (b:Int)=(b:Int):=wrap_nat (by simp only [top,IntKind.bits,IntKind.signed]; exact Nat.lt_of_lt_of_le hb (by decide))
 have e2:ishl .u64 (b:Int) (s:Int)=((b*2^s:Nat):Int):=ishl_nat (by simp only [IntKind.bits]; omega) (by simp only [top,IntKind.bits,IntKind.signed]; exact Nat.lt_of_le_of_lt p2 (by decide))
 rw [e1,e2,ior_nat (by simp only [top,IntKind.bits,IntKind.signed]; exact Nat.lt_of_lt_of_le hh (Nat.le_trans p1 (by decide))) (by simp only [top,IntKind.bits,IntKind.signed]; exact Nat.lt_of_le_of_lt p2 (by decide)),or_parts hh]
theorem bits_Unpack_l1 (K d:Nat) (hd:d≤24):∀ (m k held hv:Nat) (rest:List Int),Byt rest→held<2^hv→hv<32→d≤hv+8*rest.length→d≤hv+8*m→m<k →
  ∃ (held' have':Nat) (rest':List Int),bits_Unpack.l1 K k (d:Int) (held:Int) (hv:Int) rest=some ((held':Int),(have':Int),rest')∧d≤have'∧(have'=hv∨have'<d+8)∧held'<2^have'∧
   held'+2^have'*NB rest'=held+2^hv*NB rest∧have'+8*rest'.length=hv+8*rest.length∧Byt rest':=by
 intro m
 induction m with
 | zero=>
  intro k held hv rest hB hh h32 hr hm hk
  obtain ⟨k,rfl⟩ : ∃ j,k=j+1:=⟨k-1,by omega⟩
  refine ⟨held,hv,rest,?_,by omega,.inl rfl,hh,rfl,rfl,hB⟩
  simp only [bits_Unpack.l1,show ¬ (hv:Int)<(d:Int) by omega,if_false]
 | succ m ih=>
  intro k held hv rest hB hh h32 hr hm hk
  obtain ⟨k,rfl⟩ : ∃ j,k=j+1:=⟨k-1,by omega⟩
  by_cases hlt:(hv:Int)<(d:Int)
  ·match rest,hB,hr with
   | [],hB,hr=>simp at hr; omega
   | x::rest,hB,hr=>
    have hx:=hB.head
    obtain ⟨b,rfl⟩ : ∃ b:Nat,x=(b:Int):=⟨x.toNat,by omega⟩
    have hb:b<256:=by omega
    have e1:rdL (CI .u8) ((b:Int)::rest) 0=(b:Int):=rfl
    have e2:subL ((b:Int)::rest) 1 (((b:Int)::rest).length:Int)=rest:=by simp [subL]
    have e3:iadd .i64 (hv:Int) 8=((hv+8:Nat):Int):=by rw [add64 (by omega) (by omega)]; rfl
    have c1:(0:Int)<(((b:Int)::rest).length:Int):=by simp
    have c2:(1:Int)≤(((b:Int)::rest).length:Int):=by simp; omega
    have e4:=ior64_parts (s:=hv) hh hb (by omega)
    simp only [bits_Unpack.l1,hlt,if_true,e1,e2,e3,c1,c2,show (0:Int)≤(0:Int) by omega,show (0:Int)≤(1:Int) by omega,show (0:Int)≤(hv:Int) by omega,Int.le_refl,Option.bind_some,e4]
    have hp:(held+b*2^hv)<2^(hv+8):=by
     rw [Nat.pow_add]
     have:(b+1)*2^hv≤256*2^hv:=Nat.mul_le_mul_right _ hb
     rw [Nat.add_mul,Nat.one_mul] at this
     rw [Nat.mul_comm (2^hv)]
     omega
    obtain ⟨held',have',rest',h1,h2,h3,h4,h5,h6,h7⟩:=ih k (held+b*2^hv) (hv+8) rest hB.tail hp (by omega) (by simp at hr; omega) (by omega) (by omega)
    refine ⟨held',have',rest',h1,h2,.inr (by omega),h4,?_,by simp; omega,h7⟩
    rw [h5]
    show held+b*2^hv+2^(hv+8)*NB rest=held+2^hv*((b:Int).toNat+256*NB rest)
    rw [Int.toNat_natCast,Nat.pow_add,Nat.mul_add,Nat.mul_comm b,Nat.mul_assoc,Nat.add_assoc]
  ·refine ⟨held,hv,rest,?_,by omega,.inl rfl,hh,rfl,rfl,hB⟩
   simp only [bits_Unpack.l1,hlt,if_false]
def dig (d:Nat):Nat→Nat→List Int
 | 0,_=>[]
 | n+1,M=>((M%2^d:Nat):Int)::dig d n (M/2^d)
theorem dig_len (d:Nat):∀ n M,(dig d n M).length=n
 | 0,_=>rfl
 | n+1,M=>by simp [dig,dig_len d n]
theorem dig_snoc (d:Nat):∀ n M,dig d (n+1) M=dig d n M++[((M/2^(d*n)%2^d:Nat):Int)]
 | 0,M=>by simp [dig]
 | n+1,M=>by
  show ((M%2^d:Nat):Int)::dig d (n+1) (M/2^d)=((M%2^d:Nat):Int)::(dig d n (M/2^d)++_)
  rw [dig_snoc d n,Nat.div_div_eq_div_mul,← Nat.pow_add,show d+d*n=d*(n+1) by rw [Nat.mul_add,Nat.mul_one,Nat.add_comm]]
theorem low_step {h v d N:Nat}(hd:d≤v):(h+2^v*N)%2^d=h%2^d∧(h+2^v*N)/2^d=h/2^d+2^(v-d)*N:=by
 obtain ⟨e,rfl⟩ : ∃ e,v=d+e:=⟨v-d,by omega⟩
 rw [Nat.pow_add,Nat.mul_assoc,Nat.add_mul_mod_self_left,Nat.add_mul_div_left _ _ (Nat.two_pow_pos d),show d+e-d=e by omega]
 exact ⟨rfl,rfl⟩
theorem mask64 {h d v:Nat}(hh:h<2^v) (hv:v≤40) (hd:d≤24):iconv .u32 (iand .u64 (h:Int) (isub .u64 (ishl .u64 1 (d:Int)) 1))=((h%2^d:Nat):Int):=by
 have p1:2^d≤2^24:=Nat.pow_le_pow_right (by decide) hd
 have p2:2^v≤2^40:=Nat.pow_le_pow_right (by decide) hv
 have p0:=Nat.two_pow_pos d
 have e1:ishl .u64 1 (d:Int)=((2^d:Nat):Int):=by
  have:=ishl_nat (k:=.u64) (x:=1) (n:=d) (by simp only [IntKind.bits]; omega) (by simp only [top,IntKind.bits,IntKind.signed]; rw [Nat.one_mul]; exact Nat.lt_of_le_of_lt p1 (by decide))
  rwa [Nat.one_mul] at this
 have e2:isub .u64 ((2^d:Nat):Int) 1=((2^d-1:Nat):Int):=by
  unfold isub
  rw [show ((2^d:Nat):Int)-1=((2^d-1:Nat):Int) by omega]
  exact wrap_nat (by simp only [top,IntKind.bits,IntKind.signed]; exact Nat.lt_of_le_of_lt (Nat.le_trans (Nat.sub_le _ _) p1) (by decide))
 rw [e1,e2,iand_nat (by simp only [top,IntKind.bits,IntKind.signed]; exact Nat.lt_of_lt_of_le hh (Nat.le_trans p2 (by decide))) (by simp only [top,IntKind.bits,IntKind.signed]; exact Nat.lt_of_le_of_lt (Nat.le_trans (Nat.sub_le _ _) p1) (by decide)),and_mask]
 exact wrap_nat (by simp only [top,IntKind.bits,IntKind.signed]; exact Nat.lt_of_lt_of_le (Nat.mod_lt _ p0) (Nat.le_trans p1 (by decide)))
theorem wrL_take (l:List Int) (i:Nat) (v:Int) (h:i<l.length):(wrL l (i:Nat) v).take (i+1)=l.take i++[v]:=by
 unfold wrL
 rw [Int.toNat_natCast,List.take_add_one,List.take_set,List.getElem?_set_self h,List.set_eq_of_length_le (by simp; omega)]
 rfl
theorem bits_Unpack_l0 (K d n:Nat) (hd1:1≤d) (hd:d≤24) (hK:30<K) (hn:n≤100000):∀ (r i k held hv:Nat) (out rest:List Int),i+r=n→r<k→Byt rest→held<2^hv→hv<8→d*r≤hv+8*rest.length→out.length=n →
  bits_Unpack.l0 K k (d:Int) (n:Int) (held:Int) (hv:Int) (i:Int) out rest=some (out.take i++dig d r (held+2^hv*NB rest)):=by
 intro r
 induction r with
 | zero=>
  intro i k held hv out rest hi hk hB hh h8 hr ho
  obtain ⟨k,rfl⟩ : ∃ j,k=j+1:=⟨k-1,by omega⟩
  have c:¬ (i:Int)<((List.replicate (n:Int).toNat (Cod.zero (CI .u32))).length:Int):=by simp; omega
  simp only [bits_Unpack.l0,c,if_false,dig,List.append_nil]
  rw [List.take_of_length_le (by omega)]
 | succ r ih=>
  intro i k held hv out rest hi hk hB hh h8 hr ho
  obtain ⟨k,rfl⟩ : ∃ j,k=j+1:=⟨k-1,by omega⟩
  have c:(i:Int)<((List.replicate (n:Int).toNat (Cod.zero (CI .u32))).length:Int):=by simp; omega
  rw [Nat.mul_add,Nat.mul_one] at hr
  obtain ⟨held',hv',rest',h1,h2,h3,h4,h5,h6,h7⟩:=bits_Unpack_l1 K d hd 24 K held hv rest hB hh (by omega) (by omega) (by omega) (by omega)
  have e1:=mask64 (d:=d) h4 (by omega) hd
  have e2:ishr .u64 (held':Int) (d:Int)=((held'/2^d:Nat):Int):=ishr_nat (by simp only [IntKind.bits]; omega)
  have e3:isub .i64 (hv':Int) (d:Int)=((hv'-d:Nat):Int):=by rw [sub64 (by omega) (by omega)]; omega
  have e4:iadd .i64 (i:Int) 1=((i+1:Nat):Int):=by rw [add64 (by omega) (by omega)]; rfl
  simp only [bits_Unpack.l0,c,if_true,h1,Option.bind_some,show (0:Int)≤(d:Int) by omega,show (0:Int)≤(i:Int) by omega,show (i:Int)<(out.length:Int) by omega,e1,e2,e3,e4]
  rw [ih (i+1) k (held'/2^d) (hv'-d) (wrL out (i:Nat) _) rest' (by omega) (by omega) h7 (by
   refine Nat.div_lt_of_lt_mul ?_
   rw [← Nat.pow_add,show d+(hv'-d)=hv' by omega]
   exact h4) (by omega) (by omega) (by simp [wrL,ho])]
  rw [wrL_take out i _ (by omega)]
  obtain ⟨l1,l2⟩:=low_step (h:=held') (v:=hv') (N:=NB rest') h2
  rw [← h5,List.append_assoc]
  show _=some (out.take i++((((held'+2^hv'*NB rest')%2^d:Nat):Int)::dig d r ((held'+2^hv'*NB rest')/2^d)))
  rw [l1,l2]
  rfl
theorem bits_Unpack_eq (K d n:Nat) (b:List Int) (hb:Byt b) (hl:d*n≤8*b.length) (hl2:b.length≤1000000) (hd1:1≤d) (hd:d≤24) (hn:n≤100000) (hK:30<K) (hKn:n<K):bits_Unpack.f K b (d:Int) (n:Int)=some (dig d n (NB b)):=by
 have hs:bits_such.f K b (d:Int) (n:Int)=some true:=by
  unfold bits_such.f
  rw [if_pos (by omega),if_pos (by omega),if_pos (by omega),if_pos (by omega),mul64 (by omega) (by omega)]
  unfold iquo
  rw [tdivN (by omega)]
  have hq:(b.length:Int)*8/(d:Int)=((b.length*8/d:Nat):Int):=by rw [Int.natCast_ediv]; rfl
  have h1:n≤b.length*8/d:=by rw [Nat.le_div_iff_mul_le (by omega),Nat.mul_comm n d]; omega
  have h2:b.length*8/d≤b.length*8:=Nat.div_le_self _ _
  rw [hq]
  generalize b.length*8/d=q at *
  rw [id64 (by omega) (by omega)]
  exact congrArg some (decide_eq_true (by omega))
 unfold bits_Unpack.f
 rw [hs]
 simp only [Option.bind_some,if_true]
 rw [if_pos (by omega),if_pos (by omega)]
 have:=bits_Unpack_l0 K d n hd1 hd hK hn n 0 K 0 0 (List.replicate (n:Int).toNat (Cod.zero (CI .u32))) b (by omega) hKn hb (by decide) (by omega) (by omega) (by simp)
 simp only [Nat.zero_add,Nat.pow_zero,Nat.one_mul,List.take_zero,List.nil_append] at this
 have h0:((0:Nat):Int)=0:=rfl
 rw [h0] at this
 rw [this]
 rfl
end Go.Proofs.YtemdbgmldljbpaaGreatDoor

/- own -/
set_option linter.unusedSimpArgs false
set_option linter.unusedVariables false
namespace Go.Proofs.YtemdbgmldljbpaaGreatDoor
open Go Go.Mx
theorem rdL_u8 {b:List Int}(hb:Byt b) (j:Nat):∃ c:Nat,rdL (CI .u8) b (j:Nat)=(c:Int)∧c<256∧(b.getD j 0).toNat=c:=by
 refine ⟨(b.getD j 0).toNat,?_,?_,rfl⟩
 ·show b.getD (j:Int).toNat 0=_
  rw [Int.toNat_natCast]
  by_cases h:j<b.length
  ·have:=hb (b.getD j 0) (by rw [List.getD_eq_getElem?_getD,List.getElem?_eq_getElem h]; exact List.getElem_mem h)
   omega
  ·rw [List.getD_eq_getElem?_getD,List.getElem?_eq_none (by omega)]; rfl
 ·by_cases h:j<b.length
  ·have:=hb (b.getD j 0) (by rw [List.getD_eq_getElem?_getD,List.getElem?_eq_getElem h]; exact List.getElem_mem h)
   omega
  ·rw [List.getD_eq_getElem?_getD,List.getElem?_eq_none (by omega)]; simp
theorem bit8 {c s:Nat}(hc:c<256) (hs:s<8):iconv .u32 (iand .u8 (ishr .u8 (c:Int) (s:Int)) 1)=((c/2^s%2:Nat):Int):=by
 have h1:c/2^s≤c:=Nat.div_le_self _ _
 rw [ishr_nat (by simp only [IntKind.bits]; omega)]
 generalize c/2^s=q at *
 have:iand .u8 (q:Int) 1=((q &&& 1:Nat):Int):=iand_nat (y:=1) (by simp only [top,IntKind.bits,IntKind.signed]; exact Nat.lt_of_le_of_lt h1 hc) (by decide)
 rw [this,Nat.and_one_is_mod]
 exact wrap_nat (Nat.lt_of_lt_of_le (Nat.mod_lt _ (by decide)) (by decide))
theorem ref01_Unpack_l1 (K d i:Nat) (b:List Int) (hb:Byt b) (hd:d≤24) (hi:d*i+d≤8*b.length) (hl2:b.length≤1000000):∀ (j k:Nat),j≤d→j<k →
  ref01_Unpack.l1 K k b (d:Int) (i:Int) ((NB b/2^(d*i)%2^d/2^j:Nat):Int) ((j:Int)-1)=some ((NB b/2^(d*i)%2^d:Nat):Int):=by
 intro j
 induction j with
 | zero=>
  intro k hj hk
  obtain ⟨k,rfl⟩ : ∃ m,k=m+1:=⟨k-1,by omega⟩
  simp only [ref01_Unpack.l1,show ¬ ((0:Nat):Int)-1≥0 by omega,if_false,Nat.pow_zero,Nat.div_one]
 | succ j ih=>
  intro k hj hk
  obtain ⟨k,rfl⟩ : ∃ m,k=m+1:=⟨k-1,by omega⟩
  have g0:((j+1:Nat):Int)-1=(j:Int):=by omega
  rw [g0]
  have hmul:(i:Int)*(d:Int)=((d*i:Nat):Int):=by rw [Int.natCast_mul,Int.mul_comm]
  have hle:d*i≤8*b.length:=by omega
  have g1:iadd .i64 (imul .i64 (i:Int) (d:Int)) (j:Int)=((d*i+j:Nat):Int):=by
   rw [mul64 (by rw [hmul]; omega) (by rw [hmul]; omega),hmul,add64 (by omega) (by omega)]
   omega
  have g2:iquo .i64 ((d*i+j:Nat):Int) 8=(((d*i+j)/8:Nat):Int):=by
   unfold iquo
   rw [tdivN (by omega),id64 (by omega) (by omega)]
   omega
  have g3:irem .i64 ((d*i+j:Nat):Int) 8=(((d*i+j)%8:Nat):Int):=by
   unfold irem
   rw [tmodN (by omega)]
   omega
  obtain ⟨c,hc1,hc2,hc3⟩:=rdL_u8 hb ((d*i+j)/8)
  have hbit:=NB_bit hb (d*i+j) (by omega)
  rw [hc3] at hbit
  have g4:=bit8 (s:=(d*i+j)%8) hc2 (by omega)
  have hV:NB b/2^(d*i+j)%2=NB b/2^(d*i)%2^d/2^j%2:=by
   rw [Nat.pow_add,← Nat.div_div_eq_div_mul]
   generalize NB b/2^(d*i)=M
   obtain ⟨e,rfl⟩ : ∃ e,d=j+(e+1):=⟨d-j-1,by omega⟩
   rw [Nat.pow_add,Nat.mod_mul_right_div_self,Nat.pow_succ,Nat.mul_comm (2^e) 2,Nat.mod_mul_right_mod]
  have hvlt:NB b/2^(d*i)%2^d<2^d:=Nat.mod_lt _ (Nat.two_pow_pos d)
  have p1:2^d≤2^24:=Nat.pow_le_pow_right (by decide) hd
  generalize NB b/2^(d*i)%2^d=V at *
  rw [hbit,hV] at g4
  have hsub:isub .i64 (j:Int) 1=(j:Int)-1:=sub64 (by omega) (by omega)
  have hq:V/2^(j+1)≤V:=Nat.div_le_self _ _
  have g5:iadd .u32 (imul .u32 ((V/2^(j+1):Nat):Int) 2) ((V/2^j%2:Nat):Int)=((V/2^j:Nat):Int):=by
   have e1:V/2^(j+1)=V/2^j/2:=by rw [Nat.pow_succ,Nat.div_div_eq_div_mul]
   have hv2:V/2^j≤V:=Nat.div_le_self _ _
   rw [e1]
   generalize V/2^j=W at *
   unfold iadd imul
   rw [wu32,wu32]
   omega
  simp only [ref01_Unpack.l1,show (j:Int)≥0 by omega,if_true,g1,g2,g3,Option.bind_some,show (0:Int)≤(((d*i+j)/8:Nat):Int) by omega,show (((d*i+j)/8:Nat):Int)<(b.length:Int) by omega,show (0:Int)≤(((d*i+j)%8:Nat):Int) by omega,hc1,g4,g5,hsub]
  exact ih k (by omega) (by omega)
theorem ref01_Unpack_l0 (K d n:Nat) (b:List Int) (hb:Byt b) (hd1:1≤d) (hd:d≤24) (hl:d*n≤8*b.length) (hl2:b.length≤1000000) (hn:n≤100000) (hK:30<K):∀ (r i k:Nat),i+r=n→r<k →
  ref01_Unpack.l0 K k b (d:Int) (n:Int) (i:Int) (dig d i (NB b))=some (dig d n (NB b)):=by
 intro r
 induction r with
 | zero=>
  intro i k hi hk
  obtain ⟨k,rfl⟩ : ∃ m,k=m+1:=⟨k-1,by omega⟩
  obtain rfl:i=n:=by omega
  simp only [ref01_Unpack.l0,show ¬ (i:Int)<(i:Int) by omega,if_false]
 | succ r ih=>
  intro i k hi hk
  obtain ⟨k,rfl⟩ : ∃ m,k=m+1:=⟨k-1,by omega⟩
  have hmm:d*(i+1)≤d*n:=Nat.mul_le_mul_left d (by omega)
  rw [Nat.mul_add,Nat.mul_one] at hmm
  have hsub:isub .i64 (d:Int) 1=(d:Int)-1:=sub64 (by omega) (by omega)
  have h1:=ref01_Unpack_l1 K d i b hb hd (by omega) hl2 d K (Nat.le_refl _) (by omega)
  rw [Nat.div_eq_of_lt (Nat.mod_lt _ (Nat.two_pow_pos d))] at h1
  have h0:((0:Nat):Int)=0:=rfl
  rw [h0] at h1
  have e4:iadd .i64 (i:Int) 1=((i+1:Nat):Int):=by rw [add64 (by omega) (by omega)]; rfl
  have hc:(dig d i (NB b)).length+([((NB b/2^(d*i)%2^d:Nat):Int)]:List Int).length≤35184372088832:=by rw [dig_len]; simp; omega
  simp only [ref01_Unpack.l0,show (i:Int)<(n:Int) by omega,if_true,hsub,Option.bind_some,h1,hc,e4]
  rw [← dig_snoc]
  exact ih (i+1) k (by omega) (by omega)
theorem ref01_Unpack_eq (K d n:Nat) (b:List Int) (hb:Byt b) (hl:d*n≤8*b.length) (hl2:b.length≤1000000) (hd1:1≤d) (hd:d≤24) (hn:n≤100000) (hK:30<K) (hKn:n<K):ref01_Unpack.f K b (d:Int) (n:Int)=some (dig d n (NB b)):=by
 have hs:ref01_such.f K b (d:Int) (n:Int)=some true:=by
  unfold ref01_such.f
  rw [if_pos (by omega),if_pos (by omega),if_pos (by omega),if_pos (by omega),mul64 (by omega) (by omega)]
  unfold iquo
  rw [tdivN (by omega)]
  have hq:(b.length:Int)*8/(d:Int)=((b.length*8/d:Nat):Int):=by rw [Int.natCast_ediv]; rfl
  have h1:n≤b.length*8/d:=by rw [Nat.le_div_iff_mul_le (by omega),Nat.mul_comm n d]; omega
  have h2:b.length*8/d≤b.length*8:=Nat.div_le_self _ _
  rw [hq]
  generalize b.length*8/d=q at *
  rw [id64 (by omega) (by omega)]
  exact congrArg some (decide_eq_true (by omega))
 unfold ref01_Unpack.f
 rw [hs]
 simp only [Option.bind_some,if_true]
 have:=ref01_Unpack_l0 K d n b hb hd1 hd hl hl2 hn hK n 0 K (by omega) hKn
 have h0:((0:Nat):Int)=0:=rfl
 rw [h0] at this
 rw [show ([]:List Int)=dig d 0 (NB b) from rfl,this]
 rfl
end Go.Proofs.YtemdbgmldljbpaaGreatDoor

/- own -/
set_option linter.unusedSimpArgs false
set_option linter.unusedVariables false
namespace Go.Proofs.YtemdbgmldljbpaaGreatDoor
open Go Go.Mx
theorem dig_low (d:Nat):∀ m T X,dig d m (T+X*2^(d*m))=dig d m T
 | 0,_,_=>rfl
 | m+1,T,X=>by
  show (((T+X*2^(d*(m+1)))%2^d:Nat):Int)::dig d m ((T+X*2^(d*(m+1)))/2^d)=_
  have e:X*2^(d*(m+1))=2^d*(X*2^(d*m)):=by
   rw [Nat.mul_add,Nat.mul_one,Nat.pow_add,Nat.mul_comm (2^(d*m)),← Nat.mul_assoc,← Nat.mul_assoc,Nat.mul_comm X]
  rw [e,Nat.add_mul_mod_self_left,Nat.add_mul_div_left _ _ (Nat.two_pow_pos d),dig_low d m]
  rfl
theorem dig_byt:∀ m T,Byt (dig 8 m T)
 | 0,_=>Byt.nil
 | m+1,T=>Byt.cons (by omega) (by have:=Nat.mod_lt T (show 0<2^8 by decide); omega) (dig_byt m _)
theorem NB_dig:∀ m T,NB (dig 8 m T)=T%256^m
 | 0,T=>by simp [dig,NB,Nat.mod_one]
 | m+1,T=>by
  show ((T%256:Nat):Int).toNat+256*NB (dig 8 m (T/256))=_
  rw [NB_dig m,Int.toNat_natCast,Nat.pow_succ,Nat.mul_comm (256^m) 256,Nat.mod_mul]
theorem nats (l:List Nat) (i:Nat) (h:i<l.length):rdL (CI .u32) (l.map fun (n:Nat)=>(n:Int)) (i:Nat)=((l[i]:Nat):Int):=by
 show (l.map fun (n:Nat)=>(n:Int)).getD (i:Int).toNat 0=_
 rw [Int.toNat_natCast,List.getD_eq_getElem?_getD,List.getElem?_map,List.getElem?_eq_getElem h]
 rfl
theorem mask32 {n d:Nat}(hn:n<2^32) (hd:d≤24):iconv .u64 (iand .u32 (n:Int) (isub .u32 (ishl .u32 1 (d:Int)) 1))=((n%2^d:Nat):Int):=by
 have p1:2^d≤2^24:=Nat.pow_le_pow_right (by decide) hd
 have p0:=Nat.two_pow_pos d
 have e1:ishl .u32 1 (d:Int)=((2^d:Nat):Int):=by
  have:=ishl_nat (k:=.u32) (x:=1) (n:=d) (by simp only [IntKind.bits]; omega) (by simp only [top,IntKind.bits,IntKind.signed]; rw [Nat.one_mul]; exact Nat.lt_of_le_of_lt p1 (by decide))
  rwa [Nat.one_mul] at this
 have e2:isub .u32 ((2^d:Nat):Int) 1=((2^d-1:Nat):Int):=by
  unfold isub
  rw [show ((2^d:Nat):Int)-1=((2^d-1:Nat):Int) by omega]
  exact wrap_nat (by simp only [top,IntKind.bits,IntKind.signed]; exact Nat.lt_of_le_of_lt (Nat.le_trans (Nat.sub_le _ _) p1) (by decide))
 rw [e1,e2,iand_nat (by simp only [top,IntKind.bits,IntKind.signed]; exact hn) (by simp only [top,IntKind.bits,IntKind.signed]; exact Nat.lt_of_le_of_lt (Nat.le_trans (Nat.sub_le _ _) p1) (by decide)),and_mask]
 exact wrap_nat (by simp only [top,IntKind.bits,IntKind.signed]; exact Nat.lt_of_lt_of_le (Nat.mod_lt _ p0) (Nat.le_trans p1 (by decide)))
theorem u8_of (n:Nat):iconv .u8 (n:Int)=((n%2^8:Nat):Int):=by unfold iconv; rw [wu8]; omega
theorem bits_Pack_l1 (K:Nat):∀ (q k T m hv:Nat),hv<8*(q+1)→hv≤60→T<2^(8*m+hv)→q<k→m+q≤10000000 →
  bits_Pack.l1 K k ((T/2^(8*m):Nat):Int) (hv:Int) (dig 8 m T)=some (((T/2^(8*(m+hv/8)):Nat):Int),((hv%8:Nat):Int),dig 8 (m+hv/8) T):=by
 intro q
 induction q with
 | zero=>
  intro k T m hv hq h60 hT hk hm
  obtain ⟨k,rfl⟩ : ∃ j,k=j+1:=⟨k-1,by omega⟩
  simp only [bits_Pack.l1,show ¬ (hv:Int)≥8 by omega,if_false,show hv/8=0 by omega,show hv%8=hv by omega,Nat.add_zero]
 | succ q ih=>
  intro k T m hv hq h60 hT hk hm
  obtain ⟨k,rfl⟩ : ∃ j,k=j+1:=⟨k-1,by omega⟩
  by_cases h8:hv<8
  ·simp only [bits_Pack.l1,show ¬ (hv:Int)≥8 by omega,if_false,show hv/8=0 by omega,show hv%8=hv by omega,Nat.add_zero]
  ·have e1:ishr .u64 ((T/2^(8*m):Nat):Int) 8=((T/2^(8*(m+1)):Nat):Int):=by
    have:=ishr_nat (k:=.u64) (x:=T/2^(8*m)) (n:=8) (by simp only [IntKind.bits]; omega)
    rw [Nat.div_div_eq_div_mul,← Nat.pow_add] at this
    exact this
   have e2:isub .i64 (hv:Int) 8=((hv-8:Nat):Int):=by rw [sub64 (by omega) (by omega)]; omega
   have c:(dig 8 m T).length+([((T/2^(8*m)%2^8:Nat):Int)]:List Int).length≤140737488355328:=by rw [dig_len]; simp; omega
   simp only [bits_Pack.l1,show (hv:Int)≥8 by omega,if_true,u8_of,c,e1,e2,Option.bind_some]
   rw [← dig_snoc,ih k T (m+1) (hv-8) (by omega) (by omega) (by rw [show 8*(m+1)+(hv-8)=8*m+hv by omega]; exact hT) (by omega) (by omega)]
   rw [show m+1+(hv-8)/8=m+hv/8 by omega,show (hv-8)%8=hv%8 by omega]
theorem ND_take (d:Nat) (l:List Nat) (i:Nat) (h:i<l.length):ND d (l.take (i+1))=ND d (l.take i)+l[i]%2^d*2^(d*i):=by
 rw [List.take_add_one,List.getElem?_eq_getElem h,ND_append]
 have:(l.take i).length=i:=by rw [List.length_take]; omega
 rw [this]
 show _+2^(d*i)*(l[i]%2^d+2^d*0)=_
 rw [Nat.mul_zero,Nat.add_zero,Nat.mul_comm]
theorem bits_Pack_l0 (K d:Nat) (l:List Nat) (hl:∀ x∈l,x<2^32) (hd1:1≤d) (hd:d≤24) (hn:l.length≤100000) (hK:10<K):∀ (r i k:Nat),i+r=l.length→r<k →
  bits_Pack.l0 K k (l.map fun (n:Nat)=>(n:Int)) (d:Int) ((ND d (l.take i)/2^(8*(d*i/8)):Nat):Int) ((d*i%8:Nat):Int) (i:Int) (dig 8 (d*i/8) (ND d (l.take i))) =
   some (((ND d l/2^(8*(d*l.length/8)):Nat):Int),((d*l.length%8:Nat):Int),dig 8 (d*l.length/8) (ND d l)):=by
 intro r
 induction r with
 | zero=>
  intro i k hi hk
  obtain ⟨k,rfl⟩ : ∃ m,k=m+1:=⟨k-1,by omega⟩
  obtain rfl:i=l.length:=by omega
  simp only [bits_Pack.l0,List.length_map,show ¬ (l.length:Int)<(l.length:Int) by omega,if_false,List.take_length]
 | succ r ih=>
  intro i k hi hk
  obtain ⟨k,rfl⟩ : ∃ m,k=m+1:=⟨k-1,by omega⟩
  have hil:i<l.length:=by omega
  have hmul:d*i≤24*100000:=Nat.mul_le_mul hd (by omega)
  have hT:ND d (l.take i)<2^(d*i):=by
   have:=ND_lt d (l.take i)
   rwa [show (l.take i).length=i by rw [List.length_take]; omega] at this
  have hT':ND d (l.take (i+1))<2^(d*(i+1)):=by
   have:=ND_lt d (l.take (i+1))
   rwa [show (l.take (i+1)).length=i+1 by rw [List.length_take]; omega] at this
  have hx:=hl l[i] (List.getElem_mem hil)
  have e1:=mask32 hx hd
  have hdec:d*i=8*(d*i/8)+d*i%8:=by omega
  have hv8:d*i%8<8:=Nat.mod_lt _ (by decide)
  have hTd:=ND_take d l i hil
  have hp1:2^(d*i%8)≤2^7:=Nat.pow_le_pow_right (by decide) (by omega)
  have hp2:2^d≤2^24:=Nat.pow_le_pow_right (by decide) hd
  have hxm:l[i]%2^d<2^d:=Nat.mod_lt _ (Nat.two_pow_pos d)
  have hheld:ND d (l.take i)/2^(8*(d*i/8))<2^(d*i%8):=by
   refine Nat.div_lt_of_lt_mul ?_
   rw [← Nat.pow_add,← hdec]
   exact hT
  have hpr:l[i]%2^d*2^(d*i%8)≤2^24*2^7:=Nat.mul_le_mul (by omega) hp1
  have e2:ior .u64 ((ND d (l.take i)/2^(8*(d*i/8)):Nat):Int) (ishl .u64 ((l[i]%2^d:Nat):Int) ((d*i%8:Nat):Int))=((ND d (l.take (i+1))/2^(8*(d*i/8)):Nat):Int):=by
   have a1:ishl .u64 ((l[i]%2^d:Nat):Int) ((d*i%8:Nat):Int)=((l[i]%2^d*2^(d*i%8):Nat):Int):=ishl_nat (by simp only [IntKind.bits]; omega) (by simp only [top,IntKind.bits,IntKind.signed]; exact Nat.lt_of_le_of_lt hpr (by decide))
   rw [a1,ior_nat (by simp only [top,IntKind.bits,IntKind.signed]; exact Nat.lt_of_lt_of_le hheld (Nat.le_trans hp1 (by decide))) (by simp only [top,IntKind.bits,IntKind.signed]; exact Nat.lt_of_le_of_lt hpr (by decide)),or_parts hheld]
   rw [hTd]
   have a2:l[i]%2^d*2^(d*i)=2^(8*(d*i/8))*(l[i]%2^d*2^(d*i%8)):=by
    have:2^(d*i)=2^(8*(d*i/8))*2^(d*i%8):=by rw [← Nat.pow_add,← hdec]
    rw [this,← Nat.mul_assoc,← Nat.mul_assoc,Nat.mul_comm (l[i]%2^d)]
   rw [a2,Nat.add_mul_div_left _ _ (Nat.two_pow_pos _)]
  have e3:iadd .i64 ((d*i%8:Nat):Int) (d:Int)=((d*i%8+d:Nat):Int):=by rw [add64 (by omega) (by omega)]; rfl
  have e4:iadd .i64 (i:Int) 1=((i+1:Nat):Int):=by rw [add64 (by omega) (by omega)]; rfl
  have e5:dig 8 (d*i/8) (ND d (l.take i))=dig 8 (d*i/8) (ND d (l.take (i+1))):=by
   rw [hTd]
   have a2:l[i]%2^d*2^(d*i)=l[i]%2^d*2^(d*i%8)*2^(8*(d*i/8)):=by
    have:2^(d*i)=2^(d*i%8)*2^(8*(d*i/8)):=by rw [← Nat.pow_add,Nat.add_comm,← hdec]
    rw [this,Nat.mul_assoc]
   rw [a2,dig_low]
  have h1:=bits_Pack_l1 K 5 K (ND d (l.take (i+1))) (d*i/8) (d*i%8+d) (by omega) (by omega) (by
   rw [← Nat.add_assoc,← hdec,show d*i+d=d*(i+1) by rw [Nat.mul_add,Nat.mul_one]]
   exact hT') (by omega) (by omega)
  have hd8:d*i/8+(d*i%8+d)/8=d*(i+1)/8:=by rw [Nat.mul_add,Nat.mul_one]; omega
  have hm8:(d*i%8+d)%8=d*(i+1)%8:=by rw [Nat.mul_add,Nat.mul_one]; omega
  rw [hd8,hm8] at h1
  simp only [bits_Pack.l0,List.length_map,show (i:Int)<(l.length:Int) by omega,if_true,show (0:Int)≤(i:Int) by omega,Option.bind_some,nats l i hil,show (0:Int)≤(d:Int) by omega,show (0:Int)≤((d*i%8:Nat):Int) by omega,e1,e2,e3,e4,e5,h1]
  exact ih (i+1) k (by omega) (by omega)
theorem pack_len {n d:Nat}(hd:d≤24) (hn:n≤100000):iquo .i64 (iadd .i64 (imul .i64 (n:Int) (d:Int)) 7) 8=(((d*n+7)/8:Nat):Int):=by
 have hmul:(n:Int)*(d:Int)=((d*n:Nat):Int):=by rw [Int.natCast_mul,Int.mul_comm]
 have hle:d*n≤24*100000:=Nat.mul_le_mul hd hn
 rw [mul64 (by rw [hmul]; omega) (by rw [hmul]; omega),hmul,add64 (by omega) (by omega)]
 unfold iquo
 rw [tdivN (by omega),id64 (by omega) (by omega)]
 omega
theorem bits_Pack_eq (K d:Nat) (l:List Nat) (hl:∀ x∈l,x<2^32) (hd1:1≤d) (hd:d≤24) (hn:l.length≤100000) (hK:10<K) (hKn:l.length<K) :
  bits_Pack.f K (l.map fun (n:Nat)=>(n:Int)) (d:Int)=some (dig 8 ((d*l.length+7)/8) (ND d l)):=by
 have hle:d*l.length≤24*100000:=Nat.mul_le_mul hd hn
 unfold bits_Pack.f
 rw [if_neg (by omega),if_neg (by omega),List.length_map,pack_len hd hn,if_pos (by omega),if_pos (by omega)]
 have h:=bits_Pack_l0 K d l hl hd1 hd hn hK l.length 0 K (by omega) hKn
 simp only [Nat.mul_zero,List.take_zero,Nat.zero_div,Nat.zero_mod] at h
 have h0:((ND d []/2^0:Nat):Int)=0:=by simp [ND]
 have h00:((0:Nat):Int)=0:=rfl
 rw [h0,h00,show dig 8 0 (ND d [])=([]:List Int) from rfl] at h
 rw [h]
 simp only [Option.bind_some]
 by_cases hz:d*l.length%8=0
 ·rw [if_neg (by omega)]
  simp only [Option.bind_some]
  rw [show (d*l.length+7)/8=d*l.length/8 by omega]
 ·rw [if_pos (by omega),if_pos (by rw [dig_len]; simp; omega)]
  simp only [Option.bind_some]
  rw [u8_of,← dig_snoc,show (d*l.length+7)/8=d*l.length/8+1 by omega]
end Go.Proofs.YtemdbgmldljbpaaGreatDoor

/- own -/
set_option linter.unusedSimpArgs false
set_option linter.unusedVariables false
namespace Go.Proofs.YtemdbgmldljbpaaGreatDoor
open Go Go.Mx
theorem NB_set:∀ (l:List Int) (j:Nat) (x:Int),j<l.length→NB (l.set j x)+256^j*(l.getD j 0).toNat=NB l+256^j*x.toNat
 | [],j,x,h=>by cases h
 | y::l,0,x,h=>by
  show x.toNat+256*NB l+256^0*y.toNat=y.toNat+256*NB l+256^0*x.toNat
  rw [Nat.pow_zero,Nat.one_mul,Nat.one_mul]
  omega
 | y::l,j+1,x,h=>by
  have ih:=NB_set l j x (by simpa using h)
  show y.toNat+256*NB (l.set j x)+256^(j+1)*(l.getD j 0).toNat=y.toNat+256*NB l+256^(j+1)*x.toNat
  rw [Nat.pow_succ,Nat.mul_comm (256^j) 256,Nat.mul_assoc,Nat.mul_assoc]
  omega
theorem byt_set {l:List Int}(h:Byt l) (j:Nat) {x:Int}(h0:0≤x) (h1:x≤255):Byt (l.set j x):=fun y hy=>by
 rcases List.mem_or_eq_of_mem_set hy with hy | rfl
 ·exact h y hy
 ·exact ⟨h0,h1⟩
theorem set_bit {l:List Int}(hl:Byt l) (t bit:Nat) (ht:t/8<l.length) (hb:bit<2) (hN:NB l<2^t) :
  ∃ c:Nat,rdL (CI .u8) l ((t/8:Nat):Int)=(c:Int)∧ior .u8 (c:Int) (ishl .u8 (iconv .u8 (bit:Int)) ((t%8:Nat):Int))=((c+bit*2^(t%8):Nat):Int)∧
   Byt (wrL l ((t/8:Nat):Int) ((c+bit*2^(t%8):Nat):Int))∧NB (wrL l ((t/8:Nat):Int) ((c+bit*2^(t%8):Nat):Int))=NB l+bit*2^t:=by
 obtain ⟨c,h1,h2,h3⟩:=rdL_u8 hl (t/8)
 have h8:t%8<8:=Nat.mod_lt _ (by decide)
 have hat:=NB_at hl (t/8) ht
 have hc:c=NB l/256^(t/8)%256:=by rw [← h3,hat,Int.toNat_natCast]
 have hclt:c<2^(t%8):=by
  rw [hc]
  refine Nat.lt_of_le_of_lt (Nat.mod_le _ _) (Nat.div_lt_of_lt_mul ?_)
  rw [two_mul8,← Nat.pow_add,show 8*(t/8)+t%8=t by omega]
  exact hN
 have hp:2^(t%8)*2≤256:=by
  have:2^(t%8+1)≤2^8:=Nat.pow_le_pow_right (by decide) (by omega)
  rwa [Nat.pow_succ] at this
 have hbm:bit*2^(t%8)≤1*2^(t%8):=Nat.mul_le_mul_right _ (by omega)
 rw [Nat.one_mul] at hbm
 refine ⟨c,h1,?_,?_,?_⟩
 ·have e1:iconv .u8 (bit:Int)=(bit:Int):=wrap_nat (by simp only [top,IntKind.bits,IntKind.signed]; exact Nat.lt_of_lt_of_le hb (by decide))
  have e2:ishl .u8 (bit:Int) ((t%8:Nat):Int)=((bit*2^(t%8):Nat):Int):=ishl_nat (by simp only [IntKind.bits]; omega) (by simp only [top,IntKind.bits,IntKind.signed]; show _<256; omega)
  rw [e1,e2,ior_nat (by simp only [top,IntKind.bits,IntKind.signed]; exact h2) (by simp only [top,IntKind.bits,IntKind.signed]; show _<256; omega),or_parts hclt]
 ·exact byt_set hl _ (by omega) (by omega)
 ·have h:=NB_set l (t/8) ((c+bit*2^(t%8):Nat):Int) ht
  rw [h3,Int.toNat_natCast,Nat.mul_add] at h
  have e:256^(t/8)*(bit*2^(t%8))=bit*2^t:=by
   rw [two_mul8,Nat.mul_comm,Nat.mul_assoc,← Nat.pow_add,show t%8+8*(t/8)=t by omega]
  rw [e] at h
  show NB (l.set ((t/8:Nat):Int).toNat _)=_
  rw [Int.toNat_natCast]
  omega
theorem bit32 {n s:Nat}(hn:n<2^32) (hs:s≤32):iand .u32 (ishr .u32 (n:Int) (s:Int)) 1=((n/2^s%2:Nat):Int):=by
 have h1:n/2^s≤n:=Nat.div_le_self _ _
 rw [ishr_nat (by simp only [IntKind.bits]; omega)]
 generalize n/2^s=q at *
 have:iand .u32 (q:Int) 1=((q &&& 1:Nat):Int):=iand_nat (y:=1) (by simp only [top,IntKind.bits,IntKind.signed]; exact Nat.lt_of_le_of_lt h1 hn) (by decide)
 rw [this,Nat.and_one_is_mod]
theorem mod_bit (n j:Nat):n%2^(j+1)=n%2^j+n/2^j%2*2^j:=by
 rw [Nat.pow_succ,Nat.mod_mul,Nat.mul_comm (2^j)]
theorem ref01_Pack_l1 (K d i:Nat) (l:List Nat) (hl:∀ x∈l,x<2^32) (hil:i<l.length) (hd:d≤24) (hn:l.length≤100000):∀ (r j k:Nat) (out:List Int),j+r=d→r<k→Byt out→out.length=(d*l.length+7)/8 →
  NB out=ND d (l.take i)+l[i]%2^j*2^(d*i)→∃ out',ref01_Pack.l1 K k (l.map fun (n:Nat)=>(n:Int)) (d:Int) (i:Int) (j:Int) out=some out'∧Byt out'∧out'.length=(d*l.length+7)/8∧NB out'=ND d (l.take (i+1)):=by
 intro r
 induction r with
 | zero=>
  intro j k out hj hk hB hlen hN
  obtain ⟨k,rfl⟩ : ∃ m,k=m+1:=⟨k-1,by omega⟩
  obtain rfl:j=d:=by omega
  refine ⟨out,?_,hB,hlen,by rw [hN,ND_take _ _ _ hil]⟩
  simp only [ref01_Pack.l1,show ¬ (j:Int)<(j:Int) by omega,if_false]
 | succ r ih=>
  intro j k out hj hk hB hlen hN
  obtain ⟨k,rfl⟩ : ∃ m,k=m+1:=⟨k-1,by omega⟩
  have hle:d*(i+1)≤d*l.length:=Nat.mul_le_mul_left d hil
  rw [Nat.mul_add,Nat.mul_one] at hle
  have hle2:d*l.length≤24*100000:=Nat.mul_le_mul hd hn
  have hmul:(i:Int)*(d:Int)=((d*i:Nat):Int):=by rw [Int.natCast_mul,Int.mul_comm]
  have hT:ND d (l.take i)<2^(d*i):=by
   have:=ND_lt d (l.take i)
   rwa [show (l.take i).length=i by rw [List.length_take]; omega] at this
  have g1:iadd .i64 (imul .i64 (i:Int) (d:Int)) (j:Int)=((d*i+j:Nat):Int):=by
   rw [mul64 (by rw [hmul]; omega) (by rw [hmul]; omega),hmul,add64 (by omega) (by omega)]
   omega
  have g2:iquo .i64 ((d*i+j:Nat):Int) 8=(((d*i+j)/8:Nat):Int):=by
   unfold iquo
   rw [tdivN (by omega),id64 (by omega) (by omega)]
   omega
  have g3:irem .i64 ((d*i+j:Nat):Int) 8=(((d*i+j)%8:Nat):Int):=by
   unfold irem
   rw [tmodN (by omega)]
   omega
  have hlt:NB out<2^(d*i+j):=by
   rw [hN,Nat.pow_add]
   have h1:l[i]%2^j+1≤2^j:=Nat.mod_lt _ (Nat.two_pow_pos j)
   have h2:=Nat.mul_le_mul_right (2^(d*i)) h1
   rw [Nat.add_mul,Nat.one_mul,Nat.mul_comm (2^j)] at h2
   omega
  have hbit:l[i]/2^j%2<2:=Nat.mod_lt _ (by decide)
  have hx:=hl l[i] (List.getElem_mem hil)
  obtain ⟨c,s1,s2,s3,s4⟩:=set_bit hB (d*i+j) (l[i]/2^j%2) (by omega) hbit hlt
  have g4:=bit32 (s:=j) hx (by omega)
  have g5:iadd .i64 (j:Int) 1=((j+1:Nat):Int):=by rw [add64 (by omega) (by omega)]; rfl
  simp only [ref01_Pack.l1,show (j:Int)<(d:Int) by omega,if_true,g1,g2,g3,Option.bind_some,show (0:Int)≤(((d*i+j)/8:Nat):Int) by omega,show (((d*i+j)/8:Nat):Int)<(out.length:Int) by omega,
   show (0:Int)≤(i:Int) by omega,List.length_map,show (i:Int)<(l.length:Int) by omega,show (0:Int)≤(j:Int) by omega,show (0:Int)≤(((d*i+j)%8:Nat):Int) by omega,nats l i hil,g4,s1,s2,g5]
  refine ih (j+1) k _ (by omega) (by omega) s3 (by simp [wrL,hlen]) ?_
  rw [s4,hN,mod_bit,Nat.add_mul,Nat.pow_add,Nat.mul_comm (2^(d*i)) (2^j),Nat.mul_assoc,Nat.add_assoc]
theorem ref01_Pack_l0 (K d:Nat) (l:List Nat) (hl:∀ x∈l,x<2^32) (hd1:1≤d) (hd:d≤24) (hn:l.length≤100000) (hK:30<K):∀ (r i k:Nat) (out:List Int),i+r=l.length→r<k→Byt out→out.length=(d*l.length+7)/8 →
  NB out=ND d (l.take i)→∃ out',ref01_Pack.l0 K k (l.map fun (n:Nat)=>(n:Int)) (d:Int) (i:Int) out=some out'∧Byt out'∧out'.length=(d*l.length+7)/8∧NB out'=ND d l:=by
 intro r
 induction r with
 | zero=>
  intro i k out hi hk hB hlen hN
  obtain ⟨k,rfl⟩ : ∃ m,k=m+1:=⟨k-1,by omega⟩
  obtain rfl:i=l.length:=by omega
  refine ⟨out,?_,hB,hlen,by rw [hN,List.take_length]⟩
  simp only [ref01_Pack.l0,List.length_map,show ¬ (l.length:Int)<(l.length:Int) by omega,if_false]
 | succ r ih=>
  intro i k out hi hk hB hlen hN
  obtain ⟨k,rfl⟩ : ∃ m,k=m+1:=⟨k-1,by omega⟩
  have hil:i<l.length:=by omega
  obtain ⟨out',h1,h2,h3,h4⟩:=ref01_Pack_l1 K d i l hl hil hd hn d 0 K out (by omega) (by omega) hB hlen (by rw [hN,Nat.pow_zero,Nat.mod_one,Nat.zero_mul,Nat.add_zero])
  have h0:((0:Nat):Int)=0:=rfl
  rw [h0] at h1
  have e4:iadd .i64 (i:Int) 1=((i+1:Nat):Int):=by rw [add64 (by omega) (by omega)]; rfl
  simp only [ref01_Pack.l0,List.length_map,show (i:Int)<(l.length:Int) by omega,if_true,h1,Option.bind_some,e4]
  exact ih (i+1) k out' (by omega) (by omega) h2 h3 h4
theorem NB_rep (n:Nat):NB (List.replicate n 0)=0:=by
 induction n with
 | zero=>rfl
 | succ n ih=>rw [List.replicate_succ]; show (0:Int).toNat+256*NB _=0; rw [ih]; rfl
theorem ref01_Pack_eq (K d:Nat) (l:List Nat) (hl:∀ x∈l,x<2^32) (hd1:1≤d) (hd:d≤24) (hn:l.length≤100000) (hK:30<K) (hKn:l.length<K) :
  ref01_Pack.f K (l.map fun (n:Nat)=>(n:Int)) (d:Int)=some (dig 8 ((d*l.length+7)/8) (ND d l)):=by
 have hle:d*l.length≤24*100000:=Nat.mul_le_mul hd hn
 unfold ref01_Pack.f
 rw [if_neg (by omega),if_neg (by omega),List.length_map,pack_len hd hn,if_pos (by omega),if_pos (by omega)]
 have hr:List.replicate (((d*l.length+7)/8:Nat):Int).toNat (Cod.zero (CI .u8))=List.replicate ((d*l.length+7)/8) (0:Int):=by rw [Int.toNat_natCast]; rfl
 rw [hr]
 obtain ⟨out',h1,h2,h3,h4⟩:=ref01_Pack_l0 K d l hl hd1 hd hn hK l.length 0 K (List.replicate ((d*l.length+7)/8) (0:Int)) (by omega) hKn (fun x hx=>by rw [List.eq_of_mem_replicate hx]; decide) (by simp) (by rw [NB_rep]; rfl)
 have h0:((0:Nat):Int)=0:=rfl
 rw [h0] at h1
 rw [h1]
 show some out'=_
 refine congrArg some (NB_inj h2 (dig_byt _ _) (by rw [h3,dig_len]) ?_)
 rw [h4,NB_dig,Nat.mod_eq_of_lt]
 refine Nat.lt_of_lt_of_le (ND_lt d l) ?_
 rw [two_mul8]
 exact Nat.pow_le_pow_right (by decide) (by omega)
end Go.Proofs.YtemdbgmldljbpaaGreatDoor
