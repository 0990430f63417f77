/- own -/
import Derived.Test.YtemdbgmldljbpaaDoorYF0
import Derived.Test.YtemdbgmldljbpaaDoorYFKemShares
import Derived.Test.YtemdbgmldljbpaaDoorYFKemEach
import Derived.Test.YtemdbgmldljbpaaDoorMb
set_option linter.unusedSimpArgs false
set_option linter.unusedVariables false
namespace Go.Proofs.YtemdbgmldljbpaaDoor
open Go Go.Mx
theorem ior64_parts {h b s:Nat}(hh:h<2^s) (hb:b<256) (hs:s≤40):ior .u64 (h:Int) (ishl .u64 (iconv .u64 (b:Int)) (s:Int))=((h+b*2^s:Nat):Int):=by
 have p1:2^s≤2^40:=Nat.pow_le_pow_right (by decide) hs
 have p2:b*2^s≤255*2^40:=Nat.mul_le_mul (by omega) p1
 have e1:iconv .u64 (b:Int)=(b:Int):=wrap_nat (by simp only [top,IntKind.bits,IntKind.signed]; exact Nat.lt_of_lt_of_le hb (by decide))
 have e2:ishl .u64 (b:Int) (s:Int)=((b*2^s:Nat):Int):=ishl_nat (by simp only [IntKind.bits]; omega) (by simp only [top,IntKind.bits,IntKind.signed]; exact Nat.lt_of_le_of_lt p2 (by decide))
 rw [e1,e2,ior_nat (by simp only [top,IntKind.bits,IntKind.signed]; exact Nat.lt_of_lt_of_le hh (Nat.le_trans p1 (by decide))) (by simp only [top,IntKind.bits,IntKind.signed]; exact Nat.lt_of_le_of_lt p2 (by decide)),or_parts hh]
theorem bits_Unpack_l1 (K d:Nat) (hd:d≤24):∀ (m k held hv:Nat) (rest:List Int),Byt rest→held<2^hv→hv<32→d≤hv+8*rest.length→d≤hv+8*m→m<k →
  ∃ (held' have':Nat) (rest':List Int),bits_Unpack.l1 K k (d:Int) (held:Int) (hv:Int) rest=some ((held':Int),(have':Int),rest')∧d≤have'∧(have'=hv∨have'<d+8)∧held'<2^have'∧
   held'+2^have'*NB rest'=held+2^hv*NB rest∧have'+8*rest'.length=hv+8*rest.length∧Byt rest':=by
 intro m
 induction m with
 | zero=>
  intro k held hv rest hB hh h32 hr hm hk
  obtain ⟨k,rfl⟩ : ∃ j,k=j+1:=⟨k-1,by omega⟩
  refine ⟨held,hv,rest,?_,by omega,.inl rfl,hh,rfl,rfl,hB⟩
  simp only [bits_Unpack.l1,show ¬ (hv:Int)<(d:Int) by omega,if_false]
 | succ m ih=>
  intro k held hv rest hB hh h32 hr hm hk
  obtain ⟨k,rfl⟩ : ∃ j,k=j+1:=⟨k-1,by omega⟩
  by_cases hlt:(hv:Int)<(d:Int)
  ·match rest,hB,hr with
   | [],hB,hr=>simp at hr; omega
   | x::rest,hB,hr=>
    have hx:=hB.head
    obtain ⟨b,rfl⟩ : ∃ b:Nat,x=(b:Int):=⟨x.toNat,by omega⟩
    have hb:b<256:=by omega
    have e1:rdL (CI .u8) ((b:Int)::rest) 0=(b:Int):=rfl
    have e2:subL ((b:Int)::rest) 1 (((b:Int)::rest).length:Int)=rest:=by simp [subL]
    have e3:iadd .i64 (hv:Int) 8=((hv+8:Nat):Int):=by rw [add64 (by omega) (by omega)]; rfl
    have c1:(0:Int)<(((b:Int)::rest).length:Int):=by simp
    have c2:(1:Int)≤(((b:Int)::rest).length:Int):=by simp; omega
    have e4:=ior64_parts (s:=hv) hh hb (by omega)
    simp only [bits_Unpack.l1,hlt,if_true,e1,e2,e3,c1,c2,show (0:Int)≤(0:Int) by omega,show (0:Int)≤(1:Int) by omega,show (0:Int)≤(hv:Int) by omega,Int.le_refl,Option.bind_some,e4]
    have hp:(held+b*2^hv)<2^(hv+8):=by
     rw [Nat.pow_add]
     have:(b+1)*2^hv≤256*2^hv:=Nat.mul_le_mul_right _ hb
     rw [Nat.add_mul,Nat.one_mul] at this
     rw [Nat.mul_comm (2^hv)]
     omega
    obtain ⟨held',have',rest',h1,h2,h3,h4,h5,h6,h7⟩:=ih k (held+b*2^hv) (hv+8) rest hB.tail hp (by omega) (by simp at hr; omega) (by omega) (by omega)
    refine ⟨held',have',rest',h1,h2,.inr (by omega),h4,?_,by simp; omega,h7⟩
    rw [h5]
    show held+b*2^hv+2^(hv+8)*NB rest=held+2^hv*((b:Int).toNat+256*NB rest)
    rw [Int.toNat_natCast,Nat.pow_add,Nat.mul_add,Nat.mul_comm b,Nat.mul_assoc,Nat.add_assoc]
  ·refine ⟨held,hv,rest,?_,by omega,.inl rfl,hh,rfl,rfl,hB⟩
   simp only [bits_Unpack.l1,hlt,if_false]
def dig (d:Nat):Nat→Nat→List Int
 | 0,_=>[]
 | n+1,M=>((M%2^d:Nat):Int)::dig d n (M/2^d)
theorem dig_len (d:Nat):∀ n M,(dig d n M).length=n
 | 0,_=>rfl
 | n+1,M=>by simp [dig,dig_len d n]
theorem dig_snoc (d:Nat):∀ n M,dig d (n+1) M=dig d n M++[((M/2^(d*n)%2^d:Nat):Int)]
 | 0,M=>by simp [dig]
 | n+1,M=>by
  show ((M%2^d:Nat):Int)::dig d (n+1) (M/2^d)=((M%2^d:Nat):Int)::(dig d n (M/2^d)++_)
  rw [dig_snoc d n,Nat.div_div_eq_div_mul,← Nat.pow_add,show d+d*n=d*(n+1) by rw [Nat.mul_add,Nat.mul_one,Nat.add_comm]]
theorem low_step {h v d N:Nat}(hd:d≤v):(h+2^v*N)%2^d=h%2^d∧(h+2^v*N)/2^d=h/2^d+2^(v-d)*N:=by
 obtain ⟨e,rfl⟩ : ∃ e,v=d+e:=⟨v-d,by omega⟩
 rw [Nat.pow_add,Nat.mul_assoc,Nat.add_mul_mod_self_left,Nat.add_mul_div_left _ _ (Nat.two_pow_pos d),show d+e-d=e by omega]
 exact ⟨rfl,rfl⟩
theorem mask64 {h d v:Nat}(hh:h<2^v) (hv:v≤40) (hd:d≤24):iconv .u32 (iand .u64 (h:Int) (isub .u64 (ishl .u64 1 (d:Int)) 1))=((h%2^d:Nat):Int):=by
 have p1:2^d≤2^24:=Nat.pow_le_pow_right (by decide) hd
 have p2:2^v≤2^40:=Nat.pow_le_pow_right (by decide) hv
 have p0:=Nat.two_pow_pos d
 have e1:ishl .u64 1 (d:Int)=((2^d:Nat):Int):=by
  have:=ishl_nat (k:=.u64) (x:=1) (n:=d) (by simp only [IntKind.bits]; omega) (by simp only [top,IntKind.bits,IntKind.signed]; rw [Nat.one_mul]; exact Nat.lt_of_le_of_lt p1 (by decide))
  rwa [Nat.one_mul] at this
 have e2:isub .u64 ((2^d:Nat):Int) 1=((2^d-1:Nat):Int):=by
  unfold isub
  rw [show ((2^d:Nat):Int)-1=((2^d-1:Nat):Int) by omega]
  exact wrap_nat (by simp only [top,IntKind.bits,IntKind.signed]; exact Nat.lt_of_le_of_lt (Nat.le_trans (Nat.sub_le _ _) p1) (by decide))
 rw [e1,e2,iand_nat (by simp only [top,IntKind.bits,IntKind.signed]; exact Nat.lt_of_lt_of_le hh (Nat.le_trans p2 (by decide))) (by simp only [top,IntKind.bits,IntKind.signed]; exact Nat.lt_of_le_of_lt (Nat.le_trans (Nat.sub_le _ _) p1) (by decide)),and_mask]
 exact wrap_nat (by simp only [top,IntKind.bits,IntKind.signed]; exact Nat.lt_of_lt_of_le (Nat.mod_lt _ p0) (Nat.le_trans p1 (by decide)))
theorem wrL_take (l:List Int) (i:Nat) (v:Int) (h:i<l.length):(wrL l (i:Nat) v).take (i+1)=l.take i++[v]:=by
 unfold wrL
 rw [Int.toNat_natCast,List.take_add_one,List.take_set,List.getElem?_set_self h,List.set_eq_of_length_le (by simp; omega)]
 rfl
theorem bits_Unpack_l0 (K d n:Nat) (hd1:1≤d) (hd:d≤24) (hK:30<K) (hn:n≤100000):∀ (r i k held hv:Nat) (out rest:List Int),i+r=n→r<k→Byt rest→held<2^hv→hv<8→d*r≤hv+8*rest.length→out.length=n →
  bits_Unpack.l0 K k (d:Int) (n:Int) (held:Int) (hv:Int) (i:Int) out rest=some (out.take i++dig d r (held+2^hv*NB rest)):=by
 intro r
 induction r with
 | zero=>
  intro i k held hv out rest hi hk hB hh h8 hr ho
  obtain ⟨k,rfl⟩ : ∃ j,k=j+1:=⟨k-1,by omega⟩
  have c:¬ (i:Int)<((List.replicate (n:Int).toNat (Cod.zero (CI .u32))).length:Int):=by simp; omega
  simp only [bits_Unpack.l0,c,if_false,dig,List.append_nil]
  rw [List.take_of_length_le (by omega)]
 | succ r ih=>
  intro i k held hv out rest hi hk hB hh h8 hr ho
  obtain ⟨k,rfl⟩ : ∃ j,k=j+1:=⟨k-1,by omega⟩
  have c:(i:Int)<((List.replicate (n:Int).toNat (Cod.zero (CI .u32))).length:Int):=by simp; omega
  rw [Nat.mul_add,Nat.mul_one] at hr
  obtain ⟨held',hv',rest',h1,h2,h3,h4,h5,h6,h7⟩:=bits_Unpack_l1 K d hd 24 K held hv rest hB hh (by omega) (by omega) (by omega) (by omega)
  have e1:=mask64 (d:=d) h4 (by omega) hd
  have e2:ishr .u64 (held':Int) (d:Int)=((held'/2^d:Nat):Int):=ishr_nat (by simp only [IntKind.bits]; omega)
  have e3:isub .i64 (hv':Int) (d:Int)=((hv'-d:Nat):Int):=by rw [sub64 (by omega) (by omega)]; omega
  have e4:iadd .i64 (i:Int) 1=((i+1:Nat):Int):=by rw [add64 (by omega) (by omega)]; rfl
  simp only [bits_Unpack.l0,c,if_true,h1,Option.bind_some,show (0:Int)≤(d:Int) by omega,show (0:Int)≤(i:Int) by omega,show (i:Int)<(out.length:Int) by omega,e1,e2,e3,e4]
  rw [ih (i+1) k (held'/2^d) (hv'-d) (wrL out (i:Nat) _) rest' (by omega) (by omega) h7 (by
   refine Nat.div_lt_of_lt_mul ?_
   rw [← Nat.pow_add,show d+(hv'-d)=hv' by omega]
   exact h4) (by omega) (by omega) (by simp [wrL,ho])]
  rw [wrL_take out i _ (by omega)]
  obtain ⟨l1,l2⟩:=low_step (h:=held') (v:=hv') (N:=NB rest') h2
  rw [← h5,List.append_assoc]
  show _=some (out.take i++((((held'+2^hv'*NB rest')%2^d:Nat):Int)::dig d r ((held'+2^hv'*NB rest')/2^d)))
  rw [l1,l2]
  rfl
theorem bits_Unpack_eq (K d n:Nat) (b:List Int) (hb:Byt b) (hl:d*n≤8*b.length) (hl2:b.length≤1000000) (hd1:1≤d) (hd:d≤24) (hn:n≤100000) (hK:30<K) (hKn:n<K):bits_Unpack.f K b (d:Int) (n:Int)=some (dig d n (NB b)):=by
 have hs:bits_such.f K b (d:Int) (n:Int)=some true:=by
  unfold bits_such.f
  rw [if_pos (by omega),if_pos (by omega),if_pos (by omega),if_pos (by omega),mul64 (by omega) (by omega)]
  unfold iquo
  rw [tdivN (by omega)]
  have hq:(b.length:Int)*8/(d:Int)=((b.length*8/d:Nat):Int):=by rw [Int.natCast_ediv]; rfl
  have h1:n≤b.length*8/d:=by rw [Nat.le_div_iff_mul_le (by omega),Nat.mul_comm n d]; omega
  have h2:b.length*8/d≤b.length*8:=Nat.div_le_self _ _
  rw [hq]
  generalize b.length*8/d=q at *
  rw [id64 (by omega) (by omega)]
  exact congrArg some (decide_eq_true (by omega))
 unfold bits_Unpack.f
 rw [hs]
 simp only [Option.bind_some,if_true]
 rw [if_pos (by omega),if_pos (by omega)]
 have:=bits_Unpack_l0 K d n hd1 hd hK hn n 0 K 0 0 (List.replicate (n:Int).toNat (Cod.zero (CI .u32))) b (by omega) hKn hb (by decide) (by omega) (by omega) (by simp)
 simp only [Nat.zero_add,Nat.pow_zero,Nat.one_mul,List.take_zero,List.nil_append] at this
 have h0:((0:Nat):Int)=0:=rfl
 rw [h0] at this
 rw [this]
 rfl
end Go.Proofs.YtemdbgmldljbpaaDoor

/- own -/
set_option linter.unusedSimpArgs false
set_option linter.unusedVariables false
namespace Go.Proofs.YtemdbgmldljbpaaDoor
open Go Go.Mx
end Go.Proofs.YtemdbgmldljbpaaDoor

/- own -/
set_option linter.unusedSimpArgs false
set_option linter.unusedVariables false
namespace Go.Proofs.YtemdbgmldljbpaaDoor
open Go Go.Mx
theorem dig_low (d:Nat):∀ m T X,dig d m (T+X*2^(d*m))=dig d m T
 | 0,_,_=>rfl
 | m+1,T,X=>by
  show (((T+X*2^(d*(m+1)))%2^d:Nat):Int)::dig d m ((T+X*2^(d*(m+1)))/2^d)=_
  have e:X*2^(d*(m+1))=2^d*(X*2^(d*m)):=by
   rw [Nat.mul_add,Nat.mul_one,Nat.pow_add,Nat.mul_comm (2^(d*m)),← Nat.mul_assoc,← Nat.mul_assoc,Nat.mul_comm X]
  rw [e,Nat.add_mul_mod_self_left,Nat.add_mul_div_left _ _ (Nat.two_pow_pos d),dig_low d m]
  rfl
theorem dig_byt:∀ m T,Byt (dig 8 m T)
 | 0,_=>Byt.nil
 | m+1,T=>Byt.cons (by omega) (by have:=Nat.mod_lt T (show 0<2^8 by decide); omega) (dig_byt m _)
theorem NB_dig:∀ m T,NB (dig 8 m T)=T%256^m
 | 0,T=>by simp [dig,NB,Nat.mod_one]
 | m+1,T=>by
  show ((T%256:Nat):Int).toNat+256*NB (dig 8 m (T/256))=_
  rw [NB_dig m,Int.toNat_natCast,Nat.pow_succ,Nat.mul_comm (256^m) 256,Nat.mod_mul]
theorem nats (l:List Nat) (i:Nat) (h:i<l.length):rdL (CI .u32) (l.map fun (n:Nat)=>(n:Int)) (i:Nat)=((l[i]:Nat):Int):=by
 show (l.map fun (n:Nat)=>(n:Int)).getD (i:Int).toNat 0=_
 rw [Int.toNat_natCast,List.getD_eq_getElem?_getD,List.getElem?_map,List.getElem?_eq_getElem h]
 rfl
theorem mask32 {n d:Nat}(hn:n<2^32) (hd:d≤24):iconv .u64 (iand .u32 (n:Int) (isub .u32 (ishl .u32 1 (d:Int)) 1))=((n%2^d:Nat):Int):=by
 have p1:2^d≤2^24:=Nat.pow_le_pow_right (by decide) hd
 have p0:=Nat.two_pow_pos d
 have e1:ishl .u32 1 (d:Int)=((2^d:Nat):Int):=by
  have:=ishl_nat (k:=.u32) (x:=1) (n:=d) (by simp only [IntKind.bits]; omega) (by simp only [top,IntKind.bits,IntKind.signed]; rw [Nat.one_mul]; exact Nat.lt_of_le_of_lt p1 (by decide))
  rwa [Nat.one_mul] at this
 have e2:isub .u32 ((2^d:Nat):Int) 1=((2^d-1:Nat):Int):=by
  unfold isub
  rw [show ((2^d:Nat):Int)-1=((2^d-1:Nat):Int) by omega]
  exact wrap_nat (by simp only [top,IntKind.bits,IntKind.signed]; exact Nat.lt_of_le_of_lt (Nat.le_trans (Nat.sub_le _ _) p1) (by decide))
 rw [e1,e2,iand_nat (by simp only [top,IntKind.bits,IntKind.signed]; exact hn) (by simp only [top,IntKind.bits,IntKind.signed]; exact Nat.lt_of_le_of_lt (Nat.le_trans (Nat.sub_le _ _) p1) (by decide)),and_mask]
 exact wrap_nat (by simp only [top,IntKind.bits,IntKind.signed]; exact Nat.lt_of_lt_of_le (Nat.mod_lt _ p0) (Nat.le_trans p1 (by decide)))
theorem u8_of (n:Nat):iconv .u8 (n:Int)=((n%2^8:Nat):Int):=by unfold iconv; rw [wu8]; omega
theorem bits_Pack_l1 (K:Nat):∀ (q k T m hv:Nat),hv<8*(q+1)→hv≤60→T<2^(8*m+hv)→q<k→m+q≤10000000 →
  bits_Pack.l1 K k ((T/2^(8*m):Nat):Int) (hv:Int) (dig 8 m T)=some (((T/2^(8*(m+hv/8)):Nat):Int),((hv%8:Nat):Int),dig 8 (m+hv/8) T):=by
 intro q
 induction q with
 | zero=>
  intro k T m hv hq h60 hT hk hm
  obtain ⟨k,rfl⟩ : ∃ j,k=j+1:=⟨k-1,by omega⟩
  simp only [bits_Pack.l1,show ¬ (hv:Int)≥8 by omega,if_false,show hv/8=0 by omega,show hv%8=hv by omega,Nat.add_zero]
 | succ q ih=>
  intro k T m hv hq h60 hT hk hm
  obtain ⟨k,rfl⟩ : ∃ j,k=j+1:=⟨k-1,by omega⟩
  by_cases h8:hv<8
  ·simp only [bits_Pack.l1,show ¬ (hv:Int)≥8 by omega,if_false,show hv/8=0 by omega,show hv%8=hv by omega,Nat.add_zero]
  ·have e1:ishr .u64 ((T/2^(8*m):Nat):Int) 8=((T/2^(8*(m+1)):Nat):Int):=by
    have:=ishr_nat (k:=.u64) (x:=T/2^(8*m)) (n:=8) (by simp only [IntKind.bits]; omega)
    rw [Nat.div_div_eq_div_mul,← Nat.pow_add] at this
    exact this
   have e2:isub .i64 (hv:Int) 8=((hv-8:Nat):Int):=by rw [sub64 (by omega) (by omega)]; omega
   have c:(dig 8 m T).length+([((T/2^(8*m)%2^8:Nat):Int)]:List Int).length≤140737488355328:=by rw [dig_len]; simp; omega
   simp only [bits_Pack.l1,show (hv:Int)≥8 by omega,if_true,u8_of,c,e1,e2,Option.bind_some]
   rw [← dig_snoc,ih k T (m+1) (hv-8) (by omega) (by omega) (by rw [show 8*(m+1)+(hv-8)=8*m+hv by omega]; exact hT) (by omega) (by omega)]
   rw [show m+1+(hv-8)/8=m+hv/8 by omega,show (hv-8)%8=hv%8 by omega]
theorem ND_take (d:Nat) (l:List Nat) (i:Nat) (h:i<l.length):ND d (l.take (i+1))=ND d (l.take i)+l[i]%2^d*2^(d*i):=by
 rw [List.take_add_one,List.getElem?_eq_getElem h,ND_append]
 have:(l.take i).length=i:=by rw [List.length_take]; omega
 rw [this]
 show _+2^(d*i)*(l[i]%2^d+2^d*0)=_
 rw [Nat.mul_zero,Nat.add_zero,Nat.mul_comm]
theorem bits_Pack_l0 (K d:Nat) (l:List Nat) (hl:∀ x∈l,x<2^32) (hd1:1≤d) (hd:d≤24) (hn:l.length≤100000) (hK:10<K):∀ (r i k:Nat),i+r=l.length→r<k →
  bits_Pack.l0 K k (l.map fun (n:Nat)=>(n:Int)) (d:Int) ((ND d (l.take i)/2^(8*(d*i/8)):Nat):Int) ((d*i%8:Nat):Int) (i:Int) (dig 8 (d*i/8) (ND d (l.take i))) =
   some (((ND d l/2^(8*(d*l.length/8)):Nat):Int),((d*l.length%8:Nat):Int),dig 8 (d*l.length/8) (ND d l)):=by
 intro r
 induction r with
 | zero=>
  intro i k hi hk
  obtain ⟨k,rfl⟩ : ∃ m,k=m+1:=⟨k-1,by omega⟩
  obtain rfl:i=l.length:=by omega
  simp only [bits_Pack.l0,List.length_map,show ¬ (l.length:Int)<(l.length:Int) by omega,if_false,List.take_length]
 | succ r ih=>
  intro i k hi hk
  obtain ⟨k,rfl⟩ : ∃ m,k=m+1:=⟨k-1,by omega⟩
  have hil:i<l.length:=by omega
  have hmul:d*i≤24*100000:=Nat.mul_le_mul hd (by omega)
  have hT:ND d (l.take i)<2^(d*i):=by
   have:=ND_lt d (l.take i)
   rwa [show (l.take i).length=i by rw [List.length_take]; omega] at this
  have hT':ND d (l.take (i+1))<2^(d*(i+1)):=by
   have:=ND_lt d (l.take (i+1))
   rwa [show (l.take (i+1)).length=i+1 by rw [List.length_take]; omega] at this
  have hx:=hl l[i] (List.getElem_mem hil)
  have e1:=mask32 hx hd
  have hdec:d*i=8*(d*i/8)+d*i%8:=by omega
  have hv8:d*i%8<8:=Nat.mod_lt _ (by decide)
  have hTd:=ND_take d l i hil
  have hp1:2^(d*i%8)≤2^7:=Nat.pow_le_pow_right (by decide) (by omega)
  have hp2:2^d≤2^24:=Nat.pow_le_pow_right (by decide) hd
  have hxm:l[i]%2^d<2^d:=Nat.mod_lt _ (Nat.two_pow_pos d)
  have hheld:ND d (l.take i)/2^(8*(d*i/8))<2^(d*i%8):=by
   refine Nat.div_lt_of_lt_mul ?_
   rw [← Nat.pow_add,← hdec]
   exact hT
  have hpr:l[i]%2^d*2^(d*i%8)≤2^24*2^7:=Nat.mul_le_mul (by omega) hp1
  have e2:ior .u64 ((ND d (l.take i)/2^(8*(d*i/8)):Nat):Int) (ishl .u64 ((l[i]%2^d:Nat):Int) ((d*i%8:Nat):Int))=((ND d (l.take (i+1))/2^(8*(d*i/8)):Nat):Int):=by
   have a1:ishl .u64 ((l[i]%2^d:Nat):Int) ((d*i%8:Nat):Int)=((l[i]%2^d*2^(d*i%8):Nat):Int):=ishl_nat (by simp only [IntKind.bits]; omega) (by simp only [top,IntKind.bits,IntKind.signed]; exact Nat.lt_of_le_of_lt hpr (by decide))
   rw [a1,ior_nat (by simp only [top,IntKind.bits,IntKind.signed]; exact Nat.lt_of_lt_of_le hheld (Nat.le_trans hp1 (by decide))) (by simp only [top,IntKind.bits,IntKind.signed]; exact Nat.lt_of_le_of_lt hpr (by decide)),or_parts hheld]
   rw [hTd]
   have a2:l[i]%2^d*2^(d*i)=2^(8*(d*i/8))*(l[i]%2^d*2^(d*i%8)):=by
    have:2^(d*i)=2^(8*(d*i/8))*2^(d*i%8):=by rw [← Nat.pow_add,← hdec]
    rw [this,← Nat.mul_assoc,← Nat.mul_assoc,Nat.mul_comm (l[i]%2^d)]
   rw [a2,Nat.add_mul_div_left _ _ (Nat.two_pow_pos _)]
  have e3:iadd .i64 ((d*i%8:Nat):Int) (d:Int)=((d*i%8+d:Nat):Int):=by rw [add64 (by omega) (by omega)]; rfl
  have e4:iadd .i64 (i:Int) 1=((i+1:Nat):Int):=by rw [add64 (by omega) (by omega)]; rfl
  have e5:dig 8 (d*i/8) (ND d (l.take i))=dig 8 (d*i/8) (ND d (l.take (i+1))):=by
   rw [hTd]
   have a2:l[i]%2^d*2^(d*i)=l[i]%2^d*2^(d*i%8)*2^(8*(d*i/8)):=by
    have:2^(d*i)=2^(d*i%8)*2^(8*(d*i/8)):=by rw [← Nat.pow_add,Nat.add_comm,← hdec]
    rw [this,Nat.mul_assoc]
   rw [a2,dig_low]
  have h1:=bits_Pack_l1 K 5 K (ND d (l.take (i+1))) (d*i/8) (d*i%8+d) (by omega) (by omega) (by
   rw [← Nat.add_assoc,← hdec,show d*i+d=d*(i+1) by rw [Nat.mul_add,Nat.mul_one]]
   exact hT') (by omega) (by omega)
  have hd8:d*i/8+(d*i%8+d)/8=d*(i+1)/8:=by rw [Nat.mul_add,Nat.mul_one]; omega
  have hm8:(d*i%8+d)%8=d*(i+1)%8:=by rw [Nat.mul_add,Nat.mul_one]; omega
  rw [hd8,hm8] at h1
  simp only [bits_Pack.l0,List.length_map,show (i:Int)<(l.length:Int) by omega,if_true,show (0:Int)≤(i:Int) by omega,Option.bind_some,nats l i hil,show (0:Int)≤(d:Int) by omega,show (0:Int)≤((d*i%8:Nat):Int) by omega,e1,e2,e3,e4,e5,h1]
  exact ih (i+1) k (by omega) (by omega)
theorem pack_len {n d:Nat}(hd:d≤24) (hn:n≤100000):iquo .i64 (iadd .i64 (imul .i64 (n:Int) (d:Int)) 7) 8=(((d*n+7)/8:Nat):Int):=by
 have hmul:(n:Int)*(d:Int)=((d*n:Nat):Int):=by rw [Int.natCast_mul,Int.mul_comm]
 have hle:d*n≤24*100000:=Nat.mul_le_mul hd hn
 rw [mul64 (by rw [hmul]; omega) (by rw [hmul]; omega),hmul,add64 (by omega) (by omega)]
 unfold iquo
 rw [tdivN (by omega),id64 (by omega) (by omega)]
 omega
theorem bits_Pack_eq (K d:Nat) (l:List Nat) (hl:∀ x∈l,x<2^32) (hd1:1≤d) (hd:d≤24) (hn:l.length≤100000) (hK:10<K) (hKn:l.length<K) :
  bits_Pack.f K (l.map fun (n:Nat)=>(n:Int)) (d:Int)=some (dig 8 ((d*l.length+7)/8) (ND d l)):=by
 have hle:d*l.length≤24*100000:=Nat.mul_le_mul hd hn
 unfold bits_Pack.f
 rw [if_neg (by omega),if_neg (by omega),List.length_map,pack_len hd hn,if_pos (by omega),if_pos (by omega)]
 have h:=bits_Pack_l0 K d l hl hd1 hd hn hK l.length 0 K (by omega) hKn
 simp only [Nat.mul_zero,List.take_zero,Nat.zero_div,Nat.zero_mod] at h
 have h0:((ND d []/2^0:Nat):Int)=0:=by simp [ND]
 have h00:((0:Nat):Int)=0:=rfl
 rw [h0,h00,show dig 8 0 (ND d [])=([]:List Int) from rfl] at h
 rw [h]
 simp only [Option.bind_some]
 by_cases hz:d*l.length%8=0
 ·rw [if_neg (by omega)]
  simp only [Option.bind_some]
  rw [show (d*l.length+7)/8=d*l.length/8 by omega]
 ·rw [if_pos (by omega),if_pos (by rw [dig_len]; simp; omega)]
  simp only [Option.bind_some]
  rw [u8_of,← dig_snoc,show (d*l.length+7)/8=d*l.length/8+1 by omega]
end Go.Proofs.YtemdbgmldljbpaaDoor

/- own -/
set_option linter.unusedSimpArgs false
set_option linter.unusedVariables false
namespace Go.Proofs.YtemdbgmldljbpaaDoor
open Go Go.Mx
end Go.Proofs.YtemdbgmldljbpaaDoor
