/- own -/
import Derived.Test.YtemdbgmldljbpaaGreatDoorKg
import Derived.Test.YtemdbgmldljbpaaGreatDoorKb
set_option linter.unusedSimpArgs false
set_option linter.unusedVariables false
namespace Go.Proofs.YtemdbgmldljbpaaGreatDoor
open Go Go.Mx
theorem kq_bound_eq (K d:Nat) (hd:d≤12):kq_bound.f K (d:Int)=some (if d=12 then 3329 else ((2^d:Nat):Int)):=by
 unfold kq_bound.f
 by_cases h:d=12
 ·subst h; rfl
 ·rw [if_neg (by omega),if_pos (by omega),if_neg h,shl_one (by omega)]; rfl
theorem ref25_bound_eq (K d:Nat) (hd:d≤12):ref25_bound.f K (d:Int)=some (if d=12 then 3329 else ((2^d:Nat):Int)):=by
 unfold ref25_bound.f
 by_cases h:d=12
 ·subst h; rfl
 ·rw [if_neg (by omega),if_pos (by omega),if_neg h,shl_one (by omega)]; rfl
def unp (l:List Int):Arr 256:=mapA 256 fun i=>iconv .i32 (rdL (CI .u32) l (i:Nat))
def outU (d:Nat) (l:List Int):Arr 256 × Bool:=if allA (belowB (if d=12 then 3329 else ((2^d:Nat):Int))) (unp l)=true then (unp l,true) else (zeroA 256,false)
theorem kq_Unpack_l0 (K:Nat) (hK:256<K) (l:List Int) (hl:l.length=256):kq_Unpack.l0 K K l 0 (zeroA 256)=some (unp l):=by
 refine loop_map (n:=256) (fun k i z=>kq_Unpack.l0 K k l i z) (fun i _=>iconv .i32 (rdL (CI .u32) l (i:Nat))) (zeroA 256) ?_ ?_ K hK
 ·intro k i z hi _
  simp only [kq_Unpack.l0,hl,show (i:Int)<((256:Nat):Int) by omega,show (0:Int)≤(i:Int) by omega,show (i:Int)<256 by omega,if_true,Option.bind_some,add64 (x:=(i:Int)) (y:=1) (by omega) (by omega)]
  rfl
 ·intro k z
  simp only [kq_Unpack.l0,hl,show ¬ ((256:Nat):Int)<((256:Nat):Int) by omega,if_false]
theorem ref25_Unpack_l0 (K:Nat) (hK:256<K) (l:List Int) (hl:l.length=256):ref25_Unpack.l0 K K l 0 (zeroA 256)=some (unp l):=by
 refine loop_map (n:=256) (fun k i z=>ref25_Unpack.l0 K k l i z) (fun i _=>iconv .i32 (rdL (CI .u32) l (i:Nat))) (zeroA 256) ?_ ?_ K hK
 ·intro k i z hi _
  simp only [ref25_Unpack.l0,hl,show (i:Int)<((256:Nat):Int) by omega,show (0:Int)≤(i:Int) by omega,show (i:Int)<256 by omega,if_true,Option.bind_some,add64 (x:=(i:Int)) (y:=1) (by omega) (by omega)]
  rfl
 ·intro k z
  simp only [ref25_Unpack.l0,hl,show ¬ ((256:Nat):Int)<256 by omega,if_false]
def unpV (b:List Int) (a1:Int):Arr 256 × Bool:=if 1≤a1∧a1≤12∧(b.length:Int)=32*a1 then outU a1.toNat (dig a1.toNat 256 (NB b)) else (zeroA 256,false)
theorem kq_Unpack_eq (K:Nat) (hK:256<K) (b:List Int) (hb:Byt b) (a1:Int):kq_Unpack.f K b a1=some (unpV b a1):=by
 unfold kq_Unpack.f unpV
 by_cases h1:a1<1
 ·rw [if_pos h1,if_neg (by omega)]
 by_cases h2:a1>12
 ·rw [if_neg h1,if_pos h2,if_neg (by omega)]
 rw [if_neg h1,if_neg h2,mul64 (by omega) (by omega)]
 by_cases h3:(b.length:Int)=32*a1
 ·rw [if_pos h3,if_pos ⟨by omega,by omega,h3⟩]
  obtain ⟨d,rfl⟩ : ∃ d:Nat,a1=(d:Int):=⟨a1.toNat,by omega⟩
  have e:=bits_Unpack_eq K d 256 b hb (by omega) (by omega) (by omega) (by omega) (by omega) (by omega) hK
  have h256:((256:Nat):Int)=256:=rfl
  rw [h256] at e
  rw [Int.toNat_natCast,e,Option.bind_some,kq_Unpack_l0 K hK _ (dig_len _ _ _),Option.bind_some,kq_bound_eq K d (by omega),Option.bind_some,kq_below_eq K hK,Option.bind_some]
  unfold outU
  generalize unp (dig d 256 (NB b))=u
  by_cases h:allA (belowB (if d=12 then 3329 else ((2^d:Nat):Int))) u=true
  ·rw [if_pos h,if_pos h]
  ·rw [if_neg h,if_neg h]
 ·rw [if_neg h3,if_neg (fun h=>h3 h.2.2)]
theorem ref25_Unpack_eq (K:Nat) (hK:256<K) (b:List Int) (hb:Byt b) (a1:Int):ref25_Unpack.f K b a1=some (unpV b a1):=by
 unfold ref25_Unpack.f unpV
 by_cases h1:a1<1
 ·rw [if_pos h1,if_neg (by omega)]
 by_cases h2:a1>12
 ·rw [if_neg h1,if_pos h2,if_neg (by omega)]
 rw [if_neg h1,if_neg h2,mul64 (by omega) (by omega)]
 by_cases h3:(b.length:Int)=32*a1
 ·rw [if_pos h3,if_pos ⟨by omega,by omega,h3⟩]
  obtain ⟨d,rfl⟩ : ∃ d:Nat,a1=(d:Int):=⟨a1.toNat,by omega⟩
  have e:=ref01_Unpack_eq K d 256 b hb (by omega) (by omega) (by omega) (by omega) (by omega) (by omega) hK
  have h256:((256:Nat):Int)=256:=rfl
  rw [h256] at e
  rw [Int.toNat_natCast,e,Option.bind_some,ref25_Unpack_l0 K hK _ (dig_len _ _ _),Option.bind_some,ref25_bound_eq K d (by omega),Option.bind_some,ref25_Below_eq K hK,Option.bind_some]
  unfold outU
  generalize unp (dig d 256 (NB b))=u
  by_cases h:allA (belowB (if d=12 then 3329 else ((2^d:Nat):Int))) u=true
  ·rw [if_pos h,if_pos h]
  ·rw [if_neg h,if_neg h]
 ·rw [if_neg h3,if_neg (fun h=>h3 h.2.2)]
def natsA (a:Arr 256):List Nat:=(List.range 256).map fun i=>(rd a (i:Nat)).toNat
def packV (a:Arr 256) (a1:Int):List Int:=if 1≤a1∧a1≤12∧allA (belowB (if a1.toNat=12 then 3329 else ((2^a1.toNat:Nat):Int))) a=true then dig 8 ((a1.toNat*256+7)/8) (ND a1.toNat (natsA a)) else []
theorem natsA_len (a:Arr 256):(natsA a).length=256:=by simp [natsA]
theorem natsA_get (a:Arr 256) (i:Nat) (h:i<(natsA a).length):(natsA a)[i]=(rd a (i:Nat)).toNat:=by simp [natsA]
theorem bd_le {d:Nat}(h:d≤12):(if d=12 then 3329 else ((2^d:Nat):Int))≤4096:=by
 split
 ·omega
 ·have:2^d≤2^12:=Nat.pow_le_pow_right (by decide) h
  omega
theorem natsA_lt {a:Arr 256}{B:Int}(h:Bel B a) (hB:B≤4096):∀ x∈natsA a,x<2^32:=by
 intro x hx
 unfold natsA at hx
 obtain ⟨i,hi,rfl⟩:=List.mem_map.1 hx
 obtain ⟨h0,h1⟩:=h i (List.mem_range.1 hi)
 have:(4096:Nat)<2^32:=by decide
 omega
theorem conv_u32 {x:Int}(h0:0≤x) (h1:x<4096):iconv .u32 x=((x.toNat:Nat):Int):=by
 unfold iconv; rw [wu32]; omega
theorem kq_Pack_l0 (K:Nat) (a:Arr 256) {B:Int}(ha:Bel B a) (hB:B≤4096):∀ (r i k:Nat) (l:List Int),i+r=256→r<k→l.length=256→(∀ j,j<i→l[j]? = some (((rd a (j:Nat)).toNat:Nat):Int)) →
  kq_Pack.l0 K k a (i:Int) l=some ((natsA a).map fun (n:Nat)=>(n:Int)):=by
 intro r
 induction r with
 | zero=>
  intro i k l hi hk hl hj
  obtain ⟨k,rfl⟩ : ∃ m,k=m+1:=⟨k-1,by omega⟩
  obtain rfl:i=256:=by omega
  simp only [kq_Pack.l0,show ¬ ((256:Nat):Int)<256 by omega,if_false]
  refine congrArg some (List.ext_getElem? fun j=>?_)
  by_cases h:j<256
  ·rw [hj j h,List.getElem?_map,List.getElem?_eq_getElem (by rw [natsA_len]; exact h),natsA_get]; rfl
  ·rw [List.getElem?_eq_none (by omega),List.getElem?_eq_none (by rw [List.length_map,natsA_len]; omega)]
 | succ r ih=>
  intro i k l hi hk hl hj
  obtain ⟨k,rfl⟩ : ∃ m,k=m+1:=⟨k-1,by omega⟩
  obtain ⟨x0,x1⟩:=ha i (by omega)
  have e4:iadd .i64 (i:Int) 1=((i+1:Nat):Int):=by rw [add64 (by omega) (by omega)]; rfl
  simp only [kq_Pack.l0,show (i:Int)<256 by omega,show (0:Int)≤(i:Int) by omega,hl,show (i:Int)<((256:Nat):Int) by omega,if_true,Option.bind_some,conv_u32 x0 (by omega),e4]
  refine ih (i+1) k _ (by omega) (by omega) (by simp [wrL,hl]) fun j hj'=>?_
  unfold wrL
  rw [Int.toNat_natCast,List.getElem?_set]
  split
  ·rename_i h; subst h; rw [if_pos (by omega)]
  ·exact hj j (by omega)
theorem ref25_Pack_l0 (K:Nat) (a:Arr 256) {B:Int}(ha:Bel B a) (hB:B≤4096):∀ (r i k:Nat),i+r=256→r<k →
  ref25_Pack.l0 K k a (i:Int) (((natsA a).take i).map fun (n:Nat)=>(n:Int))=some ((natsA a).map fun (n:Nat)=>(n:Int)):=by
 intro r
 induction r with
 | zero=>
  intro i k hi hk
  obtain ⟨k,rfl⟩ : ∃ m,k=m+1:=⟨k-1,by omega⟩
  obtain rfl:i=256:=by omega
  simp only [ref25_Pack.l0,show ¬ ((256:Nat):Int)<256 by omega,if_false]
  rw [List.take_of_length_le (by rw [natsA_len]; omega)]
 | succ r ih=>
  intro i k hi hk
  obtain ⟨k,rfl⟩ : ∃ m,k=m+1:=⟨k-1,by omega⟩
  obtain ⟨x0,x1⟩:=ha i (by omega)
  have e4:iadd .i64 (i:Int) 1=((i+1:Nat):Int):=by rw [add64 (by omega) (by omega)]; rfl
  have hc:(((natsA a).take i).map fun (n:Nat)=>(n:Int)).length+([((rd a (i:Nat)).toNat:Int)]:List Int).length≤35184372088832:=by simp; omega
  simp only [ref25_Pack.l0,show (i:Int)<256 by omega,show (0:Int)≤(i:Int) by omega,if_true,Option.bind_some,conv_u32 x0 (by omega),hc,e4]
  have:=ih (i+1) k (by omega) (by omega)
  rw [List.take_add_one,List.getElem?_eq_getElem (by rw [natsA_len]; omega),natsA_get,List.map_append] at this
  exact this
theorem kq_Pack_eq (K:Nat) (hK:256<K) (a:Arr 256) (a1:Int):kq_Pack.f K a a1=some (packV a a1):=by
 unfold kq_Pack.f packV
 by_cases h1:a1<1
 ·rw [if_pos h1,if_neg (by omega)]
 by_cases h2:a1>12
 ·rw [if_neg h1,if_pos h2,if_neg (by omega)]
 obtain ⟨d,rfl⟩ : ∃ d:Nat,a1=(d:Int):=⟨a1.toNat,by omega⟩
 rw [if_neg h1,if_neg h2,kq_bound_eq K d (by omega),Option.bind_some,kq_below_eq K hK,Option.bind_some,Int.toNat_natCast]
 by_cases h3:allA (belowB (if d=12 then 3329 else ((2^d:Nat):Int))) a=true
 ·first
   | rw [if_pos h3,if_pos (show (0:Int)≤256 by omega),if_pos (show (256:Int)≤35184372088832 by omega),if_pos ⟨by omega,by omega,h3⟩]
   | rw [if_pos h3,if_pos ⟨by omega,by omega,h3⟩]
  have ha:=bel_of h3
  have e:=kq_Pack_l0 K a ha (bd_le (by omega)) 256 0 K (List.replicate (256:Int).toNat (Cod.zero (CI .u32))) (by omega) hK (by rw [List.length_replicate]; rfl) (fun j hj=>by omega)
  have h0:((0:Nat):Int)=0:=rfl
  rw [h0] at e
  rw [e,Option.bind_some,bits_Pack_eq K d (natsA a) (natsA_lt ha (bd_le (by omega))) (by omega) (by omega) (by rw [natsA_len]; omega) (by omega) (by rw [natsA_len]; omega),natsA_len]
  rfl
 ·rw [if_neg h3,if_neg (fun h=>h3 h.2.2)]
theorem ref25_Pack_eq (K:Nat) (hK:256<K) (a:Arr 256) (a1:Int):ref25_Pack.f K a a1=some (packV a a1):=by
 unfold ref25_Pack.f packV
 by_cases h1:a1<1
 ·rw [if_pos h1,if_neg (by omega)]
 by_cases h2:a1>12
 ·rw [if_neg h1,if_pos h2,if_neg (by omega)]
 obtain ⟨d,rfl⟩ : ∃ d:Nat,a1=(d:Int):=⟨a1.toNat,by omega⟩
 rw [if_neg h1,if_neg h2,ref25_bound_eq K d (by omega),Option.bind_some,ref25_Below_eq K hK,Option.bind_some,Int.toNat_natCast]
 by_cases h3:allA (belowB (if d=12 then 3329 else ((2^d:Nat):Int))) a=true
 ·rw [if_pos h3,if_pos ⟨by omega,by omega,h3⟩]
  have ha:=bel_of h3
  have e:=ref25_Pack_l0 K a ha (bd_le (by omega)) 256 0 K (by omega) hK
  have h0:((0:Nat):Int)=0:=rfl
  rw [h0,List.take_zero,List.map_nil] at e
  rw [e,Option.bind_some,ref01_Pack_eq K d (natsA a) (natsA_lt ha (bd_le (by omega))) (by omega) (by omega) (by rw [natsA_len]; omega) (by omega) (by rw [natsA_len]; omega),natsA_len]
  rfl
 ·rw [if_neg h3,if_neg (fun h=>h3 h.2.2)]
theorem packV_len (a:Arr 256) (a1:Int):(packV a a1).length≤384:=by
 unfold packV
 by_cases h:1≤a1∧a1≤12∧allA (belowB (if a1.toNat=12 then 3329 else ((2^a1.toNat:Nat):Int))) a=true
 ·rw [if_pos h,dig_len]; omega
 ·rw [if_neg h]; exact Nat.zero_le _
theorem ref25_Squeeze_eq (K:Nat) (hK:256<K) (a:Arr 256) (d:Nat) (h1:1≤d) (h2:d≤11) (ha:Bel 3329 a):ref25_Squeeze.f K a (d:Int)=some (sqzA d a):=by
 rw [ref25_Squeeze.f,if_neg (by omega),if_neg (by omega)]
 rw [loop_map (n:=256) (fun k i z=>ref25_Squeeze.l0 K k (d:Int) i z) (fun _ x=>((sqz d x.toNat:Nat):Int)) a ?_ ?_ K hK]
 ·rfl
 ·intro k i z hi hz
  obtain ⟨x0,x1⟩:=ha i hi
  have hp:=pow_bd h2
  have hp0:0<2^d:=Nat.two_pow_pos d
  obtain ⟨x,hx⟩ : ∃ x:Nat,rd a (i:Nat)=(x:Int):=⟨(rd a (i:Nat)).toNat,by omega⟩
  rw [hx] at x0 x1 hz
  have hm:2*x*2^d≤2*3328*2048:=Nat.mul_le_mul (by omega) hp
  have m1:imul .i32 2 (x:Int)=((2*x:Nat):Int):=by rw [mul32 (by omega) (by omega)]; omega
  have m2:ishl .i32 ((2*x:Nat):Int) (d:Int)=((2*x*2^d:Nat):Int):=ishl_nat (by simp only [IntKind.bits]; omega) (by simp only [top,IntKind.bits,IntKind.signed,if_true]; omega)
  have m3:ishl .i32 1 (d:Int)=((2^d:Nat):Int):=shl_one h2
  have m4:irem .i32 (iquo .i32 (iadd .i32 ((2*x*2^d:Nat):Int) 3329) 6658) ((2^d:Nat):Int)=((sqz d x:Nat):Int):=by
   have e:sqz d x=(2*x*2^d+3329)/6658%2^d:=by
    unfold sqz
    rw [Nat.mul_assoc]
    generalize x*2^d=y
    rw [show (2*y+3329)/6658=(y+1664)/3329 by omega]
   rw [e]
   generalize 2*x*2^d=y at *
   have q1:iquo .i32 (iadd .i32 (y:Int) 3329) 6658=(((y+3329)/6658:Nat):Int):=by
    rw [add32 (by omega) (by omega)]
    unfold iquo
    rw [tdivN (by omega),id32 (by omega) (by omega)]
    omega
   rw [q1]
   unfold irem
   rw [tmodN (by omega),Int.natCast_emod]
  have c0:¬ ((2^d:Nat):Int)=0:=by omega
  simp only [ref25_Squeeze.l0,show (i:Int)<256 by omega,show (0:Int)≤(i:Int) by omega,show (0:Int)≤(d:Int) by omega,if_true,Option.bind_some,hz,m1,m2,m3,c0,not_false_eq_true,m4,add64 (x:=(i:Int)) (y:=1) (by omega) (by omega)]
  rw [hx]
  rfl
 ·intro k z
  simp only [ref25_Squeeze.l0,show ¬ ((256:Nat):Int)<256 by omega,if_false]
theorem ref25_Widen_eq (K:Nat) (hK:256<K) (a:Arr 256) (d:Nat) (h1:1≤d) (h2:d≤11):ref25_Widen.f K a (d:Int)=some (if allA (belowB ((2^d:Nat):Int)) a=true then widA d a else zeroA 256):=by
 rw [ref25_Widen.f,if_neg (by omega),if_neg (by omega),if_pos (by omega),shl_one h2,ref25_Below_eq K hK,Option.bind_some]
 by_cases h:allA (belowB ((2^d:Nat):Int)) a=true
 ·rw [if_pos h,if_pos h]
  have ha:=bel_of h
  rw [loop_map (n:=256) (fun k i z=>ref25_Widen.l0 K k (d:Int) i z) (fun _ x=>((wid d x.toNat:Nat):Int)) a ?_ ?_ K hK]
  ·rfl
  ·intro k i z hi hz
   obtain ⟨x0,x1⟩:=ha i hi
   have hp:=pow_bd h2
   have hp0:0<2^d:=Nat.two_pow_pos d
   obtain ⟨x,hx⟩ : ∃ x:Nat,rd a (i:Nat)=(x:Int):=⟨(rd a (i:Nat)).toNat,by omega⟩
   rw [hx] at x0 x1 hz
   have m1:imul .i32 (imul .i32 2 (x:Int)) 3329=((2*x*3329:Nat):Int):=by rw [mul32 (x:=2) (by omega) (by omega),mul32 (by omega) (by omega)]; omega
   have m3:ishl .i32 1 (d:Int)=((2^d:Nat):Int):=shl_one h2
   have m2:ishl .i32 2 (d:Int)=((2*2^d:Nat):Int):=ishl_nat (x:=2) (by simp only [IntKind.bits]; omega) (by simp only [top,IntKind.bits,IntKind.signed,if_true]; omega)
   have m4:iquo .i32 (iadd .i32 ((2*x*3329:Nat):Int) ((2^d:Nat):Int)) ((2*2^d:Nat):Int)=((wid d x:Nat):Int):=by
    have e:wid d x=(2*x*3329+2^d)/(2*2^d):=by
     unfold wid
     obtain ⟨e,rfl⟩ : ∃ e,d=e+1:=⟨d-1,by omega⟩
     rw [show e+1-1=e by omega,← Nat.div_div_eq_div_mul,Nat.pow_succ]
     rw [show (2*x*3329+2^e*2)/2=x*3329+2^e by omega]
    rw [e,add32 (by omega) (by omega)]
    have hq:(2*x*3329+2^d)/(2*2^d)≤2*x*3329+2^d:=Nat.div_le_self _ _
    unfold iquo
    rw [tdivN (by omega),show ((2*x*3329:Nat):Int)+((2^d:Nat):Int)=((2*x*3329+2^d:Nat):Int) by omega,← Int.natCast_ediv]
    generalize (2*x*3329+2^d)/(2*2^d)=q at *
    exact id32 (by omega) (by omega)
   have c0:¬ ((2*2^d:Nat):Int)=0:=by omega
   simp only [ref25_Widen.l0,show (i:Int)<256 by omega,show (0:Int)≤(i:Int) by omega,show (0:Int)≤(d:Int) by omega,if_true,Option.bind_some,hz,m1,m2,m3,c0,not_false_eq_true,m4,add64 (x:=(i:Int)) (y:=1) (by omega) (by omega)]
   rw [hx]
   rfl
  ·intro k z
   simp only [ref25_Widen.l0,show ¬ ((256:Nat):Int)<256 by omega,if_false]
 ·rw [if_neg h,if_neg h]
end Go.Proofs.YtemdbgmldljbpaaGreatDoor

/- own -/
set_option linter.unusedSimpArgs false
set_option linter.unusedVariables false
namespace Go.Proofs.YtemdbgmldljbpaaGreatDoor
open Go Go.Mx
end Go.Proofs.YtemdbgmldljbpaaGreatDoor
