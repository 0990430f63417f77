/- Layer 25 (kq), plain laws: squeezed and widened, played for all numbers. -/
import Derived.Test.YtemdbgmldljbpaaGreatDoorBF0
import Derived.Test.YtemdbgmldljbpaaGreatDoorBFKemWorks
import Derived.Test.YtemdbgmldljbpaaGreatDoorBFKemOpens
import Derived.Test.YtemdbgmldljbpaaGreatDoorMw
set_option linter.unusedSimpArgs false
set_option linter.unusedVariables false
namespace Go.Proofs.YtemdbgmldljbpaaGreatDoor
def sqz (d x:Nat):Nat:=(x*2^d+1664)/3329%2^d
def wid (d y:Nat):Nat:=(y*3329+2^(d-1))/2^d
def offN (w x:Nat):Nat:=let n:=(w+3329-x)%3329; min n (3329-n)
def okAbout (d x:Nat):Bool:=wid d (sqz d x)<3329 && (sqz d (wid d (sqz d x)) == sqz d x && decide (offN (wid d (sqz d x)) x≤(3329+2^d)/(2*2^d)))
theorem about_ck:(List.range 11).all (fun d=>(List.range 3329).all (okAbout (d+1)))=true:=by decide +kernel
theorem about {d x:Nat}(h1:1≤d) (h2:d≤11) (hx:x<3329):okAbout d x=true:=by
 have h:=about_ck
 rw [List.all_eq_true] at h
 have h3:=h (d-1) (List.mem_range.2 (by omega))
 rw [List.all_eq_true] at h3
 have h4:=h3 x (List.mem_range.2 hx)
 rwa [show d-1+1=d by omega] at h4
end Go.Proofs.YtemdbgmldljbpaaGreatDoor

/- own -/
set_option linter.unusedSimpArgs false
set_option linter.unusedVariables false
namespace Go.Proofs.YtemdbgmldljbpaaGreatDoor
open Go Go.Mx
theorem allK_rd {n:Nat}{p:Int→Bool}{a:Arr n}(h:allA p a=true) (i:Nat) (hi:i<n):p (rd a i)=true:=by
 unfold allA at h
 exact (of_decide_eq_true h) i hi
def belowB (b x:Int):Bool:=decide (0≤x) && decide (x<b)
theorem belowB_iff {b x:Int} : belowB b x=true↔0≤x∧x<b:=by simp [belowB]
def Bel (b:Int) (a:Arr 256):Prop:=∀ i:Nat,i<256→0≤rd a i∧rd a i<b
theorem bel_of {b:Int}{a:Arr 256}(h:allA (belowB b) a=true):Bel b a:=fun i hi=>belowB_iff.1 (allK_rd h i hi)
theorem of_bel {b:Int}{a:Arr 256}(h:Bel b a):allA (belowB b) a=true:=by
 unfold allA
 exact decide_eq_true fun i hi=>belowB_iff.2 (h i hi)
theorem kq_below_eq (K:Nat) (hK:256<K) (a:Arr 256) (b:Int):kq_below.f K a b=some (allA (belowB b) a):=by
 unfold kq_below.f
 rw [loop_all (n:=256) (fun k i=>kq_below.l0 K k a b i) (belowB b) false a ?_ ?_ ?_ K hK]
 ·cases allA (belowB b) a<;>rfl
 ·intro k i hi hp
  obtain ⟨h0,h1⟩:=belowB_iff.1 hp
  simp only [kq_below.l0,show (i:Int)<256 by omega,show (0:Int)≤i by omega,if_true,Option.bind_some,show ¬ rd a i<0 by omega,show ¬ rd a i≥b by omega,if_false,add64 (x:=(i:Int)) (y:=1) (by omega) (by omega)]
  rfl
 ·intro k i hi hp
  have hp':¬ (0≤rd a i∧rd a i<b):=fun h=>by rw [belowB_iff.2 h] at hp; cases hp
  simp only [kq_below.l0,show (i:Int)<256 by omega,show (0:Int)≤i by omega,if_true,Option.bind_some]
  by_cases h:rd a i<0
  ·rw [if_pos h]
  ·rw [if_neg h,if_pos (by omega)]
 ·intro k
  simp only [kq_below.l0,show ¬ ((256:Nat):Int)<256 by omega,if_false]
theorem ref25_Below_eq (K:Nat) (hK:256<K) (a:Arr 256) (b:Int):ref25_Below.f K a b=some (allA (belowB b) a):=by
 unfold ref25_Below.f
 rw [loop_all (n:=256) (fun k i=>ref25_Below.l0 K k a b i) (belowB b) false a ?_ ?_ ?_ K hK]
 ·cases allA (belowB b) a<;>rfl
 ·intro k i hi hp
  obtain ⟨h0,h1⟩:=belowB_iff.1 hp
  simp only [ref25_Below.l0,show (i:Int)<256 by omega,show (0:Int)≤i by omega,if_true,Option.bind_some,show ¬ rd a i<0 by omega,show ¬ rd a i≥b by omega,if_false,add64 (x:=(i:Int)) (y:=1) (by omega) (by omega)]
  rfl
 ·intro k i hi hp
  have hp':¬ (0≤rd a i∧rd a i<b):=fun h=>by rw [belowB_iff.2 h] at hp; cases hp
  simp only [ref25_Below.l0,show (i:Int)<256 by omega,show (0:Int)≤i by omega,if_true,Option.bind_some]
  by_cases h:rd a i<0
  ·rw [if_pos h]
  ·rw [if_neg h,if_pos (by omega)]
 ·intro k
  simp only [ref25_Below.l0,show ¬ ((256:Nat):Int)<256 by omega,if_false]
theorem pow_bd {d:Nat}(h:d≤11):2^d≤2048:=Nat.le_trans (Nat.pow_le_pow_right (by decide) h) (by decide)
theorem sqz_step {d x:Nat}(hd:d≤11) (hx:x<3329):iand .i32 (iquo .i32 (iadd .i32 (ishl .i32 (x:Int) (d:Int)) 1664) 3329) (isub .i32 (ishl .i32 1 (d:Int)) 1)=((sqz d x:Nat):Int):=by
 have hp:=pow_bd hd
 have hp0:0<2^d:=Nat.two_pow_pos d
 have hm:x*2^d≤3328*2048:=Nat.mul_le_mul (by omega) hp
 have e1:ishl .i32 (x:Int) (d:Int)=((x*2^d:Nat):Int):=ishl_nat (by simp only [IntKind.bits]; omega) (by simp only [top,IntKind.bits,IntKind.signed,if_true]; omega)
 have e2:ishl .i32 1 (d:Int)=((1*2^d:Nat):Int):=ishl_nat (x:=1) (by simp only [IntKind.bits]; omega) (by simp only [top,IntKind.bits,IntKind.signed,if_true]; omega)
 rw [e1,e2]
 unfold sqz
 generalize x*2^d=y at *
 have e3:isub .i32 ((1*2^d:Nat):Int) 1=((2^d-1:Nat):Int):=by rw [sub32 (by omega) (by omega)]; omega
 have e4:iquo .i32 (iadd .i32 (y:Int) 1664) 3329=(((y+1664)/3329:Nat):Int):=by
  rw [add32 (by omega) (by omega)]
  unfold iquo
  rw [tdivN (by omega),id32 (by omega) (by omega)]
  omega
 rw [e3,e4,iand_nat (by simp only [top,IntKind.bits,IntKind.signed,if_true]; omega) (by simp only [top,IntKind.bits,IntKind.signed,if_true]; omega),and_mask]
theorem wid_step {d y:Nat}(hd0:1≤d) (hd:d≤11) (hy:y<2^d):ishr .i32 (iadd .i32 (imul .i32 (y:Int) 3329) (ishl .i32 1 (isub .i64 (d:Int) 1))) (d:Int)=((wid d y:Nat):Int):=by
 have hp:=pow_bd hd
 have hp1:2^(d-1)≤2048:=pow_bd (by omega)
 have e0:isub .i64 (d:Int) 1=((d-1:Nat):Int):=by rw [sub64 (by omega) (by omega)]; omega
 have e2:ishl .i32 1 ((d-1:Nat):Int)=((1*2^(d-1):Nat):Int):=ishl_nat (x:=1) (by simp only [IntKind.bits]; omega) (by simp only [top,IntKind.bits,IntKind.signed,if_true]; omega)
 have e3:iadd .i32 (imul .i32 (y:Int) 3329) ((1*2^(d-1):Nat):Int)=((y*3329+2^(d-1):Nat):Int):=by
  rw [mul32 (by omega) (by omega),add32 (by omega) (by omega)]
  omega
 rw [e0,e2,e3,ishr_nat (by simp only [IntKind.bits]; omega)]
 rfl
def sqzA (d:Nat) (a:Arr 256):Arr 256:=mapA 256 fun i=>((sqz d (rd a (i:Nat)).toNat:Nat):Int)
def widA (d:Nat) (a:Arr 256):Arr 256:=mapA 256 fun i=>((wid d (rd a (i:Nat)).toNat:Nat):Int)
theorem nat_of {x:Int}(h:0≤x):x=((x.toNat:Nat):Int):=(Int.toNat_of_nonneg h).symm
theorem kq_Squeeze_eq (K:Nat) (hK:256<K) (a:Arr 256) (d:Nat) (h1:1≤d) (h2:d≤11) (ha:Bel 3329 a):kq_Squeeze.f K a (d:Int)=some (sqzA d a):=by
 rw [kq_Squeeze.f,if_neg (by omega),if_neg (by omega)]
 rw [loop_map (n:=256) (fun k i z=>kq_Squeeze.l0 K k a (d:Int) i z) (fun _ x=>((sqz d x.toNat:Nat):Int)) a ?_ ?_ K hK]
 ·rfl
 ·intro k i z hi hz
  obtain ⟨x0,x1⟩:=ha i hi
  have e:=sqz_step (x:=(rd a (i:Nat)).toNat) h2 (by omega)
  rw [← nat_of x0] at e
  simp only [kq_Squeeze.l0,show (i:Int)<256 by omega,show (0:Int)≤i by omega,show (0:Int)≤(d:Int) by omega,if_true,Option.bind_some,e,add64 (x:=(i:Int)) (y:=1) (by omega) (by omega)]
  rfl
 ·intro k z
  simp only [kq_Squeeze.l0,show ¬ ((256:Nat):Int)<256 by omega,if_false]
theorem shl_one {d:Nat}(h:d≤11):ishl .i32 1 (d:Int)=((2^d:Nat):Int):=by
 have hp:=pow_bd h
 have:=ishl_nat (k:=.i32) (x:=1) (n:=d) (by simp only [IntKind.bits]; omega) (by simp only [top,IntKind.bits,IntKind.signed,if_true]; omega)
 rw [Nat.one_mul] at this
 exact this
theorem kq_Widen_eq (K:Nat) (hK:256<K) (a:Arr 256) (d:Nat) (h1:1≤d) (h2:d≤11) (ha:Bel ((2^d:Nat):Int) a):kq_Widen.f K a (d:Int)=some (widA d a):=by
 rw [kq_Widen.f,if_neg (by omega),if_neg (by omega),if_pos (by omega),shl_one h2,kq_below_eq K hK,of_bel ha]
 simp only [Option.bind_some,if_true]
 rw [loop_map (n:=256) (fun k i z=>kq_Widen.l0 K k a (d:Int) i z) (fun _ x=>((wid d x.toNat:Nat):Int)) a ?_ ?_ K hK]
 ·rfl
 ·intro k i z hi hz
  obtain ⟨x0,x1⟩:=ha i hi
  have e:=wid_step (y:=(rd a (i:Nat)).toNat) h1 h2 (by omega)
  rw [← nat_of x0] at e
  have e0:isub .i64 (d:Int) 1=((d-1:Nat):Int):=by rw [sub64 (by omega) (by omega)]; omega
  rw [e0] at e
  simp only [kq_Widen.l0,show (i:Int)<256 by omega,show (0:Int)≤i by omega,show (0:Int)≤(d:Int) by omega,if_true,Option.bind_some,e0,show (0:Int)≤((d-1:Nat):Int) by omega,e,add64 (x:=(i:Int)) (y:=1) (by omega) (by omega)]
  rfl
 ·intro k z
  simp only [kq_Widen.l0,show ¬ ((256:Nat):Int)<256 by omega,if_false]
theorem sqz_lt (d x:Nat):sqz d x<2^d:=Nat.mod_lt _ (Nat.two_pow_pos d)
theorem bel_sqz (d:Nat) (a:Arr 256):Bel ((2^d:Nat):Int) (sqzA d a):=fun i hi=>by
 unfold sqzA
 rw [rd_mapA _ _ hi]
 have:=sqz_lt d (rd a (i:Nat)).toNat
 omega
end Go.Proofs.YtemdbgmldljbpaaGreatDoor

/- own -/
set_option linter.unusedSimpArgs false
set_option linter.unusedVariables false
namespace Go.Proofs.YtemdbgmldljbpaaGreatDoor
open Go Go.Mx
theorem wr_wr {n:Nat}(z:Arr n) (i:Nat) (x y:Int):wr (wr z (i:Nat) x) (i:Nat) y=wr z (i:Nat) y:=by
 refine arr_ext fun j hj=>?_
 rw [rd_wr _ _ _ _ hj,rd_wr _ _ _ _ hj,rd_wr _ _ _ _ hj]
 split<;>rfl
def ksub (a b:Arr 256):Arr 256:=mapA 256 fun i=>(rd a (i:Nat)-rd b (i:Nat))%3329
theorem kq_Sub_eq (K:Nat) (hK:256<K) (a b:Arr 256) (ha:Bel 3329 a) (hb:Bel 3329 b):kq_Sub.f K a b=some (ksub a b):=by
 rw [kq_Sub.f]
 rw [loop_map (n:=256) (fun k i z=>kq_Sub.l0 K k b i z) (fun i x=>(x-rd b (i:Nat))%3329) a ?_ ?_ K hK]
 ·rfl
 ·intro k i z hi hz
  obtain ⟨x0,x1⟩:=ha i hi
  obtain ⟨y0,y1⟩:=hb i hi
  have g1:(i:Int)<256:=by omega
  have g2:(0:Int)≤i:=by omega
  have e1:isub .i32 (rd a (i:Nat)) (rd b (i:Nat))=rd a (i:Nat)-rd b (i:Nat):=sub32 (by omega) (by omega)
  have e3:=fun v=>rd_wr_same z i v hi
  have e4:iadd .i64 (i:Int) 1=((i+1:Nat):Int):=by rw [add64 (by omega) (by omega)]; rfl
  by_cases h:rd a (i:Nat)-rd b (i:Nat)<0
  ·have e2:iadd .i32 (rd a (i:Nat)-rd b (i:Nat)) 3329=(rd a (i:Nat)-rd b (i:Nat))%3329:=by rw [add32 (by omega) (by omega)]; omega
   simp only [kq_Sub.l0,g1,g2,if_true,hz,Option.bind_some,e1,e3,h,e2,wr_wr,e4]
  ·have e2:rd a (i:Nat)-rd b (i:Nat)=(rd a (i:Nat)-rd b (i:Nat))%3329:=by omega
   simp only [kq_Sub.l0,g1,g2,if_true,hz,Option.bind_some,e1,e3,h,if_false,e4]
   rw [← e2]
 ·intro k z
  simp only [kq_Sub.l0,show ¬ ((256:Nat):Int)<256 by omega,if_false]
end Go.Proofs.YtemdbgmldljbpaaGreatDoor
