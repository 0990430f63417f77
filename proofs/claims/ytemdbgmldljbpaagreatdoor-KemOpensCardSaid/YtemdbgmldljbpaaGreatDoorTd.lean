/- own -/
import Derived.Test.YtemdbgmldljbpaaGreatDoorBF0
import Derived.Test.YtemdbgmldljbpaaGreatDoorBFKemWorks
import Derived.Test.YtemdbgmldljbpaaGreatDoorBFKemOpens
import Derived.Test.YtemdbgmldljbpaaGreatDoorMb
set_option linter.unusedSimpArgs false
set_option linter.unusedVariables false
set_option maxRecDepth 100000
namespace Go.Proofs.YtemdbgmldljbpaaGreatDoor
open Go Go.Mx
abbrev W64 (x:Int):Prop:=0≤x∧x<18446744073709551616
def InW {n:Nat}(a:Arr n):Prop:=∀ i:Nat,i<n→W64 (rd a i)
def bv (x:Int):BitVec 64:=BitVec.ofInt 64 x
theorem wrap_bv (b:BitVec 64):IntKind.wrap .u64 (b.toNat:Int)=(b.toNat:Int):=by
 rw [wu64]
 have:=b.isLt
 omega
theorem xor_bv (x y:Int):ixor .u64 x y=((bv x ^^^ bv y).toNat:Int):=wrap_bv _
theorem and_bv (x y:Int):iand .u64 x y=((bv x &&& bv y).toNat:Int):=wrap_bv _
theorem andn_bv (x y:Int):iandn .u64 x y=((bv x &&& ~~~ bv y).toNat:Int):=wrap_bv _
theorem bv_nat (b:BitVec 64):bv (b.toNat:Int)=b:=by unfold bv; simp
theorem bv_word {x:Int}(h:W64 x):((bv x).toNat:Int)=x:=by
 unfold bv
 rw [BitVec.toNat_ofInt]
 obtain ⟨h0,h1⟩:=h
 omega
theorem word_nat (b:BitVec 64):W64 (b.toNat:Int):=by
 have:=b.isLt
 constructor<;>omega
theorem w_xor (x y:Int):W64 (ixor .u64 x y):=by rw [xor_bv]; exact word_nat _
theorem xor_assoc (x y z:Int):ixor .u64 (ixor .u64 x y) z=ixor .u64 x (ixor .u64 y z):=by
 rw [xor_bv,xor_bv x y,bv_nat,xor_bv x,xor_bv y z,bv_nat,BitVec.xor_assoc]
theorem xor_zero {x:Int}(h:W64 x):ixor .u64 0 x=x:=by
 rw [xor_bv,show bv 0=0#64 from rfl,BitVec.zero_xor,bv_word h]
theorem andn_eq (x y:Int):iand .u64 (ixor .u64 x 18446744073709551615) y=iandn .u64 y x:=by
 rw [and_bv,andn_bv,xor_bv,bv_nat,show bv 18446744073709551615=BitVec.allOnes 64 from by decide,BitVec.xor_allOnes,BitVec.and_comm]
def rotl (x:Int) (n:Nat):Int:=ior .u64 (ishl .u64 x (n:Int)) (ishr .u64 x ((64-n:Nat):Int))
theorem rot_eq (K:Nat) (x:Int) (n:Nat) (hn:n<64):math_bits_RotateLeft64.f K x (n:Int)=some (rotl x n):=by
 have p:n<2^64:=Nat.lt_trans hn (by decide)
 have e1:iconv .u64 (n:Int)=(n:Int):=wrap_nat (by simp only [top,IntKind.bits,IntKind.signed]; exact p)
 have e2:iand .u64 (n:Int) 63=(n:Int):=by
  have:=iand_nat (k:=.u64) (x:=n) (y:=63) (by simp only [top,IntKind.bits,IntKind.signed]; exact p) (by decide)
  rw [show (63:Nat)=2^6-1 from rfl,and_mask,Nat.mod_eq_of_lt (by omega)] at this
  exact this
 have e3:isub .u64 64 (n:Int)=((64-n:Nat):Int):=by
  unfold isub
  rw [show (64:Int)-(n:Int)=((64-n:Nat):Int) by omega]
  exact wrap_nat (by simp only [top,IntKind.bits,IntKind.signed]; exact Nat.lt_of_le_of_lt (Nat.sub_le _ _) (by decide))
 unfold math_bits_RotateLeft64.f
 rw [e1,e2,Option.bind_some,if_pos (by omega),e3,if_pos (by omega)]
 rfl
theorem left_eq (K:Nat) (x:Int) (m:Nat) (hm:m<1000000):ref08_left.f K x (m:Int)=some (rotl x (m%64)):=by
 have e1:irem .i64 (m:Int) 64=((m%64:Nat):Int):=by
  unfold irem
  rw [tmodN (by omega)]
  omega
 have e3:isub .i64 64 ((m%64:Nat):Int)=((64-m%64:Nat):Int):=by
  rw [sub64 (by omega) (by omega)]
  omega
 unfold ref08_left.f
 rw [e1,Option.bind_some,if_pos (by omega),e3,if_pos (by omega)]
 rfl
def colW (a:Arr 25) (x:Nat):Int:=ixor .u64 (ixor .u64 (ixor .u64 (ixor .u64 (rd a (x:Nat)) (rd a ((x+5:Nat):Int))) (rd a ((x+10:Nat):Int))) (rd a ((x+15:Nat):Int))) (rd a ((x+20:Nat):Int))
def colA (a:Arr 25):Arr 5:=mapA 5 (colW a)
theorem iadd_nat (x y:Nat) (h:x+y<1000000):iadd .i64 (x:Int) (y:Int)=((x+y:Nat):Int):=by rw [add64 (by omega) (by omega)]; omega
theorem columns_eq (a:Arr 25):keccak_columns.f 60000 a=some (colA a):=by
 rw [keccak_columns.f]
 rw [loop_map (n:=5) (fun k i z=>keccak_columns.l0 60000 k a i z) (fun x _=>colW a x) (zeroA 5) ?_ ?_ 60000 (by decide)]
 ·rfl
 ·intro k i z hi _
  have e1:iadd .i64 (i:Int) 1=((i+1:Nat):Int):=iadd_nat i 1 (by omega)
  have e5:iadd .i64 (i:Int) 5=((i+5:Nat):Int):=iadd_nat i 5 (by omega)
  have e10:iadd .i64 (i:Int) 10=((i+10:Nat):Int):=iadd_nat i 10 (by omega)
  have e15:iadd .i64 (i:Int) 15=((i+15:Nat):Int):=iadd_nat i 15 (by omega)
  have e20:iadd .i64 (i:Int) 20=((i+20:Nat):Int):=iadd_nat i 20 (by omega)
  simp only [keccak_columns.l0,show (i:Int)<5 by omega,show (0:Int)≤i by omega,show (i:Int)<25 by omega,if_true,e1,e5,e10,e15,e20,Option.bind_some,show (0:Int)≤((i+5:Nat):Int) by omega,show ((i+5:Nat):Int)<25 by omega,show (0:Int)≤((i+10:Nat):Int) by omega,show ((i+10:Nat):Int)<25 by omega,
   show (0:Int)≤((i+15:Nat):Int) by omega,show ((i+15:Nat):Int)<25 by omega,show (0:Int)≤((i+20:Nat):Int) by omega,show ((i+20:Nat):Int)<25 by omega]
  rfl
 ·intro k z
  simp only [keccak_columns.l0,show ¬ ((5:Nat):Int)<5 by omega,if_false]
def colP (a:Arr 25) (j x:Nat):Int:=(List.range j).foldl (fun s i=>if i%5=x then ixor .u64 s (rd a (i:Nat)) else s) 0
theorem colP_succ (a:Arr 25) (j x:Nat):colP a (j+1) x=if j%5=x then ixor .u64 (colP a j x) (rd a (j:Nat)) else colP a j x:=by
 unfold colP
 rw [List.range_succ,List.foldl_append]
 rfl
theorem colP_all (a:Arr 25) (ha:InW a) (x:Nat) (hx:x<5):colP a 25 x=colW a x:=by
 have hz:=xor_zero (ha x (by omega))
 have e:∀ j x,j%5=x→colP a (j+1) x=ixor .u64 (colP a j x) (rd a (j:Nat)):=fun j x h=>by rw [colP_succ,if_pos h]
 have n:∀ j x,j%5≠x→colP a (j+1) x=colP a j x:=fun j x h=>by rw [colP_succ,if_neg h]
 unfold colW
 obtain rfl | rfl | rfl | rfl | rfl:x=0∨x=1∨x=2∨x=3∨x=4:=by omega
 all_goals
  simp only [colP_succ,show colP a 0 _=0 from rfl]
  simp
  refine congrArg (fun t=>ixor .u64 (ixor .u64 (ixor .u64 (ixor .u64 t _) _) _) _) ?_
  exact hz
theorem spread_l0 (a:Arr 25) (ha:InW a):ref08_spread.l0 60000 60000 a 0 (zeroA 5)=some (colA a):=by
 have key:∀ (d j k:Nat) (z:Arr 5),j+d=25→d<k→(∀ x:Nat,x<5→rd z (x:Nat)=colP a j x)→ref08_spread.l0 60000 k a (j:Int) z=some (colA a):=by
  intro d
  induction d with
  | zero=>
   intro j k z hj hk hz
   obtain ⟨k,rfl⟩ : ∃ m,k=m+1:=⟨k-1,by omega⟩
   obtain rfl:j=25:=by omega
   simp only [ref08_spread.l0,show ¬ ((25:Nat):Int)<25 by omega,if_false]
   refine congrArg some (arr_ext fun x hx=>?_)
   unfold colA
   rw [rd_mapA _ _ hx,hz x hx,colP_all a ha x hx]
  | succ d ih=>
   intro j k z hj hk hz
   obtain ⟨k,rfl⟩ : ∃ m,k=m+1:=⟨k-1,by omega⟩
   have e1:iadd .i64 (j:Int) 1=((j+1:Nat):Int):=iadd_nat j 1 (by omega)
   have e2:irem .i64 (j:Int) 5=((j%5:Nat):Int):=by
    unfold irem
    rw [tmodN (by omega)]
    omega
   simp only [ref08_spread.l0,show (j:Int)<25 by omega,show (0:Int)≤j by omega,if_true,e1,e2,Option.bind_some,show (0:Int)≤((j%5:Nat):Int) by omega,show ((j%5:Nat):Int)<5 by omega]
   refine ih (j+1) k _ (by omega) (by omega) fun x hx=>?_
   rw [rd_wr _ _ _ _ hx,colP_succ]
   by_cases h:j%5=x
   ·rw [if_pos h,if_pos h,← h,hz _ (by omega)]
   ·rw [if_neg h,if_neg h,hz x hx]
 have:=key 25 0 60000 (zeroA 5) (by omega) (by decide) fun x hx=>by rw [rd_zeroA _ hx]; rfl
 exact this
def dW (a:Arr 25) (x:Nat):Int:=ixor .u64 (colW a ((x+4)%5)) (rotl (colW a ((x+1)%5)) 1)
def thetaA (a:Arr 25):Arr 25:=mapA 25 fun j=>ixor .u64 (rd a (j:Nat)) (dW a (j%5))
def thetaP (a:Arr 25) (x q:Nat):Arr 25:=mapA 25 fun j=>if j%5<x∨(j%5=x∧j/5<q) then ixor .u64 (rd a (j:Nat)) (dW a (j%5)) else rd a (j:Nat)
theorem round_l1 (a:Arr 25) (x:Nat) (hx:x<5):∀ (d q k:Nat),q+d=5→d<k→keccak_round.l1 60000 k (x:Int) (dW a x) ((5*q:Nat):Int) (thetaP a x q)=some (thetaP a x 5):=by
 intro d
 induction d with
 | zero=>
  intro q k hq hk
  obtain ⟨k,rfl⟩ : ∃ m,k=m+1:=⟨k-1,by omega⟩
  obtain rfl:q=5:=by omega
  simp only [keccak_round.l1,show ¬ ((5*5:Nat):Int)<25 by omega,if_false]
 | succ d ih=>
  intro q k hq hk
  obtain ⟨k,rfl⟩ : ∃ m,k=m+1:=⟨k-1,by omega⟩
  have e1:iadd .i64 (x:Int) ((5*q:Nat):Int)=((x+5*q:Nat):Int):=iadd_nat x (5*q) (by omega)
  have e5:iadd .i64 ((5*q:Nat):Int) 5=((5*(q+1):Nat):Int):=iadd_nat (5*q) 5 (by omega)
  have er:rd (thetaP a x q) ((x+5*q:Nat):Int)=rd a ((x+5*q:Nat):Int):=by
   unfold thetaP
   rw [rd_mapA _ _ (by omega),if_neg (by omega)]
  simp only [keccak_round.l1,show ((5*q:Nat):Int)<25 by omega,if_true,e1,e5,er,Option.bind_some,show (0:Int)≤((x+5*q:Nat):Int) by omega,show ((x+5*q:Nat):Int)<25 by omega]
  have hw:wr (thetaP a x q) ((x+5*q:Nat):Int) (ixor .u64 (rd a ((x+5*q:Nat):Int)) (dW a x))=thetaP a x (q+1):=by
   refine arr_ext fun j hj=>?_
   rw [rd_wr _ _ _ _ hj]
   unfold thetaP
   rw [rd_mapA _ _ hj,rd_mapA _ _ hj]
   by_cases h:x+5*q=j
   ·subst h
    rw [if_pos rfl,if_pos (by omega),show (x+5*q)%5=x by omega]
   ·rw [if_neg h]
    by_cases h2:j%5<x∨(j%5=x∧j/5<q)
    ·rw [if_pos h2,if_pos (by omega)]
    ·rw [if_neg h2,if_neg (by omega)]
  rw [hw]
  exact ih (q+1) k (by omega) (by omega)
theorem round_l0 (a:Arr 25):∀ (d x k:Nat),x+d=5→d<k→keccak_round.l0 60000 k (colA a) (x:Int) (thetaP a x 0)=some (thetaA a):=by
 intro d
 induction d with
 | zero=>
  intro x k hq hk
  obtain ⟨k,rfl⟩ : ∃ m,k=m+1:=⟨k-1,by omega⟩
  obtain rfl:x=5:=by omega
  simp only [keccak_round.l0,show ¬ ((5:Nat):Int)<5 by omega,if_false]
  refine congrArg some (arr_ext fun j hj=>?_)
  unfold thetaP thetaA
  rw [rd_mapA _ _ hj,rd_mapA _ _ hj,if_pos (by omega)]
 | succ d ih=>
  intro x k hq hk
  obtain ⟨k,rfl⟩ : ∃ m,k=m+1:=⟨k-1,by omega⟩
  have e4:irem .i64 (iadd .i64 (x:Int) 4) 5=(((x+4)%5:Nat):Int):=by
   rw [show iadd .i64 (x:Int) 4=((x+4:Nat):Int) from iadd_nat x 4 (by omega)]
   unfold irem
   rw [tmodN (by omega)]
   omega
  have e1:irem .i64 ((x+1:Nat):Int) 5=(((x+1)%5:Nat):Int):=by
   unfold irem
   rw [tmodN (by omega)]
   omega
  have e2:iadd .i64 (x:Int) 1=((x+1:Nat):Int):=iadd_nat x 1 (by omega)
  have c4:rd (colA a) (((x+4)%5:Nat):Int)=colW a ((x+4)%5):=by unfold colA; rw [rd_mapA _ _ (by omega)]
  have c1:rd (colA a) (((x+1)%5:Nat):Int)=colW a ((x+1)%5):=by unfold colA; rw [rd_mapA _ _ (by omega)]
  have hr:math_bits_RotateLeft64.f 60000 (colW a ((x+1)%5)) 1=some (rotl (colW a ((x+1)%5)) 1):=rot_eq 60000 _ 1 (by decide)
  have h1:=round_l1 a x (by omega) 5 0 60000 (by omega) (by decide)
  rw [show ((5*0:Nat):Int)=0 from rfl] at h1
  simp only [keccak_round.l0,show (x:Int)<5 by omega,if_true,e4,e1,e2,c4,c1,hr,Option.bind_some,show (0:Int)≤(((x+4)%5:Nat):Int) by omega,show (((x+4)%5:Nat):Int)<5 by omega,show (0:Int)≤(((x+1)%5:Nat):Int) by omega,show (((x+1)%5:Nat):Int)<5 by omega]
  rw [show ixor .u64 (colW a ((x+4)%5)) (rotl (colW a ((x+1)%5)) 1)=dW a x from rfl,h1]
  have hw:thetaP a x 5=thetaP a (x+1) 0:=by
   refine arr_ext fun j hj=>?_
   unfold thetaP
   rw [rd_mapA _ _ hj,rd_mapA _ _ hj]
   by_cases h2:j%5<x∨(j%5=x∧j/5<5)
   ·rw [if_pos h2,if_pos (by omega)]
   ·rw [if_neg h2,if_neg (by omega)]
  rw [Option.bind_some,hw]
  exact ih (x+1) k (by omega) (by omega)
theorem thetaP_start (a:Arr 25):thetaP a 0 0=a:=by
 refine arr_ext fun j hj=>?_
 unfold thetaP
 rw [rd_mapA _ _ hj,if_neg (by omega)]
theorem ref08_spread_eq (a:Arr 25) (ha:InW a):ref08_spread.f 60000 a=some (thetaA a):=by
 rw [ref08_spread.f,spread_l0 a ha,Option.bind_some]
 rw [loop_map (n:=25) (fun k i z=>ref08_spread.l1 60000 k (colA a) i z) (fun j v=>ixor .u64 v (dW a (j%5))) a ?_ ?_ 60000 (by decide)]
 ·rfl
 ·intro k i z hi hz
  have e4:irem .i64 (iadd .i64 (i:Int) 4) 5=(((i+4)%5:Nat):Int):=by
   rw [show iadd .i64 (i:Int) 4=((i+4:Nat):Int) from iadd_nat i 4 (by omega)]
   unfold irem
   rw [tmodN (by omega)]
   omega
  have e1:irem .i64 ((i+1:Nat):Int) 5=(((i+1)%5:Nat):Int):=by
   unfold irem
   rw [tmodN (by omega)]
   omega
  have e2:iadd .i64 (i:Int) 1=((i+1:Nat):Int):=iadd_nat i 1 (by omega)
  have c4:rd (colA a) (((i+4)%5:Nat):Int)=colW a ((i+4)%5):=by unfold colA; rw [rd_mapA _ _ (by omega)]
  have c1:rd (colA a) (((i+1)%5:Nat):Int)=colW a ((i+1)%5):=by unfold colA; rw [rd_mapA _ _ (by omega)]
  have hr:ref08_left.f 60000 (colW a ((i+1)%5)) 1=some (rotl (colW a ((i+1)%5)) 1):=left_eq 60000 _ 1 (by decide)
  simp only [ref08_spread.l1,show (i:Int)<25 by omega,show (0:Int)≤(i:Int) by omega,if_true,e4,e1,e2,c4,c1,hr,hz,Option.bind_some,show (0:Int)≤(((i+4)%5:Nat):Int) by omega,show (((i+4)%5:Nat):Int)<5 by omega,show (0:Int)≤(((i+1)%5:Nat):Int) by omega,show (((i+1)%5:Nat):Int)<5 by omega]
  rw [xor_assoc]
  unfold dW
  rw [show (i%5+4)%5=(i+4)%5 by omega,show (i%5+1)%5=(i+1)%5 by omega]
 ·intro k z
  simp only [ref08_spread.l1,show ¬ ((25:Nat):Int)<25 by omega,if_false]
def plc (i:Nat):Nat:=(rd tab_1 (i:Nat)).toNat
def trn (i:Nat):Nat:=(rd tab_2 (i:Nat)).toNat
def src (i:Nat):Nat:=if i=0 then 1 else plc (i-1)
def pos (j:Nat):Nat:=(List.range 24).findIdx fun i=>plc i == j
theorem ck_plc:∀ i,i<24→rd tab_1 (i:Nat)=((plc i:Nat):Int)∧plc i<25∧0<plc i∧pos (plc i)=i∧src i<25:=by decide +kernel
theorem ck_trn:∀ i,i<24→rd tab_2 (i:Nat)=((trn i:Nat):Int)∧trn i<64∧(i+1)*(i+2)/2%64=trn i:=by decide +kernel
theorem ck_pos:∀ j,j<25→0<j→pos j<24∧plc (pos j)=j:=by decide +kernel
theorem ck_mv:∀ i,i<24→src i/5+5*((2*(src i%5)+3*(src i/5))%5)=plc i∧(i+1<24→src (i+1)=plc i):=by decide +kernel
def rhoA (a:Arr 25):Arr 25:=mapA 25 fun j=>if j=0 then rd a ((0:Nat):Int) else rotl (rd a ((src (pos j):Nat):Int)) (trn (pos j))
theorem round_l2 (a:Arr 25):∀ (d i k:Nat) (h:Int) (z:Arr 25),i+d=24→d<k→(i<24→h=rd a ((src i:Nat):Int)) →
  (∀ j:Nat,j<25→rd z (j:Nat)=if 0<j∧pos j<i then rotl (rd a ((src (pos j):Nat):Int)) (trn (pos j)) else rd a (j:Nat))→keccak_round.l2 60000 k h (i:Int) z=some (rhoA a):=by
 intro d
 induction d with
 | zero=>
  intro i k h z hi hk hh hz
  obtain ⟨k,rfl⟩ : ∃ m,k=m+1:=⟨k-1,by omega⟩
  obtain rfl:i=24:=by omega
  simp only [keccak_round.l2,show ¬ ((24:Nat):Int)<24 by omega,if_false]
  refine congrArg some (arr_ext fun j hj=>?_)
  unfold rhoA
  rw [hz j hj,rd_mapA _ _ hj]
  by_cases h0:j=0
  ·subst h0; rw [if_neg (by omega),if_pos rfl]
  ·rw [if_pos ⟨by omega,(ck_pos j hj (by omega)).1⟩,if_neg h0]
 | succ d ih=>
  intro i k h z hi hk hh hz
  obtain ⟨k,rfl⟩ : ∃ m,k=m+1:=⟨k-1,by omega⟩
  obtain ⟨p1,p2,p3,p4,p5⟩:=ck_plc i (by omega)
  obtain ⟨t1,t2,t3⟩:=ck_trn i (by omega)
  have e1:iadd .i64 (i:Int) 1=((i+1:Nat):Int):=iadd_nat i 1 (by omega)
  have hr:=rot_eq 60000 h (trn i) t2
  have hzp:rd z ((plc i:Nat):Int)=rd a ((plc i:Nat):Int):=by
   rw [hz _ p2,if_neg (by rw [p4]; omega)]
  simp only [keccak_round.l2,show (i:Int)<24 by omega,show (0:Int)≤(i:Int) by omega,if_true,p1,t1,e1,hr,hzp,Option.bind_some,show (0:Int)≤((plc i:Nat):Int) by omega,show ((plc i:Nat):Int)<25 by omega]
  refine ih (i+1) k _ _ (by omega) (by omega) (fun h2=>by rw [(ck_mv i (by omega)).2 h2]) fun j hj=>?_
  rw [rd_wr _ _ _ _ hj]
  by_cases h3:plc i=j
  ·subst h3
   rw [if_pos rfl,if_pos ⟨p3,by rw [p4]; omega⟩,p4,hh (by omega)]
  ·rw [if_neg h3,hz j hj]
   by_cases h4:0<j∧pos j<i
   ·rw [if_pos h4,if_pos ⟨h4.1,by omega⟩]
   ·rw [if_neg h4,if_neg]
    rintro ⟨h5,h6⟩
    have:pos j=i:=by omega
    exact h3 (by rw [← this]; exact (ck_pos j hj h5).2)
theorem move_l0 (a:Arr 25):∀ (d i k:Nat) (x y:Nat) (z:Arr 25),i+d=24→d<k→(i<24→x=src i%5∧y=src i/5) →
  (∀ j:Nat,j<25→rd z (j:Nat)=if j=0 then rd a ((0:Nat):Int) else if pos j<i then rotl (rd a ((src (pos j):Nat):Int)) (trn (pos j)) else 0)→ref08_move.l0 60000 k a (x:Int) (y:Int) (i:Int) z=some (rhoA a):=by
 intro d
 induction d with
 | zero=>
  intro i k x y z hi hk hh hz
  obtain ⟨k,rfl⟩ : ∃ m,k=m+1:=⟨k-1,by omega⟩
  obtain rfl:i=24:=by omega
  simp only [ref08_move.l0,show ¬ ((24:Nat):Int)<24 by omega,if_false]
  refine congrArg some (arr_ext fun j hj=>?_)
  unfold rhoA
  rw [hz j hj,rd_mapA _ _ hj]
  by_cases h0:j=0
  ·rw [if_pos h0,if_pos h0]
  ·rw [if_neg h0,if_neg h0,if_pos (ck_pos j hj (by omega)).1]
 | succ d ih=>
  intro i k x y z hi hk hh hz
  obtain ⟨k,rfl⟩ : ∃ m,k=m+1:=⟨k-1,by omega⟩
  obtain ⟨p1,p2,p3,p4,p5⟩:=ck_plc i (by omega)
  obtain ⟨t1,t2,t3⟩:=ck_trn i (by omega)
  obtain ⟨m1,m2⟩:=ck_mv i (by omega)
  obtain ⟨hx,hy⟩:=hh (by omega)
  have hx5:x<5:=by omega
  have hy5:y<5:=by omega
  have hxy:x+5*y=src i:=by omega
  have e1:iadd .i64 (i:Int) 1=((i+1:Nat):Int):=iadd_nat i 1 (by omega)
  have e2:iadd .i64 (i:Int) 2=((i+2:Nat):Int):=iadd_nat i 2 (by omega)
  have e3:irem .i64 (iadd .i64 (imul .i64 2 (x:Int)) (imul .i64 3 (y:Int))) 5=(((2*x+3*y)%5:Nat):Int):=by
   rw [mul64 (x:=2) (by omega) (by omega),mul64 (x:=3) (by omega) (by omega),add64 (by omega) (by omega)]
   unfold irem
   rw [tmodN (by omega)]
   omega
  have e4:iadd .i64 (x:Int) (imul .i64 5 (y:Int))=((src i:Nat):Int):=by
   rw [mul64 (x:=5) (by omega) (by omega),add64 (by omega) (by omega)]
   omega
  have hpl:y+5*((2*x+3*y)%5)=plc i:=by rw [hx,hy]; exact m1
  have e5:iadd .i64 (y:Int) (imul .i64 5 (((2*x+3*y)%5:Nat):Int))=((plc i:Nat):Int):=by
   rw [mul64 (x:=5) (by omega) (by omega),add64 (by omega) (by omega)]
   omega
  have e6:iquo .i64 (imul .i64 ((i+1:Nat):Int) ((i+2:Nat):Int)) 2=(((i+1)*(i+2)/2:Nat):Int):=by
   have hm:(i+1)*(i+2)≤24*25:=Nat.mul_le_mul (by omega) (by omega)
   have hc:((i+1:Nat):Int)*((i+2:Nat):Int)=(((i+1)*(i+2):Nat):Int):=(Int.natCast_mul _ _).symm
   rw [mul64 (by rw [hc]; omega) (by rw [hc]; omega),hc]
   unfold iquo
   rw [tdivN (by omega),id64 (by omega) (by omega)]
   omega
  have hm:(i+1)*(i+2)≤24*25:=Nat.mul_le_mul (by omega) (by omega)
  have hr:=left_eq 60000 (rd a ((src i:Nat):Int)) ((i+1)*(i+2)/2) (by omega)
  rw [t3] at hr
  simp only [ref08_move.l0,show (i:Int)<24 by omega,if_true,e1,e2,e3,e4,e5,e6,hr,Option.bind_some,show (0:Int)≤((src i:Nat):Int) by omega,show ((src i:Nat):Int)<25 by omega,show (0:Int)≤((plc i:Nat):Int) by omega,show ((plc i:Nat):Int)<25 by omega]
  refine ih (i+1) k y ((2*x+3*y)%5) _ (by omega) (by omega) (fun h2=>by rw [m2 h2]; omega) fun j hj=>?_
  rw [rd_wr _ _ _ _ hj]
  by_cases h3:plc i=j
  ·subst h3
   rw [if_pos rfl,if_neg (by omega),if_pos (by rw [p4]; omega),p4]
  ·rw [if_neg h3,hz j hj]
   by_cases h0:j=0
   ·rw [if_pos h0,if_pos h0]
   ·rw [if_neg h0,if_neg h0]
    by_cases h4:pos j<i
    ·rw [if_pos h4,if_pos (by omega)]
    ·rw [if_neg h4,if_neg]
     intro h6
     have:pos j=i:=by omega
     exact h3 (by rw [← this]; exact (ck_pos j hj (by omega)).2)
theorem ref08_move_eq (a:Arr 25):ref08_move.f 60000 a=some (rhoA a):=by
 rw [ref08_move.f,Option.bind_some]
 have:=move_l0 a 24 0 60000 1 0 (wr (zeroA 25) ((0:Nat):Int) (rd a ((0:Nat):Int))) (by omega) (by decide) (fun _=>by decide) fun j hj=>by
  rw [rd_wr _ _ _ _ hj]
  by_cases h:0=j
  ·rw [if_pos h,if_pos h.symm]
  ·rw [if_neg h,if_neg (fun e=>h e.symm),if_neg (by omega),rd_zeroA _ hj]
 have h0:((0:Nat):Int)=0:=rfl
 have h1:((1:Nat):Int)=1:=rfl
 rw [h0,h1] at this
 rw [this]
 rfl
end Go.Proofs.YtemdbgmldljbpaaGreatDoor

/- own -/
set_option linter.unusedSimpArgs false
set_option linter.unusedVariables false
set_option maxRecDepth 100000
namespace Go.Proofs.YtemdbgmldljbpaaGreatDoor
open Go Go.Mx
def chiW (b:Arr 25) (r x:Nat):Int:=ixor .u64 (rd b ((r+x:Nat):Int)) (iandn .u64 (rd b ((r+(x+2)%5:Nat):Int)) (rd b ((r+(x+1)%5:Nat):Int)))
def chiA (b:Arr 25):Arr 25:=mapA 25 fun j=>chiW b (j/5*5) (j%5)
def chiP (b:Arr 25) (r x:Nat):Arr 25:=mapA 25 fun j=>if j/5<r∨(j/5=r∧j%5<x) then chiW b (j/5*5) (j%5) else rd b (j:Nat)
theorem rd_row (b:Arr 25) (r:Nat) (hr:r<5) (q:Nat) (hq:q<5):rd (subA 5 (chiP b r 0) ((5*r:Nat):Int)) ((q:Nat):Int)=rd b ((5*r+q:Nat):Int):=by
 rw [rd_subA _ _ _ hq,show ((5*r:Nat):Int)+((q:Nat):Int)=((5*r+q:Nat):Int) by omega]
 unfold chiP
 rw [rd_mapA _ _ (by omega),if_neg (by omega)]
theorem round_l4 (b:Arr 25) (r:Nat) (hr:r<5):∀ (d x k:Nat),x+d=5→d<k→keccak_round.l4 60000 k ((5*r:Nat):Int) (chiP b r 0) (x:Int) (chiP b r x)=some (chiP b r 5):=by
 intro d
 induction d with
 | zero=>
  intro x k hq hk
  obtain ⟨k,rfl⟩ : ∃ m,k=m+1:=⟨k-1,by omega⟩
  obtain rfl:x=5:=by omega
  simp only [keccak_round.l4,show ¬ ((5:Nat):Int)<5 by omega,if_false]
 | succ d ih=>
  intro x k hq hk
  obtain ⟨k,rfl⟩ : ∃ m,k=m+1:=⟨k-1,by omega⟩
  have i1:iadd .i64 (x:Int) 1=((x+1:Nat):Int):=iadd_nat x 1 (by omega)
  have i2:iadd .i64 (x:Int) 2=((x+2:Nat):Int):=iadd_nat x 2 (by omega)
  have e1:irem .i64 ((x+1:Nat):Int) 5=(((x+1)%5:Nat):Int):=by
   unfold irem
   rw [tmodN (by omega)]
   omega
  have e2:irem .i64 ((x+2:Nat):Int) 5=(((x+2)%5:Nat):Int):=by
   unfold irem
   rw [tmodN (by omega)]
   omega
  have e3:iadd .i64 ((5*r:Nat):Int) (x:Int)=((5*r+x:Nat):Int):=iadd_nat (5*r) x (by omega)
  have r0:=rd_row b r hr x (by omega)
  have r1:=rd_row b r hr ((x+1)%5) (by omega)
  have r2:=rd_row b r hr ((x+2)%5) (by omega)
  simp only [keccak_round.l4,show (x:Int)<5 by omega,show (0:Int)≤(x:Int) by omega,if_true,i1,i2,e1,e2,e3,r0,r1,r2,Option.bind_some,show (0:Int)≤(((x+1)%5:Nat):Int) by omega,show (((x+1)%5:Nat):Int)<5 by omega,show (0:Int)≤(((x+2)%5:Nat):Int) by omega,show (((x+2)%5:Nat):Int)<5 by omega,
   show (0:Int)≤((5*r+x:Nat):Int) by omega,show ((5*r+x:Nat):Int)<25 by omega]
  have hw:wr (chiP b r x) ((5*r+x:Nat):Int) (ixor .u64 (rd b ((5*r+x:Nat):Int)) (iandn .u64 (rd b ((5*r+(x+2)%5:Nat):Int)) (rd b ((5*r+(x+1)%5:Nat):Int))))=chiP b r (x+1):=by
   refine arr_ext fun j hj=>?_
   rw [rd_wr _ _ _ _ hj]
   unfold chiP
   rw [rd_mapA _ _ hj,rd_mapA _ _ hj]
   by_cases h:5*r+x=j
   ·subst h
    rw [if_pos rfl,if_pos (by omega),show (5*r+x)/5*5=5*r by omega,show (5*r+x)%5=x by omega]
    rfl
   ·rw [if_neg h]
    by_cases h2:j/5<r∨(j/5=r∧j%5<x)
    ·rw [if_pos h2,if_pos (by omega)]
    ·rw [if_neg h2,if_neg (by omega)]
  rw [hw]
  exact ih (x+1) k (by omega) (by omega)
theorem round_l3 (b:Arr 25):∀ (d r k:Nat),r+d=5→d<k→keccak_round.l3 60000 k ((5*r:Nat):Int) (chiP b r 0)=some (chiA b):=by
 intro d
 induction d with
 | zero=>
  intro r k hq hk
  obtain ⟨k,rfl⟩ : ∃ m,k=m+1:=⟨k-1,by omega⟩
  obtain rfl:r=5:=by omega
  simp only [keccak_round.l3,show ¬ ((5*5:Nat):Int)<25 by omega,if_false]
  refine congrArg some (arr_ext fun j hj=>?_)
  unfold chiP chiA
  rw [rd_mapA _ _ hj,rd_mapA _ _ hj,if_pos (by omega)]
 | succ d ih=>
  intro r k hq hk
  obtain ⟨k,rfl⟩ : ∃ m,k=m+1:=⟨k-1,by omega⟩
  have e5:iadd .i64 ((5*r:Nat):Int) 5=((5*(r+1):Nat):Int):=iadd_nat (5*r) 5 (by omega)
  have h1:=round_l4 b r (by omega) 5 0 60000 (by omega) (by decide)
  rw [show ((0:Nat):Int)=0 from rfl] at h1
  have c1:5≤(((5*(r+1):Nat):Int):Int).toNat-(((5*r:Nat):Int):Int).toNat:=by omega
  simp only [keccak_round.l3,show ((5*r:Nat):Int)<25 by omega,show (0:Int)≤((5*r:Nat):Int) by omega,if_true,e5,show ((5*r:Nat):Int)≤((5*(r+1):Nat):Int) by omega,show ((5*(r+1):Nat):Int)≤25 by omega,c1,h1,Option.bind_some]
  have hw:chiP b r 5=chiP b (r+1) 0:=by
   refine arr_ext fun j hj=>?_
   unfold chiP
   rw [rd_mapA _ _ hj,rd_mapA _ _ hj]
   by_cases h2:j/5<r∨(j/5=r∧j%5<5)
   ·rw [if_pos h2,if_pos (by omega)]
   ·rw [if_neg h2,if_neg (by omega)]
  rw [hw]
  exact ih (r+1) k (by omega) (by omega)
theorem chiP_start (b:Arr 25):chiP b 0 0=b:=by
 refine arr_ext fun j hj=>?_
 unfold chiP
 rw [rd_mapA _ _ hj,if_neg (by omega)]
def roundA (a:Arr 25) (c:Int):Arr 25:=wr (chiA (rhoA (thetaA a))) 0 (ixor .u64 (rd (chiA (rhoA (thetaA a))) 0) c)
theorem round_eq (a:Arr 25) (c:Int):keccak_round.f 60000 a c=some (roundA a c):=by
 have h0:=round_l0 a 5 0 60000 (by omega) (by decide)
 rw [thetaP_start,show ((0:Nat):Int)=0 from rfl] at h0
 have h2:=round_l2 (thetaA a) 24 0 60000 (rd (thetaA a) 1) (thetaA a) (by omega) (by decide) (fun _=>rfl) (fun j hj=>by rw [if_neg (by omega)])
 rw [show ((0:Nat):Int)=0 from rfl] at h2
 have h3:=round_l3 (rhoA (thetaA a)) 5 0 60000 (by omega) (by decide)
 rw [chiP_start,show ((5*0:Nat):Int)=0 from rfl] at h3
 rw [keccak_round.f,columns_eq,Option.bind_some,h0,Option.bind_some,Option.bind_some,h2,Option.bind_some,h3]
 rfl
theorem refchi (b z:Arr 25):ref08_Permute.l1 60000 60000 b 0 z=some (chiA b):=by
 refine loop_map (n:=25) (fun k i z=>ref08_Permute.l1 60000 k b i z) (fun j _=>chiW b (j/5*5) (j%5)) z ?_ ?_ 60000 (by decide)
 ·intro k i z hi _
  have i1:iadd .i64 (i:Int) 1=((i+1:Nat):Int):=iadd_nat i 1 (by omega)
  have i2:iadd .i64 (i:Int) 2=((i+2:Nat):Int):=iadd_nat i 2 (by omega)
  have e0:imul .i64 (iquo .i64 (i:Int) 5) 5=((i/5*5:Nat):Int):=by
   unfold iquo
   rw [tdivN (by omega),id64 (by omega) (by omega),mul64 (by omega) (by omega)]
   omega
  have e1:irem .i64 ((i+1:Nat):Int) 5=(((i+1)%5:Nat):Int):=by
   unfold irem
   rw [tmodN (by omega)]
   omega
  have e2:irem .i64 ((i+2:Nat):Int) 5=(((i+2)%5:Nat):Int):=by
   unfold irem
   rw [tmodN (by omega)]
   omega
  have a1:=iadd_nat (i/5*5) ((i+1)%5) (by omega)
  have a2:=iadd_nat (i/5*5) ((i+2)%5) (by omega)
  simp only [ref08_Permute.l1,show (i:Int)<25 by omega,show (0:Int)≤(i:Int) by omega,if_true,i1,i2,e0,e1,e2,a1,a2,Option.bind_some,show (0:Int)≤((i/5*5+(i+1)%5:Nat):Int) by omega,show ((i/5*5+(i+1)%5:Nat):Int)<25 by omega,show (0:Int)≤((i/5*5+(i+2)%5:Nat):Int) by omega,show ((i/5*5+(i+2)%5:Nat):Int)<25 by omega,andn_eq]
  unfold chiW
  rw [show i/5*5+i%5=i by omega,show (i%5+2)%5=(i+2)%5 by omega,show (i%5+1)%5=(i+1)%5 by omega]
 ·intro k z
  simp only [ref08_Permute.l1,show ¬ ((25:Nat):Int)<25 by omega,if_false]
theorem w_round (a:Arr 25) (c:Int):InW (roundA a c):=fun j hj=>by
 unfold roundA
 have:=rd_wr (chiA (rhoA (thetaA a))) 0 j (ixor .u64 (rd (chiA (rhoA (thetaA a))) 0) c) hj
 rw [show ((0:Nat):Int)=0 from rfl] at this
 rw [this]
 split
 ·exact w_xor _ _
 ·unfold chiA
  rw [rd_mapA _ _ hj]
  exact w_xor _ _
def permA (a:Arr 25):Arr 25:=(List.range 24).foldl (fun s i=>roundA s (rd tab_0 (i:Nat))) a
theorem w_perm (a:Arr 25):InW (permA a):=by
 unfold permA
 rw [List.range_succ,List.foldl_append]
 exact w_round _ _
theorem Permute_eq (a:Arr 25):keccak_Permute.f 60000 a=some (permA a):=by
 rw [keccak_Permute.f]
 have:=loop_fold (S:=Arr 25) (fun k s i=>keccak_Permute.l0 60000 k i s) (fun s i=>roundA s (rd tab_0 (i:Nat))) 24 (fun k i s hi=>by
  have e1:iadd .i64 (i:Int) 1=((i+1:Nat):Int):=iadd_nat i 1 (by omega)
  simp only [keccak_Permute.l0,show (i:Int)<24 by omega,show (0:Int)≤(i:Int) by omega,if_true,Option.bind_some,round_eq,e1]) (fun k s=>by
  simp only [keccak_Permute.l0,show ¬ ((24:Nat):Int)<24 by omega,if_false]) 60000 (by decide) a
 rw [this]
 rfl
theorem consts:(ref08_constants.f 60000).map (fun r=>r.toList)=some tab_0.toList:=by decide +kernel
theorem consts_eq:ref08_constants.f 60000=some tab_0:=by
 have h:=consts
 rw [Option.map_eq_some_iff] at h
 obtain ⟨r,hr,hl⟩:=h
 rw [hr]
 exact congrArg some (Vector.toList_inj.1 hl)
theorem ref_fold (a:Arr 25) (ha:InW a):∀ (d i k:Nat) (s:Arr 25),i+d=24→d<k→InW s→ref08_Permute.l0 60000 k tab_0 (i:Int) s=some ((List.range' i d).foldl (fun s i=>roundA s (rd tab_0 (i:Nat))) s):=by
 intro d
 induction d with
 | zero=>
  intro i k s hi hk hs
  obtain ⟨k,rfl⟩ : ∃ m,k=m+1:=⟨k-1,by omega⟩
  obtain rfl:i=24:=by omega
  simp only [ref08_Permute.l0,show ¬ ((24:Nat):Int)<24 by omega,if_false]
  rfl
 | succ d ih=>
  intro i k s hi hk hs
  obtain ⟨k,rfl⟩ : ∃ m,k=m+1:=⟨k-1,by omega⟩
  have e1:iadd .i64 (i:Int) 1=((i+1:Nat):Int):=iadd_nat i 1 (by omega)
  simp only [ref08_Permute.l0,show (i:Int)<24 by omega,show (0:Int)≤(i:Int) by omega,if_true,Option.bind_some,ref08_spread_eq s hs,ref08_move_eq,refchi,e1]
  have:=ih (i+1) k (roundA s (rd tab_0 (i:Nat))) (by omega) (by omega) (w_round _ _)
  rw [List.range'_succ,List.foldl_cons]
  exact this
theorem ref08_Permute_eq (a:Arr 25) (ha:InW a):ref08_Permute.f 60000 a=some (permA a):=by
 rw [ref08_Permute.f,consts_eq,Option.bind_some]
 have:=ref_fold a ha 24 0 60000 a (by omega) (by decide) ha
 rw [show ((0:Nat):Int)=0 from rfl] at this
 rw [this]
 unfold permA
 rw [List.range_eq_range']
 rfl
end Go.Proofs.YtemdbgmldljbpaaGreatDoor

/- own -/
set_option linter.unusedSimpArgs false
set_option linter.unusedVariables false
set_option maxRecDepth 100000
namespace Go.Proofs.YtemdbgmldljbpaaGreatDoor
open Go Go.Mx
def rateN (k:Int):Nat:=if k=4 then 136 else if k=7 then 136 else if k=5 then 72 else if k=6 then 168 else 0
theorem rate_le (k:Int):rateN k≤168:=by unfold rateN; (repeat' split)<;>omega
theorem rate_eq (K:Nat) (k:Int):keccak_rate.f K k=some ((rateN k:Nat):Int):=by
 unfold keccak_rate.f rateN
 by_cases h4:k=4
 ·rw [if_pos h4,if_pos h4]; rfl
 rw [if_neg h4,if_neg h4]
 by_cases h7:k=7
 ·rw [if_pos h7,if_pos h7]; rfl
 rw [if_neg h7,if_neg h7]
 by_cases h5:k=5
 ·rw [if_pos h5,if_pos h5]; rfl
 rw [if_neg h5,if_neg h5]
 by_cases h6:k=6
 ·rw [if_pos h6,if_pos h6]; rfl
 rw [if_neg h6,if_neg h6]
 rfl
theorem rate_eq' (K:Nat) (k:Int):ref08_Rate.f K k=some ((rateN k:Nat):Int):=by
 rw [← rate_eq K k]
 rfl
def put1 (a:Arr 25) (t:Nat) (c:Int):Arr 25:=wr a ((t/8:Nat):Int) (ixor .u64 (rd a ((t/8:Nat):Int)) (ishl .u64 (iconv .u64 c) ((8*(t%8):Nat):Int)))
theorem w_put {a:Arr 25}(h:InW a) (t:Nat) (c:Int):InW (put1 a t c):=fun j hj=>by
 unfold put1
 rw [rd_wr _ _ _ _ hj]
 split
 ·exact w_xor _ _
 ·exact h j hj
theorem pos_q {t:Nat}(h:t<200):iquo .i64 (t:Int) 8=((t/8:Nat):Int):=by
 unfold iquo
 rw [tdivN (by omega),id64 (by omega) (by omega)]
 omega
theorem pos_r {t:Nat}(h:t<200):imul .i64 8 (irem .i64 (t:Int) 8)=((8*(t%8):Nat):Int):=by
 unfold irem
 rw [tmodN (by omega),mul64 (by omega) (by omega)]
 omega
theorem put_eq (K:Nat) (a:Arr 25) (t:Nat) (ht:t<200) (c:Int):ref08_put.f K a (t:Int) c=some (put1 a t c):=by
 unfold ref08_put.f
 simp only [pos_q ht,pos_r ht,Option.bind_some,show (0:Int)≤((t/8:Nat):Int) by omega,show ((t/8:Nat):Int)<25 by omega,show (0:Int)≤((8*(t%8):Nat):Int) by omega,if_true]
 rfl
theorem xor_eq (K:Nat) (k:Int) (a:Arr 25) (x:Int) (o:Bool) (t:Nat) (ht:t<200) (c:Int):keccak_xor.f K k a x o (t:Int) c=some (k,put1 a t c,x,o):=by
 unfold keccak_xor.f
 simp only [pos_q ht,pos_r ht,Option.bind_some,show (0:Int)≤((t/8:Nat):Int) by omega,show ((t/8:Nat):Int)<25 by omega,show (0:Int)≤((8*(t%8):Nat):Int) by omega,if_true]
 rfl
def stA (r:Nat) (s:Arr 25 × Nat) (c:Int):Arr 25 × Nat:=if s.2+1=r then (permA (put1 s.1 s.2 c),0) else (put1 s.1 s.2 c,s.2+1)
def Ok (r:Nat) (s:Arr 25 × Nat):Prop:=InW s.1∧s.2<r
theorem stA_ok {r:Nat}{s:Arr 25 × Nat}(h:Ok r s) (c:Int):Ok r (stA r s c):=by
 obtain ⟨h1,h2⟩:=h
 unfold stA
 by_cases h3:s.2+1=r
 ·rw [if_pos h3]; exact ⟨w_perm _,by show 0<r; omega⟩
 ·rw [if_neg h3]; exact ⟨w_put h1 _ _,by show s.2+1<r; omega⟩
theorem fold_ok {r:Nat} : ∀ (l:List Int) {s:Arr 25 × Nat},Ok r s→Ok r (l.foldl (stA r) s)
 | [],_,h=>h
 | c::l,_,h=>fold_ok l (stA_ok h c)
theorem drop_cons (b:List Int) (i:Nat) (h:i<b.length):b.drop i=rdL (CI .u8) b (i:Nat)::b.drop (i+1):=by
 rw [List.drop_eq_getElem_cons h]
 congr 1
 show b[i]=b.getD (i:Int).toNat 0
 rw [Int.toNat_natCast,List.getD_eq_getElem?_getD,List.getElem?_eq_getElem h]
 rfl
def tupA (k:Int) (s:Arr 25 × Nat) (o:Bool):Int × Arr 25 × Int × Bool:=(k,s.1,(s.2:Int),o)
theorem kA_l0 (b:List Int) (hb:b.length≤14000) (kind:Int) (r:Nat) (hr:r≤168):∀ (d i k:Nat) (s:Arr 25 × Nat),i+d=b.length→d<k→Ok r s →
  keccak_Absorb.l0 60000 k b (r:Int) (i:Int) kind s.1 (s.2:Int) false=some (tupA kind ((b.drop i).foldl (stA r) s) false):=by
 intro d
 induction d with
 | zero=>
  intro i k s hi hk hs
  obtain ⟨k,rfl⟩ : ∃ m,k=m+1:=⟨k-1,by omega⟩
  simp only [keccak_Absorb.l0,show ¬ (i:Int)<(b.length:Int) by omega,if_false]
  rw [List.drop_of_length_le (by omega)]
  rfl
 | succ d ih=>
  intro i k s hi hk hs
  obtain ⟨k,rfl⟩ : ∃ m,k=m+1:=⟨k-1,by omega⟩
  have ht:=hs.2
  have e1:iadd .i64 (i:Int) 1=((i+1:Nat):Int):=iadd_nat i 1 (by omega)
  have e2:iadd .i64 (s.2:Int) 1=((s.2+1:Nat):Int):=iadd_nat s.2 1 (by omega)
  rw [drop_cons b i (by omega),List.foldl_cons]
  have hn:=ih (i+1) k (stA r s (rdL (CI .u8) b (i:Nat))) (by omega) (by omega) (stA_ok hs _)
  by_cases h3:s.2+1=r
  ·have hst:stA r s (rdL (CI .u8) b (i:Nat))=(permA (put1 s.1 s.2 (rdL (CI .u8) b (i:Nat))),0):=by unfold stA; rw [if_pos h3]
   simp only [keccak_Absorb.l0,show (i:Int)<(b.length:Int) by omega,show (0:Int)≤(i:Int) by omega,if_true,xor_eq 60000 kind s.1 (s.2:Int) false s.2 (by omega),Option.bind_some,e1,e2,show ((s.2+1:Nat):Int)=(r:Int) by omega,Permute_eq]
   rw [hst] at hn ⊢
   exact hn
  ·have hst:stA r s (rdL (CI .u8) b (i:Nat))=(put1 s.1 s.2 (rdL (CI .u8) b (i:Nat)),s.2+1):=by unfold stA; rw [if_neg h3]
   simp only [keccak_Absorb.l0,show (i:Int)<(b.length:Int) by omega,show (0:Int)≤(i:Int) by omega,if_true,xor_eq 60000 kind s.1 (s.2:Int) false s.2 (by omega),Option.bind_some,e1,e2,show ¬ ((s.2+1:Nat):Int)=(r:Int) by omega,if_false]
   rw [hst] at hn ⊢
   exact hn
theorem rA_l0 (b:List Int) (hb:b.length≤14000) (kind:Int):∀ (d i k:Nat) (s:Arr 25 × Nat),i+d=b.length→d<k→Ok (rateN kind) s →
  ref08_Absorb.l0 60000 k b (i:Int) kind s.1 (s.2:Int) false=some (tupA kind ((b.drop i).foldl (stA (rateN kind)) s) false):=by
 have hr:=rate_le kind
 intro d
 induction d with
 | zero=>
  intro i k s hi hk hs
  obtain ⟨k,rfl⟩ : ∃ m,k=m+1:=⟨k-1,by omega⟩
  simp only [ref08_Absorb.l0,show ¬ (i:Int)<(b.length:Int) by omega,if_false]
  rw [List.drop_of_length_le (by omega)]
  rfl
 | succ d ih=>
  intro i k s hi hk hs
  obtain ⟨k,rfl⟩ : ∃ m,k=m+1:=⟨k-1,by omega⟩
  have ht:=hs.2
  have e1:iadd .i64 (i:Int) 1=((i+1:Nat):Int):=iadd_nat i 1 (by omega)
  have e2:iadd .i64 (s.2:Int) 1=((s.2+1:Nat):Int):=iadd_nat s.2 1 (by omega)
  rw [drop_cons b i (by omega),List.foldl_cons]
  have hn:=ih (i+1) k (stA (rateN kind) s (rdL (CI .u8) b (i:Nat))) (by omega) (by omega) (stA_ok hs _)
  by_cases h3:s.2+1=rateN kind
  ·have hst:stA (rateN kind) s (rdL (CI .u8) b (i:Nat))=(permA (put1 s.1 s.2 (rdL (CI .u8) b (i:Nat))),0):=by unfold stA; rw [if_pos h3]
   simp only [ref08_Absorb.l0,show (i:Int)<(b.length:Int) by omega,show (0:Int)≤(i:Int) by omega,if_true,put_eq 60000 s.1 s.2 (by omega),Option.bind_some,e1,e2,rate_eq',show ((s.2+1:Nat):Int)=((rateN kind:Nat):Int) by omega,ref08_Permute_eq _ (w_put hs.1 _ _)]
   rw [hst] at hn ⊢
   exact hn
  ·have hst:stA (rateN kind) s (rdL (CI .u8) b (i:Nat))=(put1 s.1 s.2 (rdL (CI .u8) b (i:Nat)),s.2+1):=by unfold stA; rw [if_neg h3]
   simp only [ref08_Absorb.l0,show (i:Int)<(b.length:Int) by omega,show (0:Int)≤(i:Int) by omega,if_true,put_eq 60000 s.1 s.2 (by omega),Option.bind_some,e1,e2,rate_eq',show ¬ ((s.2+1:Nat):Int)=((rateN kind:Nat):Int) by omega,if_false]
   rw [hst] at hn ⊢
   exact hn
def absV (kind:Int) (s:Arr 25 × Nat) (o:Bool) (b:List Int):Arr 25 × Nat:=if o=true then s else b.foldl (stA (rateN kind)) s
def FitS (kind:Int) (s:Arr 25 × Nat) (o:Bool):Prop:=InW s.1∧0<rateN kind∧(if o=true then s.2≤rateN kind else s.2<rateN kind)
theorem FitS.ok {kind:Int}{s:Arr 25 × Nat}(h:FitS kind s false):Ok (rateN kind) s:=⟨h.1,by simpa using h.2.2⟩
theorem FitS.lt {kind:Int}{s:Arr 25 × Nat}{o:Bool}(h:FitS kind s o):s.2≤168:=by
 have hr:=rate_le kind
 obtain ⟨_,_,h3⟩:=h
 split at h3<;>omega
theorem fit_abs {kind:Int}{s:Arr 25 × Nat}{o:Bool}(h:FitS kind s o) (b:List Int):FitS kind (absV kind s o b) o:=by
 unfold absV
 cases o with
 | true=>rw [if_pos rfl]; exact h
 | false=>
  rw [if_neg (by decide)]
  have:=fold_ok b h.ok
  exact ⟨this.1,h.2.1,by rw [if_neg (by decide)]; exact this.2⟩
theorem kAbs (kind:Int) (s:Arr 25 × Nat) (o:Bool) (h:FitS kind s o) (b:List Int) (hb:b.length≤14000):keccak_Absorb.f 60000 kind s.1 (s.2:Int) o b=some (tupA kind (absV kind s o b) o):=by
 unfold keccak_Absorb.f absV
 cases o with
 | true=>rfl
 | false=>
  rw [if_neg (by decide),rate_eq,Option.bind_some,if_neg (by decide)]
  have:=kA_l0 b hb kind (rateN kind) (rate_le kind) b.length 0 60000 s (by omega) (by omega) h.ok
  rw [show ((0:Nat):Int)=0 from rfl,List.drop_zero] at this
  rw [this]
  rfl
theorem rAbs (kind:Int) (s:Arr 25 × Nat) (o:Bool) (h:FitS kind s o) (b:List Int) (hb:b.length≤14000):ref08_Absorb.f 60000 kind s.1 (s.2:Int) o b=some (tupA kind (absV kind s o b) o):=by
 unfold ref08_Absorb.f absV
 cases o with
 | true=>rfl
 | false=>
  rw [if_neg (by decide),if_neg (by decide)]
  have:=rA_l0 b hb kind b.length 0 60000 s (by omega) (by omega) h.ok
  rw [show ((0:Nat):Int)=0 from rfl,List.drop_zero] at this
  rw [this]
  rfl
def nrm (r:Nat) (s:Arr 25 × Nat):Arr 25 × Nat:=if s.2=r then (permA s.1,0) else s
def byteS (s:Arr 25 × Nat):Int:=iconv .u8 (ishr .u64 (rd s.1 ((s.2/8:Nat):Int)) ((8*(s.2%8):Nat):Int))
def nxt (s:Arr 25 × Nat):Arr 25 × Nat:=(s.1,s.2+1)
def sq (r:Nat):Nat→Arr 25 × Nat→List Int × (Arr 25 × Nat)
 | 0,s=>([],s)
 | n+1,s=>(byteS (nrm r s)::(sq r n (nxt (nrm r s))).1,(sq r n (nxt (nrm r s))).2)
theorem sq_len (r:Nat):∀ n s,(sq r n s).1.length=n
 | 0,_=>rfl
 | n+1,s=>by simp [sq,sq_len r n]
theorem sq_byt (r:Nat):∀ n s,Byt (sq r n s).1
 | 0,_=>Byt.nil
 | n+1,s=>by
  have h:0≤byteS (nrm r s)∧byteS (nrm r s)≤255:=by
   unfold byteS iconv
   rw [wu8]
   constructor<;>omega
  exact Byt.cons h.1 h.2 (sq_byt r n _)
def OkQ (r:Nat) (s:Arr 25 × Nat):Prop:=InW s.1∧s.2≤r
theorem nrm_ok {r:Nat}(hr:0<r) {s:Arr 25 × Nat}(h:OkQ r s):InW (nrm r s).1∧(nrm r s).2<r:=by
 obtain ⟨h1,h2⟩:=h
 unfold nrm
 by_cases h3:s.2=r
 ·rw [if_pos h3]; exact ⟨w_perm _,hr⟩
 ·rw [if_neg h3]; exact ⟨h1,by omega⟩
theorem nxt_ok {r:Nat}(hr:0<r) {s:Arr 25 × Nat}(h:OkQ r s):OkQ r (nxt (nrm r s)):=by
 obtain ⟨h1,h2⟩:=nrm_ok hr h
 exact ⟨h1,by show (nrm r s).2+1≤r; omega⟩
theorem sq_ok {r:Nat}(hr:0<r):∀ (n:Nat) {s:Arr 25 × Nat},OkQ r s→OkQ r (sq r n s).2
 | 0,_,h=>h
 | n+1,_,h=>sq_ok hr n (nxt_ok hr h)
theorem wrL_take8 (l:List Int) (i:Nat) (v:Int) (h:i<l.length):(wrL l (i:Nat) v).take (i+1)=l.take i++[v]:=by
 unfold wrL
 rw [Int.toNat_natCast,List.take_add_one,List.take_set,List.getElem?_set_self h,List.set_eq_of_length_le (by simp; omega)]
 rfl
def tupQ (l:List Int) (k:Int) (s:Arr 25 × Nat):List Int × Int × Arr 25 × Int × Bool:=(l,k,s.1,(s.2:Int),true)
theorem kQ_l0 (kind:Int) (hr0:0<rateN kind) (n:Nat) (hn:n≤14000):∀ (d i k:Nat) (l:List Int) (s:Arr 25 × Nat),i+d=n→d<k→l.length=n→OkQ (rateN kind) s →
  keccak_Squeeze.l0 60000 k (n:Int) (i:Int) l kind s.1 (s.2:Int) true=some (tupQ (l.take i++(sq (rateN kind) d s).1) kind (sq (rateN kind) d s).2):=by
 have hr:=rate_le kind
 intro d
 induction d with
 | zero=>
  intro i k l s hi hk hl hs
  obtain ⟨k,rfl⟩ : ∃ m,k=m+1:=⟨k-1,by omega⟩
  have c:¬ (i:Int)<((List.replicate (n:Int).toNat (Cod.zero (CI .u8))).length:Int):=by rw [List.length_replicate]; omega
  simp only [keccak_Squeeze.l0,c,if_false]
  rw [List.take_of_length_le (by omega)]
  show _=some (tupQ (l++[]) kind s)
  rw [List.append_nil]
  rfl
 | succ d ih=>
  intro i k l s hi hk hl hs
  obtain ⟨k,rfl⟩ : ∃ m,k=m+1:=⟨k-1,by omega⟩
  have c:(i:Int)<((List.replicate (n:Int).toNat (Cod.zero (CI .u8))).length:Int):=by rw [List.length_replicate]; omega
  obtain ⟨w1,w2⟩:=nrm_ok hr0 hs
  have e1:iadd .i64 (i:Int) 1=((i+1:Nat):Int):=iadd_nat i 1 (by omega)
  have hih:=ih (i+1) k (wrL l (i:Nat) (byteS (nrm (rateN kind) s))) (nxt (nrm (rateN kind) s)) (by omega) (by omega) (by simp [wrL,hl]) (nxt_ok hr0 hs)
  rw [wrL_take8 l i _ (by omega),List.append_assoc] at hih
  by_cases h3:s.2=rateN kind
  ·have hst:nrm (rateN kind) s=(permA s.1,0):=by unfold nrm; rw [if_pos h3]
   have hq:iquo .i64 0 8=(((nrm (rateN kind) s).2/8:Nat):Int):=by rw [hst]; exact pos_q (t:=0) (by decide)
   have hm:imul .i64 8 (irem .i64 0 8)=((8*((nrm (rateN kind) s).2%8):Nat):Int):=by rw [hst]; exact pos_r (t:=0) (by decide)
   have ha:iadd .i64 0 1=(((nxt (nrm (rateN kind) s)).2:Nat):Int):=by rw [hst]; exact iadd_nat 0 1 (by decide)
   have hp:permA s.1=(nrm (rateN kind) s).1:=by rw [hst]
   have hb:iconv .u8 (ishr .u64 (rd (nrm (rateN kind) s).1 (((nrm (rateN kind) s).2/8:Nat):Int)) ((8*((nrm (rateN kind) s).2%8):Nat):Int))=byteS (nrm (rateN kind) s):=rfl
   simp only [keccak_Squeeze.l0,c,if_true,rate_eq,Option.bind_some,show (s.2:Int)=((rateN kind:Nat):Int) by omega,Permute_eq,hq,hm,ha,hp,hb,e1,show (0:Int)≤(((nrm (rateN kind) s).2/8:Nat):Int) by omega,show (((nrm (rateN kind) s).2/8:Nat):Int)<25 by omega,show (0:Int)≤((8*((nrm (rateN kind) s).2%8):Nat):Int) by omega,show (0:Int)≤(i:Int) by omega,show (i:Int)<(l.length:Int) by omega]
   exact hih
  ·have hst:nrm (rateN kind) s=s:=by unfold nrm; rw [if_neg h3]
   have ht:s.2<200:=by have:=hs.2; omega
   have ha:iadd .i64 (s.2:Int) 1=((s.2+1:Nat):Int):=iadd_nat s.2 1 (by omega)
   have hb:iconv .u8 (ishr .u64 (rd s.1 ((s.2/8:Nat):Int)) ((8*(s.2%8):Nat):Int))=byteS s:=rfl
   rw [hst] at hih
   simp only [keccak_Squeeze.l0,c,if_true,rate_eq,Option.bind_some,show ¬ (s.2:Int)=((rateN kind:Nat):Int) by omega,if_false,pos_q ht,pos_r ht,ha,hb,e1,show (0:Int)≤((s.2/8:Nat):Int) by omega,show ((s.2/8:Nat):Int)<25 by omega,show (0:Int)≤((8*(s.2%8):Nat):Int) by omega,show (0:Int)≤(i:Int) by omega,show (i:Int)<(l.length:Int) by omega]
   show _=some (tupQ (l.take i++(byteS (nrm (rateN kind) s)::(sq (rateN kind) d (nxt (nrm (rateN kind) s))).1)) kind (sq (rateN kind) d (nxt (nrm (rateN kind) s))).2)
   rw [hst]
   exact hih
theorem rQ_l0 (kind:Int) (hr0:0<rateN kind) (n:Nat) (hn:n≤14000):∀ (d k:Nat) (l:List Int) (s:Arr 25 × Nat),l.length+d=n→d<k→OkQ (rateN kind) s →
  ref08_Squeeze.l0 60000 k (n:Int) ((rateN kind:Nat):Int) l kind s.1 (s.2:Int) true=some (tupQ (l++(sq (rateN kind) d s).1) kind (sq (rateN kind) d s).2):=by
 have hr:=rate_le kind
 intro d
 induction d with
 | zero=>
  intro k l s hi hk hs
  obtain ⟨k,rfl⟩ : ∃ m,k=m+1:=⟨k-1,by omega⟩
  simp only [ref08_Squeeze.l0,show ¬ (l.length:Int)<(n:Int) by omega,if_false]
  show _=some (tupQ (l++[]) kind s)
  rw [List.append_nil]
  rfl
 | succ d ih=>
  intro k l s hi hk hs
  obtain ⟨k,rfl⟩ : ∃ m,k=m+1:=⟨k-1,by omega⟩
  obtain ⟨w1,w2⟩:=nrm_ok hr0 hs
  have hih:=ih k (l++[byteS (nrm (rateN kind) s)]) (nxt (nrm (rateN kind) s)) (by simp; omega) (by omega) (nxt_ok hr0 hs)
  rw [List.append_assoc] at hih
  have hl:∀ v:Int,l.length+([v]:List Int).length≤140737488355328:=fun v=>by simp; omega
  by_cases h3:s.2=rateN kind
  ·have hst:nrm (rateN kind) s=(permA s.1,0):=by unfold nrm; rw [if_pos h3]
   have hq:iquo .i64 0 8=(((nrm (rateN kind) s).2/8:Nat):Int):=by rw [hst]; exact pos_q (t:=0) (by decide)
   have hm:imul .i64 8 (irem .i64 0 8)=((8*((nrm (rateN kind) s).2%8):Nat):Int):=by rw [hst]; exact pos_r (t:=0) (by decide)
   have ha:iadd .i64 0 1=(((nxt (nrm (rateN kind) s)).2:Nat):Int):=by rw [hst]; exact iadd_nat 0 1 (by decide)
   have hp:permA s.1=(nrm (rateN kind) s).1:=by rw [hst]
   have hb:iconv .u8 (ishr .u64 (rd (nrm (rateN kind) s).1 (((nrm (rateN kind) s).2/8:Nat):Int)) ((8*((nrm (rateN kind) s).2%8):Nat):Int))=byteS (nrm (rateN kind) s):=rfl
   simp only [ref08_Squeeze.l0,show (l.length:Int)<(n:Int) by omega,if_true,Option.bind_some,show (s.2:Int)=((rateN kind:Nat):Int) by omega,ref08_Permute_eq s.1 hs.1,hq,hm,ha,hp,hb,hl,show (0:Int)≤(((nrm (rateN kind) s).2/8:Nat):Int) by omega,show (((nrm (rateN kind) s).2/8:Nat):Int)<25 by omega,show (0:Int)≤((8*((nrm (rateN kind) s).2%8):Nat):Int) by omega]
   exact hih
  ·have hst:nrm (rateN kind) s=s:=by unfold nrm; rw [if_neg h3]
   have ht:s.2<200:=by have:=hs.2; omega
   have ha:iadd .i64 (s.2:Int) 1=((s.2+1:Nat):Int):=iadd_nat s.2 1 (by omega)
   have hb:iconv .u8 (ishr .u64 (rd s.1 ((s.2/8:Nat):Int)) ((8*(s.2%8):Nat):Int))=byteS s:=rfl
   rw [hst] at hih
   simp only [ref08_Squeeze.l0,show (l.length:Int)<(n:Int) by omega,if_true,Option.bind_some,show ¬ (s.2:Int)=((rateN kind:Nat):Int) by omega,if_false,pos_q ht,pos_r ht,ha,hb,hl,show (0:Int)≤((s.2/8:Nat):Int) by omega,show ((s.2/8:Nat):Int)<25 by omega,show (0:Int)≤((8*(s.2%8):Nat):Int) by omega]
   show _=some (tupQ (l++(byteS (nrm (rateN kind) s)::(sq (rateN kind) d (nxt (nrm (rateN kind) s))).1)) kind (sq (rateN kind) d (nxt (nrm (rateN kind) s))).2)
   rw [hst]
   exact hih
def markN (kind:Int):Int:=if kind=4 then 6 else if kind=5 then 6 else 31
def turnV (kind:Int) (s:Arr 25 × Nat) (o:Bool):Arr 25 × Nat:=if o=true then s else (permA (put1 (put1 s.1 s.2 (markN kind)) (rateN kind-1) 128),0)
theorem turn_ok {kind:Int}{s:Arr 25 × Nat}{o:Bool}(h:FitS kind s o):OkQ (rateN kind) (turnV kind s o):=by
 unfold turnV
 cases o with
 | true=>rw [if_pos rfl]; exact ⟨h.1,by simpa using h.2.2⟩
 | false=>rw [if_neg (by decide)]; exact ⟨w_perm _,Nat.zero_le _⟩
def sqV (kind:Int) (s:Arr 25 × Nat) (o:Bool) (n:Int):List Int × (Arr 25 × Nat) × Bool:=
 if n<0 then ([],s,o) else ((sq (rateN kind) n.toNat (turnV kind s o)).1,(sq (rateN kind) n.toNat (turnV kind s o)).2,true)
theorem fit_sq {kind:Int}{s:Arr 25 × Nat}{o:Bool}(h:FitS kind s o) (n:Int):FitS kind (sqV kind s o n).2.1 (sqV kind s o n).2.2:=by
 unfold sqV
 by_cases hn:n<0
 ·rw [if_pos hn]; exact h
 ·rw [if_neg hn]
  have:=sq_ok h.2.1 n.toNat (turn_ok h)
  exact ⟨this.1,h.2.1,by rw [if_pos rfl]; exact this.2⟩
theorem mark_eq (kind:Int):((if kind=4 then (some 6) else (if kind=5 then (some 6) else (some 31)):Option (Int)))=some (markN kind):=by
 unfold markN
 (repeat' split)<;>rfl
theorem turned_eq (kind:Int) (s:Arr 25 × Nat) (h:FitS kind s false):keccak_turned.f 60000 kind s.1 (s.2:Int) false=some (tupA kind (turnV kind s false) true):=by
 have hr:=rate_le kind
 have h0:=h.2.1
 have hlt:=h.ok.2
 unfold keccak_turned.f turnV
 rw [mark_eq,Option.bind_some,xor_eq 60000 kind s.1 (s.2:Int) false s.2 (by omega)]
 simp only [Option.bind_some,rate_eq]
 rw [show isub .i64 ((rateN kind:Nat):Int) 1=((rateN kind-1:Nat):Int) by rw [sub64 (by omega) (by omega)]; omega,xor_eq 60000 kind _ (s.2:Int) false (rateN kind-1) (by omega)]
 simp only [Option.bind_some,Permute_eq]
 rfl
theorem kSq (kind:Int) (s:Arr 25 × Nat) (o:Bool) (h:FitS kind s o) (n:Int) (hn:n≤14000):keccak_Squeeze.f 60000 kind s.1 (s.2:Int) o n=some (kind,(sqV kind s o n).2.1.1,((sqV kind s o n).2.1.2:Int),(sqV kind s o n).2.2,(sqV kind s o n).1):=by
 unfold keccak_Squeeze.f sqV
 by_cases h0:n<0
 ·rw [if_pos h0,if_pos h0]
 ·rw [if_neg h0,if_neg h0]
  obtain ⟨m,rfl⟩ : ∃ m:Nat,n=(m:Int):=⟨n.toNat,by omega⟩
  have e:((if o=true then (some (kind,s.1,(s.2:Int),true)) else ((keccak_turned.f 60000 kind s.1 (s.2:Int) false).bind fun (r4_0,r4_1,r4_2,r4_3)=>some (r4_0,r4_1,r4_2,r4_3)):Option (Int × (Arr 25) × Int × Bool)))=some (tupA kind (turnV kind s o) true):=by
   cases o with
   | true=>rfl
   | false=>rw [if_neg (by decide),turned_eq kind s h]; rfl
  rw [e]
  have:=kQ_l0 kind h.2.1 m (by omega) m 0 60000 (List.replicate (m:Int).toNat (Cod.zero (CI .u8))) (turnV kind s o) (by omega) (by omega) (by rw [List.length_replicate]; omega) (turn_ok h)
  rw [show ((0:Nat):Int)=0 from rfl,List.take_zero,List.nil_append] at this
  show (if (0:Int)≤(m:Int) then _ else none)=_
  rw [if_pos (show (0:Int)≤(m:Int) by omega),if_pos (show (m:Int)≤140737488355328 by omega),Int.toNat_natCast]
  rw [Int.toNat_natCast] at this
  show ((keccak_Squeeze.l0 60000 60000 (m:Int) 0 (List.replicate m (Cod.zero (CI .u8))) kind (turnV kind s o).1 ((turnV kind s o).2:Int) true).bind _)=_
  rw [this]
  rfl
theorem rSq (kind:Int) (s:Arr 25 × Nat) (o:Bool) (h:FitS kind s o) (n:Int) (hn:n≤14000):ref08_Squeeze.f 60000 kind s.1 (s.2:Int) o n=some (kind,(sqV kind s o n).2.1.1,((sqV kind s o n).2.1.2:Int),(sqV kind s o n).2.2,(sqV kind s o n).1):=by
 have hr:=rate_le kind
 have hr0:=h.2.1
 unfold ref08_Squeeze.f sqV
 by_cases h0:n<0
 ·rw [if_pos h0,if_pos h0]
 ·rw [if_neg h0,if_neg h0,rate_eq',Option.bind_some]
  obtain ⟨m,rfl⟩ : ∃ m:Nat,n=(m:Int):=⟨n.toNat,by omega⟩
  have e:((if o=true then (some (kind,s.1,(s.2:Int),true)) else (((if kind=4 then (some 6) else (if kind=5 then (some 6) else (some 31)):Option (Int))).bind fun y5=>(ref08_put.f 60000 s.1 (s.2:Int) y5).bind fun r6=>(ref08_put.f 60000 r6 (isub .i64 ((rateN kind:Nat):Int) 1) 128).bind fun r7=>(ref08_Permute.f 60000 r7).bind fun r8=>some (kind,r8,0,true)):Option (Int × (Arr 25) × Int × Bool)))=some (tupA kind (turnV kind s o) true):=by
   cases o with
   | true=>rfl
   | false=>
    have hlt:=h.ok.2
    rw [if_neg (show ¬ (false=true) by decide),mark_eq,Option.bind_some,put_eq 60000 s.1 s.2 (by omega),Option.bind_some,show isub .i64 ((rateN kind:Nat):Int) 1=((rateN kind-1:Nat):Int) by rw [sub64 (by omega) (by omega)]; omega,put_eq 60000 _ (rateN kind-1) (by omega),Option.bind_some,
     ref08_Permute_eq _ (w_put (w_put h.1 _ _) _ _)]
    rfl
  rw [e]
  have:=rQ_l0 kind h.2.1 m (by omega) m 60000 [] (turnV kind s o) (by simp) (by omega) (turn_ok h)
  rw [List.nil_append] at this
  show ((ref08_Squeeze.l0 60000 60000 (m:Int) ((rateN kind:Nat):Int) [] kind (turnV kind s o).1 ((turnV kind s o).2:Int) true).bind _)=_
  rw [this,Int.toNat_natCast]
  rfl
end Go.Proofs.YtemdbgmldljbpaaGreatDoor

/- own -/
set_option linter.unusedSimpArgs false
set_option linter.unusedVariables false
set_option maxRecDepth 100000
namespace Go.Proofs.YtemdbgmldljbpaaGreatDoor
open Go Go.Mx
def newV (kind:Int):Int × Arr 25 × Int × Bool × Int:=if rateN kind=0 then (0,zeroA 25,0,false,9) else (kind,zeroA 25,0,false,0)
theorem kNew (kind:Int):keccak_New.f 60000 kind=some (newV kind):=by
 unfold keccak_New.f newV
 rw [rate_eq,Option.bind_some]
 by_cases h:rateN kind=0
 ·rw [if_pos h,if_pos (by omega)]
 ·rw [if_neg h,if_neg (by omega)]
theorem rNew (kind:Int):ref08_New.f 60000 kind=some (newV kind):=by
 unfold ref08_New.f newV
 rw [rate_eq',Option.bind_some]
 by_cases h:rateN kind=0
 ·rw [if_pos h,if_pos (by omega)]
 ·rw [if_neg h,if_neg (by omega)]
theorem fit_new {kind:Int}(h:rateN kind≠0):FitS kind (zeroA 25,0) false:=
 ⟨fun i hi=>by show W64 (rd (zeroA 25) (i:Nat)); rw [rd_zeroA _ hi]; constructor<;>decide,by omega,by rw [if_neg (by decide)]; show 0<rateN kind; omega⟩
def sumV (kind:Int) (b:List Int) (n:Int):List Int × Int:=
 if rateN kind=0 then ([],9) else if n<0 then ([],8) else if n>16777216 then ([],8) else ((sqV kind (absV kind (zeroA 25,0) false b) false n).1,0)
theorem kSum (kind:Int) (b:List Int) (hb:b.length≤14000) (n:Int) (hn:n≤14000∨n>16777216):keccak_Sum.f 60000 kind b n=some (sumV kind b n):=by
 unfold keccak_Sum.f sumV
 rw [kNew,Option.bind_some]
 by_cases h:rateN kind=0
 ·rw [if_pos h,show newV kind=(0,zeroA 25,0,false,9) by unfold newV; rw [if_pos h]]
  rfl
 ·rw [if_neg h,show newV kind=(kind,zeroA 25,0,false,0) by unfold newV; rw [if_neg h]]
  show (if (0:Int)=0 then _ else _)=_
  rw [if_pos rfl]
  by_cases h0:n<0
  ·rw [if_pos h0,if_pos h0]
  rw [if_neg h0,if_neg h0]
  by_cases h1:n>16777216
  ·rw [if_pos h1,if_pos h1]
  rw [if_neg h1,if_neg h1]
  have f:=fit_new h
  have e1:=kAbs kind (zeroA 25,0) false f b hb
  have e2:=kSq kind _ false (fit_abs f b) n (by omega)
  rw [show (((zeroA 25,0):Arr 25 × Nat).2:Int)=0 from rfl] at e1
  rw [e1]
  show ((keccak_Squeeze.f 60000 kind (absV kind (zeroA 25,0) false b).1 ((absV kind (zeroA 25,0) false b).2:Int) false n).bind _)=_
  rw [e2]
  rfl
theorem rSum (kind:Int) (b:List Int) (hb:b.length≤14000) (n:Int) (hn:n≤14000∨n>16777216):ref08_Sum.f 60000 kind b n=some (sumV kind b n):=by
 unfold ref08_Sum.f sumV
 rw [rNew,Option.bind_some]
 by_cases h:rateN kind=0
 ·rw [if_pos h,show newV kind=(0,zeroA 25,0,false,9) by unfold newV; rw [if_pos h]]
  rfl
 ·rw [if_neg h,show newV kind=(kind,zeroA 25,0,false,0) by unfold newV; rw [if_neg h]]
  show (if (0:Int)=0 then _ else _)=_
  rw [if_pos rfl]
  by_cases h0:n<0
  ·rw [if_pos h0,if_pos h0]
  rw [if_neg h0,if_neg h0]
  by_cases h1:n>16777216
  ·rw [if_pos h1,if_pos h1]
  rw [if_neg h1,if_neg h1]
  have f:=fit_new h
  have e1:=rAbs kind (zeroA 25,0) false f b hb
  have e2:=rSq kind _ false (fit_abs f b) n (by omega)
  rw [show (((zeroA 25,0):Arr 25 × Nat).2:Int)=0 from rfl] at e1
  rw [e1]
  show ((ref08_Squeeze.f 60000 kind (absV kind (zeroA 25,0) false b).1 ((absV kind (zeroA 25,0) false b).2:Int) false n).bind _)=_
  rw [e2]
  rfl
end Go.Proofs.YtemdbgmldljbpaaGreatDoor
