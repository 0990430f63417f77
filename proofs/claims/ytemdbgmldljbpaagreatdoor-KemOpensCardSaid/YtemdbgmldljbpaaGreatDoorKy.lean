/- own -/
import Derived.Test.YtemdbgmldljbpaaGreatDoorKw
set_option linter.unusedSimpArgs false
set_option linter.unusedVariables false
set_option maxRecDepth 100000
namespace Go.Proofs.YtemdbgmldljbpaaGreatDoor
open Go Go.Mx
def powA:Arr 256:=mapA 256 fun i=>((17^i%3329:Nat):Int)
theorem powers_list:(ref25_powers.f 60000).map (fun r=>r.toList)=some ((List.range 256).map fun i=>((17^i%3329:Nat):Int)):=by decide +kernel
theorem ref25_powers_eq:ref25_powers.f KK=some powA:=by
 have h:=powers_list
 rw [Option.map_eq_some_iff] at h
 obtain ⟨r,hr,hl⟩:=h
 show ref25_powers.f 60000=_
 rw [hr]
 refine congrArg some (arr_ext fun i hi=>?_)
 unfold powA
 rw [rd_mapA _ _ hi]
 unfold rd
 rw [hl]
 simp [List.getD_eq_getElem?_getD,hi]
theorem turned_ck:∀ j,j<128→ref25_turned.f 60000 ((j:Nat):Int)=some ((brv7 j:Nat):Int):=by decide +kernel
theorem turnedK_eq {j:Nat}(hj:j<128):ref25_turned.f KK ((j:Nat):Int)=some ((brv7 j:Nat):Int):=turned_ck j hj
theorem brv7_lt (j:Nat):brv7 j<128:=by unfold brv7; omega
theorem omR_lt (j:Nat):omR j<256:=by
 have:=brv7_lt j
 unfold omR
 omega
theorem bind1 {A B C:Type}{x:A}{f:A→Option B}{g:B→Option C}{y:B}{r:Option C}(h:f x=some y) (k:g y=r):((some x).bind fun r3=>(f r3).bind g)=r:=by
 simp only [Option.bind_some,h,k]
theorem c_pow256:Cg Q (17^256) 1:=.of (by decide +kernel)
theorem pow_mod (n:Nat):Cg Q (17^(n%256)) (17^n):=by
 have e:(17:Int)^n=(17^256)^(n/256)*17^(n%256):=by
  rw [← Int.pow_mul,← Int.pow_add]
  congr 1
  omega
 rw [e]
 have:=(c_pow256.pow (n/256)).mul (Cg.refl (M:=Q) (17^(n%256)))
 rw [Int.one_pow,Int.one_mul] at this
 exact this.symm
theorem nat_pow (n:Nat):Cg Q ((17^n%3329:Nat):Int) (17^n):=by
 rw [Int.natCast_emod,Int.natCast_pow]
 exact Cg.mod _ _
theorem rd_pow (n:Nat):Cg Q (rd powA ((n%256:Nat):Int)) (17^n):=by
 unfold powA
 rw [rd_mapA _ _ (by omega)]
 exact (nat_pow _).trans (pow_mod n)
theorem rho_z {j:Nat}(hj:j<128):Cg Q (rhoR (128+j)) (17^omR j):=(Cg.of (ck_om j hj)).trans (nat_pow _)
theorem iota_z {j:Nat}(hj:j<128):Cg Q (iotaR (128+j)) (17^(256-omR j)):=(Cg.of (ck_iom j hj)).trans (nat_pow _)
theorem powA_bd (n:Nat):0≤rd powA ((n%256:Nat):Int)∧rd powA ((n%256:Nat):Int)<3329:=by
 unfold powA
 rw [rd_mapA _ _ (by omega)]
 have:=Nat.mod_lt (17^(n%256)) (show 3329>0 by decide)
 omega
theorem acc_step {S x y:Int}(s0:0≤S) (s1:S<3329) (x0:0≤x) (x1:x<3329) (y0:0≤y) (y1:y<3329):irem .i32 (iadd .i32 S (imul .i32 x y)) 3329=(S+x*y)%3329:=by
 obtain ⟨h0,h1⟩:=mulq_bd x0 x1 y0 (by omega)
 rw [mul32 (by omega) (by omega),add32 (by omega) (by omega)]
 unfold irem
 rw [tmodN (by omega)]
theorem sm_acc (n:Nat) (f:Nat→Int):(sm n f%3329+f n)%3329=sm (n+1) f%3329:=by
 rw [Int.emod_add_emod]
 rfl
theorem modb (x:Int):0≤x%3329∧x%3329<3329:=⟨Int.emod_nonneg _ (by decide),Int.emod_lt_of_pos _ (by decide)⟩
theorem om_step {j:Nat}(hj:j<128):iadd .i64 (imul .i64 2 ((brv7 j:Nat):Int)) 1=((omR j:Nat):Int):=by
 have:=brv7_lt j
 rw [mul64 (by omega) (by omega),add64 (by omega) (by omega)]
 unfold omR
 omega
theorem two_i {j:Nat}(h:j<1000000):imul .i64 2 (j:Int)=((2*j:Nat):Int):=by rw [mul64 (by omega) (by omega)]; omega
theorem two_i1 {j:Nat}(h:j<1000000):iadd .i64 (imul .i64 2 (j:Int)) 1=((2*j+1:Nat):Int):=by rw [two_i h,add64 (by omega) (by omega)]; omega
def nv (a:Arr 256) (e p t:Nat):Int:=rd a ((2*t+p:Nat):Int)*rd powA ((e*t%256:Nat):Int)
theorem ref_ntt_l1 (a:Arr 256) (ha:FitK a) (e:Nat) (he:e<256):∀ (d t k:Nat),t+d=128→d<k→ref25_Ntt.l1 KK k a powA (e:Int) (sm t (nv a e 0)%3329) (sm t (nv a e 1)%3329) (t:Int)=some (sm 128 (nv a e 0)%3329,sm 128 (nv a e 1)%3329):=by
 intro d
 induction d with
 | zero=>
  intro t k ht hk
  obtain ⟨k,rfl⟩ : ∃ m,k=m+1:=⟨k-1,by omega⟩
  obtain rfl:t=128:=by omega
  simp only [ref25_Ntt.l1,show ¬ ((128:Nat):Int)<128 by omega,if_false]
 | succ d ih=>
  intro t k ht hk
  obtain ⟨k,rfl⟩ : ∃ m,k=m+1:=⟨k-1,by omega⟩
  obtain ⟨a0,a1⟩:=ha (2*t) (by omega)
  obtain ⟨b0,b1⟩:=ha (2*t+1) (by omega)
  obtain ⟨p0,p1⟩:=powA_bd (e*t)
  have het:e*t≤256*128:=Nat.mul_le_mul (by omega) (by omega)
  have e1:irem .i64 (imul .i64 (e:Int) (t:Int)) 256=((e*t%256:Nat):Int):=by
   have hc:(e:Int)*(t:Int)=((e*t:Nat):Int):=by rw [Int.natCast_mul]
   rw [mul64 (by rw [hc]; omega) (by rw [hc]; omega),hc]
   unfold irem
   rw [tmodN (by omega)]
   omega
  have h6:iadd .i64 (t:Int) 1=((t+1:Nat):Int):=by rw [add64 (by omega) (by omega)]; rfl
  have s0:=acc_step (modb (sm t (nv a e 0))).1 (modb (sm t (nv a e 0))).2 a0 a1 p0 p1
  have s1:=acc_step (modb (sm t (nv a e 1))).1 (modb (sm t (nv a e 1))).2 b0 b1 p0 p1
  have q0:=sm_acc t (nv a e 0)
  have q1:=sm_acc t (nv a e 1)
  rw [show nv a e 0 t=rd a ((2*t:Nat):Int)*rd powA ((e*t%256:Nat):Int) from rfl,← s0] at q0
  rw [show nv a e 1 t=rd a ((2*t+1:Nat):Int)*rd powA ((e*t%256:Nat):Int) from rfl,← s1] at q1
  simp only [ref25_Ntt.l1,show (t:Int)<128 by omega,if_true,e1,Option.bind_some,show (0:Int)≤((e*t%256:Nat):Int) by omega,show ((e*t%256:Nat):Int)<256 by omega,two_i (j:=t) (by omega),two_i1 (j:=t) (by omega),
   show (0:Int)≤((2*t:Nat):Int) by omega,show ((2*t:Nat):Int)<256 by omega,show (0:Int)≤((2*t+1:Nat):Int) by omega,show ((2*t+1:Nat):Int)<256 by omega,h6]
  have i1:iadd .i64 ((2*t:Nat):Int) 1=((2*t+1:Nat):Int):=by rw [add64 (by omega) (by omega)]; omega
  simp only [i1,show (0:Int)≤((2*t+1:Nat):Int) by omega,show ((2*t+1:Nat):Int)<256 by omega,if_true,Option.bind_some,q0,q1]
  exact ih (t+1) k (by omega) (by omega)
theorem pairs_loop (l:Nat→Int→Arr 256→Option (Arr 256)) (f:Nat→Int) (a:Arr 256)
  (step:∀ (k j:Nat) (z:Arr 256),j<128→l (k+1) (j:Int) z=l k ((j+1:Nat):Int) (wr (wr z ((2*j:Nat):Int) (f (2*j))) ((2*j+1:Nat):Int) (f (2*j+1))))
  (stop:∀ (k:Nat) (z:Arr 256),l (k+1) ((128:Nat):Int) z=some z) (K:Nat) (hK:128<K):l K 0 a=some (mapA 256 f):=by
 have key:∀ (d j k:Nat) (z:Arr 256),j+d=128→d<k→(∀ i,i<2*j→rd z (i:Nat)=f i)→l k (j:Int) z=some (mapA 256 f):=by
  intro d
  induction d with
  | zero=>
   intro j k z hj hk hz
   obtain ⟨k,rfl⟩ : ∃ m,k=m+1:=⟨k-1,by omega⟩
   obtain rfl:j=128:=by omega
   rw [stop]
   refine congrArg some (arr_ext fun i hi=>?_)
   rw [hz i hi,rd_mapA _ _ hi]
  | succ d ih=>
   intro j k z hj hk hz
   obtain ⟨k,rfl⟩ : ∃ m,k=m+1:=⟨k-1,by omega⟩
   rw [step k j z (by omega)]
   refine ih (j+1) k _ (by omega) (by omega) fun i hi=>?_
   rw [rd_wr2 _ _ _ _ (by omega),rd_wr2 _ _ _ _ (by omega)]
   by_cases h1:2*j+1=i
   ·subst h1; rw [if_pos rfl]
   rw [if_neg h1]
   by_cases h0:2*j=i
   ·subst h0; rw [if_pos rfl]
   rw [if_neg h0]
   exact hz i (by omega)
 have:=key 128 0 K a (by omega) hK fun i hi=>by omega
 rwa [show ((0:Nat):Int)=0 from rfl] at this
theorem nv_cg (a:Arr 256) {j p:Nat}(hj:j<128):Cg Q (sm 128 (nv a (omR j) p)) (sm 128 fun t=>rd a ((2*t+p:Nat):Int)*rhoR (128+j)^t):=by
 refine sm_cg fun t ht=>(Cg.refl _).mul ((rd_pow _).trans ?_)
 rw [Int.pow_mul]
 exact ((rho_z hj).pow t).symm
theorem ref25_Ntt_eq (a:Arr 256) (ha:FitK a):ref25_Ntt.f KK a=some (pntt a):=by
 rw [ref25_Ntt.f,ref25_powers_eq]
 have h0:ref25_Ntt.l0 KK KK a powA 0 (zeroA 256)=some (mapA 256 fun i=>sm 128 (nv a (omR (i/2)) (i%2))%3329):=by
  refine pairs_loop (fun k i z=>ref25_Ntt.l0 KK k a powA i z) _ (zeroA 256) ?_ ?_ KK (by decide)
  ·intro k j z hj
   have h6:iadd .i64 (j:Int) 1=((j+1:Nat):Int):=by rw [add64 (by omega) (by omega)]; rfl
   have h7:=ref_ntt_l1 a ha (omR j) (omR_lt j) 128 0 KK (by omega) (by decide)
   rw [show ((0:Nat):Int)=0 from rfl,show ∀ g:Nat→Int,sm 0 g%3329=0 from fun _=>rfl,show ∀ g:Nat→Int,sm 0 g%3329=0 from fun _=>rfl] at h7
   have i1:iadd .i64 ((2*j:Nat):Int) 1=((2*j+1:Nat):Int):=by rw [add64 (by omega) (by omega)]; omega
   simp only [ref25_Ntt.l0,show (j:Int)<128 by omega,if_true,turnedK_eq hj,Option.bind_some,om_step hj,h7,two_i (j:=j) (by omega),i1,show (0:Int)≤((2*j:Nat):Int) by omega,show ((2*j:Nat):Int)<256 by omega,show (0:Int)≤((2*j+1:Nat):Int) by omega,show ((2*j+1:Nat):Int)<256 by omega,h6]
   rw [show 2*j/2=j by omega,show (2*j+1)/2=j by omega,show 2*j%2=0 by omega,show (2*j+1)%2=1 by omega]
  ·intro k z
   simp only [ref25_Ntt.l0,show ¬ ((128:Nat):Int)<128 by omega,if_false]
 refine (bind1 (f:=fun p=>ref25_Ntt.l0 KK KK a p 0 (zeroA 256)) (g:=fun y=>some y) h0 rfl).trans ?_
 refine congrArg some (fit_eq2 (fit_map fun j hj=>modb _) (fit_pntt ha) fun j p hj hp=>?_)
 rw [rd_mapA _ _ (by omega),show (2*j+p)/2=j by omega,show (2*j+p)%2=p by omega]
 exact (Cg.mod Q _).trans ((nv_cg a hj).trans (pntt_sum a j p hj hp).symm)
def bkv (a:Arr 256) (c p j:Nat):Int:=rd a ((2*j+p:Nat):Int)*rd powA (((256-omR j)*c%256:Nat):Int)
theorem ref_back_l1 (a:Arr 256) (ha:FitK a) (c:Nat) (hc:c<128):∀ (d t k:Nat),t+d=128→d<k→ref25_Back.l1 KK k a powA (c:Int) (sm t (bkv a c 0)%3329) (sm t (bkv a c 1)%3329) (t:Int)=some (sm 128 (bkv a c 0)%3329,sm 128 (bkv a c 1)%3329):=by
 intro d
 induction d with
 | zero=>
  intro t k ht hk
  obtain ⟨k,rfl⟩ : ∃ m,k=m+1:=⟨k-1,by omega⟩
  obtain rfl:t=128:=by omega
  simp only [ref25_Back.l1,show ¬ ((128:Nat):Int)<128 by omega,if_false]
 | succ d ih=>
  intro t k ht hk
  obtain ⟨k,rfl⟩ : ∃ m,k=m+1:=⟨k-1,by omega⟩
  obtain ⟨a0,a1⟩:=ha (2*t) (by omega)
  obtain ⟨b0,b1⟩:=ha (2*t+1) (by omega)
  obtain ⟨p0,p1⟩:=powA_bd ((256-omR t)*c)
  have hom:=omR_lt t
  have het:omR t*c≤256*128:=Nat.mul_le_mul (by omega) (by omega)
  have e1:irem .i64 (isub .i64 256 (irem .i64 (imul .i64 ((omR t:Nat):Int) (c:Int)) 256)) 256=(((256-omR t)*c%256:Nat):Int):=by
   have hcc:((omR t:Nat):Int)*(c:Int)=((omR t*c:Nat):Int):=by rw [Int.natCast_mul]
   have hx:(256-omR t)*c=256*c-omR t*c:=Nat.sub_mul _ _ _
   have hle:omR t*c≤256*c:=Nat.mul_le_mul_right _ (by omega)
   rw [mul64 (by rw [hcc]; omega) (by rw [hcc]; omega),hcc,hx]
   generalize omR t*c=y at *
   have i1:irem .i64 (y:Int) 256=((y%256:Nat):Int):=by
    unfold irem
    rw [tmodN (by omega)]
    omega
   rw [i1,sub64 (by omega) (by omega)]
   unfold irem
   rw [tmodN (by omega)]
   omega
  have h6:iadd .i64 (t:Int) 1=((t+1:Nat):Int):=by rw [add64 (by omega) (by omega)]; rfl
  have s0:=acc_step (modb (sm t (bkv a c 0))).1 (modb (sm t (bkv a c 0))).2 a0 a1 p0 p1
  have s1:=acc_step (modb (sm t (bkv a c 1))).1 (modb (sm t (bkv a c 1))).2 b0 b1 p0 p1
  have q0:=sm_acc t (bkv a c 0)
  have q1:=sm_acc t (bkv a c 1)
  rw [show bkv a c 0 t=rd a ((2*t:Nat):Int)*rd powA (((256-omR t)*c%256:Nat):Int) from rfl,← s0] at q0
  rw [show bkv a c 1 t=rd a ((2*t+1:Nat):Int)*rd powA (((256-omR t)*c%256:Nat):Int) from rfl,← s1] at q1
  have i1:iadd .i64 ((2*t:Nat):Int) 1=((2*t+1:Nat):Int):=by rw [add64 (by omega) (by omega)]; omega
  simp only [ref25_Back.l1,show (t:Int)<128 by omega,if_true,turnedK_eq (j:=t) (by omega),om_step (j:=t) (by omega),e1,Option.bind_some,show (0:Int)≤(((256-omR t)*c%256:Nat):Int) by omega,show (((256-omR t)*c%256:Nat):Int)<256 by omega,two_i (j:=t) (by omega),i1,
   show (0:Int)≤((2*t:Nat):Int) by omega,show ((2*t:Nat):Int)<256 by omega,show (0:Int)≤((2*t+1:Nat):Int) by omega,show ((2*t+1:Nat):Int)<256 by omega,h6,q0,q1]
  exact ih (t+1) k (by omega) (by omega)
theorem bv_cg (a:Arr 256) (c:Nat) (p:Nat):Cg Q (sm 128 (bkv a c p)) (sm 128 fun j=>rd a ((2*j+p:Nat):Int)*iotaR (128+j)^c):=by
 refine sm_cg fun j hj=>(Cg.refl _).mul ((rd_pow _).trans ?_)
 rw [Int.pow_mul]
 exact ((iota_z hj).pow c).symm
theorem ref25_Back_eq (a:Arr 256) (ha:FitK a):ref25_Back.f KK a=some (pback a):=by
 rw [ref25_Back.f,ref25_powers_eq]
 have h0:ref25_Back.l0 KK KK a powA 0 (zeroA 256)=some (mapA 256 fun i=>sm 128 (bkv a (i/2) (i%2))%3329*3303%3329):=by
  refine pairs_loop (fun k i z=>ref25_Back.l0 KK k a powA i z) _ (zeroA 256) ?_ ?_ KK (by decide)
  ·intro k j z hj
   have h6:iadd .i64 (j:Int) 1=((j+1:Nat):Int):=by rw [add64 (by omega) (by omega)]; rfl
   have h7:=ref_back_l1 a ha j hj 128 0 KK (by omega) (by decide)
   rw [show ((0:Nat):Int)=0 from rfl,show ∀ g:Nat→Int,sm 0 g%3329=0 from fun _=>rfl,show ∀ g:Nat→Int,sm 0 g%3329=0 from fun _=>rfl] at h7
   have i1:iadd .i64 ((2*j:Nat):Int) 1=((2*j+1:Nat):Int):=by rw [add64 (by omega) (by omega)]; omega
   have m0:=mulq (modb (sm 128 (bkv a j 0))).1 (modb (sm 128 (bkv a j 0))).2 (show (0:Int)≤3303 by decide) (by decide)
   have m1:=mulq (modb (sm 128 (bkv a j 1))).1 (modb (sm 128 (bkv a j 1))).2 (show (0:Int)≤3303 by decide) (by decide)
   simp only [ref25_Back.l0,show (j:Int)<128 by omega,if_true,Option.bind_some,h7,two_i (j:=j) (by omega),i1,m0,m1,show (0:Int)≤((2*j:Nat):Int) by omega,show ((2*j:Nat):Int)<256 by omega,show (0:Int)≤((2*j+1:Nat):Int) by omega,show ((2*j+1:Nat):Int)<256 by omega,h6]
   rw [show 2*j/2=j by omega,show (2*j+1)/2=j by omega,show 2*j%2=0 by omega,show (2*j+1)%2=1 by omega]
  ·intro k z
   simp only [ref25_Back.l0,show ¬ ((128:Nat):Int)<128 by omega,if_false]
 refine (bind1 (f:=fun p=>ref25_Back.l0 KK KK a p 0 (zeroA 256)) (g:=fun y=>some y) h0 rfl).trans ?_
 refine congrArg some (fit_eq2 (fit_map fun j hj=>modb _) (fit_pback a) fun j p hj hp=>?_)
 unfold pback
 rw [rd_mapA _ _ (by omega),rd_mapA _ _ (by omega),show (2*j+p)/2=j by omega,show (2*j+p)%2=p by omega]
 exact (Cg.mod Q _).trans ((((Cg.mod Q _).trans ((bv_cg a j p).trans (nttB_sum a j p hj hp).symm)).mul (.refl _)).trans (Cg.mod Q _).symm)
theorem ref25_Mul_eq (a b:Arr 256) (ha:FitK a) (hb:FitK b):ref25_Mul.f KK a b=some (pmul a b):=by
 rw [ref25_Mul.f,ref25_powers_eq]
 have h0:ref25_Mul.l0 KK KK a b powA 0 (zeroA 256)=some (pmul a b):=by
  refine pairs_loop (fun k i z=>ref25_Mul.l0 KK k a b powA i z) _ (zeroA 256) ?_ ?_ KK (by decide)
  ·intro k j z hj
   obtain ⟨x0,x1⟩:=ha (2*j) (by omega)
   obtain ⟨y0,y1⟩:=ha (2*j+1) (by omega)
   obtain ⟨u0,u1⟩:=hb (2*j) (by omega)
   obtain ⟨v0,v1⟩:=hb (2*j+1) (by omega)
   obtain ⟨z0,z1⟩:=Zr_bd hj
   have h6:iadd .i64 (j:Int) 1=((j+1:Nat):Int):=by rw [add64 (by omega) (by omega)]; rfl
   have i1:iadd .i64 ((2*j:Nat):Int) 1=((2*j+1:Nat):Int):=by rw [add64 (by omega) (by omega)]; omega
   have hom:=omR_lt j
   have hz:rd powA ((omR j:Nat):Int)=Zr j:=by
    unfold powA
    rw [rd_mapA _ _ hom,ck_Z j hj]
   have m0:=mul2_bd x0 x1 u0 u1 (modb (rd a ((2*j+1:Nat):Int)*rd b ((2*j+1:Nat):Int))).1 (modb _).2 z0 z1
   rw [← mulq y0 y1 v0 (by omega)] at m0
   have m1:=mul2_bd x0 x1 v0 v1 y0 y1 u0 u1
   have w0:irem .i32 (iadd .i32 (imul .i32 (rd a ((2*j:Nat):Int)) (rd b ((2*j:Nat):Int))) (imul .i32 (irem .i32 (imul .i32 (rd a ((2*j+1:Nat):Int)) (rd b ((2*j+1:Nat):Int))) 3329) (Zr j))) 3329=evn a b j:=by
    rw [m0,mulq y0 y1 v0 (by omega)]
    rfl
   have w1:irem .i32 (iadd .i32 (imul .i32 (rd a ((2*j:Nat):Int)) (rd b ((2*j+1:Nat):Int))) (imul .i32 (rd a ((2*j+1:Nat):Int)) (rd b ((2*j:Nat):Int)))) 3329=odd a b j:=m1
   simp only [ref25_Mul.l0,show (j:Int)<128 by omega,if_true,turnedK_eq hj,Option.bind_some,om_step hj,show (0:Int)≤((omR j:Nat):Int) by omega,show ((omR j:Nat):Int)<256 by omega,hz,two_i (j:=j) (by omega),i1,w0,w1,show (0:Int)≤((2*j:Nat):Int) by omega,show ((2*j:Nat):Int)<256 by omega,show (0:Int)≤((2*j+1:Nat):Int) by omega,show ((2*j+1:Nat):Int)<256 by omega,h6]
   rw [if_pos (by omega),if_neg (by omega),show 2*j/2=j by omega,show (2*j+1)/2=j by omega]
  ·intro k z
   simp only [ref25_Mul.l0,show ¬ ((128:Nat):Int)<128 by omega,if_false]
 exact bind1 (f:=fun p=>ref25_Mul.l0 KK KK a b p 0 (zeroA 256)) (g:=fun y=>some y) h0 rfl
end Go.Proofs.YtemdbgmldljbpaaGreatDoor
