/- own -/
import Derived.Test.YtemdbgmldljbpaaGreatDoorUa
set_option linter.unusedSimpArgs false
set_option linter.unusedVariables false
set_option maxRecDepth 100000
namespace Go.Proofs.YtemdbgmldljbpaaGreatDoor
open Go Go.Mx
def bitN (N j:Nat):Int:=((N/2^j%2:Nat):Int)
theorem bitN_bd (N j:Nat):0≤bitN N j∧bitN N j≤1:=by
 unfold bitN
 have:=Nat.mod_lt (N/2^j) (show 0<2 by decide)
 omega
theorem dig1:∀ (n M j:Nat),j<n→(dig 1 n M).getD j 0=bitN M j
 | 0,_,_,h=>by omega
 | n+1,M,0,_=>by
  show ((M%2^1:Nat):Int)=((M/2^0%2:Nat):Int)
  rw [Nat.pow_zero,Nat.div_one,Nat.pow_one]
 | n+1,M,j+1,h=>by
  have ih:=dig1 n (M/2^1) j (by omega)
  show (dig 1 n (M/2^1)).getD j 0=_
  rw [ih]
  unfold bitN
  rw [Nat.div_div_eq_div_mul,← Nat.pow_add,Nat.add_comm 1 j]
theorem rBit {b:List Int}(hb:Byt b) (lb:b.length≤10000) {j:Nat}(hj:j<8*b.length):ref26_bit.f 60000 b (j:Int)=some (bitN (NB b) j):=by
 have h8:j/8<b.length:=by omega
 obtain ⟨x0,x1⟩:=hb _ (List.getElem_mem h8)
 obtain ⟨x,hx⟩ : ∃ x:Nat,b[j/8]=(x:Int):=⟨b[j/8].toNat,by omega⟩
 have q:iquo .i64 (j:Int) 8=((j/8:Nat):Int):=by
  unfold iquo
  rw [tdivN (by omega),id64 (by omega) (by omega)]
  omega
 have r:irem .i64 (j:Int) 8=((j%8:Nat):Int):=rfl
 have c0:(0:Int)≤((j/8:Nat):Int):=by omega
 have c1:((j/8:Nat):Int)<((b.length:Nat):Int):=by omega
 have c2:(0:Int)≤((j%8:Nat):Int):=by omega
 have hd:x/2^(j%8)<2^8:=Nat.lt_of_le_of_lt (Nat.div_le_self _ _) (by omega)
 have a:=iand_nat (k:=.u8) (x:=x/2^(j%8)) (y:=1) hd (by decide)
 rw [Nat.and_one_is_mod] at a
 have a':iand .u8 ((x/2^(j%8):Nat):Int) 1=((x/2^(j%8)%2:Nat):Int):=a
 have nb:=NB_bit hb j h8
 rw [List.getD_eq_getElem?_getD,List.getElem?_eq_getElem h8,Option.getD_some,hx,Int.toNat_natCast] at nb
 have cv:iconv .i32 ((x/2^(j%8)%2:Nat):Int)=((x/2^(j%8)%2:Nat):Int):=by
  unfold iconv
  have:=Nat.mod_lt (x/2^(j%8)) (show 0<2 by decide)
  rw [w32]
  omega
 unfold ref26_bit.f
 rw [q,r]
 simp only [Option.bind_some,c0,c1,c2,if_true,rdL_get h8,hx]
 rw [ishr_nat (k:=.u8) (show j%8≤8 by omega),a',cv,nb]
 rfl
def nS (N e i:Nat):Nat→Int
 | 0=>0
 | t+1=>nS N e i t+(bitN N (2*i*e+t)-bitN N ((2*i+1)*e+t))
theorem nS_bd (N e i:Nat):∀ t:Nat,-(t:Int)≤nS N e i t∧nS N e i t≤(t:Int)
 | 0=>⟨Int.le_refl 0,Int.le_refl 0⟩
 | t+1=>by
  have ih:=nS_bd N e i t
  have h1:=bitN_bd N (2*i*e+t)
  have h2:=bitN_bd N ((2*i+1)*e+t)
  show -((t+1:Nat):Int)≤nS N e i t+_∧nS N e i t+_≤((t+1:Nat):Int)
  omega
def nF (N e:Nat):Nat→Nat→Arr 256→Arr 256
 | 0,_,a=>a
 | m+1,i,a=>nF N e m (i+1) (wr a (i:Int) ((3329+nS N e i e)%3329))
theorem ix1 {i e t:Nat}(hi:i<256) (he:e≤3) (ht:t<4):iadd .i64 (imul .i64 (imul .i64 2 (i:Int)) (e:Int)) (t:Int)=((2*i*e+t:Nat):Int):=by
 have h1:imul .i64 2 (i:Int)=((2*i:Nat):Int):=by unfold imul; rw [id64 (by omega) (by omega)]; omega
 have hb:2*i*e≤510*3:=Nat.mul_le_mul (by omega) he
 have h2:imul .i64 ((2*i:Nat):Int) (e:Int)=((2*i*e:Nat):Int):=by
  unfold imul
  rw [← Int.natCast_mul,id64 (by omega) (by omega)]
 rw [h1,h2,add64 (by omega) (by omega)]
 omega
theorem ix2 {i e t:Nat}(hi:i<256) (he:e≤3) (ht:t<4):iadd .i64 (imul .i64 (iadd .i64 (imul .i64 2 (i:Int)) 1) (e:Int)) (t:Int)=(((2*i+1)*e+t:Nat):Int):=by
 have h1:imul .i64 2 (i:Int)=((2*i:Nat):Int):=by unfold imul; rw [id64 (by omega) (by omega)]; omega
 have h0:iadd .i64 ((2*i:Nat):Int) 1=((2*i+1:Nat):Int):=by rw [add64 (by omega) (by omega)]; omega
 have hb:(2*i+1)*e≤511*3:=Nat.mul_le_mul (by omega) he
 have h2:imul .i64 ((2*i+1:Nat):Int) (e:Int)=(((2*i+1)*e:Nat):Int):=by
  unfold imul
  rw [← Int.natCast_mul,id64 (by omega) (by omega)]
 rw [h1,h0,h2,add64 (by omega) (by omega)]
 omega
theorem ix3 {i e t:Nat}(hi:i<256) (he:e≤3) (ht:t<4):iadd .i64 (iadd .i64 (imul .i64 (imul .i64 2 (i:Int)) (e:Int)) (e:Int)) (t:Int)=(((2*i+1)*e+t:Nat):Int):=by
 have hb:2*i*e≤510*3:=Nat.mul_le_mul (by omega) he
 have h1:=ix1 (t:=0) hi he (by decide)
 have h1':imul .i64 (imul .i64 2 (i:Int)) (e:Int)=((2*i*e:Nat):Int):=by
  have h1:imul .i64 2 (i:Int)=((2*i:Nat):Int):=by unfold imul; rw [id64 (by omega) (by omega)]; omega
  rw [h1]
  unfold imul
  rw [← Int.natCast_mul,id64 (by omega) (by omega)]
 have hm:(2*i+1)*e=2*i*e+e:=by rw [Nat.add_mul,Nat.one_mul]
 have h2:iadd .i64 ((2*i*e:Nat):Int) (e:Int)=((2*i*e+e:Nat):Int):=by rw [add64 (by omega) (by omega)]; omega
 rw [h1',h2,add64 (by omega) (by omega),hm]
 omega
theorem i32_id {x:Int}(h0 : -1000000≤x) (h1:x≤1000000):IntKind.wrap .i32 x=x:=by rw [w32]; omega
theorem kNoise_l1 {l:List Int}{N e i:Nat}(hl:l=dig 1 (512*e) N) (he:e=2∨e=3) (hi:i<256):∀ (m t k:Nat),t+m=e→m<k →
  kpke_Noise.l1 60000 k (e:Int) l (i:Int) (3329+nS N e i t) (t:Int)=some (3329+nS N e i e):=by
 have ll:l.length=512*e:=by rw [hl,dig_len]
 intro m
 induction m with
 | zero=>
  intro t k ht hk
  obtain ⟨k,rfl⟩ : ∃ q,k=q+1:=⟨k-1,by omega⟩
  have c:¬ (t:Int)<(e:Int):=by omega
  simp only [kpke_Noise.l1,c,if_false]
  rw [show t=e by omega]
 | succ m ih=>
  intro t k ht hk
  obtain ⟨k,rfl⟩ : ∃ q,k=q+1:=⟨k-1,by omega⟩
  have c:(t:Int)<(e:Int):=by omega
  have e1:=ix1 (i:=i) (e:=e) (t:=t) hi (by omega) (by omega)
  have e2:=ix2 (i:=i) (e:=e) (t:=t) hi (by omega) (by omega)
  have b1:2*i*e+t<512*e:=by rcases he with rfl | rfl<;>omega
  have b2:(2*i+1)*e+t<512*e:=by rcases he with rfl | rfl<;>omega
  have c0:(0:Int)≤((2*i*e+t:Nat):Int):=by omega
  have c1:((2*i*e+t:Nat):Int)<((l.length:Nat):Int):=by omega
  have c2:(0:Int)≤(((2*i+1)*e+t:Nat):Int):=by omega
  have c3:(((2*i+1)*e+t:Nat):Int)<((l.length:Nat):Int):=by omega
  have r1:rdL (CI .u32) l ((2*i*e+t:Nat):Int)=bitN N (2*i*e+t):=by
   unfold rdL
   rw [Int.toNat_natCast,hl]
   exact dig1 _ _ _ b1
  have r2:rdL (CI .u32) l (((2*i+1)*e+t:Nat):Int)=bitN N ((2*i+1)*e+t):=by
   unfold rdL
   rw [Int.toNat_natCast,hl]
   exact dig1 _ _ _ b2
  have h1:=bitN_bd N (2*i*e+t)
  have h2:=bitN_bd N ((2*i+1)*e+t)
  have hs:=nS_bd N e i t
  have v1:iconv .i32 (bitN N (2*i*e+t))=bitN N (2*i*e+t):=i32_id (by omega) (by omega)
  have v2:iconv .i32 (bitN N ((2*i+1)*e+t))=bitN N ((2*i+1)*e+t):=i32_id (by omega) (by omega)
  have v3:iadd .i32 (3329+nS N e i t) (isub .i32 (bitN N (2*i*e+t)) (bitN N ((2*i+1)*e+t)))=3329+nS N e i (t+1):=by
   have:isub .i32 (bitN N (2*i*e+t)) (bitN N ((2*i+1)*e+t))=bitN N (2*i*e+t)-bitN N ((2*i+1)*e+t):=i32_id (by omega) (by omega)
   rw [this]
   show IntKind.wrap .i32 _=3329+(nS N e i t+_)
   rw [i32_id (by omega) (by omega)]
   omega
  simp only [kpke_Noise.l1,c,e1,e2,c0,c1,c2,c3,r1,r2,v1,v2,v3,ginc (i:=t) (by omega),if_true,Option.bind_some]
  exact ih (t+1) k (by omega) (by omega)
theorem qrem {S:Int}(h0 : -3≤S):irem .i32 (3329+S) 3329=(3329+S)%3329:=by
 unfold irem
 exact Int.tmod_eq_emod_of_nonneg (by omega)
theorem kNoise_l0 {l:List Int}{N e:Nat}(hl:l=dig 1 (512*e) N) (he:e=2∨e=3):∀ (m i k:Nat) (a:Arr 256),i+m=256→m<k →
  kpke_Noise.l0 60000 k (e:Int) l (i:Int) a=some (nF N e m i a):=by
 intro m
 induction m with
 | zero=>
  intro i k a hi hk
  obtain ⟨k,rfl⟩ : ∃ q,k=q+1:=⟨k-1,by omega⟩
  have c:¬ (i:Int)<256:=by omega
  simp only [kpke_Noise.l0,c,if_false]
  rfl
 | succ m ih=>
  intro i k a hi hk
  obtain ⟨k,rfl⟩ : ∃ q,k=q+1:=⟨k-1,by omega⟩
  have c:(i:Int)<256:=by omega
  have c0:(0:Int)≤(i:Int):=by omega
  have h:=kNoise_l1 hl he (show i<256 by omega) e 0 60000 (by omega) (by omega)
  have h':kpke_Noise.l1 60000 60000 (e:Int) l (i:Int) 3329 0=some (3329+nS N e i e):=h
  have hs:=nS_bd N e i e
  simp only [kpke_Noise.l0,c,c0,h',qrem (show -3≤nS N e i e by omega),ginc (i:=i) (by omega),if_true,Option.bind_some]
  exact ih (i+1) k _ (by omega) (by omega)
theorem rNoise_l1 {b:List Int}{e i:Nat}(hb:Byt b) (lb:b.length=64*e) (he:e=2∨e=3) (hi:i<256):∀ (m t k:Nat),t+m=e→m<k →
  ref26_Noise.l1 60000 k (e:Int) b (i:Int) (nS (NB b) e i t) (t:Int)=some (nS (NB b) e i e):=by
 intro m
 induction m with
 | zero=>
  intro t k ht hk
  obtain ⟨k,rfl⟩ : ∃ q,k=q+1:=⟨k-1,by omega⟩
  have c:¬ (t:Int)<(e:Int):=by omega
  simp only [ref26_Noise.l1,c,if_false]
  rw [show t=e by omega]
 | succ m ih=>
  intro t k ht hk
  obtain ⟨k,rfl⟩ : ∃ q,k=q+1:=⟨k-1,by omega⟩
  have c:(t:Int)<(e:Int):=by omega
  have e1:=ix1 (i:=i) (e:=e) (t:=t) hi (by omega) (by omega)
  have e2:=ix3 (i:=i) (e:=e) (t:=t) hi (by omega) (by omega)
  have b1:2*i*e+t<8*b.length:=by rcases he with rfl | rfl<;>omega
  have b2:(2*i+1)*e+t<8*b.length:=by rcases he with rfl | rfl<;>omega
  have r1:=rBit hb (by omega) b1
  have r2:=rBit hb (by omega) b2
  have h1:=bitN_bd (NB b) (2*i*e+t)
  have h2:=bitN_bd (NB b) ((2*i+1)*e+t)
  have hs:=nS_bd (NB b) e i t
  have v3:isub .i32 (iadd .i32 (nS (NB b) e i t) (bitN (NB b) (2*i*e+t))) (bitN (NB b) ((2*i+1)*e+t))=nS (NB b) e i (t+1):=by
   have:iadd .i32 (nS (NB b) e i t) (bitN (NB b) (2*i*e+t))=nS (NB b) e i t+bitN (NB b) (2*i*e+t):=i32_id (by omega) (by omega)
   rw [this]
   show IntKind.wrap .i32 _=nS (NB b) e i t+_
   rw [i32_id (by omega) (by omega)]
   omega
  simp only [ref26_Noise.l1,c,e1,e2,r1,r2,v3,ginc (i:=t) (by omega),if_true,Option.bind_some]
  exact ih (t+1) k (by omega) (by omega)
theorem rNoise_l0 {b:List Int}{e:Nat}(hb:Byt b) (lb:b.length=64*e) (he:e=2∨e=3):∀ (m i k:Nat) (a:Arr 256),i+m=256→m<k →
  ref26_Noise.l0 60000 k (e:Int) b (i:Int) a=some (nF (NB b) e m i a):=by
 intro m
 induction m with
 | zero=>
  intro i k a hi hk
  obtain ⟨k,rfl⟩ : ∃ q,k=q+1:=⟨k-1,by omega⟩
  have c:¬ (i:Int)<256:=by omega
  simp only [ref26_Noise.l0,c,if_false]
  rfl
 | succ m ih=>
  intro i k a hi hk
  obtain ⟨k,rfl⟩ : ∃ q,k=q+1:=⟨k-1,by omega⟩
  have c:(i:Int)<256:=by omega
  have c0:(0:Int)≤(i:Int):=by omega
  have h:=rNoise_l1 hb lb he (show i<256 by omega) e 0 60000 (by omega) (by omega)
  have h':ref26_Noise.l1 60000 60000 (e:Int) b (i:Int) 0 0=some (nS (NB b) e i e):=h
  have hs:=nS_bd (NB b) e i e
  have ea:iadd .i32 (nS (NB b) e i e) 3329=3329+nS (NB b) e i e:=by
   show IntKind.wrap .i32 _=_
   rw [i32_id (by omega) (by omega)]
   omega
  simp only [ref26_Noise.l0,c,c0,h',ea,qrem (show -3≤nS (NB b) e i e by omega),ginc (i:=i) (by omega),if_true,Option.bind_some]
  exact ih (i+1) k _ (by omega) (by omega)
def noiV (S:Arr 25 × Nat) (e:Nat):Arr 256:=nF (NB (sqV 7 S false ((64*e:Nat):Int)).1) e 256 0 (zeroA 256)
theorem knoise_core {C:Option (Arr 256 ⊕ Arr 256)}{J:Option (List Int)}{Sm:List Int→Option (List Int × Int)}{U:List Int→Option (List Int)}{L:List Int→Option (Arr 256)}{z:Arr 256}{j b u:List Int}{e:Int}{r:Arr 256}
  (h0:C=some (.inl z)) (h1:J=some j) (h2:Sm j=some (b,e)) (h3:U b=some u) (h4:L u=some r) :
  (C.bind fun tv6=>(match tv6 with | .inl y3=>J.bind fun r6=>(Sm r6).bind fun (r7,r8)=>(U r7).bind fun r9=>(L r9).bind fun y12=>some y12 | .inr r=>some r))=some r:=by
 subst h0 h1
 simp only [Option.bind_some,h2,h3,h4]
theorem rnoise_core {C:Option (Arr 256 ⊕ Arr 256)}{J:Option (List Int)}{Sm:List Int→Option (List Int × Int)}{L:List Int→Option (Arr 256)}{z:Arr 256}{j b:List Int}{e:Int}{r:Arr 256}
  (h0:C=some (.inl z)) (h1:J=some j) (h2:Sm j=some (b,e)) (h4:L b=some r) :
  (C.bind fun tv6=>(match tv6 with | .inl y3=>J.bind fun r6=>(Sm r6).bind fun (r7,r8)=>(L r7).bind fun y11=>some y11 | .inr r=>some r))=some r:=by
 subst h0 h1
 simp only [Option.bind_some,h2,h4]
theorem noise_len {s:List Int}(ls:s.length≤300) (n:Int):(s++[n]).length≤900:=by rw [List.length_append]; show s.length+1≤900; omega
theorem kNoise {s:List Int}(ls:s.length≤300) {e:Nat}(he:e=2∨e=3) (n:Int):kpke_Noise.f 60000 (e:Int) s n=some (noiV (absV 7 (zeroA 25,0) false (s++[n])) e):=by
 have ln:=noise_len ls n
 have jn:=gJoinW 60000 (W:=[s,[n]]) (by show 2<60000; decide) (by show 2<100000; decide) (by simp; omega)
 rw [show ([s,[n]]:List (List Int)).flatten=s++[n] by simp] at jn
 have em:imul .i64 64 (e:Int)=((64*e:Nat):Int):=by unfold imul; rw [id64 (by omega) (by omega)]; omega
 have em2:imul .i64 512 (e:Int)=((512*e:Nat):Int):=by unfold imul; rw [id64 (by omega) (by omega)]; omega
 have sm0:=kSum 7 (s++[n]) (by omega) ((64*e:Nat):Int) (by omega)
 have sv:sumV 7 (s++[n]) ((64*e:Nat):Int)=((sqV 7 (absV 7 (zeroA 25,0) false (s++[n])) false ((64*e:Nat):Int)).1,0):=by
  unfold sumV
  rw [if_neg (by decide),if_neg (by omega),if_neg (by omega)]
 have sm1:=sm0.trans (congrArg some sv)
 have lb:=sqv_len 7 (absV 7 (zeroA 25,0) false (s++[n])) false ((64*e:Nat):Int)
 have bb:=sqv_byt 7 (absV 7 (zeroA 25,0) false (s++[n])) false ((64*e:Nat):Int)
 unfold noiV
 generalize (sqV 7 (absV 7 (zeroA 25,0) false (s++[n])) false ((64*e:Nat):Int)).1=b at sm1 lb bb ⊢
 rw [Int.toNat_natCast] at lb
 have u:=bits_Unpack_eq 60000 1 (512*e) b bb (by omega) (by omega) (by decide) (by decide) (by omega) (by decide) (by omega)
 have l:=kNoise_l0 (l:=dig 1 (512*e) (NB b)) (N:=NB b) rfl he 256 0 60000 (zeroA 256) (by decide) (by decide)
 have hC:((if (e:Int)=2 then (some (.inl (zeroA 256))) else (if (e:Int)=3 then (some (.inl (zeroA 256))) else (some (.inr (zeroA 256)))):Option (((Arr 256)) ⊕ ((Arr 256)))))=some (.inl (zeroA 256)):=by
  rcases he with rfl | rfl<;>rfl
 unfold kpke_Noise.f
 rw [em,em2]
 exact knoise_core (Sm:=fun r6=>keccak_Sum.f 60000 7 r6 ((64*e:Nat):Int)) (U:=fun r7=>bits_Unpack.f 60000 r7 1 ((512*e:Nat):Int)) (L:=fun r9=>kpke_Noise.l0 60000 60000 (e:Int) r9 0 (zeroA 256)) hC jn sm1 u l
theorem rNoise {s:List Int}(ls:s.length≤300) {e:Nat}(he:e=2∨e=3) (n:Int):ref26_Noise.f 60000 (e:Int) s n=some (noiV (absV 7 (zeroA 25,0) false (s++[n])) e):=by
 have ln:=noise_len ls n
 have jn:=jn2 s [n] (by show s.length+1≤_; omega)
 have em:imul .i64 64 (e:Int)=((64*e:Nat):Int):=by unfold imul; rw [id64 (by omega) (by omega)]; omega
 have sm1:=sum_eq 7 (by decide) ln (n:=((64*e:Nat):Int)) (by omega) (by omega)
 have lb:=sqv_len 7 (absV 7 (zeroA 25,0) false (s++[n])) false ((64*e:Nat):Int)
 have bb:=sqv_byt 7 (absV 7 (zeroA 25,0) false (s++[n])) false ((64*e:Nat):Int)
 unfold noiV
 generalize (sqV 7 (absV 7 (zeroA 25,0) false (s++[n])) false ((64*e:Nat):Int)).1=b at sm1 lb bb ⊢
 rw [Int.toNat_natCast] at lb
 have l:=rNoise_l0 bb lb he 256 0 60000 (zeroA 256) (by decide) (by decide)
 have hC:((if (e:Int)=2 then (some (.inl (zeroA 256))) else (if (e:Int)=3 then (some (.inl (zeroA 256))) else (some (.inr (zeroA 256)))):Option (((Arr 256)) ⊕ ((Arr 256)))))=some (.inl (zeroA 256)):=by
  rcases he with rfl | rfl<;>rfl
 unfold ref26_Noise.f
 rw [em]
 exact rnoise_core (Sm:=fun r6=>ref08_Sum.f 60000 7 r6 ((64*e:Nat):Int)) (L:=fun r7=>ref26_Noise.l0 60000 60000 (e:Int) r7 0 (zeroA 256)) hC jn sm1 l
end Go.Proofs.YtemdbgmldljbpaaGreatDoor
