/- own -/
import Derived.Test.YtemdbgmldljbpaaGreatDoorKb
import Derived.Test.YtemdbgmldljbpaaGreatDoorMz
set_option linter.unusedSimpArgs false
set_option linter.unusedVariables false
namespace Go.Proofs.YtemdbgmldljbpaaGreatDoor
open Go Go.Mx
abbrev FitK (a:Arr 256):Prop:=Bel 3329 a
abbrev FitR (r:Arr 128):Prop:=∀ i:Nat,i<128→0≤rd r i∧rd r i<3329
theorem fit_map {f:Nat→Int}(h:∀ i,i<256→0≤f i∧f i<3329):FitK (mapA 256 f):=fun i hi=>by rw [rd_mapA _ _ hi]; exact h i hi
theorem mulq_bd {x y:Int}(x0:0≤x) (x1:x<3329) (y0:0≤y) (y1:y<6658):0≤x*y∧x*y≤22164482:=by
  refine ⟨Int.mul_nonneg x0 y0,?_⟩
  have h:x*y≤3329*y:=Int.mul_le_mul_of_nonneg_right (by omega) y0
  omega
theorem mulq {x y:Int}(x0:0≤x) (x1:x<3329) (y0:0≤y) (y1:y<6658):irem .i32 (imul .i32 x y) 3329=x*y%3329:=by
  obtain ⟨h0,h1⟩:=mulq_bd x0 x1 y0 y1
  rw [mul32 (by omega) (by omega)]
  unfold irem
  rw [tmodN h0]
theorem addq {x y:Int}(x0:0≤x) (x1:x<3329) (y0:0≤y) (y1:y<3329):irem .i32 (iadd .i32 x y) 3329=(x+y)%3329:=by
  rw [add32 (by omega) (by omega)]
  unfold irem
  rw [tmodN (by omega)]
theorem subq {x y:Int}(x0:0≤x) (x1:x<3329) (y0:0≤y) (y1:y<3329):irem .i32 (iadd .i32 (isub .i32 x y) 3329) 3329=(x-y)%3329:=by
  rw [sub32 (by omega) (by omega),add32 (by omega) (by omega)]
  unfold irem
  rw [tmodN (by omega)]
  omega
def bfU (s f:Nat) (c:Int) (i:Nat) (z:Arr 256):Arr 256:=mapA 256 fun j=>
  if f≤j∧j<i then (rd z j+c*rd z (j+s:Nat)%3329)%3329
  else if f+s≤j∧j<i+s then (rd z (j-s:Nat)-c*rd z j%3329)%3329 else rd z j
theorem bfU_start (s f:Nat) (c:Int) (z:Arr 256):bfU s f c f z=z:=by
  refine arr_ext fun j hj=>?_
  unfold bfU
  rw [rd_mapA _ _ hj,if_neg (by omega),if_neg (by omega)]
theorem bfU_step {s f i:Nat}{c:Int}{z:Arr 256}(hf:f+2*s≤256) (hi0:f≤i) (hi:i<f+s) :
    wr (wr (bfU s f c i z) ((i+s:Nat):Int) ((rd z i-c*rd z (i+s:Nat)%3329)%3329)) (i:Nat) ((rd z i+c*rd z (i+s:Nat)%3329)%3329)=bfU s f c (i+1) z:=by
  refine arr_ext fun j hj=>?_
  rw [rd_wr _ _ _ _ hj,rd_wr _ _ _ _ hj]
  unfold bfU
  rw [rd_mapA _ _ hj,rd_mapA _ _ hj]
  by_cases h1:i=j
  · subst h1
    rw [if_pos rfl,if_pos ⟨hi0,by omega⟩]
  · rw [if_neg h1]
    by_cases h2:i+s=j
    · subst h2
      rw [if_pos rfl,if_neg (by omega),if_pos ⟨by omega,by omega⟩,Nat.add_sub_cancel]
    · rw [if_neg h2]
      by_cases h3:f≤j∧j<i
      · rw [if_pos h3,if_pos ⟨h3.1,by omega⟩]
      · have h3':¬ (f≤j∧j<i+1):=by omega
        rw [if_neg h3,if_neg h3']
        by_cases h4:f+s≤j∧j<i+s
        · rw [if_pos h4,if_pos ⟨h4.1,by omega⟩]
        · rw [if_neg h4,if_neg (by omega)]
theorem rd_bfU_lo {s f i:Nat}{c:Int}{z:Arr 256}(hi:i<f+s) (h:i<256):rd (bfU s f c i z) i=rd z i:=by
  unfold bfU
  rw [rd_mapA _ _ h,if_neg (by omega),if_neg (by omega)]
theorem rd_bfU_hi {s f i:Nat}{c:Int}{z:Arr 256}(hs:0<s) (hi0:f≤i) (hi:i<f+s) (h:i+s<256):rd (bfU s f c i z) (i+s:Nat)=rd z (i+s:Nat):=by
  unfold bfU
  rw [rd_mapA _ _ h,if_neg (by omega),if_neg (by omega)]
theorem ntt_l2 (K:Nat) (r:Arr 128) (z:Arr 256) (hr:FitR r) (hz:FitK z) (s f m:Nat) (hs:0<s) (hf:f+2*s≤256) (hm:m<128) :
    ∀ (d i k:Nat),i+d=f+s→f≤i→d<k→kq_Ntt.l2 K k r s f m i (bfU s f (rd r m) i z)=some (bfU s f (rd r m) (f+s) z):=by
  intro d
  induction d with
  | zero=>
    intro i k hi hfi hk
    obtain ⟨k,rfl⟩ : ∃ m,k=m+1:=⟨k-1,by omega⟩
    obtain rfl:i=f+s:=by omega
    simp only [kq_Ntt.l2,add64 (x:=(f:Int)) (y:=s) (by omega) (by omega),show ¬ ((f+s:Nat):Int)<(f:Int)+s by omega,if_false]
  | succ d ih=>
    intro i k hi hfi hk
    obtain ⟨k,rfl⟩ : ∃ m,k=m+1:=⟨k-1,by omega⟩
    obtain ⟨c0,c1⟩:=hr m hm
    obtain ⟨x0,x1⟩:=hz i (by omega)
    obtain ⟨y0,y1⟩:=hz (i+s) (by omega)
    have e1:iadd .i64 (i:Int) s=((i+s:Nat):Int):=by rw [add64 (by omega) (by omega)]; omega
    have t0:0≤rd r m*rd z (i+s:Nat)%3329:=Int.emod_nonneg _ (by decide)
    have t1:rd r m*rd z (i+s:Nat)%3329<3329:=Int.emod_lt_of_pos _ (by decide)
    have hlo:=rd_bfU_lo (s:=s) (f:=f) (i:=i) (c:=rd r m) (z:=z) (by omega) (by omega)
    have hhi:=rd_bfU_hi (s:=s) (f:=f) (i:=i) (c:=rd r m) (z:=z) hs hfi (by omega) (by omega)
    have h1:(i:Int)<(f:Int)+s:=by omega
    have h2:(0:Int)≤m:=by omega
    have h3:(m:Int)<128:=by omega
    have h4:(0:Int)≤((i+s:Nat):Int):=by omega
    have h5:((i+s:Nat):Int)<256:=by omega
    have h6:(0:Int)≤i:=by omega
    have h7:(i:Int)<256:=by omega
    have h8:iadd .i64 (i:Int) 1=((i+1:Nat):Int):=by rw [add64 (by omega) (by omega)]; rfl
    simp only [kq_Ntt.l2,add64 (x:=(f:Int)) (y:=s) (by omega) (by omega),h1,h2,h3,if_true,e1,Option.bind_some,h4,h5,hlo,hhi,mulq c0 c1 y0 (show rd z (i+s:Nat)<6658 by omega),h6,h7,subq x0 x1 t0 t1,addq x0 x1 t0 t1,h8]
    rw [bfU_step hf hfi (by omega)]
    exact ih (i+1) k (by omega) (by omega) (by omega)
def layU (r:Arr 128) (s m b:Nat) (z:Arr 256):Arr 256:=mapA 256 fun j=>
  if j<b*(2*s) then
    (if j%(2*s)<s then (rd z j+rd r (m+1+j/(2*s):Nat)*rd z (j+s:Nat)%3329)%3329
     else (rd z (j-s:Nat)-rd r (m+1+j/(2*s):Nat)*rd z j%3329)%3329)
  else rd z j
theorem fit_layU {r:Arr 128}{s m b:Nat}{z:Arr 256}(hz:FitK z):FitK (layU r s m b z):=fit_map fun j hj=>by
  split
  · split
    · exact ⟨Int.emod_nonneg _ (by decide),Int.emod_lt_of_pos _ (by decide)⟩
    · exact ⟨Int.emod_nonneg _ (by decide),Int.emod_lt_of_pos _ (by decide)⟩
  · exact hz j hj
theorem layU_start (r:Arr 128) (s m:Nat) (z:Arr 256):layU r s m 0 z=z:=by
  refine arr_ext fun j hj=>?_
  unfold layU
  rw [rd_mapA _ _ hj,if_neg (by omega)]
theorem layU_step {r:Arr 128}{s m b:Nat}{z:Arr 256}(hs:0<s) (hb:(b+1)*(2*s)≤256) :
    bfU s (b*(2*s)) (rd r (m+1+b:Nat)) (b*(2*s)+s) (layU r s m b z)=layU r s m (b+1) z:=by
  have hmul:(b+1)*(2*s)=b*(2*s)+2*s:=Nat.succ_mul _ _
  generalize hB:b*(2*s)=B at *
  refine arr_ext fun j hj=>?_
  unfold bfU
  rw [rd_mapA _ _ hj]
  have big:∀ j',B≤j'→j'<256→rd (layU r s m b z) (j':Nat)=rd z (j':Nat):=fun j' h h'=>by
    unfold layU
    rw [rd_mapA _ _ h',hB,if_neg (by omega)]
  by_cases h1:B≤j∧j<B+s
  · have hq:j/(2*s)=b:=by
      rw [Nat.div_eq_iff (by omega)]
      rw [Nat.mul_comm] at hB
      constructor<;>(rw [Nat.mul_comm]; omega)
    have hm:j%(2*s)=j-B:=by
      have:=Nat.div_add_mod j (2*s)
      rw [hq,Nat.mul_comm,hB] at this
      omega
    rw [if_pos h1,big j h1.1 hj,big (j+s) (by omega) (by omega)]
    unfold layU
    rw [rd_mapA _ _ hj,hmul,if_pos (by omega),hm,if_pos (by omega),hq]
  · rw [if_neg h1]
    by_cases h2:B+s≤j∧j<B+s+s
    · have hq:j/(2*s)=b:=by
        rw [Nat.div_eq_iff (by omega)]
        rw [Nat.mul_comm] at hB
        constructor<;>(rw [Nat.mul_comm]; omega)
      have hm:j%(2*s)=j-B:=by
        have:=Nat.div_add_mod j (2*s)
        rw [hq,Nat.mul_comm,hB] at this
        omega
      rw [if_pos h2,big j (by omega) hj,big (j-s) (by omega) (by omega)]
      unfold layU
      rw [rd_mapA _ _ hj,hmul,if_pos (by omega),hm,if_neg (by omega),hq]
    · rw [if_neg h2]
      unfold layU
      rw [rd_mapA _ _ hj,rd_mapA _ _ hj,hmul,hB]
      by_cases h3:j<B
      · have h4:j<B+2*s:=by omega
        rw [if_pos h3,if_pos h4]
      · have h4:¬ j<B+2*s:=by omega
        rw [if_neg h3,if_neg h4]
theorem ntt_l1 (K:Nat) (hK:256<K) (r:Arr 128) (z:Arr 256) (hr:FitR r) (hz:FitK z) (s m n:Nat) (hs:0<s) (hn:n*(2*s)=256) (hm:m+n<128) :
    ∀ (d b k:Nat),b+d=n→d<k→kq_Ntt.l1 K k r s ((m+b:Nat):Int) ((b*(2*s):Nat):Int) (layU r s m b z)=some (((m+n:Nat):Int),layU r s m n z):=by
  intro d
  induction d with
  | zero=>
    intro b k hb hk
    obtain ⟨k,rfl⟩ : ∃ m,k=m+1:=⟨k-1,by omega⟩
    obtain rfl:b=n:=by omega
    rw [hn]
    simp only [kq_Ntt.l1,show ¬ ((256:Nat):Int)<256 by omega,if_false]
  | succ d ih=>
    intro b k hb hk
    obtain ⟨k,rfl⟩ : ∃ m,k=m+1:=⟨k-1,by omega⟩
    have hb1:(b+1)*(2*s)≤256:=by rw [← hn]; exact Nat.mul_le_mul_right _ (by omega)
    have hmul:(b+1)*(2*s)=b*(2*s)+2*s:=Nat.succ_mul _ _
    have h1:((b*(2*s):Nat):Int)<256:=by omega
    have h2:iadd .i64 ((m+b:Nat):Int) 1=((m+1+b:Nat):Int):=by rw [add64 (by omega) (by omega)]; omega
    have h3:=ntt_l2 K r (layU r s m b z) hr (fit_layU hz) s (b*(2*s)) (m+1+b) hs (by omega) (by omega) s (b*(2*s)) K (by omega) (by omega) (by omega)
    rw [bfU_start] at h3
    have h4:iadd .i64 ((b*(2*s):Nat):Int) (imul .i64 2 (s:Int))=(((b+1)*(2*s):Nat):Int):=by
      rw [mul64 (by omega) (by omega),add64 (by omega) (by omega),hmul]
      omega
    simp only [kq_Ntt.l1,h1,if_true,h2,Option.bind_some,h3,h4]
    rw [layU_step hs hb1,show m+1+b=m+(b+1) by omega]
    exact ih (b+1) k (by omega) (by omega)
theorem ntt_layer (K:Nat) (hK:256<K) (r:Arr 128) (z:Arr 256) (hr:FitR r) (hz:FitK z) (s m n:Nat) (hs:0<s) (hn:n*(2*s)=256) (hm:m+n<128) :
    kq_Ntt.l1 K K r s (m:Int) 0 z=some (((m+n:Nat):Int),layU r s m n z):=by
  have hnl:n≤256:=by
    have:n*1≤n*(2*s):=Nat.mul_le_mul_left _ (by omega)
    omega
  have:=ntt_l1 K hK r z hr hz s m n hs hn hm n 0 K (by omega) (by omega)
  rw [layU_start] at this
  simpa using this
def nttR (r:Arr 128) (a:Arr 256):Arr 256:=
  layU r 2 63 64 (layU r 4 31 32 (layU r 8 15 16 (layU r 16 7 8 (layU r 32 3 4 (layU r 64 1 2 (layU r 128 0 1 a))))))
theorem fit_nttR {r:Arr 128}{a:Arr 256}(ha:FitK a):FitK (nttR r a):=
  fit_layU (fit_layU (fit_layU (fit_layU (fit_layU (fit_layU (fit_layU ha))))))
theorem ntt_l0_step (K k:Nat) (hK:256<K) (r:Arr 128) (z:Arr 256) (hr:FitR r) (hz:FitK z) (s m n:Nat) (hs:2≤s) (hn:n*(2*s)=256) (hm:m+n<128) :
    kq_Ntt.l0 K (k+1) r (m:Int) (s:Int) z=kq_Ntt.l0 K k r ((m+n:Nat):Int) ((s/2:Nat):Int) (layU r s m n z):=by
  have hs2:s≤256:=by
    have:1*(2*s)≤n*(2*s):=Nat.mul_le_mul_right _ (by
      rcases Nat.eq_zero_or_pos n with h | h
      · subst h; simp at hn
      · exact h)
    omega
  have h1:(s:Int)≥2:=by omega
  have h2:iquo .i64 (s:Int) 2=((s/2:Nat):Int):=by
    unfold iquo
    rw [tdivN (by omega),id64 (by omega) (by omega)]
    omega
  simp only [kq_Ntt.l0,h1,if_true,ntt_layer K hK r z hr hz s m n (by omega) hn hm,Option.bind_some,h2]
theorem ntt_l0_eq (K:Nat) (hK:256<K) (r:Arr 128) (a:Arr 256) (hr:FitR r) (ha:FitK a):kq_Ntt.l0 K K r 0 128 a=some (nttR r a):=by
  obtain ⟨k,rfl⟩ : ∃ k,K=k+9:=⟨K-9,by omega⟩
  have f1:=fit_layU (r:=r) (s:=128) (m:=0) (b:=1) ha
  have f2:=fit_layU (r:=r) (s:=64) (m:=1) (b:=2) f1
  have f3:=fit_layU (r:=r) (s:=32) (m:=3) (b:=4) f2
  have f4:=fit_layU (r:=r) (s:=16) (m:=7) (b:=8) f3
  have f5:=fit_layU (r:=r) (s:=8) (m:=15) (b:=16) f4
  have f6:=fit_layU (r:=r) (s:=4) (m:=31) (b:=32) f5
  have e1:=ntt_l0_step (k+9) (k+8) hK r a hr ha 128 0 1 (by decide) (by decide) (by decide)
  have e2:=ntt_l0_step (k+9) (k+7) hK r _ hr f1 64 1 2 (by decide) (by decide) (by decide)
  have e3:=ntt_l0_step (k+9) (k+6) hK r _ hr f2 32 3 4 (by decide) (by decide) (by decide)
  have e4:=ntt_l0_step (k+9) (k+5) hK r _ hr f3 16 7 8 (by decide) (by decide) (by decide)
  have e5:=ntt_l0_step (k+9) (k+4) hK r _ hr f4 8 15 16 (by decide) (by decide) (by decide)
  have e6:=ntt_l0_step (k+9) (k+3) hK r _ hr f5 4 31 32 (by decide) (by decide) (by decide)
  have e7:=ntt_l0_step (k+9) (k+2) hK r _ hr f6 2 63 64 (by decide) (by decide) (by decide)
  refine (e1.trans (e2.trans (e3.trans (e4.trans (e5.trans (e6.trans (e7.trans ?_)))))))
  simp only [kq_Ntt.l0,show ¬ (((2/2:Nat):Int)≥2) by decide,if_false]
  rfl
end Go.Proofs.YtemdbgmldljbpaaGreatDoor

/- own -/
set_option linter.unusedSimpArgs false
set_option linter.unusedVariables false
namespace Go.Proofs.YtemdbgmldljbpaaGreatDoor
open Go Go.Mx
def brv7 (i:Nat):Nat:=i%2*64+i/2%2*32+i/4%2*16+i/8%2*8+i/16%2*4+i/32%2*2+i/64%2
def KK:Nat:=60000
def rootsA:Arr 128:=mapA 128 fun i=>((17^brv7 i%3329:Nat):Int)
theorem fit_rootsA:FitR rootsA:=fun i hi=>by
  have:=Nat.mod_lt (17^brv7 i) (show 3329>0 by decide)
  unfold rootsA
  rw [rd_mapA _ _ hi]
  omega
set_option maxRecDepth 100000 in
theorem roots_list:(kq_roots.f 60000).map (fun r=>r.toList)=some ((List.range 128).map fun i=>((17^brv7 i%3329:Nat):Int)):=by decide +kernel
theorem kq_roots_eq:kq_roots.f KK=some rootsA:=by
  have h:=roots_list
  rw [Option.map_eq_some_iff] at h
  obtain ⟨r,hr,hl⟩:=h
  show kq_roots.f 60000=_
  rw [hr]
  refine congrArg some (arr_ext fun i hi=>?_)
  unfold rootsA
  rw [rd_mapA _ _ hi]
  unfold rd
  rw [hl]
  simp [List.getD_eq_getElem?_getD,hi]
def pntt (a:Arr 256):Arr 256:=nttR rootsA a
theorem kq_Ntt_eq (a:Arr 256) (ha:FitK a):kq_Ntt.f KK a=some (pntt a):=by
  unfold kq_Ntt.f
  rw [kq_roots_eq]
  simp only [Option.bind_some]
  rw [ntt_l0_eq KK (by decide) rootsA a fit_rootsA ha]
  rfl
def bfB (s f:Nat) (c:Int) (i:Nat) (z:Arr 256):Arr 256:=mapA 256 fun j=>
  if f≤j∧j<i then (rd z j+rd z (j+s:Nat))%3329
  else if f+s≤j∧j<i+s then c*(rd z j-rd z (j-s:Nat)+3329)%3329 else rd z j
theorem bfB_start (s f:Nat) (c:Int) (z:Arr 256):bfB s f c f z=z:=by
  refine arr_ext fun j hj=>?_
  unfold bfB
  rw [rd_mapA _ _ hj,if_neg (by omega),if_neg (by omega)]
theorem bfB_step {s f i:Nat}{c:Int}{z:Arr 256}(hf:f+2*s≤256) (hi0:f≤i) (hi:i<f+s) :
    wr (wr (bfB s f c i z) (i:Nat) ((rd z i+rd z (i+s:Nat))%3329)) ((i+s:Nat):Int) (c*(rd z (i+s:Nat)-rd z i+3329)%3329)=bfB s f c (i+1) z:=by
  refine arr_ext fun j hj=>?_
  rw [rd_wr _ _ _ _ hj,rd_wr _ _ _ _ hj]
  unfold bfB
  rw [rd_mapA _ _ hj,rd_mapA _ _ hj]
  by_cases h1:i=j
  · subst h1
    rw [if_neg (show ¬ i+s=i by omega),if_pos rfl,if_pos ⟨hi0,by omega⟩]
  · by_cases h2:i+s=j
    · subst h2
      rw [if_pos rfl,if_neg (by omega),if_pos ⟨by omega,by omega⟩,Nat.add_sub_cancel]
    · rw [if_neg h2,if_neg h1]
      by_cases h3:f≤j∧j<i
      · rw [if_pos h3,if_pos ⟨h3.1,by omega⟩]
      · have h3':¬ (f≤j∧j<i+1):=by omega
        rw [if_neg h3,if_neg h3']
        by_cases h4:f+s≤j∧j<i+s
        · rw [if_pos h4,if_pos ⟨h4.1,by omega⟩]
        · rw [if_neg h4,if_neg (by omega)]
theorem rd_bfB_lo {s f i:Nat}{c:Int}{z:Arr 256}(hi:i<f+s) (h:i<256):rd (bfB s f c i z) i=rd z i:=by
  unfold bfB
  rw [rd_mapA _ _ h,if_neg (by omega),if_neg (by omega)]
theorem rd_bfB_hi {s f i:Nat}{c:Int}{z:Arr 256}(hs:0<s) (hi0:f≤i) (hi:i<f+s) (h:i+s<256):rd (bfB s f c i z) (i+s:Nat)=rd z (i+s:Nat):=by
  unfold bfB
  rw [rd_mapA _ _ h,if_neg (by omega),if_neg (by omega)]
theorem back_l2 (K:Nat) (r:Arr 128) (z:Arr 256) (hr:FitR r) (hz:FitK z) (s f m:Nat) (hs:0<s) (hf:f+2*s≤256) (hm:m<128) :
    ∀ (d i k:Nat),i+d=f+s→f≤i→d<k→kq_Back.l2 K k r s f m i (bfB s f (rd r m) i z)=some (bfB s f (rd r m) (f+s) z):=by
  intro d
  induction d with
  | zero=>
    intro i k hi hfi hk
    obtain ⟨k,rfl⟩ : ∃ m,k=m+1:=⟨k-1,by omega⟩
    obtain rfl:i=f+s:=by omega
    simp only [kq_Back.l2,add64 (x:=(f:Int)) (y:=s) (by omega) (by omega),show ¬ ((f+s:Nat):Int)<(f:Int)+s by omega,if_false]
  | succ d ih=>
    intro i k hi hfi hk
    obtain ⟨k,rfl⟩ : ∃ m,k=m+1:=⟨k-1,by omega⟩
    obtain ⟨c0,c1⟩:=hr m hm
    obtain ⟨x0,x1⟩:=hz i (by omega)
    obtain ⟨y0,y1⟩:=hz (i+s) (by omega)
    have e1:iadd .i64 (i:Int) s=((i+s:Nat):Int):=by rw [add64 (by omega) (by omega)]; omega
    have t2:iadd .i32 (isub .i32 (rd z (i+s:Nat)) (rd z i)) 3329=rd z (i+s:Nat)-rd z i+3329:=by rw [sub32 (by omega) (by omega),add32 (by omega) (by omega)]
    have t3:=mulq c0 c1 (show 0≤rd z (i+s:Nat)-rd z i+3329 by omega) (by omega)
    have hlo:=rd_bfB_lo (s:=s) (f:=f) (i:=i) (c:=rd r m) (z:=z) (by omega) (by omega)
    have hhi:=rd_bfB_hi (s:=s) (f:=f) (i:=i) (c:=rd r m) (z:=z) hs hfi (by omega) (by omega)
    have hw:=rd_wr_ne (bfB s f (rd r m) i z) i (i+s) ((rd z i+rd z (i+s:Nat))%3329) (by omega) (by omega)
    rw [hhi] at hw
    have h1:(i:Int)<(f:Int)+s:=by omega
    have h2:(0:Int)≤m:=by omega
    have h3:(m:Int)<128:=by omega
    have h4:(0:Int)≤((i+s:Nat):Int):=by omega
    have h5:((i+s:Nat):Int)<256:=by omega
    have h6:(0:Int)≤i:=by omega
    have h7:(i:Int)<256:=by omega
    have h8:iadd .i64 (i:Int) 1=((i+1:Nat):Int):=by rw [add64 (by omega) (by omega)]; rfl
    simp only [kq_Back.l2,add64 (x:=(f:Int)) (y:=s) (by omega) (by omega),h1,h2,h3,if_true,e1,Option.bind_some,h4,h5,hlo,hhi,h6,h7,addq x0 x1 y0 y1,hw,t2,t3,h8]
    rw [bfB_step hf hfi (by omega)]
    exact ih (i+1) k (by omega) (by omega) (by omega)
def layB (r:Arr 128) (s n b:Nat) (z:Arr 256):Arr 256:=mapA 256 fun j=>
  if j<b*(2*s) then
    (if j%(2*s)<s then (rd z j+rd z (j+s:Nat))%3329
     else rd r (2*n-1-j/(2*s):Nat)*(rd z j-rd z (j-s:Nat)+3329)%3329)
  else rd z j
theorem fit_layB {r:Arr 128}{s n b:Nat}{z:Arr 256}(hz:FitK z):FitK (layB r s n b z):=fit_map fun j hj=>by
  split
  · split
    · exact ⟨Int.emod_nonneg _ (by decide),Int.emod_lt_of_pos _ (by decide)⟩
    · exact ⟨Int.emod_nonneg _ (by decide),Int.emod_lt_of_pos _ (by decide)⟩
  · exact hz j hj
theorem layB_start (r:Arr 128) (s n:Nat) (z:Arr 256):layB r s n 0 z=z:=by
  refine arr_ext fun j hj=>?_
  unfold layB
  rw [rd_mapA _ _ hj,if_neg (by omega)]
theorem layB_step {r:Arr 128}{s n b:Nat}{z:Arr 256}(hs:0<s) (hb:(b+1)*(2*s)≤256) :
    bfB s (b*(2*s)) (rd r (2*n-1-b:Nat)) (b*(2*s)+s) (layB r s n b z)=layB r s n (b+1) z:=by
  have hmul:(b+1)*(2*s)=b*(2*s)+2*s:=Nat.succ_mul _ _
  generalize hB:b*(2*s)=B at *
  refine arr_ext fun j hj=>?_
  unfold bfB
  rw [rd_mapA _ _ hj]
  have big:∀ j',B≤j'→j'<256→rd (layB r s n b z) (j':Nat)=rd z (j':Nat):=fun j' h h'=>by
    unfold layB
    rw [rd_mapA _ _ h',hB,if_neg (by omega)]
  by_cases h1:B≤j∧j<B+s
  · have hq:j/(2*s)=b:=by
      rw [Nat.div_eq_iff (by omega)]
      rw [Nat.mul_comm] at hB
      constructor<;>(rw [Nat.mul_comm]; omega)
    have hm:j%(2*s)=j-B:=by
      have:=Nat.div_add_mod j (2*s)
      rw [hq,Nat.mul_comm,hB] at this
      omega
    rw [if_pos h1,big j h1.1 hj,big (j+s) (by omega) (by omega)]
    unfold layB
    rw [rd_mapA _ _ hj,hmul,if_pos (by omega),hm,if_pos (by omega)]
  · rw [if_neg h1]
    by_cases h2:B+s≤j∧j<B+s+s
    · have hq:j/(2*s)=b:=by
        rw [Nat.div_eq_iff (by omega)]
        rw [Nat.mul_comm] at hB
        constructor<;>(rw [Nat.mul_comm]; omega)
      have hm:j%(2*s)=j-B:=by
        have:=Nat.div_add_mod j (2*s)
        rw [hq,Nat.mul_comm,hB] at this
        omega
      rw [if_pos h2,big j (by omega) hj,big (j-s) (by omega) (by omega)]
      unfold layB
      rw [rd_mapA _ _ hj,hmul,if_pos (by omega),hm,if_neg (by omega),hq]
    · rw [if_neg h2]
      unfold layB
      rw [rd_mapA _ _ hj,rd_mapA _ _ hj,hmul,hB]
      by_cases h3:j<B
      · have h4:j<B+2*s:=by omega
        rw [if_pos h3,if_pos h4]
      · have h4:¬ j<B+2*s:=by omega
        rw [if_neg h3,if_neg h4]
theorem back_l1 (K:Nat) (hK:256<K) (r:Arr 128) (z:Arr 256) (hr:FitR r) (hz:FitK z) (s n:Nat) (hs:0<s) (hn:n*(2*s)=256) (hn2:n≤64) :
    ∀ (d b k:Nat),b+d=n→d<k→kq_Back.l1 K k r s ((2*n-b:Nat):Int) ((b*(2*s):Nat):Int) (layB r s n b z)=some (((n:Nat):Int),layB r s n n z):=by
  intro d
  induction d with
  | zero=>
    intro b k hb hk
    obtain ⟨k,rfl⟩ : ∃ m,k=m+1:=⟨k-1,by omega⟩
    obtain rfl:b=n:=by omega
    rw [hn,show 2*b-b=b by omega]
    simp only [kq_Back.l1,show ¬ ((256:Nat):Int)<256 by omega,if_false]
  | succ d ih=>
    intro b k hb hk
    obtain ⟨k,rfl⟩ : ∃ m,k=m+1:=⟨k-1,by omega⟩
    have hb1:(b+1)*(2*s)≤256:=by rw [← hn]; exact Nat.mul_le_mul_right _ (by omega)
    have hmul:(b+1)*(2*s)=b*(2*s)+2*s:=Nat.succ_mul _ _
    have h1:((b*(2*s):Nat):Int)<256:=by omega
    have h2:isub .i64 ((2*n-b:Nat):Int) 1=((2*n-1-b:Nat):Int):=by rw [sub64 (by omega) (by omega)]; omega
    have h3:=back_l2 K r (layB r s n b z) hr (fit_layB hz) s (b*(2*s)) (2*n-1-b) hs (by omega) (by omega) s (b*(2*s)) K (by omega) (by omega) (by omega)
    rw [bfB_start] at h3
    have h4:iadd .i64 ((b*(2*s):Nat):Int) (imul .i64 2 (s:Int))=(((b+1)*(2*s):Nat):Int):=by
      rw [mul64 (by omega) (by omega),add64 (by omega) (by omega),hmul]
      omega
    simp only [kq_Back.l1,h1,if_true,h2,Option.bind_some,h3,h4]
    rw [layB_step hs hb1,show 2*n-1-b=2*n-(b+1) by omega]
    exact ih (b+1) k (by omega) (by omega)
theorem back_l0_step (K k:Nat) (hK:256<K) (r:Arr 128) (z:Arr 256) (hr:FitR r) (hz:FitK z) (s n:Nat) (hs:0<s) (hn:n*(2*s)=256) (hn2:n≤64) (hs2:s≤128) :
    kq_Back.l0 K (k+1) r ((2*n:Nat):Int) (s:Int) z=kq_Back.l0 K k r (n:Int) ((2*s:Nat):Int) (layB r s n n z):=by
  have h1:(s:Int)≤128:=by omega
  have h2:imul .i64 (s:Int) 2=((2*s:Nat):Int):=by rw [mul64 (by omega) (by omega)]; omega
  have h3:=back_l1 K hK r z hr hz s n hs hn hn2 n 0 K (by omega) (by omega)
  rw [layB_start] at h3
  simp only [Nat.sub_zero,Nat.zero_mul,Int.natCast_zero] at h3
  simp only [kq_Back.l0,h1,if_true,h3,Option.bind_some,h2]
def nttB (r:Arr 128) (a:Arr 256):Arr 256:=
  layB r 128 1 1 (layB r 64 2 2 (layB r 32 4 4 (layB r 16 8 8 (layB r 8 16 16 (layB r 4 32 32 (layB r 2 64 64 a))))))
theorem fit_nttB {r:Arr 128}{a:Arr 256}(ha:FitK a):FitK (nttB r a):=
  fit_layB (fit_layB (fit_layB (fit_layB (fit_layB (fit_layB (fit_layB ha))))))
theorem back_l0_eq (K:Nat) (hK:256<K) (r:Arr 128) (a:Arr 256) (hr:FitR r) (ha:FitK a):kq_Back.l0 K K r 128 2 a=some (nttB r a):=by
  obtain ⟨k,rfl⟩ : ∃ k,K=k+9:=⟨K-9,by omega⟩
  have f2:=fit_layB (r:=r) (s:=2) (n:=64) (b:=64) ha
  have f3:=fit_layB (r:=r) (s:=4) (n:=32) (b:=32) f2
  have f4:=fit_layB (r:=r) (s:=8) (n:=16) (b:=16) f3
  have f5:=fit_layB (r:=r) (s:=16) (n:=8) (b:=8) f4
  have f6:=fit_layB (r:=r) (s:=32) (n:=4) (b:=4) f5
  have f7:=fit_layB (r:=r) (s:=64) (n:=2) (b:=2) f6
  have e2:=back_l0_step (k+9) (k+8) hK r _ hr ha 2 64 (by decide) (by decide) (by decide) (by decide)
  have e3:=back_l0_step (k+9) (k+7) hK r _ hr f2 4 32 (by decide) (by decide) (by decide) (by decide)
  have e4:=back_l0_step (k+9) (k+6) hK r _ hr f3 8 16 (by decide) (by decide) (by decide) (by decide)
  have e5:=back_l0_step (k+9) (k+5) hK r _ hr f4 16 8 (by decide) (by decide) (by decide) (by decide)
  have e6:=back_l0_step (k+9) (k+4) hK r _ hr f5 32 4 (by decide) (by decide) (by decide) (by decide)
  have e7:=back_l0_step (k+9) (k+3) hK r _ hr f6 64 2 (by decide) (by decide) (by decide) (by decide)
  have e8:=back_l0_step (k+9) (k+2) hK r _ hr f7 128 1 (by decide) (by decide) (by decide) (by decide)
  refine (e2.trans (e3.trans (e4.trans (e5.trans (e6.trans (e7.trans (e8.trans ?_)))))))
  simp only [kq_Back.l0,show ¬ (((2*128:Nat):Int)≤128) by decide,if_false]
  rfl
def pback (a:Arr 256):Arr 256:=mapA 256 fun i=>rd (nttB rootsA a) i*3303%3329
theorem fit_pback (a:Arr 256):FitK (pback a):=fit_map fun i _=>⟨Int.emod_nonneg _ (by decide),Int.emod_lt_of_pos _ (by decide)⟩
theorem kq_Back_eq (a:Arr 256) (ha:FitK a):kq_Back.f KK a=some (pback a):=by
  unfold kq_Back.f
  rw [kq_roots_eq]
  simp only [Option.bind_some]
  rw [back_l0_eq KK (by decide) rootsA a fit_rootsA ha]
  simp only [Option.bind_some]
  have hf:=fit_nttB (r:=rootsA) ha
  rw [loop_map (n:=256) (fun k i z=>kq_Back.l3 KK k i z) (fun i x=>x*3303%3329) (nttB rootsA a) ?_ ?_ KK (by decide)]
  · rfl
  · intro k i z hi hz
    obtain ⟨h0,h1⟩:=hf i hi
    simp only [kq_Back.l3,show (i:Int)<256 by omega,show (0:Int)≤i by omega,if_true,hz,mulq h0 h1 (show (0:Int)≤3303 by decide) (show (3303:Int)<6658 by decide),Option.bind_some,add64 (x:=(i:Int)) (y:=1) (by omega) (by omega)]
    rfl
  · intro k z
    simp only [kq_Back.l3,show ¬ ((256:Nat):Int)<256 by omega,if_false]
end Go.Proofs.YtemdbgmldljbpaaGreatDoor

/- own -/
set_option linter.unusedSimpArgs false
set_option linter.unusedVariables false
set_option maxRecDepth 100000
namespace Go.Proofs.YtemdbgmldljbpaaGreatDoor
open Go Go.Mx
abbrev Q:Int:=3329
def zR (i:Nat):Int:=((17^brv7 i%3329:Nat):Int)
def gR (i:Nat):Int:=if i=0 then 1 else-zR (3*2^Nat.log2 i-1-i)
def rhoR (i:Nat):Int:=if i%2=0 then zR (i/2) else-zR (i/2)
def iotaR (i:Nat):Int:=if i%2=0 then gR (i/2) else-gR (i/2)
def omR (j:Nat):Nat:=2*brv7 j+1
theorem ck_sq:∀ i,i<128→1≤i→zR i^2%Q=rhoR i%Q:=by decide +kernel
theorem ck_io:∀ i,i<256→2≤i→iotaR i^2%Q=iotaR (i/2)%Q:=by decide +kernel
theorem ck_om:∀ j,j<128→rhoR (128+j)%Q=((17^omR j%3329:Nat):Int)%Q:=by decide +kernel
theorem ck_iom:∀ j,j<128→iotaR (128+j)%Q=((17^(256-omR j)%3329:Nat):Int)%Q:=by decide +kernel
theorem c_sq {i:Nat}(h:i<128) (h1:1≤i):Cg Q (zR i^2) (rhoR i):=.of (ck_sq i h h1)
theorem c_io {i:Nat}(h1:2≤i) (h:i<256):Cg Q (iotaR i^2) (iotaR (i/2)):=.of (ck_io i h h1)
theorem c_rho (i:Nat):Cg Q (rhoR (2*i)) (zR i)∧Cg Q (rhoR (2*i+1)) (- zR i):=by
 unfold rhoR
 rw [if_pos (by omega),if_neg (by omega),show 2*i/2=i by omega,show (2*i+1)/2=i by omega]
 exact ⟨.refl _,.refl _⟩
theorem c_iota (i:Nat):Cg Q (iotaR (2*i)) (gR i)∧Cg Q (iotaR (2*i+1)) (- gR i):=by
 unfold iotaR
 rw [if_pos (by omega),if_neg (by omega),show 2*i/2=i by omega,show (2*i+1)/2=i by omega]
 exact ⟨.refl _,.refl _⟩
theorem rd_roots {i:Nat}(h:i<128):rd rootsA (i:Nat)=zR i:=by
 unfold rootsA
 rw [rd_mapA _ _ h]
 rfl
theorem blk_div {s b i:Nat}(h:i<2*s):(b*(2*s)+i)/(2*s)=b∧(b*(2*s)+i)%(2*s)=i:=by
 have hs:0<2*s:=by omega
 rw [Nat.mul_comm b,Nat.mul_add_div hs,Nat.mul_add_mod,Nat.div_eq_of_lt h,Nat.mod_eq_of_lt h]
 exact ⟨by omega,rfl⟩
theorem blk_lt {n s b i:Nat}(hb:b<n) (h:i<2*s):b*(2*s)+i<n*(2*s):=by
 have h1:(b+1)*(2*s)≤n*(2*s):=Nat.mul_le_mul_right _ hb
 rw [Nat.add_mul] at h1
 omega
theorem layU_fwd {s n:Nat}(hs:0<s) (hn:n*(2*s)=256) (hn0:0<n) (hn2:n≤64) (z:Arr 256) :
  FwdL Q n s zR (fun j=>rd z (j:Nat)) (fun j=>rd (layU rootsA s (n-1) n z) (j:Nat)):=by
 intro b i hb hi
 have l0:=blk_lt (s:=s) (i:=i) hb (by omega)
 have l1:=blk_lt (s:=s) (i:=s+i) hb (by omega)
 obtain ⟨d0,m0⟩:=blk_div (s:=s) (b:=b) (i:=i) (by omega)
 obtain ⟨d1,m1⟩:=blk_div (s:=s) (b:=b) (i:=s+i) (by omega)
 have hr:rd rootsA ((n-1+1+b:Nat):Int)=zR (n+b):=by rw [show n-1+1+b=n+b by omega]; exact rd_roots (by omega)
 have h1:¬ s+i<s:=by omega
 unfold layU
 dsimp only
 rw [rd_mapA _ _ (show b*(2*s)+i<256 by omega),rd_mapA _ _ (show b*(2*s)+(s+i)<256 by omega),if_pos l0,if_pos l1,d0,d1,m0,m1,if_pos hi,if_neg h1,hr,
  show b*(2*s)+i+s=b*(2*s)+(s+i) by omega,show b*(2*s)+(s+i)-s=b*(2*s)+i by omega]
 exact ⟨(Cg.mod _ _).trans ((Cg.refl _).add (Cg.mod _ _)),(Cg.mod _ _).trans ((Cg.refl _).sub (Cg.mod _ _))⟩
theorem layB_bwd {s n:Nat}(hs:0<s) (hn:n*(2*s)=256) (hn2:n≤64) (hc:∀ b,b<n→gR (n+b) = - zR (2*n-1-b)) (z:Arr 256) :
  BwdL Q n s gR (fun j=>rd z (j:Nat)) (fun j=>rd (layB rootsA s n n z) (j:Nat)):=by
 intro b i hb hi
 have l0:=blk_lt (s:=s) (i:=i) hb (by omega)
 have l1:=blk_lt (s:=s) (i:=s+i) hb (by omega)
 obtain ⟨d0,m0⟩:=blk_div (s:=s) (b:=b) (i:=i) (by omega)
 obtain ⟨d1,m1⟩:=blk_div (s:=s) (b:=b) (i:=s+i) (by omega)
 have hr:rd rootsA ((2*n-1-b:Nat):Int)=zR (2*n-1-b):=rd_roots (by omega)
 have h1:¬ s+i<s:=by omega
 unfold layB
 dsimp only
 rw [rd_mapA _ _ (show b*(2*s)+i<256 by omega),rd_mapA _ _ (show b*(2*s)+(s+i)<256 by omega),if_pos l0,if_pos l1,d1,m0,m1,if_pos hi,if_neg h1,hr,
  show b*(2*s)+i+s=b*(2*s)+(s+i) by omega,show b*(2*s)+(s+i)-s=b*(2*s)+i by omega,hc b hb]
 refine ⟨Cg.mod _ _,(Cg.mod _ _).trans ⟨zR (2*n-1-b),?_⟩⟩
 unfold Q
 grind
theorem cj64:∀ b,b<64→gR (64+b) = - zR (2*64-1-b):=by decide +kernel
theorem cj32:∀ b,b<32→gR (32+b) = - zR (2*32-1-b):=by decide +kernel
theorem cj16:∀ b,b<16→gR (16+b) = - zR (2*16-1-b):=by decide +kernel
theorem cj8:∀ b,b<8→gR (8+b) = - zR (2*8-1-b):=by decide +kernel
theorem cj4:∀ b,b<4→gR (4+b) = - zR (2*4-1-b):=by decide +kernel
theorem cj2:∀ b,b<2→gR (2+b) = - zR (2*2-1-b):=by decide +kernel
theorem cj1:∀ b,b<1→gR (1+b) = - zR (2*1-1-b):=by decide +kernel
theorem fwdL_par {M:Int}{n s:Nat}{r V V':Nat→Int}(h:FwdL M n (2*s) r V V') (p:Nat) (hp:p<2):FwdL M n s r (fun j=>V (2*j+p)) (fun j=>V' (2*j+p)):=by
 intro b i hb hi
 have h1:=h b (2*i+p) hb (by omega)
 have e1:b*(2*(2*s))+(2*i+p)=2*(b*(2*s)+i)+p:=by rw [Nat.mul_add,Nat.mul_left_comm b 2 (2*s)]; omega
 have e2:b*(2*(2*s))+(2*s+(2*i+p))=2*(b*(2*s)+(s+i))+p:=by rw [Nat.mul_add,Nat.mul_left_comm b 2 (2*s)]; omega
 rw [e1,e2] at h1
 exact h1
theorem bwdL_par {M:Int}{n s:Nat}{r V V':Nat→Int}(h:BwdL M n (2*s) r V V') (p:Nat) (hp:p<2):BwdL M n s r (fun j=>V (2*j+p)) (fun j=>V' (2*j+p)):=by
 intro b i hb hi
 have h1:=h b (2*i+p) hb (by omega)
 have e1:b*(2*(2*s))+(2*i+p)=2*(b*(2*s)+i)+p:=by rw [Nat.mul_add,Nat.mul_left_comm b 2 (2*s)]; omega
 have e2:b*(2*(2*s))+(2*s+(2*i+p))=2*(b*(2*s)+(s+i))+p:=by rw [Nat.mul_add,Nat.mul_left_comm b 2 (2*s)]; omega
 rw [e1,e2] at h1
 exact h1
theorem pntt_sum (a:Arr 256) (j p:Nat) (hj:j<128) (hp:p<2):Cg Q (rd (pntt a) ((2*j+p:Nat):Int)) (sm 128 fun t=>rd a ((2*t+p:Nat):Int)*rhoR (128+j)^t):=by
 have step:∀ (n s:Nat) (z:Arr 256),0<s→n*(2*(2*s))=256→n≤64→0<n→InvF Q (fun t=>rd a ((2*t+p:Nat):Int)) rhoR n (2*s) (fun j=>rd z ((2*j+p:Nat):Int))→InvF Q (fun t=>rd a ((2*t+p:Nat):Int)) rhoR (2*n) s (fun j=>rd (layU rootsA (2*s) (n-1) n z) ((2*j+p:Nat):Int)):=
  fun n s z h0 hn h1 h2 hi=>fwd_step hi (fwdL_par (layU_fwd (s:=2*s) (n:=n) (by omega) hn h2 h1 z) p hp) (fun b hb=>c_sq (by omega) (by omega)) (fun b hb=>c_rho (n+b))
 have i0:=invF_start (M:=Q) (fun t=>rd a ((2*t+p:Nat):Int)) rhoR 128
 have i1:=step 1 64 _ (by decide) (by decide) (by decide) (by decide) i0
 have i2:=step 2 32 _ (by decide) (by decide) (by decide) (by decide) i1
 have i3:=step 4 16 _ (by decide) (by decide) (by decide) (by decide) i2
 have i4:=step 8 8 _ (by decide) (by decide) (by decide) (by decide) i3
 have i5:=step 16 4 _ (by decide) (by decide) (by decide) (by decide) i4
 have i6:=step 32 2 _ (by decide) (by decide) (by decide) (by decide) i5
 have i7:=step 64 1 _ (by decide) (by decide) (by decide) (by decide) i6
 have:=i7 j 0 hj (by decide)
 simp only [Nat.mul_one,Nat.add_zero] at this
 exact this
theorem nttB_sum (a:Arr 256) (k p:Nat) (hk:k<128) (hp:p<2):Cg Q (rd (nttB rootsA a) ((2*k+p:Nat):Int)) (sm 128 fun j=>rd a ((2*j+p:Nat):Int)*iotaR (128+j)^k):=by
 have step:∀ (n s:Nat) (z:Arr 256),0<s→(∃ l,s=2^l)→128=n*(2*s)→n*(2*(2*s))=256→n≤64→(∀ b,b<n→gR (n+b) = - zR (2*n-1-b))→InvB Q (fun t=>rd a ((2*t+p:Nat):Int)) iotaR 128 (2*n) s (fun j=>rd z ((2*j+p:Nat):Int))→InvB Q (fun t=>rd a ((2*t+p:Nat):Int)) iotaR 128 n (2*s) (fun j=>rd (layB rootsA (2*s) n n z) ((2*j+p:Nat):Int)):=
  fun n s z h0 h1 h2 h3 h4 hc hi=>bwd_step hi (bwdL_par (layB_bwd (s:=2*s) (n:=n) (by omega) h3 h4 hc z) p hp) h1 h2 (fun i h1 h2=>c_io h1 h2) (fun b hb=>c_iota (n+b))
 have i0:=invB_start (M:=Q) (fun t=>rd a ((2*t+p:Nat):Int)) iotaR 128 128
 have i1:=step 64 1 _ (by decide) ⟨0,rfl⟩ (by decide) (by decide) (by decide) cj64 i0
 have i2:=step 32 2 _ (by decide) ⟨1,rfl⟩ (by decide) (by decide) (by decide) cj32 i1
 have i3:=step 16 4 _ (by decide) ⟨2,rfl⟩ (by decide) (by decide) (by decide) cj16 i2
 have i4:=step 8 8 _ (by decide) ⟨3,rfl⟩ (by decide) (by decide) (by decide) cj8 i3
 have i5:=step 4 16 _ (by decide) ⟨4,rfl⟩ (by decide) (by decide) (by decide) cj4 i4
 have i6:=step 2 32 _ (by decide) ⟨5,rfl⟩ (by decide) (by decide) (by decide) cj2 i5
 have i7:=step 1 64 _ (by decide) ⟨6,rfl⟩ (by decide) (by decide) (by decide) cj1 i6
 have:=i7 0 k (by decide) hk
 simp only [Nat.zero_mul,Nat.zero_add] at this
 exact this
theorem fit_eq {a b:Arr 256}(ha:FitK a) (hb:FitK b) (h:∀ j:Nat,j<256→Cg Q (rd a (j:Nat)) (rd b (j:Nat))):a=b:=
 arr_ext fun i hi=>(h i hi).fit (ha i hi).1 (ha i hi).2 (hb i hi).1 (hb i hi).2
theorem fit_pntt {a:Arr 256}(ha:FitK a):FitK (pntt a):=fit_nttR ha
end Go.Proofs.YtemdbgmldljbpaaGreatDoor

/- own -/
set_option linter.unusedSimpArgs false
set_option linter.unusedVariables false
set_option maxRecDepth 100000
namespace Go.Proofs.YtemdbgmldljbpaaGreatDoor
open Go Go.Mx
theorem rd_wr2 (z:Arr 256) (i j:Nat) (v:Int) (hj:j<256):rd (wr z (i:Nat) v) (j:Nat)=if i=j then v else rd z (j:Nat):=rd_wr z i j v hj
def padd (a b:Arr 256):Arr 256:=mapA 256 fun i=>(rd a (i:Nat)+rd b (i:Nat))%3329
theorem fit_padd (a b:Arr 256):FitK (padd a b):=fit_map fun j _=>⟨Int.emod_nonneg _ (by decide),Int.emod_lt_of_pos _ (by decide)⟩
theorem fit_ksub (a b:Arr 256):FitK (ksub a b):=fit_map fun j _=>⟨Int.emod_nonneg _ (by decide),Int.emod_lt_of_pos _ (by decide)⟩
theorem kq_Add_eq (K:Nat) (hK:256<K) (a b:Arr 256) (ha:FitK a) (hb:FitK b):kq_Add.f K a b=some (padd a b):=by
 rw [kq_Add.f]
 rw [loop_map (n:=256) (fun k i z=>kq_Add.l0 K k b i z) (fun i x=>(x+rd b (i:Nat))%3329) a ?_ ?_ K hK]
 ·rfl
 ·intro k i z hi hz
  obtain ⟨x0,x1⟩:=ha i hi
  obtain ⟨y0,y1⟩:=hb i hi
  have g1:(i:Int)<256:=by omega
  have g2:(0:Int)≤i:=by omega
  have e1:iadd .i32 (rd a (i:Nat)) (rd b (i:Nat))=rd a (i:Nat)+rd b (i:Nat):=add32 (by omega) (by omega)
  have e3:=fun v=>rd_wr_same z i v hi
  have e4:iadd .i64 (i:Int) 1=((i+1:Nat):Int):=by rw [add64 (by omega) (by omega)]; rfl
  by_cases h:rd a (i:Nat)+rd b (i:Nat)≥3329
  ·have e2:isub .i32 (rd a (i:Nat)+rd b (i:Nat)) 3329=(rd a (i:Nat)+rd b (i:Nat))%3329:=by rw [sub32 (by omega) (by omega)]; omega
   simp only [kq_Add.l0,g1,g2,if_true,hz,Option.bind_some,e1,e3,h,e2,wr_wr,e4]
  ·have e2:rd a (i:Nat)+rd b (i:Nat)=(rd a (i:Nat)+rd b (i:Nat))%3329:=by omega
   simp only [kq_Add.l0,g1,g2,if_true,hz,Option.bind_some,e1,e3,h,if_false,e4]
   rw [← e2]
 ·intro k z
  simp only [kq_Add.l0,show ¬ ((256:Nat):Int)<256 by omega,if_false]
theorem ref25_Add_eq (K:Nat) (hK:256<K) (a b:Arr 256) (ha:FitK a) (hb:FitK b):ref25_Add.f K a b=some (padd a b):=by
 rw [ref25_Add.f]
 rw [loop_map (n:=256) (fun k i z=>ref25_Add.l0 K k b i z) (fun i x=>(x+rd b (i:Nat))%3329) a ?_ ?_ K hK]
 ·rfl
 ·intro k i z hi hz
  obtain ⟨x0,x1⟩:=ha i hi
  obtain ⟨y0,y1⟩:=hb i hi
  have e4:iadd .i64 (i:Int) 1=((i+1:Nat):Int):=by rw [add64 (by omega) (by omega)]; rfl
  simp only [ref25_Add.l0,show (i:Int)<256 by omega,show (0:Int)≤i by omega,if_true,hz,Option.bind_some,addq x0 x1 y0 y1,e4]
 ·intro k z
  simp only [ref25_Add.l0,show ¬ ((256:Nat):Int)<256 by omega,if_false]
theorem ref25_Sub_eq (K:Nat) (hK:256<K) (a b:Arr 256) (ha:FitK a) (hb:FitK b):ref25_Sub.f K a b=some (ksub a b):=by
 rw [ref25_Sub.f]
 rw [loop_map (n:=256) (fun k i z=>ref25_Sub.l0 K k b i z) (fun i x=>(x-rd b (i:Nat))%3329) a ?_ ?_ K hK]
 ·rfl
 ·intro k i z hi hz
  obtain ⟨x0,x1⟩:=ha i hi
  obtain ⟨y0,y1⟩:=hb i hi
  have e4:iadd .i64 (i:Int) 1=((i+1:Nat):Int):=by rw [add64 (by omega) (by omega)]; rfl
  simp only [ref25_Sub.l0,show (i:Int)<256 by omega,show (0:Int)≤i by omega,if_true,hz,Option.bind_some,subq x0 x1 y0 y1,e4]
 ·intro k z
  simp only [ref25_Sub.l0,show ¬ ((256:Nat):Int)<256 by omega,if_false]
def Zr (j:Nat):Int:=if j%2=0 then zR (64+j/2) else 3329-zR (64+j/2)
theorem ck_Z:∀ j,j<128→Zr j=((17^omR j%3329:Nat):Int):=by decide +kernel
theorem Zr_bd {j:Nat}(h:j<128):0≤Zr j∧Zr j<3329:=by
 rw [ck_Z j h]
 have:=Nat.mod_lt (17^omR j) (show 3329>0 by decide)
 omega
def evn (a b:Arr 256) (j:Nat):Int:=(rd a ((2*j:Nat):Int)*rd b ((2*j:Nat):Int)+rd a ((2*j+1:Nat):Int)*rd b ((2*j+1:Nat):Int)%3329*Zr j)%3329
def odd (a b:Arr 256) (j:Nat):Int:=(rd a ((2*j:Nat):Int)*rd b ((2*j+1:Nat):Int)+rd a ((2*j+1:Nat):Int)*rd b ((2*j:Nat):Int))%3329
def pmul (a b:Arr 256):Arr 256:=mapA 256 fun i=>if i%2=0 then evn a b (i/2) else odd a b (i/2)
theorem fit_pmul (a b:Arr 256):FitK (pmul a b):=fit_map fun j _=>by
 split
 ·exact ⟨Int.emod_nonneg _ (by decide),Int.emod_lt_of_pos _ (by decide)⟩
 ·exact ⟨Int.emod_nonneg _ (by decide),Int.emod_lt_of_pos _ (by decide)⟩
theorem mul2_bd {x y u v:Int}(x0:0≤x) (x1:x<3329) (y0:0≤y) (y1:y<3329) (u0:0≤u) (u1:u<3329) (v0:0≤v) (v1:v<3329):irem .i32 (iadd .i32 (imul .i32 x y) (imul .i32 u v)) 3329=(x*y+u*v)%3329:=by
 obtain ⟨h0,h1⟩:=mulq_bd x0 x1 y0 (by omega)
 obtain ⟨h2,h3⟩:=mulq_bd u0 u1 v0 (by omega)
 rw [mul32 (x:=x) (by omega) (by omega),mul32 (x:=u) (by omega) (by omega),add32 (by omega) (by omega)]
 unfold irem
 rw [tmodN (by omega)]
theorem pair_eq (K:Nat) (a b:Arr 256) (ha:FitK a) (hb:FitK b) (j:Nat) (hj:j<128):kq_pair_times.f K (rd a ((2*j:Nat):Int)) (rd a ((2*j+1:Nat):Int)) (rd b ((2*j:Nat):Int)) (rd b ((2*j+1:Nat):Int)) (Zr j)=some (evn a b j,odd a b j):=by
 obtain ⟨x0,x1⟩:=ha (2*j) (by omega)
 obtain ⟨y0,y1⟩:=ha (2*j+1) (by omega)
 obtain ⟨u0,u1⟩:=hb (2*j) (by omega)
 obtain ⟨v0,v1⟩:=hb (2*j+1) (by omega)
 obtain ⟨z0,z1⟩:=Zr_bd hj
 unfold kq_pair_times.f evn odd
 rw [mulq y0 y1 v0 (by omega),mul2_bd x0 x1 u0 u1 (Int.emod_nonneg _ (by decide)) (Int.emod_lt_of_pos _ (by decide)) z0 z1,mul2_bd x0 x1 v0 v1 y0 y1 u0 u1]
theorem rd_pmul0 (a b:Arr 256) {j:Nat}(hj:j<128):rd (pmul a b) ((2*j:Nat):Int)=evn a b j:=by
 unfold pmul
 rw [rd_mapA _ _ (by omega),if_pos (by omega),show 2*j/2=j by omega]
theorem rd_pmul1 (a b:Arr 256) {j:Nat}(hj:j<128):rd (pmul a b) ((2*j+1:Nat):Int)=odd a b j:=by
 unfold pmul
 rw [rd_mapA _ _ (by omega),if_neg (by omega),show (2*j+1)/2=j by omega]
theorem kq_Mul_l0 (K:Nat) (a b:Arr 256) (ha:FitK a) (hb:FitK b):∀ (d m k:Nat) (z:Arr 256),m+d=64→d<k→(∀ i,i<4*m→rd z (i:Nat)=rd (pmul a b) (i:Nat))→kq_Mul.l0 K k a b rootsA ((4*m:Nat):Int) z=some (pmul a b):=by
 intro d
 induction d with
 | zero=>
  intro m k z hm hk hz
  obtain ⟨k,rfl⟩ : ∃ m,k=m+1:=⟨k-1,by omega⟩
  obtain rfl:m=64:=by omega
  simp only [kq_Mul.l0,show ¬ ((4*64:Nat):Int)<256 by omega,if_false]
  exact congrArg some (arr_ext fun i hi=>hz i hi)
 | succ d ih=>
  intro m k z hm hk hz
  obtain ⟨k,rfl⟩ : ∃ m,k=m+1:=⟨k-1,by omega⟩
  have g0:((4*m:Nat):Int)<256:=by omega
  have g00:(0:Int)≤((4*m:Nat):Int):=by omega
  have e1:iadd .i64 64 (iquo .i64 ((4*m:Nat):Int) 4)=((64+m:Nat):Int):=by
   unfold iquo
   rw [tdivN (by omega),id64 (by omega) (by omega),add64 (by omega) (by omega)]
   omega
  have g1:(0:Int)≤((64+m:Nat):Int):=by omega
  have g2:((64+m:Nat):Int)<128:=by omega
  have hr:rd rootsA ((64+m:Nat):Int)=zR (64+m):=rd_roots (by omega)
  have i1:iadd .i64 ((4*m:Nat):Int) 1=((4*m+1:Nat):Int):=by rw [add64 (by omega) (by omega)]; omega
  have i2:iadd .i64 ((4*m:Nat):Int) 2=((4*m+2:Nat):Int):=by rw [add64 (by omega) (by omega)]; omega
  have i3:iadd .i64 ((4*m:Nat):Int) 3=((4*m+3:Nat):Int):=by rw [add64 (by omega) (by omega)]; omega
  have i4:iadd .i64 ((4*m:Nat):Int) 4=((4*(m+1):Nat):Int):=by rw [add64 (by omega) (by omega)]; omega
  have p0:=pair_eq K a b ha hb (2*m) (by omega)
  have p1:=pair_eq K a b ha hb (2*m+1) (by omega)
  have z0:Zr (2*m)=zR (64+m):=by unfold Zr; rw [if_pos (by omega),show 2*m/2=m by omega]
  have z1:isub .i32 3329 (zR (64+m))=Zr (2*m+1):=by
   have hb:=Zr_bd (j:=2*m) (by omega)
   rw [z0] at hb
   rw [sub32 (by omega) (by omega)]
   unfold Zr
   rw [if_neg (by omega),show (2*m+1)/2=m by omega]
  rw [z0,show 2*(2*m)=4*m by omega] at p0
  rw [show 2*(2*m+1)=4*m+2 by omega,show 4*m+2+1=4*m+3 by omega] at p1
  simp only [kq_Mul.l0,g0,g00,if_true,e1,Option.bind_some,g1,g2,hr,i1,i2,i3,i4,show (0:Int)≤((4*m+1:Nat):Int) by omega,show ((4*m+1:Nat):Int)<256 by omega,show (0:Int)≤((4*m+2:Nat):Int) by omega,show ((4*m+2:Nat):Int)<256 by omega,
   show (0:Int)≤((4*m+3:Nat):Int) by omega,show ((4*m+3:Nat):Int)<256 by omega,p0,z1,p1]
  refine ih (m+1) k _ (by omega) (by omega) fun i hi=>?_
  have q0:=rd_pmul0 a b (j:=2*m) (by omega)
  have q1:=rd_pmul1 a b (j:=2*m) (by omega)
  have q2:=rd_pmul0 a b (j:=2*m+1) (by omega)
  have q3:=rd_pmul1 a b (j:=2*m+1) (by omega)
  rw [show 2*(2*m)=4*m by omega] at q0 q1
  rw [show 2*(2*m+1)=4*m+2 by omega] at q2 q3
  rw [rd_wr2 _ _ _ _ (by omega),rd_wr2 _ _ _ _ (by omega),rd_wr2 _ _ _ _ (by omega),rd_wr2 _ _ _ _ (by omega)]
  by_cases h3:4*m+3=i
  ·rw [if_pos h3,← h3,← q3]
  rw [if_neg h3]
  by_cases h2:4*m+2=i
  ·rw [if_pos h2,← h2,← q2]
  rw [if_neg h2]
  by_cases h1:4*m+1=i
  ·rw [if_pos h1,← h1,← q1]
  rw [if_neg h1]
  by_cases h0:4*m=i
  ·rw [if_pos h0,← h0,← q0]
  rw [if_neg h0]
  exact hz i (by omega)
theorem kq_Mul_eq (a b:Arr 256) (ha:FitK a) (hb:FitK b):kq_Mul.f KK a b=some (pmul a b):=by
 unfold kq_Mul.f
 rw [kq_roots_eq,Option.bind_some]
 have:=kq_Mul_l0 KK a b ha hb 64 0 KK (zeroA 256) (by omega) (by decide) (fun i hi=>by omega)
 rw [show ((4*0:Nat):Int)=0 from rfl] at this
 rw [this]
 rfl
theorem fit_eq2 {a b:Arr 256}(ha:FitK a) (hb:FitK b) (h:∀ j p:Nat,j<128→p<2→Cg Q (rd a ((2*j+p:Nat):Int)) (rd b ((2*j+p:Nat):Int))):a=b:=
 fit_eq ha hb fun i hi=>by
  have:=h (i/2) (i%2) (by omega) (by omega)
  rwa [show 2*(i/2)+i%2=i by omega] at this
theorem fit_zero:FitK (zeroA 256):=fun i hi=>by
 rw [rd_zeroA _ hi]; omega
end Go.Proofs.YtemdbgmldljbpaaGreatDoor
