/- own -/
import Derived.Test.YtemdbgmldljbpaaGreatDoorUg
import Derived.Test.YtemdbgmldljbpaaGreatDoorKy
set_option linter.unusedSimpArgs false
set_option linter.unusedVariables false
set_option maxRecDepth 100000
namespace Go.Proofs.YtemdbgmldljbpaaGreatDoor
open Go Go.Mx
theorem app_list {T R:Type}(L:Nat→Int→List T→Option R) (n:Nat) (f:Nat→T) (g:List T→R) (hend:∀ k z,L (k+1) (n:Int) z=some (g z))
  (hstep:∀ (k i:Nat) (z:List T),i<n→z.length=i→L (k+1) (i:Int) z=L k ((i+1:Nat):Int) (z++[f i])) :
  ∀ (m i k:Nat),i+m=n→m<k→L k (i:Int) ((List.range i).map f)=some (g ((List.range n).map f)):=by
 intro m
 induction m with
 | zero=>
  intro i k hi hk
  obtain ⟨k,rfl⟩ : ∃ q,k=q+1:=⟨k-1,by omega⟩
  rw [show i=n by omega,hend]
 | succ m ih=>
  intro i k hi hk
  obtain ⟨k,rfl⟩ : ∃ q,k=q+1:=⟨k-1,by omega⟩
  have ih1:=ih (i+1) k (by omega) (by omega)
  rw [List.range_succ,List.map_append] at ih1
  rw [hstep k i _ (by omega) (by rw [List.length_map,List.length_range])]
  exact ih1
theorem app0 {T R:Type}(L:Nat→Int→List T→Option R) (n:Nat) (f:Nat→T) (g:List T→R) (hend:∀ k z,L (k+1) (n:Int) z=some (g z))
  (hstep:∀ (k i:Nat) (z:List T),i<n→z.length=i→L (k+1) (i:Int) z=L k ((i+1:Nat):Int) (z++[f i])) (K:Nat) (hK:n<K):L K 0 []=some (g ((List.range n).map f)):=
 app_list L n f g hend hstep n 0 K (by omega) hK
theorem rRow {k e:Nat}(hk:k≤100) (he:e=2∨e=3) {s:List Int}(ls:s.length≤300) {first:Nat}(hf:first≤100):ref26_row.f 60000 (k:Int) (e:Int) s (first:Int)=some (nsV k e s first):=by
 have h:=app0 (fun q i z=>ref26_row.l0 60000 q (k:Int) (e:Int) s (first:Int) i z) k (fun i=>noiV (absV 7 (zeroA 25,0) false (s++[((first+i:Nat):Int)])) e) id (fun q z=>by
   have c:¬ (k:Int)<(k:Int):=by omega
   simp only [ref26_row.l0,c,if_false,id]) (fun q i z hi hl=>by
   have c:(i:Int)<(k:Int):=by omega
   have ea:iconv .u8 (iadd .i64 (first:Int) (i:Int))=((first+i:Nat):Int):=by
    rw [show iadd .i64 (first:Int) (i:Int)=((first+i:Nat):Int) by rw [add64 (by omega) (by omega)]; omega,cvu8 (by omega)]
   have hn:=rNoise ls he ((first+i:Nat):Int)
   generalize noiV (absV 7 (zeroA 25,0) false (s++[((first+i:Nat):Int)])) e=v at hn ⊢
   have c1:z.length+([v]:PL).length≤137438953472:=by show z.length+1≤_; omega
   simp only [ref26_row.l0,c,ea,hn,c1,ginc (i:=i) (by omega),if_true,Option.bind_some]) 60000 (by omega)
 have h':ref26_row.l0 60000 60000 (k:Int) (e:Int) s (first:Int) 0 []=some (nsV k e s first):=h
 unfold ref26_row.f
 rw [h']
 rfl
theorem rNtt {v:PL}(hv:FL v) (lv:v.length≤1000):ref26_ntt.f 60000 v=some (ntV v):=by
 have h:=app0 (fun q i z=>ref26_ntt.l0 60000 q v i z) v.length (fun i=>pntt (v.getD i (zeroA 256))) id (fun q z=>by
   have c:¬ ((v.length:Nat):Int)<((v.length:Nat):Int):=by omega
   simp only [ref26_ntt.l0,c,if_false,id]) (fun q i z hi hl=>by
   have c:(i:Int)<((v.length:Nat):Int):=by omega
   have c0:(0:Int)≤(i:Int):=by omega
   have hn:ref25_Ntt.f 60000 v[i]=some (pntt v[i]):=ref25_Ntt_eq v[i] (hv _ (List.getElem_mem hi))
   rw [getD_mem hi]
   generalize pntt v[i]=p at hn ⊢
   have c1:z.length+([p]:PL).length≤137438953472:=by show z.length+1≤_; omega
   simp only [ref26_ntt.l0,c,c0,c1,rdP hi,hn,ginc (i:=i) (by omega),if_true,Option.bind_some]) 60000 (by omega)
 have h':ref26_ntt.l0 60000 60000 v 0 []=some ((List.range v.length).map (fun i=>pntt (v.getD i (zeroA 256)))):=h
 unfold ref26_ntt.f
 rw [h',map_range v pntt v.length rfl]
 rfl
theorem rDot_l0 {v w:PL}(hv:FL v) (hw:FL w) (hl:v.length≤w.length) (lv:v.length≤1000):∀ (m i k:Nat) (s:Arr 256),i+m=v.length→m<k→FitK s →
  ref26_dot.l0 60000 k v w (i:Int) s=some (dotF (v.drop i) (w.drop i) s):=by
 intro m
 induction m with
 | zero=>
  intro i k s hi hk hs
  obtain ⟨k,rfl⟩ : ∃ q,k=q+1:=⟨k-1,by omega⟩
  have c:¬ (i:Int)<((v.length:Nat):Int):=by omega
  rw [List.drop_of_length_le (show v.length≤i by omega)]
  simp only [ref26_dot.l0,c,if_false]
  rfl
 | succ m ih=>
  intro i k s hi hk hs
  obtain ⟨k,rfl⟩ : ∃ q,k=q+1:=⟨k-1,by omega⟩
  have hi1:i<v.length:=by omega
  have hi2:i<w.length:=by omega
  have c:(i:Int)<((v.length:Nat):Int):=by omega
  have c0:(0:Int)≤(i:Int):=by omega
  have c1:(i:Int)<((w.length:Nat):Int):=by omega
  have hm:ref25_Mul.f 60000 v[i] w[i]=some (pmul v[i] w[i]):=ref25_Mul_eq _ _ (hv _ (List.getElem_mem hi1)) (hw _ (List.getElem_mem hi2))
  have ha:=ref25_Add_eq 60000 (by decide) s (pmul v[i] w[i]) hs (fit_pmul _ _)
  rw [List.drop_eq_getElem_cons hi1,List.drop_eq_getElem_cons hi2]
  simp only [ref26_dot.l0,c,c0,c1,rdP hi1,rdP hi2,hm,ha,ginc (i:=i) (by omega),if_true,Option.bind_some]
  exact ih (i+1) k _ (by omega) (by omega) (fit_padd _ _)
theorem rDot {v w:PL}(hv:FL v) (hw:FL w) (hl:v.length≤w.length) (lv:v.length≤1000):ref26_dot.f 60000 v w=some (dotF v w (zeroA 256)):=by
 have h:=rDot_l0 hv hw hl lv v.length 0 60000 (zeroA 256) (by omega) (by omega) fit_zero
 have h':ref26_dot.l0 60000 60000 v w 0 (zeroA 256)=some (dotF v w (zeroA 256)):=h
 unfold ref26_dot.f
 rw [h']
 rfl
def rowR (r:Option PL):PL ⊕ (List PL × Int):=match r with
 | some r=>.inl r
 | none=>.inr ([],12)
theorem rMat_l1 {rho:List Int}(lr:rho.length≤300) {k0 i:Nat}(hk0:k0≤100) (hi:i<k0):∀ (m j k:Nat) (acc:PL),j+m=k0→m<k→acc.length≤1000+j →
  ref26_matrix_s.l1 60000 k (k0:Int) rho (i:Int) (j:Int) acc=some (rowR (rowF (pt rho i) m j acc)):=by
 intro m
 induction m with
 | zero=>
  intro j k acc hj hk ha
  obtain ⟨k,rfl⟩ : ∃ q,k=q+1:=⟨k-1,by omega⟩
  have c:¬ (j:Int)<(k0:Int):=by omega
  simp only [ref26_matrix_s.l1,c,if_false]
  rfl
 | succ m ih=>
  intro j k acc hj hk ha
  obtain ⟨k,rfl⟩ : ∃ q,k=q+1:=⟨k-1,by omega⟩
  have c:(j:Int)<(k0:Int):=by omega
  have hp:=rParts (i:=(i:Int)) (j:=(j:Int)) lr
  have hp':ref26_Parts.f 60000 rho (i:Int) (j:Int)=some (pt rho i j):=hp
  have g2:=pt_good rho i j
  have er:rowF (pt rho i) (m+1) j acc=if (pt rho i j).2=0 then rowF (pt rho i) m (j+1) (acc++[(pt rho i j).1]) else none:=rfl
  rw [er]
  generalize pt rho i j=v at hp' g2 ⊢
  obtain ⟨va,vb⟩:=v
  have c2:acc.length+([va]:PL).length≤137438953472:=by
   show acc.length+1≤_
   omega
  by_cases h0:vb=0
  ·simp only [ref26_matrix_s.l1,c,cvu8 (show i<256 by omega),cvu8 (show j<256 by omega),hp',h0,c2,ginc (i:=j) (by omega),if_true,Option.bind_some]
   exact ih (j+1) k _ (by omega) (by omega) (by rw [List.length_append]; show acc.length+1≤_; omega)
  ·have h12:vb=12:=by
    rcases g2.2 with h | h
    ·exact absurd h h0
    ·exact h
   simp only [ref26_matrix_s.l1,c,cvu8 (show i<256 by omega),cvu8 (show j<256 by omega),hp',h0,if_true,if_false,Option.bind_some,h12]
   rfl
theorem rMat_l0 {rho:List Int}(lr:rho.length≤300) {k0:Nat}(hk0:k0≤100):∀ (m i k:Nat) (acc:List PL),i+m=k0→m<k→acc.length=i →
  ref26_matrix_s.l0 60000 k (k0:Int) rho (i:Int) acc=some (match matF (pt rho) k0 m i acc with
   | some M=>.inl M
   | none=>.inr ([],12)):=by
 intro m
 induction m with
 | zero=>
  intro i k acc hi hk ha
  obtain ⟨k,rfl⟩ : ∃ q,k=q+1:=⟨k-1,by omega⟩
  have c:¬ (i:Int)<(k0:Int):=by omega
  simp only [ref26_matrix_s.l0,c,if_false]
  rfl
 | succ m ih=>
  intro i k acc hi hk ha
  obtain ⟨k,rfl⟩ : ∃ q,k=q+1:=⟨k-1,by omega⟩
  have c:(i:Int)<(k0:Int):=by omega
  have h:=rMat_l1 lr hk0 (show i<k0 by omega) k0 0 60000 [] (by omega) (by omega) (by show 0≤_; omega)
  have h':ref26_matrix_s.l1 60000 60000 (k0:Int) rho (i:Int) 0 []=_:=h
  have er:matF (pt rho) k0 (m+1) i acc=match rowF (pt rho i) k0 0 [] with | some r=>matF (pt rho) k0 m (i+1) (acc++[r]) | none=>none:=rfl
  rw [er]
  generalize rowF (pt rho i) k0 0 []=R at h' ⊢
  cases R with
  | none=>
   simp only [ref26_matrix_s.l0,c,h',if_true,Option.bind_some]
   rfl
  | some r=>
   have c2:acc.length+1≤5864062014805:=by omega
   have i1:=ih (i+1) k (acc++[r]) (by omega) (by omega) (by rw [List.length_append,ha]; rfl)
   simp only [ref26_matrix_s.l0,c,h',if_true,Option.bind_some,ginc (i:=i) (by omega)]
   show (if acc.length+1≤5864062014805 then _ else none)=_
   rw [if_pos c2]
   exact i1
theorem rMat {rho:List Int}(lr:rho.length≤300) {k0:Nat}(hk0:k0≤100) (a b c d:Int):ref26_matrix_s.f 60000 (k0:Int) a b c d rho=some (matO (matF (pt rho) k0 k0 0 [])):=by
 have h:=rMat_l0 lr hk0 k0 0 60000 [] (by omega) (by omega) rfl
 have h':ref26_matrix_s.l0 60000 60000 (k0:Int) rho 0 []=_:=h
 unfold ref26_matrix_s.f
 rw [h']
 cases matF (pt rho) k0 k0 0 [] with
 | some M=>rfl
 | none=>rfl
theorem rRead_l0 {b:List Int}(hb:Byt b) {d k0:Nat}(hd:d≤12) (hk0:k0≤100) (lb:k0*(32*d)≤b.length) (lb2:b.length≤100000):∀ (m i k:Nat) (acc:PL),i+m=k0→m<k→acc.length=i →
  ref26_read.l0 60000 k b (k0:Int) (d:Int) (i:Int) acc=some (if (rdV b d (32*d) m i acc).2=true then .inl (rdV b d (32*d) m i acc).1 else .inr ([],false)):=by
 intro m
 induction m with
 | zero=>
  intro i k acc hi hk ha
  obtain ⟨k,rfl⟩ : ∃ q,k=q+1:=⟨k-1,by omega⟩
  have c:¬ (i:Int)<(k0:Int):=by omega
  simp only [ref26_read.l0,c,if_false]
  rfl
 | succ m ih=>
  intro i k acc hi hk ha
  obtain ⟨k,rfl⟩ : ∃ q,k=q+1:=⟨k-1,by omega⟩
  have c:(i:Int)<(k0:Int):=by omega
  have b1:i*(32*d)≤100*384:=Nat.mul_le_mul (by omega) (by omega)
  have b2:(i+1)*(32*d)≤k0*(32*d):=Nat.mul_le_mul (by omega) (Nat.le_refl _)
  have b3:i*(32*d)≤(i+1)*(32*d):=Nat.mul_le_mul (by omega) (Nat.le_refl _)
  have em:imul .i64 32 (d:Int)=((32*d:Nat):Int):=by unfold imul; rw [id64 (by omega) (by omega)]; omega
  have m1:imul .i64 (imul .i64 32 (d:Int)) (i:Int)=((i*(32*d):Nat):Int):=by
   rw [em]
   unfold imul
   rw [← Int.natCast_mul,Nat.mul_comm,id64 (by omega) (by omega)]
  have m2:imul .i64 (imul .i64 32 (d:Int)) ((i+1:Nat):Int)=(((i+1)*(32*d):Nat):Int):=by
   rw [em]
   unfold imul
   rw [← Int.natCast_mul,Nat.mul_comm,id64 (by omega) (by omega)]
  have c0:(0:Int)≤((i*(32*d):Nat):Int):=by omega
  have c1:((i*(32*d):Nat):Int)≤(((i+1)*(32*d):Nat):Int):=by omega
  have c2:(((i+1)*(32*d):Nat):Int)≤((b.length:Nat):Int):=by omega
  have hu:=ref25_Unpack_eq 60000 (by decide) (subL b ((i*(32*d):Nat):Int) (((i+1)*(32*d):Nat):Int)) (byt_sub hb _ _) (d:Int)
  have er:rdV b d (32*d) (m+1) i acc=if (unpV (subL b ((i*(32*d):Nat):Int) (((i+1)*(32*d):Nat):Int)) (d:Int)).2=true then rdV b d (32*d) m (i+1) (acc++[(unpV (subL b ((i*(32*d):Nat):Int) (((i+1)*(32*d):Nat):Int)) (d:Int)).1]) else ([],false):=rfl
  rw [er]
  generalize unpV (subL b ((i*(32*d):Nat):Int) (((i+1)*(32*d):Nat):Int)) (d:Int)=u at hu ⊢
  obtain ⟨ua,ub⟩:=u
  have c3:acc.length+([ua]:PL).length≤137438953472:=by show acc.length+1≤_; omega
  simp only [ref26_read.l0,c,ginc (i:=i) (by omega),m1,m2,c0,c1,c2,c3,hu,if_true,Option.bind_some]
  cases ub with
  | true=>
   simp only [if_true]
   exact ih (i+1) k _ (by omega) (by omega) (by rw [List.length_append,ha]; rfl)
  | false=>simp only [Bool.false_eq_true,if_false]
theorem rRead {b:List Int}(hb:Byt b) {d k0:Nat}(hd:d≤12) (hk0:k0≤100) (lb:k0*(32*d)≤b.length) (lb2:b.length≤100000):ref26_read.f 60000 b (k0:Int) (d:Int)=some (rdV b d (32*d) k0 0 []):=by
 have h:=rRead_l0 hb hd hk0 lb lb2 k0 0 60000 [] (by omega) (by omega) rfl
 have hf:∀ (m i:Nat) (acc:PL),(rdV b d (32*d) m i acc).2=false→rdV b d (32*d) m i acc=([],false):=fun m=>by
  induction m with
  | zero=>intro i acc h; cases h
  | succ m ih=>
   intro i acc h
   unfold rdV at h ⊢
   split
   next hc=>rw [if_pos hc] at h; exact ih _ _ h
   next=>rfl
 unfold ref26_read.f
 have h':ref26_read.l0 60000 60000 b (k0:Int) (d:Int) 0 []=_:=h
 rw [h']
 have hf':=hf k0 0 []
 generalize rdV b d (32*d) k0 0 []=r at hf' ⊢
 obtain ⟨ra,rb⟩:=r
 cases rb with
 | true=>rfl
 | false=>
  rw [hf' rfl]
  rfl
end Go.Proofs.YtemdbgmldljbpaaGreatDoor

/- own -/
set_option linter.unusedSimpArgs false
set_option linter.unusedVariables false
set_option maxRecDepth 100000
namespace Go.Proofs.YtemdbgmldljbpaaGreatDoor
open Go Go.Mx
theorem unpV12 {b:List Int}(h:(unpV b 12).2=true):FitK (unpV b 12).1:=by
 unfold unpV at h ⊢
 by_cases c:(1:Int)≤12∧(12:Int)≤12∧((b.length:Nat):Int)=32*12
 ·rw [if_pos c] at h ⊢
  have e:(12:Int).toNat=12:=rfl
  rw [e] at h ⊢
  generalize dig 12 256 (NB b)=l at h ⊢
  unfold outU at h ⊢
  rw [if_pos (rfl:(12:Nat)=12)] at h ⊢
  by_cases c2:allA (belowB 3329) (unp l)=true
  ·rw [if_pos c2]
   exact bel_of c2
  ·rw [if_neg c2] at h
   cases h
 ·rw [if_neg c] at h
  cases h
theorem rdV12 {b:List Int} : ∀ (m i:Nat) (acc:PL),(rdV b 12 (32*12) m i acc).2=true→FL acc→FL (rdV b 12 (32*12) m i acc).1∧(rdV b 12 (32*12) m i acc).1.length=acc.length+m
 | 0,i,acc,_,ha=>⟨ha,rfl⟩
 | m+1,i,acc,h,ha=>by
  unfold rdV at h ⊢
  split at h
  next hc=>
   rw [if_pos hc]
   have u:=unpV12 hc
   have ih:=rdV12 m (i+1) _ h (fun a hh=>by
    rcases List.mem_append.1 hh with q | q
    ·exact ha a q
    ·rw [List.mem_singleton.1 q]; exact u)
   refine ⟨ih.1,?_⟩
   rw [ih.2,List.length_append]
   show acc.length+1+m=_
   omega
  next=>cases h
theorem padd_comm (a b:Arr 256):padd a b=padd b a:=by
 unfold padd
 congr 1
 funext i
 rw [Int.add_comm]
def matG (G:Nat→Nat→Arr 256) (k:Nat):List PL:=(List.range k).map fun p=>(List.range k).map fun q=>G p q
theorem rowF_eq {g:Nat→Arr 256 × Int} : ∀ (m j:Nat) (acc r:PL),rowF g m j acc=some r→r=acc++(List.range' j m).map fun q=>(g q).1
 | 0,j,acc,r,h=>by
  cases h
  simp
 | m+1,j,acc,r,h=>by
  unfold rowF at h
  split at h
  ·have ih:=rowF_eq m (j+1) _ r h
   rw [ih,List.append_assoc,List.range'_succ,List.map_cons]
   rfl
  ·cases h
theorem matF_eq {g:Nat→Nat→Arr 256 × Int}{k:Nat} : ∀ (m i:Nat) (acc M:List PL),matF g k m i acc=some M→M=acc++(List.range' i m).map fun p=>(List.range k).map fun q=>(g p q).1
 | 0,i,acc,M,h=>by
  cases h
  simp
 | m+1,i,acc,M,h=>by
  unfold matF at h
  cases hr:rowF (g i) k 0 [] with
  | none=>rw [hr] at h; cases h
  | some r=>
   rw [hr] at h
   have ih:=matF_eq m (i+1) _ M h
   have er:=rowF_eq k 0 [] r hr
   rw [List.nil_append,← List.range_eq_range'] at er
   rw [ih,List.append_assoc,List.range'_succ,List.map_cons,er]
   rfl
theorem matF_G {g:Nat→Nat→Arr 256 × Int}{k:Nat}{M:List PL}(h:matF g k k 0 []=some M):M=matG (fun p q=>(g p q).1) k:=by
 have e:=matF_eq k 0 [] M h
 rw [List.nil_append,← List.range_eq_range'] at e
 exact e
theorem matG_len (G:Nat→Nat→Arr 256) (k:Nat):(matG G k).length=k:=by simp [matG]
theorem matG_get (G:Nat→Nat→Arr 256) {k i:Nat}(h:i<k):(matG G k)[i]'(by rw [matG_len]; exact h)=(List.range k).map fun q=>G i q:=by simp [matG]
theorem rdLL_G (G:Nat→Nat→Arr 256) {k i:Nat}(h:i<k):rdLL (matG G k) (i:Int)=(List.range k).map fun q=>G i q:=by
 rw [rdLLg (by rw [matG_len]; exact h),matG_get G h]
theorem rdRow (f:Nat→Arr 256) {k j:Nat}(h:j<k):rdL CP ((List.range k).map f) (j:Int)=f j:=by
 rw [rdP (by simpa using h)]
 simp
theorem app_bytes {R:Type}(L:Nat→Int→List Int→List Int→Option R) (n:Nat) (U V:Nat→Arr 256) (d1 d2:Int) (g:List Int→List Int→R) (hend:∀ k a b,L (k+1) (n:Int) a b=some (g a b))
  (hstep:∀ (k i:Nat) (a b:List Int),i<n→a.length≤384*i→b.length≤384*i→L (k+1) (i:Int) a b=L k ((i+1:Nat):Int) (a++packV (U i) d1) (b++packV (V i) d2)) :
  ∀ (m i k:Nat),i+m=n→m<k→L k (i:Int) (pkV ((List.range i).map U) d1) (pkV ((List.range i).map V) d2)=some (g (pkV ((List.range n).map U) d1) (pkV ((List.range n).map V) d2)):=by
 have hl:∀ (W:Nat→Arr 256) (d:Int) (i:Nat),(pkV ((List.range i).map W) d).length≤384*i:=fun W d i=>by
  induction i with
  | zero=>exact Nat.le_refl 0
  | succ i ih=>
   have p:=packV_len (W i) d
   have e:pkV ((List.range (i+1)).map W) d=pkV ((List.range i).map W) d++packV (W i) d:=by
    unfold pkV
    rw [List.range_succ,List.map_append,List.flatMap_append]
    simp
   rw [e,List.length_append]
   omega
 have he:∀ (W:Nat→Arr 256) (d:Int) (i:Nat),pkV ((List.range (i+1)).map W) d=pkV ((List.range i).map W) d++packV (W i) d:=fun W d i=>by
  unfold pkV
  rw [List.range_succ,List.map_append,List.flatMap_append]
  simp
 intro m
 induction m with
 | zero=>
  intro i k hi hk
  obtain ⟨k,rfl⟩ : ∃ q,k=q+1:=⟨k-1,by omega⟩
  rw [show i=n by omega,hend]
 | succ m ih=>
  intro i k hi hk
  obtain ⟨k,rfl⟩ : ∃ q,k=q+1:=⟨k-1,by omega⟩
  rw [hstep k i _ _ (by omega) (hl _ _ _) (hl _ _ _),← he,← he]
  exact ih (i+1) k (by omega) (by omega)
theorem rEnc_l1 (G:Nat→Nat→Arr 256) {k i:Nat}(hk:k≤100) (hi:i<k):ref26_Encrypt.l1 60000 60000 (k:Int) (matG G k) (i:Int) 0 []=some ((List.range k).map fun j=>G j i):=by
 have h:=app0 (fun q j z=>ref26_Encrypt.l1 60000 q (k:Int) (matG G k) (i:Int) j z) k (fun j=>G j i) id (fun q z=>by
   have c:¬ (k:Int)<(k:Int):=by omega
   simp only [ref26_Encrypt.l1,c,if_false,id]) (fun q j z hj hl=>by
   have c:(j:Int)<(k:Int):=by omega
   have c0:(0:Int)≤(j:Int):=by omega
   have c1:(j:Int)<(((matG G k).length:Nat):Int):=by rw [matG_len]; exact c
   have c2:(0:Int)≤(i:Int):=by omega
   have e1:=rdLL_G G hj
   have c3:(i:Int)<(((rdLL (matG G k) (j:Int)).length:Nat):Int):=by rw [e1,List.length_map,List.length_range]; omega
   have e2:rdL CP (rdLL (matG G k) (j:Int)) (i:Int)=G j i:=by rw [e1,rdRow _ hi]
   have c4:z.length+([G j i]:PL).length≤137438953472:=by show z.length+1≤_; omega
   simp only [ref26_Encrypt.l1,c,c0,c1,c2,c3,e2,c4,ginc (i:=j) (by omega),if_true,Option.bind_some]) 60000 (by omega)
 exact h
theorem renc_step {L1:Option PL}{Dt:PL→PL→Option (Arr 256)}{Bk Sq:Arr 256→Option (Arr 256)}{Ad:Arr 256→Arr 256→Option (Arr 256)}{Pk:Arr 256→Option (List Int)}{L:Int→List Int→Option (List Int)}{k i:Nat}{n2 y col:PL}{out p:List Int}{d b ad s:Arr 256}(hi:i<k) (hk:k≤100) (h1:L1=some col) (l2:n2.length=k) (hd:Dt col y=some d) (hb:Bk d=some b) (ha:Ad b (n2[i]'(by omega))=some ad) (hs:Sq ad=some s) (hp:Pk s=some p) (ho:out.length+p.length≤140737488355328) :
  (if (i:Int)<(k:Int) then (L1.bind fun y22=>((if 0≤(i:Int) then (if (i:Int)<n2.length then ((Dt y22 y).bind fun r29=>(Bk r29).bind fun r30=>(Ad r30 (rdL (CA .i32 256 (by decide)) n2 (i:Int))).bind fun r31=>some r31) else none) else none:Option ((Arr 256)))).bind fun y28=>(Sq y28).bind fun r42=>(Pk r42).bind fun r43=>if out.length+r43.length≤140737488355328 then ((some (iadd .i64 (i:Int) 1)).bind fun x45=>L x45 (out++r43)) else none) else (some out))=L ((i+1:Nat):Int) (out++p):=by
 have c:(i:Int)<(k:Int):=by omega
 have c0:(0:Int)≤(i:Int):=by omega
 have c1:(i:Int)<((n2.length:Nat):Int):=by omega
 have er:rdL (CA .i32 256 (by decide)) n2 (i:Int)=n2[i]'(by omega):=rdP (by omega)
 subst h1
 simp only [c,c0,c1,er,hd,hb,ha,hs,hp,ho,ginc (i:=i) (by omega),if_true,Option.bind_some]
theorem rEnc_l0 {G:Nat→Nat→Arr 256}{y n2:PL}{du k:Nat}(hG:∀ p q,FitK (G p q)) (hd1:1≤du) (hd2:du≤11) (hk:k≤100) (hy:FL y) (ly:y.length=k) (hn:FL n2) (ln:n2.length=k) :
  ref26_Encrypt.l0 60000 60000 (k:Int) (du:Int) (matG G k) y n2 0 []=some (pkV (uV n2 y (matG (fun p q=>G q p) k) du k) (du:Int)):=by
 have h:=app_bytes (fun q i a _=>ref26_Encrypt.l0 60000 q (k:Int) (du:Int) (matG G k) y n2 i a) k (fun i=>sqzA du (padd (n2.getD i (zeroA 256)) (pback (dotF ((matG (fun p q=>G q p) k).getD i []) y (zeroA 256))))) (fun i=>zeroA 256) (du:Int) 0 (fun a _=>a) (fun q a b=>by
   have c:¬ (k:Int)<(k:Int):=by omega
   simp only [ref26_Encrypt.l0,c,if_false]) (fun q i a b hi hl _=>by
   have hi2:i<n2.length:=by omega
   have e1:n2.getD i (zeroA 256)=n2[i]:=getD_mem hi2
   have fn:FitK n2[i]:=hn _ (List.getElem_mem hi2)
   have ec:(matG (fun p q=>G q p) k).getD i []=(List.range k).map fun j=>G j i:=by
    rw [List.getD_eq_getElem?_getD,List.getElem?_eq_getElem (by rw [matG_len]; exact hi)]
    exact matG_get (fun p q=>G q p) hi
   have l1:=rEnc_l1 G hk hi
   have fc:FL ((List.range k).map fun j=>G j i):=fun x hx=>by
    obtain ⟨j,_,rfl⟩:=List.mem_map.1 hx
    exact hG j i
   have lc:((List.range k).map fun j=>G j i).length=k:=by simp
   rw [e1,ec]
   generalize (List.range k).map (fun j=>G j i)=col at l1 fc lc ⊢
   have hd:=rDot fc hy (by omega) (by omega)
   have fd:=dotF_fit col y (zeroA 256) fit_zero
   generalize dotF col y (zeroA 256)=d at hd fd ⊢
   have hb:ref25_Back.f 60000 d=some (pback d):=ref25_Back_eq _ fd
   have fb:=fit_pback d
   generalize pback d=b at hb fb ⊢
   have ha:=ref25_Add_eq 60000 (by decide) b n2[i] fb fn
   rw [padd_comm b n2[i]] at ha
   have fa:=fit_padd n2[i] b
   generalize padd n2[i] b=ad at ha fa ⊢
   have hs:=ref25_Squeeze_eq 60000 (by decide) ad du hd1 hd2 fa
   generalize sqzA du ad=s at hs ⊢
   have hp:=ref25_Pack_eq 60000 (by decide) s (du:Int)
   have pl:=packV_len s (du:Int)
   generalize packV s (du:Int)=p at hp pl ⊢
   have st:=renc_step (L1:=ref26_Encrypt.l1 60000 60000 (k:Int) (matG G k) (i:Int) 0 []) (Dt:=ref26_dot.f 60000) (Bk:=ref25_Back.f 60000) (Sq:=fun r=>ref25_Squeeze.f 60000 r (du:Int)) (Ad:=ref25_Add.f 60000) (Pk:=fun r=>ref25_Pack.f 60000 r (du:Int)) (L:=fun i z=>ref26_Encrypt.l0 60000 q (k:Int) (du:Int) (matG G k) y n2 i z) (out:=a) hi hk l1 ln hd hb ha hs hp (by omega)
   show ref26_Encrypt.l0 60000 (q+1) (k:Int) (du:Int) (matG G k) y n2 (i:Int) a=ref26_Encrypt.l0 60000 q (k:Int) (du:Int) (matG G k) y n2 ((i+1:Nat):Int) (a++p)
   rw [ref26_Encrypt.l0]
   exact st) k 0 60000 (by omega) (by omega)
 exact h
theorem unpV_val {b:List Int}{d:Nat}(h1:1≤d) (h2:d≤11) (lb:b.length=32*d):unpV b (d:Int)=(unp (dig d 256 (NB b)),true):=by
 have u:=unpV_any h1 h2 lb
 have e:unpV b (d:Int)=outU d (dig d 256 (NB b)):=by
  unfold unpV
  rw [if_pos ⟨by omega,by omega,by omega⟩,Int.toNat_natCast]
 rw [e] at u ⊢
 generalize dig d 256 (NB b)=l at u ⊢
 have hd:¬ d=12:=by omega
 unfold outU at u ⊢
 rw [if_neg hd] at u ⊢
 by_cases c:allA (belowB ((2^d:Nat):Int)) (unp l)=true
 ·rw [if_pos c]
 ·rw [if_neg c] at u
  exact absurd (show false=true from u.1) (by decide)
theorem unp1 {m:List Int}(lm:m.length=32):(unpV m 1).1=mapA 256 fun i=>bitN (NB m) i:=by
 have h:=unpV_val (b:=m) (d:=1) (by decide) (by decide) (by omega)
 have h':unpV m 1=(unp (dig 1 256 (NB m)),true):=h
 rw [h']
 refine arr_ext fun i hi=>?_
 show rd (unp (dig 1 256 (NB m))) (i:Int)=_
 unfold unp
 rw [rd_mapA _ _ hi,rd_mapA _ _ hi]
 have d:=dig1 256 (NB m) i hi
 have hb:=bitN_bd (NB m) i
 have er:rdL (CI .u32) (dig 1 256 (NB m)) (i:Int)=(dig 1 256 (NB m)).getD i 0:=by
  unfold rdL
  rw [Int.toNat_natCast]
  rfl
 rw [er,d]
 generalize bitN (NB m) i=x at hb ⊢
 unfold iconv
 rw [w32]
 omega
theorem rEnc_l2 {m:List Int}(hm:Byt m) (lm:m.length=32):ref26_Encrypt.l2 60000 60000 m 0 (zeroA 256)=some (unpV m 1).1:=by
 rw [unp1 lm]
 refine loop_map (n:=256) (fun k i z=>ref26_Encrypt.l2 60000 k m i z) (fun i _=>bitN (NB m) i) (zeroA 256) (fun k i z hi hz=>?_) (fun k z=>?_) 60000 (by decide)
 ·have c:(i:Int)<256:=by omega
  have c0:(0:Int)≤(i:Int):=by omega
  have hb:=rBit hm (by omega) (show i<8*m.length by omega)
  simp only [ref26_Encrypt.l2,c,c0,hb,ginc (i:=i) (by omega),if_true,Option.bind_some]
 ·have c:¬ ((256:Nat):Int)<256:=by omega
  simp only [ref26_Encrypt.l2,c,if_false]
theorem rDec_l0 {u:PL}{du k:Nat}(hd1:1≤du) (hd2:du≤11) (hk:k≤100) (lu:u.length=k) (hu:∀ a∈u,Bel ((2^du:Nat):Int) a):ref26_Decrypt.l0 60000 60000 (k:Int) (du:Int) u 0 []=some (ntV (u.map (widA du))):=by
 have h:=app0 (fun q i z=>ref26_Decrypt.l0 60000 q (k:Int) (du:Int) u i z) k (fun i=>pntt (widA du (u.getD i (zeroA 256)))) id (fun q z=>by
   have c:¬ (k:Int)<(k:Int):=by omega
   simp only [ref26_Decrypt.l0,c,if_false,id]) (fun q i z hi hl=>by
   have hi1:i<u.length:=by omega
   have c:(i:Int)<(k:Int):=by omega
   have c0:(0:Int)≤(i:Int):=by omega
   have c1:(i:Int)<((u.length:Nat):Int):=by omega
   have bu:=hu _ (List.getElem_mem hi1)
   have hw:=ref25_Widen_eq 60000 (by decide) u[i] du hd1 hd2
   rw [if_pos (of_bel bu)] at hw
   have fw:=fit_widA hd1 hd2 bu
   rw [getD_mem hi1]
   generalize widA du u[i]=w at hw fw ⊢
   have hn:ref25_Ntt.f 60000 w=some (pntt w):=ref25_Ntt_eq w fw
   generalize pntt w=p at hn ⊢
   have c2:z.length+([p]:PL).length≤137438953472:=by show z.length+1≤_; omega
   simp only [ref26_Decrypt.l0,c,c0,c1,rdP hi1,hw,hn,c2,ginc (i:=i) (by omega),if_true,Option.bind_some]) 60000 (by omega)
 have e:(List.range k).map (fun i=>pntt (widA du (u.getD i (zeroA 256))))=ntV (u.map (widA du)):=by
  have:=map_range u (fun a=>pntt (widA du a)) k lu.symm
  unfold ntV
  rw [List.map_map]
  exact this
 rw [← e]
 exact h
end Go.Proofs.YtemdbgmldljbpaaGreatDoor

/- own -/
set_option linter.unusedSimpArgs false
set_option linter.unusedVariables false
set_option maxRecDepth 100000
namespace Go.Proofs.YtemdbgmldljbpaaGreatDoor
open Go Go.Mx
theorem kindB_KX {a b c d e:Int}(h:kindB a b c d e=true):∃ k e1 e2 du dv:Nat,KX k e1 e2 du dv∧a=(k:Int)∧b=(e1:Int)∧c=(e2:Int)∧d=(du:Int)∧e=(dv:Int):=by
 rcases of_decide_eq_true h with ⟨rfl,rfl,rfl,rfl,rfl⟩ | ⟨rfl,rfl,rfl,rfl,rfl⟩ | ⟨rfl,rfl,rfl,rfl,rfl⟩
 ·exact ⟨2,3,2,10,4,.inl ⟨rfl,rfl,rfl,rfl,rfl⟩,rfl,rfl,rfl,rfl,rfl⟩
 ·exact ⟨3,2,2,10,4,.inr (.inl ⟨rfl,rfl,rfl,rfl,rfl⟩),rfl,rfl,rfl,rfl,rfl⟩
 ·exact ⟨4,2,2,11,5,.inr (.inr ⟨rfl,rfl,rfl,rfl,rfl⟩),rfl,rfl,rfl,rfl,rfl⟩
theorem sizes_bad {a b c d e:Int}(h:kindB a b c d e=false):kpke_Sizes.f 60000 a b c d e=some (0,0,0):=by
 unfold kpke_Sizes.f
 rw [kKnown,h]
 rfl
end Go.Proofs.YtemdbgmldljbpaaGreatDoor

/- own -/
set_option linter.unusedSimpArgs false
set_option linter.unusedVariables false
set_option maxRecDepth 100000
namespace Go.Proofs.YtemdbgmldljbpaaGreatDoor
open Go Go.Mx
def encE (Sz:Option (Int × Int × Int)) (a1:List Int) (Rd:Option (PL × Bool)) (c2 c3:Prop) [Decidable c2] [Decidable c3] (Ex:List Int→Option (List PL × Int)) (R:PL→List PL→Option (List Int × Int)):Option (List Int × Int):=
 Sz.bind fun (r2,r3,r4)=>if r2=0 then (some (([]:List Int),9)) else (if (a1.length:Int)=r2 then (Rd.bind fun (r5,r6)=>if r6=true then (if c2 then (if c3 then (if 0≤(isub .i64 r2 32) then (if (isub .i64 r2 32)≤(a1.length:Int) then (if (a1.length:Int)≤a1.length then ((Ex (subL a1 (isub .i64 r2 32) (a1.length:Int))).bind fun (r8,r9)=>if r9=0 then R r5 r8 else (some (([]:List Int),r9))) else none) else none) else none) else (some (([]:List Int),14))) else (some (([]:List Int),14))) else (some (([]:List Int),10))) else (some (([]:List Int),10)))
section
variable {Sz : Option (Int × Int × Int)} {a1 : List Int} {Rd : Option (PL × Bool)} {c2 c3 : Prop} [Decidable c2] [Decidable c3] {Ex : List Int → Option (List PL × Int)} {R : PL → List PL → Option (List Int × Int)}
theorem enc_9 {p q:Int}(h:Sz=some (0,p,q)):encE Sz a1 Rd c2 c3 Ex R=some ([],9):=by
 subst h
 rfl
theorem enc_10 {n:Nat}{p q:Int}(h:Sz=some ((n:Int),p,q)) (hn:0<n) (hl:a1.length≠n):encE Sz a1 Rd c2 c3 Ex R=some ([],10):=by
 subst h
 have c0:¬ (n:Int)=0:=by omega
 have c1:¬ ((a1.length:Nat):Int)=(n:Int):=by omega
 unfold encE
 simp only [Option.bind_some,c0,c1,if_false]
theorem enc_rd {n:Nat}{p q:Int}{t:PL}(h:Sz=some ((n:Int),p,q)) (hn:0<n) (hl:a1.length=n) (hr:Rd=some (t,false)):encE Sz a1 Rd c2 c3 Ex R=some ([],10):=by
 subst h hr
 have c0:¬ (n:Int)=0:=by omega
 have c1:((a1.length:Nat):Int)=(n:Int):=by omega
 unfold encE
 simp only [Option.bind_some,c0,if_false]
 rw [if_pos c1]
 rfl
theorem enc_14 {n:Nat}{p q:Int}{t:PL}(h:Sz=some ((n:Int),p,q)) (hn:0<n) (hl:a1.length=n) (hr:Rd=some (t,true)) (hc:¬ (c2∧c3)):encE Sz a1 Rd c2 c3 Ex R=some ([],14):=by
 subst h hr
 have c0:¬ (n:Int)=0:=by omega
 have c1:((a1.length:Nat):Int)=(n:Int):=by omega
 unfold encE
 simp only [Option.bind_some,c0,if_false]
 rw [if_pos c1]
 simp only [Option.bind_some,if_true]
 by_cases k2:c2
 ·rw [if_pos k2,if_neg (fun k3=>hc ⟨k2,k3⟩)]
 ·rw [if_neg k2]
theorem enc_go {n:Nat}{p q:Int}{t:PL}{C:List PL}{e:Int}(h:Sz=some (((n+32:Nat):Int),p,q)) (hn:n<100000) (hl:a1.length=n+32) (hr:Rd=some (t,true)) (k2:c2) (k3:c3) (hE:Ex (a1.drop n)=some (C,e)):encE Sz a1 Rd c2 c3 Ex R=if e=0 then R t C else some ([],e):=by
 subst h hr
 have ei:isub .i64 ((n+32:Nat):Int) 32=((n:Nat):Int):=by rw [sub64 (by omega) (by omega)]; omega
 have c0:¬ ((n+32:Nat):Int)=0:=by omega
 have c1:((a1.length:Nat):Int)=((n+32:Nat):Int):=by omega
 have c4:(0:Int)≤(n:Int):=by omega
 have c5:(n:Int)≤((a1.length:Nat):Int):=by omega
 have c6:((a1.length:Nat):Int)≤((a1.length:Nat):Int):=Int.le_refl _
 have es:subL a1 (n:Int) ((a1.length:Nat):Int)=a1.drop n:=by rw [g_sub,List.take_length]
 unfold encE
 simp only [Option.bind_some,ei,c0,if_false]
 rw [if_pos c1]
 simp only [k2,k3,c4,c5,c6,es,hE,if_true,Option.bind_some]
end
theorem renc_core {N1 N2 Bt:Option PL}{Vp:PL→Option PL}{L:PL→PL→Option (List Int)}{By:Option (Arr 256)}{Dt:PL→PL→Option (Arr 256)}{Bk Sq Wd:Arr 256→Option (Arr 256)}{Ns:Option (Arr 256)}{Ad:Arr 256→Arr 256→Option (Arr 256)}{Pk:Arr 256→Option (List Int)}{t n1 y n2:PL}{d b ns ad by1 sp a2 s:Arr 256}{pu pv:List Int}
  (h4:N1=some n1) (h5:Vp n1=some y) (h6:N2=some n2) (h7:L y n2=some pu) (hb:By=some by1) (h8:Dt t y=some d) (h9:Bk d=some b) (h10:Ns=some ns) (h11:Ad b ns=some ad) (h12:Wd by1=some sp) (h13:Ad ad sp=some a2) (h14:Sq a2=some s) (h16:Pk s=some pv) (hl:pu.length+pv.length≤140737488355328) :
  (N1.bind fun r14=>(Vp r14).bind fun r15=>N2.bind fun r16=>(L r15 r16).bind fun y19=>By.bind fun y49=>(((Dt t r15).bind fun r54=>(Bk r54).bind fun r55=>Ns.bind fun r56=>(Ad r55 r56).bind fun r57=>some r57:Option ((Arr 256)))).bind fun y53=>(Wd y49).bind fun r73=>(Ad y53 r73).bind fun r74=>(Sq r74).bind fun r75=>(Pk r75).bind fun r76=>if y19.length+r76.length≤140737488355328 then (some ((y19++r76),(0:Int))) else none)=some (pu++pv,0):=by
 subst h4 h6 hb h10
 simp only [h5,h7,h8,h9,h11,h12,h13,h14,h16,hl,if_true,Option.bind_some]
theorem rEncryptG {k e1 e2 du dv:Nat}(hx:KX k e1 e2 du dv) {pk:List Int}(hb:Byt pk) (lpk:pk.length=384*k+32) {t:PL}(hr:rdV pk 12 (32*12) k 0 []=(t,true)) (ht:FL t) (lt:t.length=k) {m rnd:List Int}(hm:Byt m) (lm:m.length=32) (lrnd:rnd.length=32) {C M:List PL}(hC:matF (fun i j=>pt (pk.drop (384*k)) j i) k k 0 []=some C) (hM:matF (pt (pk.drop (384*k))) k k 0 []=some M) :
  ref26_Encrypt.f 60000 (k:Int) (e1:Int) (e2:Int) (du:Int) (dv:Int) pk m rnd=some (encV t C m rnd k e1 e2 du dv,0):=by
 obtain ⟨k2,k4,d1,d2,v1,v2⟩:=hx.bd
 have he1:=hx.e1
 have he2:=hx.e2
 have rd:=rRead (b:=pk) (d:=12) (k0:=k) hb (by decide) (by omega) (by omega) (by omega)
 rw [hr] at rd
 have ex:=rMat (rho:=pk.drop (384*k)) (by rw [List.length_drop]; omega) (k0:=k) (by omega) (e1:Int) (e2:Int) (du:Int) (dv:Int)
 rw [hM] at ex
 have ex':ref26_matrix_s.f 60000 (k:Int) (e1:Int) (e2:Int) (du:Int) (dv:Int) (pk.drop (384*k))=some (M,0):=ex
 have n1:=rRow (k:=k) (by omega) he1 (s:=rnd) (by omega) (first:=0) (by decide)
 have n2:=rRow (k:=k) (by omega) he2 (s:=rnd) (by omega) (first:=k) (by omega)
 have y1:=rNtt (nsV_fit k e1 rnd 0) (by rw [nsV_len]; omega)
 have fy:FL (ntV (nsV k e1 rnd 0)):=ntV_fit (nsV_fit _ _ _ _)
 have ly:(ntV (nsV k e1 rnd 0)).length=k:=by rw [ntV_len,nsV_len]
 have eM:=matF_G hM
 have eC:C=matG (fun p q=>(pt (pk.drop (384*k)) q p).1) k:=matF_G hC
 have l:=rEnc_l0 (G:=fun p q=>(pt (pk.drop (384*k)) p q).1) (y:=ntV (nsV k e1 rnd 0)) (n2:=nsV k e2 rnd k) (du:=du) (k:=k) (fun p q=>(pt_good (pk.drop (384*k)) p q).1) (by omega) (by omega) (by omega) fy ly (nsV_fit _ _ _ _) (nsV_len _ _ _ _)
 rw [← eM,← eC] at l
 have dt:=rDot ht fy (by omega) (by omega)
 have bk:ref25_Back.f 60000 (dotF t (ntV (nsV k e1 rnd 0)) (zeroA 256))=some (pback (dotF t (ntV (nsV k e1 rnd 0)) (zeroA 256))):=ref25_Back_eq _ (dotF_fit _ _ _ fit_zero)
 have em:iconv .u8 (imul .i64 2 (k:Int))=((2*k:Nat):Int):=by
  have:imul .i64 2 (k:Int)=((2*k:Nat):Int):=by unfold imul; rw [id64 (by omega) (by omega)]; omega
  rw [this,cvu8 (by omega)]
 have ns:=rNoise (s:=rnd) (by omega) he2 ((2*k:Nat):Int)
 have ns':ref26_Noise.f 60000 (e2:Int) rnd (iconv .u8 (imul .i64 2 (k:Int)))=some (noiV (absV 7 (zeroA 25,0) false (rnd++[((2*k:Nat):Int)])) e2):=by rw [em]; exact ns
 have a1:=ref25_Add_eq 60000 (by decide) (pback (dotF t (ntV (nsV k e1 rnd 0)) (zeroA 256))) (noiV (absV 7 (zeroA 25,0) false (rnd++[((2*k:Nat):Int)])) e2) (fit_pback _) (fit_noiV _ _)
 have s1:=rEnc_l2 hm lm
 have s2:=(kSpread hm lm).2
 have ub:Bel ((2^1:Nat):Int) (unpV m 1).1:=(unpV_any (b:=m) (d:=1) (by decide) (by decide) (by omega)).2
 have wd:ref25_Widen.f 60000 (unpV m 1).1 1=some (widA 1 (unpV m 1).1):=by
  have:=ref25_Widen_eq 60000 (by decide) (unpV m 1).1 1 (by decide) (by decide)
  rw [if_pos (of_bel ub)] at this
  exact this
 have a2:=ref25_Add_eq 60000 (by decide) (padd (pback (dotF t (ntV (nsV k e1 rnd 0)) (zeroA 256))) (noiV (absV 7 (zeroA 25,0) false (rnd++[((2*k:Nat):Int)])) e2)) (widA 1 (unpV m 1).1) (fit_padd _ _) s2
 have sq:=ref25_Squeeze_eq 60000 (by decide) (padd (padd (pback (dotF t (ntV (nsV k e1 rnd 0)) (zeroA 256))) (noiV (absV 7 (zeroA 25,0) false (rnd++[((2*k:Nat):Int)])) e2)) (widA 1 (unpV m 1).1)) dv (by omega) (by omega) (fit_padd _ _)
 have hv:encV t C m rnd k e1 e2 du dv=pkV (uV (nsV k e2 rnd k) (ntV (nsV k e1 rnd 0)) C du k) (du:Int)++packV (sqzA dv (padd (padd (pback (dotF t (ntV (nsV k e1 rnd 0)) (zeroA 256))) (noiV (absV 7 (zeroA 25,0) false (rnd++[((2*k:Nat):Int)])) e2)) (widA 1 (unpV m 1).1))) (dv:Int):=rfl
 have sz:=(encV_size hx t C m rnd).1
 rw [hv] at sz ⊢
 generalize sqzA dv (padd (padd (pback (dotF t (ntV (nsV k e1 rnd 0)) (zeroA 256))) (noiV (absV 7 (zeroA 25,0) false (rnd++[((2*k:Nat):Int)])) e2)) (widA 1 (unpV m 1).1))=w at sq sz ⊢
 generalize pkV (uV (nsV k e2 rnd k) (ntV (nsV k e1 rnd 0)) C du k) (du:Int)=pu at l sz ⊢
 have pw:=ref25_Pack_eq 60000 (by decide) w (dv:Int)
 have hb1:du*k≤11*4:=Nat.mul_le_mul (by omega) k4
 rw [List.length_append] at sz
 have core:=renc_core (t:=t) (Vp:=ref26_ntt.f 60000) (L:=fun r15 r16=>ref26_Encrypt.l0 60000 60000 (k:Int) (du:Int) M r15 r16 0 []) (Dt:=ref26_dot.f 60000) (Bk:=ref25_Back.f 60000) (Wd:=fun r=>ref25_Widen.f 60000 r 1) (Sq:=fun r=>ref25_Squeeze.f 60000 r (dv:Int)) (Ad:=ref25_Add.f 60000) (Pk:=fun r=>ref25_Pack.f 60000 r (dv:Int)) (Bt:=none) n1 y1 n2 l s1 dt bk ns' a1 wd a2 sq pw (by omega)
 have sz1:ref26_Sizes.f 60000 (k:Int) (e1:Int) (e2:Int) (du:Int) (dv:Int)=some (((384*k+32:Nat):Int),((384*k:Nat):Int),((32*(du*k+dv):Nat):Int)):=(sizes_same _ _ _ _ _ _).trans hx.sizes
 have go:=enc_go (Sz:=ref26_Sizes.f 60000 (k:Int) (e1:Int) (e2:Int) (du:Int) (dv:Int)) (a1:=pk) (c2:=((m.length:Nat):Int)=32) (c3:=((rnd.length:Nat):Int)=32) (Ex:=fun r=>ref26_matrix_s.f 60000 (k:Int) (e1:Int) (e2:Int) (du:Int) (dv:Int) r)
  (R:=fun r5 r8=>(ref26_row.f 60000 (k:Int) (e1:Int) rnd 0).bind fun r14=>(ref26_ntt.f 60000 r14).bind fun r15=>(ref26_row.f 60000 (k:Int) (e2:Int) rnd (k:Int)).bind fun r16=>(ref26_Encrypt.l0 60000 60000 (k:Int) (du:Int) r8 r15 r16 0 ([]:List Int)).bind fun y19=>(ref26_Encrypt.l2 60000 60000 m 0 (zeroA 256)).bind fun y49=>(((ref26_dot.f 60000 r5 r15).bind fun r54=>(ref25_Back.f 60000 r54).bind fun r55=>(ref26_Noise.f 60000 (e2:Int) rnd (iconv .u8 (imul .i64 2 (k:Int)))).bind fun r56=>(ref25_Add.f 60000 r55 r56).bind fun r57=>some r57:Option ((Arr 256)))).bind fun y53=>(ref25_Widen.f 60000 y49 1).bind fun r73=>(ref25_Add.f 60000 y53 r73).bind fun r74=>(ref25_Squeeze.f 60000 r74 (dv:Int)).bind fun r75=>(ref25_Pack.f 60000 r75 (dv:Int)).bind fun r76=>if y19.length+r76.length≤140737488355328 then (some ((y19++r76),0)) else none)
  sz1 (by omega) lpk rd (by omega) (by omega) ex'
 rw [if_pos rfl] at go
 unfold ref26_Encrypt.f
 exact go.trans core
theorem mat_both {g:Nat→Nat→Arr 256 × Int}{k:Nat}(hg:GoodG g):(∃ C M,matF (fun i j=>g j i) k k 0 []=some C∧matF g k k 0 []=some M)∨(matF (fun i j=>g j i) k k 0 []=none∧matF g k k 0 []=none):=by
 have o1:=matF_some hg (k:=k) k 0 []
 have o2:=matF_some (g:=fun i j=>g j i) (fun i j=>hg j i) (k:=k) k 0 []
 have w1:=matF_ok (g:=g) (k:=k) k 0 []
 have w2:=matF_ok (g:=fun i j=>g j i) (k:=k) k 0 []
 obtain ⟨oC,hC⟩ : ∃ o,matF (fun i j=>g j i) k k 0 []=o:=⟨_,rfl⟩
 obtain ⟨oM,hM⟩ : ∃ o,matF g k k 0 []=o:=⟨_,rfl⟩
 rw [hC,hM]
 cases oC with
 | some C=>
  cases oM with
  | some M=>exact .inl ⟨C,M,rfl,rfl⟩
  | none=>
   exfalso
   obtain ⟨_,_,q⟩:=o2 C hC (fun r h=>by cases h)
   obtain ⟨M,hM'⟩:=w1 (fun p q' _ hp hq=>q q' p (by omega) (by omega) (by omega))
   rw [hM] at hM'
   cases hM'
 | none=>
  cases oM with
  | none=>exact .inr ⟨rfl,rfl⟩
  | some M=>
   exfalso
   obtain ⟨_,_,q⟩:=o1 M hM (fun r h=>by cases h)
   obtain ⟨C,hC'⟩:=w2 (fun p q' _ hp hq=>q q' p (by omega) (by omega) (by omega))
   rw [hC] at hC'
   cases hC'
def Sh (l:List Int):Prop:=l.length<10000∧Byt l
theorem sh_nil:Sh []:=⟨by decide,Byt.nil⟩
theorem enc_both {S1 S2:Option (Int × Int × Int)}{a1:List Int}{D1 D2:Option (PL × Bool)}{c2 c3:Prop}[Decidable c2] [Decidable c3] {E1 E2:List Int→Option (List PL × Int)}{R1 R2:PL→List PL→Option (List Int × Int)}{n:Nat}{p q:Int}{v:PL × Bool}
  (s1:S1=some (((n+32:Nat):Int),p,q)) (s2:S2=some (((n+32:Nat):Int),p,q)) (hn:n<100000) (r1:a1.length=n+32→D1=some v) (r2:a1.length=n+32→D2=some v)
  (hX:a1.length=n+32→v.2=true→c2→c3→(E1 (a1.drop n)=some ([],12)∧E2 (a1.drop n)=some ([],12))∨∃ o,encE S1 a1 D1 c2 c3 E1 R1=some o∧encE S2 a1 D2 c2 c3 E2 R2=some o∧Sh o.1) :
  ∃ o,encE S1 a1 D1 c2 c3 E1 R1=some o∧encE S2 a1 D2 c2 c3 E2 R2=some o∧Sh o.1:=by
 by_cases hl:a1.length=n+32
 ·obtain ⟨t,b⟩:=v
  have r1':=r1 hl
  have r2':=r2 hl
  cases b with
  | false=>exact ⟨([],10),enc_rd s1 (by omega) hl r1',enc_rd s2 (by omega) hl r2',sh_nil⟩
  | true=>
   by_cases hc:c2∧c3
   ·rcases hX hl rfl hc.1 hc.2 with ⟨x1,x2⟩ | h
    ·exact ⟨([],12),(enc_go s1 hn hl r1' hc.1 hc.2 x1).trans (if_neg (by decide)),(enc_go s2 hn hl r2' hc.1 hc.2 x2).trans (if_neg (by decide)),sh_nil⟩
    ·exact h
   ·exact ⟨([],14),enc_14 s1 (by omega) hl r1' hc,enc_14 s2 (by omega) hl r2' hc,sh_nil⟩
 ·exact ⟨([],10),enc_10 s1 (by omega) hl,enc_10 s2 (by omega) hl,sh_nil⟩
theorem matO_none {o:Option (List PL)}(h:o=none):some (matO o)=some (([]:List PL),(12:Int)):=by
 subst h
 rfl
theorem rdV12' {b:List Int}{k:Nat}{t:PL}{bt:Bool}(h:rdV b 12 (32*12) k 0 []=(t,bt)) (hb:bt=true):FL t∧t.length=k:=by
 have q:=rdV12 (b:=b) k 0 []
 rw [h] at q
 obtain ⟨q1,q2⟩:=q hb (fun a h=>by cases h)
 exact ⟨q1,by rw [q2]; show 0+k=k; omega⟩
theorem encG {k e1 e2 du dv:Nat}(hx:KX k e1 e2 du dv) {pk m rnd:List Int}(hp:Byt pk) (hm:Byt m) (hl:pk.length=384*k+32) {v:PL × Bool}(hv:rdV pk 12 (32*12) k 0 []=v) (hb:v.2=true) (lm:m.length=32) (lr:rnd.length=32) :
  (kpke_expanded_s.f 60000 (k:Int) (e1:Int) (e2:Int) (du:Int) (dv:Int) (pk.drop (384*k))=some ([],12)∧ref26_matrix_s.f 60000 (k:Int) (e1:Int) (e2:Int) (du:Int) (dv:Int) (pk.drop (384*k))=some ([],12))∨∃ o,kpke_Encrypt.f 60000 (k:Int) (e1:Int) (e2:Int) (du:Int) (dv:Int) pk m rnd=some o∧ref26_Encrypt.f 60000 (k:Int) (e1:Int) (e2:Int) (du:Int) (dv:Int) pk m rnd=some o∧Sh o.1:=by
 obtain ⟨k2,k4,_⟩:=hx.bd
 obtain ⟨t,bt⟩:=v
 obtain ⟨ft,lt⟩:=rdV12' hv hb
 have hb':bt=true:=hb
 subst hb'
 rcases mat_both (g:=pt (pk.drop (384*k))) (k:=k) (pt_good _) with ⟨C,M,hC,hM⟩ | ⟨hC,hM⟩
 ·exact .inr ⟨_,kEncryptG hx hp hl hv ft lt hm lm lr hC,rEncryptG hx hp hl hv ft lt hm lm lr hC hM,by
   have sz:=encV_size hx t C m rnd
   obtain ⟨k2,k4,d1,d2,v1,v2⟩:=hx.bd
   have hb1:du*k≤11*4:=Nat.mul_le_mul (by omega) k4
   exact ⟨by rw [sz.1]; omega,sz.2⟩⟩
 ·have ld:(pk.drop (384*k)).length≤300:=by rw [List.length_drop]; omega
  exact .inl ⟨(kMatT (rho:=pk.drop (384*k)) ld (k0:=k) (by omega) (e1:Int) (e2:Int) (du:Int) (dv:Int)).trans (matO_none hC),(rMat (rho:=pk.drop (384*k)) ld (k0:=k) (by omega) (e1:Int) (e2:Int) (du:Int) (dv:Int)).trans (matO_none hM)⟩
theorem kEnc_E (a b c d e:Int) (pk m rnd:List Int):kpke_Encrypt.f 60000 a b c d e pk m rnd=encE (kpke_Sizes.f 60000 a b c d e) pk (kpke_read.f 60000 pk a 12) (((m.length:Nat):Int)=32) (((rnd.length:Nat):Int)=32) (fun r=>kpke_expanded_s.f 60000 a b c d e r) (fun r5 r8=>(kpke_noises.f 60000 a b rnd 0).bind fun r14=>(kpke_vector_parts.f 60000 r14).bind fun r15=>(kpke_noises.f 60000 a c rnd a).bind fun r16=>(kpke_Encrypt.l0 60000 60000 d r8 r15 0 r16).bind fun y19=>(((kpke_vector_dot.f 60000 r5 r15).bind fun r27=>(kq_Back.f 60000 r27).bind fun r28=>(kpke_Noise.f 60000 c rnd (iconv .u8 (imul .i64 2 a))).bind fun r29=>(kq_Add.f 60000 r28 r29).bind fun r30=>some r30:Option ((Arr 256)))).bind fun y26=>(kpke_spread.f 60000 m).bind fun r46=>(kq_Add.f 60000 y26 r46).bind fun r47=>(kq_Squeeze.f 60000 r47 e).bind fun r48=>(kpke_vector_packed.f 60000 y19 d).bind fun r49=>(kq_Pack.f 60000 r48 e).bind fun r50=>(bits_Join.f 60000 ([r49,r50]:List (List Int))).bind fun r52=>some (r52,0)):=by
 unfold kpke_Encrypt.f encE
 rfl
theorem rEnc_E (a b c d e:Int) (pk m rnd:List Int):ref26_Encrypt.f 60000 a b c d e pk m rnd=encE (ref26_Sizes.f 60000 a b c d e) pk (ref26_read.f 60000 pk a 12) (((m.length:Nat):Int)=32) (((rnd.length:Nat):Int)=32) (fun r=>ref26_matrix_s.f 60000 a b c d e r) (fun r5 r8=>(ref26_row.f 60000 a b rnd 0).bind fun r14=>(ref26_ntt.f 60000 r14).bind fun r15=>(ref26_row.f 60000 a c rnd a).bind fun r16=>(ref26_Encrypt.l0 60000 60000 a d r8 r15 r16 0 ([]:List Int)).bind fun y19=>(ref26_Encrypt.l2 60000 60000 m 0 (zeroA 256)).bind fun y49=>(((ref26_dot.f 60000 r5 r15).bind fun r54=>(ref25_Back.f 60000 r54).bind fun r55=>(ref26_Noise.f 60000 c rnd (iconv .u8 (imul .i64 2 a))).bind fun r56=>(ref25_Add.f 60000 r55 r56).bind fun r57=>some r57:Option ((Arr 256)))).bind fun y53=>(ref25_Widen.f 60000 y49 1).bind fun r73=>(ref25_Add.f 60000 y53 r73).bind fun r74=>(ref25_Squeeze.f 60000 r74 e).bind fun r75=>(ref25_Pack.f 60000 r75 e).bind fun r76=>if y19.length+r76.length≤140737488355328 then (some ((y19++r76),0)) else none):=by
 unfold ref26_Encrypt.f encE
 rfl
theorem encKX {k e1 e2 du dv:Nat}(hx:KX k e1 e2 du dv) {pk m rnd:List Int}(hp:Byt pk) (hm:Byt m):∃ o,kpke_Encrypt.f 60000 (k:Int) (e1:Int) (e2:Int) (du:Int) (dv:Int) pk m rnd=some o∧ref26_Encrypt.f 60000 (k:Int) (e1:Int) (e2:Int) (du:Int) (dv:Int) pk m rnd=some o∧Sh o.1:=by
 obtain ⟨k2,k4,_⟩:=hx.bd
 have s1:=hx.sizes
 have s2:ref26_Sizes.f 60000 (k:Int) (e1:Int) (e2:Int) (du:Int) (dv:Int)=some (((384*k+32:Nat):Int),((384*k:Nat):Int),((32*(du*k+dv):Nat):Int)):=(sizes_same _ _ _ _ _ _).trans hx.sizes
 have r1:pk.length=384*k+32→_:=fun hl=>kRead (b:=pk) (d:=12) (k0:=k) hp (by decide) (by omega) (by omega) (by omega)
 have r2:pk.length=384*k+32→_:=fun hl=>rRead (b:=pk) (d:=12) (k0:=k) hp (by decide) (by omega) (by omega) (by omega)
 have g:=encG (rnd:=rnd) hx hp hm
 obtain ⟨v,hv⟩ : ∃ v,rdV pk 12 (32*12) k 0 []=v:=⟨_,rfl⟩
 rw [hv] at r1 r2
 rw [kEnc_E,rEnc_E]
 refine enc_both s1 s2 (by omega) r1 r2 (fun h1 h2 h3 h4=>?_)
 rw [← kEnc_E,← rEnc_E]
 exact g h1 hv h2 (by omega) (by omega)
theorem encBoth {a b c d e:Int}{pk m rnd:List Int}(hp:Byt pk) (hm:Byt m):∃ v,kpke_Encrypt.f 60000 a b c d e pk m rnd=some v∧ref26_Encrypt.f 60000 a b c d e pk m rnd=some v∧Sh v.1:=by
 by_cases h:kindB a b c d e=true
 ·obtain ⟨k,e1,e2,du,dv,hx,rfl,rfl,rfl,rfl,rfl⟩:=kindB_KX h
  exact encKX hx hp hm
 ·have h':kindB a b c d e=false:=by simpa using h
  have s1:=sizes_bad h'
  have s2:=(sizes_same 60000 a b c d e).trans s1
  rw [kEnc_E,rEnc_E]
  exact ⟨([],9),enc_9 s1,enc_9 s2,sh_nil⟩
end Go.Proofs.YtemdbgmldljbpaaGreatDoor

/- own -/
set_option linter.unusedSimpArgs false
set_option linter.unusedVariables false
set_option maxRecDepth 100000
namespace Go.Proofs.YtemdbgmldljbpaaGreatDoor
open Go Go.Mx
def decE (Sz:Option (Int × Int × Int)) (a1 a2:List Int) (Rd:Option (PL × Bool)) (R:Int→PL→Option (List Int × Int)):Option (List Int × Int):=
 Sz.bind fun (r2,r3,r4)=>if r3=0 then (some (([]:List Int),9)) else (if (a1.length:Int)=r3 then (Rd.bind fun (r5,r6)=>if r6=true then (if (a2.length:Int)=r4 then R r4 r5 else (some (([]:List Int),14))) else (some (([]:List Int),10))) else (some (([]:List Int),10)))
section
variable {Sz S1 S2 : Option (Int × Int × Int)} {a1 a2 : List Int} {Rd D1 D2 : Option (PL × Bool)} {R R1 R2 : Int → PL → Option (List Int × Int)}
theorem dec_9 {p q:Int}(h:Sz=some (p,0,q)):decE Sz a1 a2 Rd R=some ([],9):=by
 subst h
 rfl
theorem dec_10 {n:Nat}{p q:Int}(h:Sz=some (p,(n:Int),q)) (hn:0<n) (hl:a1.length≠n):decE Sz a1 a2 Rd R=some ([],10):=by
 subst h
 have c0:¬ (n:Int)=0:=by omega
 have c1:¬ ((a1.length:Nat):Int)=(n:Int):=by omega
 unfold decE
 simp only [Option.bind_some,c0,c1,if_false]
theorem dec_rd {n:Nat}{p q:Int}{t:PL}(h:Sz=some (p,(n:Int),q)) (hn:0<n) (hl:a1.length=n) (hr:Rd=some (t,false)):decE Sz a1 a2 Rd R=some ([],10):=by
 subst h hr
 have c0:¬ (n:Int)=0:=by omega
 have c1:((a1.length:Nat):Int)=(n:Int):=by omega
 unfold decE
 simp only [Option.bind_some,c0,if_false]
 rw [if_pos c1]
 rfl
theorem dec_14 {n m:Nat}{p:Int}{t:PL}(h:Sz=some (p,(n:Int),(m:Int))) (hn:0<n) (hl:a1.length=n) (hr:Rd=some (t,true)) (hc:a2.length≠m):decE Sz a1 a2 Rd R=some ([],14):=by
 subst h hr
 have c0:¬ (n:Int)=0:=by omega
 have c1:((a1.length:Nat):Int)=(n:Int):=by omega
 have c2:¬ ((a2.length:Nat):Int)=(m:Int):=by omega
 unfold decE
 simp only [Option.bind_some,c0,if_false]
 rw [if_pos c1]
 simp only [Option.bind_some,if_true,c2,if_false]
theorem dec_go {n m:Nat}{p:Int}{t:PL}(h:Sz=some (p,(n:Int),(m:Int))) (hn:0<n) (hl:a1.length=n) (hr:Rd=some (t,true)) (hc:a2.length=m):decE Sz a1 a2 Rd R=R (m:Int) t:=by
 subst h hr
 have c0:¬ (n:Int)=0:=by omega
 have c1:((a1.length:Nat):Int)=(n:Int):=by omega
 have c2:((a2.length:Nat):Int)=(m:Int):=by omega
 unfold decE
 simp only [Option.bind_some,c0,if_false]
 rw [if_pos c1]
 simp only [Option.bind_some,if_true]
 rw [if_pos c2]
theorem dec_both {n m:Nat}{p:Int}{v:PL × Bool}(s1:S1=some (p,(n:Int),(m:Int))) (s2:S2=some (p,(n:Int),(m:Int))) (hn:0<n) (r1:a1.length=n→D1=some v) (r2:a1.length=n→D2=some v)
  (hX:a1.length=n→v.2=true→a2.length=m→∃ o,decE S1 a1 a2 D1 R1=some o∧decE S2 a1 a2 D2 R2=some o∧Sh o.1) :
  ∃ o,decE S1 a1 a2 D1 R1=some o∧decE S2 a1 a2 D2 R2=some o∧Sh o.1:=by
 by_cases hl:a1.length=n
 ·obtain ⟨t,b⟩:=v
  have r1':=r1 hl
  have r2':=r2 hl
  cases b with
  | false=>exact ⟨([],10),dec_rd s1 hn hl r1',dec_rd s2 hn hl r2',sh_nil⟩
  | true=>
   by_cases hc:a2.length=m
   ·exact hX hl rfl hc
   ·exact ⟨([],14),dec_14 s1 hn hl r1' hc,dec_14 s2 hn hl r2' hc,sh_nil⟩
 ·exact ⟨([],10),dec_10 s1 hn hl,dec_10 s2 hn hl,sh_nil⟩
end
theorem rdec_core {R2:Option (PL × Bool)}{L:PL→Option PL}{Un:List Int→Option (Arr 256 × Bool)}{Wd Bk Sq:Arr 256→Option (Arr 256)}{Dt:PL→PL→Option (Arr 256)}{Sb:Arr 256→Arr 256→Option (Arr 256)}{Pk:Arr 256→Option (List Int)}{a2:List Int}{x:Nat}{X:Int}{s u y:PL}{ub vb:Bool}{v vw d b w q:Arr 256}{out:List Int}
  (hX:X=(x:Int)) (hx:x≤a2.length) (h3:R2=some (u,ub)) (h4:L u=some y) (h5:Un (a2.drop x)=some (v,vb)) (h6:Wd v=some vw) (h8:Dt s y=some d) (h9:Bk d=some b) (h10:Sb vw b=some w) (h11:Sq w=some q) (h12:Pk q=some out) :
  (R2.bind fun (r7,r8)=>(L r7).bind fun y11=>((if 0≤X then (if X≤(a2.length:Int) then (if (a2.length:Int)≤a2.length then ((Un (subL a2 X (a2.length:Int))).bind fun (r20,r21)=>some r20) else none) else none) else none:Option ((Arr 256)))).bind fun y18=>(Wd y18).bind fun r26=>(Dt s y11).bind fun r27=>(Bk r27).bind fun r28=>(Sb r26 r28).bind fun r29=>(Sq r29).bind fun r31=>(Pk r31).bind fun r32=>some (r32,(0:Int)))=some (out,(0:Int)):=by
 subst hX h3
 have c4:(0:Int)≤(x:Int):=by omega
 have c5:(x:Int)≤((a2.length:Nat):Int):=by omega
 have c6:((a2.length:Nat):Int)≤((a2.length:Nat):Int):=Int.le_refl _
 have es:subL a2 (x:Int) ((a2.length:Nat):Int)=a2.drop x:=by rw [g_sub,List.take_length]
 simp only [Option.bind_some,c4,c5,c6,es,h4,h5,h6,h8,h9,h10,h11,h12,if_true]
theorem kDec_E (a b c d e:Int) (sk x:List Int):kpke_Decrypt.f 60000 a b c d e sk x=decE (kpke_Sizes.f 60000 a b c d e) sk x (kpke_read.f 60000 sk a 12) (fun r4 r5=>(kpke_read.f 60000 x a d).bind fun (r7,r8)=>(kpke_Decrypt.l0 60000 60000 d r7 0 r7).bind fun y11=>((if 0≤(isub .i64 r4 (imul .i64 32 e)) then (if (isub .i64 r4 (imul .i64 32 e))≤(x.length:Int) then (if (x.length:Int)≤x.length then ((kq_Unpack.f 60000 (subL x (isub .i64 r4 (imul .i64 32 e)) (x.length:Int)) e).bind fun (r17,r18)=>some r17) else none) else none) else none:Option ((Arr 256)))).bind fun y15=>(kq_Widen.f 60000 y15 e).bind fun r23=>(kpke_vector_parts.f 60000 y11).bind fun r24=>(kpke_vector_dot.f 60000 r5 r24).bind fun r25=>(kq_Back.f 60000 r25).bind fun r26=>(kq_Sub.f 60000 r23 r26).bind fun r27=>(kq_Squeeze.f 60000 r27 1).bind fun r29=>(kq_Pack.f 60000 r29 1).bind fun r30=>some (r30,0)):=by
 unfold kpke_Decrypt.f decE
 rfl
theorem rDec_E (a b c d e:Int) (sk x:List Int):ref26_Decrypt.f 60000 a b c d e sk x=decE (ref26_Sizes.f 60000 a b c d e) sk x (ref26_read.f 60000 sk a 12) (fun r4 r5=>(ref26_read.f 60000 x a d).bind fun (r7,r8)=>(ref26_Decrypt.l0 60000 60000 a d r7 0 ([]:List (Arr 256))).bind fun y11=>((if 0≤(imul .i64 (imul .i64 32 d) a) then (if (imul .i64 (imul .i64 32 d) a)≤(x.length:Int) then (if (x.length:Int)≤x.length then ((ref25_Unpack.f 60000 (subL x (imul .i64 (imul .i64 32 d) a) (x.length:Int)) e).bind fun (r20,r21)=>some r20) else none) else none) else none:Option ((Arr 256)))).bind fun y18=>(ref25_Widen.f 60000 y18 e).bind fun r26=>(ref26_dot.f 60000 r5 y11).bind fun r27=>(ref25_Back.f 60000 r27).bind fun r28=>(ref25_Sub.f 60000 r26 r28).bind fun r29=>(ref25_Squeeze.f 60000 r29 1).bind fun r31=>(ref25_Pack.f 60000 r31 1).bind fun r32=>some (r32,0)):=by
 unfold ref26_Decrypt.f decE
 rfl
theorem rDecryptG {k e1 e2 du dv:Nat}(hx:KX k e1 e2 du dv) {sk:List Int}(hsk:Byt sk) (lsk:sk.length=384*k) {s:PL}(hr:rdV sk 12 (32*12) k 0 []=(s,true)) (hs:FL s) (ls:s.length=k) {c:List Int}(hc:Byt c) (lc:c.length=32*(du*k+dv)) :
  ref26_Decrypt.f 60000 (k:Int) (e1:Int) (e2:Int) (du:Int) (dv:Int) sk c=some (decV s c k du dv,0):=by
 obtain ⟨k2,k4,d1,d2,v1,v2⟩:=hx.bd
 have rd:=rRead (b:=sk) (d:=12) (k0:=k) hsk (by decide) (by omega) (by omega) (by omega)
 rw [hr] at rd
 have hdk:du*k≤11*4:=Nat.mul_le_mul (by omega) k4
 have ecm:k*(32*du)=32*(du*k):=by rw [Nat.mul_comm k,Nat.mul_assoc]
 have r2:=rRead (b:=c) (d:=du) (k0:=k) hc (by omega) (by omega) (by rw [lc,ecm]; omega) (by rw [lc]; omega)
 obtain ⟨g1,g2,g3⟩:=rdV_any (b:=c) (d:=du) (by omega) (by omega) k 0 [] (by rw [Nat.zero_add,lc,ecm]; omega) (fun a h=>by cases h)
 unfold decV
 generalize rdV c du (32*du) k 0 []=U at r2 g1 g2 g3 ⊢
 obtain ⟨u,ub⟩:=U
 have lu:u.length=k:=by rw [g2]; show 0+k=k; omega
 have l:=rDec_l0 (u:=u) (du:=du) (k:=k) (by omega) (by omega) (by omega) lu g3
 have fw:FL (u.map (widA du)):=fun a ha=>by
  obtain ⟨b,hb,rfl⟩:=List.mem_map.1 ha
  exact fit_widA (by omega) (by omega) (g3 b hb)
 have ld:(c.drop (32*(du*k))).length=32*dv:=by rw [List.length_drop,lc]; omega
 have un:=ref25_Unpack_eq 60000 (by decide) (c.drop (32*(du*k))) (fun x hx=>hc x (List.mem_of_mem_drop hx)) (dv:Int)
 obtain ⟨_,ub2⟩:=unpV_any (b:=c.drop (32*(du*k))) (d:=dv) (by omega) (by omega) ld
 generalize unpV (c.drop (32*(du*k))) (dv:Int)=V at un ub2 ⊢
 obtain ⟨v,vb⟩:=V
 have ub2':Bel ((2^dv:Nat):Int) v:=ub2
 have wd:=ref25_Widen_eq 60000 (by decide) v dv (by omega) (by omega)
 rw [if_pos (of_bel ub2')] at wd
 have fwv:FitK (widA dv v):=fit_widA (by omega) (by omega) ub2'
 have dt:=rDot hs (ntV_fit fw) (by rw [ntV_len,List.length_map]; omega) (by omega)
 have fd:=dotF_fit s (ntV (u.map (widA du))) (zeroA 256) fit_zero
 show _=some (packV (sqzA 1 (ksub (widA dv v) (pback (dotF s (ntV (u.map (widA du))) (zeroA 256))))) 1,0)
 generalize dotF s (ntV (u.map (widA du))) (zeroA 256)=dd at dt fd ⊢
 have bk:ref25_Back.f 60000 dd=some (pback dd):=ref25_Back_eq _ fd
 have fb:=fit_pback dd
 generalize pback dd=bb at bk fb ⊢
 have sb:=ref25_Sub_eq 60000 (by decide) (widA dv v) bb fwv fb
 have fs:=fit_ksub (widA dv v) bb
 generalize ksub (widA dv v) bb=ww at sb fs ⊢
 have sq:=ref25_Squeeze_eq 60000 (by decide) ww 1 (by decide) (by decide) fs
 have sq':ref25_Squeeze.f 60000 ww 1=some (sqzA 1 ww):=sq
 have pk:=ref25_Pack_eq 60000 (by decide) (sqzA 1 ww) 1
 have eX:imul .i64 (imul .i64 32 (du:Int)) (k:Int)=((32*(du*k):Nat):Int):=by
  have:imul .i64 32 (du:Int)=((32*du:Nat):Int):=by unfold imul; rw [id64 (by omega) (by omega)]; omega
  rw [this]
  unfold imul
  rw [← Int.natCast_mul,Nat.mul_assoc,id64 (by omega) (by omega)]
 have core:=rdec_core (R2:=ref26_read.f 60000 c (k:Int) (du:Int)) (L:=fun r7=>ref26_Decrypt.l0 60000 60000 (k:Int) (du:Int) r7 0 []) (Un:=fun r=>ref25_Unpack.f 60000 r (dv:Int)) (Wd:=fun r=>ref25_Widen.f 60000 r (dv:Int)) (Bk:=ref25_Back.f 60000) (Sq:=fun r=>ref25_Squeeze.f 60000 r 1) (Dt:=ref26_dot.f 60000) (Sb:=ref25_Sub.f 60000) (Pk:=fun r=>ref25_Pack.f 60000 r 1) (a2:=c) (X:=imul .i64 (imul .i64 32 (du:Int)) (k:Int))
  eX (by rw [lc]; omega) r2 l un wd dt bk sb sq' pk
 have sz1:ref26_Sizes.f 60000 (k:Int) (e1:Int) (e2:Int) (du:Int) (dv:Int)=some (((384*k+32:Nat):Int),((384*k:Nat):Int),((32*(du*k+dv):Nat):Int)):=(sizes_same _ _ _ _ _ _).trans hx.sizes
 rw [rDec_E]
 refine (dec_go sz1 (by omega) lsk rd lc).trans ?_
 exact core
theorem decV_byt {k du dv:Nat}(s:PL) (c:List Int):Byt (decV s c k du dv):=by
 unfold decV
 exact (packV_size (d:=1) (by decide) (by decide) (bel_sqz 1 _)).2
theorem decV_sh {k du dv:Nat}(s:PL) (c:List Int):Sh (decV s c k du dv):=⟨by rw [decV_len]; decide,decV_byt s c⟩
theorem decGood {k e1 e2 du dv:Nat}(hx:KX k e1 e2 du dv) {sk c:List Int}(hsk:Byt sk) (hc:Byt c) {t:PL}(hv:rdV sk 12 (32*12) k 0 []=(t,true)) (hl:sk.length=384*k) (lc:c.length=32*(du*k+dv)):∃ o,kpke_Decrypt.f 60000 (k:Int) (e1:Int) (e2:Int) (du:Int) (dv:Int) sk c=some o∧ref26_Decrypt.f 60000 (k:Int) (e1:Int) (e2:Int) (du:Int) (dv:Int) sk c=some o∧Sh o.1:=by
 obtain ⟨ft,lt⟩:=rdV12' hv rfl
 have h:=decV_sh (k:=k) (du:=du) (dv:=dv) t c
 have h1:=kDecryptG hx hsk hl hv ft lt hc lc
 have h2:=rDecryptG hx hsk hl hv ft lt hc lc
 generalize decV t c k du dv=m at h h1 h2
 exact ⟨(m,0),h1,h2,h⟩
theorem decKX {k e1 e2 du dv:Nat}(hx:KX k e1 e2 du dv) {sk c:List Int}(hsk:Byt sk) (hc:Byt c):∃ o,kpke_Decrypt.f 60000 (k:Int) (e1:Int) (e2:Int) (du:Int) (dv:Int) sk c=some o∧ref26_Decrypt.f 60000 (k:Int) (e1:Int) (e2:Int) (du:Int) (dv:Int) sk c=some o∧Sh o.1:=by
 obtain ⟨k2,k4,_⟩:=hx.bd
 have s1:=hx.sizes
 have s2:ref26_Sizes.f 60000 (k:Int) (e1:Int) (e2:Int) (du:Int) (dv:Int)=some (((384*k+32:Nat):Int),((384*k:Nat):Int),((32*(du*k+dv):Nat):Int)):=(sizes_same _ _ _ _ _ _).trans hx.sizes
 have r1:sk.length=384*k→_:=fun hl=>kRead (b:=sk) (d:=12) (k0:=k) hsk (by decide) (by omega) (by omega) (by omega)
 have r2:sk.length=384*k→_:=fun hl=>rRead (b:=sk) (d:=12) (k0:=k) hsk (by decide) (by omega) (by omega) (by omega)
 obtain ⟨v,hv⟩ : ∃ v,rdV sk 12 (32*12) k 0 []=v:=⟨_,rfl⟩
 rw [hv] at r1 r2
 rw [kDec_E,rDec_E]
 refine dec_both s1 s2 (by omega) r1 r2 (fun h1 h2 h3=>?_)
 rw [← kDec_E,← rDec_E]
 obtain ⟨t,b⟩:=v
 have hb:b=true:=h2
 subst hb
 exact decGood hx hsk hc hv h1 h3
theorem decBoth {a b c d e:Int}{sk x:List Int}(hp:Byt sk) (hm:Byt x):∃ v,kpke_Decrypt.f 60000 a b c d e sk x=some v∧ref26_Decrypt.f 60000 a b c d e sk x=some v∧Sh v.1:=by
 by_cases h:kindB a b c d e=true
 ·obtain ⟨k,e1,e2,du,dv,hx,rfl,rfl,rfl,rfl,rfl⟩:=kindB_KX h
  exact decKX hx hp hm
 ·have h':kindB a b c d e=false:=by simpa using h
  have s1:=sizes_bad h'
  have s2:=(sizes_same 60000 a b c d e).trans s1
  rw [kDec_E,rDec_E]
  exact ⟨([],9),dec_9 s1,dec_9 s2,sh_nil⟩
end Go.Proofs.YtemdbgmldljbpaaGreatDoor
