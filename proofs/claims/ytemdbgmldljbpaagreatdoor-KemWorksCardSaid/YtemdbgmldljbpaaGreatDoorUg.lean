/- own -/
import Derived.Test.YtemdbgmldljbpaaGreatDoorUc
set_option linter.unusedSimpArgs false
set_option linter.unusedVariables false
set_option maxRecDepth 100000
namespace Go.Proofs.YtemdbgmldljbpaaGreatDoor
open Go Go.Mx
theorem fill_all (Q:Int→Prop):∀ (l:List Int) (p:Arr 256 × Nat),(∀ x∈l,Q x)→(∀ i:Nat,i<256→Q (rd p.1 i))→∀ i:Nat,i<256→Q (rd (fillP p l).1 i)
 | [],p,_,h=>h
 | x::l,p,hl,h=>by
  have e:fillP p (x::l)=if p.2<256 then fillP (wr p.1 (p.2:Int) x,p.2+1) l else p:=rfl
  rw [e]
  by_cases hp:p.2<256
  ·rw [if_pos hp]
   refine fill_all Q l _ (fun y hy=>hl y (List.mem_cons_of_mem _ hy)) fun i hi=>?_
   show Q (rd (wr p.1 (p.2:Int) x) i)
   rw [rd_wr _ _ _ _ hi]
   split
   ·exact hl x List.mem_cons_self
   ·exact h i hi
  ·rw [if_neg hp]; exact h
theorem pck_q {v:Int}(h:0≤v):∀ x∈pck v,0≤x∧x<3329:=fun x hx=>by
 unfold pck at hx
 by_cases hv:v<3329
 ·rw [if_pos hv] at hx
  rw [List.mem_singleton.1 hx]
  exact ⟨h,hv⟩
 ·rw [if_neg hv] at hx; cases hx
theorem pv_q:∀ (l:List Int),Byt l→∀ x∈pv l,0≤x∧x<3329
 | [],_,x,hx=>by cases hx
 | [_],_,x,hx=>by cases hx
 | [_,_],_,x,hx=>by cases hx
 | a::b::c::l,hb,x,hx=>by
  obtain ⟨x0,x1⟩:=hb.head
  obtain ⟨y0,y1⟩:=hb.tail.head
  obtain ⟨z0,z1⟩:=hb.tail.tail.head
  have hn:0≤n3 a b c:=by unfold n3; omega
  have hx':x∈pck (n3 a b c%4096)++(pck (n3 a b c/4096)++pv l):=hx
  rcases List.mem_append.1 hx' with h | h
  ·exact pck_q (by omega) x h
  ·rcases List.mem_append.1 h with h | h
   ·exact pck_q (by omega) x h
   ·exact pv_q l hb.tail.tail.tail x h
theorem partV_fit (S:Arr 25 × Nat):FitK (partV S).1∧((partV S).2=0∨(partV S).2=12):=by
 have h:=fill_all (fun x=>0≤x∧x<3329) (pv (sqV 6 S false 12288).1) (zeroA 256,0) (pv_q _ (sqv_byt _ _ _ _)) fit_zero
 unfold partV
 generalize fillP (zeroA 256,0) (pv (sqV 6 S false 12288).1)=p at h ⊢
 by_cases hp:p.2<256
 ·rw [if_pos hp]; exact ⟨fit_zero,.inr rfl⟩
 ·rw [if_neg hp]; exact ⟨h,.inl rfl⟩
def pt (rho:List Int) (i j:Nat):Arr 256 × Int:=partV (absV 6 (zeroA 25,0) false (rho++[(j:Int),(i:Int)]))
def GoodG (g:Nat→Nat→Arr 256 × Int):Prop:=∀ i j,FitK (g i j).1∧((g i j).2=0∨(g i j).2=12)
theorem pt_good (rho:List Int):GoodG (pt rho):=fun i j=>partV_fit _
theorem pt_good' (rho:List Int):GoodG (fun i j=>pt rho j i):=fun i j=>partV_fit _
def rowF (g:Nat→Arr 256 × Int):Nat→Nat→PL→Option PL
 | 0,_,acc=>some acc
 | m+1,j,acc=>if (g j).2=0 then rowF g m (j+1) (acc++[(g j).1]) else none
def matF (g:Nat→Nat→Arr 256 × Int) (k:Nat):Nat→Nat→List PL→Option (List PL)
 | 0,_,acc=>some acc
 | m+1,i,acc=>match rowF (g i) k 0 [] with
  | some r=>matF g k m (i+1) (acc++[r])
  | none=>none
theorem rowF_some {g:Nat→Arr 256 × Int}(hg:∀ j,FitK (g j).1):∀ (m j:Nat) (acc r:PL),rowF g m j acc=some r→FL acc→r.length=acc.length+m∧FL r∧∀ q,j≤q→q<j+m→(g q).2=0
 | 0,j,acc,r,h,ha=>by
  have:=Option.some.inj h
  subst this
  exact ⟨rfl,ha,fun q h1 h2=>by omega⟩
 | m+1,j,acc,r,h,ha=>by
  have h':(if (g j).2=0 then rowF g m (j+1) (acc++[(g j).1]) else none)=some r:=h
  by_cases h0:(g j).2=0
  ·rw [if_pos h0] at h'
   obtain ⟨r1,r2,r3⟩:=rowF_some hg m (j+1) _ r h' fun a ha'=>by
    rcases List.mem_append.1 ha' with q | q
    ·exact ha a q
    ·rw [List.mem_singleton.1 q]; exact hg j
   refine ⟨by rw [r1,List.length_append]; show acc.length+1+m=_; omega,r2,fun q h1 h2=>?_⟩
   by_cases hq:q=j
   ·rw [hq]; exact h0
   ·exact r3 q (by omega) (by omega)
  ·rw [if_neg h0] at h'; cases h'
theorem rowF_ok {g:Nat→Arr 256 × Int} : ∀ (m j:Nat) (acc:PL),(∀ q,j≤q→q<j+m→(g q).2=0)→∃ r,rowF g m j acc=some r
 | 0,_,acc,_=>⟨acc,rfl⟩
 | m+1,j,acc,h=>by
  have e:rowF g (m+1) j acc=if (g j).2=0 then rowF g m (j+1) (acc++[(g j).1]) else none:=rfl
  rw [e,if_pos (h j (Nat.le_refl _) (by omega))]
  exact rowF_ok m (j+1) _ fun q h1 h2=>h q (by omega) (by omega)
theorem matF_some {g:Nat→Nat→Arr 256 × Int}(hg:GoodG g) {k:Nat} : ∀ (m i:Nat) (acc M:List PL),matF g k m i acc=some M→(∀ r∈acc,FL r∧r.length=k)→M.length=acc.length+m∧(∀ r∈M,FL r∧r.length=k)∧∀ p q,i≤p→p<i+m→q<k→(g p q).2=0
 | 0,i,acc,M,h,ha=>by
  have:=Option.some.inj h
  subst this
  exact ⟨rfl,ha,fun p q h1 h2=>by omega⟩
 | m+1,i,acc,M,h,ha=>by
  have h':(match rowF (g i) k 0 [] with | some r=>matF g k m (i+1) (acc++[r]) | none=>none)=some M:=h
  cases hr:rowF (g i) k 0 [] with
  | none=>rw [hr] at h'; cases h'
  | some r=>
   rw [hr] at h'
   obtain ⟨r1,r2,r3⟩:=rowF_some (fun j=>(hg i j).1) k 0 [] r hr (fun a h=>by cases h)
   obtain ⟨s1,s2,s3⟩:=matF_some hg m (i+1) _ M h' fun x hx=>by
    rcases List.mem_append.1 hx with q | q
    ·exact ha x q
    ·rw [List.mem_singleton.1 q]; exact ⟨r2,by rw [r1]; show 0+k=k; omega⟩
   refine ⟨by rw [s1,List.length_append]; show acc.length+1+m=_; omega,s2,fun p q h1 h2 h3=>?_⟩
   by_cases hp:p=i
   ·rw [hp]; exact r3 q (by omega) (by omega)
   ·exact s3 p q (by omega) (by omega) h3
theorem matF_ok {g:Nat→Nat→Arr 256 × Int}{k:Nat} : ∀ (m i:Nat) (acc:List PL),(∀ p q,i≤p→p<i+m→q<k→(g p q).2=0)→∃ M,matF g k m i acc=some M
 | 0,_,acc,_=>⟨acc,rfl⟩
 | m+1,i,acc,h=>by
  obtain ⟨r,hr⟩:=rowF_ok (g:=g i) k 0 [] fun q h1 h2=>h i q (Nat.le_refl _) (by omega) (by omega)
  have e:matF g k (m+1) i acc=match rowF (g i) k 0 [] with | some r=>matF g k m (i+1) (acc++[r]) | none=>none:=rfl
  rw [e,hr]
  exact matF_ok m (i+1) _ fun p q h1 h2 h3=>h p q (by omega) (by omega) h3
theorem rdLLg {z:List PL}{i:Nat}(h:i<z.length):rdLL z (i:Int)=z[i]:=by
 unfold rdLL
 rw [Int.toNat_natCast,List.getD_eq_getElem?_getD,List.getElem?_eq_getElem h]
 rfl
theorem rdLLs {z:List PL}{i:Nat}(h:i<z.length) (r:PL):rdLL (z.set i r) (i:Int)=r:=by
 rw [rdLLg (by rw [List.length_set]; exact h),List.getElem_set_self]
def rowO (z:List PL) (i:Nat) (r:Option PL):List PL ⊕ (List PL × Int):=match r with
 | some r=>.inl (z.set i r)
 | none=>.inr ([],12)
theorem kRow {rho:List Int}(lr:rho.length≤300) {k0 i:Nat}(hk0:k0≤100) (hi:i<k0) {z:List PL}(lz:z.length=k0):∀ (m j k:Nat) (acc:PL),j+m=k0→m<k→acc.length≤1000+j →
  kpke_expanded_s2.l1 60000 k (k0:Int) rho (i:Int) (j:Int) (z.set i acc)=some (rowO z i (rowF (pt rho i) m j acc)):=by
 intro m
 induction m with
 | zero=>
  intro j k acc hj hk ha
  obtain ⟨k,rfl⟩ : ∃ q,k=q+1:=⟨k-1,by omega⟩
  have c:¬ (j:Int)<(k0:Int):=by omega
  simp only [kpke_expanded_s2.l1,c,if_false]
  rfl
 | succ m ih=>
  intro j k acc hj hk ha
  obtain ⟨k,rfl⟩ : ∃ q,k=q+1:=⟨k-1,by omega⟩
  have c:(j:Int)<(k0:Int):=by omega
  have c0:(0:Int)≤(i:Int):=by omega
  have c1:(i:Int)<(((z.set i acc).length:Nat):Int):=by rw [List.length_set]; omega
  have hp:=kParts (i:=(i:Int)) (j:=(j:Int)) lr
  have hp':kpke_Parts.f 60000 rho (i:Int) (j:Int)=some (pt rho i j):=hp
  have g2:=pt_good rho i j
  have er:rowF (pt rho i) (m+1) j acc=if (pt rho i j).2=0 then rowF (pt rho i) m (j+1) (acc++[(pt rho i j).1]) else none:=rfl
  rw [er]
  generalize pt rho i j=v at hp' g2 ⊢
  obtain ⟨va,vb⟩:=v
  have c2:(rdLL (z.set i acc) (i:Int)).length+([va]:PL).length≤137438953472:=by
   rw [rdLLs (by omega)]
   show acc.length+1≤_
   omega
  have es:wrL (z.set i acc) (i:Int) (rdLL (z.set i acc) (i:Int)++[va])=z.set i (acc++[va]):=by
   rw [rdLLs (by omega),wrS,List.set_set]
  by_cases h0:vb=0
  ·simp only [kpke_expanded_s2.l1,c,c0,c1,cvu8 (show i<256 by omega),cvu8 (show j<256 by omega),hp',h0,c2,es,ginc (i:=j) (by omega),if_true,Option.bind_some]
   exact ih (j+1) k _ (by omega) (by omega) (by rw [List.length_append]; show acc.length+1≤_; omega)
  ·have h12:vb=12:=by
    rcases g2.2 with h | h
    ·exact absurd h h0
    ·exact h
   simp only [kpke_expanded_s2.l1,c,c0,c1,cvu8 (show i<256 by omega),cvu8 (show j<256 by omega),hp',h0,if_true,if_false,Option.bind_some,h12]
   rfl
def matO (r:Option (List PL)):List PL × Int:=match r with
 | some M=>(M,0)
 | none=>([],12)
theorem kMat_l0 {rho:List Int}(lr:rho.length≤300) {k0:Nat}(hk0:k0≤100):∀ (m i k:Nat) (acc:List PL),i+m=k0→m<k→acc.length=i →
  kpke_expanded_s2.l0 60000 k (k0:Int) rho (i:Int) (acc++List.replicate m [])=some (match matF (pt rho) k0 m i acc with
   | some M=>.inl M
   | none=>.inr ([],12)):=by
 have lz:(List.replicate ((k0:Nat):Int).toNat ([]:PL)).length=k0:=by rw [List.length_replicate,Int.toNat_natCast]
 intro m
 induction m with
 | zero=>
  intro i k acc hi hk ha
  obtain ⟨k,rfl⟩ : ∃ q,k=q+1:=⟨k-1,by omega⟩
  have c:¬ (i:Int)<(((List.replicate ((k0:Nat):Int).toNat ([]:PL)).length:Nat):Int):=by rw [lz]; omega
  simp only [kpke_expanded_s2.l0,c,if_false,List.replicate_zero,List.append_nil]
  rfl
 | succ m ih=>
  intro i k acc hi hk ha
  obtain ⟨k,rfl⟩ : ∃ q,k=q+1:=⟨k-1,by omega⟩
  have c:(i:Int)<(((List.replicate ((k0:Nat):Int).toNat ([]:PL)).length:Nat):Int):=by rw [lz]; omega
  have lz2:(acc++List.replicate (m+1) ([]:PL)).length=k0:=by rw [List.length_append,List.length_replicate,ha]; omega
  have e0:(acc++List.replicate (m+1) ([]:PL)).set i []=acc++List.replicate (m+1) []:=by
   rw [List.set_append_right _ _ (by omega),ha,Nat.sub_self,List.replicate_succ,List.set_cons_zero]
  have h:=kRow lr hk0 (show i<k0 by omega) lz2 k0 0 60000 [] (by omega) (by omega) (by show 0≤_; omega)
  rw [e0] at h
  have h':kpke_expanded_s2.l1 60000 60000 (k0:Int) rho (i:Int) 0 (acc++List.replicate (m+1) [])=_:=h
  have er:matF (pt rho) k0 (m+1) i acc=match rowF (pt rho i) k0 0 [] with | some r=>matF (pt rho) k0 m (i+1) (acc++[r]) | none=>none:=rfl
  rw [er]
  generalize rowF (pt rho i) k0 0 []=R at h' ⊢
  cases R with
  | none=>
   simp only [kpke_expanded_s2.l0,c,h',if_true,Option.bind_some]
   rfl
  | some r=>
   have es:(acc++List.replicate (m+1) ([]:PL)).set i r=(acc++[r])++List.replicate m []:=by
    rw [List.set_append_right _ _ (by omega),ha,Nat.sub_self,List.replicate_succ,List.set_cons_zero,List.append_assoc]
    rfl
   have i1:=ih (i+1) k (acc++[r]) (by omega) (by omega) (by rw [List.length_append,ha]; rfl)
   rw [← es] at i1
   simp only [kpke_expanded_s2.l0,c,h',if_true,Option.bind_some,ginc (i:=i) (by omega)]
   exact i1
theorem kMat {rho:List Int}(lr:rho.length≤300) {k0:Nat}(hk0:k0≤100) (a b c d:Int):kpke_expanded_s2.f 60000 (k0:Int) a b c d rho=some (matO (matF (pt rho) k0 k0 0 [])):=by
 have h:=kMat_l0 lr hk0 k0 0 60000 [] (by omega) (by omega) rfl
 have ez:(List.replicate ((k0:Nat):Int).toNat ([]:PL))=[]++List.replicate k0 []:=by rw [Int.toNat_natCast]; rfl
 have c0:(0:Int)≤(k0:Int):=by omega
 have c1:(k0:Int)≤5864062014805:=by omega
 have h':kpke_expanded_s2.l0 60000 60000 (k0:Int) rho 0 ([]++List.replicate k0 [])=_:=h
 unfold kpke_expanded_s2.f
 rw [if_pos c0,if_pos c1,ez,h']
 cases matF (pt rho) k0 k0 0 [] with
 | some M=>rfl
 | none=>rfl
theorem kRowT {rho:List Int}(lr:rho.length≤300) {k0 i:Nat}(hk0:k0≤100) (hi:i<k0) {z:List PL}(lz:z.length=k0):∀ (m j k:Nat) (acc:PL),j+m=k0→m<k→acc.length≤1000+j →
  kpke_expanded_s.l1 60000 k (k0:Int) rho (i:Int) (j:Int) (z.set i acc)=some (rowO z i (rowF (fun j=>pt rho j i) m j acc)):=by
 intro m
 induction m with
 | zero=>
  intro j k acc hj hk ha
  obtain ⟨k,rfl⟩ : ∃ q,k=q+1:=⟨k-1,by omega⟩
  have c:¬ (j:Int)<(k0:Int):=by omega
  simp only [kpke_expanded_s.l1,c,if_false]
  rfl
 | succ m ih=>
  intro j k acc hj hk ha
  obtain ⟨k,rfl⟩ : ∃ q,k=q+1:=⟨k-1,by omega⟩
  have c:(j:Int)<(k0:Int):=by omega
  have c0:(0:Int)≤(i:Int):=by omega
  have c1:(i:Int)<(((z.set i acc).length:Nat):Int):=by rw [List.length_set]; omega
  have hp:=kParts (i:=(j:Int)) (j:=(i:Int)) lr
  have hp':kpke_Parts.f 60000 rho (j:Int) (i:Int)=some (pt rho j i):=hp
  have g2:=pt_good rho j i
  have er:rowF (fun j=>pt rho j i) (m+1) j acc=if (pt rho j i).2=0 then rowF (fun j=>pt rho j i) m (j+1) (acc++[(pt rho j i).1]) else none:=rfl
  rw [er]
  generalize pt rho j i=v at hp' g2 ⊢
  obtain ⟨va,vb⟩:=v
  have c2:(rdLL (z.set i acc) (i:Int)).length+([va]:PL).length≤137438953472:=by
   rw [rdLLs (by omega)]
   show acc.length+1≤_
   omega
  have es:wrL (z.set i acc) (i:Int) (rdLL (z.set i acc) (i:Int)++[va])=z.set i (acc++[va]):=by
   rw [rdLLs (by omega),wrS,List.set_set]
  by_cases h0:vb=0
  ·simp only [kpke_expanded_s.l1,c,c0,c1,cvu8 (show i<256 by omega),cvu8 (show j<256 by omega),hp',h0,c2,es,ginc (i:=j) (by omega),if_true,Option.bind_some]
   exact ih (j+1) k _ (by omega) (by omega) (by rw [List.length_append]; show acc.length+1≤_; omega)
  ·have h12:vb=12:=by
    rcases g2.2 with h | h
    ·exact absurd h h0
    ·exact h
   simp only [kpke_expanded_s.l1,c,c0,c1,cvu8 (show i<256 by omega),cvu8 (show j<256 by omega),hp',h0,if_true,if_false,Option.bind_some,h12]
   rfl
theorem kMatT_l0 {rho:List Int}(lr:rho.length≤300) {k0:Nat}(hk0:k0≤100):∀ (m i k:Nat) (acc:List PL),i+m=k0→m<k→acc.length=i →
  kpke_expanded_s.l0 60000 k (k0:Int) rho (i:Int) (acc++List.replicate m [])=some (match matF (fun i j=>pt rho j i) k0 m i acc with
   | some M=>.inl M
   | none=>.inr ([],12)):=by
 have lz:(List.replicate ((k0:Nat):Int).toNat ([]:PL)).length=k0:=by rw [List.length_replicate,Int.toNat_natCast]
 intro m
 induction m with
 | zero=>
  intro i k acc hi hk ha
  obtain ⟨k,rfl⟩ : ∃ q,k=q+1:=⟨k-1,by omega⟩
  have c:¬ (i:Int)<(((List.replicate ((k0:Nat):Int).toNat ([]:PL)).length:Nat):Int):=by rw [lz]; omega
  simp only [kpke_expanded_s.l0,c,if_false,List.replicate_zero,List.append_nil]
  rfl
 | succ m ih=>
  intro i k acc hi hk ha
  obtain ⟨k,rfl⟩ : ∃ q,k=q+1:=⟨k-1,by omega⟩
  have c:(i:Int)<(((List.replicate ((k0:Nat):Int).toNat ([]:PL)).length:Nat):Int):=by rw [lz]; omega
  have lz2:(acc++List.replicate (m+1) ([]:PL)).length=k0:=by rw [List.length_append,List.length_replicate,ha]; omega
  have e0:(acc++List.replicate (m+1) ([]:PL)).set i []=acc++List.replicate (m+1) []:=by
   rw [List.set_append_right _ _ (by omega),ha,Nat.sub_self,List.replicate_succ,List.set_cons_zero]
  have h:=kRowT lr hk0 (show i<k0 by omega) lz2 k0 0 60000 [] (by omega) (by omega) (by show 0≤_; omega)
  rw [e0] at h
  have h':kpke_expanded_s.l1 60000 60000 (k0:Int) rho (i:Int) 0 (acc++List.replicate (m+1) [])=_:=h
  have er:matF (fun i j=>pt rho j i) k0 (m+1) i acc=match rowF (fun j=>pt rho j i) k0 0 [] with | some r=>matF (fun i j=>pt rho j i) k0 m (i+1) (acc++[r]) | none=>none:=rfl
  rw [er]
  generalize rowF (fun j=>pt rho j i) k0 0 []=R at h' ⊢
  cases R with
  | none=>
   simp only [kpke_expanded_s.l0,c,h',if_true,Option.bind_some]
   rfl
  | some r=>
   have es:(acc++List.replicate (m+1) ([]:PL)).set i r=(acc++[r])++List.replicate m []:=by
    rw [List.set_append_right _ _ (by omega),ha,Nat.sub_self,List.replicate_succ,List.set_cons_zero,List.append_assoc]
    rfl
   have i1:=ih (i+1) k (acc++[r]) (by omega) (by omega) (by rw [List.length_append,ha]; rfl)
   rw [← es] at i1
   simp only [kpke_expanded_s.l0,c,h',if_true,Option.bind_some,ginc (i:=i) (by omega)]
   exact i1
theorem kMatT {rho:List Int}(lr:rho.length≤300) {k0:Nat}(hk0:k0≤100) (a b c d:Int):kpke_expanded_s.f 60000 (k0:Int) a b c d rho=some (matO (matF (fun i j=>pt rho j i) k0 k0 0 [])):=by
 have h:=kMatT_l0 lr hk0 k0 0 60000 [] (by omega) (by omega) rfl
 have ez:(List.replicate ((k0:Nat):Int).toNat ([]:PL))=[]++List.replicate k0 []:=by rw [Int.toNat_natCast]; rfl
 have c0:(0:Int)≤(k0:Int):=by omega
 have c1:(k0:Int)≤5864062014805:=by omega
 have h':kpke_expanded_s.l0 60000 60000 (k0:Int) rho 0 ([]++List.replicate k0 [])=_:=h
 unfold kpke_expanded_s.f
 rw [if_pos c0,if_pos c1,ez,h']
 cases matF (fun i j=>pt rho j i) k0 k0 0 [] with
 | some M=>rfl
 | none=>rfl
end Go.Proofs.YtemdbgmldljbpaaGreatDoor

/- own -/
set_option linter.unusedSimpArgs false
set_option linter.unusedVariables false
set_option maxRecDepth 100000
namespace Go.Proofs.YtemdbgmldljbpaaGreatDoor
open Go Go.Mx
def KX (k e1 e2 du dv:Nat):Prop:=(k=2∧e1=3∧e2=2∧du=10∧dv=4)∨(k=3∧e1=2∧e2=2∧du=10∧dv=4)∨(k=4∧e1=2∧e2=2∧du=11∧dv=5)
theorem KX.known {k e1 e2 du dv:Nat}(h:KX k e1 e2 du dv):kpke_known.f 60000 (k:Int) (e1:Int) (e2:Int) (du:Int) (dv:Int)=some true:=by
 rw [kKnown]
 rcases h with ⟨rfl,rfl,rfl,rfl,rfl⟩ | ⟨rfl,rfl,rfl,rfl,rfl⟩ | ⟨rfl,rfl,rfl,rfl,rfl⟩<;>rfl
theorem KX.sizes {k e1 e2 du dv:Nat}(h:KX k e1 e2 du dv):kpke_Sizes.f 60000 (k:Int) (e1:Int) (e2:Int) (du:Int) (dv:Int)=some (((384*k+32:Nat):Int),((384*k:Nat):Int),((32*(du*k+dv):Nat):Int)):=by
 unfold kpke_Sizes.f
 rw [h.known]
 rcases h with ⟨rfl,rfl,rfl,rfl,rfl⟩ | ⟨rfl,rfl,rfl,rfl,rfl⟩ | ⟨rfl,rfl,rfl,rfl,rfl⟩<;>rfl
theorem KX.e1 {k e1 e2 du dv:Nat}(h:KX k e1 e2 du dv):e1=2∨e1=3:=by rcases h with ⟨_,h,_⟩ | ⟨_,h,_⟩ | ⟨_,h,_⟩<;>omega
theorem KX.e2 {k e1 e2 du dv:Nat}(h:KX k e1 e2 du dv):e2=2∨e2=3:=by rcases h with ⟨_,_,h,_⟩ | ⟨_,_,h,_⟩ | ⟨_,_,h,_⟩<;>omega
theorem KX.bd {k e1 e2 du dv:Nat}(h:KX k e1 e2 du dv):2≤k∧k≤4∧10≤du∧du≤11∧4≤dv∧dv≤5:=by rcases h with ⟨h1,_,_,h4,h5⟩ | ⟨h1,_,_,h4,h5⟩ | ⟨h1,_,_,h4,h5⟩<;>omega
theorem packV_size {a:Arr 256}{d:Nat}(h1:1≤d) (h2:d≤12) (h:Bel (if d=12 then 3329 else ((2^d:Nat):Int)) a):(packV a (d:Int)).length=32*d∧Byt (packV a (d:Int)):=by
 unfold packV
 rw [if_pos ⟨by omega,by omega,by rw [Int.toNat_natCast]; exact of_bel h⟩,Int.toNat_natCast]
 exact ⟨by rw [dig_len]; omega,dig_byt _ _⟩
theorem pack12 {a:Arr 256}(h:FitK a):(packV a 12).length=384∧Byt (packV a 12):=packV_size (d:=12) (by decide) (by decide) h
theorem pkV_len:∀ {v:PL},FL v→(pkV v 12).length=384*v.length∧Byt (pkV v 12)
 | [],_=>⟨rfl,fun x h=>by cases h⟩
 | a::v,h=>by
  obtain ⟨p1,p2⟩:=pack12 (h a List.mem_cons_self)
  obtain ⟨q1,q2⟩:=pkV_len (v:=v) fun b hb=>h b (List.mem_cons_of_mem _ hb)
  have e:pkV (a::v) 12=packV a 12++pkV v 12:=List.flatMap_cons ..
  rw [e]
  exact ⟨by rw [List.length_append,p1,q1,List.length_cons]; omega,p2.append q2⟩
theorem pkV_lenD {d:Nat}(h1:1≤d) (h2:d≤11):∀ {v:PL},(∀ a∈v,Bel ((2^d:Nat):Int) a)→(pkV v (d:Int)).length=32*d*v.length∧Byt (pkV v (d:Int))
 | [],_=>⟨rfl,fun x h=>by cases h⟩
 | a::v,h=>by
  obtain ⟨p1,p2⟩:=packV_size h1 (by omega) (by rw [if_neg (by omega)]; exact h a List.mem_cons_self)
  obtain ⟨q1,q2⟩:=pkV_lenD h1 h2 (v:=v) fun b hb=>h b (List.mem_cons_of_mem _ hb)
  have e:pkV (a::v) (d:Int)=packV a (d:Int)++pkV v (d:Int):=List.flatMap_cons ..
  rw [e]
  exact ⟨by rw [List.length_append,p1,q1,List.length_cons,Nat.mul_add,Nat.mul_one]; omega,p2.append q2⟩
theorem unpV_any {b:List Int}{d:Nat}(h1:1≤d) (h2:d≤11) (lb:b.length=32*d):(unpV b (d:Int)).2=true∧Bel ((2^d:Nat):Int) (unpV b (d:Int)).1:=by
 have hb:Bel ((2^d:Nat):Int) (unp (dig d 256 (NB b))):=fun i hi=>by
  unfold unp
  rw [rd_mapA _ _ hi]
  have hl:i<(dig d 256 (NB b)).length:=by rw [dig_len]; exact hi
  have hm:=dig_bd d 256 (NB b) _ (List.getElem_mem hl)
  have er:rdL (CI .u32) (dig d 256 (NB b)) (i:Int)=(dig d 256 (NB b))[i]:=by
   unfold rdL
   rw [Int.toNat_natCast,List.getD_eq_getElem?_getD,List.getElem?_eq_getElem hl]
   rfl
  have hp:(2:Nat)^d≤2^11:=Nat.pow_le_pow_right (by decide) h2
  have cv:iconv .i32 (dig d 256 (NB b))[i]=(dig d 256 (NB b))[i]:=by unfold iconv; rw [w32]; omega
  rw [er,cv]
  exact hm
 unfold unpV outU
 rw [if_pos ⟨by omega,by omega,by omega⟩,Int.toNat_natCast,if_neg (show ¬ d=12 by omega),if_pos (of_bel hb)]
 exact ⟨rfl,hb⟩
theorem fit_widA {a:Arr 256}{d:Nat}(h1:1≤d) (h2:d≤11) (h:Bel ((2^d:Nat):Int) a):FitK (widA d a):=fit_map fun i hi=>by
 obtain ⟨x0,x1⟩:=h i hi
 obtain ⟨y,hy⟩ : ∃ y:Nat,rd a (i:Int)=(y:Int):=⟨(rd a (i:Int)).toNat,by omega⟩
 have hy2:y<2^d:=by rw [hy] at x1; exact_mod_cast x1
 rw [hy,Int.toNat_natCast]
 have hp1:2^(d-1)≤2^10:=Nat.pow_le_pow_right (by decide) (by omega)
 have hw:wid d y<3329:=by
  unfold wid
  rw [Nat.div_lt_iff_lt_mul (Nat.two_pow_pos d)]
  have:y*3329+3329≤2^d*3329:=by
   have:=Nat.mul_le_mul_right 3329 (show y+1≤2^d by omega)
   rw [Nat.add_mul,Nat.one_mul] at this
   exact this
  rw [Nat.mul_comm 3329]
  omega
 exact ⟨by omega,by omega⟩
end Go.Proofs.YtemdbgmldljbpaaGreatDoor

/- own -/
set_option linter.unusedSimpArgs false
set_option linter.unusedVariables false
set_option maxRecDepth 100000
namespace Go.Proofs.YtemdbgmldljbpaaGreatDoor
open Go Go.Mx
theorem rdPz {z z0:PL}{i:Nat}(h:i<z0.length) (he:z[i]? = z0[i]?):rdL CP z (i:Int)=z0[i]:=by
 unfold rdL
 rw [Int.toNat_natCast,List.getD_eq_getElem?_getD,he,List.getElem?_eq_getElem h]
 rfl
def tV (s t:PL) (M:List PL) (k:Nat):PL:=(List.range k).map fun i=>padd (t.getD i (zeroA 256)) (dotF s (M.getD i []) (zeroA 256))
theorem tV_len (s t:PL) (M:List PL) (k:Nat):(tV s t M k).length=k:=by simp [tV]
theorem tV_fit (s t:PL) (M:List PL) (k:Nat):FL (tV s t M k):=fun a ha=>by
 obtain ⟨i,_,rfl⟩:=List.mem_map.1 ha
 exact fit_padd _ _
theorem kKeys_l0 {s t:PL}{M:List PL}{k:Nat}(hk:k≤100) (hs:FL s) (ls:s.length=k) (ht:FL t) (lt:t.length=k) (hM:∀ r∈M,FL r∧r.length=k) (lM:M.length=k):kpke_Keys.l0 60000 60000 M s 0 t=some (tV s t M k):=by
 refine fill0 (fun q i z=>kpke_Keys.l0 60000 q M s i z) k (fun i=>padd (t.getD i (zeroA 256)) (dotF s (M.getD i []) (zeroA 256))) t lt (fun q z=>?_) (fun q i z hi hl he=>?_) 60000 (by omega)
 ·have c:¬ (k:Int)<((M.length:Nat):Int):=by omega
  simp only [kpke_Keys.l0,c,if_false]
 ·have hM1:i<M.length:=by omega
  obtain ⟨r1,r2⟩:=hM _ (List.getElem_mem hM1)
  have c:(i:Int)<((M.length:Nat):Int):=by omega
  have c0:(0:Int)≤(i:Int):=by omega
  have c1:(i:Int)<((z.length:Nat):Int):=by omega
  have hd:=kDotS hs r1 (by omega) (by omega)
  have ha:=kq_Add_eq 60000 (by decide) t[i] (dotF s M[i] (zeroA 256)) (ht _ (List.getElem_mem (by omega))) (dotF_fit _ _ _ fit_zero)
  have e1:t.getD i (zeroA 256)=t[i]:=getD_mem (by omega)
  have e2:M.getD i []=M[i]:=by rw [List.getD_eq_getElem?_getD,List.getElem?_eq_getElem hM1]; rfl
  rw [e1,e2]
  simp only [kpke_Keys.l0,c,c0,c1,rdLLg hM1,hd,rdPz (show i<t.length by omega) (he i (Nat.le_refl _)),ha,ginc (i:=i) (by omega),wrS,if_true,Option.bind_some]
def gV (seed:List Int) (k:Nat):List Int:=(sqV 5 (absV 5 (zeroA 25,0) false (seed++[(k:Int)])) false 64).1
theorem gV_len (seed:List Int) (k:Nat):(gV seed k).length=64:=by unfold gV; rw [sqv_len]; rfl
def rhoV (seed:List Int) (k:Nat):List Int:=subL (gV seed k) 0 32
def sigV (seed:List Int) (k:Nat):List Int:=subL (gV seed k) 32 64
theorem rhoV_len (seed:List Int) (k:Nat):(rhoV seed k).length=32:=by
 unfold rhoV
 show ((((gV seed k).take 32)).drop 0).length=32
 rw [List.drop_zero,List.length_take,gV_len]
 rfl
theorem sigV_len (seed:List Int) (k:Nat):(sigV seed k).length=32:=by
 unfold sigV
 show ((((gV seed k).take 64)).drop 32).length=32
 rw [List.length_drop,List.length_take,gV_len]
 rfl
def sK (seed:List Int) (k e1:Nat):PL:=ntV (nsV k e1 (sigV seed k) 0)
def tK (seed:List Int) (k e1:Nat) (M:List PL):PL:=tV (sK seed k e1) (ntV (nsV k e1 (sigV seed k) k)) M k
theorem ntV_len (v:PL):(ntV v).length=v.length:=by simp [ntV]
theorem sK_len (seed:List Int) (k e1:Nat):(sK seed k e1).length=k:=by unfold sK; rw [ntV_len,nsV_len]
theorem sK_fit (seed:List Int) (k e1:Nat):FL (sK seed k e1):=ntV_fit (nsV_fit _ _ _ _)
def keysV (seed:List Int) (k e1:Nat):List Int × List Int × Int:=match matF (pt (rhoV seed k)) k k 0 [] with
 | some M=>(pkV (tK seed k e1 M) 12++rhoV seed k,pkV (sK seed k e1) 12,0)
 | none=>([],[],12)
theorem keys_core {Kn:Option Bool}{c:Prop}[Decidable c] {J:Option (List Int)}{Sm:List Int→Option (List Int × Int)}{Ex:List Int→Option (List PL × Int)}{N1 N2:List Int→Option PL}{Vp:PL→Option PL}{L:List PL→PL→PL→Option PL}{Pk:PL→Option (List Int)}{Jn:List Int→List Int→Option (List Int)}{j g pk pr pub:List Int}{er:Int}{Mo:List PL × Int}{n1 n2 s t t2:PL}
  (hK:Kn=some true) (hc:c) (hJ:J=some j) (hS:Sm j=some (g,er)) (lg:g.length=64) (hE:Ex (subL g 0 32)=some Mo) (h1:N1 (subL g 32 64)=some n1) (h2:Vp n1=some s) (h3:N2 (subL g 32 64)=some n2) (h4:Vp n2=some t) (h5:Mo.2=0→L Mo.1 s t=some t2) (h6:Pk t2=some pk) (h7:Jn pk (subL g 0 32)=some pub) (h8:Pk s=some pr) :
  (Kn.bind fun r2=>if r2=true then (if c then (J.bind fun r5=>(Sm r5).bind fun (r6,r7)=>if 0≤(0:Int) then (if (0:Int)≤(32:Int) then (if (32:Int)≤r6.length then (if 0≤(32:Int) then (if (32:Int)≤(r6.length:Int) then (if (r6.length:Int)≤r6.length then ((Ex (subL r6 0 32)).bind fun (r10,r11)=>if r11=0 then ((N1 (subL r6 32 (r6.length:Int))).bind fun r16=>(Vp r16).bind fun r17=>(N2 (subL r6 32 (r6.length:Int))).bind fun r18=>(Vp r18).bind fun r19=>(L r10 r17 r19).bind fun y22=>(Pk y22).bind fun r29=>(Jn r29 (subL r6 0 32)).bind fun r31=>(Pk r17).bind fun r32=>some (r31,r32,0)) else (some (([]:List Int),([]:List Int),r11))) else none) else none) else none) else none) else none) else none) else (some (([]:List Int),([]:List Int),14))) else (some (([]:List Int),([]:List Int),9)))=some (if Mo.2=0 then (pub,pr,0) else ([],[],Mo.2)):=by
 subst hK hJ
 obtain ⟨M,e⟩:=Mo
 have c0:(0:Int)≤0:=by decide
 have c1:(0:Int)≤32:=by decide
 have c2:(32:Int)≤((g.length:Nat):Int):=by omega
 have c3:((g.length:Nat):Int)≤((g.length:Nat):Int):=Int.le_refl _
 have c4:((g.length:Nat):Int)=64:=by omega
 simp only at h5
 simp only [Option.bind_some,if_true,hc,hS,c0,c1,c2,c3,hE]
 by_cases h0:e=0
 ·have h5':=h5 h0
  rw [c4]
  simp only [h0,if_true,h1,h2,h3,h4,h5',h6,h7,h8,Option.bind_some]
 ·simp only [h0,if_false]
theorem kKeys {k e1 e2 du dv:Nat}(hx:KX k e1 e2 du dv) {seed:List Int}(lseed:seed.length=32):kpke_Keys.f 60000 (k:Int) (e1:Int) (e2:Int) (du:Int) (dv:Int) seed=some (keysV seed k e1):=by
 obtain ⟨k2,k4,_⟩:=hx.bd
 have he1:=hx.e1
 have jn:=gJoinW 60000 (W:=[seed,[(k:Int)]]) (by show 2<60000; decide) (by show 2<100000; decide) (by simp; omega)
 rw [show ([seed,[(k:Int)]]:List (List Int)).flatten=seed++[(k:Int)] by simp] at jn
 have jn':bits_Join.f 60000 [seed,[iconv .u8 (k:Int)]]=some (seed++[(k:Int)]):=by rw [cvu8 (by omega)]; exact jn
 have sm0:=kSum 5 (seed++[(k:Int)]) (by rw [List.length_append]; show seed.length+1≤_; omega) 64 (.inl (by decide))
 have sv:sumV 5 (seed++[(k:Int)]) 64=(gV seed k,0):=by
  unfold sumV
  rw [if_neg (by decide),if_neg (by decide),if_neg (by decide)]
  rfl
 have sm:=sm0.trans (congrArg some sv)
 have lg:=gV_len seed k
 have ex:=kMat (rho:=rhoV seed k) (by rw [rhoV_len]; decide) (k0:=k) (by omega) (e1:Int) (e2:Int) (du:Int) (dv:Int)
 have n1:=kNoises (k:=k) (by omega) he1 (s:=sigV seed k) (by rw [sigV_len]; decide) (first:=0) (by decide)
 have n2:=kNoises (k:=k) (by omega) he1 (s:=sigV seed k) (by rw [sigV_len]; decide) (first:=k) (by omega)
 have p1:=kVparts (nsV_fit k e1 (sigV seed k) 0) (by rw [nsV_len]; omega)
 have p2:=kVparts (nsV_fit k e1 (sigV seed k) k) (by rw [nsV_len]; omega)
 have good:=pt_good (rhoV seed k)
 unfold keysV
 cases hM:matF (pt (rhoV seed k)) k k 0 [] with
 | none=>
  rw [hM] at ex
  have core:=keys_core (Kn:=kpke_known.f 60000 (k:Int) (e1:Int) (e2:Int) (du:Int) (dv:Int)) (c:=((seed.length:Nat):Int)=32) (Sm:=fun r5=>keccak_Sum.f 60000 5 r5 64) (Ex:=fun r=>kpke_expanded_s2.f 60000 (k:Int) (e1:Int) (e2:Int) (du:Int) (dv:Int) r) (N1:=fun r=>kpke_noises.f 60000 (k:Int) (e1:Int) r 0) (N2:=fun r=>kpke_noises.f 60000 (k:Int) (e1:Int) r (k:Int)) (Vp:=kpke_vector_parts.f 60000) (L:=fun r10 r17 r19=>kpke_Keys.l0 60000 60000 r10 r17 0 r19) (Pk:=fun y=>kpke_vector_packed.f 60000 y 12) (Jn:=fun a b=>bits_Join.f 60000 [a,b])
   (t2:=[]) hx.known (by omega) jn' sm lg ex n1 p1 n2 p2 (fun h=>absurd h (by decide)) (kPacked (v:=[]) (by decide) 12) (by
    have:=gJoinW 60000 (W:=[pkV [] 12,rhoV seed k]) (by show 2<60000; decide) (by show 2<100000; decide) (by simp [rhoV_len,pkV])
    exact this) (kPacked (v:=sK seed k e1) (by rw [sK_len]; omega) 12)
  unfold kpke_Keys.f
  exact core
 | some M=>
  rw [hM] at ex
  obtain ⟨m1,m2,_⟩:=matF_some good k 0 [] M hM (fun r h=>by cases h)
  have lM:M.length=k:=by rw [m1]; show 0+k=k; omega
  have l:=kKeys_l0 (s:=sK seed k e1) (t:=ntV (nsV k e1 (sigV seed k) k)) (M:=M) (k:=k) (by omega) (sK_fit _ _ _) (sK_len _ _ _) (ntV_fit (nsV_fit _ _ _ _)) (by rw [ntV_len,nsV_len]) m2 lM
  have core:=keys_core (Kn:=kpke_known.f 60000 (k:Int) (e1:Int) (e2:Int) (du:Int) (dv:Int)) (c:=((seed.length:Nat):Int)=32) (Sm:=fun r5=>keccak_Sum.f 60000 5 r5 64) (Ex:=fun r=>kpke_expanded_s2.f 60000 (k:Int) (e1:Int) (e2:Int) (du:Int) (dv:Int) r) (N1:=fun r=>kpke_noises.f 60000 (k:Int) (e1:Int) r 0) (N2:=fun r=>kpke_noises.f 60000 (k:Int) (e1:Int) r (k:Int)) (Vp:=kpke_vector_parts.f 60000) (L:=fun r10 r17 r19=>kpke_Keys.l0 60000 60000 r10 r17 0 r19) (Pk:=fun y=>kpke_vector_packed.f 60000 y 12) (Jn:=fun a b=>bits_Join.f 60000 [a,b])
   hx.known (by omega) jn' sm lg ex n1 p1 n2 p2 (fun _=>l) (kPacked (by rw [tV_len]; omega) 12) (gJoinW 60000 (W:=[pkV (tK seed k e1 M) 12,rhoV seed k]) (by show 2<60000; decide) (by show 2<100000; decide) (by
    have:=(pkV_len (tV_fit (sK seed k e1) (ntV (nsV k e1 (sigV seed k) k)) M k)).1
    rw [tV_len] at this
    have l32:=rhoV_len seed k
    have e:([pkV (tK seed k e1 M) 12,rhoV seed k]:List (List Int)).flatten=pkV (tK seed k e1 M) 12++rhoV seed k:=by simp
    rw [e,List.length_append,l32]
    unfold tK
    omega)) (kPacked (v:=sK seed k e1) (by rw [sK_len]; omega) 12)
  unfold kpke_Keys.f
  refine core.trans ?_
  have e:([pkV (tK seed k e1 M) 12,rhoV seed k]:List (List Int)).flatten=pkV (tK seed k e1 M) 12++rhoV seed k:=by simp
  rw [e]
  rfl
end Go.Proofs.YtemdbgmldljbpaaGreatDoor

/- own -/
set_option linter.unusedSimpArgs false
set_option linter.unusedVariables false
set_option maxRecDepth 100000
namespace Go.Proofs.YtemdbgmldljbpaaGreatDoor
open Go Go.Mx
def uV (u0 y:PL) (C:List PL) (du k:Nat):PL:=(List.range k).map fun i=>sqzA du (padd (u0.getD i (zeroA 256)) (pback (dotF (C.getD i []) y (zeroA 256))))
theorem uV_len (u0 y:PL) (C:List PL) (du k:Nat):(uV u0 y C du k).length=k:=by simp [uV]
theorem uV_bel (u0 y:PL) (C:List PL) (du k:Nat):∀ a∈uV u0 y C du k,Bel ((2^du:Nat):Int) a:=fun a ha=>by
 obtain ⟨i,_,rfl⟩:=List.mem_map.1 ha
 exact bel_sqz _ _
theorem enc_step {Dt:PL→PL→Option (Arr 256)}{Bk Sq:Arr 256→Option (Arr 256)}{Ad:Arr 256→Arr 256→Option (Arr 256)}{L:Int→PL→Option PL}{C:List PL}{y z u0:PL}{i:Nat}{d b ad s:Arr 256}(hi:i<C.length) (hz:i<z.length) (hu:i<u0.length) (he:z[i]? = u0[i]?) (hn:i<1000) (hd:Dt C[i] y=some d) (hb:Bk d=some b) (ha:Ad u0[i] b=some ad) (hs:Sq ad=some s) :
  (if (i:Int)<(C.length:Int) then (if 0≤(i:Int) then (if (i:Int)<C.length then (if 0≤(i:Int) then (if (i:Int)<z.length then ((Dt (rdLL C (i:Int)) y).bind fun r21=>(Bk r21).bind fun r22=>(Ad (rdL (CA .i32 256 (by decide)) z (i:Int)) r22).bind fun r23=>(Sq r23).bind fun r24=>if 0≤(i:Int) then (if (i:Int)<z.length then (L (iadd .i64 (i:Int) 1) (wrL z (i:Int) r24)) else none) else none) else none) else none) else none) else none) else (some z))=L ((i+1:Nat):Int) (z.set i s):=by
 have c:(i:Int)<((C.length:Nat):Int):=by omega
 have c0:(0:Int)≤(i:Int):=by omega
 have c1:(i:Int)<((z.length:Nat):Int):=by omega
 have er:rdL (CA .i32 256 (by decide)) z (i:Int)=u0[i]:=rdPz hu he
 simp only [c,c0,c1,rdLLg hi,hd,hb,er,ha,hs,ginc (i:=i) (by omega),wrS,if_true,Option.bind_some]
theorem kEnc_l0 {u0 y:PL}{C:List PL}{du k:Nat}(hd1:1≤du) (hd2:du≤11) (hk:k≤100) (hu:FL u0) (lu:u0.length=k) (hy:FL y) (ly:y.length=k) (hC:∀ r∈C,FL r∧r.length=k) (lC:C.length=k):kpke_Encrypt.l0 60000 60000 (du:Int) C y 0 u0=some (uV u0 y C du k):=by
 refine fill0 (fun q i z=>kpke_Encrypt.l0 60000 q (du:Int) C y i z) k (fun i=>sqzA du (padd (u0.getD i (zeroA 256)) (pback (dotF (C.getD i []) y (zeroA 256))))) u0 lu (fun q z=>?_) (fun q i z hi hl he=>?_) 60000 (by omega)
 ·have c:¬ (k:Int)<((C.length:Nat):Int):=by omega
  simp only [kpke_Encrypt.l0,c,if_false]
 ·have hC1:i<C.length:=by omega
  obtain ⟨r1,r2⟩:=hC _ (List.getElem_mem hC1)
  have hu1:i<u0.length:=by omega
  have fu:FitK u0[i]:=hu _ (List.getElem_mem hu1)
  have e1:u0.getD i (zeroA 256)=u0[i]:=getD_mem hu1
  have e2:C.getD i []=C[i]:=by rw [List.getD_eq_getElem?_getD,List.getElem?_eq_getElem hC1]; rfl
  have hd:=kDot r1 hy (by omega) (by omega)
  have fd:=dotF_fit C[i] y (zeroA 256) fit_zero
  rw [e1,e2]
  generalize dotF C[i] y (zeroA 256)=d at hd fd ⊢
  have hb:kq_Back.f 60000 d=some (pback d):=kq_Back_eq _ fd
  have fb:=fit_pback d
  generalize pback d=b at hb fb ⊢
  have ha:=kq_Add_eq 60000 (by decide) u0[i] b fu fb
  have fa:=fit_padd u0[i] b
  generalize padd u0[i] b=a at ha fa ⊢
  have hs:=kq_Squeeze_eq 60000 (by decide) a du hd1 hd2 fa
  generalize sqzA du a=s at hs ⊢
  have st:=enc_step (Dt:=kpke_vector_dot.f 60000) (Bk:=kq_Back.f 60000) (Sq:=fun r=>kq_Squeeze.f 60000 r (du:Int)) (Ad:=kq_Add.f 60000) (L:=fun i z=>kpke_Encrypt.l0 60000 q (du:Int) C y i z) (z:=z) hC1 (by omega) hu1 (he i (Nat.le_refl _)) (by omega) hd hb ha hs
  show kpke_Encrypt.l0 60000 (q+1) (du:Int) C y (i:Int) z=kpke_Encrypt.l0 60000 q (du:Int) C y ((i+1:Nat):Int) (z.set i s)
  rw [kpke_Encrypt.l0]
  exact st
theorem kSpread {m:List Int}(hm:Byt m) (lm:m.length=32):kpke_spread.f 60000 m=some (widA 1 (unpV m 1).1)∧FitK (widA 1 (unpV m 1).1):=by
 have hu:kq_Unpack.f 60000 m 1=some (unpV m 1):=kq_Unpack_eq 60000 (by decide) m hm 1
 obtain ⟨_,hb⟩:=unpV_any (b:=m) (d:=1) (by decide) (by decide) (by omega)
 have hb':Bel ((2^1:Nat):Int) (unpV m 1).1:=hb
 have hw:kq_Widen.f 60000 (unpV m 1).1 1=some (widA 1 (unpV m 1).1):=kq_Widen_eq 60000 (by decide) _ 1 (by decide) (by decide) hb'
 refine ⟨?_,fit_widA (by decide) (by decide) hb'⟩
 unfold kpke_spread.f
 generalize unpV m 1=u at hu hw ⊢
 rw [hu]
 simp only [Option.bind_some]
 rw [hw]
 rfl
theorem enc_core {Sz:Option (Int × Int × Int)}{a1:List Int}{Rd:Option (PL × Bool)}{c2 c3:Prop}[Decidable c2] [Decidable c3] {Ex:List Int→Option (List PL × Int)}{N1 N2:Option PL}{Vp:PL→Option PL}{L:List PL→PL→PL→Option PL}{Dt:PL→PL→Option (Arr 256)}{Bk Sq:Arr 256→Option (Arr 256)}{Ns Sp:Option (Arr 256)}{Ad:Arr 256→Arr 256→Option (Arr 256)}{Pd:PL→Option (List Int)}{Pk:Arr 256→Option (List Int)}{Jn:List Int→List Int→Option (List Int)}
  {n:Nat}{p q:Int}{t n1 y n2 u:PL}{C:List PL}{d b ns ad sp a2 s:Arr 256}{pu pv out:List Int}
  (h1:Sz=some (((n+32:Nat):Int),p,q)) (hn:n<100000) (l1:a1.length=n+32) (h2:Rd=some (t,true)) (k2:c2) (k3:c3) (h3:Ex (a1.drop n)=some (C,0)) (h4:N1=some n1) (h5:Vp n1=some y) (h6:N2=some n2) (h7:L C y n2=some u) (h8:Dt t y=some d) (h9:Bk d=some b) (h10:Ns=some ns) (h11:Ad b ns=some ad) (h12:Sp=some sp) (h13:Ad ad sp=some a2) (h14:Sq a2=some s) (h15:Pd u=some pu) (h16:Pk s=some pv) (h17:Jn pu pv=some out) :
  (Sz.bind fun (r2,r3,r4)=>if r2=0 then (some (([]:List Int),9)) else (if (a1.length:Int)=r2 then (Rd.bind fun (r5,r6)=>if r6=true then (if c2 then (if c3 then (if 0≤(isub .i64 r2 32) then (if (isub .i64 r2 32)≤(a1.length:Int) then (if (a1.length:Int)≤a1.length then ((Ex (subL a1 (isub .i64 r2 32) (a1.length:Int))).bind fun (r8,r9)=>if r9=0 then (N1.bind fun r14=>(Vp r14).bind fun r15=>N2.bind fun r16=>(L r8 r15 r16).bind fun y19=>(((Dt r5 r15).bind fun r27=>(Bk r27).bind fun r28=>Ns.bind fun r29=>(Ad r28 r29).bind fun r30=>some r30:Option ((Arr 256)))).bind fun y26=>Sp.bind fun r46=>(Ad y26 r46).bind fun r47=>(Sq r47).bind fun r48=>(Pd y19).bind fun r49=>(Pk r48).bind fun r50=>(Jn r49 r50).bind fun r52=>some (r52,(0:Int))) else (some (([]:List Int),r9))) else none) else none) else none) else (some (([]:List Int),14))) else (some (([]:List Int),14))) else (some (([]:List Int),10))) else (some (([]:List Int),10))))=some (out,0):=by
 subst h1 h2 h4 h6 h10 h12
 have e:isub .i64 ((n+32:Nat):Int) 32=((n:Nat):Int):=by rw [sub64 (by omega) (by omega)]; omega
 have c0:¬ ((n+32:Nat):Int)=0:=by omega
 have c1:((a1.length:Nat):Int)=((n+32:Nat):Int):=by omega
 have c4:(0:Int)≤(n:Int):=by omega
 have c5:(n:Int)≤((a1.length:Nat):Int):=by omega
 have c6:((a1.length:Nat):Int)≤((a1.length:Nat):Int):=Int.le_refl _
 have es:subL a1 (n:Int) ((a1.length:Nat):Int)=a1.drop n:=by rw [g_sub,List.take_length]
 simp only [Option.bind_some,e,c0,if_false]
 rw [if_pos c1]
 simp only [k2,k3,c4,c5,c6,es,h3,h5,h7,h8,h9,h11,h13,h14,h15,h16,h17,if_true,Option.bind_some]
def wV (t y:PL) (N:Arr 256) (m:List Int) (dv:Nat):Arr 256:=sqzA dv (padd (padd (pback (dotF t y (zeroA 256))) N) (widA 1 (unpV m 1).1))
def encV (t:PL) (C:List PL) (m rnd:List Int) (k e1 e2 du dv:Nat):List Int:=pkV (uV (nsV k e2 rnd k) (ntV (nsV k e1 rnd 0)) C du k) (du:Int)++packV (wV t (ntV (nsV k e1 rnd 0)) (noiV (absV 7 (zeroA 25,0) false (rnd++[((2*k:Nat):Int)])) e2) m dv) (dv:Int)
theorem encV_size {k e1 e2 du dv:Nat}(hx:KX k e1 e2 du dv) (t:PL) (C:List PL) (m rnd:List Int):(encV t C m rnd k e1 e2 du dv).length=32*(du*k+dv)∧Byt (encV t C m rnd k e1 e2 du dv):=by
 obtain ⟨k2,k4,d1,d2,v1,v2⟩:=hx.bd
 obtain ⟨q1,q2⟩:=pkV_lenD (d:=du) (by omega) (by omega) (uV_bel (nsV k e2 rnd k) (ntV (nsV k e1 rnd 0)) C du k)
 rw [uV_len] at q1
 have bv:=bel_sqz dv (padd (padd (pback (dotF t (ntV (nsV k e1 rnd 0)) (zeroA 256))) (noiV (absV 7 (zeroA 25,0) false (rnd++[((2*k:Nat):Int)])) e2)) (widA 1 (unpV m 1).1))
 obtain ⟨w1,w2⟩:=packV_size (a:=wV t (ntV (nsV k e1 rnd 0)) (noiV (absV 7 (zeroA 25,0) false (rnd++[((2*k:Nat):Int)])) e2) m dv) (d:=dv) (by omega) (by omega) (by rw [if_neg (by omega)]; exact bv)
 unfold encV
 refine ⟨?_,q2.append w2⟩
 rw [List.length_append,q1,w1,Nat.mul_add,Nat.mul_assoc]
theorem kEncryptG {k e1 e2 du dv:Nat}(hx:KX k e1 e2 du dv) {pk:List Int}(hb:Byt pk) (lpk:pk.length=384*k+32) {t:PL}(hr:rdV pk 12 (32*12) k 0 []=(t,true)) (ht:FL t) (lt:t.length=k) {m rnd:List Int}(hm:Byt m) (lm:m.length=32) (lrnd:rnd.length=32) {C:List PL}(hC:matF (fun i j=>pt (pk.drop (384*k)) j i) k k 0 []=some C) :
  kpke_Encrypt.f 60000 (k:Int) (e1:Int) (e2:Int) (du:Int) (dv:Int) pk m rnd=some (encV t C m rnd k e1 e2 du dv,0):=by
 obtain ⟨k2,k4,d1,d2,v1,v2⟩:=hx.bd
 have he1:=hx.e1
 have he2:=hx.e2
 have rd:=kRead (b:=pk) (d:=12) (k0:=k) hb (by decide) (by omega) (by omega) (by omega)
 rw [hr] at rd
 obtain ⟨m1,m2,_⟩:=matF_some (pt_good' (pk.drop (384*k))) k 0 [] C hC (fun r h=>by cases h)
 have lC:C.length=k:=by rw [m1]; show 0+k=k; omega
 have ex:=kMatT (rho:=pk.drop (384*k)) (by rw [List.length_drop]; omega) (k0:=k) (by omega) (e1:Int) (e2:Int) (du:Int) (dv:Int)
 rw [hC] at ex
 have ex':kpke_expanded_s.f 60000 (k:Int) (e1:Int) (e2:Int) (du:Int) (dv:Int) (pk.drop (384*k))=some (C,0):=ex
 have n1:=kNoises (k:=k) (by omega) he1 (s:=rnd) (by omega) (first:=0) (by decide)
 have n2:=kNoises (k:=k) (by omega) he2 (s:=rnd) (by omega) (first:=k) (by omega)
 have y1:=kVparts (nsV_fit k e1 rnd 0) (by rw [nsV_len]; omega)
 have fy:FL (ntV (nsV k e1 rnd 0)):=ntV_fit (nsV_fit _ _ _ _)
 have ly:(ntV (nsV k e1 rnd 0)).length=k:=by rw [ntV_len,nsV_len]
 have l:=kEnc_l0 (u0:=nsV k e2 rnd k) (y:=ntV (nsV k e1 rnd 0)) (C:=C) (du:=du) (k:=k) (by omega) (by omega) (by omega) (nsV_fit _ _ _ _) (nsV_len _ _ _ _) fy ly m2 lC
 have dt:=kDot ht fy (by omega) (by omega)
 have bk:kq_Back.f 60000 (dotF t (ntV (nsV k e1 rnd 0)) (zeroA 256))=some (pback (dotF t (ntV (nsV k e1 rnd 0)) (zeroA 256))):=kq_Back_eq _ (dotF_fit _ _ _ fit_zero)
 have em:iconv .u8 (imul .i64 2 (k:Int))=((2*k:Nat):Int):=by
  have:imul .i64 2 (k:Int)=((2*k:Nat):Int):=by unfold imul; rw [id64 (by omega) (by omega)]; omega
  rw [this,cvu8 (by omega)]
 have ns:=kNoise (s:=rnd) (by omega) he2 ((2*k:Nat):Int)
 have ns':kpke_Noise.f 60000 (e2:Int) rnd (iconv .u8 (imul .i64 2 (k:Int)))=some (noiV (absV 7 (zeroA 25,0) false (rnd++[((2*k:Nat):Int)])) e2):=by rw [em]; exact ns
 have a1:=kq_Add_eq 60000 (by decide) (pback (dotF t (ntV (nsV k e1 rnd 0)) (zeroA 256))) (noiV (absV 7 (zeroA 25,0) false (rnd++[((2*k:Nat):Int)])) e2) (fit_pback _) (fit_noiV _ _)
 obtain ⟨s1,s2⟩:=kSpread hm lm
 have a2:=kq_Add_eq 60000 (by decide) (padd (pback (dotF t (ntV (nsV k e1 rnd 0)) (zeroA 256))) (noiV (absV 7 (zeroA 25,0) false (rnd++[((2*k:Nat):Int)])) e2)) (widA 1 (unpV m 1).1) (fit_padd _ _) s2
 have sq:=kq_Squeeze_eq 60000 (by decide) (padd (padd (pback (dotF t (ntV (nsV k e1 rnd 0)) (zeroA 256))) (noiV (absV 7 (zeroA 25,0) false (rnd++[((2*k:Nat):Int)])) e2)) (widA 1 (unpV m 1).1)) dv (by omega) (by omega) (fit_padd _ _)
 have hv:encV t C m rnd k e1 e2 du dv=pkV (uV (nsV k e2 rnd k) (ntV (nsV k e1 rnd 0)) C du k) (du:Int)++packV (sqzA dv (padd (padd (pback (dotF t (ntV (nsV k e1 rnd 0)) (zeroA 256))) (noiV (absV 7 (zeroA 25,0) false (rnd++[((2*k:Nat):Int)])) e2)) (widA 1 (unpV m 1).1))) (dv:Int):=rfl
 have sz:=(encV_size hx t C m rnd).1
 rw [hv] at sz ⊢
 generalize sqzA dv (padd (padd (pback (dotF t (ntV (nsV k e1 rnd 0)) (zeroA 256))) (noiV (absV 7 (zeroA 25,0) false (rnd++[((2*k:Nat):Int)])) e2)) (widA 1 (unpV m 1).1))=w at sq sz ⊢
 have lu:=uV_len (nsV k e2 rnd k) (ntV (nsV k e1 rnd 0)) C du k
 generalize uV (nsV k e2 rnd k) (ntV (nsV k e1 rnd 0)) C du k=u at l sz lu ⊢
 have pu:=kPacked (v:=u) (by omega) (du:Int)
 have pw:=kq_Pack_eq 60000 (by decide) w (dv:Int)
 have hb1:du*k≤11*4:=Nat.mul_le_mul (by omega) k4
 have e:([pkV u (du:Int),packV w (dv:Int)]:List (List Int)).flatten=pkV u (du:Int)++packV w (dv:Int):=by simp
 have jn:=gJoinW 60000 (W:=[pkV u (du:Int),packV w (dv:Int)]) (by show 2<60000; decide) (by show 2<100000; decide) (by
  rw [e,sz]
  omega)
 rw [e] at jn
 have core:=enc_core (Sz:=kpke_Sizes.f 60000 (k:Int) (e1:Int) (e2:Int) (du:Int) (dv:Int)) (a1:=pk) (c2:=((m.length:Nat):Int)=32) (c3:=((rnd.length:Nat):Int)=32) (Ex:=fun r=>kpke_expanded_s.f 60000 (k:Int) (e1:Int) (e2:Int) (du:Int) (dv:Int) r) (Vp:=kpke_vector_parts.f 60000) (L:=fun r8 r15 r16=>kpke_Encrypt.l0 60000 60000 (du:Int) r8 r15 0 r16) (Dt:=kpke_vector_dot.f 60000) (Bk:=kq_Back.f 60000) (Sq:=fun r=>kq_Squeeze.f 60000 r (dv:Int)) (Ad:=kq_Add.f 60000) (Pd:=fun r=>kpke_vector_packed.f 60000 r (du:Int)) (Pk:=fun r=>kq_Pack.f 60000 r (dv:Int)) (Jn:=fun a b=>bits_Join.f 60000 [a,b])
   hx.sizes (by omega) lpk rd (by omega) (by omega) ex' n1 y1 n2 l dt bk ns' a1 s1 a2 sq pu pw jn
 unfold kpke_Encrypt.f
 exact core
end Go.Proofs.YtemdbgmldljbpaaGreatDoor
