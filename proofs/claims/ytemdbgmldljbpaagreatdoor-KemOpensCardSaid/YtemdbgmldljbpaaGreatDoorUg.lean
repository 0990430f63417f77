/- own -/
import Derived.Test.YtemdbgmldljbpaaGreatDoorUc
set_option linter.unusedSimpArgs false
set_option linter.unusedVariables false
set_option maxRecDepth 100000
namespace Go.Proofs.YtemdbgmldljbpaaGreatDoor
open Go Go.Mx
theorem fill_all (Q:Int→Prop):∀ (l:List Int) (p:Arr 256 × Nat),(∀ x∈l,Q x)→(∀ i:Nat,i<256→Q (rd p.1 i))→∀ i:Nat,i<256→Q (rd (fillP p l).1 i)
 | [],p,_,h=>h
 | x::l,p,hl,h=>by
  have e:fillP p (x::l)=if p.2<256 then fillP (wr p.1 (p.2:Int) x,p.2+1) l else p:=rfl
  rw [e]
  by_cases hp:p.2<256
  ·rw [if_pos hp]
   refine fill_all Q l _ (fun y hy=>hl y (List.mem_cons_of_mem _ hy)) fun i hi=>?_
   show Q (rd (wr p.1 (p.2:Int) x) i)
   rw [rd_wr _ _ _ _ hi]
   split
   ·exact hl x List.mem_cons_self
   ·exact h i hi
  ·rw [if_neg hp]; exact h
theorem pck_q {v:Int}(h:0≤v):∀ x∈pck v,0≤x∧x<3329:=fun x hx=>by
 unfold pck at hx
 by_cases hv:v<3329
 ·rw [if_pos hv] at hx
  rw [List.mem_singleton.1 hx]
  exact ⟨h,hv⟩
 ·rw [if_neg hv] at hx; cases hx
theorem pv_q:∀ (l:List Int),Byt l→∀ x∈pv l,0≤x∧x<3329
 | [],_,x,hx=>by cases hx
 | [_],_,x,hx=>by cases hx
 | [_,_],_,x,hx=>by cases hx
 | a::b::c::l,hb,x,hx=>by
  obtain ⟨x0,x1⟩:=hb.head
  obtain ⟨y0,y1⟩:=hb.tail.head
  obtain ⟨z0,z1⟩:=hb.tail.tail.head
  have hn:0≤n3 a b c:=by unfold n3; omega
  have hx':x∈pck (n3 a b c%4096)++(pck (n3 a b c/4096)++pv l):=hx
  rcases List.mem_append.1 hx' with h | h
  ·exact pck_q (by omega) x h
  ·rcases List.mem_append.1 h with h | h
   ·exact pck_q (by omega) x h
   ·exact pv_q l hb.tail.tail.tail x h
theorem partV_fit (S:Arr 25 × Nat):FitK (partV S).1∧((partV S).2=0∨(partV S).2=12):=by
 have h:=fill_all (fun x=>0≤x∧x<3329) (pv (sqV 6 S false 12288).1) (zeroA 256,0) (pv_q _ (sqv_byt _ _ _ _)) fit_zero
 unfold partV
 generalize fillP (zeroA 256,0) (pv (sqV 6 S false 12288).1)=p at h ⊢
 by_cases hp:p.2<256
 ·rw [if_pos hp]; exact ⟨fit_zero,.inr rfl⟩
 ·rw [if_neg hp]; exact ⟨h,.inl rfl⟩
def pt (rho:List Int) (i j:Nat):Arr 256 × Int:=partV (absV 6 (zeroA 25,0) false (rho++[(j:Int),(i:Int)]))
def GoodG (g:Nat→Nat→Arr 256 × Int):Prop:=∀ i j,FitK (g i j).1∧((g i j).2=0∨(g i j).2=12)
theorem pt_good (rho:List Int):GoodG (pt rho):=fun i j=>partV_fit _
theorem pt_good' (rho:List Int):GoodG (fun i j=>pt rho j i):=fun i j=>partV_fit _
def rowF (g:Nat→Arr 256 × Int):Nat→Nat→PL→Option PL
 | 0,_,acc=>some acc
 | m+1,j,acc=>if (g j).2=0 then rowF g m (j+1) (acc++[(g j).1]) else none
def matF (g:Nat→Nat→Arr 256 × Int) (k:Nat):Nat→Nat→List PL→Option (List PL)
 | 0,_,acc=>some acc
 | m+1,i,acc=>match rowF (g i) k 0 [] with
  | some r=>matF g k m (i+1) (acc++[r])
  | none=>none
theorem rowF_some {g:Nat→Arr 256 × Int}(hg:∀ j,FitK (g j).1):∀ (m j:Nat) (acc r:PL),rowF g m j acc=some r→FL acc→r.length=acc.length+m∧FL r∧∀ q,j≤q→q<j+m→(g q).2=0
 | 0,j,acc,r,h,ha=>by
  have:=Option.some.inj h
  subst this
  exact ⟨rfl,ha,fun q h1 h2=>by omega⟩
 | m+1,j,acc,r,h,ha=>by
  have h':(if (g j).2=0 then rowF g m (j+1) (acc++[(g j).1]) else none)=some r:=h
  by_cases h0:(g j).2=0
  ·rw [if_pos h0] at h'
   obtain ⟨r1,r2,r3⟩:=rowF_some hg m (j+1) _ r h' fun a ha'=>by
    rcases List.mem_append.1 ha' with q | q
    ·exact ha a q
    ·rw [List.mem_singleton.1 q]; exact hg j
   refine ⟨by rw [r1,List.length_append]; show acc.length+1+m=_; omega,r2,fun q h1 h2=>?_⟩
   by_cases hq:q=j
   ·rw [hq]; exact h0
   ·exact r3 q (by omega) (by omega)
  ·rw [if_neg h0] at h'; cases h'
theorem rowF_ok {g:Nat→Arr 256 × Int} : ∀ (m j:Nat) (acc:PL),(∀ q,j≤q→q<j+m→(g q).2=0)→∃ r,rowF g m j acc=some r
 | 0,_,acc,_=>⟨acc,rfl⟩
 | m+1,j,acc,h=>by
  have e:rowF g (m+1) j acc=if (g j).2=0 then rowF g m (j+1) (acc++[(g j).1]) else none:=rfl
  rw [e,if_pos (h j (Nat.le_refl _) (by omega))]
  exact rowF_ok m (j+1) _ fun q h1 h2=>h q (by omega) (by omega)
theorem matF_some {g:Nat→Nat→Arr 256 × Int}(hg:GoodG g) {k:Nat} : ∀ (m i:Nat) (acc M:List PL),matF g k m i acc=some M→(∀ r∈acc,FL r∧r.length=k)→M.length=acc.length+m∧(∀ r∈M,FL r∧r.length=k)∧∀ p q,i≤p→p<i+m→q<k→(g p q).2=0
 | 0,i,acc,M,h,ha=>by
  have:=Option.some.inj h
  subst this
  exact ⟨rfl,ha,fun p q h1 h2=>by omega⟩
 | m+1,i,acc,M,h,ha=>by
  have h':(match rowF (g i) k 0 [] with | some r=>matF g k m (i+1) (acc++[r]) | none=>none)=some M:=h
  cases hr:rowF (g i) k 0 [] with
  | none=>rw [hr] at h'; cases h'
  | some r=>
   rw [hr] at h'
   obtain ⟨r1,r2,r3⟩:=rowF_some (fun j=>(hg i j).1) k 0 [] r hr (fun a h=>by cases h)
   obtain ⟨s1,s2,s3⟩:=matF_some hg m (i+1) _ M h' fun x hx=>by
    rcases List.mem_append.1 hx with q | q
    ·exact ha x q
    ·rw [List.mem_singleton.1 q]; exact ⟨r2,by rw [r1]; show 0+k=k; omega⟩
   refine ⟨by rw [s1,List.length_append]; show acc.length+1+m=_; omega,s2,fun p q h1 h2 h3=>?_⟩
   by_cases hp:p=i
   ·rw [hp]; exact r3 q (by omega) (by omega)
   ·exact s3 p q (by omega) (by omega) h3
theorem matF_ok {g:Nat→Nat→Arr 256 × Int}{k:Nat} : ∀ (m i:Nat) (acc:List PL),(∀ p q,i≤p→p<i+m→q<k→(g p q).2=0)→∃ M,matF g k m i acc=some M
 | 0,_,acc,_=>⟨acc,rfl⟩
 | m+1,i,acc,h=>by
  obtain ⟨r,hr⟩:=rowF_ok (g:=g i) k 0 [] fun q h1 h2=>h i q (Nat.le_refl _) (by omega) (by omega)
  have e:matF g k (m+1) i acc=match rowF (g i) k 0 [] with | some r=>matF g k m (i+1) (acc++[r]) | none=>none:=rfl
  rw [e,hr]
  exact matF_ok m (i+1) _ fun p q h1 h2 h3=>h p q (by omega) (by omega) h3
theorem rdLLg {z:List PL}{i:Nat}(h:i<z.length):rdLL z (i:Int)=z[i]:=by
 unfold rdLL
 rw [Int.toNat_natCast,List.getD_eq_getElem?_getD,List.getElem?_eq_getElem h]
 rfl
theorem rdLLs {z:List PL}{i:Nat}(h:i<z.length) (r:PL):rdLL (z.set i r) (i:Int)=r:=by
 rw [rdLLg (by rw [List.length_set]; exact h),List.getElem_set_self]
def rowO (z:List PL) (i:Nat) (r:Option PL):List PL ⊕ (List PL × Int):=match r with
 | some r=>.inl (z.set i r)
 | none=>.inr ([],12)
def matO (r:Option (List PL)):List PL × Int:=match r with
 | some M=>(M,0)
 | none=>([],12)
theorem kRowT {rho:List Int}(lr:rho.length≤300) {k0 i:Nat}(hk0:k0≤100) (hi:i<k0) {z:List PL}(lz:z.length=k0):∀ (m j k:Nat) (acc:PL),j+m=k0→m<k→acc.length≤1000+j →
  kpke_expanded_s.l1 60000 k (k0:Int) rho (i:Int) (j:Int) (z.set i acc)=some (rowO z i (rowF (fun j=>pt rho j i) m j acc)):=by
 intro m
 induction m with
 | zero=>
  intro j k acc hj hk ha
  obtain ⟨k,rfl⟩ : ∃ q,k=q+1:=⟨k-1,by omega⟩
  have c:¬ (j:Int)<(k0:Int):=by omega
  simp only [kpke_expanded_s.l1,c,if_false]
  rfl
 | succ m ih=>
  intro j k acc hj hk ha
  obtain ⟨k,rfl⟩ : ∃ q,k=q+1:=⟨k-1,by omega⟩
  have c:(j:Int)<(k0:Int):=by omega
  have c0:(0:Int)≤(i:Int):=by omega
  have c1:(i:Int)<(((z.set i acc).length:Nat):Int):=by rw [List.length_set]; omega
  have hp:=kParts (i:=(j:Int)) (j:=(i:Int)) lr
  have hp':kpke_Parts.f 60000 rho (j:Int) (i:Int)=some (pt rho j i):=hp
  have g2:=pt_good rho j i
  have er:rowF (fun j=>pt rho j i) (m+1) j acc=if (pt rho j i).2=0 then rowF (fun j=>pt rho j i) m (j+1) (acc++[(pt rho j i).1]) else none:=rfl
  rw [er]
  generalize pt rho j i=v at hp' g2 ⊢
  obtain ⟨va,vb⟩:=v
  have c2:(rdLL (z.set i acc) (i:Int)).length+([va]:PL).length≤137438953472:=by
   rw [rdLLs (by omega)]
   show acc.length+1≤_
   omega
  have es:wrL (z.set i acc) (i:Int) (rdLL (z.set i acc) (i:Int)++[va])=z.set i (acc++[va]):=by
   rw [rdLLs (by omega),wrS,List.set_set]
  by_cases h0:vb=0
  ·simp only [kpke_expanded_s.l1,c,c0,c1,cvu8 (show i<256 by omega),cvu8 (show j<256 by omega),hp',h0,c2,es,ginc (i:=j) (by omega),if_true,Option.bind_some]
   exact ih (j+1) k _ (by omega) (by omega) (by rw [List.length_append]; show acc.length+1≤_; omega)
  ·have h12:vb=12:=by
    rcases g2.2 with h | h
    ·exact absurd h h0
    ·exact h
   simp only [kpke_expanded_s.l1,c,c0,c1,cvu8 (show i<256 by omega),cvu8 (show j<256 by omega),hp',h0,if_true,if_false,Option.bind_some,h12]
   rfl
theorem kMatT_l0 {rho:List Int}(lr:rho.length≤300) {k0:Nat}(hk0:k0≤100):∀ (m i k:Nat) (acc:List PL),i+m=k0→m<k→acc.length=i →
  kpke_expanded_s.l0 60000 k (k0:Int) rho (i:Int) (acc++List.replicate m [])=some (match matF (fun i j=>pt rho j i) k0 m i acc with
   | some M=>.inl M
   | none=>.inr ([],12)):=by
 have lz:(List.replicate ((k0:Nat):Int).toNat ([]:PL)).length=k0:=by rw [List.length_replicate,Int.toNat_natCast]
 intro m
 induction m with
 | zero=>
  intro i k acc hi hk ha
  obtain ⟨k,rfl⟩ : ∃ q,k=q+1:=⟨k-1,by omega⟩
  have c:¬ (i:Int)<(((List.replicate ((k0:Nat):Int).toNat ([]:PL)).length:Nat):Int):=by rw [lz]; omega
  simp only [kpke_expanded_s.l0,c,if_false,List.replicate_zero,List.append_nil]
  rfl
 | succ m ih=>
  intro i k acc hi hk ha
  obtain ⟨k,rfl⟩ : ∃ q,k=q+1:=⟨k-1,by omega⟩
  have c:(i:Int)<(((List.replicate ((k0:Nat):Int).toNat ([]:PL)).length:Nat):Int):=by rw [lz]; omega
  have lz2:(acc++List.replicate (m+1) ([]:PL)).length=k0:=by rw [List.length_append,List.length_replicate,ha]; omega
  have e0:(acc++List.replicate (m+1) ([]:PL)).set i []=acc++List.replicate (m+1) []:=by
   rw [List.set_append_right _ _ (by omega),ha,Nat.sub_self,List.replicate_succ,List.set_cons_zero]
  have h:=kRowT lr hk0 (show i<k0 by omega) lz2 k0 0 60000 [] (by omega) (by omega) (by show 0≤_; omega)
  rw [e0] at h
  have h':kpke_expanded_s.l1 60000 60000 (k0:Int) rho (i:Int) 0 (acc++List.replicate (m+1) [])=_:=h
  have er:matF (fun i j=>pt rho j i) k0 (m+1) i acc=match rowF (fun j=>pt rho j i) k0 0 [] with | some r=>matF (fun i j=>pt rho j i) k0 m (i+1) (acc++[r]) | none=>none:=rfl
  rw [er]
  generalize rowF (fun j=>pt rho j i) k0 0 []=R at h' ⊢
  cases R with
  | none=>
   simp only [kpke_expanded_s.l0,c,h',if_true,Option.bind_some]
   rfl
  | some r=>
   have es:(acc++List.replicate (m+1) ([]:PL)).set i r=(acc++[r])++List.replicate m []:=by
    rw [List.set_append_right _ _ (by omega),ha,Nat.sub_self,List.replicate_succ,List.set_cons_zero,List.append_assoc]
    rfl
   have i1:=ih (i+1) k (acc++[r]) (by omega) (by omega) (by rw [List.length_append,ha]; rfl)
   rw [← es] at i1
   simp only [kpke_expanded_s.l0,c,h',if_true,Option.bind_some,ginc (i:=i) (by omega)]
   exact i1
theorem kMatT {rho:List Int}(lr:rho.length≤300) {k0:Nat}(hk0:k0≤100) (a b c d:Int):kpke_expanded_s.f 60000 (k0:Int) a b c d rho=some (matO (matF (fun i j=>pt rho j i) k0 k0 0 [])):=by
 have h:=kMatT_l0 lr hk0 k0 0 60000 [] (by omega) (by omega) rfl
 have ez:(List.replicate ((k0:Nat):Int).toNat ([]:PL))=[]++List.replicate k0 []:=by rw [Int.toNat_natCast]; rfl
 have c0:(0:Int)≤(k0:Int):=by omega
 have c1:(k0:Int)≤5864062014805:=by omega
 have h':kpke_expanded_s.l0 60000 60000 (k0:Int) rho 0 ([]++List.replicate k0 [])=_:=h
 unfold kpke_expanded_s.f
 rw [if_pos c0,if_pos c1,ez,h']
 cases matF (fun i j=>pt rho j i) k0 k0 0 [] with
 | some M=>rfl
 | none=>rfl
end Go.Proofs.YtemdbgmldljbpaaGreatDoor

/- own -/
set_option linter.unusedSimpArgs false
set_option linter.unusedVariables false
set_option maxRecDepth 100000
namespace Go.Proofs.YtemdbgmldljbpaaGreatDoor
open Go Go.Mx
def KX (k e1 e2 du dv:Nat):Prop:=(k=2∧e1=3∧e2=2∧du=10∧dv=4)∨(k=3∧e1=2∧e2=2∧du=10∧dv=4)∨(k=4∧e1=2∧e2=2∧du=11∧dv=5)
theorem KX.known {k e1 e2 du dv:Nat}(h:KX k e1 e2 du dv):kpke_known.f 60000 (k:Int) (e1:Int) (e2:Int) (du:Int) (dv:Int)=some true:=by
 rw [kKnown]
 rcases h with ⟨rfl,rfl,rfl,rfl,rfl⟩ | ⟨rfl,rfl,rfl,rfl,rfl⟩ | ⟨rfl,rfl,rfl,rfl,rfl⟩<;>rfl
theorem KX.sizes {k e1 e2 du dv:Nat}(h:KX k e1 e2 du dv):kpke_Sizes.f 60000 (k:Int) (e1:Int) (e2:Int) (du:Int) (dv:Int)=some (((384*k+32:Nat):Int),((384*k:Nat):Int),((32*(du*k+dv):Nat):Int)):=by
 unfold kpke_Sizes.f
 rw [h.known]
 rcases h with ⟨rfl,rfl,rfl,rfl,rfl⟩ | ⟨rfl,rfl,rfl,rfl,rfl⟩ | ⟨rfl,rfl,rfl,rfl,rfl⟩<;>rfl
theorem KX.e1 {k e1 e2 du dv:Nat}(h:KX k e1 e2 du dv):e1=2∨e1=3:=by rcases h with ⟨_,h,_⟩ | ⟨_,h,_⟩ | ⟨_,h,_⟩<;>omega
theorem KX.e2 {k e1 e2 du dv:Nat}(h:KX k e1 e2 du dv):e2=2∨e2=3:=by rcases h with ⟨_,_,h,_⟩ | ⟨_,_,h,_⟩ | ⟨_,_,h,_⟩<;>omega
theorem KX.bd {k e1 e2 du dv:Nat}(h:KX k e1 e2 du dv):2≤k∧k≤4∧10≤du∧du≤11∧4≤dv∧dv≤5:=by rcases h with ⟨h1,_,_,h4,h5⟩ | ⟨h1,_,_,h4,h5⟩ | ⟨h1,_,_,h4,h5⟩<;>omega
theorem packV_size {a:Arr 256}{d:Nat}(h1:1≤d) (h2:d≤12) (h:Bel (if d=12 then 3329 else ((2^d:Nat):Int)) a):(packV a (d:Int)).length=32*d∧Byt (packV a (d:Int)):=by
 unfold packV
 rw [if_pos ⟨by omega,by omega,by rw [Int.toNat_natCast]; exact of_bel h⟩,Int.toNat_natCast]
 exact ⟨by rw [dig_len]; omega,dig_byt _ _⟩
theorem pkV_lenD {d:Nat}(h1:1≤d) (h2:d≤11):∀ {v:PL},(∀ a∈v,Bel ((2^d:Nat):Int) a)→(pkV v (d:Int)).length=32*d*v.length∧Byt (pkV v (d:Int))
 | [],_=>⟨rfl,fun x h=>by cases h⟩
 | a::v,h=>by
  obtain ⟨p1,p2⟩:=packV_size h1 (by omega) (by rw [if_neg (by omega)]; exact h a List.mem_cons_self)
  obtain ⟨q1,q2⟩:=pkV_lenD h1 h2 (v:=v) fun b hb=>h b (List.mem_cons_of_mem _ hb)
  have e:pkV (a::v) (d:Int)=packV a (d:Int)++pkV v (d:Int):=List.flatMap_cons ..
  rw [e]
  exact ⟨by rw [List.length_append,p1,q1,List.length_cons,Nat.mul_add,Nat.mul_one]; omega,p2.append q2⟩
theorem unpV_any {b:List Int}{d:Nat}(h1:1≤d) (h2:d≤11) (lb:b.length=32*d):(unpV b (d:Int)).2=true∧Bel ((2^d:Nat):Int) (unpV b (d:Int)).1:=by
 have hb:Bel ((2^d:Nat):Int) (unp (dig d 256 (NB b))):=fun i hi=>by
  unfold unp
  rw [rd_mapA _ _ hi]
  have hl:i<(dig d 256 (NB b)).length:=by rw [dig_len]; exact hi
  have hm:=dig_bd d 256 (NB b) _ (List.getElem_mem hl)
  have er:rdL (CI .u32) (dig d 256 (NB b)) (i:Int)=(dig d 256 (NB b))[i]:=by
   unfold rdL
   rw [Int.toNat_natCast,List.getD_eq_getElem?_getD,List.getElem?_eq_getElem hl]
   rfl
  have hp:(2:Nat)^d≤2^11:=Nat.pow_le_pow_right (by decide) h2
  have cv:iconv .i32 (dig d 256 (NB b))[i]=(dig d 256 (NB b))[i]:=by unfold iconv; rw [w32]; omega
  rw [er,cv]
  exact hm
 unfold unpV outU
 rw [if_pos ⟨by omega,by omega,by omega⟩,Int.toNat_natCast,if_neg (show ¬ d=12 by omega),if_pos (of_bel hb)]
 exact ⟨rfl,hb⟩
theorem rdV_any {b:List Int}{d:Nat}(h1:1≤d) (h2:d≤11):∀ (m i:Nat) (acc:PL),(i+m)*(32*d)≤b.length→(∀ a∈acc,Bel ((2^d:Nat):Int) a)→(rdV b d (32*d) m i acc).2=true∧(rdV b d (32*d) m i acc).1.length=acc.length+m∧∀ a∈(rdV b d (32*d) m i acc).1,Bel ((2^d:Nat):Int) a
 | 0,i,acc,_,ha=>⟨rfl,rfl,ha⟩
 | m+1,i,acc,hl,ha=>by
  have hm:(i+1+m)*(32*d)=(i+1)*(32*d)+m*(32*d):=Nat.add_mul ..
  have hm2:(i+1)*(32*d)=i*(32*d)+32*d:=by rw [Nat.add_mul,Nat.one_mul]
  have hl':(i+1+m)*(32*d)≤b.length:=by rw [show i+1+m=i+(m+1) by omega]; exact hl
  have ls:(subL b ((i*(32*d):Nat):Int) (((i+1)*(32*d):Nat):Int)).length=32*d:=by
   rw [g_sub,List.length_drop,List.length_take]
   omega
  obtain ⟨u1,u2⟩:=unpV_any h1 h2 ls
  have er:rdV b d (32*d) (m+1) i acc=if (unpV (subL b ((i*(32*d):Nat):Int) (((i+1)*(32*d):Nat):Int)) (d:Int)).2=true then rdV b d (32*d) m (i+1) (acc++[(unpV (subL b ((i*(32*d):Nat):Int) (((i+1)*(32*d):Nat):Int)) (d:Int)).1]) else ([],false):=rfl
  rw [er,if_pos u1]
  have ih:=rdV_any h1 h2 m (i+1) (acc++[(unpV (subL b ((i*(32*d):Nat):Int) (((i+1)*(32*d):Nat):Int)) (d:Int)).1]) hl' fun a hh=>by
   rcases List.mem_append.1 hh with q | q
   ·exact ha a q
   ·rw [List.mem_singleton.1 q]; exact u2
  refine ⟨ih.1,?_,ih.2.2⟩
  rw [ih.2.1,List.length_append]
  show acc.length+1+m=_
  omega
theorem fit_widA {a:Arr 256}{d:Nat}(h1:1≤d) (h2:d≤11) (h:Bel ((2^d:Nat):Int) a):FitK (widA d a):=fit_map fun i hi=>by
 obtain ⟨x0,x1⟩:=h i hi
 obtain ⟨y,hy⟩ : ∃ y:Nat,rd a (i:Int)=(y:Int):=⟨(rd a (i:Int)).toNat,by omega⟩
 have hy2:y<2^d:=by rw [hy] at x1; exact_mod_cast x1
 rw [hy,Int.toNat_natCast]
 have hp1:2^(d-1)≤2^10:=Nat.pow_le_pow_right (by decide) (by omega)
 have hw:wid d y<3329:=by
  unfold wid
  rw [Nat.div_lt_iff_lt_mul (Nat.two_pow_pos d)]
  have:y*3329+3329≤2^d*3329:=by
   have:=Nat.mul_le_mul_right 3329 (show y+1≤2^d by omega)
   rw [Nat.add_mul,Nat.one_mul] at this
   exact this
  rw [Nat.mul_comm 3329]
  omega
 exact ⟨by omega,by omega⟩
end Go.Proofs.YtemdbgmldljbpaaGreatDoor

/- own -/
set_option linter.unusedSimpArgs false
set_option linter.unusedVariables false
set_option maxRecDepth 100000
namespace Go.Proofs.YtemdbgmldljbpaaGreatDoor
open Go Go.Mx
theorem rdPz {z z0:PL}{i:Nat}(h:i<z0.length) (he:z[i]? = z0[i]?):rdL CP z (i:Int)=z0[i]:=by
 unfold rdL
 rw [Int.toNat_natCast,List.getD_eq_getElem?_getD,he,List.getElem?_eq_getElem h]
 rfl
theorem ntV_len (v:PL):(ntV v).length=v.length:=by simp [ntV]
end Go.Proofs.YtemdbgmldljbpaaGreatDoor

/- own -/
set_option linter.unusedSimpArgs false
set_option linter.unusedVariables false
set_option maxRecDepth 100000
namespace Go.Proofs.YtemdbgmldljbpaaGreatDoor
open Go Go.Mx
def uV (u0 y:PL) (C:List PL) (du k:Nat):PL:=(List.range k).map fun i=>sqzA du (padd (u0.getD i (zeroA 256)) (pback (dotF (C.getD i []) y (zeroA 256))))
theorem uV_len (u0 y:PL) (C:List PL) (du k:Nat):(uV u0 y C du k).length=k:=by simp [uV]
theorem uV_bel (u0 y:PL) (C:List PL) (du k:Nat):∀ a∈uV u0 y C du k,Bel ((2^du:Nat):Int) a:=fun a ha=>by
 obtain ⟨i,_,rfl⟩:=List.mem_map.1 ha
 exact bel_sqz _ _
theorem enc_step {Dt:PL→PL→Option (Arr 256)}{Bk Sq:Arr 256→Option (Arr 256)}{Ad:Arr 256→Arr 256→Option (Arr 256)}{L:Int→PL→Option PL}{C:List PL}{y z u0:PL}{i:Nat}{d b ad s:Arr 256}(hi:i<C.length) (hz:i<z.length) (hu:i<u0.length) (he:z[i]? = u0[i]?) (hn:i<1000) (hd:Dt C[i] y=some d) (hb:Bk d=some b) (ha:Ad u0[i] b=some ad) (hs:Sq ad=some s) :
  (if (i:Int)<(C.length:Int) then (if 0≤(i:Int) then (if (i:Int)<C.length then (if 0≤(i:Int) then (if (i:Int)<z.length then ((Dt (rdLL C (i:Int)) y).bind fun r21=>(Bk r21).bind fun r22=>(Ad (rdL (CA .i32 256 (by decide)) z (i:Int)) r22).bind fun r23=>(Sq r23).bind fun r24=>if 0≤(i:Int) then (if (i:Int)<z.length then (L (iadd .i64 (i:Int) 1) (wrL z (i:Int) r24)) else none) else none) else none) else none) else none) else none) else (some z))=L ((i+1:Nat):Int) (z.set i s):=by
 have c:(i:Int)<((C.length:Nat):Int):=by omega
 have c0:(0:Int)≤(i:Int):=by omega
 have c1:(i:Int)<((z.length:Nat):Int):=by omega
 have er:rdL (CA .i32 256 (by decide)) z (i:Int)=u0[i]:=rdPz hu he
 simp only [c,c0,c1,rdLLg hi,hd,hb,er,ha,hs,ginc (i:=i) (by omega),wrS,if_true,Option.bind_some]
theorem kEnc_l0 {u0 y:PL}{C:List PL}{du k:Nat}(hd1:1≤du) (hd2:du≤11) (hk:k≤100) (hu:FL u0) (lu:u0.length=k) (hy:FL y) (ly:y.length=k) (hC:∀ r∈C,FL r∧r.length=k) (lC:C.length=k):kpke_Encrypt.l0 60000 60000 (du:Int) C y 0 u0=some (uV u0 y C du k):=by
 refine fill0 (fun q i z=>kpke_Encrypt.l0 60000 q (du:Int) C y i z) k (fun i=>sqzA du (padd (u0.getD i (zeroA 256)) (pback (dotF (C.getD i []) y (zeroA 256))))) u0 lu (fun q z=>?_) (fun q i z hi hl he=>?_) 60000 (by omega)
 ·have c:¬ (k:Int)<((C.length:Nat):Int):=by omega
  simp only [kpke_Encrypt.l0,c,if_false]
 ·have hC1:i<C.length:=by omega
  obtain ⟨r1,r2⟩:=hC _ (List.getElem_mem hC1)
  have hu1:i<u0.length:=by omega
  have fu:FitK u0[i]:=hu _ (List.getElem_mem hu1)
  have e1:u0.getD i (zeroA 256)=u0[i]:=getD_mem hu1
  have e2:C.getD i []=C[i]:=by rw [List.getD_eq_getElem?_getD,List.getElem?_eq_getElem hC1]; rfl
  have hd:=kDot r1 hy (by omega) (by omega)
  have fd:=dotF_fit C[i] y (zeroA 256) fit_zero
  rw [e1,e2]
  generalize dotF C[i] y (zeroA 256)=d at hd fd ⊢
  have hb:kq_Back.f 60000 d=some (pback d):=kq_Back_eq _ fd
  have fb:=fit_pback d
  generalize pback d=b at hb fb ⊢
  have ha:=kq_Add_eq 60000 (by decide) u0[i] b fu fb
  have fa:=fit_padd u0[i] b
  generalize padd u0[i] b=a at ha fa ⊢
  have hs:=kq_Squeeze_eq 60000 (by decide) a du hd1 hd2 fa
  generalize sqzA du a=s at hs ⊢
  have st:=enc_step (Dt:=kpke_vector_dot.f 60000) (Bk:=kq_Back.f 60000) (Sq:=fun r=>kq_Squeeze.f 60000 r (du:Int)) (Ad:=kq_Add.f 60000) (L:=fun i z=>kpke_Encrypt.l0 60000 q (du:Int) C y i z) (z:=z) hC1 (by omega) hu1 (he i (Nat.le_refl _)) (by omega) hd hb ha hs
  show kpke_Encrypt.l0 60000 (q+1) (du:Int) C y (i:Int) z=kpke_Encrypt.l0 60000 q (du:Int) C y ((i+1:Nat):Int) (z.set i s)
  rw [kpke_Encrypt.l0]
  exact st
theorem kSpread {m:List Int}(hm:Byt m) (lm:m.length=32):kpke_spread.f 60000 m=some (widA 1 (unpV m 1).1)∧FitK (widA 1 (unpV m 1).1):=by
 have hu:kq_Unpack.f 60000 m 1=some (unpV m 1):=kq_Unpack_eq 60000 (by decide) m hm 1
 obtain ⟨_,hb⟩:=unpV_any (b:=m) (d:=1) (by decide) (by decide) (by omega)
 have hb':Bel ((2^1:Nat):Int) (unpV m 1).1:=hb
 have hw:kq_Widen.f 60000 (unpV m 1).1 1=some (widA 1 (unpV m 1).1):=kq_Widen_eq 60000 (by decide) _ 1 (by decide) (by decide) hb'
 refine ⟨?_,fit_widA (by decide) (by decide) hb'⟩
 unfold kpke_spread.f
 generalize unpV m 1=u at hu hw ⊢
 rw [hu]
 simp only [Option.bind_some]
 rw [hw]
 rfl
theorem enc_core {Sz:Option (Int × Int × Int)}{a1:List Int}{Rd:Option (PL × Bool)}{c2 c3:Prop}[Decidable c2] [Decidable c3] {Ex:List Int→Option (List PL × Int)}{N1 N2:Option PL}{Vp:PL→Option PL}{L:List PL→PL→PL→Option PL}{Dt:PL→PL→Option (Arr 256)}{Bk Sq:Arr 256→Option (Arr 256)}{Ns Sp:Option (Arr 256)}{Ad:Arr 256→Arr 256→Option (Arr 256)}{Pd:PL→Option (List Int)}{Pk:Arr 256→Option (List Int)}{Jn:List Int→List Int→Option (List Int)}
  {n:Nat}{p q:Int}{t n1 y n2 u:PL}{C:List PL}{d b ns ad sp a2 s:Arr 256}{pu pv out:List Int}
  (h1:Sz=some (((n+32:Nat):Int),p,q)) (hn:n<100000) (l1:a1.length=n+32) (h2:Rd=some (t,true)) (k2:c2) (k3:c3) (h3:Ex (a1.drop n)=some (C,0)) (h4:N1=some n1) (h5:Vp n1=some y) (h6:N2=some n2) (h7:L C y n2=some u) (h8:Dt t y=some d) (h9:Bk d=some b) (h10:Ns=some ns) (h11:Ad b ns=some ad) (h12:Sp=some sp) (h13:Ad ad sp=some a2) (h14:Sq a2=some s) (h15:Pd u=some pu) (h16:Pk s=some pv) (h17:Jn pu pv=some out) :
  (Sz.bind fun (r2,r3,r4)=>if r2=0 then (some (([]:List Int),9)) else (if (a1.length:Int)=r2 then (Rd.bind fun (r5,r6)=>if r6=true then (if c2 then (if c3 then (if 0≤(isub .i64 r2 32) then (if (isub .i64 r2 32)≤(a1.length:Int) then (if (a1.length:Int)≤a1.length then ((Ex (subL a1 (isub .i64 r2 32) (a1.length:Int))).bind fun (r8,r9)=>if r9=0 then (N1.bind fun r14=>(Vp r14).bind fun r15=>N2.bind fun r16=>(L r8 r15 r16).bind fun y19=>(((Dt r5 r15).bind fun r27=>(Bk r27).bind fun r28=>Ns.bind fun r29=>(Ad r28 r29).bind fun r30=>some r30:Option ((Arr 256)))).bind fun y26=>Sp.bind fun r46=>(Ad y26 r46).bind fun r47=>(Sq r47).bind fun r48=>(Pd y19).bind fun r49=>(Pk r48).bind fun r50=>(Jn r49 r50).bind fun r52=>some (r52,(0:Int))) else (some (([]:List Int),r9))) else none) else none) else none) else (some (([]:List Int),14))) else (some (([]:List Int),14))) else (some (([]:List Int),10))) else (some (([]:List Int),10))))=some (out,0):=by
 subst h1 h2 h4 h6 h10 h12
 have e:isub .i64 ((n+32:Nat):Int) 32=((n:Nat):Int):=by rw [sub64 (by omega) (by omega)]; omega
 have c0:¬ ((n+32:Nat):Int)=0:=by omega
 have c1:((a1.length:Nat):Int)=((n+32:Nat):Int):=by omega
 have c4:(0:Int)≤(n:Int):=by omega
 have c5:(n:Int)≤((a1.length:Nat):Int):=by omega
 have c6:((a1.length:Nat):Int)≤((a1.length:Nat):Int):=Int.le_refl _
 have es:subL a1 (n:Int) ((a1.length:Nat):Int)=a1.drop n:=by rw [g_sub,List.take_length]
 simp only [Option.bind_some,e,c0,if_false]
 rw [if_pos c1]
 simp only [k2,k3,c4,c5,c6,es,h3,h5,h7,h8,h9,h11,h13,h14,h15,h16,h17,if_true,Option.bind_some]
def wV (t y:PL) (N:Arr 256) (m:List Int) (dv:Nat):Arr 256:=sqzA dv (padd (padd (pback (dotF t y (zeroA 256))) N) (widA 1 (unpV m 1).1))
def encV (t:PL) (C:List PL) (m rnd:List Int) (k e1 e2 du dv:Nat):List Int:=pkV (uV (nsV k e2 rnd k) (ntV (nsV k e1 rnd 0)) C du k) (du:Int)++packV (wV t (ntV (nsV k e1 rnd 0)) (noiV (absV 7 (zeroA 25,0) false (rnd++[((2*k:Nat):Int)])) e2) m dv) (dv:Int)
theorem encV_size {k e1 e2 du dv:Nat}(hx:KX k e1 e2 du dv) (t:PL) (C:List PL) (m rnd:List Int):(encV t C m rnd k e1 e2 du dv).length=32*(du*k+dv)∧Byt (encV t C m rnd k e1 e2 du dv):=by
 obtain ⟨k2,k4,d1,d2,v1,v2⟩:=hx.bd
 obtain ⟨q1,q2⟩:=pkV_lenD (d:=du) (by omega) (by omega) (uV_bel (nsV k e2 rnd k) (ntV (nsV k e1 rnd 0)) C du k)
 rw [uV_len] at q1
 have bv:=bel_sqz dv (padd (padd (pback (dotF t (ntV (nsV k e1 rnd 0)) (zeroA 256))) (noiV (absV 7 (zeroA 25,0) false (rnd++[((2*k:Nat):Int)])) e2)) (widA 1 (unpV m 1).1))
 obtain ⟨w1,w2⟩:=packV_size (a:=wV t (ntV (nsV k e1 rnd 0)) (noiV (absV 7 (zeroA 25,0) false (rnd++[((2*k:Nat):Int)])) e2) m dv) (d:=dv) (by omega) (by omega) (by rw [if_neg (by omega)]; exact bv)
 unfold encV
 refine ⟨?_,q2.append w2⟩
 rw [List.length_append,q1,w1,Nat.mul_add,Nat.mul_assoc]
theorem kEncryptG {k e1 e2 du dv:Nat}(hx:KX k e1 e2 du dv) {pk:List Int}(hb:Byt pk) (lpk:pk.length=384*k+32) {t:PL}(hr:rdV pk 12 (32*12) k 0 []=(t,true)) (ht:FL t) (lt:t.length=k) {m rnd:List Int}(hm:Byt m) (lm:m.length=32) (lrnd:rnd.length=32) {C:List PL}(hC:matF (fun i j=>pt (pk.drop (384*k)) j i) k k 0 []=some C) :
  kpke_Encrypt.f 60000 (k:Int) (e1:Int) (e2:Int) (du:Int) (dv:Int) pk m rnd=some (encV t C m rnd k e1 e2 du dv,0):=by
 obtain ⟨k2,k4,d1,d2,v1,v2⟩:=hx.bd
 have he1:=hx.e1
 have he2:=hx.e2
 have rd:=kRead (b:=pk) (d:=12) (k0:=k) hb (by decide) (by omega) (by omega) (by omega)
 rw [hr] at rd
 obtain ⟨m1,m2,_⟩:=matF_some (pt_good' (pk.drop (384*k))) k 0 [] C hC (fun r h=>by cases h)
 have lC:C.length=k:=by rw [m1]; show 0+k=k; omega
 have ex:=kMatT (rho:=pk.drop (384*k)) (by rw [List.length_drop]; omega) (k0:=k) (by omega) (e1:Int) (e2:Int) (du:Int) (dv:Int)
 rw [hC] at ex
 have ex':kpke_expanded_s.f 60000 (k:Int) (e1:Int) (e2:Int) (du:Int) (dv:Int) (pk.drop (384*k))=some (C,0):=ex
 have n1:=kNoises (k:=k) (by omega) he1 (s:=rnd) (by omega) (first:=0) (by decide)
 have n2:=kNoises (k:=k) (by omega) he2 (s:=rnd) (by omega) (first:=k) (by omega)
 have y1:=kVparts (nsV_fit k e1 rnd 0) (by rw [nsV_len]; omega)
 have fy:FL (ntV (nsV k e1 rnd 0)):=ntV_fit (nsV_fit _ _ _ _)
 have ly:(ntV (nsV k e1 rnd 0)).length=k:=by rw [ntV_len,nsV_len]
 have l:=kEnc_l0 (u0:=nsV k e2 rnd k) (y:=ntV (nsV k e1 rnd 0)) (C:=C) (du:=du) (k:=k) (by omega) (by omega) (by omega) (nsV_fit _ _ _ _) (nsV_len _ _ _ _) fy ly m2 lC
 have dt:=kDot ht fy (by omega) (by omega)
 have bk:kq_Back.f 60000 (dotF t (ntV (nsV k e1 rnd 0)) (zeroA 256))=some (pback (dotF t (ntV (nsV k e1 rnd 0)) (zeroA 256))):=kq_Back_eq _ (dotF_fit _ _ _ fit_zero)
 have em:iconv .u8 (imul .i64 2 (k:Int))=((2*k:Nat):Int):=by
  have:imul .i64 2 (k:Int)=((2*k:Nat):Int):=by unfold imul; rw [id64 (by omega) (by omega)]; omega
  rw [this,cvu8 (by omega)]
 have ns:=kNoise (s:=rnd) (by omega) he2 ((2*k:Nat):Int)
 have ns':kpke_Noise.f 60000 (e2:Int) rnd (iconv .u8 (imul .i64 2 (k:Int)))=some (noiV (absV 7 (zeroA 25,0) false (rnd++[((2*k:Nat):Int)])) e2):=by rw [em]; exact ns
 have a1:=kq_Add_eq 60000 (by decide) (pback (dotF t (ntV (nsV k e1 rnd 0)) (zeroA 256))) (noiV (absV 7 (zeroA 25,0) false (rnd++[((2*k:Nat):Int)])) e2) (fit_pback _) (fit_noiV _ _)
 obtain ⟨s1,s2⟩:=kSpread hm lm
 have a2:=kq_Add_eq 60000 (by decide) (padd (pback (dotF t (ntV (nsV k e1 rnd 0)) (zeroA 256))) (noiV (absV 7 (zeroA 25,0) false (rnd++[((2*k:Nat):Int)])) e2)) (widA 1 (unpV m 1).1) (fit_padd _ _) s2
 have sq:=kq_Squeeze_eq 60000 (by decide) (padd (padd (pback (dotF t (ntV (nsV k e1 rnd 0)) (zeroA 256))) (noiV (absV 7 (zeroA 25,0) false (rnd++[((2*k:Nat):Int)])) e2)) (widA 1 (unpV m 1).1)) dv (by omega) (by omega) (fit_padd _ _)
 have hv:encV t C m rnd k e1 e2 du dv=pkV (uV (nsV k e2 rnd k) (ntV (nsV k e1 rnd 0)) C du k) (du:Int)++packV (sqzA dv (padd (padd (pback (dotF t (ntV (nsV k e1 rnd 0)) (zeroA 256))) (noiV (absV 7 (zeroA 25,0) false (rnd++[((2*k:Nat):Int)])) e2)) (widA 1 (unpV m 1).1))) (dv:Int):=rfl
 have sz:=(encV_size hx t C m rnd).1
 rw [hv] at sz ⊢
 generalize sqzA dv (padd (padd (pback (dotF t (ntV (nsV k e1 rnd 0)) (zeroA 256))) (noiV (absV 7 (zeroA 25,0) false (rnd++[((2*k:Nat):Int)])) e2)) (widA 1 (unpV m 1).1))=w at sq sz ⊢
 have lu:=uV_len (nsV k e2 rnd k) (ntV (nsV k e1 rnd 0)) C du k
 generalize uV (nsV k e2 rnd k) (ntV (nsV k e1 rnd 0)) C du k=u at l sz lu ⊢
 have pu:=kPacked (v:=u) (by omega) (du:Int)
 have pw:=kq_Pack_eq 60000 (by decide) w (dv:Int)
 have hb1:du*k≤11*4:=Nat.mul_le_mul (by omega) k4
 have e:([pkV u (du:Int),packV w (dv:Int)]:List (List Int)).flatten=pkV u (du:Int)++packV w (dv:Int):=by simp
 have jn:=gJoinW 60000 (W:=[pkV u (du:Int),packV w (dv:Int)]) (by show 2<60000; decide) (by show 2<100000; decide) (by
  rw [e,sz]
  omega)
 rw [e] at jn
 have core:=enc_core (Sz:=kpke_Sizes.f 60000 (k:Int) (e1:Int) (e2:Int) (du:Int) (dv:Int)) (a1:=pk) (c2:=((m.length:Nat):Int)=32) (c3:=((rnd.length:Nat):Int)=32) (Ex:=fun r=>kpke_expanded_s.f 60000 (k:Int) (e1:Int) (e2:Int) (du:Int) (dv:Int) r) (Vp:=kpke_vector_parts.f 60000) (L:=fun r8 r15 r16=>kpke_Encrypt.l0 60000 60000 (du:Int) r8 r15 0 r16) (Dt:=kpke_vector_dot.f 60000) (Bk:=kq_Back.f 60000) (Sq:=fun r=>kq_Squeeze.f 60000 r (dv:Int)) (Ad:=kq_Add.f 60000) (Pd:=fun r=>kpke_vector_packed.f 60000 r (du:Int)) (Pk:=fun r=>kq_Pack.f 60000 r (dv:Int)) (Jn:=fun a b=>bits_Join.f 60000 [a,b])
   hx.sizes (by omega) lpk rd (by omega) (by omega) ex' n1 y1 n2 l dt bk ns' a1 s1 a2 sq pu pw jn
 unfold kpke_Encrypt.f
 exact core
theorem kDec_l0 {u:PL}{du:Nat}(hd1:1≤du) (hd2:du≤11) (hk:u.length≤100) (hu:∀ a∈u,Bel ((2^du:Nat):Int) a):kpke_Decrypt.l0 60000 60000 (du:Int) u 0 u=some (u.map (widA du)):=by
 have h:=fill0 (fun q i z=>kpke_Decrypt.l0 60000 q (du:Int) u i z) u.length (fun i=>widA du (u.getD i (zeroA 256))) u rfl (fun q z=>by
   have c:¬ ((u.length:Nat):Int)<((u.length:Nat):Int):=by omega
   simp only [kpke_Decrypt.l0,c,if_false]) (fun q i z hi hl he=>by
   have c:(i:Int)<((u.length:Nat):Int):=by omega
   have c0:(0:Int)≤(i:Int):=by omega
   have c1:(i:Int)<((z.length:Nat):Int):=by omega
   have hw:=kq_Widen_eq 60000 (by decide) u[i] du hd1 hd2 (hu _ (List.getElem_mem hi))
   simp only [kpke_Decrypt.l0,c,c0,c1,rdPz hi (he i (Nat.le_refl _)),hw,getD_mem hi,ginc (i:=i) (by omega),wrS,if_true,Option.bind_some]) 60000 (by omega)
 rw [map_range u (widA du) u.length rfl] at h
 exact h
theorem dec_core {Sz:Option (Int × Int × Int)}{a1 a2:List Int}{R1 R2:Option (PL × Bool)}{L Vp:PL→Option PL}{Un:List Int→Option (Arr 256 × Bool)}{Wd Bk Sq:Arr 256→Option (Arr 256)}{Dt:PL→PL→Option (Arr 256)}{Sb:Arr 256→Arr 256→Option (Arr 256)}{Pk:Arr 256→Option (List Int)}{p n sz x:Nat}{X:Int}{s u uw y:PL}{ub vb:Bool}{v vw d b w q:Arr 256}{out:List Int}
  (h1:Sz=some ((p:Int),(n:Int),(sz:Int))) (hn:0<n) (l1:a1.length=n) (l2:a2.length=sz) (hX:isub .i64 (sz:Int) X=(x:Int)) (hx:x≤sz) (h2:R1=some (s,true)) (h3:R2=some (u,ub)) (h4:L u=some uw) (h5:Un (a2.drop x)=some (v,vb)) (h6:Wd v=some vw) (h7:Vp uw=some y) (h8:Dt s y=some d) (h9:Bk d=some b) (h10:Sb vw b=some w) (h11:Sq w=some q) (h12:Pk q=some out) :
  (Sz.bind fun (r2,r3,r4)=>if r3=0 then (some (([]:List Int),(9:Int))) else (if (a1.length:Int)=r3 then (R1.bind fun (r5,r6)=>if r6=true then (if (a2.length:Int)=r4 then (R2.bind fun (r7,r8)=>(L r7).bind fun y11=>((if 0≤(isub .i64 r4 X) then (if (isub .i64 r4 X)≤(a2.length:Int) then (if (a2.length:Int)≤a2.length then ((Un (subL a2 (isub .i64 r4 X) (a2.length:Int))).bind fun (r17,r18)=>some r17) else none) else none) else none:Option ((Arr 256)))).bind fun y15=>(Wd y15).bind fun r23=>(Vp y11).bind fun r24=>(Dt r5 r24).bind fun r25=>(Bk r25).bind fun r26=>(Sb r23 r26).bind fun r27=>(Sq r27).bind fun r29=>(Pk r29).bind fun r30=>some (r30,(0:Int))) else (some (([]:List Int),(14:Int)))) else (some (([]:List Int),(10:Int)))) else (some (([]:List Int),(10:Int)))))=some (out,(0:Int)):=by
 subst h1 h2 h3
 have c0:¬ (n:Int)=0:=by omega
 have c1:((a1.length:Nat):Int)=(n:Int):=by omega
 have c2:((a2.length:Nat):Int)=(sz:Int):=by omega
 have c4:(0:Int)≤(x:Int):=by omega
 have c5:(x:Int)≤((a2.length:Nat):Int):=by omega
 have c6:((a2.length:Nat):Int)≤((a2.length:Nat):Int):=Int.le_refl _
 have es:subL a2 (x:Int) ((a2.length:Nat):Int)=a2.drop x:=by rw [g_sub,List.take_length]
 simp only [Option.bind_some,c0,if_false]
 rw [if_pos c1]
 simp only [Option.bind_some,if_true]
 rw [if_pos c2]
 simp only [hX,c4,c5,c6,es,h4,h5,h6,h7,h8,h9,h10,h11,h12,if_true,Option.bind_some]
def decV (s:PL) (c:List Int) (k du dv:Nat):List Int:=packV (sqzA 1 (ksub (widA dv (unpV (c.drop (32*(du*k))) (dv:Int)).1) (pback (dotF s (ntV ((rdV c du (32*du) k 0 []).1.map (widA du))) (zeroA 256))))) 1
theorem kDecryptG {k e1 e2 du dv:Nat}(hx:KX k e1 e2 du dv) {sk:List Int}(hsk:Byt sk) (lsk:sk.length=384*k) {s:PL}(hr:rdV sk 12 (32*12) k 0 []=(s,true)) (hs:FL s) (ls:s.length=k) {c:List Int}(hc:Byt c) (lc:c.length=32*(du*k+dv)) :
  kpke_Decrypt.f 60000 (k:Int) (e1:Int) (e2:Int) (du:Int) (dv:Int) sk c=some (decV s c k du dv,0):=by
 obtain ⟨k2,k4,d1,d2,v1,v2⟩:=hx.bd
 have rd:=kRead (b:=sk) (d:=12) (k0:=k) hsk (by decide) (by omega) (by omega) (by omega)
 rw [hr] at rd
 have hdk:du*k≤11*4:=Nat.mul_le_mul (by omega) k4
 have ecm:k*(32*du)=32*(du*k):=by rw [Nat.mul_comm k,Nat.mul_assoc]
 have r2:=kRead (b:=c) (d:=du) (k0:=k) hc (by omega) (by omega) (by rw [lc,ecm]; omega) (by rw [lc]; omega)
 obtain ⟨g1,g2,g3⟩:=rdV_any (b:=c) (d:=du) (by omega) (by omega) k 0 [] (by rw [Nat.zero_add,lc,ecm]; omega) (fun a h=>by cases h)
 unfold decV
 generalize rdV c du (32*du) k 0 []=U at r2 g1 g2 g3 ⊢
 obtain ⟨u,ub⟩:=U
 have lu:u.length=k:=by rw [g2]; show 0+k=k; omega
 have l:=kDec_l0 (u:=u) (du:=du) (by omega) (by omega) (by omega) g3
 have fw:FL (u.map (widA du)):=fun a ha=>by
  obtain ⟨b,hb,rfl⟩:=List.mem_map.1 ha
  exact fit_widA (by omega) (by omega) (g3 b hb)
 have vp:=kVparts fw (by rw [List.length_map]; omega)
 have ld:(c.drop (32*(du*k))).length=32*dv:=by rw [List.length_drop,lc]; omega
 have un:=kq_Unpack_eq 60000 (by decide) (c.drop (32*(du*k))) (fun x hx=>hc x (List.mem_of_mem_drop hx)) (dv:Int)
 obtain ⟨_,ub2⟩:=unpV_any (b:=c.drop (32*(du*k))) (d:=dv) (by omega) (by omega) ld
 generalize unpV (c.drop (32*(du*k))) (dv:Int)=V at un ub2 ⊢
 obtain ⟨v,vb⟩:=V
 have wd:=kq_Widen_eq 60000 (by decide) v dv (by omega) (by omega) ub2
 have dt:=kDot hs (ntV_fit fw) (by rw [ntV_len,List.length_map]; omega) (by omega)
 have bk:kq_Back.f 60000 (dotF s (ntV (u.map (widA du))) (zeroA 256))=some (pback (dotF s (ntV (u.map (widA du))) (zeroA 256))):=kq_Back_eq _ (dotF_fit _ _ _ fit_zero)
 have sb:=kq_Sub_eq 60000 (by decide) (widA dv v) (pback (dotF s (ntV (u.map (widA du))) (zeroA 256))) (fit_widA (by omega) (by omega) ub2) (fit_pback _)
 have sq:=kq_Squeeze_eq 60000 (by decide) (ksub (widA dv v) (pback (dotF s (ntV (u.map (widA du))) (zeroA 256)))) 1 (by decide) (by decide) (fit_ksub _ _)
 have sq':kq_Squeeze.f 60000 (ksub (widA dv v) (pback (dotF s (ntV (u.map (widA du))) (zeroA 256)))) 1=some (sqzA 1 (ksub (widA dv v) (pback (dotF s (ntV (u.map (widA du))) (zeroA 256))))):=sq
 have pk:kq_Pack.f 60000 (sqzA 1 (ksub (widA dv v) (pback (dotF s (ntV (u.map (widA du))) (zeroA 256))))) 1=some (packV (sqzA 1 (ksub (widA dv v) (pback (dotF s (ntV (u.map (widA du))) (zeroA 256))))) 1):=kq_Pack_eq 60000 (by decide) _ 1
 have eX:imul .i64 32 (dv:Int)=((32*dv:Nat):Int):=by unfold imul; rw [id64 (by omega) (by omega)]; omega
 have eX2:isub .i64 ((32*(du*k+dv):Nat):Int) (imul .i64 32 (dv:Int))=((32*(du*k):Nat):Int):=by
  rw [eX,sub64 (by omega) (by omega)]
  omega
 have core:=dec_core (Sz:=kpke_Sizes.f 60000 (k:Int) (e1:Int) (e2:Int) (du:Int) (dv:Int)) (a1:=sk) (a2:=c) (X:=imul .i64 32 (dv:Int)) (L:=fun r7=>kpke_Decrypt.l0 60000 60000 (du:Int) r7 0 r7) (Vp:=kpke_vector_parts.f 60000) (Un:=fun r=>kq_Unpack.f 60000 r (dv:Int)) (Wd:=fun r=>kq_Widen.f 60000 r (dv:Int)) (Bk:=kq_Back.f 60000) (Sq:=fun r=>kq_Squeeze.f 60000 r 1) (Dt:=kpke_vector_dot.f 60000) (Sb:=kq_Sub.f 60000) (Pk:=fun r=>kq_Pack.f 60000 r 1)
  hx.sizes (by omega) lsk lc eX2 (by omega) rd r2 l un wd vp dt bk sb sq' pk
 unfold kpke_Decrypt.f
 exact core
theorem decV_len {k du dv:Nat}(s:PL) (c:List Int):(decV s c k du dv).length=32:=(packV_size (d:=1) (by decide) (by decide) (bel_sqz 1 _)).1
end Go.Proofs.YtemdbgmldljbpaaGreatDoor
