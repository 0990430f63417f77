/- own -/
import Derived.Test.YtemdbgmldljbpaaGreatDoorUb
import Derived.Test.YtemdbgmldljbpaaGreatDoorKx
import Derived.Test.YtemdbgmldljbpaaGreatDoorKw
set_option linter.unusedSimpArgs false
set_option linter.unusedVariables false
set_option maxRecDepth 100000
namespace Go.Proofs.YtemdbgmldljbpaaGreatDoor
open Go Go.Mx
abbrev PL:=List (Arr 256)
def FL (l:PL):Prop:=∀ a∈l,FitK a
abbrev CP:Cod (Arr 256):=CA .i32 256 (by decide)
theorem rdP {l:PL}{i:Nat}(h:i<l.length):rdL CP l (i:Int)=l[i]:=by
 unfold rdL
 rw [Int.toNat_natCast,List.getD_eq_getElem?_getD,List.getElem?_eq_getElem h]
 rfl
theorem fill_list {T:Type}(L:Nat→Int→List T→Option (List T)) (n:Nat) (f:Nat→T) (z0:List T) (hz:z0.length=n) (hend:∀ k z,L (k+1) (n:Int) z=some z)
  (hstep:∀ (k i:Nat) (z:List T),i<n→z.length=n→(∀ j,i≤j→z[j]? = z0[j]?)→L (k+1) (i:Int) z=L k ((i+1:Nat):Int) (z.set i (f i))) :
  ∀ (m i k:Nat),i+m=n→m<k→L k (i:Int) ((List.range i).map f++z0.drop i)=some ((List.range n).map f):=by
 intro m
 induction m with
 | zero=>
  intro i k hi hk
  obtain ⟨k,rfl⟩ : ∃ q,k=q+1:=⟨k-1,by omega⟩
  rw [show i=n by omega,hend,List.drop_of_length_le (by omega),List.append_nil]
 | succ m ih=>
  intro i k hi hk
  obtain ⟨k,rfl⟩ : ∃ q,k=q+1:=⟨k-1,by omega⟩
  have ll:((List.range i).map f).length=i:=by rw [List.length_map,List.length_range]
  rw [hstep k i _ (by omega) (by rw [List.length_append,ll,List.length_drop]; omega) (fun j hj=>by rw [List.getElem?_append_right (by omega),ll,List.getElem?_drop]; congr 1; omega)]
  have es:((List.range i).map f++z0.drop i).set i (f i)=(List.range (i+1)).map f++z0.drop (i+1):=by
   rw [List.set_append_right _ _ (by omega),ll,Nat.sub_self,List.drop_eq_getElem_cons (show i<z0.length by omega),List.set_cons_zero,List.range_succ,List.map_append,List.append_assoc]
   rfl
  rw [es]
  exact ih (i+1) k (by omega) (by omega)
theorem fill0 {T:Type}(L:Nat→Int→List T→Option (List T)) (n:Nat) (f:Nat→T) (z0:List T) (hz:z0.length=n) (hend:∀ k z,L (k+1) (n:Int) z=some z)
  (hstep:∀ (k i:Nat) (z:List T),i<n→z.length=n→(∀ j,i≤j→z[j]? = z0[j]?)→L (k+1) (i:Int) z=L k ((i+1:Nat):Int) (z.set i (f i))) (K:Nat) (hK:n<K):L K 0 z0=some ((List.range n).map f):=by
 have:=fill_list L n f z0 hz hend hstep n 0 K (by omega) hK
 simpa using this
theorem wrS {T:Type}(z:List T) (i:Nat) (v:T):wrL z (i:Int) v=z.set i v:=by
 unfold wrL
 rw [Int.toNat_natCast]
theorem fit_nF (N e:Nat):∀ (m i:Nat) (a:Arr 256),FitK a→FitK (nF N e m i a)
 | 0,_,_,h=>h
 | m+1,i,a,h=>fit_nF N e m (i+1) _ fun j hj=>by
  rw [rd_wr _ _ _ _ hj]
  split
  ·exact ⟨Int.emod_nonneg _ (by decide),Int.emod_lt_of_pos _ (by decide)⟩
  ·exact h j hj
theorem fit_noiV (S:Arr 25 × Nat) (e:Nat):FitK (noiV S e):=fit_nF _ _ _ _ _ fit_zero
def nsV (k e:Nat) (s:List Int) (first:Nat):PL:=(List.range k).map fun i=>noiV (absV 7 (zeroA 25,0) false (s++[((first+i:Nat):Int)])) e
theorem nsV_len (k e:Nat) (s:List Int) (first:Nat):(nsV k e s first).length=k:=by simp [nsV]
theorem nsV_fit (k e:Nat) (s:List Int) (first:Nat):FL (nsV k e s first):=fun a ha=>by
 obtain ⟨i,_,rfl⟩:=List.mem_map.1 ha
 exact fit_noiV _ _
theorem cvu8 {n:Nat}(h:n<256):iconv .u8 (n:Int)=(n:Int):=by unfold iconv; rw [wu8]; omega
theorem kNoises {k e:Nat}(hk:k≤100) (he:e=2∨e=3) {s:List Int}(ls:s.length≤300) {first:Nat}(hf:first≤100):kpke_noises.f 60000 (k:Int) (e:Int) s (first:Int)=some (nsV k e s first):=by
 have lz:(List.replicate ((k:Nat):Int).toNat (Cod.zero CP)).length=k:=by rw [List.length_replicate,Int.toNat_natCast]
 have h:=fill0 (fun q i z=>kpke_noises.l0 60000 q (k:Int) (e:Int) s (first:Int) i z) k (fun i=>noiV (absV 7 (zeroA 25,0) false (s++[((first+i:Nat):Int)])) e) (List.replicate ((k:Nat):Int).toNat (Cod.zero CP)) lz (fun q z=>by
   have c:¬ (k:Int)<(((List.replicate ((k:Nat):Int).toNat (Cod.zero CP)).length:Nat):Int):=by rw [lz]; omega
   simp only [kpke_noises.l0,c,if_false]) (fun q i z hi hl _=>by
   have c:(i:Int)<(((List.replicate ((k:Nat):Int).toNat (Cod.zero CP)).length:Nat):Int):=by rw [lz]; omega
   have c0:(0:Int)≤(i:Int):=by omega
   have c1:(i:Int)<((z.length:Nat):Int):=by omega
   have ea:iconv .u8 (iadd .i64 (first:Int) (i:Int))=((first+i:Nat):Int):=by
    rw [show iadd .i64 (first:Int) (i:Int)=((first+i:Nat):Int) by rw [add64 (by omega) (by omega)]; omega,cvu8 (by omega)]
   have hn:=kNoise ls he ((first+i:Nat):Int)
   simp only [kpke_noises.l0,c,c0,c1,ea,hn,ginc (i:=i) (by omega),wrS,if_true,Option.bind_some]) 60000 (by omega)
 have c0:(0:Int)≤(k:Int):=by omega
 have c1:(k:Int)≤137438953472:=by omega
 unfold kpke_noises.f
 rw [if_pos c0,if_pos c1,h]
 rfl
def ntV (v:PL):PL:=v.map pntt
theorem map_range (v:PL) (g:Arr 256→Arr 256) (n:Nat) (h:n=v.length):(List.range n).map (fun i=>g (v.getD i (zeroA 256)))=v.map g:=by
 subst h
 refine List.ext_getElem (by simp) fun i h1 h2=>?_
 simp only [List.getElem_map,List.getElem_range]
 rw [List.getD_eq_getElem?_getD,List.getElem?_eq_getElem (by simpa using h2)]
 rfl
theorem getD_mem {v:PL}{i:Nat}(h:i<v.length):v.getD i (zeroA 256)=v[i]:=by
 rw [List.getD_eq_getElem?_getD,List.getElem?_eq_getElem h]
 rfl
theorem ntV_fit {v:PL}(h:FL v):FL (ntV v):=fun a ha=>by
 obtain ⟨b,hb,rfl⟩:=List.mem_map.1 ha
 exact fit_pntt (h b hb)
theorem kVparts {v:PL}(hv:FL v) (lv:v.length≤1000):kpke_vector_parts.f 60000 v=some (ntV v):=by
 have lz:(List.replicate (((v.length:Nat):Int):Int).toNat (Cod.zero CP)).length=v.length:=by rw [List.length_replicate,Int.toNat_natCast]
 have h:=fill0 (fun q i z=>kpke_vector_parts.l0 60000 q v i z) v.length (fun i=>pntt (v.getD i (zeroA 256))) (List.replicate (((v.length:Nat):Int):Int).toNat (Cod.zero CP)) lz (fun q z=>by
   have c:¬ ((v.length:Nat):Int)<((v.length:Nat):Int):=by omega
   simp only [kpke_vector_parts.l0,c,if_false]) (fun q i z hi hl _=>by
   have c:(i:Int)<((v.length:Nat):Int):=by omega
   have c0:(0:Int)≤(i:Int):=by omega
   have c1:(i:Int)<((z.length:Nat):Int):=by omega
   have hn:kq_Ntt.f 60000 v[i]=some (pntt v[i]):=kq_Ntt_eq v[i] (hv _ (List.getElem_mem hi))
   simp only [kpke_vector_parts.l0,c,c0,c1,rdP hi,hn,getD_mem hi,ginc (i:=i) (by omega),wrS,if_true,Option.bind_some]) 60000 (by omega)
 have c0:(0:Int)≤((v.length:Nat):Int):=by omega
 have c1:((v.length:Nat):Int)≤137438953472:=by omega
 unfold kpke_vector_parts.f
 rw [if_pos c0,if_pos c1,h,map_range v pntt v.length rfl]
 rfl
def dotF:PL→PL→Arr 256→Arr 256
 | a::v,b::w,s=>dotF v w (padd s (pmul a b))
 | _,_,s=>s
theorem dotF_fit:∀ (v w:PL) (s:Arr 256),FitK s→FitK (dotF v w s)
 | [],_,_,h=>h
 | _::_,[],_,h=>h
 | a::v,b::w,s,h=>dotF_fit v w _ (fit_padd _ _)
theorem kDot_l0 {v w:PL}(hv:FL v) (hw:FL w) (hl:v.length≤w.length) (lv:v.length≤1000):∀ (m i k:Nat) (s:Arr 256),i+m=v.length→m<k→FitK s →
  kpke_vector_dot.l0 60000 k v w (i:Int) s=some (dotF (v.drop i) (w.drop i) s):=by
 intro m
 induction m with
 | zero=>
  intro i k s hi hk hs
  obtain ⟨k,rfl⟩ : ∃ q,k=q+1:=⟨k-1,by omega⟩
  have c:¬ (i:Int)<((v.length:Nat):Int):=by omega
  rw [List.drop_of_length_le (show v.length≤i by omega)]
  simp only [kpke_vector_dot.l0,c,if_false]
  rfl
 | succ m ih=>
  intro i k s hi hk hs
  obtain ⟨k,rfl⟩ : ∃ q,k=q+1:=⟨k-1,by omega⟩
  have hi1:i<v.length:=by omega
  have hi2:i<w.length:=by omega
  have c:(i:Int)<((v.length:Nat):Int):=by omega
  have c0:(0:Int)≤(i:Int):=by omega
  have c1:(i:Int)<((w.length:Nat):Int):=by omega
  have hm:kq_Mul.f 60000 v[i] w[i]=some (pmul v[i] w[i]):=kq_Mul_eq _ _ (hv _ (List.getElem_mem hi1)) (hw _ (List.getElem_mem hi2))
  have ha:=kq_Add_eq 60000 (by decide) s (pmul v[i] w[i]) hs (fit_pmul _ _)
  rw [List.drop_eq_getElem_cons hi1,List.drop_eq_getElem_cons hi2]
  simp only [kpke_vector_dot.l0,c,c0,c1,rdP hi1,rdP hi2,hm,ha,ginc (i:=i) (by omega),if_true,Option.bind_some]
  exact ih (i+1) k _ (by omega) (by omega) (fit_padd _ _)
theorem kDot {v w:PL}(hv:FL v) (hw:FL w) (hl:v.length≤w.length) (lv:v.length≤1000):kpke_vector_dot.f 60000 v w=some (dotF v w (zeroA 256)):=by
 have h:=kDot_l0 hv hw hl lv v.length 0 60000 (zeroA 256) (by omega) (by omega) fit_zero
 have h':kpke_vector_dot.l0 60000 60000 v w 0 (zeroA 256)=some (dotF v w (zeroA 256)):=h
 unfold kpke_vector_dot.f
 rw [h']
 rfl
def pkV (v:PL) (d:Int):List Int:=v.flatMap fun a=>packV a d
theorem kPacked_l0 {v:PL}(lv:v.length≤1000) (d:Int):∀ (m i k:Nat) (out:List Int),i+m=v.length→m<k→out.length+384*m≤1000000 →
  kpke_vector_packed.l0 60000 k v d (i:Int) out=some (out++pkV (v.drop i) d):=by
 intro m
 induction m with
 | zero=>
  intro i k out hi hk ho
  obtain ⟨k,rfl⟩ : ∃ q,k=q+1:=⟨k-1,by omega⟩
  have c:¬ (i:Int)<((v.length:Nat):Int):=by omega
  rw [List.drop_of_length_le (show v.length≤i by omega)]
  simp only [kpke_vector_packed.l0,c,if_false]
  show _=some (out++[])
  rw [List.append_nil]
 | succ m ih=>
  intro i k out hi hk ho
  obtain ⟨k,rfl⟩ : ∃ q,k=q+1:=⟨k-1,by omega⟩
  have hi1:i<v.length:=by omega
  have c:(i:Int)<((v.length:Nat):Int):=by omega
  have c0:(0:Int)≤(i:Int):=by omega
  have hp:=kq_Pack_eq 60000 (by decide) v[i] d
  have pl:=packV_len v[i] d
  have c1:out.length+(packV v[i] d).length≤140737488355328:=by omega
  rw [List.drop_eq_getElem_cons hi1]
  have e:pkV (v[i]::v.drop (i+1)) d=packV v[i] d++pkV (v.drop (i+1)) d:=List.flatMap_cons ..
  rw [e,← List.append_assoc]
  simp only [kpke_vector_packed.l0,c,c0,rdP hi1,hp,c1,ginc (i:=i) (by omega),if_true,Option.bind_some]
  exact ih (i+1) k _ (by omega) (by omega) (by rw [List.length_append]; omega)
theorem kPacked {v:PL}(lv:v.length≤1000) (d:Int):kpke_vector_packed.f 60000 v d=some (pkV v d):=by
 have h:=kPacked_l0 lv d v.length 0 60000 [] (by omega) (by omega) (by show 0+384*v.length≤_; omega)
 have h':kpke_vector_packed.l0 60000 60000 v d 0 []=some (pkV v d):=h
 unfold kpke_vector_packed.f
 rw [h']
 rfl
def rdV (b:List Int) (d n:Nat):Nat→Nat→PL→PL × Bool
 | 0,_,acc=>(acc,true)
 | m+1,i,acc=>if (unpV (subL b ((i*n:Nat):Int) (((i+1)*n:Nat):Int)) (d:Int)).2=true then rdV b d n m (i+1) (acc++[(unpV (subL b ((i*n:Nat):Int) (((i+1)*n:Nat):Int)) (d:Int)).1]) else ([],false)
theorem byt_sub {b:List Int}(hb:Byt b) (lo hi:Int):Byt (subL b lo hi):=fun x hx=>hb x (List.mem_of_mem_take (List.mem_of_mem_drop hx))
theorem kRead_l0 {b:List Int}(hb:Byt b) {d k0:Nat}(hd:d≤12) (hk0:k0≤100) (lb:k0*(32*d)≤b.length) (lb2:b.length≤100000):∀ (m i k:Nat) (acc:PL),i+m=k0→m<k→acc.length=i →
  kpke_read.l0 60000 k b (k0:Int) (d:Int) ((32*d:Nat):Int) (i:Int) (acc++List.replicate m (zeroA 256))=some (if (rdV b d (32*d) m i acc).2=true then .inl (rdV b d (32*d) m i acc).1 else .inr ([],false)):=by
 have lz:(List.replicate ((k0:Nat):Int).toNat (Cod.zero CP)).length=k0:=by rw [List.length_replicate,Int.toNat_natCast]
 intro m
 induction m with
 | zero=>
  intro i k acc hi hk ha
  obtain ⟨k,rfl⟩ : ∃ q,k=q+1:=⟨k-1,by omega⟩
  have c:¬ (i:Int)<(((List.replicate ((k0:Nat):Int).toNat (Cod.zero CP)).length:Nat):Int):=by rw [lz]; omega
  simp only [kpke_read.l0,c,if_false,List.replicate_zero,List.append_nil]
  rfl
 | succ m ih=>
  intro i k acc hi hk ha
  obtain ⟨k,rfl⟩ : ∃ q,k=q+1:=⟨k-1,by omega⟩
  have c:(i:Int)<(((List.replicate ((k0:Nat):Int).toNat (Cod.zero CP)).length:Nat):Int):=by rw [lz]; omega
  have b1:i*(32*d)≤100*384:=Nat.mul_le_mul (by omega) (by omega)
  have b2:(i+1)*(32*d)≤k0*(32*d):=Nat.mul_le_mul (by omega) (Nat.le_refl _)
  have b3:i*(32*d)≤(i+1)*(32*d):=Nat.mul_le_mul (by omega) (Nat.le_refl _)
  have m1:imul .i64 (i:Int) ((32*d:Nat):Int)=((i*(32*d):Nat):Int):=by
   unfold imul
   rw [← Int.natCast_mul,id64 (by omega) (by omega)]
  have m2:imul .i64 ((i+1:Nat):Int) ((32*d:Nat):Int)=(((i+1)*(32*d):Nat):Int):=by
   unfold imul
   rw [← Int.natCast_mul,id64 (by omega) (by omega)]
  have c0:(0:Int)≤((i*(32*d):Nat):Int):=by omega
  have c1:((i*(32*d):Nat):Int)≤(((i+1)*(32*d):Nat):Int):=by omega
  have c2:(((i+1)*(32*d):Nat):Int)≤((b.length:Nat):Int):=by omega
  have hu:=kq_Unpack_eq 60000 (by decide) (subL b ((i*(32*d):Nat):Int) (((i+1)*(32*d):Nat):Int)) (byt_sub hb _ _) (d:Int)
  have er:rdV b d (32*d) (m+1) i acc=if (unpV (subL b ((i*(32*d):Nat):Int) (((i+1)*(32*d):Nat):Int)) (d:Int)).2=true then rdV b d (32*d) m (i+1) (acc++[(unpV (subL b ((i*(32*d):Nat):Int) (((i+1)*(32*d):Nat):Int)) (d:Int)).1]) else ([],false):=rfl
  rw [er]
  generalize unpV (subL b ((i*(32*d):Nat):Int) (((i+1)*(32*d):Nat):Int)) (d:Int)=u at hu ⊢
  obtain ⟨ua,ub⟩:=u
  have c3:(0:Int)≤(i:Int):=by omega
  have lz2:(acc++List.replicate (m+1) (zeroA 256)).length=i+(m+1):=by rw [List.length_append,List.length_replicate,ha]
  have c4:(i:Int)<(((acc++List.replicate (m+1) (zeroA 256)).length:Nat):Int):=by rw [lz2]; omega
  have es:wrL (acc++List.replicate (m+1) (zeroA 256)) (i:Int) ua=(acc++[ua])++List.replicate m (zeroA 256):=by
   rw [wrS,List.set_append_right _ _ (by omega),ha,Nat.sub_self,List.replicate_succ,List.set_cons_zero,List.append_assoc]
   rfl
  simp only [kpke_read.l0,c,ginc (i:=i) (by omega),m1,m2,c0,c1,c2,c3,c4,hu,es,if_true,Option.bind_some]
  cases ub with
  | true=>
   simp only [if_true]
   exact ih (i+1) k _ (by omega) (by omega) (by rw [List.length_append,ha]; rfl)
  | false=>simp only [Bool.false_eq_true,if_false]
theorem kRead {b:List Int}(hb:Byt b) {d k0:Nat}(hd:d≤12) (hk0:k0≤100) (lb:k0*(32*d)≤b.length) (lb2:b.length≤100000):kpke_read.f 60000 b (k0:Int) (d:Int)=some (rdV b d (32*d) k0 0 []):=by
 have h:=kRead_l0 hb hd hk0 lb lb2 k0 0 60000 [] (by omega) (by omega) rfl
 have em:imul .i64 32 (d:Int)=((32*d:Nat):Int):=by unfold imul; rw [id64 (by omega) (by omega)]; omega
 have ez:(List.replicate ((k0:Nat):Int).toNat (Cod.zero CP))=[]++List.replicate k0 (zeroA 256):=by rw [Int.toNat_natCast]; rfl
 have c0:(0:Int)≤(k0:Int):=by omega
 have c1:(k0:Int)≤137438953472:=by omega
 have hf:∀ (m i:Nat) (acc:PL),(rdV b d (32*d) m i acc).2=false→rdV b d (32*d) m i acc=([],false):=fun m=>by
  induction m with
  | zero=>intro i acc h; cases h
  | succ m ih=>
   intro i acc h
   unfold rdV at h ⊢
   split
   next hc=>rw [if_pos hc] at h; exact ih _ _ h
   next=>rfl
 unfold kpke_read.f
 rw [em,Option.bind_some,if_pos c0,if_pos c1,ez]
 have h':kpke_read.l0 60000 60000 b (k0:Int) (d:Int) ((32*d:Nat):Int) 0 ([]++List.replicate k0 (zeroA 256))=_:=h
 rw [h']
 have hf':=hf k0 0 []
 generalize rdV b d (32*d) k0 0 []=r at hf' ⊢
 obtain ⟨ra,rb⟩:=r
 cases rb with
 | true=>rfl
 | false=>
  rw [hf' rfl]
  rfl
end Go.Proofs.YtemdbgmldljbpaaGreatDoor
