/- own -/
import Derived.Test.YtemdbgmldljbpaaDoorUg
import Derived.Test.YtemdbgmldljbpaaDoorKy
set_option linter.unusedSimpArgs false
set_option linter.unusedVariables false
set_option maxRecDepth 100000
namespace Go.Proofs.YtemdbgmldljbpaaDoor
open Go Go.Mx
theorem app_list {T R:Type}(L:Nat→Int→List T→Option R) (n:Nat) (f:Nat→T) (g:List T→R) (hend:∀ k z,L (k+1) (n:Int) z=some (g z))
  (hstep:∀ (k i:Nat) (z:List T),i<n→z.length=i→L (k+1) (i:Int) z=L k ((i+1:Nat):Int) (z++[f i])) :
  ∀ (m i k:Nat),i+m=n→m<k→L k (i:Int) ((List.range i).map f)=some (g ((List.range n).map f)):=by
 intro m
 induction m with
 | zero=>
  intro i k hi hk
  obtain ⟨k,rfl⟩ : ∃ q,k=q+1:=⟨k-1,by omega⟩
  rw [show i=n by omega,hend]
 | succ m ih=>
  intro i k hi hk
  obtain ⟨k,rfl⟩ : ∃ q,k=q+1:=⟨k-1,by omega⟩
  have ih1:=ih (i+1) k (by omega) (by omega)
  rw [List.range_succ,List.map_append] at ih1
  rw [hstep k i _ (by omega) (by rw [List.length_map,List.length_range])]
  exact ih1
theorem app0 {T R:Type}(L:Nat→Int→List T→Option R) (n:Nat) (f:Nat→T) (g:List T→R) (hend:∀ k z,L (k+1) (n:Int) z=some (g z))
  (hstep:∀ (k i:Nat) (z:List T),i<n→z.length=i→L (k+1) (i:Int) z=L k ((i+1:Nat):Int) (z++[f i])) (K:Nat) (hK:n<K):L K 0 []=some (g ((List.range n).map f)):=
 app_list L n f g hend hstep n 0 K (by omega) hK
theorem rDot_l0 {v w:PL}(hv:FL v) (hw:FL w) (hl:v.length≤w.length) (lv:v.length≤1000):∀ (m i k:Nat) (s:Arr 256),i+m=v.length→m<k→FitK s →
  ref26_dot.l0 60000 k v w (i:Int) s=some (dotF (v.drop i) (w.drop i) s):=by
 intro m
 induction m with
 | zero=>
  intro i k s hi hk hs
  obtain ⟨k,rfl⟩ : ∃ q,k=q+1:=⟨k-1,by omega⟩
  have c:¬ (i:Int)<((v.length:Nat):Int):=by omega
  rw [List.drop_of_length_le (show v.length≤i by omega)]
  simp only [ref26_dot.l0,c,if_false]
  rfl
 | succ m ih=>
  intro i k s hi hk hs
  obtain ⟨k,rfl⟩ : ∃ q,k=q+1:=⟨k-1,by omega⟩
  have hi1:i<v.length:=by omega
  have hi2:i<w.length:=by omega
  have c:(i:Int)<((v.length:Nat):Int):=by omega
  have c0:(0:Int)≤(i:Int):=by omega
  have c1:(i:Int)<((w.length:Nat):Int):=by omega
  have hm:ref25_Mul.f 60000 v[i] w[i]=some (pmul v[i] w[i]):=ref25_Mul_eq _ _ (hv _ (List.getElem_mem hi1)) (hw _ (List.getElem_mem hi2))
  have ha:=ref25_Add_eq 60000 (by decide) s (pmul v[i] w[i]) hs (fit_pmul _ _)
  rw [List.drop_eq_getElem_cons hi1,List.drop_eq_getElem_cons hi2]
  simp only [ref26_dot.l0,c,c0,c1,rdP hi1,rdP hi2,hm,ha,ginc (i:=i) (by omega),if_true,Option.bind_some]
  exact ih (i+1) k _ (by omega) (by omega) (fit_padd _ _)
theorem rDot {v w:PL}(hv:FL v) (hw:FL w) (hl:v.length≤w.length) (lv:v.length≤1000):ref26_dot.f 60000 v w=some (dotF v w (zeroA 256)):=by
 have h:=rDot_l0 hv hw hl lv v.length 0 60000 (zeroA 256) (by omega) (by omega) fit_zero
 have h':ref26_dot.l0 60000 60000 v w 0 (zeroA 256)=some (dotF v w (zeroA 256)):=h
 unfold ref26_dot.f
 rw [h']
 rfl
def rowR (r:Option PL):PL ⊕ (List PL × Int):=match r with
 | some r=>.inl r
 | none=>.inr ([],12)
theorem rRead_l0 {b:List Int}(hb:Byt b) {d k0:Nat}(hd:d≤12) (hk0:k0≤100) (lb:k0*(32*d)≤b.length) (lb2:b.length≤100000):∀ (m i k:Nat) (acc:PL),i+m=k0→m<k→acc.length=i →
  ref26_read.l0 60000 k b (k0:Int) (d:Int) (i:Int) acc=some (if (rdV b d (32*d) m i acc).2=true then .inl (rdV b d (32*d) m i acc).1 else .inr ([],false)):=by
 intro m
 induction m with
 | zero=>
  intro i k acc hi hk ha
  obtain ⟨k,rfl⟩ : ∃ q,k=q+1:=⟨k-1,by omega⟩
  have c:¬ (i:Int)<(k0:Int):=by omega
  simp only [ref26_read.l0,c,if_false]
  rfl
 | succ m ih=>
  intro i k acc hi hk ha
  obtain ⟨k,rfl⟩ : ∃ q,k=q+1:=⟨k-1,by omega⟩
  have c:(i:Int)<(k0:Int):=by omega
  have b1:i*(32*d)≤100*384:=Nat.mul_le_mul (by omega) (by omega)
  have b2:(i+1)*(32*d)≤k0*(32*d):=Nat.mul_le_mul (by omega) (Nat.le_refl _)
  have b3:i*(32*d)≤(i+1)*(32*d):=Nat.mul_le_mul (by omega) (Nat.le_refl _)
  have em:imul .i64 32 (d:Int)=((32*d:Nat):Int):=by unfold imul; rw [id64 (by omega) (by omega)]; omega
  have m1:imul .i64 (imul .i64 32 (d:Int)) (i:Int)=((i*(32*d):Nat):Int):=by
   rw [em]
   unfold imul
   rw [← Int.natCast_mul,Nat.mul_comm,id64 (by omega) (by omega)]
  have m2:imul .i64 (imul .i64 32 (d:Int)) ((i+1:Nat):Int)=(((i+1)*(32*d):Nat):Int):=by
   rw [em]
   unfold imul
   rw [← Int.natCast_mul,Nat.mul_comm,id64 (by omega) (by omega)]
  have c0:(0:Int)≤((i*(32*d):Nat):Int):=by omega
  have c1:((i*(32*d):Nat):Int)≤(((i+1)*(32*d):Nat):Int):=by omega
  have c2:(((i+1)*(32*d):Nat):Int)≤((b.length:Nat):Int):=by omega
  have hu:=ref25_Unpack_eq 60000 (by decide) (subL b ((i*(32*d):Nat):Int) (((i+1)*(32*d):Nat):Int)) (byt_sub hb _ _) (d:Int)
  have er:rdV b d (32*d) (m+1) i acc=if (unpV (subL b ((i*(32*d):Nat):Int) (((i+1)*(32*d):Nat):Int)) (d:Int)).2=true then rdV b d (32*d) m (i+1) (acc++[(unpV (subL b ((i*(32*d):Nat):Int) (((i+1)*(32*d):Nat):Int)) (d:Int)).1]) else ([],false):=rfl
  rw [er]
  generalize unpV (subL b ((i*(32*d):Nat):Int) (((i+1)*(32*d):Nat):Int)) (d:Int)=u at hu ⊢
  obtain ⟨ua,ub⟩:=u
  have c3:acc.length+([ua]:PL).length≤137438953472:=by show acc.length+1≤_; omega
  simp only [ref26_read.l0,c,ginc (i:=i) (by omega),m1,m2,c0,c1,c2,c3,hu,if_true,Option.bind_some]
  cases ub with
  | true=>
   simp only [if_true]
   exact ih (i+1) k _ (by omega) (by omega) (by rw [List.length_append,ha]; rfl)
  | false=>simp only [Bool.false_eq_true,if_false]
theorem rRead {b:List Int}(hb:Byt b) {d k0:Nat}(hd:d≤12) (hk0:k0≤100) (lb:k0*(32*d)≤b.length) (lb2:b.length≤100000):ref26_read.f 60000 b (k0:Int) (d:Int)=some (rdV b d (32*d) k0 0 []):=by
 have h:=rRead_l0 hb hd hk0 lb lb2 k0 0 60000 [] (by omega) (by omega) rfl
 have hf:∀ (m i:Nat) (acc:PL),(rdV b d (32*d) m i acc).2=false→rdV b d (32*d) m i acc=([],false):=fun m=>by
  induction m with
  | zero=>intro i acc h; cases h
  | succ m ih=>
   intro i acc h
   unfold rdV at h ⊢
   split
   next hc=>rw [if_pos hc] at h; exact ih _ _ h
   next=>rfl
 unfold ref26_read.f
 have h':ref26_read.l0 60000 60000 b (k0:Int) (d:Int) 0 []=_:=h
 rw [h']
 have hf':=hf k0 0 []
 generalize rdV b d (32*d) k0 0 []=r at hf' ⊢
 obtain ⟨ra,rb⟩:=r
 cases rb with
 | true=>rfl
 | false=>
  rw [hf' rfl]
  rfl
end Go.Proofs.YtemdbgmldljbpaaDoor

/- own -/
set_option linter.unusedSimpArgs false
set_option linter.unusedVariables false
set_option maxRecDepth 100000
namespace Go.Proofs.YtemdbgmldljbpaaDoor
open Go Go.Mx
theorem rDec_l0 {u:PL}{du k:Nat}(hd1:1≤du) (hd2:du≤11) (hk:k≤100) (lu:u.length=k) (hu:∀ a∈u,Bel ((2^du:Nat):Int) a):ref26_Decrypt.l0 60000 60000 (k:Int) (du:Int) u 0 []=some (ntV (u.map (widA du))):=by
 have h:=app0 (fun q i z=>ref26_Decrypt.l0 60000 q (k:Int) (du:Int) u i z) k (fun i=>pntt (widA du (u.getD i (zeroA 256)))) id (fun q z=>by
   have c:¬ (k:Int)<(k:Int):=by omega
   simp only [ref26_Decrypt.l0,c,if_false,id]) (fun q i z hi hl=>by
   have hi1:i<u.length:=by omega
   have c:(i:Int)<(k:Int):=by omega
   have c0:(0:Int)≤(i:Int):=by omega
   have c1:(i:Int)<((u.length:Nat):Int):=by omega
   have bu:=hu _ (List.getElem_mem hi1)
   have hw:=ref25_Widen_eq 60000 (by decide) u[i] du hd1 hd2
   rw [if_pos (of_bel bu)] at hw
   have fw:=fit_widA hd1 hd2 bu
   rw [getD_mem hi1]
   generalize widA du u[i]=w at hw fw ⊢
   have hn:ref25_Ntt.f 60000 w=some (pntt w):=ref25_Ntt_eq w fw
   generalize pntt w=p at hn ⊢
   have c2:z.length+([p]:PL).length≤137438953472:=by show z.length+1≤_; omega
   simp only [ref26_Decrypt.l0,c,c0,c1,rdP hi1,hw,hn,c2,ginc (i:=i) (by omega),if_true,Option.bind_some]) 60000 (by omega)
 have e:(List.range k).map (fun i=>pntt (widA du (u.getD i (zeroA 256))))=ntV (u.map (widA du)):=by
  have:=map_range u (fun a=>pntt (widA du a)) k lu.symm
  unfold ntV
  rw [List.map_map]
  exact this
 rw [← e]
 exact h
end Go.Proofs.YtemdbgmldljbpaaDoor

/- own -/
set_option linter.unusedSimpArgs false
set_option linter.unusedVariables false
set_option maxRecDepth 100000
namespace Go.Proofs.YtemdbgmldljbpaaDoor
open Go Go.Mx
end Go.Proofs.YtemdbgmldljbpaaDoor

/- own -/
set_option linter.unusedSimpArgs false
set_option linter.unusedVariables false
set_option maxRecDepth 100000
namespace Go.Proofs.YtemdbgmldljbpaaDoor
open Go Go.Mx
section
variable {Sz : Option (Int × Int × Int)} {a1 : List Int} {Rd : Option (PL × Bool)} {c2 c3 : Prop} [Decidable c2] [Decidable c3] {Ex : List Int → Option (List PL × Int)} {R : PL → List PL → Option (List Int × Int)}
end
end Go.Proofs.YtemdbgmldljbpaaDoor

/- own -/
set_option linter.unusedSimpArgs false
set_option linter.unusedVariables false
set_option maxRecDepth 100000
namespace Go.Proofs.YtemdbgmldljbpaaDoor
open Go Go.Mx
def decE (Sz:Option (Int × Int × Int)) (a1 a2:List Int) (Rd:Option (PL × Bool)) (R:Int→PL→Option (List Int × Int)):Option (List Int × Int):=
 Sz.bind fun (r2,r3,r4)=>if r3=0 then (some (([]:List Int),9)) else (if (a1.length:Int)=r3 then (Rd.bind fun (r5,r6)=>if r6=true then (if (a2.length:Int)=r4 then R r4 r5 else (some (([]:List Int),14))) else (some (([]:List Int),10))) else (some (([]:List Int),10)))
section
variable {Sz S1 S2 : Option (Int × Int × Int)} {a1 a2 : List Int} {Rd D1 D2 : Option (PL × Bool)} {R R1 R2 : Int → PL → Option (List Int × Int)}
theorem dec_go {n m:Nat}{p:Int}{t:PL}(h:Sz=some (p,(n:Int),(m:Int))) (hn:0<n) (hl:a1.length=n) (hr:Rd=some (t,true)) (hc:a2.length=m):decE Sz a1 a2 Rd R=R (m:Int) t:=by
 subst h hr
 have c0:¬ (n:Int)=0:=by omega
 have c1:((a1.length:Nat):Int)=(n:Int):=by omega
 have c2:((a2.length:Nat):Int)=(m:Int):=by omega
 unfold decE
 simp only [Option.bind_some,c0,if_false]
 rw [if_pos c1]
 simp only [Option.bind_some,if_true]
 rw [if_pos c2]
end
theorem rdec_core {R2:Option (PL × Bool)}{L:PL→Option PL}{Un:List Int→Option (Arr 256 × Bool)}{Wd Bk Sq:Arr 256→Option (Arr 256)}{Dt:PL→PL→Option (Arr 256)}{Sb:Arr 256→Arr 256→Option (Arr 256)}{Pk:Arr 256→Option (List Int)}{a2:List Int}{x:Nat}{X:Int}{s u y:PL}{ub vb:Bool}{v vw d b w q:Arr 256}{out:List Int}
  (hX:X=(x:Int)) (hx:x≤a2.length) (h3:R2=some (u,ub)) (h4:L u=some y) (h5:Un (a2.drop x)=some (v,vb)) (h6:Wd v=some vw) (h8:Dt s y=some d) (h9:Bk d=some b) (h10:Sb vw b=some w) (h11:Sq w=some q) (h12:Pk q=some out) :
  (R2.bind fun (r7,r8)=>(L r7).bind fun y11=>((if 0≤X then (if X≤(a2.length:Int) then (if (a2.length:Int)≤a2.length then ((Un (subL a2 X (a2.length:Int))).bind fun (r20,r21)=>some r20) else none) else none) else none:Option ((Arr 256)))).bind fun y18=>(Wd y18).bind fun r26=>(Dt s y11).bind fun r27=>(Bk r27).bind fun r28=>(Sb r26 r28).bind fun r29=>(Sq r29).bind fun r31=>(Pk r31).bind fun r32=>some (r32,(0:Int)))=some (out,(0:Int)):=by
 subst hX h3
 have c4:(0:Int)≤(x:Int):=by omega
 have c5:(x:Int)≤((a2.length:Nat):Int):=by omega
 have c6:((a2.length:Nat):Int)≤((a2.length:Nat):Int):=Int.le_refl _
 have es:subL a2 (x:Int) ((a2.length:Nat):Int)=a2.drop x:=by rw [g_sub,List.take_length]
 simp only [Option.bind_some,c4,c5,c6,es,h4,h5,h6,h8,h9,h10,h11,h12,if_true]
theorem rDec_E (a b c d e:Int) (sk x:List Int):ref26_Decrypt.f 60000 a b c d e sk x=decE (ref26_Sizes.f 60000 a b c d e) sk x (ref26_read.f 60000 sk a 12) (fun r4 r5=>(ref26_read.f 60000 x a d).bind fun (r7,r8)=>(ref26_Decrypt.l0 60000 60000 a d r7 0 ([]:List (Arr 256))).bind fun y11=>((if 0≤(imul .i64 (imul .i64 32 d) a) then (if (imul .i64 (imul .i64 32 d) a)≤(x.length:Int) then (if (x.length:Int)≤x.length then ((ref25_Unpack.f 60000 (subL x (imul .i64 (imul .i64 32 d) a) (x.length:Int)) e).bind fun (r20,r21)=>some r20) else none) else none) else none:Option ((Arr 256)))).bind fun y18=>(ref25_Widen.f 60000 y18 e).bind fun r26=>(ref26_dot.f 60000 r5 y11).bind fun r27=>(ref25_Back.f 60000 r27).bind fun r28=>(ref25_Sub.f 60000 r26 r28).bind fun r29=>(ref25_Squeeze.f 60000 r29 1).bind fun r31=>(ref25_Pack.f 60000 r31 1).bind fun r32=>some (r32,0)):=by
 unfold ref26_Decrypt.f decE
 rfl
theorem rDecryptG {k e1 e2 du dv:Nat}(hx:KX k e1 e2 du dv) {sk:List Int}(hsk:Byt sk) (lsk:sk.length=384*k) {s:PL}(hr:rdV sk 12 (32*12) k 0 []=(s,true)) (hs:FL s) (ls:s.length=k) {c:List Int}(hc:Byt c) (lc:c.length=32*(du*k+dv)) :
  ref26_Decrypt.f 60000 (k:Int) (e1:Int) (e2:Int) (du:Int) (dv:Int) sk c=some (decV s c k du dv,0):=by
 obtain ⟨k2,k4,d1,d2,v1,v2⟩:=hx.bd
 have rd:=rRead (b:=sk) (d:=12) (k0:=k) hsk (by decide) (by omega) (by omega) (by omega)
 rw [hr] at rd
 have hdk:du*k≤11*4:=Nat.mul_le_mul (by omega) k4
 have ecm:k*(32*du)=32*(du*k):=by rw [Nat.mul_comm k,Nat.mul_assoc]
 have r2:=rRead (b:=c) (d:=du) (k0:=k) hc (by omega) (by omega) (by rw [lc,ecm]; omega) (by rw [lc]; omega)
 obtain ⟨g1,g2,g3⟩:=rdV_any (b:=c) (d:=du) (by omega) (by omega) k 0 [] (by rw [Nat.zero_add,lc,ecm]; omega) (fun a h=>by cases h)
 unfold decV
 generalize rdV c du (32*du) k 0 []=U at r2 g1 g2 g3 ⊢
 obtain ⟨u,ub⟩:=U
 have lu:u.length=k:=by rw [g2]; show 0+k=k; omega
 have l:=rDec_l0 (u:=u) (du:=du) (k:=k) (by omega) (by omega) (by omega) lu g3
 have fw:FL (u.map (widA du)):=fun a ha=>by
  obtain ⟨b,hb,rfl⟩:=List.mem_map.1 ha
  exact fit_widA (by omega) (by omega) (g3 b hb)
 have ld:(c.drop (32*(du*k))).length=32*dv:=by rw [List.length_drop,lc]; omega
 have un:=ref25_Unpack_eq 60000 (by decide) (c.drop (32*(du*k))) (fun x hx=>hc x (List.mem_of_mem_drop hx)) (dv:Int)
 obtain ⟨_,ub2⟩:=unpV_any (b:=c.drop (32*(du*k))) (d:=dv) (by omega) (by omega) ld
 generalize unpV (c.drop (32*(du*k))) (dv:Int)=V at un ub2 ⊢
 obtain ⟨v,vb⟩:=V
 have ub2':Bel ((2^dv:Nat):Int) v:=ub2
 have wd:=ref25_Widen_eq 60000 (by decide) v dv (by omega) (by omega)
 rw [if_pos (of_bel ub2')] at wd
 have fwv:FitK (widA dv v):=fit_widA (by omega) (by omega) ub2'
 have dt:=rDot hs (ntV_fit fw) (by rw [ntV_len,List.length_map]; omega) (by omega)
 have fd:=dotF_fit s (ntV (u.map (widA du))) (zeroA 256) fit_zero
 show _=some (packV (sqzA 1 (ksub (widA dv v) (pback (dotF s (ntV (u.map (widA du))) (zeroA 256))))) 1,0)
 generalize dotF s (ntV (u.map (widA du))) (zeroA 256)=dd at dt fd ⊢
 have bk:ref25_Back.f 60000 dd=some (pback dd):=ref25_Back_eq _ fd
 have fb:=fit_pback dd
 generalize pback dd=bb at bk fb ⊢
 have sb:=ref25_Sub_eq 60000 (by decide) (widA dv v) bb fwv fb
 have fs:=fit_ksub (widA dv v) bb
 generalize ksub (widA dv v) bb=ww at sb fs ⊢
 have sq:=ref25_Squeeze_eq 60000 (by decide) ww 1 (by decide) (by decide) fs
 have sq':ref25_Squeeze.f 60000 ww 1=some (sqzA 1 ww):=sq
 have pk:=ref25_Pack_eq 60000 (by decide) (sqzA 1 ww) 1
 have eX:imul .i64 (imul .i64 32 (du:Int)) (k:Int)=((32*(du*k):Nat):Int):=by
  have:imul .i64 32 (du:Int)=((32*du:Nat):Int):=by unfold imul; rw [id64 (by omega) (by omega)]; omega
  rw [this]
  unfold imul
  rw [← Int.natCast_mul,Nat.mul_assoc,id64 (by omega) (by omega)]
 have core:=rdec_core (R2:=ref26_read.f 60000 c (k:Int) (du:Int)) (L:=fun r7=>ref26_Decrypt.l0 60000 60000 (k:Int) (du:Int) r7 0 []) (Un:=fun r=>ref25_Unpack.f 60000 r (dv:Int)) (Wd:=fun r=>ref25_Widen.f 60000 r (dv:Int)) (Bk:=ref25_Back.f 60000) (Sq:=fun r=>ref25_Squeeze.f 60000 r 1) (Dt:=ref26_dot.f 60000) (Sb:=ref25_Sub.f 60000) (Pk:=fun r=>ref25_Pack.f 60000 r 1) (a2:=c) (X:=imul .i64 (imul .i64 32 (du:Int)) (k:Int))
  eX (by rw [lc]; omega) r2 l un wd dt bk sb sq' pk
 have sz1:ref26_Sizes.f 60000 (k:Int) (e1:Int) (e2:Int) (du:Int) (dv:Int)=some (((384*k+32:Nat):Int),((384*k:Nat):Int),((32*(du*k+dv):Nat):Int)):=(sizes_same _ _ _ _ _ _).trans hx.sizes
 rw [rDec_E]
 refine (dec_go sz1 (by omega) lsk rd lc).trans ?_
 exact core
end Go.Proofs.YtemdbgmldljbpaaDoor
