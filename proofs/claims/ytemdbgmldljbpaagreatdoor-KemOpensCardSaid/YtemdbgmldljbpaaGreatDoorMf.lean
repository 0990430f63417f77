/- own -/
import Derived.Test.YtemdbgmldljbpaaGreatDoorMd
set_option linter.unusedSimpArgs false
set_option linter.unusedVariables false
namespace Go.Mx
open Go.RowKit
section
variable {T : Type} {C : Cod T} {P : Program} {ops : Array Oper} {K Kn : Act → World → Prop} {a : Act} {w w' : World} {i : Nat} {w0 : World} {X : List Nat} {L R : List Ent}
theorem perm_erase {α:Type} : ∀ (l:List α) (i:Nat) (h:i<l.length),(l[i]::l.eraseIdx i).Perm l
 | x::l,0,_=>List.Perm.refl _
 | x::l,i+1,h=>(List.Perm.swap x (l[i]'(by simpa using h)) (l.eraseIdx i)).trans ((perm_erase l i (by simpa using h)).cons x)
theorem perm_set {α:Type} : ∀ (l:List α) (i:Nat) (a:α),i<l.length→(l.set i a).Perm (a::l.eraseIdx i)
 | x::l,0,a,_=>List.Perm.refl _
 | x::l,i+1,a,h=>((perm_set l i a (by simpa using h)).cons x).trans (List.Perm.swap a x (l.eraseIdx i))
def Ent.bag (es:List Ent):Ent where
 foot:=fun b=>∃ e∈es,e.foot b
 p:=fun w=>(∀ e∈es,e.p w)∧es.Pairwise fun (e e':Ent)=>∀ b:Nat,e.foot b→¬ e'.foot b
 loc:=fun w w' h hp=>⟨fun e he=>e.loc w w' (fun b hb=>h b ⟨e,he,hb⟩) (hp.1 e he),hp.2⟩
theorem St.unbag {e:Ent}{es:List Ent}(h:St w0 X (.bag (e::es)::L) R w):St w0 X (e::.bag es::L) R w:=by
 obtain ⟨hb,hf⟩:=h.own _ List.mem_cons_self
 obtain ⟨h1,h2⟩:=List.pairwise_cons.1 hb.2
 obtain ⟨a1,a2⟩:=List.pairwise_cons.1 h.apart
 refine ⟨h.os,h.tape,h.output,h.size,h.block,fun x hx=>?_,?_,fun x hx=>?_⟩
 ·rcases List.mem_cons.1 hx with rfl | hx
  ·exact ⟨hb.1 _ List.mem_cons_self,fun b hb'=>hf b ⟨_,List.mem_cons_self,hb'⟩⟩
  ·rcases List.mem_cons.1 hx with rfl | hx
   ·exact ⟨⟨fun y hy=>hb.1 y (List.mem_cons_of_mem _ hy),h2⟩,fun b ⟨y,hy,hb'⟩=>hf b ⟨y,List.mem_cons_of_mem _ hy,hb'⟩⟩
   ·exact h.own x (List.mem_cons_of_mem _ hx)
 ·refine .cons (fun x hx b hb'=>?_) (.cons (fun x hx b ⟨y,hy,hb'⟩=>a1 x hx b ⟨y,List.mem_cons_of_mem _ hy,hb'⟩) a2)
  rcases List.mem_cons.1 hx with rfl | hx
  ·rintro ⟨y,hy,hyb⟩
   exact h1 y hy b hb' hyb
  ·exact a1 x hx b ⟨e,List.mem_cons_self,hb'⟩
 ·refine ⟨(h.read x hx).1,fun b hb'=>⟨((h.read x hx).2 b hb').1,fun y hy hyb=>?_⟩⟩
  have hr:=((h.read x hx).2 b hb').2
  rcases List.mem_cons.1 hy with rfl | hy
  ·exact hr _ List.mem_cons_self ⟨_,List.mem_cons_self,hyb⟩
  ·rcases List.mem_cons.1 hy with rfl | hy
   ·obtain ⟨z,hz,hzb⟩:=hyb
    exact hr _ List.mem_cons_self ⟨z,List.mem_cons_of_mem _ hz,hzb⟩
   ·exact hr y (List.mem_cons_of_mem _ hy) hyb
theorem St.tobag {e:Ent}{es:List Ent}(h:St w0 X (e::.bag es::L) R w):St w0 X (.bag (e::es)::L) R w:=by
 obtain ⟨e1,e2⟩:=h.own _ List.mem_cons_self
 obtain ⟨b1,b2⟩:=h.own (.bag es) (List.mem_cons_of_mem _ List.mem_cons_self)
 obtain ⟨a1,a2⟩:=List.pairwise_cons.1 h.apart
 obtain ⟨a3,a4⟩:=List.pairwise_cons.1 a2
 refine ⟨h.os,h.tape,h.output,h.size,h.block,fun x hx=>?_,?_,fun x hx=>?_⟩
 ·rcases List.mem_cons.1 hx with rfl | hx
  ·refine ⟨⟨fun y hy=>?_,.cons (fun y hy b hb hyb=>a1 _ List.mem_cons_self b hb ⟨y,hy,hyb⟩) b1.2⟩,fun b ⟨y,hy,hb⟩=>?_⟩
   ·rcases List.mem_cons.1 hy with rfl | hy
    ·exact e1
    ·exact b1.1 y hy
   ·rcases List.mem_cons.1 hy with rfl | hy
    ·exact e2 b hb
    ·exact b2 b ⟨y,hy,hb⟩
  ·exact h.own x (List.mem_cons_of_mem _ (List.mem_cons_of_mem _ hx))
 ·refine .cons (fun x hx b ⟨y,hy,hb⟩=>?_) a4
  rcases List.mem_cons.1 hy with rfl | hy
  ·exact a1 x (List.mem_cons_of_mem _ hx) b hb
  ·exact a3 x hx b ⟨y,hy,hb⟩
 ·refine ⟨(h.read x hx).1,fun b hb'=>⟨((h.read x hx).2 b hb').1,fun y hy hyb=>?_⟩⟩
  have hr:=((h.read x hx).2 b hb').2
  rcases List.mem_cons.1 hy with rfl | hy
  ·obtain ⟨z,hz,hzb⟩:=hyb
   rcases List.mem_cons.1 hz with rfl | hz
   ·exact hr _ List.mem_cons_self hzb
   ·exact hr (.bag es) (List.mem_cons_of_mem _ List.mem_cons_self) ⟨z,hz,hzb⟩
  ·exact hr y (List.mem_cons_of_mem _ (List.mem_cons_of_mem _ hy)) hyb
theorem St.permbag {es es':List Ent}(h:St w0 X (.bag es::L) R w) (hp:es.Perm es'):St w0 X (.bag es'::L) R w:=by
 obtain ⟨b1,b2⟩:=h.own _ List.mem_cons_self
 obtain ⟨a1,a2⟩:=List.pairwise_cons.1 h.apart
 have hm:∀ y,y∈es'↔y∈es:=fun y=>hp.mem_iff.symm
 have hsym:es'.Pairwise fun e e'=>∀ b,e.foot b→¬ e'.foot b:=(hp.pairwise_iff (fun {x y} hxy b hb hb'=>hxy b hb' hb)).1 b1.2
 refine ⟨h.os,h.tape,h.output,h.size,h.block,fun x hx=>?_,.cons (fun x hx b ⟨y,hy,hb⟩=>a1 x hx b ⟨y,(hm y).1 hy,hb⟩) a2,fun x hx=>?_⟩
 ·rcases List.mem_cons.1 hx with rfl | hx
  ·exact ⟨⟨fun y hy=>b1.1 y ((hm y).1 hy),hsym⟩,fun b ⟨y,hy,hb⟩=>b2 b ⟨y,(hm y).1 hy,hb⟩⟩
  ·exact h.own x (List.mem_cons_of_mem _ hx)
 ·refine ⟨(h.read x hx).1,fun b hb'=>⟨((h.read x hx).2 b hb').1,fun y hy hyb=>?_⟩⟩
  have hr:=((h.read x hx).2 b hb').2
  rcases List.mem_cons.1 hy with rfl | hy
  ·obtain ⟨z,hz,hzb⟩:=hyb
   exact hr _ List.mem_cons_self ⟨z,(hm z).1 hz,hzb⟩
  ·exact hr y (List.mem_cons_of_mem _ hy) hyb
def rowsE (C:Cod T) (e:Nat) (H:List HS) (l:List (List T)):List Ent:=List.zipWith (fun h x=>Ent.ownL C h.1 h.2.1 h.2.2 x e) H l
def Ent.inns (C:Cod T) (e:Nat) (H:List HS) (l:List (List T)):Ent where
 foot:=(Ent.bag (rowsE C e H l)).foot
 p:=fun w=>H.length=l.length∧(Ent.bag (rowsE C e H l)).p w
 loc:=fun w w' h hp=>⟨hp.1,(Ent.bag (rowsE C e H l)).loc w w' h hp.2⟩
theorem St.innsLen (h:St w0 X L R w) (k:Nat) {e:Nat}{H:List HS}{l:List (List T)}(hk:L[k]? = some (.inns C e H l)):H.length=l.length:=(h.own _ (List.mem_of_getElem? hk)).1.1
theorem St.innsBag {e:Nat}{H:List HS}{l:List (List T)}(h:St w0 X (.inns C e H l::L) R w):H.length=l.length∧St w0 X (.bag (rowsE C e H l)::L) R w:=by
 obtain ⟨b1,b2⟩:=h.own _ List.mem_cons_self
 obtain ⟨a1,a2⟩:=List.pairwise_cons.1 h.apart
 refine ⟨b1.1,h.os,h.tape,h.output,h.size,h.block,fun x hx=>?_,.cons (fun x hx b hb=>a1 x hx b hb) a2,fun x hx=>⟨(h.read x hx).1,fun b hb=>⟨((h.read x hx).2 b hb).1,fun y hy hyb=>?_⟩⟩⟩
 ·rcases List.mem_cons.1 hx with rfl | hx
  ·exact ⟨b1.2,b2⟩
  ·exact h.own x (List.mem_cons_of_mem _ hx)
 ·have hr:=((h.read x hx).2 b hb).2
  rcases List.mem_cons.1 hy with rfl | hy
  ·exact hr _ List.mem_cons_self hyb
  ·exact hr y (List.mem_cons_of_mem _ hy) hyb
theorem St.bagInns {e:Nat}{H:List HS}{l:List (List T)}(h:St w0 X (.bag (rowsE C e H l)::L) R w) (hl:H.length=l.length):St w0 X (.inns C e H l::L) R w:=by
 obtain ⟨b1,b2⟩:=h.own _ List.mem_cons_self
 obtain ⟨a1,a2⟩:=List.pairwise_cons.1 h.apart
 refine ⟨h.os,h.tape,h.output,h.size,h.block,fun x hx=>?_,.cons (fun x hx b hb=>a1 x hx b hb) a2,fun x hx=>⟨(h.read x hx).1,fun b hb=>⟨((h.read x hx).2 b hb).1,fun y hy hyb=>?_⟩⟩⟩
 ·rcases List.mem_cons.1 hx with rfl | hx
  ·exact ⟨⟨hl,b1⟩,b2⟩
  ·exact h.own x (List.mem_cons_of_mem _ hx)
 ·have hr:=((h.read x hx).2 b hb).2
  rcases List.mem_cons.1 hy with rfl | hy
  ·exact hr _ List.mem_cons_self hyb
  ·exact hr y (List.mem_cons_of_mem _ hy) hyb
theorem rowsE_len {e:Nat}{H:List HS}{l:List (List T)}(hl:H.length=l.length):(rowsE C e H l).length=l.length:=by
 unfold rowsE
 rw [List.length_zipWith,hl,Nat.min_self]
theorem rowsE_get {e i:Nat}{H:List HS}{l:List (List T)}(h:i<(rowsE C e H l).length) (h1:i<H.length) (h2:i<l.length):(rowsE C e H l)[i] = .ownL C H[i].1 H[i].2.1 H[i].2.2 l[i] e:=List.getElem_zipWith ..
theorem St.openI {e:Nat}{H:List HS}{l:List (List T)}{x:Int}{A:Option Addr}{n c:Nat}(h:St w0 X (.inns C e H l::L) R w) (h0:0≤x) (h1:x<l.length) (hA:A=(rdL CS H x).1) (hn:n=(rdL CS H x).2.1) (hc:c=(rdL CS H x).2.2) :
  H.length=l.length∧St w0 X (.ownL C A n c (rdLL l x) e::.bag ((rowsE C e H l).eraseIdx x.toNat)::L) R w:=by
 obtain ⟨hl,hb⟩:=h.innsBag
 refine ⟨hl,?_⟩
 have i1:x.toNat<l.length:=by omega
 have i2:x.toNat<H.length:=by omega
 have i3:x.toNat<(rowsE C e H l).length:=by rw [rowsE_len hl]; exact i1
 have hr:rdL CS H x=H[x.toNat]:=by
  unfold rdL
  rw [List.getD_eq_getElem?_getD,List.getElem?_eq_getElem i2]
  rfl
 have hr2:rdLL l x=l[x.toNat]:=by
  unfold rdLL
  rw [List.getD_eq_getElem?_getD,List.getElem?_eq_getElem i1]
  rfl
 have h2:=(hb.permbag (perm_erase _ _ i3).symm).unbag
 rw [rowsE_get i3 i2 i1] at h2
 rw [hA,hn,hc,hr,hr2]
 exact h2
theorem St.closeI {e:Nat}{H:List HS}{l:List (List T)}{x:Int}{A:Option Addr}{n c:Nat}{y:List T}(h:St w0 X (.ownL C A n c y e::.bag ((rowsE C e H l).eraseIdx x.toNat)::L) R w) (hl:H.length=l.length) (h0:0≤x) (h1:x<l.length):St w0 X (.inns C e (wrL H x ((A,n,c):HS)) (wrL l x y)::L) R w:=by
 have i1:x.toNat<l.length:=by omega
 have i2:x.toNat<H.length:=by omega
 have i3:x.toNat<(rowsE C e H l).length:=by rw [rowsE_len hl]; exact i1
 have hs:rowsE C e (H.set x.toNat (A,n,c)) (l.set x.toNat y)=(rowsE C e H l).set x.toNat (.ownL C A n c y e):=by
  refine List.ext_getElem (by rw [List.length_set,rowsE_len hl,rowsE_len (by rw [List.length_set,List.length_set,hl]),List.length_set]) fun q q1 q2=>?_
  rw [List.length_set,rowsE_len hl] at q2
  rw [rowsE_get q1 (by rw [List.length_set]; omega) (by rw [List.length_set]; omega),List.getElem_set,List.getElem_set,List.getElem_set]
  by_cases hq:x.toNat=q
  ·simp [hq]
  ·simp only [hq,if_false]
   rw [rowsE_get (by rw [rowsE_len hl]; omega) (by omega) (by omega)]
 refine St.bagInns ?_ (by unfold wrL; rw [List.length_set,List.length_set,hl])
 unfold wrL
 rw [hs]
 exact h.tobag.permbag (perm_set _ _ _ i3).symm
theorem St.addInns0 (h:St w0 X L R w) (C:Cod T) (e n:Nat):St w0 X (.inns C e (List.replicate n (Cod.zero CS)) (List.replicate n ([]:List T))::L) R w:=by
 refine St.bagInns ?_ (by rw [List.length_replicate,List.length_replicate])
 have hr:rowsE C e (List.replicate n (Cod.zero CS)) (List.replicate n ([]:List T))=List.replicate n (.ownL C Option.none 0 0 [] e):=by
  unfold rowsE
  exact List.zipWith_replicate' ..
 rw [hr]
 have hN:=h.addNilL C e
 obtain ⟨p1,p2⟩:=hN.own _ List.mem_cons_self
 have hf:∀ b,¬ (Ent.ownL C Option.none 0 0 ([]:List T) e).foot b:=fun b hb=>by
  cases hb
 refine ⟨h.os,h.tape,h.output,h.size,h.block,fun x hx=>?_,.cons (fun x hx b ⟨y,hy,hb⟩=>?_) h.apart,fun x hx=>⟨(h.read x hx).1,fun b hb=>⟨((h.read x hx).2 b hb).1,fun y hy hyb=>?_⟩⟩⟩
 ·rcases List.mem_cons.1 hx with rfl | hx
  ·refine ⟨⟨fun y hy=>?_,?_⟩,fun b ⟨y,hy,hb⟩=>?_⟩
   ·rw [List.eq_of_mem_replicate hy]; exact p1
   ·exact List.pairwise_replicate.2 (.inr fun b hb=>absurd hb (hf b))
   ·rw [List.eq_of_mem_replicate hy] at hb; exact absurd hb (hf b)
  ·exact h.own x hx
 ·rw [List.eq_of_mem_replicate hy] at hb
  exact absurd hb (hf b)
 ·rcases List.mem_cons.1 hy with rfl | hy
  ·obtain ⟨z,hz,hzb⟩:=hyb
   rw [List.eq_of_mem_replicate hz] at hzb
   exact absurd hzb (hf b)
  ·exact ((h.read x hx).2 b hb).2 y hy hyb
theorem St.innsInn {e:Nat}{H:List HS}{l:List (List T)}(h:St w0 X (.inns C e H l::L) R w):St w0 X L (.inn C H l::R) w:=by
 obtain ⟨b1,b2⟩:=h.own _ List.mem_cons_self
 obtain ⟨a1,a2⟩:=List.pairwise_cons.1 h.apart
 have key:∀ (H:List HS) (l:List (List T)),H.length=l.length→(∀ y∈rowsE C e H l,y.p w)→Inn C w H l∧∀ b,InnFoot C H l b→∃ y∈rowsE C e H l,y.foot b:=fun H=>by
  induction H with
  | nil=>
   intro l hl _
   cases l with
   | nil=>exact ⟨trivial,fun b hb=>hb.elim⟩
   | cons _ _=>cases hl
  | cons g H ih=>
   intro l hl hp
   cases l with
   | nil=>cases hl
   | cons x l=>
    obtain ⟨q1,q2⟩:=ih l (by simpa using hl) (fun y hy=>hp y (List.mem_cons_of_mem _ hy))
    have p0:=hp (.ownL C g.1 g.2.1 g.2.2 x e) List.mem_cons_self
    refine ⟨⟨RowP.of_own p0,q1⟩,fun b hb=>?_⟩
    rcases hb with hb | hb
    ·exact ⟨_,List.mem_cons_self,own_foot p0 b hb⟩
    ·obtain ⟨y,hy,hyb⟩:=q2 b hb
     exact ⟨y,List.mem_cons_of_mem _ hy,hyb⟩
 obtain ⟨k1,k2⟩:=key H l b1.1 b1.2.1
 refine ⟨h.os,h.tape,h.output,h.size,h.block,fun x hx=>h.own x (List.mem_cons_of_mem _ hx),a2,fun x hx=>?_⟩
 rcases List.mem_cons.1 hx with rfl | hx
 ·exact ⟨k1,fun b hb=>⟨(b2 b (k2 b hb)).1,fun y hy hyb=>a1 y hy b (k2 b hb) hyb⟩⟩
 ·exact ⟨(h.read x hx).1,fun b hb=>⟨((h.read x hx).2 b hb).1,fun y hy=>((h.read x hx).2 b hb).2 y (List.mem_cons_of_mem _ hy)⟩⟩
def NNP (w:World) (A:Option Addr) (n c:Nat) (H:List HS) (l:List (List T)):Prop:=RowL CS w A n c H∧H.length=l.length
theorem yld_lenNN {A:Option Addr}{n c:Nat}{H:List HS}{l:List (List T)}(hr:NNP w A n c H l) (h:∀ w',(execAt ops i a).run P w' = .ok (.value (.int .i64 (n:Int))) w'):Yld P ops Any i a w (.int .i64 (l.length:Int)):=by
 rw [← hr.2]
 exact yld_lenL hr.1 h
theorem yld_idxNN {t e n c:Nat}{A:Option Addr}{H:List HS}{l:List (List T)}{k:IntKind}{x:Int}(hr:NNP w A n c H l) (he:execAt ops i a=nextV (Instr.indexAt t (.slice A n c) (.int k x))) (hu:P.underlying t=some (.slice e)) (hs:szOf P e=some 1)
  (h0:0≤x) (h1:x<l.length):Yld P ops Any i a w (.pointer (adr A (x.toNat*1))):=yld_idxL (C:=CS) hr.1 he hu hs h0 (by rw [hr.2]; exact h1)
theorem yld_loadNN {e n c:Nat}{A:Option Addr}{H:List HS}{l:List (List T)}{x:Int}(hr:NNP w A n c H l) (he:execAt ops i a=nextV (Instr.loadAt e (.pointer (adr A (x.toNat*1))))) (hg:aggB P e=some false)
  (h0:0≤x) (h1:x<l.length):Yld P ops Grow i a w (.slice (rdL CS H x).1 (rdL CS H x).2.1 (rdL CS H x).2.2):=yld_loadL (C:=CS) hr.1 he rfl hg h0 (by rw [hr.2]; exact h1)
end
end Go.Mx
