/- own -/
import Derived.Test.YtemdbgmldljbpaaGreatDoorMr
import Derived.Laws.AppendOwn
import Derived.Laws.MakeOwn
import Derived.Laws.OwnMore
set_option linter.unusedSimpArgs false
set_option linter.unusedVariables false
namespace Go.Mx
open Go.RowKit
theorem own_loc {w w':World}{base e size n:Nat}{v:Value}{xs:List Value}(h:w.ownsRow base e size v n xs) (hb:∀ b,v.ownBlock=some b→w'.heap[b]? = w.heap[b]?):w'.ownsRow base e size v n xs:=by
 refine ⟨h.1,?_⟩
 rcases h.2 with hn | ⟨g,cap,cur,rfl,hg,hh,rest⟩
 ·exact .inl hn
 ·exact .inr ⟨g,cap,cur,rfl,hg,by rw [hb g rfl]; exact hh,rest⟩
def nz (A:Option Addr) (c:Nat):Option Addr:=if c=0 then none else A
theorem nz_pos {A:Option Addr}{c:Nat}(h:c≠0):nz A c=A:=if_neg h
theorem nz_foot {A:Option Addr}{n c b:Nat}(h:(Value.slice (nz A c) n c).ownBlock=some b):(Value.slice A n c).ownBlock=some b:=by
 by_cases hc:c=0
 ·subst hc; cases h
 ·rw [nz_pos hc] at h; exact h
theorem own_nz {w:World}{A:Option Addr}{n c base e size:Nat}{xs:List Value}(h:w.ownsRow base e size (.slice A n c) n xs):w.ownsRow base e size (.slice (nz A c) n c) n xs:=by
 by_cases hc:c=0
 ·subst hc
  refine ⟨h.1,.inl ?_⟩
  rcases h.2 with ⟨hv,hn⟩ | ⟨g,cap,cur,hv,_,_,hnc,_⟩
  ·subst hn; exact ⟨rfl,rfl⟩
  ·cases hv
   obtain rfl:n=0:=by omega
   exact ⟨rfl,rfl⟩
 ·rw [nz_pos hc]; exact h
def Ent.own (A:Option Addr) (n c:Nat) (xs:List Value) (e size:Nat):Ent where
 foot:=fun k=>(Value.slice (nz A c) n c).ownBlock=some k
 p:=fun w=>w.ownsRow 0 e size (.slice (nz A c) n c) n xs
 loc:=fun _ _ h hp=>own_loc hp h
def RowP (w:World) (A:Option Addr) (n c:Nat) (xs:List Value) (size:Nat):Prop:=
 xs.length=n*size∧(n≤c∧(A=none→c=0))∧(xs=[]∨∃ b o cs T fz,A=some ⟨b,o,none⟩∧w.heap[b]? = some (.cells cs T fz)∧∀ (j:Nat) (u:Value),xs[j]? = some u→cs[o+j]? = some u)
def Ent.row (A:Option Addr) (n c:Nat) (xs:List Value) (size:Nat):Ent where
 foot:=fun k=>xs≠[]∧∃ a,A=some a∧a.block=k
 p:=fun w=>RowP w A n c xs size
 loc:=fun w w' h hp=>by
  obtain ⟨h1,h2,h3⟩:=hp
  refine ⟨h1,h2,?_⟩
  by_cases hx:xs=[]
  ·exact .inl hx
  ·rcases h3 with h3 | ⟨b,o,cs,T,fz,rfl,hh,hc⟩
   ·exact .inl h3
   ·exact .inr ⟨b,o,cs,T,fz,rfl,by rw [h b ⟨hx,_,rfl,rfl⟩]; exact hh,hc⟩
theorem RowP.foot_lt {w:World}{A:Option Addr}{n c size:Nat}{xs:List Value}(h:RowP w A n c xs size):∀ b,(Ent.row A n c xs size).foot b→b<w.heap.size:=by
 rintro b ⟨hx,a,ha,rfl⟩
 rcases h.2.2 with h3 | ⟨b',o,cs,T,fz,rfl,hh,_⟩
 ·exact absurd h3 hx
 ·obtain rfl:=Option.some.inj ha
  exact (Array.getElem?_eq_some_iff.1 hh).1
section
variable {P : Program} {ops : Array Oper} {K Kn : Act → World → Prop} {a : Act} {w w' : World} {i : Nat} {w0 : World} {X : List Nat} {L R : List Ent}
theorem St.startR {w:World}{R:List Ent}(h:∀ e∈R,e.p w∧∀ b,e.foot b→b<w.heap.size):St w [] [] R w:=
 ⟨rfl,rfl,rfl,Nat.le_refl _,fun _ _ _=>rfl,fun _ h=>(by cases h),.nil,fun e he=>⟨(h e he).1,fun b hb=>⟨(h e he).2 b hb,fun _ h=>(by cases h)⟩⟩⟩
theorem RowP.ent {A:Option Addr}{n c size:Nat}{xs:List Value}(h:RowP w A n c xs size):(Ent.row A n c xs size).p w∧∀ b,(Ent.row A n c xs size).foot b→b<w.heap.size:=⟨h,h.foot_lt⟩
theorem all_nil {w:World} : ∀ e∈([]:List Ent),e.p w∧∀ b,e.foot b→b<w.heap.size:=fun _ h=>(by cases h)
theorem all_cons {w:World}{e:Ent}{R:List Ent}(h:e.p w∧∀ b,e.foot b→b<w.heap.size) (hr:∀ e∈R,e.p w∧∀ b,e.foot b→b<w.heap.size):∀ e'∈e::R,e'.p w∧∀ b,e'.foot b→b<w.heap.size:=by
 intro e' he'
 rcases List.mem_cons.1 he' with rfl | he'
 ·exact h
 ·exact hr e' he'
theorem St.rowR (h:St w0 X L R w) (j:Nat) {A:Option Addr}{n c size:Nat}{xs:List Value}(hj:R[j]? = some (.row A n c xs size)):RowP w A n c xs size:=(h.read _ (List.mem_of_getElem? hj)).1
theorem RowP.of_own {A:Option Addr}{n c e size:Nat}{xs:List Value}(h:w.ownsRow 0 e size (.slice (nz A c) n c) n xs):RowP w A n c xs size:=by
 by_cases hc:c=0
 ·subst hc
  have h0:n=0:=by
   rcases h.2 with ⟨_,hn⟩ | ⟨g,cap,cur,hv,_⟩
   ·exact hn
   ·cases hv
  subst h0
  exact ⟨h.1,⟨Nat.le_refl _,fun _=>rfl⟩,.inl (List.eq_nil_of_length_eq_zero (by rw [h.1,Nat.zero_mul]))⟩
 rw [nz_pos hc] at h
 refine ⟨h.1,?_,?_⟩
 ·rcases h.2 with ⟨hv,_⟩ | ⟨g,cap,cur,hv,_,_,hn,_⟩
  ·cases hv; exact ⟨Nat.le_refl _,fun _=>rfl⟩
  ·cases hv; exact ⟨hn,fun h=>by cases h⟩
 ·rcases h.2 with ⟨hv,hn⟩ | ⟨g,cap,cur,hv,_,hh,hn,_,hs,ht⟩
  ·refine .inl (List.eq_nil_of_length_eq_zero ?_)
   rw [h.1,hn,Nat.zero_mul]
  ·cases hv
   refine .inr ⟨g,0,cur,e,(0,0),rfl,hh,fun j u hj=>?_⟩
   rw [Nat.zero_add,← Array.getElem?_toList]
   rw [← ht,List.getElem?_take] at hj
   split at hj
   ·exact hj
   ·cases hj
theorem St.rowL (h:St w0 X L R w) (j:Nat) {A:Option Addr}{n c e size:Nat}{xs:List Value}(hj:L[j]? = some (.own A n c xs e size)):RowP w A n c xs size:=RowP.of_own (h.own _ (List.mem_of_getElem? hj)).1
theorem St.ownAt (h:St w0 X L R w) (j:Nat) {A:Option Addr}{n c e size:Nat}{xs:List Value}(hj:L[j]? = some (.own A n c xs e size)):w.ownsRow 0 e size (.slice (nz A c) n c) n xs:=(h.own _ (List.mem_of_getElem? hj)).1
theorem own_foot {A:Option Addr}{n c e size:Nat}{xs:List Value}(h:(Ent.own A n c xs e size).p w):∀ b,(Ent.row A n c xs size).foot b→(Ent.own A n c xs e size).foot b:=by
 rintro b ⟨hx,a,rfl,rfl⟩
 have hr:=RowP.of_own h
 have hc:c≠0:=fun hc=>by
  have h1:=hr.2.1.1
  obtain rfl:n=0:=by omega
  exact hx (List.eq_nil_of_length_eq_zero (by rw [hr.1,Nat.zero_mul]))
 show (Value.slice (nz (some a) c) n c).ownBlock=_
 rw [nz_pos hc]
 rfl
theorem St.freeze (h:St w0 X L R w) (j:Nat) {A:Option Addr}{n c e size:Nat}{xs:List Value}(hj:L[j]? = some (.own A n c xs e size)):St w0 X (L.eraseIdx j) (.row A n c xs size::R) w:=by
 have hjm:=List.mem_of_getElem? hj
 have hfoot:∀ b,(Ent.row A n c xs size).foot b→(Ent.own A n c xs e size).foot b:=own_foot (h.own _ hjm).1
 refine ⟨h.os,h.tape,h.output,h.size,h.block,fun e he=>h.own e (List.mem_of_mem_eraseIdx he),h.apart.sublist (List.eraseIdx_sublist ..),fun e' he'=>?_⟩
 rcases List.mem_cons.1 he' with rfl | he'
 ·refine ⟨h.rowL j hj,fun b hb=>⟨((h.own _ hjm).2 b (hfoot b hb)).1,fun e2 he2 hb2=>?_⟩⟩
  rw [List.mem_iff_getElem?] at he2
  obtain ⟨m,hm⟩:=he2
  rw [List.getElem?_eraseIdx] at hm
  have hpw:=List.pairwise_iff_getElem.1 h.apart
  obtain ⟨hjl,hje⟩:=List.getElem?_eq_some_iff.1 hj
  split at hm
  ·obtain ⟨hml,hme⟩:=List.getElem?_eq_some_iff.1 hm
   exact hpw m j hml hjl (by omega) b (by rw [hme]; exact hb2) (by rw [hje]; exact hfoot b hb)
  ·obtain ⟨hml,hme⟩:=List.getElem?_eq_some_iff.1 hm
   exact hpw j (m+1) hjl hml (by omega) b (by rw [hje]; exact hfoot b hb) (by rw [hme]; exact hb2)
 ·exact ⟨(h.read e' he').1,fun b hb=>⟨((h.read e' he').2 b hb).1,fun e2 he2=>((h.read e' he').2 b hb).2 e2 (List.mem_of_mem_eraseIdx he2)⟩⟩
theorem St.addNil (h:St w0 X L R w) (e size:Nat):St w0 X (.own Option.none 0 0 [] e size::L) R w:=by
 refine ⟨h.os,h.tape,h.output,h.size,h.block,fun e' he'=>?_,.cons (fun _ _ b hb=>by cases hb) h.apart,fun e' he'=>⟨(h.read e' he').1,fun b hb=>⟨((h.read e' he').2 b hb).1,fun e2 he2 hb2=>?_⟩⟩⟩
 ·rcases List.mem_cons.1 he' with rfl | he'
  ·exact ⟨World.ownsRow_nil w 0 e size,fun b hb=>by cases hb⟩
  ·exact h.own e' he'
 ·rcases List.mem_cons.1 he2 with rfl | he2
  ·cases hb2
  ·exact ((h.read e' he').2 b hb).2 e2 he2 hb2
def adr (A:Option Addr) (n:Nat):Option Addr:=A.map (·.add n)
theorem yld_idxS {t e n c size:Nat}{A:Option Addr}{xs:List Value}{k:IntKind}{x:Int}(hr:RowP w A n c xs size) (he:execAt ops i a=nextV (Instr.indexAt t (.slice A n c) (.int k x))) (hu:P.underlying t=some (.slice e)) (hs:szOf P e=some size)
  (hsz:0<size) (h0:0≤x) (h1:x<n):Yld P ops Any i a w (.pointer (adr A (x.toNat*size))):=by
 refine yld fun w'=>?_
 rw [he]
 refine run_nextV ?_
 obtain ⟨hl,_,h3⟩:=hr
 have hn:0<n:=by omega
 rcases h3 with rfl | ⟨b,o,cs,T,fz,rfl,_,_⟩
 ·have:=Nat.mul_pos hn hsz
  simp only [List.length_nil] at hl
  omega
 ·unfold Instr.indexAt
  simp [asIntOf,run_underlying hu,run_sizeOf hs,h0,h1,adr]
theorem RowP.cell {A:Option Addr}{n c size:Nat}{xs:List Value}(h:RowP w A n c xs size) {m:Nat}{v:Value}(hv:xs[m]? = some v):∃ b o cs T fz,A=some ⟨b,o,none⟩∧w.heap[b]? = some (.cells cs T fz)∧cs[o+m]? = some v:=by
 rcases h.2.2 with rfl | ⟨b,o,cs,T,fz,rfl,hh,hc⟩
 ·cases hv
 ·exact ⟨b,o,cs,T,fz,rfl,hh,hc m v hv⟩
theorem run_loadVarS {A:Option Addr}{n c size e m:Nat}{xs:List Value}{v:Value}(h:RowP w A n c xs size) (hg:aggB P e=some false) (hv:xs[m]? = some v) :
  ∃ ad,adr A m=some ad∧(loadVar e ad).run P w = .ok v w:=by
 obtain ⟨b,o,cs,T,fz,rfl,hh,hc⟩:=h.cell hv
 refine ⟨⟨b,o+m,none⟩,by simp [adr,add_plain],?_⟩
 unfold loadVar
 rw [rb (run_isAgg hg)]
 show (load ⟨b,o+m,none⟩).run P w=_
 unfold load
 have:w.cell? ⟨b,o+m,none⟩=some v:=by simp [World.cell?,hh,hc]
 simp only [Sem.run,this]
theorem yld_loadS {A:Option Addr}{n c size e m:Nat}{xs:List Value}{v:Value}(hr:RowP w A n c xs size) (he:execAt ops i a=nextV (Instr.loadAt e (.pointer (adr A m)))) (hg:aggB P e=some false) (hv:xs[m]? = some v):Yld P ops Grow i a w v:=by
 intro w' g
 rw [he]
 refine run_nextV ?_
 have hr':RowP w' A n c xs size:=(Ent.row A n c xs size).loc w w' (fun b hb=>g.block b (hr.foot_lt b hb)) hr
 obtain ⟨ad,h1,h2⟩:=run_loadVarS (P:=P) hr' hg hv
 rw [h1]
 exact h2
theorem St.ownNew {v:Value}{A:Option Addr}{n c e size:Nat}{xs:List Value}(h:St w0 X L R w) (hv:v = .slice A n c) (ho:w'.ownsRow w.heap.size e size v n xs) (g:w.grownBy w' Option.none):St w0 X (.own A n c xs e size::L) R w':=by
 subst hv
 have ho:=own_nz ho
 have hlt:=ho.lt
 have h':St w [] [.own A n c xs e size] [] w':=by
  refine ⟨g.os,g.tape,g.output,g.size,fun k hk _=>g.block k hk (by simp),fun e' he'=>?_,.cons (fun _ h=>(by cases h)) .nil,fun _ h=>(by cases h)⟩
  obtain rfl:=List.mem_singleton.1 he'
  refine ⟨⟨ho.1,?_⟩,fun b hb=>⟨(hlt b hb).2,.inr (hlt b hb).1⟩⟩
  rcases ho.2 with h2 | ⟨q,cap,cur,hv,_,rest⟩
  ·exact .inl h2
  ·exact .inr ⟨q,cap,cur,hv,Nat.zero_le _,rest⟩
 exact h.grown h'
theorem op_make {d:Option Tmp}(hd:dstAt ops i=d) {t e size bytes B:Nat}{ti:TypeInfo}{z:Value}{kl kc:IntKind}{x:Int}(hs:St w0 X L R w) (he:execAt ops i a=nextV (Instr.makeSlice t (.int kl x) (.int kc x))) (hu:P.underlying t=some (.slice e))
  (hi:P.toTables.info? e=some ti) (hz:ti.zero=some z) (hsize:ti.size=size) (hby:ti.bytes=bytes) (h0:0≤x) (h1:x≤B) (hb:bytes*B≤140737488355328) (hB:B≤140737488355328) (xs:List Value) (hxs:(madeCells z.cells (x.toNat*size)).toList=xs)
  (k:∀ A c w',Grow w w'→St w0 X (.own A x.toNat c xs e size::L) R w'→K (a.put d (.slice A x.toNat c)) w'):wpOp P ops (NoP Kn) i K a w:=by
 obtain ⟨m,rfl⟩:=Int.eq_ofNat_of_zero_le h0
 rw [Int.toNat_natCast] at *
 have hm:m≤B:=by omega
 have hbm:ti.bytes*m≤281474976710656:=by
  rw [hby]
  have:=Nat.mul_le_mul_left bytes hm
  omega
 obtain ⟨w',hr,ho,hg⟩:=run_make_full (P:=P) w w.heap.size t e ti z size hu hi hz hsize kl kc m hbm (by unfold maxLen; omega) (Nat.le_refl _)
 rw [hxs] at ho
 refine wpOp_val hd (w':=w') (v:=.slice (some ⟨w.heap.size,0,none⟩) m m) ?_ (k _ _ w' ⟨hg.os,hg.tape,hg.output,hg.size,fun q hq=>hg.block q hq (by simp)⟩ (hs.ownNew rfl ho hg))
 rw [he]
 exact run_nextV hr
theorem St.entSet (h:St w0 X L R w) (j:Nat) {e0 e':Ent}(hj:L[j]? = some e0) (hos:w'.os=w.os) (htape:w'.tape=w.tape) (hout:w'.output=w.output) (hsz:w.heap.size≤w'.heap.size)
  (hk:∀ k,k<w.heap.size→¬ e0.foot k→w'.heap[k]? = w.heap[k]?) (hp:e'.p w') (hf:∀ b,e'.foot b→b<w'.heap.size∧(e0.foot b∨w.heap.size≤b)):St w0 X (L.set j e') R w':=by
 have hjl:j<L.length:=(List.getElem?_eq_some_iff.1 hj).1
 have hjm:e0∈L:=List.mem_of_getElem? hj
 have hfb:=(h.own _ hjm).2
 have other:∀ (m:Nat) (e:Ent),m≠j→L[m]? = some e→∀ b,e.foot b→¬ e0.foot b:=fun m e hne hm b hb hb0=>by
  have hpw:=List.pairwise_iff_getElem.1 h.apart
  obtain ⟨hml,hme⟩:=List.getElem?_eq_some_iff.1 hm
  obtain ⟨_,hje⟩:=List.getElem?_eq_some_iff.1 hj
  rcases Nat.lt_or_gt_of_ne hne with hlt | hgt
  ·exact hpw m j hml hjl hlt b (by rw [hme]; exact hb) (by rw [hje]; exact hb0)
  ·exact hpw j m hjl hml hgt b (by rw [hje]; exact hb0) (by rw [hme]; exact hb)
 have same:∀ e:Ent,(∀ b,e.foot b→b<w.heap.size∧¬ e0.foot b)→e.p w→e.p w':=fun e he hp=>e.loc w w' (fun b hb=>hk b (he b hb).1 (he b hb).2) hp
 refine ⟨hos.trans h.os,htape.trans h.tape,hout.trans h.output,Nat.le_trans h.size hsz,fun k hk0 hx=>?_,?_,?_,?_⟩
 ·rw [hk k (Nat.lt_of_lt_of_le hk0 h.size) (fun hfk=>by rcases (hfb k hfk).2 with h1 | h1; exact hx h1; omega)]
  exact h.block k hk0 hx
 ·intro e he
  rw [List.mem_iff_getElem?] at he
  obtain ⟨m,hm⟩:=he
  rw [List.getElem?_set] at hm
  split at hm
  ·obtain rfl:=Option.some.inj hm
   refine ⟨hp,fun b hb=>⟨(hf b hb).1,?_⟩⟩
   rcases (hf b hb).2 with h1 | h1
   ·exact (hfb b h1).2
   ·exact .inr (Nat.le_trans h.size h1)
  ·rename_i hne
   obtain ⟨h1,h2⟩:=h.own e (List.mem_of_getElem? hm)
   exact ⟨same e (fun b hb=>⟨(h2 b hb).1,other m e (Ne.symm hne) hm b hb⟩) h1,fun b hb=>⟨Nat.lt_of_lt_of_le (h2 b hb).1 hsz,(h2 b hb).2⟩⟩
 ·rw [List.pairwise_iff_getElem]
  intro m n hm hn hmn b hb1 hb2
  rw [List.length_set] at hm hn
  rw [List.getElem_set] at hb1 hb2
  have hpw:=List.pairwise_iff_getElem.1 h.apart
  split at hb1
  ·rename_i hjm'
   subst hjm'
   rw [if_neg (by omega)] at hb2
   rcases (hf b hb1).2 with h1 | h1
   ·exact other n _ (by omega) (List.getElem?_eq_getElem hn) b hb2 h1
   ·exact absurd ((h.own _ (List.getElem_mem hn)).2 b hb2).1 (by omega)
  ·split at hb2
   ·rename_i hjn
    subst hjn
    rcases (hf b hb2).2 with h1 | h1
    ·exact other m _ (by omega) (List.getElem?_eq_getElem hm) b hb1 h1
    ·exact absurd ((h.own _ (List.getElem_mem hm)).2 b hb1).1 (by omega)
   ·exact hpw m n hm hn hmn b hb1 hb2
 ·intro e he
  obtain ⟨h1,h2⟩:=h.read e he
  refine ⟨same e (fun b hb=>⟨(h2 b hb).1,(h2 b hb).2 e0 hjm⟩) h1,fun b hb=>⟨Nat.lt_of_lt_of_le (h2 b hb).1 hsz,fun e2 he2 hb2=>?_⟩⟩
  rw [List.mem_iff_getElem?] at he2
  obtain ⟨m,hm⟩:=he2
  rw [List.getElem?_set] at hm
  split at hm
  ·obtain rfl:=Option.some.inj hm
   rcases (hf b hb2).2 with h3 | h3
   ·exact (h2 b hb).2 e0 hjm h3
   ·exact absurd (h2 b hb).1 (by omega)
  ·exact (h2 b hb).2 e2 (List.mem_of_getElem? hm) hb2
theorem St.ownSet (h:St w0 X L R w) (j:Nat) {A A':Option Addr}{n c n' c' e size:Nat}{xs xs':List Value}(hj:L[j]? = some (.own A n c xs e size)) (ho:w'.ownsRow 0 e size (.slice A' n' c') n' xs')
  (hg:w.grownBy w' (Value.slice (nz A c) n c).ownBlock) (hb:∀ b,(Value.slice A' n' c').ownBlock=some b→(Value.slice (nz A c) n c).ownBlock=some b∨w.heap.size≤b):St w0 X (L.set j (.own A' n' c' xs' e size)) R w':=
 h.entSet j hj hg.os hg.tape hg.output hg.size (fun k hk hf=>hg.block k hk fun he=>hf he.symm) (own_nz ho) fun b hb'=>⟨((own_nz ho).lt b hb').2,hb b (nz_foot hb')⟩
theorem append_run {t ty e size bytes:Nat}{ti:TypeInfo}{z v:Value}{n:Nat}{xs:List Value}(ht:P.underlying t=some (.slice e)) (hi:P.toTables.info? e=some ti) (hz:ti.zero=some z) (hsize:ti.size=size) (hby:ti.bytes=bytes) (hzs:z.cells.size=size) (hsz:0<size)
  (hown:w.ownsRow 0 e size v n xs) (ad:Addr) (m c:Nat) (news:List Value) (hl:news.length=m*size) (hnews:∀ j u,news[j]? = some u→w.cell? (ad.add j)=some u) (h1:∀ u∈news,u.oneCell'=true) (h63:n+m≤maxLen) (hbytes:(n+m)*bytes≤140737488355328) :
  ∃ A' c' w',(Builtin.append_ #[t,t] ty #[v,.slice (some ad) m c]).run P w = .ok (.slice A' (n+m) c') w'∧w'.ownsRow 0 e size (.slice A' (n+m) c') (n+m) (xs++news)∧w.grownBy w' v.ownBlock∧
   ∀ b,(Value.slice A' (n+m) c').ownBlock=some b→v.ownBlock=some b∨w.heap.size≤b:=by
 obtain ⟨v',w',hr,ho,hg,hnil⟩:=run_append_own (P:=P) w 0 t ty e ti z size bytes ht hi hz hsize hby hzs hsz v n xs hown ad m c news hl hnews h1 h63 hbytes (Nat.zero_le _)
 have hshape:∃ A' c',v' = .slice A' (n+m) c':=by
  rcases ho.2 with ⟨hv,hn⟩ | ⟨g,cap,cur,hv,_⟩
  ·exact ⟨none,0,by rw [hv,hn]⟩
  ·exact ⟨_,_,hv⟩
 obtain ⟨A',c',rfl⟩:=hshape
 refine ⟨A',c',w',hr,ho,hg,fun b hb=>?_⟩
 have hsmall:n+m≤9223372036854775807:=by simp only [maxLen] at h63; omega
 rcases hown.2 with ⟨rfl,rfl⟩ | ⟨g,cap,cur,rfl,hbg,hgh,hnc,hcm,hcs,htake⟩
 ·by_cases hm:m=0
  ·have:=hnil.2 ⟨rfl,hm⟩
   rw [this] at hb
   cases hb
  ·subst hsize
   have hr':=run_append_nil (P:=P) w t ty e ti z ht hi hz ad m c news hl hnews (by omega) (by omega) (by subst hby; have hb:=hbytes; simp only [Nat.zero_add] at hb; omega)
   have:=hr.symm.trans hr'
   injection this with h3 h4
   rw [h3] at hb
   simp only [Value.ownBlock,Option.some.injEq] at hb
   exact .inr (by omega)
 ·subst hsize
  by_cases hroom:n+m≤cap
  ·have hfit:n*ti.size+news.length≤cur.size:=by rw [hl,hcs,← Nat.add_mul]; exact Nat.mul_le_mul_right _ hroom
   have hr':=run_append_room (P:=P) w t ty e ti ht hi g n cap cur hgh ad m c news hl hnews h1 hroom hfit
   have:=hr.symm.trans hr'
   injection this with h3 h4
   rw [h3] at hb
   exact .inl hb
  ·have holds:∀ j u,xs[j]? = some u→w.cell? ((⟨g,0,none⟩ : Addr).add j)=some u:=hown.cells (g:=g) rfl
   subst hby
   have hr':=run_append_grow (P:=P) w t ty e ti z ht hi hz ⟨g,0,none⟩ n cap xs hown.1 holds ad m c news hl hnews (by omega) (by omega) (growslice_fits (by omega) hbytes)
   have:=hr.symm.trans hr'
   injection this with h3 h4
   rw [h3] at hb
   simp only [Value.ownBlock,Option.some.injEq] at hb
   exact .inr (by omega)
theorem op_append {d:Option Tmp}(hd:dstAt ops i=d) {t ty e size bytes B n m c cx:Nat}{ti:TypeInfo}{z:Value}{A Ax:Option Addr}{xs ys:List Value}(hs:St w0 X L R w) (j:Nat) (hj:L[j]? = some (.own A n c xs e size)) (hr:RowP w Ax m cx ys size)
  (he:execAt ops i a=nextV (Builtin.append_ #[t,t] ty #[.slice A n c,.slice Ax m cx])) (hu:P.underlying t=some (.slice e)) (hi:P.toTables.info? e=some ti) (hz:ti.zero=some z) (hsize:ti.size=size) (hby:ti.bytes=bytes) (hzs:z.cells.size=size) (hsz:0<size)
  (h1:∀ u∈ys,u.oneCell'=true) (hlen:n+m≤B) (hb:bytes*B≤140737488355328) (hB:B≤140737488355328)
  (k:∀ A' c' w',St w0 X (L.set j (.own A' (n+m) c' (xs++ys) e size)) R w'→K (a.put d (.slice A' (n+m) c')) w'):wpOp P ops (NoP Kn) i K a w:=by
 have hown:=hs.ownAt j hj
 have hbytes:(n+m)*bytes≤140737488355328:=by
  have:=Nat.mul_le_mul_left bytes hlen
  rw [Nat.mul_comm]
  omega
 have hnil:ys=[]→m=0→K (a.put d (.slice A n c)) w:=fun hy hm=>by
  subst hy hm
  have:=k A c w (by
   rw [List.append_nil,Nat.add_zero]
   exact hs.entSet j hj rfl rfl rfl (Nat.le_refl _) (fun _ _ _=>rfl) hown fun b hb=>⟨(hown.lt b hb).2,.inl hb⟩)
  simpa using this
 by_cases hc:c=0
 ·subst hc
  have hr0:=RowP.of_own hown
  obtain rfl:n=0:=by have:=hr0.2.1.1; omega
  obtain rfl:xs=[]:=List.eq_nil_of_length_eq_zero (by rw [hr0.1,Nat.zero_mul])
  by_cases hm:m=0
  ·subst hm
   have hy:ys=[]:=List.eq_nil_of_length_eq_zero (by rw [hr.1,Nat.zero_mul])
   refine wpOp_val hd (w':=w) (v:=.slice A 0 0) ?_ (hnil hy rfl)
   rw [he]
   refine run_nextV ?_
   have hld:∀ (ad:Addr),(loadCells ad 0).run P w = .ok #[] w:=fun _=>rfl
   cases A<;>cases Ax<;>simp [Builtin.append_,run_underlying hu,sizeOf,typeInfo,hi,Builtin.lenOf,Builtin.firstCells,storeCells,hld]
  ·cases Ax with
   | none=>
    have hc:=hr.2.1.2 rfl
    have:=hr.2.1.1
    omega
   | some ad=>
    have hnews:∀ j u,ys[j]? = some u→w.cell? (ad.add j)=some u:=by
     intro q u hq
     obtain ⟨b,o,cs,T,fz,hA,hh,hc⟩:=hr.cell hq
     obtain rfl:=Option.some.inj hA
     rw [add_plain]
     simp [World.cell?,hh,hc]
    have h0:w.ownsRow 0 e size (.slice none 0 0) 0 []:=World.ownsRow_nil w 0 e size
    obtain ⟨A',c',w',hrun,ho,hg,hblk⟩:=append_run (P:=P) (ty:=ty) hu hi hz hsize hby hzs hsz h0 ad m cx ys hr.1 hnews h1 (by unfold maxLen; omega) hbytes
    have hrun':(Builtin.append_ #[t,t] ty #[.slice A 0 0,.slice (some ad) m cx]).run P w = .ok (.slice A' (0+m) c') w':=by
     cases A with
     | none=>exact hrun
     | some b=>
      subst hsize hby
      have hbm:m*ti.bytes≤281474976710656:=by have:=hbytes; rw [Nat.zero_add] at this; omega
      have hn1:=run_append_nil (P:=P) w t ty e ti z hu hi hz ad m cx ys hr.1 hnews (by omega) (by omega) hbm
      have hg1:=run_append_grow (P:=P) w t ty e ti z hu hi hz b 0 0 [] (by simp) (fun j v hv=>by simp at hv) ad m cx ys hr.1 hnews (by omega) (by omega) (growslice_fits (by omega) (by simpa using hbytes))
      rw [hg1,← hrun,hn1]
      simp
    refine wpOp_val hd (w':=w') ?_ (k A' c' w' (hs.ownSet j hj ho hg hblk))
    rw [he]
    exact run_nextV hrun'
 rw [nz_pos hc] at hown
 cases Ax with
 | none=>
  obtain ⟨hl,⟨hmc,hc0⟩,h3⟩:=hr
  have hc:cx=0:=hc0 rfl
  subst hc
  obtain rfl:m=0:=by omega
  obtain rfl:ys=[]:=List.eq_nil_of_length_eq_zero (by rw [hl,Nat.zero_mul])
  refine wpOp_val hd (w':=w) (v:=.slice A n c) ?_ (hnil rfl rfl)
  rw [he]
  exact run_nextV (run_append_owned_none w 0 t ty e ti size hu hi _ n xs hown)
 | some ad=>
  have hnews:∀ j u,ys[j]? = some u→w.cell? (ad.add j)=some u:=by
   intro q u hq
   obtain ⟨b,o,cs,T,fz,hA,hh,hc⟩:=hr.cell hq
   obtain rfl:=Option.some.inj hA
   rw [add_plain]
   simp [World.cell?,hh,hc]
  obtain ⟨A',c',w',hrun,ho,hg,hblk⟩:=append_run (P:=P) (ty:=ty) hu hi hz hsize hby hzs hsz hown ad m cx ys hr.1 hnews h1 (by unfold maxLen; omega) hbytes
  refine wpOp_val hd (w':=w') ?_ (k A' c' w' (hs.ownSet j hj ho (by rw [nz_pos hc]; exact hg) (by rw [nz_pos hc]; exact hblk)))
  rw [he]
  exact run_nextV hrun
theorem St.ownTake (h:St w0 X L R w) (j:Nat) {A:Option Addr}{n c e size m:Nat}{xs:List Value}(hj:L[j]? = some (.own A n c xs e size)) (hm:m≤n):St w0 X (L.set j (.own A m c (xs.take (m*size)) e size)) R w:=by
 have ho:=h.ownAt j hj
 have hle:m*size≤n*size:=Nat.mul_le_mul_right _ hm
 have hlen:(xs.take (m*size)).length=m*size:=by rw [List.length_take,ho.1,Nat.min_eq_left hle]
 have hp:(Ent.own A m c (xs.take (m*size)) e size).p w:=by
  refine ⟨hlen,?_⟩
  rcases ho.2 with ⟨hv,hn⟩ | ⟨g,cap,cur,hv,hg,hh,hnc,hcm,hcs,ht⟩
  ·obtain rfl:m=0:=by omega
   injection hv with e1 e2 e3
   exact .inl ⟨by rw [e1,e3],rfl⟩
  ·injection hv with e1 e2 e3
   refine .inr ⟨g,cap,cur,by rw [e1,e3],hg,hh,by omega,hcm,hcs,?_⟩
   rw [← ht,List.take_take,Nat.min_eq_left hle]
 refine h.entSet j hj rfl rfl rfl (Nat.le_refl _) (fun _ _ _=>rfl) hp fun b hb=>?_
 have hb:(Ent.own A n c xs e size).foot b:=by
  have hb':(Value.slice (nz A c) m c).ownBlock=some b:=hb
  show (Value.slice (nz A c) n c).ownBlock=some b
  cases hA:nz A c<;>rw [hA] at hb'<;>exact hb'
 exact ⟨((h.own _ (List.mem_of_getElem? hj)).2 b hb).1,.inl hb⟩
end
end Go.Mx

/- own -/
set_option linter.unusedSimpArgs false
set_option linter.unusedVariables false
namespace Go.Mx
open Go.RowKit
structure Cod (T:Type) where
 size:Nat
 agg:Bool
 val:T→Value
 cells:T→List Value
 zero:T
 pos:0<size
 len:∀ x,(cells x).length=size
 one:∀ x,∀ v∈cells x,v.oneCell'=true
 vc:∀ x,(val x).cells=(cells x).toArray
 sc:agg=false→∀ x,cells x=[val x]
 ag:agg=true→∀ x,val x = .agg (cells x).toArray
def CI (k:IntKind):Cod Int where
 size:=1
 agg:=false
 val:=Value.int k
 cells:=fun x=>[.int k x]
 zero:=0
 pos:=Nat.one_pos
 len:=fun _=>rfl
 one:=fun x v hv=>by obtain rfl:=List.mem_singleton.1 hv; rfl
 vc:=fun _=>rfl
 sc:=fun _ _=>rfl
 ag:=fun h=>by cases h
def CA (k:IntKind) (n:Nat) (h:0<n):Cod (Arr n) where
 size:=n
 agg:=true
 val:=fun x=>.agg (enc k x).toArray
 cells:=enc k
 zero:=zeroA n
 pos:=h
 len:=enc_len k
 one:=enc_one k
 vc:=fun _=>rfl
 sc:=fun h=>by cases h
 ag:=fun _ _=>rfl
section
variable {T : Type} (C : Cod T)
def encL (l:List T):List Value:=l.flatMap C.cells
def rdL (l:List T) (x:Int):T:=l.getD x.toNat C.zero
def wrL (l:List T) (x:Int) (v:T):List T:=l.set x.toNat v
def subL (l:List T) (lo hi:Int):List T:=(l.take hi.toNat).drop lo.toNat
theorem encL_nil:encL C []=[]:=rfl
theorem encL_cons (x:T) (l:List T):encL C (x::l)=C.cells x++encL C l:=rfl
theorem encL_append (l m:List T):encL C (l++m)=encL C l++encL C m:=List.flatMap_append
theorem encL_len (l:List T):(encL C l).length=l.length*C.size:=by
 induction l with
 | nil=>simp [encL_nil]
 | cons x l ih=>rw [encL_cons,List.length_append,C.len,ih,List.length_cons,Nat.add_mul]; omega
theorem encL_one (l:List T):∀ v∈encL C l,v.oneCell'=true:=by
 intro v hv
 obtain ⟨x,_,hx⟩:=List.mem_flatMap.1 hv
 exact C.one x v hx
theorem encL_split (l:List T) (m:Nat) (hm:m<l.length):encL C l=encL C (l.take m)++(C.cells l[m]++encL C (l.drop (m+1))):=by
 rw [← encL_cons,← encL_append,List.getElem_cons_drop,List.take_append_drop]
theorem encL_take_len (l:List T) (m:Nat) (hm:m≤l.length):(encL C (l.take m)).length=m*C.size:=by
 rw [encL_len,List.length_take,Nat.min_eq_left hm]
theorem encL_get (l:List T) (m j:Nat) (hm:m<l.length) (hj:j<C.size):(encL C l)[m*C.size+j]? = (C.cells l[m])[j]?:=by
 rw [encL_split C l m hm,List.getElem?_append_right (by rw [encL_take_len C l m (by omega)]; omega),encL_take_len C l m (by omega),Nat.add_sub_cancel_left,List.getElem?_append_left (by rw [C.len]; exact hj)]
theorem encL_mid (l:List T) (m:Nat) (hm:m<l.length):((encL C l).drop (m*C.size)).take C.size=C.cells l[m]:=by
 rw [encL_split C l m hm,List.drop_append_of_le_length (by rw [encL_take_len C l m (by omega)]; omega),List.drop_of_length_le (by rw [encL_take_len C l m (by omega)]; omega),List.nil_append,List.take_append_of_le_length (by rw [C.len]; omega),List.take_of_length_le (by rw [C.len]; omega)]
theorem splice_mid (p q r v:List Value) (n:Nat) (hn:p.length=n) (hv:v.length=q.length):splice (p++(q++r)) n v=p++(v++r):=by
 subst hn
 unfold splice
 rw [List.take_append_of_le_length (Nat.le_refl _),List.take_length,List.append_assoc]
 congr 2
 rw [← List.append_assoc,hv,← List.length_append,List.drop_left]
theorem mid_sub (p q r:List Value) (n m:Nat) (hn:p.length=n) (hm:n+q.length=m):((p++(q++r)).take m).drop n=q:=by
 subst hn
 subst hm
 rw [← List.append_assoc,← List.length_append,List.take_left,List.drop_left]
theorem encL_splice (l:List T) (rest:List Value) (m:Nat) (hm:m<l.length) (v:T):splice (encL C l++rest) (m*C.size) (C.cells v)=encL C (l.set m v)++rest:=by
 have h1:(encL C (l.take m)).length=m*C.size:=encL_take_len C l m (by omega)
 rw [List.set_eq_take_append_cons_drop,if_pos hm,encL_append,encL_cons,encL_split C l m hm,List.append_assoc,List.append_assoc,splice_mid _ _ _ _ _ h1 (by rw [C.len,C.len])]
 simp only [List.append_assoc]
theorem encL_sub (l:List T) (lo hi:Nat) (h:lo≤hi) (h2:hi≤l.length):encL C ((l.take hi).drop lo)=((encL C l).take (hi*C.size)).drop (lo*C.size):=by
 have e:encL C l=encL C (l.take lo)++(encL C ((l.take hi).drop lo)++encL C (l.drop hi)):=by
  rw [← encL_append,← encL_append]
  congr 1
  rw [show l.take lo=(l.take hi).take lo by rw [List.take_take,Nat.min_eq_left h],← List.append_assoc,List.take_append_drop,List.take_append_drop]
 have h1:(encL C (l.take lo)).length=lo*C.size:=encL_take_len C l lo (by omega)
 have h3:(encL C ((l.take hi).drop lo)).length=(hi-lo)*C.size:=by rw [encL_len,List.length_drop,List.length_take,Nat.min_eq_left h2]
 have h4:lo*C.size+(hi-lo)*C.size=hi*C.size:=by rw [← Nat.add_mul]; congr 1; omega
 generalize encL C ((l.take hi).drop lo)=q at *
 rw [e,mid_sub _ _ _ _ _ h1 (by rw [h3]; exact h4)]
end
section
variable {T : Type} {C : Cod T} {P : Program} {ops : Array Oper} {K Kn : Act → World → Prop} {a : Act} {w w' : World} {i : Nat} {w0 : World} {X : List Nat} {L R : List Ent}
abbrev Ent.ownL (C:Cod T) (A:Option Addr) (n c:Nat) (l:List T) (e:Nat):Ent:=.own A n c (encL C l) e C.size
abbrev Ent.rowL (C:Cod T) (A:Option Addr) (n c:Nat) (l:List T):Ent:=.row A n c (encL C l) C.size
abbrev RowL (C:Cod T) (w:World) (A:Option Addr) (n c:Nat) (l:List T):Prop:=RowP w A n c (encL C l) C.size
theorem RowL.nil (w:World):RowL C w none 0 0 []:=⟨by simp [encL_nil],⟨Nat.le_refl _,fun _=>rfl⟩,.inl rfl⟩
theorem RowL.length {A:Option Addr}{n c:Nat}{l:List T}(h:RowL C w A n c l):n=l.length:=by
 have h1:=h.1
 rw [encL_len] at h1
 exact (Nat.eq_of_mul_eq_mul_right C.pos h1).symm
theorem yld_lenL {A:Option Addr}{n c:Nat}{l:List T}(hr:RowL C w A n c l) (h:∀ w',(execAt ops i a).run P w' = .ok (.value (.int .i64 (n:Int))) w'):Yld P ops Any i a w (.int .i64 (l.length:Int)):=by
 rw [← hr.length]
 exact yld h
theorem yld_idxL {t e n c:Nat}{A:Option Addr}{l:List T}{k:IntKind}{x:Int}(hr:RowL C w A n c l) (he:execAt ops i a=nextV (Instr.indexAt t (.slice A n c) (.int k x))) (hu:P.underlying t=some (.slice e)) (hs:szOf P e=some C.size)
  (h0:0≤x) (h1:x<l.length):Yld P ops Any i a w (.pointer (adr A (x.toNat*C.size))):=yld_idxS hr he hu hs C.pos h0 (by rw [hr.length]; exact h1)
theorem rdL_get {l:List T}{x:Int}(h0:0≤x) (h1:x<l.length):∃ hm:x.toNat<l.length,rdL C l x=l[x.toNat]:=by
 have hm:x.toNat<l.length:=by omega
 exact ⟨hm,by simp [rdL,List.getD_eq_getElem?_getD,hm]⟩
theorem yld_loadL {e n c:Nat}{A:Option Addr}{l:List T}{x:Int}(hr:RowL C w A n c l) (he:execAt ops i a=nextV (Instr.loadAt e (.pointer (adr A (x.toNat*C.size))))) (hc:C.agg=false) (hg:aggB P e=some false)
  (h0:0≤x) (h1:x<l.length):Yld P ops Grow i a w (C.val (rdL C l x)):=by
 obtain ⟨hm,e1⟩:=rdL_get (C:=C) h0 h1
 rw [e1]
 refine yld_loadS hr he hg ?_
 have h:=encL_get C l x.toNat 0 hm C.pos
 rw [Nat.add_zero] at h
 rw [h,C.sc hc]
 rfl
theorem run_loadCellsRow {b o:Nat}{cs:Array Value}{t:TypeId}{fz:Nat × Nat}{xs:List Value}(h:w.heap[b]? = some (.cells cs t fz)) (hc:∀ (j:Nat) (u:Value),xs[j]? = some u→cs[o+j]? = some u):∀ (n m j:Nat) (acc:Array Value),m+j+n≤xs.length →
  (loadCellsFrom ⟨b,o+m,none⟩ j n acc).run P w = .ok (acc++((xs.drop (m+j)).take n).toArray) w:=by
 intro n
 induction n with
 | zero=>intro m j acc _; simp [loadCellsFrom]
 | succ n ih=>
  intro m j acc hl
  unfold loadCellsFrom
  have hlt:m+j<xs.length:=by omega
  have hcell:w.cell? ⟨b,o+m+j,none⟩=some xs[m+j]:=by
   have:=hc (m+j) _ (List.getElem?_eq_getElem hlt)
   rw [← Nat.add_assoc] at this
   simp [World.cell?,h,this]
  have hld:(load ⟨b,o+m+j,none⟩).run P w = .ok xs[m+j] w:=by
   unfold load
   simp only [Sem.run,hcell]
  rw [add_plain,rb hld]
  show (loadCellsFrom ⟨b,o+m,none⟩ (j+1) n (acc.push xs[m+j])).run P w=_
  rw [ih m (j+1) _ (by omega),List.drop_eq_getElem_cons hlt,List.take_succ_cons,← Nat.add_assoc]
  simp
theorem yld_loadLA {e n c:Nat}{A:Option Addr}{l:List T}{x:Int}(hr:RowL C w A n c l) (he:execAt ops i a=nextV (Instr.loadAt e (.pointer (adr A (x.toNat*C.size))))) (hc:C.agg=true) (hg:aggB P e=some true) (hn:szOf P e=some C.size)
  (h0:0≤x) (h1:x<l.length):Yld P ops Grow i a w (C.val (rdL C l x)):=by
 obtain ⟨hm,e1⟩:=rdL_get (C:=C) h0 h1
 rw [e1]
 intro w' g
 rw [he]
 refine run_nextV ?_
 have hr':RowP w' A n c (encL C l) C.size:=(Ent.row A n c (encL C l) C.size).loc w w' (fun b hb=>g.block b (hr.foot_lt b hb)) hr
 obtain ⟨hl,_,h3⟩:=hr'
 have hlen:=encL_len C l
 have hle:x.toNat*C.size+C.size≤(encL C l).length:=by
  rw [hlen]
  have:(x.toNat+1)*C.size≤l.length*C.size:=Nat.mul_le_mul_right _ hm
  rw [Nat.add_mul] at this
  omega
 rcases h3 with h3 | ⟨b,o,cs,T',fz,rfl,hh,hcc⟩
 ·have:=C.pos
  rw [h3] at hle
  simp at hle
  omega
 ·show (Instr.loadAt e (.pointer (some ((⟨b,o,none⟩ : Addr).add (x.toNat*C.size))))).run P w'=_
  rw [add_plain]
  show (loadVar e ⟨b,o+x.toNat*C.size,none⟩).run P w'=_
  unfold loadVar
  rw [rb (run_isAgg hg)]
  show ((do pure (.agg (← loadCells ⟨b,o+x.toNat*C.size,none⟩ (← sizeOf e))):Sem Value)).run P w'=_
  rw [rb (run_sizeOf hn),C.ag hc]
  refine (rb (x:=(C.cells l[x.toNat]).toArray) (w':=w') ?_).trans rfl
  unfold loadCells
  rw [run_loadCellsRow hh hcc C.size _ 0 #[] (by omega),Nat.add_zero,encL_mid C l _ hm]
  simp
theorem St.openOwn (h:St w0 X L R w) (j:Nat) {A:Option Addr}{n c e size:Nat}{xs:List Value}(hj:L[j]? = some (.own A n c xs e size)) (hn:0<n) :
  ∃ g rest,A=some ⟨g,0,Option.none⟩∧n≤c∧c≤maxLen∧xs.length=n*size∧(xs++rest).length=c*size∧St w0 X (L.set j (.blk g (xs++rest) e)) R w:=by
 have ho:=h.ownAt j hj
 have hc0:c≠0:=by have:=(RowP.of_own ho).2.1.1; omega
 have hlt:∀ b,(Value.slice A n c).ownBlock=some b→b<w.heap.size∧_:=fun b hb=>(h.own _ (List.mem_of_getElem? hj)).2 b (by show (Value.slice (nz A c) n c).ownBlock=_; rw [nz_pos hc0]; exact hb)
 rw [nz_pos hc0] at ho
 obtain ⟨hl,h2⟩:=ho
 rcases h2 with ⟨_,h0⟩ | ⟨g,cap,cur,hv,_,hh,hnc,hcm,hcs,ht⟩
 ·omega
 ·injection hv with e1 e2 e3
  subst e1 e3
  have hx:xs++cur.toList.drop (n*size)=cur.toList:=by rw [← ht,List.take_append_drop]
  refine ⟨g,cur.toList.drop (n*size),rfl,hnc,hcm,hl,by rw [hx,Array.length_toList,hcs],?_⟩
  refine h.entSet j hj rfl rfl rfl (Nat.le_refl _) (fun _ _ _=>rfl) ?_ fun b hb=>?_
  ·rw [hx]
   exact hh
  ·obtain rfl:b=g:=hb
   exact ⟨(hlt b rfl).1,.inl (by show (Value.slice (nz _ c) n c).ownBlock=_; rw [nz_pos hc0]; rfl)⟩
theorem St.closeOwn (h:St w0 X L R w) (j:Nat) {g n c e size:Nat}{xs rest:List Value}(hj:L[j]? = some (.blk g (xs++rest) e)) (hnc:n≤c) (hcm:c≤maxLen) (hl:xs.length=n*size) (hs:(xs++rest).length=c*size) :
  St w0 X (L.set j (.own (some ⟨g,0,Option.none⟩) n c xs e size)) R w:=by
 have hb:=h.blkAt j hj
 refine h.entSet j hj rfl rfl rfl (Nat.le_refl _) (fun _ _ _=>rfl) (own_nz ⟨hl,.inr ⟨g,c,_,rfl,Nat.zero_le _,hb,hnc,hcm,by simpa using hs,?_⟩⟩) fun b hb=>?_
 ·simp only [List.take_append_of_le_length (Nat.le_of_eq hl.symm)]
  exact List.take_of_length_le (Nat.le_of_eq hl)
 ·obtain rfl:g=b:=Option.some.inj (nz_foot hb)
  exact ⟨((h.own _ (List.mem_of_getElem? hj)).2 g rfl).1,.inl rfl⟩
theorem op_storeL {d:Option Tmp}(hd:dstAt ops i=d) {t n c e:Nat}{A:Option Addr}{l:List T}{x:Int}{v:T}(hs:St w0 X L R w) (j:Nat) (hj:L[j]? = some (.ownL C A n c l e)) (he:execAt ops i a=nextU (Instr.storeAt t (.pointer (adr A (x.toNat*C.size))) (C.val v)))
  (hn:szOf P t=some C.size) (h0:0≤x) (h1:x<l.length)
  (k:∀ w',St w0 X (L.set j (.ownL C A n c (wrL l x v) e)) R w'→K (a.put d undef) w'):wpOp P ops (NoP Kn) i K a w:=by
 have hm:x.toNat<l.length:=by omega
 have hnl:n=l.length:=RowL.length (hs.rowL j hj)
 obtain ⟨g,rest,rfl,hnc,hcm,hxl,hrl,hb⟩:=hs.openOwn j hj (by omega)
 have hjl:j<L.length:=(List.getElem?_eq_some_iff.1 hj).1
 have hj':(L.set j (.blk g (encL C l++rest) e))[j]? = some (.blk g (encL C l++rest) e):=by simp [hjl]
 have hle:x.toNat*C.size+C.size≤(encL C l).length:=by
  rw [encL_len]
  have:(x.toNat+1)*C.size≤l.length*C.size:=Nat.mul_le_mul_right _ hm
  rw [Nat.add_mul] at this
  omega
 have ha:adr (some ⟨g,0,none⟩) (x.toNat*C.size)=some ⟨g,x.toNat*C.size,none⟩:=by simp [adr,add_plain]
 rw [ha] at he
 refine op_storeN hd hb j hj' he (vs:=C.cells v) (C.vc v) (by rw [C.len]; exact hn) (by rw [C.len,List.length_append]; omega) (C.one v) fun w' _ h=>k w' ?_
 rw [List.set_set,encL_splice C l rest _ hm] at h
 have:=h.closeOwn j (n:=n) (c:=c) (size:=C.size) (xs:=encL C (wrL l x v)) (rest:=rest) (e:=e) (g:=g) (by simp [hjl,wrL]) hnc hcm (by rw [encL_len,hnl]; simp [wrL]) (by
  rw [List.length_append,encL_len] at hrl ⊢
  simpa [wrL] using hrl)
 rw [List.set_set] at this
 exact this
theorem encL_rep (n:Nat):(madeCells (C.val C.zero).cells (n*C.size)).toList=encL C (List.replicate n C.zero):=by
 have hp:=C.pos
 have hz:(C.val C.zero).cells.size=C.size:=by rw [C.vc,List.size_toArray,C.len]
 apply List.ext_getElem?
 intro j
 by_cases hj:j<n*C.size
 ·have hd:j/C.size<n:=Nat.div_lt_of_lt_mul (by rw [Nat.mul_comm]; exact hj)
  have h:=encL_get C (List.replicate n C.zero) (j/C.size) (j%C.size) (by simpa using hd) (Nat.mod_lt _ hp)
  rw [Nat.mul_comm,Nat.div_add_mod] at h
  rw [h]
  have hm:j%C.size<(C.cells C.zero).length:=by rw [C.len]; exact Nat.mod_lt _ hp
  simp [madeCells,hj,C.vc,C.len,List.getElem?_eq_getElem hm]
 ·rw [List.getElem?_eq_none (by simp [madeCells]; omega),List.getElem?_eq_none (by rw [encL_len]; simp; omega)]
theorem op_makeL {d:Option Tmp}(hd:dstAt ops i=d) {t e bytes B:Nat}{ti:TypeInfo}{kl kc:IntKind}{x:Int}(hs:St w0 X L R w) (he:execAt ops i a=nextV (Instr.makeSlice t (.int kl x) (.int kc x))) (hu:P.underlying t=some (.slice e))
  (hi:P.toTables.info? e=some ti) (hz:ti.zero=some (C.val C.zero)) (hsize:ti.size=C.size) (hby:ti.bytes=bytes) (h0:0≤x) (h1:x≤B) (hb:bytes*B≤140737488355328) (hB:B≤140737488355328)
  (k:∀ A n c w',Grow w w'→St w0 X (.ownL C A n c (List.replicate x.toNat C.zero) e::L) R w'→K (a.put d (.slice A n c)) w'):wpOp P ops (NoP Kn) i K a w:=
 op_make hd hs he hu hi hz hsize hby h0 h1 hb hB (encL C (List.replicate x.toNat C.zero)) (encL_rep _) fun A c w' g h=>k A _ c w' g h
theorem op_appendL {d:Option Tmp}(hd:dstAt ops i=d) {t ty e bytes B n nx c cx:Nat}{ti:TypeInfo}{z:Value}{A Ax:Option Addr}{l m:List T}(hs:St w0 X L R w) (j:Nat) (hj:L[j]? = some (.ownL C A n c l e)) (hr:RowL C w Ax nx cx m)
  (he:execAt ops i a=nextV (Builtin.append_ #[t,t] ty #[.slice A n c,.slice Ax nx cx])) (hu:P.underlying t=some (.slice e)) (hi:P.toTables.info? e=some ti) (hz:ti.zero=some z) (hsize:ti.size=C.size) (hby:ti.bytes=bytes) (hzs:z.cells.size=C.size)
  (hlen:l.length+m.length≤B) (hb:bytes*B≤140737488355328) (hB:B≤140737488355328)
  (k:∀ A' n' c' w',St w0 X (L.set j (.ownL C A' n' c' (l++m) e)) R w'→K (a.put d (.slice A' n' c')) w'):wpOp P ops (NoP Kn) i K a w:=by
 have h1:n=l.length:=RowL.length (hs.rowL j hj)
 have h2:=hr.length
 refine op_append hd hs j hj hr he hu hi hz hsize hby hzs C.pos (encL_one C m) (by omega) hb hB fun A' c' w' h=>k A' _ c' w' ?_
 rw [← encL_append] at h
 exact h
theorem op_makeL0 {d:Option Tmp}(hd:dstAt ops i=d) {t e bytes B:Nat}{ti:TypeInfo}{kl kc:IntKind}{x:Int}(hs:St w0 X L R w) (he:execAt ops i a=nextV (Instr.makeSlice t (.int kl 0) (.int kc x))) (hu:P.underlying t=some (.slice e))
  (hi:P.toTables.info? e=some ti) (hz:ti.zero=some (C.val C.zero)) (hsize:ti.size=C.size) (hby:ti.bytes=bytes) (h0:0≤x) (h1:x≤B) (hb:bytes*B≤140737488355328) (hB:B≤140737488355328)
  (k:∀ A n c w',Grow w w'→St w0 X (.ownL C A n c ([]:List T) e::L) R w'→K (a.put d (.slice A n c)) w'):wpOp P ops (NoP Kn) i K a w:=by
 obtain ⟨m,rfl⟩:=Int.eq_ofNat_of_zero_le h0
 have hm:m≤B:=by omega
 have hbm:ti.bytes*m≤281474976710656:=by
  rw [hby]
  have:=Nat.mul_le_mul_left bytes hm
  omega
 obtain ⟨w',hr,ho,hg⟩:=run_make_own (P:=P) w w.heap.size t e ti _ C.size hu hi hz hsize kl kc m hbm (by unfold maxLen; omega) (Nat.le_refl _)
 refine wpOp_val hd (w':=w') (v:=.slice (some ⟨w.heap.size,0,none⟩) 0 m) ?_ (k _ _ _ w' ⟨hg.os,hg.tape,hg.output,hg.size,fun q hq=>hg.block q hq (by simp)⟩ (hs.ownNew rfl ho hg))
 rw [he]
 exact run_nextV hr
theorem op_lit {d:Option Tmp}(hd:dstAt ops i=d) {t e len:Nat}{z:Value}{parts:Array (Nat × Value)}(l:List T) (hs:St w0 X L R w) (he:execAt ops i a=nextV (Instr.buildSlice t len parts)) (hu:P.underlying t=some (.slice e)) (hsz:szOf P e=some C.size)
  (hz:zeroOf P e=some z) (hl:l.length=len) (hlen:0<len) (hbig:len*C.size≤16777216) (hf:Instr.fill (fun i=>some (i*C.size,C.size)) ((Array.range (len*C.size)).map (z.cells[· % z.cells.size]!)) parts.toList=some (encL C l).toArray)
  (k:∀ A n c w',Grow w w'→St w0 X (.ownL C A n c l e::L) R w'→K (a.put d (.slice A n c)) w'):wpOp P ops (NoP Kn) i K a w:=by
 subst hl
 have hpos:¬ l.length*C.size=0:=by
  have:=Nat.mul_pos hlen C.pos
  omega
 have ho:({ w with heap:=w.heap.push (.cells (encL C l).toArray e) } : World).ownsRow w.heap.size e C.size (.slice (some ⟨w.heap.size,0,none⟩) l.length l.length) l.length (encL C l):=by
  refine ⟨encL_len C l,.inr ⟨w.heap.size,l.length,(encL C l).toArray,rfl,Nat.le_refl _,by simp,Nat.le_refl _,?_,by simp [encL_len],?_⟩⟩
  ·have:=C.pos
   have h2:l.length*1≤l.length*C.size:=Nat.mul_le_mul_left _ this
   unfold maxLen
   omega
  ·rw [← encL_len C l]
   simp
 have hg:w.grownBy { w with heap:=w.heap.push (.cells (encL C l).toArray e) } none:=⟨rfl,rfl,rfl,by simp,fun q hq _=>by show (w.heap.push _)[q]? = _; rw [Array.getElem?_push,if_neg (by omega)]⟩
 refine wpOp_val hd (w':={ w with heap:=w.heap.push (.cells (encL C l).toArray e) }) (v:=.slice (some ⟨w.heap.size,0,none⟩) l.length l.length) ?_ (k _ _ _ _ (grow_new w _) (hs.ownNew rfl ho hg))
 rw [he]
 refine run_nextV ?_
 unfold Instr.buildSlice
 have hb2:¬ l.length*C.size>2^24:=by omega
 simp only [run_underlying hu,Sem.run_bind,Result.andThen,run_sizeOf hsz,if_neg hb2,if_neg hpos,run_zeroValue hz,Sem.run_pure,hf]
 rfl
theorem sub_nil {α:Type}(l:List α) (n m:Nat) (h:m≤n):(l.take m).drop n=[]:=List.drop_of_length_le (by rw [List.length_take]; omega)
theorem RowP.sub {A A':Option Addr}{n c c' size lo hi:Nat}{xs:List Value}(hr:RowP w A n c xs size) (h:lo≤hi) (h2:hi≤n) (hA:A'=if c=lo then A else adr A (lo*size)) (hc:c'=c-lo) :
  RowP w A' (hi-lo) c' ((xs.take (hi*size)).drop (lo*size)) size:=by
 obtain ⟨hl,⟨hnc,hn0⟩,h3⟩:=hr
 have hm:hi*size≤n*size:=Nat.mul_le_mul_right _ h2
 have hlen:((xs.take (hi*size)).drop (lo*size)).length=(hi-lo)*size:=by
  rw [List.length_drop,List.length_take,Nat.min_eq_left (by omega),Nat.sub_mul]
 refine ⟨hlen,⟨by omega,fun h'=>?_⟩,?_⟩
 ·subst hc
  have:A=none:=by
   rw [hA] at h'
   split at h'
   ·exact h'
   ·unfold adr at h'
    exact Option.map_eq_none_iff.1 h'
  have:=hn0 this
  omega
 ·by_cases hcl:c=lo
  ·left
   have:hi=lo:=by omega
   subst this
   exact sub_nil _ _ _ (Nat.le_refl _)
  ·rw [if_neg hcl] at hA
   rcases h3 with rfl | ⟨b,o,cs,T',fz,rfl,hh,hcc⟩
   ·left; simp
   ·right
    refine ⟨b,o+lo*size,cs,T',fz,?_,hh,fun j u hj=>?_⟩
    ·rw [hA]; simp [adr,add_plain]
    ·rw [List.getElem?_drop,List.getElem?_take] at hj
     split at hj
     ·rw [Nat.add_assoc]; exact hcc _ _ hj
     ·cases hj
theorem RowL.sub {A A':Option Addr}{n n' c c':Nat}{l:List T}{lo hi:Int}(hr:RowL C w A n c l) (h0:0≤lo) (h1:lo≤hi) (h2:hi≤l.length) (hA:A'=if c=lo.toNat then A else adr A (lo.toNat*C.size)) (hn:n'=hi.toNat-lo.toNat) (hc:c'=c-lo.toNat) :
  RowL C w A' n' c' (subL l lo hi):=by
 have hnl:=hr.length
 have h:=RowP.sub (lo:=lo.toNat) (hi:=hi.toNat) hr (by omega) (by omega) hA hc
 rw [← encL_sub C l _ _ (by omega) (by omega),← hn] at h
 exact h
theorem run_bound {k:IntKind}{x:Int}{y:Nat}{code:BoundsCode}(h0:0≤x) (h1:x≤y):(Instr.sliceBound (.int k x) y code).run P w = .ok x.toNat w:=by
 unfold Instr.sliceBound
 simp [asIntOf,h0,h1]
theorem St.addRow (h:St w0 X L R w) {A:Option Addr}{n c size:Nat}{xs:List Value}(hr:RowP w A n c xs size) (hf:∀ e∈L,∀ b,(Ent.row A n c xs size).foot b→¬ e.foot b):St w0 X L (.row A n c xs size::R) w:=by
 refine ⟨h.os,h.tape,h.output,h.size,h.block,h.own,h.apart,fun e he=>?_⟩
 rcases List.mem_cons.1 he with rfl | he
 ·exact ⟨hr,fun b hb=>⟨hr.foot_lt b hb,fun e' he'=>hf e' he' b hb⟩⟩
 ·exact h.read e he
theorem St.addSub (h:St w0 X L R w) (j:Nat) {A A':Option Addr}{n n' c c':Nat}{l:List T}{lo hi:Int}(hj:R[j]? = some (.rowL C A n c l)) (h0:0≤lo) (h1:lo≤hi) (h2:hi≤l.length) (hA:A'=if c=lo.toNat then A else adr A (lo.toNat*C.size)) (hn:n'=hi.toNat-lo.toNat) (hc:c'=c-lo.toNat) :
  St w0 X L (.rowL C A' n' c' (subL l lo hi)::R) w:=by
 have hr:=h.rowR j hj
 refine h.addRow (RowL.sub hr h0 h1 h2 hA hn hc) fun e he b hb=>?_
 refine ((h.read _ (List.mem_of_getElem? hj)).2 b ?_).2 e he
 obtain ⟨hne,a,ha,rfl⟩:=hb
 refine ⟨fun hx=>hne ?_,?_⟩
 ·have hl:l.length=0:=by
   have h4:=encL_len C l
   rw [hx] at h4
   have:=C.pos
   rcases Nat.eq_zero_or_pos l.length with h5 | h5
   ·exact h5
   ·have:=Nat.mul_pos h5 this
    simp at h4
    omega
  have:l=[]:=List.eq_nil_of_length_eq_zero hl
  subst this
  simp [subL,encL]
 ·rw [hA] at ha
  split at ha
  ·exact ⟨a,ha,rfl⟩
  ·obtain ⟨a0,h5,h6⟩:=Option.map_eq_some_iff.1 ha
   refine ⟨a0,h5,?_⟩
   rcases hr.2.2 with h7 | ⟨b,o,cs,T',fz,h8,_⟩
   ·exfalso
    refine hne ?_
    have hl:l.length=0:=by
     have h4:=encL_len C l
     rw [h7] at h4
     have:=C.pos
     rcases Nat.eq_zero_or_pos l.length with h9 | h9
     ·exact h9
     ·have:=Nat.mul_pos h9 this
      simp at h4
      omega
    have:l=[]:=List.eq_nil_of_length_eq_zero hl
    subst this
    simp [subL,encL]
   ·rw [h8] at h5
    obtain rfl:=Option.some.inj h5
    rw [← h6,add_plain]
theorem run_bounds {low high:Option Value}{lo hi:Int}{n c:Nat}(hlo:(low=none∧lo=0)∨∃ k,low=some (.int k lo)) (hhi:(high=none∧hi=n)∨∃ k,high=some (.int k hi)) (h0:0≤lo) (h1:lo≤hi) (h2:hi≤n) (hc:n≤c) :
  (Instr.sliceBounds true n c low high none).run P w = .ok (lo.toNat,hi.toNat,c) w:=by
 unfold Instr.sliceBounds
 have b1:∀ k code,(Instr.sliceBound (.int k hi) c code).run P w = .ok hi.toNat w:=fun k code=>run_bound (by omega) (by omega)
 have b2:∀ k code,(Instr.sliceBound (.int k lo) hi.toNat code).run P w = .ok lo.toNat w:=fun k code=>run_bound h0 (by omega)
 rcases hlo with ⟨rfl,rfl⟩ | ⟨k1,rfl⟩<;>rcases hhi with ⟨rfl,rfl⟩ | ⟨k2,rfl⟩
 ·simp [Sem.run_bind,Result.andThen]
 ·simp [Sem.run_bind,Result.andThen,b1]
 ·have b3:∀ code,(Instr.sliceBound (.int k1 lo) n code).run P w = .ok lo.toNat w:=fun code=>run_bound h0 (by omega)
  simp [Sem.run_bind,Result.andThen,b3]
 ·simp [Sem.run_bind,Result.andThen,b1,b2]
theorem yld_sub {t e n n' c c':Nat}{A A':Option Addr}{l:List T}{low high:Option Value}{lo hi:Int}(hr:RowL C w A n c l) (he:execAt ops i a=nextV (Instr.sliceAt t (.slice A n c) low high none)) (hu:P.underlying t=some (.slice e)) (hs:szOf P e=some C.size)
  (hlo:(low=none∧lo=0)∨∃ k,low=some (.int k lo)) (hhi:(high=none∧hi=(l.length:Int))∨∃ k,high=some (.int k hi)) (h0:0≤lo) (h1:lo≤hi) (h2:hi≤l.length)
  (hA:A'=if c=lo.toNat then A else adr A (lo.toNat*C.size)) (hn:n'=hi.toNat-lo.toNat) (hc:c'=c-lo.toNat):Yld P ops Any i a w (.slice A' n' c'):=by
 refine yld fun w'=>?_
 rw [he]
 refine run_nextV ?_
 have hnl:=hr.length
 rw [← hnl] at hhi h2
 unfold Instr.sliceAt
 simp only [run_underlying hu,Sem.run_bind,Result.andThen]
 unfold Instr.slice
 simp only [run_underlying hu,Sem.run_bind,Result.andThen,run_bounds hlo hhi h0 h1 h2 hr.2.1.1,run_sizeOf hs,Sem.run_pure,hA,hn,hc]
 rfl
theorem op_callH {d:Option Tmp}{H:Type}(hd:dstAt ops i=d) {f:FuncId}{args:Array Value}{v:H→Value}{L1:H→List Ent}(hs:St w0 X L R w) (he:∀ w,(execAt ops i a).run P w = .ok (.enter f args) w)
  (c:Calls P f args w fun e w'=>∃ h:H,e = .returned (v h)∧St w [] (L1 h) [] w') (k:∀ h w',Grow w w'→St w0 X (L1 h++L) R w'→K (a.put d (v h)) w'):wpOp P ops (NoP Kn) i K a w:=
 wpOp_call hd he c fun _ w' ⟨h,h1,h2⟩=>⟨v h,h1,k h w' h2.grow (hs.grown h2)⟩
theorem St.pickR {R':List Ent}(h:St w0 X L R w) (hm:∀ e∈R',e∈R):St w0 X L R' w:=
 ⟨h.os,h.tape,h.output,h.size,h.block,h.own,h.apart,fun e he=>h.read e (hm e he)⟩
theorem pick_nil {R:List Ent} : ∀ e∈([]:List Ent),e∈R:=fun _ h=>(by cases h)
theorem pick_cons {R R':List Ent}{e:Ent}(j:Nat) (hj:R[j]? = some e) (ht:∀ e∈R',e∈R):∀ e'∈e::R',e'∈R:=fun e' he=>by
 rcases List.mem_cons.1 he with rfl | he
 ·exact List.mem_of_getElem? hj
 ·exact ht e' he
theorem St.addNilL (h:St w0 X L R w) (C:Cod T) (e:Nat):St w0 X (.ownL C Option.none 0 0 ([]:List T) e::L) R w:=h.addNil e C.size
def byOf (P:Program) (t:TypeId):Option Nat:=(P.toTables.info? t).map (·.bytes)
theorem info_of {t size bytes:Nat}{z:Value}(h1:szOf P t=some size) (h2:zeroOf P t=some z) (h3:byOf P t=some bytes):∃ ti,P.toTables.info? t=some ti∧ti.zero=some z∧ti.size=size∧ti.bytes=bytes:=by
 unfold szOf at h1
 unfold zeroOf at h2
 unfold byOf at h3
 cases h:P.toTables.info? t with
 | none=>rw [h] at h3; cases h3
 | some ti=>
  rw [h] at h1 h2 h3
  exact ⟨ti,rfl,by simpa using h2,by simpa using h1,by simpa using h3⟩
theorem op_makeT {d:Option Tmp}(hd:dstAt ops i=d) {t e bytes B:Nat}{kl kc:IntKind}{x:Int}(hs:St w0 X L R w) (he:execAt ops i a=nextV (Instr.makeSlice t (.int kl x) (.int kc x))) (hu:P.underlying t=some (.slice e))
  (q1:szOf P e=some C.size) (q2:zeroOf P e=some (C.val C.zero)) (q3:byOf P e=some bytes) (h0:0≤x) (h1:x≤B) (hb:bytes*B≤140737488355328) (hB:B≤140737488355328)
  (k:∀ A n c w',Grow w w'→St w0 X (.ownL C A n c (List.replicate x.toNat C.zero) e::L) R w'→K (a.put d (.slice A n c)) w'):wpOp P ops (NoP Kn) i K a w:=by
 obtain ⟨ti,i1,i2,i3,i4⟩:=info_of q1 q2 q3
 exact op_makeL hd hs he hu i1 i2 i3 i4 h0 h1 hb hB k
theorem op_makeT0 {d:Option Tmp}(hd:dstAt ops i=d) {t e bytes B:Nat}{kl kc:IntKind}{x:Int}(hs:St w0 X L R w) (he:execAt ops i a=nextV (Instr.makeSlice t (.int kl 0) (.int kc x))) (hu:P.underlying t=some (.slice e))
  (q1:szOf P e=some C.size) (q2:zeroOf P e=some (C.val C.zero)) (q3:byOf P e=some bytes) (h0:0≤x) (h1:x≤B) (hb:bytes*B≤140737488355328) (hB:B≤140737488355328)
  (k:∀ A n c w',Grow w w'→St w0 X (.ownL C A n c ([]:List T) e::L) R w'→K (a.put d (.slice A n c)) w'):wpOp P ops (NoP Kn) i K a w:=by
 obtain ⟨ti,i1,i2,i3,i4⟩:=info_of q1 q2 q3
 exact op_makeL0 hd hs he hu i1 i2 i3 i4 h0 h1 hb hB k
theorem op_appendT {d:Option Tmp}(hd:dstAt ops i=d) {t ty e bytes B n nx c cx:Nat}{A Ax:Option Addr}{l m:List T}(hs:St w0 X L R w) (j:Nat) (hj:L[j]? = some (.ownL C A n c l e)) (hr:RowL C w Ax nx cx m)
  (he:execAt ops i a=nextV (Builtin.append_ #[t,t] ty #[.slice A n c,.slice Ax nx cx])) (hu:P.underlying t=some (.slice e)) (q1:szOf P e=some C.size) (q2:zeroOf P e=some (C.val C.zero)) (q3:byOf P e=some bytes)
  (hlen:l.length+m.length≤B) (hb:bytes*B≤140737488355328) (hB:B≤140737488355328)
  (k:∀ A' n' c' w',St w0 X (L.set j (.ownL C A' n' c' (l++m) e)) R w'→K (a.put d (.slice A' n' c')) w'):wpOp P ops (NoP Kn) i K a w:=by
 obtain ⟨ti,i1,i2,i3,i4⟩:=info_of q1 q2 q3
 exact op_appendL hd hs j hj hr he hu i1 i2 i3 i4 (by rw [C.vc,List.size_toArray,C.len]) hlen hb hB k
end
end Go.Mx
