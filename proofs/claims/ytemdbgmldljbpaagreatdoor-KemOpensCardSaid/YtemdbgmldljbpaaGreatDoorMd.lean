/- own -/
import Derived.Test.YtemdbgmldljbpaaGreatDoorMy
import Derived.Lib.AppendZeros
import Derived.Lib.MakeNoZero
import Derived.Laws.Externs
import Derived.Laws.BytesString
set_option linter.unusedSimpArgs false
set_option linter.unusedVariables false
namespace Go.Mx
open Go.RowKit
section
variable {T : Type} {C : Cod T} {P : Program} {ops : Array Oper} {K Kn : Act → World → Prop} {a : Act} {w w' : World} {i : Nat} {w0 : World} {X : List Nat} {L R : List Ent}
theorem adr_zero (A:Option Addr):adr A 0=A:=by
 cases A with
 | none=>rfl
 | some ad=>simp [adr,Addr.add]
theorem encL_take (l:List T):∀ m:Nat,encL C (l.take m)=(encL C l).take (m*C.size):=by
 induction l with
 | nil=>intro m; simp [encL_nil]
 | cons x l ih=>
  intro m
  cases m with
  | zero=>simp [encL_nil]
  | succ m=>
   have hx:(C.cells x).length=C.size:=C.len x
   have h1:(m+1)*C.size=(C.cells x).length+m*C.size:=by rw [hx,Nat.succ_mul]; omega
   rw [List.take_succ_cons,encL_cons,encL_cons,ih m,h1,List.take_length_add_append]
theorem yld_pre {t e n c:Nat}{A:Option Addr}{l:List T}{k:IntKind}{hi:Int}(hr:RowL C w A n c l) (he:execAt ops i a=nextV (Instr.sliceAt t (.slice A n c) none (some (.int k hi)) none)) (hu:P.underlying t=some (.slice e)) (hs:szOf P e=some C.size)
  (h0:0≤hi) (h1:hi≤l.length):Yld P ops Any i a w (.slice A hi.toNat c):=by
 refine yld_sub (lo:=0) (hi:=hi) hr he hu hs (.inl ⟨rfl,rfl⟩) (.inr ⟨_,rfl⟩) (by omega) h0 h1 ?_ (by simp) (by simp)
 simp [adr_zero]
theorem St.preOwn (h:St w0 X L R w) (j:Nat) {A:Option Addr}{n c e:Nat}{l:List T}{hi:Int}(hj:L[j]? = some (.ownL C A n c l e)) (h0:0≤hi) (h1:hi≤l.length):St w0 X (L.set j (.ownL C A hi.toNat c (l.take hi.toNat) e)) R w:=by
 have hn:n=l.length:=RowL.length (C:=C) (h.rowL j hj)
 have h2:=h.ownTake j hj (m:=hi.toNat) (by omega)
 have he:Ent.ownL C A hi.toNat c (l.take hi.toNat) e = .own A hi.toNat c ((encL C l).take (hi.toNat*C.size)) e C.size:=by
  show Ent.own _ _ _ (encL C (l.take hi.toNat)) _ _=_
  rw [encL_take]
 rw [he]
 exact h2
theorem op_appendZ0 {d:Option Tmp}(hd:dstAt ops i=d) {t tn ty e bytes B:Nat}{kn kq:IntKind}{x:Int}(hs:St w0 X L R w) (he:execAt ops i a=nextV (Builtin.append_ #[t,tn] ty #[.slice none 0 0,.int kq x])) (hu:P.underlying t=some (.slice e)) (hun:P.underlying tn=some (.int kn))
  (q1:szOf P e=some C.size) (q2:zeroOf P e=some (C.val C.zero)) (q3:byOf P e=some bytes) (h0:1≤x) (h1:x≤B) (hb:bytes*B≤140737488355328) (hB:B≤140737488355328)
  (k:∀ A n c w',Grow w w'→St w0 X (.ownL C A n c (List.replicate x.toNat C.zero) e::L) R w'→K (a.put d (.slice A n c)) w'):wpOp P ops (NoP Kn) i K a w:=by
 obtain ⟨ti,i1,i2,i3,i4⟩:=info_of q1 q2 q3
 obtain ⟨m,rfl⟩:=Int.eq_ofNat_of_zero_le (show (0:Int)≤x by omega)
 rw [Int.toNat_natCast] at k
 have hm:m≤B:=by omega
 have hm1:0<m:=by omega
 have hbm:m*ti.bytes≤281474976710656:=by
  have:=Nat.mul_le_mul_left bytes hm
  rw [i4,Nat.mul_comm]
  omega
 have hr:=Lib.run_append_nil_zeros (P:=P) w t tn ty e ti (C.val C.zero) kq kn hu hun i1 i2 m hm1 (by rw [i3]; exact C.pos) (by omega) hbm
 have hz:(C.val C.zero).cells.size=C.size:=by rw [C.vc,List.size_toArray,C.len]
 have hl:(Builtin.zeroCells (C.val C.zero).cells m).toList=encL C (List.replicate m C.zero):=by
  rw [← encL_rep]
  unfold Builtin.zeroCells madeCells
  rw [hz]
 have hge:=grownCap_ge w m 0 e
 have hcm:=grownCap_le_maxLen w m 0 e (by unfold maxLen; omega)
 have ho:(w.drew.alloc (.cells (Builtin.zeroCells (C.val C.zero).cells m++Builtin.zeroCells (C.val C.zero).cells (grownCap w m 0 e-m)) e)).ownsRow w.heap.size e C.size (.slice (some ⟨w.heap.size,0,none⟩) m (grownCap w m 0 e)) m (encL C (List.replicate m C.zero)):=by
  refine ⟨by rw [encL_len,List.length_replicate],.inr ⟨w.heap.size,_,_,rfl,Nat.le_refl _,heap_alloc_new w.drew _,hge,hcm,?_,?_⟩⟩
  ·simp only [Array.size_append,size_zeroCells,hz,← Nat.add_mul]
   congr 1
   omega
  ·rw [Array.toList_append,hl]
   exact List.take_left' (by rw [encL_len,List.length_replicate])
 have hg:w.grownBy (w.drew.alloc (.cells (Builtin.zeroCells (C.val C.zero).cells m++Builtin.zeroCells (C.val C.zero).cells (grownCap w m 0 e-m)) e)) none:=⟨rfl,rfl,rfl,by simp,fun q hq _=>heap_alloc_old w.drew _ hq⟩
 refine wpOp_val hd (w':=_) ?_ (k _ _ _ _ ⟨hg.os,hg.tape,hg.output,hg.size,fun q hq=>hg.block q hq (by simp)⟩ (hs.ownNew rfl ho hg))
 rw [he]
 exact run_nextV hr
def Ent.inn (C:Cod T) (H:List HS) (l:List (List T)):Ent where
 foot:=InnFoot C H l
 p:=fun w=>Inn C w H l
 loc:=fun _ _ h hp=>Inn.loc h hp
theorem St.innR (h:St w0 X L R w) (j:Nat) {H:List HS}{l:List (List T)}(hj:R[j]? = some (.inn C H l)):Inn C w H l:=(h.read _ (List.mem_of_getElem? hj)).1
theorem St.addInn0 (h:St w0 X L R w) (C:Cod T):St w0 X L (.inn C [] []::R) w:=
 ⟨h.os,h.tape,h.output,h.size,h.block,h.own,h.apart,fun e he=>by
  rcases List.mem_cons.1 he with rfl | he
  ·exact ⟨trivial,fun b hb=>hb.elim⟩
  ·exact h.read e he⟩
theorem St.setR (h:St w0 X L R w) (j:Nat) {e':Ent}(hp:e'.p w) (hf:∀ b,e'.foot b→b<w.heap.size∧∀ e2∈L,¬ e2.foot b):St w0 X L (R.set j e') w:=
 ⟨h.os,h.tape,h.output,h.size,h.block,h.own,h.apart,fun e he=>by
  rcases List.mem_or_eq_of_mem_set he with he | rfl
  ·exact h.read e he
  ·exact ⟨hp,hf⟩⟩
theorem Inn.snoc:∀ {H:List HS}{l:List (List T)}{g:HS}{x:List T},Inn C w H l→RowL C w g.1 g.2.1 g.2.2 x→Inn C w (H++[g]) (l++[x])
 | [],[],_,_,_,h2=>⟨h2,trivial⟩
 | [],_::_,_,_,h,_=>h.elim
 | _::_,[],_,_,h,_=>h.elim
 | _::_,_::_,_,_,h,h2=>⟨h.1,Inn.snoc h.2 h2⟩
theorem InnFoot.snoc:∀ {H:List HS}{l:List (List T)}{g:HS}{x:List T}{b:Nat},H.length=l.length→InnFoot C (H++[g]) (l++[x]) b→InnFoot C H l b∨(Ent.rowL C g.1 g.2.1 g.2.2 x).foot b
 | [],[],_,_,_,_,h=>h.elim .inr (fun h=>h.elim)
 | [],_::_,_,_,_,h,_=>by cases h
 | _::_,[],_,_,_,h,_=>by cases h
 | _::_,_::_,_,_,_,hl,h=>h.elim (fun h=>.inl (.inl h)) (fun h=>(InnFoot.snoc (by simpa using hl) h).elim (fun h=>.inl (.inr h)) .inr)
theorem Inn.put:∀ {H:List HS}{l:List (List T)}{g:HS}{x:List T}(m:Nat),Inn C w H l→RowL C w g.1 g.2.1 g.2.2 x→Inn C w (H.set m g) (l.set m x)
 | [],[],_,_,_,_,_=>trivial
 | [],_::_,_,_,_,h,_=>h.elim
 | _::_,[],_,_,_,h,_=>h.elim
 | _::_,_::_,_,_,0,h,h2=>⟨h2,h.2⟩
 | _::_,_::_,_,_,m+1,h,h2=>⟨h.1,Inn.put m h.2 h2⟩
theorem InnFoot.put:∀ {H:List HS}{l:List (List T)}{g:HS}{x:List T}{b:Nat}(m:Nat),InnFoot C (H.set m g) (l.set m x) b→InnFoot C H l b∨(Ent.rowL C g.1 g.2.1 g.2.2 x).foot b
 | [],[],_,_,_,_,h=>h.elim
 | [],_::_,_,_,_,_,h=>h.elim
 | _::_,[],_,_,_,_,h=>by simp [InnFoot] at h
 | _::_,_::_,_,_,_,0,h=>h.elim .inr (fun h=>.inl (.inr h))
 | _::_,_::_,_,_,_,m+1,h=>h.elim (fun h=>.inl (.inl h)) (fun h=>(InnFoot.put m h).elim (fun h=>.inl (.inr h)) .inr)
theorem St.innApp (h:St w0 X L R w) (j k:Nat) {H:List HS}{l:List (List T)}{A:Option Addr}{n c:Nat}{x:List T}(hj:R[j]? = some (.inn C H l)) (hk:R[k]? = some (.rowL C A n c x)):St w0 X L (R.set j (.inn C (H++[(A,n,c)]) (l++[x]))) w:=by
 have h1:=h.innR j hj
 have r1:=h.read _ (List.mem_of_getElem? hj)
 have r2:=h.read _ (List.mem_of_getElem? hk)
 exact h.setR j (h1.snoc r2.1) fun b hb=>(InnFoot.snoc h1.length hb).elim (r1.2 b) (r2.2 b)
theorem St.addInnI (h:St w0 X L R w) (j:Nat) {A':Option Addr}{n' c':Nat}{H:List HS}{l:List (List T)}{x:Int}(hj:R[j]? = some (.inn C H l)) (h0:0≤x) (h1:x<l.length) (hA:A'=(rdL CS H x).1) (hn:n'=(rdL CS H x).2.1) (hc:c'=(rdL CS H x).2.2):St w0 X L (.rowL C A' n' c' (rdLL l x)::R) w:=by
 subst hA hn hc
 have hp:=h.innR j hj
 obtain ⟨g1,g2⟩:=hp.get x.toNat (by omega)
 exact h.addRow g1 fun e he b hb=>((h.read _ (List.mem_of_getElem? hj)).2 b (g2 b hb)).2 e he
end
end Go.Mx

/- own -/
set_option linter.unusedSimpArgs false
set_option linter.unusedVariables false
namespace Go.Mx
open Go.RowKit
section
variable {T : Type} {C : Cod T} {P : Program} {ops : Array Oper} {K Kn : Act → World → Prop} {a : Act} {w w' : World} {i : Nat} {w0 : World} {X : List Nat} {L R : List Ent}
def Ent.known (C:Cod T) (b n:Nat) (l:List T) (e:TypeId):Ent where
 foot:=fun k=>k=b
 p:=fun w=>∃ vs:List Value,n*C.size≤(encL C l++vs).length∧w.heap[b]? = some (.cells (encL C l++vs).toArray e (0,0))
 loc:=fun _ _ h hp=>by obtain ⟨vs,h1,h2⟩:=hp; exact ⟨vs,h1,(h b rfl).trans h2⟩
theorem Inn.take:∀ {H:List HS}{l:List (List T)}(m:Nat),Inn C w H l→Inn C w (H.take m) (l.take m)∧∀ b,InnFoot C (H.take m) (l.take m) b→InnFoot C H l b
 | [],[],m,_=>by simp only [List.take_nil]; exact ⟨trivial,fun b h=>h⟩
 | [],_::_,_,h=>h.elim
 | _::_,[],_,h=>h.elim
 | _::_,_::_,0,h=>⟨trivial,fun b h=>h.elim⟩
 | _::_,_::_,m+1,h=>⟨⟨h.1,(Inn.take m h.2).1⟩,fun b hb=>hb.elim .inl (fun hb=>.inr ((Inn.take m h.2).2 b hb))⟩
theorem Inn.drop:∀ {H:List HS}{l:List (List T)}(m:Nat),Inn C w H l→Inn C w (H.drop m) (l.drop m)∧∀ b,InnFoot C (H.drop m) (l.drop m) b→InnFoot C H l b
 | [],[],m,_=>by simp only [List.drop_nil]; exact ⟨trivial,fun b h=>h⟩
 | [],_::_,_,h=>h.elim
 | _::_,[],_,h=>h.elim
 | _::_,_::_,0,h=>⟨h,fun b h=>h⟩
 | _::_,_::_,m+1,h=>⟨(Inn.drop m h.2).1,fun b hb=>.inr ((Inn.drop m h.2).2 b hb)⟩
end
end Go.Mx
