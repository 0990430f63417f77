/- own -/
import Derived.Test.YtemdbgmldljbpaaGreatDoorMj
import Derived.Test.YtemdbgmldljbpaaGreatDoorMl
set_option linter.unusedSimpArgs false
set_option linter.unusedVariables false
namespace Go.Mx
open Go.RowKit
section
variable {T : Type} {C : Cod T} {P : Program} {ops : Array Oper} {K Kn : Act → World → Prop} {a : Act} {w w' : World} {i : Nat} {w0 : World} {X : List Nat} {L R : List Ent}
theorem fold_set:∀ (l:List Value) (n off:Nat) (p z:List Value),p.length=off+n→(l.zipIdx n).foldl (fun (cs:Array Value) (q:Value × Nat)=>cs.setIfInBounds (off+q.2) q.1) (p++z).toArray=(p++(l.take z.length++z.drop l.length)).toArray
 | [],n,off,p,z,_=>by simp
 | x::l,n,off,p,[],h=>by
  have e:∀ (q:List (Value × Nat)),(∀ y∈q,p.length≤off+y.2)→q.foldl (fun (cs:Array Value) (q:Value × Nat)=>cs.setIfInBounds (off+q.2) q.1) p.toArray=p.toArray:=by
   intro q
   induction q with
   | nil=>intro _; rfl
   | cons y q ih=>
    intro hq
    have h1:p.toArray.setIfInBounds (off+y.2) y.1=p.toArray:=by
     rw [Array.setIfInBounds_eq_of_size_le]
     simpa using hq y List.mem_cons_self
    rw [List.foldl_cons,h1]
    exact ih fun y' hy'=>hq y' (List.mem_cons_of_mem _ hy')
  simp only [List.append_nil,List.length_nil,List.take_zero,List.drop_nil]
  refine e _ fun y hy=>?_
  obtain ⟨k,hk⟩:=List.mem_iff_getElem?.1 hy
  rw [List.getElem?_zipIdx] at hk
  obtain ⟨_,_,h2⟩:=Option.map_eq_some_iff.1 hk
  rw [← h2]
  simp only
  omega
 | x::l,n,off,p,y::z,h=>by
  rw [List.zipIdx_cons,List.foldl_cons]
  have h1:(p++y::z).toArray.setIfInBounds (off+n) x=((p++[x])++z).toArray:=by
   rw [← h]
   simp [List.setIfInBounds_toArray,List.set_append_right]
  simp only
  rw [h1,fold_set l (n+1) off (p++[x]) z (by simp; omega)]
  simp
theorem fill_all (len:Nat):∀ (l:List T) (m:Nat) (p z:List Value),p.length=m*C.size→z.length=l.length*C.size →
  Instr.fill (fun i=>some (i*C.size,C.size)) (p++z).toArray ((l.zipIdx m).map fun q=>(q.2,C.val q.1))=some (p++encL C l).toArray
 | [],m,p,z,_,hz=>by
  have:z=[]:=List.eq_nil_of_length_eq_zero (by simpa using hz)
  subst this
  rfl
 | x::l,m,p,z,hp,hz=>by
  rw [List.zipIdx_cons,List.map_cons]
  have hs:(C.val x).cells.size=C.size:=by rw [C.vc,List.size_toArray,C.len]
  have hzl:C.size≤z.length:=by rw [hz,List.length_cons,Nat.add_mul]; omega
  unfold Instr.fill
  have hc:¬ ((C.val x).cells.size≠C.size∨m*C.size+(C.val x).cells.size>(p++z).toArray.size):=by
   rw [hs,List.size_toArray,List.length_append]
   omega
  simp only [Bool.or_eq_true,decide_eq_true_eq,hc,if_false]
  have h1:=fold_set (C.cells x) 0 (m*C.size) p z (by omega)
  have h2:((C.val x).cells.zipIdx.foldl (fun (cs:Array Value) (q:Value × Nat)=>cs.setIfInBounds (m*C.size+q.2) q.1) (p++z).toArray)=(p++(C.cells x++z.drop C.size)).toArray:=by
   rw [C.vc]
   have e:(C.cells x).toArray.zipIdx=((C.cells x).zipIdx 0).toArray:=by simp
   rw [e,List.foldl_toArray,h1,List.take_of_length_le (by rw [C.len]; exact hzl),C.len]
  rw [h2,← List.append_assoc,fill_all len l (m+1) (p++C.cells x) (z.drop C.size) (by rw [List.length_append,C.len,hp,Nat.add_mul]; omega) (by rw [List.length_drop,hz,List.length_cons,Nat.add_mul]; omega),encL_cons,List.append_assoc]
theorem op_litL {d:Option Tmp}(hd:dstAt ops i=d) {t e len:Nat}{z:Value}{parts:Array (Nat × Value)}(l:List T) (hs:St w0 X L R w) (he:execAt ops i a=nextV (Instr.buildSlice t len parts)) (hp:parts.toList=(l.zipIdx 0).map fun q=>(q.2,C.val q.1)) (hu:P.underlying t=some (.slice e)) (hsz:szOf P e=some C.size)
  (hz:zeroOf P e=some z) (hl:l.length=len) (hlen:0<len) (hbig:len*C.size≤16777216)
  (k:∀ A n c w',Grow w w'→St w0 X (.ownL C A n c l e::L) R w'→K (a.put d (.slice A n c)) w'):wpOp P ops (NoP Kn) i K a w:=by
 refine op_lit hd l hs he hu hsz hz hl hlen hbig ?_ k
 subst hl
 rw [hp]
 have h:=fill_all (C:=C) l.length l 0 [] ((Array.range (l.length*C.size)).map (z.cells[· % z.cells.size]!)).toList (by simp) (by simp)
 rw [List.nil_append,List.nil_append,Array.toArray_toList] at h
 exact h
theorem keepB1 {b:Nat}{o:Obj}(h:w.heap[b]? = some o) (h':w'.heap[b]? = some o):Keep (fun k=>¬ k=b) w w':=fun k q hk hq=>by
 obtain rfl:k=b:=Classical.not_not.1 hk
 rw [h] at hq
 rw [h',hq]
theorem keepB2 {b:Nat}{S:Nat→Prop}{o:Obj}(h:w.heap[b]? = some o) (h':w'.heap[b]? = some o) (r:Keep (fun k=>¬ S k) w w'):Keep (fun k=>¬ (k=b∨S k)) w w':=fun k q hk hq=>by
 rcases Classical.not_not.1 hk with rfl | hs
 ·rw [h] at hq
  rw [h',hq]
 ·exact r k q (fun hn=>hn hs) hq
def ExJ (N:Act→World→Prop) (Q:Exit→Act→World→Prop):Exit→Act→World→Prop
 | .normal,a,w=>N a w
 | e,a,w=>Q e a w
theorem wp_exj {r:Option Nat}{c:Code}{Q:Exit→Act→World→Prop}{N:Act→World→Prop}(h:∀ N':Act→World→Prop,(∀ a w,N a w→N' a w)→c.wpIn (FR r) 0 P (ExJ N' Q) a w) (k:∀ a w,N a w→Q .normal a w):c.wpIn (FR r) 0 P Q a w:=
 wpIn_mono (h N fun _ _ h=>h) fun e a w hq=>by
  cases e<;>first | exact k a w hq | exact hq
theorem exj_n {Q:Exit→Act→World→Prop}{N:Act→World→Prop}(h:N a w):ExJ N Q .normal a w:=h
theorem exj_r {Q:Exit→Act→World→Prop}{N:Act→World→Prop}(h:Q .ret a w):ExJ N Q .ret a w:=h
def Ent.rowF (F:Nat→Prop) (C:Cod T) (A:Option Addr) (n c:Nat) (l:List T):Ent where
 foot:=F
 p:=fun w=>RowL C w A n c l∧∀ b,(Ent.rowL C A n c l).foot b→F b
 loc:=fun w w' h hp=>⟨(Ent.rowL C A n c l).loc w w' (fun b hb=>h b (hp.2 b hb)) hp.1,hp.2⟩
theorem St.rowF (h:St w0 X L R w) (j:Nat) {F:Nat→Prop}{A:Option Addr}{n c:Nat}{l:List T}(hj:R[j]? = some (.rowF F C A n c l)):RowL C w A n c l:=(h.read _ (List.mem_of_getElem? hj)).1.1
theorem sub_foot {A A':Option Addr}{n n' c c':Nat}{l:List T}{lo hi:Int}(hr:RowL C w A n c l) (hA:A'=if c=lo.toNat then A else adr A (lo.toNat*C.size)):∀ b,(Ent.rowL C A' n' c' (subL l lo hi)).foot b→(Ent.rowL C A n c l).foot b:=by
 rintro b ⟨hne,a,ha,rfl⟩
 have hnil:encL C l≠[]:=fun hx=>hne (by
  have hl:l.length=0:=by
   have h4:=encL_len C l
   rw [hx] at h4
   have:=C.pos
   rcases Nat.eq_zero_or_pos l.length with h5 | h5
   ·exact h5
   ·have:=Nat.mul_pos h5 this
    simp at h4
    omega
  have:l=[]:=List.eq_nil_of_length_eq_zero hl
  subst this
  simp [subL,encL])
 refine ⟨hnil,?_⟩
 rw [hA] at ha
 split at ha
 ·exact ⟨a,ha,rfl⟩
 ·obtain ⟨a0,h5,h6⟩:=Option.map_eq_some_iff.1 ha
  refine ⟨a0,h5,?_⟩
  rcases hr.2.2 with h7 | ⟨b,o,cs,T',fz,h8,_⟩
  ·exact absurd h7 hnil
  ·rw [h8] at h5
   obtain rfl:=Option.some.inj h5
   rw [← h6,add_plain]
theorem St.addF (h:St w0 X L R w) {F:Nat→Prop}{A:Option Addr}{n c:Nat}{l:List T}(hr:RowL C w A n c l) (hf:∀ b,(Ent.rowL C A n c l).foot b→F b) (e0:Ent) (he0:e0∈R) (hF:∀ b,F b→e0.foot b):St w0 X L (.rowF F C A n c l::R) w:=
 ⟨h.os,h.tape,h.output,h.size,h.block,h.own,h.apart,fun e he=>by
  rcases List.mem_cons.1 he with rfl | he
  ·exact ⟨⟨hr,hf⟩,fun b hb=>(h.read e0 he0).2 b (hF b hb)⟩
  ·exact h.read e he⟩
theorem St.addSubF (h:St w0 X L R w) (j:Nat) {F:Nat→Prop}{A A':Option Addr}{n n' c c':Nat}{l:List T}{lo hi:Int}(hj:R[j]? = some (.rowF F C A n c l)) (h0:0≤lo) (h1:lo≤hi) (h2:hi≤l.length) (hA:A'=if c=lo.toNat then A else adr A (lo.toNat*C.size)) (hn:n'=hi.toNat-lo.toNat) (hc:c'=c-lo.toNat) :
  St w0 X L (.rowF F C A' n' c' (subL l lo hi)::R) w:=by
 have hm:=List.mem_of_getElem? hj
 have hp:=(h.read _ hm).1
 exact h.addF (RowL.sub hp.1 h0 h1 h2 hA hn hc) (fun b hb=>hp.2 b (sub_foot hp.1 hA b hb)) _ hm fun _ hb=>hb
end
end Go.Mx
