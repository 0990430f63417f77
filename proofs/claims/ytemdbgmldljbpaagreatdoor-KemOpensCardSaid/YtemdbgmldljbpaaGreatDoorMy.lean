/- own -/
import Derived.Test.YtemdbgmldljbpaaGreatDoorMv
set_option linter.unusedSimpArgs false
set_option linter.unusedVariables false
namespace Go.Mx
open Go.RowKit
section
variable {T : Type} {C : Cod T} {P : Program} {ops : Array Oper} {K Kn : Act → World → Prop} {a : Act} {w w' : World} {i : Nat} {w0 : World} {X : List Nat} {L R : List Ent}
theorem RowL.sub3 {A A':Option Addr}{n n' c c':Nat}{l:List T}{lo hi mx:Int}(hr:RowL C w A n c l) (h0:0≤lo) (h1:lo≤hi) (h2:hi≤mx) (h3:mx≤l.length) (hA:A'=if mx.toNat=lo.toNat then A else adr A (lo.toNat*C.size)) (hn:n'=hi.toNat-lo.toNat) (hc:c'=mx.toNat-lo.toNat) :
  RowL C w A' n' c' (subL l lo hi)∧∀ b,(Ent.rowL C A' n' c' (subL l lo hi)).foot b→(Ent.rowL C A n c l).foot b:=by
 have hnl:=hr.length
 by_cases hcl:mx.toNat=lo.toNat
 ·have e:subL l lo hi=[]:=by
   unfold subL
   exact sub_nil _ _ _ (by omega)
  rw [e]
  refine ⟨⟨by rw [encL_len,List.length_nil,Nat.zero_mul,hn,show hi.toNat-lo.toNat=0 by omega,Nat.zero_mul],⟨by omega,fun _=>by omega⟩,.inl rfl⟩,fun b hb=>absurd rfl hb.1⟩
 ·rw [if_neg hcl] at hA
  have hcc:¬ c=lo.toNat:=by have:=hr.2.1.1; omega
  have hA2:A'=if c=lo.toNat then A else adr A (lo.toNat*C.size):=by rw [if_neg hcc]; exact hA
  have h:=RowL.sub (c':=c-lo.toNat) hr h0 h1 (by omega) hA2 hn rfl
  have hf:=sub_foot (c':=c-lo.toNat) (n':=n') (hi:=hi) hr hA2
  refine ⟨⟨h.1,⟨by omega,fun hnone=>?_⟩,h.2.2⟩,hf⟩
  have:=h.2.1.2 hnone
  have:=hr.2.1.1
  omega
theorem run_bounds3 {low high:Option Value}{lo hi mx:Int}{n c:Nat}{k:IntKind}(hlo:(low=none∧lo=0)∨∃ k,low=some (.int k lo)) (hhi:∃ k,high=some (.int k hi)) (h0:0≤lo) (h1:lo≤hi) (h2:hi≤mx) (h3:mx≤c) :
  (Instr.sliceBounds true n c low high (some (.int k mx))).run P w = .ok (lo.toNat,hi.toNat,mx.toNat) w:=by
 unfold Instr.sliceBounds
 have b0:∀ code,(Instr.sliceBound (.int k mx) c code).run P w = .ok mx.toNat w:=fun code=>run_bound (by omega) (by omega)
 have b1:∀ k code,(Instr.sliceBound (.int k hi) mx.toNat code).run P w = .ok hi.toNat w:=fun k code=>run_bound (by omega) (by omega)
 have b2:∀ k code,(Instr.sliceBound (.int k lo) hi.toNat code).run P w = .ok lo.toNat w:=fun k code=>run_bound h0 (by omega)
 obtain ⟨k2,rfl⟩:=hhi
 rcases hlo with ⟨rfl,rfl⟩ | ⟨k1,rfl⟩
 ·simp [Sem.run_bind,Result.andThen,b0,b1]
 ·simp [Sem.run_bind,Result.andThen,b0,b1,b2]
theorem yld_sub3 {t e n n' c c':Nat}{A A':Option Addr}{l:List T}{low high:Option Value}{lo hi mx:Int}{k:IntKind}(hr:RowL C w A n c l) (he:execAt ops i a=nextV (Instr.sliceAt t (.slice A n c) low high (some (.int k mx)))) (hu:P.underlying t=some (.slice e)) (hs:szOf P e=some C.size)
  (hlo:(low=none∧lo=0)∨∃ k,low=some (.int k lo)) (hhi:∃ k,high=some (.int k hi)) (h0:0≤lo) (h1:lo≤hi) (h2:hi≤mx) (h3:mx≤l.length)
  (hA:A'=if mx.toNat=lo.toNat then A else adr A (lo.toNat*C.size)) (hn:n'=hi.toNat-lo.toNat) (hc:c'=mx.toNat-lo.toNat):Yld P ops Any i a w (.slice A' n' c'):=by
 refine yld fun w'=>?_
 rw [he]
 refine run_nextV ?_
 have hnl:=hr.length
 have hnc:=hr.2.1.1
 unfold Instr.sliceAt
 simp only [run_underlying hu,Sem.run_bind,Result.andThen]
 unfold Instr.slice
 simp only [run_underlying hu,Sem.run_bind,Result.andThen,run_bounds3 hlo hhi h0 h1 h2 (show mx≤(c:Int) by omega),run_sizeOf hs,Sem.run_pure,hA,hn,hc]
 rfl
theorem St.addSub3F (h:St w0 X L R w) (j:Nat) {F:Nat→Prop}{A A':Option Addr}{n n' c c':Nat}{l:List T}{lo hi mx:Int}(hj:R[j]? = some (.rowF F C A n c l)) (h0:0≤lo) (h1:lo≤hi) (h2:hi≤mx) (h3:mx≤l.length) (hA:A'=if mx.toNat=lo.toNat then A else adr A (lo.toNat*C.size)) (hn:n'=hi.toNat-lo.toNat) (hc:c'=mx.toNat-lo.toNat) :
  St w0 X L (.rowF F C A' n' c' (subL l lo hi)::R) w:=by
 have hm:=List.mem_of_getElem? hj
 have hp:=(h.read _ hm).1
 obtain ⟨g1,g2⟩:=RowL.sub3 hp.1 h0 h1 h2 h3 hA hn hc
 exact h.addF g1 (fun b hb=>hp.2 b (g2 b hb)) _ hm fun _ hb=>hb
theorem St.weaken (h:St w0 X L R w) (j:Nat) {e e':Ent}(hj:L[j]? = some e) (hp:e'.p w) (hf:∀ b,e'.foot b→e.foot b):St w0 X (L.set j e') R w:=
 h.entSet j hj rfl rfl rfl (Nat.le_refl _) (fun _ _ _=>rfl) hp fun b hb=>⟨((h.own _ (List.mem_of_getElem? hj)).2 b (hf b hb)).1,.inl (hf b hb)⟩
theorem St.ownRow (h:St w0 X L R w) (j:Nat) {A:Option Addr}{n c e:Nat}{l:List T}(hj:L[j]? = some (.ownL C A n c l e)):St w0 X (L.set j (.rowL C A n c l)) R w:=
 h.weaken j hj (h.rowL j hj) (own_foot (h.own _ (List.mem_of_getElem? hj)).1)
theorem St.addNilR (h:St w0 X L R w) (C:Cod T):St w0 X (.rowL C Option.none 0 0 ([]:List T)::L) R w:=by
 have h1:=h.addNilL C 0
 have h2:=h1.ownRow 0 rfl
 exact h2
theorem St.toR (h:St w0 X L R w) (j:Nat) {A:Option Addr}{n c:Nat}{l:List T}(hj:L[j]? = some (.rowL C A n c l)):St w0 X (L.eraseIdx j) (.rowL C A n c l::R) w:=by
 have hjm:=List.mem_of_getElem? hj
 have hd:St w0 X (L.eraseIdx j) R w:=h.drop (List.eraseIdx_sublist ..)
 refine hd.addRow (h.own _ hjm).1 fun e he b hb hb2=>?_
 rw [List.mem_iff_getElem?] at he
 obtain ⟨m,hm⟩:=he
 rw [List.getElem?_eraseIdx] at hm
 have hpw:=List.pairwise_iff_getElem.1 h.apart
 obtain ⟨hjl,hje⟩:=List.getElem?_eq_some_iff.1 hj
 split at hm
 ·obtain ⟨hml,hme⟩:=List.getElem?_eq_some_iff.1 hm
  exact hpw m j hml hjl (by omega) b (by rw [hme]; exact hb2) (by rw [hje]; exact hb)
 ·obtain ⟨hml,hme⟩:=List.getElem?_eq_some_iff.1 hm
  exact hpw j (m+1) hjl hml (by omega) b (by rw [hje]; exact hb) (by rw [hme]; exact hb2)
theorem St.promote (h:St w0 X L R w) (j:Nat) {F:Nat→Prop}{A:Option Addr}{n c:Nat}{l:List T}(hj:R[j]? = some (.rowF F C A n c l)) (hF:∀ b,F b→w0.heap.size≤b):St w0 X (.rowL C A n c l::L) [] w:=by
 obtain ⟨⟨h1,h2⟩,h3⟩:=h.read _ (List.mem_of_getElem? hj)
 refine ⟨h.os,h.tape,h.output,h.size,h.block,fun e he=>?_,.cons (fun e he b hb hb'=>(h3 b (h2 b hb)).2 e he hb') h.apart,fun _ h=>(by cases h)⟩
 rcases List.mem_cons.1 he with rfl | he
 ·exact ⟨h1,fun b hb=>⟨(h3 b (h2 b hb)).1,.inr (hF b (h2 b hb))⟩⟩
 ·exact h.own e he
theorem St.freezeF (h:St w0 [] L R w) (j:Nat) {A:Option Addr}{n c e:Nat}{l:List T}(hj:L[j]? = some (.ownL C A n c l e)):St w0 [] (L.eraseIdx j) (.rowF (Ent.rowL C A n c l).foot C A n c l::R) w∧∀ b,(Ent.rowL C A n c l).foot b→w0.heap.size≤b:=by
 have h1:=h.freeze j hj
 have hjm:=List.mem_of_getElem? hj
 refine ⟨⟨h1.os,h1.tape,h1.output,h1.size,h1.block,h1.own,h1.apart,fun e' he'=>?_⟩,fun b hb=>?_⟩
 ·rcases List.mem_cons.1 he' with rfl | he'
  ·have h2:=h1.read _ (List.mem_cons_self ..)
   exact ⟨⟨h2.1,fun _ hb=>hb⟩,h2.2⟩
  ·exact h1.read e' (List.mem_cons_of_mem _ he')
 ·have hb':(Ent.own A n c (encL C l) e C.size).foot b:=own_foot (h.own _ hjm).1 b hb
  rcases ((h.own _ hjm).2 b hb').2 with h2 | h2
  ·cases h2
  ·exact h2
end
end Go.Mx
