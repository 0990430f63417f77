/- own -/
import Derived.Test.YtemdbgmldljbpaaGreatDoorMt
import Derived.Test.YtemdbgmldljbpaaGreatDoorMr
import Derived.ChangeSlices
set_option linter.unusedSimpArgs false
set_option linter.unusedVariables false
namespace Go.Mx
open Go.RowKit Go.ChangeShapes Go.WideShapes Go.ChangeAt
def InL (k:IntKind) (l:List Int):Prop:=∀ x∈l,InR k x
theorem cell_open {w:World}{a:Addr}{v:Value}(h:w.cell? a=some v):∃ b o cs T fz,a=⟨b,o,none⟩∧w.heap[b]? = some (.cells cs T fz)∧cs[o]? = some v:=by
 have hs:=World.cell?_spot h
 obtain ⟨b,o,sp⟩:=a
 obtain rfl:sp=none:=hs
 unfold World.cell? at h
 cases hb:w.heap[b]? with
 | none=>simp [hb] at h
 | some q=>
  cases q<;>simp [hb] at h
  exact ⟨b,o,_,_,_,rfl,hb,h⟩
theorem open_row {H:Type}{enc':TypeId × Value→H}{P:Program}{w:World}{base:Nat}{held:Bool}{t e:TypeId}{k:IntKind}{A:Option Addr}{n c:Nat}{d:DataW H}{ps:List MemPlace}(ht:P.underlying t=some (.slice e)) (he:P.underlying e=some (.int k)) (hc:P.cellsOf e=1)
  (h:DataW.Trod enc' P w base (fun _=>true) held t (.slice A n c) d ps):∃ l:List Int,RowL (CI k) w A n c l∧InL k l:=by
 obtain ⟨fuel,hf⟩:=h
 rcases open_ints ht he hc hf with ⟨hcs,_⟩ | ⟨x,l,c',zs,hcs,_,hl,hm,hz,_,hcell,hwz⟩
 ·simp [Value.cells] at hcs
  obtain ⟨rfl,rfl,rfl⟩:=hcs
  exact ⟨[],RowL.nil w,fun _ h=>by cases h⟩
 ·simp [Value.cells] at hcs
  obtain ⟨rfl,rfl,rfl⟩:=hcs
  have hz':zs.length=c:=by simpa using hz
  refine ⟨zs.take n,⟨?_,⟨hl,fun h=>by cases h⟩,?_⟩,fun y hy=>inR_of_wf (hwz y (List.mem_of_mem_take hy))⟩
  ·rw [encL_len,List.length_take,Nat.min_eq_left (by omega)]
  ·by_cases h0:n=0
   ·subst h0
    exact .inl rfl
   ·right
    obtain ⟨b,o,cs,T,fz,hx,hh,hv⟩:=cell_open (hcell 0 (by omega))
    have hx':x=⟨b,o,none⟩:=by
     obtain ⟨xb,xo,xs⟩:=x
     unfold Addr.add at hx
     split at hx
     ·rename_i hsp
      simp only [Addr.mk.injEq] at hx
      simp_all
     ·simp_all
    subst hx'
    refine ⟨b,o,cs,T,fz,rfl,hh,fun j u hj=>?_⟩
    have hje:∀ (l:List Int),encL (CI k) l=l.map (Value.int k):=fun l=>by
     induction l with
     | nil=>rfl
     | cons y l ih=>rw [encL_cons,ih]; rfl
    rw [hje,List.getElem?_map] at hj
    cases hq:(zs.take n)[j]? with
    | none=>rw [hq] at hj; cases hj
    | some y=>
     rw [hq] at hj
     obtain rfl:=Option.some.inj hj
     have hjn:j<n:=by
      have:=(List.getElem?_eq_some_iff.1 hq).1
      rw [List.length_take] at this
      omega
     obtain ⟨b2,o2,cs2,T2,fz2,hx2,hh2,hv2⟩:=cell_open (hcell j (by omega))
     rw [add_plain] at hx2
     obtain ⟨rfl,rfl⟩ : b2=b∧o2=o+j:=by
      simp only [Addr.mk.injEq] at hx2
      exact ⟨hx2.1.symm,hx2.2.1.symm⟩
     rw [hh] at hh2
     obtain ⟨rfl,_,_⟩ : cs=cs2∧T=T2∧fz=fz2:=by simpa using hh2
     rw [hv2]
     rw [List.getElem?_take,if_pos hjn] at hq
     simp [List.getD_eq_getElem?_getD,hq]
end Go.Mx
