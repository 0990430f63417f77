/- own -/
import Derived.Test.YtemdbgmldljbpaaGreatDoorMn
import Derived.Test.YtemdbgmldljbpaaGreatDoorMl
import Derived.Test.YtemdbgmldljbpaaGreatDoorMj
set_option linter.unusedSimpArgs false
set_option linter.unusedVariables false
namespace Go.Mx
open Go.RowKit Go.ChangeShapes Go.WideShapes Go.ChangeAt
theorem sized_any {H:Type}{enc':TypeId × Value→H}{P:Program}{w:World}{base:Nat}{sp:Nat→Bool}{held:Bool}{t e:TypeId}{A:Option Addr}{n c:Nat}{d:DataW H}{ps:List MemPlace}{ts:List TypeId}{ds:List (DataW H)}{j:Nat}
  (hsz:(DataW.weightsEach P ts ds).all (· ≤ reachBytes)=true) (ht:ts[j]? = some t) (hd:ds[j]? = some d) (hu:P.underlying t=some (.slice e)) (hB:1≤P.bytesOf e)
  (h:DataW.Trod enc' P w base sp held t (.slice A n c) d ps):n≤140737488351232:=by
 obtain ⟨fuel,hf⟩:=h
 rcases DataW.trod_slice hu hf with ⟨hcs,_⟩ | ⟨a,len,cap,elems,rest,_,_,hcs,hx,_,hl,_,hlen,_⟩
 ·simp [Value.cells] at hcs
  omega
 ·simp [Value.cells] at hcs
  obtain ⟨hx,_⟩:=Prod.mk.inj hx
  subst hx
  have z:=sized_slice hsz ht hd hu
  rw [List.length_map,List.length_map] at z
  have h2:(elems.length+rest.length)*1≤(elems.length+rest.length)*P.bytesOf e:=Nat.mul_le_mul_left _ hB
  have h3:reachBytes≤140737488351232:=by decide
  omega
end Go.Mx
