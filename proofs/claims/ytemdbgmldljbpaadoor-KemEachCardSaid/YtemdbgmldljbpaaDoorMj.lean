/- own -/
import Derived.Test.YtemdbgmldljbpaaDoorMi
set_option linter.unusedSimpArgs false
set_option linter.unusedVariables false
namespace Go.Mx
open Go.RowKit
section
variable {P : Program} {ops : Array Oper} {K Kn : Act → World → Prop} {a : Act} {w w' : World} {i : Nat} {w0 : World} {X : List Nat} {L R : List Ent} {Q : Exit → Act → World → Prop}
theorem op_inline {d:Option Tmp}(hd:dstAt ops i=d) {f:FuncId}{args:Array Value}(he:∀ w,(execAt ops i a).run P w = .ok (.enter f args) w)
  (h:∀ R':Ending→World→Prop,(∀ v w',K (a.put d v) w'→R' (.returned v) w')→Calls P f args w R'):wpOp P ops (NoP Kn) i K a w:=
 wpOp_call hd he (h (fun e w'=>∃ v,e = .returned v∧K (a.put d v) w') fun v w' hk=>⟨v,rfl,hk⟩) fun _ _ hr=>hr
end
end Go.Mx
