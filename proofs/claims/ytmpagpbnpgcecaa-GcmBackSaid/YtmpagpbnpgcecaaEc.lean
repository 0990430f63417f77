/- Layer 10 (aes), plain laws: the program's tables are the document's. -/
import Derived.Test.YtmpagpbnpgcecaaEb
set_option linter.unusedSimpArgs false
set_option linter.unusedVariables false
set_option maxRecDepth 100000
namespace Go.Proofs.Ytmpagpbnpgcecaa
open Go Go.Mx
theorem box_list : tabs.1.toList = (List.range 256).map (fun c => ((bx c : Nat) : Int)) := by decide +kernel
theorem rd_box {c : Nat} (hc : c < 256) : rd tabs.1 (c : Int) = ((bx c : Nat) : Int) := by
  unfold rd
  rw [box_list]
  simp [List.getD_eq_getElem?_getD, hc]
end Go.Proofs.Ytmpagpbnpgcecaa
