/- Layer 10 (aes), plain laws: what the cipher makes of a byte. -/
import Derived.Test.YtmpagpbnpgcecaaEc
set_option linter.unusedSimpArgs false
set_option linter.unusedVariables false
set_option maxRecDepth 100000
namespace Go.Proofs.Ytmpagpbnpgcecaa
open Go Go.Mx
theorem aBox {c : Nat} (hc : c < 256) : aes_Box.f 1000 (c : Int) = some ((bx c : Nat) : Int) := by
  unfold aes_Box.f
  have b0 : (0 : Int) ≤ (c : Int) := by omega
  have b1 : (c : Int) < 256 := by omega
  rw [aMade]
  show (if 0 ≤ (c : Int) then (if (c : Int) < 256 then ((some (rd tabs.1 (c : Int))).bind fun x3 => some x3) else none) else none) = _
  rw [if_pos b0, if_pos b1, rd_box hc]
  rfl
end Go.Proofs.Ytmpagpbnpgcecaa
