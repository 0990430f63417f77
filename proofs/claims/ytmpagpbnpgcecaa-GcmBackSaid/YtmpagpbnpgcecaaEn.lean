/- Layer 10 (aes), plain laws: a block back is the document's. -/
import Derived.Test.YtmpagpbnpgcecaaEm
set_option linter.unusedSimpArgs false
set_option linter.unusedVariables false
set_option maxRecDepth 100000
namespace Go.Proofs.Ytmpagpbnpgcecaa
open Go Go.Mx
def bk (c : Nat) : Nat := (rd tabs.2 (c : Int)).toNat
/-! ### bytes back -/
end Go.Proofs.Ytmpagpbnpgcecaa
