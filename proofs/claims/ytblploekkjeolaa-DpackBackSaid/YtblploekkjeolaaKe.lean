/- Layer 1 (bits), plain laws: the document's numbers out of bytes. -/
import Derived.Test.YtblploekkjeolaaKd
set_option linter.unusedSimpArgs false
set_option linter.unusedVariables false
namespace Go.Proofs.Ytblploekkjeolaa
open Go Go.Mx
end Go.Proofs.Ytblploekkjeolaa
