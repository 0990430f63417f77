/- Printed by this work's own program: the plain forms of the functions that the laws reach. -/
import Derived.Test.YtmpagpbnpgcecaaGF0
set_option linter.unusedVariables false
set_option linter.unusedSimpArgs false
namespace Go.Proofs.Ytmpagpbnpgcecaa
open Go.Mx



end Go.Proofs.Ytmpagpbnpgcecaa
