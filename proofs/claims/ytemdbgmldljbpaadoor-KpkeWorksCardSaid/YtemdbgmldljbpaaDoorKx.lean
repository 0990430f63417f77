/- own -/
import Derived.Test.YtemdbgmldljbpaaDoorKh
set_option linter.unusedSimpArgs false
set_option linter.unusedVariables false
namespace Go.Proofs.YtemdbgmldljbpaaDoor
open Go Go.Mx
end Go.Proofs.YtemdbgmldljbpaaDoor
