/- own -/
import Derived.Test.YtemdbgmldljbpaaDoorYF0
set_option linter.unusedVariables false
set_option linter.unusedSimpArgs false
namespace Go.Proofs.YtemdbgmldljbpaaDoor
open Go.Mx
end Go.Proofs.YtemdbgmldljbpaaDoor
