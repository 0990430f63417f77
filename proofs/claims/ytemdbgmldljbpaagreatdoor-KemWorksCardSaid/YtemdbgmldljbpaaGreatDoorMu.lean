/- own -/
import Derived.Test.YtemdbgmldljbpaaGreatDoorMn
import Derived.Test.YtemdbgmldljbpaaGreatDoorMl
import Derived.Test.YtemdbgmldljbpaaGreatDoorMj
set_option linter.unusedSimpArgs false
set_option linter.unusedVariables false
namespace Go.Mx
open Go.RowKit Go.ChangeShapes Go.WideShapes Go.ChangeAt
end Go.Mx
