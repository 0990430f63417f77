/- Own library of this work (11): a row's arguments that are slices of numbers. -/
import Derived.Test.YtemdbgmldljbpaaDoorMt
import Derived.Test.YtemdbgmldljbpaaDoorMr
import Derived.ChangeSlices
set_option linter.unusedSimpArgs false
set_option linter.unusedVariables false
namespace Go.Mx
open Go.RowKit Go.ChangeShapes Go.WideShapes Go.ChangeAt
end Go.Mx
