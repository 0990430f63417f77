/- Own library of this work (17): a row's arguments that are structs of single cells, or slices of rows of numbers. -/
import Derived.Test.YtemdbgmldljbpaaDoorMk
import Derived.OpenShut
set_option linter.unusedSimpArgs false
set_option linter.unusedVariables false
namespace Go.Mx
open Go.RowKit Go.ChangeShapes Go.WideShapes Go.ChangeAt
end Go.Mx
