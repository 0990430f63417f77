/- Own library of this work (18): a row's arguments that are structs of slices; is a slice that is read nil?; an empty literal; rows of the arguments that are told. -/
import Derived.Test.YtemdbgmldljbpaaDoorMn
import Derived.Test.YtemdbgmldljbpaaDoorMl
import Derived.Test.YtemdbgmldljbpaaDoorMj
set_option linter.unusedSimpArgs false
set_option linter.unusedVariables false
namespace Go.Mx
open Go.RowKit Go.ChangeShapes Go.WideShapes Go.ChangeAt
/-! ### a struct of slices as a row's argument -/
end Go.Mx
