/- own -/
import Derived.Test.YtemdbgmldljbpaaDoorMt
import Derived.Test.YtemdbgmldljbpaaDoorMr
import Derived.ChangeSlices
set_option linter.unusedSimpArgs false
set_option linter.unusedVariables false
namespace Go.Mx
open Go.RowKit Go.ChangeShapes Go.WideShapes Go.ChangeAt
def InL (k:IntKind) (l:List Int):Prop:=∀ x∈l,InR k x
end Go.Mx
