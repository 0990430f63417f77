/- Own library of this work (13): a row's arguments that are structs; tables that the row's condition tells. -/
import Derived.Test.YtmpagpbnpgcecaaMp
import Derived.Test.YtmpagpbnpgcecaaMg
import Derived.Lib.LaidTab
import Derived.LaidMore
import Derived.MakeChecks
import Derived.Stop.LaidErr
import Derived.SizedLaws
import Derived.ChangeSlices
set_option linter.unusedSimpArgs false
set_option linter.unusedVariables false
namespace Go.Mx
open Go.RowKit Go.ChangeShapes Go.WideShapes Go.ChangeAt
/-! ### lengths -/
/-! ### tables -/
end Go.Mx
