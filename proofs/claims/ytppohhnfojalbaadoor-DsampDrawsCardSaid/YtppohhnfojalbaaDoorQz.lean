/- Layer 21 (zq), plain laws: what the functions compute. -/
import Derived.Test.YtppohhnfojalbaaDoorVF0
import Derived.Test.YtppohhnfojalbaaDoorVFDsampDraws
import Derived.Test.YtppohhnfojalbaaDoorMq
set_option linter.unusedSimpArgs false
set_option linter.unusedVariables false
namespace Go.Proofs.YtppohhnfojalbaaDoor
open Go Go.Mx
end Go.Proofs.YtppohhnfojalbaaDoor
