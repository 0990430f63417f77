/- Layer 23 (dsamp), plain laws: awake. -/
import Derived.Test.YtppohhnfojalbaaDoorVF0
import Derived.Test.YtppohhnfojalbaaDoorVFDsampBounds
import Derived.Test.YtppohhnfojalbaaDoorMp
set_option linter.unusedVariables false
set_option maxRecDepth 100000
namespace Go.Proofs.YtppohhnfojalbaaDoor
open Go Go.Mx
set_option maxHeartbeats 4000000 in
theorem awake23 : law23_awake.f 60000 = some true := by decide +kernel
end Go.Proofs.YtppohhnfojalbaaDoor
