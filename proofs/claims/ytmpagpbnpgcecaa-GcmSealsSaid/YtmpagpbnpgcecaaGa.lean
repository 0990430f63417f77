/- Layer 12 (gcm), plain laws: awake. -/
import Derived.Test.YtmpagpbnpgcecaaGFAesBlocks
import Derived.Test.YtmpagpbnpgcecaaGFGcmSeals
import Derived.Test.YtmpagpbnpgcecaaMp
set_option linter.unusedVariables false
set_option maxRecDepth 100000
namespace Go.Proofs.Ytmpagpbnpgcecaa
open Go Go.Mx
set_option maxHeartbeats 4000000 in
theorem awake12 : law12_awake.f 1000 = some true := by decide +kernel
end Go.Proofs.Ytmpagpbnpgcecaa
