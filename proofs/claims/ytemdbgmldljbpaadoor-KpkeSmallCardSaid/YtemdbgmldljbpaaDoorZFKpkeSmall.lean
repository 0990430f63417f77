/- Printed by this work's own program: the plain forms of the functions that the laws reach. -/
import Derived.Test.YtemdbgmldljbpaaDoorZF0
set_option linter.unusedVariables false
set_option linter.unusedSimpArgs false
namespace Go.Proofs.YtemdbgmldljbpaaDoor
open Go.Mx

def ref25_Fit.f (K : Nat) (a0 : Arr 256) : Option (Bool) :=
  (ref25_Below.f K a0 3329).bind fun r2 => some r2

end Go.Proofs.YtemdbgmldljbpaaDoor
