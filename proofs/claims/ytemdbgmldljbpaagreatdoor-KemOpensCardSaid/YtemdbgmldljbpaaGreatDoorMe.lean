/- own -/
import Derived.Test.YtemdbgmldljbpaaGreatDoorMf
namespace Go.Mx
open Go.RowKit
section
variable {P : Program} {ops : Array Oper} {K Kn : Act → World → Prop} {a : Act} {w w' : World} {i : Nat} {w0 : World} {X : List Nat} {L R : List Ent}
end
end Go.Mx
