/- Own library of this work (15): a range over a function: the loop's record, its rounds, its end. -/
import Derived.Test.YtblploekkjeolaaMk
import Derived.RangeFuncIn
set_option linter.unusedSimpArgs false
set_option linter.unusedVariables false
namespace Go.Mx
open Go.RowKit
section
variable {P : Program} {ops : Array Oper} {K Kn : Act → World → Prop} {a : Act} {w w' : World} {i : Nat} {w0 : World} {X : List Nat} {L R : List Ent} {Q : Exit → Act → World → Prop}
/-! ### a round -/
/-! ### a function that holds such a loop -/
/-! ### closures -/
/-! ### a row among others in a block -/
end
end Go.Mx
