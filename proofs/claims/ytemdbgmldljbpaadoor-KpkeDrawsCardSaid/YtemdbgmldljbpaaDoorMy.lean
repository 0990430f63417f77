/- Own library of this work (20): parts with room, arrays out of slices and slices of arrays, copy, rows that are owned and only read. -/
import Derived.Test.YtemdbgmldljbpaaDoorMv
set_option linter.unusedSimpArgs false
set_option linter.unusedVariables false
namespace Go.Mx
open Go.RowKit
section
variable {T : Type} {C : Cod T} {P : Program} {ops : Array Oper} {K Kn : Act → World → Prop} {a : Act} {w w' : World} {i : Nat} {w0 : World} {X : List Nat} {L R : List Ent}
/-! ### a part with room -/
/-! ### an array out of a slice -/
/-! ### a block's row as a slice -/
/-! ### copy into a block's row -/
/-! ### rows that are owned, and only read -/
/-! ### rows of the world at the start -/
end
end Go.Mx
