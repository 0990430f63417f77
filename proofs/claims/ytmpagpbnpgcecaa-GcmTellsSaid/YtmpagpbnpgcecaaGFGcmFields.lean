/- Printed by this work's own program: the plain forms of the functions that the laws reach. -/
import Derived.Test.YtmpagpbnpgcecaaGF0
set_option linter.unusedVariables false
set_option linter.unusedSimpArgs false
namespace Go.Proofs.Ytmpagpbnpgcecaa
open Go.Mx

def ref01_Join.l0 (K : Nat) : Nat → (List (List Int)) → Int → (List Int) → Option ((List Int))
  | 0, _, _, _ => none
  | k + 1, a0, z1, z2 => if z1 < (a0.length : Int) then (if 0 ≤ z1 then (if z1 < a0.length then (if z2.length + (rdLL a0 z1).length ≤ 140737488355328 then ((some (iadd .i64 z1 1)).bind fun x6 => ref01_Join.l0 K k a0 x6 (z2 ++ (rdLL a0 z1))) else none) else none) else none) else (some z2)

def ref01_Join.f (K : Nat) (a0 : List (List Int)) : Option ((List Int)) :=
  (ref01_Join.l0 K K a0 0 ([] : List Int)).bind fun y3 => some y3

end Go.Proofs.Ytmpagpbnpgcecaa
