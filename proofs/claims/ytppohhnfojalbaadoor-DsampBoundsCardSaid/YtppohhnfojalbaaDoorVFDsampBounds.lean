/- Printed by this work's own program: the plain forms of the functions that the laws reach. -/
import Derived.Test.YtppohhnfojalbaaDoorVF0
set_option linter.unusedVariables false
set_option linter.unusedSimpArgs false
namespace Go.Proofs.YtppohhnfojalbaaDoor
open Go.Mx

def ref21_Fit.l0 (K : Nat) : Nat → (Arr 256) → Int → Option ((Unit) ⊕ (Bool))
  | 0, _, _ => none
  | k + 1, a0, z2 => if z2 < 256 then (if 0 ≤ z2 then (if z2 < 256 then (if (rd a0 z2) < 0 then (some (.inr false)) else (if 0 ≤ z2 then (if z2 < 256 then (if (rd a0 z2) ≥ 8380417 then (some (.inr false)) else ((some (iadd .i64 z2 1)).bind fun x3 => ref21_Fit.l0 K k a0 x3)) else none) else none)) else none) else none) else (some (.inl ()))

def ref21_Fit.f (K : Nat) (a0 : Arr 256) : Option (Bool) :=
  (ref21_Fit.l0 K K a0 0).bind fun t0 => (match t0 with | .inl _ => some true | .inr r => some r)

def ref21_Amount.f (K : Nat) (a0 : Int) : Option (Int) :=
  if a0 > 4190208 then ((some (isub .i32 8380417 a0)).bind fun x1 => some x1) else (some a0)

def ref21_Norm.l0 (K : Nat) : Nat → (Arr 256) → Int → Int → Option (Int)
  | 0, _, _, _ => none
  | k + 1, a0, z2, z3 => if z3 < 256 then (if 0 ≤ z3 then (if z3 < 256 then ((ref21_Amount.f K (rd a0 z3)).bind fun r5 => (some (imax z2 r5)).bind fun x6 => (some (iadd .i64 z3 1)).bind fun x7 => ref21_Norm.l0 K k a0 x6 x7) else none) else none) else (some z2)

def ref21_Norm.f (K : Nat) (a0 : Arr 256) : Option (Int) :=
  (ref21_Norm.l0 K K a0 0 0).bind fun y4 => some y4

end Go.Proofs.YtppohhnfojalbaaDoor
