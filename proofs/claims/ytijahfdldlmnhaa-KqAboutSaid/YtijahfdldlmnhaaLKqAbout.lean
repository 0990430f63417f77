/- Printed by this work's own program: the plain form of the law. -/
import Derived.Test.YtijahfdldlmnhaaKF0
import Derived.Test.YtijahfdldlmnhaaMr
set_option linter.unusedVariables false
namespace Go.Proofs.Ytijahfdldlmnhaa
open Go.Mx

def law25_KqAbout.l0 (K : Nat) : Nat → Int → (Arr 256) → Int → (Arr 256) → Int → Option ((Unit) ⊕ (Bool))
  | 0, _, _, _, _, _ => none
  | k + 1, x3, r4, x8, r10, z11 => if z11 < 256 then (if 0 ≤ z11 then (if z11 < 256 then ((some (rd r10 z11)).bind fun x12 => if (iconv .i64 (imin x12 (isub .i32 3329 x12))) > x8 then (some (.inr false)) else (if 0 ≤ z11 then (if z11 < 256 then (if (rd r4 z11) < 0 then (some (.inr false)) else (if 0 ≤ z11 then (if z11 < 256 then (if 0 ≤ x3 then (if (rd r4 z11) ≥ (ishl .i32 1 x3) then (some (.inr false)) else (law25_KqAbout.l0 K k x3 r4 x8 r10 (iadd .i64 z11 1))) else none) else none) else none)) else none) else none)) else none) else none) else (some (.inl ()))

def law25_KqAbout.f (K : Nat) (a0 : Arr 256) (a1 : Int) : Option (Bool) :=
  (ref25_Fit.f K a0).bind fun r2 => if r2 = true then ((some (iadd .i64 1 (iconv .i64 (irem .u8 a1 11)))).bind fun x3 => (kq_Squeeze.f K a0 x3).bind fun r4 => (kq_Widen.f K r4 x3).bind fun r6 => (kq_Squeeze.f K r6 x3).bind fun r7 => if (!(eqA r7 r4)) = true then (some false) else (if 0 ≤ x3 then (if 0 ≤ x3 then (if ¬ (ishl .i64 2 x3) = 0 then ((some (iquo .i64 (iadd .i64 3329 (ishl .i64 1 x3)) (ishl .i64 2 x3))).bind fun x8 => (kq_Widen.f K r4 x3).bind fun r9 => (kq_Sub.f K r9 a0).bind fun r10 => (law25_KqAbout.l0 K K x3 r4 x8 r10 0).bind fun t0 => (match t0 with | .inl _ => (law25_awake.f K).bind fun r13 => some r13 | .inr r => some r)) else none) else none) else none)) else ((law25_awake.f K).bind fun r14 => some r14)

def law25_KqAbout.Pure : Prop := ∀ (a0 : Arr 256), InA .i32 a0 → ∀ (a1 : Int), InR .u8 a1 → ∃ K, law25_KqAbout.f K a0 a1 = some true

end Go.Proofs.Ytijahfdldlmnhaa
