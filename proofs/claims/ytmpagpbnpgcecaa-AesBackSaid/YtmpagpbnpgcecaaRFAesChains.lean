/- Printed by this work's own program: the plain forms of the functions that the laws reach. -/
import Derived.Test.YtmpagpbnpgcecaaRF0
set_option linter.unusedVariables false
set_option linter.unusedSimpArgs false
namespace Go.Proofs.Ytmpagpbnpgcecaa
open Go.Mx

def ref10_Chain.l0 (K : Nat) : Nat → Int → Int → (List Int) → Option ((List Int))
  | 0, _, _, _ => none
  | k + 1, x2, z4, z5 => if z4 < x2 then (if z5.length + ([(iconv .u8 x2)] : List Int).length ≤ 140737488355328 then ((some (iadd .i64 z4 1)).bind fun x9 => ref10_Chain.l0 K k x2 x9 (z5 ++ ([(iconv .u8 x2)] : List Int))) else none) else (some z5)

def ref10_Chain.l1 (K : Nat) : Nat → (List Int) → (Arr 256) → (List Int) → Int → (List Int) → (List Int) → Option ((List Int))
  | 0, _, _, _, _, _, _ => none
  | k + 1, y6, r10, r14, z15, z16, z17 => if z15 < (y6.length : Int) then (if 0 ≤ z15 then (if z15 ≤ (iadd .i64 z15 16) then (if (iadd .i64 z15 16) ≤ y6.length then ((ref01_Xor.f K (subL y6 z15 (iadd .i64 z15 16)) z17).bind fun r20 => (ref10_there.f K r14 r20 r10).bind fun r21 => if z16.length + r21.length ≤ 140737488355328 then ((some (iadd .i64 z15 16)).bind fun x23 => ref10_Chain.l1 K k y6 r10 r14 x23 (z16 ++ r21) r21) else none) else none) else none) else none) else (some z16)

def ref10_Chain.f (K : Nat) (a0 : List Int) (a1 : List Int) (a2 : List Int) : Option ((List Int) × Int) :=
  (ref10_Sized.f K a0).bind fun r1 => if r1 = true then (if (a1.length : Int) = 16 then (if (a2.length : Int) > 1048576 then (some (([] : List Int), 2)) else ((some (isub .i64 16 (irem .i64 (a2.length : Int) 16))).bind fun x2 => if ([] : List Int).length + a2.length ≤ 140737488355328 then ((ref10_Chain.l0 K K x2 0 (([] : List Int) ++ a2)).bind fun y6 => (ref10_boxes.f K).bind fun (r10, r11) => (ref10_keys.f K a0 r10).bind fun r14 => (ref10_Chain.l1 K K y6 r10 r14 0 ([] : List Int) a1).bind fun y18 => some (y18, 0)) else none)) else (some (([] : List Int), 14))) else (some (([] : List Int), 10))

def ref10_Unchain.l0 (K : Nat) : Nat → (List Int) → (Arr 256) → (List Int) → Int → (List Int) → (List Int) → Option ((List Int))
  | 0, _, _, _, _, _, _ => none
  | k + 1, a2, r3, r6, z7, z8, z9 => if z7 < (a2.length : Int) then (if 0 ≤ z7 then (if z7 ≤ (iadd .i64 z7 16) then (if (iadd .i64 z7 16) ≤ a2.length then ((ref10_back.f K r6 (subL a2 z7 (iadd .i64 z7 16)) r3).bind fun r12 => (ref01_Xor.f K r12 z9).bind fun r13 => if z8.length + r13.length ≤ 140737488355328 then (if 0 ≤ z7 then (if z7 ≤ (iadd .i64 z7 16) then (if (iadd .i64 z7 16) ≤ a2.length then ((some (iadd .i64 z7 16)).bind fun x16 => ref10_Unchain.l0 K k a2 r3 r6 x16 (z8 ++ r13) (subL a2 z7 (iadd .i64 z7 16))) else none) else none) else none) else none) else none) else none) else none) else (some z8)

def ref10_Unchain.l1 (K : Nat) : Nat → (List Int) → Int → Int → Option ((Unit) ⊕ ((List Int) × Int))
  | 0, _, _, _ => none
  | k + 1, y10, x18, z20 => if z20 < (y10.length : Int) then (if 0 ≤ z20 then (if z20 < y10.length then (if (iconv .i64 (rdL (CI .u8) y10 z20)) = x18 then ((some (iadd .i64 z20 1)).bind fun x21 => ref10_Unchain.l1 K k y10 x18 x21) else (some (.inr (([] : List Int), 15)))) else none) else none) else (some (.inl ()))

def ref10_Unchain.f (K : Nat) (a0 : List Int) (a1 : List Int) (a2 : List Int) : Option ((List Int) × Int) :=
  (ref10_Sized.f K a0).bind fun r1 => if r1 = true then (if (a1.length : Int) = 16 then (if (a2.length : Int) = 0 then (some (([] : List Int), 14)) else (if (irem .i64 (a2.length : Int) 16) = 0 then (if (a2.length : Int) > 1048592 then (some (([] : List Int), 2)) else ((ref10_boxes.f K).bind fun (r2, r3) => (ref10_keys.f K a0 r2).bind fun r6 => (ref10_Unchain.l0 K K a2 r3 r6 0 ([] : List Int) a1).bind fun y10 => (some (isub .i64 (y10.length : Int) 1)).bind fun x17 => if 0 ≤ x17 then (if x17 < y10.length then ((some (iconv .i64 (rdL (CI .u8) y10 x17))).bind fun x18 => if x18 < 1 then (some (([] : List Int), 15)) else (if x18 > 16 then (some (([] : List Int), 15)) else ((some (isub .i64 (y10.length : Int) x18)).bind fun x19 => (ref10_Unchain.l1 K K y10 x18 x19).bind fun t1 => (match t1 with | .inl _ => if 0 ≤ (isub .i64 (y10.length : Int) x18) then (if (isub .i64 (y10.length : Int) x18) ≤ y10.length then (some ((y10.take ((isub .i64 (y10.length : Int) x18) : Int).toNat), 0)) else none) else none | .inr r => some r)))) else none) else none)) else (some (([] : List Int), 14)))) else (some (([] : List Int), 14))) else (some (([] : List Int), 10))

end Go.Proofs.Ytmpagpbnpgcecaa
