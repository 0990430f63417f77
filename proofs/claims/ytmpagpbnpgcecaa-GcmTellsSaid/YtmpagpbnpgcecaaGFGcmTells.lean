/- Printed by this work's own program: the plain forms of the functions that the laws reach. -/
import Derived.Test.YtmpagpbnpgcecaaGF0
set_option linter.unusedVariables false
set_option linter.unusedSimpArgs false
namespace Go.Proofs.Ytmpagpbnpgcecaa
open Go.Mx

def ref12_bit.f (K : Nat) (a0 : List Int) (a1 : Int) : Option (Int) :=
  (some (iquo .i64 a1 8)).bind fun x1 => if 0 ≤ x1 then (if x1 < a0.length then (if 0 ≤ (isub .i64 7 (irem .i64 a1 8)) then ((some (iand .u8 (ishr .u8 (rdL (CI .u8) a0 x1) (isub .i64 7 (irem .i64 a1 8))) 1)).bind fun x2 => some x2) else none) else none) else none

def ref12_Mul.l1 (K : Nat) : Nat → (List Int) → (List Int) → Int → Int → (List Int) → Option ((List Int))
  | 0, _, _, _, _, _ => none
  | k + 1, a0, a1, z2, z5, z6 => if z5 < 128 then ((some (iadd .i64 z2 z5)).bind fun x8 => if 0 ≤ x8 then (if x8 < z6.length then ((ref12_bit.f K a0 z2).bind fun r9 => (ref12_bit.f K a1 z5).bind fun r10 => (some (iadd .i64 z2 z5)).bind fun x11 => if 0 ≤ x11 then (if x11 < z6.length then ((some (ixor .u8 (rdL (CI .u8) z6 x8) (iand .u8 r9 r10))).bind fun x12 => (some (iadd .i64 z5 1)).bind fun x13 => ref12_Mul.l1 K k a0 a1 z2 x13 (wrL z6 x11 x12)) else none) else none) else none) else none) else (some z6)

def ref12_Mul.l0 (K : Nat) : Nat → (List Int) → (List Int) → Int → (List Int) → Option ((List Int))
  | 0, _, _, _, _ => none
  | k + 1, a0, a1, z2, z3 => if z2 < 128 then ((ref12_Mul.l1 K K a0 a1 z2 0 z3).bind fun y7 => (some (iadd .i64 z2 1)).bind fun x14 => ref12_Mul.l0 K k a0 a1 x14 y7) else (some z3)

def ref12_Mul.l2 (K : Nat) : Nat → Int → (List Int) → Option ((List Int))
  | 0, _, _ => none
  | k + 1, z15, z16 => if z15 ≥ 128 then (((if 0 ≤ z15 then (if z15 < z16.length then (if (rdL (CI .u8) z16 z15) = 1 then ((some (isub .i64 z15 128)).bind fun x19 => if 0 ≤ x19 then (if x19 < z16.length then ((some (isub .i64 z15 128)).bind fun x20 => if 0 ≤ x20 then (if x20 < z16.length then ((some (ixor .u8 (rdL (CI .u8) z16 x19) 1)).bind fun x21 => (some (isub .i64 z15 127)).bind fun x22 => if 0 ≤ x22 then (if x22 < (wrL z16 x20 x21).length then ((some (isub .i64 z15 127)).bind fun x23 => if 0 ≤ x23 then (if x23 < (wrL z16 x20 x21).length then ((some (ixor .u8 (rdL (CI .u8) (wrL z16 x20 x21) x22) 1)).bind fun x24 => (some (isub .i64 z15 126)).bind fun x25 => if 0 ≤ x25 then (if x25 < (wrL (wrL z16 x20 x21) x23 x24).length then ((some (isub .i64 z15 126)).bind fun x26 => if 0 ≤ x26 then (if x26 < (wrL (wrL z16 x20 x21) x23 x24).length then ((some (ixor .u8 (rdL (CI .u8) (wrL (wrL z16 x20 x21) x23 x24) x25) 1)).bind fun x27 => (some (isub .i64 z15 121)).bind fun x28 => if 0 ≤ x28 then (if x28 < (wrL (wrL (wrL z16 x20 x21) x23 x24) x26 x27).length then ((some (isub .i64 z15 121)).bind fun x29 => if 0 ≤ x29 then (if x29 < (wrL (wrL (wrL z16 x20 x21) x23 x24) x26 x27).length then ((some (ixor .u8 (rdL (CI .u8) (wrL (wrL (wrL z16 x20 x21) x23 x24) x26 x27) x28) 1)).bind fun x30 => some (wrL (wrL (wrL (wrL z16 x20 x21) x23 x24) x26 x27) x29 x30)) else none) else none) else none) else none) else none) else none) else none) else none) else none) else none) else none) else none) else none) else none) else none) else none) else (some z16)) else none) else none : Option ((List Int)))).bind fun y18 => (some (isub .i64 z15 1)).bind fun x31 => ref12_Mul.l2 K k x31 y18) else (some z16)

def ref12_Mul.l3 (K : Nat) : Nat → (List Int) → Int → (List Int) → Option ((List Int))
  | 0, _, _, _ => none
  | k + 1, y17, z33, z34 => if z33 < 128 then ((some (iquo .i64 z33 8)).bind fun x36 => if 0 ≤ x36 then (if x36 < z34.length then (if 0 ≤ z33 then (if z33 < y17.length then (if 0 ≤ (isub .i64 7 (irem .i64 z33 8)) then ((some (iquo .i64 z33 8)).bind fun x37 => if 0 ≤ x37 then (if x37 < z34.length then ((some (ior .u8 (rdL (CI .u8) z34 x36) (ishl .u8 (rdL (CI .u8) y17 z33) (isub .i64 7 (irem .i64 z33 8))))).bind fun x38 => (some (iadd .i64 z33 1)).bind fun x39 => ref12_Mul.l3 K k y17 x39 (wrL z34 x37 x38)) else none) else none) else none) else none) else none) else none) else none) else (some z34)

def ref12_Mul.f (K : Nat) (a0 : List Int) (a1 : List Int) : Option ((List Int)) :=
  if (a0.length : Int) = 16 then (if (a1.length : Int) = 16 then ((ref12_Mul.l0 K K a0 a1 0 (List.replicate (255 : Int).toNat (Cod.zero (CI .u8)))).bind fun y4 => (ref12_Mul.l2 K K 254 y4).bind fun y17 => (ref12_Mul.l3 K K y17 0 (List.replicate (16 : Int).toNat (Cod.zero (CI .u8)))).bind fun y35 => some y35) else (some ([] : List Int))) else (some ([] : List Int))

def ref12_Ghash.l0 (K : Nat) : Nat → (List Int) → (List Int) → Int → (List Int) → Option ((List Int))
  | 0, _, _, _, _ => none
  | k + 1, a0, a1, z2, z3 => if z2 < (a1.length : Int) then (if 0 ≤ z2 then (if z2 ≤ (iadd .i64 z2 16) then (if (iadd .i64 z2 16) ≤ a1.length then ((ref01_Xor.f K z3 (subL a1 z2 (iadd .i64 z2 16))).bind fun r6 => (ref12_Mul.f K r6 a0).bind fun r7 => (some (iadd .i64 z2 16)).bind fun x8 => ref12_Ghash.l0 K k a0 a1 x8 r7) else none) else none) else none) else (some z3)

def ref12_Ghash.f (K : Nat) (a0 : List Int) (a1 : List Int) : Option ((List Int)) :=
  if (a0.length : Int) = 16 then (if (irem .i64 (a1.length : Int) 16) = 0 then ((ref12_Ghash.l0 K K a0 a1 0 (List.replicate (16 : Int).toNat (Cod.zero (CI .u8)))).bind fun y4 => some y4) else (some ([] : List Int))) else (some ([] : List Int))

end Go.Proofs.Ytmpagpbnpgcecaa
