/- Printed by this work's own program: the plain forms of the functions that the laws reach. -/
import Derived.Test.YtmpagpbnpgcecaaMl
set_option linter.unusedVariables false
set_option linter.unusedSimpArgs false
namespace Go.Proofs.Ytmpagpbnpgcecaa
open Go.Mx

def aes_Mul.l0 (K : Nat) : Nat → Int → Int → Int → Option (Int)
  | 0, _, _, _ => none
  | k + 1, z3, z4, z5 => if z5 = 0 then (some z3) else (((if (iand .i64 z5 1) = 1 then ((some (ixor .i64 z3 z4)).bind fun x8 => some x8) else (some z3) : Option (Int))).bind fun y7 => (some (ishl .i64 z4 1)).bind fun x9 => (some (ishr .i64 z5 1)).bind fun x10 => aes_Mul.l0 K k y7 x9 x10)

def aes_Mul.l1 (K : Nat) : Nat → Int → Int → Option (Int)
  | 0, _, _ => none
  | k + 1, z11, z12 => if z12 ≥ 8 then (((if 0 ≤ z12 then (if (iand .i64 (ishr .i64 z11 z12) 1) = 1 then (if 0 ≤ (isub .i64 z12 8) then ((some (ixor .i64 z11 (ishl .i64 283 (isub .i64 z12 8)))).bind fun x15 => some x15) else none) else (some z11)) else none : Option (Int))).bind fun y14 => (some (isub .i64 z12 1)).bind fun x16 => aes_Mul.l1 K k y14 x16) else (some z11)

def aes_Mul.f (K : Nat) (a0 : Int) (a1 : Int) : Option (Int) :=
  (some (iconv .i64 a0)).bind fun x1 => (some (iconv .i64 a1)).bind fun x2 => (aes_Mul.l0 K K 0 x1 x2).bind fun y6 => (aes_Mul.l1 K K y6 14).bind fun y13 => (some (iconv .u8 y13)).bind fun x17 => some x17

def aes_powers.f (K : Nat) : Option (Unit) :=
  some ()

def aes_stirred.l0 (K : Nat) : Nat → Int → Int → Int → Option (Int)
  | 0, _, _, _ => none
  | k + 1, z1, z2, z3 => if z3 < 4 then ((some (ior .u8 (ishl .u8 z1 1) (ishr .u8 z1 7))).bind fun x5 => (some (ixor .u8 z2 x5)).bind fun x6 => aes_stirred.l0 K k x5 x6 (iadd .i64 z3 1)) else (some z2)

def aes_stirred.f (K : Nat) (a0 : Int) : Option (Int) :=
  (aes_stirred.l0 K K a0 a0 0).bind fun y4 => (some (ixor .u8 y4 99)).bind fun x7 => some x7

def aes_made.l0 (K : Nat) : Nat → Int → Int → Int → (Arr 256) → (Arr 256) → Option ((Arr 256) × (Arr 256))
  | 0, _, _, _, _, _ => none
  | k + 1, z4, z5, z6, z7_0, z7_1 => if z6 < 255 then ((aes_stirred.f K z5).bind fun r9 => if 0 ≤ z4 then (if z4 < 256 then (if 0 ≤ r9 then (if r9 < 256 then ((aes_Mul.f K z4 3).bind fun r10 => (aes_Mul.f K z5 246).bind fun r11 => aes_made.l0 K k r10 r11 (iadd .i64 z6 1) (wr z7_0 z4 r9) (wr z7_1 r9 z4)) else none) else none) else none) else none) else (some (z7_0, z7_1))

def aes_made.f (K : Nat) : Option ((Arr 256) × (Arr 256)) :=
  (aes_powers.f K).bind fun () => (aes_made.l0 K K 1 1 0 (wr (zeroA 256) 0 99) (wr (zeroA 256) 99 0)).bind fun (y8_0, y8_1) => some (y8_0, y8_1)

def aes_Box.f (K : Nat) (a0 : Int) : Option (Int) :=
  (aes_made.f K).bind fun (r1_0, r1_1) => if 0 ≤ a0 then (if a0 < 256 then ((some (rd r1_0 a0)).bind fun x3 => some x3) else none) else none

def ref10_Mul.l0 (K : Nat) : Nat → Int → Int → Int → Int → Option (Int)
  | 0, _, _, _, _ => none
  | k + 1, z1, z2, z3, z4 => if z4 < 8 then (((((if (iand .u8 z2 1) = 1 then ((some (ixor .u8 z3 z1)).bind fun x10 => some x10) else (some z3) : Option (Int))).bind fun y9 => if z1 ≥ 128 then ((some (ishl .u8 z1 1)).bind fun x11 => (some (ixor .u8 x11 27)).bind fun x12 => (some (ishr .u8 z2 1)).bind fun x13 => some (x12, x13, y9)) else ((some (ishl .u8 z1 1)).bind fun x14 => (some (ishr .u8 z2 1)).bind fun x15 => some (x14, x15, y9)) : Option (Int × Int × Int))).bind fun (y6, y7, y8) => (some (iadd .i64 z4 1)).bind fun x16 => ref10_Mul.l0 K k y6 y7 y8 x16) else (some z3)

def ref10_Mul.f (K : Nat) (a0 : Int) (a1 : Int) : Option (Int) :=
  (ref10_Mul.l0 K K a0 a1 0 0).bind fun y5 => some y5

def ref10_inverse.l0 (K : Nat) : Nat → Int → Int → Int → Option (Int)
  | 0, _, _, _ => none
  | k + 1, z1, z2, z3 => if z3 < 7 then ((ref10_Mul.f K z1 z1).bind fun r5 => (ref10_Mul.f K z2 r5).bind fun r6 => (some (iadd .i64 z3 1)).bind fun x7 => ref10_inverse.l0 K k r5 r6 x7) else (some z2)

def ref10_inverse.f (K : Nat) (a0 : Int) : Option (Int) :=
  (ref10_inverse.l0 K K a0 1 0).bind fun y4 => some y4

def ref10_Box.l0 (K : Nat) : Nat → Int → Int → Int → Option (Int)
  | 0, _, _, _ => none
  | k + 1, r1, z2, z3 => if z3 < 5 then (if 0 ≤ z3 then (if 0 ≤ (isub .i64 8 z3) then ((some (ixor .u8 z2 (ior .u8 (ishl .u8 r1 z3) (ishr .u8 r1 (isub .i64 8 z3))))).bind fun x5 => (some (iadd .i64 z3 1)).bind fun x6 => ref10_Box.l0 K k r1 x5 x6) else none) else none) else (some z2)

def ref10_Box.f (K : Nat) (a0 : Int) : Option (Int) :=
  (ref10_inverse.f K a0).bind fun r1 => (ref10_Box.l0 K K r1 99 0).bind fun y4 => some y4

def aes_sized.f (K : Nat) (a0 : List Int) : Option (Bool) :=
  if (a0.length : Int) = 16 then (some true) else (if (a0.length : Int) = 24 then (some true) else (some ((a0.length : Int) == 32)))

def aes_wrong.f (K : Nat) (a0 : List Int) (a1 : List Int) : Option (Int) :=
  (aes_sized.f K a0).bind fun r1 => if r1 = true then (if (a1.length : Int) = 16 then (some 0) else (some 14)) else (some 10)

def aes_tables_boxed.f (K : Nat) (a0_0 : Arr 256) (a0_1 : Arr 256) (a1 : Arr 4) : Option ((Arr 4)) :=
  (some (rd a1 0)).bind fun x3 => if 0 ≤ x3 then (if x3 < 256 then ((some (rd a1 1)).bind fun x4 => if 0 ≤ x4 then (if x4 < 256 then ((some (rd a1 2)).bind fun x5 => if 0 ≤ x5 then (if x5 < 256 then ((some (rd a1 3)).bind fun x6 => if 0 ≤ x6 then (if x6 < 256 then (some (wr (wr (wr (wr (zeroA 4) 0 (rd a0_0 x3)) 1 (rd a0_0 x4)) 2 (rd a0_0 x5)) 3 (rd a0_0 x6))) else none) else none) else none) else none) else none) else none) else none) else none

def aes_word_xor.f (K : Nat) (a0 : Arr 4) (a1 : Arr 4) : Option ((Arr 4)) :=
  some (wr (wr (wr (wr (zeroA 4) 0 (ixor .u8 (rd a0 0) (rd a1 0))) 1 (ixor .u8 (rd a0 1) (rd a1 1))) 2 (ixor .u8 (rd a0 2) (rd a1 2))) 3 (ixor .u8 (rd a0 3) (rd a1 3)))

def aes_double.f (K : Nat) (a0 : Int) : Option (Int) :=
  (some (ixor .u8 (ishl .u8 a0 1) (iand .u8 27 (isub .u8 0 (ishr .u8 a0 7))))).bind fun x1 => some x1

def aes_mix.l1 (K : Nat) : Nat → Int → (Arr 16) → Int → Int → (Arr 16) → Option ((Arr 16))
  | 0, _, _, _, _, _ => none
  | k + 1, z1, z2, x5, z6, z7 => if z6 < 4 then (if 0 ≤ z6 then (if z6 < 4 then (if 0 ≤ z6 then (if z6 < 4 then ((some (irem .i64 (iadd .i64 z6 1) 4)).bind fun x9 => if 0 ≤ x9 then (if x9 < 4 then ((aes_double.f K (ixor .u8 (rd (subA 4 z2 z1) z6) (rd (subA 4 z2 z1) x9))).bind fun r10 => (some (iadd .i64 z1 z6)).bind fun x11 => if 0 ≤ x11 then (if x11 < 16 then ((some (ixor .u8 (ixor .u8 (rd (subA 4 z2 z1) z6) x5) r10)).bind fun x12 => aes_mix.l1 K k z1 z2 x5 (iadd .i64 z6 1) (wr z7 x11 x12)) else none) else none) else none) else none) else none) else none) else none) else none) else (some z7)

def aes_mix.l0 (K : Nat) : Nat → Int → (Arr 16) → Option ((Arr 16))
  | 0, _, _ => none
  | k + 1, z1, z2 => if z1 < 16 then (if 0 ≤ z1 then (if z1 ≤ (iadd .i64 z1 4) then (if (iadd .i64 z1 4) ≤ 16 then (if z1 < 16 then (if 4 ≤ ((iadd .i64 z1 4) : Int).toNat - (z1 : Int).toNat then ((some (ixor .u8 (ixor .u8 (ixor .u8 (rd (subA 4 z2 z1) 0) (rd (subA 4 z2 z1) 1)) (rd (subA 4 z2 z1) 2)) (rd (subA 4 z2 z1) 3))).bind fun x5 => (aes_mix.l1 K K z1 z2 x5 0 z2).bind fun y8 => (some (iadd .i64 z1 4)).bind fun x13 => aes_mix.l0 K k x13 y8) else none) else none) else none) else none) else none) else (some z2)

def aes_mix.f (K : Nat) (a0 : Arr 16) : Option ((Arr 16)) :=
  (aes_mix.l0 K K 0 a0).bind fun y3 => some y3

def aes_Block.f (K : Nat) (a0 : List Int) (a1 : List Int) : Option ((List Int) × Int) :=
  (aes_wrong.f K a0 a1).bind fun r1 => if r1 = 0 then (none) else (some (([] : List Int), r1))

def law10_awake.f (K : Nat) : Option (Bool) :=
  (((aes_Block.f K (List.replicate (15 : Int).toNat (Cod.zero (CI .u8))) (List.replicate (16 : Int).toNat (Cod.zero (CI .u8)))).bind fun (r4, r5) => some r5 : Option (Int))).bind fun y1 => (aes_Box.f K 0).bind fun r10 => if r10 = 99 then ((aes_Box.f K 83).bind fun r11 => if r11 = 237 then ((aes_Mul.f K 87 131).bind fun r12 => if r12 = 193 then (some (y1 == 10)) else (some false)) else (some false)) else (some false)

end Go.Proofs.Ytmpagpbnpgcecaa
