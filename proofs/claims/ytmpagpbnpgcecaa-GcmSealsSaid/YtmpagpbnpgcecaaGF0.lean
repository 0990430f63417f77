/- Printed by this work's own program: the plain forms of the functions that the laws reach. -/
import Derived.Test.YtmpagpbnpgcecaaMd
set_option linter.unusedVariables false
set_option linter.unusedSimpArgs false
namespace Go.Proofs.Ytmpagpbnpgcecaa
open Go.Mx

def aes_Mul.l0 (K : Nat) : Nat → Int → Int → Int → Option (Int)
  | 0, _, _, _ => none
  | k + 1, z3, z4, z5 => if z5 = 0 then (some z3) else (((if (iand .i64 z5 1) = 1 then ((some (ixor .i64 z3 z4)).bind fun x8 => some x8) else (some z3) : Option (Int))).bind fun y7 => (some (ishl .i64 z4 1)).bind fun x9 => (some (ishr .i64 z5 1)).bind fun x10 => aes_Mul.l0 K k y7 x9 x10)

def aes_Mul.l1 (K : Nat) : Nat → Int → Int → Option (Int)
  | 0, _, _ => none
  | k + 1, z11, z12 => if z12 ≥ 8 then (((if 0 ≤ z12 then (if (iand .i64 (ishr .i64 z11 z12) 1) = 1 then (if 0 ≤ (isub .i64 z12 8) then ((some (ixor .i64 z11 (ishl .i64 283 (isub .i64 z12 8)))).bind fun x15 => some x15) else none) else (some z11)) else none : Option (Int))).bind fun y14 => (some (isub .i64 z12 1)).bind fun x16 => aes_Mul.l1 K k y14 x16) else (some z11)

def aes_Mul.f (K : Nat) (a0 : Int) (a1 : Int) : Option (Int) :=
  (some (iconv .i64 a0)).bind fun x1 => (some (iconv .i64 a1)).bind fun x2 => (aes_Mul.l0 K K 0 x1 x2).bind fun y6 => (aes_Mul.l1 K K y6 14).bind fun y13 => (some (iconv .u8 y13)).bind fun x17 => some x17

def aes_powers.f (K : Nat) : Option (Unit) :=
  some ()

def aes_stirred.l0 (K : Nat) : Nat → Int → Int → Int → Option (Int)
  | 0, _, _, _ => none
  | k + 1, z1, z2, z3 => if z3 < 4 then ((some (ior .u8 (ishl .u8 z1 1) (ishr .u8 z1 7))).bind fun x5 => (some (ixor .u8 z2 x5)).bind fun x6 => aes_stirred.l0 K k x5 x6 (iadd .i64 z3 1)) else (some z2)

def aes_stirred.f (K : Nat) (a0 : Int) : Option (Int) :=
  (aes_stirred.l0 K K a0 a0 0).bind fun y4 => (some (ixor .u8 y4 99)).bind fun x7 => some x7

def aes_made.l0 (K : Nat) : Nat → Int → Int → Int → (Arr 256) → (Arr 256) → Option ((Arr 256) × (Arr 256))
  | 0, _, _, _, _, _ => none
  | k + 1, z4, z5, z6, z7_0, z7_1 => if z6 < 255 then ((aes_stirred.f K z5).bind fun r9 => if 0 ≤ z4 then (if z4 < 256 then (if 0 ≤ r9 then (if r9 < 256 then ((aes_Mul.f K z4 3).bind fun r10 => (aes_Mul.f K z5 246).bind fun r11 => aes_made.l0 K k r10 r11 (iadd .i64 z6 1) (wr z7_0 z4 r9) (wr z7_1 r9 z4)) else none) else none) else none) else none) else (some (z7_0, z7_1))

def aes_made.f (K : Nat) : Option ((Arr 256) × (Arr 256)) :=
  (aes_powers.f K).bind fun () => (aes_made.l0 K K 1 1 0 (wr (zeroA 256) 0 99) (wr (zeroA 256) 99 0)).bind fun (y8_0, y8_1) => some (y8_0, y8_1)

def aes_sized.f (K : Nat) (a0 : List Int) : Option (Bool) :=
  if (a0.length : Int) = 16 then (some true) else (if (a0.length : Int) = 24 then (some true) else (some ((a0.length : Int) == 32)))

def aes_wrong.f (K : Nat) (a0 : List Int) (a1 : List Int) : Option (Int) :=
  (aes_sized.f K a0).bind fun r1 => if r1 = true then (if (a1.length : Int) = 16 then (some 0) else (some 14)) else (some 10)

def aes_tables_boxed.f (K : Nat) (a0_0 : Arr 256) (a0_1 : Arr 256) (a1 : Arr 4) : Option ((Arr 4)) :=
  (some (rd a1 0)).bind fun x3 => if 0 ≤ x3 then (if x3 < 256 then ((some (rd a1 1)).bind fun x4 => if 0 ≤ x4 then (if x4 < 256 then ((some (rd a1 2)).bind fun x5 => if 0 ≤ x5 then (if x5 < 256 then ((some (rd a1 3)).bind fun x6 => if 0 ≤ x6 then (if x6 < 256 then (some (wr (wr (wr (wr (zeroA 4) 0 (rd a0_0 x3)) 1 (rd a0_0 x4)) 2 (rd a0_0 x5)) 3 (rd a0_0 x6))) else none) else none) else none) else none) else none) else none) else none) else none

def aes_word_xor.f (K : Nat) (a0 : Arr 4) (a1 : Arr 4) : Option ((Arr 4)) :=
  some (wr (wr (wr (wr (zeroA 4) 0 (ixor .u8 (rd a0 0) (rd a1 0))) 1 (ixor .u8 (rd a0 1) (rd a1 1))) 2 (ixor .u8 (rd a0 2) (rd a1 2))) 3 (ixor .u8 (rd a0 3) (rd a1 3)))

def aes_double.f (K : Nat) (a0 : Int) : Option (Int) :=
  (some (ixor .u8 (ishl .u8 a0 1) (iand .u8 27 (isub .u8 0 (ishr .u8 a0 7))))).bind fun x1 => some x1

def aes_mix.l1 (K : Nat) : Nat → Int → (Arr 16) → Int → Int → (Arr 16) → Option ((Arr 16))
  | 0, _, _, _, _, _ => none
  | k + 1, z1, z2, x5, z6, z7 => if z6 < 4 then (if 0 ≤ z6 then (if z6 < 4 then (if 0 ≤ z6 then (if z6 < 4 then ((some (irem .i64 (iadd .i64 z6 1) 4)).bind fun x9 => if 0 ≤ x9 then (if x9 < 4 then ((aes_double.f K (ixor .u8 (rd (subA 4 z2 z1) z6) (rd (subA 4 z2 z1) x9))).bind fun r10 => (some (iadd .i64 z1 z6)).bind fun x11 => if 0 ≤ x11 then (if x11 < 16 then ((some (ixor .u8 (ixor .u8 (rd (subA 4 z2 z1) z6) x5) r10)).bind fun x12 => aes_mix.l1 K k z1 z2 x5 (iadd .i64 z6 1) (wr z7 x11 x12)) else none) else none) else none) else none) else none) else none) else none) else none) else (some z7)

def aes_mix.l0 (K : Nat) : Nat → Int → (Arr 16) → Option ((Arr 16))
  | 0, _, _ => none
  | k + 1, z1, z2 => if z1 < 16 then (if 0 ≤ z1 then (if z1 ≤ (iadd .i64 z1 4) then (if (iadd .i64 z1 4) ≤ 16 then (if z1 < 16 then (if 4 ≤ ((iadd .i64 z1 4) : Int).toNat - (z1 : Int).toNat then ((some (ixor .u8 (ixor .u8 (ixor .u8 (rd (subA 4 z2 z1) 0) (rd (subA 4 z2 z1) 1)) (rd (subA 4 z2 z1) 2)) (rd (subA 4 z2 z1) 3))).bind fun x5 => (aes_mix.l1 K K z1 z2 x5 0 z2).bind fun y8 => (some (iadd .i64 z1 4)).bind fun x13 => aes_mix.l0 K k x13 y8) else none) else none) else none) else none) else none) else (some z2)

def aes_mix.f (K : Nat) (a0 : Arr 16) : Option ((Arr 16)) :=
  (aes_mix.l0 K K 0 a0).bind fun y3 => some y3

def aes_began_s.l0 (K : Nat) : Nat → (List Int) → Int → (List (Arr 4)) → Option ((List (Arr 4)))
  | 0, _, _, _ => none
  | k + 1, ca0, z15, z17 => if z15 < (ca0.length : Int) then (if 0 ≤ z15 then (if z15 ≤ (ca0.length : Int) then (if (ca0.length : Int) ≤ ca0.length then ((some (imin 4 ((subL ca0 z15 (ca0.length : Int)).length : Int))).bind fun x21 => if 0 ≤ z15 then (if z15 ≤ (iadd .i64 z15 x21) then (if (iadd .i64 z15 x21) ≤ (iadd .i64 z15 x21) then (if (iadd .i64 z15 x21) ≤ ca0.length then (if 4 ≤ (subL ca0 z15 (iadd .i64 z15 x21)).length then (if z17.length + ([(arrL 4 (subL ca0 z15 (iadd .i64 z15 x21)))] : List (Arr 4)).length ≤ 35184372088832 then ((some (iadd .i64 z15 4)).bind fun x25 => aes_began_s.l0 K k ca0 x25 (z17 ++ ([(arrL 4 (subL ca0 z15 (iadd .i64 z15 x21)))] : List (Arr 4)))) else none) else none) else none) else none) else none) else none) else none) else none) else none) else (some z17)

def aes_began_s.l1 (K : Nat) : Nat → (Arr 256) → (Arr 256) → Int → Int → Int → (List (Arr 4)) → Option ((List (Arr 4)))
  | 0, _, _, _, _, _, _ => none
  | k + 1, r6_0, r6_1, x10, z26, z27, z29 => if z26 < (imul .i64 4 (iadd .i64 x10 7)) then ((some (isub .i64 z26 1)).bind fun x32 => if 0 ≤ x32 then (if x32 < z29.length then (((if ¬ x10 = 0 then (if (irem .i64 z26 x10) = 0 then ((aes_tables_boxed.f K r6_0 r6_1 (wr (wr (wr (wr (zeroA 4) 0 (rd (rdL (CA .u8 4 (by decide)) z29 x32) 1)) 1 (rd (rdL (CA .u8 4 (by decide)) z29 x32) 2)) 2 (rd (rdL (CA .u8 4 (by decide)) z29 x32) 3)) 3 (rd (rdL (CA .u8 4 (by decide)) z29 x32) 0))).bind fun r36 => (aes_word_xor.f K r36 (wr (zeroA 4) 0 z27)).bind fun r37 => (aes_Mul.f K z27 2).bind fun r38 => some (r38, r37)) else (if x10 = 8 then (if (irem .i64 z26 8) = 4 then ((aes_tables_boxed.f K r6_0 r6_1 (rdL (CA .u8 4 (by decide)) z29 x32)).bind fun r39 => some (z27, r39)) else (some (z27, (rdL (CA .u8 4 (by decide)) z29 x32)))) else (some (z27, (rdL (CA .u8 4 (by decide)) z29 x32))))) else none : Option (Int × (Arr 4)))).bind fun (y34, y35) => (some (isub .i64 z26 x10)).bind fun x40 => if 0 ≤ x40 then (if x40 < z29.length then ((aes_word_xor.f K (rdL (CA .u8 4 (by decide)) z29 x40) y35).bind fun r41 => if z29.length + ([r41] : List (Arr 4)).length ≤ 35184372088832 then ((some (iadd .i64 z26 1)).bind fun x44 => aes_began_s.l1 K k r6_0 r6_1 x10 x44 y34 (z29 ++ ([r41] : List (Arr 4)))) else none) else none) else none) else none) else none) else (some z29)

def aes_began_s.l3 (K : Nat) : Nat → (List (Arr 4)) → Int → Int → Int → (Arr 16) → Option ((Arr 16))
  | 0, _, _, _, _, _ => none
  | k + 1, y31, z47, x53, z56, z57 => if z56 < ((subL y31 z47 (iadd .i64 z47 x53)).length : Int) then (if 0 ≤ z56 then (if z56 < (subL y31 z47 (iadd .i64 z47 x53)).length then (if 0 ≤ (imul .i64 4 z56) then (if (imul .i64 4 z56) ≤ (16 : Int) then (if (imul .i64 4 z56) < 16 then (aes_began_s.l3 K k y31 z47 x53 (iadd .i64 z56 1) (cpA z57 (imul .i64 4 z56) ((subL (lA (rdL (CA .u8 4 (by decide)) (subL y31 z47 (iadd .i64 z47 x53)) z56)) 0 4).take ((16 : Int).toNat - ((imul .i64 4 z56) : Int).toNat)))) else none) else none) else none) else none) else none) else (some z57)

def aes_began_s.l2 (K : Nat) : Nat → (List (Arr 4)) → Int → (List (Arr 16)) → Option ((List (Arr 16)))
  | 0, _, _, _ => none
  | k + 1, y31, z47, z48 => if z47 < (y31.length : Int) then (if 0 ≤ z47 then (if z47 ≤ (y31.length : Int) then (if (y31.length : Int) ≤ y31.length then ((some (imin 4 ((subL y31 z47 (y31.length : Int)).length : Int))).bind fun x53 => if 0 ≤ z47 then (if z47 ≤ (iadd .i64 z47 x53) then (if (iadd .i64 z47 x53) ≤ (iadd .i64 z47 x53) then (if (iadd .i64 z47 x53) ≤ y31.length then ((aes_began_s.l3 K K y31 z47 x53 0 (zeroA 16)).bind fun y58 => if z48.length + ([y58] : List (Arr 16)).length ≤ 8796093022208 then ((some (iadd .i64 z47 4)).bind fun x62 => aes_began_s.l2 K k y31 x62 (z48 ++ ([y58] : List (Arr 16)))) else none) else none) else none) else none) else none) else none) else none) else none) else (some z48)

def aes_began_s.f (K : Nat) (ca0 : List Int) : Option ((Arr 256) × (Arr 256) × (List (Arr 16))) :=
  (aes_made.f K).bind fun (r6_0, r6_1) => (some (iquo .i64 (ca0.length : Int) 4)).bind fun x10 => if 0 ≤ (imul .i64 4 (iadd .i64 x10 7)) then (if (imul .i64 4 (iadd .i64 x10 7)) ≤ 35184372088832 then ((aes_began_s.l0 K K ca0 0 ([] : List (Arr 4))).bind fun y19 => (aes_began_s.l1 K K r6_0 r6_1 x10 x10 1 y19).bind fun y31 => (aes_began_s.l2 K K y31 0 ([] : List (Arr 16))).bind fun y50 => some (r6_0, r6_1, y50)) else none) else none

def aes_cipher_add_s.l0 (K : Nat) : Nat → (List (Arr 16)) → Int → Int → (Arr 16) → Option ((Arr 16))
  | 0, _, _, _, _ => none
  | k + 1, ca2, ca4, z2, z3 => if z2 < 16 then (if 0 ≤ z2 then (if z2 < 16 then ((some (rd (rdL (CA .u8 16 (by decide)) ca2 ca4) z2)).bind fun x5 => if 0 ≤ z2 then (if z2 < 16 then (if 0 ≤ z2 then (if z2 < 16 then ((some (ixor .u8 (rd z3 z2) x5)).bind fun x6 => aes_cipher_add_s.l0 K k ca2 ca4 (iadd .i64 z2 1) (wr z3 z2 x6)) else none) else none) else none) else none) else none) else none) else (some z3)

def aes_cipher_add_s.f (K : Nat) (ca0 : Arr 256) (ca1 : Arr 256) (ca2 : List (Arr 16)) (ca3 : Arr 16) (ca4 : Int) : Option ((Arr 16)) :=
  if 0 ≤ ca4 then (if ca4 < ca2.length then ((aes_cipher_add_s.l0 K K ca2 ca4 0 ca3).bind fun y4 => some y4) else none) else none

def aes_cipher_there_s.l1 (K : Nat) : Nat → (Arr 256) → (Arr 16) → Int → (Arr 16) → Option ((Arr 16))
  | 0, _, _, _, _ => none
  | k + 1, ca0, z7, z10, z11 => if z10 < 16 then ((some (irem .i64 (iadd .i64 z10 (imul .i64 4 (irem .i64 z10 4))) 16)).bind fun x13 => if 0 ≤ x13 then (if x13 < 16 then ((some (rd z7 x13)).bind fun x14 => if 0 ≤ x14 then (if x14 < 256 then (if 0 ≤ z10 then (if z10 < 16 then ((some (rd ca0 x14)).bind fun x15 => aes_cipher_there_s.l1 K k ca0 z7 (iadd .i64 z10 1) (wr z11 z10 x15)) else none) else none) else none) else none) else none) else none) else (some z11)

def aes_cipher_there_s.l0 (K : Nat) : Nat → (Arr 256) → (Arr 256) → (List (Arr 16)) → Int → Int → (Arr 16) → Option ((Arr 16))
  | 0, _, _, _, _, _, _ => none
  | k + 1, ca0, ca1, ca2, x4, z6, z7 => if z6 ≤ x4 then ((aes_cipher_there_s.l1 K K ca0 z7 0 (zeroA 16)).bind fun y12 => ((if z6 < x4 then ((aes_mix.f K y12).bind fun r17 => some r17) else (some y12) : Option ((Arr 16)))).bind fun y16 => (aes_cipher_add_s.f K ca0 ca1 ca2 y16 z6).bind fun r18 => (some (iadd .i64 z6 1)).bind fun x19 => aes_cipher_there_s.l0 K k ca0 ca1 ca2 x4 x19 r18) else (some z7)

def aes_cipher_there_s.f (K : Nat) (ca0 : Arr 256) (ca1 : Arr 256) (ca2 : List (Arr 16)) (ca3 : Arr 16) : Option ((Arr 16)) :=
  (some (isub .i64 (ca2.length : Int) 1)).bind fun x4 => (aes_cipher_add_s.f K ca0 ca1 ca2 ca3 0).bind fun r5 => (aes_cipher_there_s.l0 K K ca0 ca1 ca2 x4 1 r5).bind fun y8 => some y8

def aes_Block.f (K : Nat) (a0 : List Int) (a1 : List Int) : Option ((List Int) × Int) :=
  (aes_wrong.f K a0 a1).bind fun r1 => if r1 = 0 then (((if 16 ≤ a1.length then ((aes_began_s.f K a0).bind fun (r4, r5, r6) => (aes_cipher_there_s.f K r4 r5 r6 (arrL 16 a1)).bind fun r12 => some r12) else none : Option ((Arr 16)))).bind fun y3 => some ((subL (lA y3) 0 16), 0)) else (some (([] : List Int), r1))

def ref10_Sized.f (K : Nat) (a0 : List Int) : Option (Bool) :=
  if (a0.length : Int) = 16 then (some true) else (if (a0.length : Int) = 24 then (some true) else (some ((a0.length : Int) == 32)))

def ref10_Mul.l0 (K : Nat) : Nat → Int → Int → Int → Int → Option (Int)
  | 0, _, _, _, _ => none
  | k + 1, z1, z2, z3, z4 => if z4 < 8 then (((((if (iand .u8 z2 1) = 1 then ((some (ixor .u8 z3 z1)).bind fun x10 => some x10) else (some z3) : Option (Int))).bind fun y9 => if z1 ≥ 128 then ((some (ishl .u8 z1 1)).bind fun x11 => (some (ixor .u8 x11 27)).bind fun x12 => (some (ishr .u8 z2 1)).bind fun x13 => some (x12, x13, y9)) else ((some (ishl .u8 z1 1)).bind fun x14 => (some (ishr .u8 z2 1)).bind fun x15 => some (x14, x15, y9)) : Option (Int × Int × Int))).bind fun (y6, y7, y8) => (some (iadd .i64 z4 1)).bind fun x16 => ref10_Mul.l0 K k y6 y7 y8 x16) else (some z3)

def ref10_Mul.f (K : Nat) (a0 : Int) (a1 : Int) : Option (Int) :=
  (ref10_Mul.l0 K K a0 a1 0 0).bind fun y5 => some y5

def ref10_inverse.l0 (K : Nat) : Nat → Int → Int → Int → Option (Int)
  | 0, _, _, _ => none
  | k + 1, z1, z2, z3 => if z3 < 7 then ((ref10_Mul.f K z1 z1).bind fun r5 => (ref10_Mul.f K z2 r5).bind fun r6 => (some (iadd .i64 z3 1)).bind fun x7 => ref10_inverse.l0 K k r5 r6 x7) else (some z2)

def ref10_inverse.f (K : Nat) (a0 : Int) : Option (Int) :=
  (ref10_inverse.l0 K K a0 1 0).bind fun y4 => some y4

def ref10_Box.l0 (K : Nat) : Nat → Int → Int → Int → Option (Int)
  | 0, _, _, _ => none
  | k + 1, r1, z2, z3 => if z3 < 5 then (if 0 ≤ z3 then (if 0 ≤ (isub .i64 8 z3) then ((some (ixor .u8 z2 (ior .u8 (ishl .u8 r1 z3) (ishr .u8 r1 (isub .i64 8 z3))))).bind fun x5 => (some (iadd .i64 z3 1)).bind fun x6 => ref10_Box.l0 K k r1 x5 x6) else none) else none) else (some z2)

def ref10_Box.f (K : Nat) (a0 : Int) : Option (Int) :=
  (ref10_inverse.f K a0).bind fun r1 => (ref10_Box.l0 K K r1 99 0).bind fun y4 => some y4

def ref10_boxes.l0 (K : Nat) : Nat → Int → (Arr 256) → (Arr 256) → Option ((Arr 256) × (Arr 256))
  | 0, _, _, _ => none
  | k + 1, z5, z6, z7 => if z5 < 256 then ((ref10_Box.f K (iconv .u8 z5)).bind fun r10 => if 0 ≤ z5 then (if z5 < 256 then (if 0 ≤ r10 then (if r10 < 256 then ((some (iconv .u8 z5)).bind fun x11 => (some (iadd .i64 z5 1)).bind fun x12 => ref10_boxes.l0 K k x12 (wr z6 r10 x11) (wr z7 z5 r10)) else none) else none) else none) else none) else (some (z6, z7))

def ref10_boxes.f (K : Nat) : Option ((Arr 256) × (Arr 256)) :=
  (ref10_boxes.l0 K K 0 (zeroA 256) (zeroA 256)).bind fun (y8, y9) => some (y9, y8)

def ref01_Xor.l0 (K : Nat) : Nat → (List Int) → (List Int) → Int → (List Int) → Option ((List Int))
  | 0, _, _, _, _ => none
  | k + 1, a0, a1, z1, z2 => if z1 < (a0.length : Int) then (if z1 < (a1.length : Int) then (if 0 ≤ z1 then (if z1 < a0.length then (if 0 ≤ z1 then (if z1 < a1.length then (if z2.length + ([(ixor .u8 (rdL (CI .u8) a0 z1) (rdL (CI .u8) a1 z1))] : List Int).length ≤ 140737488355328 then ((some (iadd .i64 z1 1)).bind fun x6 => ref01_Xor.l0 K k a0 a1 x6 (z2 ++ ([(ixor .u8 (rdL (CI .u8) a0 z1) (rdL (CI .u8) a1 z1))] : List Int))) else none) else none) else none) else none) else none) else (some z2)) else (some z2)

def ref01_Xor.f (K : Nat) (a0 : List Int) (a1 : List Int) : Option ((List Int)) :=
  (ref01_Xor.l0 K K a0 a1 0 ([] : List Int)).bind fun y3 => some y3

def ref10_rows.l1 (K : Nat) : Nat → (List Int) → Int → Int → Int → (List Int) → Option ((List Int))
  | 0, _, _, _, _, _ => none
  | k + 1, a0, a1, z2, z5, z6 => if z5 < 4 then ((some (iadd .i64 (imul .i64 4 (irem .i64 (iadd .i64 (iadd .i64 z2 (imul .i64 a1 z5)) 4) 4)) z5)).bind fun x8 => if 0 ≤ x8 then (if x8 < a0.length then ((some (iadd .i64 (imul .i64 4 z2) z5)).bind fun x9 => if 0 ≤ x9 then (if x9 < z6.length then ((some (rdL (CI .u8) a0 x8)).bind fun x10 => (some (iadd .i64 z5 1)).bind fun x11 => ref10_rows.l1 K k a0 a1 z2 x11 (wrL z6 x9 x10)) else none) else none) else none) else none) else (some z6)

def ref10_rows.l0 (K : Nat) : Nat → (List Int) → Int → Int → (List Int) → Option ((List Int))
  | 0, _, _, _, _ => none
  | k + 1, a0, a1, z2, z3 => if z2 < 4 then ((ref10_rows.l1 K K a0 a1 z2 0 z3).bind fun y7 => (some (iadd .i64 z2 1)).bind fun x12 => ref10_rows.l0 K k a0 a1 x12 y7) else (some z3)

def ref10_rows.f (K : Nat) (a0 : List Int) (a1 : Int) : Option ((List Int)) :=
  (ref10_rows.l0 K K a0 a1 0 (List.replicate (16 : Int).toNat (Cod.zero (CI .u8)))).bind fun y4 => some y4

def ref10_each.l0 (K : Nat) : Nat → (List Int) → (Arr 256) → Int → (List Int) → Option ((List Int))
  | 0, _, _, _, _ => none
  | k + 1, a0, a1, z3, z4 => if z3 < 16 then (if 0 ≤ z3 then (if z3 < a0.length then ((some (rdL (CI .u8) a0 z3)).bind fun x6 => if 0 ≤ x6 then (if x6 < 256 then (if 0 ≤ z3 then (if z3 < z4.length then ((some (rd a1 x6)).bind fun x7 => (some (iadd .i64 z3 1)).bind fun x8 => ref10_each.l0 K k a0 a1 x8 (wrL z4 z3 x7)) else none) else none) else none) else none) else none) else none) else (some z4)

def ref10_each.f (K : Nat) (a0 : List Int) (a1 : Arr 256) : Option ((List Int)) :=
  (ref10_each.l0 K K a0 a1 0 (List.replicate (16 : Int).toNat (Cod.zero (CI .u8)))).bind fun y5 => some y5

def ref10_columns.l2 (K : Nat) : Nat → (List Int) → (Arr 4) → Int → Int → Int → Int → Option (Int)
  | 0, _, _, _, _, _, _ => none
  | k + 1, a0, a1, z3, z6, z9, z10 => if z10 < 4 then (if 0 ≤ z10 then (if z10 < 4 then ((some (iadd .i64 (imul .i64 4 z3) (irem .i64 (iadd .i64 z6 z10) 4))).bind fun x12 => if 0 ≤ x12 then (if x12 < a0.length then ((ref10_Mul.f K (rd a1 z10) (rdL (CI .u8) a0 x12)).bind fun r13 => (some (ixor .u8 z9 r13)).bind fun x14 => (some (iadd .i64 z10 1)).bind fun x15 => ref10_columns.l2 K k a0 a1 z3 z6 x14 x15) else none) else none) else none) else none) else (some z9)

def ref10_columns.l1 (K : Nat) : Nat → (List Int) → (Arr 4) → Int → Int → (List Int) → Option ((List Int))
  | 0, _, _, _, _, _ => none
  | k + 1, a0, a1, z3, z6, z7 => if z6 < 4 then ((ref10_columns.l2 K K a0 a1 z3 z6 0 0).bind fun y11 => (some (iadd .i64 (imul .i64 4 z3) z6)).bind fun x16 => if 0 ≤ x16 then (if x16 < z7.length then ((some (iadd .i64 z6 1)).bind fun x17 => ref10_columns.l1 K k a0 a1 z3 x17 (wrL z7 x16 y11)) else none) else none) else (some z7)

def ref10_columns.l0 (K : Nat) : Nat → (List Int) → (Arr 4) → Int → (List Int) → Option ((List Int))
  | 0, _, _, _, _ => none
  | k + 1, a0, a1, z3, z4 => if z3 < 4 then ((ref10_columns.l1 K K a0 a1 z3 0 z4).bind fun y8 => (some (iadd .i64 z3 1)).bind fun x18 => ref10_columns.l0 K k a0 a1 x18 y8) else (some z4)

def ref10_columns.f (K : Nat) (a0 : List Int) (a1 : Arr 4) : Option ((List Int)) :=
  (ref10_columns.l0 K K a0 a1 0 (List.replicate (16 : Int).toNat (Cod.zero (CI .u8)))).bind fun y5 => some y5

def ref10_there.l0 (K : Nat) : Nat → (List Int) → (Arr 256) → Int → Int → (List Int) → Option ((List Int))
  | 0, _, _, _, _, _ => none
  | k + 1, a0, a2, x2, z5, z6 => if z5 ≤ x2 then ((ref10_each.f K z6 a2).bind fun r8 => (ref10_rows.f K r8 1).bind fun r9 => ((if z5 < x2 then ((ref10_columns.f K r9 (wr (wr (wr (wr (zeroA 4) 0 2) 1 3) 2 1) 3 1)).bind fun r11 => some r11) else (some r9) : Option ((List Int)))).bind fun y10 => if 0 ≤ (imul .i64 16 z5) then (if (imul .i64 16 z5) ≤ (iadd .i64 (imul .i64 16 z5) 16) then (if (iadd .i64 (imul .i64 16 z5) 16) ≤ a0.length then ((ref01_Xor.f K y10 (subL a0 (imul .i64 16 z5) (iadd .i64 (imul .i64 16 z5) 16))).bind fun r13 => (some (iadd .i64 z5 1)).bind fun x14 => ref10_there.l0 K k a0 a2 x2 x14 r13) else none) else none) else none) else (some z6)

def ref10_there.f (K : Nat) (a0 : List Int) (a1 : List Int) (a2 : Arr 256) : Option ((List Int)) :=
  (some (isub .i64 (iquo .i64 (a0.length : Int) 16) 1)).bind fun x2 => if 0 ≤ (0 : Int) then (if (0 : Int) ≤ (16 : Int) then (if (16 : Int) ≤ a0.length then ((ref01_Xor.f K a1 (subL a0 0 16)).bind fun r4 => (ref10_there.l0 K K a0 a2 x2 1 r4).bind fun y7 => some y7) else none) else none) else none

def ref10_keys.l1 (K : Nat) : Nat → Int → Int → (List Int) → Int → (List Int) → Option ((List Int))
  | 0, _, _, _, _, _ => none
  | k + 1, x2, z5, y14, z26, z27 => if z26 < 4 then ((some (iadd .i64 (imul .i64 4 (isub .i64 z5 x2)) z26)).bind fun x29 => if 0 ≤ x29 then (if x29 < z27.length then (if 0 ≤ z26 then (if z26 < y14.length then (if z27.length + ([(ixor .u8 (rdL (CI .u8) z27 x29) (rdL (CI .u8) y14 z26))] : List Int).length ≤ 140737488355328 then ((some (iadd .i64 z26 1)).bind fun x32 => ref10_keys.l1 K k x2 z5 y14 x32 (z27 ++ ([(ixor .u8 (rdL (CI .u8) z27 x29) (rdL (CI .u8) y14 z26))] : List Int))) else none) else none) else none) else none) else none) else (some z27)

def ref10_keys.l0 (K : Nat) : Nat → (Arr 256) → Int → Int → Int → (List Int) → Option ((List Int))
  | 0, _, _, _, _, _ => none
  | k + 1, a1, x2, z4, z5, z6 => if z5 < (imul .i64 4 (iadd .i64 x2 7)) then ((some (isub .i64 (imul .i64 4 z5) 4)).bind fun x8 => if 0 ≤ x8 then (if x8 < z6.length then ((some (isub .i64 (imul .i64 4 z5) 3)).bind fun x9 => if 0 ≤ x9 then (if x9 < z6.length then ((some (isub .i64 (imul .i64 4 z5) 2)).bind fun x10 => if 0 ≤ x10 then (if x10 < z6.length then ((some (isub .i64 (imul .i64 4 z5) 1)).bind fun x11 => if 0 ≤ x11 then (if x11 < z6.length then (((if ¬ x2 = 0 then (if (irem .i64 z5 x2) = 0 then (if 0 ≤ (1 : Int) then (if (1 : Int) < ([(rdL (CI .u8) z6 x8), (rdL (CI .u8) z6 x9), (rdL (CI .u8) z6 x10), (rdL (CI .u8) z6 x11)] : List Int).length then ((some (rdL (CI .u8) ([(rdL (CI .u8) z6 x8), (rdL (CI .u8) z6 x9), (rdL (CI .u8) z6 x10), (rdL (CI .u8) z6 x11)] : List Int) 1)).bind fun x15 => if 0 ≤ x15 then (if x15 < 256 then (if 0 ≤ (2 : Int) then (if (2 : Int) < ([(rdL (CI .u8) z6 x8), (rdL (CI .u8) z6 x9), (rdL (CI .u8) z6 x10), (rdL (CI .u8) z6 x11)] : List Int).length then ((some (rdL (CI .u8) ([(rdL (CI .u8) z6 x8), (rdL (CI .u8) z6 x9), (rdL (CI .u8) z6 x10), (rdL (CI .u8) z6 x11)] : List Int) 2)).bind fun x16 => if 0 ≤ x16 then (if x16 < 256 then (if 0 ≤ (3 : Int) then (if (3 : Int) < ([(rdL (CI .u8) z6 x8), (rdL (CI .u8) z6 x9), (rdL (CI .u8) z6 x10), (rdL (CI .u8) z6 x11)] : List Int).length then ((some (rdL (CI .u8) ([(rdL (CI .u8) z6 x8), (rdL (CI .u8) z6 x9), (rdL (CI .u8) z6 x10), (rdL (CI .u8) z6 x11)] : List Int) 3)).bind fun x17 => if 0 ≤ x17 then (if x17 < 256 then (if 0 ≤ (0 : Int) then (if (0 : Int) < ([(rdL (CI .u8) z6 x8), (rdL (CI .u8) z6 x9), (rdL (CI .u8) z6 x10), (rdL (CI .u8) z6 x11)] : List Int).length then ((some (rdL (CI .u8) ([(rdL (CI .u8) z6 x8), (rdL (CI .u8) z6 x9), (rdL (CI .u8) z6 x10), (rdL (CI .u8) z6 x11)] : List Int) 0)).bind fun x18 => if 0 ≤ x18 then (if x18 < 256 then ((ref10_Mul.f K z4 2).bind fun r20 => some (r20, ([(ixor .u8 (rd a1 x15) z4), (rd a1 x16), (rd a1 x17), (rd a1 x18)] : List Int))) else none) else none) else none) else none) else none) else none) else none) else none) else none) else none) else none) else none) else none) else none) else none) else none) else (if x2 = 8 then (if (irem .i64 z5 8) = 4 then (if 0 ≤ (0 : Int) then (if (0 : Int) < ([(rdL (CI .u8) z6 x8), (rdL (CI .u8) z6 x9), (rdL (CI .u8) z6 x10), (rdL (CI .u8) z6 x11)] : List Int).length then ((some (rdL (CI .u8) ([(rdL (CI .u8) z6 x8), (rdL (CI .u8) z6 x9), (rdL (CI .u8) z6 x10), (rdL (CI .u8) z6 x11)] : List Int) 0)).bind fun x21 => if 0 ≤ x21 then (if x21 < 256 then (if 0 ≤ (1 : Int) then (if (1 : Int) < ([(rdL (CI .u8) z6 x8), (rdL (CI .u8) z6 x9), (rdL (CI .u8) z6 x10), (rdL (CI .u8) z6 x11)] : List Int).length then ((some (rdL (CI .u8) ([(rdL (CI .u8) z6 x8), (rdL (CI .u8) z6 x9), (rdL (CI .u8) z6 x10), (rdL (CI .u8) z6 x11)] : List Int) 1)).bind fun x22 => if 0 ≤ x22 then (if x22 < 256 then (if 0 ≤ (2 : Int) then (if (2 : Int) < ([(rdL (CI .u8) z6 x8), (rdL (CI .u8) z6 x9), (rdL (CI .u8) z6 x10), (rdL (CI .u8) z6 x11)] : List Int).length then ((some (rdL (CI .u8) ([(rdL (CI .u8) z6 x8), (rdL (CI .u8) z6 x9), (rdL (CI .u8) z6 x10), (rdL (CI .u8) z6 x11)] : List Int) 2)).bind fun x23 => if 0 ≤ x23 then (if x23 < 256 then (if 0 ≤ (3 : Int) then (if (3 : Int) < ([(rdL (CI .u8) z6 x8), (rdL (CI .u8) z6 x9), (rdL (CI .u8) z6 x10), (rdL (CI .u8) z6 x11)] : List Int).length then ((some (rdL (CI .u8) ([(rdL (CI .u8) z6 x8), (rdL (CI .u8) z6 x9), (rdL (CI .u8) z6 x10), (rdL (CI .u8) z6 x11)] : List Int) 3)).bind fun x24 => if 0 ≤ x24 then (if x24 < 256 then (some (z4, ([(rd a1 x21), (rd a1 x22), (rd a1 x23), (rd a1 x24)] : List Int))) else none) else none) else none) else none) else none) else none) else none) else none) else none) else none) else none) else none) else none) else none) else none) else none) else (some (z4, ([(rdL (CI .u8) z6 x8), (rdL (CI .u8) z6 x9), (rdL (CI .u8) z6 x10), (rdL (CI .u8) z6 x11)] : List Int)))) else (some (z4, ([(rdL (CI .u8) z6 x8), (rdL (CI .u8) z6 x9), (rdL (CI .u8) z6 x10), (rdL (CI .u8) z6 x11)] : List Int))))) else none : Option (Int × (List Int)))).bind fun (y13, y14) => (ref10_keys.l1 K K x2 z5 y14 0 z6).bind fun y28 => (some (iadd .i64 z5 1)).bind fun x33 => ref10_keys.l0 K k a1 x2 y13 x33 y28) else none) else none) else none) else none) else none) else none) else none) else none) else (some z6)

def ref10_keys.f (K : Nat) (a0 : List Int) (a1 : Arr 256) : Option ((List Int)) :=
  (some (iquo .i64 (a0.length : Int) 4)).bind fun x2 => if ([] : List Int).length + a0.length ≤ 140737488355328 then ((ref10_keys.l0 K K a1 x2 1 x2 (([] : List Int) ++ a0)).bind fun y7 => some y7) else none

def ref01_Same.l0 (K : Nat) : Nat → (List Int) → (List Int) → Int → Option ((Unit) ⊕ (Bool))
  | 0, _, _, _ => none
  | k + 1, a0, a1, z1 => if z1 < (a0.length : Int) then (if 0 ≤ z1 then (if z1 < a0.length then (if 0 ≤ z1 then (if z1 < a1.length then (if (rdL (CI .u8) a0 z1) = (rdL (CI .u8) a1 z1) then ((some (iadd .i64 z1 1)).bind fun x2 => ref01_Same.l0 K k a0 a1 x2) else (some (.inr false))) else none) else none) else none) else none) else (some (.inl ()))

def ref01_Same.f (K : Nat) (a0 : List Int) (a1 : List Int) : Option (Bool) :=
  if (a0.length : Int) = (a1.length : Int) then ((ref01_Same.l0 K K a0 a1 0).bind fun t0 => (match t0 with | .inl _ => some true | .inr r => some r)) else (some false)

def law12_few.l0 (K : Nat) : Nat → (List (List Int)) → Int → Option ((Unit) ⊕ (Bool))
  | 0, _, _ => none
  | k + 1, a0, z1 => if z1 < (a0.length : Int) then (if 0 ≤ z1 then (if z1 < a0.length then (if ((rdLL a0 z1).length : Int) > 100 then (some (.inr false)) else (law12_few.l0 K k a0 (iadd .i64 z1 1))) else none) else none) else (some (.inl ()))

def law12_few.f (K : Nat) (a0 : List (List Int)) : Option (Bool) :=
  (law12_few.l0 K K a0 0).bind fun t0 => (match t0 with | .inl _ => some true | .inr r => some r)

def gcm_sized.f (K : Nat) (a0 : List Int) : Option (Bool) :=
  if (a0.length : Int) = 16 then (some true) else (if (a0.length : Int) = 24 then (some true) else (some ((a0.length : Int) == 32)))

def slices_Clone_byte_byte.f (K : Nat) (a0 : List Int) : Option ((List Int)) :=
  if (a0).isEmpty = true then (some ([] : List Int)) else (if ([] : List Int).length + a0.length ≤ 140737488355328 then (some (([] : List Int) ++ a0)) else none)

def bits_Xor.l0 (K : Nat) : Nat → (List Int) → (List Int) → Int → (List Int) → Option ((List Int))
  | 0, _, _, _, _ => none
  | k + 1, a1, r2, z3, z4 => if z3 < (r2.length : Int) then (if 0 ≤ z3 then (if z3 < z4.length then (if 0 ≤ z3 then (if z3 < a1.length then (if 0 ≤ z3 then (if z3 < z4.length then ((some (ixor .u8 (rdL (CI .u8) z4 z3) (rdL (CI .u8) a1 z3))).bind fun x6 => bits_Xor.l0 K k a1 r2 (iadd .i64 z3 1) (wrL z4 z3 x6)) else none) else none) else none) else none) else none) else none) else (some z4)

def bits_Xor.f (K : Nat) (a0 : List Int) (a1 : List Int) : Option ((List Int)) :=
  if 0 ≤ (0 : Int) then (if (0 : Int) ≤ (imin (a0.length : Int) (a1.length : Int)) then (if (imin (a0.length : Int) (a1.length : Int)) ≤ a0.length then ((slices_Clone_byte_byte.f K (subL a0 0 (imin (a0.length : Int) (a1.length : Int)))).bind fun r2 => (bits_Xor.l0 K K a1 r2 0 r2).bind fun y5 => some y5) else none) else none) else none

def slices_Concat_byte_byte.l0 (K : Nat) : Nat → (List (List Int)) → Int → Int → Option (Int)
  | 0, _, _, _ => none
  | k + 1, a0, z1, z2 => if z2 < (a0.length : Int) then (if 0 ≤ z2 then (if z2 < a0.length then ((some (iadd .i64 z1 ((rdLL a0 z2).length : Int))).bind fun x5 => if x5 < 0 then (none) else (slices_Concat_byte_byte.l0 K k a0 x5 (iadd .i64 z2 1))) else none) else none) else (some z1)

def slices_Concat_byte_byte.l1 (K : Nat) : Nat → (List (List Int)) → Int → (List Int) → Option ((List Int))
  | 0, _, _, _ => none
  | k + 1, a0, z9, z10 => if z9 < (a0.length : Int) then (if 0 ≤ z9 then (if z9 < a0.length then (if z10.length + (rdLL a0 z9).length ≤ 140737488355328 then (slices_Concat_byte_byte.l1 K k a0 (iadd .i64 z9 1) (z10 ++ (rdLL a0 z9))) else none) else none) else none) else (some z10)

def slices_Concat_byte_byte.f (K : Nat) (a0 : List (List Int)) : Option ((List Int)) :=
  (slices_Concat_byte_byte.l0 K K a0 0 0).bind fun y3 => if y3 < 0 then (none) else ((((some (isub .i64 y3 0)).bind fun x7 => if x7 > 0 then (if 1 ≤ x7 then (if x7 ≤ 140737488355328 then (if 0 ≤ (0 : Int) then (if (0 : Int) ≤ (List.replicate (x7 : Int).toNat (Cod.zero (CI .u8))).length then (some ((List.replicate (x7 : Int).toNat (Cod.zero (CI .u8))).take (0 : Int).toNat)) else none) else none) else none) else none) else (some ([] : List Int)) : Option ((List Int)))).bind fun y6 => (slices_Concat_byte_byte.l1 K K a0 0 y6).bind fun y11 => some y11)

def bits_Join.f (K : Nat) (a0 : List (List Int)) : Option ((List Int)) :=
  (slices_Concat_byte_byte.f K a0).bind fun r1 => some r1

def bits_Le.l0 (K : Nat) : Nat → Int → Int → Int → (List Int) → Option ((List Int))
  | 0, _, _, _, _ => none
  | k + 1, a0, a1, z2, z3 => if z2 < (imin a1 8) then (if 0 ≤ (imul .i64 8 z2) then (if 0 ≤ z2 then (if z2 < z3.length then ((some (iconv .u8 (ishr .u64 a0 (imul .i64 8 z2)))).bind fun x5 => bits_Le.l0 K k a0 a1 (iadd .i64 z2 1) (wrL z3 z2 x5)) else none) else none) else none) else (some z3)

def bits_Le.f (K : Nat) (a0 : Int) (a1 : Int) : Option ((List Int)) :=
  if a1 < 0 then (some ([] : List Int)) else (if a1 > 65536 then (some ([] : List Int)) else (if 0 ≤ a1 then (if a1 ≤ 140737488355328 then ((bits_Le.l0 K K a0 a1 0 (List.replicate (a1 : Int).toNat (Cod.zero (CI .u8)))).bind fun y4 => some y4) else none) else none))

def slices_Reverse_byte_byte_s.l0 (K : Nat) : Nat → Int → Int → (List Int) → Option ((List Int))
  | 0, _, _, _ => none
  | k + 1, z3, z4, z5 => if z3 < z4 then (if 0 ≤ z4 then (if z4 < z5.length then (if 0 ≤ z3 then (if z3 < z5.length then (if 0 ≤ z3 then (if z3 < z5.length then ((some (rdL (CI .u8) z5 z4)).bind fun x7 => if 0 ≤ z4 then (if z4 < (wrL z5 z3 x7).length then ((some (rdL (CI .u8) z5 z3)).bind fun x8 => (some (iadd .i64 z3 1)).bind fun x9 => (some (isub .i64 z4 1)).bind fun x10 => slices_Reverse_byte_byte_s.l0 K k x9 x10 (wrL (wrL z5 z3 x7) z4 x8)) else none) else none) else none) else none) else none) else none) else none) else none) else (some z5)

def slices_Reverse_byte_byte_s.f (K : Nat) (ca0 : List Int) : Option ((List Int)) :=
  (some (isub .i64 (ca0.length : Int) 1)).bind fun x2 => (slices_Reverse_byte_byte_s.l0 K K 0 x2 ca0).bind fun y6 => some y6

def bits_Be.f (K : Nat) (a0 : Int) (a1 : Int) : Option ((List Int)) :=
  (bits_Le.f K a0 a1).bind fun r1 => (slices_Reverse_byte_byte_s.f K r1).bind fun r2 => some r2

def gcm_stream.l0 (K : Nat) : Nat → (List Int) → (List Int) → Int → (List Int) → (List Int) → (List Int) → Option (((List Int)) ⊕ ((List Int) × (List Int) × (List Int)))
  | 0, _, _, _, _, _, _ => none
  | k + 1, a0, a1, z14, z15, z19, z20 => (bits_Be.f K z14 4).bind fun r25 => (bits_Join.f K ([a1, r25] : List (List Int))).bind fun r27 => (aes_Block.f K a0 r27).bind fun (r28, r29) => ((if (z19).isEmpty = true then (if ¬ (r28).isEmpty = true then (some (z15, r28, z20)) else none) else ((some (imin 16 (z20.length : Int))).bind fun x36 => ((if 0 ≤ (0 : Int) then (if (0 : Int) ≤ x36 then (if x36 ≤ z20.length then ((bits_Xor.f K (subL z20 0 x36) r28).bind fun r42 => if z15.length + r42.length ≤ 140737488355328 then (if 0 ≤ x36 then (if x36 ≤ (z20.length : Int) then (if (z20.length : Int) ≤ z20.length then (some ((z15 ++ r42), (subL z20 x36 (z20.length : Int)))) else none) else none) else none) else none) else none) else none) else none : Option ((List Int) × (List Int)))).bind fun (y37, y40) => some (y37, z19, y40)) : Option ((List Int) × (List Int) × (List Int)))).bind fun (y30, y34, y35) => if (y35.length : Int) = 0 then (some (.inr (y30, y34, y35))) else ((some (iadd .u64 z14 1)).bind fun x51 => gcm_stream.l0 K k a0 a1 x51 y30 y34 y35)

def gcm_stream.f (K : Nat) (a0 : List Int) (a1 : List Int) (a2 : List Int) : Option ((List Int) × (List Int)) :=
  if 0 ≤ (iadd .i64 (a2.length : Int) 16) then (if (iadd .i64 (a2.length : Int) 16) ≤ 140737488355328 then ((((gcm_stream.l0 K K a0 a1 1 ([] : List Int) ([] : List Int) a2).bind fun t0 => (match t0 with | .inl y21 => some (y21, ([] : List Int), a2) | .inr r => some r) : Option ((List Int) × (List Int) × (List Int)))).bind fun (y6, y10, y11) => ((some () : Option (Unit))).bind fun _ => some (y6, y10)) else none) else none

def bits_Num.l0 (K : Nat) : Nat → (List Int) → Int → Int → Option (Int)
  | 0, _, _, _ => none
  | k + 1, a0, z1, z2 => if z2 < (a0.length : Int) then (if 0 ≤ z2 then (if z2 < a0.length then ((some (rdL (CI .u8) a0 z2)).bind fun x4 => (some (ior .u64 (ishl .u64 z1 8) (iconv .u64 x4))).bind fun x5 => bits_Num.l0 K k a0 x5 (iadd .i64 z2 1)) else none) else none) else (some z1)

def bits_Num.f (K : Nat) (a0 : List Int) : Option (Int) :=
  (bits_Num.l0 K K a0 0 0).bind fun y3 => some y3

def gcm_read.f (K : Nat) (a0 : List Int) : Option (Int × Int) :=
  if 0 ≤ (0 : Int) then (if (0 : Int) ≤ (8 : Int) then (if (8 : Int) ≤ a0.length then (if 0 ≤ (8 : Int) then (if (8 : Int) ≤ (16 : Int) then (if (16 : Int) ≤ a0.length then ((bits_Num.f K (subL a0 0 8)).bind fun r4 => (bits_Num.f K (subL a0 8 16)).bind fun r5 => some (r4, r5)) else none) else none) else none) else none) else none) else none

def gcm_element_bytes.f (K : Nat) (a0_0 : Int) (a0_1 : Int) : Option ((List Int)) :=
  (bits_Be.f K a0_0 8).bind fun r2 => (bits_Be.f K a0_1 8).bind fun r3 => (bits_Join.f K ([r2, r3] : List (List Int))).bind fun r5 => some r5

def gcm_element_xor.f (K : Nat) (a0_0 : Int) (a0_1 : Int) (a1_0 : Int) (a1_1 : Int) : Option (Int × Int) :=
  some ((ixor .u64 a0_0 a1_0), (ixor .u64 a0_1 a1_1))

def gcm_element_next.f (K : Nat) (a0_0 : Int) (a0_1 : Int) : Option (Int × Int) :=
  (some (isub .u64 0 (iand .u64 a0_1 1))).bind fun x3 => some ((ixor .u64 (ishr .u64 a0_0 1) (iand .u64 16212958658533785600 x3)), (ior .u64 (ishr .u64 a0_1 1) (ishl .u64 a0_0 63)))

def gcm_element_times.l0 (K : Nat) : Nat → Int → Int → Int → Int → Int → Int → Int → Option (Int × Int × Int × Int)
  | 0, _, _, _, _, _, _, _ => none
  | k + 1, a0_0, a0_1, z5, z6_0, z6_1, z7_0, z7_1 => if z5 < 128 then (((if z5 ≥ 64 then (some a0_1) else (some a0_0) : Option (Int))).bind fun y10 => ((if 0 ≤ (isub .i64 63 (irem .i64 z5 64)) then (if (iand .u64 (ishr .u64 y10 (isub .i64 63 (irem .i64 z5 64))) 1) = 1 then ((gcm_element_xor.f K z6_0 z6_1 z7_0 z7_1).bind fun (r12_0, r12_1) => some (r12_0, r12_1)) else (some (z6_0, z6_1))) else none : Option (Int × Int))).bind fun (y11_0, y11_1) => (gcm_element_next.f K z7_0 z7_1).bind fun (r13_0, r13_1) => gcm_element_times.l0 K k a0_0 a0_1 (iadd .i64 z5 1) y11_0 y11_1 r13_0 r13_1) else (some (z6_0, z6_1, z7_0, z7_1))

def gcm_element_times.f (K : Nat) (a0_0 : Int) (a0_1 : Int) (a1_0 : Int) (a1_1 : Int) : Option (Int × Int) :=
  (gcm_element_times.l0 K K a0_0 a0_1 0 0 0 a1_0 a1_1).bind fun (y8_0, y8_1, y9_0, y9_1) => some (y8_0, y8_1)

def gcm_summer_add.l0 (K : Nat) : Nat → Int → Int → Int → Int → (List Int) → Option (Int × Int × Int × Int)
  | 0, _, _, _, _, _ => none
  | k + 1, z1_0_0, z1_0_1, z1_1_0, z1_1_1, z2 => if (z2.length : Int) > 0 then ((some ((min z2.length ((16 : Int).toNat - (0 : Int).toNat) : Nat) : Int)).bind fun x5 => (gcm_read.f K (subL (lA (cpA (zeroA 16) 0 (z2.take ((16 : Int).toNat - (0 : Int).toNat)))) 0 16)).bind fun (r6_0, r6_1) => (gcm_element_xor.f K z1_1_0 z1_1_1 r6_0 r6_1).bind fun (r7_0, r7_1) => (gcm_element_times.f K r7_0 r7_1 z1_0_0 z1_0_1).bind fun (r8_0, r8_1) => if 0 ≤ x5 then (if x5 ≤ (z2.length : Int) then (if (z2.length : Int) ≤ z2.length then (gcm_summer_add.l0 K k z1_0_0 z1_0_1 r8_0 r8_1 (subL z2 x5 (z2.length : Int))) else none) else none) else none) else (some (z1_0_0, z1_0_1, z1_1_0, z1_1_1))

def gcm_summer_add.f (K : Nat) (a0_0_0 : Int) (a0_0_1 : Int) (a0_1_0 : Int) (a0_1_1 : Int) (a1 : List Int) : Option (Int × Int × Int × Int) :=
  (gcm_summer_add.l0 K K a0_0_0 a0_0_1 a0_1_0 a0_1_1 a1).bind fun (y3_0_0, y3_0_1, y3_1_0, y3_1_1) => some (y3_0_0, y3_0_1, y3_1_0, y3_1_1)

def gcm_summer_add_s.l0 (K : Nat) : Nat → Int → Int → Int → Int → (List Int) → Option (Int × Int × Int × Int)
  | 0, _, _, _, _, _ => none
  | k + 1, z2_0_0, z2_0_1, z2_1_0, z2_1_1, z3 => if (z3.length : Int) > 0 then ((some ((min z3.length ((16 : Int).toNat - (0 : Int).toNat) : Nat) : Int)).bind fun x6 => (gcm_read.f K (subL (lA (cpA (zeroA 16) 0 (z3.take ((16 : Int).toNat - (0 : Int).toNat)))) 0 16)).bind fun (r7_0, r7_1) => (gcm_element_xor.f K z2_1_0 z2_1_1 r7_0 r7_1).bind fun (r8_0, r8_1) => (gcm_element_times.f K r8_0 r8_1 z2_0_0 z2_0_1).bind fun (r9_0, r9_1) => if 0 ≤ x6 then (if x6 ≤ (z3.length : Int) then (if (z3.length : Int) ≤ z3.length then (gcm_summer_add_s.l0 K k z2_0_0 z2_0_1 r9_0 r9_1 (subL z3 x6 (z3.length : Int))) else none) else none) else none) else (some (z2_0_0, z2_0_1, z2_1_0, z2_1_1))

def gcm_summer_add_s.f (K : Nat) (ca0 : Int) (ca1 : Int) (ca2 : Int) (ca3 : Int) (ca4 : List Int) : Option (Int × Int × Int × Int) :=
  (gcm_summer_add_s.l0 K K ca0 ca1 ca2 ca3 ca4).bind fun (y4_0_0, y4_0_1, y4_1_0, y4_1_1) => some (y4_0_0, y4_0_1, y4_1_0, y4_1_1)

def gcm_tag.l0 (K : Nat) : Nat → Int → Int → Int → Int → (List Int) → Option (Int × Int × Int × Int)
  | 0, _, _, _, _, _ => none
  | k + 1, z18_0_0, z18_0_1, z18_1_0, z18_1_1, z19 => if (z19.length : Int) > 0 then ((some ((min z19.length ((16 : Int).toNat - (0 : Int).toNat) : Nat) : Int)).bind fun x22 => (gcm_read.f K (subL (lA (cpA (zeroA 16) 0 (z19.take ((16 : Int).toNat - (0 : Int).toNat)))) 0 16)).bind fun (r23_0, r23_1) => (gcm_element_xor.f K z18_1_0 z18_1_1 r23_0 r23_1).bind fun (r24_0, r24_1) => (gcm_element_times.f K r24_0 r24_1 z18_0_0 z18_0_1).bind fun (r25_0, r25_1) => if 0 ≤ x22 then (if x22 ≤ (z19.length : Int) then (if (z19.length : Int) ≤ z19.length then (gcm_tag.l0 K k z18_0_0 z18_0_1 r25_0 r25_1 (subL z19 x22 (z19.length : Int))) else none) else none) else none) else (some (z18_0_0, z18_0_1, z18_1_0, z18_1_1))

def gcm_tag.f (K : Nat) (a0 : List Int) (a1 : List Int) (a2 : List Int) (a3 : List Int) : Option ((List Int)) :=
  (aes_Block.f K a0 (List.replicate (16 : Int).toNat (Cod.zero (CI .u8)))).bind fun (r2, r3) => (gcm_read.f K r2).bind fun (r4_0, r4_1) => (gcm_summer_add_s.f K r4_0 r4_1 0 0 a2).bind fun (r6, r7, r8, r9) => (gcm_summer_add_s.f K r6 r7 r8 r9 a3).bind fun (r10, r11, r12, r13) => (bits_Be.f K (imul .u64 8 (iconv .u64 (a2.length : Int))) 8).bind fun r14 => (bits_Be.f K (imul .u64 8 (iconv .u64 (a3.length : Int))) 8).bind fun r15 => (bits_Join.f K ([r14, r15] : List (List Int))).bind fun r17 => (gcm_tag.l0 K K r10 r11 r12 r13 r17).bind fun (y20_0_0, y20_0_1, y20_1_0, y20_1_1) => (gcm_element_bytes.f K y20_1_0 y20_1_1).bind fun r27 => (bits_Xor.f K r27 a1).bind fun r28 => some r28

def gcm_Seal.f (K : Nat) (a0 : List Int) (a1 : List Int) (a2 : List Int) (a3 : List Int) : Option ((List Int) × Int) :=
  (gcm_sized.f K a0).bind fun r1 => if r1 = true then (if (a1.length : Int) = 12 then (if (a2.length : Int) > 1048576 then (some (([] : List Int), 2)) else (if (a3.length : Int) > 1048576 then (some (([] : List Int), 2)) else ((gcm_stream.f K a0 a1 a3).bind fun (r2, r3) => (gcm_tag.f K a0 r3 a2 r2).bind fun r4 => if r2.length + r4.length ≤ 140737488355328 then (some ((r2 ++ r4), 0)) else none))) else (some (([] : List Int), 14))) else (some (([] : List Int), 10))

def bits_Same.l0 (K : Nat) : Nat → (List Int) → (List Int) → Int → Int → Option (Int)
  | 0, _, _, _, _ => none
  | k + 1, a0, a1, z1, z2 => if z2 < (a0.length : Int) then (if 0 ≤ z2 then (if z2 < a0.length then (if 0 ≤ z2 then (if z2 < a1.length then ((some (ior .u8 z1 (ixor .u8 (rdL (CI .u8) a0 z2) (rdL (CI .u8) a1 z2)))).bind fun x4 => bits_Same.l0 K k a0 a1 x4 (iadd .i64 z2 1)) else none) else none) else none) else none) else (some z1)

def bits_Same.f (K : Nat) (a0 : List Int) (a1 : List Int) : Option (Bool) :=
  if (a0.length : Int) = (a1.length : Int) then ((bits_Same.l0 K K a0 a1 0 0).bind fun y3 => some (y3 == 0)) else (some false)

def gcm_Open.f (K : Nat) (a0 : List Int) (a1 : List Int) (a2 : List Int) (a3 : List Int) : Option ((List Int) × Int) :=
  (gcm_sized.f K a0).bind fun r1 => if r1 = true then (if (a1.length : Int) = 12 then (if (a3.length : Int) < 16 then (some (([] : List Int), 14)) else (if (a2.length : Int) > 1048576 then (some (([] : List Int), 2)) else (if (a3.length : Int) > 1048592 then (some (([] : List Int), 2)) else (if 0 ≤ (0 : Int) then (if (0 : Int) ≤ (isub .i64 (a3.length : Int) 16) then (if (isub .i64 (a3.length : Int) 16) ≤ a3.length then (if 0 ≤ (isub .i64 (a3.length : Int) 16) then (if (isub .i64 (a3.length : Int) 16) ≤ (a3.length : Int) then (if (a3.length : Int) ≤ a3.length then ((gcm_stream.f K a0 a1 (subL a3 0 (isub .i64 (a3.length : Int) 16))).bind fun (r4, r5) => (gcm_tag.f K a0 r5 a2 (subL a3 0 (isub .i64 (a3.length : Int) 16))).bind fun r6 => (bits_Same.f K r6 (subL a3 (isub .i64 (a3.length : Int) 16) (a3.length : Int))).bind fun r7 => if r7 = true then (some (r4, 0)) else (some (([] : List Int), 17))) else none) else none) else none) else none) else none) else none)))) else (some (([] : List Int), 14))) else (some (([] : List Int), 10))

def law12_awake.f (K : Nat) : Option (Bool) :=
  (((gcm_Seal.f K (List.replicate (16 : Int).toNat (Cod.zero (CI .u8))) (List.replicate (12 : Int).toNat (Cod.zero (CI .u8))) ([] : List Int) ([] : List Int)).bind fun (r5, r6) => some (r5, r6) : Option ((List Int) × Int))).bind fun (y1, y2) => (((gcm_Open.f K (List.replicate (16 : Int).toNat (Cod.zero (CI .u8))) (List.replicate (12 : Int).toNat (Cod.zero (CI .u8))) ([] : List Int) (List.replicate (16 : Int).toNat (Cod.zero (CI .u8)))).bind fun (r15, r16) => some r16 : Option (Int))).bind fun y11 => if y2 = 0 then (if (y1.length : Int) = 16 then (if 0 ≤ (4 : Int) then (if (4 : Int) ≤ y1.length then ((ref01_Same.f K (y1.take (4 : Int).toNat) ([88, 226, 252, 206] : List Int)).bind fun r40 => if r40 = true then (some (y11 == 17)) else (some false)) else none) else none) else (some false)) else (some false)

def gcm_Mul.f (K : Nat) (a0 : List Int) (a1 : List Int) : Option ((List Int)) :=
  if (a0.length : Int) = 16 then (if (a1.length : Int) = 16 then ((gcm_read.f K a0).bind fun (r1_0, r1_1) => (gcm_read.f K a1).bind fun (r2_0, r2_1) => (gcm_element_times.f K r1_0 r1_1 r2_0 r2_1).bind fun (r3_0, r3_1) => (gcm_element_bytes.f K r3_0 r3_1).bind fun r4 => some r4) else (some ([] : List Int))) else (some ([] : List Int))

def ref12_bit.f (K : Nat) (a0 : List Int) (a1 : Int) : Option (Int) :=
  (some (iquo .i64 a1 8)).bind fun x1 => if 0 ≤ x1 then (if x1 < a0.length then (if 0 ≤ (isub .i64 7 (irem .i64 a1 8)) then ((some (iand .u8 (ishr .u8 (rdL (CI .u8) a0 x1) (isub .i64 7 (irem .i64 a1 8))) 1)).bind fun x2 => some x2) else none) else none) else none

def ref12_Mul.l1 (K : Nat) : Nat → (List Int) → (List Int) → Int → Int → (List Int) → Option ((List Int))
  | 0, _, _, _, _, _ => none
  | k + 1, a0, a1, z2, z5, z6 => if z5 < 128 then ((some (iadd .i64 z2 z5)).bind fun x8 => if 0 ≤ x8 then (if x8 < z6.length then ((ref12_bit.f K a0 z2).bind fun r9 => (ref12_bit.f K a1 z5).bind fun r10 => (some (iadd .i64 z2 z5)).bind fun x11 => if 0 ≤ x11 then (if x11 < z6.length then ((some (ixor .u8 (rdL (CI .u8) z6 x8) (iand .u8 r9 r10))).bind fun x12 => (some (iadd .i64 z5 1)).bind fun x13 => ref12_Mul.l1 K k a0 a1 z2 x13 (wrL z6 x11 x12)) else none) else none) else none) else none) else (some z6)

def ref12_Mul.l0 (K : Nat) : Nat → (List Int) → (List Int) → Int → (List Int) → Option ((List Int))
  | 0, _, _, _, _ => none
  | k + 1, a0, a1, z2, z3 => if z2 < 128 then ((ref12_Mul.l1 K K a0 a1 z2 0 z3).bind fun y7 => (some (iadd .i64 z2 1)).bind fun x14 => ref12_Mul.l0 K k a0 a1 x14 y7) else (some z3)

def ref12_Mul.l2 (K : Nat) : Nat → Int → (List Int) → Option ((List Int))
  | 0, _, _ => none
  | k + 1, z15, z16 => if z15 ≥ 128 then (((if 0 ≤ z15 then (if z15 < z16.length then (if (rdL (CI .u8) z16 z15) = 1 then ((some (isub .i64 z15 128)).bind fun x19 => if 0 ≤ x19 then (if x19 < z16.length then ((some (isub .i64 z15 128)).bind fun x20 => if 0 ≤ x20 then (if x20 < z16.length then ((some (ixor .u8 (rdL (CI .u8) z16 x19) 1)).bind fun x21 => (some (isub .i64 z15 127)).bind fun x22 => if 0 ≤ x22 then (if x22 < (wrL z16 x20 x21).length then ((some (isub .i64 z15 127)).bind fun x23 => if 0 ≤ x23 then (if x23 < (wrL z16 x20 x21).length then ((some (ixor .u8 (rdL (CI .u8) (wrL z16 x20 x21) x22) 1)).bind fun x24 => (some (isub .i64 z15 126)).bind fun x25 => if 0 ≤ x25 then (if x25 < (wrL (wrL z16 x20 x21) x23 x24).length then ((some (isub .i64 z15 126)).bind fun x26 => if 0 ≤ x26 then (if x26 < (wrL (wrL z16 x20 x21) x23 x24).length then ((some (ixor .u8 (rdL (CI .u8) (wrL (wrL z16 x20 x21) x23 x24) x25) 1)).bind fun x27 => (some (isub .i64 z15 121)).bind fun x28 => if 0 ≤ x28 then (if x28 < (wrL (wrL (wrL z16 x20 x21) x23 x24) x26 x27).length then ((some (isub .i64 z15 121)).bind fun x29 => if 0 ≤ x29 then (if x29 < (wrL (wrL (wrL z16 x20 x21) x23 x24) x26 x27).length then ((some (ixor .u8 (rdL (CI .u8) (wrL (wrL (wrL z16 x20 x21) x23 x24) x26 x27) x28) 1)).bind fun x30 => some (wrL (wrL (wrL (wrL z16 x20 x21) x23 x24) x26 x27) x29 x30)) else none) else none) else none) else none) else none) else none) else none) else none) else none) else none) else none) else none) else none) else none) else none) else none) else (some z16)) else none) else none : Option ((List Int)))).bind fun y18 => (some (isub .i64 z15 1)).bind fun x31 => ref12_Mul.l2 K k x31 y18) else (some z16)

def ref12_Mul.l3 (K : Nat) : Nat → (List Int) → Int → (List Int) → Option ((List Int))
  | 0, _, _, _ => none
  | k + 1, y17, z33, z34 => if z33 < 128 then ((some (iquo .i64 z33 8)).bind fun x36 => if 0 ≤ x36 then (if x36 < z34.length then (if 0 ≤ z33 then (if z33 < y17.length then (if 0 ≤ (isub .i64 7 (irem .i64 z33 8)) then ((some (iquo .i64 z33 8)).bind fun x37 => if 0 ≤ x37 then (if x37 < z34.length then ((some (ior .u8 (rdL (CI .u8) z34 x36) (ishl .u8 (rdL (CI .u8) y17 z33) (isub .i64 7 (irem .i64 z33 8))))).bind fun x38 => (some (iadd .i64 z33 1)).bind fun x39 => ref12_Mul.l3 K k y17 x39 (wrL z34 x37 x38)) else none) else none) else none) else none) else none) else none) else none) else (some z34)

def ref12_Mul.f (K : Nat) (a0 : List Int) (a1 : List Int) : Option ((List Int)) :=
  if (a0.length : Int) = 16 then (if (a1.length : Int) = 16 then ((ref12_Mul.l0 K K a0 a1 0 (List.replicate (255 : Int).toNat (Cod.zero (CI .u8)))).bind fun y4 => (ref12_Mul.l2 K K 254 y4).bind fun y17 => (ref12_Mul.l3 K K y17 0 (List.replicate (16 : Int).toNat (Cod.zero (CI .u8)))).bind fun y35 => some y35) else (some ([] : List Int))) else (some ([] : List Int))

def gcm_Ghash.f (K : Nat) (a0 : List Int) (a1 : List Int) : Option ((List Int)) :=
  if (a0.length : Int) = 16 then (if (irem .i64 (a1.length : Int) 16) = 0 then ((gcm_read.f K a0).bind fun (r1_0, r1_1) => (gcm_summer_add.f K r1_0 r1_1 0 0 a1).bind fun (r3_0_0, r3_0_1, r3_1_0, r3_1_1) => (gcm_element_bytes.f K r3_1_0 r3_1_1).bind fun r4 => some r4) else (some ([] : List Int))) else (some ([] : List Int))

def ref12_Ghash.l0 (K : Nat) : Nat → (List Int) → (List Int) → Int → (List Int) → Option ((List Int))
  | 0, _, _, _, _ => none
  | k + 1, a0, a1, z2, z3 => if z2 < (a1.length : Int) then (if 0 ≤ z2 then (if z2 ≤ (iadd .i64 z2 16) then (if (iadd .i64 z2 16) ≤ a1.length then ((ref01_Xor.f K z3 (subL a1 z2 (iadd .i64 z2 16))).bind fun r6 => (ref12_Mul.f K r6 a0).bind fun r7 => (some (iadd .i64 z2 16)).bind fun x8 => ref12_Ghash.l0 K k a0 a1 x8 r7) else none) else none) else none) else (some z3)

def ref12_Ghash.f (K : Nat) (a0 : List Int) (a1 : List Int) : Option ((List Int)) :=
  if (a0.length : Int) = 16 then (if (irem .i64 (a1.length : Int) 16) = 0 then ((ref12_Ghash.l0 K K a0 a1 0 (List.replicate (16 : Int).toNat (Cod.zero (CI .u8)))).bind fun y4 => some y4) else (some ([] : List Int))) else (some ([] : List Int))

def ref01_Join.l0 (K : Nat) : Nat → (List (List Int)) → Int → (List Int) → Option ((List Int))
  | 0, _, _, _ => none
  | k + 1, a0, z1, z2 => if z1 < (a0.length : Int) then (if 0 ≤ z1 then (if z1 < a0.length then (if z2.length + (rdLL a0 z1).length ≤ 140737488355328 then ((some (iadd .i64 z1 1)).bind fun x6 => ref01_Join.l0 K k a0 x6 (z2 ++ (rdLL a0 z1))) else none) else none) else none) else (some z2)

def ref01_Join.f (K : Nat) (a0 : List (List Int)) : Option ((List Int)) :=
  (ref01_Join.l0 K K a0 0 ([] : List Int)).bind fun y3 => some y3

end Go.Proofs.Ytmpagpbnpgcecaa
