/- Printed by this work's own program: the plain forms of the functions that the laws reach. -/
import Derived.Test.YtmpagpbnpgcecaaMd
set_option linter.unusedVariables false
set_option linter.unusedSimpArgs false
namespace Go.Proofs.Ytmpagpbnpgcecaa
open Go.Mx

def aes_Mul.l0 (K : Nat) : Nat → Int → Int → Int → Option (Int)
  | 0, _, _, _ => none
  | k + 1, z3, z4, z5 => if z5 = 0 then (some z3) else (((if (iand .i64 z5 1) = 1 then ((some (ixor .i64 z3 z4)).bind fun x8 => some x8) else (some z3) : Option (Int))).bind fun y7 => (some (ishl .i64 z4 1)).bind fun x9 => (some (ishr .i64 z5 1)).bind fun x10 => aes_Mul.l0 K k y7 x9 x10)

def aes_Mul.l1 (K : Nat) : Nat → Int → Int → Option (Int)
  | 0, _, _ => none
  | k + 1, z11, z12 => if z12 ≥ 8 then (((if 0 ≤ z12 then (if (iand .i64 (ishr .i64 z11 z12) 1) = 1 then (if 0 ≤ (isub .i64 z12 8) then ((some (ixor .i64 z11 (ishl .i64 283 (isub .i64 z12 8)))).bind fun x15 => some x15) else none) else (some z11)) else none : Option (Int))).bind fun y14 => (some (isub .i64 z12 1)).bind fun x16 => aes_Mul.l1 K k y14 x16) else (some z11)

def aes_Mul.f (K : Nat) (a0 : Int) (a1 : Int) : Option (Int) :=
  (some (iconv .i64 a0)).bind fun x1 => (some (iconv .i64 a1)).bind fun x2 => (aes_Mul.l0 K K 0 x1 x2).bind fun y6 => (aes_Mul.l1 K K y6 14).bind fun y13 => (some (iconv .u8 y13)).bind fun x17 => some x17

def aes_powers.f (K : Nat) : Option (Unit) :=
  some ()

def aes_stirred.l0 (K : Nat) : Nat → Int → Int → Int → Option (Int)
  | 0, _, _, _ => none
  | k + 1, z1, z2, z3 => if z3 < 4 then ((some (ior .u8 (ishl .u8 z1 1) (ishr .u8 z1 7))).bind fun x5 => (some (ixor .u8 z2 x5)).bind fun x6 => aes_stirred.l0 K k x5 x6 (iadd .i64 z3 1)) else (some z2)

def aes_stirred.f (K : Nat) (a0 : Int) : Option (Int) :=
  (aes_stirred.l0 K K a0 a0 0).bind fun y4 => (some (ixor .u8 y4 99)).bind fun x7 => some x7

def aes_made.l0 (K : Nat) : Nat → Int → Int → Int → (Arr 256) → (Arr 256) → Option ((Arr 256) × (Arr 256))
  | 0, _, _, _, _, _ => none
  | k + 1, z4, z5, z6, z7_0, z7_1 => if z6 < 255 then ((aes_stirred.f K z5).bind fun r9 => if 0 ≤ z4 then (if z4 < 256 then (if 0 ≤ r9 then (if r9 < 256 then ((aes_Mul.f K z4 3).bind fun r10 => (aes_Mul.f K z5 246).bind fun r11 => aes_made.l0 K k r10 r11 (iadd .i64 z6 1) (wr z7_0 z4 r9) (wr z7_1 r9 z4)) else none) else none) else none) else none) else (some (z7_0, z7_1))

def aes_made.f (K : Nat) : Option ((Arr 256) × (Arr 256)) :=
  (aes_powers.f K).bind fun () => (aes_made.l0 K K 1 1 0 (wr (zeroA 256) 0 99) (wr (zeroA 256) 99 0)).bind fun (y8_0, y8_1) => some (y8_0, y8_1)

def aes_Box.f (K : Nat) (a0 : Int) : Option (Int) :=
  (aes_made.f K).bind fun (r1_0, r1_1) => if 0 ≤ a0 then (if a0 < 256 then ((some (rd r1_0 a0)).bind fun x3 => some x3) else none) else none

def aes_sized.f (K : Nat) (a0 : List Int) : Option (Bool) :=
  if (a0.length : Int) = 16 then (some true) else (if (a0.length : Int) = 24 then (some true) else (some ((a0.length : Int) == 32)))

def aes_wrong.f (K : Nat) (a0 : List Int) (a1 : List Int) : Option (Int) :=
  (aes_sized.f K a0).bind fun r1 => if r1 = true then (if (a1.length : Int) = 16 then (some 0) else (some 14)) else (some 10)

def aes_tables_boxed.f (K : Nat) (a0_0 : Arr 256) (a0_1 : Arr 256) (a1 : Arr 4) : Option ((Arr 4)) :=
  (some (rd a1 0)).bind fun x3 => if 0 ≤ x3 then (if x3 < 256 then ((some (rd a1 1)).bind fun x4 => if 0 ≤ x4 then (if x4 < 256 then ((some (rd a1 2)).bind fun x5 => if 0 ≤ x5 then (if x5 < 256 then ((some (rd a1 3)).bind fun x6 => if 0 ≤ x6 then (if x6 < 256 then (some (wr (wr (wr (wr (zeroA 4) 0 (rd a0_0 x3)) 1 (rd a0_0 x4)) 2 (rd a0_0 x5)) 3 (rd a0_0 x6))) else none) else none) else none) else none) else none) else none) else none) else none

def aes_word_xor.f (K : Nat) (a0 : Arr 4) (a1 : Arr 4) : Option ((Arr 4)) :=
  some (wr (wr (wr (wr (zeroA 4) 0 (ixor .u8 (rd a0 0) (rd a1 0))) 1 (ixor .u8 (rd a0 1) (rd a1 1))) 2 (ixor .u8 (rd a0 2) (rd a1 2))) 3 (ixor .u8 (rd a0 3) (rd a1 3)))

def aes_double.f (K : Nat) (a0 : Int) : Option (Int) :=
  (some (ixor .u8 (ishl .u8 a0 1) (iand .u8 27 (isub .u8 0 (ishr .u8 a0 7))))).bind fun x1 => some x1

def aes_mix.l1 (K : Nat) : Nat → Int → (Arr 16) → Int → Int → (Arr 16) → Option ((Arr 16))
  | 0, _, _, _, _, _ => none
  | k + 1, z1, z2, x5, z6, z7 => if z6 < 4 then (if 0 ≤ z6 then (if z6 < 4 then (if 0 ≤ z6 then (if z6 < 4 then ((some (irem .i64 (iadd .i64 z6 1) 4)).bind fun x9 => if 0 ≤ x9 then (if x9 < 4 then ((aes_double.f K (ixor .u8 (rd (subA 4 z2 z1) z6) (rd (subA 4 z2 z1) x9))).bind fun r10 => (some (iadd .i64 z1 z6)).bind fun x11 => if 0 ≤ x11 then (if x11 < 16 then ((some (ixor .u8 (ixor .u8 (rd (subA 4 z2 z1) z6) x5) r10)).bind fun x12 => aes_mix.l1 K k z1 z2 x5 (iadd .i64 z6 1) (wr z7 x11 x12)) else none) else none) else none) else none) else none) else none) else none) else none) else (some z7)

def aes_mix.l0 (K : Nat) : Nat → Int → (Arr 16) → Option ((Arr 16))
  | 0, _, _ => none
  | k + 1, z1, z2 => if z1 < 16 then (if 0 ≤ z1 then (if z1 ≤ (iadd .i64 z1 4) then (if (iadd .i64 z1 4) ≤ 16 then (if z1 < 16 then (if 4 ≤ ((iadd .i64 z1 4) : Int).toNat - (z1 : Int).toNat then ((some (ixor .u8 (ixor .u8 (ixor .u8 (rd (subA 4 z2 z1) 0) (rd (subA 4 z2 z1) 1)) (rd (subA 4 z2 z1) 2)) (rd (subA 4 z2 z1) 3))).bind fun x5 => (aes_mix.l1 K K z1 z2 x5 0 z2).bind fun y8 => (some (iadd .i64 z1 4)).bind fun x13 => aes_mix.l0 K k x13 y8) else none) else none) else none) else none) else none) else (some z2)

def aes_mix.f (K : Nat) (a0 : Arr 16) : Option ((Arr 16)) :=
  (aes_mix.l0 K K 0 a0).bind fun y3 => some y3

def aes_began_s.l0 (K : Nat) : Nat → (List Int) → Int → (List (Arr 4)) → Option ((List (Arr 4)))
  | 0, _, _, _ => none
  | k + 1, ca0, z15, z17 => if z15 < (ca0.length : Int) then (if 0 ≤ z15 then (if z15 ≤ (ca0.length : Int) then (if (ca0.length : Int) ≤ ca0.length then ((some (imin 4 ((subL ca0 z15 (ca0.length : Int)).length : Int))).bind fun x21 => if 0 ≤ z15 then (if z15 ≤ (iadd .i64 z15 x21) then (if (iadd .i64 z15 x21) ≤ (iadd .i64 z15 x21) then (if (iadd .i64 z15 x21) ≤ ca0.length then (if 4 ≤ (subL ca0 z15 (iadd .i64 z15 x21)).length then (if z17.length + ([(arrL 4 (subL ca0 z15 (iadd .i64 z15 x21)))] : List (Arr 4)).length ≤ 35184372088832 then ((some (iadd .i64 z15 4)).bind fun x25 => aes_began_s.l0 K k ca0 x25 (z17 ++ ([(arrL 4 (subL ca0 z15 (iadd .i64 z15 x21)))] : List (Arr 4)))) else none) else none) else none) else none) else none) else none) else none) else none) else none) else (some z17)

def aes_began_s.l1 (K : Nat) : Nat → (Arr 256) → (Arr 256) → Int → Int → Int → (List (Arr 4)) → Option ((List (Arr 4)))
  | 0, _, _, _, _, _, _ => none
  | k + 1, r6_0, r6_1, x10, z26, z27, z29 => if z26 < (imul .i64 4 (iadd .i64 x10 7)) then ((some (isub .i64 z26 1)).bind fun x32 => if 0 ≤ x32 then (if x32 < z29.length then (((if ¬ x10 = 0 then (if (irem .i64 z26 x10) = 0 then ((aes_tables_boxed.f K r6_0 r6_1 (wr (wr (wr (wr (zeroA 4) 0 (rd (rdL (CA .u8 4 (by decide)) z29 x32) 1)) 1 (rd (rdL (CA .u8 4 (by decide)) z29 x32) 2)) 2 (rd (rdL (CA .u8 4 (by decide)) z29 x32) 3)) 3 (rd (rdL (CA .u8 4 (by decide)) z29 x32) 0))).bind fun r36 => (aes_word_xor.f K r36 (wr (zeroA 4) 0 z27)).bind fun r37 => (aes_Mul.f K z27 2).bind fun r38 => some (r38, r37)) else (if x10 = 8 then (if (irem .i64 z26 8) = 4 then ((aes_tables_boxed.f K r6_0 r6_1 (rdL (CA .u8 4 (by decide)) z29 x32)).bind fun r39 => some (z27, r39)) else (some (z27, (rdL (CA .u8 4 (by decide)) z29 x32)))) else (some (z27, (rdL (CA .u8 4 (by decide)) z29 x32))))) else none : Option (Int × (Arr 4)))).bind fun (y34, y35) => (some (isub .i64 z26 x10)).bind fun x40 => if 0 ≤ x40 then (if x40 < z29.length then ((aes_word_xor.f K (rdL (CA .u8 4 (by decide)) z29 x40) y35).bind fun r41 => if z29.length + ([r41] : List (Arr 4)).length ≤ 35184372088832 then ((some (iadd .i64 z26 1)).bind fun x44 => aes_began_s.l1 K k r6_0 r6_1 x10 x44 y34 (z29 ++ ([r41] : List (Arr 4)))) else none) else none) else none) else none) else none) else (some z29)

def aes_began_s.l3 (K : Nat) : Nat → (List (Arr 4)) → Int → Int → Int → (Arr 16) → Option ((Arr 16))
  | 0, _, _, _, _, _ => none
  | k + 1, y31, z47, x53, z56, z57 => if z56 < ((subL y31 z47 (iadd .i64 z47 x53)).length : Int) then (if 0 ≤ z56 then (if z56 < (subL y31 z47 (iadd .i64 z47 x53)).length then (if 0 ≤ (imul .i64 4 z56) then (if (imul .i64 4 z56) ≤ (16 : Int) then (if (imul .i64 4 z56) < 16 then (aes_began_s.l3 K k y31 z47 x53 (iadd .i64 z56 1) (cpA z57 (imul .i64 4 z56) ((subL (lA (rdL (CA .u8 4 (by decide)) (subL y31 z47 (iadd .i64 z47 x53)) z56)) 0 4).take ((16 : Int).toNat - ((imul .i64 4 z56) : Int).toNat)))) else none) else none) else none) else none) else none) else (some z57)

def aes_began_s.l2 (K : Nat) : Nat → (List (Arr 4)) → Int → (List (Arr 16)) → Option ((List (Arr 16)))
  | 0, _, _, _ => none
  | k + 1, y31, z47, z48 => if z47 < (y31.length : Int) then (if 0 ≤ z47 then (if z47 ≤ (y31.length : Int) then (if (y31.length : Int) ≤ y31.length then ((some (imin 4 ((subL y31 z47 (y31.length : Int)).length : Int))).bind fun x53 => if 0 ≤ z47 then (if z47 ≤ (iadd .i64 z47 x53) then (if (iadd .i64 z47 x53) ≤ (iadd .i64 z47 x53) then (if (iadd .i64 z47 x53) ≤ y31.length then ((aes_began_s.l3 K K y31 z47 x53 0 (zeroA 16)).bind fun y58 => if z48.length + ([y58] : List (Arr 16)).length ≤ 8796093022208 then ((some (iadd .i64 z47 4)).bind fun x62 => aes_began_s.l2 K k y31 x62 (z48 ++ ([y58] : List (Arr 16)))) else none) else none) else none) else none) else none) else none) else none) else none) else (some z48)

def aes_began_s.f (K : Nat) (ca0 : List Int) : Option ((Arr 256) × (Arr 256) × (List (Arr 16))) :=
  (aes_made.f K).bind fun (r6_0, r6_1) => (some (iquo .i64 (ca0.length : Int) 4)).bind fun x10 => if 0 ≤ (imul .i64 4 (iadd .i64 x10 7)) then (if (imul .i64 4 (iadd .i64 x10 7)) ≤ 35184372088832 then ((aes_began_s.l0 K K ca0 0 ([] : List (Arr 4))).bind fun y19 => (aes_began_s.l1 K K r6_0 r6_1 x10 x10 1 y19).bind fun y31 => (aes_began_s.l2 K K y31 0 ([] : List (Arr 16))).bind fun y50 => some (r6_0, r6_1, y50)) else none) else none

def aes_cipher_add_s.l0 (K : Nat) : Nat → (List (Arr 16)) → Int → Int → (Arr 16) → Option ((Arr 16))
  | 0, _, _, _, _ => none
  | k + 1, ca2, ca4, z2, z3 => if z2 < 16 then (if 0 ≤ z2 then (if z2 < 16 then ((some (rd (rdL (CA .u8 16 (by decide)) ca2 ca4) z2)).bind fun x5 => if 0 ≤ z2 then (if z2 < 16 then (if 0 ≤ z2 then (if z2 < 16 then ((some (ixor .u8 (rd z3 z2) x5)).bind fun x6 => aes_cipher_add_s.l0 K k ca2 ca4 (iadd .i64 z2 1) (wr z3 z2 x6)) else none) else none) else none) else none) else none) else none) else (some z3)

def aes_cipher_add_s.f (K : Nat) (ca0 : Arr 256) (ca1 : Arr 256) (ca2 : List (Arr 16)) (ca3 : Arr 16) (ca4 : Int) : Option ((Arr 16)) :=
  if 0 ≤ ca4 then (if ca4 < ca2.length then ((aes_cipher_add_s.l0 K K ca2 ca4 0 ca3).bind fun y4 => some y4) else none) else none

def aes_cipher_there_s.l1 (K : Nat) : Nat → (Arr 256) → (Arr 16) → Int → (Arr 16) → Option ((Arr 16))
  | 0, _, _, _, _ => none
  | k + 1, ca0, z7, z10, z11 => if z10 < 16 then ((some (irem .i64 (iadd .i64 z10 (imul .i64 4 (irem .i64 z10 4))) 16)).bind fun x13 => if 0 ≤ x13 then (if x13 < 16 then ((some (rd z7 x13)).bind fun x14 => if 0 ≤ x14 then (if x14 < 256 then (if 0 ≤ z10 then (if z10 < 16 then ((some (rd ca0 x14)).bind fun x15 => aes_cipher_there_s.l1 K k ca0 z7 (iadd .i64 z10 1) (wr z11 z10 x15)) else none) else none) else none) else none) else none) else none) else (some z11)

def aes_cipher_there_s.l0 (K : Nat) : Nat → (Arr 256) → (Arr 256) → (List (Arr 16)) → Int → Int → (Arr 16) → Option ((Arr 16))
  | 0, _, _, _, _, _, _ => none
  | k + 1, ca0, ca1, ca2, x4, z6, z7 => if z6 ≤ x4 then ((aes_cipher_there_s.l1 K K ca0 z7 0 (zeroA 16)).bind fun y12 => ((if z6 < x4 then ((aes_mix.f K y12).bind fun r17 => some r17) else (some y12) : Option ((Arr 16)))).bind fun y16 => (aes_cipher_add_s.f K ca0 ca1 ca2 y16 z6).bind fun r18 => (some (iadd .i64 z6 1)).bind fun x19 => aes_cipher_there_s.l0 K k ca0 ca1 ca2 x4 x19 r18) else (some z7)

def aes_cipher_there_s.f (K : Nat) (ca0 : Arr 256) (ca1 : Arr 256) (ca2 : List (Arr 16)) (ca3 : Arr 16) : Option ((Arr 16)) :=
  (some (isub .i64 (ca2.length : Int) 1)).bind fun x4 => (aes_cipher_add_s.f K ca0 ca1 ca2 ca3 0).bind fun r5 => (aes_cipher_there_s.l0 K K ca0 ca1 ca2 x4 1 r5).bind fun y8 => some y8

def aes_Block.f (K : Nat) (a0 : List Int) (a1 : List Int) : Option ((List Int) × Int) :=
  (aes_wrong.f K a0 a1).bind fun r1 => if r1 = 0 then (((if 16 ≤ a1.length then ((aes_began_s.f K a0).bind fun (r4, r5, r6) => (aes_cipher_there_s.f K r4 r5 r6 (arrL 16 a1)).bind fun r12 => some r12) else none : Option ((Arr 16)))).bind fun y3 => some ((subL (lA y3) 0 16), 0)) else (some (([] : List Int), r1))

def law10_awake.f (K : Nat) : Option (Bool) :=
  (((aes_Block.f K (List.replicate (15 : Int).toNat (Cod.zero (CI .u8))) (List.replicate (16 : Int).toNat (Cod.zero (CI .u8)))).bind fun (r4, r5) => some r5 : Option (Int))).bind fun y1 => (aes_Box.f K 0).bind fun r10 => if r10 = 99 then ((aes_Box.f K 83).bind fun r11 => if r11 = 237 then ((aes_Mul.f K 87 131).bind fun r12 => if r12 = 193 then (some (y1 == 10)) else (some false)) else (some false)) else (some false)

def ref10_Sized.f (K : Nat) (a0 : List Int) : Option (Bool) :=
  if (a0.length : Int) = 16 then (some true) else (if (a0.length : Int) = 24 then (some true) else (some ((a0.length : Int) == 32)))

def ref10_Mul.l0 (K : Nat) : Nat → Int → Int → Int → Int → Option (Int)
  | 0, _, _, _, _ => none
  | k + 1, z1, z2, z3, z4 => if z4 < 8 then (((((if (iand .u8 z2 1) = 1 then ((some (ixor .u8 z3 z1)).bind fun x10 => some x10) else (some z3) : Option (Int))).bind fun y9 => if z1 ≥ 128 then ((some (ishl .u8 z1 1)).bind fun x11 => (some (ixor .u8 x11 27)).bind fun x12 => (some (ishr .u8 z2 1)).bind fun x13 => some (x12, x13, y9)) else ((some (ishl .u8 z1 1)).bind fun x14 => (some (ishr .u8 z2 1)).bind fun x15 => some (x14, x15, y9)) : Option (Int × Int × Int))).bind fun (y6, y7, y8) => (some (iadd .i64 z4 1)).bind fun x16 => ref10_Mul.l0 K k y6 y7 y8 x16) else (some z3)

def ref10_Mul.f (K : Nat) (a0 : Int) (a1 : Int) : Option (Int) :=
  (ref10_Mul.l0 K K a0 a1 0 0).bind fun y5 => some y5

def ref10_inverse.l0 (K : Nat) : Nat → Int → Int → Int → Option (Int)
  | 0, _, _, _ => none
  | k + 1, z1, z2, z3 => if z3 < 7 then ((ref10_Mul.f K z1 z1).bind fun r5 => (ref10_Mul.f K z2 r5).bind fun r6 => (some (iadd .i64 z3 1)).bind fun x7 => ref10_inverse.l0 K k r5 r6 x7) else (some z2)

def ref10_inverse.f (K : Nat) (a0 : Int) : Option (Int) :=
  (ref10_inverse.l0 K K a0 1 0).bind fun y4 => some y4

def ref10_Box.l0 (K : Nat) : Nat → Int → Int → Int → Option (Int)
  | 0, _, _, _ => none
  | k + 1, r1, z2, z3 => if z3 < 5 then (if 0 ≤ z3 then (if 0 ≤ (isub .i64 8 z3) then ((some (ixor .u8 z2 (ior .u8 (ishl .u8 r1 z3) (ishr .u8 r1 (isub .i64 8 z3))))).bind fun x5 => (some (iadd .i64 z3 1)).bind fun x6 => ref10_Box.l0 K k r1 x5 x6) else none) else none) else (some z2)

def ref10_Box.f (K : Nat) (a0 : Int) : Option (Int) :=
  (ref10_inverse.f K a0).bind fun r1 => (ref10_Box.l0 K K r1 99 0).bind fun y4 => some y4

def ref10_boxes.l0 (K : Nat) : Nat → Int → (Arr 256) → (Arr 256) → Option ((Arr 256) × (Arr 256))
  | 0, _, _, _ => none
  | k + 1, z5, z6, z7 => if z5 < 256 then ((ref10_Box.f K (iconv .u8 z5)).bind fun r10 => if 0 ≤ z5 then (if z5 < 256 then (if 0 ≤ r10 then (if r10 < 256 then ((some (iconv .u8 z5)).bind fun x11 => (some (iadd .i64 z5 1)).bind fun x12 => ref10_boxes.l0 K k x12 (wr z6 r10 x11) (wr z7 z5 r10)) else none) else none) else none) else none) else (some (z6, z7))

def ref10_boxes.f (K : Nat) : Option ((Arr 256) × (Arr 256)) :=
  (ref10_boxes.l0 K K 0 (zeroA 256) (zeroA 256)).bind fun (y8, y9) => some (y9, y8)

def ref01_Xor.l0 (K : Nat) : Nat → (List Int) → (List Int) → Int → (List Int) → Option ((List Int))
  | 0, _, _, _, _ => none
  | k + 1, a0, a1, z1, z2 => if z1 < (a0.length : Int) then (if z1 < (a1.length : Int) then (if 0 ≤ z1 then (if z1 < a0.length then (if 0 ≤ z1 then (if z1 < a1.length then (if z2.length + ([(ixor .u8 (rdL (CI .u8) a0 z1) (rdL (CI .u8) a1 z1))] : List Int).length ≤ 140737488355328 then ((some (iadd .i64 z1 1)).bind fun x6 => ref01_Xor.l0 K k a0 a1 x6 (z2 ++ ([(ixor .u8 (rdL (CI .u8) a0 z1) (rdL (CI .u8) a1 z1))] : List Int))) else none) else none) else none) else none) else none) else (some z2)) else (some z2)

def ref01_Xor.f (K : Nat) (a0 : List Int) (a1 : List Int) : Option ((List Int)) :=
  (ref01_Xor.l0 K K a0 a1 0 ([] : List Int)).bind fun y3 => some y3

def ref10_rows.l1 (K : Nat) : Nat → (List Int) → Int → Int → Int → (List Int) → Option ((List Int))
  | 0, _, _, _, _, _ => none
  | k + 1, a0, a1, z2, z5, z6 => if z5 < 4 then ((some (iadd .i64 (imul .i64 4 (irem .i64 (iadd .i64 (iadd .i64 z2 (imul .i64 a1 z5)) 4) 4)) z5)).bind fun x8 => if 0 ≤ x8 then (if x8 < a0.length then ((some (iadd .i64 (imul .i64 4 z2) z5)).bind fun x9 => if 0 ≤ x9 then (if x9 < z6.length then ((some (rdL (CI .u8) a0 x8)).bind fun x10 => (some (iadd .i64 z5 1)).bind fun x11 => ref10_rows.l1 K k a0 a1 z2 x11 (wrL z6 x9 x10)) else none) else none) else none) else none) else (some z6)

def ref10_rows.l0 (K : Nat) : Nat → (List Int) → Int → Int → (List Int) → Option ((List Int))
  | 0, _, _, _, _ => none
  | k + 1, a0, a1, z2, z3 => if z2 < 4 then ((ref10_rows.l1 K K a0 a1 z2 0 z3).bind fun y7 => (some (iadd .i64 z2 1)).bind fun x12 => ref10_rows.l0 K k a0 a1 x12 y7) else (some z3)

def ref10_rows.f (K : Nat) (a0 : List Int) (a1 : Int) : Option ((List Int)) :=
  (ref10_rows.l0 K K a0 a1 0 (List.replicate (16 : Int).toNat (Cod.zero (CI .u8)))).bind fun y4 => some y4

def ref10_each.l0 (K : Nat) : Nat → (List Int) → (Arr 256) → Int → (List Int) → Option ((List Int))
  | 0, _, _, _, _ => none
  | k + 1, a0, a1, z3, z4 => if z3 < 16 then (if 0 ≤ z3 then (if z3 < a0.length then ((some (rdL (CI .u8) a0 z3)).bind fun x6 => if 0 ≤ x6 then (if x6 < 256 then (if 0 ≤ z3 then (if z3 < z4.length then ((some (rd a1 x6)).bind fun x7 => (some (iadd .i64 z3 1)).bind fun x8 => ref10_each.l0 K k a0 a1 x8 (wrL z4 z3 x7)) else none) else none) else none) else none) else none) else none) else (some z4)

def ref10_each.f (K : Nat) (a0 : List Int) (a1 : Arr 256) : Option ((List Int)) :=
  (ref10_each.l0 K K a0 a1 0 (List.replicate (16 : Int).toNat (Cod.zero (CI .u8)))).bind fun y5 => some y5

def ref10_columns.l2 (K : Nat) : Nat → (List Int) → (Arr 4) → Int → Int → Int → Int → Option (Int)
  | 0, _, _, _, _, _, _ => none
  | k + 1, a0, a1, z3, z6, z9, z10 => if z10 < 4 then (if 0 ≤ z10 then (if z10 < 4 then ((some (iadd .i64 (imul .i64 4 z3) (irem .i64 (iadd .i64 z6 z10) 4))).bind fun x12 => if 0 ≤ x12 then (if x12 < a0.length then ((ref10_Mul.f K (rd a1 z10) (rdL (CI .u8) a0 x12)).bind fun r13 => (some (ixor .u8 z9 r13)).bind fun x14 => (some (iadd .i64 z10 1)).bind fun x15 => ref10_columns.l2 K k a0 a1 z3 z6 x14 x15) else none) else none) else none) else none) else (some z9)

def ref10_columns.l1 (K : Nat) : Nat → (List Int) → (Arr 4) → Int → Int → (List Int) → Option ((List Int))
  | 0, _, _, _, _, _ => none
  | k + 1, a0, a1, z3, z6, z7 => if z6 < 4 then ((ref10_columns.l2 K K a0 a1 z3 z6 0 0).bind fun y11 => (some (iadd .i64 (imul .i64 4 z3) z6)).bind fun x16 => if 0 ≤ x16 then (if x16 < z7.length then ((some (iadd .i64 z6 1)).bind fun x17 => ref10_columns.l1 K k a0 a1 z3 x17 (wrL z7 x16 y11)) else none) else none) else (some z7)

def ref10_columns.l0 (K : Nat) : Nat → (List Int) → (Arr 4) → Int → (List Int) → Option ((List Int))
  | 0, _, _, _, _ => none
  | k + 1, a0, a1, z3, z4 => if z3 < 4 then ((ref10_columns.l1 K K a0 a1 z3 0 z4).bind fun y8 => (some (iadd .i64 z3 1)).bind fun x18 => ref10_columns.l0 K k a0 a1 x18 y8) else (some z4)

def ref10_columns.f (K : Nat) (a0 : List Int) (a1 : Arr 4) : Option ((List Int)) :=
  (ref10_columns.l0 K K a0 a1 0 (List.replicate (16 : Int).toNat (Cod.zero (CI .u8)))).bind fun y5 => some y5

def ref10_there.l0 (K : Nat) : Nat → (List Int) → (Arr 256) → Int → Int → (List Int) → Option ((List Int))
  | 0, _, _, _, _, _ => none
  | k + 1, a0, a2, x2, z5, z6 => if z5 ≤ x2 then ((ref10_each.f K z6 a2).bind fun r8 => (ref10_rows.f K r8 1).bind fun r9 => ((if z5 < x2 then ((ref10_columns.f K r9 (wr (wr (wr (wr (zeroA 4) 0 2) 1 3) 2 1) 3 1)).bind fun r11 => some r11) else (some r9) : Option ((List Int)))).bind fun y10 => if 0 ≤ (imul .i64 16 z5) then (if (imul .i64 16 z5) ≤ (iadd .i64 (imul .i64 16 z5) 16) then (if (iadd .i64 (imul .i64 16 z5) 16) ≤ a0.length then ((ref01_Xor.f K y10 (subL a0 (imul .i64 16 z5) (iadd .i64 (imul .i64 16 z5) 16))).bind fun r13 => (some (iadd .i64 z5 1)).bind fun x14 => ref10_there.l0 K k a0 a2 x2 x14 r13) else none) else none) else none) else (some z6)

def ref10_there.f (K : Nat) (a0 : List Int) (a1 : List Int) (a2 : Arr 256) : Option ((List Int)) :=
  (some (isub .i64 (iquo .i64 (a0.length : Int) 16) 1)).bind fun x2 => if 0 ≤ (0 : Int) then (if (0 : Int) ≤ (16 : Int) then (if (16 : Int) ≤ a0.length then ((ref01_Xor.f K a1 (subL a0 0 16)).bind fun r4 => (ref10_there.l0 K K a0 a2 x2 1 r4).bind fun y7 => some y7) else none) else none) else none

def ref10_keys.l1 (K : Nat) : Nat → Int → Int → (List Int) → Int → (List Int) → Option ((List Int))
  | 0, _, _, _, _, _ => none
  | k + 1, x2, z5, y14, z26, z27 => if z26 < 4 then ((some (iadd .i64 (imul .i64 4 (isub .i64 z5 x2)) z26)).bind fun x29 => if 0 ≤ x29 then (if x29 < z27.length then (if 0 ≤ z26 then (if z26 < y14.length then (if z27.length + ([(ixor .u8 (rdL (CI .u8) z27 x29) (rdL (CI .u8) y14 z26))] : List Int).length ≤ 140737488355328 then ((some (iadd .i64 z26 1)).bind fun x32 => ref10_keys.l1 K k x2 z5 y14 x32 (z27 ++ ([(ixor .u8 (rdL (CI .u8) z27 x29) (rdL (CI .u8) y14 z26))] : List Int))) else none) else none) else none) else none) else none) else (some z27)

def ref10_keys.l0 (K : Nat) : Nat → (Arr 256) → Int → Int → Int → (List Int) → Option ((List Int))
  | 0, _, _, _, _, _ => none
  | k + 1, a1, x2, z4, z5, z6 => if z5 < (imul .i64 4 (iadd .i64 x2 7)) then ((some (isub .i64 (imul .i64 4 z5) 4)).bind fun x8 => if 0 ≤ x8 then (if x8 < z6.length then ((some (isub .i64 (imul .i64 4 z5) 3)).bind fun x9 => if 0 ≤ x9 then (if x9 < z6.length then ((some (isub .i64 (imul .i64 4 z5) 2)).bind fun x10 => if 0 ≤ x10 then (if x10 < z6.length then ((some (isub .i64 (imul .i64 4 z5) 1)).bind fun x11 => if 0 ≤ x11 then (if x11 < z6.length then (((if ¬ x2 = 0 then (if (irem .i64 z5 x2) = 0 then (if 0 ≤ (1 : Int) then (if (1 : Int) < ([(rdL (CI .u8) z6 x8), (rdL (CI .u8) z6 x9), (rdL (CI .u8) z6 x10), (rdL (CI .u8) z6 x11)] : List Int).length then ((some (rdL (CI .u8) ([(rdL (CI .u8) z6 x8), (rdL (CI .u8) z6 x9), (rdL (CI .u8) z6 x10), (rdL (CI .u8) z6 x11)] : List Int) 1)).bind fun x15 => if 0 ≤ x15 then (if x15 < 256 then (if 0 ≤ (2 : Int) then (if (2 : Int) < ([(rdL (CI .u8) z6 x8), (rdL (CI .u8) z6 x9), (rdL (CI .u8) z6 x10), (rdL (CI .u8) z6 x11)] : List Int).length then ((some (rdL (CI .u8) ([(rdL (CI .u8) z6 x8), (rdL (CI .u8) z6 x9), (rdL (CI .u8) z6 x10), (rdL (CI .u8) z6 x11)] : List Int) 2)).bind fun x16 => if 0 ≤ x16 then (if x16 < 256 then (if 0 ≤ (3 : Int) then (if (3 : Int) < ([(rdL (CI .u8) z6 x8), (rdL (CI .u8) z6 x9), (rdL (CI .u8) z6 x10), (rdL (CI .u8) z6 x11)] : List Int).length then ((some (rdL (CI .u8) ([(rdL (CI .u8) z6 x8), (rdL (CI .u8) z6 x9), (rdL (CI .u8) z6 x10), (rdL (CI .u8) z6 x11)] : List Int) 3)).bind fun x17 => if 0 ≤ x17 then (if x17 < 256 then (if 0 ≤ (0 : Int) then (if (0 : Int) < ([(rdL (CI .u8) z6 x8), (rdL (CI .u8) z6 x9), (rdL (CI .u8) z6 x10), (rdL (CI .u8) z6 x11)] : List Int).length then ((some (rdL (CI .u8) ([(rdL (CI .u8) z6 x8), (rdL (CI .u8) z6 x9), (rdL (CI .u8) z6 x10), (rdL (CI .u8) z6 x11)] : List Int) 0)).bind fun x18 => if 0 ≤ x18 then (if x18 < 256 then ((ref10_Mul.f K z4 2).bind fun r20 => some (r20, ([(ixor .u8 (rd a1 x15) z4), (rd a1 x16), (rd a1 x17), (rd a1 x18)] : List Int))) else none) else none) else none) else none) else none) else none) else none) else none) else none) else none) else none) else none) else none) else none) else none) else none) else (if x2 = 8 then (if (irem .i64 z5 8) = 4 then (if 0 ≤ (0 : Int) then (if (0 : Int) < ([(rdL (CI .u8) z6 x8), (rdL (CI .u8) z6 x9), (rdL (CI .u8) z6 x10), (rdL (CI .u8) z6 x11)] : List Int).length then ((some (rdL (CI .u8) ([(rdL (CI .u8) z6 x8), (rdL (CI .u8) z6 x9), (rdL (CI .u8) z6 x10), (rdL (CI .u8) z6 x11)] : List Int) 0)).bind fun x21 => if 0 ≤ x21 then (if x21 < 256 then (if 0 ≤ (1 : Int) then (if (1 : Int) < ([(rdL (CI .u8) z6 x8), (rdL (CI .u8) z6 x9), (rdL (CI .u8) z6 x10), (rdL (CI .u8) z6 x11)] : List Int).length then ((some (rdL (CI .u8) ([(rdL (CI .u8) z6 x8), (rdL (CI .u8) z6 x9), (rdL (CI .u8) z6 x10), (rdL (CI .u8) z6 x11)] : List Int) 1)).bind fun x22 => if 0 ≤ x22 then (if x22 < 256 then (if 0 ≤ (2 : Int) then (if (2 : Int) < ([(rdL (CI .u8) z6 x8), (rdL (CI .u8) z6 x9), (rdL (CI .u8) z6 x10), (rdL (CI .u8) z6 x11)] : List Int).length then ((some (rdL (CI .u8) ([(rdL (CI .u8) z6 x8), (rdL (CI .u8) z6 x9), (rdL (CI .u8) z6 x10), (rdL (CI .u8) z6 x11)] : List Int) 2)).bind fun x23 => if 0 ≤ x23 then (if x23 < 256 then (if 0 ≤ (3 : Int) then (if (3 : Int) < ([(rdL (CI .u8) z6 x8), (rdL (CI .u8) z6 x9), (rdL (CI .u8) z6 x10), (rdL (CI .u8) z6 x11)] : List Int).length then ((some (rdL (CI .u8) ([(rdL (CI .u8) z6 x8), (rdL (CI .u8) z6 x9), (rdL (CI .u8) z6 x10), (rdL (CI .u8) z6 x11)] : List Int) 3)).bind fun x24 => if 0 ≤ x24 then (if x24 < 256 then (some (z4, ([(rd a1 x21), (rd a1 x22), (rd a1 x23), (rd a1 x24)] : List Int))) else none) else none) else none) else none) else none) else none) else none) else none) else none) else none) else none) else none) else none) else none) else none) else none) else (some (z4, ([(rdL (CI .u8) z6 x8), (rdL (CI .u8) z6 x9), (rdL (CI .u8) z6 x10), (rdL (CI .u8) z6 x11)] : List Int)))) else (some (z4, ([(rdL (CI .u8) z6 x8), (rdL (CI .u8) z6 x9), (rdL (CI .u8) z6 x10), (rdL (CI .u8) z6 x11)] : List Int))))) else none : Option (Int × (List Int)))).bind fun (y13, y14) => (ref10_keys.l1 K K x2 z5 y14 0 z6).bind fun y28 => (some (iadd .i64 z5 1)).bind fun x33 => ref10_keys.l0 K k a1 x2 y13 x33 y28) else none) else none) else none) else none) else none) else none) else none) else none) else (some z6)

def ref10_keys.f (K : Nat) (a0 : List Int) (a1 : Arr 256) : Option ((List Int)) :=
  (some (iquo .i64 (a0.length : Int) 4)).bind fun x2 => if ([] : List Int).length + a0.length ≤ 140737488355328 then ((ref10_keys.l0 K K a1 x2 1 x2 (([] : List Int) ++ a0)).bind fun y7 => some y7) else none

def aes_unmix.l0 (K : Nat) : Nat → Int → (Arr 16) → Option ((Arr 16))
  | 0, _, _ => none
  | k + 1, z1, z2 => if z1 < 3 then ((aes_mix.f K z2).bind fun r4 => aes_unmix.l0 K k (iadd .i64 z1 1) r4) else (some z2)

def aes_unmix.f (K : Nat) (a0 : Arr 16) : Option ((Arr 16)) :=
  (aes_unmix.l0 K K 0 a0).bind fun y3 => some y3

def aes_cipher_undo_s.l1 (K : Nat) : Nat → (Arr 256) → (Arr 16) → Int → (Arr 16) → Option ((Arr 16))
  | 0, _, _, _, _ => none
  | k + 1, ca1, y9, z12, z13 => if z12 < 16 then (if 0 ≤ z12 then (if z12 < 16 then ((some (rd y9 z12)).bind fun x15 => if 0 ≤ x15 then (if x15 < 256 then ((some (irem .i64 (iadd .i64 z12 (imul .i64 4 (irem .i64 z12 4))) 16)).bind fun x16 => if 0 ≤ x16 then (if x16 < 16 then ((some (rd ca1 x15)).bind fun x17 => aes_cipher_undo_s.l1 K k ca1 y9 (iadd .i64 z12 1) (wr z13 x16 x17)) else none) else none) else none) else none) else none) else none) else (some z13)

def aes_cipher_undo_s.l0 (K : Nat) : Nat → (Arr 256) → (Arr 256) → (List (Arr 16)) → Int → Int → (Arr 16) → Option ((Arr 16))
  | 0, _, _, _, _, _, _ => none
  | k + 1, ca0, ca1, ca2, x4, z5, z6 => if z5 > 0 then ((aes_cipher_add_s.f K ca0 ca1 ca2 z6 z5).bind fun r8 => ((if z5 < x4 then ((aes_unmix.f K r8).bind fun r10 => some r10) else (some r8) : Option ((Arr 16)))).bind fun y9 => (aes_cipher_undo_s.l1 K K ca1 y9 0 (zeroA 16)).bind fun y14 => (some (isub .i64 z5 1)).bind fun x18 => aes_cipher_undo_s.l0 K k ca0 ca1 ca2 x4 x18 y14) else (some z6)

def aes_cipher_undo_s.f (K : Nat) (ca0 : Arr 256) (ca1 : Arr 256) (ca2 : List (Arr 16)) (ca3 : Arr 16) : Option ((Arr 16)) :=
  (some (isub .i64 (ca2.length : Int) 1)).bind fun x4 => (aes_cipher_undo_s.l0 K K ca0 ca1 ca2 x4 x4 ca3).bind fun y7 => (aes_cipher_add_s.f K ca0 ca1 ca2 y7 0).bind fun r19 => some r19

def aes_Back.f (K : Nat) (a0 : List Int) (a1 : List Int) : Option ((List Int) × Int) :=
  (aes_wrong.f K a0 a1).bind fun r1 => if r1 = 0 then (((if 16 ≤ a1.length then ((aes_began_s.f K a0).bind fun (r4, r5, r6) => (aes_cipher_undo_s.f K r4 r5 r6 (arrL 16 a1)).bind fun r12 => some r12) else none : Option ((Arr 16)))).bind fun y3 => some ((subL (lA y3) 0 16), 0)) else (some (([] : List Int), r1))

def ref10_back.l0 (K : Nat) : Nat → (List Int) → (Arr 256) → Int → Int → (List Int) → Option ((List Int))
  | 0, _, _, _, _, _ => none
  | k + 1, a0, a2, x2, z3, z4 => if z3 ≥ 1 then (if 0 ≤ (imul .i64 16 z3) then (if (imul .i64 16 z3) ≤ (iadd .i64 (imul .i64 16 z3) 16) then (if (iadd .i64 (imul .i64 16 z3) 16) ≤ a0.length then ((ref01_Xor.f K z4 (subL a0 (imul .i64 16 z3) (iadd .i64 (imul .i64 16 z3) 16))).bind fun r7 => ((if z3 < x2 then ((ref10_columns.f K r7 (wr (wr (wr (wr (zeroA 4) 0 14) 1 11) 2 13) 3 9)).bind fun r9 => some r9) else (some r7) : Option ((List Int)))).bind fun y8 => (ref10_rows.f K y8 (-1)).bind fun r10 => (ref10_each.f K r10 a2).bind fun r11 => (some (isub .i64 z3 1)).bind fun x12 => ref10_back.l0 K k a0 a2 x2 x12 r11) else none) else none) else none) else (some z4)

def ref10_back.f (K : Nat) (a0 : List Int) (a1 : List Int) (a2 : Arr 256) : Option ((List Int)) :=
  (some (isub .i64 (iquo .i64 (a0.length : Int) 16) 1)).bind fun x2 => (ref10_back.l0 K K a0 a2 x2 x2 a1).bind fun y5 => if 0 ≤ (0 : Int) then (if (0 : Int) ≤ (16 : Int) then (if (16 : Int) ≤ a0.length then ((ref01_Xor.f K y5 (subL a0 0 16)).bind fun r14 => some r14) else none) else none) else none

def ref01_Same.l0 (K : Nat) : Nat → (List Int) → (List Int) → Int → Option ((Unit) ⊕ (Bool))
  | 0, _, _, _ => none
  | k + 1, a0, a1, z1 => if z1 < (a0.length : Int) then (if 0 ≤ z1 then (if z1 < a0.length then (if 0 ≤ z1 then (if z1 < a1.length then (if (rdL (CI .u8) a0 z1) = (rdL (CI .u8) a1 z1) then ((some (iadd .i64 z1 1)).bind fun x2 => ref01_Same.l0 K k a0 a1 x2) else (some (.inr false))) else none) else none) else none) else none) else (some (.inl ()))

def ref01_Same.f (K : Nat) (a0 : List Int) (a1 : List Int) : Option (Bool) :=
  if (a0.length : Int) = (a1.length : Int) then ((ref01_Same.l0 K K a0 a1 0).bind fun t0 => (match t0 with | .inl _ => some true | .inr r => some r)) else (some false)

def slices_Concat_byte_byte.l0 (K : Nat) : Nat → (List (List Int)) → Int → Int → Option (Int)
  | 0, _, _, _ => none
  | k + 1, a0, z1, z2 => if z2 < (a0.length : Int) then (if 0 ≤ z2 then (if z2 < a0.length then ((some (iadd .i64 z1 ((rdLL a0 z2).length : Int))).bind fun x5 => if x5 < 0 then (none) else (slices_Concat_byte_byte.l0 K k a0 x5 (iadd .i64 z2 1))) else none) else none) else (some z1)

def slices_Concat_byte_byte.l1 (K : Nat) : Nat → (List (List Int)) → Int → (List Int) → Option ((List Int))
  | 0, _, _, _ => none
  | k + 1, a0, z9, z10 => if z9 < (a0.length : Int) then (if 0 ≤ z9 then (if z9 < a0.length then (if z10.length + (rdLL a0 z9).length ≤ 140737488355328 then (slices_Concat_byte_byte.l1 K k a0 (iadd .i64 z9 1) (z10 ++ (rdLL a0 z9))) else none) else none) else none) else (some z10)

def slices_Concat_byte_byte.f (K : Nat) (a0 : List (List Int)) : Option ((List Int)) :=
  (slices_Concat_byte_byte.l0 K K a0 0 0).bind fun y3 => if y3 < 0 then (none) else ((((some (isub .i64 y3 0)).bind fun x7 => if x7 > 0 then (if 1 ≤ x7 then (if x7 ≤ 140737488355328 then (if 0 ≤ (0 : Int) then (if (0 : Int) ≤ (List.replicate (x7 : Int).toNat (Cod.zero (CI .u8))).length then (some ((List.replicate (x7 : Int).toNat (Cod.zero (CI .u8))).take (0 : Int).toNat)) else none) else none) else none) else none) else (some ([] : List Int)) : Option ((List Int)))).bind fun y6 => (slices_Concat_byte_byte.l1 K K a0 0 y6).bind fun y11 => some y11)

def bits_Join.f (K : Nat) (a0 : List (List Int)) : Option ((List Int)) :=
  (slices_Concat_byte_byte.f K a0).bind fun r1 => some r1

def math_bits_Mul32.f (K : Nat) (a0 : Int) (a1 : Int) : Option (Int × Int) :=
  (some (imul .u64 (iconv .u64 a0) (iconv .u64 a1))).bind fun x1 => (some (iconv .u32 (ishr .u64 x1 32))).bind fun x2 => (some (iconv .u32 x1)).bind fun x3 => some (x2, x3)

def math_bits_Mul64.f (K : Nat) (a0 : Int) (a1 : Int) : Option (Int × Int) :=
  (some (iand .u64 a0 4294967295)).bind fun x1 => (some (ishr .u64 a0 32)).bind fun x2 => (some (iand .u64 a1 4294967295)).bind fun x3 => (some (ishr .u64 a1 32)).bind fun x4 => (some (imul .u64 x1 x3)).bind fun x5 => (some (iadd .u64 (imul .u64 x2 x3) (ishr .u64 x5 32))).bind fun x6 => (some (iand .u64 x6 4294967295)).bind fun x7 => (some (ishr .u64 x6 32)).bind fun x8 => (some (iadd .u64 x7 (imul .u64 x1 x4))).bind fun x9 => (some (iadd .u64 (iadd .u64 (imul .u64 x2 x4) x8) (ishr .u64 x9 32))).bind fun x10 => (some (imul .u64 a0 a1)).bind fun x11 => some (x10, x11)

def math_bits_Mul.f (K : Nat) (a0 : Int) (a1 : Int) : Option (Int × Int) :=
  (math_bits_Mul64.f K a0 a1).bind fun (r1, r2) => some (r1, r2)

def bytes_Repeat.l0 (K : Nat) : Nat → Int → Int → Int → (List Int) → Option ((List Int))
  | 0, _, _, _, _ => none
  | k + 1, x4, y6, z11, z12 => if z11 < x4 then ((some (imin z11 y6)).bind fun x14 => if 0 ≤ z11 then (if z11 < (((x4 : Int).toNat : Nat) : Int) then (if 0 ≤ x14 then (if x14 ≤ z12.length then (if x14 ≤ (((x4 : Int).toNat : Nat) : Int) then (if (z11 : Int).toNat = z12.length then ((some (iadd .i64 z11 ((min (z12.take (x14 : Int).toNat).length ((x4 : Int).toNat - (z11 : Int).toNat) : Nat) : Int))).bind fun x15 => bytes_Repeat.l0 K k x4 y6 x15 (z12 ++ (z12.take (x14 : Int).toNat).take ((x4 : Int).toNat - (z11 : Int).toNat))) else none) else none) else none) else none) else none) else none) else (some z12)

def bytes_Repeat.f (K : Nat) (a0 : List Int) (a1 : Int) : Option ((List Int)) :=
  if a1 = 0 then (some ([] : List Int)) else (if a1 < 0 then (none) else ((math_bits_Mul.f K (iconv .u64 (a0.length : Int)) (iconv .u64 a1)).bind fun (r2, r3) => if r2 > 0 then (none) else (if r3 > 9223372036854775807 then (none) else ((some (iconv .i64 r3)).bind fun x4 => if (a0.length : Int) = 0 then (some ([] : List Int)) else (((if x4 > 8192 then (if ¬ (a0.length : Int) = 0 then ((some (imul .i64 (iquo .i64 8192 (a0.length : Int)) (a0.length : Int))).bind fun x7 => if x7 = 0 then ((some (a0.length : Int)).bind fun x8 => some x8) else (some x7)) else none) else (some x4) : Option (Int))).bind fun y6 => if 0 ≤ x4 then (if x4 ≤ 140737488355328 then (if ([] : List Int).length = 0 then ((some ((min a0.length ((x4 : Int).toNat) : Nat) : Int)).bind fun x10 => (bytes_Repeat.l0 K K x4 y6 x10 (([] : List Int) ++ a0.take ((x4 : Int).toNat))).bind fun y13 => if (x4 : Int).toNat = y13.length then (some y13) else none) else none) else none) else none)))))

def slices_Clone_byte_byte.f (K : Nat) (a0 : List Int) : Option ((List Int)) :=
  if (a0).isEmpty = true then (some ([] : List Int)) else (if ([] : List Int).length + a0.length ≤ 140737488355328 then (some (([] : List Int) ++ a0)) else none)

def bits_Xor.l0 (K : Nat) : Nat → (List Int) → (List Int) → Int → (List Int) → Option ((List Int))
  | 0, _, _, _, _ => none
  | k + 1, a1, r2, z3, z4 => if z3 < (r2.length : Int) then (if 0 ≤ z3 then (if z3 < z4.length then (if 0 ≤ z3 then (if z3 < a1.length then (if 0 ≤ z3 then (if z3 < z4.length then ((some (ixor .u8 (rdL (CI .u8) z4 z3) (rdL (CI .u8) a1 z3))).bind fun x6 => bits_Xor.l0 K k a1 r2 (iadd .i64 z3 1) (wrL z4 z3 x6)) else none) else none) else none) else none) else none) else none) else (some z4)

def bits_Xor.f (K : Nat) (a0 : List Int) (a1 : List Int) : Option ((List Int)) :=
  if 0 ≤ (0 : Int) then (if (0 : Int) ≤ (imin (a0.length : Int) (a1.length : Int)) then (if (imin (a0.length : Int) (a1.length : Int)) ≤ a0.length then ((slices_Clone_byte_byte.f K (subL a0 0 (imin (a0.length : Int) (a1.length : Int)))).bind fun r2 => (bits_Xor.l0 K K a1 r2 0 r2).bind fun y5 => some y5) else none) else none) else none

def aes_Chain.l0 (K : Nat) : Nat → (Arr 256) → (Arr 256) → (List (Arr 16)) → (List Int) → Int → (List Int) → (List Int) → Option ((List Int) × (List Int))
  | 0, _, _, _, _, _, _, _ => none
  | k + 1, r3, r4, r5, r17, z20, z21, z24 => if z20 < (r17.length : Int) then (if 0 ≤ z20 then (if z20 ≤ (r17.length : Int) then (if (r17.length : Int) ≤ r17.length then ((some (imin 16 ((subL r17 z20 (r17.length : Int)).length : Int))).bind fun x30 => if 0 ≤ z20 then (if z20 ≤ (iadd .i64 z20 x30) then (if (iadd .i64 z20 x30) ≤ (iadd .i64 z20 x30) then (if (iadd .i64 z20 x30) ≤ r17.length then ((((bits_Xor.f K (subL r17 z20 (iadd .i64 z20 x30)) z24).bind fun r34 => if 16 ≤ r34.length then ((aes_cipher_there_s.f K r3 r4 r5 (arrL 16 r34)).bind fun r35 => some r35) else none : Option ((Arr 16)))).bind fun y33 => if z21.length + (subL (lA y33) 0 16).length ≤ 140737488355328 then ((some (iadd .i64 z20 16)).bind fun x43 => aes_Chain.l0 K k r3 r4 r5 r17 x43 (z21 ++ (subL (lA y33) 0 16)) (subL (lA y33) 0 16)) else none) else none) else none) else none) else none) else none) else none) else none) else (some (z21, z24))

def aes_Chain.f (K : Nat) (a0 : List Int) (a1 : List Int) (a2 : List Int) : Option ((List Int) × Int) :=
  (aes_wrong.f K a0 a1).bind fun r1 => if r1 = 0 then (if (a2.length : Int) > 1048576 then (some (([] : List Int), 2)) else ((some (isub .i64 16 (irem .i64 (a2.length : Int) 16))).bind fun x2 => (aes_began_s.f K a0).bind fun (r3, r4, r5) => (bytes_Repeat.f K ([(iconv .u8 x2)] : List Int) x2).bind fun r15 => (bits_Join.f K ([a2, r15] : List (List Int))).bind fun r17 => (aes_Chain.l0 K K r3 r4 r5 r17 0 ([] : List Int) a1).bind fun (y25, y28) => some (y25, 0))) else (some (([] : List Int), r1))

def bytes_Equal.f (K : Nat) (a0 : List Int) (a1 : List Int) : Option (Bool) :=
  some ((strL a0).toList == (strL a1).toList)

def aes_Unchain.l0 (K : Nat) : Nat → (List Int) → (Arr 256) → (Arr 256) → (List (Arr 16)) → Int → (List Int) → (List Int) → Option ((List Int) × (List Int))
  | 0, _, _, _, _, _, _, _ => none
  | k + 1, a2, r2, r3, r4, z15, z16, z19 => if z15 < (a2.length : Int) then (if 0 ≤ z15 then (if z15 ≤ (a2.length : Int) then (if (a2.length : Int) ≤ a2.length then ((some (imin 16 ((subL a2 z15 (a2.length : Int)).length : Int))).bind fun x25 => if 0 ≤ z15 then (if z15 ≤ (iadd .i64 z15 x25) then (if (iadd .i64 z15 x25) ≤ (iadd .i64 z15 x25) then (if (iadd .i64 z15 x25) ≤ a2.length then (((if 16 ≤ (subL a2 z15 (iadd .i64 z15 x25)).length then ((aes_cipher_undo_s.f K r2 r3 r4 (arrL 16 (subL a2 z15 (iadd .i64 z15 x25)))).bind fun r29 => some r29) else none : Option ((Arr 16)))).bind fun y28 => (bits_Xor.f K (subL (lA y28) 0 16) z19).bind fun r33 => if z16.length + r33.length ≤ 140737488355328 then ((some (iadd .i64 z15 16)).bind fun x35 => aes_Unchain.l0 K k a2 r2 r3 r4 x35 (z16 ++ r33) (subL a2 z15 (iadd .i64 z15 x25))) else none) else none) else none) else none) else none) else none) else none) else none) else (some (z16, z19))

def aes_Unchain.f (K : Nat) (a0 : List Int) (a1 : List Int) (a2 : List Int) : Option ((List Int) × Int) :=
  (aes_wrong.f K a0 a1).bind fun r1 => if r1 = 0 then (if (a2.length : Int) = 0 then (some (([] : List Int), 14)) else (if (irem .i64 (a2.length : Int) 16) = 0 then (if (a2.length : Int) > 1048592 then (some (([] : List Int), 2)) else ((aes_began_s.f K a0).bind fun (r2, r3, r4) => (aes_Unchain.l0 K K a2 r2 r3 r4 0 ([] : List Int) a1).bind fun (y20, y23) => (some (isub .i64 (y20.length : Int) 1)).bind fun x36 => if 0 ≤ x36 then (if x36 < y20.length then ((some (iconv .i64 (rdL (CI .u8) y20 x36))).bind fun x37 => if x37 < 1 then (some (([] : List Int), 15)) else (if x37 > 16 then (some (([] : List Int), 15)) else (if 0 ≤ (isub .i64 (y20.length : Int) x37) then (if (isub .i64 (y20.length : Int) x37) ≤ (y20.length : Int) then (if (y20.length : Int) ≤ y20.length then ((bytes_Repeat.f K ([(iconv .u8 x37)] : List Int) x37).bind fun r40 => (bytes_Equal.f K (subL y20 (isub .i64 (y20.length : Int) x37) (y20.length : Int)) r40).bind fun r41 => if r41 = true then (if 0 ≤ (0 : Int) then (if (0 : Int) ≤ (isub .i64 (y20.length : Int) x37) then (if (isub .i64 (y20.length : Int) x37) ≤ y20.length then (some ((subL y20 0 (isub .i64 (y20.length : Int) x37)), 0)) else none) else none) else none) else (some (([] : List Int), 15))) else none) else none) else none))) else none) else none)) else (some (([] : List Int), 14)))) else (some (([] : List Int), r1))

end Go.Proofs.Ytmpagpbnpgcecaa
