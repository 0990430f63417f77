/- Printed by this work's own program: the plain forms of the functions that the laws reach. -/
import Derived.Test.YtmpagpbnpgcecaaMa
set_option linter.unusedVariables false
set_option linter.unusedSimpArgs false
namespace Go.Proofs.Ytmpagpbnpgcecaa
open Go.Mx

def ref01_Same.l0 (K : Nat) : Nat → (List Int) → (List Int) → Int → Option ((Unit) ⊕ (Bool))
  | 0, _, _, _ => none
  | k + 1, a0, a1, z1 => if z1 < (a0.length : Int) then (if 0 ≤ z1 then (if z1 < a0.length then (if 0 ≤ z1 then (if z1 < a1.length then (if (rdL (CI .u8) a0 z1) = (rdL (CI .u8) a1 z1) then ((some (iadd .i64 z1 1)).bind fun x2 => ref01_Same.l0 K k a0 a1 x2) else (some (.inr false))) else none) else none) else none) else none) else (some (.inl ()))

def ref01_Same.f (K : Nat) (a0 : List Int) (a1 : List Int) : Option (Bool) :=
  if (a0.length : Int) = (a1.length : Int) then ((ref01_Same.l0 K K a0 a1 0).bind fun t0 => (match t0 with | .inl _ => some true | .inr r => some r)) else (some false)

def wrap_wrong.f (K : Nat) (a0 : List Int) (a1 : List Int) (a2 : Int) (a3 : Int) : Option (Int) :=
  ((if (a0.length : Int) = 16 then (if (a1.length : Int) < a2 then (some (.inr 14)) else (if (a1.length : Int) > a3 then (some (.inr 14)) else (if (irem .i64 (a1.length : Int) 8) = 0 then (some (.inl ())) else (some (.inr 14))))) else (if (a0.length : Int) = 24 then (if (a1.length : Int) < a2 then (some (.inr 14)) else (if (a1.length : Int) > a3 then (some (.inr 14)) else (if (irem .i64 (a1.length : Int) 8) = 0 then (some (.inl ())) else (some (.inr 14))))) else (if (a0.length : Int) = 32 then (if (a1.length : Int) < a2 then (some (.inr 14)) else (if (a1.length : Int) > a3 then (some (.inr 14)) else (if (irem .i64 (a1.length : Int) 8) = 0 then (some (.inl ())) else (some (.inr 14))))) else (some (.inr 10)))) : Option ((Unit) ⊕ (Int)))).bind fun tv4 => (match tv4 with | .inl _ => some 0 | .inr r => some r)

def slices_Clone_byte_byte.f (K : Nat) (a0 : List Int) : Option ((List Int)) :=
  if (a0).isEmpty = true then (some ([] : List Int)) else (if ([] : List Int).length + a0.length ≤ 140737488355328 then (some (([] : List Int) ++ a0)) else none)

def aes_sized.f (K : Nat) (a0 : List Int) : Option (Bool) :=
  if (a0.length : Int) = 16 then (some true) else (if (a0.length : Int) = 24 then (some true) else (some ((a0.length : Int) == 32)))

def aes_wrong.f (K : Nat) (a0 : List Int) (a1 : List Int) : Option (Int) :=
  (aes_sized.f K a0).bind fun r1 => if r1 = true then (if (a1.length : Int) = 16 then (some 0) else (some 14)) else (some 10)

def aes_Mul.l0 (K : Nat) : Nat → Int → Int → Int → Option (Int)
  | 0, _, _, _ => none
  | k + 1, z3, z4, z5 => if z5 = 0 then (some z3) else (((if (iand .i64 z5 1) = 1 then ((some (ixor .i64 z3 z4)).bind fun x8 => some x8) else (some z3) : Option (Int))).bind fun y7 => (some (ishl .i64 z4 1)).bind fun x9 => (some (ishr .i64 z5 1)).bind fun x10 => aes_Mul.l0 K k y7 x9 x10)

def aes_Mul.l1 (K : Nat) : Nat → Int → Int → Option (Int)
  | 0, _, _ => none
  | k + 1, z11, z12 => if z12 ≥ 8 then (((if 0 ≤ z12 then (if (iand .i64 (ishr .i64 z11 z12) 1) = 1 then (if 0 ≤ (isub .i64 z12 8) then ((some (ixor .i64 z11 (ishl .i64 283 (isub .i64 z12 8)))).bind fun x15 => some x15) else none) else (some z11)) else none : Option (Int))).bind fun y14 => (some (isub .i64 z12 1)).bind fun x16 => aes_Mul.l1 K k y14 x16) else (some z11)

def aes_Mul.f (K : Nat) (a0 : Int) (a1 : Int) : Option (Int) :=
  (some (iconv .i64 a0)).bind fun x1 => (some (iconv .i64 a1)).bind fun x2 => (aes_Mul.l0 K K 0 x1 x2).bind fun y6 => (aes_Mul.l1 K K y6 14).bind fun y13 => (some (iconv .u8 y13)).bind fun x17 => some x17

def aes_powers.f (K : Nat) : Option (Unit) :=
  some ()

def aes_stirred.l0 (K : Nat) : Nat → Int → Int → Int → Option (Int)
  | 0, _, _, _ => none
  | k + 1, z1, z2, z3 => if z3 < 4 then ((some (ior .u8 (ishl .u8 z1 1) (ishr .u8 z1 7))).bind fun x5 => (some (ixor .u8 z2 x5)).bind fun x6 => aes_stirred.l0 K k x5 x6 (iadd .i64 z3 1)) else (some z2)

def aes_stirred.f (K : Nat) (a0 : Int) : Option (Int) :=
  (aes_stirred.l0 K K a0 a0 0).bind fun y4 => (some (ixor .u8 y4 99)).bind fun x7 => some x7

def aes_made.l0 (K : Nat) : Nat → Int → Int → Int → (Arr 256) → (Arr 256) → Option ((Arr 256) × (Arr 256))
  | 0, _, _, _, _, _ => none
  | k + 1, z4, z5, z6, z7_0, z7_1 => if z6 < 255 then ((aes_stirred.f K z5).bind fun r9 => if 0 ≤ z4 then (if z4 < 256 then (if 0 ≤ r9 then (if r9 < 256 then ((aes_Mul.f K z4 3).bind fun r10 => (aes_Mul.f K z5 246).bind fun r11 => aes_made.l0 K k r10 r11 (iadd .i64 z6 1) (wr z7_0 z4 r9) (wr z7_1 r9 z4)) else none) else none) else none) else none) else (some (z7_0, z7_1))

def aes_made.f (K : Nat) : Option ((Arr 256) × (Arr 256)) :=
  (aes_powers.f K).bind fun () => (aes_made.l0 K K 1 1 0 (wr (zeroA 256) 0 99) (wr (zeroA 256) 99 0)).bind fun (y8_0, y8_1) => some (y8_0, y8_1)

def aes_tables_boxed.f (K : Nat) (a0_0 : Arr 256) (a0_1 : Arr 256) (a1 : Arr 4) : Option ((Arr 4)) :=
  (some (rd a1 0)).bind fun x3 => if 0 ≤ x3 then (if x3 < 256 then ((some (rd a1 1)).bind fun x4 => if 0 ≤ x4 then (if x4 < 256 then ((some (rd a1 2)).bind fun x5 => if 0 ≤ x5 then (if x5 < 256 then ((some (rd a1 3)).bind fun x6 => if 0 ≤ x6 then (if x6 < 256 then (some (wr (wr (wr (wr (zeroA 4) 0 (rd a0_0 x3)) 1 (rd a0_0 x4)) 2 (rd a0_0 x5)) 3 (rd a0_0 x6))) else none) else none) else none) else none) else none) else none) else none) else none

def aes_word_xor.f (K : Nat) (a0 : Arr 4) (a1 : Arr 4) : Option ((Arr 4)) :=
  some (wr (wr (wr (wr (zeroA 4) 0 (ixor .u8 (rd a0 0) (rd a1 0))) 1 (ixor .u8 (rd a0 1) (rd a1 1))) 2 (ixor .u8 (rd a0 2) (rd a1 2))) 3 (ixor .u8 (rd a0 3) (rd a1 3)))

def aes_double.f (K : Nat) (a0 : Int) : Option (Int) :=
  (some (ixor .u8 (ishl .u8 a0 1) (iand .u8 27 (isub .u8 0 (ishr .u8 a0 7))))).bind fun x1 => some x1

def aes_mix.l1 (K : Nat) : Nat → Int → (Arr 16) → Int → Int → (Arr 16) → Option ((Arr 16))
  | 0, _, _, _, _, _ => none
  | k + 1, z1, z2, x5, z6, z7 => if z6 < 4 then (if 0 ≤ z6 then (if z6 < 4 then (if 0 ≤ z6 then (if z6 < 4 then ((some (irem .i64 (iadd .i64 z6 1) 4)).bind fun x9 => if 0 ≤ x9 then (if x9 < 4 then ((aes_double.f K (ixor .u8 (rd (subA 4 z2 z1) z6) (rd (subA 4 z2 z1) x9))).bind fun r10 => (some (iadd .i64 z1 z6)).bind fun x11 => if 0 ≤ x11 then (if x11 < 16 then ((some (ixor .u8 (ixor .u8 (rd (subA 4 z2 z1) z6) x5) r10)).bind fun x12 => aes_mix.l1 K k z1 z2 x5 (iadd .i64 z6 1) (wr z7 x11 x12)) else none) else none) else none) else none) else none) else none) else none) else none) else (some z7)

def aes_mix.l0 (K : Nat) : Nat → Int → (Arr 16) → Option ((Arr 16))
  | 0, _, _ => none
  | k + 1, z1, z2 => if z1 < 16 then (if 0 ≤ z1 then (if z1 ≤ (iadd .i64 z1 4) then (if (iadd .i64 z1 4) ≤ 16 then (if z1 < 16 then (if 4 ≤ ((iadd .i64 z1 4) : Int).toNat - (z1 : Int).toNat then ((some (ixor .u8 (ixor .u8 (ixor .u8 (rd (subA 4 z2 z1) 0) (rd (subA 4 z2 z1) 1)) (rd (subA 4 z2 z1) 2)) (rd (subA 4 z2 z1) 3))).bind fun x5 => (aes_mix.l1 K K z1 z2 x5 0 z2).bind fun y8 => (some (iadd .i64 z1 4)).bind fun x13 => aes_mix.l0 K k x13 y8) else none) else none) else none) else none) else none) else (some z2)

def aes_mix.f (K : Nat) (a0 : Arr 16) : Option ((Arr 16)) :=
  (aes_mix.l0 K K 0 a0).bind fun y3 => some y3

def aes_began_s.l0 (K : Nat) : Nat → (List Int) → Int → (List (Arr 4)) → Option ((List (Arr 4)))
  | 0, _, _, _ => none
  | k + 1, ca0, z15, z17 => if z15 < (ca0.length : Int) then (if 0 ≤ z15 then (if z15 ≤ (ca0.length : Int) then (if (ca0.length : Int) ≤ ca0.length then ((some (imin 4 ((subL ca0 z15 (ca0.length : Int)).length : Int))).bind fun x21 => if 0 ≤ z15 then (if z15 ≤ (iadd .i64 z15 x21) then (if (iadd .i64 z15 x21) ≤ (iadd .i64 z15 x21) then (if (iadd .i64 z15 x21) ≤ ca0.length then (if 4 ≤ (subL ca0 z15 (iadd .i64 z15 x21)).length then (if z17.length + ([(arrL 4 (subL ca0 z15 (iadd .i64 z15 x21)))] : List (Arr 4)).length ≤ 35184372088832 then ((some (iadd .i64 z15 4)).bind fun x25 => aes_began_s.l0 K k ca0 x25 (z17 ++ ([(arrL 4 (subL ca0 z15 (iadd .i64 z15 x21)))] : List (Arr 4)))) else none) else none) else none) else none) else none) else none) else none) else none) else none) else (some z17)

def aes_began_s.l1 (K : Nat) : Nat → (Arr 256) → (Arr 256) → Int → Int → Int → (List (Arr 4)) → Option ((List (Arr 4)))
  | 0, _, _, _, _, _, _ => none
  | k + 1, r6_0, r6_1, x10, z26, z27, z29 => if z26 < (imul .i64 4 (iadd .i64 x10 7)) then ((some (isub .i64 z26 1)).bind fun x32 => if 0 ≤ x32 then (if x32 < z29.length then (((if ¬ x10 = 0 then (if (irem .i64 z26 x10) = 0 then ((aes_tables_boxed.f K r6_0 r6_1 (wr (wr (wr (wr (zeroA 4) 0 (rd (rdL (CA .u8 4 (by decide)) z29 x32) 1)) 1 (rd (rdL (CA .u8 4 (by decide)) z29 x32) 2)) 2 (rd (rdL (CA .u8 4 (by decide)) z29 x32) 3)) 3 (rd (rdL (CA .u8 4 (by decide)) z29 x32) 0))).bind fun r36 => (aes_word_xor.f K r36 (wr (zeroA 4) 0 z27)).bind fun r37 => (aes_Mul.f K z27 2).bind fun r38 => some (r38, r37)) else (if x10 = 8 then (if (irem .i64 z26 8) = 4 then ((aes_tables_boxed.f K r6_0 r6_1 (rdL (CA .u8 4 (by decide)) z29 x32)).bind fun r39 => some (z27, r39)) else (some (z27, (rdL (CA .u8 4 (by decide)) z29 x32)))) else (some (z27, (rdL (CA .u8 4 (by decide)) z29 x32))))) else none : Option (Int × (Arr 4)))).bind fun (y34, y35) => (some (isub .i64 z26 x10)).bind fun x40 => if 0 ≤ x40 then (if x40 < z29.length then ((aes_word_xor.f K (rdL (CA .u8 4 (by decide)) z29 x40) y35).bind fun r41 => if z29.length + ([r41] : List (Arr 4)).length ≤ 35184372088832 then ((some (iadd .i64 z26 1)).bind fun x44 => aes_began_s.l1 K k r6_0 r6_1 x10 x44 y34 (z29 ++ ([r41] : List (Arr 4)))) else none) else none) else none) else none) else none) else (some z29)

def aes_began_s.l3 (K : Nat) : Nat → (List (Arr 4)) → Int → Int → Int → (Arr 16) → Option ((Arr 16))
  | 0, _, _, _, _, _ => none
  | k + 1, y31, z47, x53, z56, z57 => if z56 < ((subL y31 z47 (iadd .i64 z47 x53)).length : Int) then (if 0 ≤ z56 then (if z56 < (subL y31 z47 (iadd .i64 z47 x53)).length then (if 0 ≤ (imul .i64 4 z56) then (if (imul .i64 4 z56) ≤ (16 : Int) then (if (imul .i64 4 z56) < 16 then (aes_began_s.l3 K k y31 z47 x53 (iadd .i64 z56 1) (cpA z57 (imul .i64 4 z56) ((subL (lA (rdL (CA .u8 4 (by decide)) (subL y31 z47 (iadd .i64 z47 x53)) z56)) 0 4).take ((16 : Int).toNat - ((imul .i64 4 z56) : Int).toNat)))) else none) else none) else none) else none) else none) else (some z57)

def aes_began_s.l2 (K : Nat) : Nat → (List (Arr 4)) → Int → (List (Arr 16)) → Option ((List (Arr 16)))
  | 0, _, _, _ => none
  | k + 1, y31, z47, z48 => if z47 < (y31.length : Int) then (if 0 ≤ z47 then (if z47 ≤ (y31.length : Int) then (if (y31.length : Int) ≤ y31.length then ((some (imin 4 ((subL y31 z47 (y31.length : Int)).length : Int))).bind fun x53 => if 0 ≤ z47 then (if z47 ≤ (iadd .i64 z47 x53) then (if (iadd .i64 z47 x53) ≤ (iadd .i64 z47 x53) then (if (iadd .i64 z47 x53) ≤ y31.length then ((aes_began_s.l3 K K y31 z47 x53 0 (zeroA 16)).bind fun y58 => if z48.length + ([y58] : List (Arr 16)).length ≤ 8796093022208 then ((some (iadd .i64 z47 4)).bind fun x62 => aes_began_s.l2 K k y31 x62 (z48 ++ ([y58] : List (Arr 16)))) else none) else none) else none) else none) else none) else none) else none) else none) else (some z48)

def aes_began_s.f (K : Nat) (ca0 : List Int) : Option ((Arr 256) × (Arr 256) × (List (Arr 16))) :=
  (aes_made.f K).bind fun (r6_0, r6_1) => (some (iquo .i64 (ca0.length : Int) 4)).bind fun x10 => if 0 ≤ (imul .i64 4 (iadd .i64 x10 7)) then (if (imul .i64 4 (iadd .i64 x10 7)) ≤ 35184372088832 then ((aes_began_s.l0 K K ca0 0 ([] : List (Arr 4))).bind fun y19 => (aes_began_s.l1 K K r6_0 r6_1 x10 x10 1 y19).bind fun y31 => (aes_began_s.l2 K K y31 0 ([] : List (Arr 16))).bind fun y50 => some (r6_0, r6_1, y50)) else none) else none

def aes_cipher_add_s.l0 (K : Nat) : Nat → (List (Arr 16)) → Int → Int → (Arr 16) → Option ((Arr 16))
  | 0, _, _, _, _ => none
  | k + 1, ca2, ca4, z2, z3 => if z2 < 16 then (if 0 ≤ z2 then (if z2 < 16 then ((some (rd (rdL (CA .u8 16 (by decide)) ca2 ca4) z2)).bind fun x5 => if 0 ≤ z2 then (if z2 < 16 then (if 0 ≤ z2 then (if z2 < 16 then ((some (ixor .u8 (rd z3 z2) x5)).bind fun x6 => aes_cipher_add_s.l0 K k ca2 ca4 (iadd .i64 z2 1) (wr z3 z2 x6)) else none) else none) else none) else none) else none) else none) else (some z3)

def aes_cipher_add_s.f (K : Nat) (ca0 : Arr 256) (ca1 : Arr 256) (ca2 : List (Arr 16)) (ca3 : Arr 16) (ca4 : Int) : Option ((Arr 16)) :=
  if 0 ≤ ca4 then (if ca4 < ca2.length then ((aes_cipher_add_s.l0 K K ca2 ca4 0 ca3).bind fun y4 => some y4) else none) else none

def aes_cipher_there_s.l1 (K : Nat) : Nat → (Arr 256) → (Arr 16) → Int → (Arr 16) → Option ((Arr 16))
  | 0, _, _, _, _ => none
  | k + 1, ca0, z7, z10, z11 => if z10 < 16 then ((some (irem .i64 (iadd .i64 z10 (imul .i64 4 (irem .i64 z10 4))) 16)).bind fun x13 => if 0 ≤ x13 then (if x13 < 16 then ((some (rd z7 x13)).bind fun x14 => if 0 ≤ x14 then (if x14 < 256 then (if 0 ≤ z10 then (if z10 < 16 then ((some (rd ca0 x14)).bind fun x15 => aes_cipher_there_s.l1 K k ca0 z7 (iadd .i64 z10 1) (wr z11 z10 x15)) else none) else none) else none) else none) else none) else none) else (some z11)

def aes_cipher_there_s.l0 (K : Nat) : Nat → (Arr 256) → (Arr 256) → (List (Arr 16)) → Int → Int → (Arr 16) → Option ((Arr 16))
  | 0, _, _, _, _, _, _ => none
  | k + 1, ca0, ca1, ca2, x4, z6, z7 => if z6 ≤ x4 then ((aes_cipher_there_s.l1 K K ca0 z7 0 (zeroA 16)).bind fun y12 => ((if z6 < x4 then ((aes_mix.f K y12).bind fun r17 => some r17) else (some y12) : Option ((Arr 16)))).bind fun y16 => (aes_cipher_add_s.f K ca0 ca1 ca2 y16 z6).bind fun r18 => (some (iadd .i64 z6 1)).bind fun x19 => aes_cipher_there_s.l0 K k ca0 ca1 ca2 x4 x19 r18) else (some z7)

def aes_cipher_there_s.f (K : Nat) (ca0 : Arr 256) (ca1 : Arr 256) (ca2 : List (Arr 16)) (ca3 : Arr 16) : Option ((Arr 16)) :=
  (some (isub .i64 (ca2.length : Int) 1)).bind fun x4 => (aes_cipher_add_s.f K ca0 ca1 ca2 ca3 0).bind fun r5 => (aes_cipher_there_s.l0 K K ca0 ca1 ca2 x4 1 r5).bind fun y8 => some y8

def aes_Block.f (K : Nat) (a0 : List Int) (a1 : List Int) : Option ((List Int) × Int) :=
  (aes_wrong.f K a0 a1).bind fun r1 => if r1 = 0 then (((if 16 ≤ a1.length then ((aes_began_s.f K a0).bind fun (r4, r5, r6) => (aes_cipher_there_s.f K r4 r5 r6 (arrL 16 a1)).bind fun r12 => some r12) else none : Option ((Arr 16)))).bind fun y3 => some ((subL (lA y3) 0 16), 0)) else (some (([] : List Int), r1))

def slices_Concat_byte_byte.l0 (K : Nat) : Nat → (List (List Int)) → Int → Int → Option (Int)
  | 0, _, _, _ => none
  | k + 1, a0, z1, z2 => if z2 < (a0.length : Int) then (if 0 ≤ z2 then (if z2 < a0.length then ((some (iadd .i64 z1 ((rdLL a0 z2).length : Int))).bind fun x5 => if x5 < 0 then (none) else (slices_Concat_byte_byte.l0 K k a0 x5 (iadd .i64 z2 1))) else none) else none) else (some z1)

def slices_Concat_byte_byte.l1 (K : Nat) : Nat → (List (List Int)) → Int → (List Int) → Option ((List Int))
  | 0, _, _, _ => none
  | k + 1, a0, z9, z10 => if z9 < (a0.length : Int) then (if 0 ≤ z9 then (if z9 < a0.length then (if z10.length + (rdLL a0 z9).length ≤ 140737488355328 then (slices_Concat_byte_byte.l1 K k a0 (iadd .i64 z9 1) (z10 ++ (rdLL a0 z9))) else none) else none) else none) else (some z10)

def slices_Concat_byte_byte.f (K : Nat) (a0 : List (List Int)) : Option ((List Int)) :=
  (slices_Concat_byte_byte.l0 K K a0 0 0).bind fun y3 => if y3 < 0 then (none) else ((((some (isub .i64 y3 0)).bind fun x7 => if x7 > 0 then (if 1 ≤ x7 then (if x7 ≤ 140737488355328 then (if 0 ≤ (0 : Int) then (if (0 : Int) ≤ (List.replicate (x7 : Int).toNat (Cod.zero (CI .u8))).length then (some ((List.replicate (x7 : Int).toNat (Cod.zero (CI .u8))).take (0 : Int).toNat)) else none) else none) else none) else none) else (some ([] : List Int)) : Option ((List Int)))).bind fun y6 => (slices_Concat_byte_byte.l1 K K a0 0 y6).bind fun y11 => some y11)

def bits_Join.f (K : Nat) (a0 : List (List Int)) : Option ((List Int)) :=
  (slices_Concat_byte_byte.f K a0).bind fun r1 => some r1

def bits_Le.l0 (K : Nat) : Nat → Int → Int → Int → (List Int) → Option ((List Int))
  | 0, _, _, _, _ => none
  | k + 1, a0, a1, z2, z3 => if z2 < (imin a1 8) then (if 0 ≤ (imul .i64 8 z2) then (if 0 ≤ z2 then (if z2 < z3.length then ((some (iconv .u8 (ishr .u64 a0 (imul .i64 8 z2)))).bind fun x5 => bits_Le.l0 K k a0 a1 (iadd .i64 z2 1) (wrL z3 z2 x5)) else none) else none) else none) else (some z3)

def bits_Le.f (K : Nat) (a0 : Int) (a1 : Int) : Option ((List Int)) :=
  if a1 < 0 then (some ([] : List Int)) else (if a1 > 65536 then (some ([] : List Int)) else (if 0 ≤ a1 then (if a1 ≤ 140737488355328 then ((bits_Le.l0 K K a0 a1 0 (List.replicate (a1 : Int).toNat (Cod.zero (CI .u8)))).bind fun y4 => some y4) else none) else none))

def slices_Reverse_byte_byte_s.l0 (K : Nat) : Nat → Int → Int → (List Int) → Option ((List Int))
  | 0, _, _, _ => none
  | k + 1, z3, z4, z5 => if z3 < z4 then (if 0 ≤ z4 then (if z4 < z5.length then (if 0 ≤ z3 then (if z3 < z5.length then (if 0 ≤ z3 then (if z3 < z5.length then ((some (rdL (CI .u8) z5 z4)).bind fun x7 => if 0 ≤ z4 then (if z4 < (wrL z5 z3 x7).length then ((some (rdL (CI .u8) z5 z3)).bind fun x8 => (some (iadd .i64 z3 1)).bind fun x9 => (some (isub .i64 z4 1)).bind fun x10 => slices_Reverse_byte_byte_s.l0 K k x9 x10 (wrL (wrL z5 z3 x7) z4 x8)) else none) else none) else none) else none) else none) else none) else none) else none) else (some z5)

def slices_Reverse_byte_byte_s.f (K : Nat) (ca0 : List Int) : Option ((List Int)) :=
  (some (isub .i64 (ca0.length : Int) 1)).bind fun x2 => (slices_Reverse_byte_byte_s.l0 K K 0 x2 ca0).bind fun y6 => some y6

def bits_Be.f (K : Nat) (a0 : Int) (a1 : Int) : Option ((List Int)) :=
  (bits_Le.f K a0 a1).bind fun r1 => (slices_Reverse_byte_byte_s.f K r1).bind fun r2 => some r2

def bits_Num.l0 (K : Nat) : Nat → (List Int) → Int → Int → Option (Int)
  | 0, _, _, _ => none
  | k + 1, a0, z1, z2 => if z2 < (a0.length : Int) then (if 0 ≤ z2 then (if z2 < a0.length then ((some (rdL (CI .u8) a0 z2)).bind fun x4 => (some (ior .u64 (ishl .u64 z1 8) (iconv .u64 x4))).bind fun x5 => bits_Num.l0 K k a0 x5 (iadd .i64 z2 1)) else none) else none) else (some z1)

def bits_Num.f (K : Nat) (a0 : List Int) : Option (Int) :=
  (bits_Num.l0 K K a0 0 0).bind fun y3 => some y3

def wrap_shelf_there_s.f (K : Nat) (ca0 : Int) (ca1 : List (List Int)) (ca2 : List Int) (ca3 : Int) : Option (Int × (List (List Int))) :=
  if ¬ (ca1.length : Int) = 0 then ((some (irem .i64 (isub .i64 ca3 1) (ca1.length : Int))).bind fun x3 => if 0 ≤ x3 then (if x3 < ca1.length then ((bits_Be.f K ca0 8).bind fun r5 => (bits_Join.f K ([r5, (rdLL ca1 x3)] : List (List Int))).bind fun r7 => (aes_Block.f K ca2 r7).bind fun (r8, r9) => if 0 ≤ (0 : Int) then (if (0 : Int) ≤ (8 : Int) then (if (8 : Int) ≤ r8.length then (if 0 ≤ (8 : Int) then (if (8 : Int) ≤ (r8.length : Int) then (if (r8.length : Int) ≤ r8.length then ((bits_Num.f K (subL r8 0 8)).bind fun r12 => (some (ixor .u64 r12 (iconv .u64 ca3))).bind fun x13 => some (x13, (wrL ca1 x3 (subL r8 8 (r8.length : Int))))) else none) else none) else none) else none) else none) else none) else none) else none) else none

def wrap_Wrap.l0 (K : Nat) : Nat → (List Int) → Int → (List (List Int)) → Option ((List (List Int)))
  | 0, _, _, _ => none
  | k + 1, r3, z7, z8 => if z7 < (r3.length : Int) then (if 0 ≤ z7 then (if z7 ≤ (r3.length : Int) then (if (r3.length : Int) ≤ r3.length then ((some (imin 8 ((subL r3 z7 (r3.length : Int)).length : Int))).bind fun x13 => if 0 ≤ z7 then (if z7 ≤ (iadd .i64 z7 x13) then (if (iadd .i64 z7 x13) ≤ (iadd .i64 z7 x13) then (if (iadd .i64 z7 x13) ≤ r3.length then (if z8.length + 1 ≤ 5864062014805 then ((some (iadd .i64 z7 8)).bind fun x17 => wrap_Wrap.l0 K k r3 x17 (z8 ++ [(subL r3 z7 (iadd .i64 z7 x13))])) else none) else none) else none) else none) else none) else none) else none) else none) else (some z8)

def wrap_Wrap.l1 (K : Nat) : Nat → (List Int) → Int → Int → Int → (List (List Int)) → Option (Int × (List (List Int)))
  | 0, _, _, _, _, _ => none
  | k + 1, a0, x22, z23, z24_0, z25 => if z23 ≤ x22 then ((wrap_shelf_there_s.f K z24_0 z25 a0 z23).bind fun (r28, r29) => (some (iadd .i64 z23 1)).bind fun x31 => wrap_Wrap.l1 K k a0 x22 x31 r28 r29) else (some (z24_0, z25))

def wrap_Wrap.f (K : Nat) (a0 : List Int) (a1 : List Int) : Option ((List Int) × Int) :=
  (wrap_wrong.f K a0 a1 16 4096).bind fun r2 => if r2 = 0 then ((slices_Clone_byte_byte.f K a1).bind fun r3 => (wrap_Wrap.l0 K K r3 0 ([] : List (List Int))).bind fun y10 => (some (imul .i64 6 (y10.length : Int))).bind fun x22 => (wrap_Wrap.l1 K K a0 x22 1 12008468691120727718 y10).bind fun (y26_0, y27) => (bits_Be.f K y26_0 8).bind fun r32 => (bits_Join.f K y27).bind fun r33 => (bits_Join.f K ([r32, r33] : List (List Int))).bind fun r35 => some (r35, 0)) else (some (([] : List Int), r2))

def aes_unmix.l0 (K : Nat) : Nat → Int → (Arr 16) → Option ((Arr 16))
  | 0, _, _ => none
  | k + 1, z1, z2 => if z1 < 3 then ((aes_mix.f K z2).bind fun r4 => aes_unmix.l0 K k (iadd .i64 z1 1) r4) else (some z2)

def aes_unmix.f (K : Nat) (a0 : Arr 16) : Option ((Arr 16)) :=
  (aes_unmix.l0 K K 0 a0).bind fun y3 => some y3

def aes_cipher_undo_s.l1 (K : Nat) : Nat → (Arr 256) → (Arr 16) → Int → (Arr 16) → Option ((Arr 16))
  | 0, _, _, _, _ => none
  | k + 1, ca1, y9, z12, z13 => if z12 < 16 then (if 0 ≤ z12 then (if z12 < 16 then ((some (rd y9 z12)).bind fun x15 => if 0 ≤ x15 then (if x15 < 256 then ((some (irem .i64 (iadd .i64 z12 (imul .i64 4 (irem .i64 z12 4))) 16)).bind fun x16 => if 0 ≤ x16 then (if x16 < 16 then ((some (rd ca1 x15)).bind fun x17 => aes_cipher_undo_s.l1 K k ca1 y9 (iadd .i64 z12 1) (wr z13 x16 x17)) else none) else none) else none) else none) else none) else none) else (some z13)

def aes_cipher_undo_s.l0 (K : Nat) : Nat → (Arr 256) → (Arr 256) → (List (Arr 16)) → Int → Int → (Arr 16) → Option ((Arr 16))
  | 0, _, _, _, _, _, _ => none
  | k + 1, ca0, ca1, ca2, x4, z5, z6 => if z5 > 0 then ((aes_cipher_add_s.f K ca0 ca1 ca2 z6 z5).bind fun r8 => ((if z5 < x4 then ((aes_unmix.f K r8).bind fun r10 => some r10) else (some r8) : Option ((Arr 16)))).bind fun y9 => (aes_cipher_undo_s.l1 K K ca1 y9 0 (zeroA 16)).bind fun y14 => (some (isub .i64 z5 1)).bind fun x18 => aes_cipher_undo_s.l0 K k ca0 ca1 ca2 x4 x18 y14) else (some z6)

def aes_cipher_undo_s.f (K : Nat) (ca0 : Arr 256) (ca1 : Arr 256) (ca2 : List (Arr 16)) (ca3 : Arr 16) : Option ((Arr 16)) :=
  (some (isub .i64 (ca2.length : Int) 1)).bind fun x4 => (aes_cipher_undo_s.l0 K K ca0 ca1 ca2 x4 x4 ca3).bind fun y7 => (aes_cipher_add_s.f K ca0 ca1 ca2 y7 0).bind fun r19 => some r19

def aes_Back.f (K : Nat) (a0 : List Int) (a1 : List Int) : Option ((List Int) × Int) :=
  (aes_wrong.f K a0 a1).bind fun r1 => if r1 = 0 then (((if 16 ≤ a1.length then ((aes_began_s.f K a0).bind fun (r4, r5, r6) => (aes_cipher_undo_s.f K r4 r5 r6 (arrL 16 a1)).bind fun r12 => some r12) else none : Option ((Arr 16)))).bind fun y3 => some ((subL (lA y3) 0 16), 0)) else (some (([] : List Int), r1))

def wrap_shelf_undo_s.f (K : Nat) (ca0 : Int) (ca1 : List (List Int)) (ca2 : List Int) (ca3 : Int) : Option (Int × (List (List Int))) :=
  if ¬ (ca1.length : Int) = 0 then ((some (irem .i64 (isub .i64 ca3 1) (ca1.length : Int))).bind fun x3 => if 0 ≤ x3 then (if x3 < ca1.length then ((bits_Be.f K (ixor .u64 ca0 (iconv .u64 ca3)) 8).bind fun r5 => (bits_Join.f K ([r5, (rdLL ca1 x3)] : List (List Int))).bind fun r7 => (aes_Back.f K ca2 r7).bind fun (r8, r9) => if 0 ≤ (0 : Int) then (if (0 : Int) ≤ (8 : Int) then (if (8 : Int) ≤ r8.length then (if 0 ≤ (8 : Int) then (if (8 : Int) ≤ (r8.length : Int) then (if (r8.length : Int) ≤ r8.length then ((bits_Num.f K (subL r8 0 8)).bind fun r12 => some (r12, (wrL ca1 x3 (subL r8 8 (r8.length : Int))))) else none) else none) else none) else none) else none) else none) else none) else none) else none

def wrap_Unwrap.l0 (K : Nat) : Nat → (List Int) → Int → (List (List Int)) → Option ((List (List Int)))
  | 0, _, _, _ => none
  | k + 1, r47, z51, z52 => if z51 < (r47.length : Int) then (if 0 ≤ z51 then (if z51 ≤ (r47.length : Int) then (if (r47.length : Int) ≤ r47.length then ((some (imin 8 ((subL r47 z51 (r47.length : Int)).length : Int))).bind fun x57 => if 0 ≤ z51 then (if z51 ≤ (iadd .i64 z51 x57) then (if (iadd .i64 z51 x57) ≤ (iadd .i64 z51 x57) then (if (iadd .i64 z51 x57) ≤ r47.length then (if z52.length + 1 ≤ 5864062014805 then ((some (iadd .i64 z51 8)).bind fun x61 => wrap_Unwrap.l0 K k r47 x61 (z52 ++ [(subL r47 z51 (iadd .i64 z51 x57))])) else none) else none) else none) else none) else none) else none) else none) else none) else (some z52)

def wrap_Unwrap.l1 (K : Nat) : Nat → (List Int) → Int → Int → (List (List Int)) → Int → Option ((List (List Int)) × Int)
  | 0, _, _, _, _, _ => none
  | k + 1, a0, x65, z66, z67, z68_0 => if z66 ≤ x65 then ((some (isub .i64 (iadd .i64 x65 1) z66)).bind fun x71 => (wrap_shelf_undo_s.f K z68_0 z67 a0 x71).bind fun (r72, r73) => (some (iadd .i64 z66 1)).bind fun x75 => wrap_Unwrap.l1 K k a0 x65 x75 r73 r72) else (some (z67, z68_0))

def wrap_Unwrap.f (K : Nat) (a0 : List Int) (a1 : List Int) : Option ((List Int) × Int) :=
  (wrap_wrong.f K a0 a1 24 4104).bind fun r2 => if r2 = 0 then (((if 0 ≤ (0 : Int) then (if (0 : Int) ≤ (8 : Int) then (if (8 : Int) ≤ a1.length then (if 0 ≤ (8 : Int) then (if (8 : Int) ≤ (a1.length : Int) then (if (a1.length : Int) ≤ a1.length then ((bits_Num.f K (subL a1 0 8)).bind fun r10 => (slices_Clone_byte_byte.f K (subL a1 8 (a1.length : Int))).bind fun r11 => (wrap_Unwrap.l0 K K r11 0 ([] : List (List Int))).bind fun y18 => some (r10, y18)) else none) else none) else none) else none) else none) else none : Option (Int × (List (List Int))))).bind fun (y6_0, y7) => (some (imul .i64 6 (y7.length : Int))).bind fun x65 => (wrap_Unwrap.l1 K K a0 x65 1 y7 y6_0).bind fun (y69, y70_0) => if y70_0 = 12008468691120727718 then ((bits_Join.f K y69).bind fun r76 => some (r76, 0)) else (some (([] : List Int), 16))) else (some (([] : List Int), r2))

def law11_awake.f (K : Nat) : Option (Bool) :=
  (((wrap_Wrap.f K (List.replicate (16 : Int).toNat (Cod.zero (CI .u8))) (List.replicate (8 : Int).toNat (Cod.zero (CI .u8)))).bind fun (r4, r5) => some r5 : Option (Int))).bind fun y1 => (((wrap_Unwrap.f K (List.replicate (16 : Int).toNat (Cod.zero (CI .u8))) (List.replicate (24 : Int).toNat (Cod.zero (CI .u8)))).bind fun (r13, r14) => some r14 : Option (Int))).bind fun y10 => if y1 = 14 then (some (y10 == 16)) else (some false)

end Go.Proofs.Ytmpagpbnpgcecaa
