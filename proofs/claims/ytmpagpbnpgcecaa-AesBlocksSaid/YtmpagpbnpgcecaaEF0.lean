/- Printed by this work's own program: the plain forms of the functions that the laws reach. -/
import Derived.Test.YtmpagpbnpgcecaaMy
set_option linter.unusedVariables false
set_option linter.unusedSimpArgs false
namespace Go.Proofs.Ytmpagpbnpgcecaa
open Go.Mx

def aes_Mul.l0 (K : Nat) : Nat → Int → Int → Int → Option (Int)
  | 0, _, _, _ => none
  | k + 1, z3, z4, z5 => if z5 = 0 then (some z3) else (((if (iand .i64 z5 1) = 1 then ((some (ixor .i64 z3 z4)).bind fun x8 => some x8) else (some z3) : Option (Int))).bind fun y7 => (some (ishl .i64 z4 1)).bind fun x9 => (some (ishr .i64 z5 1)).bind fun x10 => aes_Mul.l0 K k y7 x9 x10)

def aes_Mul.l1 (K : Nat) : Nat → Int → Int → Option (Int)
  | 0, _, _ => none
  | k + 1, z11, z12 => if z12 ≥ 8 then (((if 0 ≤ z12 then (if (iand .i64 (ishr .i64 z11 z12) 1) = 1 then (if 0 ≤ (isub .i64 z12 8) then ((some (ixor .i64 z11 (ishl .i64 283 (isub .i64 z12 8)))).bind fun x15 => some x15) else none) else (some z11)) else none : Option (Int))).bind fun y14 => (some (isub .i64 z12 1)).bind fun x16 => aes_Mul.l1 K k y14 x16) else (some z11)

def aes_Mul.f (K : Nat) (a0 : Int) (a1 : Int) : Option (Int) :=
  (some (iconv .i64 a0)).bind fun x1 => (some (iconv .i64 a1)).bind fun x2 => (aes_Mul.l0 K K 0 x1 x2).bind fun y6 => (aes_Mul.l1 K K y6 14).bind fun y13 => (some (iconv .u8 y13)).bind fun x17 => some x17

def aes_powers.f (K : Nat) : Option (Unit) :=
  some ()

def aes_stirred.l0 (K : Nat) : Nat → Int → Int → Int → Option (Int)
  | 0, _, _, _ => none
  | k + 1, z1, z2, z3 => if z3 < 4 then ((some (ior .u8 (ishl .u8 z1 1) (ishr .u8 z1 7))).bind fun x5 => (some (ixor .u8 z2 x5)).bind fun x6 => aes_stirred.l0 K k x5 x6 (iadd .i64 z3 1)) else (some z2)

def aes_stirred.f (K : Nat) (a0 : Int) : Option (Int) :=
  (aes_stirred.l0 K K a0 a0 0).bind fun y4 => (some (ixor .u8 y4 99)).bind fun x7 => some x7

def aes_made.l0 (K : Nat) : Nat → Int → Int → Int → (Arr 256) → (Arr 256) → Option ((Arr 256) × (Arr 256))
  | 0, _, _, _, _, _ => none
  | k + 1, z4, z5, z6, z7_0, z7_1 => if z6 < 255 then ((aes_stirred.f K z5).bind fun r9 => if 0 ≤ z4 then (if z4 < 256 then (if 0 ≤ r9 then (if r9 < 256 then ((aes_Mul.f K z4 3).bind fun r10 => (aes_Mul.f K z5 246).bind fun r11 => aes_made.l0 K k r10 r11 (iadd .i64 z6 1) (wr z7_0 z4 r9) (wr z7_1 r9 z4)) else none) else none) else none) else none) else (some (z7_0, z7_1))

def aes_made.f (K : Nat) : Option ((Arr 256) × (Arr 256)) :=
  (aes_powers.f K).bind fun () => (aes_made.l0 K K 1 1 0 (wr (zeroA 256) 0 99) (wr (zeroA 256) 99 0)).bind fun (y8_0, y8_1) => some (y8_0, y8_1)

def aes_Box.f (K : Nat) (a0 : Int) : Option (Int) :=
  (aes_made.f K).bind fun (r1_0, r1_1) => if 0 ≤ a0 then (if a0 < 256 then ((some (rd r1_0 a0)).bind fun x3 => some x3) else none) else none

def aes_sized.f (K : Nat) (a0 : List Int) : Option (Bool) :=
  if (a0.length : Int) = 16 then (some true) else (if (a0.length : Int) = 24 then (some true) else (some ((a0.length : Int) == 32)))

def aes_wrong.f (K : Nat) (a0 : List Int) (a1 : List Int) : Option (Int) :=
  (aes_sized.f K a0).bind fun r1 => if r1 = true then (if (a1.length : Int) = 16 then (some 0) else (some 14)) else (some 10)

def aes_tables_boxed.f (K : Nat) (a0_0 : Arr 256) (a0_1 : Arr 256) (a1 : Arr 4) : Option ((Arr 4)) :=
  (some (rd a1 0)).bind fun x3 => if 0 ≤ x3 then (if x3 < 256 then ((some (rd a1 1)).bind fun x4 => if 0 ≤ x4 then (if x4 < 256 then ((some (rd a1 2)).bind fun x5 => if 0 ≤ x5 then (if x5 < 256 then ((some (rd a1 3)).bind fun x6 => if 0 ≤ x6 then (if x6 < 256 then (some (wr (wr (wr (wr (zeroA 4) 0 (rd a0_0 x3)) 1 (rd a0_0 x4)) 2 (rd a0_0 x5)) 3 (rd a0_0 x6))) else none) else none) else none) else none) else none) else none) else none) else none

def aes_word_xor.f (K : Nat) (a0 : Arr 4) (a1 : Arr 4) : Option ((Arr 4)) :=
  some (wr (wr (wr (wr (zeroA 4) 0 (ixor .u8 (rd a0 0) (rd a1 0))) 1 (ixor .u8 (rd a0 1) (rd a1 1))) 2 (ixor .u8 (rd a0 2) (rd a1 2))) 3 (ixor .u8 (rd a0 3) (rd a1 3)))

def aes_double.f (K : Nat) (a0 : Int) : Option (Int) :=
  (some (ixor .u8 (ishl .u8 a0 1) (iand .u8 27 (isub .u8 0 (ishr .u8 a0 7))))).bind fun x1 => some x1

def aes_mix.l1 (K : Nat) : Nat → Int → (Arr 16) → Int → Int → (Arr 16) → Option ((Arr 16))
  | 0, _, _, _, _, _ => none
  | k + 1, z1, z2, x5, z6, z7 => if z6 < 4 then (if 0 ≤ z6 then (if z6 < 4 then (if 0 ≤ z6 then (if z6 < 4 then ((some (irem .i64 (iadd .i64 z6 1) 4)).bind fun x9 => if 0 ≤ x9 then (if x9 < 4 then ((aes_double.f K (ixor .u8 (rd (subA 4 z2 z1) z6) (rd (subA 4 z2 z1) x9))).bind fun r10 => (some (iadd .i64 z1 z6)).bind fun x11 => if 0 ≤ x11 then (if x11 < 16 then ((some (ixor .u8 (ixor .u8 (rd (subA 4 z2 z1) z6) x5) r10)).bind fun x12 => aes_mix.l1 K k z1 z2 x5 (iadd .i64 z6 1) (wr z7 x11 x12)) else none) else none) else none) else none) else none) else none) else none) else none) else (some z7)

def aes_mix.l0 (K : Nat) : Nat → Int → (Arr 16) → Option ((Arr 16))
  | 0, _, _ => none
  | k + 1, z1, z2 => if z1 < 16 then (if 0 ≤ z1 then (if z1 ≤ (iadd .i64 z1 4) then (if (iadd .i64 z1 4) ≤ 16 then (if z1 < 16 then (if 4 ≤ ((iadd .i64 z1 4) : Int).toNat - (z1 : Int).toNat then ((some (ixor .u8 (ixor .u8 (ixor .u8 (rd (subA 4 z2 z1) 0) (rd (subA 4 z2 z1) 1)) (rd (subA 4 z2 z1) 2)) (rd (subA 4 z2 z1) 3))).bind fun x5 => (aes_mix.l1 K K z1 z2 x5 0 z2).bind fun y8 => (some (iadd .i64 z1 4)).bind fun x13 => aes_mix.l0 K k x13 y8) else none) else none) else none) else none) else none) else (some z2)

def aes_mix.f (K : Nat) (a0 : Arr 16) : Option ((Arr 16)) :=
  (aes_mix.l0 K K 0 a0).bind fun y3 => some y3

def aes_Block.l0 (K : Nat) : Nat → (List Int) → Int → (List (Arr 4)) → Option ((List (Arr 4)))
  | 0, _, _, _ => none
  | k + 1, a0, z125, z127 => if z125 < (a0.length : Int) then (if 0 ≤ z125 then (if z125 ≤ (a0.length : Int) then (if (a0.length : Int) ≤ a0.length then ((some (imin 4 ((subL a0 z125 (a0.length : Int)).length : Int))).bind fun x131 => if 0 ≤ z125 then (if z125 ≤ (iadd .i64 z125 x131) then (if (iadd .i64 z125 x131) ≤ (iadd .i64 z125 x131) then (if (iadd .i64 z125 x131) ≤ a0.length then (if 4 ≤ (subL a0 z125 (iadd .i64 z125 x131)).length then (if z127.length + ([(arrL 4 (subL a0 z125 (iadd .i64 z125 x131)))] : List (Arr 4)).length ≤ 35184372088832 then ((some (iadd .i64 z125 4)).bind fun x135 => aes_Block.l0 K k a0 x135 (z127 ++ ([(arrL 4 (subL a0 z125 (iadd .i64 z125 x131)))] : List (Arr 4)))) else none) else none) else none) else none) else none) else none) else none) else none) else none) else (some z127)

def aes_Block.l1 (K : Nat) : Nat → (Arr 256) → (Arr 256) → Int → Int → Int → (List (Arr 4)) → Option ((List (Arr 4)))
  | 0, _, _, _, _, _, _ => none
  | k + 1, r116_0, r116_1, x120, z136, z137, z139 => if z136 < (imul .i64 4 (iadd .i64 x120 7)) then ((some (isub .i64 z136 1)).bind fun x142 => if 0 ≤ x142 then (if x142 < z139.length then (((if ¬ x120 = 0 then (if (irem .i64 z136 x120) = 0 then ((aes_tables_boxed.f K r116_0 r116_1 (wr (wr (wr (wr (zeroA 4) 0 (rd (rdL (CA .u8 4 (by decide)) z139 x142) 1)) 1 (rd (rdL (CA .u8 4 (by decide)) z139 x142) 2)) 2 (rd (rdL (CA .u8 4 (by decide)) z139 x142) 3)) 3 (rd (rdL (CA .u8 4 (by decide)) z139 x142) 0))).bind fun r146 => (aes_word_xor.f K r146 (wr (zeroA 4) 0 z137)).bind fun r147 => (aes_Mul.f K z137 2).bind fun r148 => some (r148, r147)) else (if x120 = 8 then (if (irem .i64 z136 8) = 4 then ((aes_tables_boxed.f K r116_0 r116_1 (rdL (CA .u8 4 (by decide)) z139 x142)).bind fun r149 => some (z137, r149)) else (some (z137, (rdL (CA .u8 4 (by decide)) z139 x142)))) else (some (z137, (rdL (CA .u8 4 (by decide)) z139 x142))))) else none : Option (Int × (Arr 4)))).bind fun (y144, y145) => (some (isub .i64 z136 x120)).bind fun x150 => if 0 ≤ x150 then (if x150 < z139.length then ((aes_word_xor.f K (rdL (CA .u8 4 (by decide)) z139 x150) y145).bind fun r151 => if z139.length + ([r151] : List (Arr 4)).length ≤ 35184372088832 then ((some (iadd .i64 z136 1)).bind fun x154 => aes_Block.l1 K k r116_0 r116_1 x120 x154 y144 (z139 ++ ([r151] : List (Arr 4)))) else none) else none) else none) else none) else none) else (some z139)

def aes_Block.l3 (K : Nat) : Nat → (List (Arr 4)) → Int → Int → Int → (Arr 16) → Option ((Arr 16))
  | 0, _, _, _, _, _ => none
  | k + 1, y141, z157, x163, z166, z167 => if z166 < ((subL y141 z157 (iadd .i64 z157 x163)).length : Int) then (if 0 ≤ z166 then (if z166 < (subL y141 z157 (iadd .i64 z157 x163)).length then (if 0 ≤ (imul .i64 4 z166) then (if (imul .i64 4 z166) ≤ (16 : Int) then (if (imul .i64 4 z166) < 16 then (aes_Block.l3 K k y141 z157 x163 (iadd .i64 z166 1) (cpA z167 (imul .i64 4 z166) ((subL (lA (rdL (CA .u8 4 (by decide)) (subL y141 z157 (iadd .i64 z157 x163)) z166)) 0 4).take ((16 : Int).toNat - ((imul .i64 4 z166) : Int).toNat)))) else none) else none) else none) else none) else none) else (some z167)

def aes_Block.l2 (K : Nat) : Nat → (List (Arr 4)) → Int → (List (Arr 16)) → Option ((List (Arr 16)))
  | 0, _, _, _ => none
  | k + 1, y141, z157, z158 => if z157 < (y141.length : Int) then (if 0 ≤ z157 then (if z157 ≤ (y141.length : Int) then (if (y141.length : Int) ≤ y141.length then ((some (imin 4 ((subL y141 z157 (y141.length : Int)).length : Int))).bind fun x163 => if 0 ≤ z157 then (if z157 ≤ (iadd .i64 z157 x163) then (if (iadd .i64 z157 x163) ≤ (iadd .i64 z157 x163) then (if (iadd .i64 z157 x163) ≤ y141.length then ((aes_Block.l3 K K y141 z157 x163 0 (zeroA 16)).bind fun y168 => if z158.length + ([y168] : List (Arr 16)).length ≤ 8796093022208 then ((some (iadd .i64 z157 4)).bind fun x172 => aes_Block.l2 K k y141 x172 (z158 ++ ([y168] : List (Arr 16)))) else none) else none) else none) else none) else none) else none) else none) else none) else (some z158)

def aes_Block.l4 (K : Nat) : Nat → (List (Arr 16)) → Int → (Arr 16) → Option ((Arr 16))
  | 0, _, _, _ => none
  | k + 1, y160, z176, z177 => if z176 < 16 then (if 0 ≤ z176 then (if z176 < 16 then ((some (rd (rdL (CA .u8 16 (by decide)) y160 0) z176)).bind fun x179 => if 0 ≤ z176 then (if z176 < 16 then (if 0 ≤ z176 then (if z176 < 16 then ((some (ixor .u8 (rd z177 z176) x179)).bind fun x180 => aes_Block.l4 K k y160 (iadd .i64 z176 1) (wr z177 z176 x180)) else none) else none) else none) else none) else none) else none) else (some z177)

def aes_Block.l6 (K : Nat) : Nat → (Arr 256) → (Arr 16) → Int → (Arr 16) → Option ((Arr 16))
  | 0, _, _, _, _ => none
  | k + 1, r116_0, z182, z185, z186 => if z185 < 16 then ((some (irem .i64 (iadd .i64 z185 (imul .i64 4 (irem .i64 z185 4))) 16)).bind fun x188 => if 0 ≤ x188 then (if x188 < 16 then ((some (rd z182 x188)).bind fun x189 => if 0 ≤ x189 then (if x189 < 256 then (if 0 ≤ z185 then (if z185 < 16 then ((some (rd r116_0 x189)).bind fun x190 => aes_Block.l6 K k r116_0 z182 (iadd .i64 z185 1) (wr z186 z185 x190)) else none) else none) else none) else none) else none) else none) else (some z186)

def aes_Block.l7 (K : Nat) : Nat → (List (Arr 16)) → Int → Int → (Arr 16) → Option ((Arr 16))
  | 0, _, _, _, _ => none
  | k + 1, y160, z181, z193, z194 => if z193 < 16 then (if 0 ≤ z193 then (if z193 < 16 then ((some (rd (rdL (CA .u8 16 (by decide)) y160 z181) z193)).bind fun x196 => if 0 ≤ z193 then (if z193 < 16 then (if 0 ≤ z193 then (if z193 < 16 then ((some (ixor .u8 (rd z194 z193) x196)).bind fun x197 => aes_Block.l7 K k y160 z181 (iadd .i64 z193 1) (wr z194 z193 x197)) else none) else none) else none) else none) else none) else none) else (some z194)

def aes_Block.l5 (K : Nat) : Nat → (Arr 256) → (List (Arr 16)) → Int → Int → (Arr 16) → Option ((Arr 16))
  | 0, _, _, _, _, _ => none
  | k + 1, r116_0, y160, x175, z181, z182 => if z181 ≤ x175 then ((aes_Block.l6 K K r116_0 z182 0 (zeroA 16)).bind fun y187 => ((if z181 < x175 then ((aes_mix.f K y187).bind fun r192 => some r192) else (some y187) : Option ((Arr 16)))).bind fun y191 => if 0 ≤ z181 then (if z181 < y160.length then ((aes_Block.l7 K K y160 z181 0 y191).bind fun y195 => (some (iadd .i64 z181 1)).bind fun x198 => aes_Block.l5 K k r116_0 y160 x175 x198 y195) else none) else none) else (some z182)

def aes_Block.f (K : Nat) (a0 : List Int) (a1 : List Int) : Option ((List Int) × Int) :=
  (aes_wrong.f K a0 a1).bind fun r1 => if r1 = 0 then (((if 16 ≤ a1.length then ((aes_made.f K).bind fun (r4_0, r4_1) => (some (iquo .i64 (a0.length : Int) 4)).bind fun x8 => if 0 ≤ (imul .i64 4 (iadd .i64 x8 7)) then (if (imul .i64 4 (iadd .i64 x8 7)) ≤ 35184372088832 then ((aes_Block.l0 K K a0 0 ([] : List (Arr 4))).bind fun y17 => (aes_Block.l1 K K r4_0 r4_1 x8 x8 1 y17).bind fun y29 => (aes_Block.l2 K K y29 0 ([] : List (Arr 16))).bind fun y48 => (some (isub .i64 (y48.length : Int) 1)).bind fun x63 => if 0 ≤ (0 : Int) then (if (0 : Int) < y48.length then ((aes_Block.l4 K K y48 0 (arrL 16 a1)).bind fun y66 => (aes_Block.l5 K K r4_0 y48 x63 1 y66).bind fun y71 => some y71) else none) else none) else none) else none) else none : Option ((Arr 16)))).bind fun y3 => some ((subL (lA y3) 0 16), 0)) else (some (([] : List Int), r1))

def law10_awake.f (K : Nat) : Option (Bool) :=
  (((aes_Block.f K (List.replicate (15 : Int).toNat (Cod.zero (CI .u8))) (List.replicate (16 : Int).toNat (Cod.zero (CI .u8)))).bind fun (r4, r5) => some r5 : Option (Int))).bind fun y1 => (aes_Box.f K 0).bind fun r10 => if r10 = 99 then ((aes_Box.f K 83).bind fun r11 => if r11 = 237 then ((aes_Mul.f K 87 131).bind fun r12 => if r12 = 193 then (some (y1 == 10)) else (some false)) else (some false)) else (some false)

def ref10_Sized.f (K : Nat) (a0 : List Int) : Option (Bool) :=
  if (a0.length : Int) = 16 then (some true) else (if (a0.length : Int) = 24 then (some true) else (some ((a0.length : Int) == 32)))

def ref10_Mul.l0 (K : Nat) : Nat → Int → Int → Int → Int → Option (Int)
  | 0, _, _, _, _ => none
  | k + 1, z1, z2, z3, z4 => if z4 < 8 then (((((if (iand .u8 z2 1) = 1 then ((some (ixor .u8 z3 z1)).bind fun x10 => some x10) else (some z3) : Option (Int))).bind fun y9 => if z1 ≥ 128 then ((some (ishl .u8 z1 1)).bind fun x11 => (some (ixor .u8 x11 27)).bind fun x12 => (some (ishr .u8 z2 1)).bind fun x13 => some (x12, x13, y9)) else ((some (ishl .u8 z1 1)).bind fun x14 => (some (ishr .u8 z2 1)).bind fun x15 => some (x14, x15, y9)) : Option (Int × Int × Int))).bind fun (y6, y7, y8) => (some (iadd .i64 z4 1)).bind fun x16 => ref10_Mul.l0 K k y6 y7 y8 x16) else (some z3)

def ref10_Mul.f (K : Nat) (a0 : Int) (a1 : Int) : Option (Int) :=
  (ref10_Mul.l0 K K a0 a1 0 0).bind fun y5 => some y5

def ref10_inverse.l0 (K : Nat) : Nat → Int → Int → Int → Option (Int)
  | 0, _, _, _ => none
  | k + 1, z1, z2, z3 => if z3 < 7 then ((ref10_Mul.f K z1 z1).bind fun r5 => (ref10_Mul.f K z2 r5).bind fun r6 => (some (iadd .i64 z3 1)).bind fun x7 => ref10_inverse.l0 K k r5 r6 x7) else (some z2)

def ref10_inverse.f (K : Nat) (a0 : Int) : Option (Int) :=
  (ref10_inverse.l0 K K a0 1 0).bind fun y4 => some y4

def ref10_Box.l0 (K : Nat) : Nat → Int → Int → Int → Option (Int)
  | 0, _, _, _ => none
  | k + 1, r1, z2, z3 => if z3 < 5 then (if 0 ≤ z3 then (if 0 ≤ (isub .i64 8 z3) then ((some (ixor .u8 z2 (ior .u8 (ishl .u8 r1 z3) (ishr .u8 r1 (isub .i64 8 z3))))).bind fun x5 => (some (iadd .i64 z3 1)).bind fun x6 => ref10_Box.l0 K k r1 x5 x6) else none) else none) else (some z2)

def ref10_Box.f (K : Nat) (a0 : Int) : Option (Int) :=
  (ref10_inverse.f K a0).bind fun r1 => (ref10_Box.l0 K K r1 99 0).bind fun y4 => some y4

def ref10_boxes.l0 (K : Nat) : Nat → Int → (Arr 256) → (Arr 256) → Option ((Arr 256) × (Arr 256))
  | 0, _, _, _ => none
  | k + 1, z5, z6, z7 => if z5 < 256 then ((ref10_Box.f K (iconv .u8 z5)).bind fun r10 => if 0 ≤ z5 then (if z5 < 256 then (if 0 ≤ r10 then (if r10 < 256 then ((some (iconv .u8 z5)).bind fun x11 => (some (iadd .i64 z5 1)).bind fun x12 => ref10_boxes.l0 K k x12 (wr z6 r10 x11) (wr z7 z5 r10)) else none) else none) else none) else none) else (some (z6, z7))

def ref10_boxes.f (K : Nat) : Option ((Arr 256) × (Arr 256)) :=
  (ref10_boxes.l0 K K 0 (zeroA 256) (zeroA 256)).bind fun (y8, y9) => some (y9, y8)

def ref01_Xor.l0 (K : Nat) : Nat → (List Int) → (List Int) → Int → (List Int) → Option ((List Int))
  | 0, _, _, _, _ => none
  | k + 1, a0, a1, z1, z2 => if z1 < (a0.length : Int) then (if z1 < (a1.length : Int) then (if 0 ≤ z1 then (if z1 < a0.length then (if 0 ≤ z1 then (if z1 < a1.length then (if z2.length + ([(ixor .u8 (rdL (CI .u8) a0 z1) (rdL (CI .u8) a1 z1))] : List Int).length ≤ 140737488355328 then ((some (iadd .i64 z1 1)).bind fun x6 => ref01_Xor.l0 K k a0 a1 x6 (z2 ++ ([(ixor .u8 (rdL (CI .u8) a0 z1) (rdL (CI .u8) a1 z1))] : List Int))) else none) else none) else none) else none) else none) else (some z2)) else (some z2)

def ref01_Xor.f (K : Nat) (a0 : List Int) (a1 : List Int) : Option ((List Int)) :=
  (ref01_Xor.l0 K K a0 a1 0 ([] : List Int)).bind fun y3 => some y3

def ref10_rows.l1 (K : Nat) : Nat → (List Int) → Int → Int → Int → (List Int) → Option ((List Int))
  | 0, _, _, _, _, _ => none
  | k + 1, a0, a1, z2, z5, z6 => if z5 < 4 then ((some (iadd .i64 (imul .i64 4 (irem .i64 (iadd .i64 (iadd .i64 z2 (imul .i64 a1 z5)) 4) 4)) z5)).bind fun x8 => if 0 ≤ x8 then (if x8 < a0.length then ((some (iadd .i64 (imul .i64 4 z2) z5)).bind fun x9 => if 0 ≤ x9 then (if x9 < z6.length then ((some (rdL (CI .u8) a0 x8)).bind fun x10 => (some (iadd .i64 z5 1)).bind fun x11 => ref10_rows.l1 K k a0 a1 z2 x11 (wrL z6 x9 x10)) else none) else none) else none) else none) else (some z6)

def ref10_rows.l0 (K : Nat) : Nat → (List Int) → Int → Int → (List Int) → Option ((List Int))
  | 0, _, _, _, _ => none
  | k + 1, a0, a1, z2, z3 => if z2 < 4 then ((ref10_rows.l1 K K a0 a1 z2 0 z3).bind fun y7 => (some (iadd .i64 z2 1)).bind fun x12 => ref10_rows.l0 K k a0 a1 x12 y7) else (some z3)

def ref10_rows.f (K : Nat) (a0 : List Int) (a1 : Int) : Option ((List Int)) :=
  (ref10_rows.l0 K K a0 a1 0 (List.replicate (16 : Int).toNat (Cod.zero (CI .u8)))).bind fun y4 => some y4

def ref10_each.l0 (K : Nat) : Nat → (List Int) → (Arr 256) → Int → (List Int) → Option ((List Int))
  | 0, _, _, _, _ => none
  | k + 1, a0, a1, z3, z4 => if z3 < 16 then (if 0 ≤ z3 then (if z3 < a0.length then ((some (rdL (CI .u8) a0 z3)).bind fun x6 => if 0 ≤ x6 then (if x6 < 256 then (if 0 ≤ z3 then (if z3 < z4.length then ((some (rd a1 x6)).bind fun x7 => (some (iadd .i64 z3 1)).bind fun x8 => ref10_each.l0 K k a0 a1 x8 (wrL z4 z3 x7)) else none) else none) else none) else none) else none) else none) else (some z4)

def ref10_each.f (K : Nat) (a0 : List Int) (a1 : Arr 256) : Option ((List Int)) :=
  (ref10_each.l0 K K a0 a1 0 (List.replicate (16 : Int).toNat (Cod.zero (CI .u8)))).bind fun y5 => some y5

def ref10_columns.l2 (K : Nat) : Nat → (List Int) → (Arr 4) → Int → Int → Int → Int → Option (Int)
  | 0, _, _, _, _, _, _ => none
  | k + 1, a0, a1, z3, z6, z9, z10 => if z10 < 4 then (if 0 ≤ z10 then (if z10 < 4 then ((some (iadd .i64 (imul .i64 4 z3) (irem .i64 (iadd .i64 z6 z10) 4))).bind fun x12 => if 0 ≤ x12 then (if x12 < a0.length then ((ref10_Mul.f K (rd a1 z10) (rdL (CI .u8) a0 x12)).bind fun r13 => (some (ixor .u8 z9 r13)).bind fun x14 => (some (iadd .i64 z10 1)).bind fun x15 => ref10_columns.l2 K k a0 a1 z3 z6 x14 x15) else none) else none) else none) else none) else (some z9)

def ref10_columns.l1 (K : Nat) : Nat → (List Int) → (Arr 4) → Int → Int → (List Int) → Option ((List Int))
  | 0, _, _, _, _, _ => none
  | k + 1, a0, a1, z3, z6, z7 => if z6 < 4 then ((ref10_columns.l2 K K a0 a1 z3 z6 0 0).bind fun y11 => (some (iadd .i64 (imul .i64 4 z3) z6)).bind fun x16 => if 0 ≤ x16 then (if x16 < z7.length then ((some (iadd .i64 z6 1)).bind fun x17 => ref10_columns.l1 K k a0 a1 z3 x17 (wrL z7 x16 y11)) else none) else none) else (some z7)

def ref10_columns.l0 (K : Nat) : Nat → (List Int) → (Arr 4) → Int → (List Int) → Option ((List Int))
  | 0, _, _, _, _ => none
  | k + 1, a0, a1, z3, z4 => if z3 < 4 then ((ref10_columns.l1 K K a0 a1 z3 0 z4).bind fun y8 => (some (iadd .i64 z3 1)).bind fun x18 => ref10_columns.l0 K k a0 a1 x18 y8) else (some z4)

def ref10_columns.f (K : Nat) (a0 : List Int) (a1 : Arr 4) : Option ((List Int)) :=
  (ref10_columns.l0 K K a0 a1 0 (List.replicate (16 : Int).toNat (Cod.zero (CI .u8)))).bind fun y5 => some y5

def ref10_there.l0 (K : Nat) : Nat → (List Int) → (Arr 256) → Int → Int → (List Int) → Option ((List Int))
  | 0, _, _, _, _, _ => none
  | k + 1, a0, a2, x2, z5, z6 => if z5 ≤ x2 then ((ref10_each.f K z6 a2).bind fun r8 => (ref10_rows.f K r8 1).bind fun r9 => ((if z5 < x2 then ((ref10_columns.f K r9 (wr (wr (wr (wr (zeroA 4) 0 2) 1 3) 2 1) 3 1)).bind fun r11 => some r11) else (some r9) : Option ((List Int)))).bind fun y10 => if 0 ≤ (imul .i64 16 z5) then (if (imul .i64 16 z5) ≤ (iadd .i64 (imul .i64 16 z5) 16) then (if (iadd .i64 (imul .i64 16 z5) 16) ≤ a0.length then ((ref01_Xor.f K y10 (subL a0 (imul .i64 16 z5) (iadd .i64 (imul .i64 16 z5) 16))).bind fun r13 => (some (iadd .i64 z5 1)).bind fun x14 => ref10_there.l0 K k a0 a2 x2 x14 r13) else none) else none) else none) else (some z6)

def ref10_there.f (K : Nat) (a0 : List Int) (a1 : List Int) (a2 : Arr 256) : Option ((List Int)) :=
  (some (isub .i64 (iquo .i64 (a0.length : Int) 16) 1)).bind fun x2 => if 0 ≤ (0 : Int) then (if (0 : Int) ≤ (16 : Int) then (if (16 : Int) ≤ a0.length then ((ref01_Xor.f K a1 (subL a0 0 16)).bind fun r4 => (ref10_there.l0 K K a0 a2 x2 1 r4).bind fun y7 => some y7) else none) else none) else none

def ref10_keys.l1 (K : Nat) : Nat → Int → Int → (List Int) → Int → (List Int) → Option ((List Int))
  | 0, _, _, _, _, _ => none
  | k + 1, x2, z5, y14, z26, z27 => if z26 < 4 then ((some (iadd .i64 (imul .i64 4 (isub .i64 z5 x2)) z26)).bind fun x29 => if 0 ≤ x29 then (if x29 < z27.length then (if 0 ≤ z26 then (if z26 < y14.length then (if z27.length + ([(ixor .u8 (rdL (CI .u8) z27 x29) (rdL (CI .u8) y14 z26))] : List Int).length ≤ 140737488355328 then ((some (iadd .i64 z26 1)).bind fun x32 => ref10_keys.l1 K k x2 z5 y14 x32 (z27 ++ ([(ixor .u8 (rdL (CI .u8) z27 x29) (rdL (CI .u8) y14 z26))] : List Int))) else none) else none) else none) else none) else none) else (some z27)

def ref10_keys.l0 (K : Nat) : Nat → (Arr 256) → Int → Int → Int → (List Int) → Option ((List Int))
  | 0, _, _, _, _, _ => none
  | k + 1, a1, x2, z4, z5, z6 => if z5 < (imul .i64 4 (iadd .i64 x2 7)) then ((some (isub .i64 (imul .i64 4 z5) 4)).bind fun x8 => if 0 ≤ x8 then (if x8 < z6.length then ((some (isub .i64 (imul .i64 4 z5) 3)).bind fun x9 => if 0 ≤ x9 then (if x9 < z6.length then ((some (isub .i64 (imul .i64 4 z5) 2)).bind fun x10 => if 0 ≤ x10 then (if x10 < z6.length then ((some (isub .i64 (imul .i64 4 z5) 1)).bind fun x11 => if 0 ≤ x11 then (if x11 < z6.length then (((if ¬ x2 = 0 then (if (irem .i64 z5 x2) = 0 then (if 0 ≤ (1 : Int) then (if (1 : Int) < ([(rdL (CI .u8) z6 x8), (rdL (CI .u8) z6 x9), (rdL (CI .u8) z6 x10), (rdL (CI .u8) z6 x11)] : List Int).length then ((some (rdL (CI .u8) ([(rdL (CI .u8) z6 x8), (rdL (CI .u8) z6 x9), (rdL (CI .u8) z6 x10), (rdL (CI .u8) z6 x11)] : List Int) 1)).bind fun x15 => if 0 ≤ x15 then (if x15 < 256 then (if 0 ≤ (2 : Int) then (if (2 : Int) < ([(rdL (CI .u8) z6 x8), (rdL (CI .u8) z6 x9), (rdL (CI .u8) z6 x10), (rdL (CI .u8) z6 x11)] : List Int).length then ((some (rdL (CI .u8) ([(rdL (CI .u8) z6 x8), (rdL (CI .u8) z6 x9), (rdL (CI .u8) z6 x10), (rdL (CI .u8) z6 x11)] : List Int) 2)).bind fun x16 => if 0 ≤ x16 then (if x16 < 256 then (if 0 ≤ (3 : Int) then (if (3 : Int) < ([(rdL (CI .u8) z6 x8), (rdL (CI .u8) z6 x9), (rdL (CI .u8) z6 x10), (rdL (CI .u8) z6 x11)] : List Int).length then ((some (rdL (CI .u8) ([(rdL (CI .u8) z6 x8), (rdL (CI .u8) z6 x9), (rdL (CI .u8) z6 x10), (rdL (CI .u8) z6 x11)] : List Int) 3)).bind fun x17 => if 0 ≤ x17 then (if x17 < 256 then (if 0 ≤ (0 : Int) then (if (0 : Int) < ([(rdL (CI .u8) z6 x8), (rdL (CI .u8) z6 x9), (rdL (CI .u8) z6 x10), (rdL (CI .u8) z6 x11)] : List Int).length then ((some (rdL (CI .u8) ([(rdL (CI .u8) z6 x8), (rdL (CI .u8) z6 x9), (rdL (CI .u8) z6 x10), (rdL (CI .u8) z6 x11)] : List Int) 0)).bind fun x18 => if 0 ≤ x18 then (if x18 < 256 then ((ref10_Mul.f K z4 2).bind fun r20 => some (r20, ([(ixor .u8 (rd a1 x15) z4), (rd a1 x16), (rd a1 x17), (rd a1 x18)] : List Int))) else none) else none) else none) else none) else none) else none) else none) else none) else none) else none) else none) else none) else none) else none) else none) else none) else (if x2 = 8 then (if (irem .i64 z5 8) = 4 then (if 0 ≤ (0 : Int) then (if (0 : Int) < ([(rdL (CI .u8) z6 x8), (rdL (CI .u8) z6 x9), (rdL (CI .u8) z6 x10), (rdL (CI .u8) z6 x11)] : List Int).length then ((some (rdL (CI .u8) ([(rdL (CI .u8) z6 x8), (rdL (CI .u8) z6 x9), (rdL (CI .u8) z6 x10), (rdL (CI .u8) z6 x11)] : List Int) 0)).bind fun x21 => if 0 ≤ x21 then (if x21 < 256 then (if 0 ≤ (1 : Int) then (if (1 : Int) < ([(rdL (CI .u8) z6 x8), (rdL (CI .u8) z6 x9), (rdL (CI .u8) z6 x10), (rdL (CI .u8) z6 x11)] : List Int).length then ((some (rdL (CI .u8) ([(rdL (CI .u8) z6 x8), (rdL (CI .u8) z6 x9), (rdL (CI .u8) z6 x10), (rdL (CI .u8) z6 x11)] : List Int) 1)).bind fun x22 => if 0 ≤ x22 then (if x22 < 256 then (if 0 ≤ (2 : Int) then (if (2 : Int) < ([(rdL (CI .u8) z6 x8), (rdL (CI .u8) z6 x9), (rdL (CI .u8) z6 x10), (rdL (CI .u8) z6 x11)] : List Int).length then ((some (rdL (CI .u8) ([(rdL (CI .u8) z6 x8), (rdL (CI .u8) z6 x9), (rdL (CI .u8) z6 x10), (rdL (CI .u8) z6 x11)] : List Int) 2)).bind fun x23 => if 0 ≤ x23 then (if x23 < 256 then (if 0 ≤ (3 : Int) then (if (3 : Int) < ([(rdL (CI .u8) z6 x8), (rdL (CI .u8) z6 x9), (rdL (CI .u8) z6 x10), (rdL (CI .u8) z6 x11)] : List Int).length then ((some (rdL (CI .u8) ([(rdL (CI .u8) z6 x8), (rdL (CI .u8) z6 x9), (rdL (CI .u8) z6 x10), (rdL (CI .u8) z6 x11)] : List Int) 3)).bind fun x24 => if 0 ≤ x24 then (if x24 < 256 then (some (z4, ([(rd a1 x21), (rd a1 x22), (rd a1 x23), (rd a1 x24)] : List Int))) else none) else none) else none) else none) else none) else none) else none) else none) else none) else none) else none) else none) else none) else none) else none) else none) else (some (z4, ([(rdL (CI .u8) z6 x8), (rdL (CI .u8) z6 x9), (rdL (CI .u8) z6 x10), (rdL (CI .u8) z6 x11)] : List Int)))) else (some (z4, ([(rdL (CI .u8) z6 x8), (rdL (CI .u8) z6 x9), (rdL (CI .u8) z6 x10), (rdL (CI .u8) z6 x11)] : List Int))))) else none : Option (Int × (List Int)))).bind fun (y13, y14) => (ref10_keys.l1 K K x2 z5 y14 0 z6).bind fun y28 => (some (iadd .i64 z5 1)).bind fun x33 => ref10_keys.l0 K k a1 x2 y13 x33 y28) else none) else none) else none) else none) else none) else none) else none) else none) else (some z6)

def ref10_keys.f (K : Nat) (a0 : List Int) (a1 : Arr 256) : Option ((List Int)) :=
  (some (iquo .i64 (a0.length : Int) 4)).bind fun x2 => if ([] : List Int).length + a0.length ≤ 140737488355328 then ((ref10_keys.l0 K K a1 x2 1 x2 (([] : List Int) ++ a0)).bind fun y7 => some y7) else none

def ref10_Block.f (K : Nat) (a0 : List Int) (a1 : List Int) : Option ((List Int) × Int) :=
  (ref10_Sized.f K a0).bind fun r1 => if r1 = true then (if (a1.length : Int) = 16 then ((ref10_boxes.f K).bind fun (r2, r3) => (ref10_keys.f K a0 r2).bind fun r6 => (ref10_there.f K r6 a1 r2).bind fun r7 => some (r7, 0)) else (some (([] : List Int), 14))) else (some (([] : List Int), 10))

def aes_unmix.l0 (K : Nat) : Nat → Int → (Arr 16) → Option ((Arr 16))
  | 0, _, _ => none
  | k + 1, z1, z2 => if z1 < 3 then ((aes_mix.f K z2).bind fun r4 => aes_unmix.l0 K k (iadd .i64 z1 1) r4) else (some z2)

def aes_unmix.f (K : Nat) (a0 : Arr 16) : Option ((Arr 16)) :=
  (aes_unmix.l0 K K 0 a0).bind fun y3 => some y3

def aes_Back.l0 (K : Nat) : Nat → (List Int) → Int → (List (Arr 4)) → Option ((List (Arr 4)))
  | 0, _, _, _ => none
  | k + 1, a0, z125, z127 => if z125 < (a0.length : Int) then (if 0 ≤ z125 then (if z125 ≤ (a0.length : Int) then (if (a0.length : Int) ≤ a0.length then ((some (imin 4 ((subL a0 z125 (a0.length : Int)).length : Int))).bind fun x131 => if 0 ≤ z125 then (if z125 ≤ (iadd .i64 z125 x131) then (if (iadd .i64 z125 x131) ≤ (iadd .i64 z125 x131) then (if (iadd .i64 z125 x131) ≤ a0.length then (if 4 ≤ (subL a0 z125 (iadd .i64 z125 x131)).length then (if z127.length + ([(arrL 4 (subL a0 z125 (iadd .i64 z125 x131)))] : List (Arr 4)).length ≤ 35184372088832 then ((some (iadd .i64 z125 4)).bind fun x135 => aes_Back.l0 K k a0 x135 (z127 ++ ([(arrL 4 (subL a0 z125 (iadd .i64 z125 x131)))] : List (Arr 4)))) else none) else none) else none) else none) else none) else none) else none) else none) else none) else (some z127)

def aes_Back.l1 (K : Nat) : Nat → (Arr 256) → (Arr 256) → Int → Int → Int → (List (Arr 4)) → Option ((List (Arr 4)))
  | 0, _, _, _, _, _, _ => none
  | k + 1, r116_0, r116_1, x120, z136, z137, z139 => if z136 < (imul .i64 4 (iadd .i64 x120 7)) then ((some (isub .i64 z136 1)).bind fun x142 => if 0 ≤ x142 then (if x142 < z139.length then (((if ¬ x120 = 0 then (if (irem .i64 z136 x120) = 0 then ((aes_tables_boxed.f K r116_0 r116_1 (wr (wr (wr (wr (zeroA 4) 0 (rd (rdL (CA .u8 4 (by decide)) z139 x142) 1)) 1 (rd (rdL (CA .u8 4 (by decide)) z139 x142) 2)) 2 (rd (rdL (CA .u8 4 (by decide)) z139 x142) 3)) 3 (rd (rdL (CA .u8 4 (by decide)) z139 x142) 0))).bind fun r146 => (aes_word_xor.f K r146 (wr (zeroA 4) 0 z137)).bind fun r147 => (aes_Mul.f K z137 2).bind fun r148 => some (r148, r147)) else (if x120 = 8 then (if (irem .i64 z136 8) = 4 then ((aes_tables_boxed.f K r116_0 r116_1 (rdL (CA .u8 4 (by decide)) z139 x142)).bind fun r149 => some (z137, r149)) else (some (z137, (rdL (CA .u8 4 (by decide)) z139 x142)))) else (some (z137, (rdL (CA .u8 4 (by decide)) z139 x142))))) else none : Option (Int × (Arr 4)))).bind fun (y144, y145) => (some (isub .i64 z136 x120)).bind fun x150 => if 0 ≤ x150 then (if x150 < z139.length then ((aes_word_xor.f K (rdL (CA .u8 4 (by decide)) z139 x150) y145).bind fun r151 => if z139.length + ([r151] : List (Arr 4)).length ≤ 35184372088832 then ((some (iadd .i64 z136 1)).bind fun x154 => aes_Back.l1 K k r116_0 r116_1 x120 x154 y144 (z139 ++ ([r151] : List (Arr 4)))) else none) else none) else none) else none) else none) else (some z139)

def aes_Back.l3 (K : Nat) : Nat → (List (Arr 4)) → Int → Int → Int → (Arr 16) → Option ((Arr 16))
  | 0, _, _, _, _, _ => none
  | k + 1, y141, z157, x163, z166, z167 => if z166 < ((subL y141 z157 (iadd .i64 z157 x163)).length : Int) then (if 0 ≤ z166 then (if z166 < (subL y141 z157 (iadd .i64 z157 x163)).length then (if 0 ≤ (imul .i64 4 z166) then (if (imul .i64 4 z166) ≤ (16 : Int) then (if (imul .i64 4 z166) < 16 then (aes_Back.l3 K k y141 z157 x163 (iadd .i64 z166 1) (cpA z167 (imul .i64 4 z166) ((subL (lA (rdL (CA .u8 4 (by decide)) (subL y141 z157 (iadd .i64 z157 x163)) z166)) 0 4).take ((16 : Int).toNat - ((imul .i64 4 z166) : Int).toNat)))) else none) else none) else none) else none) else none) else (some z167)

def aes_Back.l2 (K : Nat) : Nat → (List (Arr 4)) → Int → (List (Arr 16)) → Option ((List (Arr 16)))
  | 0, _, _, _ => none
  | k + 1, y141, z157, z158 => if z157 < (y141.length : Int) then (if 0 ≤ z157 then (if z157 ≤ (y141.length : Int) then (if (y141.length : Int) ≤ y141.length then ((some (imin 4 ((subL y141 z157 (y141.length : Int)).length : Int))).bind fun x163 => if 0 ≤ z157 then (if z157 ≤ (iadd .i64 z157 x163) then (if (iadd .i64 z157 x163) ≤ (iadd .i64 z157 x163) then (if (iadd .i64 z157 x163) ≤ y141.length then ((aes_Back.l3 K K y141 z157 x163 0 (zeroA 16)).bind fun y168 => if z158.length + ([y168] : List (Arr 16)).length ≤ 8796093022208 then ((some (iadd .i64 z157 4)).bind fun x172 => aes_Back.l2 K k y141 x172 (z158 ++ ([y168] : List (Arr 16)))) else none) else none) else none) else none) else none) else none) else none) else none) else (some z158)

def aes_Back.l5 (K : Nat) : Nat → (List (Arr 16)) → Int → Int → (Arr 16) → Option ((Arr 16))
  | 0, _, _, _, _ => none
  | k + 1, y160, z176, z179, z180 => if z179 < 16 then (if 0 ≤ z179 then (if z179 < 16 then ((some (rd (rdL (CA .u8 16 (by decide)) y160 z176) z179)).bind fun x182 => if 0 ≤ z179 then (if z179 < 16 then (if 0 ≤ z179 then (if z179 < 16 then ((some (ixor .u8 (rd z180 z179) x182)).bind fun x183 => aes_Back.l5 K k y160 z176 (iadd .i64 z179 1) (wr z180 z179 x183)) else none) else none) else none) else none) else none) else none) else (some z180)

def aes_Back.l6 (K : Nat) : Nat → (Arr 256) → (Arr 16) → Int → (Arr 16) → Option ((Arr 16))
  | 0, _, _, _, _ => none
  | k + 1, r116_1, y184, z187, z188 => if z187 < 16 then (if 0 ≤ z187 then (if z187 < 16 then ((some (rd y184 z187)).bind fun x190 => if 0 ≤ x190 then (if x190 < 256 then ((some (irem .i64 (iadd .i64 z187 (imul .i64 4 (irem .i64 z187 4))) 16)).bind fun x191 => if 0 ≤ x191 then (if x191 < 16 then ((some (rd r116_1 x190)).bind fun x192 => aes_Back.l6 K k r116_1 y184 (iadd .i64 z187 1) (wr z188 x191 x192)) else none) else none) else none) else none) else none) else none) else (some z188)

def aes_Back.l4 (K : Nat) : Nat → (Arr 256) → (List (Arr 16)) → Int → Int → (Arr 16) → Option ((Arr 16))
  | 0, _, _, _, _, _ => none
  | k + 1, r116_1, y160, x175, z176, z177 => if z176 > 0 then (if 0 ≤ z176 then (if z176 < y160.length then ((aes_Back.l5 K K y160 z176 0 z177).bind fun y181 => ((if z176 < x175 then ((aes_unmix.f K y181).bind fun r185 => some r185) else (some y181) : Option ((Arr 16)))).bind fun y184 => (aes_Back.l6 K K r116_1 y184 0 (zeroA 16)).bind fun y189 => (some (isub .i64 z176 1)).bind fun x193 => aes_Back.l4 K k r116_1 y160 x175 x193 y189) else none) else none) else (some z177)

def aes_Back.l7 (K : Nat) : Nat → (List (Arr 16)) → Int → (Arr 16) → Option ((Arr 16))
  | 0, _, _, _ => none
  | k + 1, y160, z194, z195 => if z194 < 16 then (if 0 ≤ z194 then (if z194 < 16 then ((some (rd (rdL (CA .u8 16 (by decide)) y160 0) z194)).bind fun x197 => if 0 ≤ z194 then (if z194 < 16 then (if 0 ≤ z194 then (if z194 < 16 then ((some (ixor .u8 (rd z195 z194) x197)).bind fun x198 => aes_Back.l7 K k y160 (iadd .i64 z194 1) (wr z195 z194 x198)) else none) else none) else none) else none) else none) else none) else (some z195)

def aes_Back.f (K : Nat) (a0 : List Int) (a1 : List Int) : Option ((List Int) × Int) :=
  (aes_wrong.f K a0 a1).bind fun r1 => if r1 = 0 then (((if 16 ≤ a1.length then ((aes_made.f K).bind fun (r4_0, r4_1) => (some (iquo .i64 (a0.length : Int) 4)).bind fun x8 => if 0 ≤ (imul .i64 4 (iadd .i64 x8 7)) then (if (imul .i64 4 (iadd .i64 x8 7)) ≤ 35184372088832 then ((aes_Back.l0 K K a0 0 ([] : List (Arr 4))).bind fun y17 => (aes_Back.l1 K K r4_0 r4_1 x8 x8 1 y17).bind fun y29 => (aes_Back.l2 K K y29 0 ([] : List (Arr 16))).bind fun y48 => (some (isub .i64 (y48.length : Int) 1)).bind fun x63 => (aes_Back.l4 K K r4_1 y48 x63 x63 (arrL 16 a1)).bind fun y66 => if 0 ≤ (0 : Int) then (if (0 : Int) < y48.length then ((aes_Back.l7 K K y48 0 y66).bind fun y84 => some y84) else none) else none) else none) else none) else none : Option ((Arr 16)))).bind fun y3 => some ((subL (lA y3) 0 16), 0)) else (some (([] : List Int), r1))

def ref10_back.l0 (K : Nat) : Nat → (List Int) → (Arr 256) → Int → Int → (List Int) → Option ((List Int))
  | 0, _, _, _, _, _ => none
  | k + 1, a0, a2, x2, z3, z4 => if z3 ≥ 1 then (if 0 ≤ (imul .i64 16 z3) then (if (imul .i64 16 z3) ≤ (iadd .i64 (imul .i64 16 z3) 16) then (if (iadd .i64 (imul .i64 16 z3) 16) ≤ a0.length then ((ref01_Xor.f K z4 (subL a0 (imul .i64 16 z3) (iadd .i64 (imul .i64 16 z3) 16))).bind fun r7 => ((if z3 < x2 then ((ref10_columns.f K r7 (wr (wr (wr (wr (zeroA 4) 0 14) 1 11) 2 13) 3 9)).bind fun r9 => some r9) else (some r7) : Option ((List Int)))).bind fun y8 => (ref10_rows.f K y8 (-1)).bind fun r10 => (ref10_each.f K r10 a2).bind fun r11 => (some (isub .i64 z3 1)).bind fun x12 => ref10_back.l0 K k a0 a2 x2 x12 r11) else none) else none) else none) else (some z4)

def ref10_back.f (K : Nat) (a0 : List Int) (a1 : List Int) (a2 : Arr 256) : Option ((List Int)) :=
  (some (isub .i64 (iquo .i64 (a0.length : Int) 16) 1)).bind fun x2 => (ref10_back.l0 K K a0 a2 x2 x2 a1).bind fun y5 => if 0 ≤ (0 : Int) then (if (0 : Int) ≤ (16 : Int) then (if (16 : Int) ≤ a0.length then ((ref01_Xor.f K y5 (subL a0 0 16)).bind fun r14 => some r14) else none) else none) else none

def ref10_Back.f (K : Nat) (a0 : List Int) (a1 : List Int) : Option ((List Int) × Int) :=
  (ref10_Sized.f K a0).bind fun r1 => if r1 = true then (if (a1.length : Int) = 16 then ((ref10_boxes.f K).bind fun (r2, r3) => (ref10_keys.f K a0 r2).bind fun r6 => (ref10_back.f K r6 a1 r3).bind fun r7 => some (r7, 0)) else (some (([] : List Int), 14))) else (some (([] : List Int), 10))

def ref01_Same.l0 (K : Nat) : Nat → (List Int) → (List Int) → Int → Option ((Unit) ⊕ (Bool))
  | 0, _, _, _ => none
  | k + 1, a0, a1, z1 => if z1 < (a0.length : Int) then (if 0 ≤ z1 then (if z1 < a0.length then (if 0 ≤ z1 then (if z1 < a1.length then (if (rdL (CI .u8) a0 z1) = (rdL (CI .u8) a1 z1) then ((some (iadd .i64 z1 1)).bind fun x2 => ref01_Same.l0 K k a0 a1 x2) else (some (.inr false))) else none) else none) else none) else none) else (some (.inl ()))

def ref01_Same.f (K : Nat) (a0 : List Int) (a1 : List Int) : Option (Bool) :=
  if (a0.length : Int) = (a1.length : Int) then ((ref01_Same.l0 K K a0 a1 0).bind fun t0 => (match t0 with | .inl _ => some true | .inr r => some r)) else (some false)

end Go.Proofs.Ytmpagpbnpgcecaa
