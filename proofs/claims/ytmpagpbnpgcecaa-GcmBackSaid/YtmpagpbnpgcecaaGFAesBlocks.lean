/- Printed by this work's own program: the plain forms of the functions that the laws reach. -/
import Derived.Test.YtmpagpbnpgcecaaGF0
set_option linter.unusedVariables false
set_option linter.unusedSimpArgs false
namespace Go.Proofs.Ytmpagpbnpgcecaa
open Go.Mx

def aes_Box.f (K : Nat) (a0 : Int) : Option (Int) :=
  (aes_made.f K).bind fun (r1_0, r1_1) => if 0 ≤ a0 then (if a0 < 256 then ((some (rd r1_0 a0)).bind fun x3 => some x3) else none) else none

def law10_awake.f (K : Nat) : Option (Bool) :=
  (((aes_Block.f K (List.replicate (15 : Int).toNat (Cod.zero (CI .u8))) (List.replicate (16 : Int).toNat (Cod.zero (CI .u8)))).bind fun (r4, r5) => some r5 : Option (Int))).bind fun y1 => (aes_Box.f K 0).bind fun r10 => if r10 = 99 then ((aes_Box.f K 83).bind fun r11 => if r11 = 237 then ((aes_Mul.f K 87 131).bind fun r12 => if r12 = 193 then (some (y1 == 10)) else (some false)) else (some false)) else (some false)

def ref10_Sized.f (K : Nat) (a0 : List Int) : Option (Bool) :=
  if (a0.length : Int) = 16 then (some true) else (if (a0.length : Int) = 24 then (some true) else (some ((a0.length : Int) == 32)))

def ref10_Mul.l0 (K : Nat) : Nat → Int → Int → Int → Int → Option (Int)
  | 0, _, _, _, _ => none
  | k + 1, z1, z2, z3, z4 => if z4 < 8 then (((((if (iand .u8 z2 1) = 1 then ((some (ixor .u8 z3 z1)).bind fun x10 => some x10) else (some z3) : Option (Int))).bind fun y9 => if z1 ≥ 128 then ((some (ishl .u8 z1 1)).bind fun x11 => (some (ixor .u8 x11 27)).bind fun x12 => (some (ishr .u8 z2 1)).bind fun x13 => some (x12, x13, y9)) else ((some (ishl .u8 z1 1)).bind fun x14 => (some (ishr .u8 z2 1)).bind fun x15 => some (x14, x15, y9)) : Option (Int × Int × Int))).bind fun (y6, y7, y8) => (some (iadd .i64 z4 1)).bind fun x16 => ref10_Mul.l0 K k y6 y7 y8 x16) else (some z3)

def ref10_Mul.f (K : Nat) (a0 : Int) (a1 : Int) : Option (Int) :=
  (ref10_Mul.l0 K K a0 a1 0 0).bind fun y5 => some y5

def ref10_inverse.l0 (K : Nat) : Nat → Int → Int → Int → Option (Int)
  | 0, _, _, _ => none
  | k + 1, z1, z2, z3 => if z3 < 7 then ((ref10_Mul.f K z1 z1).bind fun r5 => (ref10_Mul.f K z2 r5).bind fun r6 => (some (iadd .i64 z3 1)).bind fun x7 => ref10_inverse.l0 K k r5 r6 x7) else (some z2)

def ref10_inverse.f (K : Nat) (a0 : Int) : Option (Int) :=
  (ref10_inverse.l0 K K a0 1 0).bind fun y4 => some y4

def ref10_Box.l0 (K : Nat) : Nat → Int → Int → Int → Option (Int)
  | 0, _, _, _ => none
  | k + 1, r1, z2, z3 => if z3 < 5 then (if 0 ≤ z3 then (if 0 ≤ (isub .i64 8 z3) then ((some (ixor .u8 z2 (ior .u8 (ishl .u8 r1 z3) (ishr .u8 r1 (isub .i64 8 z3))))).bind fun x5 => (some (iadd .i64 z3 1)).bind fun x6 => ref10_Box.l0 K k r1 x5 x6) else none) else none) else (some z2)

def ref10_Box.f (K : Nat) (a0 : Int) : Option (Int) :=
  (ref10_inverse.f K a0).bind fun r1 => (ref10_Box.l0 K K r1 99 0).bind fun y4 => some y4

def ref10_boxes.l0 (K : Nat) : Nat → Int → (Arr 256) → (Arr 256) → Option ((Arr 256) × (Arr 256))
  | 0, _, _, _ => none
  | k + 1, z5, z6, z7 => if z5 < 256 then ((ref10_Box.f K (iconv .u8 z5)).bind fun r10 => if 0 ≤ z5 then (if z5 < 256 then (if 0 ≤ r10 then (if r10 < 256 then ((some (iconv .u8 z5)).bind fun x11 => (some (iadd .i64 z5 1)).bind fun x12 => ref10_boxes.l0 K k x12 (wr z6 r10 x11) (wr z7 z5 r10)) else none) else none) else none) else none) else (some (z6, z7))

def ref10_boxes.f (K : Nat) : Option ((Arr 256) × (Arr 256)) :=
  (ref10_boxes.l0 K K 0 (zeroA 256) (zeroA 256)).bind fun (y8, y9) => some (y9, y8)

def ref10_rows.l1 (K : Nat) : Nat → (List Int) → Int → Int → Int → (List Int) → Option ((List Int))
  | 0, _, _, _, _, _ => none
  | k + 1, a0, a1, z2, z5, z6 => if z5 < 4 then ((some (iadd .i64 (imul .i64 4 (irem .i64 (iadd .i64 (iadd .i64 z2 (imul .i64 a1 z5)) 4) 4)) z5)).bind fun x8 => if 0 ≤ x8 then (if x8 < a0.length then ((some (iadd .i64 (imul .i64 4 z2) z5)).bind fun x9 => if 0 ≤ x9 then (if x9 < z6.length then ((some (rdL (CI .u8) a0 x8)).bind fun x10 => (some (iadd .i64 z5 1)).bind fun x11 => ref10_rows.l1 K k a0 a1 z2 x11 (wrL z6 x9 x10)) else none) else none) else none) else none) else (some z6)

def ref10_rows.l0 (K : Nat) : Nat → (List Int) → Int → Int → (List Int) → Option ((List Int))
  | 0, _, _, _, _ => none
  | k + 1, a0, a1, z2, z3 => if z2 < 4 then ((ref10_rows.l1 K K a0 a1 z2 0 z3).bind fun y7 => (some (iadd .i64 z2 1)).bind fun x12 => ref10_rows.l0 K k a0 a1 x12 y7) else (some z3)

def ref10_rows.f (K : Nat) (a0 : List Int) (a1 : Int) : Option ((List Int)) :=
  (ref10_rows.l0 K K a0 a1 0 (List.replicate (16 : Int).toNat (Cod.zero (CI .u8)))).bind fun y4 => some y4

def ref10_each.l0 (K : Nat) : Nat → (List Int) → (Arr 256) → Int → (List Int) → Option ((List Int))
  | 0, _, _, _, _ => none
  | k + 1, a0, a1, z3, z4 => if z3 < 16 then (if 0 ≤ z3 then (if z3 < a0.length then ((some (rdL (CI .u8) a0 z3)).bind fun x6 => if 0 ≤ x6 then (if x6 < 256 then (if 0 ≤ z3 then (if z3 < z4.length then ((some (rd a1 x6)).bind fun x7 => (some (iadd .i64 z3 1)).bind fun x8 => ref10_each.l0 K k a0 a1 x8 (wrL z4 z3 x7)) else none) else none) else none) else none) else none) else none) else (some z4)

def ref10_each.f (K : Nat) (a0 : List Int) (a1 : Arr 256) : Option ((List Int)) :=
  (ref10_each.l0 K K a0 a1 0 (List.replicate (16 : Int).toNat (Cod.zero (CI .u8)))).bind fun y5 => some y5

def ref10_columns.l2 (K : Nat) : Nat → (List Int) → (Arr 4) → Int → Int → Int → Int → Option (Int)
  | 0, _, _, _, _, _, _ => none
  | k + 1, a0, a1, z3, z6, z9, z10 => if z10 < 4 then (if 0 ≤ z10 then (if z10 < 4 then ((some (iadd .i64 (imul .i64 4 z3) (irem .i64 (iadd .i64 z6 z10) 4))).bind fun x12 => if 0 ≤ x12 then (if x12 < a0.length then ((ref10_Mul.f K (rd a1 z10) (rdL (CI .u8) a0 x12)).bind fun r13 => (some (ixor .u8 z9 r13)).bind fun x14 => (some (iadd .i64 z10 1)).bind fun x15 => ref10_columns.l2 K k a0 a1 z3 z6 x14 x15) else none) else none) else none) else none) else (some z9)

def ref10_columns.l1 (K : Nat) : Nat → (List Int) → (Arr 4) → Int → Int → (List Int) → Option ((List Int))
  | 0, _, _, _, _, _ => none
  | k + 1, a0, a1, z3, z6, z7 => if z6 < 4 then ((ref10_columns.l2 K K a0 a1 z3 z6 0 0).bind fun y11 => (some (iadd .i64 (imul .i64 4 z3) z6)).bind fun x16 => if 0 ≤ x16 then (if x16 < z7.length then ((some (iadd .i64 z6 1)).bind fun x17 => ref10_columns.l1 K k a0 a1 z3 x17 (wrL z7 x16 y11)) else none) else none) else (some z7)

def ref10_columns.l0 (K : Nat) : Nat → (List Int) → (Arr 4) → Int → (List Int) → Option ((List Int))
  | 0, _, _, _, _ => none
  | k + 1, a0, a1, z3, z4 => if z3 < 4 then ((ref10_columns.l1 K K a0 a1 z3 0 z4).bind fun y8 => (some (iadd .i64 z3 1)).bind fun x18 => ref10_columns.l0 K k a0 a1 x18 y8) else (some z4)

def ref10_columns.f (K : Nat) (a0 : List Int) (a1 : Arr 4) : Option ((List Int)) :=
  (ref10_columns.l0 K K a0 a1 0 (List.replicate (16 : Int).toNat (Cod.zero (CI .u8)))).bind fun y5 => some y5

def ref10_there.l0 (K : Nat) : Nat → (List Int) → (Arr 256) → Int → Int → (List Int) → Option ((List Int))
  | 0, _, _, _, _, _ => none
  | k + 1, a0, a2, x2, z5, z6 => if z5 ≤ x2 then ((ref10_each.f K z6 a2).bind fun r8 => (ref10_rows.f K r8 1).bind fun r9 => ((if z5 < x2 then ((ref10_columns.f K r9 (wr (wr (wr (wr (zeroA 4) 0 2) 1 3) 2 1) 3 1)).bind fun r11 => some r11) else (some r9) : Option ((List Int)))).bind fun y10 => if 0 ≤ (imul .i64 16 z5) then (if (imul .i64 16 z5) ≤ (iadd .i64 (imul .i64 16 z5) 16) then (if (iadd .i64 (imul .i64 16 z5) 16) ≤ a0.length then ((ref01_Xor.f K y10 (subL a0 (imul .i64 16 z5) (iadd .i64 (imul .i64 16 z5) 16))).bind fun r13 => (some (iadd .i64 z5 1)).bind fun x14 => ref10_there.l0 K k a0 a2 x2 x14 r13) else none) else none) else none) else (some z6)

def ref10_there.f (K : Nat) (a0 : List Int) (a1 : List Int) (a2 : Arr 256) : Option ((List Int)) :=
  (some (isub .i64 (iquo .i64 (a0.length : Int) 16) 1)).bind fun x2 => if 0 ≤ (0 : Int) then (if (0 : Int) ≤ (16 : Int) then (if (16 : Int) ≤ a0.length then ((ref01_Xor.f K a1 (subL a0 0 16)).bind fun r4 => (ref10_there.l0 K K a0 a2 x2 1 r4).bind fun y7 => some y7) else none) else none) else none

def ref10_keys.l1 (K : Nat) : Nat → Int → Int → (List Int) → Int → (List Int) → Option ((List Int))
  | 0, _, _, _, _, _ => none
  | k + 1, x2, z5, y14, z26, z27 => if z26 < 4 then ((some (iadd .i64 (imul .i64 4 (isub .i64 z5 x2)) z26)).bind fun x29 => if 0 ≤ x29 then (if x29 < z27.length then (if 0 ≤ z26 then (if z26 < y14.length then (if z27.length + ([(ixor .u8 (rdL (CI .u8) z27 x29) (rdL (CI .u8) y14 z26))] : List Int).length ≤ 140737488355328 then ((some (iadd .i64 z26 1)).bind fun x32 => ref10_keys.l1 K k x2 z5 y14 x32 (z27 ++ ([(ixor .u8 (rdL (CI .u8) z27 x29) (rdL (CI .u8) y14 z26))] : List Int))) else none) else none) else none) else none) else none) else (some z27)

def ref10_keys.l0 (K : Nat) : Nat → (Arr 256) → Int → Int → Int → (List Int) → Option ((List Int))
  | 0, _, _, _, _, _ => none
  | k + 1, a1, x2, z4, z5, z6 => if z5 < (imul .i64 4 (iadd .i64 x2 7)) then ((some (isub .i64 (imul .i64 4 z5) 4)).bind fun x8 => if 0 ≤ x8 then (if x8 < z6.length then ((some (isub .i64 (imul .i64 4 z5) 3)).bind fun x9 => if 0 ≤ x9 then (if x9 < z6.length then ((some (isub .i64 (imul .i64 4 z5) 2)).bind fun x10 => if 0 ≤ x10 then (if x10 < z6.length then ((some (isub .i64 (imul .i64 4 z5) 1)).bind fun x11 => if 0 ≤ x11 then (if x11 < z6.length then (((if ¬ x2 = 0 then (if (irem .i64 z5 x2) = 0 then (if 0 ≤ (1 : Int) then (if (1 : Int) < ([(rdL (CI .u8) z6 x8), (rdL (CI .u8) z6 x9), (rdL (CI .u8) z6 x10), (rdL (CI .u8) z6 x11)] : List Int).length then ((some (rdL (CI .u8) ([(rdL (CI .u8) z6 x8), (rdL (CI .u8) z6 x9), (rdL (CI .u8) z6 x10), (rdL (CI .u8) z6 x11)] : List Int) 1)).bind fun x15 => if 0 ≤ x15 then (if x15 < 256 then (if 0 ≤ (2 : Int) then (if (2 : Int) < ([(rdL (CI .u8) z6 x8), (rdL (CI .u8) z6 x9), (rdL (CI .u8) z6 x10), (rdL (CI .u8) z6 x11)] : List Int).length then ((some (rdL (CI .u8) ([(rdL (CI .u8) z6 x8), (rdL (CI .u8) z6 x9), (rdL (CI .u8) z6 x10), (rdL (CI .u8) z6 x11)] : List Int) 2)).bind fun x16 => if 0 ≤ x16 then (if x16 < 256 then (if 0 ≤ (3 : Int) then (if (3 : Int) < ([(rdL (CI .u8) z6 x8), (rdL (CI .u8) z6 x9), (rdL (CI .u8) z6 x10), (rdL (CI .u8) z6 x11)] : List Int).length then ((some (rdL (CI .u8) ([(rdL (CI .u8) z6 x8), (rdL (CI .u8) z6 x9), (rdL (CI .u8) z6 x10), (rdL (CI .u8) z6 x11)] : List Int) 3)).bind fun x17 => if 0 ≤ x17 then (if x17 < 256 then (if 0 ≤ (0 : Int) then (if (0 : Int) < ([(rdL (CI .u8) z6 x8), (rdL (CI .u8) z6 x9), (rdL (CI .u8) z6 x10), (rdL (CI .u8) z6 x11)] : List Int).length then ((some (rdL (CI .u8) ([(rdL (CI .u8) z6 x8), (rdL (CI .u8) z6 x9), (rdL (CI .u8) z6 x10), (rdL (CI .u8) z6 x11)] : List Int) 0)).bind fun x18 => if 0 ≤ x18 then (if x18 < 256 then ((ref10_Mul.f K z4 2).bind fun r20 => some (r20, ([(ixor .u8 (rd a1 x15) z4), (rd a1 x16), (rd a1 x17), (rd a1 x18)] : List Int))) else none) else none) else none) else none) else none) else none) else none) else none) else none) else none) else none) else none) else none) else none) else none) else none) else (if x2 = 8 then (if (irem .i64 z5 8) = 4 then (if 0 ≤ (0 : Int) then (if (0 : Int) < ([(rdL (CI .u8) z6 x8), (rdL (CI .u8) z6 x9), (rdL (CI .u8) z6 x10), (rdL (CI .u8) z6 x11)] : List Int).length then ((some (rdL (CI .u8) ([(rdL (CI .u8) z6 x8), (rdL (CI .u8) z6 x9), (rdL (CI .u8) z6 x10), (rdL (CI .u8) z6 x11)] : List Int) 0)).bind fun x21 => if 0 ≤ x21 then (if x21 < 256 then (if 0 ≤ (1 : Int) then (if (1 : Int) < ([(rdL (CI .u8) z6 x8), (rdL (CI .u8) z6 x9), (rdL (CI .u8) z6 x10), (rdL (CI .u8) z6 x11)] : List Int).length then ((some (rdL (CI .u8) ([(rdL (CI .u8) z6 x8), (rdL (CI .u8) z6 x9), (rdL (CI .u8) z6 x10), (rdL (CI .u8) z6 x11)] : List Int) 1)).bind fun x22 => if 0 ≤ x22 then (if x22 < 256 then (if 0 ≤ (2 : Int) then (if (2 : Int) < ([(rdL (CI .u8) z6 x8), (rdL (CI .u8) z6 x9), (rdL (CI .u8) z6 x10), (rdL (CI .u8) z6 x11)] : List Int).length then ((some (rdL (CI .u8) ([(rdL (CI .u8) z6 x8), (rdL (CI .u8) z6 x9), (rdL (CI .u8) z6 x10), (rdL (CI .u8) z6 x11)] : List Int) 2)).bind fun x23 => if 0 ≤ x23 then (if x23 < 256 then (if 0 ≤ (3 : Int) then (if (3 : Int) < ([(rdL (CI .u8) z6 x8), (rdL (CI .u8) z6 x9), (rdL (CI .u8) z6 x10), (rdL (CI .u8) z6 x11)] : List Int).length then ((some (rdL (CI .u8) ([(rdL (CI .u8) z6 x8), (rdL (CI .u8) z6 x9), (rdL (CI .u8) z6 x10), (rdL (CI .u8) z6 x11)] : List Int) 3)).bind fun x24 => if 0 ≤ x24 then (if x24 < 256 then (some (z4, ([(rd a1 x21), (rd a1 x22), (rd a1 x23), (rd a1 x24)] : List Int))) else none) else none) else none) else none) else none) else none) else none) else none) else none) else none) else none) else none) else none) else none) else none) else none) else (some (z4, ([(rdL (CI .u8) z6 x8), (rdL (CI .u8) z6 x9), (rdL (CI .u8) z6 x10), (rdL (CI .u8) z6 x11)] : List Int)))) else (some (z4, ([(rdL (CI .u8) z6 x8), (rdL (CI .u8) z6 x9), (rdL (CI .u8) z6 x10), (rdL (CI .u8) z6 x11)] : List Int))))) else none : Option (Int × (List Int)))).bind fun (y13, y14) => (ref10_keys.l1 K K x2 z5 y14 0 z6).bind fun y28 => (some (iadd .i64 z5 1)).bind fun x33 => ref10_keys.l0 K k a1 x2 y13 x33 y28) else none) else none) else none) else none) else none) else none) else none) else none) else (some z6)

def ref10_keys.f (K : Nat) (a0 : List Int) (a1 : Arr 256) : Option ((List Int)) :=
  (some (iquo .i64 (a0.length : Int) 4)).bind fun x2 => if ([] : List Int).length + a0.length ≤ 140737488355328 then ((ref10_keys.l0 K K a1 x2 1 x2 (([] : List Int) ++ a0)).bind fun y7 => some y7) else none

def ref10_Block.f (K : Nat) (a0 : List Int) (a1 : List Int) : Option ((List Int) × Int) :=
  (ref10_Sized.f K a0).bind fun r1 => if r1 = true then (if (a1.length : Int) = 16 then ((ref10_boxes.f K).bind fun (r2, r3) => (ref10_keys.f K a0 r2).bind fun r6 => (ref10_there.f K r6 a1 r2).bind fun r7 => some (r7, 0)) else (some (([] : List Int), 14))) else (some (([] : List Int), 10))

def aes_unmix.l0 (K : Nat) : Nat → Int → (Arr 16) → Option ((Arr 16))
  | 0, _, _ => none
  | k + 1, z1, z2 => if z1 < 3 then ((aes_mix.f K z2).bind fun r4 => aes_unmix.l0 K k (iadd .i64 z1 1) r4) else (some z2)

def aes_unmix.f (K : Nat) (a0 : Arr 16) : Option ((Arr 16)) :=
  (aes_unmix.l0 K K 0 a0).bind fun y3 => some y3

def aes_cipher_undo_s.l1 (K : Nat) : Nat → (Arr 256) → (Arr 16) → Int → (Arr 16) → Option ((Arr 16))
  | 0, _, _, _, _ => none
  | k + 1, ca1, y9, z12, z13 => if z12 < 16 then (if 0 ≤ z12 then (if z12 < 16 then ((some (rd y9 z12)).bind fun x15 => if 0 ≤ x15 then (if x15 < 256 then ((some (irem .i64 (iadd .i64 z12 (imul .i64 4 (irem .i64 z12 4))) 16)).bind fun x16 => if 0 ≤ x16 then (if x16 < 16 then ((some (rd ca1 x15)).bind fun x17 => aes_cipher_undo_s.l1 K k ca1 y9 (iadd .i64 z12 1) (wr z13 x16 x17)) else none) else none) else none) else none) else none) else none) else (some z13)

def aes_cipher_undo_s.l0 (K : Nat) : Nat → (Arr 256) → (Arr 256) → (List (Arr 16)) → Int → Int → (Arr 16) → Option ((Arr 16))
  | 0, _, _, _, _, _, _ => none
  | k + 1, ca0, ca1, ca2, x4, z5, z6 => if z5 > 0 then ((aes_cipher_add_s.f K ca0 ca1 ca2 z6 z5).bind fun r8 => ((if z5 < x4 then ((aes_unmix.f K r8).bind fun r10 => some r10) else (some r8) : Option ((Arr 16)))).bind fun y9 => (aes_cipher_undo_s.l1 K K ca1 y9 0 (zeroA 16)).bind fun y14 => (some (isub .i64 z5 1)).bind fun x18 => aes_cipher_undo_s.l0 K k ca0 ca1 ca2 x4 x18 y14) else (some z6)

def aes_cipher_undo_s.f (K : Nat) (ca0 : Arr 256) (ca1 : Arr 256) (ca2 : List (Arr 16)) (ca3 : Arr 16) : Option ((Arr 16)) :=
  (some (isub .i64 (ca2.length : Int) 1)).bind fun x4 => (aes_cipher_undo_s.l0 K K ca0 ca1 ca2 x4 x4 ca3).bind fun y7 => (aes_cipher_add_s.f K ca0 ca1 ca2 y7 0).bind fun r19 => some r19

def aes_Back.f (K : Nat) (a0 : List Int) (a1 : List Int) : Option ((List Int) × Int) :=
  (aes_wrong.f K a0 a1).bind fun r1 => if r1 = 0 then (((if 16 ≤ a1.length then ((aes_began_s.f K a0).bind fun (r4, r5, r6) => (aes_cipher_undo_s.f K r4 r5 r6 (arrL 16 a1)).bind fun r12 => some r12) else none : Option ((Arr 16)))).bind fun y3 => some ((subL (lA y3) 0 16), 0)) else (some (([] : List Int), r1))

def ref10_back.l0 (K : Nat) : Nat → (List Int) → (Arr 256) → Int → Int → (List Int) → Option ((List Int))
  | 0, _, _, _, _, _ => none
  | k + 1, a0, a2, x2, z3, z4 => if z3 ≥ 1 then (if 0 ≤ (imul .i64 16 z3) then (if (imul .i64 16 z3) ≤ (iadd .i64 (imul .i64 16 z3) 16) then (if (iadd .i64 (imul .i64 16 z3) 16) ≤ a0.length then ((ref01_Xor.f K z4 (subL a0 (imul .i64 16 z3) (iadd .i64 (imul .i64 16 z3) 16))).bind fun r7 => ((if z3 < x2 then ((ref10_columns.f K r7 (wr (wr (wr (wr (zeroA 4) 0 14) 1 11) 2 13) 3 9)).bind fun r9 => some r9) else (some r7) : Option ((List Int)))).bind fun y8 => (ref10_rows.f K y8 (-1)).bind fun r10 => (ref10_each.f K r10 a2).bind fun r11 => (some (isub .i64 z3 1)).bind fun x12 => ref10_back.l0 K k a0 a2 x2 x12 r11) else none) else none) else none) else (some z4)

def ref10_back.f (K : Nat) (a0 : List Int) (a1 : List Int) (a2 : Arr 256) : Option ((List Int)) :=
  (some (isub .i64 (iquo .i64 (a0.length : Int) 16) 1)).bind fun x2 => (ref10_back.l0 K K a0 a2 x2 x2 a1).bind fun y5 => if 0 ≤ (0 : Int) then (if (0 : Int) ≤ (16 : Int) then (if (16 : Int) ≤ a0.length then ((ref01_Xor.f K y5 (subL a0 0 16)).bind fun r14 => some r14) else none) else none) else none

def ref10_Back.f (K : Nat) (a0 : List Int) (a1 : List Int) : Option ((List Int) × Int) :=
  (ref10_Sized.f K a0).bind fun r1 => if r1 = true then (if (a1.length : Int) = 16 then ((ref10_boxes.f K).bind fun (r2, r3) => (ref10_keys.f K a0 r2).bind fun r6 => (ref10_back.f K r6 a1 r3).bind fun r7 => some (r7, 0)) else (some (([] : List Int), 14))) else (some (([] : List Int), 10))

end Go.Proofs.Ytmpagpbnpgcecaa
