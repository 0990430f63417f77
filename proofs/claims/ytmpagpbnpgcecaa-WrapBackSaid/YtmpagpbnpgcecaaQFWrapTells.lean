/- Printed by this work's own program: the plain forms of the functions that the laws reach. -/
import Derived.Test.YtmpagpbnpgcecaaQF0
set_option linter.unusedVariables false
set_option linter.unusedSimpArgs false
namespace Go.Proofs.Ytmpagpbnpgcecaa
open Go.Mx

def ref10_Sized.f (K : Nat) (a0 : List Int) : Option (Bool) :=
  if (a0.length : Int) = 16 then (some true) else (if (a0.length : Int) = 24 then (some true) else (some ((a0.length : Int) == 32)))

def ref10_Mul.l0 (K : Nat) : Nat → Int → Int → Int → Int → Option (Int)
  | 0, _, _, _, _ => none
  | k + 1, z1, z2, z3, z4 => if z4 < 8 then (((((if (iand .u8 z2 1) = 1 then ((some (ixor .u8 z3 z1)).bind fun x10 => some x10) else (some z3) : Option (Int))).bind fun y9 => if z1 ≥ 128 then ((some (ishl .u8 z1 1)).bind fun x11 => (some (ixor .u8 x11 27)).bind fun x12 => (some (ishr .u8 z2 1)).bind fun x13 => some (x12, x13, y9)) else ((some (ishl .u8 z1 1)).bind fun x14 => (some (ishr .u8 z2 1)).bind fun x15 => some (x14, x15, y9)) : Option (Int × Int × Int))).bind fun (y6, y7, y8) => (some (iadd .i64 z4 1)).bind fun x16 => ref10_Mul.l0 K k y6 y7 y8 x16) else (some z3)

def ref10_Mul.f (K : Nat) (a0 : Int) (a1 : Int) : Option (Int) :=
  (ref10_Mul.l0 K K a0 a1 0 0).bind fun y5 => some y5

def ref10_inverse.l0 (K : Nat) : Nat → Int → Int → Int → Option (Int)
  | 0, _, _, _ => none
  | k + 1, z1, z2, z3 => if z3 < 7 then ((ref10_Mul.f K z1 z1).bind fun r5 => (ref10_Mul.f K z2 r5).bind fun r6 => (some (iadd .i64 z3 1)).bind fun x7 => ref10_inverse.l0 K k r5 r6 x7) else (some z2)

def ref10_inverse.f (K : Nat) (a0 : Int) : Option (Int) :=
  (ref10_inverse.l0 K K a0 1 0).bind fun y4 => some y4

def ref10_Box.l0 (K : Nat) : Nat → Int → Int → Int → Option (Int)
  | 0, _, _, _ => none
  | k + 1, r1, z2, z3 => if z3 < 5 then (if 0 ≤ z3 then (if 0 ≤ (isub .i64 8 z3) then ((some (ixor .u8 z2 (ior .u8 (ishl .u8 r1 z3) (ishr .u8 r1 (isub .i64 8 z3))))).bind fun x5 => (some (iadd .i64 z3 1)).bind fun x6 => ref10_Box.l0 K k r1 x5 x6) else none) else none) else (some z2)

def ref10_Box.f (K : Nat) (a0 : Int) : Option (Int) :=
  (ref10_inverse.f K a0).bind fun r1 => (ref10_Box.l0 K K r1 99 0).bind fun y4 => some y4

def ref10_boxes.l0 (K : Nat) : Nat → Int → (Arr 256) → (Arr 256) → Option ((Arr 256) × (Arr 256))
  | 0, _, _, _ => none
  | k + 1, z5, z6, z7 => if z5 < 256 then ((ref10_Box.f K (iconv .u8 z5)).bind fun r10 => if 0 ≤ z5 then (if z5 < 256 then (if 0 ≤ r10 then (if r10 < 256 then ((some (iconv .u8 z5)).bind fun x11 => (some (iadd .i64 z5 1)).bind fun x12 => ref10_boxes.l0 K k x12 (wr z6 r10 x11) (wr z7 z5 r10)) else none) else none) else none) else none) else (some (z6, z7))

def ref10_boxes.f (K : Nat) : Option ((Arr 256) × (Arr 256)) :=
  (ref10_boxes.l0 K K 0 (zeroA 256) (zeroA 256)).bind fun (y8, y9) => some (y9, y8)

def ref01_Xor.l0 (K : Nat) : Nat → (List Int) → (List Int) → Int → (List Int) → Option ((List Int))
  | 0, _, _, _, _ => none
  | k + 1, a0, a1, z1, z2 => if z1 < (a0.length : Int) then (if z1 < (a1.length : Int) then (if 0 ≤ z1 then (if z1 < a0.length then (if 0 ≤ z1 then (if z1 < a1.length then (if z2.length + ([(ixor .u8 (rdL (CI .u8) a0 z1) (rdL (CI .u8) a1 z1))] : List Int).length ≤ 140737488355328 then ((some (iadd .i64 z1 1)).bind fun x6 => ref01_Xor.l0 K k a0 a1 x6 (z2 ++ ([(ixor .u8 (rdL (CI .u8) a0 z1) (rdL (CI .u8) a1 z1))] : List Int))) else none) else none) else none) else none) else none) else (some z2)) else (some z2)

def ref01_Xor.f (K : Nat) (a0 : List Int) (a1 : List Int) : Option ((List Int)) :=
  (ref01_Xor.l0 K K a0 a1 0 ([] : List Int)).bind fun y3 => some y3

def ref10_rows.l1 (K : Nat) : Nat → (List Int) → Int → Int → Int → (List Int) → Option ((List Int))
  | 0, _, _, _, _, _ => none
  | k + 1, a0, a1, z2, z5, z6 => if z5 < 4 then ((some (iadd .i64 (imul .i64 4 (irem .i64 (iadd .i64 (iadd .i64 z2 (imul .i64 a1 z5)) 4) 4)) z5)).bind fun x8 => if 0 ≤ x8 then (if x8 < a0.length then ((some (iadd .i64 (imul .i64 4 z2) z5)).bind fun x9 => if 0 ≤ x9 then (if x9 < z6.length then ((some (rdL (CI .u8) a0 x8)).bind fun x10 => (some (iadd .i64 z5 1)).bind fun x11 => ref10_rows.l1 K k a0 a1 z2 x11 (wrL z6 x9 x10)) else none) else none) else none) else none) else (some z6)

def ref10_rows.l0 (K : Nat) : Nat → (List Int) → Int → Int → (List Int) → Option ((List Int))
  | 0, _, _, _, _ => none
  | k + 1, a0, a1, z2, z3 => if z2 < 4 then ((ref10_rows.l1 K K a0 a1 z2 0 z3).bind fun y7 => (some (iadd .i64 z2 1)).bind fun x12 => ref10_rows.l0 K k a0 a1 x12 y7) else (some z3)

def ref10_rows.f (K : Nat) (a0 : List Int) (a1 : Int) : Option ((List Int)) :=
  (ref10_rows.l0 K K a0 a1 0 (List.replicate (16 : Int).toNat (Cod.zero (CI .u8)))).bind fun y4 => some y4

def ref10_each.l0 (K : Nat) : Nat → (List Int) → (Arr 256) → Int → (List Int) → Option ((List Int))
  | 0, _, _, _, _ => none
  | k + 1, a0, a1, z3, z4 => if z3 < 16 then (if 0 ≤ z3 then (if z3 < a0.length then ((some (rdL (CI .u8) a0 z3)).bind fun x6 => if 0 ≤ x6 then (if x6 < 256 then (if 0 ≤ z3 then (if z3 < z4.length then ((some (rd a1 x6)).bind fun x7 => (some (iadd .i64 z3 1)).bind fun x8 => ref10_each.l0 K k a0 a1 x8 (wrL z4 z3 x7)) else none) else none) else none) else none) else none) else none) else (some z4)

def ref10_each.f (K : Nat) (a0 : List Int) (a1 : Arr 256) : Option ((List Int)) :=
  (ref10_each.l0 K K a0 a1 0 (List.replicate (16 : Int).toNat (Cod.zero (CI .u8)))).bind fun y5 => some y5

def ref10_columns.l2 (K : Nat) : Nat → (List Int) → (Arr 4) → Int → Int → Int → Int → Option (Int)
  | 0, _, _, _, _, _, _ => none
  | k + 1, a0, a1, z3, z6, z9, z10 => if z10 < 4 then (if 0 ≤ z10 then (if z10 < 4 then ((some (iadd .i64 (imul .i64 4 z3) (irem .i64 (iadd .i64 z6 z10) 4))).bind fun x12 => if 0 ≤ x12 then (if x12 < a0.length then ((ref10_Mul.f K (rd a1 z10) (rdL (CI .u8) a0 x12)).bind fun r13 => (some (ixor .u8 z9 r13)).bind fun x14 => (some (iadd .i64 z10 1)).bind fun x15 => ref10_columns.l2 K k a0 a1 z3 z6 x14 x15) else none) else none) else none) else none) else (some z9)

def ref10_columns.l1 (K : Nat) : Nat → (List Int) → (Arr 4) → Int → Int → (List Int) → Option ((List Int))
  | 0, _, _, _, _, _ => none
  | k + 1, a0, a1, z3, z6, z7 => if z6 < 4 then ((ref10_columns.l2 K K a0 a1 z3 z6 0 0).bind fun y11 => (some (iadd .i64 (imul .i64 4 z3) z6)).bind fun x16 => if 0 ≤ x16 then (if x16 < z7.length then ((some (iadd .i64 z6 1)).bind fun x17 => ref10_columns.l1 K k a0 a1 z3 x17 (wrL z7 x16 y11)) else none) else none) else (some z7)

def ref10_columns.l0 (K : Nat) : Nat → (List Int) → (Arr 4) → Int → (List Int) → Option ((List Int))
  | 0, _, _, _, _ => none
  | k + 1, a0, a1, z3, z4 => if z3 < 4 then ((ref10_columns.l1 K K a0 a1 z3 0 z4).bind fun y8 => (some (iadd .i64 z3 1)).bind fun x18 => ref10_columns.l0 K k a0 a1 x18 y8) else (some z4)

def ref10_columns.f (K : Nat) (a0 : List Int) (a1 : Arr 4) : Option ((List Int)) :=
  (ref10_columns.l0 K K a0 a1 0 (List.replicate (16 : Int).toNat (Cod.zero (CI .u8)))).bind fun y5 => some y5

def ref10_there.l0 (K : Nat) : Nat → (List Int) → (Arr 256) → Int → Int → (List Int) → Option ((List Int))
  | 0, _, _, _, _, _ => none
  | k + 1, a0, a2, x2, z5, z6 => if z5 ≤ x2 then ((ref10_each.f K z6 a2).bind fun r8 => (ref10_rows.f K r8 1).bind fun r9 => ((if z5 < x2 then ((ref10_columns.f K r9 (wr (wr (wr (wr (zeroA 4) 0 2) 1 3) 2 1) 3 1)).bind fun r11 => some r11) else (some r9) : Option ((List Int)))).bind fun y10 => if 0 ≤ (imul .i64 16 z5) then (if (imul .i64 16 z5) ≤ (iadd .i64 (imul .i64 16 z5) 16) then (if (iadd .i64 (imul .i64 16 z5) 16) ≤ a0.length then ((ref01_Xor.f K y10 (subL a0 (imul .i64 16 z5) (iadd .i64 (imul .i64 16 z5) 16))).bind fun r13 => (some (iadd .i64 z5 1)).bind fun x14 => ref10_there.l0 K k a0 a2 x2 x14 r13) else none) else none) else none) else (some z6)

def ref10_there.f (K : Nat) (a0 : List Int) (a1 : List Int) (a2 : Arr 256) : Option ((List Int)) :=
  (some (isub .i64 (iquo .i64 (a0.length : Int) 16) 1)).bind fun x2 => if 0 ≤ (0 : Int) then (if (0 : Int) ≤ (16 : Int) then (if (16 : Int) ≤ a0.length then ((ref01_Xor.f K a1 (subL a0 0 16)).bind fun r4 => (ref10_there.l0 K K a0 a2 x2 1 r4).bind fun y7 => some y7) else none) else none) else none

def ref10_keys.l1 (K : Nat) : Nat → Int → Int → (List Int) → Int → (List Int) → Option ((List Int))
  | 0, _, _, _, _, _ => none
  | k + 1, x2, z5, y14, z26, z27 => if z26 < 4 then ((some (iadd .i64 (imul .i64 4 (isub .i64 z5 x2)) z26)).bind fun x29 => if 0 ≤ x29 then (if x29 < z27.length then (if 0 ≤ z26 then (if z26 < y14.length then (if z27.length + ([(ixor .u8 (rdL (CI .u8) z27 x29) (rdL (CI .u8) y14 z26))] : List Int).length ≤ 140737488355328 then ((some (iadd .i64 z26 1)).bind fun x32 => ref10_keys.l1 K k x2 z5 y14 x32 (z27 ++ ([(ixor .u8 (rdL (CI .u8) z27 x29) (rdL (CI .u8) y14 z26))] : List Int))) else none) else none) else none) else none) else none) else (some z27)

def ref10_keys.l0 (K : Nat) : Nat → (Arr 256) → Int → Int → Int → (List Int) → Option ((List Int))
  | 0, _, _, _, _, _ => none
  | k + 1, a1, x2, z4, z5, z6 => if z5 < (imul .i64 4 (iadd .i64 x2 7)) then ((some (isub .i64 (imul .i64 4 z5) 4)).bind fun x8 => if 0 ≤ x8 then (if x8 < z6.length then ((some (isub .i64 (imul .i64 4 z5) 3)).bind fun x9 => if 0 ≤ x9 then (if x9 < z6.length then ((some (isub .i64 (imul .i64 4 z5) 2)).bind fun x10 => if 0 ≤ x10 then (if x10 < z6.length then ((some (isub .i64 (imul .i64 4 z5) 1)).bind fun x11 => if 0 ≤ x11 then (if x11 < z6.length then (((if ¬ x2 = 0 then (if (irem .i64 z5 x2) = 0 then (if 0 ≤ (1 : Int) then (if (1 : Int) < ([(rdL (CI .u8) z6 x8), (rdL (CI .u8) z6 x9), (rdL (CI .u8) z6 x10), (rdL (CI .u8) z6 x11)] : List Int).length then ((some (rdL (CI .u8) ([(rdL (CI .u8) z6 x8), (rdL (CI .u8) z6 x9), (rdL (CI .u8) z6 x10), (rdL (CI .u8) z6 x11)] : List Int) 1)).bind fun x15 => if 0 ≤ x15 then (if x15 < 256 then (if 0 ≤ (2 : Int) then (if (2 : Int) < ([(rdL (CI .u8) z6 x8), (rdL (CI .u8) z6 x9), (rdL (CI .u8) z6 x10), (rdL (CI .u8) z6 x11)] : List Int).length then ((some (rdL (CI .u8) ([(rdL (CI .u8) z6 x8), (rdL (CI .u8) z6 x9), (rdL (CI .u8) z6 x10), (rdL (CI .u8) z6 x11)] : List Int) 2)).bind fun x16 => if 0 ≤ x16 then (if x16 < 256 then (if 0 ≤ (3 : Int) then (if (3 : Int) < ([(rdL (CI .u8) z6 x8), (rdL (CI .u8) z6 x9), (rdL (CI .u8) z6 x10), (rdL (CI .u8) z6 x11)] : List Int).length then ((some (rdL (CI .u8) ([(rdL (CI .u8) z6 x8), (rdL (CI .u8) z6 x9), (rdL (CI .u8) z6 x10), (rdL (CI .u8) z6 x11)] : List Int) 3)).bind fun x17 => if 0 ≤ x17 then (if x17 < 256 then (if 0 ≤ (0 : Int) then (if (0 : Int) < ([(rdL (CI .u8) z6 x8), (rdL (CI .u8) z6 x9), (rdL (CI .u8) z6 x10), (rdL (CI .u8) z6 x11)] : List Int).length then ((some (rdL (CI .u8) ([(rdL (CI .u8) z6 x8), (rdL (CI .u8) z6 x9), (rdL (CI .u8) z6 x10), (rdL (CI .u8) z6 x11)] : List Int) 0)).bind fun x18 => if 0 ≤ x18 then (if x18 < 256 then ((ref10_Mul.f K z4 2).bind fun r20 => some (r20, ([(ixor .u8 (rd a1 x15) z4), (rd a1 x16), (rd a1 x17), (rd a1 x18)] : List Int))) else none) else none) else none) else none) else none) else none) else none) else none) else none) else none) else none) else none) else none) else none) else none) else none) else (if x2 = 8 then (if (irem .i64 z5 8) = 4 then (if 0 ≤ (0 : Int) then (if (0 : Int) < ([(rdL (CI .u8) z6 x8), (rdL (CI .u8) z6 x9), (rdL (CI .u8) z6 x10), (rdL (CI .u8) z6 x11)] : List Int).length then ((some (rdL (CI .u8) ([(rdL (CI .u8) z6 x8), (rdL (CI .u8) z6 x9), (rdL (CI .u8) z6 x10), (rdL (CI .u8) z6 x11)] : List Int) 0)).bind fun x21 => if 0 ≤ x21 then (if x21 < 256 then (if 0 ≤ (1 : Int) then (if (1 : Int) < ([(rdL (CI .u8) z6 x8), (rdL (CI .u8) z6 x9), (rdL (CI .u8) z6 x10), (rdL (CI .u8) z6 x11)] : List Int).length then ((some (rdL (CI .u8) ([(rdL (CI .u8) z6 x8), (rdL (CI .u8) z6 x9), (rdL (CI .u8) z6 x10), (rdL (CI .u8) z6 x11)] : List Int) 1)).bind fun x22 => if 0 ≤ x22 then (if x22 < 256 then (if 0 ≤ (2 : Int) then (if (2 : Int) < ([(rdL (CI .u8) z6 x8), (rdL (CI .u8) z6 x9), (rdL (CI .u8) z6 x10), (rdL (CI .u8) z6 x11)] : List Int).length then ((some (rdL (CI .u8) ([(rdL (CI .u8) z6 x8), (rdL (CI .u8) z6 x9), (rdL (CI .u8) z6 x10), (rdL (CI .u8) z6 x11)] : List Int) 2)).bind fun x23 => if 0 ≤ x23 then (if x23 < 256 then (if 0 ≤ (3 : Int) then (if (3 : Int) < ([(rdL (CI .u8) z6 x8), (rdL (CI .u8) z6 x9), (rdL (CI .u8) z6 x10), (rdL (CI .u8) z6 x11)] : List Int).length then ((some (rdL (CI .u8) ([(rdL (CI .u8) z6 x8), (rdL (CI .u8) z6 x9), (rdL (CI .u8) z6 x10), (rdL (CI .u8) z6 x11)] : List Int) 3)).bind fun x24 => if 0 ≤ x24 then (if x24 < 256 then (some (z4, ([(rd a1 x21), (rd a1 x22), (rd a1 x23), (rd a1 x24)] : List Int))) else none) else none) else none) else none) else none) else none) else none) else none) else none) else none) else none) else none) else none) else none) else none) else none) else (some (z4, ([(rdL (CI .u8) z6 x8), (rdL (CI .u8) z6 x9), (rdL (CI .u8) z6 x10), (rdL (CI .u8) z6 x11)] : List Int)))) else (some (z4, ([(rdL (CI .u8) z6 x8), (rdL (CI .u8) z6 x9), (rdL (CI .u8) z6 x10), (rdL (CI .u8) z6 x11)] : List Int))))) else none : Option (Int × (List Int)))).bind fun (y13, y14) => (ref10_keys.l1 K K x2 z5 y14 0 z6).bind fun y28 => (some (iadd .i64 z5 1)).bind fun x33 => ref10_keys.l0 K k a1 x2 y13 x33 y28) else none) else none) else none) else none) else none) else none) else none) else none) else (some z6)

def ref10_keys.f (K : Nat) (a0 : List Int) (a1 : Arr 256) : Option ((List Int)) :=
  (some (iquo .i64 (a0.length : Int) 4)).bind fun x2 => if ([] : List Int).length + a0.length ≤ 140737488355328 then ((ref10_keys.l0 K K a1 x2 1 x2 (([] : List Int) ++ a0)).bind fun y7 => some y7) else none

def ref10_Block.f (K : Nat) (a0 : List Int) (a1 : List Int) : Option ((List Int) × Int) :=
  (ref10_Sized.f K a0).bind fun r1 => if r1 = true then (if (a1.length : Int) = 16 then ((ref10_boxes.f K).bind fun (r2, r3) => (ref10_keys.f K a0 r2).bind fun r6 => (ref10_there.f K r6 a1 r2).bind fun r7 => some (r7, 0)) else (some (([] : List Int), 14))) else (some (([] : List Int), 10))

def ref01_Join.l0 (K : Nat) : Nat → (List (List Int)) → Int → (List Int) → Option ((List Int))
  | 0, _, _, _ => none
  | k + 1, a0, z1, z2 => if z1 < (a0.length : Int) then (if 0 ≤ z1 then (if z1 < a0.length then (if z2.length + (rdLL a0 z1).length ≤ 140737488355328 then ((some (iadd .i64 z1 1)).bind fun x6 => ref01_Join.l0 K k a0 x6 (z2 ++ (rdLL a0 z1))) else none) else none) else none) else (some z2)

def ref01_Join.f (K : Nat) (a0 : List (List Int)) : Option ((List Int)) :=
  (ref01_Join.l0 K K a0 0 ([] : List Int)).bind fun y3 => some y3

def ref01_Be.l0 (K : Nat) : Nat → Int → Int → (List Int) → Option ((List Int))
  | 0, _, _, _ => none
  | k + 1, z3, z4, z5 => if z4 ≥ 0 then (if 0 ≤ z4 then (if z4 < z5.length then ((some (iconv .u8 (iand .u64 z3 255))).bind fun x7 => (some (ishr .u64 z3 8)).bind fun x8 => (some (isub .i64 z4 1)).bind fun x9 => ref01_Be.l0 K k x8 x9 (wrL z5 z4 x7)) else none) else none) else (some z5)

def ref01_Be.f (K : Nat) (a0 : Int) (a1 : Int) : Option ((List Int)) :=
  if a1 < 0 then (some ([] : List Int)) else (if a1 > 65536 then (some ([] : List Int)) else (if 0 ≤ a1 then (if a1 ≤ 140737488355328 then ((some (isub .i64 a1 1)).bind fun x2 => (ref01_Be.l0 K K a0 x2 (List.replicate (a1 : Int).toNat (Cod.zero (CI .u8)))).bind fun y6 => some y6) else none) else none))

def ref01_Num.l0 (K : Nat) : Nat → (List Int) → Int → Int → Option (Int)
  | 0, _, _, _ => none
  | k + 1, a0, z1, z2 => if z2 < (a0.length : Int) then (if 0 ≤ z2 then (if z2 < a0.length then ((some (iadd .u64 (imul .u64 z1 256) (iconv .u64 (rdL (CI .u8) a0 z2)))).bind fun x4 => (some (iadd .i64 z2 1)).bind fun x5 => ref01_Num.l0 K k a0 x4 x5) else none) else none) else (some z1)

def ref01_Num.f (K : Nat) (a0 : List Int) : Option (Int) :=
  (ref01_Num.l0 K K a0 0 0).bind fun y3 => some y3

def ref11_Wrap.l2 (K : Nat) : Nat → Int → (List Int) → Int → (List Int) → Option ((List Int))
  | 0, _, _, _, _ => none
  | k + 1, z10, r18, z23, z24 => if z23 < 8 then ((some (iadd .i64 8 z23)).bind fun x26 => if 0 ≤ x26 then (if x26 < r18.length then ((some (iadd .i64 (imul .i64 8 z10) z23)).bind fun x27 => if 0 ≤ x27 then (if x27 < z24.length then ((some (rdL (CI .u8) r18 x26)).bind fun x28 => (some (iadd .i64 z23 1)).bind fun x29 => ref11_Wrap.l2 K k z10 r18 x29 (wrL z24 x27 x28)) else none) else none) else none) else none) else (some z24)

def ref11_Wrap.l1 (K : Nat) : Nat → (List Int) → Int → Int → Int → Int → (List Int) → Option (Int × (List Int))
  | 0, _, _, _, _, _, _ => none
  | k + 1, a0, x3, z5, z9, z10, z11 => if z10 < x3 then (if 0 ≤ (imul .i64 8 z10) then (if (imul .i64 8 z10) ≤ (iadd .i64 (imul .i64 8 z10) 8) then (if (iadd .i64 (imul .i64 8 z10) 8) ≤ z11.length then ((ref01_Be.f K z9 8).bind fun r15 => (ref01_Join.f K ([r15, (subL z11 (imul .i64 8 z10) (iadd .i64 (imul .i64 8 z10) 8))] : List (List Int))).bind fun r17 => (ref10_Block.f K a0 r17).bind fun (r18, r19) => if 0 ≤ (0 : Int) then (if (0 : Int) ≤ (8 : Int) then (if (8 : Int) ≤ r18.length then ((ref01_Num.f K (subL r18 0 8)).bind fun r21 => (some (ixor .u64 r21 (iconv .u64 (iadd .i64 (iadd .i64 (imul .i64 x3 z5) z10) 1)))).bind fun x22 => (ref11_Wrap.l2 K K z10 r18 0 z11).bind fun y25 => (some (iadd .i64 z10 1)).bind fun x30 => ref11_Wrap.l1 K k a0 x3 z5 x22 x30 y25) else none) else none) else none) else none) else none) else none) else (some (z9, z11))

def ref11_Wrap.l0 (K : Nat) : Nat → (List Int) → Int → Int → Int → (List Int) → Option (Int × (List Int))
  | 0, _, _, _, _, _ => none
  | k + 1, a0, x3, z4, z5, z6 => if z5 < 6 then ((ref11_Wrap.l1 K K a0 x3 z5 z4 0 z6).bind fun (y12, y13) => (some (iadd .i64 z5 1)).bind fun x31 => ref11_Wrap.l0 K k a0 x3 y12 x31 y13) else (some (z4, z6))

def ref11_Wrap.f (K : Nat) (a0 : List Int) (a1 : List Int) : Option ((List Int) × Int) :=
  (ref10_Sized.f K a0).bind fun r1 => if r1 = true then (if (a1.length : Int) < 16 then (some (([] : List Int), 14)) else (if (a1.length : Int) > 4096 then (some (([] : List Int), 14)) else (if (irem .i64 (a1.length : Int) 8) = 0 then (if ([] : List Int).length + a1.length ≤ 140737488355328 then ((some (iquo .i64 (a1.length : Int) 8)).bind fun x3 => (ref11_Wrap.l0 K K a0 x3 12008468691120727718 0 (([] : List Int) ++ a1)).bind fun (y7, y8) => (ref01_Be.f K y7 8).bind fun r32 => if r32.length + y8.length ≤ 140737488355328 then (some ((r32 ++ y8), 0)) else none) else none) else (some (([] : List Int), 14))))) else (some (([] : List Int), 10))

def ref10_back.l0 (K : Nat) : Nat → (List Int) → (Arr 256) → Int → Int → (List Int) → Option ((List Int))
  | 0, _, _, _, _, _ => none
  | k + 1, a0, a2, x2, z3, z4 => if z3 ≥ 1 then (if 0 ≤ (imul .i64 16 z3) then (if (imul .i64 16 z3) ≤ (iadd .i64 (imul .i64 16 z3) 16) then (if (iadd .i64 (imul .i64 16 z3) 16) ≤ a0.length then ((ref01_Xor.f K z4 (subL a0 (imul .i64 16 z3) (iadd .i64 (imul .i64 16 z3) 16))).bind fun r7 => ((if z3 < x2 then ((ref10_columns.f K r7 (wr (wr (wr (wr (zeroA 4) 0 14) 1 11) 2 13) 3 9)).bind fun r9 => some r9) else (some r7) : Option ((List Int)))).bind fun y8 => (ref10_rows.f K y8 (-1)).bind fun r10 => (ref10_each.f K r10 a2).bind fun r11 => (some (isub .i64 z3 1)).bind fun x12 => ref10_back.l0 K k a0 a2 x2 x12 r11) else none) else none) else none) else (some z4)

def ref10_back.f (K : Nat) (a0 : List Int) (a1 : List Int) (a2 : Arr 256) : Option ((List Int)) :=
  (some (isub .i64 (iquo .i64 (a0.length : Int) 16) 1)).bind fun x2 => (ref10_back.l0 K K a0 a2 x2 x2 a1).bind fun y5 => if 0 ≤ (0 : Int) then (if (0 : Int) ≤ (16 : Int) then (if (16 : Int) ≤ a0.length then ((ref01_Xor.f K y5 (subL a0 0 16)).bind fun r14 => some r14) else none) else none) else none

def ref10_Back.f (K : Nat) (a0 : List Int) (a1 : List Int) : Option ((List Int) × Int) :=
  (ref10_Sized.f K a0).bind fun r1 => if r1 = true then (if (a1.length : Int) = 16 then ((ref10_boxes.f K).bind fun (r2, r3) => (ref10_keys.f K a0 r2).bind fun r6 => (ref10_back.f K r6 a1 r3).bind fun r7 => some (r7, 0)) else (some (([] : List Int), 14))) else (some (([] : List Int), 10))

def ref11_Unwrap.l2 (K : Nat) : Nat → Int → (List Int) → Int → (List Int) → Option ((List Int))
  | 0, _, _, _, _ => none
  | k + 1, z14, r22, z26, z27 => if z26 < 8 then ((some (iadd .i64 8 z26)).bind fun x29 => if 0 ≤ x29 then (if x29 < r22.length then ((some (iadd .i64 (imul .i64 8 z14) z26)).bind fun x30 => if 0 ≤ x30 then (if x30 < z27.length then ((some (rdL (CI .u8) r22 x29)).bind fun x31 => (some (iadd .i64 z26 1)).bind fun x32 => ref11_Unwrap.l2 K k z14 r22 x32 (wrL z27 x30 x31)) else none) else none) else none) else none) else (some z27)

def ref11_Unwrap.l1 (K : Nat) : Nat → (List Int) → Int → Int → Int → Int → (List Int) → Option (Int × (List Int))
  | 0, _, _, _, _, _, _ => none
  | k + 1, a0, x6, z8, z13, z14, z15 => if z14 ≥ 0 then (if 0 ≤ (imul .i64 8 z14) then (if (imul .i64 8 z14) ≤ (iadd .i64 (imul .i64 8 z14) 8) then (if (iadd .i64 (imul .i64 8 z14) 8) ≤ z15.length then ((ref01_Be.f K (ixor .u64 z13 (iconv .u64 (iadd .i64 (iadd .i64 (imul .i64 x6 z8) z14) 1))) 8).bind fun r19 => (ref01_Join.f K ([r19, (subL z15 (imul .i64 8 z14) (iadd .i64 (imul .i64 8 z14) 8))] : List (List Int))).bind fun r21 => (ref10_Back.f K a0 r21).bind fun (r22, r23) => if 0 ≤ (0 : Int) then (if (0 : Int) ≤ (8 : Int) then (if (8 : Int) ≤ r22.length then ((ref01_Num.f K (subL r22 0 8)).bind fun r25 => (ref11_Unwrap.l2 K K z14 r22 0 z15).bind fun y28 => (some (isub .i64 z14 1)).bind fun x33 => ref11_Unwrap.l1 K k a0 x6 z8 r25 x33 y28) else none) else none) else none) else none) else none) else none) else (some (z13, z15))

def ref11_Unwrap.l0 (K : Nat) : Nat → (List Int) → Int → Int → Int → (List Int) → Option (Int × (List Int))
  | 0, _, _, _, _, _ => none
  | k + 1, a0, x6, z7, z8, z9 => if z8 ≥ 0 then ((some (isub .i64 x6 1)).bind fun x12 => (ref11_Unwrap.l1 K K a0 x6 z8 z7 x12 z9).bind fun (y16, y17) => (some (isub .i64 z8 1)).bind fun x34 => ref11_Unwrap.l0 K k a0 x6 y16 x34 y17) else (some (z7, z9))

def ref11_Unwrap.f (K : Nat) (a0 : List Int) (a1 : List Int) : Option ((List Int) × Int) :=
  (ref10_Sized.f K a0).bind fun r1 => if r1 = true then (if (a1.length : Int) < 24 then (some (([] : List Int), 14)) else (if (a1.length : Int) > 4104 then (some (([] : List Int), 14)) else (if (irem .i64 (a1.length : Int) 8) = 0 then (if 0 ≤ (0 : Int) then (if (0 : Int) ≤ (8 : Int) then (if (8 : Int) ≤ a1.length then ((ref01_Num.f K (subL a1 0 8)).bind fun r3 => if 0 ≤ (8 : Int) then (if (8 : Int) ≤ (a1.length : Int) then (if (a1.length : Int) ≤ a1.length then (if ([] : List Int).length + (subL a1 8 (a1.length : Int)).length ≤ 140737488355328 then ((some (iquo .i64 ((([] : List Int) ++ (subL a1 8 (a1.length : Int))).length : Int) 8)).bind fun x6 => (ref11_Unwrap.l0 K K a0 x6 r3 5 (([] : List Int) ++ (subL a1 8 (a1.length : Int)))).bind fun (y10, y11) => if y10 = 12008468691120727718 then (some (y11, 0)) else (some (([] : List Int), 16))) else none) else none) else none) else none) else none) else none) else none) else (some (([] : List Int), 14))))) else (some (([] : List Int), 10))

end Go.Proofs.Ytmpagpbnpgcecaa
