/- Printed by this work's own program: the plain forms of the functions that the laws reach. -/
import Derived.Test.YtijahfdldlmnhaaMc
set_option linter.unusedVariables false
namespace Go.Proofs.Ytijahfdldlmnhaa
open Go.Mx

def zq_Split.f (K : Nat) (a0 : Int) : Option (Int × Int) :=
  (some (ishr .i32 (isub .i32 (iadd .i32 a0 4096) 1) 13)).bind fun x1 => (some (isub .i32 a0 (ishl .i32 x1 13))).bind fun x2 => some (x1, x2)

def zq_Parts.f (K : Nat) (a0 : Int) (a1 : Int) : Option (Int × Int) :=
  if a1 ≤ 0 then (some (0, 0)) else (if ¬ (imul .i32 2 a1) = 0 then ((some (iquo .i32 (isub .i32 (iadd .i32 a0 a1) 1) (imul .i32 2 a1))).bind fun x1 => (some (isub .i32 a0 (imul .i32 (imul .i32 x1 2) a1))).bind fun x2 => if ¬ (imul .i32 2 a1) = 0 then (if x1 = (iquo .i32 8380416 (imul .i32 2 a1)) then ((some (isub .i32 x2 1)).bind fun x3 => some (0, x3)) else (some (x1, x2))) else none) else none)

def zq_plus.f (K : Nat) (a0 : Int) (a1 : Int) : Option (Int) :=
  (((some (iadd .i32 a0 a1)).bind fun x2 => if x2 ≥ 8380417 then ((some (isub .i32 x2 8380417)).bind fun x3 => some x3) else (some x2) : Option (Int))).bind fun y1 => some y1

def zq_times.f (K : Nat) (a0 : Int) (a1 : Int) : Option (Int) :=
  (some (iconv .i32 (irem .i64 (imul .i64 (iconv .i64 a0) (iconv .i64 a1)) 8380417))).bind fun x1 => some x1

def math_bits_Reverse8.f (K : Nat) (a0 : Int) : Option (Int) :=
  if 0 ≤ a0 then (if a0 < 256 then ((some (strAt [0, 128, 64, 192, 32, 160, 96, 224, 16, 144, 80, 208, 48, 176, 112, 240, 8, 136, 72, 200, 40, 168, 104, 232, 24, 152, 88, 216, 56, 184, 120, 248, 4, 132, 68, 196, 36, 164, 100, 228, 20, 148, 84, 212, 52, 180, 116, 244, 12, 140, 76, 204, 44, 172, 108, 236, 28, 156, 92, 220, 60, 188, 124, 252, 2, 130, 66, 194, 34, 162, 98, 226, 18, 146, 82, 210, 50, 178, 114, 242, 10, 138, 74, 202, 42, 170, 106, 234, 26, 154, 90, 218, 58, 186, 122, 250, 6, 134, 70, 198, 38, 166, 102, 230, 22, 150, 86, 214, 54, 182, 118, 246, 14, 142, 78, 206, 46, 174, 110, 238, 30, 158, 94, 222, 62, 190, 126, 254, 1, 129, 65, 193, 33, 161, 97, 225, 17, 145, 81, 209, 49, 177, 113, 241, 9, 137, 73, 201, 41, 169, 105, 233, 25, 153, 89, 217, 57, 185, 121, 249, 5, 133, 69, 197, 37, 165, 101, 229, 21, 149, 85, 213, 53, 181, 117, 245, 13, 141, 77, 205, 45, 173, 109, 237, 29, 157, 93, 221, 61, 189, 125, 253, 3, 131, 67, 195, 35, 163, 99, 227, 19, 147, 83, 211, 51, 179, 115, 243, 11, 139, 75, 203, 43, 171, 107, 235, 27, 155, 91, 219, 59, 187, 123, 251, 7, 135, 71, 199, 39, 167, 103, 231, 23, 151, 87, 215, 55, 183, 119, 247, 15, 143, 79, 207, 47, 175, 111, 239, 31, 159, 95, 223, 63, 191, 127, 255] a0)).bind fun x1 => some x1) else none) else none

def zq_roots.l0 (K : Nat) : Nat → Int → (Arr 256) → Option ((Arr 256))
  | 0, _, _ => none
  | k + 1, z3, z4 => if z3 < 256 then ((some (isub .i64 z3 1)).bind fun x6 => if 0 ≤ x6 then (if x6 < 256 then ((zq_times.f K (rd z4 x6) 1753).bind fun r7 => if 0 ≤ z3 then (if z3 < 256 then ((some (iadd .i64 z3 1)).bind fun x8 => zq_roots.l0 K k x8 (wr z4 z3 r7)) else none) else none) else none) else none) else (some z4)

def zq_roots.l1 (K : Nat) : Nat → (Arr 256) → Int → (Arr 256) → Option ((Arr 256))
  | 0, _, _, _ => none
  | k + 1, y5, z9, z10 => if z9 < 256 then ((math_bits_Reverse8.f K (iconv .u8 z9)).bind fun r12 => if 0 ≤ r12 then (if r12 < 256 then (if 0 ≤ z9 then (if z9 < 256 then ((some (rd y5 r12)).bind fun x13 => zq_roots.l1 K k y5 (iadd .i64 z9 1) (wr z10 z9 x13)) else none) else none) else none) else none) else (some z10)

def zq_roots.f (K : Nat) : Option ((Arr 256)) :=
  (zq_roots.l0 K K 1 (wr (zeroA 256) 0 1)).bind fun y5 => (zq_roots.l1 K K y5 0 (zeroA 256)).bind fun y11 => some y11

def zq_minus.f (K : Nat) (a0 : Int) (a1 : Int) : Option (Int) :=
  (((some (isub .i32 a0 a1)).bind fun x2 => if x2 < 0 then ((some (iadd .i32 x2 8380417)).bind fun x3 => some x3) else (some x2) : Option (Int))).bind fun y1 => some y1

def zq_Ntt.l2 (K : Nat) : Nat → (Arr 256) → Int → Int → Int → Int → (Arr 256) → Option ((Arr 256))
  | 0, _, _, _, _, _, _ => none
  | k + 1, r3, z6, z10, x14, z15, z16 => if z15 < (iadd .i64 z10 z6) then (if 0 ≤ x14 then (if x14 < 256 then ((some (iadd .i64 z15 z6)).bind fun x18 => if 0 ≤ x18 then (if x18 < 256 then ((zq_times.f K (rd r3 x14) (rd z16 x18)).bind fun r19 => if 0 ≤ z15 then (if z15 < 256 then (if 0 ≤ z15 then (if z15 < 256 then ((zq_minus.f K (rd z16 z15) r19).bind fun r20 => (some (iadd .i64 z15 z6)).bind fun x21 => if 0 ≤ x21 then (if x21 < 256 then ((zq_plus.f K (rd z16 z15) r19).bind fun r22 => if 0 ≤ z15 then (if z15 < 256 then ((some (iadd .i64 z15 1)).bind fun x23 => zq_Ntt.l2 K k r3 z6 z10 x14 x23 (wr (wr z16 x21 r20) z15 r22)) else none) else none) else none) else none) else none) else none) else none) else none) else none) else none) else none) else none) else (some z16)

def zq_Ntt.l1 (K : Nat) : Nat → (Arr 256) → Int → Int → Int → (Arr 256) → Option (Int × (Arr 256))
  | 0, _, _, _, _, _ => none
  | k + 1, r3, z6, z9, z10, z11 => if z10 < 256 then ((some (iadd .i64 z9 1)).bind fun x14 => (zq_Ntt.l2 K K r3 z6 z10 x14 z10 z11).bind fun y17 => (some (iadd .i64 z10 (imul .i64 2 z6))).bind fun x24 => zq_Ntt.l1 K k r3 z6 x14 x24 y17) else (some (z9, z11))

def zq_Ntt.l0 (K : Nat) : Nat → (Arr 256) → Int → Int → (Arr 256) → Option ((Arr 256))
  | 0, _, _, _, _ => none
  | k + 1, r3, z5, z6, z7 => if z6 > 0 then ((zq_Ntt.l1 K K r3 z6 z5 0 z7).bind fun (y12, y13) => (some (iquo .i64 z6 2)).bind fun x25 => zq_Ntt.l0 K k r3 y12 x25 y13) else (some z7)

def zq_Ntt.f (K : Nat) (a0 : Arr 256) : Option ((Arr 256)) :=
  (zq_roots.f K).bind fun r3 => (zq_Ntt.l0 K K r3 0 128 a0).bind fun y8 => some y8

def law21_awake.l0 (K : Nat) : Nat → (Arr 256) → Int → Option ((Unit) ⊕ (Bool))
  | 0, _, _ => none
  | k + 1, r1, z3 => if z3 < 256 then (if 0 ≤ z3 then (if z3 < 256 then ((some (rd r1 z3)).bind fun x4 => if x4 = 1 then (law21_awake.l0 K k r1 (iadd .i64 z3 1)) else (some (.inr false))) else none) else none) else (some (.inl ()))

def law21_awake.f (K : Nat) : Option (Bool) :=
  (zq_Ntt.f K (wr (zeroA 256) 0 1)).bind fun r1 => (law21_awake.l0 K K r1 0).bind fun t0 => (match t0 with | .inl _ => (zq_Split.f K 4097).bind fun (r5, r6) => (zq_Parts.f K 8380416 95232).bind fun (r7, r8) => if r5 = 1 then (if r6 = (-4095) then (if r7 = 0 then (some (r8 == (-1))) else (some false)) else (some false)) else (some false) | .inr r => some r)

def ref21_Split.f (K : Nat) (a0 : Int) : Option (Int × Int) :=
  (some (irem .i32 a0 8192)).bind fun x1 => ((if x1 > 4096 then ((some (isub .i32 x1 8192)).bind fun x3 => some x3) else (some x1) : Option (Int))).bind fun y2 => (some (iquo .i32 (isub .i32 a0 y2) 8192)).bind fun x4 => some (x4, y2)

def ref21_Parts.f (K : Nat) (a0 : Int) (a1 : Int) : Option (Int × Int) :=
  if ¬ (imul .i32 2 a1) = 0 then ((some (irem .i32 a0 (imul .i32 2 a1))).bind fun x1 => ((if x1 > a1 then ((some (isub .i32 x1 (imul .i32 2 a1))).bind fun x3 => some x3) else (some x1) : Option (Int))).bind fun y2 => if (isub .i32 a0 y2) = 8380416 then ((some (isub .i32 y2 1)).bind fun x4 => some (0, x4)) else (if ¬ (imul .i32 2 a1) = 0 then ((some (iquo .i32 (isub .i32 a0 y2) (imul .i32 2 a1))).bind fun x5 => some (x5, y2)) else none)) else none

def zq_Hint.f (K : Nat) (a0 : Int) (a1 : Int) (a2 : Int) : Option (Bool) :=
  (zq_Parts.f K a1 a2).bind fun (r1, r2) => (zq_plus.f K a1 a0).bind fun r3 => (zq_Parts.f K r3 a2).bind fun (r4, r5) => some (r1 != r4)

def ref21_mod.f (K : Nat) (a0 : Int) : Option (Int) :=
  (some (iconv .i32 (irem .i64 (iadd .i64 (irem .i64 a0 8380417) 8380417) 8380417))).bind fun x1 => some x1

def ref21_Hint.f (K : Nat) (a0 : Int) (a1 : Int) (a2 : Int) : Option (Bool) :=
  (ref21_Parts.f K a1 a2).bind fun (r1, r2) => (ref21_mod.f K (iadd .i64 (iconv .i64 a1) (iconv .i64 a0))).bind fun r3 => (ref21_Parts.f K r3 a2).bind fun (r4, r5) => some (r1 != r4)

def zq_Use.f (K : Nat) (a0 : Bool) (a1 : Int) (a2 : Int) : Option (Int) :=
  (zq_Parts.f K a1 a2).bind fun (r1, r2) => if a0 = true then (if a2 ≤ 0 then (some r1) else (if ¬ (imul .i32 2 a2) = 0 then ((some (isub .i32 (iquo .i32 8380416 (imul .i32 2 a2)) 1)).bind fun x3 => if r2 > 0 then (if r1 = x3 then (some 0) else (if r2 > 0 then ((some (iadd .i32 r1 1)).bind fun x4 => some x4) else (if r1 = 0 then (some x3) else ((some (isub .i32 r1 1)).bind fun x5 => some x5)))) else (if r2 > 0 then ((some (iadd .i32 r1 1)).bind fun x6 => some x6) else (if r1 = 0 then (some x3) else ((some (isub .i32 r1 1)).bind fun x7 => some x7)))) else none)) else (some r1)

def ref21_Use.f (K : Nat) (a0 : Bool) (a1 : Int) (a2 : Int) : Option (Int) :=
  if ¬ (imul .i32 2 a2) = 0 then ((some (iquo .i32 8380416 (imul .i32 2 a2))).bind fun x1 => (ref21_Parts.f K a1 a2).bind fun (r2, r3) => if a0 = true then (if r3 > 0 then (if ¬ x1 = 0 then ((some (irem .i32 (iadd .i32 r2 1) x1)).bind fun x4 => some x4) else none) else (if ¬ x1 = 0 then ((some (irem .i32 (iadd .i32 (isub .i32 r2 1) x1) x1)).bind fun x5 => some x5) else none)) else (some r2)) else none

def ref21_Fit.l0 (K : Nat) : Nat → (Arr 256) → Int → Option ((Unit) ⊕ (Bool))
  | 0, _, _ => none
  | k + 1, a0, z2 => if z2 < 256 then (if 0 ≤ z2 then (if z2 < 256 then (if (rd a0 z2) < 0 then (some (.inr false)) else (if 0 ≤ z2 then (if z2 < 256 then (if (rd a0 z2) ≥ 8380417 then (some (.inr false)) else ((some (iadd .i64 z2 1)).bind fun x3 => ref21_Fit.l0 K k a0 x3)) else none) else none)) else none) else none) else (some (.inl ()))

def ref21_Fit.f (K : Nat) (a0 : Arr 256) : Option (Bool) :=
  (ref21_Fit.l0 K K a0 0).bind fun t0 => (match t0 with | .inl _ => some true | .inr r => some r)

def ref21_powers.l0 (K : Nat) : Nat → Int → (Arr 512) → Option ((Arr 512))
  | 0, _, _ => none
  | k + 1, z3, z4 => if z3 < 512 then ((some (isub .i64 z3 1)).bind fun x6 => if 0 ≤ x6 then (if x6 < 512 then (if 0 ≤ z3 then (if z3 < 512 then ((some (irem .i64 (imul .i64 (rd z4 x6) 1753) 8380417)).bind fun x7 => (some (iadd .i64 z3 1)).bind fun x8 => ref21_powers.l0 K k x8 (wr z4 z3 x7)) else none) else none) else none) else none) else (some z4)

def ref21_powers.f (K : Nat) : Option ((Arr 512)) :=
  (ref21_powers.l0 K K 1 (wr (zeroA 512) 0 1)).bind fun y5 => some y5

def ref21_turned.l0 (K : Nat) : Nat → Int → Int → Int → Option (Int)
  | 0, _, _, _ => none
  | k + 1, a0, z1, z2 => if z2 < 8 then (if 0 ≤ z2 then ((some (iadd .i64 (imul .i64 z1 2) (iand .i64 (ishr .i64 a0 z2) 1))).bind fun x4 => (some (iadd .i64 z2 1)).bind fun x5 => ref21_turned.l0 K k a0 x4 x5) else none) else (some z1)

def ref21_turned.f (K : Nat) (a0 : Int) : Option (Int) :=
  (ref21_turned.l0 K K a0 0 0).bind fun y3 => some y3

def ref21_Ntt.l1 (K : Nat) : Nat → (Arr 256) → (Arr 512) → Int → Int → Int → Option (Int)
  | 0, _, _, _, _, _ => none
  | k + 1, a0, r3, x10, z11, z12 => if z12 < 256 then (if 0 ≤ z12 then (if z12 < 256 then ((some (irem .i64 (imul .i64 x10 z12) 512)).bind fun x14 => if 0 ≤ x14 then (if x14 < 512 then ((some (iadd .i64 z11 (irem .i64 (imul .i64 (iconv .i64 (rd a0 z12)) (rd r3 x14)) 8380417))).bind fun x15 => (some (iadd .i64 z12 1)).bind fun x16 => ref21_Ntt.l1 K k a0 r3 x10 x15 x16) else none) else none) else none) else none) else (some z11)

def ref21_Ntt.l0 (K : Nat) : Nat → (Arr 256) → (Arr 512) → Int → (Arr 256) → Option ((Arr 256))
  | 0, _, _, _, _ => none
  | k + 1, a0, r3, z6, z7 => if z6 < 256 then ((ref21_turned.f K z6).bind fun r9 => (some (iadd .i64 (imul .i64 2 r9) 1)).bind fun x10 => (ref21_Ntt.l1 K K a0 r3 x10 0 0).bind fun y13 => if 0 ≤ z6 then (if z6 < 256 then ((some (iconv .i32 (irem .i64 y13 8380417))).bind fun x17 => (some (iadd .i64 z6 1)).bind fun x18 => ref21_Ntt.l0 K k a0 r3 x18 (wr z7 z6 x17)) else none) else none) else (some z7)

def ref21_Ntt.f (K : Nat) (a0 : Arr 256) : Option ((Arr 256)) :=
  (ref21_powers.f K).bind fun r3 => (ref21_Ntt.l0 K K a0 r3 0 (zeroA 256)).bind fun y8 => some y8

def zq_Back.l2 (K : Nat) : Nat → (Arr 256) → Int → Int → Int → Int → (Arr 256) → Option ((Arr 256))
  | 0, _, _, _, _, _, _ => none
  | k + 1, r3, z6, z10, x14, z15, z16 => if z15 < (iadd .i64 z10 z6) then (if 0 ≤ z15 then (if z15 < 256 then ((some (rd z16 z15)).bind fun x18 => (some (iadd .i64 z15 z6)).bind fun x19 => if 0 ≤ x19 then (if x19 < 256 then ((zq_plus.f K x18 (rd z16 x19)).bind fun r20 => if 0 ≤ z15 then (if z15 < 256 then (if 0 ≤ x14 then (if x14 < 256 then ((some (iadd .i64 z15 z6)).bind fun x21 => if 0 ≤ x21 then (if x21 < 256 then ((zq_minus.f K (rd (wr z16 z15 r20) x21) x18).bind fun r22 => (zq_times.f K (rd r3 x14) r22).bind fun r23 => (some (iadd .i64 z15 z6)).bind fun x24 => if 0 ≤ x24 then (if x24 < 256 then ((some (iadd .i64 z15 1)).bind fun x25 => zq_Back.l2 K k r3 z6 z10 x14 x25 (wr (wr z16 z15 r20) x24 r23)) else none) else none) else none) else none) else none) else none) else none) else none) else none) else none) else none) else none) else (some z16)

def zq_Back.l1 (K : Nat) : Nat → (Arr 256) → Int → Int → Int → (Arr 256) → Option (Int × (Arr 256))
  | 0, _, _, _, _, _ => none
  | k + 1, r3, z6, z9, z10, z11 => if z10 < 256 then ((some (isub .i64 z9 1)).bind fun x14 => (zq_Back.l2 K K r3 z6 z10 x14 z10 z11).bind fun y17 => (some (iadd .i64 z10 (imul .i64 2 z6))).bind fun x26 => zq_Back.l1 K k r3 z6 x14 x26 y17) else (some (z9, z11))

def zq_Back.l0 (K : Nat) : Nat → (Arr 256) → Int → Int → (Arr 256) → Option ((Arr 256))
  | 0, _, _, _, _ => none
  | k + 1, r3, z5, z6, z7 => if z6 < 256 then ((zq_Back.l1 K K r3 z6 z5 0 z7).bind fun (y12, y13) => (some (imul .i64 z6 2)).bind fun x27 => zq_Back.l0 K k r3 y12 x27 y13) else (some z7)

def zq_Back.l3 (K : Nat) : Nat → Int → (Arr 256) → Option ((Arr 256))
  | 0, _, _ => none
  | k + 1, z28, z29 => if z28 < 256 then (if 0 ≤ z28 then (if z28 < 256 then ((zq_times.f K (rd z29 z28) 8347681).bind fun r31 => if 0 ≤ z28 then (if z28 < 256 then (zq_Back.l3 K k (iadd .i64 z28 1) (wr z29 z28 r31)) else none) else none) else none) else none) else (some z29)

def zq_Back.f (K : Nat) (a0 : Arr 256) : Option ((Arr 256)) :=
  (zq_roots.f K).bind fun r3 => (zq_Back.l0 K K r3 256 1 a0).bind fun y8 => (zq_Back.l3 K K 0 y8).bind fun y30 => some y30

def ref21_Back.l1 (K : Nat) : Nat → (Arr 256) → (Arr 512) → Int → Int → Int → Option (Int)
  | 0, _, _, _, _, _ => none
  | k + 1, a0, r3, z6, z9, z10 => if z10 < 256 then ((ref21_turned.f K z10).bind fun r12 => (some (iadd .i64 (imul .i64 2 r12) 1)).bind fun x13 => if 0 ≤ z10 then (if z10 < 256 then ((some (irem .i64 (isub .i64 512 (irem .i64 (imul .i64 x13 z6) 512)) 512)).bind fun x14 => if 0 ≤ x14 then (if x14 < 512 then ((some (iadd .i64 z9 (irem .i64 (imul .i64 (iconv .i64 (rd a0 z10)) (rd r3 x14)) 8380417))).bind fun x15 => (some (iadd .i64 z10 1)).bind fun x16 => ref21_Back.l1 K k a0 r3 z6 x15 x16) else none) else none) else none) else none) else (some z9)

def ref21_Back.l0 (K : Nat) : Nat → (Arr 256) → (Arr 512) → Int → (Arr 256) → Option ((Arr 256))
  | 0, _, _, _, _ => none
  | k + 1, a0, r3, z6, z7 => if z6 < 256 then ((ref21_Back.l1 K K a0 r3 z6 0 0).bind fun y11 => if 0 ≤ z6 then (if z6 < 256 then ((some (iconv .i32 (irem .i64 (imul .i64 (irem .i64 y11 8380417) 8347681) 8380417))).bind fun x17 => (some (iadd .i64 z6 1)).bind fun x18 => ref21_Back.l0 K k a0 r3 x18 (wr z7 z6 x17)) else none) else none) else (some z7)

def ref21_Back.f (K : Nat) (a0 : Arr 256) : Option ((Arr 256)) :=
  (ref21_powers.f K).bind fun r3 => (ref21_Back.l0 K K a0 r3 0 (zeroA 256)).bind fun y8 => some y8

def zq_Mul.l0 (K : Nat) : Nat → (Arr 256) → Int → (Arr 256) → Option ((Arr 256))
  | 0, _, _, _ => none
  | k + 1, a1, z4, z5 => if z4 < 256 then (if 0 ≤ z4 then (if z4 < 256 then (if 0 ≤ z4 then (if z4 < 256 then ((zq_times.f K (rd z5 z4) (rd a1 z4)).bind fun r7 => if 0 ≤ z4 then (if z4 < 256 then (zq_Mul.l0 K k a1 (iadd .i64 z4 1) (wr z5 z4 r7)) else none) else none) else none) else none) else none) else none) else (some z5)

def zq_Mul.f (K : Nat) (a0 : Arr 256) (a1 : Arr 256) : Option ((Arr 256)) :=
  (zq_Mul.l0 K K a1 0 a0).bind fun y6 => some y6

def ref21_Mul.l0 (K : Nat) : Nat → (Arr 256) → Int → (Arr 256) → Option ((Arr 256))
  | 0, _, _, _ => none
  | k + 1, a1, z4, z5 => if z4 < 256 then (if 0 ≤ z4 then (if z4 < 256 then (if 0 ≤ z4 then (if z4 < 256 then (if 0 ≤ z4 then (if z4 < 256 then ((some (iconv .i32 (irem .i64 (imul .i64 (iconv .i64 (rd z5 z4)) (iconv .i64 (rd a1 z4))) 8380417))).bind fun x7 => (some (iadd .i64 z4 1)).bind fun x8 => ref21_Mul.l0 K k a1 x8 (wr z5 z4 x7)) else none) else none) else none) else none) else none) else none) else (some z5)

def ref21_Mul.f (K : Nat) (a0 : Arr 256) (a1 : Arr 256) : Option ((Arr 256)) :=
  (ref21_Mul.l0 K K a1 0 a0).bind fun y6 => some y6

def zq_Times.f (K : Nat) (a0 : Arr 256) (a1 : Arr 256) : Option ((Arr 256)) :=
  (zq_Ntt.f K a0).bind fun r4 => (zq_Ntt.f K a1).bind fun r5 => (zq_Mul.f K r4 r5).bind fun r6 => (zq_Back.f K r6).bind fun r7 => some r7

def ref21_Times.l1 (K : Nat) : Nat → (Arr 256) → (Arr 256) → Int → Int → (Arr 512) → Option ((Arr 512))
  | 0, _, _, _, _, _ => none
  | k + 1, a0, a1, z5, z8, z9 => if z8 < 256 then ((some (iadd .i64 z5 z8)).bind fun x11 => if 0 ≤ x11 then (if x11 < 512 then (if 0 ≤ z5 then (if z5 < 256 then (if 0 ≤ z8 then (if z8 < 256 then ((some (iadd .i64 z5 z8)).bind fun x12 => if 0 ≤ x12 then (if x12 < 512 then ((some (irem .i64 (iadd .i64 (rd z9 x11) (imul .i64 (iconv .i64 (rd a0 z5)) (iconv .i64 (rd a1 z8)))) 8380417)).bind fun x13 => (some (iadd .i64 z8 1)).bind fun x14 => ref21_Times.l1 K k a0 a1 z5 x14 (wr z9 x12 x13)) else none) else none) else none) else none) else none) else none) else none) else none) else (some z9)

def ref21_Times.l0 (K : Nat) : Nat → (Arr 256) → (Arr 256) → Int → (Arr 512) → Option ((Arr 512))
  | 0, _, _, _, _ => none
  | k + 1, a0, a1, z5, z6 => if z5 < 256 then ((ref21_Times.l1 K K a0 a1 z5 0 z6).bind fun y10 => (some (iadd .i64 z5 1)).bind fun x15 => ref21_Times.l0 K k a0 a1 x15 y10) else (some z6)

def ref21_Times.l2 (K : Nat) : Nat → (Arr 512) → Int → (Arr 256) → Option ((Arr 256))
  | 0, _, _, _ => none
  | k + 1, y7, z17, z18 => if z17 < 256 then (if 0 ≤ z17 then (if z17 < 512 then ((some (iadd .i64 z17 256)).bind fun x20 => if 0 ≤ x20 then (if x20 < 512 then ((ref21_mod.f K (isub .i64 (rd y7 z17) (rd y7 x20))).bind fun r21 => if 0 ≤ z17 then (if z17 < 256 then ((some (iadd .i64 z17 1)).bind fun x22 => ref21_Times.l2 K k y7 x22 (wr z18 z17 r21)) else none) else none) else none) else none) else none) else none) else (some z18)

def ref21_Times.f (K : Nat) (a0 : Arr 256) (a1 : Arr 256) : Option ((Arr 256)) :=
  (ref21_Times.l0 K K a0 a1 0 (zeroA 512)).bind fun y7 => (ref21_Times.l2 K K y7 0 (zeroA 256)).bind fun y19 => some y19

def zq_Fit.l0 (K : Nat) : Nat → (Arr 256) → Int → Option ((Unit) ⊕ (Bool))
  | 0, _, _ => none
  | k + 1, a0, z2 => if z2 < 256 then (if 0 ≤ z2 then (if z2 < 256 then ((some (rd a0 z2)).bind fun x3 => if x3 < 0 then (some (.inr false)) else (if x3 ≥ 8380417 then (some (.inr false)) else (zq_Fit.l0 K k a0 (iadd .i64 z2 1)))) else none) else none) else (some (.inl ()))

def zq_Fit.f (K : Nat) (a0 : Arr 256) : Option (Bool) :=
  (zq_Fit.l0 K K a0 0).bind fun t0 => (match t0 with | .inl _ => some true | .inr r => some r)

def zq_Add.l0 (K : Nat) : Nat → (Arr 256) → Int → (Arr 256) → Option ((Arr 256))
  | 0, _, _, _ => none
  | k + 1, a1, z4, z5 => if z4 < 256 then (if 0 ≤ z4 then (if z4 < 256 then (if 0 ≤ z4 then (if z4 < 256 then ((zq_plus.f K (rd z5 z4) (rd a1 z4)).bind fun r7 => if 0 ≤ z4 then (if z4 < 256 then (zq_Add.l0 K k a1 (iadd .i64 z4 1) (wr z5 z4 r7)) else none) else none) else none) else none) else none) else none) else (some z5)

def zq_Add.f (K : Nat) (a0 : Arr 256) (a1 : Arr 256) : Option ((Arr 256)) :=
  (zq_Add.l0 K K a1 0 a0).bind fun y6 => some y6

def ref21_Add.l0 (K : Nat) : Nat → (Arr 256) → Int → (Arr 256) → Option ((Arr 256))
  | 0, _, _, _ => none
  | k + 1, a1, z4, z5 => if z4 < 256 then (if 0 ≤ z4 then (if z4 < 256 then (if 0 ≤ z4 then (if z4 < 256 then ((ref21_mod.f K (iadd .i64 (iconv .i64 (rd z5 z4)) (iconv .i64 (rd a1 z4)))).bind fun r7 => if 0 ≤ z4 then (if z4 < 256 then ((some (iadd .i64 z4 1)).bind fun x8 => ref21_Add.l0 K k a1 x8 (wr z5 z4 r7)) else none) else none) else none) else none) else none) else none) else (some z5)

def ref21_Add.f (K : Nat) (a0 : Arr 256) (a1 : Arr 256) : Option ((Arr 256)) :=
  (ref21_Add.l0 K K a1 0 a0).bind fun y6 => some y6

def zq_Sub.l0 (K : Nat) : Nat → (Arr 256) → Int → (Arr 256) → Option ((Arr 256))
  | 0, _, _, _ => none
  | k + 1, a1, z4, z5 => if z4 < 256 then (if 0 ≤ z4 then (if z4 < 256 then (if 0 ≤ z4 then (if z4 < 256 then ((zq_minus.f K (rd z5 z4) (rd a1 z4)).bind fun r7 => if 0 ≤ z4 then (if z4 < 256 then (zq_Sub.l0 K k a1 (iadd .i64 z4 1) (wr z5 z4 r7)) else none) else none) else none) else none) else none) else none) else (some z5)

def zq_Sub.f (K : Nat) (a0 : Arr 256) (a1 : Arr 256) : Option ((Arr 256)) :=
  (zq_Sub.l0 K K a1 0 a0).bind fun y6 => some y6

def ref21_Sub.l0 (K : Nat) : Nat → (Arr 256) → Int → (Arr 256) → Option ((Arr 256))
  | 0, _, _, _ => none
  | k + 1, a1, z4, z5 => if z4 < 256 then (if 0 ≤ z4 then (if z4 < 256 then (if 0 ≤ z4 then (if z4 < 256 then ((ref21_mod.f K (isub .i64 (iconv .i64 (rd z5 z4)) (iconv .i64 (rd a1 z4)))).bind fun r7 => if 0 ≤ z4 then (if z4 < 256 then ((some (iadd .i64 z4 1)).bind fun x8 => ref21_Sub.l0 K k a1 x8 (wr z5 z4 r7)) else none) else none) else none) else none) else none) else none) else (some z5)

def ref21_Sub.f (K : Nat) (a0 : Arr 256) (a1 : Arr 256) : Option ((Arr 256)) :=
  (ref21_Sub.l0 K K a1 0 a0).bind fun y6 => some y6

def zq_Norm.l0 (K : Nat) : Nat → (Arr 256) → Int → Int → Option (Int)
  | 0, _, _, _ => none
  | k + 1, a0, z2, z3 => if z3 < 256 then (if 0 ≤ z3 then (if z3 < 256 then ((some (rd a0 z3)).bind fun x5 => (some (imax z2 (imin x5 (isub .i32 8380417 x5)))).bind fun x6 => zq_Norm.l0 K k a0 x6 (iadd .i64 z3 1)) else none) else none) else (some z2)

def zq_Norm.f (K : Nat) (a0 : Arr 256) : Option (Int) :=
  (zq_Norm.l0 K K a0 0 0).bind fun y4 => some y4

def ref21_Amount.f (K : Nat) (a0 : Int) : Option (Int) :=
  if a0 > 4190208 then ((some (isub .i32 8380417 a0)).bind fun x1 => some x1) else (some a0)

def ref21_Norm.l0 (K : Nat) : Nat → (Arr 256) → Int → Int → Option (Int)
  | 0, _, _, _ => none
  | k + 1, a0, z2, z3 => if z3 < 256 then (if 0 ≤ z3 then (if z3 < 256 then ((ref21_Amount.f K (rd a0 z3)).bind fun r5 => (some (imax z2 r5)).bind fun x6 => (some (iadd .i64 z3 1)).bind fun x7 => ref21_Norm.l0 K k a0 x6 x7) else none) else none) else (some z2)

def ref21_Norm.f (K : Nat) (a0 : Arr 256) : Option (Int) :=
  (ref21_Norm.l0 K K a0 0 0).bind fun y4 => some y4

end Go.Proofs.Ytijahfdldlmnhaa
