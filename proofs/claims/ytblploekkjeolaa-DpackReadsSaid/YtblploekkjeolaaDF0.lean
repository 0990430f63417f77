/- Printed by this work's own program: the plain forms of the functions that the laws reach. -/
import Derived.Test.YtblploekkjeolaaMl
set_option linter.unusedVariables false
set_option linter.unusedSimpArgs false
namespace Go.Proofs.Ytblploekkjeolaa
open Go.Mx

def ref01_Same.l0 (K : Nat) : Nat → (List Int) → (List Int) → Int → Option ((Unit) ⊕ (Bool))
  | 0, _, _, _ => none
  | k + 1, a0, a1, z1 => if z1 < (a0.length : Int) then (if 0 ≤ z1 then (if z1 < a0.length then (if 0 ≤ z1 then (if z1 < a1.length then (if (rdL (CI .u8) a0 z1) = (rdL (CI .u8) a1 z1) then ((some (iadd .i64 z1 1)).bind fun x2 => ref01_Same.l0 K k a0 a1 x2) else (some (.inr false))) else none) else none) else none) else none) else (some (.inl ()))

def ref01_Same.f (K : Nat) (a0 : List Int) (a1 : List Int) : Option (Bool) :=
  if (a0.length : Int) = (a1.length : Int) then ((ref01_Same.l0 K K a0 a1 0).bind fun t0 => (match t0 with | .inl _ => some true | .inr r => some r)) else (some false)

def dpack_Set.f (K : Nat) (a0 : Int) : Option (Int × Int × Int × Int × Int × Int × Int × Int × Bool) :=
  if a0 = 44 then (some (4, 4, 2, 39, 131072, 95232, 80, 32, true)) else (if a0 = 65 then (some (6, 5, 4, 49, 524288, 261888, 55, 48, true)) else (if a0 = 87 then (some (8, 7, 2, 60, 524288, 261888, 75, 64, true)) else (some (0, 0, 0, 0, 0, 0, 0, 0, false))))

def dpack_known.l0 (K : Nat) : Nat → Int → Int → Int → Int → Int → Int → Int → Int → Int → Option ((Unit) ⊕ (Bool))
  | 0, _, _, _, _, _, _, _, _, _ => none
  | k + 1, a0_0, a0_1, a0_2, a0_3, a0_4, a0_5, a0_6, a0_7, z3 => if z3 < (([44, 65, 87] : List Int).length : Int) then (if 0 ≤ z3 then (if z3 < ([44, 65, 87] : List Int).length then ((some (rdL (CI .i64) ([44, 65, 87] : List Int) z3)).bind fun x4 => (dpack_Set.f K x4).bind fun (r5_0, r5_1, r5_2, r5_3, r5_4, r5_5, r5_6, r5_7, r6) => if ((r5_0 == a0_0) && ((r5_1 == a0_1) && ((r5_2 == a0_2) && ((r5_3 == a0_3) && ((r5_4 == a0_4) && ((r5_5 == a0_5) && ((r5_6 == a0_6) && ((r5_7 == a0_7) && true)))))))) = true then (some (.inr true)) else (dpack_known.l0 K k a0_0 a0_1 a0_2 a0_3 a0_4 a0_5 a0_6 a0_7 (iadd .i64 z3 1))) else none) else none) else (some (.inl ()))

def dpack_known.f (K : Nat) (a0_0 : Int) (a0_1 : Int) (a0_2 : Int) (a0_3 : Int) (a0_4 : Int) (a0_5 : Int) (a0_6 : Int) (a0_7 : Int) : Option (Bool) :=
  (dpack_known.l0 K K a0_0 a0_1 a0_2 a0_3 a0_4 a0_5 a0_6 a0_7 0).bind fun t0 => (match t0 with | .inl _ => some false | .inr r => some r)

def dpack_span_all.f (K : Nat) (a0_0 : Int) (a0_1 : Int) : Option (Int) :=
  (some (iadd .i32 (imax a0_0 0) a0_1)).bind fun x2 => some x2

def math_bits_Len32.f (K : Nat) (a0 : Int) : Option (Int) :=
  ((if a0 ≥ 65536 then ((some (ishr .u32 a0 16)).bind fun x3 => some (x3, 16)) else (some (a0, 0)) : Option (Int × Int))).bind fun (y1, y2) => ((if y1 ≥ 256 then ((some (ishr .u32 y1 8)).bind fun x6 => (some (iadd .i64 y2 8)).bind fun x7 => some (x6, x7)) else (some (y1, y2)) : Option (Int × Int))).bind fun (y4, y5) => (some (iconv .u8 y4)).bind fun x8 => if 0 ≤ x8 then (if x8 < 256 then ((some (iadd .i64 y5 (iconv .i64 (strAt [0, 1, 2, 2, 3, 3, 3, 3, 4, 4, 4, 4, 4, 4, 4, 4, 5, 5, 5, 5, 5, 5, 5, 5, 5, 5, 5, 5, 5, 5, 5, 5, 6, 6, 6, 6, 6, 6, 6, 6, 6, 6, 6, 6, 6, 6, 6, 6, 6, 6, 6, 6, 6, 6, 6, 6, 6, 6, 6, 6, 6, 6, 6, 6, 7, 7, 7, 7, 7, 7, 7, 7, 7, 7, 7, 7, 7, 7, 7, 7, 7, 7, 7, 7, 7, 7, 7, 7, 7, 7, 7, 7, 7, 7, 7, 7, 7, 7, 7, 7, 7, 7, 7, 7, 7, 7, 7, 7, 7, 7, 7, 7, 7, 7, 7, 7, 7, 7, 7, 7, 7, 7, 7, 7, 7, 7, 7, 7, 8, 8, 8, 8, 8, 8, 8, 8, 8, 8, 8, 8, 8, 8, 8, 8, 8, 8, 8, 8, 8, 8, 8, 8, 8, 8, 8, 8, 8, 8, 8, 8, 8, 8, 8, 8, 8, 8, 8, 8, 8, 8, 8, 8, 8, 8, 8, 8, 8, 8, 8, 8, 8, 8, 8, 8, 8, 8, 8, 8, 8, 8, 8, 8, 8, 8, 8, 8, 8, 8, 8, 8, 8, 8, 8, 8, 8, 8, 8, 8, 8, 8, 8, 8, 8, 8, 8, 8, 8, 8, 8, 8, 8, 8, 8, 8, 8, 8, 8, 8, 8, 8, 8, 8, 8, 8, 8, 8, 8, 8, 8, 8, 8, 8, 8, 8, 8, 8, 8, 8, 8, 8, 8, 8, 8, 8, 8, 8] x8)))).bind fun x9 => some x9) else none) else none

def dpack_span_width.f (K : Nat) (a0_0 : Int) (a0_1 : Int) : Option (Int) :=
  (dpack_span_all.f K a0_0 a0_1).bind fun r2 => (math_bits_Len32.f K (iconv .u32 r2)).bind fun r3 => some r3

def dpack_span_size.f (K : Nat) (a0_0 : Int) (a0_1 : Int) : Option (Int) :=
  (dpack_span_width.f K a0_0 a0_1).bind fun r2 => (some (imul .i64 32 r2)).bind fun x3 => some x3

def dpack_Sizes.f (K : Nat) (a0_0 : Int) (a0_1 : Int) (a0_2 : Int) (a0_3 : Int) (a0_4 : Int) (a0_5 : Int) (a0_6 : Int) (a0_7 : Int) : Option (Int × Int × Int) :=
  (dpack_known.f K a0_0 a0_1 a0_2 a0_3 a0_4 a0_5 a0_6 a0_7).bind fun r2 => if r2 = true then ((dpack_span_size.f K a0_2 a0_2).bind fun r3 => (dpack_span_size.f K 4095 4096).bind fun r4 => (dpack_span_size.f K (-1) 1023).bind fun r5 => (some (iadd .i64 32 (imul .i64 a0_0 r5))).bind fun x6 => (some (iadd .i64 (iadd .i64 128 (imul .i64 r3 (iadd .i64 a0_0 a0_1))) (imul .i64 r4 a0_0))).bind fun x7 => (dpack_span_size.f K (isub .i32 a0_4 1) a0_4).bind fun r8 => (some (iadd .i64 (iadd .i64 (iadd .i64 a0_7 (imul .i64 a0_1 r8)) a0_6) a0_0)).bind fun x9 => some (x6, x7, x9)) else (some (0, 0, 0))

def dpack_Hints.l1 (K : Nat) : Nat → (List (Arr 256)) → Int → Int → Int → Int → (List Int) → Option ((Int × (List Int)) ⊕ ((List Int)))
  | 0, _, _, _, _, _, _ => none
  | k + 1, a0, a1, z3, z7, z8, z9 => if z8 < 256 then (if 0 ≤ z8 then (if z8 < 256 then ((some (rd (rdL (CA .i32 256 (by decide)) a0 z3) z8)).bind fun x12 => if x12 = 0 then (dpack_Hints.l1 K k a0 a1 z3 z7 (iadd .i64 z8 1) z9) else (if x12 = 1 then (if z7 = a1 then (some (.inr ([] : List Int))) else (if 0 ≤ z7 then (if z7 < z9.length then ((some (iconv .u8 z8)).bind fun x13 => (some (iadd .i64 z7 1)).bind fun x14 => dpack_Hints.l1 K k a0 a1 z3 x14 (iadd .i64 z8 1) (wrL z9 z7 x13)) else none) else none)) else (some (.inr ([] : List Int))))) else none) else none) else (some (.inl (z7, z9)))

def dpack_Hints.l0 (K : Nat) : Nat → (List (Arr 256)) → Int → Int → Int → (List Int) → Option (((List Int)) ⊕ ((List Int)))
  | 0, _, _, _, _, _ => none
  | k + 1, a0, a1, z2, z3, z4 => if z3 < (a0.length : Int) then (if 0 ≤ z3 then (if z3 < a0.length then ((dpack_Hints.l1 K K a0 a1 z3 z2 0 z4).bind fun t1 => (match t1 with | .inl (y10, y11) => (some (iadd .i64 a1 z3)).bind fun x15 => if 0 ≤ x15 then (if x15 < y11.length then ((some (iconv .u8 y10)).bind fun x16 => dpack_Hints.l0 K k a0 a1 y10 (iadd .i64 z3 1) (wrL y11 x15 x16)) else none) else none | .inr r => some (.inr r))) else none) else none) else (some (.inl z4))

def dpack_Hints.f (K : Nat) (a0 : List (Arr 256)) (a1 : Int) : Option ((List Int)) :=
  if (a0.length : Int) < 1 then (some ([] : List Int)) else (if (a0.length : Int) > 100 then (some ([] : List Int)) else (if a1 < 1 then (some ([] : List Int)) else (if a1 > 100 then (some ([] : List Int)) else (if 0 ≤ (iadd .i64 a1 (a0.length : Int)) then (if (iadd .i64 a1 (a0.length : Int)) ≤ 140737488355328 then ((dpack_Hints.l0 K K a0 a1 0 0 (List.replicate ((iadd .i64 a1 (a0.length : Int)) : Int).toNat (Cod.zero (CI .u8)))).bind fun t0 => (match t0 with | .inl y5 => some y5 | .inr r => some r)) else none) else none))))

def law22_awake.f (K : Nat) : Option (Bool) :=
  (dpack_Set.f K 44).bind fun (r1_0, r1_1, r1_2, r1_3, r1_4, r1_5, r1_6, r1_7, r2) => if r2 = true then ((dpack_Sizes.f K r1_0 r1_1 r1_2 r1_3 r1_4 r1_5 r1_6 r1_7).bind fun (r4, r5, r6) => (dpack_Set.f K 45).bind fun (r7_0, r7_1, r7_2, r7_3, r7_4, r7_5, r7_6, r7_7, r8) => if r8 = true then (if r4 = 1312 then (if r5 = 2560 then (if r6 = 2420 then (some false) else (some false)) else (some false)) else (some false)) else (if r4 = 1312 then (if r5 = 2560 then (if r6 = 2420 then ((dpack_Hints.f K ([(zeroA 256)] : List (Arr 256)) 2).bind fun r12 => (ref01_Same.f K r12 ([0, 0, 0] : List Int)).bind fun r14 => some r14) else (some false)) else (some false)) else (some false))) else ((dpack_Sizes.f K r1_0 r1_1 r1_2 r1_3 r1_4 r1_5 r1_6 r1_7).bind fun (r16, r17, r18) => (dpack_Set.f K 45).bind fun (r19_0, r19_1, r19_2, r19_3, r19_4, r19_5, r19_6, r19_7, r20) => if r20 = true then (some false) else (some false))

def ref22_Set.f (K : Nat) (a0 : Int) : Option (Int × Int × Int × Int × Int × Int × Int × Int × Bool) :=
  if a0 = 44 then (some (4, 4, 2, 39, 131072, 95232, 80, 32, true)) else (if a0 = 65 then (some (6, 5, 4, 49, 524288, 261888, 55, 48, true)) else (if a0 = 87 then (some (8, 7, 2, 60, 524288, 261888, 75, 64, true)) else (some (0, 0, 0, 0, 0, 0, 0, 0, false))))

def ref22_Known.f (K : Nat) (a0_0 : Int) (a0_1 : Int) (a0_2 : Int) (a0_3 : Int) (a0_4 : Int) (a0_5 : Int) (a0_6 : Int) (a0_7 : Int) : Option (Bool) :=
  (ref22_Set.f K 44).bind fun (r2_0, r2_1, r2_2, r2_3, r2_4, r2_5, r2_6, r2_7, r3) => (ref22_Set.f K 65).bind fun (r5_0, r5_1, r5_2, r5_3, r5_4, r5_5, r5_6, r5_7, r6) => (ref22_Set.f K 87).bind fun (r8_0, r8_1, r8_2, r8_3, r8_4, r8_5, r8_6, r8_7, r9) => if ((a0_0 == r2_0) && ((a0_1 == r2_1) && ((a0_2 == r2_2) && ((a0_3 == r2_3) && ((a0_4 == r2_4) && ((a0_5 == r2_5) && ((a0_6 == r2_6) && ((a0_7 == r2_7) && true)))))))) = true then (some true) else (if ((a0_0 == r5_0) && ((a0_1 == r5_1) && ((a0_2 == r5_2) && ((a0_3 == r5_3) && ((a0_4 == r5_4) && ((a0_5 == r5_5) && ((a0_6 == r5_6) && ((a0_7 == r5_7) && true)))))))) = true then (some true) else (some ((a0_0 == r8_0) && ((a0_1 == r8_1) && ((a0_2 == r8_2) && ((a0_3 == r8_3) && ((a0_4 == r8_4) && ((a0_5 == r8_5) && ((a0_6 == r8_6) && ((a0_7 == r8_7) && true))))))))))

def ref22_width.l0 (K : Nat) : Nat → Int → Int → Option (Int)
  | 0, _, _ => none
  | k + 1, z1, z2 => if z1 > 0 then ((some (iquo .i32 z1 2)).bind fun x4 => (some (iadd .i64 z2 1)).bind fun x5 => ref22_width.l0 K k x4 x5) else (some z2)

def ref22_width.f (K : Nat) (a0 : Int) : Option (Int) :=
  (ref22_width.l0 K K a0 0).bind fun y3 => some y3

def ref22_bitsOf.f (K : Nat) (a0 : Int) (a1 : Int) : Option (Int) :=
  (ref22_width.f K (iadd .i32 (imax a0 0) a1)).bind fun r1 => some r1

def ref22_Sizes.f (K : Nat) (a0_0 : Int) (a0_1 : Int) (a0_2 : Int) (a0_3 : Int) (a0_4 : Int) (a0_5 : Int) (a0_6 : Int) (a0_7 : Int) : Option (Int × Int × Int) :=
  (ref22_Known.f K a0_0 a0_1 a0_2 a0_3 a0_4 a0_5 a0_6 a0_7).bind fun r2 => if r2 = true then ((ref22_bitsOf.f K a0_2 a0_2).bind fun r3 => (some (imul .i64 32 r3)).bind fun x4 => (ref22_bitsOf.f K (isub .i32 a0_4 1) a0_4).bind fun r5 => (some (imul .i64 32 r5)).bind fun x6 => (some (iadd .i64 32 (imul .i64 320 a0_0))).bind fun x7 => (some (iadd .i64 (iadd .i64 128 (imul .i64 x4 (iadd .i64 a0_0 a0_1))) (imul .i64 416 a0_0))).bind fun x8 => (some (iadd .i64 (iadd .i64 (iadd .i64 a0_7 (imul .i64 x6 a0_1)) a0_6) a0_0)).bind fun x9 => some (x7, x8, x9)) else (some (0, 0, 0))

def dpack_span_fit.f (K : Nat) (a0_0 : Int) (a0_1 : Int) : Option (Bool) :=
  if a0_0 ≥ (-1) then (if a0_0 ≤ 1048576 then (if a0_1 ≥ 1 then (some (decide (a0_1 ≤ 1048576))) else (some false)) else (some false)) else (some false)

def bits_such.f (K : Nat) (a0 : List Int) (a1 : Int) (a2 : Int) : Option (Bool) :=
  if a1 ≥ 1 then (if a1 ≤ 24 then (if a2 ≥ 0 then (if ¬ a1 = 0 then (some (decide (a2 ≤ (iquo .i64 (imul .i64 (a0.length : Int) 8) a1)))) else none) else (some false)) else (some false)) else (some false)

def bits_Unpack.l1 (K : Nat) : Nat → Int → Int → Int → (List Int) → Option (Int × Int × (List Int))
  | 0, _, _, _, _ => none
  | k + 1, a1, z9, z10, z11 => if z10 < a1 then (if 0 ≤ (0 : Int) then (if (0 : Int) < z11.length then (if 0 ≤ z10 then (if 0 ≤ (1 : Int) then (if (1 : Int) ≤ (z11.length : Int) then (if (z11.length : Int) ≤ z11.length then ((some (ior .u64 z9 (ishl .u64 (iconv .u64 (rdL (CI .u8) z11 0)) z10))).bind fun x16 => (some (iadd .i64 z10 8)).bind fun x17 => bits_Unpack.l1 K k a1 x16 x17 (subL z11 1 (z11.length : Int))) else none) else none) else none) else none) else none) else none) else (some (z9, z10, z11))

def bits_Unpack.l0 (K : Nat) : Nat → Int → Int → Int → Int → Int → (List Int) → (List Int) → Option ((List Int))
  | 0, _, _, _, _, _, _, _ => none
  | k + 1, a1, a2, z3, z4, z5, z6, z7 => if z5 < ((List.replicate (a2 : Int).toNat (Cod.zero (CI .u32))).length : Int) then ((bits_Unpack.l1 K K a1 z3 z4 z7).bind fun (y12, y13, y14) => if 0 ≤ a1 then (if 0 ≤ z5 then (if z5 < z6.length then ((some (iconv .u32 (iand .u64 y12 (isub .u64 (ishl .u64 1 a1) 1)))).bind fun x18 => if 0 ≤ a1 then ((some (ishr .u64 y12 a1)).bind fun x19 => (some (isub .i64 y13 a1)).bind fun x20 => bits_Unpack.l0 K k a1 a2 x19 x20 (iadd .i64 z5 1) (wrL z6 z5 x18) y14) else none) else none) else none) else none) else (some z6)

def bits_Unpack.f (K : Nat) (a0 : List Int) (a1 : Int) (a2 : Int) : Option ((List Int)) :=
  (bits_such.f K a0 a1 a2).bind fun r1 => if r1 = true then (if 0 ≤ a2 then (if a2 ≤ 35184372088832 then ((bits_Unpack.l0 K K a1 a2 0 0 0 (List.replicate (a2 : Int).toNat (Cod.zero (CI .u32))) a0).bind fun y8 => some y8) else none) else none) else (some ([] : List Int))

def dpack_span_back.f (K : Nat) (a0_0 : Int) (a0_1 : Int) (a1 : Int) : Option (Int) :=
  (some (isub .i32 a0_1 (iconv .i32 a1))).bind fun x2 => if a0_0 < 0 then ((some (iconv .i32 a1)).bind fun x3 => some x3) else (if x2 < 0 then ((some (iadd .i32 x2 8380417)).bind fun x4 => some x4) else (some x2))

def dpack_Unpack.l0 (K : Nat) : Nat → Int → Int → (List Int) → Int → (Arr 256) → (Arr 256) → Option (((Arr 256) × (Arr 256)) ⊕ ((Arr 256) × Bool))
  | 0, _, _, _, _, _, _ => none
  | k + 1, a1, a2, r7, z8, z9, z10 => if z8 < (r7.length : Int) then (if 0 ≤ z8 then (if z8 < r7.length then ((some (rdL (CI .u32) r7 z8)).bind fun x13 => (dpack_span_all.f K a1 a2).bind fun r14 => if x13 > (iconv .u32 r14) then (some (.inr ((zeroA 256), false))) else ((dpack_span_back.f K a1 a2 x13).bind fun r15 => if 0 ≤ z8 then (if z8 < 256 then (dpack_Unpack.l0 K k a1 a2 r7 (iadd .i64 z8 1) (wr z9 z8 r15) z10) else none) else none)) else none) else none) else (some (.inl (z9, z10)))

def dpack_Unpack.f (K : Nat) (a0 : List Int) (a1 : Int) (a2 : Int) : Option ((Arr 256) × Bool) :=
  (dpack_span_fit.f K a1 a2).bind fun r3 => if r3 = true then ((dpack_span_size.f K a1 a2).bind fun r4 => if (a0.length : Int) = r4 then ((dpack_span_width.f K a1 a2).bind fun r6 => (bits_Unpack.f K a0 r6 256).bind fun r7 => (dpack_Unpack.l0 K K a1 a2 r7 0 (zeroA 256) (zeroA 256)).bind fun t0 => (match t0 with | .inl (y11, y12) => some (y11, true) | .inr r => some r)) else (some ((zeroA 256), false))) else (some ((zeroA 256), false))

def ref22_bounds.f (K : Nat) (a0 : Int) (a1 : Int) : Option (Bool) :=
  if a0 ≥ (-1) then (if a0 ≤ 1048576 then (if a1 ≥ 1 then (some (decide (a1 ≤ 1048576))) else (some false)) else (some false)) else (some false)

def ref01_such.f (K : Nat) (a0 : List Int) (a1 : Int) (a2 : Int) : Option (Bool) :=
  if a1 ≥ 1 then (if a1 ≤ 24 then (if a2 ≥ 0 then (if ¬ a1 = 0 then (some (decide (a2 ≤ (iquo .i64 (imul .i64 (a0.length : Int) 8) a1)))) else none) else (some false)) else (some false)) else (some false)

def ref01_Unpack.l1 (K : Nat) : Nat → (List Int) → Int → Int → Int → Int → Option (Int)
  | 0, _, _, _, _, _ => none
  | k + 1, a0, a1, z2, z6, z7 => if z7 ≥ 0 then ((some (iadd .i64 (imul .i64 z2 a1) z7)).bind fun x9 => (some (iquo .i64 x9 8)).bind fun x10 => if 0 ≤ x10 then (if x10 < a0.length then (if 0 ≤ (irem .i64 x9 8) then ((some (iadd .u32 (imul .u32 z6 2) (iconv .u32 (iand .u8 (ishr .u8 (rdL (CI .u8) a0 x10) (irem .i64 x9 8)) 1)))).bind fun x11 => (some (isub .i64 z7 1)).bind fun x12 => ref01_Unpack.l1 K k a0 a1 z2 x11 x12) else none) else none) else none) else (some z6)

def ref01_Unpack.l0 (K : Nat) : Nat → (List Int) → Int → Int → Int → (List Int) → Option ((List Int))
  | 0, _, _, _, _, _ => none
  | k + 1, a0, a1, a2, z2, z3 => if z2 < a2 then ((some (isub .i64 a1 1)).bind fun x5 => (ref01_Unpack.l1 K K a0 a1 z2 0 x5).bind fun y8 => if z3.length + ([y8] : List Int).length ≤ 35184372088832 then ((some (iadd .i64 z2 1)).bind fun x15 => ref01_Unpack.l0 K k a0 a1 a2 x15 (z3 ++ ([y8] : List Int))) else none) else (some z3)

def ref01_Unpack.f (K : Nat) (a0 : List Int) (a1 : Int) (a2 : Int) : Option ((List Int)) :=
  (ref01_such.f K a0 a1 a2).bind fun r1 => if r1 = true then ((ref01_Unpack.l0 K K a0 a1 a2 0 ([] : List Int)).bind fun y4 => some y4) else (some ([] : List Int))

def ref22_Unpack.l0 (K : Nat) : Nat → Int → Int → (List Int) → Int → (Arr 256) → (Arr 256) → Option (((Arr 256) × (Arr 256)) ⊕ ((Arr 256) × Bool))
  | 0, _, _, _, _, _, _ => none
  | k + 1, a1, a2, r5, z7, z8, z9 => if z7 < 256 then (if 0 ≤ z7 then (if z7 < r5.length then ((some (iconv .i32 (rdL (CI .u32) r5 z7))).bind fun x12 => if x12 > (iadd .i32 (imax a1 0) a2) then (some (.inr ((zeroA 256), false))) else (((if a1 ≥ 0 then ((some (irem .i32 (iadd .i32 (isub .i32 a2 x12) 8380417) 8380417)).bind fun x14 => some x14) else (some x12) : Option (Int))).bind fun y13 => if 0 ≤ z7 then (if z7 < 256 then ((some (iadd .i64 z7 1)).bind fun x15 => ref22_Unpack.l0 K k a1 a2 r5 x15 (wr z8 z7 y13) z9) else none) else none)) else none) else none) else (some (.inl (z8, z9)))

def ref22_Unpack.f (K : Nat) (a0 : List Int) (a1 : Int) (a2 : Int) : Option ((Arr 256) × Bool) :=
  (ref22_bounds.f K a1 a2).bind fun r2 => if r2 = true then ((ref22_bitsOf.f K a1 a2).bind fun r3 => if (a0.length : Int) = (imul .i64 32 r3) then ((ref22_bitsOf.f K a1 a2).bind fun r4 => (ref01_Unpack.f K a0 r4 256).bind fun r5 => (ref22_Unpack.l0 K K a1 a2 r5 0 (zeroA 256) (zeroA 256)).bind fun t0 => (match t0 with | .inl (y10, y11) => some (y10, true) | .inr r => some r)) else (some ((zeroA 256), false))) else (some ((zeroA 256), false))

def dpack_Unhints_1.f (K : Nat) (a0 : Int) : Option (Bool) :=
  some (a0 != 0)

def dpack_Unhints.l1 (K : Nat) : Nat → (List Int) → Int → Int → Int → Int → (List (Arr 256)) → Option ((Int × (List (Arr 256))) ⊕ ((List (Arr 256)) × Bool))
  | 0, _, _, _, _, _, _ => none
  | k + 1, a0, z2, z3, x8, z9, z10 => if z9 < x8 then (if z9 > z2 then (if 0 ≤ z9 then (if z9 < a0.length then ((some (isub .i64 z9 1)).bind fun x13 => if 0 ≤ x13 then (if x13 < a0.length then (if (rdL (CI .u8) a0 z9) ≤ (rdL (CI .u8) a0 x13) then (some (.inr (([] : List (Arr 256)), false))) else (if 0 ≤ z9 then (if z9 < a0.length then (if 0 ≤ z3 then (if z3 < z10.length then ((some (rdL (CI .u8) a0 z9)).bind fun x14 => if 0 ≤ x14 then (if x14 < 256 then ((some (iadd .i64 z9 1)).bind fun x15 => dpack_Unhints.l1 K k a0 z2 z3 x8 x15 (wrL z10 z3 (wr (rdL (CA .i32 256 (by decide)) z10 z3) x14 1))) else none) else none) else none) else none) else none) else none)) else none) else none) else none) else none) else (if 0 ≤ z9 then (if z9 < a0.length then (if 0 ≤ z3 then (if z3 < z10.length then ((some (rdL (CI .u8) a0 z9)).bind fun x16 => if 0 ≤ x16 then (if x16 < 256 then ((some (iadd .i64 z9 1)).bind fun x17 => dpack_Unhints.l1 K k a0 z2 z3 x8 x17 (wrL z10 z3 (wr (rdL (CA .i32 256 (by decide)) z10 z3) x16 1))) else none) else none) else none) else none) else none) else none)) else (some (.inl (z9, z10)))

def dpack_Unhints.l0 (K : Nat) : Nat → (List Int) → Int → Int → Int → Int → (List (Arr 256)) → Option ((Int × (List (Arr 256))) ⊕ ((List (Arr 256)) × Bool))
  | 0, _, _, _, _, _, _ => none
  | k + 1, a0, a1, a2, z2, z3, z4 => if z3 < ((List.replicate (a1 : Int).toNat (Cod.zero (CA .i32 256 (by decide)))).length : Int) then ((some (iadd .i64 a2 z3)).bind fun x7 => if 0 ≤ x7 then (if x7 < a0.length then ((some (iconv .i64 (rdL (CI .u8) a0 x7))).bind fun x8 => if x8 < z2 then (some (.inr (([] : List (Arr 256)), false))) else (if x8 > a2 then (some (.inr (([] : List (Arr 256)), false))) else ((dpack_Unhints.l1 K K a0 z2 z3 x8 z2 z4).bind fun t1 => (match t1 with | .inl (y11, y12) => dpack_Unhints.l0 K k a0 a1 a2 y11 (iadd .i64 z3 1) y12 | .inr r => some (.inr r))))) else none) else none) else (some (.inl (z2, z4)))

def dpack_Unhints.l2 (K : Nat) : Nat → (List Int) → Int → Int → Int → Option ((Unit) ⊕ (Int))
  | 0, _, _, _, _ => none
  | k + 1, a0, a2, y5, z21 => if z21 < ((subL a0 y5 a2).length : Int) then (if 0 ≤ z21 then (if z21 < (subL a0 y5 a2).length then (((some ((rdL (CI .u8) (subL a0 y5 a2) z21) != 0) : Option (Bool))).bind fun y22 => if y22 = true then (some (.inr z21)) else (dpack_Unhints.l2 K k a0 a2 y5 (iadd .i64 z21 1))) else none) else none) else (some (.inl ()))

def dpack_Unhints.f (K : Nat) (a0 : List Int) (a1 : Int) (a2 : Int) : Option ((List (Arr 256)) × Bool) :=
  if a1 < 1 then (some (([] : List (Arr 256)), false)) else (if a1 > 100 then (some (([] : List (Arr 256)), false)) else (if a2 < 1 then (some (([] : List (Arr 256)), false)) else (if a2 > 100 then (some (([] : List (Arr 256)), false)) else (if (a0.length : Int) = (iadd .i64 a1 a2) then (if 0 ≤ a1 then (if a1 ≤ 137438953472 then ((dpack_Unhints.l0 K K a0 a1 a2 0 0 (List.replicate (a1 : Int).toNat (Cod.zero (CA .i32 256 (by decide))))).bind fun t0 => (match t0 with | .inl (y5, y6) => if 0 ≤ y5 then (if y5 ≤ a2 then (if a2 ≤ a0.length then ((((((dpack_Unhints.l2 K K a0 a2 y5 0).bind fun t2 => (match t2 with | .inl _ => some (-1) | .inr r => some r) : Option (Int))).bind fun y20 => some (decide (y20 ≥ 0)) : Option (Bool))).bind fun y19 => if y19 = true then (some (([] : List (Arr 256)), false)) else (some (y6, true))) else none) else none) else none | .inr r => some r)) else none) else none) else (some (([] : List (Arr 256)), false))))))

def ref22_Hints.l1 (K : Nat) : Nat → (List (Arr 256)) → Int → Int → (List Int) → Option (((List Int)) ⊕ ((List Int)))
  | 0, _, _, _, _ => none
  | k + 1, a0, z1, z6, z7 => if z6 < 256 then (if 0 ≤ z1 then (if z1 < a0.length then (if 0 ≤ z6 then (if z6 < 256 then (if (rd (rdL (CA .i32 256 (by decide)) a0 z1) z6) = 0 then (if 0 ≤ z1 then (if z1 < a0.length then (if 0 ≤ z6 then (if z6 < 256 then (if (rd (rdL (CA .i32 256 (by decide)) a0 z1) z6) = 1 then (if z7.length + ([(iconv .u8 z6)] : List Int).length ≤ 140737488355328 then ((some (iadd .i64 z6 1)).bind fun x11 => ref22_Hints.l1 K k a0 z1 x11 (z7 ++ ([(iconv .u8 z6)] : List Int))) else none) else ((some (iadd .i64 z6 1)).bind fun x12 => ref22_Hints.l1 K k a0 z1 x12 z7)) else none) else none) else none) else none) else (if 0 ≤ z1 then (if z1 < a0.length then (if 0 ≤ z6 then (if z6 < 256 then (if (rd (rdL (CA .i32 256 (by decide)) a0 z1) z6) = 1 then (if 0 ≤ z1 then (if z1 < a0.length then (if 0 ≤ z6 then (if z6 < 256 then (if (rd (rdL (CA .i32 256 (by decide)) a0 z1) z6) = 1 then (if z7.length + ([(iconv .u8 z6)] : List Int).length ≤ 140737488355328 then ((some (iadd .i64 z6 1)).bind fun x15 => ref22_Hints.l1 K k a0 z1 x15 (z7 ++ ([(iconv .u8 z6)] : List Int))) else none) else ((some (iadd .i64 z6 1)).bind fun x16 => ref22_Hints.l1 K k a0 z1 x16 z7)) else none) else none) else none) else none) else (some (.inr ([] : List Int)))) else none) else none) else none) else none)) else none) else none) else none) else none) else (some (.inl z7))

def ref22_Hints.l0 (K : Nat) : Nat → (List (Arr 256)) → Int → Int → (List Int) → (List Int) → Option (((List Int) × (List Int)) ⊕ ((List Int)))
  | 0, _, _, _, _, _ => none
  | k + 1, a0, a1, z1, z2, z3 => if z1 < (a0.length : Int) then ((ref22_Hints.l1 K K a0 z1 0 z3).bind fun t1 => (match t1 with | .inl y8 => if (y8.length : Int) > a1 then (some (.inr ([] : List Int))) else (if z2.length + ([(iconv .u8 (y8.length : Int))] : List Int).length ≤ 140737488355328 then ((some (iadd .i64 z1 1)).bind fun x19 => ref22_Hints.l0 K k a0 a1 x19 (z2 ++ ([(iconv .u8 (y8.length : Int))] : List Int)) y8) else none) | .inr r => some (.inr r))) else (some (.inl (z2, z3)))

def ref22_Hints.l2 (K : Nat) : Nat → Int → (List Int) → Option ((List Int))
  | 0, _, _ => none
  | k + 1, a1, z20 => if (z20.length : Int) < a1 then (if z20.length + ([0] : List Int).length ≤ 140737488355328 then (ref22_Hints.l2 K k a1 (z20 ++ ([0] : List Int))) else none) else (some z20)

def ref22_Hints.f (K : Nat) (a0 : List (Arr 256)) (a1 : Int) : Option ((List Int)) :=
  if (a0.length : Int) < 1 then (some ([] : List Int)) else (if (a0.length : Int) > 100 then (some ([] : List Int)) else (if a1 < 1 then (some ([] : List Int)) else (if a1 > 100 then (some ([] : List Int)) else ((ref22_Hints.l0 K K a0 a1 0 ([] : List Int) ([] : List Int)).bind fun t0 => (match t0 with | .inl (y4, y5) => (ref22_Hints.l2 K K a1 y5).bind fun y21 => if y21.length + y4.length ≤ 140737488355328 then (some (y21 ++ y4)) else none | .inr r => some r)))))

def ref22_Unhints.l1 (K : Nat) : Nat → (List Int) → Int → Int → Int → (List (Arr 256)) → Option (Int × (List (Arr 256)))
  | 0, _, _, _, _, _ => none
  | k + 1, a0, a2, z3, z6, z7 => (some (iadd .i64 a2 z3)).bind fun x10 => if 0 ≤ x10 then (if x10 < a0.length then (if z6 < (iconv .i64 (rdL (CI .u8) a0 x10)) then (if z6 < a2 then (if 0 ≤ z6 then (if z6 < a0.length then (if 0 ≤ z3 then (if z3 < z7.length then ((some (rdL (CI .u8) a0 z6)).bind fun x11 => if 0 ≤ x11 then (if x11 < 256 then ((some (iadd .i64 z6 1)).bind fun x12 => ref22_Unhints.l1 K k a0 a2 z3 x12 (wrL z7 z3 (wr (rdL (CA .i32 256 (by decide)) z7 z3) x11 1))) else none) else none) else none) else none) else none) else none) else (some (z6, z7))) else (some (z6, z7))) else none) else none

def ref22_Unhints.l0 (K : Nat) : Nat → (List Int) → Int → Int → Int → Int → (List (Arr 256)) → Option ((List (Arr 256)))
  | 0, _, _, _, _, _, _ => none
  | k + 1, a0, a1, a2, z2, z3, z4 => if z3 < a1 then ((ref22_Unhints.l1 K K a0 a2 z3 z2 z4).bind fun (y8, y9) => (some (iadd .i64 z3 1)).bind fun x13 => ref22_Unhints.l0 K k a0 a1 a2 y8 x13 y9) else (some z4)

def ref22_Unhints.f (K : Nat) (a0 : List Int) (a1 : Int) (a2 : Int) : Option ((List (Arr 256)) × Bool) :=
  if a1 < 1 then (some (([] : List (Arr 256)), false)) else (if a1 > 100 then (some (([] : List (Arr 256)), false)) else (if a2 < 1 then (some (([] : List (Arr 256)), false)) else (if a2 > 100 then (some (([] : List (Arr 256)), false)) else (if (a0.length : Int) = (iadd .i64 a1 a2) then (if 0 ≤ a1 then (if a1 ≤ 137438953472 then ((ref22_Unhints.l0 K K a0 a1 a2 0 0 (List.replicate (a1 : Int).toNat (Cod.zero (CA .i32 256 (by decide))))).bind fun y5 => (ref22_Hints.f K y5 a2).bind fun r14 => (ref01_Same.f K r14 a0).bind fun r15 => if r15 = true then (some (y5, true)) else (some (([] : List (Arr 256)), false))) else none) else none) else (some (([] : List (Arr 256)), false))))))

def ref22_Same.l0 (K : Nat) : Nat → (List (Arr 256)) → (List (Arr 256)) → Int → Option ((Unit) ⊕ (Bool))
  | 0, _, _, _ => none
  | k + 1, a0, a1, z1 => if z1 < (a0.length : Int) then (if 0 ≤ z1 then (if z1 < a0.length then (if 0 ≤ z1 then (if z1 < a1.length then (if (!(eqA (rdL (CA .i32 256 (by decide)) a0 z1) (rdL (CA .i32 256 (by decide)) a1 z1))) = true then (some (.inr false)) else ((some (iadd .i64 z1 1)).bind fun x2 => ref22_Same.l0 K k a0 a1 x2)) else none) else none) else none) else none) else (some (.inl ()))

def ref22_Same.f (K : Nat) (a0 : List (Arr 256)) (a1 : List (Arr 256)) : Option (Bool) :=
  if (a0.length : Int) = (a1.length : Int) then ((ref22_Same.l0 K K a0 a1 0).bind fun t0 => (match t0 with | .inl _ => some true | .inr r => some r)) else (some false)

def zq_Fit.l0 (K : Nat) : Nat → (Arr 256) → Int → Option ((Unit) ⊕ (Bool))
  | 0, _, _ => none
  | k + 1, a0, z2 => if z2 < 256 then (if 0 ≤ z2 then (if z2 < 256 then ((some (rd a0 z2)).bind fun x3 => if x3 < 0 then (some (.inr false)) else (if x3 ≥ 8380417 then (some (.inr false)) else (zq_Fit.l0 K k a0 (iadd .i64 z2 1)))) else none) else none) else (some (.inl ()))

def zq_Fit.f (K : Nat) (a0 : Arr 256) : Option (Bool) :=
  (zq_Fit.l0 K K a0 0).bind fun t0 => (match t0 with | .inl _ => some true | .inr r => some r)

def dpack_span_turned.f (K : Nat) (a0_0 : Int) (a0_1 : Int) (a1 : Int) : Option (Int × Bool) :=
  if a0_0 < 0 then ((some (iconv .u32 a1)).bind fun x2 => some (x2, (decide (a1 ≤ a0_1)))) else (((if a1 > 4190208 then ((some (isub .i32 a1 8380417)).bind fun x4 => some x4) else (some a1) : Option (Int))).bind fun y3 => if y3 ≥ (isub .i32 0 a0_0) then ((some (iconv .u32 (isub .i32 a0_1 y3))).bind fun x5 => some (x5, (decide (y3 ≤ a0_1)))) else ((some (iconv .u32 (isub .i32 a0_1 y3))).bind fun x6 => some (x6, false)))

def bits_Pack.l1 (K : Nat) : Nat → Int → Int → (List Int) → Option (Int × Int × (List Int))
  | 0, _, _, _ => none
  | k + 1, z12, z13, z14 => if z13 ≥ 8 then (if z14.length + ([(iconv .u8 z12)] : List Int).length ≤ 140737488355328 then ((some (ishr .u64 z12 8)).bind fun x20 => (some (isub .i64 z13 8)).bind fun x21 => bits_Pack.l1 K k x20 x21 (z14 ++ ([(iconv .u8 z12)] : List Int))) else none) else (some (z12, z13, z14))

def bits_Pack.l0 (K : Nat) : Nat → (List Int) → Int → Int → Int → Int → (List Int) → Option (Int × Int × (List Int))
  | 0, _, _, _, _, _, _ => none
  | k + 1, a0, a1, z2, z3, z4, z5 => if z4 < (a0.length : Int) then (if 0 ≤ z4 then (if z4 < a0.length then ((some (rdL (CI .u32) a0 z4)).bind fun x9 => if 0 ≤ a1 then (if 0 ≤ z3 then ((some (ior .u64 z2 (ishl .u64 (iconv .u64 (iand .u32 x9 (isub .u32 (ishl .u32 1 a1) 1))) z3))).bind fun x10 => (some (iadd .i64 z3 a1)).bind fun x11 => (bits_Pack.l1 K K x10 x11 z5).bind fun (y15, y16, y17) => bits_Pack.l0 K k a0 a1 y15 y16 (iadd .i64 z4 1) y17) else none) else none) else none) else none) else (some (z2, z3, z5))

def bits_Pack.f (K : Nat) (a0 : List Int) (a1 : Int) : Option ((List Int)) :=
  if a1 < 1 then (some ([] : List Int)) else (if a1 > 24 then (some ([] : List Int)) else (if 0 ≤ (iquo .i64 (iadd .i64 (imul .i64 (a0.length : Int) a1) 7) 8) then (if (iquo .i64 (iadd .i64 (imul .i64 (a0.length : Int) a1) 7) 8) ≤ 140737488355328 then ((bits_Pack.l0 K K a0 a1 0 0 0 ([] : List Int)).bind fun (y6, y7, y8) => ((if y7 > 0 then (if y8.length + ([(iconv .u8 y6)] : List Int).length ≤ 140737488355328 then (some (y8 ++ ([(iconv .u8 y6)] : List Int))) else none) else (some y8) : Option ((List Int)))).bind fun y22 => some y22) else none) else none))

def dpack_Pack.l0 (K : Nat) : Nat → (Arr 256) → Int → Int → Int → (List Int) → Option (((List Int)) ⊕ ((List Int)))
  | 0, _, _, _, _, _ => none
  | k + 1, a0, a1, a2, z6, z7 => if z6 < 256 then (if 0 ≤ z6 then (if z6 < 256 then ((some (rd a0 z6)).bind fun x9 => (dpack_span_turned.f K a1 a2 x9).bind fun (r10, r11) => if r11 = true then (if 0 ≤ z6 then (if z6 < z7.length then (dpack_Pack.l0 K k a0 a1 a2 (iadd .i64 z6 1) (wrL z7 z6 r10)) else none) else none) else (some (.inr ([] : List Int)))) else none) else none) else (some (.inl z7))

def dpack_Pack.f (K : Nat) (a0 : Arr 256) (a1 : Int) (a2 : Int) : Option ((List Int)) :=
  (dpack_span_fit.f K a1 a2).bind fun r3 => if r3 = true then ((zq_Fit.f K a0).bind fun r4 => if r4 = true then ((dpack_Pack.l0 K K a0 a1 a2 0 (List.replicate (256 : Int).toNat (Cod.zero (CI .u32)))).bind fun t0 => (match t0 with | .inl y8 => (dpack_span_width.f K a1 a2).bind fun r12 => (bits_Pack.f K y8 r12).bind fun r13 => if ¬ (r13).isEmpty = true then (some r13) else none | .inr r => some r)) else (some ([] : List Int))) else (some ([] : List Int))

def ref21_Fit.l0 (K : Nat) : Nat → (Arr 256) → Int → Option ((Unit) ⊕ (Bool))
  | 0, _, _ => none
  | k + 1, a0, z2 => if z2 < 256 then (if 0 ≤ z2 then (if z2 < 256 then (if (rd a0 z2) < 0 then (some (.inr false)) else (if 0 ≤ z2 then (if z2 < 256 then (if (rd a0 z2) ≥ 8380417 then (some (.inr false)) else ((some (iadd .i64 z2 1)).bind fun x3 => ref21_Fit.l0 K k a0 x3)) else none) else none)) else none) else none) else (some (.inl ()))

def ref21_Fit.f (K : Nat) (a0 : Arr 256) : Option (Bool) :=
  (ref21_Fit.l0 K K a0 0).bind fun t0 => (match t0 with | .inl _ => some true | .inr r => some r)

def ref01_Pack.l1 (K : Nat) : Nat → (List Int) → Int → Int → Int → (List Int) → Option ((List Int))
  | 0, _, _, _, _, _ => none
  | k + 1, a0, a1, z2, z5, z6 => if z5 < a1 then ((some (iadd .i64 (imul .i64 z2 a1) z5)).bind fun x8 => (some (iquo .i64 x8 8)).bind fun x9 => if 0 ≤ x9 then (if x9 < z6.length then (if 0 ≤ z2 then (if z2 < a0.length then (if 0 ≤ z5 then (if 0 ≤ (irem .i64 x8 8) then ((some (iquo .i64 x8 8)).bind fun x10 => if 0 ≤ x10 then (if x10 < z6.length then ((some (ior .u8 (rdL (CI .u8) z6 x9) (ishl .u8 (iconv .u8 (iand .u32 (ishr .u32 (rdL (CI .u32) a0 z2) z5) 1)) (irem .i64 x8 8)))).bind fun x11 => (some (iadd .i64 z5 1)).bind fun x12 => ref01_Pack.l1 K k a0 a1 z2 x12 (wrL z6 x10 x11)) else none) else none) else none) else none) else none) else none) else none) else none) else (some z6)

def ref01_Pack.l0 (K : Nat) : Nat → (List Int) → Int → Int → (List Int) → Option ((List Int))
  | 0, _, _, _, _ => none
  | k + 1, a0, a1, z2, z3 => if z2 < (a0.length : Int) then ((ref01_Pack.l1 K K a0 a1 z2 0 z3).bind fun y7 => (some (iadd .i64 z2 1)).bind fun x13 => ref01_Pack.l0 K k a0 a1 x13 y7) else (some z3)

def ref01_Pack.f (K : Nat) (a0 : List Int) (a1 : Int) : Option ((List Int)) :=
  if a1 < 1 then (some ([] : List Int)) else (if a1 > 24 then (some ([] : List Int)) else (if 0 ≤ (iquo .i64 (iadd .i64 (imul .i64 (a0.length : Int) a1) 7) 8) then (if (iquo .i64 (iadd .i64 (imul .i64 (a0.length : Int) a1) 7) 8) ≤ 140737488355328 then ((ref01_Pack.l0 K K a0 a1 0 (List.replicate ((iquo .i64 (iadd .i64 (imul .i64 (a0.length : Int) a1) 7) 8) : Int).toNat (Cod.zero (CI .u8)))).bind fun y4 => some y4) else none) else none))

def ref22_Pack.l0 (K : Nat) : Nat → (Arr 256) → Int → Int → Int → (List Int) → Option (((List Int)) ⊕ ((List Int)))
  | 0, _, _, _, _, _ => none
  | k + 1, a0, a1, a2, z4, z5 => if z4 < 256 then (if 0 ≤ z4 then (if z4 < 256 then ((some (rd a0 z4)).bind fun x7 => if a1 < 0 then (if x7 > a2 then (some (.inr ([] : List Int))) else (if z5.length + ([(iconv .u32 x7)] : List Int).length ≤ 35184372088832 then ((some (iadd .i64 z4 1)).bind fun x10 => ref22_Pack.l0 K k a0 a1 a2 x10 (z5 ++ ([(iconv .u32 x7)] : List Int))) else none)) else (((if x7 > 4190208 then ((some (isub .i32 x7 8380417)).bind fun x12 => some x12) else (some x7) : Option (Int))).bind fun y11 => if y11 < (isub .i32 0 a1) then (some (.inr ([] : List Int))) else (if y11 > a2 then (some (.inr ([] : List Int))) else (if z5.length + ([(iconv .u32 (isub .i32 a2 y11))] : List Int).length ≤ 35184372088832 then ((some (iadd .i64 z4 1)).bind fun x15 => ref22_Pack.l0 K k a0 a1 a2 x15 (z5 ++ ([(iconv .u32 (isub .i32 a2 y11))] : List Int))) else none)))) else none) else none) else (some (.inl z5))

def ref22_Pack.f (K : Nat) (a0 : Arr 256) (a1 : Int) (a2 : Int) : Option ((List Int)) :=
  (ref22_bounds.f K a1 a2).bind fun r2 => if r2 = true then ((ref21_Fit.f K a0).bind fun r3 => if r3 = true then ((ref22_Pack.l0 K K a0 a1 a2 0 ([] : List Int)).bind fun t0 => (match t0 with | .inl y6 => (ref22_bitsOf.f K a1 a2).bind fun r16 => (ref01_Pack.f K y6 r16).bind fun r17 => some r17 | .inr r => some r)) else (some ([] : List Int))) else (some ([] : List Int))

def law22_kind.f (K : Nat) (a0 : Int) (a1_0 : Int) (a1_1 : Int) (a1_2 : Int) (a1_3 : Int) (a1_4 : Int) (a1_5 : Int) (a1_6 : Int) (a1_7 : Int) : Option (Int × Int × Int × Int × Int × Int × Int × Int) :=
  (some (irem .u8 a0 4)).bind fun x4 => if 0 ≤ x4 then (if x4 < ([44, 65, 87, 0] : List Int).length then ((ref22_Set.f K (rdL (CI .i64) ([44, 65, 87, 0] : List Int) x4)).bind fun (r5_0, r5_1, r5_2, r5_3, r5_4, r5_5, r5_6, r5_7, r6) => if r6 = true then (some (r5_0, r5_1, r5_2, r5_3, r5_4, r5_5, r5_6, r5_7)) else (some (a1_0, a1_1, a1_2, a1_3, a1_4, a1_5, a1_6, a1_7))) else none) else none

end Go.Proofs.Ytblploekkjeolaa
