/- Printed by this work's own program: the plain forms of the functions that the laws reach. -/
import Derived.Test.YtijahfdldlmnhaaDoorMl
set_option linter.unusedVariables false
set_option linter.unusedSimpArgs false
namespace Go.Proofs.YtijahfdldlmnhaaDoor
open Go.Mx

def tab_0 : Arr 24 := ⟨#[1, 32898, 9223372036854808714, 9223372039002292224, 32907, 2147483649, 9223372039002292353, 9223372036854808585, 138, 136, 2147516425, 2147483658, 2147516555, 9223372036854775947, 9223372036854808713, 9223372036854808579, 9223372036854808578, 9223372036854775936, 32778, 9223372039002259466, 9223372039002292353, 9223372036854808704, 2147483649, 9223372039002292232], rfl⟩
def tab_1 : Arr 24 := ⟨#[10, 7, 11, 17, 18, 3, 5, 16, 8, 21, 24, 4, 15, 23, 19, 13, 12, 2, 20, 14, 22, 9, 6, 1], rfl⟩
def tab_2 : Arr 24 := ⟨#[1, 3, 6, 10, 15, 21, 28, 36, 45, 55, 2, 14, 27, 41, 56, 8, 25, 43, 62, 18, 39, 61, 20, 44], rfl⟩

def ref08_Rate.f (K : Nat) (a0 : Int) : Option (Int) :=
  if a0 = 4 then (some 136) else (if a0 = 7 then (some 136) else (if a0 = 5 then (some 72) else (if a0 = 6 then (some 168) else (some 0))))

def ref08_Fit.f (K : Nat) (a0_0 : Int) (a0_1 : Arr 25) (a0_2 : Int) (a0_3 : Bool) : Option (Bool) :=
  (ref08_Rate.f K a0_0).bind fun r2 => if r2 > 0 then (if a0_2 ≥ 0 then (if a0_2 < r2 then (some true) else (if a0_3 = true then (some (a0_2 == r2)) else (some false))) else (some false)) else (some false)

def ref01_Same.l0 (K : Nat) : Nat → (List Int) → (List Int) → Int → Option ((Unit) ⊕ (Bool))
  | 0, _, _, _ => none
  | k + 1, a0, a1, z1 => if z1 < (a0.length : Int) then (if 0 ≤ z1 then (if z1 < a0.length then (if 0 ≤ z1 then (if z1 < a1.length then (if (rdL (CI .u8) a0 z1) = (rdL (CI .u8) a1 z1) then ((some (iadd .i64 z1 1)).bind fun x2 => ref01_Same.l0 K k a0 a1 x2) else (some (.inr false))) else none) else none) else none) else none) else (some (.inl ()))

def ref01_Same.f (K : Nat) (a0 : List Int) (a1 : List Int) : Option (Bool) :=
  if (a0.length : Int) = (a1.length : Int) then ((ref01_Same.l0 K K a0 a1 0).bind fun t0 => (match t0 with | .inl _ => some true | .inr r => some r)) else (some false)

def keccak_columns.l0 (K : Nat) : Nat → (Arr 25) → Int → (Arr 5) → Option ((Arr 5))
  | 0, _, _, _ => none
  | k + 1, a0, z2, z3 => if z2 < 5 then (if 0 ≤ z2 then (if z2 < 25 then ((some (iadd .i64 z2 5)).bind fun x5 => if 0 ≤ x5 then (if x5 < 25 then ((some (iadd .i64 z2 10)).bind fun x6 => if 0 ≤ x6 then (if x6 < 25 then ((some (iadd .i64 z2 15)).bind fun x7 => if 0 ≤ x7 then (if x7 < 25 then ((some (iadd .i64 z2 20)).bind fun x8 => if 0 ≤ x8 then (if x8 < 25 then (if 0 ≤ z2 then (if z2 < 5 then ((some (ixor .u64 (ixor .u64 (ixor .u64 (ixor .u64 (rd a0 z2) (rd a0 x5)) (rd a0 x6)) (rd a0 x7)) (rd a0 x8))).bind fun x9 => keccak_columns.l0 K k a0 (iadd .i64 z2 1) (wr z3 z2 x9)) else none) else none) else none) else none) else none) else none) else none) else none) else none) else none) else none) else none) else (some z3)

def keccak_columns.f (K : Nat) (a0 : Arr 25) : Option ((Arr 5)) :=
  (keccak_columns.l0 K K a0 0 (zeroA 5)).bind fun y4 => some y4

def math_bits_RotateLeft64.f (K : Nat) (a0 : Int) (a1 : Int) : Option (Int) :=
  (some (iand .u64 (iconv .u64 a1) 63)).bind fun x1 => if 0 ≤ x1 then (if 0 ≤ (isub .u64 64 x1) then ((some (ior .u64 (ishl .u64 a0 x1) (ishr .u64 a0 (isub .u64 64 x1)))).bind fun x2 => some x2) else none) else none

def keccak_round.l1 (K : Nat) : Nat → Int → Int → Int → (Arr 25) → Option ((Arr 25))
  | 0, _, _, _, _ => none
  | k + 1, z3, x9, z10, z11 => if z10 < 25 then ((some (iadd .i64 z3 z10)).bind fun x13 => if 0 ≤ x13 then (if x13 < 25 then ((some (iadd .i64 z3 z10)).bind fun x14 => if 0 ≤ x14 then (if x14 < 25 then ((some (ixor .u64 (rd z11 x13) x9)).bind fun x15 => (some (iadd .i64 z10 5)).bind fun x16 => keccak_round.l1 K k z3 x9 x16 (wr z11 x14 x15)) else none) else none) else none) else none) else (some z11)

def keccak_round.l0 (K : Nat) : Nat → (Arr 5) → Int → (Arr 25) → Option ((Arr 25))
  | 0, _, _, _ => none
  | k + 1, r1, z3, z4 => if z3 < 5 then ((some (irem .i64 (iadd .i64 z3 4) 5)).bind fun x6 => if 0 ≤ x6 then (if x6 < 5 then ((some (irem .i64 (iadd .i64 z3 1) 5)).bind fun x7 => if 0 ≤ x7 then (if x7 < 5 then ((math_bits_RotateLeft64.f K (rd r1 x7) 1).bind fun r8 => (some (ixor .u64 (rd r1 x6) r8)).bind fun x9 => (keccak_round.l1 K K z3 x9 0 z4).bind fun y12 => keccak_round.l0 K k r1 (iadd .i64 z3 1) y12) else none) else none) else none) else none) else (some z4)

def keccak_round.l2 (K : Nat) : Nat → Int → Int → (Arr 25) → Option ((Arr 25))
  | 0, _, _, _ => none
  | k + 1, z18, z19, z20 => if z19 < 24 then (if 0 ≤ z19 then (if z19 < 24 then ((some (rd tab_1 z19)).bind fun x22 => if 0 ≤ z19 then (if z19 < 24 then (if 0 ≤ x22 then (if x22 < 25 then ((math_bits_RotateLeft64.f K z18 (rd tab_2 z19)).bind fun r23 => if 0 ≤ x22 then (if x22 < 25 then ((some (rd z20 x22)).bind fun x24 => keccak_round.l2 K k x24 (iadd .i64 z19 1) (wr z20 x22 r23)) else none) else none) else none) else none) else none) else none) else none) else none) else (some z20)

def keccak_round.l4 (K : Nat) : Nat → Int → (Arr 25) → Int → (Arr 25) → Option ((Arr 25))
  | 0, _, _, _, _ => none
  | k + 1, z25, z26, z29, z30 => if z29 < 5 then (if 0 ≤ z29 then (if z29 < 5 then ((some (irem .i64 (iadd .i64 z29 2) 5)).bind fun x32 => if 0 ≤ x32 then (if x32 < 5 then ((some (irem .i64 (iadd .i64 z29 1) 5)).bind fun x33 => if 0 ≤ x33 then (if x33 < 5 then ((some (iadd .i64 z25 z29)).bind fun x34 => if 0 ≤ x34 then (if x34 < 25 then ((some (ixor .u64 (rd (subA 5 z26 z25) z29) (iandn .u64 (rd (subA 5 z26 z25) x32) (rd (subA 5 z26 z25) x33)))).bind fun x35 => keccak_round.l4 K k z25 z26 (iadd .i64 z29 1) (wr z30 x34 x35)) else none) else none) else none) else none) else none) else none) else none) else none) else (some z30)

def keccak_round.l3 (K : Nat) : Nat → Int → (Arr 25) → Option ((Arr 25))
  | 0, _, _ => none
  | k + 1, z25, z26 => if z25 < 25 then (if 0 ≤ z25 then (if z25 ≤ (iadd .i64 z25 5) then (if (iadd .i64 z25 5) ≤ 25 then (if z25 < 25 then (if 5 ≤ ((iadd .i64 z25 5) : Int).toNat - (z25 : Int).toNat then ((keccak_round.l4 K K z25 z26 0 z26).bind fun y31 => (some (iadd .i64 z25 5)).bind fun x36 => keccak_round.l3 K k x36 y31) else none) else none) else none) else none) else none) else (some z26)

def keccak_round.f (K : Nat) (a0 : Arr 25) (a1 : Int) : Option ((Arr 25)) :=
  (keccak_columns.f K a0).bind fun r1 => (keccak_round.l0 K K r1 0 a0).bind fun y5 => (some (rd y5 1)).bind fun x17 => (keccak_round.l2 K K x17 0 y5).bind fun y21 => (keccak_round.l3 K K 0 y21).bind fun y27 => (some (ixor .u64 (rd y27 0) a1)).bind fun x37 => some (wr y27 0 x37)

def keccak_Permute.l0 (K : Nat) : Nat → Int → (Arr 25) → Option ((Arr 25))
  | 0, _, _ => none
  | k + 1, z3, z4 => if z3 < 24 then (if 0 ≤ z3 then (if z3 < 24 then ((some (rd tab_0 z3)).bind fun x6 => (keccak_round.f K z4 x6).bind fun r7 => keccak_Permute.l0 K k (iadd .i64 z3 1) r7) else none) else none) else (some z4)

def keccak_Permute.f (K : Nat) (a0 : Arr 25) : Option ((Arr 25)) :=
  (keccak_Permute.l0 K K 0 a0).bind fun y5 => some y5

def keccak_rate.f (K : Nat) (a0 : Int) : Option (Int) :=
  if a0 = 4 then (some 136) else (if a0 = 7 then (some 136) else (if a0 = 5 then (some 72) else (if a0 = 6 then (some 168) else (some 0))))

def keccak_xor.f (K : Nat) (a0_0 : Int) (a0_1 : Arr 25) (a0_2 : Int) (a0_3 : Bool) (a1 : Int) (a2 : Int) : Option (Int × (Arr 25) × Int × Bool) :=
  (some (iquo .i64 a1 8)).bind fun x1 => if 0 ≤ x1 then (if x1 < 25 then (if 0 ≤ (imul .i64 8 (irem .i64 a1 8)) then ((some (iquo .i64 a1 8)).bind fun x2 => if 0 ≤ x2 then (if x2 < 25 then ((some (ixor .u64 (rd a0_1 x1) (ishl .u64 (iconv .u64 a2) (imul .i64 8 (irem .i64 a1 8))))).bind fun x3 => some (a0_0, (wr a0_1 x2 x3), a0_2, a0_3)) else none) else none) else none) else none) else none

def keccak_Absorb.l0 (K : Nat) : Nat → (List Int) → Int → Int → Int → (Arr 25) → Int → Bool → Option (Int × (Arr 25) × Int × Bool)
  | 0, _, _, _, _, _, _, _ => none
  | k + 1, a1, r3, z4, z5_0, z5_1, z5_2, z5_3 => if z4 < (a1.length : Int) then (((if 0 ≤ z4 then (if z4 < a1.length then ((keccak_xor.f K z5_0 z5_1 z5_2 z5_3 z5_2 (rdL (CI .u8) a1 z4)).bind fun (r8_0, r8_1, r8_2, r8_3) => (some (iadd .i64 r8_2 1)).bind fun x9 => if x9 = r3 then ((keccak_Permute.f K r8_1).bind fun r10 => some (r8_0, r10, 0, r8_3)) else (some (r8_0, r8_1, x9, r8_3))) else none) else none : Option (Int × (Arr 25) × Int × Bool))).bind fun (y7_0, y7_1, y7_2, y7_3) => keccak_Absorb.l0 K k a1 r3 (iadd .i64 z4 1) y7_0 y7_1 y7_2 y7_3) else (some (z5_0, z5_1, z5_2, z5_3))

def keccak_Absorb.f (K : Nat) (a0_0 : Int) (a0_1 : Arr 25) (a0_2 : Int) (a0_3 : Bool) (a1 : List Int) : Option (Int × (Arr 25) × Int × Bool) :=
  if a0_3 = true then (some (a0_0, a0_1, a0_2, true)) else ((keccak_rate.f K a0_0).bind fun r3 => (keccak_Absorb.l0 K K a1 r3 0 a0_0 a0_1 a0_2 false).bind fun (y6_0, y6_1, y6_2, y6_3) => some (y6_0, y6_1, y6_2, y6_3))

def keccak_turned.f (K : Nat) (a0_0 : Int) (a0_1 : Arr 25) (a0_2 : Int) (a0_3 : Bool) : Option (Int × (Arr 25) × Int × Bool) :=
  ((if a0_0 = 4 then (some 6) else (if a0_0 = 5 then (some 6) else (some 31)) : Option (Int))).bind fun y3 => (keccak_xor.f K a0_0 a0_1 a0_2 a0_3 a0_2 y3).bind fun (r4_0, r4_1, r4_2, r4_3) => (keccak_rate.f K r4_0).bind fun r5 => (keccak_xor.f K r4_0 r4_1 r4_2 r4_3 (isub .i64 r5 1) 128).bind fun (r6_0, r6_1, r6_2, r6_3) => (keccak_Permute.f K r6_1).bind fun r7 => some (r6_0, r7, 0, true)

def keccak_Squeeze.l0 (K : Nat) : Nat → Int → Int → (List Int) → Int → (Arr 25) → Int → Bool → Option ((List Int) × Int × (Arr 25) × Int × Bool)
  | 0, _, _, _, _, _, _, _ => none
  | k + 1, a1, z6, z7, z8_0, z8_1, z8_2, z8_3 => if z6 < ((List.replicate (a1 : Int).toNat (Cod.zero (CI .u8))).length : Int) then ((((keccak_rate.f K z8_0).bind fun r12 => if z8_2 = r12 then ((keccak_Permute.f K z8_1).bind fun r13 => some (z8_0, r13, 0, z8_3)) else (some (z8_0, z8_1, z8_2, z8_3)) : Option (Int × (Arr 25) × Int × Bool))).bind fun (y11_0, y11_1, y11_2, y11_3) => (some (iquo .i64 y11_2 8)).bind fun x14 => if 0 ≤ x14 then (if x14 < 25 then (if 0 ≤ (imul .i64 8 (irem .i64 y11_2 8)) then (if 0 ≤ z6 then (if z6 < z7.length then ((some (iconv .u8 (ishr .u64 (rd y11_1 x14) (imul .i64 8 (irem .i64 y11_2 8))))).bind fun x15 => (some (iadd .i64 y11_2 1)).bind fun x16 => keccak_Squeeze.l0 K k a1 (iadd .i64 z6 1) (wrL z7 z6 x15) y11_0 y11_1 x16 y11_3) else none) else none) else none) else none) else none) else (some (z7, z8_0, z8_1, z8_2, z8_3))

def keccak_Squeeze.f (K : Nat) (a0_0 : Int) (a0_1 : Arr 25) (a0_2 : Int) (a0_3 : Bool) (a1 : Int) : Option (Int × (Arr 25) × Int × Bool × (List Int)) :=
  if a1 < 0 then (some (a0_0, a0_1, a0_2, a0_3, ([] : List Int))) else (((if a0_3 = true then (some (a0_0, a0_1, a0_2, true)) else ((keccak_turned.f K a0_0 a0_1 a0_2 false).bind fun (r4_0, r4_1, r4_2, r4_3) => some (r4_0, r4_1, r4_2, r4_3)) : Option (Int × (Arr 25) × Int × Bool))).bind fun (y3_0, y3_1, y3_2, y3_3) => if 0 ≤ a1 then (if a1 ≤ 140737488355328 then ((keccak_Squeeze.l0 K K a1 0 (List.replicate (a1 : Int).toNat (Cod.zero (CI .u8))) y3_0 y3_1 y3_2 y3_3).bind fun (y9, y10_0, y10_1, y10_2, y10_3) => some (y10_0, y10_1, y10_2, y10_3, y9)) else none) else none)

def keccak_New.f (K : Nat) (a0 : Int) : Option (Int × (Arr 25) × Int × Bool × Int) :=
  (keccak_rate.f K a0).bind fun r2 => if r2 = 0 then (some (0, (zeroA 25), 0, false, 9)) else (some (a0, (zeroA 25), 0, false, 0))

def keccak_Sum.f (K : Nat) (a0 : Int) (a1 : List Int) (a2 : Int) : Option ((List Int) × Int) :=
  (keccak_New.f K a0).bind fun (r1_0, r1_1, r1_2, r1_3, r2) => if r2 = 0 then (if a2 < 0 then (some (([] : List Int), 8)) else (if a2 > 16777216 then (some (([] : List Int), 8)) else ((keccak_Absorb.f K r1_0 r1_1 r1_2 r1_3 a1).bind fun (r4_0, r4_1, r4_2, r4_3) => (keccak_Squeeze.f K r4_0 r4_1 r4_2 r4_3 a2).bind fun (r5_0, r5_1, r5_2, r5_3, r6) => some (r6, 0)))) else (some (([] : List Int), r2))

def law08_awake.f (K : Nat) : Option (Bool) :=
  (keccak_Sum.f K 4 ([] : List Int) 4).bind fun (r1, r2) => (keccak_Sum.f K 6 ([] : List Int) 4).bind fun (r3, r4) => (ref01_Same.f K r1 ([167, 255, 198, 248] : List Int)).bind fun r6 => if r6 = true then ((ref01_Same.f K r3 ([127, 156, 43, 164] : List Int)).bind fun r8 => some r8) else (some false)

def ref08_constants.l0 (K : Nat) : Nat → Int → Int → (Arr 24) → Option ((Arr 24))
  | 0, _, _, _ => none
  | k + 1, z3, z4, z5 => if z4 < 168 then (((((if (iand .u64 z3 1) = 1 then ((some (iquo .i64 z4 7)).bind fun x10 => if 0 ≤ x10 then (if x10 < 24 then (if 0 ≤ (irem .i64 z4 7) then (if 0 ≤ (isub .u64 (ishl .u64 1 (irem .i64 z4 7)) 1) then ((some (iquo .i64 z4 7)).bind fun x11 => if 0 ≤ x11 then (if x11 < 24 then ((some (ior .u64 (rd z5 x10) (ishl .u64 1 (isub .u64 (ishl .u64 1 (irem .i64 z4 7)) 1)))).bind fun x12 => some (wr z5 x11 x12)) else none) else none) else none) else none) else none) else none) else (some z5) : Option ((Arr 24)))).bind fun y9 => (some (imul .u64 z3 2)).bind fun x13 => if x13 ≥ 256 then ((some (ixor .u64 (iand .u64 x13 255) 113)).bind fun x14 => some (x14, y9)) else (some (x13, y9)) : Option (Int × (Arr 24)))).bind fun (y7, y8) => (some (iadd .i64 z4 1)).bind fun x15 => ref08_constants.l0 K k y7 x15 y8) else (some z5)

def ref08_constants.f (K : Nat) : Option ((Arr 24)) :=
  (ref08_constants.l0 K K 1 0 (zeroA 24)).bind fun y6 => some y6

def ref08_left.f (K : Nat) (a0 : Int) (a1 : Int) : Option (Int) :=
  (some (irem .i64 a1 64)).bind fun x1 => if 0 ≤ x1 then (if 0 ≤ (isub .i64 64 x1) then ((some (ior .u64 (ishl .u64 a0 x1) (ishr .u64 a0 (isub .i64 64 x1)))).bind fun x2 => some x2) else none) else none

def ref08_move.l0 (K : Nat) : Nat → (Arr 25) → Int → Int → Int → (Arr 25) → Option ((Arr 25))
  | 0, _, _, _, _, _ => none
  | k + 1, a0, z5, z6, z7, z8 => if z7 < 24 then ((some (irem .i64 (iadd .i64 (imul .i64 2 z5) (imul .i64 3 z6)) 5)).bind fun x10 => (some (iadd .i64 z5 (imul .i64 5 z6))).bind fun x11 => if 0 ≤ x11 then (if x11 < 25 then ((ref08_left.f K (rd a0 x11) (iquo .i64 (imul .i64 (iadd .i64 z7 1) (iadd .i64 z7 2)) 2)).bind fun r12 => (some (iadd .i64 z6 (imul .i64 5 x10))).bind fun x13 => if 0 ≤ x13 then (if x13 < 25 then ((some (iadd .i64 z7 1)).bind fun x14 => ref08_move.l0 K k a0 z6 x10 x14 (wr z8 x13 r12)) else none) else none) else none) else none) else (some z8)

def ref08_move.f (K : Nat) (a0 : Arr 25) : Option ((Arr 25)) :=
  (some (rd a0 0)).bind fun x4 => (ref08_move.l0 K K a0 1 0 0 (wr (zeroA 25) 0 x4)).bind fun y9 => some y9

def ref08_spread.l0 (K : Nat) : Nat → (Arr 25) → Int → (Arr 5) → Option ((Arr 5))
  | 0, _, _, _ => none
  | k + 1, a0, z4, z5 => if z4 < 25 then ((some (irem .i64 z4 5)).bind fun x7 => if 0 ≤ x7 then (if x7 < 5 then (if 0 ≤ z4 then (if z4 < 25 then ((some (irem .i64 z4 5)).bind fun x8 => if 0 ≤ x8 then (if x8 < 5 then ((some (ixor .u64 (rd z5 x7) (rd a0 z4))).bind fun x9 => (some (iadd .i64 z4 1)).bind fun x10 => ref08_spread.l0 K k a0 x10 (wr z5 x8 x9)) else none) else none) else none) else none) else none) else none) else (some z5)

def ref08_spread.l1 (K : Nat) : Nat → (Arr 5) → Int → (Arr 25) → Option ((Arr 25))
  | 0, _, _, _ => none
  | k + 1, y6, z11, z12 => if z11 < 25 then (if 0 ≤ z11 then (if z11 < 25 then ((some (irem .i64 (iadd .i64 z11 4) 5)).bind fun x14 => if 0 ≤ x14 then (if x14 < 5 then ((some (irem .i64 (iadd .i64 z11 1) 5)).bind fun x15 => if 0 ≤ x15 then (if x15 < 5 then ((ref08_left.f K (rd y6 x15) 1).bind fun r16 => if 0 ≤ z11 then (if z11 < 25 then ((some (ixor .u64 (ixor .u64 (rd z12 z11) (rd y6 x14)) r16)).bind fun x17 => (some (iadd .i64 z11 1)).bind fun x18 => ref08_spread.l1 K k y6 x18 (wr z12 z11 x17)) else none) else none) else none) else none) else none) else none) else none) else none) else (some z12)

def ref08_spread.f (K : Nat) (a0 : Arr 25) : Option ((Arr 25)) :=
  (ref08_spread.l0 K K a0 0 (zeroA 5)).bind fun y6 => (ref08_spread.l1 K K y6 0 a0).bind fun y13 => some y13

def ref08_Permute.l1 (K : Nat) : Nat → (Arr 25) → Int → (Arr 25) → Option ((Arr 25))
  | 0, _, _, _ => none
  | k + 1, r9, z11, z12 => if z11 < 25 then ((some (imul .i64 (iquo .i64 z11 5) 5)).bind fun x14 => if 0 ≤ z11 then (if z11 < 25 then ((some (iadd .i64 x14 (irem .i64 (iadd .i64 z11 1) 5))).bind fun x15 => if 0 ≤ x15 then (if x15 < 25 then ((some (iadd .i64 x14 (irem .i64 (iadd .i64 z11 2) 5))).bind fun x16 => if 0 ≤ x16 then (if x16 < 25 then (if 0 ≤ z11 then (if z11 < 25 then ((some (ixor .u64 (rd r9 z11) (iand .u64 (ixor .u64 (rd r9 x15) 18446744073709551615) (rd r9 x16)))).bind fun x17 => (some (iadd .i64 z11 1)).bind fun x18 => ref08_Permute.l1 K k r9 x18 (wr z12 z11 x17)) else none) else none) else none) else none) else none) else none) else none) else none) else (some z12)

def ref08_Permute.l0 (K : Nat) : Nat → (Arr 24) → Int → (Arr 25) → Option ((Arr 25))
  | 0, _, _, _ => none
  | k + 1, r3, z5, z6 => if z5 < 24 then ((ref08_spread.f K z6).bind fun r8 => (ref08_move.f K r8).bind fun r9 => (ref08_Permute.l1 K K r9 0 z6).bind fun y13 => if 0 ≤ z5 then (if z5 < 24 then ((some (ixor .u64 (rd y13 0) (rd r3 z5))).bind fun x19 => (some (iadd .i64 z5 1)).bind fun x20 => ref08_Permute.l0 K k r3 x20 (wr y13 0 x19)) else none) else none) else (some z6)

def ref08_Permute.f (K : Nat) (a0 : Arr 25) : Option ((Arr 25)) :=
  (ref08_constants.f K).bind fun r3 => (ref08_Permute.l0 K K r3 0 a0).bind fun y7 => some y7

def ref08_put.f (K : Nat) (a0 : Arr 25) (a1 : Int) (a2 : Int) : Option ((Arr 25)) :=
  (some (iquo .i64 a1 8)).bind fun x3 => if 0 ≤ x3 then (if x3 < 25 then (if 0 ≤ (imul .i64 8 (irem .i64 a1 8)) then ((some (iquo .i64 a1 8)).bind fun x4 => if 0 ≤ x4 then (if x4 < 25 then ((some (ixor .u64 (rd a0 x3) (ishl .u64 (iconv .u64 a2) (imul .i64 8 (irem .i64 a1 8))))).bind fun x5 => some (wr a0 x4 x5)) else none) else none) else none) else none) else none

def ref08_Absorb.l0 (K : Nat) : Nat → (List Int) → Int → Int → (Arr 25) → Int → Bool → Option (Int × (Arr 25) × Int × Bool)
  | 0, _, _, _, _, _, _ => none
  | k + 1, a1, z3, z4_0, z4_1, z4_2, z4_3 => if z3 < (a1.length : Int) then (((if 0 ≤ z3 then (if z3 < a1.length then ((ref08_put.f K z4_1 z4_2 (rdL (CI .u8) a1 z3)).bind fun r7 => (some (iadd .i64 z4_2 1)).bind fun x8 => (ref08_Rate.f K z4_0).bind fun r9 => if x8 = r9 then ((ref08_Permute.f K r7).bind fun r10 => some (z4_0, r10, 0, z4_3)) else (some (z4_0, r7, x8, z4_3))) else none) else none : Option (Int × (Arr 25) × Int × Bool))).bind fun (y6_0, y6_1, y6_2, y6_3) => (some (iadd .i64 z3 1)).bind fun x11 => ref08_Absorb.l0 K k a1 x11 y6_0 y6_1 y6_2 y6_3) else (some (z4_0, z4_1, z4_2, z4_3))

def ref08_Absorb.f (K : Nat) (a0_0 : Int) (a0_1 : Arr 25) (a0_2 : Int) (a0_3 : Bool) (a1 : List Int) : Option (Int × (Arr 25) × Int × Bool) :=
  if a0_3 = true then (some (a0_0, a0_1, a0_2, true)) else ((ref08_Absorb.l0 K K a1 0 a0_0 a0_1 a0_2 false).bind fun (y5_0, y5_1, y5_2, y5_3) => some (y5_0, y5_1, y5_2, y5_3))

def ref08_Squeeze.l0 (K : Nat) : Nat → Int → Int → (List Int) → Int → (Arr 25) → Int → Bool → Option ((List Int) × Int × (Arr 25) × Int × Bool)
  | 0, _, _, _, _, _, _, _ => none
  | k + 1, a1, r3, z9, z10_0, z10_1, z10_2, z10_3 => if (z9.length : Int) < a1 then (((if z10_2 = r3 then ((ref08_Permute.f K z10_1).bind fun r14 => some (z10_0, r14, 0, z10_3)) else (some (z10_0, z10_1, z10_2, z10_3)) : Option (Int × (Arr 25) × Int × Bool))).bind fun (y13_0, y13_1, y13_2, y13_3) => (some (iquo .i64 y13_2 8)).bind fun x15 => if 0 ≤ x15 then (if x15 < 25 then (if 0 ≤ (imul .i64 8 (irem .i64 y13_2 8)) then (if z9.length + ([(iconv .u8 (ishr .u64 (rd y13_1 x15) (imul .i64 8 (irem .i64 y13_2 8))))] : List Int).length ≤ 140737488355328 then ((some (iadd .i64 y13_2 1)).bind fun x18 => ref08_Squeeze.l0 K k a1 r3 (z9 ++ ([(iconv .u8 (ishr .u64 (rd y13_1 x15) (imul .i64 8 (irem .i64 y13_2 8))))] : List Int)) y13_0 y13_1 x18 y13_3) else none) else none) else none) else none) else (some (z9, z10_0, z10_1, z10_2, z10_3))

def ref08_Squeeze.f (K : Nat) (a0_0 : Int) (a0_1 : Arr 25) (a0_2 : Int) (a0_3 : Bool) (a1 : Int) : Option (Int × (Arr 25) × Int × Bool × (List Int)) :=
  if a1 < 0 then (some (a0_0, a0_1, a0_2, a0_3, ([] : List Int))) else ((ref08_Rate.f K a0_0).bind fun r3 => ((if a0_3 = true then (some (a0_0, a0_1, a0_2, true)) else (((if a0_0 = 4 then (some 6) else (if a0_0 = 5 then (some 6) else (some 31)) : Option (Int))).bind fun y5 => (ref08_put.f K a0_1 a0_2 y5).bind fun r6 => (ref08_put.f K r6 (isub .i64 r3 1) 128).bind fun r7 => (ref08_Permute.f K r7).bind fun r8 => some (a0_0, r8, 0, true)) : Option (Int × (Arr 25) × Int × Bool))).bind fun (y4_0, y4_1, y4_2, y4_3) => (ref08_Squeeze.l0 K K a1 r3 ([] : List Int) y4_0 y4_1 y4_2 y4_3).bind fun (y11, y12_0, y12_1, y12_2, y12_3) => some (y12_0, y12_1, y12_2, y12_3, y11))

def ref08_New.f (K : Nat) (a0 : Int) : Option (Int × (Arr 25) × Int × Bool × Int) :=
  (ref08_Rate.f K a0).bind fun r2 => if r2 = 0 then (some (0, (zeroA 25), 0, false, 9)) else (some (a0, (zeroA 25), 0, false, 0))

def ref08_Sum.f (K : Nat) (a0 : Int) (a1 : List Int) (a2 : Int) : Option ((List Int) × Int) :=
  (ref08_New.f K a0).bind fun (r1_0, r1_1, r1_2, r1_3, r2) => if r2 = 0 then (if a2 < 0 then (some (([] : List Int), 8)) else (if a2 > 16777216 then (some (([] : List Int), 8)) else ((ref08_Absorb.f K r1_0 r1_1 r1_2 r1_3 a1).bind fun (r4_0, r4_1, r4_2, r4_3) => (ref08_Squeeze.f K r4_0 r4_1 r4_2 r4_3 a2).bind fun (r5_0, r5_1, r5_2, r5_3, r6) => some (r6, 0)))) else (some (([] : List Int), r2))

def keccak_Fit.f (K : Nat) (a0_0 : Int) (a0_1 : Arr 25) (a0_2 : Int) (a0_3 : Bool) : Option (Bool) :=
  (keccak_rate.f K a0_0).bind fun r2 => ((if a0_3 = true then (some r2) else ((some (isub .i64 r2 1)).bind fun x4 => some x4) : Option (Int))).bind fun y3 => (keccak_rate.f K a0_0).bind fun r5 => if r5 > 0 then (if a0_2 ≥ 0 then (some (decide (a0_2 ≤ y3))) else (some false)) else (some false)

def ref01_Join.l0 (K : Nat) : Nat → (List (List Int)) → Int → (List Int) → Option ((List Int))
  | 0, _, _, _ => none
  | k + 1, a0, z1, z2 => if z1 < (a0.length : Int) then (if 0 ≤ z1 then (if z1 < a0.length then (if z2.length + (rdLL a0 z1).length ≤ 140737488355328 then ((some (iadd .i64 z1 1)).bind fun x6 => ref01_Join.l0 K k a0 x6 (z2 ++ (rdLL a0 z1))) else none) else none) else none) else (some z2)

def ref01_Join.f (K : Nat) (a0 : List (List Int)) : Option ((List Int)) :=
  (ref01_Join.l0 K K a0 0 ([] : List Int)).bind fun y3 => some y3

end Go.Proofs.YtijahfdldlmnhaaDoor
