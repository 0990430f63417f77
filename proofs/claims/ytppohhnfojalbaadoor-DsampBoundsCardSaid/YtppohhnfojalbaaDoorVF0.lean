/- Printed by this work's own program: the plain forms of the functions that the laws reach. -/
import Derived.Test.YtppohhnfojalbaaDoorMd
set_option linter.unusedVariables false
set_option linter.unusedSimpArgs false
namespace Go.Proofs.YtppohhnfojalbaaDoor
open Go.Mx

def tab_0 : Arr 24 := ⟨#[1, 32898, 9223372036854808714, 9223372039002292224, 32907, 2147483649, 9223372039002292353, 9223372036854808585, 138, 136, 2147516425, 2147483658, 2147516555, 9223372036854775947, 9223372036854808713, 9223372036854808579, 9223372036854808578, 9223372036854775936, 32778, 9223372039002259466, 9223372039002292353, 9223372036854808704, 2147483649, 9223372039002292232], rfl⟩
def tab_1 : Arr 24 := ⟨#[10, 7, 11, 17, 18, 3, 5, 16, 8, 21, 24, 4, 15, 23, 19, 13, 12, 2, 20, 14, 22, 9, 6, 1], rfl⟩
def tab_2 : Arr 24 := ⟨#[1, 3, 6, 10, 15, 21, 28, 36, 45, 55, 2, 14, 27, 41, 56, 8, 25, 43, 62, 18, 39, 61, 20, 44], rfl⟩

def keccak_rate.f (K : Nat) (a0 : Int) : Option (Int) :=
  if a0 = 4 then (some 136) else (if a0 = 7 then (some 136) else (if a0 = 5 then (some 72) else (if a0 = 6 then (some 168) else (some 0))))

def keccak_columns.l0 (K : Nat) : Nat → (Arr 25) → Int → (Arr 5) → Option ((Arr 5))
  | 0, _, _, _ => none
  | k + 1, a0, z2, z3 => if z2 < 5 then (if 0 ≤ z2 then (if z2 < 25 then ((some (iadd .i64 z2 5)).bind fun x5 => if 0 ≤ x5 then (if x5 < 25 then ((some (iadd .i64 z2 10)).bind fun x6 => if 0 ≤ x6 then (if x6 < 25 then ((some (iadd .i64 z2 15)).bind fun x7 => if 0 ≤ x7 then (if x7 < 25 then ((some (iadd .i64 z2 20)).bind fun x8 => if 0 ≤ x8 then (if x8 < 25 then (if 0 ≤ z2 then (if z2 < 5 then ((some (ixor .u64 (ixor .u64 (ixor .u64 (ixor .u64 (rd a0 z2) (rd a0 x5)) (rd a0 x6)) (rd a0 x7)) (rd a0 x8))).bind fun x9 => keccak_columns.l0 K k a0 (iadd .i64 z2 1) (wr z3 z2 x9)) else none) else none) else none) else none) else none) else none) else none) else none) else none) else none) else none) else none) else (some z3)

def keccak_columns.f (K : Nat) (a0 : Arr 25) : Option ((Arr 5)) :=
  (keccak_columns.l0 K K a0 0 (zeroA 5)).bind fun y4 => some y4

def math_bits_RotateLeft64.f (K : Nat) (a0 : Int) (a1 : Int) : Option (Int) :=
  (some (iand .u64 (iconv .u64 a1) 63)).bind fun x1 => if 0 ≤ x1 then (if 0 ≤ (isub .u64 64 x1) then ((some (ior .u64 (ishl .u64 a0 x1) (ishr .u64 a0 (isub .u64 64 x1)))).bind fun x2 => some x2) else none) else none

def keccak_round.l1 (K : Nat) : Nat → Int → Int → Int → (Arr 25) → Option ((Arr 25))
  | 0, _, _, _, _ => none
  | k + 1, z3, x9, z10, z11 => if z10 < 25 then ((some (iadd .i64 z3 z10)).bind fun x13 => if 0 ≤ x13 then (if x13 < 25 then ((some (iadd .i64 z3 z10)).bind fun x14 => if 0 ≤ x14 then (if x14 < 25 then ((some (ixor .u64 (rd z11 x13) x9)).bind fun x15 => (some (iadd .i64 z10 5)).bind fun x16 => keccak_round.l1 K k z3 x9 x16 (wr z11 x14 x15)) else none) else none) else none) else none) else (some z11)

def keccak_round.l0 (K : Nat) : Nat → (Arr 5) → Int → (Arr 25) → Option ((Arr 25))
  | 0, _, _, _ => none
  | k + 1, r1, z3, z4 => if z3 < 5 then ((some (irem .i64 (iadd .i64 z3 4) 5)).bind fun x6 => if 0 ≤ x6 then (if x6 < 5 then ((some (irem .i64 (iadd .i64 z3 1) 5)).bind fun x7 => if 0 ≤ x7 then (if x7 < 5 then ((math_bits_RotateLeft64.f K (rd r1 x7) 1).bind fun r8 => (some (ixor .u64 (rd r1 x6) r8)).bind fun x9 => (keccak_round.l1 K K z3 x9 0 z4).bind fun y12 => keccak_round.l0 K k r1 (iadd .i64 z3 1) y12) else none) else none) else none) else none) else (some z4)

def keccak_round.l2 (K : Nat) : Nat → Int → Int → (Arr 25) → Option ((Arr 25))
  | 0, _, _, _ => none
  | k + 1, z18, z19, z20 => if z19 < 24 then (if 0 ≤ z19 then (if z19 < 24 then ((some (rd tab_1 z19)).bind fun x22 => if 0 ≤ z19 then (if z19 < 24 then (if 0 ≤ x22 then (if x22 < 25 then ((math_bits_RotateLeft64.f K z18 (rd tab_2 z19)).bind fun r23 => if 0 ≤ x22 then (if x22 < 25 then ((some (rd z20 x22)).bind fun x24 => keccak_round.l2 K k x24 (iadd .i64 z19 1) (wr z20 x22 r23)) else none) else none) else none) else none) else none) else none) else none) else none) else (some z20)

def keccak_round.l4 (K : Nat) : Nat → Int → (Arr 25) → Int → (Arr 25) → Option ((Arr 25))
  | 0, _, _, _, _ => none
  | k + 1, z25, z26, z29, z30 => if z29 < 5 then (if 0 ≤ z29 then (if z29 < 5 then ((some (irem .i64 (iadd .i64 z29 2) 5)).bind fun x32 => if 0 ≤ x32 then (if x32 < 5 then ((some (irem .i64 (iadd .i64 z29 1) 5)).bind fun x33 => if 0 ≤ x33 then (if x33 < 5 then ((some (iadd .i64 z25 z29)).bind fun x34 => if 0 ≤ x34 then (if x34 < 25 then ((some (ixor .u64 (rd (subA 5 z26 z25) z29) (iandn .u64 (rd (subA 5 z26 z25) x32) (rd (subA 5 z26 z25) x33)))).bind fun x35 => keccak_round.l4 K k z25 z26 (iadd .i64 z29 1) (wr z30 x34 x35)) else none) else none) else none) else none) else none) else none) else none) else none) else (some z30)

def keccak_round.l3 (K : Nat) : Nat → Int → (Arr 25) → Option ((Arr 25))
  | 0, _, _ => none
  | k + 1, z25, z26 => if z25 < 25 then (if 0 ≤ z25 then (if z25 ≤ (iadd .i64 z25 5) then (if (iadd .i64 z25 5) ≤ 25 then (if z25 < 25 then (if 5 ≤ ((iadd .i64 z25 5) : Int).toNat - (z25 : Int).toNat then ((keccak_round.l4 K K z25 z26 0 z26).bind fun y31 => (some (iadd .i64 z25 5)).bind fun x36 => keccak_round.l3 K k x36 y31) else none) else none) else none) else none) else none) else (some z26)

def keccak_round.f (K : Nat) (a0 : Arr 25) (a1 : Int) : Option ((Arr 25)) :=
  (keccak_columns.f K a0).bind fun r1 => (keccak_round.l0 K K r1 0 a0).bind fun y5 => (some (rd y5 1)).bind fun x17 => (keccak_round.l2 K K x17 0 y5).bind fun y21 => (keccak_round.l3 K K 0 y21).bind fun y27 => (some (ixor .u64 (rd y27 0) a1)).bind fun x37 => some (wr y27 0 x37)

def keccak_Permute.l0 (K : Nat) : Nat → Int → (Arr 25) → Option ((Arr 25))
  | 0, _, _ => none
  | k + 1, z3, z4 => if z3 < 24 then (if 0 ≤ z3 then (if z3 < 24 then ((some (rd tab_0 z3)).bind fun x6 => (keccak_round.f K z4 x6).bind fun r7 => keccak_Permute.l0 K k (iadd .i64 z3 1) r7) else none) else none) else (some z4)

def keccak_Permute.f (K : Nat) (a0 : Arr 25) : Option ((Arr 25)) :=
  (keccak_Permute.l0 K K 0 a0).bind fun y5 => some y5

def keccak_xor.f (K : Nat) (a0_0 : Int) (a0_1 : Arr 25) (a0_2 : Int) (a0_3 : Bool) (a1 : Int) (a2 : Int) : Option (Int × (Arr 25) × Int × Bool) :=
  (some (iquo .i64 a1 8)).bind fun x1 => if 0 ≤ x1 then (if x1 < 25 then (if 0 ≤ (imul .i64 8 (irem .i64 a1 8)) then ((some (iquo .i64 a1 8)).bind fun x2 => if 0 ≤ x2 then (if x2 < 25 then ((some (ixor .u64 (rd a0_1 x1) (ishl .u64 (iconv .u64 a2) (imul .i64 8 (irem .i64 a1 8))))).bind fun x3 => some (a0_0, (wr a0_1 x2 x3), a0_2, a0_3)) else none) else none) else none) else none) else none

def keccak_turned.f (K : Nat) (a0_0 : Int) (a0_1 : Arr 25) (a0_2 : Int) (a0_3 : Bool) : Option (Int × (Arr 25) × Int × Bool) :=
  ((if a0_0 = 4 then (some 6) else (if a0_0 = 5 then (some 6) else (some 31)) : Option (Int))).bind fun y3 => (keccak_xor.f K a0_0 a0_1 a0_2 a0_3 a0_2 y3).bind fun (r4_0, r4_1, r4_2, r4_3) => (keccak_rate.f K r4_0).bind fun r5 => (keccak_xor.f K r4_0 r4_1 r4_2 r4_3 (isub .i64 r5 1) 128).bind fun (r6_0, r6_1, r6_2, r6_3) => (keccak_Permute.f K r6_1).bind fun r7 => some (r6_0, r7, 0, true)

def keccak_Squeeze.l0 (K : Nat) : Nat → Int → Int → (List Int) → Int → (Arr 25) → Int → Bool → Option ((List Int) × Int × (Arr 25) × Int × Bool)
  | 0, _, _, _, _, _, _, _ => none
  | k + 1, a1, z6, z7, z8_0, z8_1, z8_2, z8_3 => if z6 < ((List.replicate (a1 : Int).toNat (Cod.zero (CI .u8))).length : Int) then ((((keccak_rate.f K z8_0).bind fun r12 => if z8_2 = r12 then ((keccak_Permute.f K z8_1).bind fun r13 => some (z8_0, r13, 0, z8_3)) else (some (z8_0, z8_1, z8_2, z8_3)) : Option (Int × (Arr 25) × Int × Bool))).bind fun (y11_0, y11_1, y11_2, y11_3) => (some (iquo .i64 y11_2 8)).bind fun x14 => if 0 ≤ x14 then (if x14 < 25 then (if 0 ≤ (imul .i64 8 (irem .i64 y11_2 8)) then (if 0 ≤ z6 then (if z6 < z7.length then ((some (iconv .u8 (ishr .u64 (rd y11_1 x14) (imul .i64 8 (irem .i64 y11_2 8))))).bind fun x15 => (some (iadd .i64 y11_2 1)).bind fun x16 => keccak_Squeeze.l0 K k a1 (iadd .i64 z6 1) (wrL z7 z6 x15) y11_0 y11_1 x16 y11_3) else none) else none) else none) else none) else none) else (some (z7, z8_0, z8_1, z8_2, z8_3))

def keccak_Squeeze.f (K : Nat) (a0_0 : Int) (a0_1 : Arr 25) (a0_2 : Int) (a0_3 : Bool) (a1 : Int) : Option (Int × (Arr 25) × Int × Bool × (List Int)) :=
  if a1 < 0 then (some (a0_0, a0_1, a0_2, a0_3, ([] : List Int))) else (((if a0_3 = true then (some (a0_0, a0_1, a0_2, true)) else ((keccak_turned.f K a0_0 a0_1 a0_2 false).bind fun (r4_0, r4_1, r4_2, r4_3) => some (r4_0, r4_1, r4_2, r4_3)) : Option (Int × (Arr 25) × Int × Bool))).bind fun (y3_0, y3_1, y3_2, y3_3) => if 0 ≤ a1 then (if a1 ≤ 140737488355328 then ((keccak_Squeeze.l0 K K a1 0 (List.replicate (a1 : Int).toNat (Cod.zero (CI .u8))) y3_0 y3_1 y3_2 y3_3).bind fun (y9, y10_0, y10_1, y10_2, y10_3) => some (y10_0, y10_1, y10_2, y10_3, y9)) else none) else none)

def keccak_New.f (K : Nat) (a0 : Int) : Option (Int × (Arr 25) × Int × Bool × Int) :=
  (keccak_rate.f K a0).bind fun r2 => if r2 = 0 then (some (0, (zeroA 25), 0, false, 9)) else (some (a0, (zeroA 25), 0, false, 0))

def keccak_Absorb.l0 (K : Nat) : Nat → (List Int) → Int → Int → Int → (Arr 25) → Int → Bool → Option (Int × (Arr 25) × Int × Bool)
  | 0, _, _, _, _, _, _, _ => none
  | k + 1, a1, r3, z4, z5_0, z5_1, z5_2, z5_3 => if z4 < (a1.length : Int) then (((if 0 ≤ z4 then (if z4 < a1.length then ((keccak_xor.f K z5_0 z5_1 z5_2 z5_3 z5_2 (rdL (CI .u8) a1 z4)).bind fun (r8_0, r8_1, r8_2, r8_3) => (some (iadd .i64 r8_2 1)).bind fun x9 => if x9 = r3 then ((keccak_Permute.f K r8_1).bind fun r10 => some (r8_0, r10, 0, r8_3)) else (some (r8_0, r8_1, x9, r8_3))) else none) else none : Option (Int × (Arr 25) × Int × Bool))).bind fun (y7_0, y7_1, y7_2, y7_3) => keccak_Absorb.l0 K k a1 r3 (iadd .i64 z4 1) y7_0 y7_1 y7_2 y7_3) else (some (z5_0, z5_1, z5_2, z5_3))

def keccak_Absorb.f (K : Nat) (a0_0 : Int) (a0_1 : Arr 25) (a0_2 : Int) (a0_3 : Bool) (a1 : List Int) : Option (Int × (Arr 25) × Int × Bool) :=
  if a0_3 = true then (some (a0_0, a0_1, a0_2, true)) else ((keccak_rate.f K a0_0).bind fun r3 => (keccak_Absorb.l0 K K a1 r3 0 a0_0 a0_1 a0_2 false).bind fun (y6_0, y6_1, y6_2, y6_3) => some (y6_0, y6_1, y6_2, y6_3))

def slices_Concat_byte_byte.l0 (K : Nat) : Nat → (List (List Int)) → Int → Int → Option (Int)
  | 0, _, _, _ => none
  | k + 1, a0, z1, z2 => if z2 < (a0.length : Int) then (if 0 ≤ z2 then (if z2 < a0.length then ((some (iadd .i64 z1 ((rdLL a0 z2).length : Int))).bind fun x5 => if x5 < 0 then (none) else (slices_Concat_byte_byte.l0 K k a0 x5 (iadd .i64 z2 1))) else none) else none) else (some z1)

def slices_Concat_byte_byte.l1 (K : Nat) : Nat → (List (List Int)) → Int → (List Int) → Option ((List Int))
  | 0, _, _, _ => none
  | k + 1, a0, z9, z10 => if z9 < (a0.length : Int) then (if 0 ≤ z9 then (if z9 < a0.length then (if z10.length + (rdLL a0 z9).length ≤ 140737488355328 then (slices_Concat_byte_byte.l1 K k a0 (iadd .i64 z9 1) (z10 ++ (rdLL a0 z9))) else none) else none) else none) else (some z10)

def slices_Concat_byte_byte.f (K : Nat) (a0 : List (List Int)) : Option ((List Int)) :=
  (slices_Concat_byte_byte.l0 K K a0 0 0).bind fun y3 => if y3 < 0 then (none) else ((((some (isub .i64 y3 0)).bind fun x7 => if x7 > 0 then (if 1 ≤ x7 then (if x7 ≤ 140737488355328 then (if 0 ≤ (0 : Int) then (if (0 : Int) ≤ (List.replicate (x7 : Int).toNat (Cod.zero (CI .u8))).length then (some ((List.replicate (x7 : Int).toNat (Cod.zero (CI .u8))).take (0 : Int).toNat)) else none) else none) else none) else none) else (some ([] : List Int)) : Option ((List Int)))).bind fun y6 => (slices_Concat_byte_byte.l1 K K a0 0 y6).bind fun y11 => some y11)

def bits_Join.f (K : Nat) (a0 : List (List Int)) : Option ((List Int)) :=
  (slices_Concat_byte_byte.f K a0).bind fun r1 => some r1

def dsamp_sponge.f (K : Nat) (a0 : Int) (a1 : List (List Int)) : Option (Int × (Arr 25) × Int × Bool) :=
  (keccak_New.f K a0).bind fun (r2_0, r2_1, r2_2, r2_3, r3) => (bits_Join.f K a1).bind fun r5 => (keccak_Absorb.f K r2_0 r2_1 r2_2 r2_3 r5).bind fun (r6_0, r6_1, r6_2, r6_3) => some (r6_0, r6_1, r6_2, r6_3)

def dsamp_filler_put.f (K : Nat) (a0_0 : Arr 256) (a0_1 : Int) (a1 : Int) : Option (Bool × (Arr 256) × Int) :=
  if 0 ≤ a0_1 then (if a0_1 < 256 then ((some (irem .i32 (iadd .i32 a1 8380417) 8380417)).bind fun x1 => (some (iadd .i64 a0_1 1)).bind fun x2 => some ((decide (x2 < 256)), (wr a0_0 a0_1 x1), x2)) else none) else none

def dsamp_filler_done.f (K : Nat) (a0_0 : Arr 256) (a0_1 : Int) : Option ((Arr 256) × Int) :=
  if a0_1 < 256 then (some ((zeroA 256), 12)) else (some (a0_0, 0))

def bits_Le.l0 (K : Nat) : Nat → Int → Int → Int → (List Int) → Option ((List Int))
  | 0, _, _, _, _ => none
  | k + 1, a0, a1, z2, z3 => if z2 < (imin a1 8) then (if 0 ≤ (imul .i64 8 z2) then (if 0 ≤ z2 then (if z2 < z3.length then ((some (iconv .u8 (ishr .u64 a0 (imul .i64 8 z2)))).bind fun x5 => bits_Le.l0 K k a0 a1 (iadd .i64 z2 1) (wrL z3 z2 x5)) else none) else none) else none) else (some z3)

def bits_Le.f (K : Nat) (a0 : Int) (a1 : Int) : Option ((List Int)) :=
  if a1 < 0 then (some ([] : List Int)) else (if a1 > 65536 then (some ([] : List Int)) else (if 0 ≤ a1 then (if a1 ≤ 140737488355328 then ((bits_Le.l0 K K a0 a1 0 (List.replicate (a1 : Int).toNat (Cod.zero (CI .u8)))).bind fun y4 => some y4) else none) else none))

def dsamp_Small.l1 (K : Nat) : Nat → Int → Int → Int → (List Int) → Int → (Arr 256) → Int → Option (((Arr 256) × Int) ⊕ ((Arr 256) × Int))
  | 0, _, _, _, _, _, _, _ => none
  | k + 1, a2, y5, y6, r23, z24, z25_0, z25_1 => if z24 < (r23.length : Int) then (((if 0 ≤ z24 then (if z24 < r23.length then ((some (rdL (CI .u8) r23 z24)).bind fun x28 => (some (iconv .i32 (iand .u8 x28 15))).bind fun x29 => (some (iconv .i32 (ishr .u8 x28 4))).bind fun x30 => if x29 < y6 then (if ¬ y5 = 0 then ((dsamp_filler_put.f K z25_0 z25_1 (isub .i32 a2 (irem .i32 x29 y5))).bind fun (r31, r32_0, r32_1) => if r31 = true then (if x30 < y6 then (if ¬ y5 = 0 then ((dsamp_filler_put.f K r32_0 r32_1 (isub .i32 a2 (irem .i32 x30 y5))).bind fun (r33, r34_0, r34_1) => if r33 = true then (some (.inl (r34_0, r34_1))) else (some (.inr (.inr (r34_0, r34_1))))) else none) else (some (.inl (r32_0, r32_1)))) else (some (.inr (.inr (r32_0, r32_1))))) else none) else (if x30 < y6 then (if ¬ y5 = 0 then ((dsamp_filler_put.f K z25_0 z25_1 (isub .i32 a2 (irem .i32 x30 y5))).bind fun (r35, r36_0, r36_1) => if r35 = true then (some (.inl (r36_0, r36_1))) else (some (.inr (.inr (r36_0, r36_1))))) else none) else (some (.inl (z25_0, z25_1))))) else none) else none : Option (((Arr 256) × Int) ⊕ (((Arr 256) × Int) ⊕ ((Arr 256) × Int))))).bind fun tv48 => (match tv48 with | .inl (y27_0, y27_1) => dsamp_Small.l1 K k a2 y5 y6 r23 (iadd .i64 z24 1) y27_0 y27_1 | .inr r => some r)) else (some (.inl (z25_0, z25_1)))

def dsamp_Small.l0 (K : Nat) : Nat → Int → Int → Int → Int → Int → (Arr 25) → Int → Bool → (Arr 256) → Int → Option ((Int × (Arr 25) × Int × Bool × (Arr 256) × Int) ⊕ ((Arr 256) × Int))
  | 0, _, _, _, _, _, _, _, _, _, _ => none
  | k + 1, a2, y5, y6, z17, z18_0, z18_1, z18_2, z18_3, z19_0, z19_1 => if z17 > 0 then ((keccak_Squeeze.f K z18_0 z18_1 z18_2 z18_3 (imin 136 z17)).bind fun (r22_0, r22_1, r22_2, r22_3, r23) => (dsamp_Small.l1 K K a2 y5 y6 r23 0 z19_0 z19_1).bind fun t1 => (match t1 with | .inl (y26_0, y26_1) => (some (isub .i64 z17 136)).bind fun x37 => dsamp_Small.l0 K k a2 y5 y6 x37 r22_0 r22_1 r22_2 r22_3 y26_0 y26_1 | .inr r => some (.inr r))) else (some (.inl (z18_0, z18_1, z18_2, z18_3, z19_0, z19_1)))

def dsamp_Small.f (K : Nat) (a0 : List Int) (a1 : Int) (a2 : Int) : Option ((Arr 256) × Int) :=
  ((if a2 = 2 then (some (.inl (5, 15, (zeroA 256)))) else (if a2 = 4 then (some (.inl (9, 9, (zeroA 256)))) else (some (.inr ((zeroA 256), 8)))) : Option ((Int × Int × (Arr 256)) ⊕ ((Arr 256) × Int)))).bind fun tv6 => (match tv6 with | .inl (y5, y6, y7) => (((bits_Le.f K (iconv .u64 a1) 2).bind fun r12 => (dsamp_sponge.f K 7 ([a0, r12] : List (List Int))).bind fun (r14_0, r14_1, r14_2, r14_3) => (dsamp_Small.l0 K K a2 y5 y6 4096 r14_0 r14_1 r14_2 r14_3 (zeroA 256) 0).bind fun t0 => (match t0 with | .inl (y20_0, y20_1, y20_2, y20_3, y21_0, y21_1) => some (y21_0, y21_1) | .inr r => some r) : Option ((Arr 256) × Int))).bind fun (y11_0, y11_1) => (dsamp_filler_done.f K y11_0 y11_1).bind fun (r38, r39) => some (r38, r39) | .inr r => some r)

def bits_NumLe.l0 (K : Nat) : Nat → (List Int) → Int → Int → Option (Int)
  | 0, _, _, _ => none
  | k + 1, a0, z1, z2 => if z2 < (imin (a0.length : Int) 8) then (if 0 ≤ z2 then (if z2 < a0.length then (if 0 ≤ (imul .i64 8 z2) then ((some (ior .u64 z1 (ishl .u64 (iconv .u64 (rdL (CI .u8) a0 z2)) (imul .i64 8 z2)))).bind fun x4 => bits_NumLe.l0 K k a0 x4 (iadd .i64 z2 1)) else none) else none) else none) else (some z1)

def bits_NumLe.f (K : Nat) (a0 : List Int) : Option (Int) :=
  (bits_NumLe.l0 K K a0 0 0).bind fun y3 => some y3

def dsamp_Ball.l1 (K : Nat) : Nat → (List Int) → Int → Int → (Arr 256) → Int → Int → (Arr 256) → Option ((Int × (Arr 256) × Int × Int × (Arr 256)) ⊕ ((Arr 256) × Int))
  | 0, _, _, _, _, _, _, _ => none
  | k + 1, r29, z30, z31, z32, z33, z34, z35 => if z30 < (r29.length : Int) then (((if 0 ≤ z30 then (if z30 < r29.length then ((some (rdL (CI .u8) r29 z30)).bind fun x46 => (some (iconv .i64 x46)).bind fun x47 => if x47 > z31 then (some (.inl (z31, z32, z33, z34, z35))) else (if 0 ≤ x47 then (if x47 < 256 then (if 0 ≤ z31 then (if z31 < 256 then ((some (rd z32 x47)).bind fun x48 => if 0 ≤ x47 then (if x47 < 256 then (((if (iand .u64 z33 1) = 1 then (if 0 ≤ x47 then (if x47 < 256 then (some (wr (wr (wr z32 z31 x48) x47 1) x47 8380416)) else none) else none) else (some (wr (wr z32 z31 x48) x47 1)) : Option ((Arr 256)))).bind fun y49 => (some (ishr .u64 z33 1)).bind fun x50 => (some (iadd .i64 z31 1)).bind fun x51 => if x51 = 256 then (some (.inr (.inr (y49, 0)))) else (some (.inl (x51, y49, x50, z34, z35)))) else none) else none) else none) else none) else none) else none)) else none) else none : Option ((Int × (Arr 256) × Int × Int × (Arr 256)) ⊕ ((Int × (Arr 256) × Int × Int × (Arr 256)) ⊕ ((Arr 256) × Int))))).bind fun tv47 => (match tv47 with | .inl (y41, y42, y43, y44, y45) => dsamp_Ball.l1 K k r29 (iadd .i64 z30 1) y41 y42 y43 y44 y45 | .inr r => some r)) else (some (.inl (z31, z32, z33, z34, z35)))

def dsamp_Ball.l0 (K : Nat) : Nat → Int → Int → (Arr 25) → Int → Bool → Int → (Arr 256) → Int → Int → (Arr 256) → Option ((Int × (Arr 25) × Int × Bool × Int × (Arr 256) × Int × Int × (Arr 256)) ⊕ ((Arr 256) × Int))
  | 0, _, _, _, _, _, _, _, _, _, _ => none
  | k + 1, z15, z16_0, z16_1, z16_2, z16_3, z17, z18, z19, z20, z21 => if z15 > 0 then ((keccak_Squeeze.f K z16_0 z16_1 z16_2 z16_3 (imin 136 z15)).bind fun (r28_0, r28_1, r28_2, r28_3, r29) => (dsamp_Ball.l1 K K r29 0 z17 z18 z19 z20 z21).bind fun t1 => (match t1 with | .inl (y36, y37, y38, y39, y40) => (some (isub .i64 z15 136)).bind fun x52 => dsamp_Ball.l0 K k x52 r28_0 r28_1 r28_2 r28_3 y36 y37 y38 y39 y40 | .inr r => some (.inr r))) else (some (.inl (z16_0, z16_1, z16_2, z16_3, z17, z18, z19, z20, z21)))

def dsamp_Ball.f (K : Nat) (a0 : List Int) (a1 : Int) : Option ((Arr 256) × Int) :=
  if a1 < 1 then (some ((zeroA 256), 8)) else (if a1 > 64 then (some ((zeroA 256), 8)) else ((dsamp_sponge.f K 7 ([a0] : List (List Int))).bind fun (r4_0, r4_1, r4_2, r4_3) => (keccak_Squeeze.f K r4_0 r4_1 r4_2 r4_3 8).bind fun (r5_0, r5_1, r5_2, r5_3, r6) => (bits_NumLe.f K r6).bind fun r8 => (some (isub .i64 256 a1)).bind fun x12 => (dsamp_Ball.l0 K K 4096 r5_0 r5_1 r5_2 r5_3 x12 (zeroA 256) r8 0 (zeroA 256)).bind fun t0 => (match t0 with | .inl (y22_0, y22_1, y22_2, y22_3, y23, y24, y25, y26, y27) => some ((zeroA 256), 12) | .inr r => some r)))

def law23_awake.l0 (K : Nat) : Nat → (Arr 256) → Int → Int → Option (Int)
  | 0, _, _, _ => none
  | k + 1, r4, z7, z8 => if z8 < 256 then (((if 0 ≤ z8 then (if z8 < 256 then ((some (rd r4 z8)).bind fun x11 => if x11 = 0 then (some z7) else ((some (iadd .i64 z7 1)).bind fun x12 => some x12)) else none) else none : Option (Int))).bind fun y10 => law23_awake.l0 K k r4 y10 (iadd .i64 z8 1)) else (some z7)

def law23_awake.f (K : Nat) : Option (Bool) :=
  (dsamp_Small.f K ([] : List Int) 0 3).bind fun (r1, r2) => (dsamp_Ball.f K ([] : List Int) 39).bind fun (r4, r5) => (law23_awake.l0 K K r4 0 0).bind fun y9 => if r2 = 8 then (if r5 = 0 then (some (y9 == 39)) else (some false)) else (some false)

def dsamp_Values.l1 (K : Nat) : Nat → (List Int) → Int → Int → Int → (Arr 256) → Int → Option ((Int × Int × (Arr 256) × Int) ⊕ (Int × Int × (Arr 256) × Int))
  | 0, _, _, _, _, _, _ => none
  | k + 1, r25, z26, z27, z28, z29_0, z29_1 => if z26 < (r25.length : Int) then (((if 0 ≤ z26 then (if z26 < r25.length then ((some (rdL (CI .u8) r25 z26)).bind fun x36 => if 0 ≤ (imul .i64 8 z27) then ((some (ior .i32 z28 (ishl .i32 (iconv .i32 x36) (imul .i64 8 z27)))).bind fun x37 => (some (iadd .i64 z27 1)).bind fun x38 => if x38 < 3 then (some (.inl (x38, x37, z29_0, z29_1))) else ((some (iand .i32 x37 8388607)).bind fun x39 => if x39 < 8380417 then ((dsamp_filler_put.f K z29_0 z29_1 x39).bind fun (r40, r41_0, r41_1) => if r40 = true then (some (.inl (0, 0, r41_0, r41_1))) else (some (.inr (.inr (0, 0, r41_0, r41_1))))) else (some (.inl (0, 0, z29_0, z29_1))))) else none) else none) else none : Option ((Int × Int × (Arr 256) × Int) ⊕ ((Int × Int × (Arr 256) × Int) ⊕ (Int × Int × (Arr 256) × Int))))).bind fun tv37 => (match tv37 with | .inl (y33, y34, y35_0, y35_1) => dsamp_Values.l1 K k r25 (iadd .i64 z26 1) y33 y34 y35_0 y35_1 | .inr r => some r)) else (some (.inl (z27, z28, z29_0, z29_1)))

def dsamp_Values.l0 (K : Nat) : Nat → Int → Int → (Arr 25) → Int → Bool → Int → Int → (Arr 256) → Int → Option ((Int × (Arr 25) × Int × Bool × Int × Int × (Arr 256) × Int) ⊕ (Int × Int × (Arr 256) × Int))
  | 0, _, _, _, _, _, _, _, _, _ => none
  | k + 1, z15, z16_0, z16_1, z16_2, z16_3, z17, z18, z19_0, z19_1 => if z15 > 0 then ((keccak_Squeeze.f K z16_0 z16_1 z16_2 z16_3 (imin 136 z15)).bind fun (r24_0, r24_1, r24_2, r24_3, r25) => (dsamp_Values.l1 K K r25 0 z17 z18 z19_0 z19_1).bind fun t1 => (match t1 with | .inl (y30, y31, y32_0, y32_1) => (some (isub .i64 z15 136)).bind fun x42 => dsamp_Values.l0 K k x42 r24_0 r24_1 r24_2 r24_3 y30 y31 y32_0 y32_1 | .inr r => some (.inr r))) else (some (.inl (z16_0, z16_1, z16_2, z16_3, z17, z18, z19_0, z19_1)))

def dsamp_Values.f (K : Nat) (a0 : List Int) (a1 : Int) (a2 : Int) : Option ((Arr 256) × Int) :=
  (((dsamp_sponge.f K 6 ([a0, ([a2, a1] : List Int)] : List (List Int))).bind fun (r12_0, r12_1, r12_2, r12_3) => (dsamp_Values.l0 K K 12288 r12_0 r12_1 r12_2 r12_3 0 0 (zeroA 256) 0).bind fun t0 => (match t0 with | .inl (y20_0, y20_1, y20_2, y20_3, y21, y22, y23_0, y23_1) => some (y21, y22, y23_0, y23_1) | .inr r => some r) : Option (Int × Int × (Arr 256) × Int))).bind fun (y7, y8, y9_0, y9_1) => (dsamp_filler_done.f K y9_0 y9_1).bind fun (r43, r44) => some (r43, r44)

def dpack_span_fit.f (K : Nat) (a0_0 : Int) (a0_1 : Int) : Option (Bool) :=
  if a0_0 ≥ (-1) then (if a0_0 ≤ 1048576 then (if a0_1 ≥ 1 then (some (decide (a0_1 ≤ 1048576))) else (some false)) else (some false)) else (some false)

def dpack_span_all.f (K : Nat) (a0_0 : Int) (a0_1 : Int) : Option (Int) :=
  (some (iadd .i32 (imax a0_0 0) a0_1)).bind fun x2 => some x2

def math_bits_Len32.f (K : Nat) (a0 : Int) : Option (Int) :=
  ((if a0 ≥ 65536 then ((some (ishr .u32 a0 16)).bind fun x3 => some (x3, 16)) else (some (a0, 0)) : Option (Int × Int))).bind fun (y1, y2) => ((if y1 ≥ 256 then ((some (ishr .u32 y1 8)).bind fun x6 => (some (iadd .i64 y2 8)).bind fun x7 => some (x6, x7)) else (some (y1, y2)) : Option (Int × Int))).bind fun (y4, y5) => (some (iconv .u8 y4)).bind fun x8 => if 0 ≤ x8 then (if x8 < 256 then ((some (iadd .i64 y5 (iconv .i64 (strAt [0, 1, 2, 2, 3, 3, 3, 3, 4, 4, 4, 4, 4, 4, 4, 4, 5, 5, 5, 5, 5, 5, 5, 5, 5, 5, 5, 5, 5, 5, 5, 5, 6, 6, 6, 6, 6, 6, 6, 6, 6, 6, 6, 6, 6, 6, 6, 6, 6, 6, 6, 6, 6, 6, 6, 6, 6, 6, 6, 6, 6, 6, 6, 6, 7, 7, 7, 7, 7, 7, 7, 7, 7, 7, 7, 7, 7, 7, 7, 7, 7, 7, 7, 7, 7, 7, 7, 7, 7, 7, 7, 7, 7, 7, 7, 7, 7, 7, 7, 7, 7, 7, 7, 7, 7, 7, 7, 7, 7, 7, 7, 7, 7, 7, 7, 7, 7, 7, 7, 7, 7, 7, 7, 7, 7, 7, 7, 7, 8, 8, 8, 8, 8, 8, 8, 8, 8, 8, 8, 8, 8, 8, 8, 8, 8, 8, 8, 8, 8, 8, 8, 8, 8, 8, 8, 8, 8, 8, 8, 8, 8, 8, 8, 8, 8, 8, 8, 8, 8, 8, 8, 8, 8, 8, 8, 8, 8, 8, 8, 8, 8, 8, 8, 8, 8, 8, 8, 8, 8, 8, 8, 8, 8, 8, 8, 8, 8, 8, 8, 8, 8, 8, 8, 8, 8, 8, 8, 8, 8, 8, 8, 8, 8, 8, 8, 8, 8, 8, 8, 8, 8, 8, 8, 8, 8, 8, 8, 8, 8, 8, 8, 8, 8, 8, 8, 8, 8, 8, 8, 8, 8, 8, 8, 8, 8, 8, 8, 8, 8, 8, 8, 8, 8, 8, 8, 8] x8)))).bind fun x9 => some x9) else none) else none

def dpack_span_width.f (K : Nat) (a0_0 : Int) (a0_1 : Int) : Option (Int) :=
  (dpack_span_all.f K a0_0 a0_1).bind fun r2 => (math_bits_Len32.f K (iconv .u32 r2)).bind fun r3 => some r3

def dpack_span_size.f (K : Nat) (a0_0 : Int) (a0_1 : Int) : Option (Int) :=
  (dpack_span_width.f K a0_0 a0_1).bind fun r2 => (some (imul .i64 32 r2)).bind fun x3 => some x3

def bits_such.f (K : Nat) (a0 : List Int) (a1 : Int) (a2 : Int) : Option (Bool) :=
  if a1 ≥ 1 then (if a1 ≤ 24 then (if a2 ≥ 0 then (if ¬ a1 = 0 then (some (decide (a2 ≤ (iquo .i64 (imul .i64 (a0.length : Int) 8) a1)))) else none) else (some false)) else (some false)) else (some false)

def bits_Unpack.l1 (K : Nat) : Nat → Int → Int → Int → (List Int) → Option (Int × Int × (List Int))
  | 0, _, _, _, _ => none
  | k + 1, a1, z9, z10, z11 => if z10 < a1 then (if 0 ≤ (0 : Int) then (if (0 : Int) < z11.length then (if 0 ≤ z10 then (if 0 ≤ (1 : Int) then (if (1 : Int) ≤ (z11.length : Int) then (if (z11.length : Int) ≤ z11.length then ((some (ior .u64 z9 (ishl .u64 (iconv .u64 (rdL (CI .u8) z11 0)) z10))).bind fun x16 => (some (iadd .i64 z10 8)).bind fun x17 => bits_Unpack.l1 K k a1 x16 x17 (subL z11 1 (z11.length : Int))) else none) else none) else none) else none) else none) else none) else (some (z9, z10, z11))

def bits_Unpack.l0 (K : Nat) : Nat → Int → Int → Int → Int → Int → (List Int) → (List Int) → Option ((List Int))
  | 0, _, _, _, _, _, _, _ => none
  | k + 1, a1, a2, z3, z4, z5, z6, z7 => if z5 < ((List.replicate (a2 : Int).toNat (Cod.zero (CI .u32))).length : Int) then ((bits_Unpack.l1 K K a1 z3 z4 z7).bind fun (y12, y13, y14) => if 0 ≤ a1 then (if 0 ≤ z5 then (if z5 < z6.length then ((some (iconv .u32 (iand .u64 y12 (isub .u64 (ishl .u64 1 a1) 1)))).bind fun x18 => if 0 ≤ a1 then ((some (ishr .u64 y12 a1)).bind fun x19 => (some (isub .i64 y13 a1)).bind fun x20 => bits_Unpack.l0 K k a1 a2 x19 x20 (iadd .i64 z5 1) (wrL z6 z5 x18) y14) else none) else none) else none) else none) else (some z6)

def bits_Unpack.f (K : Nat) (a0 : List Int) (a1 : Int) (a2 : Int) : Option ((List Int)) :=
  (bits_such.f K a0 a1 a2).bind fun r1 => if r1 = true then (if 0 ≤ a2 then (if a2 ≤ 35184372088832 then ((bits_Unpack.l0 K K a1 a2 0 0 0 (List.replicate (a2 : Int).toNat (Cod.zero (CI .u32))) a0).bind fun y8 => some y8) else none) else none) else (some ([] : List Int))

def dpack_span_back.f (K : Nat) (a0_0 : Int) (a0_1 : Int) (a1 : Int) : Option (Int) :=
  (some (isub .i32 a0_1 (iconv .i32 a1))).bind fun x2 => if a0_0 < 0 then ((some (iconv .i32 a1)).bind fun x3 => some x3) else (if x2 < 0 then ((some (iadd .i32 x2 8380417)).bind fun x4 => some x4) else (some x2))

def dpack_Unpack.l0 (K : Nat) : Nat → Int → Int → (List Int) → Int → (Arr 256) → (Arr 256) → Option (((Arr 256) × (Arr 256)) ⊕ ((Arr 256) × Bool))
  | 0, _, _, _, _, _, _ => none
  | k + 1, a1, a2, r7, z8, z9, z10 => if z8 < (r7.length : Int) then (if 0 ≤ z8 then (if z8 < r7.length then ((some (rdL (CI .u32) r7 z8)).bind fun x13 => (dpack_span_all.f K a1 a2).bind fun r14 => if x13 > (iconv .u32 r14) then (some (.inr ((zeroA 256), false))) else ((dpack_span_back.f K a1 a2 x13).bind fun r15 => if 0 ≤ z8 then (if z8 < 256 then (dpack_Unpack.l0 K k a1 a2 r7 (iadd .i64 z8 1) (wr z9 z8 r15) z10) else none) else none)) else none) else none) else (some (.inl (z9, z10)))

def dpack_Unpack.f (K : Nat) (a0 : List Int) (a1 : Int) (a2 : Int) : Option ((Arr 256) × Bool) :=
  (dpack_span_fit.f K a1 a2).bind fun r3 => if r3 = true then ((dpack_span_size.f K a1 a2).bind fun r4 => if (a0.length : Int) = r4 then ((dpack_span_width.f K a1 a2).bind fun r6 => (bits_Unpack.f K a0 r6 256).bind fun r7 => (dpack_Unpack.l0 K K a1 a2 r7 0 (zeroA 256) (zeroA 256)).bind fun t0 => (match t0 with | .inl (y11, y12) => some (y11, true) | .inr r => some r)) else (some ((zeroA 256), false))) else (some ((zeroA 256), false))

def dsamp_Mask.f (K : Nat) (a0 : List Int) (a1 : Int) (a2 : Int) : Option ((Arr 256) × Int) :=
  ((if a2 = 131072 then (some (.inl (18, (zeroA 256)))) else (if a2 = 524288 then (some (.inl (20, (zeroA 256)))) else (some (.inr ((zeroA 256), 8)))) : Option ((Int × (Arr 256)) ⊕ ((Arr 256) × Int)))).bind fun tv6 => (match tv6 with | .inl (y2, y3) => (bits_Le.f K (iconv .u64 a1) 2).bind fun r4 => (dsamp_sponge.f K 7 ([a0, r4] : List (List Int))).bind fun (r6_0, r6_1, r6_2, r6_3) => (keccak_Squeeze.f K r6_0 r6_1 r6_2 r6_3 (imul .i64 32 y2)).bind fun (r7_0, r7_1, r7_2, r7_3, r8) => (dpack_Unpack.f K r8 (isub .i32 a2 1) a2).bind fun (r10, r11) => some (r10, 0) | .inr r => some r)

end Go.Proofs.YtppohhnfojalbaaDoor
