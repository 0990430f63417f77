/- Printed by this work's own program: the plain forms of the functions that the laws reach. -/
import Derived.Test.YtppohhnfojalbaaDoorVF0
set_option linter.unusedVariables false
set_option linter.unusedSimpArgs false
namespace Go.Proofs.YtppohhnfojalbaaDoor
open Go.Mx

def ref08_Rate.f (K : Nat) (a0 : Int) : Option (Int) :=
  if a0 = 4 then (some 136) else (if a0 = 7 then (some 136) else (if a0 = 5 then (some 72) else (if a0 = 6 then (some 168) else (some 0))))

def ref08_New.f (K : Nat) (a0 : Int) : Option (Int × (Arr 25) × Int × Bool × Int) :=
  (ref08_Rate.f K a0).bind fun r2 => if r2 = 0 then (some (0, (zeroA 25), 0, false, 9)) else (some (a0, (zeroA 25), 0, false, 0))

def ref08_constants.l0 (K : Nat) : Nat → Int → Int → (Arr 24) → Option ((Arr 24))
  | 0, _, _, _ => none
  | k + 1, z3, z4, z5 => if z4 < 168 then (((((if (iand .u64 z3 1) = 1 then ((some (iquo .i64 z4 7)).bind fun x10 => if 0 ≤ x10 then (if x10 < 24 then (if 0 ≤ (irem .i64 z4 7) then (if 0 ≤ (isub .u64 (ishl .u64 1 (irem .i64 z4 7)) 1) then ((some (iquo .i64 z4 7)).bind fun x11 => if 0 ≤ x11 then (if x11 < 24 then ((some (ior .u64 (rd z5 x10) (ishl .u64 1 (isub .u64 (ishl .u64 1 (irem .i64 z4 7)) 1)))).bind fun x12 => some (wr z5 x11 x12)) else none) else none) else none) else none) else none) else none) else (some z5) : Option ((Arr 24)))).bind fun y9 => (some (imul .u64 z3 2)).bind fun x13 => if x13 ≥ 256 then ((some (ixor .u64 (iand .u64 x13 255) 113)).bind fun x14 => some (x14, y9)) else (some (x13, y9)) : Option (Int × (Arr 24)))).bind fun (y7, y8) => (some (iadd .i64 z4 1)).bind fun x15 => ref08_constants.l0 K k y7 x15 y8) else (some z5)

def ref08_constants.f (K : Nat) : Option ((Arr 24)) :=
  (ref08_constants.l0 K K 1 0 (zeroA 24)).bind fun y6 => some y6

def ref08_left.f (K : Nat) (a0 : Int) (a1 : Int) : Option (Int) :=
  (some (irem .i64 a1 64)).bind fun x1 => if 0 ≤ x1 then (if 0 ≤ (isub .i64 64 x1) then ((some (ior .u64 (ishl .u64 a0 x1) (ishr .u64 a0 (isub .i64 64 x1)))).bind fun x2 => some x2) else none) else none

def ref08_move.l0 (K : Nat) : Nat → (Arr 25) → Int → Int → Int → (Arr 25) → Option ((Arr 25))
  | 0, _, _, _, _, _ => none
  | k + 1, a0, z5, z6, z7, z8 => if z7 < 24 then ((some (irem .i64 (iadd .i64 (imul .i64 2 z5) (imul .i64 3 z6)) 5)).bind fun x10 => (some (iadd .i64 z5 (imul .i64 5 z6))).bind fun x11 => if 0 ≤ x11 then (if x11 < 25 then ((ref08_left.f K (rd a0 x11) (iquo .i64 (imul .i64 (iadd .i64 z7 1) (iadd .i64 z7 2)) 2)).bind fun r12 => (some (iadd .i64 z6 (imul .i64 5 x10))).bind fun x13 => if 0 ≤ x13 then (if x13 < 25 then ((some (iadd .i64 z7 1)).bind fun x14 => ref08_move.l0 K k a0 z6 x10 x14 (wr z8 x13 r12)) else none) else none) else none) else none) else (some z8)

def ref08_move.f (K : Nat) (a0 : Arr 25) : Option ((Arr 25)) :=
  (some (rd a0 0)).bind fun x4 => (ref08_move.l0 K K a0 1 0 0 (wr (zeroA 25) 0 x4)).bind fun y9 => some y9

def ref08_spread.l0 (K : Nat) : Nat → (Arr 25) → Int → (Arr 5) → Option ((Arr 5))
  | 0, _, _, _ => none
  | k + 1, a0, z4, z5 => if z4 < 25 then ((some (irem .i64 z4 5)).bind fun x7 => if 0 ≤ x7 then (if x7 < 5 then (if 0 ≤ z4 then (if z4 < 25 then ((some (irem .i64 z4 5)).bind fun x8 => if 0 ≤ x8 then (if x8 < 5 then ((some (ixor .u64 (rd z5 x7) (rd a0 z4))).bind fun x9 => (some (iadd .i64 z4 1)).bind fun x10 => ref08_spread.l0 K k a0 x10 (wr z5 x8 x9)) else none) else none) else none) else none) else none) else none) else (some z5)

def ref08_spread.l1 (K : Nat) : Nat → (Arr 5) → Int → (Arr 25) → Option ((Arr 25))
  | 0, _, _, _ => none
  | k + 1, y6, z11, z12 => if z11 < 25 then (if 0 ≤ z11 then (if z11 < 25 then ((some (irem .i64 (iadd .i64 z11 4) 5)).bind fun x14 => if 0 ≤ x14 then (if x14 < 5 then ((some (irem .i64 (iadd .i64 z11 1) 5)).bind fun x15 => if 0 ≤ x15 then (if x15 < 5 then ((ref08_left.f K (rd y6 x15) 1).bind fun r16 => if 0 ≤ z11 then (if z11 < 25 then ((some (ixor .u64 (ixor .u64 (rd z12 z11) (rd y6 x14)) r16)).bind fun x17 => (some (iadd .i64 z11 1)).bind fun x18 => ref08_spread.l1 K k y6 x18 (wr z12 z11 x17)) else none) else none) else none) else none) else none) else none) else none) else none) else (some z12)

def ref08_spread.f (K : Nat) (a0 : Arr 25) : Option ((Arr 25)) :=
  (ref08_spread.l0 K K a0 0 (zeroA 5)).bind fun y6 => (ref08_spread.l1 K K y6 0 a0).bind fun y13 => some y13

def ref08_Permute.l1 (K : Nat) : Nat → (Arr 25) → Int → (Arr 25) → Option ((Arr 25))
  | 0, _, _, _ => none
  | k + 1, r9, z11, z12 => if z11 < 25 then ((some (imul .i64 (iquo .i64 z11 5) 5)).bind fun x14 => if 0 ≤ z11 then (if z11 < 25 then ((some (iadd .i64 x14 (irem .i64 (iadd .i64 z11 1) 5))).bind fun x15 => if 0 ≤ x15 then (if x15 < 25 then ((some (iadd .i64 x14 (irem .i64 (iadd .i64 z11 2) 5))).bind fun x16 => if 0 ≤ x16 then (if x16 < 25 then (if 0 ≤ z11 then (if z11 < 25 then ((some (ixor .u64 (rd r9 z11) (iand .u64 (ixor .u64 (rd r9 x15) 18446744073709551615) (rd r9 x16)))).bind fun x17 => (some (iadd .i64 z11 1)).bind fun x18 => ref08_Permute.l1 K k r9 x18 (wr z12 z11 x17)) else none) else none) else none) else none) else none) else none) else none) else none) else (some z12)

def ref08_Permute.l0 (K : Nat) : Nat → (Arr 24) → Int → (Arr 25) → Option ((Arr 25))
  | 0, _, _, _ => none
  | k + 1, r3, z5, z6 => if z5 < 24 then ((ref08_spread.f K z6).bind fun r8 => (ref08_move.f K r8).bind fun r9 => (ref08_Permute.l1 K K r9 0 z6).bind fun y13 => if 0 ≤ z5 then (if z5 < 24 then ((some (ixor .u64 (rd y13 0) (rd r3 z5))).bind fun x19 => (some (iadd .i64 z5 1)).bind fun x20 => ref08_Permute.l0 K k r3 x20 (wr y13 0 x19)) else none) else none) else (some z6)

def ref08_Permute.f (K : Nat) (a0 : Arr 25) : Option ((Arr 25)) :=
  (ref08_constants.f K).bind fun r3 => (ref08_Permute.l0 K K r3 0 a0).bind fun y7 => some y7

def ref08_put.f (K : Nat) (a0 : Arr 25) (a1 : Int) (a2 : Int) : Option ((Arr 25)) :=
  (some (iquo .i64 a1 8)).bind fun x3 => if 0 ≤ x3 then (if x3 < 25 then (if 0 ≤ (imul .i64 8 (irem .i64 a1 8)) then ((some (iquo .i64 a1 8)).bind fun x4 => if 0 ≤ x4 then (if x4 < 25 then ((some (ixor .u64 (rd a0 x3) (ishl .u64 (iconv .u64 a2) (imul .i64 8 (irem .i64 a1 8))))).bind fun x5 => some (wr a0 x4 x5)) else none) else none) else none) else none) else none

def ref08_Squeeze.l0 (K : Nat) : Nat → Int → Int → (List Int) → Int → (Arr 25) → Int → Bool → Option ((List Int) × Int × (Arr 25) × Int × Bool)
  | 0, _, _, _, _, _, _, _ => none
  | k + 1, a1, r3, z9, z10_0, z10_1, z10_2, z10_3 => if (z9.length : Int) < a1 then (((if z10_2 = r3 then ((ref08_Permute.f K z10_1).bind fun r14 => some (z10_0, r14, 0, z10_3)) else (some (z10_0, z10_1, z10_2, z10_3)) : Option (Int × (Arr 25) × Int × Bool))).bind fun (y13_0, y13_1, y13_2, y13_3) => (some (iquo .i64 y13_2 8)).bind fun x15 => if 0 ≤ x15 then (if x15 < 25 then (if 0 ≤ (imul .i64 8 (irem .i64 y13_2 8)) then (if z9.length + ([(iconv .u8 (ishr .u64 (rd y13_1 x15) (imul .i64 8 (irem .i64 y13_2 8))))] : List Int).length ≤ 140737488355328 then ((some (iadd .i64 y13_2 1)).bind fun x18 => ref08_Squeeze.l0 K k a1 r3 (z9 ++ ([(iconv .u8 (ishr .u64 (rd y13_1 x15) (imul .i64 8 (irem .i64 y13_2 8))))] : List Int)) y13_0 y13_1 x18 y13_3) else none) else none) else none) else none) else (some (z9, z10_0, z10_1, z10_2, z10_3))

def ref08_Squeeze.f (K : Nat) (a0_0 : Int) (a0_1 : Arr 25) (a0_2 : Int) (a0_3 : Bool) (a1 : Int) : Option (Int × (Arr 25) × Int × Bool × (List Int)) :=
  if a1 < 0 then (some (a0_0, a0_1, a0_2, a0_3, ([] : List Int))) else ((ref08_Rate.f K a0_0).bind fun r3 => ((if a0_3 = true then (some (a0_0, a0_1, a0_2, true)) else (((if a0_0 = 4 then (some 6) else (if a0_0 = 5 then (some 6) else (some 31)) : Option (Int))).bind fun y5 => (ref08_put.f K a0_1 a0_2 y5).bind fun r6 => (ref08_put.f K r6 (isub .i64 r3 1) 128).bind fun r7 => (ref08_Permute.f K r7).bind fun r8 => some (a0_0, r8, 0, true)) : Option (Int × (Arr 25) × Int × Bool))).bind fun (y4_0, y4_1, y4_2, y4_3) => (ref08_Squeeze.l0 K K a1 r3 ([] : List Int) y4_0 y4_1 y4_2 y4_3).bind fun (y11, y12_0, y12_1, y12_2, y12_3) => some (y12_0, y12_1, y12_2, y12_3, y11))

def ref08_Absorb.l0 (K : Nat) : Nat → (List Int) → Int → Int → (Arr 25) → Int → Bool → Option (Int × (Arr 25) × Int × Bool)
  | 0, _, _, _, _, _, _ => none
  | k + 1, a1, z3, z4_0, z4_1, z4_2, z4_3 => if z3 < (a1.length : Int) then (((if 0 ≤ z3 then (if z3 < a1.length then ((ref08_put.f K z4_1 z4_2 (rdL (CI .u8) a1 z3)).bind fun r7 => (some (iadd .i64 z4_2 1)).bind fun x8 => (ref08_Rate.f K z4_0).bind fun r9 => if x8 = r9 then ((ref08_Permute.f K r7).bind fun r10 => some (z4_0, r10, 0, z4_3)) else (some (z4_0, r7, x8, z4_3))) else none) else none : Option (Int × (Arr 25) × Int × Bool))).bind fun (y6_0, y6_1, y6_2, y6_3) => (some (iadd .i64 z3 1)).bind fun x11 => ref08_Absorb.l0 K k a1 x11 y6_0 y6_1 y6_2 y6_3) else (some (z4_0, z4_1, z4_2, z4_3))

def ref08_Absorb.f (K : Nat) (a0_0 : Int) (a0_1 : Arr 25) (a0_2 : Int) (a0_3 : Bool) (a1 : List Int) : Option (Int × (Arr 25) × Int × Bool) :=
  if a0_3 = true then (some (a0_0, a0_1, a0_2, true)) else ((ref08_Absorb.l0 K K a1 0 a0_0 a0_1 a0_2 false).bind fun (y5_0, y5_1, y5_2, y5_3) => some (y5_0, y5_1, y5_2, y5_3))

def ref08_Sum.f (K : Nat) (a0 : Int) (a1 : List Int) (a2 : Int) : Option ((List Int) × Int) :=
  (ref08_New.f K a0).bind fun (r1_0, r1_1, r1_2, r1_3, r2) => if r2 = 0 then (if a2 < 0 then (some (([] : List Int), 8)) else (if a2 > 16777216 then (some (([] : List Int), 8)) else ((ref08_Absorb.f K r1_0 r1_1 r1_2 r1_3 a1).bind fun (r4_0, r4_1, r4_2, r4_3) => (ref08_Squeeze.f K r4_0 r4_1 r4_2 r4_3 a2).bind fun (r5_0, r5_1, r5_2, r5_3, r6) => some (r6, 0)))) else (some (([] : List Int), r2))

def ref23_values.l0 (K : Nat) : Nat → Int → (List Int) → Int → Int → (Arr 256) → Option (Int × (Arr 256))
  | 0, _, _, _, _, _ => none
  | k + 1, a1, r2, z5, z6, z7 => if z6 < a1 then (if z5 < 256 then (((if 0 ≤ z6 then (if z6 < r2.length then ((some (iadd .i64 z6 1)).bind fun x12 => if 0 ≤ x12 then (if x12 < r2.length then ((some (iadd .i64 z6 2)).bind fun x13 => if 0 ≤ x13 then (if x13 < r2.length then ((some (iadd .i32 (iadd .i32 (iconv .i32 (rdL (CI .u8) r2 z6)) (imul .i32 256 (iconv .i32 (rdL (CI .u8) r2 x12)))) (imul .i32 65536 (iconv .i32 (irem .u8 (rdL (CI .u8) r2 x13) 128))))).bind fun x14 => if x14 < 8380417 then (if 0 ≤ z5 then (if z5 < 256 then ((some (iadd .i64 z5 1)).bind fun x15 => some (x15, (wr z7 z5 x14))) else none) else none) else (some (z5, z7))) else none) else none) else none) else none) else none) else none : Option (Int × (Arr 256)))).bind fun (y10, y11) => (some (iadd .i64 z6 3)).bind fun x16 => ref23_values.l0 K k a1 r2 y10 x16 y11) else (some (z5, z7))) else (some (z5, z7))

def ref23_values.f (K : Nat) (a0 : List Int) (a1 : Int) : Option ((Arr 256) × Int) :=
  (ref08_Sum.f K 6 a0 a1).bind fun (r2, r3) => (ref23_values.l0 K K a1 r2 0 0 (zeroA 256)).bind fun (y8, y9) => some (y9, y8)

def ref01_Join.l0 (K : Nat) : Nat → (List (List Int)) → Int → (List Int) → Option ((List Int))
  | 0, _, _, _ => none
  | k + 1, a0, z1, z2 => if z1 < (a0.length : Int) then (if 0 ≤ z1 then (if z1 < a0.length then (if z2.length + (rdLL a0 z1).length ≤ 140737488355328 then ((some (iadd .i64 z1 1)).bind fun x6 => ref01_Join.l0 K k a0 x6 (z2 ++ (rdLL a0 z1))) else none) else none) else none) else (some z2)

def ref01_Join.f (K : Nat) (a0 : List (List Int)) : Option ((List Int)) :=
  (ref01_Join.l0 K K a0 0 ([] : List Int)).bind fun y3 => some y3

def ref23_Values.f (K : Nat) (a0 : List Int) (a1 : Int) (a2 : Int) : Option ((Arr 256) × Int) :=
  (ref01_Join.f K ([a0, ([a2, a1] : List Int)] : List (List Int))).bind fun r4 => (ref23_values.f K r4 1008).bind fun (r5, r6) => ((if r6 < 256 then ((ref01_Join.f K ([a0, ([a2, a1] : List Int)] : List (List Int))).bind fun r12 => (ref23_values.f K r12 12288).bind fun (r13, r14) => some (r14, r13)) else (some (r6, r5)) : Option (Int × (Arr 256)))).bind fun (y8, y9) => if y8 < 256 then (some ((zeroA 256), 12)) else (some (y9, 0))

def ref23_half.f (K : Nat) (a0 : Int) (a1 : Int) : Option (Int × Bool) :=
  ((if a1 = 2 then (if a0 < 15 then ((some (irem .i32 (iadd .i32 (isub .i32 2 (irem .i32 a0 5)) 8380417) 8380417)).bind fun x1 => some (.inr (x1, true))) else (some (.inl ()))) else (some (.inl ())) : Option ((Unit) ⊕ (Int × Bool)))).bind fun tv4 => (match tv4 with | .inl _ => ((if a1 = 4 then (if a0 < 9 then ((some (irem .i32 (iadd .i32 (isub .i32 4 a0) 8380417) 8380417)).bind fun x2 => some (.inr (x2, true))) else (some (.inl ()))) else (some (.inl ())) : Option ((Unit) ⊕ (Int × Bool)))).bind fun tv10 => (match tv10 with | .inl _ => some (0, false) | .inr r => some r) | .inr r => some r)

def ref23_small.l0 (K : Nat) : Nat → Int → Int → (List Int) → Int → Int → (Arr 256) → Option (Int × (Arr 256))
  | 0, _, _, _, _, _, _ => none
  | k + 1, a1, a2, r2, z5, z6, z7 => if z6 < (imul .i64 2 a2) then (if z5 < 256 then ((((some (iquo .i64 z6 2)).bind fun x12 => if 0 ≤ x12 then (if x12 < r2.length then ((some (iconv .i32 (rdL (CI .u8) r2 x12))).bind fun x13 => ((if (irem .i64 z6 2) = 0 then ((some (irem .i32 x13 16)).bind fun x15 => some x15) else ((some (iquo .i32 x13 16)).bind fun x16 => some x16) : Option (Int))).bind fun y14 => (ref23_half.f K y14 a1).bind fun (r17, r18) => if r18 = true then (if 0 ≤ z5 then (if z5 < 256 then ((some (iadd .i64 z5 1)).bind fun x19 => some (x19, (wr z7 z5 r17))) else none) else none) else (some (z5, z7))) else none) else none : Option (Int × (Arr 256)))).bind fun (y10, y11) => (some (iadd .i64 z6 1)).bind fun x20 => ref23_small.l0 K k a1 a2 r2 y10 x20 y11) else (some (z5, z7))) else (some (z5, z7))

def ref23_small.f (K : Nat) (a0 : List Int) (a1 : Int) (a2 : Int) : Option ((Arr 256) × Int) :=
  (ref08_Sum.f K 7 a0 a2).bind fun (r2, r3) => (ref23_small.l0 K K a1 a2 r2 0 0 (zeroA 256)).bind fun (y8, y9) => some (y9, y8)

def ref01_Back.l0 (K : Nat) : Nat → (List Int) → Int → (List Int) → Option ((List Int))
  | 0, _, _, _ => none
  | k + 1, a0, z2, z3 => if z2 ≥ 0 then (if 0 ≤ z2 then (if z2 < a0.length then (if z3.length + ([(rdL (CI .u8) a0 z2)] : List Int).length ≤ 140737488355328 then ((some (isub .i64 z2 1)).bind fun x7 => ref01_Back.l0 K k a0 x7 (z3 ++ ([(rdL (CI .u8) a0 z2)] : List Int))) else none) else none) else none) else (some z3)

def ref01_Back.f (K : Nat) (a0 : List Int) : Option ((List Int)) :=
  (some (isub .i64 (a0.length : Int) 1)).bind fun x1 => (ref01_Back.l0 K K a0 x1 ([] : List Int)).bind fun y4 => some y4

def ref01_Be.l0 (K : Nat) : Nat → Int → Int → (List Int) → Option ((List Int))
  | 0, _, _, _ => none
  | k + 1, z3, z4, z5 => if z4 ≥ 0 then (if 0 ≤ z4 then (if z4 < z5.length then ((some (iconv .u8 (iand .u64 z3 255))).bind fun x7 => (some (ishr .u64 z3 8)).bind fun x8 => (some (isub .i64 z4 1)).bind fun x9 => ref01_Be.l0 K k x8 x9 (wrL z5 z4 x7)) else none) else none) else (some z5)

def ref01_Be.f (K : Nat) (a0 : Int) (a1 : Int) : Option ((List Int)) :=
  if a1 < 0 then (some ([] : List Int)) else (if a1 > 65536 then (some ([] : List Int)) else (if 0 ≤ a1 then (if a1 ≤ 140737488355328 then ((some (isub .i64 a1 1)).bind fun x2 => (ref01_Be.l0 K K a0 x2 (List.replicate (a1 : Int).toNat (Cod.zero (CI .u8)))).bind fun y6 => some y6) else none) else none))

def ref01_Le.f (K : Nat) (a0 : Int) (a1 : Int) : Option ((List Int)) :=
  (ref01_Be.f K a0 a1).bind fun r1 => (ref01_Back.f K r1).bind fun r2 => some r2

def ref23_Small.f (K : Nat) (a0 : List Int) (a1 : Int) (a2 : Int) : Option ((Arr 256) × Int) :=
  ((if a2 = 2 then (some (.inl (zeroA 256))) else (if a2 = 4 then (some (.inl (zeroA 256))) else (some (.inr ((zeroA 256), 8)))) : Option (((Arr 256)) ⊕ ((Arr 256) × Int)))).bind fun tv4 => (match tv4 with | .inl y2 => (ref01_Le.f K (iconv .u64 a1) 2).bind fun r3 => (ref01_Join.f K ([a0, r3] : List (List Int))).bind fun r5 => (ref23_small.f K r5 a2 408).bind fun (r6, r7) => ((if r7 < 256 then ((ref01_Le.f K (iconv .u64 a1) 2).bind fun r11 => (ref01_Join.f K ([a0, r11] : List (List Int))).bind fun r13 => (ref23_small.f K r13 a2 4096).bind fun (r14, r15) => some (r15, r14)) else (some (r7, r6)) : Option (Int × (Arr 256)))).bind fun (y9, y10) => if y9 < 256 then (some ((zeroA 256), 12)) else (some (y10, 0)) | .inr r => some r)

def ref22_bounds.f (K : Nat) (a0 : Int) (a1 : Int) : Option (Bool) :=
  if a0 ≥ (-1) then (if a0 ≤ 1048576 then (if a1 ≥ 1 then (some (decide (a1 ≤ 1048576))) else (some false)) else (some false)) else (some false)

def ref22_width.l0 (K : Nat) : Nat → Int → Int → Option (Int)
  | 0, _, _ => none
  | k + 1, z1, z2 => if z1 > 0 then ((some (iquo .i32 z1 2)).bind fun x4 => (some (iadd .i64 z2 1)).bind fun x5 => ref22_width.l0 K k x4 x5) else (some z2)

def ref22_width.f (K : Nat) (a0 : Int) : Option (Int) :=
  (ref22_width.l0 K K a0 0).bind fun y3 => some y3

def ref22_bitsOf.f (K : Nat) (a0 : Int) (a1 : Int) : Option (Int) :=
  (ref22_width.f K (iadd .i32 (imax a0 0) a1)).bind fun r1 => some r1

def ref01_such.f (K : Nat) (a0 : List Int) (a1 : Int) (a2 : Int) : Option (Bool) :=
  if a1 ≥ 1 then (if a1 ≤ 24 then (if a2 ≥ 0 then (if ¬ a1 = 0 then (some (decide (a2 ≤ (iquo .i64 (imul .i64 (a0.length : Int) 8) a1)))) else none) else (some false)) else (some false)) else (some false)

def ref01_Unpack.l1 (K : Nat) : Nat → (List Int) → Int → Int → Int → Int → Option (Int)
  | 0, _, _, _, _, _ => none
  | k + 1, a0, a1, z2, z6, z7 => if z7 ≥ 0 then ((some (iadd .i64 (imul .i64 z2 a1) z7)).bind fun x9 => (some (iquo .i64 x9 8)).bind fun x10 => if 0 ≤ x10 then (if x10 < a0.length then (if 0 ≤ (irem .i64 x9 8) then ((some (iadd .u32 (imul .u32 z6 2) (iconv .u32 (iand .u8 (ishr .u8 (rdL (CI .u8) a0 x10) (irem .i64 x9 8)) 1)))).bind fun x11 => (some (isub .i64 z7 1)).bind fun x12 => ref01_Unpack.l1 K k a0 a1 z2 x11 x12) else none) else none) else none) else (some z6)

def ref01_Unpack.l0 (K : Nat) : Nat → (List Int) → Int → Int → Int → (List Int) → Option ((List Int))
  | 0, _, _, _, _, _ => none
  | k + 1, a0, a1, a2, z2, z3 => if z2 < a2 then ((some (isub .i64 a1 1)).bind fun x5 => (ref01_Unpack.l1 K K a0 a1 z2 0 x5).bind fun y8 => if z3.length + ([y8] : List Int).length ≤ 35184372088832 then ((some (iadd .i64 z2 1)).bind fun x15 => ref01_Unpack.l0 K k a0 a1 a2 x15 (z3 ++ ([y8] : List Int))) else none) else (some z3)

def ref01_Unpack.f (K : Nat) (a0 : List Int) (a1 : Int) (a2 : Int) : Option ((List Int)) :=
  (ref01_such.f K a0 a1 a2).bind fun r1 => if r1 = true then ((ref01_Unpack.l0 K K a0 a1 a2 0 ([] : List Int)).bind fun y4 => some y4) else (some ([] : List Int))

def ref22_Unpack.l0 (K : Nat) : Nat → Int → Int → (List Int) → Int → (Arr 256) → (Arr 256) → Option (((Arr 256) × (Arr 256)) ⊕ ((Arr 256) × Bool))
  | 0, _, _, _, _, _, _ => none
  | k + 1, a1, a2, r5, z7, z8, z9 => if z7 < 256 then (if 0 ≤ z7 then (if z7 < r5.length then ((some (iconv .i32 (rdL (CI .u32) r5 z7))).bind fun x12 => if x12 > (iadd .i32 (imax a1 0) a2) then (some (.inr ((zeroA 256), false))) else (((if a1 ≥ 0 then ((some (irem .i32 (iadd .i32 (isub .i32 a2 x12) 8380417) 8380417)).bind fun x14 => some x14) else (some x12) : Option (Int))).bind fun y13 => if 0 ≤ z7 then (if z7 < 256 then ((some (iadd .i64 z7 1)).bind fun x15 => ref22_Unpack.l0 K k a1 a2 r5 x15 (wr z8 z7 y13) z9) else none) else none)) else none) else none) else (some (.inl (z8, z9)))

def ref22_Unpack.f (K : Nat) (a0 : List Int) (a1 : Int) (a2 : Int) : Option ((Arr 256) × Bool) :=
  (ref22_bounds.f K a1 a2).bind fun r2 => if r2 = true then ((ref22_bitsOf.f K a1 a2).bind fun r3 => if (a0.length : Int) = (imul .i64 32 r3) then ((ref22_bitsOf.f K a1 a2).bind fun r4 => (ref01_Unpack.f K a0 r4 256).bind fun r5 => (ref22_Unpack.l0 K K a1 a2 r5 0 (zeroA 256) (zeroA 256)).bind fun t0 => (match t0 with | .inl (y10, y11) => some (y10, true) | .inr r => some r)) else (some ((zeroA 256), false))) else (some ((zeroA 256), false))

def ref23_Mask.f (K : Nat) (a0 : List Int) (a1 : Int) (a2 : Int) : Option ((Arr 256) × Int) :=
  ((if a2 = 131072 then (some (.inl (zeroA 256))) else (if a2 = 524288 then (some (.inl (zeroA 256))) else (some (.inr ((zeroA 256), 8)))) : Option (((Arr 256)) ⊕ ((Arr 256) × Int)))).bind fun tv4 => (match tv4 with | .inl y2 => ((if a2 = 524288 then (some 640) else (some 576) : Option (Int))).bind fun y3 => (ref01_Le.f K (iconv .u64 a1) 2).bind fun r4 => (ref01_Join.f K ([a0, r4] : List (List Int))).bind fun r6 => (ref08_Sum.f K 7 r6 y3).bind fun (r7, r8) => (ref22_Unpack.f K r7 (isub .i32 a2 1) a2).bind fun (r9, r10) => some (r9, 0) | .inr r => some r)

def ref01_Num.l0 (K : Nat) : Nat → (List Int) → Int → Int → Option (Int)
  | 0, _, _, _ => none
  | k + 1, a0, z1, z2 => if z2 < (a0.length : Int) then (if 0 ≤ z2 then (if z2 < a0.length then ((some (iadd .u64 (imul .u64 z1 256) (iconv .u64 (rdL (CI .u8) a0 z2)))).bind fun x4 => (some (iadd .i64 z2 1)).bind fun x5 => ref01_Num.l0 K k a0 x4 x5) else none) else none) else (some z1)

def ref01_Num.f (K : Nat) (a0 : List Int) : Option (Int) :=
  (ref01_Num.l0 K K a0 0 0).bind fun y3 => some y3

def ref01_NumLe.f (K : Nat) (a0 : List Int) : Option (Int) :=
  (ref01_Back.f K a0).bind fun r1 => (ref01_Num.f K r1).bind fun r2 => some r2

def ref23_ball.l1 (K : Nat) : Nat → (List Int) → Int → Int → Option (Int)
  | 0, _, _, _ => none
  | k + 1, r2, z10, z15 => if z15 < (r2.length : Int) then (if 0 ≤ z15 then (if z15 < r2.length then (if (iconv .i64 (rdL (CI .u8) r2 z15)) > z10 then ((some (iadd .i64 z15 1)).bind fun x17 => ref23_ball.l1 K k r2 z10 x17) else (some z15)) else none) else none) else (some z15)

def ref23_ball.l0 (K : Nat) : Nat → (List Int) → Int → Int → Int → (Arr 256) → (Arr 256) → Option (((Arr 256) × (Arr 256)) ⊕ ((Arr 256) × Bool))
  | 0, _, _, _, _, _, _ => none
  | k + 1, r2, z8, z9, z10, z11, z12 => if z10 < 256 then ((ref23_ball.l1 K K r2 z10 z9).bind fun y16 => if y16 = (r2.length : Int) then (some (.inr ((zeroA 256), false))) else (if 0 ≤ y16 then (if y16 < r2.length then ((some (iconv .i64 (rdL (CI .u8) r2 y16))).bind fun x18 => (some (iadd .i64 y16 1)).bind fun x19 => if 0 ≤ x18 then (if x18 < 256 then (if 0 ≤ z10 then (if z10 < 256 then ((some (rd z11 x18)).bind fun x20 => if 0 ≤ x18 then (if x18 < 256 then (((if (irem .u64 z8 2) = 1 then (if 0 ≤ x18 then (if x18 < 256 then (some (wr (wr (wr z11 z10 x20) x18 1) x18 8380416)) else none) else none) else (some (wr (wr z11 z10 x20) x18 1)) : Option ((Arr 256)))).bind fun y21 => (some (iquo .u64 z8 2)).bind fun x22 => (some (iadd .i64 z10 1)).bind fun x23 => ref23_ball.l0 K k r2 x22 x19 x23 y21 z12) else none) else none) else none) else none) else none) else none) else none) else none)) else (some (.inl (z11, z12)))

def ref23_ball.f (K : Nat) (a0 : List Int) (a1 : Int) (a2 : Int) : Option ((Arr 256) × Bool) :=
  (ref08_Sum.f K 7 a0 a2).bind fun (r2, r3) => if 0 ≤ (0 : Int) then (if (0 : Int) ≤ (8 : Int) then (if (8 : Int) ≤ r2.length then ((ref01_NumLe.f K (subL r2 0 8)).bind fun r5 => (some (isub .i64 256 a1)).bind fun x7 => (ref23_ball.l0 K K r2 r5 8 x7 (zeroA 256) (zeroA 256)).bind fun t0 => (match t0 with | .inl (y13, y14) => some (y13, true) | .inr r => some r)) else none) else none) else none

def ref23_Ball.f (K : Nat) (a0 : List Int) (a1 : Int) : Option ((Arr 256) × Int) :=
  if a1 < 1 then (some ((zeroA 256), 8)) else (if a1 > 64 then (some ((zeroA 256), 8)) else ((ref23_ball.f K a0 a1 272).bind fun (r2, r3) => if r3 = true then (some (r2, 0)) else ((((ref23_ball.f K a0 a1 4104).bind fun (r8, r9) => if r9 = true then (some (true, r8)) else (some (false, r8)) : Option (Bool × (Arr 256)))).bind fun (y6, y7) => if y6 = true then (some (y7, 0)) else (some ((zeroA 256), 12)))))

end Go.Proofs.YtppohhnfojalbaaDoor
