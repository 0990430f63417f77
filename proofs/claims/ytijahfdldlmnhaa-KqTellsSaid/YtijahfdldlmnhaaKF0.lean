/- Printed by this work's own program: the plain forms of the functions that the laws reach. -/
import Derived.Test.YtijahfdldlmnhaaMt
set_option linter.unusedVariables false
set_option linter.unusedSimpArgs false
namespace Go.Proofs.Ytijahfdldlmnhaa
open Go.Mx

def ref25_Below.l0 (K : Nat) : Nat → (Arr 256) → Int → Int → Option ((Unit) ⊕ (Bool))
  | 0, _, _, _ => none
  | k + 1, a0, a1, z2 => if z2 < 256 then (if 0 ≤ z2 then (if z2 < 256 then (if (rd a0 z2) < 0 then (some (.inr false)) else (if 0 ≤ z2 then (if z2 < 256 then (if (rd a0 z2) ≥ a1 then (some (.inr false)) else ((some (iadd .i64 z2 1)).bind fun x3 => ref25_Below.l0 K k a0 a1 x3)) else none) else none)) else none) else none) else (some (.inl ()))

def ref25_Below.f (K : Nat) (a0 : Arr 256) (a1 : Int) : Option (Bool) :=
  (ref25_Below.l0 K K a0 a1 0).bind fun t0 => (match t0 with | .inl _ => some true | .inr r => some r)

def ref25_Fit.f (K : Nat) (a0 : Arr 256) : Option (Bool) :=
  (ref25_Below.f K a0 3329).bind fun r2 => some r2

def kq_Squeeze.l0 (K : Nat) : Nat → (Arr 256) → Int → Int → (Arr 256) → Option ((Arr 256))
  | 0, _, _, _, _ => none
  | k + 1, a0, a1, z3, z4 => if z3 < 256 then (if 0 ≤ z3 then (if z3 < 256 then ((some (rd a0 z3)).bind fun x6 => if 0 ≤ a1 then (if 0 ≤ a1 then (if 0 ≤ z3 then (if z3 < 256 then ((some (iand .i32 (iquo .i32 (iadd .i32 (ishl .i32 x6 a1) 1664) 3329) (isub .i32 (ishl .i32 1 a1) 1))).bind fun x7 => kq_Squeeze.l0 K k a0 a1 (iadd .i64 z3 1) (wr z4 z3 x7)) else none) else none) else none) else none) else none) else none) else (some z4)

def kq_Squeeze.f (K : Nat) (a0 : Arr 256) (a1 : Int) : Option ((Arr 256)) :=
  if a1 < 1 then (some (zeroA 256)) else (if a1 ≥ 12 then (some (zeroA 256)) else ((kq_Squeeze.l0 K K a0 a1 0 a0).bind fun y5 => some y5))

def kq_below.l0 (K : Nat) : Nat → (Arr 256) → Int → Int → Option ((Unit) ⊕ (Bool))
  | 0, _, _, _ => none
  | k + 1, a0, a1, z2 => if z2 < 256 then (if 0 ≤ z2 then (if z2 < 256 then ((some (rd a0 z2)).bind fun x3 => if x3 < 0 then (some (.inr false)) else (if x3 ≥ a1 then (some (.inr false)) else (kq_below.l0 K k a0 a1 (iadd .i64 z2 1)))) else none) else none) else (some (.inl ()))

def kq_below.f (K : Nat) (a0 : Arr 256) (a1 : Int) : Option (Bool) :=
  (kq_below.l0 K K a0 a1 0).bind fun t0 => (match t0 with | .inl _ => some true | .inr r => some r)

def bits_such.f (K : Nat) (a0 : List Int) (a1 : Int) (a2 : Int) : Option (Bool) :=
  if a1 ≥ 1 then (if a1 ≤ 24 then (if a2 ≥ 0 then (if ¬ a1 = 0 then (some (decide (a2 ≤ (iquo .i64 (imul .i64 (a0.length : Int) 8) a1)))) else none) else (some false)) else (some false)) else (some false)

def bits_Unpack.l1 (K : Nat) : Nat → Int → Int → Int → (List Int) → Option (Int × Int × (List Int))
  | 0, _, _, _, _ => none
  | k + 1, a1, z9, z10, z11 => if z10 < a1 then (if 0 ≤ (0 : Int) then (if (0 : Int) < z11.length then (if 0 ≤ z10 then (if 0 ≤ (1 : Int) then (if (1 : Int) ≤ (z11.length : Int) then (if (z11.length : Int) ≤ z11.length then ((some (ior .u64 z9 (ishl .u64 (iconv .u64 (rdL (CI .u8) z11 0)) z10))).bind fun x16 => (some (iadd .i64 z10 8)).bind fun x17 => bits_Unpack.l1 K k a1 x16 x17 (subL z11 1 (z11.length : Int))) else none) else none) else none) else none) else none) else none) else (some (z9, z10, z11))

def bits_Unpack.l0 (K : Nat) : Nat → Int → Int → Int → Int → Int → (List Int) → (List Int) → Option ((List Int))
  | 0, _, _, _, _, _, _, _ => none
  | k + 1, a1, a2, z3, z4, z5, z6, z7 => if z5 < ((List.replicate (a2 : Int).toNat (Cod.zero (CI .u32))).length : Int) then ((bits_Unpack.l1 K K a1 z3 z4 z7).bind fun (y12, y13, y14) => if 0 ≤ a1 then (if 0 ≤ z5 then (if z5 < z6.length then ((some (iconv .u32 (iand .u64 y12 (isub .u64 (ishl .u64 1 a1) 1)))).bind fun x18 => if 0 ≤ a1 then ((some (ishr .u64 y12 a1)).bind fun x19 => (some (isub .i64 y13 a1)).bind fun x20 => bits_Unpack.l0 K k a1 a2 x19 x20 (iadd .i64 z5 1) (wrL z6 z5 x18) y14) else none) else none) else none) else none) else (some z6)

def bits_Unpack.f (K : Nat) (a0 : List Int) (a1 : Int) (a2 : Int) : Option ((List Int)) :=
  (bits_such.f K a0 a1 a2).bind fun r1 => if r1 = true then (if 0 ≤ a2 then (if a2 ≤ 35184372088832 then ((bits_Unpack.l0 K K a1 a2 0 0 0 (List.replicate (a2 : Int).toNat (Cod.zero (CI .u32))) a0).bind fun y8 => some y8) else none) else none) else (some ([] : List Int))

def kq_bound.f (K : Nat) (a0 : Int) : Option (Int) :=
  if a0 = 12 then (some 3329) else (if 0 ≤ a0 then ((some (ishl .i32 1 a0)).bind fun x1 => some x1) else none)

def kq_Unpack.l0 (K : Nat) : Nat → (List Int) → Int → (Arr 256) → Option ((Arr 256))
  | 0, _, _, _ => none
  | k + 1, r3, z4, z5 => if z4 < (r3.length : Int) then (if 0 ≤ z4 then (if z4 < r3.length then ((some (rdL (CI .u32) r3 z4)).bind fun x7 => if 0 ≤ z4 then (if z4 < 256 then ((some (iconv .i32 x7)).bind fun x8 => kq_Unpack.l0 K k r3 (iadd .i64 z4 1) (wr z5 z4 x8)) else none) else none) else none) else none) else (some z5)

def kq_Unpack.f (K : Nat) (a0 : List Int) (a1 : Int) : Option ((Arr 256) × Bool) :=
  if a1 < 1 then (some ((zeroA 256), false)) else (if a1 > 12 then (some ((zeroA 256), false)) else (if (a0.length : Int) = (imul .i64 32 a1) then ((bits_Unpack.f K a0 a1 256).bind fun r3 => (kq_Unpack.l0 K K r3 0 (zeroA 256)).bind fun y6 => (kq_bound.f K a1).bind fun r9 => (kq_below.f K y6 r9).bind fun r10 => if r10 = true then (some (y6, true)) else (some ((zeroA 256), false))) else (some ((zeroA 256), false))))

def law25_awake.l0 (K : Nat) : Nat → Int → (List Int) → Option ((List Int))
  | 0, _, _ => none
  | k + 1, z4, z5 => if z4 < ((List.replicate (384 : Int).toNat (Cod.zero (CI .u8))).length : Int) then (if 0 ≤ z4 then (if z4 < z5.length then (law25_awake.l0 K k (iadd .i64 z4 1) (wrL z5 z4 255)) else none) else none) else (some z5)

def law25_awake.f (K : Nat) : Option (Bool) :=
  (kq_Squeeze.f K (wr (wr (wr (zeroA 256) 0 832) 1 833) 2 2497) 1).bind fun r1 => if 0 ≤ (384 : Int) then (if (384 : Int) ≤ 140737488355328 then ((law25_awake.l0 K K 0 (List.replicate (384 : Int).toNat (Cod.zero (CI .u8)))).bind fun y6 => (kq_Unpack.f K y6 12).bind fun (r7, r8) => if (rd r1 0) = 0 then (if (rd r1 1) = 1 then (if (rd r1 2) = 0 then (some (!r8)) else (some false)) else (some false)) else (some false)) else none) else none

def kq_Widen.l0 (K : Nat) : Nat → (Arr 256) → Int → Int → (Arr 256) → Option ((Arr 256))
  | 0, _, _, _, _ => none
  | k + 1, a0, a1, z4, z5 => if z4 < 256 then (if 0 ≤ z4 then (if z4 < 256 then ((some (rd a0 z4)).bind fun x7 => if 0 ≤ (isub .i64 a1 1) then (if 0 ≤ a1 then (if 0 ≤ z4 then (if z4 < 256 then ((some (ishr .i32 (iadd .i32 (imul .i32 x7 3329) (ishl .i32 1 (isub .i64 a1 1))) a1)).bind fun x8 => kq_Widen.l0 K k a0 a1 (iadd .i64 z4 1) (wr z5 z4 x8)) else none) else none) else none) else none) else none) else none) else (some z5)

def kq_Widen.f (K : Nat) (a0 : Arr 256) (a1 : Int) : Option ((Arr 256)) :=
  if a1 < 1 then (some (zeroA 256)) else (if a1 ≥ 12 then (some (zeroA 256)) else (if 0 ≤ a1 then ((kq_below.f K a0 (ishl .i32 1 a1)).bind fun r3 => if r3 = true then ((kq_Widen.l0 K K a0 a1 0 a0).bind fun y6 => some y6) else (some (zeroA 256))) else none))

def kq_Sub.l0 (K : Nat) : Nat → (Arr 256) → Int → (Arr 256) → Option ((Arr 256))
  | 0, _, _, _ => none
  | k + 1, a1, z4, z5 => if z4 < 256 then (((if 0 ≤ z4 then (if z4 < 256 then (if 0 ≤ z4 then (if z4 < 256 then (if 0 ≤ z4 then (if z4 < 256 then ((some (isub .i32 (rd z5 z4) (rd a1 z4))).bind fun x8 => if 0 ≤ z4 then (if z4 < 256 then (if (rd (wr z5 z4 x8) z4) < 0 then (if 0 ≤ z4 then (if z4 < 256 then (if 0 ≤ z4 then (if z4 < 256 then ((some (iadd .i32 (rd (wr z5 z4 x8) z4) 3329)).bind fun x9 => some (wr (wr z5 z4 x8) z4 x9)) else none) else none) else none) else none) else (some (wr z5 z4 x8))) else none) else none) else none) else none) else none) else none) else none) else none : Option ((Arr 256)))).bind fun y7 => kq_Sub.l0 K k a1 (iadd .i64 z4 1) y7) else (some z5)

def kq_Sub.f (K : Nat) (a0 : Arr 256) (a1 : Arr 256) : Option ((Arr 256)) :=
  (kq_Sub.l0 K K a1 0 a0).bind fun y6 => some y6

def ref01_such.f (K : Nat) (a0 : List Int) (a1 : Int) (a2 : Int) : Option (Bool) :=
  if a1 ≥ 1 then (if a1 ≤ 24 then (if a2 ≥ 0 then (if ¬ a1 = 0 then (some (decide (a2 ≤ (iquo .i64 (imul .i64 (a0.length : Int) 8) a1)))) else none) else (some false)) else (some false)) else (some false)

def ref01_Unpack.l1 (K : Nat) : Nat → (List Int) → Int → Int → Int → Int → Option (Int)
  | 0, _, _, _, _, _ => none
  | k + 1, a0, a1, z2, z6, z7 => if z7 ≥ 0 then ((some (iadd .i64 (imul .i64 z2 a1) z7)).bind fun x9 => (some (iquo .i64 x9 8)).bind fun x10 => if 0 ≤ x10 then (if x10 < a0.length then (if 0 ≤ (irem .i64 x9 8) then ((some (iadd .u32 (imul .u32 z6 2) (iconv .u32 (iand .u8 (ishr .u8 (rdL (CI .u8) a0 x10) (irem .i64 x9 8)) 1)))).bind fun x11 => (some (isub .i64 z7 1)).bind fun x12 => ref01_Unpack.l1 K k a0 a1 z2 x11 x12) else none) else none) else none) else (some z6)

def ref01_Unpack.l0 (K : Nat) : Nat → (List Int) → Int → Int → Int → (List Int) → Option ((List Int))
  | 0, _, _, _, _, _ => none
  | k + 1, a0, a1, a2, z2, z3 => if z2 < a2 then ((some (isub .i64 a1 1)).bind fun x5 => (ref01_Unpack.l1 K K a0 a1 z2 0 x5).bind fun y8 => if z3.length + ([y8] : List Int).length ≤ 35184372088832 then ((some (iadd .i64 z2 1)).bind fun x15 => ref01_Unpack.l0 K k a0 a1 a2 x15 (z3 ++ ([y8] : List Int))) else none) else (some z3)

def ref01_Unpack.f (K : Nat) (a0 : List Int) (a1 : Int) (a2 : Int) : Option ((List Int)) :=
  (ref01_such.f K a0 a1 a2).bind fun r1 => if r1 = true then ((ref01_Unpack.l0 K K a0 a1 a2 0 ([] : List Int)).bind fun y4 => some y4) else (some ([] : List Int))

def ref25_bound.f (K : Nat) (a0 : Int) : Option (Int) :=
  if a0 = 12 then (some 3329) else (if 0 ≤ a0 then ((some (ishl .i32 1 a0)).bind fun x1 => some x1) else none)

def ref25_Unpack.l0 (K : Nat) : Nat → (List Int) → Int → (Arr 256) → Option ((Arr 256))
  | 0, _, _, _ => none
  | k + 1, r2, z4, z5 => if z4 < 256 then (if 0 ≤ z4 then (if z4 < r2.length then (if 0 ≤ z4 then (if z4 < 256 then ((some (iconv .i32 (rdL (CI .u32) r2 z4))).bind fun x7 => (some (iadd .i64 z4 1)).bind fun x8 => ref25_Unpack.l0 K k r2 x8 (wr z5 z4 x7)) else none) else none) else none) else none) else (some z5)

def ref25_Unpack.f (K : Nat) (a0 : List Int) (a1 : Int) : Option ((Arr 256) × Bool) :=
  if a1 < 1 then (some ((zeroA 256), false)) else (if a1 > 12 then (some ((zeroA 256), false)) else (if (a0.length : Int) = (imul .i64 32 a1) then ((ref01_Unpack.f K a0 a1 256).bind fun r2 => (ref25_Unpack.l0 K K r2 0 (zeroA 256)).bind fun y6 => (ref25_bound.f K a1).bind fun r9 => (ref25_Below.f K y6 r9).bind fun r10 => if r10 = true then (some (y6, true)) else (some ((zeroA 256), false))) else (some ((zeroA 256), false))))

def ref25_Squeeze.l0 (K : Nat) : Nat → Int → Int → (Arr 256) → Option ((Arr 256))
  | 0, _, _, _ => none
  | k + 1, a1, z3, z4 => if z3 < 256 then (if 0 ≤ z3 then (if z3 < 256 then (if 0 ≤ a1 then (if 0 ≤ a1 then (if ¬ (ishl .i32 1 a1) = 0 then (if 0 ≤ z3 then (if z3 < 256 then ((some (irem .i32 (iquo .i32 (iadd .i32 (ishl .i32 (imul .i32 2 (rd z4 z3)) a1) 3329) 6658) (ishl .i32 1 a1))).bind fun x6 => (some (iadd .i64 z3 1)).bind fun x7 => ref25_Squeeze.l0 K k a1 x7 (wr z4 z3 x6)) else none) else none) else none) else none) else none) else none) else none) else (some z4)

def ref25_Squeeze.f (K : Nat) (a0 : Arr 256) (a1 : Int) : Option ((Arr 256)) :=
  if a1 < 1 then (some (zeroA 256)) else (if a1 > 11 then (some (zeroA 256)) else ((ref25_Squeeze.l0 K K a1 0 a0).bind fun y5 => some y5))

def ref25_Widen.l0 (K : Nat) : Nat → Int → Int → (Arr 256) → Option ((Arr 256))
  | 0, _, _, _ => none
  | k + 1, a1, z4, z5 => if z4 < 256 then (if 0 ≤ z4 then (if z4 < 256 then (if 0 ≤ a1 then (if 0 ≤ a1 then (if ¬ (ishl .i32 2 a1) = 0 then (if 0 ≤ z4 then (if z4 < 256 then ((some (iquo .i32 (iadd .i32 (imul .i32 (imul .i32 2 (rd z5 z4)) 3329) (ishl .i32 1 a1)) (ishl .i32 2 a1))).bind fun x7 => (some (iadd .i64 z4 1)).bind fun x8 => ref25_Widen.l0 K k a1 x8 (wr z5 z4 x7)) else none) else none) else none) else none) else none) else none) else none) else (some z5)

def ref25_Widen.f (K : Nat) (a0 : Arr 256) (a1 : Int) : Option ((Arr 256)) :=
  if a1 < 1 then (some (zeroA 256)) else (if a1 > 11 then (some (zeroA 256)) else (if 0 ≤ a1 then ((ref25_Below.f K a0 (ishl .i32 1 a1)).bind fun r3 => if r3 = true then ((ref25_Widen.l0 K K a1 0 a0).bind fun y6 => some y6) else (some (zeroA 256))) else none))

def ref01_Same.l0 (K : Nat) : Nat → (List Int) → (List Int) → Int → Option ((Unit) ⊕ (Bool))
  | 0, _, _, _ => none
  | k + 1, a0, a1, z1 => if z1 < (a0.length : Int) then (if 0 ≤ z1 then (if z1 < a0.length then (if 0 ≤ z1 then (if z1 < a1.length then (if (rdL (CI .u8) a0 z1) = (rdL (CI .u8) a1 z1) then ((some (iadd .i64 z1 1)).bind fun x2 => ref01_Same.l0 K k a0 a1 x2) else (some (.inr false))) else none) else none) else none) else none) else (some (.inl ()))

def ref01_Same.f (K : Nat) (a0 : List Int) (a1 : List Int) : Option (Bool) :=
  if (a0.length : Int) = (a1.length : Int) then ((ref01_Same.l0 K K a0 a1 0).bind fun t0 => (match t0 with | .inl _ => some true | .inr r => some r)) else (some false)

def bits_Pack.l1 (K : Nat) : Nat → Int → Int → (List Int) → Option (Int × Int × (List Int))
  | 0, _, _, _ => none
  | k + 1, z12, z13, z14 => if z13 ≥ 8 then (if z14.length + ([(iconv .u8 z12)] : List Int).length ≤ 140737488355328 then ((some (ishr .u64 z12 8)).bind fun x20 => (some (isub .i64 z13 8)).bind fun x21 => bits_Pack.l1 K k x20 x21 (z14 ++ ([(iconv .u8 z12)] : List Int))) else none) else (some (z12, z13, z14))

def bits_Pack.l0 (K : Nat) : Nat → (List Int) → Int → Int → Int → Int → (List Int) → Option (Int × Int × (List Int))
  | 0, _, _, _, _, _, _ => none
  | k + 1, a0, a1, z2, z3, z4, z5 => if z4 < (a0.length : Int) then (if 0 ≤ z4 then (if z4 < a0.length then ((some (rdL (CI .u32) a0 z4)).bind fun x9 => if 0 ≤ a1 then (if 0 ≤ z3 then ((some (ior .u64 z2 (ishl .u64 (iconv .u64 (iand .u32 x9 (isub .u32 (ishl .u32 1 a1) 1))) z3))).bind fun x10 => (some (iadd .i64 z3 a1)).bind fun x11 => (bits_Pack.l1 K K x10 x11 z5).bind fun (y15, y16, y17) => bits_Pack.l0 K k a0 a1 y15 y16 (iadd .i64 z4 1) y17) else none) else none) else none) else none) else (some (z2, z3, z5))

def bits_Pack.f (K : Nat) (a0 : List Int) (a1 : Int) : Option ((List Int)) :=
  if a1 < 1 then (some ([] : List Int)) else (if a1 > 24 then (some ([] : List Int)) else (if 0 ≤ (iquo .i64 (iadd .i64 (imul .i64 (a0.length : Int) a1) 7) 8) then (if (iquo .i64 (iadd .i64 (imul .i64 (a0.length : Int) a1) 7) 8) ≤ 140737488355328 then ((bits_Pack.l0 K K a0 a1 0 0 0 ([] : List Int)).bind fun (y6, y7, y8) => ((if y7 > 0 then (if y8.length + ([(iconv .u8 y6)] : List Int).length ≤ 140737488355328 then (some (y8 ++ ([(iconv .u8 y6)] : List Int))) else none) else (some y8) : Option ((List Int)))).bind fun y22 => some y22) else none) else none))

def kq_Pack.l0 (K : Nat) : Nat → (Arr 256) → Int → (List Int) → Option ((List Int))
  | 0, _, _, _ => none
  | k + 1, a0, z5, z6 => if z5 < 256 then (if 0 ≤ z5 then (if z5 < 256 then ((some (rd a0 z5)).bind fun x8 => if 0 ≤ z5 then (if z5 < z6.length then ((some (iconv .u32 x8)).bind fun x9 => kq_Pack.l0 K k a0 (iadd .i64 z5 1) (wrL z6 z5 x9)) else none) else none) else none) else none) else (some z6)

def kq_Pack.f (K : Nat) (a0 : Arr 256) (a1 : Int) : Option ((List Int)) :=
  if a1 < 1 then (some ([] : List Int)) else (if a1 > 12 then (some ([] : List Int)) else ((kq_bound.f K a1).bind fun r2 => (kq_below.f K a0 r2).bind fun r3 => if r3 = true then (if 0 ≤ (256 : Int) then (if (256 : Int) ≤ 35184372088832 then ((kq_Pack.l0 K K a0 0 (List.replicate (256 : Int).toNat (Cod.zero (CI .u32)))).bind fun y7 => (bits_Pack.f K y7 a1).bind fun r10 => some r10) else none) else none) else (some ([] : List Int))))

def ref01_Pack.l1 (K : Nat) : Nat → (List Int) → Int → Int → Int → (List Int) → Option ((List Int))
  | 0, _, _, _, _, _ => none
  | k + 1, a0, a1, z2, z5, z6 => if z5 < a1 then ((some (iadd .i64 (imul .i64 z2 a1) z5)).bind fun x8 => (some (iquo .i64 x8 8)).bind fun x9 => if 0 ≤ x9 then (if x9 < z6.length then (if 0 ≤ z2 then (if z2 < a0.length then (if 0 ≤ z5 then (if 0 ≤ (irem .i64 x8 8) then ((some (iquo .i64 x8 8)).bind fun x10 => if 0 ≤ x10 then (if x10 < z6.length then ((some (ior .u8 (rdL (CI .u8) z6 x9) (ishl .u8 (iconv .u8 (iand .u32 (ishr .u32 (rdL (CI .u32) a0 z2) z5) 1)) (irem .i64 x8 8)))).bind fun x11 => (some (iadd .i64 z5 1)).bind fun x12 => ref01_Pack.l1 K k a0 a1 z2 x12 (wrL z6 x10 x11)) else none) else none) else none) else none) else none) else none) else none) else none) else (some z6)

def ref01_Pack.l0 (K : Nat) : Nat → (List Int) → Int → Int → (List Int) → Option ((List Int))
  | 0, _, _, _, _ => none
  | k + 1, a0, a1, z2, z3 => if z2 < (a0.length : Int) then ((ref01_Pack.l1 K K a0 a1 z2 0 z3).bind fun y7 => (some (iadd .i64 z2 1)).bind fun x13 => ref01_Pack.l0 K k a0 a1 x13 y7) else (some z3)

def ref01_Pack.f (K : Nat) (a0 : List Int) (a1 : Int) : Option ((List Int)) :=
  if a1 < 1 then (some ([] : List Int)) else (if a1 > 24 then (some ([] : List Int)) else (if 0 ≤ (iquo .i64 (iadd .i64 (imul .i64 (a0.length : Int) a1) 7) 8) then (if (iquo .i64 (iadd .i64 (imul .i64 (a0.length : Int) a1) 7) 8) ≤ 140737488355328 then ((ref01_Pack.l0 K K a0 a1 0 (List.replicate ((iquo .i64 (iadd .i64 (imul .i64 (a0.length : Int) a1) 7) 8) : Int).toNat (Cod.zero (CI .u8)))).bind fun y4 => some y4) else none) else none))

def ref25_Pack.l0 (K : Nat) : Nat → (Arr 256) → Int → (List Int) → Option ((List Int))
  | 0, _, _, _ => none
  | k + 1, a0, z4, z5 => if z4 < 256 then (if 0 ≤ z4 then (if z4 < 256 then (if z5.length + ([(iconv .u32 (rd a0 z4))] : List Int).length ≤ 35184372088832 then ((some (iadd .i64 z4 1)).bind fun x9 => ref25_Pack.l0 K k a0 x9 (z5 ++ ([(iconv .u32 (rd a0 z4))] : List Int))) else none) else none) else none) else (some z5)

def ref25_Pack.f (K : Nat) (a0 : Arr 256) (a1 : Int) : Option ((List Int)) :=
  if a1 < 1 then (some ([] : List Int)) else (if a1 > 12 then (some ([] : List Int)) else ((ref25_bound.f K a1).bind fun r2 => (ref25_Below.f K a0 r2).bind fun r3 => if r3 = true then ((ref25_Pack.l0 K K a0 0 ([] : List Int)).bind fun y6 => (ref01_Pack.f K y6 a1).bind fun r10 => some r10) else (some ([] : List Int))))

def kq_Fit.f (K : Nat) (a0 : Arr 256) : Option (Bool) :=
  (kq_below.f K a0 3329).bind fun r2 => some r2

def kq_Add.l0 (K : Nat) : Nat → (Arr 256) → Int → (Arr 256) → Option ((Arr 256))
  | 0, _, _, _ => none
  | k + 1, a1, z4, z5 => if z4 < 256 then (((if 0 ≤ z4 then (if z4 < 256 then (if 0 ≤ z4 then (if z4 < 256 then (if 0 ≤ z4 then (if z4 < 256 then ((some (iadd .i32 (rd z5 z4) (rd a1 z4))).bind fun x8 => if 0 ≤ z4 then (if z4 < 256 then (if (rd (wr z5 z4 x8) z4) ≥ 3329 then (if 0 ≤ z4 then (if z4 < 256 then (if 0 ≤ z4 then (if z4 < 256 then ((some (isub .i32 (rd (wr z5 z4 x8) z4) 3329)).bind fun x9 => some (wr (wr z5 z4 x8) z4 x9)) else none) else none) else none) else none) else (some (wr z5 z4 x8))) else none) else none) else none) else none) else none) else none) else none) else none : Option ((Arr 256)))).bind fun y7 => kq_Add.l0 K k a1 (iadd .i64 z4 1) y7) else (some z5)

def kq_Add.f (K : Nat) (a0 : Arr 256) (a1 : Arr 256) : Option ((Arr 256)) :=
  (kq_Add.l0 K K a1 0 a0).bind fun y6 => some y6

def ref25_Add.l0 (K : Nat) : Nat → (Arr 256) → Int → (Arr 256) → Option ((Arr 256))
  | 0, _, _, _ => none
  | k + 1, a1, z4, z5 => if z4 < 256 then (if 0 ≤ z4 then (if z4 < 256 then (if 0 ≤ z4 then (if z4 < 256 then (if 0 ≤ z4 then (if z4 < 256 then ((some (irem .i32 (iadd .i32 (rd z5 z4) (rd a1 z4)) 3329)).bind fun x7 => (some (iadd .i64 z4 1)).bind fun x8 => ref25_Add.l0 K k a1 x8 (wr z5 z4 x7)) else none) else none) else none) else none) else none) else none) else (some z5)

def ref25_Add.f (K : Nat) (a0 : Arr 256) (a1 : Arr 256) : Option ((Arr 256)) :=
  (ref25_Add.l0 K K a1 0 a0).bind fun y6 => some y6

def ref25_Sub.l0 (K : Nat) : Nat → (Arr 256) → Int → (Arr 256) → Option ((Arr 256))
  | 0, _, _, _ => none
  | k + 1, a1, z4, z5 => if z4 < 256 then (if 0 ≤ z4 then (if z4 < 256 then (if 0 ≤ z4 then (if z4 < 256 then (if 0 ≤ z4 then (if z4 < 256 then ((some (irem .i32 (iadd .i32 (isub .i32 (rd z5 z4) (rd a1 z4)) 3329) 3329)).bind fun x7 => (some (iadd .i64 z4 1)).bind fun x8 => ref25_Sub.l0 K k a1 x8 (wr z5 z4 x7)) else none) else none) else none) else none) else none) else none) else (some z5)

def ref25_Sub.f (K : Nat) (a0 : Arr 256) (a1 : Arr 256) : Option ((Arr 256)) :=
  (ref25_Sub.l0 K K a1 0 a0).bind fun y6 => some y6

def math_bits_Reverse8.f (K : Nat) (a0 : Int) : Option (Int) :=
  if 0 ≤ a0 then (if a0 < 256 then ((some (strAt [0, 128, 64, 192, 32, 160, 96, 224, 16, 144, 80, 208, 48, 176, 112, 240, 8, 136, 72, 200, 40, 168, 104, 232, 24, 152, 88, 216, 56, 184, 120, 248, 4, 132, 68, 196, 36, 164, 100, 228, 20, 148, 84, 212, 52, 180, 116, 244, 12, 140, 76, 204, 44, 172, 108, 236, 28, 156, 92, 220, 60, 188, 124, 252, 2, 130, 66, 194, 34, 162, 98, 226, 18, 146, 82, 210, 50, 178, 114, 242, 10, 138, 74, 202, 42, 170, 106, 234, 26, 154, 90, 218, 58, 186, 122, 250, 6, 134, 70, 198, 38, 166, 102, 230, 22, 150, 86, 214, 54, 182, 118, 246, 14, 142, 78, 206, 46, 174, 110, 238, 30, 158, 94, 222, 62, 190, 126, 254, 1, 129, 65, 193, 33, 161, 97, 225, 17, 145, 81, 209, 49, 177, 113, 241, 9, 137, 73, 201, 41, 169, 105, 233, 25, 153, 89, 217, 57, 185, 121, 249, 5, 133, 69, 197, 37, 165, 101, 229, 21, 149, 85, 213, 53, 181, 117, 245, 13, 141, 77, 205, 45, 173, 109, 237, 29, 157, 93, 221, 61, 189, 125, 253, 3, 131, 67, 195, 35, 163, 99, 227, 19, 147, 83, 211, 51, 179, 115, 243, 11, 139, 75, 203, 43, 171, 107, 235, 27, 155, 91, 219, 59, 187, 123, 251, 7, 135, 71, 199, 39, 167, 103, 231, 23, 151, 87, 215, 55, 183, 119, 247, 15, 143, 79, 207, 47, 175, 111, 239, 31, 159, 95, 223, 63, 191, 127, 255] a0)).bind fun x1 => some x1) else none) else none

def kq_roots.l0 (K : Nat) : Nat → Int → (Arr 128) → Option ((Arr 128))
  | 0, _, _ => none
  | k + 1, z3, z4 => if z3 < 128 then ((some (isub .i64 z3 1)).bind fun x6 => if 0 ≤ x6 then (if x6 < 128 then (if 0 ≤ z3 then (if z3 < 128 then ((some (irem .i32 (imul .i32 (rd z4 x6) 17) 3329)).bind fun x7 => (some (iadd .i64 z3 1)).bind fun x8 => kq_roots.l0 K k x8 (wr z4 z3 x7)) else none) else none) else none) else none) else (some z4)

def kq_roots.l1 (K : Nat) : Nat → (Arr 128) → Int → (Arr 128) → Option ((Arr 128))
  | 0, _, _, _ => none
  | k + 1, y5, z9, z10 => if z9 < 128 then ((math_bits_Reverse8.f K (iconv .u8 z9)).bind fun r12 => (some (ishr .u8 r12 1)).bind fun x13 => if 0 ≤ x13 then (if x13 < 128 then (if 0 ≤ z9 then (if z9 < 128 then ((some (rd y5 x13)).bind fun x14 => kq_roots.l1 K k y5 (iadd .i64 z9 1) (wr z10 z9 x14)) else none) else none) else none) else none) else (some z10)

def kq_roots.f (K : Nat) : Option ((Arr 128)) :=
  (kq_roots.l0 K K 1 (wr (zeroA 128) 0 1)).bind fun y5 => (kq_roots.l1 K K y5 0 (zeroA 128)).bind fun y11 => some y11

def kq_Ntt.l2 (K : Nat) : Nat → (Arr 128) → Int → Int → Int → Int → (Arr 256) → Option ((Arr 256))
  | 0, _, _, _, _, _, _ => none
  | k + 1, r3, z6, z10, x14, z15, z16 => if z15 < (iadd .i64 z10 z6) then (if 0 ≤ x14 then (if x14 < 128 then ((some (iadd .i64 z15 z6)).bind fun x18 => if 0 ≤ x18 then (if x18 < 256 then ((some (irem .i32 (imul .i32 (rd r3 x14) (rd z16 x18)) 3329)).bind fun x19 => if 0 ≤ z15 then (if z15 < 256 then (if 0 ≤ z15 then (if z15 < 256 then ((some (iadd .i64 z15 z6)).bind fun x20 => if 0 ≤ x20 then (if x20 < 256 then ((some (irem .i32 (iadd .i32 (isub .i32 (rd z16 z15) x19) 3329) 3329)).bind fun x21 => if 0 ≤ z15 then (if z15 < 256 then ((some (irem .i32 (iadd .i32 (rd z16 z15) x19) 3329)).bind fun x22 => (some (iadd .i64 z15 1)).bind fun x23 => kq_Ntt.l2 K k r3 z6 z10 x14 x23 (wr (wr z16 x20 x21) z15 x22)) else none) else none) else none) else none) else none) else none) else none) else none) else none) else none) else none) else none) else (some z16)

def kq_Ntt.l1 (K : Nat) : Nat → (Arr 128) → Int → Int → Int → (Arr 256) → Option (Int × (Arr 256))
  | 0, _, _, _, _, _ => none
  | k + 1, r3, z6, z9, z10, z11 => if z10 < 256 then ((some (iadd .i64 z9 1)).bind fun x14 => (kq_Ntt.l2 K K r3 z6 z10 x14 z10 z11).bind fun y17 => (some (iadd .i64 z10 (imul .i64 2 z6))).bind fun x24 => kq_Ntt.l1 K k r3 z6 x14 x24 y17) else (some (z9, z11))

def kq_Ntt.l0 (K : Nat) : Nat → (Arr 128) → Int → Int → (Arr 256) → Option ((Arr 256))
  | 0, _, _, _, _ => none
  | k + 1, r3, z5, z6, z7 => if z6 ≥ 2 then ((kq_Ntt.l1 K K r3 z6 z5 0 z7).bind fun (y12, y13) => (some (iquo .i64 z6 2)).bind fun x25 => kq_Ntt.l0 K k r3 y12 x25 y13) else (some z7)

def kq_Ntt.f (K : Nat) (a0 : Arr 256) : Option ((Arr 256)) :=
  (kq_roots.f K).bind fun r3 => (kq_Ntt.l0 K K r3 0 128 a0).bind fun y8 => some y8

def kq_Back.l2 (K : Nat) : Nat → (Arr 128) → Int → Int → Int → Int → (Arr 256) → Option ((Arr 256))
  | 0, _, _, _, _, _, _ => none
  | k + 1, r3, z6, z10, x14, z15, z16 => if z15 < (iadd .i64 z10 z6) then (if 0 ≤ z15 then (if z15 < 256 then ((some (rd z16 z15)).bind fun x18 => (some (iadd .i64 z15 z6)).bind fun x19 => if 0 ≤ x19 then (if x19 < 256 then (if 0 ≤ z15 then (if z15 < 256 then ((some (irem .i32 (iadd .i32 x18 (rd z16 x19)) 3329)).bind fun x20 => if 0 ≤ x14 then (if x14 < 128 then ((some (iadd .i64 z15 z6)).bind fun x21 => if 0 ≤ x21 then (if x21 < 256 then ((some (iadd .i64 z15 z6)).bind fun x22 => if 0 ≤ x22 then (if x22 < 256 then ((some (irem .i32 (imul .i32 (rd r3 x14) (iadd .i32 (isub .i32 (rd (wr z16 z15 x20) x21) x18) 3329)) 3329)).bind fun x23 => (some (iadd .i64 z15 1)).bind fun x24 => kq_Back.l2 K k r3 z6 z10 x14 x24 (wr (wr z16 z15 x20) x22 x23)) else none) else none) else none) else none) else none) else none) else none) else none) else none) else none) else none) else none) else (some z16)

def kq_Back.l1 (K : Nat) : Nat → (Arr 128) → Int → Int → Int → (Arr 256) → Option (Int × (Arr 256))
  | 0, _, _, _, _, _ => none
  | k + 1, r3, z6, z9, z10, z11 => if z10 < 256 then ((some (isub .i64 z9 1)).bind fun x14 => (kq_Back.l2 K K r3 z6 z10 x14 z10 z11).bind fun y17 => (some (iadd .i64 z10 (imul .i64 2 z6))).bind fun x25 => kq_Back.l1 K k r3 z6 x14 x25 y17) else (some (z9, z11))

def kq_Back.l0 (K : Nat) : Nat → (Arr 128) → Int → Int → (Arr 256) → Option ((Arr 256))
  | 0, _, _, _, _ => none
  | k + 1, r3, z5, z6, z7 => if z6 ≤ 128 then ((kq_Back.l1 K K r3 z6 z5 0 z7).bind fun (y12, y13) => (some (imul .i64 z6 2)).bind fun x26 => kq_Back.l0 K k r3 y12 x26 y13) else (some z7)

def kq_Back.l3 (K : Nat) : Nat → Int → (Arr 256) → Option ((Arr 256))
  | 0, _, _ => none
  | k + 1, z27, z28 => if z27 < 256 then (if 0 ≤ z27 then (if z27 < 256 then (if 0 ≤ z27 then (if z27 < 256 then ((some (irem .i32 (imul .i32 (rd z28 z27) 3303) 3329)).bind fun x30 => kq_Back.l3 K k (iadd .i64 z27 1) (wr z28 z27 x30)) else none) else none) else none) else none) else (some z28)

def kq_Back.f (K : Nat) (a0 : Arr 256) : Option ((Arr 256)) :=
  (kq_roots.f K).bind fun r3 => (kq_Back.l0 K K r3 128 2 a0).bind fun y8 => (kq_Back.l3 K K 0 y8).bind fun y29 => some y29

def kq_pair_times.f (K : Nat) (a0_0 : Int) (a0_1 : Int) (a1_0 : Int) (a1_1 : Int) (a2 : Int) : Option (Int × Int) :=
  some ((irem .i32 (iadd .i32 (imul .i32 a0_0 a1_0) (imul .i32 (irem .i32 (imul .i32 a0_1 a1_1) 3329) a2)) 3329), (irem .i32 (iadd .i32 (imul .i32 a0_0 a1_1) (imul .i32 a0_1 a1_0)) 3329))

def kq_Mul.l0 (K : Nat) : Nat → (Arr 256) → (Arr 256) → (Arr 128) → Int → (Arr 256) → Option ((Arr 256))
  | 0, _, _, _, _, _ => none
  | k + 1, a0, a1, r4, z7, z8 => if z7 < 256 then ((some (iadd .i64 64 (iquo .i64 z7 4))).bind fun x10 => if 0 ≤ x10 then (if x10 < 128 then ((some (rd r4 x10)).bind fun x11 => if 0 ≤ z7 then (if z7 < 256 then ((some (iadd .i64 z7 1)).bind fun x12 => if 0 ≤ x12 then (if x12 < 256 then (if 0 ≤ z7 then (if z7 < 256 then ((some (iadd .i64 z7 1)).bind fun x13 => if 0 ≤ x13 then (if x13 < 256 then ((kq_pair_times.f K (rd a0 z7) (rd a0 x12) (rd a1 z7) (rd a1 x13) x11).bind fun (r14_0, r14_1) => (some (iadd .i64 z7 2)).bind fun x16 => if 0 ≤ x16 then (if x16 < 256 then ((some (iadd .i64 z7 3)).bind fun x17 => if 0 ≤ x17 then (if x17 < 256 then ((some (iadd .i64 z7 2)).bind fun x18 => if 0 ≤ x18 then (if x18 < 256 then ((some (iadd .i64 z7 3)).bind fun x19 => if 0 ≤ x19 then (if x19 < 256 then ((kq_pair_times.f K (rd a0 x16) (rd a0 x17) (rd a1 x18) (rd a1 x19) (isub .i32 3329 x11)).bind fun (r20_0, r20_1) => if 0 ≤ z7 then (if z7 < 256 then ((some (iadd .i64 z7 1)).bind fun x22 => if 0 ≤ x22 then (if x22 < 256 then ((some (iadd .i64 z7 2)).bind fun x23 => if 0 ≤ x23 then (if x23 < 256 then ((some (iadd .i64 z7 3)).bind fun x24 => if 0 ≤ x24 then (if x24 < 256 then ((some (iadd .i64 z7 4)).bind fun x25 => kq_Mul.l0 K k a0 a1 r4 x25 (wr (wr (wr (wr z8 z7 r14_0) x22 r14_1) x23 r20_0) x24 r20_1)) else none) else none) else none) else none) else none) else none) else none) else none) else none) else none) else none) else none) else none) else none) else none) else none) else none) else none) else none) else none) else none) else none) else none) else none) else none) else none) else (some z8)

def kq_Mul.f (K : Nat) (a0 : Arr 256) (a1 : Arr 256) : Option ((Arr 256)) :=
  (kq_roots.f K).bind fun r4 => (kq_Mul.l0 K K a0 a1 r4 0 (zeroA 256)).bind fun y9 => some y9

def kq_Times.f (K : Nat) (a0 : Arr 256) (a1 : Arr 256) : Option ((Arr 256)) :=
  (kq_Ntt.f K a0).bind fun r4 => (kq_Ntt.f K a1).bind fun r5 => (kq_Mul.f K r4 r5).bind fun r6 => (kq_Back.f K r6).bind fun r7 => some r7

def ref25_Times.l1 (K : Nat) : Nat → (Arr 256) → (Arr 256) → Int → Int → (Arr 512) → Option ((Arr 512))
  | 0, _, _, _, _, _ => none
  | k + 1, a0, a1, z5, z8, z9 => if z8 < 256 then ((some (iadd .i64 z5 z8)).bind fun x11 => if 0 ≤ x11 then (if x11 < 512 then (if 0 ≤ z5 then (if z5 < 256 then (if 0 ≤ z8 then (if z8 < 256 then ((some (iadd .i64 z5 z8)).bind fun x12 => if 0 ≤ x12 then (if x12 < 512 then ((some (iadd .i64 (rd z9 x11) (imul .i64 (iconv .i64 (rd a0 z5)) (iconv .i64 (rd a1 z8))))).bind fun x13 => (some (iadd .i64 z8 1)).bind fun x14 => ref25_Times.l1 K k a0 a1 z5 x14 (wr z9 x12 x13)) else none) else none) else none) else none) else none) else none) else none) else none) else (some z9)

def ref25_Times.l0 (K : Nat) : Nat → (Arr 256) → (Arr 256) → Int → (Arr 512) → Option ((Arr 512))
  | 0, _, _, _, _ => none
  | k + 1, a0, a1, z5, z6 => if z5 < 256 then ((ref25_Times.l1 K K a0 a1 z5 0 z6).bind fun y10 => (some (iadd .i64 z5 1)).bind fun x15 => ref25_Times.l0 K k a0 a1 x15 y10) else (some z6)

def ref25_Times.l2 (K : Nat) : Nat → (Arr 512) → Int → (Arr 256) → Option ((Arr 256))
  | 0, _, _, _ => none
  | k + 1, y7, z17, z18 => if z17 < 256 then (if 0 ≤ z17 then (if z17 < 512 then ((some (iadd .i64 z17 256)).bind fun x20 => if 0 ≤ x20 then (if x20 < 512 then (if 0 ≤ z17 then (if z17 < 256 then ((some (iconv .i32 (irem .i64 (iadd .i64 (isub .i64 (irem .i64 (rd y7 z17) 3329) (irem .i64 (rd y7 x20) 3329)) 3329) 3329))).bind fun x21 => (some (iadd .i64 z17 1)).bind fun x22 => ref25_Times.l2 K k y7 x22 (wr z18 z17 x21)) else none) else none) else none) else none) else none) else none) else (some z18)

def ref25_Times.f (K : Nat) (a0 : Arr 256) (a1 : Arr 256) : Option ((Arr 256)) :=
  (ref25_Times.l0 K K a0 a1 0 (zeroA 512)).bind fun y7 => (ref25_Times.l2 K K y7 0 (zeroA 256)).bind fun y19 => some y19

def ref25_powers.l0 (K : Nat) : Nat → Int → (Arr 256) → Option ((Arr 256))
  | 0, _, _ => none
  | k + 1, z3, z4 => if z3 < 256 then ((some (isub .i64 z3 1)).bind fun x6 => if 0 ≤ x6 then (if x6 < 256 then (if 0 ≤ z3 then (if z3 < 256 then ((some (irem .i32 (imul .i32 (rd z4 x6) 17) 3329)).bind fun x7 => (some (iadd .i64 z3 1)).bind fun x8 => ref25_powers.l0 K k x8 (wr z4 z3 x7)) else none) else none) else none) else none) else (some z4)

def ref25_powers.f (K : Nat) : Option ((Arr 256)) :=
  (ref25_powers.l0 K K 1 (wr (zeroA 256) 0 1)).bind fun y5 => some y5

def ref25_turned.l0 (K : Nat) : Nat → Int → Int → Int → Option (Int)
  | 0, _, _, _ => none
  | k + 1, a0, z1, z2 => if z2 < 7 then (if 0 ≤ z2 then ((some (iadd .i64 (imul .i64 z1 2) (iand .i64 (ishr .i64 a0 z2) 1))).bind fun x4 => (some (iadd .i64 z2 1)).bind fun x5 => ref25_turned.l0 K k a0 x4 x5) else none) else (some z1)

def ref25_turned.f (K : Nat) (a0 : Int) : Option (Int) :=
  (ref25_turned.l0 K K a0 0 0).bind fun y3 => some y3

def ref25_Ntt.l1 (K : Nat) : Nat → (Arr 256) → (Arr 256) → Int → Int → Int → Int → Option (Int × Int)
  | 0, _, _, _, _, _, _ => none
  | k + 1, a0, r3, x10, z11, z12, z13 => if z13 < 128 then ((some (irem .i64 (imul .i64 x10 z13) 256)).bind fun x16 => if 0 ≤ x16 then (if x16 < 256 then ((some (rd r3 x16)).bind fun x17 => (some (imul .i64 2 z13)).bind fun x18 => if 0 ≤ x18 then (if x18 < 256 then ((some (irem .i32 (iadd .i32 z11 (imul .i32 (rd a0 x18) x17)) 3329)).bind fun x19 => (some (iadd .i64 (imul .i64 2 z13) 1)).bind fun x20 => if 0 ≤ x20 then (if x20 < 256 then ((some (irem .i32 (iadd .i32 z12 (imul .i32 (rd a0 x20) x17)) 3329)).bind fun x21 => (some (iadd .i64 z13 1)).bind fun x22 => ref25_Ntt.l1 K k a0 r3 x10 x19 x21 x22) else none) else none) else none) else none) else none) else none) else (some (z11, z12))

def ref25_Ntt.l0 (K : Nat) : Nat → (Arr 256) → (Arr 256) → Int → (Arr 256) → Option ((Arr 256))
  | 0, _, _, _, _ => none
  | k + 1, a0, r3, z6, z7 => if z6 < 128 then ((ref25_turned.f K z6).bind fun r9 => (some (iadd .i64 (imul .i64 2 r9) 1)).bind fun x10 => (ref25_Ntt.l1 K K a0 r3 x10 0 0 0).bind fun (y14, y15) => (some (imul .i64 2 z6)).bind fun x23 => if 0 ≤ x23 then (if x23 < 256 then ((some (iadd .i64 (imul .i64 2 z6) 1)).bind fun x24 => if 0 ≤ x24 then (if x24 < 256 then ((some (iadd .i64 z6 1)).bind fun x25 => ref25_Ntt.l0 K k a0 r3 x25 (wr (wr z7 x23 y14) x24 y15)) else none) else none) else none) else none) else (some z7)

def ref25_Ntt.f (K : Nat) (a0 : Arr 256) : Option ((Arr 256)) :=
  (ref25_powers.f K).bind fun r3 => (ref25_Ntt.l0 K K a0 r3 0 (zeroA 256)).bind fun y8 => some y8

def ref25_Back.l1 (K : Nat) : Nat → (Arr 256) → (Arr 256) → Int → Int → Int → Int → Option (Int × Int)
  | 0, _, _, _, _, _, _ => none
  | k + 1, a0, r3, z6, z9, z10, z11 => if z11 < 128 then ((ref25_turned.f K z11).bind fun r14 => (some (irem .i64 (isub .i64 256 (irem .i64 (imul .i64 (iadd .i64 (imul .i64 2 r14) 1) z6) 256)) 256)).bind fun x15 => if 0 ≤ x15 then (if x15 < 256 then ((some (rd r3 x15)).bind fun x16 => (some (imul .i64 2 z11)).bind fun x17 => if 0 ≤ x17 then (if x17 < 256 then ((some (irem .i32 (iadd .i32 z9 (imul .i32 (rd a0 x17) x16)) 3329)).bind fun x18 => (some (iadd .i64 (imul .i64 2 z11) 1)).bind fun x19 => if 0 ≤ x19 then (if x19 < 256 then ((some (irem .i32 (iadd .i32 z10 (imul .i32 (rd a0 x19) x16)) 3329)).bind fun x20 => (some (iadd .i64 z11 1)).bind fun x21 => ref25_Back.l1 K k a0 r3 z6 x18 x20 x21) else none) else none) else none) else none) else none) else none) else (some (z9, z10))

def ref25_Back.l0 (K : Nat) : Nat → (Arr 256) → (Arr 256) → Int → (Arr 256) → Option ((Arr 256))
  | 0, _, _, _, _ => none
  | k + 1, a0, r3, z6, z7 => if z6 < 128 then ((ref25_Back.l1 K K a0 r3 z6 0 0 0).bind fun (y12, y13) => (some (imul .i64 2 z6)).bind fun x22 => if 0 ≤ x22 then (if x22 < 256 then ((some (irem .i32 (imul .i32 y12 3303) 3329)).bind fun x23 => (some (iadd .i64 (imul .i64 2 z6) 1)).bind fun x24 => if 0 ≤ x24 then (if x24 < 256 then ((some (irem .i32 (imul .i32 y13 3303) 3329)).bind fun x25 => (some (iadd .i64 z6 1)).bind fun x26 => ref25_Back.l0 K k a0 r3 x26 (wr (wr z7 x22 x23) x24 x25)) else none) else none) else none) else none) else (some z7)

def ref25_Back.f (K : Nat) (a0 : Arr 256) : Option ((Arr 256)) :=
  (ref25_powers.f K).bind fun r3 => (ref25_Back.l0 K K a0 r3 0 (zeroA 256)).bind fun y8 => some y8

def ref25_Mul.l0 (K : Nat) : Nat → (Arr 256) → (Arr 256) → (Arr 256) → Int → (Arr 256) → Option ((Arr 256))
  | 0, _, _, _, _, _ => none
  | k + 1, a0, a1, r4, z7, z8 => if z7 < 128 then ((ref25_turned.f K z7).bind fun r10 => (some (iadd .i64 (imul .i64 2 r10) 1)).bind fun x11 => if 0 ≤ x11 then (if x11 < 256 then ((some (rd r4 x11)).bind fun x12 => (some (imul .i64 2 z7)).bind fun x13 => if 0 ≤ x13 then (if x13 < 256 then ((some (imul .i64 2 z7)).bind fun x14 => if 0 ≤ x14 then (if x14 < 256 then ((some (iadd .i64 (imul .i64 2 z7) 1)).bind fun x15 => if 0 ≤ x15 then (if x15 < 256 then ((some (iadd .i64 (imul .i64 2 z7) 1)).bind fun x16 => if 0 ≤ x16 then (if x16 < 256 then ((some (imul .i64 2 z7)).bind fun x17 => if 0 ≤ x17 then (if x17 < 256 then ((some (irem .i32 (iadd .i32 (imul .i32 (rd a0 x13) (rd a1 x14)) (imul .i32 (irem .i32 (imul .i32 (rd a0 x15) (rd a1 x16)) 3329) x12)) 3329)).bind fun x18 => (some (imul .i64 2 z7)).bind fun x19 => if 0 ≤ x19 then (if x19 < 256 then ((some (iadd .i64 (imul .i64 2 z7) 1)).bind fun x20 => if 0 ≤ x20 then (if x20 < 256 then ((some (iadd .i64 (imul .i64 2 z7) 1)).bind fun x21 => if 0 ≤ x21 then (if x21 < 256 then ((some (imul .i64 2 z7)).bind fun x22 => if 0 ≤ x22 then (if x22 < 256 then ((some (iadd .i64 (imul .i64 2 z7) 1)).bind fun x23 => if 0 ≤ x23 then (if x23 < 256 then ((some (irem .i32 (iadd .i32 (imul .i32 (rd a0 x19) (rd a1 x20)) (imul .i32 (rd a0 x21) (rd a1 x22))) 3329)).bind fun x24 => (some (iadd .i64 z7 1)).bind fun x25 => ref25_Mul.l0 K k a0 a1 r4 x25 (wr (wr z8 x17 x18) x23 x24)) else none) else none) else none) else none) else none) else none) else none) else none) else none) else none) else none) else none) else none) else none) else none) else none) else none) else none) else none) else none) else none) else none) else (some z8)

def ref25_Mul.f (K : Nat) (a0 : Arr 256) (a1 : Arr 256) : Option ((Arr 256)) :=
  (ref25_powers.f K).bind fun r4 => (ref25_Mul.l0 K K a0 a1 r4 0 (zeroA 256)).bind fun y9 => some y9

end Go.Proofs.Ytijahfdldlmnhaa
