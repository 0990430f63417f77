/- Printed by this work's own program: the plain forms of the functions that the laws reach. -/
import Derived.Test.YtijahfdldlmnhaaMt
set_option linter.unusedVariables false
namespace Go.Proofs.Ytijahfdldlmnhaa
open Go.Mx

def ref25_Below.l0 (K : Nat) : Nat → (Arr 256) → Int → Int → Option ((Unit) ⊕ (Bool))
  | 0, _, _, _ => none
  | k + 1, a0, a1, z2 => if z2 < 256 then (if 0 ≤ z2 then (if z2 < 256 then (if (rd a0 z2) < 0 then (some (.inr false)) else (if 0 ≤ z2 then (if z2 < 256 then (if (rd a0 z2) ≥ a1 then (some (.inr false)) else ((some (iadd .i64 z2 1)).bind fun x3 => ref25_Below.l0 K k a0 a1 x3)) else none) else none)) else none) else none) else (some (.inl ()))

def ref25_Below.f (K : Nat) (a0 : Arr 256) (a1 : Int) : Option (Bool) :=
  (ref25_Below.l0 K K a0 a1 0).bind fun t0 => (match t0 with | .inl _ => some true | .inr r => some r)

def ref25_Fit.f (K : Nat) (a0 : Arr 256) : Option (Bool) :=
  (ref25_Below.f K a0 3329).bind fun r2 => some r2

def kq_Squeeze.l0 (K : Nat) : Nat → (Arr 256) → Int → Int → (Arr 256) → Option ((Arr 256))
  | 0, _, _, _, _ => none
  | k + 1, a0, a1, z3, z4 => if z3 < 256 then (if 0 ≤ z3 then (if z3 < 256 then ((some (rd a0 z3)).bind fun x6 => if 0 ≤ a1 then (if 0 ≤ a1 then (if 0 ≤ z3 then (if z3 < 256 then ((some (iand .i32 (iquo .i32 (iadd .i32 (ishl .i32 x6 a1) 1664) 3329) (isub .i32 (ishl .i32 1 a1) 1))).bind fun x7 => kq_Squeeze.l0 K k a0 a1 (iadd .i64 z3 1) (wr z4 z3 x7)) else none) else none) else none) else none) else none) else none) else (some z4)

def kq_Squeeze.f (K : Nat) (a0 : Arr 256) (a1 : Int) : Option ((Arr 256)) :=
  if a1 < 1 then (some (zeroA 256)) else (if a1 ≥ 12 then (some (zeroA 256)) else ((kq_Squeeze.l0 K K a0 a1 0 a0).bind fun y5 => some y5))

def kq_below.l0 (K : Nat) : Nat → (Arr 256) → Int → Int → Option ((Unit) ⊕ (Bool))
  | 0, _, _, _ => none
  | k + 1, a0, a1, z2 => if z2 < 256 then (if 0 ≤ z2 then (if z2 < 256 then ((some (rd a0 z2)).bind fun x3 => if x3 < 0 then (some (.inr false)) else (if x3 ≥ a1 then (some (.inr false)) else (kq_below.l0 K k a0 a1 (iadd .i64 z2 1)))) else none) else none) else (some (.inl ()))

def kq_below.f (K : Nat) (a0 : Arr 256) (a1 : Int) : Option (Bool) :=
  (kq_below.l0 K K a0 a1 0).bind fun t0 => (match t0 with | .inl _ => some true | .inr r => some r)

def bits_such.f (K : Nat) (a0 : List Int) (a1 : Int) (a2 : Int) : Option (Bool) :=
  if a1 ≥ 1 then (if a1 ≤ 24 then (if a2 ≥ 0 then (if ¬ a1 = 0 then (some (decide (a2 ≤ (iquo .i64 (imul .i64 (a0.length : Int) 8) a1)))) else none) else (some false)) else (some false)) else (some false)

def bits_Unpack.l1 (K : Nat) : Nat → Int → Int → Int → (List Int) → Option (Int × Int × (List Int))
  | 0, _, _, _, _ => none
  | k + 1, a1, z9, z10, z11 => if z10 < a1 then (if 0 ≤ (0 : Int) then (if (0 : Int) < z11.length then (if 0 ≤ z10 then (if 0 ≤ (1 : Int) then (if (1 : Int) ≤ (z11.length : Int) then (if (z11.length : Int) ≤ z11.length then ((some (ior .u64 z9 (ishl .u64 (iconv .u64 (rdL (CI .u8) z11 0)) z10))).bind fun x16 => (some (iadd .i64 z10 8)).bind fun x17 => bits_Unpack.l1 K k a1 x16 x17 (subL z11 1 (z11.length : Int))) else none) else none) else none) else none) else none) else none) else (some (z9, z10, z11))

def bits_Unpack.l0 (K : Nat) : Nat → Int → Int → Int → Int → Int → (List Int) → (List Int) → Option ((List Int))
  | 0, _, _, _, _, _, _, _ => none
  | k + 1, a1, a2, z3, z4, z5, z6, z7 => if z5 < ((List.replicate (a2 : Int).toNat (Cod.zero (CI .u32))).length : Int) then ((bits_Unpack.l1 K K a1 z3 z4 z7).bind fun (y12, y13, y14) => if 0 ≤ a1 then (if 0 ≤ z5 then (if z5 < z6.length then ((some (iconv .u32 (iand .u64 y12 (isub .u64 (ishl .u64 1 a1) 1)))).bind fun x18 => if 0 ≤ a1 then ((some (ishr .u64 y12 a1)).bind fun x19 => (some (isub .i64 y13 a1)).bind fun x20 => bits_Unpack.l0 K k a1 a2 x19 x20 (iadd .i64 z5 1) (wrL z6 z5 x18) y14) else none) else none) else none) else none) else (some z6)

def bits_Unpack.f (K : Nat) (a0 : List Int) (a1 : Int) (a2 : Int) : Option ((List Int)) :=
  (bits_such.f K a0 a1 a2).bind fun r1 => if r1 = true then (if 0 ≤ a2 then (if a2 ≤ 35184372088832 then ((bits_Unpack.l0 K K a1 a2 0 0 0 (List.replicate (a2 : Int).toNat (Cod.zero (CI .u32))) a0).bind fun y8 => some y8) else none) else none) else (some ([] : List Int))

def kq_bound.f (K : Nat) (a0 : Int) : Option (Int) :=
  if a0 = 12 then (some 3329) else (if 0 ≤ a0 then ((some (ishl .i32 1 a0)).bind fun x1 => some x1) else none)

def kq_Unpack.l0 (K : Nat) : Nat → (List Int) → Int → (Arr 256) → Option ((Arr 256))
  | 0, _, _, _ => none
  | k + 1, r3, z4, z5 => if z4 < (r3.length : Int) then (if 0 ≤ z4 then (if z4 < r3.length then ((some (rdL (CI .u32) r3 z4)).bind fun x7 => if 0 ≤ z4 then (if z4 < 256 then ((some (iconv .i32 x7)).bind fun x8 => kq_Unpack.l0 K k r3 (iadd .i64 z4 1) (wr z5 z4 x8)) else none) else none) else none) else none) else (some z5)

def kq_Unpack.f (K : Nat) (a0 : List Int) (a1 : Int) : Option ((Arr 256) × Bool) :=
  if a1 < 1 then (some ((zeroA 256), false)) else (if a1 > 12 then (some ((zeroA 256), false)) else (if (a0.length : Int) = (imul .i64 32 a1) then ((bits_Unpack.f K a0 a1 256).bind fun r3 => (kq_Unpack.l0 K K r3 0 (zeroA 256)).bind fun y6 => (kq_bound.f K a1).bind fun r9 => (kq_below.f K y6 r9).bind fun r10 => if r10 = true then (some (y6, true)) else (some ((zeroA 256), false))) else (some ((zeroA 256), false))))

def law25_awake.l0 (K : Nat) : Nat → Int → (List Int) → Option ((List Int))
  | 0, _, _ => none
  | k + 1, z4, z5 => if z4 < ((List.replicate (384 : Int).toNat (Cod.zero (CI .u8))).length : Int) then (if 0 ≤ z4 then (if z4 < z5.length then (law25_awake.l0 K k (iadd .i64 z4 1) (wrL z5 z4 255)) else none) else none) else (some z5)

def law25_awake.f (K : Nat) : Option (Bool) :=
  (kq_Squeeze.f K (wr (wr (wr (zeroA 256) 0 832) 1 833) 2 2497) 1).bind fun r1 => if 0 ≤ (384 : Int) then (if (384 : Int) ≤ 140737488355328 then ((law25_awake.l0 K K 0 (List.replicate (384 : Int).toNat (Cod.zero (CI .u8)))).bind fun y6 => (kq_Unpack.f K y6 12).bind fun (r7, r8) => if (rd r1 0) = 0 then (if (rd r1 1) = 1 then (if (rd r1 2) = 0 then (some (!r8)) else (some false)) else (some false)) else (some false)) else none) else none

def kq_Widen.l0 (K : Nat) : Nat → (Arr 256) → Int → Int → (Arr 256) → Option ((Arr 256))
  | 0, _, _, _, _ => none
  | k + 1, a0, a1, z4, z5 => if z4 < 256 then (if 0 ≤ z4 then (if z4 < 256 then ((some (rd a0 z4)).bind fun x7 => if 0 ≤ (isub .i64 a1 1) then (if 0 ≤ a1 then (if 0 ≤ z4 then (if z4 < 256 then ((some (ishr .i32 (iadd .i32 (imul .i32 x7 3329) (ishl .i32 1 (isub .i64 a1 1))) a1)).bind fun x8 => kq_Widen.l0 K k a0 a1 (iadd .i64 z4 1) (wr z5 z4 x8)) else none) else none) else none) else none) else none) else none) else (some z5)

def kq_Widen.f (K : Nat) (a0 : Arr 256) (a1 : Int) : Option ((Arr 256)) :=
  if a1 < 1 then (some (zeroA 256)) else (if a1 ≥ 12 then (some (zeroA 256)) else (if 0 ≤ a1 then ((kq_below.f K a0 (ishl .i32 1 a1)).bind fun r3 => if r3 = true then ((kq_Widen.l0 K K a0 a1 0 a0).bind fun y6 => some y6) else (some (zeroA 256))) else none))

def kq_Sub.l0 (K : Nat) : Nat → (Arr 256) → Int → (Arr 256) → Option ((Arr 256))
  | 0, _, _, _ => none
  | k + 1, a1, z4, z5 => if z4 < 256 then (((if 0 ≤ z4 then (if z4 < 256 then (if 0 ≤ z4 then (if z4 < 256 then (if 0 ≤ z4 then (if z4 < 256 then ((some (isub .i32 (rd z5 z4) (rd a1 z4))).bind fun x8 => if 0 ≤ z4 then (if z4 < 256 then (if (rd (wr z5 z4 x8) z4) < 0 then (if 0 ≤ z4 then (if z4 < 256 then (if 0 ≤ z4 then (if z4 < 256 then ((some (iadd .i32 (rd (wr z5 z4 x8) z4) 3329)).bind fun x9 => some (wr (wr z5 z4 x8) z4 x9)) else none) else none) else none) else none) else (some (wr z5 z4 x8))) else none) else none) else none) else none) else none) else none) else none) else none : Option ((Arr 256)))).bind fun y7 => kq_Sub.l0 K k a1 (iadd .i64 z4 1) y7) else (some z5)

def kq_Sub.f (K : Nat) (a0 : Arr 256) (a1 : Arr 256) : Option ((Arr 256)) :=
  (kq_Sub.l0 K K a1 0 a0).bind fun y6 => some y6

end Go.Proofs.Ytijahfdldlmnhaa
