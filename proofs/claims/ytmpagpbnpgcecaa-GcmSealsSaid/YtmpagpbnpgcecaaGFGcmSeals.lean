/- Printed by this work's own program: the plain forms of the functions that the laws reach. -/
import Derived.Test.YtmpagpbnpgcecaaGF0
set_option linter.unusedVariables false
set_option linter.unusedSimpArgs false
namespace Go.Proofs.Ytmpagpbnpgcecaa
open Go.Mx

def ref01_Be.l0 (K : Nat) : Nat → Int → Int → (List Int) → Option ((List Int))
  | 0, _, _, _ => none
  | k + 1, z3, z4, z5 => if z4 ≥ 0 then (if 0 ≤ z4 then (if z4 < z5.length then ((some (iconv .u8 (iand .u64 z3 255))).bind fun x7 => (some (ishr .u64 z3 8)).bind fun x8 => (some (isub .i64 z4 1)).bind fun x9 => ref01_Be.l0 K k x8 x9 (wrL z5 z4 x7)) else none) else none) else (some z5)

def ref01_Be.f (K : Nat) (a0 : Int) (a1 : Int) : Option ((List Int)) :=
  if a1 < 0 then (some ([] : List Int)) else (if a1 > 65536 then (some ([] : List Int)) else (if 0 ≤ a1 then (if a1 ≤ 140737488355328 then ((some (isub .i64 a1 1)).bind fun x2 => (ref01_Be.l0 K K a0 x2 (List.replicate (a1 : Int).toNat (Cod.zero (CI .u8)))).bind fun y6 => some y6) else none) else none))

def ref10_Many_s.l0 (K : Nat) : Nat → (List (List Int)) → (Arr 256) → (List Int) → Int → (List (List Int)) → Option ((List (List Int)))
  | 0, _, _, _, _, _ => none
  | k + 1, ca1, r2, r6, z7, z8 => if z7 < (ca1.length : Int) then (if 0 ≤ z7 then (if z7 < ca1.length then ((ref10_there.f K r6 (rdLL ca1 z7) r2).bind fun r11 => if z8.length + 1 ≤ 5864062014805 then ((some (iadd .i64 z7 1)).bind fun x14 => ref10_Many_s.l0 K k ca1 r2 r6 x14 (z8 ++ [r11])) else none) else none) else none) else (some z8)

def ref10_Many_s.f (K : Nat) (ca0 : List Int) (ca1 : List (List Int)) : Option ((List (List Int))) :=
  (ref10_boxes.f K).bind fun (r2, r3) => (ref10_keys.f K ca0 r2).bind fun r6 => (ref10_Many_s.l0 K K ca1 r2 r6 0 ([] : List (List Int))).bind fun y9 => some y9

def ref12_filled.f (K : Nat) (a0 : List Int) : Option ((List Int)) :=
  if 0 ≤ (irem .i64 (isub .i64 16 (irem .i64 (a0.length : Int) 16)) 16) then (if (irem .i64 (isub .i64 16 (irem .i64 (a0.length : Int) 16)) 16) ≤ 140737488355328 then ((ref01_Join.f K ([a0, (List.replicate ((irem .i64 (isub .i64 16 (irem .i64 (a0.length : Int) 16)) 16) : Int).toNat (Cod.zero (CI .u8)))] : List (List Int))).bind fun r3 => some r3) else none) else none

def ref12_tag.f (K : Nat) (a0 : List Int) (a1 : List Int) (a2 : List Int) (a3 : List Int) : Option ((List Int)) :=
  (ref01_Be.f K (imul .u64 8 (iconv .u64 (a2.length : Int))) 8).bind fun r1 => (ref01_Be.f K (imul .u64 8 (iconv .u64 (a3.length : Int))) 8).bind fun r2 => if r1.length + r2.length ≤ 140737488355328 then ((ref12_filled.f K a2).bind fun r4 => (ref12_filled.f K a3).bind fun r5 => (ref01_Join.f K ([r4, r5, (r1 ++ r2)] : List (List Int))).bind fun r7 => (ref12_Ghash.f K a0 r7).bind fun r8 => (ref01_Xor.f K r8 a1).bind fun r9 => some r9) else none

def ref12_stream_s.l0 (K : Nat) : Nat → (List Int) → (List Int) → Int → (List (List Int)) → Option ((List (List Int)))
  | 0, _, _, _, _ => none
  | k + 1, ca1, ca2, z6, z7 => if z6 ≤ (iquo .i64 (iadd .i64 (ca2.length : Int) 15) 16) then ((ref01_Be.f K (iconv .u64 (iadd .i64 z6 1)) 4).bind fun r9 => (ref01_Join.f K ([ca1, r9] : List (List Int))).bind fun r11 => if z7.length + 1 ≤ 5864062014805 then ((some (iadd .i64 z6 1)).bind fun x14 => ref12_stream_s.l0 K k ca1 ca2 x14 (z7 ++ [r11])) else none) else (some z7)

def ref12_stream_s.f (K : Nat) (ca0 : List Int) (ca1 : List Int) (ca2 : List Int) : Option ((List Int) × (List Int) × (List Int)) :=
  (ref12_stream_s.l0 K K ca1 ca2 0 ([(List.replicate (16 : Int).toNat (Cod.zero (CI .u8)))] : List (List Int))).bind fun y8 => (ref10_Many_s.f K ca0 y8).bind fun r15 => if 0 ≤ (2 : Int) then (if (2 : Int) ≤ (r15.length : Int) then (if (r15.length : Int) ≤ r15.length then (if 0 ≤ (0 : Int) then (if (0 : Int) < r15.length then (if 0 ≤ (1 : Int) then (if (1 : Int) < r15.length then ((ref01_Join.f K (subL r15 2 (r15.length : Int))).bind fun r27 => (ref01_Xor.f K ca2 r27).bind fun r28 => some (r28, (rdLL r15 0), (rdLL r15 1))) else none) else none) else none) else none) else none) else none) else none

def ref12_Seal.f (K : Nat) (a0 : List Int) (a1 : List Int) (a2 : List Int) (a3 : List Int) : Option ((List Int) × Int) :=
  (ref10_Sized.f K a0).bind fun r1 => if r1 = true then (if (a1.length : Int) = 12 then (if (a2.length : Int) > 1048576 then (some (([] : List Int), 2)) else (if (a3.length : Int) > 1048576 then (some (([] : List Int), 2)) else ((ref12_stream_s.f K a0 a1 a3).bind fun (r2, r3, r4) => (ref12_tag.f K r3 r4 a2 r2).bind fun r14 => if r2.length + r14.length ≤ 140737488355328 then (some ((r2 ++ r14), 0)) else none))) else (some (([] : List Int), 14))) else (some (([] : List Int), 10))

def ref12_Open.f (K : Nat) (a0 : List Int) (a1 : List Int) (a2 : List Int) (a3 : List Int) : Option ((List Int) × Int) :=
  (ref10_Sized.f K a0).bind fun r1 => if r1 = true then (if (a1.length : Int) = 12 then (if (a3.length : Int) < 16 then (some (([] : List Int), 14)) else (if (a2.length : Int) > 1048576 then (some (([] : List Int), 2)) else (if (a3.length : Int) > 1048592 then (some (([] : List Int), 2)) else (if 0 ≤ (0 : Int) then (if (0 : Int) ≤ (isub .i64 (a3.length : Int) 16) then (if (isub .i64 (a3.length : Int) 16) ≤ a3.length then ((ref12_stream_s.f K a0 a1 (subL a3 0 (isub .i64 (a3.length : Int) 16))).bind fun (r3, r4, r5) => if 0 ≤ (isub .i64 (a3.length : Int) 16) then (if (isub .i64 (a3.length : Int) 16) ≤ (a3.length : Int) then (if (a3.length : Int) ≤ a3.length then ((ref12_tag.f K r4 r5 a2 (subL a3 0 (isub .i64 (a3.length : Int) 16))).bind fun r16 => (ref01_Same.f K r16 (subL a3 (isub .i64 (a3.length : Int) 16) (a3.length : Int))).bind fun r17 => if r17 = true then (some (r3, 0)) else (some (([] : List Int), 17))) else none) else none) else none) else none) else none) else none)))) else (some (([] : List Int), 14))) else (some (([] : List Int), 10))

end Go.Proofs.Ytmpagpbnpgcecaa
