/- Printed by this work's own program: the plain forms of the functions that the laws reach. -/
import Derived.Test.YtmpagpbnpgcecaaGF0
set_option linter.unusedVariables false
set_option linter.unusedSimpArgs false
namespace Go.Proofs.Ytmpagpbnpgcecaa
open Go.Mx

def aes_Box.f (K : Nat) (a0 : Int) : Option (Int) :=
  (aes_made.f K).bind fun (r1_0, r1_1) => if 0 ≤ a0 then (if a0 < 256 then ((some (rd r1_0 a0)).bind fun x3 => some x3) else none) else none

def law10_awake.f (K : Nat) : Option (Bool) :=
  (((aes_Block.f K (List.replicate (15 : Int).toNat (Cod.zero (CI .u8))) (List.replicate (16 : Int).toNat (Cod.zero (CI .u8)))).bind fun (r4, r5) => some r5 : Option (Int))).bind fun y1 => (aes_Box.f K 0).bind fun r10 => if r10 = 99 then ((aes_Box.f K 83).bind fun r11 => if r11 = 237 then ((aes_Mul.f K 87 131).bind fun r12 => if r12 = 193 then (some (y1 == 10)) else (some false)) else (some false)) else (some false)

def ref10_Block.f (K : Nat) (a0 : List Int) (a1 : List Int) : Option ((List Int) × Int) :=
  (ref10_Sized.f K a0).bind fun r1 => if r1 = true then (if (a1.length : Int) = 16 then ((ref10_boxes.f K).bind fun (r2, r3) => (ref10_keys.f K a0 r2).bind fun r6 => (ref10_there.f K r6 a1 r2).bind fun r7 => some (r7, 0)) else (some (([] : List Int), 14))) else (some (([] : List Int), 10))

def aes_unmix.l0 (K : Nat) : Nat → Int → (Arr 16) → Option ((Arr 16))
  | 0, _, _ => none
  | k + 1, z1, z2 => if z1 < 3 then ((aes_mix.f K z2).bind fun r4 => aes_unmix.l0 K k (iadd .i64 z1 1) r4) else (some z2)

def aes_unmix.f (K : Nat) (a0 : Arr 16) : Option ((Arr 16)) :=
  (aes_unmix.l0 K K 0 a0).bind fun y3 => some y3

def aes_cipher_undo_s.l1 (K : Nat) : Nat → (Arr 256) → (Arr 16) → Int → (Arr 16) → Option ((Arr 16))
  | 0, _, _, _, _ => none
  | k + 1, ca1, y9, z12, z13 => if z12 < 16 then (if 0 ≤ z12 then (if z12 < 16 then ((some (rd y9 z12)).bind fun x15 => if 0 ≤ x15 then (if x15 < 256 then ((some (irem .i64 (iadd .i64 z12 (imul .i64 4 (irem .i64 z12 4))) 16)).bind fun x16 => if 0 ≤ x16 then (if x16 < 16 then ((some (rd ca1 x15)).bind fun x17 => aes_cipher_undo_s.l1 K k ca1 y9 (iadd .i64 z12 1) (wr z13 x16 x17)) else none) else none) else none) else none) else none) else none) else (some z13)

def aes_cipher_undo_s.l0 (K : Nat) : Nat → (Arr 256) → (Arr 256) → (List (Arr 16)) → Int → Int → (Arr 16) → Option ((Arr 16))
  | 0, _, _, _, _, _, _ => none
  | k + 1, ca0, ca1, ca2, x4, z5, z6 => if z5 > 0 then ((aes_cipher_add_s.f K ca0 ca1 ca2 z6 z5).bind fun r8 => ((if z5 < x4 then ((aes_unmix.f K r8).bind fun r10 => some r10) else (some r8) : Option ((Arr 16)))).bind fun y9 => (aes_cipher_undo_s.l1 K K ca1 y9 0 (zeroA 16)).bind fun y14 => (some (isub .i64 z5 1)).bind fun x18 => aes_cipher_undo_s.l0 K k ca0 ca1 ca2 x4 x18 y14) else (some z6)

def aes_cipher_undo_s.f (K : Nat) (ca0 : Arr 256) (ca1 : Arr 256) (ca2 : List (Arr 16)) (ca3 : Arr 16) : Option ((Arr 16)) :=
  (some (isub .i64 (ca2.length : Int) 1)).bind fun x4 => (aes_cipher_undo_s.l0 K K ca0 ca1 ca2 x4 x4 ca3).bind fun y7 => (aes_cipher_add_s.f K ca0 ca1 ca2 y7 0).bind fun r19 => some r19

def aes_Back.f (K : Nat) (a0 : List Int) (a1 : List Int) : Option ((List Int) × Int) :=
  (aes_wrong.f K a0 a1).bind fun r1 => if r1 = 0 then (((if 16 ≤ a1.length then ((aes_began_s.f K a0).bind fun (r4, r5, r6) => (aes_cipher_undo_s.f K r4 r5 r6 (arrL 16 a1)).bind fun r12 => some r12) else none : Option ((Arr 16)))).bind fun y3 => some ((subL (lA y3) 0 16), 0)) else (some (([] : List Int), r1))

def ref10_back.l0 (K : Nat) : Nat → (List Int) → (Arr 256) → Int → Int → (List Int) → Option ((List Int))
  | 0, _, _, _, _, _ => none
  | k + 1, a0, a2, x2, z3, z4 => if z3 ≥ 1 then (if 0 ≤ (imul .i64 16 z3) then (if (imul .i64 16 z3) ≤ (iadd .i64 (imul .i64 16 z3) 16) then (if (iadd .i64 (imul .i64 16 z3) 16) ≤ a0.length then ((ref01_Xor.f K z4 (subL a0 (imul .i64 16 z3) (iadd .i64 (imul .i64 16 z3) 16))).bind fun r7 => ((if z3 < x2 then ((ref10_columns.f K r7 (wr (wr (wr (wr (zeroA 4) 0 14) 1 11) 2 13) 3 9)).bind fun r9 => some r9) else (some r7) : Option ((List Int)))).bind fun y8 => (ref10_rows.f K y8 (-1)).bind fun r10 => (ref10_each.f K r10 a2).bind fun r11 => (some (isub .i64 z3 1)).bind fun x12 => ref10_back.l0 K k a0 a2 x2 x12 r11) else none) else none) else none) else (some z4)

def ref10_back.f (K : Nat) (a0 : List Int) (a1 : List Int) (a2 : Arr 256) : Option ((List Int)) :=
  (some (isub .i64 (iquo .i64 (a0.length : Int) 16) 1)).bind fun x2 => (ref10_back.l0 K K a0 a2 x2 x2 a1).bind fun y5 => if 0 ≤ (0 : Int) then (if (0 : Int) ≤ (16 : Int) then (if (16 : Int) ≤ a0.length then ((ref01_Xor.f K y5 (subL a0 0 16)).bind fun r14 => some r14) else none) else none) else none

def ref10_Back.f (K : Nat) (a0 : List Int) (a1 : List Int) : Option ((List Int) × Int) :=
  (ref10_Sized.f K a0).bind fun r1 => if r1 = true then (if (a1.length : Int) = 16 then ((ref10_boxes.f K).bind fun (r2, r3) => (ref10_keys.f K a0 r2).bind fun r6 => (ref10_back.f K r6 a1 r3).bind fun r7 => some (r7, 0)) else (some (([] : List Int), 14))) else (some (([] : List Int), 10))

end Go.Proofs.Ytmpagpbnpgcecaa
