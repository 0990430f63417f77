/- Printed by this work's own program: the plain form of the law. -/
import Derived.Test.YtppohhnfojalbaaDoorVFDsampBounds
import Derived.Test.YtppohhnfojalbaaDoorMp
set_option linter.unusedVariables false
set_option linter.unusedSimpArgs false
namespace Go.Proofs.YtppohhnfojalbaaDoor
open Go.Mx

def law23_DsampBounds.l0 (K : Nat) : Nat → (Arr 256) → Int → Int → Option (Int)
  | 0, _, _, _ => none
  | k + 1, r14, z23, z24 => if z24 < 256 then (((if 0 ≤ z24 then (if z24 < 256 then ((some (rd r14 z24)).bind fun x27 => if x27 = 0 then (some z23) else ((some (iadd .i64 z23 1)).bind fun x28 => some x28)) else none) else none : Option (Int))).bind fun y26 => law23_DsampBounds.l0 K k r14 y26 (iadd .i64 z24 1)) else (some z23)

def law23_DsampBounds.f (K : Nat) (a0 : List Int) (a1 : Int) (a2 : Bool) (a3 : Bool) (a4 : Int) : Option (Bool) :=
  if (a0.length : Int) > 300 then ((law23_awake.f K).bind fun r1 => some r1) else (((if a2 = true then (some 4) else (some 2) : Option (Int))).bind fun y2 => ((if a3 = true then (some 524288) else (some 131072) : Option (Int))).bind fun y3 => (dsamp_Values.f K a0 (iconv .u8 a1) (iconv .u8 (ishr .u16 a1 8))).bind fun (r4, r5) => (dsamp_Small.f K a0 a1 y2).bind fun (r7, r8) => (dsamp_Mask.f K a0 a1 y3).bind fun (r10, r11) => (some (iadd .i64 1 (iconv .i64 (irem .u8 a4 64)))).bind fun x13 => (dsamp_Ball.f K a0 x13).bind fun (r14, r15) => (ref21_Fit.f K r4).bind fun r17 => if r17 = true then ((ref21_Fit.f K r7).bind fun r18 => if r18 = true then ((ref21_Fit.f K r10).bind fun r19 => if r19 = true then ((ref21_Fit.f K r14).bind fun r20 => if r20 = true then ((ref21_Norm.f K r7).bind fun r21 => if r21 > y2 then (some false) else ((ref21_Norm.f K r10).bind fun r22 => if r22 > y3 then (some false) else (if r11 = 0 then ((law23_DsampBounds.l0 K K r14 0 0).bind fun y25 => ((if r15 = 0 then (if y25 = x13 then ((ref21_Norm.f K r14).bind fun r29 => if r29 = 1 then (if r15 = 0 then (some (.inl ())) else (if y25 = 0 then (some (.inl ())) else (some (.inr false)))) else (some (.inr false))) else (some (.inr false))) else (if r15 = 0 then (some (.inl ())) else (if y25 = 0 then (some (.inl ())) else (some (.inr false)))) : Option ((Unit) ⊕ (Bool)))).bind fun tv57 => (match tv57 with | .inl _ => if r5 = 0 then (if r8 = 0 then ((law23_awake.f K).bind fun r30 => some r30) else (if (eqA r7 (zeroA 256)) = true then ((law23_awake.f K).bind fun r31 => some r31) else (some false))) else (if (eqA r4 (zeroA 256)) = true then (if r8 = 0 then ((law23_awake.f K).bind fun r32 => some r32) else (if (eqA r7 (zeroA 256)) = true then ((law23_awake.f K).bind fun r33 => some r33) else (some false))) else (some false)) | .inr r => some r)) else (some false)))) else (some false)) else (some false)) else (some false)) else (some false))

def law23_DsampBounds.Pure : Prop := ∀ (a0 : List Int), InL .u8 a0 → ∀ (a1 : Int), InR .u16 a1 → ∀ (a2 : Bool), ∀ (a3 : Bool), ∀ (a4 : Int), InR .u8 a4 → ∃ K, law23_DsampBounds.f K a0 a1 a2 a3 a4 = some true

end Go.Proofs.YtppohhnfojalbaaDoor
