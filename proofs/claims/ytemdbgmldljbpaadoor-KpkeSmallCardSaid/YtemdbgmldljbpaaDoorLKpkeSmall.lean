/- Printed by this work's own program: the plain form of the law. -/
import Derived.Test.YtemdbgmldljbpaaDoorZFKpkeSmall
import Derived.Test.YtemdbgmldljbpaaDoorMp
set_option linter.unusedVariables false
set_option linter.unusedSimpArgs false
namespace Go.Proofs.YtemdbgmldljbpaaDoor
open Go.Mx

def law26_KpkeSmall.l0 (K : Nat) : Nat → Int → (Arr 256) → Int → Option ((Unit) ⊕ (Bool))
  | 0, _, _, _ => none
  | k + 1, y6, r7, z9 => if z9 < 256 then (if 0 ≤ z9 then (if z9 < 256 then ((some (rd r7 z9)).bind fun x10 => if (imin x10 (isub .i32 3329 x10)) > y6 then (some (.inr false)) else (law26_KpkeSmall.l0 K k y6 r7 (iadd .i64 z9 1))) else none) else none) else (some (.inl ()))

def law26_KpkeSmall.f (K : Nat) (a0 : Int) (a1 : Bool) (a2 : Int) (a3 : Arr 32) (a4 : Arr 32) (a5 : Arr 32) : Option (Bool) :=
  (law26_kind.f K (irem .u8 a0 3) 0 0 0 0 0).bind fun (r4_0, r4_1, r4_2, r4_3, r4_4) => ((if a1 = true then (some 3) else (some 2) : Option (Int))).bind fun y6 => (kpke_Noise.f K (iconv .i64 y6) (subL (lA a3) 0 32) a2).bind fun r7 => (law26_KpkeSmall.l0 K K y6 r7 0).bind fun t0 => (match t0 with | .inl _ => (kpke_Keys.f K r4_0 r4_1 r4_2 r4_3 r4_4 (subL (lA a3) 0 32)).bind fun (r11, r12, r13) => (ref25_Fit.f K r7).bind fun r14 => if r14 = true then (if r13 = 0 then ((kpke_Encrypt.f K r4_0 r4_1 r4_2 r4_3 r4_4 r11 (subL (lA a4) 0 32) (subL (lA a5) 0 32)).bind fun (r15, r16) => (kpke_Decrypt.f K r4_0 r4_1 r4_2 r4_3 r4_4 r12 r15).bind fun (r17, r18) => (kpke_Sizes.f K r4_0 r4_1 r4_2 r4_3 r4_4).bind fun (r19, r20, r21) => if r16 = 0 then (if r18 = 0 then (if (r11.length : Int) = r19 then (if (r12.length : Int) = r20 then (if (r15.length : Int) = r21 then (if (r17.length : Int) = 32 then ((law26_awake.f K).bind fun r22 => some r22) else (some false)) else (some false)) else (some false)) else (some false)) else (some false)) else (some false)) else ((ref25_Fit.f K r7).bind fun r23 => if r23 = true then (if r13 = 12 then ((law26_awake.f K).bind fun r24 => some r24) else (some false)) else (some false))) else ((ref25_Fit.f K r7).bind fun r25 => if r25 = true then (if r13 = 12 then ((law26_awake.f K).bind fun r26 => some r26) else (some false)) else (some false)) | .inr r => some r)

def law26_KpkeSmall.Pure : Prop := ∀ (a0 : Int), InR .u8 a0 → ∀ (a1 : Bool), ∀ (a2 : Int), InR .u8 a2 → ∀ (a3 : Arr 32), InA .u8 a3 → ∀ (a4 : Arr 32), InA .u8 a4 → ∀ (a5 : Arr 32), InA .u8 a5 → ∃ K, law26_KpkeSmall.f K a0 a1 a2 a3 a4 a5 = some true

end Go.Proofs.YtemdbgmldljbpaaDoor
