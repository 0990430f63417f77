/- Layer 21: values and products are the document's, in plain Lean. -/
import Derived.Test.YtijahfdldlmnhaaLZqValues
import Derived.Test.YtijahfdldlmnhaaQe
namespace Go.Proofs.Ytijahfdldlmnhaa.Pure
open Go.Mx
abbrev W1 := Arr 256 → Option (Arr 256)
abbrev W2 := Arr 256 → Arr 256 → Option (Arr 256)
theorem values_core {gF : Arr 256 → Option Bool} {gA : Option Bool} {gN rN gB rB : W1} {gM rM gT rT : W2} {N B : Arr 256 → Arr 256} {M T : Arr 256 → Arr 256 → Arr 256}
    (eF : ∀ a, gF a = some (allA fitQ a)) (eA : gA = some true) (eN : ∀ a, FitP a → gN a = some (N a)) (dN : ∀ a, FitP a → rN a = some (N a)) (eB : ∀ a, FitP a → gB a = some (B a)) (dB : ∀ a, FitP a → rB a = some (B a))
    (eM : ∀ a b, FitP a → FitP b → gM a b = some (M a b)) (dM : ∀ a b, FitP a → FitP b → rM a b = some (M a b)) (eT : ∀ a b, FitP a → FitP b → gT a b = some (T a b)) (dT : ∀ a b, FitP a → FitP b → rT a b = some (T a b)) (a0 a1 : Arr 256) :
    ((gF a0).bind fun r3 => if r3 = true then ((gF a1).bind fun r4 => if r4 = true then ((gN a0).bind fun r5 => (rN a0).bind fun r6 => if (eqA r5 r6) = true then ((gB a0).bind fun r7 => (rB a0).bind fun r8 => if (eqA r7 r8) = true then ((gM a0 a1).bind fun r9 => (rM a0 a1).bind fun r10 => if (eqA r9 r10) = true then ((gT a0 a1).bind fun r11 => (rT a0 a1).bind fun r12 => if (eqA r11 r12) = true then (gA.bind fun r13 => some r13) else (some false)) else (some false)) else (some false)) else (some false)) else (gA.bind fun r14 => some r14)) else (gA.bind fun r15 => some r15)) = some true := by
  cases ha : allA fitQ a0 with
  | false => simp [eF, ha, eA]
  | true =>
    cases hb : allA fitQ a1 with
    | false => simp [eF, ha, hb, eA]
    | true =>
      have fa := fitP_of ha
      have fb := fitP_of hb
      simp only [eF, ha, hb, if_true, eN a0 fa, dN a0 fa, eB a0 fa, dB a0 fa, eM a0 a1 fa fb, dM a0 a1 fa fb, eT a0 a1 fa fb, dT a0 a1 fa fb, Option.bind_some, eqA_self, eA]
theorem ZqValues : law21_ZqValues.Pure := by
  intro a _ b _
  refine ⟨KK, ?_⟩
  have hK : 256 < KK := by decide
  rw [law21_ZqValues.f]
  exact values_core (gF := ref21_Fit.f KK) (gA := law21_awake.f KK) (gN := zq_Ntt.f KK) (rN := ref21_Ntt.f KK) (gB := zq_Back.f KK) (rB := ref21_Back.f KK) (gM := zq_Mul.f KK) (rM := ref21_Mul.f KK) (gT := zq_Times.f KK) (rT := ref21_Times.f KK)
    (ref21_Fit_eq KK hK) awake21 zq_Ntt_eq ref21_Ntt_eq zq_Back_eq ref21_Back_eq (zq_Mul_eq KK hK) (ref21_Mul_eq KK hK) zq_Times_eq ref21_Times_eq a b
end Go.Proofs.Ytijahfdldlmnhaa.Pure
