/- Layer 21: there and back, in plain Lean. -/
import Derived.Test.YtijahfdldlmnhaaLZqBack
import Derived.Test.YtijahfdldlmnhaaQd
namespace Go.Proofs.Ytijahfdldlmnhaa.Pure
open Go.Mx
abbrev P1 := Arr 256 → Option (Arr 256)
abbrev P2 := Arr 256 → Arr 256 → Option (Arr 256)
/-- The law with the functions' names taken out. -/
theorem back_core {gF : Arr 256 → Option Bool} {gA : Option Bool} {gN gB : P1} {gT gM gP gS : P2} {N B : Arr 256 → Arr 256} {T M P S : Arr 256 → Arr 256 → Arr 256} {x o : Arr 256}
    (eF : ∀ a, gF a = some (allA fitQ a)) (eA : gA = some true) (eN : ∀ a, FitP a → gN a = some (N a)) (eB : ∀ a, FitP a → gB a = some (B a)) (eT : ∀ a b, FitP a → FitP b → gT a b = some (T a b))
    (eM : ∀ a b, FitP a → FitP b → gM a b = some (M a b)) (eP : ∀ a b, FitP a → FitP b → gP a b = some (P a b)) (eS : ∀ a b, FitP a → FitP b → gS a b = some (S a b))
    (fX : FitP x) (fN : ∀ {a}, FitP a → FitP (N a)) (fB : ∀ a, FitP (B a)) (fT : ∀ a b, FitP (T a b)) (fP : ∀ a b, FitP (P a b)) (fS : ∀ a b, FitP (S a b))
    (l1 : ∀ a, FitP a → B (N a) = a) (l2 : ∀ a, FitP a → N (B a) = a) (l3 : ∀ a b, N (T a b) = M (N a) (N b)) (l4 : ∀ a b c, FitP a → FitP b → FitP c → T a (P b c) = P (T a b) (T a c))
    (l5 : ∀ a b, FitP a → FitP b → P (S a b) b = a) (l6 : ∀ a, FitP a → T x (T x a) = S o a) (l7 : ∀ a, FitP a → P (S o a) a = o) (a b c : Arr 256) :
    ((gF a).bind fun r4 => if r4 = true then ((gF b).bind fun r5 => if r5 = true then ((gF c).bind fun r6 => if r6 = true then ((gN a).bind fun r7 => (gB r7).bind fun r8 => if (!(eqA r8 a)) = true then (some false) else ((gB a).bind fun r9 => (gN r9).bind fun r10 => if (!(eqA r10 a)) = true then (some false) else ((gT a b).bind fun r11 => (gN r11).bind fun r12 => (gN a).bind fun r13 => (gN b).bind fun r14 => (gM r13 r14).bind fun r15 => if (!(eqA r12 r15)) = true then (some false) else ((gP b c).bind fun r16 => (gT a r16).bind fun r17 => (gT a b).bind fun r18 => (gT a c).bind fun r19 => (gP r18 r19).bind fun r20 => if (!(eqA r17 r20)) = true then (some false) else ((gS a b).bind fun r21 => (gP r21 b).bind fun r22 => if (!(eqA r22 a)) = true then (some false) else ((gT x a).bind fun r24 => (gT x r24).bind fun r25 => (gP r25 a).bind fun r27 => if (eqA r27 o) = true then (gA.bind fun r28 => some r28) else (some false))))))) else (gA.bind fun r29 => some r29)) else (gA.bind fun r30 => some r30)) else (gA.bind fun r31 => some r31)) = some true := by
  cases ha : allA fitQ a with
  | false => simp [eF, ha, eA]
  | true =>
    cases hb : allA fitQ b with
    | false => simp [eF, ha, hb, eA]
    | true =>
      cases hc : allA fitQ c with
      | false => simp [eF, ha, hb, hc, eA]
      | true =>
        have fa := fitP_of ha
        have fb := fitP_of hb
        have fc := fitP_of hc
        simp only [eF, ha, hb, hc, if_true, eN a fa, eN b fb, Option.bind_some, eB a fa, eB _ (fN fa), l1 a fa, eqA_self, Bool.not_true, Bool.false_eq_true, if_false,
          eN _ (fB a), l2 a fa, eT a b fa fb, eN _ (fT a b), eM _ _ (fN fa) (fN fb), l3,
          eP b c fb fc, eT a _ fa (fP b c), eT a c fa fc, eP _ _ (fT a b) (fT a c), l4 a b c fa fb fc,
          eS a b fa fb, eP _ b (fS a b) fb, l5 a b fa fb, eT x a fX fa, eT x _ fX (fT x a), l6 a fa,
          eP _ a (fS o a) fa, l7 a fa, eA]
theorem ZqBack : law21_ZqBack.Pure := by
  intro a _ b _ c _
  refine ⟨KK, ?_⟩
  have hK : 256 < KK := by decide
  rw [law21_ZqBack.f]
  exact back_core (gF := ref21_Fit.f KK) (gA := law21_awake.f KK) (gN := zq_Ntt.f KK) (gB := zq_Back.f KK) (gT := zq_Times.f KK) (gM := zq_Mul.f KK) (gP := zq_Add.f KK) (gS := zq_Sub.f KK) (N := pntt) (B := pback) (T := ptimes) (M := pmul) (P := padd) (S := psub)
    (ref21_Fit_eq KK hK) awake21 zq_Ntt_eq zq_Back_eq zq_Times_eq (zq_Mul_eq KK hK) (zq_Add_eq KK hK) (zq_Sub_eq KK hK) fit_pX fit_pntt fit_pback fit_ptimes fit_padd fit_psub pback_pntt pntt_pback pntt_ptimes ptimes_padd padd_psub pX_pX
    (fun a fa => padd_psub _ _ fit_zero fa) a b c
end Go.Proofs.Ytijahfdldlmnhaa.Pure
