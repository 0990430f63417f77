/- Layer 25: there and back: the polynomial of a polynomial's parts is it, and the other way round; products of parts are those of the product; products go over sums; x to the 256 is -1; bytes of numbers are read as they, and the other way round; in plain Lean. -/
import Derived.Test.YtijahfdldlmnhabLKqBack
import Derived.Test.YtijahfdldlmnhabKw
import Derived.Test.YtijahfdldlmnhabKx
import Derived.Test.YtijahfdldlmnhabKc
set_option linter.unusedSimpArgs false
set_option linter.unusedVariables false
namespace Go.Proofs.Ytijahfdldlmnhab.Pure
open Go Go.Mx
set_option maxHeartbeats 4000000 in
theorem back_core (N B : Arr 256 → Option (Arr 256)) (T M A S : Arr 256 → Arr 256 → Option (Arr 256)) (W : Option Bool) (P : Arr 256 → Int → Option (List Int)) (U : List Int → Int → Option (Arr 256 × Bool)) (E : List Int → List Int → Option Bool)
    (a b c x z : Arr 256) (t : List Int) (d : Int) (na ba nb tab nt s1 t1 tac d1 u1 u2 : Arr 256) (p : List Int) (r : Arr 256 × Bool) (C : Prop) [Decidable C]
    (hW : W = some true) (h1 : N a = some na) (h2 : B na = some a) (h3 : B a = some ba) (h4 : N ba = some a) (h5 : T a b = some tab) (h6 : N tab = some nt) (h7 : N b = some nb) (h8 : M na nb = some nt)
    (h9 : A b c = some s1) (h10 : T a s1 = some t1) (h11 : T a c = some tac) (h12 : A tab tac = some t1) (h13 : S a b = some d1) (h14 : A d1 b = some a) (h15 : T x a = some u1) (h16 : T x u1 = some u2) (h17 : A u2 a = some z)
    (h18 : P a 12 = some p) (h19 : U p 12 = some (a, true)) (h20 : U t d = some r) (h21 : r.2 = true → ∃ q, P r.1 d = some q ∧ E q t = some true) :
    (if C then (W.bind fun r7 => some r7) else ((N a).bind fun r8 => (B r8).bind fun r9 => if (!(eqA r9 a)) = true then (some false) else ((B a).bind fun r10 => (N r10).bind fun r11 => if (!(eqA r11 a)) = true then (some false) else ((T a b).bind fun r12 => (N r12).bind fun r13 => (N a).bind fun r14 => (N b).bind fun r15 => (M r14 r15).bind fun r16 => if (!(eqA r13 r16)) = true then (some false) else ((A b c).bind fun r17 => (T a r17).bind fun r18 => (T a b).bind fun r19 => (T a c).bind fun r20 => (A r19 r20).bind fun r21 => if (!(eqA r18 r21)) = true then (some false) else ((S a b).bind fun r22 => (A r22 b).bind fun r23 => if (!(eqA r23 a)) = true then (some false) else ((T x a).bind fun r25 => (T x r25).bind fun r26 => (A r26 a).bind fun r27 => if (!(eqA r27 z)) = true then (some false) else ((P a 12).bind fun r28 => (U r28 12).bind fun (r29, r30) => if r30 = true then ((U t d).bind fun (r32, r33) => if r33 = true then (if (eqA r29 a) = true then ((P r32 d).bind fun r35 => (E r35 t).bind fun r36 => if r36 = true then (W.bind fun r37 => some r37) else (some false)) else (some false)) else (if (eqA r29 a) = true then (W.bind fun r39 => some r39) else (some false))) else ((U t d).bind fun (r41, r42) => if r42 = true then (some false) else (some false))))))))) ) = some true := by
  subst hW
  split
  · rfl
  · obtain ⟨q, ok⟩ := r
    simp only [h1, h2, h3, h4, h5, h6, h7, h8, h9, h10, h11, h12, h13, h14, h15, h16, h17, h18, h19, h20, Option.bind_some, eqA_self, Bool.not_true, Bool.false_eq_true, if_false, if_true]
    cases ok with
    | false => rfl
    | true =>
      obtain ⟨w, e1, e2⟩ := h21 rfl
      simp only [e1, e2, Option.bind_some, if_true]
end Go.Proofs.Ytijahfdldlmnhab.Pure
