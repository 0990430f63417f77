/- Layer 25: which polynomials can be, sums, differences, products, parts and back, are the document's; in plain Lean. -/
import Derived.Test.YtijahfdldlmnhaaLKqTells
import Derived.Test.YtijahfdldlmnhaaKt
import Derived.Test.YtijahfdldlmnhaaKc
set_option linter.unusedSimpArgs false
set_option linter.unusedVariables false
namespace Go.Proofs.Ytijahfdldlmnhaa.Pure
open Go Go.Mx
theorem tells_core (W : Option Bool) (A A' S S' T T' M M' : Arr 256 → Arr 256 → Option (Arr 256)) (N N' B B' : Arr 256 → Option (Arr 256)) (a b sa ss st sm_ sn sb : Arr 256)
    (hW : W = some true) (h1 : A a b = some sa) (h2 : A' a b = some sa) (h3 : S a b = some ss) (h4 : S' a b = some ss) (h5 : T a b = some st) (h6 : T' a b = some st) (h7 : N a = some sn) (h8 : N' a = some sn) (h9 : B a = some sb) (h10 : B' a = some sb) (h11 : M a b = some sm_) (h12 : M' a b = some sm_) :
    ((A a b).bind fun r7 => (A' a b).bind fun r8 => if (eqA r7 r8) = true then ((S a b).bind fun r9 => (S' a b).bind fun r10 => if (eqA r9 r10) = true then ((T a b).bind fun r11 => (T' a b).bind fun r12 => if (eqA r11 r12) = true then ((N a).bind fun r13 => (N' a).bind fun r14 => if (eqA r13 r14) = true then ((B a).bind fun r15 => (B' a).bind fun r16 => if (eqA r15 r16) = true then ((M a b).bind fun r17 => (M' a b).bind fun r18 => if (eqA r17 r18) = true then (W.bind fun r19 => some r19) else (some false)) else (some false)) else (some false)) else (some false)) else (some false)) else (some false)) = some true := by
  subst hW
  simp only [h1, h2, h3, h4, h5, h6, h7, h8, h9, h10, h11, h12, Option.bind_some, eqA_self, if_true]
theorem KqTells : law25_KqTells.Pure := by
  intro a _ b _
  refine ⟨1000, ?_⟩
  have hF : kq_Fit.f 1000 a = some (allA (belowB 3329) a) := by
    rw [kq_Fit.f, kq_below_eq 1000 (by omega)]
    rfl
  unfold law25_KqTells.f
  rw [hF, ref25_Fit_eq 1000 (by omega) a, ref25_Fit_eq 1000 (by omega) b, Option.bind_some, Option.bind_some, if_neg (by simp), Option.bind_some]
  by_cases ha : allA (belowB 3329) a = true
  · rw [if_pos ha, Option.bind_some]
    by_cases hb : allA (belowB 3329) b = true
    · rw [if_pos hb]
      have fa : FitK a := bel_of ha
      have fb : FitK b := bel_of hb
      exact tells_core (law25_awake.f 1000) (kq_Add.f 1000) (ref25_Add.f 1000) (kq_Sub.f 1000) (ref25_Sub.f 1000) (kq_Times.f 1000) (ref25_Times.f 1000) (kq_Mul.f 1000) (ref25_Mul.f 1000) (kq_Ntt.f 1000) (ref25_Ntt.f 1000) (kq_Back.f 1000) (ref25_Back.f 1000)
        a b (padd a b) (ksub a b) (ptimes a b) (pmul a b) (pntt a) (pback a) awake25 (kq_Add_eq 1000 (by omega) a b fa fb) (ref25_Add_eq 1000 (by omega) a b fa fb) (kq_Sub_eq 1000 (by omega) a b fa fb) (ref25_Sub_eq 1000 (by omega) a b fa fb)
        (kq_Times_eq a b fa fb) (ref25_Times_eq a b fa fb) (kq_Ntt_eq a fa) (ref25_Ntt_eq a fa) (kq_Back_eq a fa) (ref25_Back_eq a fa) (kq_Mul_eq a b fa fb) (ref25_Mul_eq a b fa fb)
    · rw [if_neg hb, awake25]
      rfl
  · rw [if_neg ha, awake25]
    rfl
end Go.Proofs.Ytijahfdldlmnhaa.Pure
