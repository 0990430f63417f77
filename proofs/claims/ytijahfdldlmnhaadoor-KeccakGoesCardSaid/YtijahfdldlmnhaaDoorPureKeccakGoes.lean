/- Layer 8: a sum with bytes more, so many bytes out of it, and it behind them, are the document's; it stays fit; in plain Lean. -/
import Derived.Test.YtijahfdldlmnhaaDoorLKeccakGoes
import Derived.Test.YtijahfdldlmnhaaDoorSd
set_option linter.unusedSimpArgs false
set_option linter.unusedVariables false
namespace Go.Proofs.YtijahfdldlmnhaaDoor.Pure
open Go Go.Mx
theorem w_of {a : Arr 25} (h : InA .u64 a) : InW a := fun i hi => by
  obtain ⟨h0, h1⟩ := inA_rd h i hi
  have e0 : IntKind.u64.min = 0 := rfl
  have e1 : IntKind.u64.max = 18446744073709551615 := rfl
  constructor <;> omega
theorem goes_core (W : Option Bool) (A B : Option (Int × (Arr 25) × Int × Bool)) (Q R : Option (Int × (Arr 25) × Int × Bool × (List Int))) (E : List Int → List Int → Option Bool) (F G : Int → Arr 25 → Int → Bool → Option Bool) (f : Option Bool) (C D : Prop) [Decidable C] [Decidable D]
    (x0 : Int) (x1 : Arr 25) (x2 : Int) (x3 : Bool) (y0 : Int) (y1 : Arr 25) (y2 : Int) (y3 : Bool) (l : List Int) (hW : W = some true) (hf : f = some true) (hA : A = some (x0, x1, x2, x3)) (hB : B = some (x0, x1, x2, x3)) (hQ : Q = some (y0, y1, y2, y3, l)) (hR : R = some (y0, y1, y2, y3, l)) (hE : E l l = some true) (hF : F x0 x1 x2 x3 = some true) (hG : F y0 y1 y2 y3 = some true) :
    (f.bind fun r2 => if r2 = true then (if C then (W.bind fun r3 => some r3) else (if D then (W.bind fun r4 => some r4) else (((A.bind fun (r9_0, r9_1, r9_2, r9_3) => B.bind fun (r10_0, r10_1, r10_2, r10_3) => some (r9_0, r9_1, r9_2, r9_3, r10_0, r10_1, r10_2, r10_3) : Option (Int × (Arr 25) × Int × Bool × Int × (Arr 25) × Int × Bool))).bind fun (y6_0, y6_1, y6_2, y6_3, y8_0, y8_1, y8_2, y8_3) => Q.bind fun (r43_0, r43_1, r43_2, r43_3, r44) => R.bind fun (r46_0, r46_1, r46_2, r46_3, r47) => if ((y6_0 == y8_0) && ((eqA y6_1 y8_1) && ((y6_2 == y8_2) && ((y6_3 == y8_3) && true)))) = true then (if ((r43_0 == r46_0) && ((eqA r43_1 r46_1) && ((r43_2 == r46_2) && ((r43_3 == r46_3) && true)))) = true then ((E r44 r47).bind fun r49 => if r49 = true then ((F y6_0 y6_1 y6_2 y6_3).bind fun r50 => if r50 = true then ((F r43_0 r43_1 r43_2 r43_3).bind fun r51 => if r51 = true then (W.bind fun r52 => some r52) else (some false)) else (some false)) else (some false)) else (some false)) else (some false)))) else (W.bind fun r53 => some r53)) = some true := by
  subst hW hf hA hB hQ hR
  simp only [Option.bind_some, if_true, eqA_self, beq_self_eq_true, Bool.and_self, hE, hF, hG]
  (repeat' split) <;> rfl
theorem KeccakGoes : law08_KeccakGoes.Pure := by
  intro kind a t o _ ha _ b _ n _
  refine ⟨1000, ?_⟩
  have hw := w_of ha
  unfold law08_KeccakGoes.f
  rw [rFit]
  cases hf : fitB kind t o with
  | false =>
    rw [Option.bind_some, if_neg (by decide), awake08]
    rfl
  | true =>
    obtain ⟨m, rfl, f⟩ := fit_of hw hf
    by_cases hb : (b.length : Int) > 500
    · rw [Option.bind_some, if_pos rfl, if_pos hb, awake08]
      rfl
    by_cases hn : n > 500
    · rw [Option.bind_some, if_pos rfl, if_neg hb, if_pos hn, awake08]
      rfl
    have fa := fit_abs f b
    have fq := fit_sq f n
    have hl := sqV_len kind (a, m) o n
    exact goes_core (law08_awake.f 1000) (keccak_Absorb.f 1000 kind a (m : Int) o b) (ref08_Absorb.f 1000 kind a (m : Int) o b) (keccak_Squeeze.f 1000 kind a (m : Int) o n) (ref08_Squeeze.f 1000 kind a (m : Int) o n) (ref01_Same.f 1000) (ref08_Fit.f 1000) (ref08_Fit.f 1000) (some true) _ _
      _ _ _ _ _ _ _ _ _ awake08 rfl (kAbs kind (a, m) o f b (by omega)) (rAbs kind (a, m) o f b (by omega)) (kSq kind (a, m) o f n (by omega)) (rSq kind (a, m) o f n (by omega)) (ref01_Same_self 1000 _ (by omega) (by omega))
      ((rFit 1000 _ _ _ _).trans (congrArg some (of_fit fa))) ((rFit 1000 _ _ _ _).trans (congrArg some (of_fit fq)))
end Go.Proofs.YtijahfdldlmnhaaDoor.Pure
