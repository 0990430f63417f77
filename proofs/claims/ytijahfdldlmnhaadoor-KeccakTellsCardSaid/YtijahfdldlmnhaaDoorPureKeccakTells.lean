/- Layer 8: 25 words behind all rounds, what a sum begins with, which can be, and sums of bytes, are the document's; in plain Lean. -/
import Derived.Test.YtijahfdldlmnhaaDoorLKeccakTells
import Derived.Test.YtijahfdldlmnhaaDoorSd
set_option linter.unusedSimpArgs false
set_option linter.unusedVariables false
namespace Go.Proofs.YtijahfdldlmnhaaDoor.Pure
open Go Go.Mx
theorem w_of {a : Arr 25} (h : InA .u64 a) : InW a := fun i hi => by
  obtain ⟨h0, h1⟩ := inA_rd h i hi
  have e0 : IntKind.u64.min = 0 := rfl
  have e1 : IntKind.u64.max = 18446744073709551615 := rfl
  constructor <;> omega
theorem tells_core (W : Option Bool) (S S' : Option (List Int × Int)) (N N' : Option (Int × (Arr 25) × Int × Bool × Int)) (P P' : Option (Arr 25)) (F F' : Option Bool) (E : List Int → List Int → Option Bool) (x : List Int) (e : Int) (y0 : Int) (y1 : Arr 25) (y2 : Int) (y3 : Bool) (y4 : Int) (p : Arr 25) (f : Bool)
    (hW : W = some true) (hS : S = some (x, e)) (hS' : S' = some (x, e)) (hN : N = some (y0, y1, y2, y3, y4)) (hN' : N' = some (y0, y1, y2, y3, y4)) (hP : P = some p) (hP' : P' = some p) (hF : F = some f) (hF' : F' = some f) (hE : E x x = some true) :
    (S.bind fun (r21, r22) => S'.bind fun (r23, r24) => N.bind fun (r25_0, r25_1, r25_2, r25_3, r26) => N'.bind fun (r28_0, r28_1, r28_2, r28_3, r29) => P.bind fun r31 => P'.bind fun r32 => if (eqA r31 r32) = true then ((E r21 r23).bind fun r33 => if r33 = true then (if r22 = r24 then (if ((r25_0 == r28_0) && ((eqA r25_1 r28_1) && ((r25_2 == r28_2) && ((r25_3 == r28_3) && true)))) = true then (if r26 = r29 then (F.bind fun r34 => F'.bind fun r35 => if (r34 == r35) = true then (W.bind fun r36 => some r36) else (some false)) else (some false)) else (some false)) else (some false)) else (some false)) else (some false)) = some true := by
  subst hW hS hS' hN hN' hP hP' hF hF'
  simp only [Option.bind_some, if_true, eqA_self, beq_self_eq_true, Bool.and_self, hE]
theorem KeccakTells : law08_KeccakTells.Pure := by
  intro a ha kind _ b _ n _ k2 a2 t2 o2 _ _ _
  refine ⟨1000, ?_⟩
  have hw := w_of ha
  obtain ⟨⟨y0, y1, y2, y3, y4⟩, hy⟩ : ∃ y, y = newV kind := ⟨_, rfl⟩
  unfold law08_KeccakTells.f
  by_cases hb : (b.length : Int) > 500
  · rw [if_pos hb, awake08]
    rfl
  rw [if_neg hb]
  have core : ∀ _ : n ≤ 900 ∨ n > 16777216, _ := fun hn => tells_core (law08_awake.f 1000) (keccak_Sum.f 1000 kind b n) (ref08_Sum.f 1000 kind b n) (keccak_New.f 1000 kind) (ref08_New.f 1000 kind) (keccak_Permute.f 1000 a) (ref08_Permute.f 1000 a) (keccak_Fit.f 1000 k2 a2 t2 o2) (ref08_Fit.f 1000 k2 a2 t2 o2) (ref01_Same.f 1000)
    (sumV kind b n).1 (sumV kind b n).2 y0 y1 y2 y3 y4 (permA a) _ awake08 (kSum kind b (by omega) n hn) (rSum kind b (by omega) n hn) ((kNew kind).trans (congrArg some hy.symm)) ((rNew kind).trans (congrArg some hy.symm)) (Permute_eq a) (ref08_Permute_eq a hw) (kFit 1000 _ _ _ _) (rFit 1000 _ _ _ _)
    (ref01_Same_self 1000 _ (by have := sumV_len kind b n hn; omega) (by have := sumV_len kind b n hn; omega))
  by_cases h1 : n > 500
  · rw [if_pos h1]
    by_cases h2 : n ≤ 16777216
    · rw [if_pos h2, awake08]
      rfl
    · rw [if_neg h2]
      exact core (.inr (by omega))
  · rw [if_neg h1]
    exact core (.inl (by omega))
end Go.Proofs.YtijahfdldlmnhaaDoor.Pure
