/- Layer 25: numbers in so many bits, as they were, about, as bytes, and the numbers that bytes are, are the document's; in plain Lean. -/
import Derived.Test.YtijahfdldlmnhaaLKqBits
import Derived.Test.YtijahfdldlmnhaaKh
import Derived.Test.YtijahfdldlmnhaaKc
set_option linter.unusedSimpArgs false
set_option linter.unusedVariables false
namespace Go.Proofs.Ytijahfdldlmnhaa.Pure
open Go Go.Mx
theorem sq_both (a : Arr 256) (d : Int) (ha : Bel 3329 a) : ∃ r, kq_Squeeze.f 1000 a d = some r ∧ ref25_Squeeze.f 1000 a d = some r := by
  by_cases h1 : d < 1
  · refine ⟨zeroA 256, ?_, ?_⟩
    · unfold kq_Squeeze.f; rw [if_pos h1]
    · unfold ref25_Squeeze.f; rw [if_pos h1]
  by_cases h2 : d > 11
  · refine ⟨zeroA 256, ?_, ?_⟩
    · unfold kq_Squeeze.f; rw [if_neg h1, if_pos (by omega)]
    · unfold ref25_Squeeze.f; rw [if_neg h1, if_pos h2]
  obtain ⟨e, rfl⟩ : ∃ e : Nat, d = (e : Int) := ⟨d.toNat, by omega⟩
  exact ⟨_, kq_Squeeze_eq 1000 (by omega) a e (by omega) (by omega) ha, ref25_Squeeze_eq 1000 (by omega) a e (by omega) (by omega) ha⟩
theorem wi_both (a : Arr 256) (d : Int) : ∃ r, kq_Widen.f 1000 a d = some r ∧ ref25_Widen.f 1000 a d = some r := by
  by_cases h1 : d < 1
  · refine ⟨zeroA 256, ?_, ?_⟩
    · unfold kq_Widen.f; rw [if_pos h1]
    · unfold ref25_Widen.f; rw [if_pos h1]
  by_cases h2 : d > 11
  · refine ⟨zeroA 256, ?_, ?_⟩
    · unfold kq_Widen.f; rw [if_neg h1, if_pos (by omega)]
    · unfold ref25_Widen.f; rw [if_neg h1, if_pos h2]
  obtain ⟨e, rfl⟩ : ∃ e : Nat, d = (e : Int) := ⟨d.toNat, by omega⟩
  exact ⟨_, kq_Widen_eq' 1000 (by omega) a e (by omega) (by omega), ref25_Widen_eq 1000 (by omega) a e (by omega) (by omega)⟩
theorem bits_tail (W V : Option (Arr 256)) (P Q : Option (List Int)) (S : List Int → List Int → Option Bool) (A : Option Bool) (w : Arr 256) (p : List Int) (h1 : W = some w) (h2 : V = some w) (h3 : P = some p) (h4 : Q = some p) (h5 : S p p = some true) (h6 : A = some true) :
    (W.bind fun r12 => V.bind fun r13 => if (eqA r12 r13) = true then (P.bind fun r14 => Q.bind fun r15 => (S r14 r15).bind fun r16 => if r16 = true then (A.bind fun r17 => some r17) else (some false)) else (some false)) = some true := by
  subst h1 h2 h3 h4 h6
  simp only [Option.bind_some, eqA_self, if_true, h5]
theorem bits_core (A : Option Bool) (U R : Option (Arr 256 × Bool)) (F : Option Bool) (S1 S2 : Option (Arr 256)) (T : Option Bool) (u : Arr 256 × Bool) (f : Bool) (hA : A = some true) (hU : U = some u) (hR : R = some u) (hF : F = some f) (hS : f = true → ∃ r, S1 = some r ∧ S2 = some r) (hT : T = some true) (c : Prop) [Decidable c] :
    (if c then (A.bind fun r2 => some r2) else (U.bind fun (r3, r4) => R.bind fun (r6, r7) => if (!(eqA r3 r6)) = true then (some false) else (if (!(r4 == r7)) = true then (some false) else (F.bind fun r9 => if r9 = true then (S1.bind fun r10 => S2.bind fun r11 => if (!(eqA r10 r11)) = true then (some false) else T) else T)))) = some true := by
  subst hA hU hR hF hT
  split
  · rfl
  · obtain ⟨x, y⟩ := u
    simp only [Option.bind_some, eqA_self, beq_self_eq_true, Bool.not_true, if_false, Bool.false_eq_true]
    cases f with
    | false => rfl
    | true =>
      obtain ⟨r, h1, h2⟩ := hS rfl
      subst h1 h2
      simp only [Option.bind_some, eqA_self, Bool.not_true, if_false, if_true, Bool.false_eq_true]
theorem KqBits : law25_KqBits.Pure := by
  intro a _ d _ b hb
  refine ⟨1000, ?_⟩
  have hB : Byt b := fun x hx => hb x hx
  obtain ⟨w, w1, w2⟩ := wi_both a d
  have hp := packV_len a d
  unfold law25_KqBits.f
  refine bits_core _ _ _ _ _ _ _ (unpV b d) _ awake25 (kq_Unpack_eq 1000 (by omega) b hB d) (ref25_Unpack_eq 1000 (by omega) b hB d) (ref25_Fit_eq 1000 (by omega) a) (fun h => sq_both a d (bel_of h)) ?_ _
  exact bits_tail _ _ _ _ (ref01_Same.f 1000) _ w (packV a d) w1 w2 (kq_Pack_eq 1000 (by omega) a d) (ref25_Pack_eq 1000 (by omega) a d) (ref01_Same_self 1000 _ (by omega) (by omega)) awake25
end Go.Proofs.Ytijahfdldlmnhaa.Pure
