/- Layer 23: what seeds draw is the document's; in plain Lean. -/
import Derived.Test.YtppohhnfojalbaaDoorLDsampDraws
import Derived.Test.YtppohhnfojalbaaDoorVe
import Derived.Test.YtppohhnfojalbaaDoorVf
import Derived.Test.YtppohhnfojalbaaDoorVg
set_option linter.unusedSimpArgs false
set_option linter.unusedVariables false
set_option maxRecDepth 100000
namespace Go.Proofs.YtppohhnfojalbaaDoor.Pure
open Go Go.Mx
theorem pair_of {A B : Option (Arr 256 × Int)} (v : Arr 256 × Int) (h1 : A = some v) (h2 : B = some v) : ∃ a e, A = some (a, e) ∧ B = some (a, e) := ⟨v.1, v.2, h1, h2⟩
theorem valuesBoth {s : List Int} (ls : s.length ≤ 300) (i j : Int) : ∃ a e, dsamp_Values.f 60000 s i j = some (a, e) ∧ ref23_Values.f 60000 s i j = some (a, e) := by
  obtain ⟨bs, e1, e2⟩ := kValues (i := i) (j := j) ls
  have e3 := rValues (i := i) (j := j) ls
  rw [← e1] at e3
  exact pair_of _ e2 e3
theorem smallBoth {s : List Int} (ls : s.length ≤ 300) {n : Nat} (hn : n < 65536) (eta : Int) : ∃ a e, dsamp_Small.f 60000 s (n : Int) eta = some (a, e) ∧ ref23_Small.f 60000 s (n : Int) eta = some (a, e) := by
  by_cases h2 : eta = 2
  · have hk : Kd eta 5 15 := .inl ⟨h2, rfl, rfl⟩
    exact pair_of _ (kSmall hk ls hn) (rSmall hk ls hn)
  · by_cases h4 : eta = 4
    · have hk : Kd eta 9 9 := .inr ⟨h4, rfl, rfl⟩
      exact pair_of _ (kSmall hk ls hn) (rSmall hk ls hn)
    · refine ⟨zeroA 256, 8, ?_, ?_⟩
      · unfold dsamp_Small.f
        rw [if_neg h2, if_neg h4]
        rfl
      · unfold ref23_Small.f
        rw [if_neg h2, if_neg h4]
        rfl
theorem maskBoth {s : List Int} (ls : s.length ≤ 300) {n : Nat} (hn : n < 65536) (m : Int) : ∃ a e, dsamp_Mask.f 60000 s (n : Int) m = some (a, e) ∧ ref23_Mask.f 60000 s (n : Int) m = some (a, e) := by
  by_cases h2 : m = 131072
  · exact pair_of _ (kMask ls hn (.inl ⟨h2, rfl⟩)) (rMask ls hn (.inl ⟨h2, rfl⟩))
  · by_cases h4 : m = 524288
    · exact pair_of _ (kMask ls hn (.inr ⟨h4, rfl⟩)) (rMask ls hn (.inr ⟨h4, rfl⟩))
    · refine ⟨zeroA 256, 8, ?_, ?_⟩
      · unfold dsamp_Mask.f
        rw [if_neg h2, if_neg h4]
        rfl
      · unfold ref23_Mask.f
        rw [if_neg h2, if_neg h4]
        rfl
theorem ballBoth {s : List Int} (ls : s.length ≤ 300) (t : Int) : ∃ a e, dsamp_Ball.f 60000 s t = some (a, e) ∧ ref23_Ball.f 60000 s t = some (a, e) := by
  by_cases h1 : t < 1
  · refine ⟨zeroA 256, 8, ?_, ?_⟩
    · unfold dsamp_Ball.f
      rw [if_pos h1]
    · unfold ref23_Ball.f
      rw [if_pos h1]
  · by_cases h2 : t > 64
    · refine ⟨zeroA 256, 8, ?_, ?_⟩
      · unfold dsamp_Ball.f
        rw [if_neg h1, if_pos h2]
      · unfold ref23_Ball.f
        rw [if_neg h1, if_pos h2]
    · exact pair_of _ (kBall ls (by omega) (by omega)) (rBall ls (by omega) (by omega))
theorem draws_core {W : Option Bool} (hW : W = some true) {A1 A2 A3 A4 A5 A6 A7 A8 : Option (Arr 256 × Int)} (h1 : ∃ a e, A1 = some (a, e) ∧ A2 = some (a, e)) (h2 : ∃ a e, A3 = some (a, e) ∧ A4 = some (a, e)) (h3 : ∃ a e, A5 = some (a, e) ∧ A6 = some (a, e)) (h4 : ∃ a e, A7 = some (a, e) ∧ A8 = some (a, e)) :
    (A1.bind fun (r2, r3) => A2.bind fun (r5, r6) => A3.bind fun (r8, r9) => A4.bind fun (r11, r12) => A5.bind fun (r14, r15) => A6.bind fun (r17, r18) => A7.bind fun (r20, r21) => A8.bind fun (r23, r24) => if (eqA r2 r5) = true then (if r3 = r6 then (if (eqA r8 r11) = true then (if r9 = r12 then (if (eqA r14 r17) = true then (if r15 = r18 then (if (eqA r20 r23) = true then (if r21 = r24 then (W.bind fun r26 => some r26) else (some false)) else (some false)) else (some false)) else (some false)) else (some false)) else (some false)) else (some false)) else (some false)) = some true := by
  obtain ⟨a1, e1, rfl, rfl⟩ := h1
  obtain ⟨a2, e2, rfl, rfl⟩ := h2
  obtain ⟨a3, e3, rfl, rfl⟩ := h3
  obtain ⟨a4, e4, rfl, rfl⟩ := h4
  subst hW
  simp only [Option.bind_some, eqA_self, if_true]
theorem DsampDraws : law23_DsampDraws.Pure := by
  intro s hs i hi eta _ m _ t _
  refine ⟨60000, ?_⟩
  obtain ⟨i0, i1⟩ : 0 ≤ i ∧ i ≤ 65535 := hi
  obtain ⟨n, rfl⟩ : ∃ n : Nat, i = (n : Int) := ⟨i.toNat, by omega⟩
  unfold law23_DsampDraws.f
  by_cases hl : ((s.length : Nat) : Int) > 300
  · rw [if_pos hl, awake23]
    rfl
  · rw [if_neg hl]
    exact draws_core awake23 (valuesBoth (by omega) _ _) (smallBoth (by omega) (by omega) eta) (maskBoth (by omega) (by omega) m) (ballBoth (by omega) t)
end Go.Proofs.YtppohhnfojalbaaDoor.Pure
