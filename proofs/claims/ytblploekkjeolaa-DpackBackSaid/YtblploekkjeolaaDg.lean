/- Layer 22 (dpack), plain laws: kinds, sizes; the chapter's examples. -/
import Derived.Test.YtblploekkjeolaaDf
set_option linter.unusedSimpArgs false
set_option linter.unusedVariables false
set_option maxRecDepth 100000
namespace Go.Proofs.Ytblploekkjeolaa
open Go Go.Mx
def kind3 (a0 a1 a2 a3 a4 a5 a6 a7 : Int) : Prop :=
  (a0 = 4 ∧ a1 = 4 ∧ a2 = 2 ∧ a3 = 39 ∧ a4 = 131072 ∧ a5 = 95232 ∧ a6 = 80 ∧ a7 = 32) ∨ (a0 = 6 ∧ a1 = 5 ∧ a2 = 4 ∧ a3 = 49 ∧ a4 = 524288 ∧ a5 = 261888 ∧ a6 = 55 ∧ a7 = 48) ∨ (a0 = 8 ∧ a1 = 7 ∧ a2 = 2 ∧ a3 = 60 ∧ a4 = 524288 ∧ a5 = 261888 ∧ a6 = 75 ∧ a7 = 64)
instance (a0 a1 a2 a3 a4 a5 a6 a7 : Int) : Decidable (kind3 a0 a1 a2 a3 a4 a5 a6 a7) := by unfold kind3; exact inferInstance
theorem known_l0 (K k : Nat) (a0 a1 a2 a3 a4 a5 a6 a7 : Int) (h : ¬ kind3 a0 a1 a2 a3 a4 a5 a6 a7) : dpack_known.l0 K (k + 4) a0 a1 a2 a3 a4 a5 a6 a7 0 = some (.inl ()) := by
  have hl : (([44, 65, 87] : List Int).length : Int) = 3 := rfl
  have r0 : rdL (CI .i64) ([44, 65, 87] : List Int) 0 = 44 := rfl
  have r1 : rdL (CI .i64) ([44, 65, 87] : List Int) 1 = 65 := rfl
  have r2 : rdL (CI .i64) ([44, 65, 87] : List Int) 2 = 87 := rfl
  have s0 : dpack_Set.f K 44 = some (4, 4, 2, 39, 131072, 95232, 80, 32, true) := rfl
  have s1 : dpack_Set.f K 65 = some (6, 5, 4, 49, 524288, 261888, 55, 48, true) := rfl
  have s2 : dpack_Set.f K 87 = some (8, 7, 2, 60, 524288, 261888, 75, 64, true) := rfl
  have i0 : iadd .i64 0 1 = 1 := by rw [add64 (by decide) (by decide)]; rfl
  have i1 : iadd .i64 1 1 = 2 := by rw [add64 (by decide) (by decide)]; rfl
  have i2 : iadd .i64 2 1 = 3 := by rw [add64 (by decide) (by decide)]; rfl
  unfold kind3 at h
  have c0 : ((4 == a0) && ((4 == a1) && ((2 == a2) && ((39 == a3) && ((131072 == a4) && ((95232 == a5) && ((80 == a6) && ((32 == a7) && true)))))))) = false := by
    rw [Bool.eq_false_iff]
    intro hh
    simp only [Bool.and_eq_true, beq_iff_eq, Bool.and_true] at hh
    exact h (.inl ⟨by omega, by omega, by omega, by omega, by omega, by omega, by omega, by omega⟩)
  have c1 : ((6 == a0) && ((5 == a1) && ((4 == a2) && ((49 == a3) && ((524288 == a4) && ((261888 == a5) && ((55 == a6) && ((48 == a7) && true)))))))) = false := by
    rw [Bool.eq_false_iff]
    intro hh
    simp only [Bool.and_eq_true, beq_iff_eq, Bool.and_true] at hh
    exact h (.inr (.inl ⟨by omega, by omega, by omega, by omega, by omega, by omega, by omega, by omega⟩))
  have c2 : ((8 == a0) && ((7 == a1) && ((2 == a2) && ((60 == a3) && ((524288 == a4) && ((261888 == a5) && ((75 == a6) && ((64 == a7) && true)))))))) = false := by
    rw [Bool.eq_false_iff]
    intro hh
    simp only [Bool.and_eq_true, beq_iff_eq, Bool.and_true] at hh
    exact h (.inr (.inr ⟨by omega, by omega, by omega, by omega, by omega, by omega, by omega, by omega⟩))
  rw [show k + 4 = k + 1 + 1 + 1 + 1 from rfl]
  simp only [dpack_known.l0, hl, r0, r1, r2, s0, s1, s2, i0, i1, i2, c0, c1, c2, Option.bind_some, show (0 : Int) < 3 by decide, show (1 : Int) < 3 by decide, show (2 : Int) < 3 by decide, show ¬ (3 : Int) < 3 by decide, show (0 : Int) ≤ 0 by decide, show (0 : Int) ≤ 1 by decide, show (0 : Int) ≤ 2 by decide, if_true, if_false, Bool.false_eq_true]
theorem d44 : dpack_Sizes.f 60000 4 4 2 39 131072 95232 80 32 = some (1312, 2560, 2420) := by decide +kernel
theorem d65 : dpack_Sizes.f 60000 6 5 4 49 524288 261888 55 48 = some (1952, 4032, 3309) := by decide +kernel
theorem d87 : dpack_Sizes.f 60000 8 7 2 60 524288 261888 75 64 = some (2592, 4896, 4627) := by decide +kernel
theorem sameP_l0 (K : Nat) (l : List (Arr 256)) (hl : l.length ≤ 1000) : ∀ (r i k : Nat), i + r = l.length → r < k → ref22_Same.l0 K k l l (i : Int) = some (.inl ()) := by
  intro r
  induction r with
  | zero =>
    intro i k hi hk
    obtain ⟨k, rfl⟩ : ∃ m, k = m + 1 := ⟨k - 1, by omega⟩
    have c : ¬ (i : Int) < (l.length : Int) := by omega
    simp only [ref22_Same.l0, c, if_false]
  | succ r ih =>
    intro i k hi hk
    obtain ⟨k, rfl⟩ : ∃ m, k = m + 1 := ⟨k - 1, by omega⟩
    have c : (i : Int) < (l.length : Int) := by omega
    have c0 : (0 : Int) ≤ (i : Int) := by omega
    have e4 : iadd .i64 (i : Int) 1 = ((i + 1 : Nat) : Int) := by rw [add64 (by omega) (by omega)]; omega
    simp only [ref22_Same.l0, c, c0, if_true, eqA_self, Bool.not_true, Bool.false_eq_true, if_false, Option.bind_some, e4]
    exact ih (i + 1) k (by omega) (by omega)
theorem sameP (K : Nat) (l : List (Arr 256)) (hl : l.length ≤ 1000) (hK : l.length < K) : ref22_Same.f K l l = some true := by
  unfold ref22_Same.f
  have := sameP_l0 K l hl l.length 0 K (by omega) hK
  have h0 : ((0 : Nat) : Int) = 0 := rfl
  rw [h0] at this
  rw [if_pos rfl, this]
  rfl
theorem hint_ex : hintS [zeroA 256] 2 = [0, 0, 0] := by decide +kernel
theorem awake22 : law22_awake.f 60000 = some true := by
  unfold law22_awake.f
  have h1 : dpack_Set.f 60000 44 = some (4, 4, 2, 39, 131072, 95232, 80, 32, true) := rfl
  have h2 : dpack_Set.f 60000 45 = some (0, 0, 0, 0, 0, 0, 0, 0, false) := rfl
  have h3 := dHints 60000 (by decide) [zeroA 256] 2
  rw [hint_ex] at h3
  have h4 := same_eq 60000 [0, 0, 0] [0, 0, 0] (by decide) (by decide)
  rw [h1, Option.bind_some]
  show (if true = true then ((dpack_Sizes.f 60000 4 4 2 39 131072 95232 80 32).bind _) else _) = _
  rw [if_pos rfl, d44, Option.bind_some]
  show ((dpack_Set.f 60000 45).bind _) = _
  rw [h2, Option.bind_some]
  show ((dpack_Hints.f 60000 [zeroA 256] 2).bind fun r12 => (ref01_Same.f 60000 r12 ([0, 0, 0] : List Int)).bind fun r14 => some r14) = _
  rw [h3, Option.bind_some, h4]
  rfl
/-! ### kinds -/
theorem dKnown (a0 a1 a2 a3 a4 a5 a6 a7 : Int) : dpack_known.f 60000 a0 a1 a2 a3 a4 a5 a6 a7 = some (decide (kind3 a0 a1 a2 a3 a4 a5 a6 a7)) := by
  by_cases h : kind3 a0 a1 a2 a3 a4 a5 a6 a7
  · rw [decide_eq_true h]
    rcases h with ⟨rfl, rfl, rfl, rfl, rfl, rfl, rfl, rfl⟩ | ⟨rfl, rfl, rfl, rfl, rfl, rfl, rfl, rfl⟩ | ⟨rfl, rfl, rfl, rfl, rfl, rfl, rfl, rfl⟩ <;> decide +kernel
  · rw [decide_eq_false h]
    unfold dpack_known.f
    rw [known_l0 60000 59996 a0 a1 a2 a3 a4 a5 a6 a7 h]
    rfl
end Go.Proofs.Ytblploekkjeolaa
