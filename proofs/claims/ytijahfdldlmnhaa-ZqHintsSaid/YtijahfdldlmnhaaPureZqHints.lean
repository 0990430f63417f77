/- Layer 21: where what is added is no greater than half, the high part by the hint is that of the sum; a number is its parts put together: in plain Lean. -/
import Derived.Test.YtijahfdldlmnhaaLZqHints
import Derived.Test.YtijahfdldlmnhaaQp
set_option linter.unusedSimpArgs false
namespace Go.Proofs.Ytijahfdldlmnhaa.Pure
open Go Go.Mx
theorem lo_hi {r half : Int} (hh : half = 95232 ∨ half = 261888) (h0 : 0 ≤ r) (h1 : r < 8380417) :
    (hiP r half * 2 * half + loP r half + 8380417) % 8380417 = r := by
  unfold hiP loP
  rcases hh with rfl | rfl
  · rw [show (8380416 : Int) / (2 * 95232) = 44 by decide, show (2 : Int) * 95232 = 190464 by decide]
    split <;> omega
  · rw [show (8380416 : Int) / (2 * 261888) = 16 by decide, show (2 : Int) * 261888 = 523776 by decide]
    split <;> omega
theorem use_hint {r z half : Int} (hh : half = 95232 ∨ half = 261888) (h0 : 0 ≤ r) (h1 : r < 8380417) (z0 : -half ≤ z) (z1 : z ≤ half) :
    useP (hintP (z % 8380417) r half) r half = hiP ((r + z % 8380417) % 8380417) half := by
  have e : (r + z % 8380417) % 8380417 = (r + z) % 8380417 := by omega
  unfold useP hintP
  rw [e]
  by_cases hc : hiP r half = hiP ((r + z) % 8380417) half
  · rw [if_neg (by simp [hc]), hc]
  · rw [if_pos (by simp [hc])]
    unfold hiP loP at *
    rcases hh with rfl | rfl
    · rw [show (8380416 : Int) / (2 * 95232) = 44 by decide, show (2 : Int) * 95232 = 190464 by decide] at *
      generalize hs : (r + z) % 8380417 = s at *
      have hs' : s = r + z ∨ s = r + z + 8380417 ∨ s = r + z - 8380417 := by omega
      have hs0 : 0 ≤ s := by omega
      have hs1 : s < 8380417 := by omega
      generalize hq : (r + 95232 - 1) / 190464 = q at *
      generalize hq2 : (s + 95232 - 1) / 190464 = q2 at *
      have b1 : 190464 * q ≤ r + 95231 := by omega
      have b2 : r + 95231 < 190464 * q + 190464 := by omega
      have b3 : 190464 * q2 ≤ s + 95231 := by omega
      have b4 : s + 95231 < 190464 * q2 + 190464 := by omega
      clear hq hq2 hs e
      by_cases c1 : q = 44
      · subst c1
        simp only [if_true] at hc ⊢
        by_cases c2 : q2 = 44
        · simp [c2] at hc
        · simp only [c2, if_false] at hc ⊢
          split <;> omega
      · simp only [c1, if_false] at hc ⊢
        by_cases c2 : q2 = 44
        · simp only [c2, if_true] at hc ⊢
          split <;> omega
        · simp only [c2, if_false] at hc ⊢
          split <;> omega
    · rw [show (8380416 : Int) / (2 * 261888) = 16 by decide, show (2 : Int) * 261888 = 523776 by decide] at *
      generalize hs : (r + z) % 8380417 = s at *
      have hs' : s = r + z ∨ s = r + z + 8380417 ∨ s = r + z - 8380417 := by omega
      have hs0 : 0 ≤ s := by omega
      have hs1 : s < 8380417 := by omega
      generalize hq : (r + 261888 - 1) / 523776 = q at *
      generalize hq2 : (s + 261888 - 1) / 523776 = q2 at *
      have b1 : 523776 * q ≤ r + 261887 := by omega
      have b2 : r + 261887 < 523776 * q + 523776 := by omega
      have b3 : 523776 * q2 ≤ s + 261887 := by omega
      have b4 : s + 261887 < 523776 * q2 + 523776 := by omega
      clear hq hq2 hs e
      by_cases c1 : q = 16
      · subst c1
        simp only [if_true] at hc ⊢
        by_cases c2 : q2 = 16
        · simp [c2] at hc
        · simp only [c2, if_false] at hc ⊢
          split <;> omega
      · simp only [c1, if_false] at hc ⊢
        by_cases c2 : q2 = 16
        · simp only [c2, if_true] at hc ⊢
          split <;> omega
        · simp only [c2, if_false] at hc ⊢
          split <;> omega
theorem ZqHints : law21_ZqHints.Pure := by
  intro r _ z _ top
  refine ⟨KK, ?_⟩
  unfold law21_ZqHints.f
  obtain ⟨half, hh, e⟩ : ∃ half : Int, (half = 95232 ∨ half = 261888) ∧ (if top = true then (some 261888) else (some 95232) : Option Int) = some half := by
    cases top
    · exact ⟨95232, .inl rfl, rfl⟩
    · exact ⟨261888, .inr rfl, rfl⟩
  rw [e]
  have hneg : isub .i32 0 half = -half := by rw [sub32 (by omega) (by omega)]; omega
  simp only [Option.bind_some, hneg]
  by_cases h0 : r < 0
  · simp [h0, awake21]
  by_cases h1 : r ≥ 8380417
  · simp [h0, h1, awake21]
  by_cases h2 : z < -half
  · simp [h0, h1, h2, awake21]
  by_cases h3 : z > half
  · simp [h0, h1, h2, h3, awake21]
  rw [if_neg h0, if_neg h1, if_neg h2, if_neg h3, zq_Split_eq KK (by omega) (by omega), zq_Parts_eq KK hh (by omega) (by omega)]
  simp only [Option.bind_some]
  obtain ⟨b0, b1, b2, b3⟩ := hiP_bounds hh (show 0 ≤ r by omega) (show r < 8380417 by omega)
  have lh := lo_hi hh (show 0 ≤ r by omega) (show r < 8380417 by omega)
  have uh := use_hint hh (show 0 ≤ r by omega) (show r < 8380417 by omega) (show -half ≤ z by omega) (show z ≤ half by omega)
  have m1 : hiP r half * 2 * half + loP r half = hiP r half * (2 * half) + loP r half := by rw [Int.mul_assoc]
  have bnd : -300000 ≤ hiP r half * 2 * half + loP r half ∧ hiP r half * 2 * half + loP r half ≤ 8700000 := by
    rcases hh with rfl | rfl <;> omega
  have e1 : iadd .i32 (imul .i32 ((r + 4095) / 8192) 8192) (r - (r + 4095) / 8192 * 8192) = r := by
    rw [mul32 (by omega) (by omega), add32 (by omega) (by omega)]; omega
  have e2 : iadd .i32 (imul .i32 (imul .i32 (hiP r half) 2) half) (loP r half) = hiP r half * 2 * half + loP r half := by
    rcases hh with rfl | rfl
    · rw [mul32 (x := hiP r 95232) (by omega) (by omega), mul32 (by omega) (by omega), add32 (by omega) (by omega)]
    · rw [mul32 (x := hiP r 261888) (by omega) (by omega), mul32 (by omega) (by omega), add32 (by omega) (by omega)]
  have e3 : irem .i32 (iadd .i32 (hiP r half * 2 * half + loP r half) 8380417) 8380417 = r := by
    unfold irem
    rw [add32 (by omega) (by omega), tmodN (by omega), lh]
  have e4 : imul .i32 2 half = 2 * half := mul32 (by omega) (by omega)
  have e5 : iquo .i32 8380416 (2 * half) = 8380416 / (2 * half) := by
    unfold iquo
    rw [tdivN (by omega)]
    rcases hh with rfl | rfl <;> decide
  have e6 : irem .i32 (iadd .i32 z 8380417) 8380417 = z % 8380417 := by
    unfold irem
    rw [add32 (by omega) (by omega), tmodN (by omega)]
    omega
  have e7 : irem .i32 (iadd .i32 r (z % 8380417)) 8380417 = (r + z % 8380417) % 8380417 := by
    unfold irem
    rw [add32 (by omega) (by omega), tmodN (by omega)]
  rw [e1, if_pos rfl, if_neg (by omega), if_neg (by omega), e2, e3, if_pos rfl, if_neg (by omega), if_neg (by omega), if_neg (by omega), e4, if_pos (by omega), e5, if_neg (by omega), e6]
  simp only [Option.bind_some, e7]
  rw [zq_Parts_eq KK hh (by omega) (by omega), zq_Hint_eq KK hh (by omega) (by omega) (by omega) (by omega)]
  simp only [Option.bind_some]
  rw [zq_Use_eq KK hh (by omega) (by omega), zq_Use_eq KK hh (by omega) (by omega), uh]
  simp [awake21, useP]
end Go.Proofs.Ytijahfdldlmnhaa.Pure
