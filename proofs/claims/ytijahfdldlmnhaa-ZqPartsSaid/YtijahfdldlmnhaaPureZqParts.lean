/- Layer 21: a number's parts, whether adding changes them, and high parts by hints, are the document's, in plain Lean. -/
import Derived.Test.YtijahfdldlmnhaaLZqParts
import Derived.Test.YtijahfdldlmnhaaQp
set_option linter.unusedSimpArgs false
namespace Go.Proofs.Ytijahfdldlmnhaa.Pure
open Go.Mx
theorem ZqParts : law21_ZqParts.Pure := by
  intro r _ z _ hint top
  refine ⟨KK, ?_⟩
  unfold law21_ZqParts.f
  by_cases h0 : r < 0
  · simp [h0, awake21]
  by_cases h1 : r ≥ 8380417
  · simp [h0, h1, awake21]
  by_cases h2 : z < 0
  · simp [h0, h1, h2, awake21]
  by_cases h3 : z ≥ 8380417
  · simp [h0, h1, h2, h3, awake21]
  rw [if_neg h0, if_neg h1, if_neg h2, if_neg h3]
  obtain ⟨half, hh, e⟩ : ∃ half : Int, (half = 95232 ∨ half = 261888) ∧ (if top = true then (some 261888) else (some 95232) : Option Int) = some half := by
    cases top
    · exact ⟨95232, .inl rfl, rfl⟩
    · exact ⟨261888, .inr rfl, rfl⟩
  rw [e]
  simp only [Option.bind_some]
  rw [zq_Split_eq KK (by omega) (by omega), ref21_Split_eq KK (by omega) (by omega), zq_Parts_eq KK hh (by omega) (by omega), ref21_Parts_eq KK hh (by omega) (by omega), zq_Hint_eq KK hh (by omega) (by omega) (by omega) (by omega), ref21_Hint_eq KK hh (by omega) (by omega) (by omega) (by omega), zq_Use_eq KK hh (by omega) (by omega), ref21_Use_eq KK hh (by omega) (by omega)]
  simp [awake21]
end Go.Proofs.Ytijahfdldlmnhaa.Pure
