/- Layer 21 (zq), plain laws: a number's parts, and hints. -/
import Derived.Test.YtijahfdldlmnhaaQa
set_option linter.unusedSimpArgs false
set_option linter.unusedVariables false
namespace Go.Proofs.Ytijahfdldlmnhaa
open Go Go.Mx
theorem zq_Split_eq (K : Nat) {r : Int} (h0 : 0 ≤ r) (h1 : r < 8380417) : zq_Split.f K r = some ((r + 4095) / 8192, r - (r + 4095) / 8192 * 8192) := by
  unfold zq_Split.f ishr ishl
  simp only [Option.bind_some]
  rw [add32 (by omega) (by omega), sub32 (by omega) (by omega), fdivN (by decide)]
  rw [show (2 : Int) ^ (min (13 : Int).toNat IntKind.i32.bits) = 8192 by decide]
  rw [id32 (by omega) (by omega), show r + 4096 - 1 = r + 4095 by omega, sub32 (by omega) (by omega)]
theorem ref21_Split_eq (K : Nat) {r : Int} (h0 : 0 ≤ r) (h1 : r < 8380417) : ref21_Split.f K r = some ((r + 4095) / 8192, r - (r + 4095) / 8192 * 8192) := by
  unfold ref21_Split.f irem iquo
  simp only [Option.bind_some]
  rw [tmodN h0]
  by_cases h : r % 8192 > 4096
  · rw [if_pos h, sub32 (by omega) (by omega)]
    simp only [Option.bind_some]
    rw [sub32 (by omega) (by omega), tdivN (by omega), id32 (by omega) (by omega)]
    simp only [Option.some.injEq, Prod.mk.injEq]
    omega
  · rw [if_neg h]
    simp only [Option.bind_some]
    rw [sub32 (by omega) (by omega), tdivN (by omega), id32 (by omega) (by omega)]
    simp only [Option.some.injEq, Prod.mk.injEq]
    omega
/-- The high part and the low one. -/
def hiP (r half : Int) : Int := if (r + half - 1) / (2 * half) = 8380416 / (2 * half) then 0 else (r + half - 1) / (2 * half)
def loP (r half : Int) : Int := if (r + half - 1) / (2 * half) = 8380416 / (2 * half) then r - (r + half - 1) / (2 * half) * (2 * half) - 1 else r - (r + half - 1) / (2 * half) * (2 * half)
theorem zq_Parts_eq (K : Nat) {r half : Int} (hh : half = 95232 ∨ half = 261888) (h0 : 0 ≤ r) (h1 : r < 8380417) : zq_Parts.f K r half = some (hiP r half, loP r half) := by
  unfold zq_Parts.f iquo hiP loP
  rcases hh with rfl | rfl
  · have e1 : imul .i32 2 95232 = 190464 := by decide
    have e2 : iadd .i32 r 95232 = r + 95232 := add32 (by omega) (by omega)
    have e3 : isub .i32 (r + 95232) 1 = r + 95232 - 1 := sub32 (by omega) (by omega)
    have e5 : IntKind.i32.wrap ((8380416 : Int).tdiv 190464) = 44 := by decide
    have e6 : IntKind.i32.wrap ((r + 95232 - 1).tdiv 190464) = (r + 95232 - 1) / 190464 := by rw [tdivN (by omega), id32 (by omega) (by omega)]
    simp only [show ¬ (95232 : Int) ≤ 0 by decide, if_false, e1, show ¬ (190464 : Int) = 0 by decide, not_false_eq_true, if_true, Option.bind_some, e2, e3, e5, e6]
    have g : (2 : Int) * 95232 = 190464 := by decide
    have g2 : (8380416 : Int) / 190464 = 44 := by decide
    simp only [g, g2]
    generalize hq : (r + 95232 - 1) / 190464 = hi
    have b1 : 190464 * hi ≤ r + 95232 - 1 := by omega
    have b2 : r + 95232 - 1 < 190464 * hi + 190464 := by omega
    have b3 : 0 ≤ hi := by omega
    have b4 : hi ≤ 44 := by omega
    have e7 : imul .i32 hi 2 = hi * 2 := mul32 (by omega) (by omega)
    have e8 : imul .i32 (hi * 2) 95232 = hi * 2 * 95232 := mul32 (by omega) (by omega)
    have e9 : isub .i32 r (hi * 2 * 95232) = r - hi * 2 * 95232 := sub32 (by omega) (by omega)
    rw [e7, e8, e9]
    by_cases c : hi = 44
    · have e10 : isub .i32 (r - hi * 2 * 95232) 1 = r - hi * 2 * 95232 - 1 := sub32 (by omega) (by omega)
      rw [if_pos c, if_pos c, if_pos c, e10]
      simp only [Option.bind_some, Option.some.injEq, Prod.mk.injEq, true_and]
      omega
    · rw [if_neg c, if_neg c, if_neg c]
      simp only [Option.some.injEq, Prod.mk.injEq, true_and]
      omega
  · have e1 : imul .i32 2 261888 = 523776 := by decide
    have e2 : iadd .i32 r 261888 = r + 261888 := add32 (by omega) (by omega)
    have e3 : isub .i32 (r + 261888) 1 = r + 261888 - 1 := sub32 (by omega) (by omega)
    have e5 : IntKind.i32.wrap ((8380416 : Int).tdiv 523776) = 16 := by decide
    have e6 : IntKind.i32.wrap ((r + 261888 - 1).tdiv 523776) = (r + 261888 - 1) / 523776 := by rw [tdivN (by omega), id32 (by omega) (by omega)]
    simp only [show ¬ (261888 : Int) ≤ 0 by decide, if_false, e1, show ¬ (523776 : Int) = 0 by decide, not_false_eq_true, if_true, Option.bind_some, e2, e3, e5, e6]
    have g : (2 : Int) * 261888 = 523776 := by decide
    have g2 : (8380416 : Int) / 523776 = 16 := by decide
    simp only [g, g2]
    generalize hq : (r + 261888 - 1) / 523776 = hi
    have b1 : 523776 * hi ≤ r + 261888 - 1 := by omega
    have b2 : r + 261888 - 1 < 523776 * hi + 523776 := by omega
    have b3 : 0 ≤ hi := by omega
    have b4 : hi ≤ 16 := by omega
    have e7 : imul .i32 hi 2 = hi * 2 := mul32 (by omega) (by omega)
    have e8 : imul .i32 (hi * 2) 261888 = hi * 2 * 261888 := mul32 (by omega) (by omega)
    have e9 : isub .i32 r (hi * 2 * 261888) = r - hi * 2 * 261888 := sub32 (by omega) (by omega)
    rw [e7, e8, e9]
    by_cases c : hi = 16
    · have e10 : isub .i32 (r - hi * 2 * 261888) 1 = r - hi * 2 * 261888 - 1 := sub32 (by omega) (by omega)
      rw [if_pos c, if_pos c, if_pos c, e10]
      simp only [Option.bind_some, Option.some.injEq, Prod.mk.injEq, true_and]
      omega
    · rw [if_neg c, if_neg c, if_neg c]
      simp only [Option.some.injEq, Prod.mk.injEq, true_and]
      omega
theorem ref21_Parts_eq (K : Nat) {r half : Int} (hh : half = 95232 ∨ half = 261888) (h0 : 0 ≤ r) (h1 : r < 8380417) : ref21_Parts.f K r half = some (hiP r half, loP r half) := by
  unfold ref21_Parts.f irem iquo hiP loP
  rcases hh with rfl | rfl
  · have e1 : imul .i32 2 95232 = 190464 := by decide
    have g : (2 : Int) * 95232 = 190464 := by decide
    have g2 : (8380416 : Int) / 190464 = 44 := by decide
    simp only [e1, show ¬ (190464 : Int) = 0 by decide, not_false_eq_true, if_true, Option.bind_some, g, g2, tmodN h0]
    generalize hq : (r + 95232 - 1) / 190464 = hi
    generalize hlo : r % 190464 = lo
    have b1 : 190464 * hi ≤ r + 95232 - 1 := by omega
    have b2 : r + 95232 - 1 < 190464 * hi + 190464 := by omega
    by_cases h : lo > 95232
    · have s1 : isub .i32 lo 190464 = lo - 190464 := sub32 (by omega) (by omega)
      have s2 : isub .i32 r (lo - 190464) = r - (lo - 190464) := sub32 (by omega) (by omega)
      have s3 : isub .i32 (lo - 190464) 1 = lo - 190464 - 1 := sub32 (by omega) (by omega)
      rw [if_pos h, s1]
      simp only [Option.bind_some, s2, s3]
      have s4 : IntKind.i32.wrap ((r - (lo - 190464)).tdiv 190464) = (r - (lo - 190464)) / 190464 := by rw [tdivN (by omega), id32 (by omega) (by omega)]
      by_cases h2 : r - (lo - 190464) = 8380416
      · have c : hi = 44 := by omega
        rw [if_pos h2, if_pos c, if_pos c]
        simp only [Option.some.injEq, Prod.mk.injEq, true_and]
        omega
      · have c : ¬ hi = 44 := by omega
        rw [if_neg h2, if_neg c, if_neg c, s4]
        simp only [Option.some.injEq, Prod.mk.injEq]
        omega
    · have s2 : isub .i32 r lo = r - lo := sub32 (by omega) (by omega)
      have s3 : isub .i32 lo 1 = lo - 1 := sub32 (by omega) (by omega)
      rw [if_neg h]
      simp only [Option.bind_some, s2, s3]
      have s4 : IntKind.i32.wrap ((r - lo).tdiv 190464) = (r - lo) / 190464 := by rw [tdivN (by omega), id32 (by omega) (by omega)]
      by_cases h2 : r - lo = 8380416
      · have c : hi = 44 := by omega
        rw [if_pos h2, if_pos c, if_pos c]
        simp only [Option.some.injEq, Prod.mk.injEq, true_and]
        omega
      · have c : ¬ hi = 44 := by omega
        rw [if_neg h2, if_neg c, if_neg c, s4]
        simp only [Option.some.injEq, Prod.mk.injEq]
        omega
  · have e1 : imul .i32 2 261888 = 523776 := by decide
    have g : (2 : Int) * 261888 = 523776 := by decide
    have g2 : (8380416 : Int) / 523776 = 16 := by decide
    simp only [e1, show ¬ (523776 : Int) = 0 by decide, not_false_eq_true, if_true, Option.bind_some, g, g2, tmodN h0]
    generalize hq : (r + 261888 - 1) / 523776 = hi
    generalize hlo : r % 523776 = lo
    have b1 : 523776 * hi ≤ r + 261888 - 1 := by omega
    have b2 : r + 261888 - 1 < 523776 * hi + 523776 := by omega
    by_cases h : lo > 261888
    · have s1 : isub .i32 lo 523776 = lo - 523776 := sub32 (by omega) (by omega)
      have s2 : isub .i32 r (lo - 523776) = r - (lo - 523776) := sub32 (by omega) (by omega)
      have s3 : isub .i32 (lo - 523776) 1 = lo - 523776 - 1 := sub32 (by omega) (by omega)
      rw [if_pos h, s1]
      simp only [Option.bind_some, s2, s3]
      have s4 : IntKind.i32.wrap ((r - (lo - 523776)).tdiv 523776) = (r - (lo - 523776)) / 523776 := by rw [tdivN (by omega), id32 (by omega) (by omega)]
      by_cases h2 : r - (lo - 523776) = 8380416
      · have c : hi = 16 := by omega
        rw [if_pos h2, if_pos c, if_pos c]
        simp only [Option.some.injEq, Prod.mk.injEq, true_and]
        omega
      · have c : ¬ hi = 16 := by omega
        rw [if_neg h2, if_neg c, if_neg c, s4]
        simp only [Option.some.injEq, Prod.mk.injEq]
        omega
    · have s2 : isub .i32 r lo = r - lo := sub32 (by omega) (by omega)
      have s3 : isub .i32 lo 1 = lo - 1 := sub32 (by omega) (by omega)
      rw [if_neg h]
      simp only [Option.bind_some, s2, s3]
      have s4 : IntKind.i32.wrap ((r - lo).tdiv 523776) = (r - lo) / 523776 := by rw [tdivN (by omega), id32 (by omega) (by omega)]
      by_cases h2 : r - lo = 8380416
      · have c : hi = 16 := by omega
        rw [if_pos h2, if_pos c, if_pos c]
        simp only [Option.some.injEq, Prod.mk.injEq, true_and]
        omega
      · have c : ¬ hi = 16 := by omega
        rw [if_neg h2, if_neg c, if_neg c, s4]
        simp only [Option.some.injEq, Prod.mk.injEq]
        omega
def hintP (z r half : Int) : Bool := hiP r half != hiP ((r + z) % 8380417) half
theorem zq_Hint_eq (K : Nat) {z r half : Int} (hh : half = 95232 ∨ half = 261888) (h0 : 0 ≤ r) (h1 : r < 8380417) (h2 : 0 ≤ z) (h3 : z < 8380417) : zq_Hint.f K z r half = some (hintP z r half) := by
  unfold zq_Hint.f
  rw [zq_Parts_eq K hh h0 h1, zq_plus_eq K h0 h1 h2 h3]
  simp only [Option.bind_some]
  rw [zq_Parts_eq K hh (by omega) (by omega)]
  rfl
theorem ref21_Hint_eq (K : Nat) {z r half : Int} (hh : half = 95232 ∨ half = 261888) (h0 : 0 ≤ r) (h1 : r < 8380417) (h2 : 0 ≤ z) (h3 : z < 8380417) : ref21_Hint.f K z r half = some (hintP z r half) := by
  unfold ref21_Hint.f
  rw [ref21_Parts_eq K hh h0 h1, conv64 (by omega) (by omega), conv64 (by omega) (by omega), add64 (by omega) (by omega), ref21_mod_eq K (by omega) (by omega)]
  simp only [Option.bind_some]
  rw [ref21_Parts_eq K hh (by omega) (by omega)]
  rfl
theorem hiP_bounds {r half : Int} (hh : half = 95232 ∨ half = 261888) (h0 : 0 ≤ r) (h1 : r < 8380417) : 0 ≤ hiP r half ∧ hiP r half < 8380416 / (2 * half) ∧ -half ≤ loP r half ∧ loP r half ≤ half := by
  unfold hiP loP
  rcases hh with rfl | rfl <;> split <;> omega
/-- The high part, as a hint tells. -/
def useP (hint : Bool) (r half : Int) : Int := if hint = true then (if loP r half > 0 then (hiP r half + 1) % (8380416 / (2 * half)) else (hiP r half - 1) % (8380416 / (2 * half))) else hiP r half
theorem zq_Use_eq (K : Nat) {hint : Bool} {r half : Int} (hh : half = 95232 ∨ half = 261888) (h0 : 0 ≤ r) (h1 : r < 8380417) : zq_Use.f K hint r half = some (useP hint r half) := by
  obtain ⟨b0, b1, b2, b3⟩ := hiP_bounds hh h0 h1
  unfold zq_Use.f useP iquo
  rw [zq_Parts_eq K hh h0 h1]
  simp only [Option.bind_some]
  generalize hiP r half = hi at *
  generalize loP r half = lo at *
  cases hint with
  | false => rfl
  | true =>
    rcases hh with rfl | rfl
    · have e1 : imul .i32 2 95232 = 190464 := by decide
      have e5 : IntKind.i32.wrap ((8380416 : Int).tdiv 190464) = 44 := by decide
      have g2 : (8380416 : Int) / (2 * 95232) = 44 := by decide
      have e6 : isub .i32 44 1 = 43 := by decide
      rw [g2] at b1 ⊢
      simp only [if_true, show ¬ (95232 : Int) ≤ 0 by decide, if_false, e1, show ¬ (190464 : Int) = 0 by decide, not_false_eq_true, e5, e6, Option.bind_some]
      have s1 : iadd .i32 hi 1 = hi + 1 := add32 (by omega) (by omega)
      have s2 : isub .i32 hi 1 = hi - 1 := sub32 (by omega) (by omega)
      rw [s1, s2]
      by_cases c1 : lo > 0
      · by_cases c2 : hi = 43
        · simp only [c1, c2, if_true, Option.some.injEq]; decide
        · simp only [c1, c2, if_true, if_false, Option.some.injEq]; omega
      · by_cases c2 : hi = 0
        · simp only [c1, c2, if_true, if_false, Option.some.injEq]; decide
        · simp only [c1, c2, if_true, if_false, Option.some.injEq]; omega
    · have e1 : imul .i32 2 261888 = 523776 := by decide
      have e5 : IntKind.i32.wrap ((8380416 : Int).tdiv 523776) = 16 := by decide
      have g2 : (8380416 : Int) / (2 * 261888) = 16 := by decide
      have e6 : isub .i32 16 1 = 15 := by decide
      rw [g2] at b1 ⊢
      simp only [if_true, show ¬ (261888 : Int) ≤ 0 by decide, if_false, e1, show ¬ (523776 : Int) = 0 by decide, not_false_eq_true, e5, e6, Option.bind_some]
      have s1 : iadd .i32 hi 1 = hi + 1 := add32 (by omega) (by omega)
      have s2 : isub .i32 hi 1 = hi - 1 := sub32 (by omega) (by omega)
      rw [s1, s2]
      by_cases c1 : lo > 0
      · by_cases c2 : hi = 15
        · simp only [c1, c2, if_true, Option.some.injEq]; decide
        · simp only [c1, c2, if_true, if_false, Option.some.injEq]; omega
      · by_cases c2 : hi = 0
        · simp only [c1, c2, if_true, if_false, Option.some.injEq]; decide
        · simp only [c1, c2, if_true, if_false, Option.some.injEq]; omega
theorem ref21_Use_eq (K : Nat) {hint : Bool} {r half : Int} (hh : half = 95232 ∨ half = 261888) (h0 : 0 ≤ r) (h1 : r < 8380417) : ref21_Use.f K hint r half = some (useP hint r half) := by
  obtain ⟨b0, b1, b2, b3⟩ := hiP_bounds hh h0 h1
  unfold ref21_Use.f useP irem iquo
  have e1 : imul .i32 2 half = 2 * half := mul32 (by omega) (by omega)
  have hz : ¬ 2 * half = 0 := by omega
  simp only [e1, hz, not_false_eq_true, if_true, Option.bind_some]
  rw [ref21_Parts_eq K hh h0 h1, tdivN (by omega)]
  simp only [Option.bind_some]
  generalize hiP r half = hi at *
  generalize loP r half = lo at *
  cases hint with
  | false => rfl
  | true =>
    simp only [if_true]
    rcases hh with rfl | rfl
    · rw [id32 (x := 8380416 / (2 * 95232)) (by omega) (by omega)]
      have hm : ¬ (8380416 / (2 * 95232) : Int) = 0 := by omega
      by_cases c1 : lo > 0
      · rw [if_pos c1, if_pos c1, if_pos hm, add32 (by omega) (by omega), tmodN (by omega)]
      · rw [if_neg c1, if_neg c1, if_pos hm, sub32 (by omega) (by omega), add32 (by omega) (by omega), tmodN (by omega)]; simp only [Option.bind_some, Option.some.injEq, Int.add_emod_right]
    · rw [id32 (x := 8380416 / (2 * 261888)) (by omega) (by omega)]
      have hm : ¬ (8380416 / (2 * 261888) : Int) = 0 := by omega
      by_cases c1 : lo > 0
      · rw [if_pos c1, if_pos c1, if_pos hm, add32 (by omega) (by omega), tmodN (by omega)]
      · rw [if_neg c1, if_neg c1, if_pos hm, sub32 (by omega) (by omega), add32 (by omega) (by omega), tmodN (by omega)]; simp only [Option.bind_some, Option.some.injEq, Int.add_emod_right]
end Go.Proofs.Ytijahfdldlmnhaa
