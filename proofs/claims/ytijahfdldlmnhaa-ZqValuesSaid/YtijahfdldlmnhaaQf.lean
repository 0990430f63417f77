/- Layer 21 (zq), plain laws: the document's powers and turned bits, played. -/
import Derived.Test.YtijahfdldlmnhaaQd
set_option linter.unusedSimpArgs false
set_option linter.unusedVariables false
set_option maxRecDepth 100000
namespace Go.Proofs.Ytijahfdldlmnhaa
open Go Go.Mx
def powA : Arr 512 := mapA 512 fun i => ((1753 ^ i % 8380417 : Nat) : Int)
theorem pow_step (i : Nat) : (((1753 ^ i % 8380417 : Nat) : Int) * 1753) % 8380417 = ((1753 ^ (i + 1) % 8380417 : Nat) : Int) := by
  rw [Nat.pow_succ]
  generalize 1753 ^ i = y
  omega
theorem powers_l0 (K : Nat) : ∀ (d i k : Nat) (z : Arr 512), i + d = 512 → 1 ≤ i → d < k → (∀ j, j < i → rd z j = ((1753 ^ j % 8380417 : Nat) : Int)) → ref21_powers.l0 K k i z = some powA := by
  intro d
  induction d with
  | zero =>
    intro i k z hi h1 hk hz
    obtain ⟨k, rfl⟩ : ∃ m, k = m + 1 := ⟨k - 1, by omega⟩
    obtain rfl : i = 512 := by omega
    simp only [ref21_powers.l0, show ¬ ((512 : Nat) : Int) < 512 by omega, if_false]
    refine congrArg some (arr_ext fun j hj => ?_)
    unfold powA
    rw [rd_mapA _ _ hj, hz j hj]
  | succ d ih =>
    intro i k z hi h1 hk hz
    obtain ⟨k, rfl⟩ : ∃ m, k = m + 1 := ⟨k - 1, by omega⟩
    obtain ⟨i, rfl⟩ : ∃ m, i = m + 1 := ⟨i - 1, by omega⟩
    have g1 : ((i + 1 : Nat) : Int) < 512 := by omega
    have g2 : (0 : Int) ≤ ((i + 1 : Nat) : Int) := by omega
    have e1 : isub .i64 ((i + 1 : Nat) : Int) 1 = (i : Int) := by rw [sub64 (by omega) (by omega)]; omega
    have g3 : (i : Int) < 512 := by omega
    have g4 : (0 : Int) ≤ (i : Int) := by omega
    have hlt := Nat.mod_lt (1753 ^ i) (show 8380417 > 0 by decide)
    have e2 : irem .i64 (imul .i64 ((1753 ^ i % 8380417 : Nat) : Int) 1753) 8380417 = ((1753 ^ (i + 1) % 8380417 : Nat) : Int) := by
      rw [← pow_step]
      generalize 1753 ^ i % 8380417 = y at *
      rw [mul64 (by omega) (by omega)]
      unfold irem
      rw [tmodN (by omega)]
    have e3 : iadd .i64 ((i + 1 : Nat) : Int) 1 = ((i + 1 + 1 : Nat) : Int) := by rw [add64 (by omega) (by omega)]; rfl
    simp only [ref21_powers.l0, g1, g2, g3, g4, if_true, e1, Option.bind_some, hz i (by omega), e2, e3]
    refine ih (i + 1 + 1) k _ (by omega) (by omega) (by omega) fun j hj => ?_
    rw [rd_wr _ _ _ _ (by omega)]
    by_cases h : i + 1 = j
    · subst h; rw [if_pos rfl]
    · rw [if_neg h]; exact hz j (by omega)
theorem ref21_powers_eq : ref21_powers.f KK = some powA := by
  rw [ref21_powers.f]
  have h := powers_l0 KK 511 1 KK (wr (zeroA 512) ((0 : Nat) : Int) 1) (by decide) (by decide) (by decide) fun j hj => by
    obtain rfl : j = 0 := by omega
    rw [rd_wr_same _ _ _ (by decide)]
    decide
  rw [show ((1 : Nat) : Int) = 1 from rfl, show ((0 : Nat) : Int) = 0 from rfl] at h
  rw [h]
  rfl
theorem turned_ck : ∀ j, j < 256 → ref21_turned.f 20000 ((j : Nat) : Int) = some ((brv8 j : Nat) : Int) := by decide +kernel
theorem turned_eq {j : Nat} (hj : j < 256) : ref21_turned.f KK ((j : Nat) : Int) = some ((brv8 j : Nat) : Int) := turned_ck j hj
end Go.Proofs.Ytijahfdldlmnhaa
