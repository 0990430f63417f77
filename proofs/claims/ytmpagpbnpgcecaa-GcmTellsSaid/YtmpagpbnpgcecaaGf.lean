/- Layer 12 (gcm), plain laws: texts that are the same, few of them. -/
import Derived.Test.YtmpagpbnpgcecaaGb
import Derived.Test.YtmpagpbnpgcecaaGa
set_option linter.unusedSimpArgs false
set_option linter.unusedVariables false
set_option maxRecDepth 100000
namespace Go.Proofs.Ytmpagpbnpgcecaa
open Go Go.Mx
theorem gsame (K : Nat) {y : List Int} (h : y.length < 1000) (hK : y.length < K) : ref01_Same.f K y y = some true := by
  have key : ∀ (n i k : Nat), i + n = y.length → n < k → ref01_Same.l0 K k y y (i : Int) = some (.inl ()) := by
    intro n
    induction n with
    | zero =>
      intro i k hi hk
      obtain ⟨k, rfl⟩ : ∃ q, k = q + 1 := ⟨k - 1, by omega⟩
      have h : ¬ (i : Int) < ((y.length : Nat) : Int) := by omega
      simp only [ref01_Same.l0, h, if_false]
    | succ n ih =>
      intro i k hi hk
      obtain ⟨k, rfl⟩ : ∃ q, k = q + 1 := ⟨k - 1, by omega⟩
      have c0 : (i : Int) < ((y.length : Nat) : Int) := by omega
      have c1 : (0 : Int) ≤ (i : Int) := by omega
      simp only [ref01_Same.l0, c0, c1, if_true, Option.bind_some, ginc (i := i) (by omega)]
      exact ih (i + 1) k (by omega) (by omega)
  have h0 : ref01_Same.l0 K K y y 0 = some (.inl ()) := key y.length 0 K (by omega) hK
  unfold ref01_Same.f
  rw [if_pos rfl, h0]
  rfl

theorem gFew_l0 {W : List (List Int)} (hW : W.length < 100000) : ∀ (m i k : Nat), i + m = W.length → m < k → law12_few.l0 1000 k W (i : Int) = some (.inr false) ∨ (law12_few.l0 1000 k W (i : Int) = some (.inl ()) ∧ ∀ b ∈ W.drop i, b.length ≤ 100) := by
  intro m
  induction m with
  | zero =>
    intro i k hi hk
    obtain ⟨k, rfl⟩ : ∃ q, k = q + 1 := ⟨k - 1, by omega⟩
    have c : ¬ (i : Int) < ((W.length : Nat) : Int) := by omega
    refine .inr ⟨by simp only [law12_few.l0, c, if_false], fun b hb => ?_⟩
    rw [List.drop_of_length_le (by omega)] at hb
    cases hb
  | succ m ih =>
    intro i k hi hk
    obtain ⟨k, rfl⟩ : ∃ q, k = q + 1 := ⟨k - 1, by omega⟩
    have hil : i < W.length := by omega
    have c0 : (i : Int) < ((W.length : Nat) : Int) := by omega
    have c1 : (0 : Int) ≤ (i : Int) := by omega
    by_cases h : ((W[i].length : Nat) : Int) > 100
    · exact .inl (by simp only [law12_few.l0, c0, c1, g_rdLL hil, h, if_true])
    · rcases ih (i + 1) k (by omega) (by omega) with h1 | ⟨h1, h2⟩
      · exact .inl (by simp only [law12_few.l0, c0, c1, g_rdLL hil, h, if_true, if_false, ginc (i := i) (by omega)]; exact h1)
      · refine .inr ⟨by simp only [law12_few.l0, c0, c1, g_rdLL hil, h, if_true, if_false, ginc (i := i) (by omega)]; exact h1, fun b hb => ?_⟩
        rw [List.drop_eq_getElem_cons hil] at hb
        rcases List.mem_cons.1 hb with rfl | hb
        · omega
        · exact h2 b hb
theorem gFew {W : List (List Int)} (hW : W.length < 900) : law12_few.f 1000 W = some false ∨ (law12_few.f 1000 W = some true ∧ ∀ b ∈ W, b.length ≤ 100) := by
  have h := gFew_l0 (W := W) (by omega) W.length 0 1000 (by omega) (by omega)
  unfold law12_few.f
  rcases h with h | ⟨h, h2⟩
  · have h' : law12_few.l0 1000 1000 W 0 = some (.inr false) := h
    exact .inl (by rw [h']; rfl)
  · have h' : law12_few.l0 1000 1000 W 0 = some (.inl ()) := h
    exact .inr ⟨by rw [h']; rfl, h2⟩
end Go.Proofs.Ytmpagpbnpgcecaa
