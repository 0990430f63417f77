/- Layer 10: a text in a chain of blocks, and the text of one, are the document's; in plain Lean. -/
import Derived.Test.YtmpagpbnpgcecaaLAesChains
import Derived.Test.YtmpagpbnpgcecaaEs
import Derived.Test.YtmpagpbnpgcecaaEo
set_option linter.unusedSimpArgs false
set_option linter.unusedVariables false
set_option maxRecDepth 100000
namespace Go.Proofs.Ytmpagpbnpgcecaa.Pure
open Go Go.Mx
theorem awake10 : law10_awake.f 1000 = some true := by
  have h1 : aes_Block.f 1000 (List.replicate (15 : Int).toNat (Cod.zero (CI .u8))) (List.replicate (16 : Int).toNat (Cod.zero (CI .u8))) = some ([], 10) := by rfl
  have h2 := aBox (c := 0) (by decide)
  have h3 := aBox (c := 83) (by decide)
  have h4 := aMul 1000 (by decide) (a := 87) (b := 131) (by decide) (by decide)
  have e2 : bx 0 = 99 := by decide +kernel
  have e3 : bx 83 = 237 := by decide +kernel
  have e4 : gm 87 131 = 193 := by decide +kernel
  rw [e2] at h2
  rw [e3] at h3
  rw [e4] at h4
  have h2' : aes_Box.f 1000 0 = some 99 := h2
  have h3' : aes_Box.f 1000 83 = some 237 := h3
  have h4' : aes_Mul.f 1000 87 131 = some 193 := h4
  unfold law10_awake.f
  rw [h1, h2', h3', h4']
  rfl
theorem same (K : Nat) {y : List Int} (h : y.length < 1000) (hK : y.length < K) : ref01_Same.f K y y = some true := by
  have key : ∀ (n i k : Nat), i + n = y.length → n < k → ref01_Same.l0 K k y y (i : Int) = some (.inl ()) := by
    intro n
    induction n with
    | zero =>
      intro i k hi hk
      obtain ⟨k, rfl⟩ : ∃ q, k = q + 1 := ⟨k - 1, by omega⟩
      have h : ¬ (i : Int) < ((y.length : Nat) : Int) := by omega
      simp only [ref01_Same.l0, h, if_false]
    | succ n ih =>
      intro i k hi hk
      obtain ⟨k, rfl⟩ : ∃ q, k = q + 1 := ⟨k - 1, by omega⟩
      have c0 : (i : Int) < ((y.length : Nat) : Int) := by omega
      have c1 : (0 : Int) ≤ (i : Int) := by omega
      simp only [ref01_Same.l0, c0, c1, if_true, Option.bind_some, inc (i := i) (by omega)]
      exact ih (i + 1) k (by omega) (by omega)
  have h0 : ref01_Same.l0 K K y y 0 = some (.inl ()) := key y.length 0 K (by omega) hK
  unfold ref01_Same.f
  rw [if_pos rfl, h0]
  rfl
theorem unfin_len {y : List Int} : (unfin y).1.length ≤ y.length := by
  unfold unfin
  split
  · exact Nat.zero_le _
  · split
    · exact Nat.zero_le _
    · split
      · show (y.take _).length ≤ _
        rw [List.length_take]
        omega
      · exact Nat.zero_le _
theorem AesChains : law10_AesChains.Pure := by
  intro a0 h0 a1 h1 a2 h2
  refine ⟨1000, ?_⟩
  unfold law10_AesChains.f
  by_cases c0 : ((a0.length : Nat) : Int) > 100
  · simp only [c0, awake10, if_true, Option.bind_some]
  by_cases c1 : ((a1.length : Nat) : Int) > 100
  · simp only [c0, c1, awake10, if_true, if_false, Option.bind_some]
  by_cases c2 : ((a2.length : Nat) : Int) > 400
  · simp only [c0, c1, c2, awake10, if_true, if_false, Option.bind_some]
  have A : ∃ x e, aes_Chain.f 1000 a0 a1 a2 = some (x, e) ∧ ref10_Chain.f 1000 a0 a1 a2 = some (x, e) ∧ x.length < 1000 := by
    by_cases hs : Szk a0 ∧ a1.length = 16
    · obtain ⟨rk, z, E, D, hc⟩ := cy_of h0 hs.1
      obtain ⟨e1, e2⟩ := bothChain hc hs.1 (first := a1) (l := a2) ⟨h1, hs.2⟩ h2 (by omega)
      have hl := (chain_ok hc (a2.length / 16 + 1) a1 (pad a2) ⟨h1, hs.2⟩ (pad_in h2) (pad_len a2)).2
      exact ⟨_, _, e1, e2, by show (chain E _ _ _).length < 1000; rw [hl]; omega⟩
    · obtain ⟨e, e1, e2, _⟩ := chain_no (l := a2) hs
      exact ⟨_, _, e1, e2, by decide⟩
  have B : ∃ x e, aes_Unchain.f 1000 a0 a1 a2 = some (x, e) ∧ ref10_Unchain.f 1000 a0 a1 a2 = some (x, e) ∧ x.length < 1000 := by
    by_cases hs : Szk a0 ∧ a1.length = 16 ∧ 0 < a2.length ∧ a2.length % 16 = 0
    · obtain ⟨rk, z, E, D, hc⟩ := cy_of h0 hs.1
      have hl : a2.length = 16 * (a2.length / 16) := by omega
      obtain ⟨e1, e2⟩ := bothUn hc hs.1 (first := a1) (l := a2) ⟨h1, hs.2.1⟩ h2 (show 0 < a2.length / 16 by omega) hl (by omega)
      have hl2 := (unch_ok hc (a2.length / 16) a1 a2 ⟨h1, hs.2.1⟩ h2 hl).2
      have hl3 : (unchT D a1 a2).length = 16 * (a2.length / 16) := hl2
      have hl4 := unfin_len (y := unchT D a1 a2)
      exact ⟨(unfin (unchT D a1 a2)).1, (unfin (unchT D a1 a2)).2, e1, e2, by omega⟩
    · obtain ⟨e, e1, e2, _⟩ := un_no (l := a2) (by omega) hs
      exact ⟨_, _, e1, e2, by decide⟩
  obtain ⟨x, e, p1, p2, p3⟩ := A
  obtain ⟨y, f, q1, q2, q3⟩ := B
  have s1 := same 1000 p3 p3
  have s2 := same 1000 q3 q3
  simp only [c0, c1, c2, p1, p2, q1, q2, s1, s2, awake10, if_true, if_false, Option.bind_some]
end Go.Proofs.Ytmpagpbnpgcecaa.Pure
