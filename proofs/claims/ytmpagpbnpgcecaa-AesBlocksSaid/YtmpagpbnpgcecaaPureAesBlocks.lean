/- Layer 10: a block behind the cipher, and the one behind which it is, are the document's; in plain Lean. -/
import Derived.Test.YtmpagpbnpgcecaaLAesBlocks
import Derived.Test.YtmpagpbnpgcecaaEn
set_option linter.unusedSimpArgs false
set_option linter.unusedVariables false
namespace Go.Proofs.Ytmpagpbnpgcecaa.Pure
open Go Go.Mx
theorem awake10 : law10_awake.f 1000 = some true := by
  have h1 : aes_Block.f 1000 (List.replicate (15 : Int).toNat (Cod.zero (CI .u8))) (List.replicate (16 : Int).toNat (Cod.zero (CI .u8))) = some ([], 10) := by rfl
  have h2 := aBox (c := 0) (by decide)
  have h3 := aBox (c := 83) (by decide)
  have h4 := aMul 1000 (by decide) (a := 87) (b := 131) (by decide) (by decide)
  have e2 : bx 0 = 99 := by decide +kernel
  have e3 : bx 83 = 237 := by decide +kernel
  have e4 : gm 87 131 = 193 := by decide +kernel
  rw [e2] at h2
  rw [e3] at h3
  rw [e4] at h4
  have h2' : aes_Box.f 1000 0 = some 99 := h2
  have h3' : aes_Box.f 1000 83 = some 237 := h3
  have h4' : aes_Mul.f 1000 87 131 = some 193 := h4
  unfold law10_awake.f
  rw [h1, h2', h3', h4']
  rfl
theorem same (K : Nat) {y : List Int} (h : y.length < 1000) (hK : y.length < K) : ref01_Same.f K y y = some true := by
  have key : ∀ (n i k : Nat), i + n = y.length → n < k → ref01_Same.l0 K k y y (i : Int) = some (.inl ()) := by
    intro n
    induction n with
    | zero =>
      intro i k hi hk
      obtain ⟨k, rfl⟩ : ∃ q, k = q + 1 := ⟨k - 1, by omega⟩
      have h : ¬ (i : Int) < ((y.length : Nat) : Int) := by omega
      simp only [ref01_Same.l0, h, if_false]
    | succ n ih =>
      intro i k hi hk
      obtain ⟨k, rfl⟩ : ∃ q, k = q + 1 := ⟨k - 1, by omega⟩
      have c0 : (i : Int) < ((y.length : Nat) : Int) := by omega
      have c1 : (0 : Int) ≤ (i : Int) := by omega
      simp only [ref01_Same.l0, c0, c1, if_true, Option.bind_some, inc (i := i) (by omega)]
      exact ih (i + 1) k (by omega) (by omega)
  have h0 : ref01_Same.l0 K K y y 0 = some (.inl ()) := key y.length 0 K (by omega) hK
  unfold ref01_Same.f
  rw [if_pos rfl, h0]
  rfl
theorem both (K : Nat) (hK : 256 < K) (hM : aes_made.f K = some (tabs.1, tabs.2)) {a b : List Int} (ha : InL .u8 a) (hb : InL .u8 b) :
    (∃ y e, aes_Block.f K a b = some (y, e) ∧ ref10_Block.f K a b = some (y, e) ∧ y.length < 1000) ∧ (∃ y e, aes_Back.f K a b = some (y, e) ∧ ref10_Back.f K a b = some (y, e) ∧ y.length < 1000) := by
  by_cases h1 : a.length = 16 ∨ a.length = 24 ∨ a.length = 32
  · obtain ⟨nk, hn, hl⟩ : ∃ nk, (nk = 4 ∨ nk = 6 ∨ nk = 8) ∧ a.length = 4 * nk := by
      rcases h1 with h | h | h
      · exact ⟨4, by simp, h⟩
      · exact ⟨6, by simp, h⟩
      · exact ⟨8, by simp, h⟩
    by_cases h2 : b.length = 16
    · obtain ⟨y, e1, e2, ly⟩ := blockThere' K hK hM ha hb hn hl h2
      obtain ⟨x, e3, e4, lx⟩ := blockBack' K hK hM ha hb hn hl h2
      exact ⟨⟨y, 0, e1, e2, ly⟩, ⟨x, 0, e3, e4, lx⟩⟩
    · obtain ⟨s1, s2⟩ := sizedN hn hl K
      have c1 : ¬ ((b.length : Nat) : Int) = 16 := by omega
      have c2 : ¬ (14 : Int) = 0 := by decide
      refine ⟨⟨[], 14, ?_, ?_, by decide⟩, ⟨[], 14, ?_, ?_, by decide⟩⟩
      · simp only [aes_Block.f, aes_wrong.f, s1, c1, c2, if_true, if_false, Option.bind_some]
      · simp only [ref10_Block.f, s2, c1, if_true, if_false, Option.bind_some]
      · simp only [aes_Back.f, aes_wrong.f, s1, c1, c2, if_true, if_false, Option.bind_some]
      · simp only [ref10_Back.f, s2, c1, if_true, if_false, Option.bind_some]
  · have c1 : ¬ ((a.length : Nat) : Int) = 16 := by omega
    have c2 : ¬ ((a.length : Nat) : Int) = 24 := by omega
    have c3 : (((a.length : Nat) : Int) == 32) = false := beq_eq_false_iff_ne.2 (by omega)
    have c4 : ¬ (10 : Int) = 0 := by decide
    have s1 : aes_sized.f K a = some false := by simp only [aes_sized.f, c1, c2, c3, if_false]
    have s2 : ref10_Sized.f K a = some false := by simp only [ref10_Sized.f, c1, c2, c3, if_false]
    refine ⟨⟨[], 10, ?_, ?_, by decide⟩, ⟨[], 10, ?_, ?_, by decide⟩⟩
    · simp only [aes_Block.f, aes_wrong.f, s1, c4, Bool.false_eq_true, if_false, Option.bind_some]
    · simp only [ref10_Block.f, s2, Bool.false_eq_true, if_false, Option.bind_some]
    · simp only [aes_Back.f, aes_wrong.f, s1, c4, Bool.false_eq_true, if_false, Option.bind_some]
    · simp only [ref10_Back.f, s2, Bool.false_eq_true, if_false, Option.bind_some]
theorem blocks_core (W : Option Bool) (hW : W = some true) (A R B S : Option (List Int × Int)) (T : List Int → List Int → Option Bool) (hT : ∀ y : List Int, y.length < 1000 → T y y = some true)
    (h1 : ∃ y e, A = some (y, e) ∧ R = some (y, e) ∧ y.length < 1000) (h2 : ∃ y e, B = some (y, e) ∧ S = some (y, e) ∧ y.length < 1000) (p q : Prop) [Decidable p] [Decidable q] :
    (if p then (W.bind fun r1 => some r1) else (if q then (W.bind fun r2 => some r2) else (A.bind fun (r3, r4) => R.bind fun (r5, r6) => B.bind fun (r7, r8) => S.bind fun (r9, r10) => (T r3 r5).bind fun r11 => if r11 = true then (if r4 = r6 then ((T r7 r9).bind fun r12 => if r12 = true then (if r8 = r10 then (W.bind fun r13 => some r13) else (some false)) else (some false)) else (some false)) else (some false)))) = some true := by
  obtain ⟨y, e, rfl, rfl, ly⟩ := h1
  obtain ⟨x, d, rfl, rfl, lx⟩ := h2
  subst hW
  simp only [Option.bind_some, hT y ly, hT x lx, if_true]
  split
  · rfl
  · split <;> rfl
theorem eta2 (p : Arr 256 × Arr 256) : p = (p.1, p.2) := rfl
theorem AesBlocks : law10_AesBlocks.Pure := by
  intro a ha b hb
  obtain ⟨h1, h2⟩ := both 1000 (by decide) (aMade.trans (congrArg some (eta2 tabs))) ha hb
  exact ⟨1000, blocks_core (law10_awake.f 1000) awake10 (aes_Block.f 1000 a b) (ref10_Block.f 1000 a b) (aes_Back.f 1000 a b) (ref10_Back.f 1000 a b) (ref01_Same.f 1000) (fun y hy => same 1000 hy hy) h1 h2 _ _⟩
end Go.Proofs.Ytmpagpbnpgcecaa.Pure
