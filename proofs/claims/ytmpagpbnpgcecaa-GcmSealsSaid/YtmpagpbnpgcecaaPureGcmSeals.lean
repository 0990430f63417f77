/- Layer 12: a sealed text, and the text that is sealed, are the document's; in plain Lean. -/
import Derived.Test.YtmpagpbnpgcecaaLGcmSeals
import Derived.Test.YtmpagpbnpgcecaaGl
set_option linter.unusedSimpArgs false
set_option linter.unusedVariables false
set_option maxRecDepth 100000
namespace Go.Proofs.Ytmpagpbnpgcecaa.Pure
open Go Go.Mx
theorem sealBoth {k n s b : List Int} (hk : InL .u8 k) (hn : InL .u8 n) (hs : InL .u8 s) (hb : InL .u8 b) (ls : s.length ≤ 100) (lb : b.length ≤ 100) :
    ∃ x e, gcm_Seal.f 1000 k n s b = some (x, e) ∧ ref12_Seal.f 1000 k n s b = some (x, e) ∧ x.length < 900 := by
  by_cases hz : Szk k
  · by_cases ln : n.length = 12
    · obtain ⟨E, hE, hR⟩ := cak_both hk hz
      obtain ⟨_, _, _, b4, b5⟩ := gBlk hE hn ln 1
      have z0 : InL .u8 (List.replicate 16 (0 : Int)) := fun x hx => by
        rw [List.eq_of_mem_replicate hx]
        exact (⟨by decide, by decide⟩ : (0 : Int) ≤ 0 ∧ (0 : Int) ≤ 255)
      obtain ⟨_, z1, z2⟩ := hE _ z0 (by decide)
      have sl : (str E n b.length 2 b).length = b.length := str_len hE hn ln _ _ (by omega)
      have si := str_in hE hn ln b.length 2 hb
      have tl := tgv_len (E := E) (beside := s) (b := str E n b.length 2 b) b4
      have g := gSeal hz hE hn ln hs (by omega) hb (by omega)
      have r1 := rStream hE hR hn ln (t := b) (by omega)
      have r2 := rTag (E := E) (one := E (n ++ be4 1)) (beside := s) (b := str E n b.length 2 b) b4 b5 z2 z1 hs si (by omega) (by omega)
      refine ⟨_, _, g, ?_, by rw [List.length_append, sl, tl]; omega⟩
      unfold ref12_Seal.f
      rw [rSized.1 hz, Option.bind_some, if_pos rfl, if_pos (by omega), if_neg (by omega), if_neg (by omega), r1]
      simp only [Option.bind_some]
      rw [r2, Option.bind_some, if_pos (by omega)]
    · refine ⟨[], 14, ?_, ?_, by decide⟩
      · unfold gcm_Seal.f
        rw [gSized.1 hz, Option.bind_some, if_pos rfl, if_neg (by omega)]
      · unfold ref12_Seal.f
        rw [rSized.1 hz, Option.bind_some, if_pos rfl, if_neg (by omega)]
  · refine ⟨[], 10, ?_, ?_, by decide⟩
    · unfold gcm_Seal.f
      rw [gSized.2 hz, Option.bind_some, if_neg (by decide)]
    · unfold ref12_Seal.f
      rw [rSized.2 hz, Option.bind_some, if_neg (by decide)]
theorem openBoth {k n s b : List Int} (hk : InL .u8 k) (hn : InL .u8 n) (hs : InL .u8 s) (hb : InL .u8 b) (ls : s.length ≤ 100) (lb : b.length ≤ 100) :
    ∃ x e, gcm_Open.f 1000 k n s b = some (x, e) ∧ ref12_Open.f 1000 k n s b = some (x, e) ∧ x.length < 900 := by
  by_cases hz : Szk k
  · by_cases ln : n.length = 12
    · by_cases h16 : 16 ≤ b.length
      · obtain ⟨E, hE, hR⟩ := cak_both hk hz
        obtain ⟨_, _, _, b4, b5⟩ := gBlk hE hn ln 1
        have z0 : InL .u8 (List.replicate 16 (0 : Int)) := fun x hx => by
          rw [List.eq_of_mem_replicate hx]
          exact (⟨by decide, by decide⟩ : (0 : Int) ≤ 0 ∧ (0 : Int) ≤ 255)
        obtain ⟨_, z1, z2⟩ := hE _ z0 (by decide)
        obtain ⟨c, ec⟩ : ∃ c, c = b.take (b.length - 16) := ⟨_, rfl⟩
        obtain ⟨m, em⟩ : ∃ m, m = b.drop (b.length - 16) := ⟨_, rfl⟩
        have eb : c ++ m = b := by rw [ec, em, List.take_append_drop]
        have lc : c.length = b.length - 16 := by rw [ec, List.length_take]; omega
        have lm : m.length = 16 := by rw [em, List.length_drop]; omega
        have hc : InL .u8 c := by rw [ec]; exact g_take hb _
        have hm : InL .u8 m := by rw [em]; exact g_drop hb _
        have g := gOpen hz hE hn ln hs (by omega) hc hm (by omega) lm
        rw [eb] at g
        have sl : (str E n c.length 2 c).length = c.length := str_len hE hn ln _ _ (by omega)
        have tl := tgv_len (E := E) (beside := s) (b := c) b4
        have r1 := rStream hE hR hn ln (t := c) (by omega)
        have r2 := rTag (E := E) (one := E (n ++ be4 1)) (beside := s) (b := c) b4 b5 z2 z1 hs hc (by omega) (by omega)
        have r3 := gSameR (a := tgv E (E (n ++ be4 1)) s c) (b := m) (by omega) (by omega)
        have e0 : isub .i64 ((b.length : Nat) : Int) 16 = ((c.length : Nat) : Int) := by rw [sub64 (by omega) (by omega)]; omega
        have s1 : subL b 0 ((c.length : Nat) : Int) = c := by
          show (b.take (((c.length : Nat) : Int)).toNat).drop 0 = c
          rw [Int.toNat_natCast, List.drop_zero, lc, ec]
        have s2 : subL b ((c.length : Nat) : Int) ((b.length : Nat) : Int) = m := by
          show (b.take (((b.length : Nat) : Int)).toNat).drop (((c.length : Nat) : Int)).toNat = m
          rw [Int.toNat_natCast, Int.toNat_natCast, List.take_length, lc, em]
        refine ⟨(if tgv E (E (n ++ be4 1)) s c = m then (str E n c.length 2 c, (0 : Int)) else ([], 17)).1, (if tgv E (E (n ++ be4 1)) s c = m then (str E n c.length 2 c, (0 : Int)) else ([], 17)).2, g, ?_, ?_⟩
        · unfold ref12_Open.f
          rw [rSized.1 hz, Option.bind_some, if_pos rfl, if_pos (by omega), if_neg (by omega), if_neg (by omega), if_neg (by omega), e0, s1, s2, if_pos (by decide), if_pos (by omega), if_pos (by omega), r1]
          simp only [Option.bind_some]
          rw [if_pos (by omega), if_pos (by omega), if_pos (by omega), r2, Option.bind_some, r3, Option.bind_some]
          by_cases h : tgv E (E (n ++ be4 1)) s c = m
          · rw [if_pos h, if_pos (decide_eq_true h)]
          · rw [if_neg h, if_neg (by rw [decide_eq_false h]; decide)]
        · split
          · show (str E n c.length 2 c).length < 900
            omega
          · decide
      · refine ⟨[], 14, ?_, ?_, by decide⟩
        · unfold gcm_Open.f
          rw [gSized.1 hz, Option.bind_some, if_pos rfl, if_pos (by omega), if_pos (by omega)]
        · unfold ref12_Open.f
          rw [rSized.1 hz, Option.bind_some, if_pos rfl, if_pos (by omega), if_pos (by omega)]
    · refine ⟨[], 14, ?_, ?_, by decide⟩
      · unfold gcm_Open.f
        rw [gSized.1 hz, Option.bind_some, if_pos rfl, if_neg (by omega)]
      · unfold ref12_Open.f
        rw [rSized.1 hz, Option.bind_some, if_pos rfl, if_neg (by omega)]
  · refine ⟨[], 10, ?_, ?_, by decide⟩
    · unfold gcm_Open.f
      rw [gSized.2 hz, Option.bind_some, if_neg (by decide)]
    · unfold ref12_Open.f
      rw [rSized.2 hz, Option.bind_some, if_neg (by decide)]
theorem GcmSeals : law12_GcmSeals.Pure := by
  intro a0 h0 a1 h1 a2 h2 a3 h3
  refine ⟨1000, ?_⟩
  unfold law12_GcmSeals.f
  rcases gFew (W := [a0, a1, a2, a3]) (show 4 < 900 by decide) with hf | ⟨hf, hl⟩
  · simp only [hf, awake12, Bool.false_eq_true, if_false, Option.bind_some]
  have l2 : a2.length ≤ 100 := hl a2 (by simp)
  have l3 : a3.length ≤ 100 := hl a3 (by simp)
  obtain ⟨x, e, s1, s2, lx⟩ := sealBoth h0 h1 h2 h3 l2 l3
  obtain ⟨y, d, o1, o2, ly⟩ := openBoth h0 h1 h2 h3 l2 l3
  have q1 := gsame 1000 (y := x) (by omega) (by omega)
  have q2 := gsame 1000 (y := y) (by omega) (by omega)
  simp only [hf, s1, s2, o1, o2, q1, q2, awake12, if_true, Option.bind_some]
end Go.Proofs.Ytmpagpbnpgcecaa.Pure
