/- Layer 10 (aes), plain laws: the keys' words, in the program and in the document. -/
import Derived.Test.YtmpagpbnpgcecaaEh
set_option linter.unusedSimpArgs false
set_option linter.unusedVariables false
set_option maxRecDepth 100000
namespace Go.Proofs.Ytmpagpbnpgcecaa
open Go Go.Mx
theorem irem_nat {a b : Nat} (ha : a < 1000000) : irem .i64 (a : Int) (b : Int) = ((a % b : Nat) : Int) := by
  unfold irem
  rw [tmodN (by omega), ← Int.natCast_emod]
theorem nwords {nk : Nat} (h : nk ≤ 8) : imul .i64 4 (iadd .i64 (nk : Int) 7) = ((4 * (nk + 7) : Nat) : Int) := by
  rw [add64 (by omega) (by omega), mul64 (by omega) (by omega)]
  omega
theorem sub_nat {a b : Nat} (h : b ≤ a) (ha : a < 1000000) : isub .i64 (a : Int) (b : Int) = ((a - b : Nat) : Int) := by
  rw [sub64 (by omega) (by omega)]
  omega
theorem aStep (K : Nat) (hK : 8 < K) {ws : List (Arr 4)} {g : Nat → Nat} {nk i s k : Nat} (hw : WS ws i g) (hg : BG g i) (n0 : 4 ≤ nk) (n1 : nk ≤ 8) (hi : nk ≤ i) (hi2 : i < 4 * (nk + 7)) (hs : s < 256) :
    ∃ ws', aes_began_s.l1 K (k + 1) tabs.1 tabs.2 (nk : Int) (i : Int) (s : Int) ws = aes_began_s.l1 K k tabs.1 tabs.2 (nk : Int) ((i + 1 : Nat) : Int) ((sN nk i s : Nat) : Int) ws' ∧ WS ws' (i + 1) (more g i (wN g nk i s)) := by
  have c0 : (i : Int) < ((4 * (nk + 7) : Nat) : Int) := by omega
  have p1 : isub .i64 (i : Int) 1 = ((i - 1 : Nat) : Int) := sub_nat (b := 1) (by omega) (by omega)
  have c1 : (0 : Int) ≤ ((i - 1 : Nat) : Int) := by omega
  have c2 : ((i - 1 : Nat) : Int) < ((ws.length : Nat) : Int) := by rw [hw.1]; omega
  have p2 : isub .i64 (i : Int) (nk : Int) = ((i - nk : Nat) : Int) := sub_nat hi (by omega)
  have c3 : (0 : Int) ≤ ((i - nk : Nat) : Int) := by omega
  have c4 : ((i - nk : Nat) : Int) < ((ws.length : Nat) : Int) := by rw [hw.1]; omega
  have c5 : ¬ (nk : Int) = 0 := by omega
  have hm := irem_nat (a := i) (b := nk) (by omega)
  have hm8 : irem .i64 (i : Int) 8 = ((i % 8 : Nat) : Int) := irem_nat (b := 8) (by omega)
  have hl : ∀ w : Arr 4, ws.length + ([w] : List (Arr 4)).length ≤ 35184372088832 := fun w => by rw [hw.1]; show i + 1 ≤ _; omega
  have wp := hw.2 (i - 1) (by omega)
  have bp : B4 (fun r => g (4 * (i - 1) + r)) := fun r hr => hg _ (by omega)
  have wk := hw.2 (i - nk) (by omega)
  have bk : B4 (fun r => g (4 * (i - nk) + r)) := fun r hr => hg _ (by omega)
  have bv := vN_bd (nk := nk) hg (by omega) hs
  by_cases hA : i % nk = 0
  · have c6 : ((i % nk : Nat) : Int) = 0 := by omega
    have e0 : rd (rdL C4 ws ((i - 1 : Nat) : Int)) 0 = ((g (4 * (i - 1) + 0) : Nat) : Int) := wp 0 (by decide)
    have e1 : rd (rdL C4 ws ((i - 1 : Nat) : Int)) 1 = ((g (4 * (i - 1) + 1) : Nat) : Int) := wp 1 (by decide)
    have e2 : rd (rdL C4 ws ((i - 1 : Nat) : Int)) 2 = ((g (4 * (i - 1) + 2) : Nat) : Int) := wp 2 (by decide)
    have e3 : rd (rdL C4 ws ((i - 1 : Nat) : Int)) 3 = ((g (4 * (i - 1) + 3) : Nat) : Int) := wp 3 (by decide)
    obtain ⟨y1, h1, w1⟩ := aBoxed K (w := wr (wr (wr (wr (zeroA 4) 0 (rd (rdL C4 ws ((i - 1 : Nat) : Int)) 1)) 1 (rd (rdL C4 ws ((i - 1 : Nat) : Int)) 2)) 2 (rd (rdL C4 ws ((i - 1 : Nat) : Int)) 3)) 3 (rd (rdL C4 ws ((i - 1 : Nat) : Int)) 0)) (v := fun r => g (4 * (i - 1) + (r + 1) % 4)) (wd4 _ e1 e2 e3 e0) (fun r hr => hg _ (by omega))
    have ws0 : WdS (wr (zeroA 4) 0 (s : Int)) (fun r => if r = 0 then s else 0) := fun r hr => by
      match r, hr with
      | 0, _ => rfl
      | 1, _ => rfl
      | 2, _ => rfl
      | 3, _ => rfl
    obtain ⟨y2, h2, w2⟩ := aXorW K w1 ws0 (fun r hr => bx_lt (hg _ (by omega))) (fun r hr => by
      show (if r = 0 then s else 0) < 256
      split
      · exact hs
      · decide)
    have ev : ∀ r, vN g nk i s r = bx (g (4 * (i - 1) + (r + 1) % 4)) ^^^ (if r = 0 then s else 0) := fun r => by unfold vN; rw [if_pos hA]
    have w2' : WdS y2 (vN g nk i s) := fun r hr => by rw [w2 r hr, ev r]
    have h3 : aes_Mul.f K (s : Int) 2 = some ((gm s 2 : Nat) : Int) := aMul K hK (b := 2) hs (by decide)
    obtain ⟨y4, h4, w4⟩ := aXorW K wk w2' bk bv
    have es : sN nk i s = gm s 2 := by unfold sN; rw [if_pos hA]
    refine ⟨ws ++ [y4], ?_, hw.more w4⟩
    rw [es]
    simp only [aes_began_s.l1, nwords n1, c0, p1, c1, c2, c5, hm, c6, h1, h2, h3, p2, c3, c4, h4, hl, if_true, not_false_eq_true, Option.bind_some, inc (i := i) (by omega)]
  · have c6 : ¬ ((i % nk : Nat) : Int) = 0 := by omega
    have es : sN nk i s = s := by unfold sN; rw [if_neg hA]
    by_cases hB : nk = 8 ∧ i % 8 = 4
    · obtain ⟨hB1, hB2⟩ := hB
      have c7 : (nk : Int) = 8 := by omega
      have c8 : ((i % 8 : Nat) : Int) = 4 := by omega
      obtain ⟨y1, h1, w1⟩ := aBoxed K wp bp
      have ev : ∀ r, vN g nk i s r = bx (g (4 * (i - 1) + r)) := fun r => by unfold vN; rw [if_neg hA, if_pos ⟨hB1, hB2⟩]
      have w2' : WdS y1 (vN g nk i s) := fun r hr => by rw [w1 r hr, ev r]
      obtain ⟨y4, h4, w4⟩ := aXorW K wk w2' bk bv
      refine ⟨ws ++ [y4], ?_, hw.more w4⟩
      rw [es]
      have c9 : ¬ (4 : Int) = 0 := by decide
      have p2' : isub .i64 (i : Int) 8 = ((i - nk : Nat) : Int) := by rw [← c7]; exact p2
      have nw : imul .i64 4 (iadd .i64 8 7) = 60 := by decide
      have c0' : (i : Int) < 60 := by omega
      have c5' : ¬ (8 : Int) = 0 := by decide
      simp only [aes_began_s.l1, c7, nw, c0', p1, c1, c2, c5', hm8, c8, c9, h1, p2', c3, c4, h4, hl, if_true, if_false, not_false_eq_true, Option.bind_some, inc (i := i) (by omega)]
    · have ev : ∀ r, vN g nk i s r = g (4 * (i - 1) + r) := fun r => by unfold vN; rw [if_neg hA, if_neg hB]
      have w2' : WdS (rdL C4 ws ((i - 1 : Nat) : Int)) (vN g nk i s) := fun r hr => by rw [wp r hr, ev r]
      obtain ⟨y4, h4, w4⟩ := aXorW K wk w2' bk bv
      refine ⟨ws ++ [y4], ?_, hw.more w4⟩
      rw [es]
      by_cases hC : nk = 8
      · have c7 : (nk : Int) = 8 := by omega
        have c8 : ¬ ((i % 8 : Nat) : Int) = 4 := by omega
        have c9 : ¬ ((i % 8 : Nat) : Int) = 0 := by rw [hC] at hA; omega
        have p2' : isub .i64 (i : Int) 8 = ((i - nk : Nat) : Int) := by rw [← c7]; exact p2
        have nw : imul .i64 4 (iadd .i64 8 7) = 60 := by decide
        have c0' : (i : Int) < 60 := by omega
        have c5' : ¬ (8 : Int) = 0 := by decide
        simp only [aes_began_s.l1, c7, nw, c0', p1, c1, c2, c5', hm8, c8, c9, p2', c3, c4, h4, hl, if_true, if_false, not_false_eq_true, Option.bind_some, inc (i := i) (by omega)]
      · have c7 : ¬ (nk : Int) = 8 := by omega
        simp only [aes_began_s.l1, nwords n1, c0, p1, c1, c2, c5, hm, c6, c7, p2, c3, c4, h4, hl, if_true, if_false, not_false_eq_true, Option.bind_some, inc (i := i) (by omega)]
end Go.Proofs.Ytmpagpbnpgcecaa
