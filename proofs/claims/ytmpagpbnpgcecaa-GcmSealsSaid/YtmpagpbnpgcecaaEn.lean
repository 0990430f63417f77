/- Layer 10 (aes), plain laws: the keys' words, in the program and in the document. -/
import Derived.Test.YtmpagpbnpgcecaaEh
set_option linter.unusedSimpArgs false
set_option linter.unusedVariables false
set_option maxRecDepth 100000
namespace Go.Proofs.Ytmpagpbnpgcecaa
open Go Go.Mx
theorem irem_nat {a b : Nat} (ha : a < 1000000) : irem .i64 (a : Int) (b : Int) = ((a % b : Nat) : Int) := by
  unfold irem
  rw [tmodN (by omega), ← Int.natCast_emod]
theorem nwords {nk : Nat} (h : nk ≤ 8) : imul .i64 4 (iadd .i64 (nk : Int) 7) = ((4 * (nk + 7) : Nat) : Int) := by
  rw [add64 (by omega) (by omega), mul64 (by omega) (by omega)]
  omega
theorem sub_nat {a b : Nat} (h : b ≤ a) (ha : a < 1000000) : isub .i64 (a : Int) (b : Int) = ((a - b : Nat) : Int) := by
  rw [sub64 (by omega) (by omega)]
  omega
theorem aStep (K : Nat) (hK : 8 < K) {ws : List (Arr 4)} {g : Nat → Nat} {nk i s k : Nat} (hw : WS ws i g) (hg : BG g i) (n0 : 4 ≤ nk) (n1 : nk ≤ 8) (hi : nk ≤ i) (hi2 : i < 4 * (nk + 7)) (hs : s < 256) :
    ∃ ws', aes_began_s.l1 K (k + 1) tabs.1 tabs.2 (nk : Int) (i : Int) (s : Int) ws = aes_began_s.l1 K k tabs.1 tabs.2 (nk : Int) ((i + 1 : Nat) : Int) ((sN nk i s : Nat) : Int) ws' ∧ WS ws' (i + 1) (more g i (wN g nk i s)) := by
  have c0 : (i : Int) < ((4 * (nk + 7) : Nat) : Int) := by omega
  have p1 : isub .i64 (i : Int) 1 = ((i - 1 : Nat) : Int) := sub_nat (b := 1) (by omega) (by omega)
  have c1 : (0 : Int) ≤ ((i - 1 : Nat) : Int) := by omega
  have c2 : ((i - 1 : Nat) : Int) < ((ws.length : Nat) : Int) := by rw [hw.1]; omega
  have p2 : isub .i64 (i : Int) (nk : Int) = ((i - nk : Nat) : Int) := sub_nat hi (by omega)
  have c3 : (0 : Int) ≤ ((i - nk : Nat) : Int) := by omega
  have c4 : ((i - nk : Nat) : Int) < ((ws.length : Nat) : Int) := by rw [hw.1]; omega
  have c5 : ¬ (nk : Int) = 0 := by omega
  have hm := irem_nat (a := i) (b := nk) (by omega)
  have hm8 : irem .i64 (i : Int) 8 = ((i % 8 : Nat) : Int) := irem_nat (b := 8) (by omega)
  have hl : ∀ w : Arr 4, ws.length + ([w] : List (Arr 4)).length ≤ 35184372088832 := fun w => by rw [hw.1]; show i + 1 ≤ _; omega
  have wp := hw.2 (i - 1) (by omega)
  have bp : B4 (fun r => g (4 * (i - 1) + r)) := fun r hr => hg _ (by omega)
  have wk := hw.2 (i - nk) (by omega)
  have bk : B4 (fun r => g (4 * (i - nk) + r)) := fun r hr => hg _ (by omega)
  have bv := vN_bd (nk := nk) hg (by omega) hs
  by_cases hA : i % nk = 0
  · have c6 : ((i % nk : Nat) : Int) = 0 := by omega
    have e0 : rd (rdL C4 ws ((i - 1 : Nat) : Int)) 0 = ((g (4 * (i - 1) + 0) : Nat) : Int) := wp 0 (by decide)
    have e1 : rd (rdL C4 ws ((i - 1 : Nat) : Int)) 1 = ((g (4 * (i - 1) + 1) : Nat) : Int) := wp 1 (by decide)
    have e2 : rd (rdL C4 ws ((i - 1 : Nat) : Int)) 2 = ((g (4 * (i - 1) + 2) : Nat) : Int) := wp 2 (by decide)
    have e3 : rd (rdL C4 ws ((i - 1 : Nat) : Int)) 3 = ((g (4 * (i - 1) + 3) : Nat) : Int) := wp 3 (by decide)
    obtain ⟨y1, h1, w1⟩ := aBoxed K (w := wr (wr (wr (wr (zeroA 4) 0 (rd (rdL C4 ws ((i - 1 : Nat) : Int)) 1)) 1 (rd (rdL C4 ws ((i - 1 : Nat) : Int)) 2)) 2 (rd (rdL C4 ws ((i - 1 : Nat) : Int)) 3)) 3 (rd (rdL C4 ws ((i - 1 : Nat) : Int)) 0)) (v := fun r => g (4 * (i - 1) + (r + 1) % 4)) (wd4 _ e1 e2 e3 e0) (fun r hr => hg _ (by omega))
    have ws0 : WdS (wr (zeroA 4) 0 (s : Int)) (fun r => if r = 0 then s else 0) := fun r hr => by
      match r, hr with
      | 0, _ => rfl
      | 1, _ => rfl
      | 2, _ => rfl
      | 3, _ => rfl
    obtain ⟨y2, h2, w2⟩ := aXorW K w1 ws0 (fun r hr => bx_lt (hg _ (by omega))) (fun r hr => by
      show (if r = 0 then s else 0) < 256
      split
      · exact hs
      · decide)
    have ev : ∀ r, vN g nk i s r = bx (g (4 * (i - 1) + (r + 1) % 4)) ^^^ (if r = 0 then s else 0) := fun r => by unfold vN; rw [if_pos hA]
    have w2' : WdS y2 (vN g nk i s) := fun r hr => by rw [w2 r hr, ev r]
    have h3 : aes_Mul.f K (s : Int) 2 = some ((gm s 2 : Nat) : Int) := aMul K hK (b := 2) hs (by decide)
    obtain ⟨y4, h4, w4⟩ := aXorW K wk w2' bk bv
    have es : sN nk i s = gm s 2 := by unfold sN; rw [if_pos hA]
    refine ⟨ws ++ [y4], ?_, hw.more w4⟩
    rw [es]
    simp only [aes_began_s.l1, nwords n1, c0, p1, c1, c2, c5, hm, c6, h1, h2, h3, p2, c3, c4, h4, hl, if_true, not_false_eq_true, Option.bind_some, inc (i := i) (by omega)]
  · have c6 : ¬ ((i % nk : Nat) : Int) = 0 := by omega
    have es : sN nk i s = s := by unfold sN; rw [if_neg hA]
    by_cases hB : nk = 8 ∧ i % 8 = 4
    · obtain ⟨hB1, hB2⟩ := hB
      have c7 : (nk : Int) = 8 := by omega
      have c8 : ((i % 8 : Nat) : Int) = 4 := by omega
      obtain ⟨y1, h1, w1⟩ := aBoxed K wp bp
      have ev : ∀ r, vN g nk i s r = bx (g (4 * (i - 1) + r)) := fun r => by unfold vN; rw [if_neg hA, if_pos ⟨hB1, hB2⟩]
      have w2' : WdS y1 (vN g nk i s) := fun r hr => by rw [w1 r hr, ev r]
      obtain ⟨y4, h4, w4⟩ := aXorW K wk w2' bk bv
      refine ⟨ws ++ [y4], ?_, hw.more w4⟩
      rw [es]
      have c9 : ¬ (4 : Int) = 0 := by decide
      have p2' : isub .i64 (i : Int) 8 = ((i - nk : Nat) : Int) := by rw [← c7]; exact p2
      have nw : imul .i64 4 (iadd .i64 8 7) = 60 := by decide
      have c0' : (i : Int) < 60 := by omega
      have c5' : ¬ (8 : Int) = 0 := by decide
      simp only [aes_began_s.l1, c7, nw, c0', p1, c1, c2, c5', hm8, c8, c9, h1, p2', c3, c4, h4, hl, if_true, if_false, not_false_eq_true, Option.bind_some, inc (i := i) (by omega)]
    · have ev : ∀ r, vN g nk i s r = g (4 * (i - 1) + r) := fun r => by unfold vN; rw [if_neg hA, if_neg hB]
      have w2' : WdS (rdL C4 ws ((i - 1 : Nat) : Int)) (vN g nk i s) := fun r hr => by rw [wp r hr, ev r]
      obtain ⟨y4, h4, w4⟩ := aXorW K wk w2' bk bv
      refine ⟨ws ++ [y4], ?_, hw.more w4⟩
      rw [es]
      by_cases hC : nk = 8
      · have c7 : (nk : Int) = 8 := by omega
        have c8 : ¬ ((i % 8 : Nat) : Int) = 4 := by omega
        have c9 : ¬ ((i % 8 : Nat) : Int) = 0 := by rw [hC] at hA; omega
        have p2' : isub .i64 (i : Int) 8 = ((i - nk : Nat) : Int) := by rw [← c7]; exact p2
        have nw : imul .i64 4 (iadd .i64 8 7) = 60 := by decide
        have c0' : (i : Int) < 60 := by omega
        have c5' : ¬ (8 : Int) = 0 := by decide
        simp only [aes_began_s.l1, c7, nw, c0', p1, c1, c2, c5', hm8, c8, c9, p2', c3, c4, h4, hl, if_true, if_false, not_false_eq_true, Option.bind_some, inc (i := i) (by omega)]
      · have c7 : ¬ (nk : Int) = 8 := by omega
        simp only [aes_began_s.l1, nwords n1, c0, p1, c1, c2, c5, hm, c6, c7, p2, c3, c4, h4, hl, if_true, if_false, not_false_eq_true, Option.bind_some, inc (i := i) (by omega)]
end Go.Proofs.Ytmpagpbnpgcecaa

/- Layer 10 (aes), plain laws: the document's keys. -/
set_option linter.unusedSimpArgs false
set_option linter.unusedVariables false
set_option maxRecDepth 100000
namespace Go.Proofs.Ytmpagpbnpgcecaa
open Go Go.Mx
theorem l4_0 (a b c d : Int) : rdL (CI .u8) [a, b, c, d] 0 = a := rfl
theorem l4_1 (a b c d : Int) : rdL (CI .u8) [a, b, c, d] 1 = b := rfl
theorem l4_2 (a b c d : Int) : rdL (CI .u8) [a, b, c, d] 2 = c := rfl
theorem l4_3 (a b c d : Int) : rdL (CI .u8) [a, b, c, d] 3 = d := rfl
theorem l4_n (a b c d : Int) : ((([a, b, c, d] : List Int).length : Nat) : Int) = 4 := rfl
theorem rd_app {z l : List Int} {q : Nat} (h : q < z.length) : rdL (CI .u8) (z ++ l) (q : Int) = rdL (CI .u8) z (q : Int) := by
  unfold rdL
  rw [Int.toNat_natCast, List.getD_eq_getElem?_getD, List.getD_eq_getElem?_getD, List.getElem?_append_left h]
theorem rInner (K : Nat) (hK : 8 < K) {z : List Int} {g v : Nat → Nat} {nk i : Nat} (hz : ZS z i g) (hg : BG g i) (hv : B4 v) (n0 : 4 ≤ nk) (hi : nk ≤ i) (hi2 : i < 1000) (y : List Int) (hy : y.length = 4) (hyv : ∀ r : Nat, r < 4 → rdL (CI .u8) y (r : Int) = ((v r : Nat) : Int)) :
    ref10_keys.l1 K K (nk : Int) (i : Int) y 0 z = some (z ++ (List.range 4).map fun r => ((g (4 * (i - nk) + r) ^^^ v r : Nat) : Int)) := by
  have key : ∀ n (j k : Nat), j + n = 4 → n < k → ref10_keys.l1 K k (nk : Int) (i : Int) y (j : Int) (z ++ (List.range j).map fun r => ((g (4 * (i - nk) + r) ^^^ v r : Nat) : Int)) = some (z ++ (List.range 4).map fun r => ((g (4 * (i - nk) + r) ^^^ v r : Nat) : Int)) := by
    intro n
    induction n with
    | zero =>
      intro j k hj hk
      obtain ⟨k, rfl⟩ : ∃ q, k = q + 1 := ⟨k - 1, by omega⟩
      obtain rfl : j = 4 := by omega
      have h : ¬ ((4 : Nat) : Int) < 4 := by decide
      simp only [ref10_keys.l1, h, if_false]
    | succ n ih =>
      intro j k hj hk
      obtain ⟨k, rfl⟩ : ∃ q, k = q + 1 := ⟨k - 1, by omega⟩
      have b1 : (j : Int) < 4 := by omega
      have b0 : (0 : Int) ≤ (j : Int) := by omega
      have p1 : iadd .i64 (imul .i64 4 (isub .i64 (i : Int) (nk : Int))) (j : Int) = ((4 * (i - nk) + j : Nat) : Int) := by
        rw [sub_nat hi (by omega), mul64 (by omega) (by omega), add64 (by omega) (by omega)]
        omega
      have c0 : (0 : Int) ≤ ((4 * (i - nk) + j : Nat) : Int) := by omega
      have hl : ((z ++ (List.range j).map fun r => ((g (4 * (i - nk) + r) ^^^ v r : Nat) : Int)).length) = 4 * i + j := by rw [List.length_append, hz.len]; simp
      have c1 : ((4 * (i - nk) + j : Nat) : Int) < (((z ++ (List.range j).map fun r => ((g (4 * (i - nk) + r) ^^^ v r : Nat) : Int)).length : Nat) : Int) := by rw [hl]; omega
      have c2 : (j : Int) < ((y.length : Nat) : Int) := by rw [hy]; omega
      have e1 : rdL (CI .u8) (z ++ (List.range j).map fun r => ((g (4 * (i - nk) + r) ^^^ v r : Nat) : Int)) ((4 * (i - nk) + j : Nat) : Int) = ((g (4 * (i - nk) + j) : Nat) : Int) := by
        rw [rd_app (by rw [hz.len]; omega)]
        exact hz.rd (by omega)
      have x1 := ix8 (hg (4 * (i - nk) + j) (by omega)) (hv j (by omega))
      have c3 : (z ++ (List.range j).map fun r => ((g (4 * (i - nk) + r) ^^^ v r : Nat) : Int)).length + ([((g (4 * (i - nk) + j) ^^^ v j : Nat) : Int)] : List Int).length ≤ 140737488355328 := by
        rw [hl]
        show 4 * i + j + 1 ≤ _
        omega
      simp only [ref10_keys.l1, b0, b1, p1, c0, c1, c2, e1, hyv j (by omega), x1, c3, if_true, Option.bind_some, inc (i := j) (by omega)]
      rw [← ih (j + 1) k (by omega) (by omega), List.range_succ, List.map_append, List.append_assoc]
      rfl
  have h := key 4 0 K (by decide) (by omega)
  rw [List.range_zero, List.map_nil, List.append_nil] at h
  exact h
theorem rStep (K : Nat) (hK : 8 < K) {z : List Int} {g : Nat → Nat} {nk i s k : Nat} (hz : ZS z i g) (hg : BG g i) (n0 : 4 ≤ nk) (n1 : nk ≤ 8) (hi : nk ≤ i) (hi2 : i < 4 * (nk + 7)) (hs : s < 256) :
    ∃ z', ref10_keys.l0 K (k + 1) tabs.1 (nk : Int) (s : Int) (i : Int) z = ref10_keys.l0 K k tabs.1 (nk : Int) ((sN nk i s : Nat) : Int) ((i + 1 : Nat) : Int) z' ∧ ZS z' (i + 1) (more g i (wN g nk i s)) := by
  have bv := vN_bd (nk := nk) hg (by omega) hs
  have fin : ∀ y : List Int, y.length = 4 → (∀ r : Nat, r < 4 → rdL (CI .u8) y (r : Int) = ((vN g nk i s r : Nat) : Int)) → ref10_keys.l1 K K (nk : Int) (i : Int) y 0 z = some (z ++ [((wN g nk i s 0 : Nat) : Int), ((wN g nk i s 1 : Nat) : Int), ((wN g nk i s 2 : Nat) : Int), ((wN g nk i s 3 : Nat) : Int)]) := fun y h1 h2 => rInner K hK hz hg bv n0 hi (by omega) y h1 h2
  have c0 : (i : Int) < ((4 * (nk + 7) : Nat) : Int) := by omega
  have q : ∀ r : Nat, r < 4 → isub .i64 (imul .i64 4 (i : Int)) ((4 - r : Nat) : Int) = ((4 * (i - 1) + r : Nat) : Int) := fun r hr => by
    rw [mul64 (by omega) (by omega), sub64 (by omega) (by omega)]
    omega
  have q0 : isub .i64 (imul .i64 4 (i : Int)) 4 = ((4 * (i - 1) + 0 : Nat) : Int) := q 0 (by decide)
  have q1 : isub .i64 (imul .i64 4 (i : Int)) 3 = ((4 * (i - 1) + 1 : Nat) : Int) := q 1 (by decide)
  have q2 : isub .i64 (imul .i64 4 (i : Int)) 2 = ((4 * (i - 1) + 2 : Nat) : Int) := q 2 (by decide)
  have q3 : isub .i64 (imul .i64 4 (i : Int)) 1 = ((4 * (i - 1) + 3 : Nat) : Int) := q 3 (by decide)
  have n : ∀ r, (0 : Int) ≤ ((4 * (i - 1) + r : Nat) : Int) := fun r => by omega
  have l : ∀ r, r < 4 → ((4 * (i - 1) + r : Nat) : Int) < ((z.length : Nat) : Int) := fun r hr => by rw [hz.len]; omega
  have e : ∀ r, r < 4 → rdL (CI .u8) z ((4 * (i - 1) + r : Nat) : Int) = ((g (4 * (i - 1) + r) : Nat) : Int) := fun r hr => hz.rd (by omega)
  have bn : ∀ r, (0 : Int) ≤ ((g (4 * (i - 1) + r) : Nat) : Int) := fun r => by omega
  have bl : ∀ r, r < 4 → ((g (4 * (i - 1) + r) : Nat) : Int) < 256 := fun r hr => by have := hg (4 * (i - 1) + r) (by omega); omega
  have t : ∀ r, r < 4 → rd tabs.1 ((g (4 * (i - 1) + r) : Nat) : Int) = ((bx (g (4 * (i - 1) + r)) : Nat) : Int) := fun r hr => rd_box (hg _ (by omega))
  have c5 : ¬ (nk : Int) = 0 := by omega
  have hm := irem_nat (a := i) (b := nk) (by omega)
  have hm8 : irem .i64 (i : Int) 8 = ((i % 8 : Nat) : Int) := irem_nat (b := 8) (by omega)
  have k0 : (0 : Int) < 4 := by decide
  have k1 : (1 : Int) < 4 := by decide
  have k2 : (2 : Int) < 4 := by decide
  have k3 : (3 : Int) < 4 := by decide
  have m0 : (0 : Int) ≤ 0 := by decide
  have m1 : (0 : Int) ≤ 1 := by decide
  have m2 : (0 : Int) ≤ 2 := by decide
  have m3 : (0 : Int) ≤ 3 := by decide
  refine ⟨_, ?_, hz.more⟩
  by_cases hA : i % nk = 0
  · have c6 : ((i % nk : Nat) : Int) = 0 := by omega
    have es : sN nk i s = gm s 2 := by unfold sN; rw [if_pos hA]
    have h3 : ref10_Mul.f K (s : Int) 2 = some ((gm s 2 : Nat) : Int) := rMul K hK (b := 2) hs (by decide)
    have x1 := ix8 (bx_lt (hg (4 * (i - 1) + 1) (by omega))) hs
    have hf := fin [((bx (g (4 * (i - 1) + 1)) ^^^ s : Nat) : Int), ((bx (g (4 * (i - 1) + 2)) : Nat) : Int), ((bx (g (4 * (i - 1) + 3)) : Nat) : Int), ((bx (g (4 * (i - 1) + 0)) : Nat) : Int)] rfl (fun r hr => by
      unfold vN
      rw [if_pos hA]
      match r, hr with
      | 0, _ => rfl
      | 1, _ => exact congrArg Int.ofNat (Nat.xor_zero _).symm
      | 2, _ => exact congrArg Int.ofNat (Nat.xor_zero _).symm
      | 3, _ => exact congrArg Int.ofNat (Nat.xor_zero _).symm)
    rw [es]
    simp only [ref10_keys.l0, nwords n1, c0, q0, q1, q2, q3, n, l 0 (by decide), l 1 (by decide), l 2 (by decide), l 3 (by decide), e 0 (by decide), e 1 (by decide), e 2 (by decide), e 3 (by decide), c5, hm, c6, l4_0, l4_1, l4_2, l4_3, l4_n, k0, k1, k2, k3, m0, m1, m2, m3, bn, bl 0 (by decide), bl 1 (by decide), bl 2 (by decide), bl 3 (by decide), t 0 (by decide), t 1 (by decide), t 2 (by decide), t 3 (by decide), h3, x1, hf, if_true, not_false_eq_true, Option.bind_some, inc (i := i) (by omega)]
  · have c6 : ¬ ((i % nk : Nat) : Int) = 0 := by omega
    have es : sN nk i s = s := by unfold sN; rw [if_neg hA]
    rw [es]
    by_cases hB : nk = 8
    · have c7 : (nk : Int) = 8 := by omega
      have nw : imul .i64 4 (iadd .i64 8 7) = 60 := by decide
      have c0' : (i : Int) < 60 := by omega
      have c5' : ¬ (8 : Int) = 0 := by decide
      have c9 : ¬ ((i % 8 : Nat) : Int) = 0 := by rw [hB] at hA; omega
      by_cases hC : i % 8 = 4
      · have c8 : ((i % 8 : Nat) : Int) = 4 := by omega
        have c9' : ¬ (4 : Int) = 0 := by decide
        have hf := fin [((bx (g (4 * (i - 1) + 0)) : Nat) : Int), ((bx (g (4 * (i - 1) + 1)) : Nat) : Int), ((bx (g (4 * (i - 1) + 2)) : Nat) : Int), ((bx (g (4 * (i - 1) + 3)) : Nat) : Int)] rfl (fun r hr => by
          unfold vN
          rw [if_neg hA, if_pos ⟨hB, hC⟩]
          match r, hr with
          | 0, _ => rfl
          | 1, _ => rfl
          | 2, _ => rfl
          | 3, _ => rfl)
        rw [c7] at hf
        simp only [ref10_keys.l0, c7, nw, c0', q0, q1, q2, q3, n, l 0 (by decide), l 1 (by decide), l 2 (by decide), l 3 (by decide), e 0 (by decide), e 1 (by decide), e 2 (by decide), e 3 (by decide), c5', hm8, c8, c9', l4_0, l4_1, l4_2, l4_3, l4_n, k0, k1, k2, k3, m0, m1, m2, m3, bn, bl 0 (by decide), bl 1 (by decide), bl 2 (by decide), bl 3 (by decide), t 0 (by decide), t 1 (by decide), t 2 (by decide), t 3 (by decide), hf, if_true, if_false, not_false_eq_true, Option.bind_some, inc (i := i) (by omega)]
      · have c8 : ¬ ((i % 8 : Nat) : Int) = 4 := by omega
        have hf := fin [((g (4 * (i - 1) + 0) : Nat) : Int), ((g (4 * (i - 1) + 1) : Nat) : Int), ((g (4 * (i - 1) + 2) : Nat) : Int), ((g (4 * (i - 1) + 3) : Nat) : Int)] rfl (fun r hr => by
          unfold vN
          rw [if_neg hA, if_neg (fun h => hC h.2)]
          match r, hr with
          | 0, _ => rfl
          | 1, _ => rfl
          | 2, _ => rfl
          | 3, _ => rfl)
        rw [c7] at hf
        simp only [ref10_keys.l0, c7, nw, c0', q0, q1, q2, q3, n, l 0 (by decide), l 1 (by decide), l 2 (by decide), l 3 (by decide), e 0 (by decide), e 1 (by decide), e 2 (by decide), e 3 (by decide), c5', hm8, c8, c9, hf, if_true, if_false, not_false_eq_true, Option.bind_some, inc (i := i) (by omega)]
    · have c7 : ¬ (nk : Int) = 8 := by omega
      have hf := fin [((g (4 * (i - 1) + 0) : Nat) : Int), ((g (4 * (i - 1) + 1) : Nat) : Int), ((g (4 * (i - 1) + 2) : Nat) : Int), ((g (4 * (i - 1) + 3) : Nat) : Int)] rfl (fun r hr => by
        unfold vN
        rw [if_neg hA, if_neg (fun h => hB h.1)]
        match r, hr with
        | 0, _ => rfl
        | 1, _ => rfl
        | 2, _ => rfl
        | 3, _ => rfl)
      simp only [ref10_keys.l0, nwords n1, c0, q0, q1, q2, q3, n, l 0 (by decide), l 1 (by decide), l 2 (by decide), l 3 (by decide), e 0 (by decide), e 1 (by decide), e 2 (by decide), e 3 (by decide), c5, hm, c6, c7, hf, if_true, if_false, not_false_eq_true, Option.bind_some, inc (i := i) (by omega)]
end Go.Proofs.Ytmpagpbnpgcecaa

/- Layer 10 (aes), plain laws: the keys of all rounds. -/
set_option linter.unusedSimpArgs false
set_option linter.unusedVariables false
set_option maxRecDepth 100000
namespace Go.Proofs.Ytmpagpbnpgcecaa
open Go Go.Mx
theorem rdL_subL {T : Type} (C : Cod T) (l : List T) {lo hi i : Nat} (h : lo + i < hi) : rdL C (subL l (lo : Int) (hi : Int)) (i : Int) = rdL C l ((lo + i : Nat) : Int) := by
  unfold rdL subL
  rw [Int.toNat_natCast, Int.toNat_natCast, Int.toNat_natCast, Int.toNat_natCast, List.getD_eq_getElem?_getD, List.getD_eq_getElem?_getD, List.getElem?_drop, List.getElem?_take, if_pos h]
theorem subL_lenN {T : Type} {l : List T} {lo hi : Nat} (h1 : lo ≤ hi) (h2 : hi ≤ l.length) : (subL l (lo : Int) (hi : Int)).length = hi - lo := by
  rw [subL_len (by omega) (by omega) (by omega)]
  omega
theorem keyLoops (K : Nat) (hK : 8 < K) {nk : Nat} (n0 : 4 ≤ nk) (n1 : nk ≤ 8) : ∀ (n i s k k' : Nat) (ws : List (Arr 4)) (z : List Int) (g : Nat → Nat), i + n = 4 * (nk + 7) → n < k → n < k' → nk ≤ i → s < 256 → WS ws i g → ZS z i g → BG g i →
    ∃ ws' z' g', aes_began_s.l1 K k tabs.1 tabs.2 (nk : Int) (i : Int) (s : Int) ws = some ws' ∧ ref10_keys.l0 K k' tabs.1 (nk : Int) (s : Int) (i : Int) z = some z' ∧ WS ws' (4 * (nk + 7)) g' ∧ ZS z' (4 * (nk + 7)) g' ∧ BG g' (4 * (nk + 7)) := by
  intro n
  induction n with
  | zero =>
    intro i s k k' ws z g hi hk hk' hn hs hw hz hg
    obtain ⟨k, rfl⟩ : ∃ q, k = q + 1 := ⟨k - 1, by omega⟩
    obtain ⟨k', rfl⟩ : ∃ q, k' = q + 1 := ⟨k' - 1, by omega⟩
    obtain rfl : i = 4 * (nk + 7) := by omega
    have h : ¬ ((4 * (nk + 7) : Nat) : Int) < ((4 * (nk + 7) : Nat) : Int) := by omega
    exact ⟨ws, z, g, by simp only [aes_began_s.l1, nwords n1, h, if_false], by simp only [ref10_keys.l0, nwords n1, h, if_false], hw, hz, hg⟩
  | succ n ih =>
    intro i s k k' ws z g hi hk hk' hn hs hw hz hg
    obtain ⟨k, rfl⟩ : ∃ q, k = q + 1 := ⟨k - 1, by omega⟩
    obtain ⟨k', rfl⟩ : ∃ q, k' = q + 1 := ⟨k' - 1, by omega⟩
    obtain ⟨ws1, e1, w1⟩ := aStep K hK (k := k) hw hg n0 n1 hn (by omega) hs
    obtain ⟨z1, e2, w2⟩ := rStep K hK (k := k') hz hg n0 n1 hn (by omega) hs
    rw [e1, e2]
    exact ih (i + 1) _ k k' ws1 z1 _ (by omega) (by omega) (by omega) (by omega) (sN_lt hs) w1 w2 (more_bd hg (wN_bd hg (by omega) hn hs))
/-! ### the key's own words -/
theorem rd_arrL {n : Nat} (l : List Int) {r : Nat} (hr : r < n) : rd (arrL n l) (r : Int) = l.getD r 0 := by
  rw [rd_eq _ _ hr]
  simp [arrL]
theorem imin4 {x : Nat} (h : 4 ≤ x) : imin 4 (x : Int) = 4 := by
  unfold imin
  omega
theorem aWords (K : Nat) {a : List Int} {g : Nat → Nat} {nk : Nat} (n1 : nk ≤ 8) (ha : ZS a nk g) : ∀ (n p k : Nat) (ws : List (Arr 4)), p + n = nk → n < k → WS ws p g → ∃ ws', aes_began_s.l0 K k a ((4 * p : Nat) : Int) ws = some ws' ∧ WS ws' nk g := by
  have hlen := ha.len
  intro n
  induction n with
  | zero =>
    intro p k ws hp hk hw
    obtain ⟨k, rfl⟩ : ∃ q, k = q + 1 := ⟨k - 1, by omega⟩
    obtain rfl : p = nk := by omega
    have h : ¬ ((4 * p : Nat) : Int) < ((a.length : Nat) : Int) := by rw [hlen]; omega
    exact ⟨ws, by simp only [aes_began_s.l0, h, if_false], hw⟩
  | succ n ih =>
    intro p k ws hp hk hw
    obtain ⟨k, rfl⟩ : ∃ q, k = q + 1 := ⟨k - 1, by omega⟩
    have c0 : ((4 * p : Nat) : Int) < ((a.length : Nat) : Int) := by rw [hlen]; omega
    have c1 : (0 : Int) ≤ ((4 * p : Nat) : Int) := by omega
    have c2 : ((4 * p : Nat) : Int) ≤ ((a.length : Nat) : Int) := by rw [hlen]; omega
    have c3 : ((a.length : Nat) : Int) ≤ ((a.length : Nat) : Int) := by omega
    have s1 : (subL a ((4 * p : Nat) : Int) ((a.length : Nat) : Int)).length = a.length - 4 * p := subL_lenN (by rw [hlen]; omega) (by omega)
    have m1 : imin 4 ((a.length - 4 * p : Nat) : Int) = 4 := imin4 (by rw [hlen]; omega)
    have p1 : iadd .i64 ((4 * p : Nat) : Int) 4 = ((4 * (p + 1) : Nat) : Int) := by rw [add64 (by omega) (by omega)]; omega
    have c4 : ((4 * p : Nat) : Int) ≤ ((4 * (p + 1) : Nat) : Int) := by omega
    have c5 : ((4 * (p + 1) : Nat) : Int) ≤ ((4 * (p + 1) : Nat) : Int) := by omega
    have c6 : ((4 * (p + 1) : Nat) : Int) ≤ ((a.length : Nat) : Int) := by rw [hlen]; omega
    have s2 : (subL a ((4 * p : Nat) : Int) ((4 * (p + 1) : Nat) : Int)).length = 4 := by rw [subL_lenN (by omega) (by rw [hlen]; omega)]; omega
    have c7 : 4 ≤ (subL a ((4 * p : Nat) : Int) ((4 * (p + 1) : Nat) : Int)).length := by rw [s2]; exact Nat.le_refl _
    have c8 : ∀ w : Arr 4, ws.length + ([w] : List (Arr 4)).length ≤ 35184372088832 := fun w => by rw [hw.1]; show p + 1 ≤ _; omega
    have hwd : WdS (arrL 4 (subL a ((4 * p : Nat) : Int) ((4 * (p + 1) : Nat) : Int))) (fun r => g (4 * p + r)) := fun r hr => by
      rw [rd_arrL _ hr]
      have h1 := rdL_subL (CI .u8) a (lo := 4 * p) (hi := 4 * (p + 1)) (i := r) (by omega)
      rw [ha.rd (by omega)] at h1
      exact h1
    have hw' : WS (ws ++ [arrL 4 (subL a ((4 * p : Nat) : Int) ((4 * (p + 1) : Nat) : Int))]) (p + 1) g := by
      obtain ⟨h1, h2⟩ := hw.more hwd
      refine ⟨h1, fun q hq r hr => ?_⟩
      rw [h2 q hq r hr]
      show ((more g p (fun r => g (4 * p + r)) (4 * q + r) : Nat) : Int) = _
      unfold more
      split
      · rfl
      · show ((g (4 * p + (4 * q + r - 4 * p)) : Nat) : Int) = ((g (4 * q + r) : Nat) : Int)
        rw [show 4 * p + (4 * q + r - 4 * p) = 4 * q + r by omega]
    obtain ⟨w2, h1, h2⟩ := ih (p + 1) k _ (by omega) (by omega) hw'
    refine ⟨w2, ?_, h2⟩
    simp only [aes_began_s.l0, c0, c1, c2, c3, s1, m1, p1, c4, c5, c6, c7, c8, if_true, Option.bind_some]
    exact h1
/-! ### the rounds' keys -/
abbrev C16 : Cod (Arr 16) := CA .u8 16 (by decide)
def RK (rk : List (Arr 16)) (p : Nat) (g : Nat → Nat) : Prop := rk.length = p ∧ ∀ r : Nat, r < p → ArS (rdL C16 rk (r : Int)) (fun j => g (16 * r + j))
theorem aOne (K : Nat) (hK : 4 < K) {ws : List (Arr 4)} {g : Nat → Nat} {N p : Nat} (hN : N ≤ 1000) (hw : WS ws N g) (hp : 4 * (p + 1) ≤ N) : ∃ y, aes_began_s.l3 K K ws ((4 * p : Nat) : Int) 4 0 (zeroA 16) = some y ∧ ArS y (fun j => g (16 * p + j)) := by
  have p1 : iadd .i64 ((4 * p : Nat) : Int) 4 = ((4 * (p + 1) : Nat) : Int) := by rw [add64 (by omega) (by omega)]; omega
  have hl : (subL ws ((4 * p : Nat) : Int) ((4 * (p + 1) : Nat) : Int)).length = 4 := by rw [subL_lenN (by omega) (by rw [hw.1]; omega)]; omega
  have key : ∀ (n i k : Nat) (z : Arr 16), i + n = 4 → n < k → (∀ j : Nat, j < 4 * i → rd z (j : Int) = ((g (16 * p + j) : Nat) : Int)) → ∃ y, aes_began_s.l3 K k ws ((4 * p : Nat) : Int) 4 (i : Int) z = some y ∧ ArS y (fun j => g (16 * p + j)) := by
    intro n
    induction n with
    | zero =>
      intro i k z hi hk hz
      obtain ⟨k, rfl⟩ : ∃ q, k = q + 1 := ⟨k - 1, by omega⟩
      obtain rfl : i = 4 := by omega
      have h : ¬ ((4 : Nat) : Int) < ((4 : Nat) : Int) := by omega
      exact ⟨z, by simp only [aes_began_s.l3, p1, hl, h, if_false], fun j hj => hz j (by omega)⟩
    | succ n ih =>
      intro i k z hi hk hz
      obtain ⟨k, rfl⟩ : ∃ q, k = q + 1 := ⟨k - 1, by omega⟩
      have c0 : (i : Int) < ((4 : Nat) : Int) := by omega
      have c1 : (0 : Int) ≤ (i : Int) := by omega
      have p2 : imul .i64 4 (i : Int) = ((4 * i : Nat) : Int) := by rw [mul64 (by omega) (by omega)]; omega
      have c2 : (0 : Int) ≤ ((4 * i : Nat) : Int) := by omega
      have c3 : ((4 * i : Nat) : Int) ≤ 16 := by omega
      have c4 : ((4 * i : Nat) : Int) < 16 := by omega
      have hwd := hw.2 (4 * p + i) (by omega)
      have e := rdL_subL C4 ws (lo := 4 * p) (hi := 4 * (p + 1)) (i := i) (by omega)
      obtain ⟨y, h1, h2⟩ := ih (i + 1) k (cpA z ((4 * i : Nat) : Int) ((subL (lA (rdL C4 (subL ws ((4 * p : Nat) : Int) ((4 * (p + 1) : Nat) : Int)) (i : Int))) 0 4).take ((16 : Int).toNat - ((4 * i : Nat) : Int).toNat))) (by omega) (by omega) (fun j hj => by
        rw [rd_cpA _ _ _ j (by omega), e]
        have hlen : ((subL (lA (rdL C4 ws ((4 * p + i : Nat) : Int))) 0 4).take ((16 : Int).toNat - ((4 * i : Nat) : Int).toNat)).length = 4 := by
          rw [List.length_take, show (subL (lA (rdL C4 ws ((4 * p + i : Nat) : Int))) 0 4).length = 4 from by rw [subL_len (by omega) (by rw [lA_len]; omega) (by omega)]; rfl]
          omega
        rw [hlen, Int.toNat_natCast]
        split
        · rename_i h5
          rw [List.getD_eq_getElem?_getD, List.getElem?_take, if_pos (by omega)]
          have h6 := rdL_subL (CI .u8) (lA (rdL C4 ws ((4 * p + i : Nat) : Int))) (lo := 0) (hi := 4) (i := j - 4 * i) (by omega)
          have h7 := hwd (j - 4 * i) (by omega)
          rw [Nat.zero_add] at h6
          have h8 : rdL (CI .u8) (lA (rdL C4 ws ((4 * p + i : Nat) : Int))) ((j - 4 * i : Nat) : Int) = rd (rdL C4 ws ((4 * p + i : Nat) : Int)) ((j - 4 * i : Nat) : Int) := rfl
          rw [h8, h7] at h6
          unfold rdL at h6
          rw [Int.toNat_natCast, List.getD_eq_getElem?_getD] at h6
          refine h6.trans ?_
          show ((g (4 * (4 * p + i) + (j - 4 * i)) : Nat) : Int) = _
          rw [show 4 * (4 * p + i) + (j - 4 * i) = 16 * p + j by omega]
        · exact hz j (by omega))
      refine ⟨y, ?_, h2⟩
      simp only [aes_began_s.l3, p1, hl, c0, c1, p2, c2, c3, c4, if_true, inc (i := i) (by omega)]
      exact h1
  exact key 4 0 K (zeroA 16) (by decide) hK (fun j hj => absurd hj (by omega))
theorem aRounds (K : Nat) (hK : 4 < K) {ws : List (Arr 4)} {g : Nat → Nat} {m : Nat} (hm : m ≤ 100) (hw : WS ws (4 * m) g) : ∀ (n p k : Nat) (rk : List (Arr 16)), p + n = m → n < k → RK rk p g → ∃ rk', aes_began_s.l2 K k ws ((4 * p : Nat) : Int) rk = some rk' ∧ RK rk' m g := by
  have hlen := hw.1
  intro n
  induction n with
  | zero =>
    intro p k rk hp hk hr
    obtain ⟨k, rfl⟩ : ∃ q, k = q + 1 := ⟨k - 1, by omega⟩
    obtain rfl : p = m := by omega
    have h : ¬ ((4 * p : Nat) : Int) < ((ws.length : Nat) : Int) := by rw [hlen]; omega
    exact ⟨rk, by simp only [aes_began_s.l2, h, if_false], hr⟩
  | succ n ih =>
    intro p k rk hp hk hr
    obtain ⟨k, rfl⟩ : ∃ q, k = q + 1 := ⟨k - 1, by omega⟩
    have c0 : ((4 * p : Nat) : Int) < ((ws.length : Nat) : Int) := by rw [hlen]; omega
    have c1 : (0 : Int) ≤ ((4 * p : Nat) : Int) := by omega
    have c2 : ((4 * p : Nat) : Int) ≤ ((ws.length : Nat) : Int) := by rw [hlen]; omega
    have c3 : ((ws.length : Nat) : Int) ≤ ((ws.length : Nat) : Int) := by omega
    have s1 : (subL ws ((4 * p : Nat) : Int) ((ws.length : Nat) : Int)).length = ws.length - 4 * p := subL_lenN (by rw [hlen]; omega) (by omega)
    have m1 : imin 4 ((ws.length - 4 * p : Nat) : Int) = 4 := imin4 (by rw [hlen]; omega)
    have p1 : iadd .i64 ((4 * p : Nat) : Int) 4 = ((4 * (p + 1) : Nat) : Int) := by rw [add64 (by omega) (by omega)]; omega
    have c4 : ((4 * p : Nat) : Int) ≤ ((4 * (p + 1) : Nat) : Int) := by omega
    have c5 : ((4 * (p + 1) : Nat) : Int) ≤ ((4 * (p + 1) : Nat) : Int) := by omega
    have c6 : ((4 * (p + 1) : Nat) : Int) ≤ ((ws.length : Nat) : Int) := by rw [hlen]; omega
    have c8 : ∀ w : Arr 16, rk.length + ([w] : List (Arr 16)).length ≤ 8796093022208 := fun w => by rw [hr.1]; show p + 1 ≤ _; omega
    obtain ⟨y, h3, hy⟩ := aOne K hK (by omega) hw (p := p) (by omega)
    have hr' : RK (rk ++ [y]) (p + 1) g := by
      refine ⟨by rw [List.length_append, hr.1]; rfl, fun r hr1 => ?_⟩
      by_cases hrp : r < p
      · have e : rdL C16 (rk ++ [y]) (r : Int) = rdL C16 rk (r : Int) := by
          unfold rdL
          rw [Int.toNat_natCast, List.getD_eq_getElem?_getD, List.getD_eq_getElem?_getD, List.getElem?_append_left (by rw [hr.1]; exact hrp)]
        rw [e]
        exact hr.2 r hrp
      · obtain rfl : r = p := by omega
        have e : rdL C16 (rk ++ [y]) (r : Int) = y := by
          unfold rdL
          rw [Int.toNat_natCast, List.getD_eq_getElem?_getD, List.getElem?_append_right (by rw [hr.1]; omega), hr.1, Nat.sub_self]
          rfl
        rw [e]
        exact hy
    obtain ⟨r2, h1, h2⟩ := ih (p + 1) k _ (by omega) (by omega) hr'
    refine ⟨r2, ?_, h2⟩
    simp only [aes_began_s.l2, c0, c1, c2, c3, s1, m1, p1, c4, c5, c6, h3, c8, if_true, Option.bind_some]
    exact h1
end Go.Proofs.Ytmpagpbnpgcecaa

/- Layer 10 (aes), plain laws: a block there. -/
set_option linter.unusedSimpArgs false
set_option linter.unusedVariables false
set_option maxRecDepth 100000
namespace Go.Proofs.Ytmpagpbnpgcecaa
open Go Go.Mx
def boxN : Nat → Nat → Arr 256 → Arr 256 → Arr 256 × Arr 256
  | 0, _, z, w => (z, w)
  | n + 1, c, z, w => boxN n (c + 1) (wr z ((bx c : Nat) : Int) (c : Int)) (wr w (c : Int) ((bx c : Nat) : Int))
theorem rBoxes_l0 (K : Nat) (hK : 8 < K) : ∀ (n c k : Nat) (z w : Arr 256), c + n = 256 → n < k → ref10_boxes.l0 K k (c : Int) z w = some (boxN n c z w) := by
  intro n
  induction n with
  | zero =>
    intro c k z w hc hk
    obtain ⟨k, rfl⟩ : ∃ q, k = q + 1 := ⟨k - 1, by omega⟩
    obtain rfl : c = 256 := by omega
    have h : ¬ ((256 : Nat) : Int) < 256 := by decide
    simp only [ref10_boxes.l0, h, if_false]
    rfl
  | succ n ih =>
    intro c k z w hc hk
    obtain ⟨k, rfl⟩ : ∃ q, k = q + 1 := ⟨k - 1, by omega⟩
    have c0 : (0 : Int) ≤ (c : Int) := by omega
    have c1 : (c : Int) < 256 := by omega
    have e : iconv .u8 (c : Int) = (c : Int) := conv8 (by omega)
    obtain ⟨h1, h2⟩ := rBox K hK (c := c) (by omega)
    have c2 : (0 : Int) ≤ ((bx c : Nat) : Int) := by omega
    have c3 : ((bx c : Nat) : Int) < 256 := by omega
    simp only [ref10_boxes.l0, c0, c1, e, h1, c2, c3, if_true, Option.bind_some, inc (i := c) (by omega)]
    exact ih (c + 1) k _ _ (by omega) (by omega)
theorem box_pair : boxN 256 0 (zeroA 256) (zeroA 256) = (tabs.2, tabs.1) := by decide +kernel
theorem rBoxes (K : Nat) (hK : 256 < K) : ref10_boxes.f K = some (tabs.1, tabs.2) := by
  have h := rBoxes_l0 K (by omega) 256 0 K (zeroA 256) (zeroA 256) (by decide) hK
  rw [box_pair] at h
  unfold ref10_boxes.f
  rw [show ref10_boxes.l0 K K 0 (zeroA 256) (zeroA 256) = some (tabs.2, tabs.1) from h]
  rfl
/-! ### rounds -/
def kS (g : Nat → Nat) (r j : Nat) : Nat := g (16 * r + j)
theorem kS_bd {g : Nat → Nat} {m r : Nat} (hg : BG g (4 * m)) (hr : r < m) : Bd (kS g r) := fun j hj => hg _ (by omega)
theorem rKey {z : List Int} {g : Nat → Nat} {m r : Nat} (hz : ZS z (4 * m) g) (hr : r < m) : LsS (subL z ((16 * r : Nat) : Int) ((16 * (r + 1) : Nat) : Int)) (kS g r) := by
  refine ⟨by rw [subL_lenN (by omega) (by rw [hz.len]; omega)]; omega, fun j hj => ?_⟩
  rw [rdL_subL (CI .u8) z (by omega)]
  exact hz.rd (by omega)
theorem addS (K : Nat) {rk : List (Arr 16)} {r : Nat} (hr : r < rk.length) {b y : Arr 16} (e : aes_cipher_add_s.l0 K K rk (r : Int) 0 b = some y) : aes_cipher_add_s.f K tabs.1 tabs.2 rk b (r : Int) = some y := by
  unfold aes_cipher_add_s.f
  have c1 : (0 : Int) ≤ (r : Int) := by omega
  have c2 : (r : Int) < ((rk.length : Nat) : Int) := by omega
  rw [if_pos c1, if_pos c2, e]
  rfl
theorem m_there : rd (wr (wr (wr (wr (zeroA 4) 0 2) 1 3) 2 1) 3 1) 0 = ((2 : Nat) : Int) ∧ rd (wr (wr (wr (wr (zeroA 4) 0 2) 1 3) 2 1) 3 1) 1 = ((3 : Nat) : Int) ∧ rd (wr (wr (wr (wr (zeroA 4) 0 2) 1 3) 2 1) 3 1) 2 = ((1 : Nat) : Int) ∧ rd (wr (wr (wr (wr (zeroA 4) 0 2) 1 3) 2 1) 3 1) 3 = ((1 : Nat) : Int) := rd4 _ _ _ _ _
def rdT (last r : Nat) (g s : Nat → Nat) : Nat → Nat := xk (if r < last then onq mq (sh s) else sh s) (kS g r)
def thR (last : Nat) (g : Nat → Nat) : Nat → Nat → (Nat → Nat) → Nat → Nat
  | 0, _, s => s
  | n + 1, r, s => thR last g n (r + 1) (rdT last r g s)
theorem aThere (K : Nat) (hK : 100 < K) {rk : List (Arr 16)} {g : Nat → Nat} {m : Nat} (h0 : 0 < m) (hm : m ≤ 100) (hrk : RK rk m g) {z : List Int} (hz : ZS z (4 * m) g) (hg : BG g (4 * m)) : ∀ (n r k k' : Nat) (b : Arr 16) (x : List Int) (s : Nat → Nat), r + n = m → n < k → n < k' → ArS b s → LsS x s → Bd s →
    ∃ b' x' s', aes_cipher_there_s.l0 K k tabs.1 tabs.2 rk ((m - 1 : Nat) : Int) (r : Int) b = some b' ∧ ref10_there.l0 K k' z tabs.1 ((m - 1 : Nat) : Int) (r : Int) x = some x' ∧ ArS b' s' ∧ LsS x' s' ∧ Bd s' ∧ s' = thR (m - 1) g n r s := by
  intro n
  induction n with
  | zero =>
    intro r k k' b x s hr hk hk' hb hx hs
    obtain ⟨k, rfl⟩ : ∃ q, k = q + 1 := ⟨k - 1, by omega⟩
    obtain ⟨k', rfl⟩ : ∃ q, k' = q + 1 := ⟨k' - 1, by omega⟩
    have h : ¬ (r : Int) ≤ ((m - 1 : Nat) : Int) := by omega
    exact ⟨b, x, s, by simp only [aes_cipher_there_s.l0, h, if_false], by simp only [ref10_there.l0, h, if_false], hb, hx, hs, rfl⟩
  | succ n ih =>
    intro r k k' b x s hr hk hk' hb hx hs
    obtain ⟨k, rfl⟩ : ∃ q, k = q + 1 := ⟨k - 1, by omega⟩
    obtain ⟨k', rfl⟩ : ∃ q, k' = q + 1 := ⟨k' - 1, by omega⟩
    have c0 : (r : Int) ≤ ((m - 1 : Nat) : Int) := by omega
    have c1 : (0 : Int) ≤ (r : Int) := by omega
    have c2 : r < rk.length := by rw [hrk.1]; omega
    have p1 : imul .i64 16 (r : Int) = ((16 * r : Nat) : Int) := by rw [mul64 (by omega) (by omega)]; omega
    have p2 : iadd .i64 ((16 * r : Nat) : Int) 16 = ((16 * (r + 1) : Nat) : Int) := by rw [add64 (by omega) (by omega)]; omega
    have c3 : (0 : Int) ≤ ((16 * r : Nat) : Int) := by omega
    have c4 : ((16 * r : Nat) : Int) ≤ ((16 * (r + 1) : Nat) : Int) := by omega
    have c5 : ((16 * (r + 1) : Nat) : Int) ≤ ((z.length : Nat) : Int) := by rw [hz.len]; omega
    have bsh := sh_bd hs
    have bk := kS_bd hg (r := r) (by omega)
    obtain ⟨y1, e1, a1⟩ := aShift K (by omega) hb hs (zeroA 16)
    obtain ⟨x1, f1, b1⟩ := rEach K (by omega) hx hs tabs.1 bx (fun c hc => rd_box hc)
    obtain ⟨x2, f2, b2'⟩ := rRows K (by omega) b1 1 (fun c r => 4 * ((c + r) % 4) + r) (fun c r hc hr => row_there ⟨c, hc⟩ ⟨r, hr⟩)
    have b2 : LsS x2 (sh s) := b2'.congr fun j hj => by
      show bx (s (4 * ((j / 4 + j % 4) % 4) + j % 4)) = bx (s ((j + 4 * (j % 4)) % 16))
      rw [show 4 * ((j / 4 + j % 4) % 4) + j % 4 = (j + 4 * (j % 4)) % 16 by omega]
    have hkey : ArS (rdL C16 rk (r : Int)) (kS g r) := hrk.2 r (by omega)
    by_cases hl : r < m - 1
    · have c6 : (r : Int) < ((m - 1 : Nat) : Int) := by omega
      obtain ⟨y2, e2, a2⟩ := aMix K (by omega) a1 bsh
      obtain ⟨q0, q1, q2, q3⟩ := m_there
      obtain ⟨x3, f3, b3'⟩ := rCols K (by omega) b2 bsh _ 2 3 1 1 (by decide) (by decide) (by decide) (by decide) q0 q1 q2 q3
      have b3 : LsS x3 (onq mq (sh s)) := b3'.congr fun j hj => (onq_congr bsh (fun a b c d ha hb hc hd => mq_cq ha hb hc hd) j hj).symm
      obtain ⟨y3, e3, a3⟩ := aKey K (by omega) a2 (onq_mq_bd bsh) bk rk (r : Int) hkey
      obtain ⟨x4, f4, b4⟩ := rXor K (by omega) b3 (rKey hz (r := r) (by omega)) (onq_mq_bd bsh) bk
      obtain ⟨b', x', s', g1, g2, g3⟩ := ih (r + 1) k k' y3 x4 _ (by omega) (by omega) (by omega) a3 b4 (xk_bd (onq_mq_bd bsh) bk)
      refine ⟨b', x', s', ?_, ?_, g3.1, g3.2.1, g3.2.2.1, by rw [g3.2.2.2]; show _ = thR (m - 1) g n (r + 1) (rdT (m - 1) r g s); unfold rdT; rw [if_pos hl]⟩
      · simp only [aes_cipher_there_s.l0, c0, c6, e1, e2, addS K c2 e3, if_true, Option.bind_some, inc (i := r) (by omega)]
        exact g1
      · simp only [ref10_there.l0, c0, f1, f2, c6, f3, p1, p2, c3, c4, c5, f4, if_true, Option.bind_some, inc (i := r) (by omega)]
        exact g2
    · have c6 : ¬ (r : Int) < ((m - 1 : Nat) : Int) := by omega
      obtain ⟨y3, e3, a3⟩ := aKey K (by omega) a1 bsh bk rk (r : Int) hkey
      obtain ⟨x4, f4, b4⟩ := rXor K (by omega) b2 (rKey hz (r := r) (by omega)) bsh bk
      obtain ⟨b', x', s', g1, g2, g3⟩ := ih (r + 1) k k' y3 x4 _ (by omega) (by omega) (by omega) a3 b4 (xk_bd bsh bk)
      refine ⟨b', x', s', ?_, ?_, g3.1, g3.2.1, g3.2.2.1, by rw [g3.2.2.2]; show _ = thR (m - 1) g n (r + 1) (rdT (m - 1) r g s); unfold rdT; rw [if_neg hl]⟩
      · simp only [aes_cipher_there_s.l0, c0, c6, e1, addS K c2 e3, if_true, if_false, Option.bind_some, inc (i := r) (by omega)]
        exact g1
      · simp only [ref10_there.l0, c0, f1, f2, c6, p1, p2, c3, c4, c5, f4, if_true, if_false, Option.bind_some, inc (i := r) (by omega)]
        exact g2
end Go.Proofs.Ytmpagpbnpgcecaa

/- Layer 10 (aes), plain laws: a block there is the document's. -/
set_option linter.unusedSimpArgs false
set_option linter.unusedVariables false
set_option maxRecDepth 100000
namespace Go.Proofs.Ytmpagpbnpgcecaa
open Go Go.Mx
theorem byte_at {a : List Int} (ha : InL .u8 a) (q : Nat) (hq : q < a.length) : 0 ≤ a.getD q 0 ∧ a.getD q 0 < 256 := by
  rw [List.getD_eq_getElem?_getD, List.getElem?_eq_getElem hq]
  obtain ⟨h0, h1⟩ : 0 ≤ a[q] ∧ a[q] ≤ 255 := ha _ (List.getElem_mem hq)
  exact ⟨h0, by show a[q] < 256; omega⟩
theorem zs_of {a : List Int} (ha : InL .u8 a) {n : Nat} (hl : a.length = 4 * n) : ∃ g, ZS a n g ∧ BG g n := by
  refine ⟨fun q => (a.getD q 0).toNat, ?_, fun q hq => ?_⟩
  · refine List.ext_getElem (by simp [hl]) fun q h1 h2 => ?_
    have h := byte_at ha q h1
    rw [List.getElem_map, List.getElem_range]
    show _ = (((a.getD q 0).toNat : Nat) : Int)
    rw [Int.toNat_of_nonneg h.1, List.getD_eq_getElem?_getD, List.getElem?_eq_getElem h1]
    rfl
  · have h := byte_at ha q (by omega)
    show (a.getD q 0).toNat < 256
    omega
/-- a list's bytes -/
def bS (b : List Int) (q : Nat) : Nat := (b.getD q 0).toNat
theorem ls_of {a : List Int} (ha : InL .u8 a) (hl : a.length = 16) : LsS a (bS a) ∧ Bd (bS a) ∧ ArS (arrL 16 a) (bS a) := by
  have key : ∀ j : Nat, j < 16 → a.getD j 0 = (((a.getD j 0).toNat : Nat) : Int) := fun j hj => (Int.toNat_of_nonneg (byte_at ha j (by omega)).1).symm
  refine ⟨⟨hl, fun j hj => ?_⟩, fun j hj => ?_, fun j hj => ?_⟩
  · exact key j hj
  · have h := byte_at ha j (by omega)
    show (a.getD j 0).toNat < 256
    omega
  · rw [rd_arrL a hj]
    exact key j hj
/-- what both make of a key -/
def Keys (K : Nat) (a : List Int) (nk : Nat) (g : Nat → Nat) : Prop :=
  ∃ ws0 ws rk z, aes_began_s.l0 K K a 0 [] = some ws0 ∧ aes_began_s.l1 K K tabs.1 tabs.2 (nk : Int) (nk : Int) 1 ws0 = some ws ∧ aes_began_s.l2 K K ws 0 [] = some rk ∧ RK rk (nk + 7) g ∧ ref10_keys.f K a tabs.1 = some z ∧ ZS z (4 * (nk + 7)) g ∧ BG g (4 * (nk + 7))
theorem keysOf (K : Nat) (hK : 256 < K) {a : List Int} (ha : InL .u8 a) {nk : Nat} (n0 : 4 ≤ nk) (n1 : nk ≤ 8) (hl : a.length = 4 * nk) : ∃ g, Keys K a nk g := by
  obtain ⟨g0, hz, hg⟩ := zs_of ha hl
  obtain ⟨ws0, e1, w1⟩ := aWords K n1 hz nk 0 K [] (by omega) (by omega) ⟨rfl, fun p hp => absurd hp (by omega)⟩
  obtain ⟨ws, z, g, e2, e3, w2, z2, g2⟩ := keyLoops K (by omega) n0 n1 (4 * (nk + 7) - nk) nk 1 K K ws0 a g0 (by omega) (by omega) (by omega) (Nat.le_refl _) (by decide) w1 hz hg
  obtain ⟨rk, e4, r4⟩ := aRounds K (by omega) (m := nk + 7) (by omega) w2 (nk + 7) 0 K [] (by omega) (by omega) ⟨rfl, fun p hp => absurd hp (by omega)⟩
  refine ⟨g, ws0, ws, rk, z, e1, e2, e4, r4, ?_, z2, g2⟩
  unfold ref10_keys.f
  have q : iquo .i64 ((a.length : Nat) : Int) 4 = (nk : Int) := by
    unfold iquo
    rw [hl, tdivN (by omega), id64 (by omega) (by omega)]
    omega
  have c : ([] : List Int).length + a.length ≤ 140737488355328 := by rw [hl]; show 0 + 4 * nk ≤ _; omega
  have e3' : ref10_keys.l0 K K tabs.1 (nk : Int) 1 (nk : Int) (([] : List Int) ++ a) = some z := e3
  simp only [q, c, e3', if_true, Option.bind_some]
theorem iq4 {nk : Nat} (h : nk ≤ 8) : iquo .i64 ((4 * nk : Nat) : Int) 4 = (nk : Int) := by
  unfold iquo
  rw [tdivN (by omega), id64 (by omega) (by omega)]
  omega
theorem sizedN {nk : Nat} (h : nk = 4 ∨ nk = 6 ∨ nk = 8) {a : List Int} (hl : a.length = 4 * nk) (K : Nat) : aes_sized.f K a = some true ∧ ref10_Sized.f K a = some true := by
  unfold aes_sized.f ref10_Sized.f
  rw [hl]
  rcases h with rfl | rfl | rfl <;> exact ⟨rfl, rfl⟩
theorem subL_all {l : List Int} (h : l.length = 16) : subL l 0 16 = l := by
  unfold subL
  show (l.take 16).drop 0 = l
  rw [← h, List.take_length]
  rfl
theorem bytes_of {x : List Int} {s : Nat → Nat} (h : LsS x s) (hb : Bd s) : x.length = 16 ∧ InL .u8 x := by
  refine ⟨h.1, fun v hv => ?_⟩
  obtain ⟨j, hj, rfl⟩ := List.mem_iff_getElem.1 hv
  have h1 := h.2 j (by rw [← h.1]; exact hj)
  have h2 := hb j (by rw [← h.1]; exact hj)
  have h3 : x[j] = ((s j : Nat) : Int) := by
    rw [← h1]
    show _ = x.getD j 0
    rw [List.getD_eq_getElem?_getD, List.getElem?_eq_getElem hj]
    rfl
  rw [h3]
  exact (⟨by omega, by omega⟩ : (0 : Int) ≤ ((s j : Nat) : Int) ∧ ((s j : Nat) : Int) ≤ 255)
/-- the cipher, there -/
def tF (g : Nat → Nat) (m : Nat) (s : Nat → Nat) : Nat → Nat := thR (m - 1) g (m - 1) 1 (xk s (kS g 0))
theorem blockThereK (K : Nat) (hK : 256 < K) (hM : aes_made.f K = some (tabs.1, tabs.2)) {a b : List Int} (hb : InL .u8 b) {nk : Nat} (hn : nk = 4 ∨ nk = 6 ∨ nk = 8) (hl : a.length = 4 * nk) (hlb : b.length = 16) {g : Nat → Nat} (hkey : Keys K a nk g) :
    ∃ y, aes_Block.f K a b = some (y, 0) ∧ ref10_Block.f K a b = some (y, 0) ∧ y.length = 16 ∧ InL .u8 y ∧ LsS y (tF g (nk + 7) (bS b)) := by
  obtain ⟨hs1, hs2⟩ := sizedN hn hl K
  have n0 : 4 ≤ nk := by omega
  have n1 : nk ≤ 8 := by omega
  obtain ⟨ws0, ws, rk, z, e1, e2, e3, hrk, e4, hz, hg⟩ := hkey
  obtain ⟨hs, bs, as⟩ := ls_of hb hlb
  have bk := kS_bd hg (r := 0) (by omega)
  obtain ⟨y0, e5, a0⟩ := aKey K (by omega) as bs bk rk 0 (hrk.2 0 (by omega))
  obtain ⟨x0, f0, b0⟩ := rXor K (by omega) hs (rKey hz (r := 0) (by omega)) bs bk
  obtain ⟨y, x, s', e6, f1, a1, b1, bs', hs'⟩ := aThere K (by omega) (by omega) (by omega) hrk hz hg (nk + 7 - 1) 1 K K y0 x0 _ (by omega) (by omega) (by omega) a0 b0 (xk_bd bs bk)
  have hxy : lA y = x := ls_eq b1 a1
  have e6' : aes_cipher_there_s.l0 K K tabs.1 tabs.2 rk ((nk + 7 - 1 : Nat) : Int) 1 y0 = some y := e6
  have f1' : ref10_there.l0 K K z tabs.1 ((nk + 7 - 1 : Nat) : Int) 1 x0 = some x := f1
  have f0' : ref01_Xor.f K b (subL z 0 16) = some x0 := f0
  refine ⟨x, ?_, ?_, (bytes_of b1 bs').1, (bytes_of b1 bs').2, by rw [hs'] at b1; exact b1⟩
  · unfold aes_Block.f aes_wrong.f aes_began_s.f aes_cipher_there_s.f
    have c1 : ((b.length : Nat) : Int) = 16 := by omega
    have c2 : 16 ≤ b.length := by omega
    have c3 : (0 : Int) ≤ ((4 * (nk + 7) : Nat) : Int) := by omega
    have c4 : ((4 * (nk + 7) : Nat) : Int) ≤ 35184372088832 := by omega
    have c5 : (0 : Int) ≤ 0 := by decide
    have c6 : (0 : Int) < ((rk.length : Nat) : Int) := by rw [hrk.1]; omega
    have p1 : isub .i64 ((rk.length : Nat) : Int) 1 = ((nk + 7 - 1 : Nat) : Int) := by rw [hrk.1]; exact sub_nat (b := 1) (by omega) (by omega)
    have e5' : aes_cipher_add_s.f K tabs.1 tabs.2 rk (arrL 16 b) 0 = some y0 := addS K (r := 0) (by rw [hrk.1]; omega) e5
    simp only [hs1, c1, c2, hM, hl, iq4 n1, nwords n1, c3, c4, e1, e2, e3, p1, e5', e6', if_true, Option.bind_some]
    rw [subL_all (lA_len y), hxy]
  · unfold ref10_Block.f ref10_there.f
    have c1 : ((b.length : Nat) : Int) = 16 := by omega
    have q : iquo .i64 ((z.length : Nat) : Int) 16 = ((nk + 7 : Nat) : Int) := by
      unfold iquo
      rw [hz.len, tdivN (by omega), id64 (by omega) (by omega)]
      omega
    have p1 : isub .i64 ((nk + 7 : Nat) : Int) 1 = ((nk + 7 - 1 : Nat) : Int) := sub_nat (b := 1) (by omega) (by omega)
    have c5 : (0 : Int) ≤ 0 := by decide
    have c6 : (0 : Int) ≤ 16 := by decide
    have c7 : (16 : Int) ≤ ((z.length : Nat) : Int) := by rw [hz.len]; omega
    simp only [hs2, c1, rBoxes K hK, e4, q, p1, c5, c6, c7, f0', f1', if_true, Option.bind_some]
theorem blockThere' (K : Nat) (hK : 256 < K) (hM : aes_made.f K = some (tabs.1, tabs.2)) {a b : List Int} (ha : InL .u8 a) (hb : InL .u8 b) {nk : Nat} (hn : nk = 4 ∨ nk = 6 ∨ nk = 8) (hl : a.length = 4 * nk) (hlb : b.length = 16) :
    ∃ y, aes_Block.f K a b = some (y, 0) ∧ ref10_Block.f K a b = some (y, 0) ∧ y.length = 16 ∧ InL .u8 y := by
  obtain ⟨g, hg⟩ := keysOf K hK ha (by omega) (by omega) hl
  obtain ⟨y, h1, h2, h3, h4, _⟩ := blockThereK K hK hM hb hn hl hlb hg
  exact ⟨y, h1, h2, h3, h4⟩
end Go.Proofs.Ytmpagpbnpgcecaa

/- Layer 10 (aes), plain laws: a block back is the document's. -/
set_option linter.unusedSimpArgs false
set_option linter.unusedVariables false
set_option maxRecDepth 100000
namespace Go.Proofs.Ytmpagpbnpgcecaa
open Go Go.Mx
def bk (c : Nat) : Nat := (rd tabs.2 (c : Int)).toNat
/-! ### bytes back -/
end Go.Proofs.Ytmpagpbnpgcecaa
