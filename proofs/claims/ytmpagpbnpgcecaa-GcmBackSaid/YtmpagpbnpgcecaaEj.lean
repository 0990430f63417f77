/- Layer 10 (aes), plain laws: the document's keys. -/
import Derived.Test.YtmpagpbnpgcecaaEi
set_option linter.unusedSimpArgs false
set_option linter.unusedVariables false
set_option maxRecDepth 100000
namespace Go.Proofs.Ytmpagpbnpgcecaa
open Go Go.Mx
theorem l4_0 (a b c d : Int) : rdL (CI .u8) [a, b, c, d] 0 = a := rfl
theorem l4_1 (a b c d : Int) : rdL (CI .u8) [a, b, c, d] 1 = b := rfl
theorem l4_2 (a b c d : Int) : rdL (CI .u8) [a, b, c, d] 2 = c := rfl
theorem l4_3 (a b c d : Int) : rdL (CI .u8) [a, b, c, d] 3 = d := rfl
theorem l4_n (a b c d : Int) : ((([a, b, c, d] : List Int).length : Nat) : Int) = 4 := rfl
theorem rd_app {z l : List Int} {q : Nat} (h : q < z.length) : rdL (CI .u8) (z ++ l) (q : Int) = rdL (CI .u8) z (q : Int) := by
  unfold rdL
  rw [Int.toNat_natCast, List.getD_eq_getElem?_getD, List.getD_eq_getElem?_getD, List.getElem?_append_left h]
theorem rInner (K : Nat) (hK : 8 < K) {z : List Int} {g v : Nat → Nat} {nk i : Nat} (hz : ZS z i g) (hg : BG g i) (hv : B4 v) (n0 : 4 ≤ nk) (hi : nk ≤ i) (hi2 : i < 1000) (y : List Int) (hy : y.length = 4) (hyv : ∀ r : Nat, r < 4 → rdL (CI .u8) y (r : Int) = ((v r : Nat) : Int)) :
    ref10_keys.l1 K K (nk : Int) (i : Int) y 0 z = some (z ++ (List.range 4).map fun r => ((g (4 * (i - nk) + r) ^^^ v r : Nat) : Int)) := by
  have key : ∀ n (j k : Nat), j + n = 4 → n < k → ref10_keys.l1 K k (nk : Int) (i : Int) y (j : Int) (z ++ (List.range j).map fun r => ((g (4 * (i - nk) + r) ^^^ v r : Nat) : Int)) = some (z ++ (List.range 4).map fun r => ((g (4 * (i - nk) + r) ^^^ v r : Nat) : Int)) := by
    intro n
    induction n with
    | zero =>
      intro j k hj hk
      obtain ⟨k, rfl⟩ : ∃ q, k = q + 1 := ⟨k - 1, by omega⟩
      obtain rfl : j = 4 := by omega
      have h : ¬ ((4 : Nat) : Int) < 4 := by decide
      simp only [ref10_keys.l1, h, if_false]
    | succ n ih =>
      intro j k hj hk
      obtain ⟨k, rfl⟩ : ∃ q, k = q + 1 := ⟨k - 1, by omega⟩
      have b1 : (j : Int) < 4 := by omega
      have b0 : (0 : Int) ≤ (j : Int) := by omega
      have p1 : iadd .i64 (imul .i64 4 (isub .i64 (i : Int) (nk : Int))) (j : Int) = ((4 * (i - nk) + j : Nat) : Int) := by
        rw [sub_nat hi (by omega), mul64 (by omega) (by omega), add64 (by omega) (by omega)]
        omega
      have c0 : (0 : Int) ≤ ((4 * (i - nk) + j : Nat) : Int) := by omega
      have hl : ((z ++ (List.range j).map fun r => ((g (4 * (i - nk) + r) ^^^ v r : Nat) : Int)).length) = 4 * i + j := by rw [List.length_append, hz.len]; simp
      have c1 : ((4 * (i - nk) + j : Nat) : Int) < (((z ++ (List.range j).map fun r => ((g (4 * (i - nk) + r) ^^^ v r : Nat) : Int)).length : Nat) : Int) := by rw [hl]; omega
      have c2 : (j : Int) < ((y.length : Nat) : Int) := by rw [hy]; omega
      have e1 : rdL (CI .u8) (z ++ (List.range j).map fun r => ((g (4 * (i - nk) + r) ^^^ v r : Nat) : Int)) ((4 * (i - nk) + j : Nat) : Int) = ((g (4 * (i - nk) + j) : Nat) : Int) := by
        rw [rd_app (by rw [hz.len]; omega)]
        exact hz.rd (by omega)
      have x1 := ix8 (hg (4 * (i - nk) + j) (by omega)) (hv j (by omega))
      have c3 : (z ++ (List.range j).map fun r => ((g (4 * (i - nk) + r) ^^^ v r : Nat) : Int)).length + ([((g (4 * (i - nk) + j) ^^^ v j : Nat) : Int)] : List Int).length ≤ 140737488355328 := by
        rw [hl]
        show 4 * i + j + 1 ≤ _
        omega
      simp only [ref10_keys.l1, b0, b1, p1, c0, c1, c2, e1, hyv j (by omega), x1, c3, if_true, Option.bind_some, inc (i := j) (by omega)]
      rw [← ih (j + 1) k (by omega) (by omega), List.range_succ, List.map_append, List.append_assoc]
      rfl
  have h := key 4 0 K (by decide) (by omega)
  rw [List.range_zero, List.map_nil, List.append_nil] at h
  exact h
theorem rStep (K : Nat) (hK : 8 < K) {z : List Int} {g : Nat → Nat} {nk i s k : Nat} (hz : ZS z i g) (hg : BG g i) (n0 : 4 ≤ nk) (n1 : nk ≤ 8) (hi : nk ≤ i) (hi2 : i < 4 * (nk + 7)) (hs : s < 256) :
    ∃ z', ref10_keys.l0 K (k + 1) tabs.1 (nk : Int) (s : Int) (i : Int) z = ref10_keys.l0 K k tabs.1 (nk : Int) ((sN nk i s : Nat) : Int) ((i + 1 : Nat) : Int) z' ∧ ZS z' (i + 1) (more g i (wN g nk i s)) := by
  have bv := vN_bd (nk := nk) hg (by omega) hs
  have fin : ∀ y : List Int, y.length = 4 → (∀ r : Nat, r < 4 → rdL (CI .u8) y (r : Int) = ((vN g nk i s r : Nat) : Int)) → ref10_keys.l1 K K (nk : Int) (i : Int) y 0 z = some (z ++ [((wN g nk i s 0 : Nat) : Int), ((wN g nk i s 1 : Nat) : Int), ((wN g nk i s 2 : Nat) : Int), ((wN g nk i s 3 : Nat) : Int)]) := fun y h1 h2 => rInner K hK hz hg bv n0 hi (by omega) y h1 h2
  have c0 : (i : Int) < ((4 * (nk + 7) : Nat) : Int) := by omega
  have q : ∀ r : Nat, r < 4 → isub .i64 (imul .i64 4 (i : Int)) ((4 - r : Nat) : Int) = ((4 * (i - 1) + r : Nat) : Int) := fun r hr => by
    rw [mul64 (by omega) (by omega), sub64 (by omega) (by omega)]
    omega
  have q0 : isub .i64 (imul .i64 4 (i : Int)) 4 = ((4 * (i - 1) + 0 : Nat) : Int) := q 0 (by decide)
  have q1 : isub .i64 (imul .i64 4 (i : Int)) 3 = ((4 * (i - 1) + 1 : Nat) : Int) := q 1 (by decide)
  have q2 : isub .i64 (imul .i64 4 (i : Int)) 2 = ((4 * (i - 1) + 2 : Nat) : Int) := q 2 (by decide)
  have q3 : isub .i64 (imul .i64 4 (i : Int)) 1 = ((4 * (i - 1) + 3 : Nat) : Int) := q 3 (by decide)
  have n : ∀ r, (0 : Int) ≤ ((4 * (i - 1) + r : Nat) : Int) := fun r => by omega
  have l : ∀ r, r < 4 → ((4 * (i - 1) + r : Nat) : Int) < ((z.length : Nat) : Int) := fun r hr => by rw [hz.len]; omega
  have e : ∀ r, r < 4 → rdL (CI .u8) z ((4 * (i - 1) + r : Nat) : Int) = ((g (4 * (i - 1) + r) : Nat) : Int) := fun r hr => hz.rd (by omega)
  have bn : ∀ r, (0 : Int) ≤ ((g (4 * (i - 1) + r) : Nat) : Int) := fun r => by omega
  have bl : ∀ r, r < 4 → ((g (4 * (i - 1) + r) : Nat) : Int) < 256 := fun r hr => by have := hg (4 * (i - 1) + r) (by omega); omega
  have t : ∀ r, r < 4 → rd tabs.1 ((g (4 * (i - 1) + r) : Nat) : Int) = ((bx (g (4 * (i - 1) + r)) : Nat) : Int) := fun r hr => rd_box (hg _ (by omega))
  have c5 : ¬ (nk : Int) = 0 := by omega
  have hm := irem_nat (a := i) (b := nk) (by omega)
  have hm8 : irem .i64 (i : Int) 8 = ((i % 8 : Nat) : Int) := irem_nat (b := 8) (by omega)
  have k0 : (0 : Int) < 4 := by decide
  have k1 : (1 : Int) < 4 := by decide
  have k2 : (2 : Int) < 4 := by decide
  have k3 : (3 : Int) < 4 := by decide
  have m0 : (0 : Int) ≤ 0 := by decide
  have m1 : (0 : Int) ≤ 1 := by decide
  have m2 : (0 : Int) ≤ 2 := by decide
  have m3 : (0 : Int) ≤ 3 := by decide
  refine ⟨_, ?_, hz.more⟩
  by_cases hA : i % nk = 0
  · have c6 : ((i % nk : Nat) : Int) = 0 := by omega
    have es : sN nk i s = gm s 2 := by unfold sN; rw [if_pos hA]
    have h3 : ref10_Mul.f K (s : Int) 2 = some ((gm s 2 : Nat) : Int) := rMul K hK (b := 2) hs (by decide)
    have x1 := ix8 (bx_lt (hg (4 * (i - 1) + 1) (by omega))) hs
    have hf := fin [((bx (g (4 * (i - 1) + 1)) ^^^ s : Nat) : Int), ((bx (g (4 * (i - 1) + 2)) : Nat) : Int), ((bx (g (4 * (i - 1) + 3)) : Nat) : Int), ((bx (g (4 * (i - 1) + 0)) : Nat) : Int)] rfl (fun r hr => by
      unfold vN
      rw [if_pos hA]
      match r, hr with
      | 0, _ => rfl
      | 1, _ => exact congrArg Int.ofNat (Nat.xor_zero _).symm
      | 2, _ => exact congrArg Int.ofNat (Nat.xor_zero _).symm
      | 3, _ => exact congrArg Int.ofNat (Nat.xor_zero _).symm)
    rw [es]
    simp only [ref10_keys.l0, nwords n1, c0, q0, q1, q2, q3, n, l 0 (by decide), l 1 (by decide), l 2 (by decide), l 3 (by decide), e 0 (by decide), e 1 (by decide), e 2 (by decide), e 3 (by decide), c5, hm, c6, l4_0, l4_1, l4_2, l4_3, l4_n, k0, k1, k2, k3, m0, m1, m2, m3, bn, bl 0 (by decide), bl 1 (by decide), bl 2 (by decide), bl 3 (by decide), t 0 (by decide), t 1 (by decide), t 2 (by decide), t 3 (by decide), h3, x1, hf, if_true, not_false_eq_true, Option.bind_some, inc (i := i) (by omega)]
  · have c6 : ¬ ((i % nk : Nat) : Int) = 0 := by omega
    have es : sN nk i s = s := by unfold sN; rw [if_neg hA]
    rw [es]
    by_cases hB : nk = 8
    · have c7 : (nk : Int) = 8 := by omega
      have nw : imul .i64 4 (iadd .i64 8 7) = 60 := by decide
      have c0' : (i : Int) < 60 := by omega
      have c5' : ¬ (8 : Int) = 0 := by decide
      have c9 : ¬ ((i % 8 : Nat) : Int) = 0 := by rw [hB] at hA; omega
      by_cases hC : i % 8 = 4
      · have c8 : ((i % 8 : Nat) : Int) = 4 := by omega
        have c9' : ¬ (4 : Int) = 0 := by decide
        have hf := fin [((bx (g (4 * (i - 1) + 0)) : Nat) : Int), ((bx (g (4 * (i - 1) + 1)) : Nat) : Int), ((bx (g (4 * (i - 1) + 2)) : Nat) : Int), ((bx (g (4 * (i - 1) + 3)) : Nat) : Int)] rfl (fun r hr => by
          unfold vN
          rw [if_neg hA, if_pos ⟨hB, hC⟩]
          match r, hr with
          | 0, _ => rfl
          | 1, _ => rfl
          | 2, _ => rfl
          | 3, _ => rfl)
        rw [c7] at hf
        simp only [ref10_keys.l0, c7, nw, c0', q0, q1, q2, q3, n, l 0 (by decide), l 1 (by decide), l 2 (by decide), l 3 (by decide), e 0 (by decide), e 1 (by decide), e 2 (by decide), e 3 (by decide), c5', hm8, c8, c9', l4_0, l4_1, l4_2, l4_3, l4_n, k0, k1, k2, k3, m0, m1, m2, m3, bn, bl 0 (by decide), bl 1 (by decide), bl 2 (by decide), bl 3 (by decide), t 0 (by decide), t 1 (by decide), t 2 (by decide), t 3 (by decide), hf, if_true, if_false, not_false_eq_true, Option.bind_some, inc (i := i) (by omega)]
      · have c8 : ¬ ((i % 8 : Nat) : Int) = 4 := by omega
        have hf := fin [((g (4 * (i - 1) + 0) : Nat) : Int), ((g (4 * (i - 1) + 1) : Nat) : Int), ((g (4 * (i - 1) + 2) : Nat) : Int), ((g (4 * (i - 1) + 3) : Nat) : Int)] rfl (fun r hr => by
          unfold vN
          rw [if_neg hA, if_neg (fun h => hC h.2)]
          match r, hr with
          | 0, _ => rfl
          | 1, _ => rfl
          | 2, _ => rfl
          | 3, _ => rfl)
        rw [c7] at hf
        simp only [ref10_keys.l0, c7, nw, c0', q0, q1, q2, q3, n, l 0 (by decide), l 1 (by decide), l 2 (by decide), l 3 (by decide), e 0 (by decide), e 1 (by decide), e 2 (by decide), e 3 (by decide), c5', hm8, c8, c9, hf, if_true, if_false, not_false_eq_true, Option.bind_some, inc (i := i) (by omega)]
    · have c7 : ¬ (nk : Int) = 8 := by omega
      have hf := fin [((g (4 * (i - 1) + 0) : Nat) : Int), ((g (4 * (i - 1) + 1) : Nat) : Int), ((g (4 * (i - 1) + 2) : Nat) : Int), ((g (4 * (i - 1) + 3) : Nat) : Int)] rfl (fun r hr => by
        unfold vN
        rw [if_neg hA, if_neg (fun h => hB h.1)]
        match r, hr with
        | 0, _ => rfl
        | 1, _ => rfl
        | 2, _ => rfl
        | 3, _ => rfl)
      simp only [ref10_keys.l0, nwords n1, c0, q0, q1, q2, q3, n, l 0 (by decide), l 1 (by decide), l 2 (by decide), l 3 (by decide), e 0 (by decide), e 1 (by decide), e 2 (by decide), e 3 (by decide), c5, hm, c6, c7, hf, if_true, if_false, not_false_eq_true, Option.bind_some, inc (i := i) (by omega)]
end Go.Proofs.Ytmpagpbnpgcecaa
