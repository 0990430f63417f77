/- Layer 8 (keccak), plain laws: rows, a round, all rounds. -/
import Derived.Test.YtijahfdldlmnhaaDoorSa
set_option linter.unusedSimpArgs false
set_option linter.unusedVariables false
set_option maxRecDepth 100000
namespace Go.Proofs.YtijahfdldlmnhaaDoor
open Go Go.Mx
def chiW (b : Arr 25) (r x : Nat) : Int := ixor .u64 (rd b ((r + x : Nat) : Int)) (iandn .u64 (rd b ((r + (x + 2) % 5 : Nat) : Int)) (rd b ((r + (x + 1) % 5 : Nat) : Int)))
def chiA (b : Arr 25) : Arr 25 := mapA 25 fun j => chiW b (j / 5 * 5) (j % 5)
/-- the first r rows done, and the first x words of row r -/
def chiP (b : Arr 25) (r x : Nat) : Arr 25 := mapA 25 fun j => if j / 5 < r ∨ (j / 5 = r ∧ j % 5 < x) then chiW b (j / 5 * 5) (j % 5) else rd b (j : Nat)
theorem rd_row (b : Arr 25) (r : Nat) (hr : r < 5) (q : Nat) (hq : q < 5) : rd (subA 5 (chiP b r 0) ((5 * r : Nat) : Int)) ((q : Nat) : Int) = rd b ((5 * r + q : Nat) : Int) := by
  rw [rd_subA _ _ _ hq, show ((5 * r : Nat) : Int) + ((q : Nat) : Int) = ((5 * r + q : Nat) : Int) by omega]
  unfold chiP
  rw [rd_mapA _ _ (by omega), if_neg (by omega)]
theorem round_l4 (b : Arr 25) (r : Nat) (hr : r < 5) : ∀ (d x k : Nat), x + d = 5 → d < k → keccak_round.l4 1000 k ((5 * r : Nat) : Int) (chiP b r 0) (x : Int) (chiP b r x) = some (chiP b r 5) := by
  intro d
  induction d with
  | zero =>
    intro x k hq hk
    obtain ⟨k, rfl⟩ : ∃ m, k = m + 1 := ⟨k - 1, by omega⟩
    obtain rfl : x = 5 := by omega
    simp only [keccak_round.l4, show ¬ ((5 : Nat) : Int) < 5 by omega, if_false]
  | succ d ih =>
    intro x k hq hk
    obtain ⟨k, rfl⟩ : ∃ m, k = m + 1 := ⟨k - 1, by omega⟩
    have i1 : iadd .i64 (x : Int) 1 = ((x + 1 : Nat) : Int) := iadd_nat x 1 (by omega)
    have i2 : iadd .i64 (x : Int) 2 = ((x + 2 : Nat) : Int) := iadd_nat x 2 (by omega)
    have e1 : irem .i64 ((x + 1 : Nat) : Int) 5 = (((x + 1) % 5 : Nat) : Int) := by
      unfold irem
      rw [tmodN (by omega)]
      omega
    have e2 : irem .i64 ((x + 2 : Nat) : Int) 5 = (((x + 2) % 5 : Nat) : Int) := by
      unfold irem
      rw [tmodN (by omega)]
      omega
    have e3 : iadd .i64 ((5 * r : Nat) : Int) (x : Int) = ((5 * r + x : Nat) : Int) := iadd_nat (5 * r) x (by omega)
    have r0 := rd_row b r hr x (by omega)
    have r1 := rd_row b r hr ((x + 1) % 5) (by omega)
    have r2 := rd_row b r hr ((x + 2) % 5) (by omega)
    simp only [keccak_round.l4, show (x : Int) < 5 by omega, show (0 : Int) ≤ (x : Int) by omega, if_true, i1, i2, e1, e2, e3, r0, r1, r2, Option.bind_some, show (0 : Int) ≤ (((x + 1) % 5 : Nat) : Int) by omega, show (((x + 1) % 5 : Nat) : Int) < 5 by omega, show (0 : Int) ≤ (((x + 2) % 5 : Nat) : Int) by omega, show (((x + 2) % 5 : Nat) : Int) < 5 by omega,
      show (0 : Int) ≤ ((5 * r + x : Nat) : Int) by omega, show ((5 * r + x : Nat) : Int) < 25 by omega]
    have hw : wr (chiP b r x) ((5 * r + x : Nat) : Int) (ixor .u64 (rd b ((5 * r + x : Nat) : Int)) (iandn .u64 (rd b ((5 * r + (x + 2) % 5 : Nat) : Int)) (rd b ((5 * r + (x + 1) % 5 : Nat) : Int)))) = chiP b r (x + 1) := by
      refine arr_ext fun j hj => ?_
      rw [rd_wr _ _ _ _ hj]
      unfold chiP
      rw [rd_mapA _ _ hj, rd_mapA _ _ hj]
      by_cases h : 5 * r + x = j
      · subst h
        rw [if_pos rfl, if_pos (by omega), show (5 * r + x) / 5 * 5 = 5 * r by omega, show (5 * r + x) % 5 = x by omega]
        rfl
      · rw [if_neg h]
        by_cases h2 : j / 5 < r ∨ (j / 5 = r ∧ j % 5 < x)
        · rw [if_pos h2, if_pos (by omega)]
        · rw [if_neg h2, if_neg (by omega)]
    rw [hw]
    exact ih (x + 1) k (by omega) (by omega)
theorem round_l3 (b : Arr 25) : ∀ (d r k : Nat), r + d = 5 → d < k → keccak_round.l3 1000 k ((5 * r : Nat) : Int) (chiP b r 0) = some (chiA b) := by
  intro d
  induction d with
  | zero =>
    intro r k hq hk
    obtain ⟨k, rfl⟩ : ∃ m, k = m + 1 := ⟨k - 1, by omega⟩
    obtain rfl : r = 5 := by omega
    simp only [keccak_round.l3, show ¬ ((5 * 5 : Nat) : Int) < 25 by omega, if_false]
    refine congrArg some (arr_ext fun j hj => ?_)
    unfold chiP chiA
    rw [rd_mapA _ _ hj, rd_mapA _ _ hj, if_pos (by omega)]
  | succ d ih =>
    intro r k hq hk
    obtain ⟨k, rfl⟩ : ∃ m, k = m + 1 := ⟨k - 1, by omega⟩
    have e5 : iadd .i64 ((5 * r : Nat) : Int) 5 = ((5 * (r + 1) : Nat) : Int) := iadd_nat (5 * r) 5 (by omega)
    have h1 := round_l4 b r (by omega) 5 0 1000 (by omega) (by decide)
    rw [show ((0 : Nat) : Int) = 0 from rfl] at h1
    have c1 : 5 ≤ (((5 * (r + 1) : Nat) : Int) : Int).toNat - (((5 * r : Nat) : Int) : Int).toNat := by omega
    simp only [keccak_round.l3, show ((5 * r : Nat) : Int) < 25 by omega, show (0 : Int) ≤ ((5 * r : Nat) : Int) by omega, if_true, e5, show ((5 * r : Nat) : Int) ≤ ((5 * (r + 1) : Nat) : Int) by omega, show ((5 * (r + 1) : Nat) : Int) ≤ 25 by omega, c1, h1, Option.bind_some]
    have hw : chiP b r 5 = chiP b (r + 1) 0 := by
      refine arr_ext fun j hj => ?_
      unfold chiP
      rw [rd_mapA _ _ hj, rd_mapA _ _ hj]
      by_cases h2 : j / 5 < r ∨ (j / 5 = r ∧ j % 5 < 5)
      · rw [if_pos h2, if_pos (by omega)]
      · rw [if_neg h2, if_neg (by omega)]
    rw [hw]
    exact ih (r + 1) k (by omega) (by omega)
theorem chiP_start (b : Arr 25) : chiP b 0 0 = b := by
  refine arr_ext fun j hj => ?_
  unfold chiP
  rw [rd_mapA _ _ hj, if_neg (by omega)]
def roundA (a : Arr 25) (c : Int) : Arr 25 := wr (chiA (rhoA (thetaA a))) 0 (ixor .u64 (rd (chiA (rhoA (thetaA a))) 0) c)
theorem round_eq (a : Arr 25) (c : Int) : keccak_round.f 1000 a c = some (roundA a c) := by
  have h0 := round_l0 a 5 0 1000 (by omega) (by decide)
  rw [thetaP_start, show ((0 : Nat) : Int) = 0 from rfl] at h0
  have h2 := round_l2 (thetaA a) 24 0 1000 (rd (thetaA a) 1) (thetaA a) (by omega) (by decide) (fun _ => rfl) (fun j hj => by rw [if_neg (by omega)])
  rw [show ((0 : Nat) : Int) = 0 from rfl] at h2
  have h3 := round_l3 (rhoA (thetaA a)) 5 0 1000 (by omega) (by decide)
  rw [chiP_start, show ((5 * 0 : Nat) : Int) = 0 from rfl] at h3
  rw [keccak_round.f, columns_eq, Option.bind_some, h0, Option.bind_some, Option.bind_some, h2, Option.bind_some, h3]
  rfl
theorem refchi (b z : Arr 25) : ref08_Permute.l1 1000 1000 b 0 z = some (chiA b) := by
  refine loop_map (n := 25) (fun k i z => ref08_Permute.l1 1000 k b i z) (fun j _ => chiW b (j / 5 * 5) (j % 5)) z ?_ ?_ 1000 (by decide)
  · intro k i z hi _
    have i1 : iadd .i64 (i : Int) 1 = ((i + 1 : Nat) : Int) := iadd_nat i 1 (by omega)
    have i2 : iadd .i64 (i : Int) 2 = ((i + 2 : Nat) : Int) := iadd_nat i 2 (by omega)
    have e0 : imul .i64 (iquo .i64 (i : Int) 5) 5 = ((i / 5 * 5 : Nat) : Int) := by
      unfold iquo
      rw [tdivN (by omega), id64 (by omega) (by omega), mul64 (by omega) (by omega)]
      omega
    have e1 : irem .i64 ((i + 1 : Nat) : Int) 5 = (((i + 1) % 5 : Nat) : Int) := by
      unfold irem
      rw [tmodN (by omega)]
      omega
    have e2 : irem .i64 ((i + 2 : Nat) : Int) 5 = (((i + 2) % 5 : Nat) : Int) := by
      unfold irem
      rw [tmodN (by omega)]
      omega
    have a1 := iadd_nat (i / 5 * 5) ((i + 1) % 5) (by omega)
    have a2 := iadd_nat (i / 5 * 5) ((i + 2) % 5) (by omega)
    simp only [ref08_Permute.l1, show (i : Int) < 25 by omega, show (0 : Int) ≤ (i : Int) by omega, if_true, i1, i2, e0, e1, e2, a1, a2, Option.bind_some, show (0 : Int) ≤ ((i / 5 * 5 + (i + 1) % 5 : Nat) : Int) by omega, show ((i / 5 * 5 + (i + 1) % 5 : Nat) : Int) < 25 by omega, show (0 : Int) ≤ ((i / 5 * 5 + (i + 2) % 5 : Nat) : Int) by omega, show ((i / 5 * 5 + (i + 2) % 5 : Nat) : Int) < 25 by omega, andn_eq]
    unfold chiW
    rw [show i / 5 * 5 + i % 5 = i by omega, show (i % 5 + 2) % 5 = (i + 2) % 5 by omega, show (i % 5 + 1) % 5 = (i + 1) % 5 by omega]
  · intro k z
    simp only [ref08_Permute.l1, show ¬ ((25 : Nat) : Int) < 25 by omega, if_false]
theorem w_mapA {f : Nat → Int} (h : ∀ j, j < 25 → W64 (f j)) : InW (mapA 25 f) := fun j hj => by rw [rd_mapA _ _ hj]; exact h j hj
theorem w_round (a : Arr 25) (c : Int) : InW (roundA a c) := fun j hj => by
  unfold roundA
  have := rd_wr (chiA (rhoA (thetaA a))) 0 j (ixor .u64 (rd (chiA (rhoA (thetaA a))) 0) c) hj
  rw [show ((0 : Nat) : Int) = 0 from rfl] at this
  rw [this]
  split
  · exact w_xor _ _
  · unfold chiA
    rw [rd_mapA _ _ hj]
    exact w_xor _ _
def permA (a : Arr 25) : Arr 25 := (List.range 24).foldl (fun s i => roundA s (rd tab_0 (i : Nat))) a
theorem w_perm (a : Arr 25) : InW (permA a) := by
  unfold permA
  rw [List.range_succ, List.foldl_append]
  exact w_round _ _
theorem Permute_eq (a : Arr 25) : keccak_Permute.f 1000 a = some (permA a) := by
  rw [keccak_Permute.f]
  have := loop_fold (S := Arr 25) (fun k s i => keccak_Permute.l0 1000 k i s) (fun s i => roundA s (rd tab_0 (i : Nat))) 24 (fun k i s hi => by
    have e1 : iadd .i64 (i : Int) 1 = ((i + 1 : Nat) : Int) := iadd_nat i 1 (by omega)
    simp only [keccak_Permute.l0, show (i : Int) < 24 by omega, show (0 : Int) ≤ (i : Int) by omega, if_true, Option.bind_some, round_eq, e1]) (fun k s => by
    simp only [keccak_Permute.l0, show ¬ ((24 : Nat) : Int) < 24 by omega, if_false]) 1000 (by decide) a
  rw [this]
  rfl
theorem consts : (ref08_constants.f 1000).map (fun r => r.toList) = some tab_0.toList := by decide +kernel
theorem consts_eq : ref08_constants.f 1000 = some tab_0 := by
  have h := consts
  rw [Option.map_eq_some_iff] at h
  obtain ⟨r, hr, hl⟩ := h
  rw [hr]
  exact congrArg some (Vector.toList_inj.1 hl)
theorem ref_fold (a : Arr 25) (ha : InW a) : ∀ (d i k : Nat) (s : Arr 25), i + d = 24 → d < k → InW s → ref08_Permute.l0 1000 k tab_0 (i : Int) s = some ((List.range' i d).foldl (fun s i => roundA s (rd tab_0 (i : Nat))) s) := by
  intro d
  induction d with
  | zero =>
    intro i k s hi hk hs
    obtain ⟨k, rfl⟩ : ∃ m, k = m + 1 := ⟨k - 1, by omega⟩
    obtain rfl : i = 24 := by omega
    simp only [ref08_Permute.l0, show ¬ ((24 : Nat) : Int) < 24 by omega, if_false]
    rfl
  | succ d ih =>
    intro i k s hi hk hs
    obtain ⟨k, rfl⟩ : ∃ m, k = m + 1 := ⟨k - 1, by omega⟩
    have e1 : iadd .i64 (i : Int) 1 = ((i + 1 : Nat) : Int) := iadd_nat i 1 (by omega)
    simp only [ref08_Permute.l0, show (i : Int) < 24 by omega, show (0 : Int) ≤ (i : Int) by omega, if_true, Option.bind_some, ref08_spread_eq s hs, ref08_move_eq, refchi, e1]
    have := ih (i + 1) k (roundA s (rd tab_0 (i : Nat))) (by omega) (by omega) (w_round _ _)
    rw [List.range'_succ, List.foldl_cons]
    exact this
theorem ref08_Permute_eq (a : Arr 25) (ha : InW a) : ref08_Permute.f 1000 a = some (permA a) := by
  rw [ref08_Permute.f, consts_eq, Option.bind_some]
  have := ref_fold a ha 24 0 1000 a (by omega) (by decide) ha
  rw [show ((0 : Nat) : Int) = 0 from rfl] at this
  rw [this]
  unfold permA
  rw [List.range_eq_range']
  rfl
end Go.Proofs.YtijahfdldlmnhaaDoor
