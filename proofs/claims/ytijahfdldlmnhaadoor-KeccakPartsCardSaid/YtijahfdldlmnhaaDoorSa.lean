/- Layer 8 (keccak), plain laws: words; a round; all rounds. -/
import Derived.Test.YtijahfdldlmnhaaDoorSF0
import Derived.Test.YtijahfdldlmnhaaDoorMb
set_option linter.unusedSimpArgs false
set_option linter.unusedVariables false
set_option maxRecDepth 100000
namespace Go.Proofs.YtijahfdldlmnhaaDoor
open Go Go.Mx
/-! ### words -/
abbrev W64 (x : Int) : Prop := 0 ≤ x ∧ x < 18446744073709551616
def InW {n : Nat} (a : Arr n) : Prop := ∀ i : Nat, i < n → W64 (rd a i)
def bv (x : Int) : BitVec 64 := BitVec.ofInt 64 x
theorem wrap_bv (b : BitVec 64) : IntKind.wrap .u64 (b.toNat : Int) = (b.toNat : Int) := by
  rw [wu64]
  have := b.isLt
  omega
theorem xor_bv (x y : Int) : ixor .u64 x y = ((bv x ^^^ bv y).toNat : Int) := wrap_bv _
theorem and_bv (x y : Int) : iand .u64 x y = ((bv x &&& bv y).toNat : Int) := wrap_bv _
theorem andn_bv (x y : Int) : iandn .u64 x y = ((bv x &&& ~~~ bv y).toNat : Int) := wrap_bv _
theorem bv_nat (b : BitVec 64) : bv (b.toNat : Int) = b := by unfold bv; simp
theorem bv_word {x : Int} (h : W64 x) : ((bv x).toNat : Int) = x := by
  unfold bv
  rw [BitVec.toNat_ofInt]
  obtain ⟨h0, h1⟩ := h
  omega
theorem word_nat (b : BitVec 64) : W64 (b.toNat : Int) := by
  have := b.isLt
  constructor <;> omega
theorem w_xor (x y : Int) : W64 (ixor .u64 x y) := by rw [xor_bv]; exact word_nat _
theorem w_wrap (x : Int) : W64 (IntKind.wrap .u64 x) := by rw [wu64]; constructor <;> omega
theorem xor_assoc (x y z : Int) : ixor .u64 (ixor .u64 x y) z = ixor .u64 x (ixor .u64 y z) := by
  rw [xor_bv, xor_bv x y, bv_nat, xor_bv x, xor_bv y z, bv_nat, BitVec.xor_assoc]
theorem xor_zero {x : Int} (h : W64 x) : ixor .u64 0 x = x := by
  rw [xor_bv, show bv 0 = 0#64 from rfl, BitVec.zero_xor, bv_word h]
theorem andn_eq (x y : Int) : iand .u64 (ixor .u64 x 18446744073709551615) y = iandn .u64 y x := by
  rw [and_bv, andn_bv, xor_bv, bv_nat, show bv 18446744073709551615 = BitVec.allOnes 64 from by decide, BitVec.xor_allOnes, BitVec.and_comm]
def rotl (x : Int) (n : Nat) : Int := ior .u64 (ishl .u64 x (n : Int)) (ishr .u64 x ((64 - n : Nat) : Int))
theorem w_rotl (x : Int) (n : Nat) : W64 (rotl x n) := w_wrap _
theorem rot_eq (K : Nat) (x : Int) (n : Nat) (hn : n < 64) : math_bits_RotateLeft64.f K x (n : Int) = some (rotl x n) := by
  have p : n < 2 ^ 64 := Nat.lt_trans hn (by decide)
  have e1 : iconv .u64 (n : Int) = (n : Int) := wrap_nat (by simp only [top, IntKind.bits, IntKind.signed]; exact p)
  have e2 : iand .u64 (n : Int) 63 = (n : Int) := by
    have := iand_nat (k := .u64) (x := n) (y := 63) (by simp only [top, IntKind.bits, IntKind.signed]; exact p) (by decide)
    rw [show (63 : Nat) = 2 ^ 6 - 1 from rfl, and_mask, Nat.mod_eq_of_lt (by omega)] at this
    exact this
  have e3 : isub .u64 64 (n : Int) = ((64 - n : Nat) : Int) := by
    unfold isub
    rw [show (64 : Int) - (n : Int) = ((64 - n : Nat) : Int) by omega]
    exact wrap_nat (by simp only [top, IntKind.bits, IntKind.signed]; exact Nat.lt_of_le_of_lt (Nat.sub_le _ _) (by decide))
  unfold math_bits_RotateLeft64.f
  rw [e1, e2, Option.bind_some, if_pos (by omega), e3, if_pos (by omega)]
  rfl
theorem left_eq (K : Nat) (x : Int) (m : Nat) (hm : m < 1000000) : ref08_left.f K x (m : Int) = some (rotl x (m % 64)) := by
  have e1 : irem .i64 (m : Int) 64 = ((m % 64 : Nat) : Int) := by
    unfold irem
    rw [tmodN (by omega)]
    omega
  have e3 : isub .i64 64 ((m % 64 : Nat) : Int) = ((64 - m % 64 : Nat) : Int) := by
    rw [sub64 (by omega) (by omega)]
    omega
  unfold ref08_left.f
  rw [e1, Option.bind_some, if_pos (by omega), e3, if_pos (by omega)]
  rfl
/-! ### columns -/
def colW (a : Arr 25) (x : Nat) : Int := ixor .u64 (ixor .u64 (ixor .u64 (ixor .u64 (rd a (x : Nat)) (rd a ((x + 5 : Nat) : Int))) (rd a ((x + 10 : Nat) : Int))) (rd a ((x + 15 : Nat) : Int))) (rd a ((x + 20 : Nat) : Int))
def colA (a : Arr 25) : Arr 5 := mapA 5 (colW a)
theorem iadd_nat (x y : Nat) (h : x + y < 1000000) : iadd .i64 (x : Int) (y : Int) = ((x + y : Nat) : Int) := by rw [add64 (by omega) (by omega)]; omega
theorem columns_eq (a : Arr 25) : keccak_columns.f 1000 a = some (colA a) := by
  rw [keccak_columns.f]
  rw [loop_map (n := 5) (fun k i z => keccak_columns.l0 1000 k a i z) (fun x _ => colW a x) (zeroA 5) ?_ ?_ 1000 (by decide)]
  · rfl
  · intro k i z hi _
    have e1 : iadd .i64 (i : Int) 1 = ((i + 1 : Nat) : Int) := iadd_nat i 1 (by omega)
    have e5 : iadd .i64 (i : Int) 5 = ((i + 5 : Nat) : Int) := iadd_nat i 5 (by omega)
    have e10 : iadd .i64 (i : Int) 10 = ((i + 10 : Nat) : Int) := iadd_nat i 10 (by omega)
    have e15 : iadd .i64 (i : Int) 15 = ((i + 15 : Nat) : Int) := iadd_nat i 15 (by omega)
    have e20 : iadd .i64 (i : Int) 20 = ((i + 20 : Nat) : Int) := iadd_nat i 20 (by omega)
    simp only [keccak_columns.l0, show (i : Int) < 5 by omega, show (0 : Int) ≤ i by omega, show (i : Int) < 25 by omega, if_true, e1, e5, e10, e15, e20, Option.bind_some, show (0 : Int) ≤ ((i + 5 : Nat) : Int) by omega, show ((i + 5 : Nat) : Int) < 25 by omega, show (0 : Int) ≤ ((i + 10 : Nat) : Int) by omega, show ((i + 10 : Nat) : Int) < 25 by omega,
      show (0 : Int) ≤ ((i + 15 : Nat) : Int) by omega, show ((i + 15 : Nat) : Int) < 25 by omega, show (0 : Int) ≤ ((i + 20 : Nat) : Int) by omega, show ((i + 20 : Nat) : Int) < 25 by omega]
    rfl
  · intro k z
    simp only [keccak_columns.l0, show ¬ ((5 : Nat) : Int) < 5 by omega, if_false]
/-- a column, the first j words laid -/
def colP (a : Arr 25) (j x : Nat) : Int := (List.range j).foldl (fun s i => if i % 5 = x then ixor .u64 s (rd a (i : Nat)) else s) 0
theorem colP_succ (a : Arr 25) (j x : Nat) : colP a (j + 1) x = if j % 5 = x then ixor .u64 (colP a j x) (rd a (j : Nat)) else colP a j x := by
  unfold colP
  rw [List.range_succ, List.foldl_append]
  rfl
theorem colP_all (a : Arr 25) (ha : InW a) (x : Nat) (hx : x < 5) : colP a 25 x = colW a x := by
  have hz := xor_zero (ha x (by omega))
  have e : ∀ j x, j % 5 = x → colP a (j + 1) x = ixor .u64 (colP a j x) (rd a (j : Nat)) := fun j x h => by rw [colP_succ, if_pos h]
  have n : ∀ j x, j % 5 ≠ x → colP a (j + 1) x = colP a j x := fun j x h => by rw [colP_succ, if_neg h]
  unfold colW
  obtain rfl | rfl | rfl | rfl | rfl : x = 0 ∨ x = 1 ∨ x = 2 ∨ x = 3 ∨ x = 4 := by omega
  all_goals
    simp only [colP_succ, show colP a 0 _ = 0 from rfl]
    simp
    refine congrArg (fun t => ixor .u64 (ixor .u64 (ixor .u64 (ixor .u64 t _) _) _) _) ?_
    exact hz
theorem spread_l0 (a : Arr 25) (ha : InW a) : ref08_spread.l0 1000 1000 a 0 (zeroA 5) = some (colA a) := by
  have key : ∀ (d j k : Nat) (z : Arr 5), j + d = 25 → d < k → (∀ x : Nat, x < 5 → rd z (x : Nat) = colP a j x) → ref08_spread.l0 1000 k a (j : Int) z = some (colA a) := by
    intro d
    induction d with
    | zero =>
      intro j k z hj hk hz
      obtain ⟨k, rfl⟩ : ∃ m, k = m + 1 := ⟨k - 1, by omega⟩
      obtain rfl : j = 25 := by omega
      simp only [ref08_spread.l0, show ¬ ((25 : Nat) : Int) < 25 by omega, if_false]
      refine congrArg some (arr_ext fun x hx => ?_)
      unfold colA
      rw [rd_mapA _ _ hx, hz x hx, colP_all a ha x hx]
    | succ d ih =>
      intro j k z hj hk hz
      obtain ⟨k, rfl⟩ : ∃ m, k = m + 1 := ⟨k - 1, by omega⟩
      have e1 : iadd .i64 (j : Int) 1 = ((j + 1 : Nat) : Int) := iadd_nat j 1 (by omega)
      have e2 : irem .i64 (j : Int) 5 = ((j % 5 : Nat) : Int) := by
        unfold irem
        rw [tmodN (by omega)]
        omega
      simp only [ref08_spread.l0, show (j : Int) < 25 by omega, show (0 : Int) ≤ j by omega, if_true, e1, e2, Option.bind_some, show (0 : Int) ≤ ((j % 5 : Nat) : Int) by omega, show ((j % 5 : Nat) : Int) < 5 by omega]
      refine ih (j + 1) k _ (by omega) (by omega) fun x hx => ?_
      rw [rd_wr _ _ _ _ hx, colP_succ]
      by_cases h : j % 5 = x
      · rw [if_pos h, if_pos h, ← h, hz _ (by omega)]
      · rw [if_neg h, if_neg h, hz x hx]
  have := key 25 0 1000 (zeroA 5) (by omega) (by decide) fun x hx => by rw [rd_zeroA _ hx]; rfl
  exact this
/-! ### theta -/
def dW (a : Arr 25) (x : Nat) : Int := ixor .u64 (colW a ((x + 4) % 5)) (rotl (colW a ((x + 1) % 5)) 1)
def thetaA (a : Arr 25) : Arr 25 := mapA 25 fun j => ixor .u64 (rd a (j : Nat)) (dW a (j % 5))
/-- the first x columns done, and the first q words of column x -/
def thetaP (a : Arr 25) (x q : Nat) : Arr 25 := mapA 25 fun j => if j % 5 < x ∨ (j % 5 = x ∧ j / 5 < q) then ixor .u64 (rd a (j : Nat)) (dW a (j % 5)) else rd a (j : Nat)
theorem round_l1 (a : Arr 25) (x : Nat) (hx : x < 5) : ∀ (d q k : Nat), q + d = 5 → d < k → keccak_round.l1 1000 k (x : Int) (dW a x) ((5 * q : Nat) : Int) (thetaP a x q) = some (thetaP a x 5) := by
  intro d
  induction d with
  | zero =>
    intro q k hq hk
    obtain ⟨k, rfl⟩ : ∃ m, k = m + 1 := ⟨k - 1, by omega⟩
    obtain rfl : q = 5 := by omega
    simp only [keccak_round.l1, show ¬ ((5 * 5 : Nat) : Int) < 25 by omega, if_false]
  | succ d ih =>
    intro q k hq hk
    obtain ⟨k, rfl⟩ : ∃ m, k = m + 1 := ⟨k - 1, by omega⟩
    have e1 : iadd .i64 (x : Int) ((5 * q : Nat) : Int) = ((x + 5 * q : Nat) : Int) := iadd_nat x (5 * q) (by omega)
    have e5 : iadd .i64 ((5 * q : Nat) : Int) 5 = ((5 * (q + 1) : Nat) : Int) := iadd_nat (5 * q) 5 (by omega)
    have er : rd (thetaP a x q) ((x + 5 * q : Nat) : Int) = rd a ((x + 5 * q : Nat) : Int) := by
      unfold thetaP
      rw [rd_mapA _ _ (by omega), if_neg (by omega)]
    simp only [keccak_round.l1, show ((5 * q : Nat) : Int) < 25 by omega, if_true, e1, e5, er, Option.bind_some, show (0 : Int) ≤ ((x + 5 * q : Nat) : Int) by omega, show ((x + 5 * q : Nat) : Int) < 25 by omega]
    have hw : wr (thetaP a x q) ((x + 5 * q : Nat) : Int) (ixor .u64 (rd a ((x + 5 * q : Nat) : Int)) (dW a x)) = thetaP a x (q + 1) := by
      refine arr_ext fun j hj => ?_
      rw [rd_wr _ _ _ _ hj]
      unfold thetaP
      rw [rd_mapA _ _ hj, rd_mapA _ _ hj]
      by_cases h : x + 5 * q = j
      · subst h
        rw [if_pos rfl, if_pos (by omega), show (x + 5 * q) % 5 = x by omega]
      · rw [if_neg h]
        by_cases h2 : j % 5 < x ∨ (j % 5 = x ∧ j / 5 < q)
        · rw [if_pos h2, if_pos (by omega)]
        · rw [if_neg h2, if_neg (by omega)]
    rw [hw]
    exact ih (q + 1) k (by omega) (by omega)
theorem round_l0 (a : Arr 25) : ∀ (d x k : Nat), x + d = 5 → d < k → keccak_round.l0 1000 k (colA a) (x : Int) (thetaP a x 0) = some (thetaA a) := by
  intro d
  induction d with
  | zero =>
    intro x k hq hk
    obtain ⟨k, rfl⟩ : ∃ m, k = m + 1 := ⟨k - 1, by omega⟩
    obtain rfl : x = 5 := by omega
    simp only [keccak_round.l0, show ¬ ((5 : Nat) : Int) < 5 by omega, if_false]
    refine congrArg some (arr_ext fun j hj => ?_)
    unfold thetaP thetaA
    rw [rd_mapA _ _ hj, rd_mapA _ _ hj, if_pos (by omega)]
  | succ d ih =>
    intro x k hq hk
    obtain ⟨k, rfl⟩ : ∃ m, k = m + 1 := ⟨k - 1, by omega⟩
    have e4 : irem .i64 (iadd .i64 (x : Int) 4) 5 = (((x + 4) % 5 : Nat) : Int) := by
      rw [show iadd .i64 (x : Int) 4 = ((x + 4 : Nat) : Int) from iadd_nat x 4 (by omega)]
      unfold irem
      rw [tmodN (by omega)]
      omega
    have e1 : irem .i64 ((x + 1 : Nat) : Int) 5 = (((x + 1) % 5 : Nat) : Int) := by
      unfold irem
      rw [tmodN (by omega)]
      omega
    have e2 : iadd .i64 (x : Int) 1 = ((x + 1 : Nat) : Int) := iadd_nat x 1 (by omega)
    have c4 : rd (colA a) (((x + 4) % 5 : Nat) : Int) = colW a ((x + 4) % 5) := by unfold colA; rw [rd_mapA _ _ (by omega)]
    have c1 : rd (colA a) (((x + 1) % 5 : Nat) : Int) = colW a ((x + 1) % 5) := by unfold colA; rw [rd_mapA _ _ (by omega)]
    have hr : math_bits_RotateLeft64.f 1000 (colW a ((x + 1) % 5)) 1 = some (rotl (colW a ((x + 1) % 5)) 1) := rot_eq 1000 _ 1 (by decide)
    have h1 := round_l1 a x (by omega) 5 0 1000 (by omega) (by decide)
    rw [show ((5 * 0 : Nat) : Int) = 0 from rfl] at h1
    simp only [keccak_round.l0, show (x : Int) < 5 by omega, if_true, e4, e1, e2, c4, c1, hr, Option.bind_some, show (0 : Int) ≤ (((x + 4) % 5 : Nat) : Int) by omega, show (((x + 4) % 5 : Nat) : Int) < 5 by omega, show (0 : Int) ≤ (((x + 1) % 5 : Nat) : Int) by omega, show (((x + 1) % 5 : Nat) : Int) < 5 by omega]
    rw [show ixor .u64 (colW a ((x + 4) % 5)) (rotl (colW a ((x + 1) % 5)) 1) = dW a x from rfl, h1]
    have hw : thetaP a x 5 = thetaP a (x + 1) 0 := by
      refine arr_ext fun j hj => ?_
      unfold thetaP
      rw [rd_mapA _ _ hj, rd_mapA _ _ hj]
      by_cases h2 : j % 5 < x ∨ (j % 5 = x ∧ j / 5 < 5)
      · rw [if_pos h2, if_pos (by omega)]
      · rw [if_neg h2, if_neg (by omega)]
    rw [Option.bind_some, hw]
    exact ih (x + 1) k (by omega) (by omega)
theorem thetaP_start (a : Arr 25) : thetaP a 0 0 = a := by
  refine arr_ext fun j hj => ?_
  unfold thetaP
  rw [rd_mapA _ _ hj, if_neg (by omega)]
theorem ref08_spread_eq (a : Arr 25) (ha : InW a) : ref08_spread.f 1000 a = some (thetaA a) := by
  rw [ref08_spread.f, spread_l0 a ha, Option.bind_some]
  rw [loop_map (n := 25) (fun k i z => ref08_spread.l1 1000 k (colA a) i z) (fun j v => ixor .u64 v (dW a (j % 5))) a ?_ ?_ 1000 (by decide)]
  · rfl
  · intro k i z hi hz
    have e4 : irem .i64 (iadd .i64 (i : Int) 4) 5 = (((i + 4) % 5 : Nat) : Int) := by
      rw [show iadd .i64 (i : Int) 4 = ((i + 4 : Nat) : Int) from iadd_nat i 4 (by omega)]
      unfold irem
      rw [tmodN (by omega)]
      omega
    have e1 : irem .i64 ((i + 1 : Nat) : Int) 5 = (((i + 1) % 5 : Nat) : Int) := by
      unfold irem
      rw [tmodN (by omega)]
      omega
    have e2 : iadd .i64 (i : Int) 1 = ((i + 1 : Nat) : Int) := iadd_nat i 1 (by omega)
    have c4 : rd (colA a) (((i + 4) % 5 : Nat) : Int) = colW a ((i + 4) % 5) := by unfold colA; rw [rd_mapA _ _ (by omega)]
    have c1 : rd (colA a) (((i + 1) % 5 : Nat) : Int) = colW a ((i + 1) % 5) := by unfold colA; rw [rd_mapA _ _ (by omega)]
    have hr : ref08_left.f 1000 (colW a ((i + 1) % 5)) 1 = some (rotl (colW a ((i + 1) % 5)) 1) := left_eq 1000 _ 1 (by decide)
    simp only [ref08_spread.l1, show (i : Int) < 25 by omega, show (0 : Int) ≤ (i : Int) by omega, if_true, e4, e1, e2, c4, c1, hr, hz, Option.bind_some, show (0 : Int) ≤ (((i + 4) % 5 : Nat) : Int) by omega, show (((i + 4) % 5 : Nat) : Int) < 5 by omega, show (0 : Int) ≤ (((i + 1) % 5 : Nat) : Int) by omega, show (((i + 1) % 5 : Nat) : Int) < 5 by omega]
    rw [xor_assoc]
    unfold dW
    rw [show (i % 5 + 4) % 5 = (i + 4) % 5 by omega, show (i % 5 + 1) % 5 = (i + 1) % 5 by omega]
  · intro k z
    simp only [ref08_spread.l1, show ¬ ((25 : Nat) : Int) < 25 by omega, if_false]
/-! ### where words go -/
def plc (i : Nat) : Nat := (rd tab_1 (i : Nat)).toNat
def trn (i : Nat) : Nat := (rd tab_2 (i : Nat)).toNat
def src (i : Nat) : Nat := if i = 0 then 1 else plc (i - 1)
def pos (j : Nat) : Nat := (List.range 24).findIdx fun i => plc i == j
theorem ck_plc : ∀ i, i < 24 → rd tab_1 (i : Nat) = ((plc i : Nat) : Int) ∧ plc i < 25 ∧ 0 < plc i ∧ pos (plc i) = i ∧ src i < 25 := by decide +kernel
theorem ck_trn : ∀ i, i < 24 → rd tab_2 (i : Nat) = ((trn i : Nat) : Int) ∧ trn i < 64 ∧ (i + 1) * (i + 2) / 2 % 64 = trn i := by decide +kernel
theorem ck_pos : ∀ j, j < 25 → 0 < j → pos j < 24 ∧ plc (pos j) = j := by decide +kernel
theorem ck_mv : ∀ i, i < 24 → src i / 5 + 5 * ((2 * (src i % 5) + 3 * (src i / 5)) % 5) = plc i ∧ (i + 1 < 24 → src (i + 1) = plc i) := by decide +kernel
def rhoA (a : Arr 25) : Arr 25 := mapA 25 fun j => if j = 0 then rd a ((0 : Nat) : Int) else rotl (rd a ((src (pos j) : Nat) : Int)) (trn (pos j))
theorem round_l2 (a : Arr 25) : ∀ (d i k : Nat) (h : Int) (z : Arr 25), i + d = 24 → d < k → (i < 24 → h = rd a ((src i : Nat) : Int)) →
    (∀ j : Nat, j < 25 → rd z (j : Nat) = if 0 < j ∧ pos j < i then rotl (rd a ((src (pos j) : Nat) : Int)) (trn (pos j)) else rd a (j : Nat)) → keccak_round.l2 1000 k h (i : Int) z = some (rhoA a) := by
  intro d
  induction d with
  | zero =>
    intro i k h z hi hk hh hz
    obtain ⟨k, rfl⟩ : ∃ m, k = m + 1 := ⟨k - 1, by omega⟩
    obtain rfl : i = 24 := by omega
    simp only [keccak_round.l2, show ¬ ((24 : Nat) : Int) < 24 by omega, if_false]
    refine congrArg some (arr_ext fun j hj => ?_)
    unfold rhoA
    rw [hz j hj, rd_mapA _ _ hj]
    by_cases h0 : j = 0
    · subst h0; rw [if_neg (by omega), if_pos rfl]
    · rw [if_pos ⟨by omega, (ck_pos j hj (by omega)).1⟩, if_neg h0]
  | succ d ih =>
    intro i k h z hi hk hh hz
    obtain ⟨k, rfl⟩ : ∃ m, k = m + 1 := ⟨k - 1, by omega⟩
    obtain ⟨p1, p2, p3, p4, p5⟩ := ck_plc i (by omega)
    obtain ⟨t1, t2, t3⟩ := ck_trn i (by omega)
    have e1 : iadd .i64 (i : Int) 1 = ((i + 1 : Nat) : Int) := iadd_nat i 1 (by omega)
    have hr := rot_eq 1000 h (trn i) t2
    have hzp : rd z ((plc i : Nat) : Int) = rd a ((plc i : Nat) : Int) := by
      rw [hz _ p2, if_neg (by rw [p4]; omega)]
    simp only [keccak_round.l2, show (i : Int) < 24 by omega, show (0 : Int) ≤ (i : Int) by omega, if_true, p1, t1, e1, hr, hzp, Option.bind_some, show (0 : Int) ≤ ((plc i : Nat) : Int) by omega, show ((plc i : Nat) : Int) < 25 by omega]
    refine ih (i + 1) k _ _ (by omega) (by omega) (fun h2 => by rw [(ck_mv i (by omega)).2 h2]) fun j hj => ?_
    rw [rd_wr _ _ _ _ hj]
    by_cases h3 : plc i = j
    · subst h3
      rw [if_pos rfl, if_pos ⟨p3, by rw [p4]; omega⟩, p4, hh (by omega)]
    · rw [if_neg h3, hz j hj]
      by_cases h4 : 0 < j ∧ pos j < i
      · rw [if_pos h4, if_pos ⟨h4.1, by omega⟩]
      · rw [if_neg h4, if_neg]
        rintro ⟨h5, h6⟩
        have : pos j = i := by omega
        exact h3 (by rw [← this]; exact (ck_pos j hj h5).2)
theorem move_l0 (a : Arr 25) : ∀ (d i k : Nat) (x y : Nat) (z : Arr 25), i + d = 24 → d < k → (i < 24 → x = src i % 5 ∧ y = src i / 5) →
    (∀ j : Nat, j < 25 → rd z (j : Nat) = if j = 0 then rd a ((0 : Nat) : Int) else if pos j < i then rotl (rd a ((src (pos j) : Nat) : Int)) (trn (pos j)) else 0) → ref08_move.l0 1000 k a (x : Int) (y : Int) (i : Int) z = some (rhoA a) := by
  intro d
  induction d with
  | zero =>
    intro i k x y z hi hk hh hz
    obtain ⟨k, rfl⟩ : ∃ m, k = m + 1 := ⟨k - 1, by omega⟩
    obtain rfl : i = 24 := by omega
    simp only [ref08_move.l0, show ¬ ((24 : Nat) : Int) < 24 by omega, if_false]
    refine congrArg some (arr_ext fun j hj => ?_)
    unfold rhoA
    rw [hz j hj, rd_mapA _ _ hj]
    by_cases h0 : j = 0
    · rw [if_pos h0, if_pos h0]
    · rw [if_neg h0, if_neg h0, if_pos (ck_pos j hj (by omega)).1]
  | succ d ih =>
    intro i k x y z hi hk hh hz
    obtain ⟨k, rfl⟩ : ∃ m, k = m + 1 := ⟨k - 1, by omega⟩
    obtain ⟨p1, p2, p3, p4, p5⟩ := ck_plc i (by omega)
    obtain ⟨t1, t2, t3⟩ := ck_trn i (by omega)
    obtain ⟨m1, m2⟩ := ck_mv i (by omega)
    obtain ⟨hx, hy⟩ := hh (by omega)
    have hx5 : x < 5 := by omega
    have hy5 : y < 5 := by omega
    have hxy : x + 5 * y = src i := by omega
    have e1 : iadd .i64 (i : Int) 1 = ((i + 1 : Nat) : Int) := iadd_nat i 1 (by omega)
    have e2 : iadd .i64 (i : Int) 2 = ((i + 2 : Nat) : Int) := iadd_nat i 2 (by omega)
    have e3 : irem .i64 (iadd .i64 (imul .i64 2 (x : Int)) (imul .i64 3 (y : Int))) 5 = (((2 * x + 3 * y) % 5 : Nat) : Int) := by
      rw [mul64 (x := 2) (by omega) (by omega), mul64 (x := 3) (by omega) (by omega), add64 (by omega) (by omega)]
      unfold irem
      rw [tmodN (by omega)]
      omega
    have e4 : iadd .i64 (x : Int) (imul .i64 5 (y : Int)) = ((src i : Nat) : Int) := by
      rw [mul64 (x := 5) (by omega) (by omega), add64 (by omega) (by omega)]
      omega
    have hpl : y + 5 * ((2 * x + 3 * y) % 5) = plc i := by rw [hx, hy]; exact m1
    have e5 : iadd .i64 (y : Int) (imul .i64 5 (((2 * x + 3 * y) % 5 : Nat) : Int)) = ((plc i : Nat) : Int) := by
      rw [mul64 (x := 5) (by omega) (by omega), add64 (by omega) (by omega)]
      omega
    have e6 : iquo .i64 (imul .i64 ((i + 1 : Nat) : Int) ((i + 2 : Nat) : Int)) 2 = (((i + 1) * (i + 2) / 2 : Nat) : Int) := by
      have hm : (i + 1) * (i + 2) ≤ 24 * 25 := Nat.mul_le_mul (by omega) (by omega)
      have hc : ((i + 1 : Nat) : Int) * ((i + 2 : Nat) : Int) = (((i + 1) * (i + 2) : Nat) : Int) := (Int.natCast_mul _ _).symm
      rw [mul64 (by rw [hc]; omega) (by rw [hc]; omega), hc]
      unfold iquo
      rw [tdivN (by omega), id64 (by omega) (by omega)]
      omega
    have hm : (i + 1) * (i + 2) ≤ 24 * 25 := Nat.mul_le_mul (by omega) (by omega)
    have hr := left_eq 1000 (rd a ((src i : Nat) : Int)) ((i + 1) * (i + 2) / 2) (by omega)
    rw [t3] at hr
    simp only [ref08_move.l0, show (i : Int) < 24 by omega, if_true, e1, e2, e3, e4, e5, e6, hr, Option.bind_some, show (0 : Int) ≤ ((src i : Nat) : Int) by omega, show ((src i : Nat) : Int) < 25 by omega, show (0 : Int) ≤ ((plc i : Nat) : Int) by omega, show ((plc i : Nat) : Int) < 25 by omega]
    refine ih (i + 1) k y ((2 * x + 3 * y) % 5) _ (by omega) (by omega) (fun h2 => by rw [m2 h2]; omega) fun j hj => ?_
    rw [rd_wr _ _ _ _ hj]
    by_cases h3 : plc i = j
    · subst h3
      rw [if_pos rfl, if_neg (by omega), if_pos (by rw [p4]; omega), p4]
    · rw [if_neg h3, hz j hj]
      by_cases h0 : j = 0
      · rw [if_pos h0, if_pos h0]
      · rw [if_neg h0, if_neg h0]
        by_cases h4 : pos j < i
        · rw [if_pos h4, if_pos (by omega)]
        · rw [if_neg h4, if_neg]
          intro h6
          have : pos j = i := by omega
          exact h3 (by rw [← this]; exact (ck_pos j hj (by omega)).2)
theorem ref08_move_eq (a : Arr 25) : ref08_move.f 1000 a = some (rhoA a) := by
  rw [ref08_move.f, Option.bind_some]
  have := move_l0 a 24 0 1000 1 0 (wr (zeroA 25) ((0 : Nat) : Int) (rd a ((0 : Nat) : Int))) (by omega) (by decide) (fun _ => by decide) fun j hj => by
    rw [rd_wr _ _ _ _ hj]
    by_cases h : 0 = j
    · rw [if_pos h, if_pos h.symm]
    · rw [if_neg h, if_neg (fun e => h e.symm), if_neg (by omega), rd_zeroA _ hj]
  have h0 : ((0 : Nat) : Int) = 0 := rfl
  have h1 : ((1 : Nat) : Int) = 1 := rfl
  rw [h0, h1] at this
  rw [this]
  rfl
end Go.Proofs.YtijahfdldlmnhaaDoor
