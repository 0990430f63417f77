/- Layer 11 (wrap), plain laws: all steps, in the program and in the document. -/
import Derived.Test.YtmpagpbnpgcecaaWb
set_option linter.unusedSimpArgs false
set_option linter.unusedVariables false
set_option maxRecDepth 100000
namespace Go.Proofs.Ytmpagpbnpgcecaa
open Go Go.Mx
/-- steps q, q + 1, .., c of them -/
def itr {σ : Type} (f : Nat → σ → σ) : Nat → Nat → σ → σ
  | 0, _, s => s
  | c + 1, q, s => itr f c (q + 1) (f q s)
/-- steps c - 1, .., 0 -/
def itd {σ : Type} (f : Nat → σ → σ) : Nat → σ → σ
  | 0, s => s
  | c + 1, s => itd f c (f c s)
theorem itr_add {σ : Type} (f : Nat → σ → σ) : ∀ (c d q : Nat) (s : σ), itr f (c + d) q s = itr f d (q + c) (itr f c q s)
  | 0, d, q, s => by rw [Nat.zero_add]; rfl
  | c + 1, d, q, s => by
    rw [show c + 1 + d = (c + d) + 1 by omega]
    show itr f (c + d) (q + 1) (f q s) = itr f d (q + (c + 1)) (itr f c (q + 1) (f q s))
    rw [itr_add f c d, show q + 1 + c = q + (c + 1) by omega]
section
variable {kek : List Int} {E D : List Int → List Int}
theorem itr_ok (hc : Ci kek E D) {n : Nat} (hn : 0 < n) : ∀ (c q : Nat) (s : WSt), q + c ≤ 1000 → OKs n s → OKs n (itr (stp E n) c q s)
  | 0, _, _, _, h => h
  | c + 1, q, s, hq, h => itr_ok hc hn c (q + 1) _ (by omega) (stp_ok hc hn (by omega) h).1
theorem itd_ok (hc : Ci kek E D) {n : Nat} (hn : 0 < n) : ∀ (c : Nat) (s : WSt), c ≤ 1000 → OKs n s → OKs n (itd (ust D n) c s)
  | 0, _, _, h => h
  | c + 1, s, hq, h => itd_ok hc hn c _ (by omega) (stp_ok hc hn (by omega) h).2
theorem w_l1 (hc : Ci kek E D) {n m : Nat} (hn : 0 < n) (hn2 : n < 1000) (hm : m ≤ 999) : ∀ (c q k : Nat) (s : WSt), q + c = m → c < k → OKs n s →
    wrap_Wrap.l1 1000 k kek ((m : Nat) : Int) ((q + 1 : Nat) : Int) (s.1 : Int) s.2 = some (((itr (stp E n) c q s).1 : Int), (itr (stp E n) c q s).2) := by
  intro c
  induction c with
  | zero =>
    intro q k s hq hk hs
    obtain ⟨k, rfl⟩ : ∃ q, k = q + 1 := ⟨k - 1, by omega⟩
    have c : ¬ ((q + 1 : Nat) : Int) ≤ ((m : Nat) : Int) := by omega
    simp only [wrap_Wrap.l1, c, if_false]
    rfl
  | succ c ih =>
    intro q k s hq hk hs
    obtain ⟨k, rfl⟩ : ∃ q, k = q + 1 := ⟨k - 1, by omega⟩
    have c0 : ((q + 1 : Nat) : Int) ≤ ((m : Nat) : Int) := by omega
    simp only [wrap_Wrap.l1, c0, aThereS hc hn hn2 (show q < 1000 by omega) hs, if_true, Option.bind_some, inc (i := q + 1) (by omega)]
    exact ih (q + 1) k _ (by omega) (by omega) (stp_ok hc hn (by omega) hs).1
theorem u_l1 (hc : Ci kek E D) {n m : Nat} (hn : 0 < n) (hn2 : n < 1000) (hm : m ≤ 999) : ∀ (c i k : Nat) (s : WSt), i + c = m → c < k → OKs n s →
    wrap_Unwrap.l1 1000 k kek ((m : Nat) : Int) ((i + 1 : Nat) : Int) s.2 (s.1 : Int) = some ((itd (ust D n) c s).2, ((itd (ust D n) c s).1 : Int)) := by
  intro c
  induction c with
  | zero =>
    intro i k s hq hk hs
    obtain ⟨k, rfl⟩ : ∃ q, k = q + 1 := ⟨k - 1, by omega⟩
    have c : ¬ ((i + 1 : Nat) : Int) ≤ ((m : Nat) : Int) := by omega
    simp only [wrap_Unwrap.l1, c, if_false]
    rfl
  | succ c ih =>
    intro i k s hq hk hs
    obtain ⟨k, rfl⟩ : ∃ q, k = q + 1 := ⟨k - 1, by omega⟩
    have c0 : ((i + 1 : Nat) : Int) ≤ ((m : Nat) : Int) := by omega
    have p : isub .i64 (iadd .i64 ((m : Nat) : Int) 1) ((i + 1 : Nat) : Int) = ((c + 1 : Nat) : Int) := by
      rw [add64 (by omega) (by omega), sub64 (by omega) (by omega)]
      omega
    simp only [wrap_Unwrap.l1, c0, p, aUndoS hc hn hn2 (show c < 1000 by omega) hs, if_true, Option.bind_some, inc (i := i + 1) (by omega)]
    exact ih (i + 1) k _ (by omega) (by omega) (stp_ok hc hn (by omega) hs).2
/-! ### the document -/
theorem r_l2 (K : Nat) {y R : List Int} {i : Nat} (hy : y.length = 16) (hR : 8 * i + 8 ≤ R.length) (hR2 : R.length < 10000) : ∀ (m z k : Nat), z + m = 8 → m < k →
    ref11_Wrap.l2 K k (i : Int) y (z : Int) (R.take (8 * i) ++ (y.drop 8).take z ++ R.drop (8 * i + z)) = some (R.take (8 * i) ++ y.drop 8 ++ R.drop (8 * i + 8)) := by
  intro m
  induction m with
  | zero =>
    intro z k hz hk
    obtain ⟨k, rfl⟩ : ∃ q, k = q + 1 := ⟨k - 1, by omega⟩
    obtain rfl : z = 8 := by omega
    have c : ¬ ((8 : Nat) : Int) < 8 := by decide
    simp only [ref11_Wrap.l2, c, if_false]
    rw [show (y.drop 8).take 8 = y.drop 8 from List.take_of_length_le (by rw [List.length_drop]; omega)]
  | succ m ih =>
    intro z k hz hk
    obtain ⟨k, rfl⟩ : ∃ q, k = q + 1 := ⟨k - 1, by omega⟩
    have c0 : (z : Int) < 8 := by omega
    have p1 : iadd .i64 8 (z : Int) = ((8 + z : Nat) : Int) := by rw [add64 (by omega) (by omega)]; omega
    have c1 : (0 : Int) ≤ ((8 + z : Nat) : Int) := by omega
    have c2 : ((8 + z : Nat) : Int) < ((y.length : Nat) : Int) := by omega
    have p2 : iadd .i64 (imul .i64 8 (i : Int)) (z : Int) = ((8 * i + z : Nat) : Int) := by rw [mul64 (by omega) (by omega), add64 (by omega) (by omega)]; omega
    have c3 : (0 : Int) ≤ ((8 * i + z : Nat) : Int) := by omega
    have hA : (R.take (8 * i)).length = 8 * i := by rw [List.length_take]; omega
    have hB : ((y.drop 8).take z).length = z := by rw [List.length_take, List.length_drop]; omega
    have hAB : (R.take (8 * i) ++ (y.drop 8).take z).length = 8 * i + z := by rw [List.length_append, hA, hB]
    have c4 : ((8 * i + z : Nat) : Int) < (((R.take (8 * i) ++ (y.drop 8).take z ++ R.drop (8 * i + z)).length : Nat) : Int) := by rw [List.length_append, hAB, List.length_drop]; omega
    have hd : R.drop (8 * i + z) = R[8 * i + z] :: R.drop (8 * i + (z + 1)) := List.drop_eq_getElem_cons (by omega)
    have hy1 : rdL (CI .u8) y ((8 + z : Nat) : Int) = y[8 + z]'(by omega) := rdL_get (by omega)
    have hw : wrL (R.take (8 * i) ++ (y.drop 8).take z ++ R.drop (8 * i + z)) ((8 * i + z : Nat) : Int) (y[8 + z]'(by omega)) = R.take (8 * i) ++ (y.drop 8).take (z + 1) ++ R.drop (8 * i + (z + 1)) := by
      unfold wrL
      rw [Int.toNat_natCast, List.set_append_right _ _ (by rw [hAB]; exact Nat.le_refl _), hAB, Nat.sub_self, hd, List.set_cons_zero, List.take_succ_eq_append_getElem (show z < (y.drop 8).length by rw [List.length_drop]; omega), List.getElem_drop]
      simp only [List.append_assoc, List.singleton_append]
    simp only [ref11_Wrap.l2, c0, p1, c1, c2, p2, c3, c4, hy1, hw, if_true, Option.bind_some, inc (i := z) (by omega)]
    exact ih (z + 1) k (by omega) (by omega)
theorem r_l2u (K : Nat) (i : Int) (y : List Int) : ∀ (k : Nat) (z : Int) (R : List Int), ref11_Unwrap.l2 K k i y z R = ref11_Wrap.l2 K k i y z R := by
  intro k
  induction k with
  | zero => intro i Z; rfl
  | succ k ih => intro i Z; simp only [ref11_Unwrap.l2, ref11_Wrap.l2, ih]
theorem rSet (K : Nat) (hK : 8 < K) {W : List (List Int)} {n i : Nat} (hg : Good n W) (hi : i < n) (hn : n < 1000) {y : List Int} (hy : y.length = 16) : ref11_Wrap.l2 K K (i : Int) y 0 W.flatten = some (W.set i (y.drop 8)).flatten := by
  have hf := hg.flat
  have h := r_l2 K hy (R := W.flatten) (i := i) (by omega) (by omega) 8 0 K (by decide) hK
  rw [List.take_zero, List.append_nil, Nat.add_zero, List.take_append_drop] at h
  rw [flat_set i _ (fun w hw => (hg.each w hw).1) (by rw [hg.len]; exact hi)]
  exact h
theorem rSub {W : List (List Int)} {n i : Nat} (hg : Good n W) (hi : i < n) : subL W.flatten ((8 * i : Nat) : Int) ((8 * (i + 1) : Nat) : Int) = W.getD i [] := by
  rw [sub8, flat_get i (fun w hw => (hg.each w hw).1) (by rw [hg.len]; exact hi), List.getD_eq_getElem?_getD, List.getElem?_eq_getElem (by rw [hg.len]; exact hi)]
  rfl
theorem qmod {n j i : Nat} (hi : i < n) : (n * j + i) % n = i := by rw [Nat.mul_add_mod, Nat.mod_eq_of_lt hi]
theorem nji {n j i : Nat} (h : n * j ≤ 500) (hi : i < 1000) : iadd .i64 (iadd .i64 (imul .i64 (n : Int) (j : Int)) (i : Int)) 1 = ((n * j + i + 1 : Nat) : Int) := by
  have a0 : imul .i64 (n : Int) (j : Int) = ((n * j : Nat) : Int) := by
    rw [mul64 (by rw [← Int.natCast_mul]; omega) (by rw [← Int.natCast_mul]; omega), Int.natCast_mul]
  have a1 : iadd .i64 ((n * j : Nat) : Int) (i : Int) = ((n * j + i : Nat) : Int) := by rw [add64 (by omega) (by omega)]; omega
  rw [a0, a1, add64 (by omega) (by omega)]
  omega
theorem rw_l1 (hc : Ci kek E D) {n j : Nat} (hn : 0 < n) (hn2 : n ≤ 100) (hj : j < 6) : ∀ (c i k : Nat) (s : WSt), i + c = n → c < k → OKs n s →
    ref11_Wrap.l1 1000 k kek (n : Int) (j : Int) (s.1 : Int) (i : Int) s.2.flatten = some (((itr (stp E n) c (n * j + i) s).1 : Int), (itr (stp E n) c (n * j + i) s).2.flatten) := by
  intro c
  induction c with
  | zero =>
    intro i k s hi hk hs
    obtain ⟨k, rfl⟩ : ∃ q, k = q + 1 := ⟨k - 1, by omega⟩
    have c : ¬ (i : Int) < (n : Int) := by omega
    simp only [ref11_Wrap.l1, c, if_false]
    rfl
  | succ c ih =>
    intro i k s hi hk hs
    obtain ⟨k, rfl⟩ : ∃ q, k = q + 1 := ⟨k - 1, by omega⟩
    have hin : i < n := by omega
    have hnj : n * j ≤ 500 := Nat.le_trans (Nat.mul_le_mul hn2 (show j ≤ 5 by omega)) (by decide)
    have hf := hs.2.flat
    obtain ⟨h1, h2⟩ := inp8 hs.2 (a := s.1) hin
    obtain ⟨_, e1, l1, b1⟩ := hc.there _ h2 h1
    obtain ⟨g1, g2⟩ := getD8 hs.2 hin
    have c0 : (i : Int) < (n : Int) := by omega
    have p1 : imul .i64 8 (i : Int) = ((8 * i : Nat) : Int) := by rw [mul64 (by omega) (by omega)]; omega
    have c1 : (0 : Int) ≤ ((8 * i : Nat) : Int) := by omega
    have c2 : ((8 * i : Nat) : Int) ≤ ((8 * (i + 1) : Nat) : Int) := by omega
    have c3 : ((8 * (i + 1) : Nat) : Int) ≤ ((s.2.flatten.length : Nat) : Int) := by omega
    have j1 := (aJoin2 (a := be8 s.1) (b := s.2.getD i []) (by rw [be8_len, g1]; decide)).2
    have c4 : (0 : Int) ≤ 0 := by decide
    have c5 : (0 : Int) ≤ 8 := by decide
    have c6 : (8 : Int) ≤ (((E (be8 s.1 ++ s.2.getD i [])).length : Nat) : Int) := by rw [l1]; decide
    have n1 := (aNum 1000 (inl_take b1 8) (by rw [List.length_take, l1]; decide) (by rw [List.length_take, l1]; decide)).2
    have p2 : iadd .i64 (iadd .i64 (imul .i64 (n : Int) (j : Int)) (i : Int)) 1 = ((n * j + i + 1 : Nat) : Int) := by
      exact nji hnj (by omega)
    have x1 := xorq (num_lt ((E (be8 s.1 ++ s.2.getD i [])).take 8)) (q := n * j + i + 1) (by omega)
    have hst : stp E n (n * j + i) s = (num ((E (be8 s.1 ++ s.2.getD i [])).take 8) ^^^ (n * j + i + 1), s.2.set i ((E (be8 s.1 ++ s.2.getD i [])).drop 8)) := by
      unfold stp
      rw [qmod hin]
    have hok := (stp_ok hc hn (q := n * j + i) (by omega) hs).1
    simp only [ref11_Wrap.l1, c0, p1, add8 (show i < 100000 by omega), c1, c2, c3, rBe hs.1, rSub hs.2 hin, j1, e1, c4, c5, c6, sub08, n1, p2, x1, rSet 1000 (by decide) hs.2 hin (by omega) l1, if_true, Option.bind_some, inc (i := i) (by omega)]
    have h3 := ih (i + 1) k (stp E n (n * j + i) s) (by omega) (by omega) hok
    rw [show n * j + (i + 1) = n * j + i + 1 by omega] at h3
    rw [hst] at h3
    show _ = some (((itr (stp E n) c (n * j + i + 1) (stp E n (n * j + i) s)).1 : Int), (itr (stp E n) c (n * j + i + 1) (stp E n (n * j + i) s)).2.flatten)
    rw [hst]
    exact h3
theorem rw_l0 (hc : Ci kek E D) {n : Nat} (hn : 0 < n) (hn2 : n ≤ 100) : ∀ (c j k : Nat) (s : WSt), j + c = 6 → c < k → OKs n s →
    ref11_Wrap.l0 1000 k kek (n : Int) (s.1 : Int) (j : Int) s.2.flatten = some (((itr (stp E n) (n * c) (n * j) s).1 : Int), (itr (stp E n) (n * c) (n * j) s).2.flatten) := by
  intro c
  induction c with
  | zero =>
    intro j k s hj hk hs
    obtain ⟨k, rfl⟩ : ∃ q, k = q + 1 := ⟨k - 1, by omega⟩
    have c : ¬ (j : Int) < 6 := by omega
    simp only [ref11_Wrap.l0, c, if_false]
    rfl
  | succ c ih =>
    intro j k s hj hk hs
    obtain ⟨k, rfl⟩ : ∃ q, k = q + 1 := ⟨k - 1, by omega⟩
    have c0 : (j : Int) < 6 := by omega
    have h1 := rw_l1 hc hn hn2 (show j < 6 by omega) n 0 1000 s (by omega) (by omega) hs
    rw [Nat.add_zero] at h1
    have h1' : ref11_Wrap.l1 1000 1000 kek (n : Int) (j : Int) (s.1 : Int) 0 s.2.flatten = _ := h1
    have hnj : n * j ≤ 500 := Nat.le_trans (Nat.mul_le_mul hn2 (show j ≤ 5 by omega)) (by decide)
    have hok := itr_ok hc hn n (n * j) s (by omega) hs
    simp only [ref11_Wrap.l0, c0, h1', if_true, Option.bind_some, inc (i := j) (by omega)]
    rw [ih (j + 1) k _ (by omega) (by omega) hok, show n * (c + 1) = n + n * c by rw [Nat.mul_succ]; omega, itr_add, Nat.mul_succ]
theorem ru_l1 (hc : Ci kek E D) {n j : Nat} (hn : 0 < n) (hn2 : n ≤ 100) (hj : j < 6) : ∀ (c k : Nat) (s : WSt), c ≤ n → c < k → OKs n s →
    ∃ s' : WSt, ref11_Unwrap.l1 1000 k kek (n : Int) (j : Int) (s.1 : Int) ((c : Int) - 1) s.2.flatten = some ((s'.1 : Int), s'.2.flatten) ∧ OKs n s' ∧ itd (ust D n) (n * j + c) s = itd (ust D n) (n * j) s' := by
  intro c
  induction c with
  | zero =>
    intro k s hi hk hs
    obtain ⟨k, rfl⟩ : ∃ q, k = q + 1 := ⟨k - 1, by omega⟩
    have c : ¬ (((0 : Nat) : Int) - 1) ≥ 0 := by decide
    exact ⟨s, by simp only [ref11_Unwrap.l1, c, if_false], hs, rfl⟩
  | succ i ih =>
    intro k s hi hk hs
    obtain ⟨k, rfl⟩ : ∃ q, k = q + 1 := ⟨k - 1, by omega⟩
    have hin : i < n := by omega
    have hnj : n * j ≤ 500 := Nat.le_trans (Nat.mul_le_mul hn2 (show j ≤ 5 by omega)) (by decide)
    have hf := hs.2.flat
    obtain ⟨h1, h2⟩ := inp8 hs.2 (a := s.1 ^^^ (n * j + i + 1)) hin
    obtain ⟨_, e1, l1, b1⟩ := hc.back _ h2 h1
    obtain ⟨g1, g2⟩ := getD8 hs.2 hin
    have e : (((i + 1 : Nat) : Int) - 1) = (i : Int) := by omega
    have c0 : (i : Int) ≥ 0 := by omega
    have p1 : imul .i64 8 (i : Int) = ((8 * i : Nat) : Int) := by rw [mul64 (by omega) (by omega)]; omega
    have c1 : (0 : Int) ≤ ((8 * i : Nat) : Int) := by omega
    have c2 : ((8 * i : Nat) : Int) ≤ ((8 * (i + 1) : Nat) : Int) := by omega
    have c3 : ((8 * (i + 1) : Nat) : Int) ≤ ((s.2.flatten.length : Nat) : Int) := by omega
    have p2 : iadd .i64 (iadd .i64 (imul .i64 (n : Int) (j : Int)) (i : Int)) 1 = ((n * j + i + 1 : Nat) : Int) := by
      exact nji hnj (by omega)
    have x1 := xorq hs.1 (q := n * j + i + 1) (by omega)
    have j1 := (aJoin2 (a := be8 (s.1 ^^^ (n * j + i + 1))) (b := s.2.getD i []) (by rw [be8_len, g1]; decide)).2
    have c4 : (0 : Int) ≤ 0 := by decide
    have c5 : (0 : Int) ≤ 8 := by decide
    have c6 : (8 : Int) ≤ (((D (be8 (s.1 ^^^ (n * j + i + 1)) ++ s.2.getD i [])).length : Nat) : Int) := by rw [l1]; decide
    have n1 := (aNum 1000 (inl_take b1 8) (by rw [List.length_take, l1]; decide) (by rw [List.length_take, l1]; decide)).2
    have hst : ust D n (n * j + i) s = (num ((D (be8 (s.1 ^^^ (n * j + i + 1)) ++ s.2.getD i [])).take 8), s.2.set i ((D (be8 (s.1 ^^^ (n * j + i + 1)) ++ s.2.getD i [])).drop 8)) := by
      unfold ust
      rw [qmod hin]
    have hok := (stp_ok hc hn (q := n * j + i) (by omega) hs).2
    have p3 : isub .i64 (i : Int) 1 = (i : Int) - 1 := by rw [sub64 (by omega) (by omega)]
    obtain ⟨s', f1, f2, f3⟩ := ih k (ust D n (n * j + i) s) (by omega) (by omega) hok
    refine ⟨s', ?_, f2, f3⟩
    rw [e]
    rw [hst] at f1
    simp only [ref11_Unwrap.l1, c0, p1, add8 (show i < 100000 by omega), c1, c2, c3, p2, x1, rBe (xor64 hs.1 (show n * j + i + 1 < 2 ^ 64 by omega)), rSub hs.2 hin, j1, e1, c4, c5, c6, sub08, n1, r_l2u, rSet 1000 (by decide) hs.2 hin (by omega) l1, p3, if_true, Option.bind_some]
    exact f1
theorem ru_l0 (hc : Ci kek E D) {n : Nat} (hn : 0 < n) (hn2 : n ≤ 100) : ∀ (d k : Nat) (s : WSt), d ≤ 6 → d < k → OKs n s →
    ref11_Unwrap.l0 1000 k kek (n : Int) (s.1 : Int) ((d : Int) - 1) s.2.flatten = some (((itd (ust D n) (n * d) s).1 : Int), (itd (ust D n) (n * d) s).2.flatten) := by
  intro d
  induction d with
  | zero =>
    intro k s hj hk hs
    obtain ⟨k, rfl⟩ : ∃ q, k = q + 1 := ⟨k - 1, by omega⟩
    have c : ¬ (((0 : Nat) : Int) - 1) ≥ 0 := by decide
    simp only [ref11_Unwrap.l0, c, if_false]
    rfl
  | succ j ih =>
    intro k s hj hk hs
    obtain ⟨k, rfl⟩ : ∃ q, k = q + 1 := ⟨k - 1, by omega⟩
    have e : (((j + 1 : Nat) : Int) - 1) = (j : Int) := by omega
    have c0 : (j : Int) ≥ 0 := by omega
    have p1 : isub .i64 (n : Int) 1 = (n : Int) - 1 := by rw [sub64 (by omega) (by omega)]
    have p3 : isub .i64 (j : Int) 1 = (j : Int) - 1 := by rw [sub64 (by omega) (by omega)]
    obtain ⟨s', f1, f2, f3⟩ := ru_l1 hc hn hn2 (show j < 6 by omega) n 1000 s (Nat.le_refl _) (by omega) hs
    rw [e, Nat.mul_succ, f3]
    simp only [ref11_Unwrap.l0, c0, p1, f1, p3, if_true, Option.bind_some]
    exact ih k s' (by omega) (by omega) f2
end
end Go.Proofs.Ytmpagpbnpgcecaa
