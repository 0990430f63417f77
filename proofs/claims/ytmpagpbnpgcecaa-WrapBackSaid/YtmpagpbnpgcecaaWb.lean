/- Layer 11 (wrap), plain laws: a key in parts of eight bytes, steps there and back, in the program and in the document. -/
import Derived.Test.YtmpagpbnpgcecaaWa
set_option linter.unusedSimpArgs false
set_option linter.unusedVariables false
set_option maxRecDepth 100000
namespace Go.Proofs.Ytmpagpbnpgcecaa
open Go Go.Mx
theorem inl_take {k : IntKind} {l : List Int} (h : InL k l) (m : Nat) : InL k (l.take m) := fun x hx => h x (List.mem_of_mem_take hx)
theorem inl_drop {k : IntKind} {l : List Int} (h : InL k l) (m : Nat) : InL k (l.drop m) := fun x hx => h x (List.mem_of_mem_drop hx)
theorem inl_app {k : IntKind} {a b : List Int} (ha : InL k a) (hb : InL k b) : InL k (a ++ b) := fun x hx => (List.mem_append.1 hx).elim (ha x) (hb x)
/-! ### parts of eight -/
def chs : Nat → List Int → List (List Int)
  | 0, _ => []
  | n + 1, l => l.take 8 :: chs n (l.drop 8)
theorem chs_len : ∀ (n : Nat) (l : List Int), (chs n l).length = n
  | 0, _ => rfl
  | n + 1, l => by simp [chs, chs_len n]
theorem chs_flat : ∀ (n : Nat) (l : List Int), l.length = 8 * n → (chs n l).flatten = l
  | 0, l, h => by rw [List.eq_nil_of_length_eq_zero (by omega : l.length = 0)]; rfl
  | n + 1, l, h => by
    show l.take 8 ++ (chs n (l.drop 8)).flatten = l
    rw [chs_flat n _ (by rw [List.length_drop]; omega), List.take_append_drop]
theorem chs_each : ∀ (n : Nat) (l : List Int), l.length = 8 * n → InL .u8 l → ∀ w ∈ chs n l, w.length = 8 ∧ InL .u8 w
  | 0, _, _, _, w, hw => by cases hw
  | n + 1, l, h, hb, w, hw => by
    rcases List.mem_cons.1 hw with rfl | hw
    · exact ⟨by rw [List.length_take]; omega, inl_take hb 8⟩
    · exact chs_each n _ (by rw [List.length_drop]; omega) (inl_drop hb 8) w hw
structure Good (n : Nat) (W : List (List Int)) : Prop where
  len : W.length = n
  each : ∀ w ∈ W, w.length = 8 ∧ InL .u8 w
theorem Good.of {n : Nat} {l : List Int} (h : l.length = 8 * n) (hb : InL .u8 l) : Good n (chs n l) := ⟨chs_len n l, chs_each n l h hb⟩
theorem flat8_len : ∀ {W : List (List Int)}, (∀ w ∈ W, w.length = 8) → W.flatten.length = 8 * W.length
  | [], _ => rfl
  | w :: W, h => by
    rw [List.flatten_cons, List.length_append, flat8_len (fun x hx => h x (List.mem_cons_of_mem _ hx)), h w List.mem_cons_self, List.length_cons]
    omega
theorem Good.flat {n : Nat} {W : List (List Int)} (h : Good n W) : W.flatten.length = 8 * n := by rw [flat8_len (fun w hw => (h.each w hw).1), h.len]
theorem Good.flat_in {n : Nat} {W : List (List Int)} (h : Good n W) : InL .u8 W.flatten := fun x hx => by
  obtain ⟨w, hw, hx⟩ := List.mem_flatten.1 hx
  exact (h.each w hw).2 x hx
theorem Good.set {n : Nat} {W : List (List Int)} (h : Good n W) (i : Nat) {v : List Int} (hl : v.length = 8) (hv : InL .u8 v) : Good n (W.set i v) := ⟨by rw [List.length_set, h.len], fun w hw => by
  rcases List.mem_or_eq_of_mem_set hw with hw | rfl
  · exact h.each w hw
  · exact ⟨hl, hv⟩⟩
theorem flat_get : ∀ {W : List (List Int)} (i : Nat), (∀ w ∈ W, w.length = 8) → ∀ (hi : i < W.length), (W.flatten.drop (8 * i)).take 8 = W[i]
  | [], _, _, hi => by cases hi
  | w :: W, 0, h, _ => by
    show ((w ++ W.flatten).drop 0).take 8 = w
    rw [List.drop_zero, List.take_left' (h w List.mem_cons_self)]
  | w :: W, i + 1, h, hi => by
    have hw := h w List.mem_cons_self
    have hd : (w :: W).flatten.drop (8 * (i + 1)) = W.flatten.drop (8 * i) := by
      rw [List.flatten_cons, show 8 * (i + 1) = w.length + 8 * i by omega, List.drop_length_add_append]
    rw [hd]
    exact flat_get i (fun x hx => h x (List.mem_cons_of_mem _ hx)) (by simpa using hi)
theorem flat_set : ∀ {W : List (List Int)} (i : Nat) (v : List Int), (∀ w ∈ W, w.length = 8) → i < W.length → (W.set i v).flatten = W.flatten.take (8 * i) ++ v ++ W.flatten.drop (8 * i + 8)
  | [], _, _, _, hi => by cases hi
  | w :: W, 0, v, h, _ => by
    have hw := h w List.mem_cons_self
    show v ++ W.flatten = (w ++ W.flatten).take 0 ++ v ++ (w ++ W.flatten).drop 8
    rw [List.drop_left' hw]
    rfl
  | w :: W, i + 1, v, h, hi => by
    have hw := h w List.mem_cons_self
    show w ++ (W.set i v).flatten = (w ++ W.flatten).take (8 * (i + 1)) ++ v ++ (w ++ W.flatten).drop (8 * (i + 1) + 8)
    rw [flat_set i v (fun x hx => h x (List.mem_cons_of_mem _ hx)) (by simpa using hi), show 8 * (i + 1) = w.length + 8 * i by omega, show w.length + 8 * i + 8 = w.length + (8 * i + 8) by omega, List.take_length_add_append, List.drop_length_add_append]
    simp only [List.append_assoc]
theorem imin8 {n : Nat} (h : 8 ≤ n) : imin 8 ((n : Nat) : Int) = 8 := by
  unfold imin
  rw [if_neg (by omega)]
theorem add8 {p : Nat} (h : p < 100000) : iadd .i64 ((8 * p : Nat) : Int) 8 = ((8 * (p + 1) : Nat) : Int) := by
  rw [add64 (by omega) (by omega)]
  omega
theorem sub8 (l : List Int) (p : Nat) : subL l ((8 * p : Nat) : Int) ((8 * (p + 1) : Nat) : Int) = (l.drop (8 * p)).take 8 := by
  unfold subL
  rw [Int.toNat_natCast, Int.toNat_natCast, List.drop_take, show 8 * (p + 1) - 8 * p = 8 by omega]
theorem w_l0 (K : Nat) {r : List Int} {n : Nat} (hr : r.length = 8 * n) (hn : n < 10000) : ∀ (m p k : Nat) (Z : List (List Int)), p + m = n → m < k → Z.length = p → wrap_Wrap.l0 K k r ((8 * p : Nat) : Int) Z = some (Z ++ chs m (r.drop (8 * p))) := by
  intro m
  induction m with
  | zero =>
    intro p k Z hp hk hZ
    obtain ⟨k, rfl⟩ : ∃ q, k = q + 1 := ⟨k - 1, by omega⟩
    have c : ¬ ((8 * p : Nat) : Int) < ((r.length : Nat) : Int) := by omega
    simp only [wrap_Wrap.l0, c, if_false, chs, List.append_nil]
  | succ m ih =>
    intro p k Z hp hk hZ
    obtain ⟨k, rfl⟩ : ∃ q, k = q + 1 := ⟨k - 1, by omega⟩
    have c0 : ((8 * p : Nat) : Int) < ((r.length : Nat) : Int) := by omega
    have c1 : (0 : Int) ≤ ((8 * p : Nat) : Int) := by omega
    have c2 : ((8 * p : Nat) : Int) ≤ ((r.length : Nat) : Int) := by omega
    have c3 : ((r.length : Nat) : Int) ≤ ((r.length : Nat) : Int) := Int.le_refl _
    have s1 : (subL r ((8 * p : Nat) : Int) ((r.length : Nat) : Int)).length = r.length - 8 * p := subL_lenN (by omega) (Nat.le_refl _)
    have m1 : imin 8 ((r.length - 8 * p : Nat) : Int) = 8 := imin8 (by omega)
    have c4 : ((8 * p : Nat) : Int) ≤ ((8 * (p + 1) : Nat) : Int) := by omega
    have c5 : ((8 * (p + 1) : Nat) : Int) ≤ ((8 * (p + 1) : Nat) : Int) := Int.le_refl _
    have c6 : ((8 * (p + 1) : Nat) : Int) ≤ ((r.length : Nat) : Int) := by omega
    have c7 : Z.length + 1 ≤ 5864062014805 := by omega
    simp only [wrap_Wrap.l0, c0, c1, c2, c3, s1, m1, add8 (show p < 100000 by omega), c4, c5, c6, c7, sub8, if_true, Option.bind_some]
    rw [ih (p + 1) k _ (by omega) (by omega) (by simp [hZ])]
    show some ((Z ++ [(r.drop (8 * p)).take 8]) ++ chs m (r.drop (8 * (p + 1)))) = some (Z ++ ((r.drop (8 * p)).take 8 :: chs m ((r.drop (8 * p)).drop 8)))
    rw [List.drop_drop, show 8 * p + 8 = 8 * (p + 1) by omega, List.append_assoc]
    rfl
theorem u_l0 (K : Nat) (r : List Int) : ∀ (k : Nat) (i : Int) (Z : List (List Int)), wrap_Unwrap.l0 K k r i Z = wrap_Wrap.l0 K k r i Z := by
  intro k
  induction k with
  | zero => intro i Z; rfl
  | succ k ih => intro i Z; simp only [wrap_Unwrap.l0, wrap_Wrap.l0, ih]
theorem wChunks (K : Nat) {r : List Int} {n : Nat} (hr : r.length = 8 * n) (hn : n < 10000) (hK : n < K) : wrap_Wrap.l0 K K r 0 [] = some (chs n r) ∧ wrap_Unwrap.l0 K K r 0 [] = some (chs n r) := by
  have h := w_l0 K hr hn n 0 K [] (by omega) hK rfl
  have h' : wrap_Wrap.l0 K K r 0 [] = some (chs n r) := h
  exact ⟨h', (u_l0 K r K 0 []).trans h'⟩
/-! ### a step -/
structure Ci (kek : List Int) (E D : List Int → List Int) : Prop where
  there : ∀ b, InL .u8 b → b.length = 16 → aes_Block.f 1000 kek b = some (E b, 0) ∧ ref10_Block.f 1000 kek b = some (E b, 0) ∧ (E b).length = 16 ∧ InL .u8 (E b)
  back : ∀ b, InL .u8 b → b.length = 16 → aes_Back.f 1000 kek b = some (D b, 0) ∧ ref10_Back.f 1000 kek b = some (D b, 0) ∧ (D b).length = 16 ∧ InL .u8 (D b)
abbrev WSt := Nat × List (List Int)
def OKs (n : Nat) (s : WSt) : Prop := s.1 < 2 ^ 64 ∧ Good n s.2
def stp (E : List Int → List Int) (n q : Nat) (s : WSt) : WSt := (num ((E (be8 s.1 ++ s.2.getD (q % n) [])).take 8) ^^^ (q + 1), s.2.set (q % n) ((E (be8 s.1 ++ s.2.getD (q % n) [])).drop 8))
def ust (D : List Int → List Int) (n q : Nat) (s : WSt) : WSt := (num ((D (be8 (s.1 ^^^ (q + 1)) ++ s.2.getD (q % n) [])).take 8), s.2.set (q % n) ((D (be8 (s.1 ^^^ (q + 1)) ++ s.2.getD (q % n) [])).drop 8))
theorem getD8 {n : Nat} {W : List (List Int)} (h : Good n W) {i : Nat} (hi : i < n) : (W.getD i []).length = 8 ∧ InL .u8 (W.getD i []) := by
  rw [List.getD_eq_getElem?_getD, List.getElem?_eq_getElem (by rw [h.len]; exact hi)]
  exact h.each _ (List.getElem_mem _)
theorem inp8 {n : Nat} {W : List (List Int)} (h : Good n W) {i a : Nat} (hi : i < n) : (be8 a ++ W.getD i []).length = 16 ∧ InL .u8 (be8 a ++ W.getD i []) := by
  obtain ⟨h1, h2⟩ := getD8 h hi
  exact ⟨by rw [List.length_append, h1, be8_len], inl_app (be8_in a) h2⟩
theorem xor64 {a b : Nat} (ha : a < 2 ^ 64) (hb : b < 2 ^ 64) : a ^^^ b < 2 ^ 64 := Nat.xor_lt_two_pow ha hb
theorem stp_ok {kek : List Int} {E D : List Int → List Int} (hc : Ci kek E D) {n q : Nat} {s : WSt} (hn : 0 < n) (hq : q < 1000) (hs : OKs n s) : OKs n (stp E n q s) ∧ OKs n (ust D n q s) := by
  obtain ⟨h1, h2⟩ := inp8 hs.2 (i := q % n) (a := s.1) (Nat.mod_lt _ hn)
  obtain ⟨h3, h4⟩ := inp8 hs.2 (i := q % n) (a := s.1 ^^^ (q + 1)) (Nat.mod_lt _ hn)
  obtain ⟨_, _, l1, b1⟩ := hc.there _ h2 h1
  obtain ⟨_, _, l2, b2⟩ := hc.back _ h4 h3
  exact ⟨⟨xor64 (num_lt _) (by omega), hs.2.set _ (by rw [List.length_drop, l1]) (inl_drop b1 8)⟩, ⟨num_lt _, hs.2.set _ (by rw [List.length_drop, l2]) (inl_drop b2 8)⟩⟩
theorem cvq {q : Nat} (h : q < 2 ^ 64) : iconv .u64 (q : Int) = (q : Int) := by
  unfold iconv
  rw [wu64]
  omega
theorem xorq {a q : Nat} (ha : a < 2 ^ 64) (hq : q < 2 ^ 64) : ixor .u64 (a : Int) (iconv .u64 (q : Int)) = ((a ^^^ q : Nat) : Int) := by
  rw [cvq hq]
  exact ixor_nat (k := .u64) ha hq
theorem sub08 {y : List Int} : subL y 0 8 = y.take 8 := by
  show (y.take 8).drop 0 = y.take 8
  rfl
theorem sub8e {y : List Int} (h : y.length = 16) : subL y 8 ((16 : Nat) : Int) = y.drop 8 := by
  show (y.take 16).drop 8 = y.drop 8
  rw [List.take_of_length_le (by omega)]
theorem rdLLg {W : List (List Int)} (i : Nat) : rdLL W (i : Int) = W.getD i [] := by
  unfold rdLL
  rw [Int.toNat_natCast]
theorem wrLL {W : List (List Int)} (i : Nat) (v : List Int) : wrL W (i : Int) v = W.set i v := by
  unfold wrL
  rw [Int.toNat_natCast]
theorem aThereS {kek : List Int} {E D : List Int → List Int} (hc : Ci kek E D) {n q : Nat} {s : WSt} (hn : 0 < n) (hn2 : n < 1000) (hq : q < 1000) (hs : OKs n s) :
    wrap_shelf_there_s.f 1000 (s.1 : Int) s.2 kek ((q + 1 : Nat) : Int) = some (((stp E n q s).1 : Int), (stp E n q s).2) := by
  obtain ⟨h1, h2⟩ := inp8 hs.2 (i := q % n) (a := s.1) (Nat.mod_lt _ hn)
  obtain ⟨e1, _, l1, b1⟩ := hc.there _ h2 h1
  obtain ⟨g1, g2⟩ := getD8 hs.2 (i := q % n) (Nat.mod_lt _ hn)
  have hl := hs.2.len
  have c0 : ¬ ((s.2.length : Nat) : Int) = 0 := by omega
  have p1 : isub .i64 ((q + 1 : Nat) : Int) 1 = (q : Int) := by rw [sub64 (by omega) (by omega)]; omega
  have p2 : irem .i64 (q : Int) ((s.2.length : Nat) : Int) = ((q % n : Nat) : Int) := by rw [hl]; exact irem_nat (by omega)
  have c1 : (0 : Int) ≤ ((q % n : Nat) : Int) := by omega
  have c2 : ((q % n : Nat) : Int) < ((s.2.length : Nat) : Int) := by have := Nat.mod_lt q hn; omega
  have j1 := (aJoin2 (a := be8 s.1) (b := s.2.getD (q % n) []) (by rw [be8_len, g1]; decide)).1
  have c3 : (0 : Int) ≤ 0 := by decide
  have c4 : (0 : Int) ≤ 8 := by decide
  have c5 : (8 : Int) ≤ (((E (be8 s.1 ++ s.2.getD (q % n) [])).length : Nat) : Int) := by rw [l1]; decide
  have c6 : (((E (be8 s.1 ++ s.2.getD (q % n) [])).length : Nat) : Int) ≤ (((E (be8 s.1 ++ s.2.getD (q % n) [])).length : Nat) : Int) := Int.le_refl _
  have n1 := (aNum 1000 (inl_take b1 8) (by rw [List.length_take, l1]; decide) (by rw [List.length_take, l1]; decide)).1
  have x1 := xorq (num_lt ((E (be8 s.1 ++ s.2.getD (q % n) [])).take 8)) (q := q + 1) (by omega)
  unfold wrap_shelf_there_s.f
  simp only [c0, p1, p2, c1, c2, aBe, rdLLg, j1, e1, c3, c4, c5, c6, sub08, n1, x1, wrLL, not_false_eq_true, if_true, Option.bind_some]
  rw [l1, sub8e l1]
  rfl
theorem aUndoS {kek : List Int} {E D : List Int → List Int} (hc : Ci kek E D) {n q : Nat} {s : WSt} (hn : 0 < n) (hn2 : n < 1000) (hq : q < 1000) (hs : OKs n s) :
    wrap_shelf_undo_s.f 1000 (s.1 : Int) s.2 kek ((q + 1 : Nat) : Int) = some (((ust D n q s).1 : Int), (ust D n q s).2) := by
  obtain ⟨h1, h2⟩ := inp8 hs.2 (i := q % n) (a := s.1 ^^^ (q + 1)) (Nat.mod_lt _ hn)
  obtain ⟨e1, _, l1, b1⟩ := hc.back _ h2 h1
  obtain ⟨g1, g2⟩ := getD8 hs.2 (i := q % n) (Nat.mod_lt _ hn)
  have hl := hs.2.len
  have c0 : ¬ ((s.2.length : Nat) : Int) = 0 := by omega
  have p1 : isub .i64 ((q + 1 : Nat) : Int) 1 = (q : Int) := by rw [sub64 (by omega) (by omega)]; omega
  have p2 : irem .i64 (q : Int) ((s.2.length : Nat) : Int) = ((q % n : Nat) : Int) := by rw [hl]; exact irem_nat (by omega)
  have c1 : (0 : Int) ≤ ((q % n : Nat) : Int) := by omega
  have c2 : ((q % n : Nat) : Int) < ((s.2.length : Nat) : Int) := by have := Nat.mod_lt q hn; omega
  have x1 := xorq hs.1 (q := q + 1) (by omega)
  have j1 := (aJoin2 (a := be8 (s.1 ^^^ (q + 1))) (b := s.2.getD (q % n) []) (by rw [be8_len, g1]; decide)).1
  have c3 : (0 : Int) ≤ 0 := by decide
  have c4 : (0 : Int) ≤ 8 := by decide
  have c5 : (8 : Int) ≤ (((D (be8 (s.1 ^^^ (q + 1)) ++ s.2.getD (q % n) [])).length : Nat) : Int) := by rw [l1]; decide
  have c6 : (((D (be8 (s.1 ^^^ (q + 1)) ++ s.2.getD (q % n) [])).length : Nat) : Int) ≤ (((D (be8 (s.1 ^^^ (q + 1)) ++ s.2.getD (q % n) [])).length : Nat) : Int) := Int.le_refl _
  have n1 := (aNum 1000 (inl_take b1 8) (by rw [List.length_take, l1]; decide) (by rw [List.length_take, l1]; decide)).1
  unfold wrap_shelf_undo_s.f
  simp only [c0, p1, p2, c1, c2, x1, aBe, rdLLg, j1, e1, c3, c4, c5, c6, sub08, n1, wrLL, not_false_eq_true, if_true, Option.bind_some]
  rw [l1, sub8e l1]
  rfl
end Go.Proofs.Ytmpagpbnpgcecaa
