/- Layer 23 (dsamp), plain laws: balls that a seed draws. -/
import Derived.Test.YtppohhnfojalbaaDoorVc
set_option linter.unusedSimpArgs false
set_option linter.unusedVariables false
set_option maxRecDepth 100000
namespace Go.Proofs.YtppohhnfojalbaaDoor
open Go Go.Mx
/-! ### the number that eight bytes are -/
theorem NB_snoc {l : List Int} (hl : Byt l) {i : Nat} (hi : i < l.length) : ∃ x : Nat, l[i] = (x : Int) ∧ x < 256 ∧ NB (l.take (i + 1)) = NB (l.take i) + x * 2 ^ (8 * i) ∧ NB (l.take i) < 2 ^ (8 * i) := by
  obtain ⟨h0, h1⟩ := hl _ (List.getElem_mem hi)
  refine ⟨l[i].toNat, by omega, by omega, ?_, ?_⟩
  · rw [List.take_succ_eq_append_getElem hi, NB_append, List.length_take, Nat.min_eq_left (by omega), two_mul8]
    show _ + 2 ^ (8 * i) * (l[i].toNat + 256 * 0) = _
    rw [Nat.mul_zero, Nat.add_zero, Nat.mul_comm]
  · have := NB_lt (l := l.take i) (fun x hx => hl x (List.mem_of_mem_take hx))
    rwa [List.length_take, Nat.min_eq_left (by omega), two_mul8] at this
theorem kNum_l0 {l : List Int} (hl : Byt l) (h8 : l.length = 8) : ∀ (m i k : Nat), i + m = 8 → m < k → bits_NumLe.l0 60000 k l ((NB (l.take i) : Nat) : Int) (i : Int) = some ((NB l : Nat) : Int) := by
  intro m
  induction m with
  | zero =>
    intro i k hi hk
    obtain ⟨k, rfl⟩ : ∃ q, k = q + 1 := ⟨k - 1, by omega⟩
    have c : ¬ (i : Int) < imin ((l.length : Nat) : Int) 8 := by rw [h8]; show ¬ (i : Int) < 8; omega
    simp only [bits_NumLe.l0, c, if_false]
    rw [List.take_of_length_le (by omega)]
  | succ m ih =>
    intro i k hi hk
    obtain ⟨k, rfl⟩ : ∃ q, k = q + 1 := ⟨k - 1, by omega⟩
    have c : (i : Int) < imin ((l.length : Nat) : Int) 8 := by rw [h8]; show (i : Int) < 8; omega
    have hil : i < l.length := by omega
    obtain ⟨x, hx, hx2, e, hn⟩ := NB_snoc hl hil
    have c0 : (0 : Int) ≤ (i : Int) := by omega
    have c1 : (i : Int) < ((l.length : Nat) : Int) := by omega
    have em : imul .i64 8 (i : Int) = ((8 * i : Nat) : Int) := by unfold imul; rw [id64 (by omega) (by omega)]; omega
    have c2 : (0 : Int) ≤ ((8 * i : Nat) : Int) := by omega
    have cv : iconv .u64 (x : Int) = (x : Int) := by unfold iconv; rw [wu64]; omega
    have hp : 2 ^ (8 * i) ≤ 2 ^ 56 := Nat.pow_le_pow_right (by decide) (by omega)
    have hs : x * 2 ^ (8 * i) < 2 ^ 64 := Nat.lt_of_le_of_lt (Nat.mul_le_mul (show x ≤ 255 by omega) hp) (by decide)
    have es : ishl .u64 (x : Int) ((8 * i : Nat) : Int) = ((x * 2 ^ (8 * i) : Nat) : Int) := ishl_nat (k := .u64) (show 8 * i ≤ 64 by omega) hs
    have eo : ior .u64 ((NB (l.take i) : Nat) : Int) ((x * 2 ^ (8 * i) : Nat) : Int) = ((NB (l.take (i + 1)) : Nat) : Int) := by
      rw [ior_nat (k := .u64) (show _ < 2 ^ 64 by omega) hs, or_parts hn, e]
    simp only [bits_NumLe.l0, c, c0, c1, em, c2, rdL_get hil, hx, cv, es, eo, ginc (i := i) (by omega), if_true, Option.bind_some]
    exact ih (i + 1) k (by omega) (by omega)
theorem kNum {l : List Int} (hl : Byt l) (h8 : l.length = 8) : bits_NumLe.f 60000 l = some ((NB l : Nat) : Int) := by
  have h := kNum_l0 hl h8 8 0 60000 (by omega) (by omega)
  have h' : bits_NumLe.l0 60000 60000 l 0 0 = _ := h
  unfold bits_NumLe.f
  rw [h']
  rfl
/-! ### balls -/
def swp (a : Arr 256) (i x s : Int) : Arr 256 := if s % 2 = 1 then wr (wr (wr a i (rd a x)) x 1) x 8380416 else wr (wr a i (rd a x)) x 1
def ballF : List Int → Int → Arr 256 → Int → Option (Arr 256)
  | [], _, _, _ => none
  | x :: l, i, a, s => if x > i then ballF l i a s else if i + 1 = 256 then some (swp a i x s) else ballF l (i + 1) (swp a i x s) (s / 2)
abbrev SB := Int × Arr 256 × Int × Int × Arr 256
def bSt (s : SB) (x : Int) : SB ⊕ (Arr 256 × Int) :=
  if x > s.1 then .inl s else if s.1 + 1 = 256 then .inr (swp s.2.1 s.1 x s.2.2.1, 0) else .inl (s.1 + 1, swp s.2.1 s.1 x s.2.2.1, s.2.2.1 / 2, s.2.2.2.1, s.2.2.2.2)
def bP (s : SB) : Prop := (0 ≤ s.1 ∧ s.1 < 256) ∧ 0 ≤ s.2.2.1 ∧ s.2.2.1 < 18446744073709551616
theorem bP_st (s : SB) (x : Int) (s' : SB) (h : bP s) (hx : 0 ≤ x ∧ x ≤ 255) (e : bSt s x = .inl s') : bP s' := by
  obtain ⟨i, a, g, z, w⟩ := s
  obtain ⟨⟨h1, h2⟩, h3, h4⟩ := h
  simp only at h1 h2 h3 h4
  unfold bSt at e
  simp only at e
  by_cases c1 : x > i
  · rw [if_pos c1] at e
    have e := Sum.inl.inj e
    subst e
    exact ⟨⟨h1, h2⟩, h3, h4⟩
  · rw [if_neg c1] at e
    by_cases c2 : i + 1 = 256
    · rw [if_pos c2] at e; cases e
    · rw [if_neg c2] at e
      have e := Sum.inl.inj e
      subst e
      exact ⟨⟨by show 0 ≤ i + 1; omega, by show i + 1 < 256; omega⟩, by show 0 ≤ g / 2; omega, by show g / 2 < _; omega⟩
theorem run_ball : ∀ (l : List Int) (i : Int) (a : Arr 256) (g z : Int) (w : Arr 256), (∃ s', run bSt (i, a, g, z, w) l = .inl s' ∧ ballF l i a g = none) ∨ ∃ r, run bSt (i, a, g, z, w) l = .inr (r, 0) ∧ ballF l i a g = some r
  | [], i, a, g, z, w => .inl ⟨_, rfl, rfl⟩
  | x :: l, i, a, g, z, w => by
    have hb : ballF (x :: l) i a g = if x > i then ballF l i a g else if i + 1 = 256 then some (swp a i x g) else ballF l (i + 1) (swp a i x g) (g / 2) := rfl
    have hs : bSt (i, a, g, z, w) x = if x > i then .inl (i, a, g, z, w) else if i + 1 = 256 then .inr (swp a i x g, 0) else .inl (i + 1, swp a i x g, g / 2, z, w) := rfl
    rw [run_cons, hs, hb]
    by_cases c1 : x > i
    · rw [if_pos c1, if_pos c1]
      exact run_ball l i a g z w
    · rw [if_neg c1, if_neg c1]
      by_cases c2 : i + 1 = 256
      · rw [if_pos c2, if_pos c2]
        exact .inr ⟨_, rfl, rfl⟩
      · rw [if_neg c2, if_neg c2]
        exact run_ball l (i + 1) _ _ z w
theorem sg1 {g : Int} (h0 : 0 ≤ g) (h1 : g < 18446744073709551616) : iand .u64 g 1 = g % 2 ∧ ishr .u64 g 1 = g / 2 := by
  obtain ⟨m, rfl⟩ : ∃ m : Nat, g = (m : Int) := ⟨g.toNat, by omega⟩
  have a := iand_nat (k := .u64) (x := m) (y := 1) (show m < 2 ^ 64 by omega) (by decide)
  rw [Nat.and_one_is_mod] at a
  have s : ishr .u64 (m : Int) 1 = ((m / 2 ^ 1 : Nat) : Int) := ishr_nat (k := .u64) (n := 1) (by decide)
  have a' : iand .u64 (m : Int) 1 = ((m % 2 : Nat) : Int) := a
  exact ⟨by rw [a']; omega, by rw [s]; omega⟩
theorem ball_l1 {b : List Int} (hb : Byt b) (lb : b.length ≤ 136) (s : SB) (hs : bP s) : dsamp_Ball.l1 60000 60000 b 0 s.1 s.2.1 s.2.2.1 s.2.2.2.1 s.2.2.2.2 = some (run bSt s b) := by
  have key := loop1 (st := bSt) (P := bP) bP_st (fun k i s => dsamp_Ball.l1 60000 k b i s.1 s.2.1 s.2.2.1 s.2.2.2.1 s.2.2.2.2) hb (fun k i s h => by
      simp only [dsamp_Ball.l1, h, if_false]) (fun k i s h hs => by
    obtain ⟨j, a, g, z, w⟩ := s
    obtain ⟨⟨h1, h2⟩, h3, h4⟩ := hs
    simp only at h1 h2 h3 h4
    have c0 : (i : Int) < ((b.length : Nat) : Int) := by omega
    have c1 : (0 : Int) ≤ (i : Int) := by omega
    obtain ⟨x0, x1⟩ := hb _ (List.getElem_mem h)
    obtain ⟨x, ex⟩ : ∃ x, x = b[i] := ⟨_, rfl⟩
    have x0' : 0 ≤ x := by omega
    have x1' : x < 256 := by omega
    have cv : iconv .i64 x = x := by unfold iconv; exact id64 (by omega) (by omega)
    obtain ⟨s1, s2⟩ := sg1 h3 h4
    have ei := ginc (i := i) (by omega)
    have ej : iadd .i64 j 1 = j + 1 := add64 (by omega) (by omega)
    have est : bSt (j, a, g, z, w) x = if x > j then .inl (j, a, g, z, w) else if j + 1 = 256 then .inr (swp a j x g, 0) else .inl (j + 1, swp a j x g, g / 2, z, w) := rfl
    rw [← ex, est]
    have hsw : ((if g % 2 = 1 then (if 0 ≤ x then (if x < 256 then (some (wr (wr (wr a j (rd a x)) x 1) x 8380416)) else none) else none) else (some (wr (wr a j (rd a x)) x 1)) : Option ((Arr 256)))) = some (swp a j x g) := by
      unfold swp
      by_cases hg : g % 2 = 1
      · rw [if_pos hg, if_pos hg, if_pos x0', if_pos x1']
      · rw [if_neg hg, if_neg hg]
    by_cases hx : x > j
    · simp only [dsamp_Ball.l1, c0, c1, rdL_get h, ← ex, cv, hx, ei, if_true, Option.bind_some]
    · by_cases hj : j + 1 = 256
      · simp only [dsamp_Ball.l1, c0, c1, rdL_get h, ← ex, cv, hx, x0', x1', h1, h2, s1, s2, ej, hj, ei, if_true, if_false, Option.bind_some]
        simp only [x0', x1', if_true] at hsw
        simp only [hsw, Option.bind_some]
      · simp only [dsamp_Ball.l1, c0, c1, rdL_get h, ← ex, cv, hx, x0', x1', h1, h2, s1, s2, ej, hj, ei, if_true, if_false, Option.bind_some]
        simp only [x0', x1', if_true] at hsw
        simp only [hsw, Option.bind_some])
  have := key b.length 0 60000 s (by omega) (by omega) hs
  rw [List.drop_zero] at this
  exact this
def ofB (B : Option (Arr 256)) : Arr 256 × Int := match B with
  | some r => (r, 0)
  | none => (zeroA 256, 12)
/-- what a ball is -/
def balV (S : Arr 25 × Nat) (tau : Int) : Arr 256 × Int := ofB (ballF (sqV 7 (sqV 7 S false 8).2.1 (sqV 7 S false 8).2.2 4096).1 (256 - tau) (zeroA 256) ((NB (sqV 7 S false 8).1 : Nat) : Int))
theorem NB8 {l : List Int} (hl : Byt l) (h8 : l.length = 8) : ((NB l : Nat) : Int) < 18446744073709551616 := by
  have := NB_lt hl
  rw [h8] at this
  have e : (256 : Nat) ^ 8 = 18446744073709551616 := by decide
  omega
end Go.Proofs.YtppohhnfojalbaaDoor
