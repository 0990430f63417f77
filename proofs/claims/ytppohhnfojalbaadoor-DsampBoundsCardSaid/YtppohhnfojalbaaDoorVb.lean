/- Layer 23 (dsamp), plain laws: values that a seed draws. -/
import Derived.Test.YtppohhnfojalbaaDoorVF0
import Derived.Test.YtppohhnfojalbaaDoorVFDsampBounds
import Derived.Test.YtppohhnfojalbaaDoorVa
set_option linter.unusedSimpArgs false
set_option linter.unusedVariables false
set_option maxRecDepth 100000
namespace Go.Proofs.YtppohhnfojalbaaDoor
open Go Go.Mx
/-- what three bytes are -/
def q3 (a b c : Int) : Int := a + 256 * b + 65536 * (c % 128)
def vals : List Int → List Int
  | a :: b :: c :: l => if q3 a b c < 8380417 then q3 a b c :: vals l else vals l
  | _ => []
abbrev SV := Int × Int × Arr 256 × Int
/-- a byte more -/
def vSt (s : SV) (x : Int) : SV ⊕ SV :=
  if s.1 + 1 < 3 then .inl (s.1 + 1, s.2.1 + x * 2 ^ (8 * s.1.toNat), s.2.2.1, s.2.2.2)
  else if (s.2.1 + x * 2 ^ (8 * s.1.toNat)) % 8388608 < 8380417 then
    (if s.2.2.2 + 1 < 256 then .inl (0, 0, wr s.2.2.1 s.2.2.2 ((s.2.1 + x * 2 ^ (8 * s.1.toNat)) % 8388608), s.2.2.2 + 1) else .inr (0, 0, wr s.2.2.1 s.2.2.2 ((s.2.1 + x * 2 ^ (8 * s.1.toNat)) % 8388608), s.2.2.2 + 1))
  else .inl (0, 0, s.2.2.1, s.2.2.2)
def vP (s : SV) : Prop := (s.1 = 0 ∧ s.2.1 = 0 ∨ s.1 = 1 ∧ 0 ≤ s.2.1 ∧ s.2.1 < 256 ∨ s.1 = 2 ∧ 0 ≤ s.2.1 ∧ s.2.1 < 65536) ∧ 0 ≤ s.2.2.2 ∧ s.2.2.2 < 256
theorem vP_st (s : SV) (x : Int) (s' : SV) (h : vP s) (hx : 0 ≤ x ∧ x ≤ 255) (e : vSt s x = .inl s') : vP s' := by
  obtain ⟨k, hd, a, n⟩ := s
  obtain ⟨h1, h2, h3⟩ := h
  simp only at h1 h2 h3
  unfold vSt at e
  simp only at e
  by_cases c1 : k + 1 < 3
  · rw [if_pos c1] at e
    have e := Sum.inl.inj e
    subst e
    rcases h1 with ⟨k0, d0⟩ | ⟨k1, d0, d1⟩ | ⟨k2, _, _⟩
    · subst k0 d0
      refine ⟨.inr (.inl ⟨rfl, ?_, ?_⟩), h2, h3⟩ <;> (simp; omega)
    · subst k1
      refine ⟨.inr (.inr ⟨rfl, ?_, ?_⟩), h2, h3⟩ <;> (simp; omega)
    · omega
  · rw [if_neg c1] at e
    by_cases c2 : (hd + x * 2 ^ (8 * k.toNat)) % 8388608 < 8380417
    · rw [if_pos c2] at e
      by_cases c3 : n + 1 < 256
      · rw [if_pos c3] at e
        have e := Sum.inl.inj e
        subst e
        exact ⟨.inl ⟨rfl, rfl⟩, by show 0 ≤ n + 1; omega, c3⟩
      · rw [if_neg c3] at e; cases e
    · rw [if_neg c2] at e
      have e := Sum.inl.inj e
      subst e
      exact ⟨.inl ⟨rfl, rfl⟩, h2, h3⟩
theorem or_held {h x : Int} {s : Nat} (h0 : 0 ≤ h) (h1 : h < 2 ^ s) (x0 : 0 ≤ x) (x1 : x ≤ 255) (hs : s ≤ 16) : ior .i32 h (ishl .i32 (iconv .i32 x) (s : Int)) = h + x * 2 ^ s := by
  obtain ⟨m, rfl⟩ : ∃ m : Nat, h = (m : Int) := ⟨h.toNat, by omega⟩
  obtain ⟨y, rfl⟩ : ∃ y : Nat, x = (y : Int) := ⟨x.toNat, by omega⟩
  have hm : m < 2 ^ s := by exact_mod_cast h1
  have hp : (2 : Nat) ^ s ≤ 2 ^ 16 := Nat.pow_le_pow_right (by decide) hs
  have hy : y * 2 ^ s ≤ 255 * 2 ^ 16 := Nat.mul_le_mul (by omega) hp
  have e1 : iconv .i32 (y : Int) = (y : Int) := by unfold iconv; rw [w32]; omega
  rw [e1, ishl_nat (k := .i32) (show s ≤ 32 by omega) (show _ < 2 ^ 31 by omega), ior_nat (k := .i32) (show m < 2 ^ 31 by omega) (show _ < 2 ^ 31 by omega), or_parts hm]
  push_cast
  rfl
theorem mask23 {h : Int} (h0 : 0 ≤ h) (h1 : h < 2 ^ 24) : iand .i32 h 8388607 = h % 8388608 := by
  obtain ⟨m, rfl⟩ : ∃ m : Nat, h = (m : Int) := ⟨h.toNat, by omega⟩
  have := iand_nat (k := .i32) (x := m) (y := 8388607) (show m < 2 ^ 31 by omega) (by decide)
  rw [show (8388607 : Nat) = 2 ^ 23 - 1 from rfl, Nat.and_two_pow_sub_one_eq_mod] at this
  have e : iand .i32 (m : Int) 8388607 = ((m % 2 ^ 23 : Nat) : Int) := this
  rw [e]
  omega
theorem vals_l1 {b : List Int} (hb : Byt b) (lb : b.length ≤ 136) (s : SV) (hs : vP s) : dsamp_Values.l1 60000 60000 b 0 s.1 s.2.1 s.2.2.1 s.2.2.2 = some (run vSt s b) := by
  have key := loop1 (st := vSt) (P := vP) vP_st (fun k i s => dsamp_Values.l1 60000 k b i s.1 s.2.1 s.2.2.1 s.2.2.2) hb (fun k i s h => by
      simp only [dsamp_Values.l1, h, if_false]) (fun k i s h hs => by
    obtain ⟨c, hd, a, n⟩ := s
    obtain ⟨h1, h2, h3⟩ := hs
    simp only at h1 h2 h3
    have c0 : (i : Int) < ((b.length : Nat) : Int) := by omega
    have c1 : (0 : Int) ≤ (i : Int) := by omega
    obtain ⟨x0, x1⟩ := hb _ (List.getElem_mem h)
    obtain ⟨m, rfl⟩ : ∃ m : Nat, n = (m : Int) := ⟨n.toNat, by omega⟩
    have hm : m < 256 := by omega
    have ei := ginc (i := i) (by omega)
    rcases h1 with ⟨k0, d0⟩ | ⟨k1, d0, d1⟩ | ⟨k2, d0, d1⟩
    · subst k0 d0
      have e1 := or_held (h := 0) (x := b[i]) (s := 0) (by decide) (by decide) x0 x1 (by decide)
      have e1' : ior .i32 0 (ishl .i32 (iconv .i32 b[i]) (imul .i64 8 0)) = 0 + b[i] * 2 ^ 0 := e1
      have m0 : (0 : Int) ≤ imul .i64 8 0 := by decide
      have i1 : iadd .i64 0 1 = 1 := by decide
      have l1 : (1 : Int) < 3 := by decide
      simp only [dsamp_Values.l1, c0, c1, m0, rdL_get h, e1', i1, l1, ei, if_true, Option.bind_some]
      rfl
    · subst k1
      have e1 := or_held (h := hd) (x := b[i]) (s := 8) d0 (by simpa using d1) x0 x1 (by decide)
      have e1' : ior .i32 hd (ishl .i32 (iconv .i32 b[i]) (imul .i64 8 1)) = hd + b[i] * 2 ^ 8 := e1
      have m0 : (0 : Int) ≤ imul .i64 8 1 := by decide
      have i1 : iadd .i64 1 1 = 2 := by decide
      have l1 : (2 : Int) < 3 := by decide
      simp only [dsamp_Values.l1, c0, c1, m0, rdL_get h, e1', i1, l1, ei, if_true, Option.bind_some]
      rfl
    · subst k2
      have e1 := or_held (h := hd) (x := b[i]) (s := 16) d0 (by simpa using d1) x0 x1 (by decide)
      have e1' : ior .i32 hd (ishl .i32 (iconv .i32 b[i]) (imul .i64 8 2)) = hd + b[i] * 2 ^ 16 := e1
      have m0 : (0 : Int) ≤ imul .i64 8 2 := by decide
      have i1 : iadd .i64 2 1 = 3 := by decide
      have l1 : ¬ (3 : Int) < 3 := by decide
      have e2 := mask23 (h := hd + b[i] * 2 ^ 16) (by omega) (by omega)
      obtain ⟨v, hv⟩ : ∃ v, v = (hd + b[i] * 2 ^ 16) % 8388608 := ⟨_, rfl⟩
      have hv0 : 0 ≤ v := by omega
      have est : vSt (2, hd, a, (m : Int)) b[i] = if v < 8380417 then (if (m : Int) + 1 < 256 then .inl (0, 0, wr a (m : Int) v, (m : Int) + 1) else .inr (0, 0, wr a (m : Int) v, (m : Int) + 1)) else .inl (0, 0, a, (m : Int)) := by
        rw [hv]
        rfl
      rw [est]
      by_cases hq : v < 8380417
      · have p := put_eq23 (a := a) (n := m) (x := v) hm (by omega) hq
        rw [show (v + 8380417) % 8380417 = v by omega] at p
        simp only [dsamp_Values.l1, c0, c1, m0, rdL_get h, e1', e2, ← hv, i1, l1, hq, p, ei, if_true, if_false, Option.bind_some]
        by_cases hf : m + 1 < 256
        · have hf' : (m : Int) + 1 < 256 := by omega
          simp only [hf, hf', decide_true, if_true, Option.bind_some]
          rfl
        · have hf' : ¬ (m : Int) + 1 < 256 := by omega
          simp only [hf, hf', decide_false, Bool.false_eq_true, if_false, Option.bind_some]
          rfl
      · simp only [dsamp_Values.l1, c0, c1, m0, rdL_get h, e1', e2, ← hv, i1, l1, hq, ei, if_true, if_false, Option.bind_some])
  have := key b.length 0 60000 s (by omega) (by omega) hs
  rw [List.drop_zero] at this
  exact this
/-- what the bytes make of a row that is filled so far -/
theorem run_vals : ∀ (m : Nat) (l : List Int) (a : Arr 256) (n : Nat), Byt l → l.length = 3 * m → n < 256 →
    run vSt (0, 0, a, (n : Int)) l = if (fillP (a, n) (vals l)).2 < 256 then .inl (0, 0, (fillP (a, n) (vals l)).1, ((fillP (a, n) (vals l)).2 : Int)) else .inr (0, 0, (fillP (a, n) (vals l)).1, ((fillP (a, n) (vals l)).2 : Int))
  | 0, l, a, n, hb, hl, hn => by
    rw [List.eq_nil_of_length_eq_zero (show l.length = 0 by omega)]
    show _ = if n < 256 then _ else _
    rw [if_pos hn]
    rfl
  | m + 1, l, a, n, hb, hl, hn => by
    match l, hl with
    | x :: y :: z :: l, hl =>
      obtain ⟨x0, x1⟩ := hb.head
      obtain ⟨y0, y1⟩ := hb.tail.head
      obtain ⟨z0, z1⟩ := hb.tail.tail.head
      have hb' := hb.tail.tail.tail
      have ih := fun a n hn => run_vals m l a n hb' (by simp at hl; omega) hn
      have s1 : vSt (0, 0, a, (n : Int)) x = .inl (1, 0 + x * 2 ^ 0, a, (n : Int)) := rfl
      have s2 : vSt (1, 0 + x * 2 ^ 0, a, (n : Int)) y = .inl (2, 0 + x * 2 ^ 0 + y * 2 ^ 8, a, (n : Int)) := rfl
      have e3 : (0 + x * 2 ^ 0 + y * 2 ^ 8 + z * 2 ^ 16) % 8388608 = q3 x y z := by unfold q3; omega
      have s3 : vSt (2, 0 + x * 2 ^ 0 + y * 2 ^ 8, a, (n : Int)) z = if q3 x y z < 8380417 then (if (n : Int) + 1 < 256 then .inl (0, 0, wr a (n : Int) (q3 x y z), (n : Int) + 1) else .inr (0, 0, wr a (n : Int) (q3 x y z), (n : Int) + 1)) else .inl (0, 0, a, (n : Int)) := by
        rw [← e3]
        rfl
      have r : run vSt (0, 0, a, (n : Int)) (x :: y :: z :: l) = match vSt (2, 0 + x * 2 ^ 0 + y * 2 ^ 8, a, (n : Int)) z with
          | .inl s' => run vSt s' l
          | .inr r => .inr r := by
        rw [run_cons, s1]
        show run vSt (1, 0 + x * 2 ^ 0, a, (n : Int)) (y :: z :: l) = _
        rw [run_cons, s2]
        show run vSt (2, 0 + x * 2 ^ 0 + y * 2 ^ 8, a, (n : Int)) (z :: l) = _
        rw [run_cons]
        cases vSt (2, 0 + x * 2 ^ 0 + y * 2 ^ 8, a, (n : Int)) z <;> rfl
      rw [r, s3]
      by_cases hq : q3 x y z < 8380417
      · have hv : vals (x :: y :: z :: l) = q3 x y z :: vals l := by
          show (if q3 x y z < 8380417 then _ else _) = _
          rw [if_pos hq]
        have hf : fillP (a, n) (q3 x y z :: vals l) = fillP (wr a (n : Int) (q3 x y z), n + 1) (vals l) := by
          show (if n < 256 then _ else _) = _
          rw [if_pos hn]
        rw [if_pos hq, hv, hf]
        by_cases hn1 : n + 1 < 256
        · rw [if_pos (show (n : Int) + 1 < 256 by omega)]
          exact ih _ (n + 1) hn1
        · rw [if_neg (show ¬ (n : Int) + 1 < 256 by omega), fillP_full (p := (wr a (n : Int) (q3 x y z), n + 1)) hn1, if_neg hn1]
          rfl
      · have hv : vals (x :: y :: z :: l) = vals l := by
          show (if q3 x y z < 8380417 then _ else _) = _
          rw [if_neg hq]
        rw [if_neg hq, hv]
        exact ih a n hn
theorem kValues {rho : List Int} {i j : Int} (lr : rho.length ≤ 300) : ∃ bs : List Int, bs = (sqV 6 (absV 6 (zeroA 25, 0) false (rho ++ [j, i])) false 12288).1 ∧
    dsamp_Values.f 60000 rho i j = some (if (fillP (zeroA 256, 0) (vals bs)).2 < 256 then (zeroA 256, 12) else ((fillP (zeroA 256, 0) (vals bs)).1, 0)) := by
  refine ⟨_, rfl, ?_⟩
  have hk : rateN 6 ≠ 0 := by decide
  obtain ⟨S, eS⟩ : ∃ S, S = absV 6 (zeroA 25, 0) false (rho ++ [j, i]) := ⟨_, rfl⟩
  have fS : FitS 6 S false := by rw [eS]; exact fit_sponge hk _
  have sp := sponge_eq 6 hk (W := [rho, [j, i]]) (by show 2 < 1000; decide) (by simp; omega)
  rw [show ([rho, [j, i]] : List (List Int)).flatten = rho ++ [j, i] by simp, ← eS] at sp
  rw [← eS]
  have key := loop0 (st := vSt) (P := vP) vP_st 6 (fun k left s o v => dsamp_Values.l0 60000 k left 6 s.1 (s.2 : Int) o v.1 v.2.1 v.2.2.1 v.2.2.2) (fun s o v => ((6 : Int), s.1, (s.2 : Int), o, v)) (fun k left s o v h => by
      simp only [dsamp_Values.l0, h, if_false]) (fun k left s o v h0 h1 hs hv => by
    have q := kSq 6 s o hs (imin 136 left) (by rw [imin136]; split <;> omega)
    have l := vals_l1 (sqv_byt 6 s o (imin 136 left)) (by rw [sqv_len, imin136]; split <;> omega) v hv
    have e : isub .i64 left 136 = left - 136 := sub64 (by omega) (by omega)
    simp only [dsamp_Values.l0, h0, if_true]
    rw [q]
    simp only [Option.bind_some]
    rw [l]
    simp only [Option.bind_some, e]
    cases run vSt v (sqV 6 s o (imin 136 left)).1 with
    | inl v' => rfl
    | inr r => rfl)
  obtain ⟨s', o', e⟩ := key 91 60000 12288 S false (0, 0, zeroA 256, 0) (by decide) (by decide) (by decide) fS ⟨.inl ⟨rfl, rfl⟩, by decide, by decide⟩
  have rv := run_vals 4096 (sqV 6 S false 12288).1 (zeroA 256) 0 (sqv_byt _ _ _ _) (by rw [sqv_len]; rfl) (by decide)
  have rv' : run vSt (0, 0, zeroA 256, 0) (sqV 6 S false 12288).1 = _ := rv
  rw [rv'] at e
  obtain ⟨p, ep⟩ : ∃ p, p = fillP (zeroA 256, 0) (vals (sqV 6 S false 12288).1) := ⟨_, rfl⟩
  rw [← ep] at e
  rw [← ep]
  have e' : dsamp_Values.l0 60000 60000 12288 6 S.1 (S.2 : Int) false 0 0 (zeroA 256) 0 = _ := e
  have d := done_eq23 p
  unfold dsamp_Values.f
  rw [sp]
  show (((dsamp_Values.l0 60000 60000 12288 6 S.1 (S.2 : Int) false 0 0 (zeroA 256) 0).bind _).bind _) = _
  rw [e']
  by_cases h : p.2 < 256
  · rw [if_pos h] at d
    rw [if_pos h, if_pos h]
    show ((dsamp_filler_done.f 60000 p.1 (p.2 : Int)).bind _) = _
    rw [d]
    rfl
  · rw [if_neg h] at d
    rw [if_neg h, if_neg h]
    show ((dsamp_filler_done.f 60000 p.1 (p.2 : Int)).bind _) = _
    rw [d]
    rfl
/-! ### by the document -/
end Go.Proofs.YtppohhnfojalbaaDoor
