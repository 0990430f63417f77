/- Layer 23 (dsamp), plain laws: small numbers, and great ones, that a seed draws. -/
import Derived.Test.YtppohhnfojalbaaDoorVb
import Derived.Test.YtppohhnfojalbaaDoorDb
set_option linter.unusedSimpArgs false
set_option linter.unusedVariables false
set_option maxRecDepth 100000
namespace Go.Proofs.YtppohhnfojalbaaDoor
open Go Go.Mx
/-! ### a number as two bytes -/
theorem kLe2 {n : Nat} (h : n < 65536) : bits_Le.f 60000 (n : Int) 2 = some [((n % 256 : Nat) : Int), ((n / 256 : Nat) : Int)] := by
  have h1 : bits_Le.f 60000 (n : Int) 2 = some [iconv .u8 (ishr .u64 (n : Int) ((0 : Nat) : Int)), iconv .u8 (ishr .u64 (n : Int) ((8 : Nat) : Int))] := by kernel_rfl
  rw [h1, cvs n (i := 0) (by decide), cvs n (i := 8) (by decide)]
  have e1 : n / 2 ^ 0 % 256 = n % 256 := by rw [Nat.pow_zero, Nat.div_one]
  have e2 : n / 2 ^ 8 % 256 = n / 256 := by omega
  rw [e1, e2]
/-! ### small numbers -/
/-- what four bits tell -/
def hv (e t w x : Int) : List Int := if x < w then [(e - x % t + 8380417) % 8380417] else []
def cnd (e t w : Int) : List Int → List Int
  | [] => []
  | x :: l => hv e t w (x % 16) ++ (hv e t w (x / 16) ++ cnd e t w l)
abbrev SS := Arr 256 × Int
def fillE : SS → List Int → SS ⊕ SS
  | p, [] => .inl p
  | p, x :: l => if p.2 + 1 < 256 then fillE (wr p.1 p.2 x, p.2 + 1) l else .inr (wr p.1 p.2 x, p.2 + 1)
theorem fillE_eq : ∀ (l : List Int) (a : Arr 256) (n : Nat), n < 256 → fillE (a, (n : Int)) l = if (fillP (a, n) l).2 < 256 then .inl ((fillP (a, n) l).1, ((fillP (a, n) l).2 : Int)) else .inr ((fillP (a, n) l).1, ((fillP (a, n) l).2 : Int))
  | [], a, n, h => by
    show _ = if n < 256 then _ else _
    rw [if_pos h]
    rfl
  | x :: l, a, n, h => by
    have hf : fillP (a, n) (x :: l) = fillP (wr a (n : Int) x, n + 1) l := by
      show (if n < 256 then _ else _) = _
      rw [if_pos h]
    rw [hf]
    show (if (n : Int) + 1 < 256 then fillE (wr a (n : Int) x, (n : Int) + 1) l else .inr (wr a (n : Int) x, (n : Int) + 1)) = _
    by_cases h1 : n + 1 < 256
    · rw [if_pos (by omega)]
      exact fillE_eq l _ (n + 1) h1
    · rw [if_neg (by omega), fillP_full (p := (wr a (n : Int) x, n + 1)) h1, if_neg h1]
      rfl
def sSt (e t w : Int) (s : SS) (x : Int) : SS ⊕ SS := fillE s (hv e t w (x % 16) ++ hv e t w (x / 16))
def sP (s : SS) : Prop := 0 ≤ s.2 ∧ s.2 < 256
theorem sP_st (e t w : Int) (s : SS) (x : Int) (s' : SS) (h : sP s) (hx : 0 ≤ x ∧ x ≤ 255) (q : sSt e t w s x = .inl s') : sP s' := by
  obtain ⟨a, n⟩ := s
  obtain ⟨h0, h1⟩ := h
  obtain ⟨m, rfl⟩ : ∃ m : Nat, n = (m : Int) := ⟨n.toNat, by omega⟩
  have hm : m < 256 := by simp only at h1; omega
  unfold sSt at q
  rw [fillE_eq _ a m hm] at q
  by_cases hc : (fillP (a, m) (hv e t w (x % 16) ++ hv e t w (x / 16))).2 < 256
  · rw [if_pos hc] at q
    have q := Sum.inl.inj q
    subst q
    exact ⟨by show (0 : Int) ≤ _; omega, by show ((_ : Nat) : Int) < 256; omega⟩
  · rw [if_neg hc] at q
    cases q
theorem run_small (e t w : Int) : ∀ (l : List Int) (a : Arr 256) (n : Nat), n < 256 →
    run (sSt e t w) (a, (n : Int)) l = if (fillP (a, n) (cnd e t w l)).2 < 256 then .inl ((fillP (a, n) (cnd e t w l)).1, ((fillP (a, n) (cnd e t w l)).2 : Int)) else .inr ((fillP (a, n) (cnd e t w l)).1, ((fillP (a, n) (cnd e t w l)).2 : Int))
  | [], a, n, h => by
    show _ = if n < 256 then _ else _
    rw [if_pos h]
    rfl
  | x :: l, a, n, h => by
    have e1 := fillE_eq (hv e t w (x % 16) ++ hv e t w (x / 16)) a n h
    have ec : fillP (a, n) (cnd e t w (x :: l)) = fillP (fillP (a, n) (hv e t w (x % 16) ++ hv e t w (x / 16))) (cnd e t w l) := by
      rw [← fillP_app, List.append_assoc]
      rfl
    obtain ⟨p, ep⟩ : ∃ p, p = fillP (a, n) (hv e t w (x % 16) ++ hv e t w (x / 16)) := ⟨_, rfl⟩
    rw [← ep] at e1 ec
    rw [ec]
    have es : sSt e t w (a, (n : Int)) x = if p.2 < 256 then .inl (p.1, (p.2 : Int)) else .inr (p.1, (p.2 : Int)) := e1
    rw [run_cons, es]
    by_cases hp : p.2 < 256
    · rw [if_pos hp]
      exact run_small e t w l p.1 p.2 hp
    · rw [if_neg hp, fillP_full hp, if_neg hp]
/-- the two kinds -/
def Kd (e t w : Int) : Prop := (e = 2 ∧ t = 5 ∧ w = 15) ∨ (e = 4 ∧ t = 9 ∧ w = 9)
theorem low4 {x : Int} (h : 0 ≤ x ∧ x ≤ 255) : iconv .i32 (iand .u8 x 15) = x % 16 := by
  obtain ⟨m, rfl⟩ : ∃ m : Nat, x = (m : Int) := ⟨x.toNat, by omega⟩
  have := iand_nat (k := .u8) (x := m) (y := 15) (show m < 2 ^ 8 by omega) (by decide)
  rw [show (15 : Nat) = 2 ^ 4 - 1 from rfl, Nat.and_two_pow_sub_one_eq_mod] at this
  have e : iand .u8 (m : Int) 15 = ((m % 2 ^ 4 : Nat) : Int) := this
  rw [e]
  unfold iconv
  rw [w32]
  omega
theorem high4 {x : Int} (h : 0 ≤ x ∧ x ≤ 255) : iconv .i32 (ishr .u8 x 4) = x / 16 := by
  obtain ⟨m, rfl⟩ : ∃ m : Nat, x = (m : Int) := ⟨x.toNat, by omega⟩
  have e : ishr .u8 (m : Int) 4 = ((m / 2 ^ 4 : Nat) : Int) := ishr_nat (k := .u8) (n := 4) (by decide)
  rw [e]
  unfold iconv
  rw [w32]
  omega
theorem small_val {e t w x : Int} (hk : Kd e t w) (h0 : 0 ≤ x) (h1 : x < 16) : isub .i32 e (irem .i32 x t) = e - x % t ∧ -8380417 ≤ e - x % t ∧ e - x % t < 8380417 ∧ ¬ t = 0 := by
  have hr : irem .i32 x t = x % t := by
    unfold irem
    exact Int.tmod_eq_emod_of_nonneg h0
  rw [hr]
  unfold isub
  rw [w32]
  rcases hk with ⟨rfl, rfl, rfl⟩ | ⟨rfl, rfl, rfl⟩ <;> (refine ⟨?_, ?_, ?_, by decide⟩ <;> omega)
theorem small_l1 {e t w : Int} (hk : Kd e t w) {b : List Int} (hb : Byt b) (lb : b.length ≤ 136) (s : SS) (hs : sP s) : dsamp_Small.l1 60000 60000 e t w b 0 s.1 s.2 = some (run (sSt e t w) s b) := by
  have key := loop1 (st := sSt e t w) (P := sP) (sP_st e t w) (fun k i s => dsamp_Small.l1 60000 k e t w b i s.1 s.2) hb (fun k i s h => by
      simp only [dsamp_Small.l1, h, if_false]) (fun k i s h hs => by
    obtain ⟨a, n⟩ := s
    obtain ⟨h2, h3⟩ := hs
    have c0 : (i : Int) < ((b.length : Nat) : Int) := by omega
    have c1 : (0 : Int) ≤ (i : Int) := by omega
    have hx := hb _ (List.getElem_mem h)
    obtain ⟨m, rfl⟩ : ∃ m : Nat, n = (m : Int) := ⟨n.toNat, by simp only at h2; omega⟩
    have hm : m < 256 := by simp only at h3; omega
    have ei := ginc (i := i) (by omega)
    have el := low4 hx
    have eh := high4 hx
    obtain ⟨u, eu⟩ : ∃ u, u = b[i] % 16 := ⟨_, rfl⟩
    obtain ⟨v, ev⟩ : ∃ v, v = b[i] / 16 := ⟨_, rfl⟩
    obtain ⟨s1, s2, s3, t0⟩ := small_val (x := u) hk (by omega) (by omega)
    obtain ⟨r1, r2, r3, _⟩ := small_val (x := v) hk (by omega) (by omega)
    have p1 := fun (a : Arr 256) (m : Nat) (hm : m < 256) => put_eq23 (a := a) (n := m) (x := e - u % t) hm s2 s3
    have p2 := fun (a : Arr 256) (m : Nat) (hm : m < 256) => put_eq23 (a := a) (n := m) (x := e - v % t) hm r2 r3
    have est : sSt e t w (a, (m : Int)) b[i] = fillE (a, (m : Int)) (hv e t w u ++ hv e t w v) := by rw [eu, ev]; rfl
    rw [est]
    simp only [dsamp_Small.l1, c0, c1, rdL_get h, el, eh, ← eu, ← ev, s1, r1, t0, ei, if_true, not_false_eq_true, Option.bind_some]
    have hv1 : u < w → hv e t w u = [(e - u % t + 8380417) % 8380417] := fun q => if_pos q
    have hv1' : ¬ u < w → hv e t w u = [] := fun q => if_neg q
    have hv2 : v < w → hv e t w v = [(e - v % t + 8380417) % 8380417] := fun q => if_pos q
    have hv2' : ¬ v < w → hv e t w v = [] := fun q => if_neg q
    have f1 : ∀ (a : Arr 256) (m : Nat) (x : Int) (l : List Int), fillE (a, (m : Int)) (x :: l) = if m + 1 < 256 then fillE (wr a (m : Int) x, ((m + 1 : Nat) : Int)) l else .inr (wr a (m : Int) x, ((m + 1 : Nat) : Int)) := fun a m x l => by
      show (if (m : Int) + 1 < 256 then _ else _) = _
      by_cases q : m + 1 < 256
      · rw [if_pos (show (m : Int) + 1 < 256 by omega), if_pos q]; rfl
      · rw [if_neg (show ¬ (m : Int) + 1 < 256 by omega), if_neg q]; rfl
    have f0 : ∀ p : SS, fillE p [] = .inl p := fun p => rfl
    by_cases hu : u < w
    · rw [if_pos hu, p1 a m hm, hv1 hu, List.singleton_append, f1]
      simp only [Option.bind_some]
      by_cases q : m + 1 < 256
      · rw [decide_eq_true q, if_pos rfl, if_pos q]
        by_cases hw : v < w
        · rw [if_pos hw, p2 _ (m + 1) q, hv2 hw, f1]
          simp only [Option.bind_some, f0]
          by_cases q2 : m + 1 + 1 < 256
          · rw [decide_eq_true q2, if_pos rfl, if_pos q2]; rfl
          · rw [decide_eq_false q2, if_neg (by decide), if_neg q2]; rfl
        · rw [if_neg hw, hv2' hw, f0]; rfl
      · rw [decide_eq_false q, if_neg (by decide), if_neg q]; rfl
    · rw [if_neg hu, hv1' hu, List.nil_append]
      by_cases hw : v < w
      · rw [if_pos hw, p2 a m hm, hv2 hw, f1]
        simp only [Option.bind_some, f0]
        by_cases q2 : m + 1 < 256
        · rw [decide_eq_true q2, if_pos rfl, if_pos q2]; rfl
        · rw [decide_eq_false q2, if_neg (by decide), if_neg q2]; rfl
      · rw [if_neg hw, hv2' hw, f0]; rfl)
  have := key b.length 0 60000 s (by omega) (by omega) hs
  rw [List.drop_zero] at this
  exact this
/-- the text that a number's seed is -/
def sdt (seed : List Int) (n : Nat) : List Int := seed ++ [((n % 256 : Nat) : Int), ((n / 256 : Nat) : Int)]
theorem kSpn {seed : List Int} (ls : seed.length ≤ 300) (n : Nat) : dsamp_sponge.f 60000 7 [seed, [((n % 256 : Nat) : Int), ((n / 256 : Nat) : Int)]] = some (tupA 7 (absV 7 (zeroA 25, 0) false (sdt seed n)) false) := by
  have h := sponge_eq 7 (by decide) (W := [seed, [((n % 256 : Nat) : Int), ((n / 256 : Nat) : Int)]]) (by show 2 < 1000; decide) (by simp; omega)
  rw [h]
  unfold sdt
  simp
def smlV (e t w : Int) (bs : List Int) : Arr 256 × Int := if (fillP (zeroA 256, 0) (cnd e t w bs)).2 < 256 then (zeroA 256, 12) else ((fillP (zeroA 256, 0) (cnd e t w bs)).1, 0)
theorem cvu64 {n : Nat} (h : n < 65536) : iconv .u64 (n : Int) = (n : Int) := by unfold iconv; rw [wu64]; omega
theorem kSmall {e t w : Int} (hk : Kd e t w) {seed : List Int} (ls : seed.length ≤ 300) {n : Nat} (hn : n < 65536) : dsamp_Small.f 60000 seed (n : Int) e = some (smlV e t w (sqV 7 (absV 7 (zeroA 25, 0) false (sdt seed n)) false 4096).1) := by
  obtain ⟨S, eS⟩ : ∃ S, S = absV 7 (zeroA 25, 0) false (sdt seed n) := ⟨_, rfl⟩
  have fS : FitS 7 S false := by rw [eS]; exact fit_sponge (by decide) _
  have sp := kSpn ls n
  rw [← eS] at sp
  rw [← eS]
  have key := loop0 (st := sSt e t w) (P := sP) (sP_st e t w) 7 (fun k left s o v => dsamp_Small.l0 60000 k e t w left 7 s.1 (s.2 : Int) o v.1 v.2) (fun s o v => ((7 : Int), s.1, (s.2 : Int), o, v)) (fun k left s o v h => by
      simp only [dsamp_Small.l0, h, if_false]) (fun k left s o v h0 h1 hs hv => by
    have q := kSq 7 s o hs (imin 136 left) (by rw [imin136]; split <;> omega)
    have l := small_l1 hk (sqv_byt 7 s o (imin 136 left)) (by rw [sqv_len, imin136]; split <;> omega) v hv
    have e : isub .i64 left 136 = left - 136 := sub64 (by omega) (by omega)
    simp only [dsamp_Small.l0, h0, if_true]
    rw [q]
    simp only [Option.bind_some]
    rw [l]
    simp only [Option.bind_some, e]
    cases run (sSt _ t w) v (sqV 7 s o (imin 136 left)).1 with
    | inl v' => rfl
    | inr r => rfl)
  obtain ⟨s', o', e1⟩ := key 31 60000 4096 S false (zeroA 256, 0) (by decide) (by decide) (by decide) fS ⟨by decide, by decide⟩
  have rv := run_small e t w (sqV 7 S false 4096).1 (zeroA 256) 0 (by decide)
  have rv' : run (sSt e t w) (zeroA 256, 0) (sqV 7 S false 4096).1 = _ := rv
  rw [rv'] at e1
  unfold smlV
  obtain ⟨p, ep⟩ : ∃ p, p = fillP (zeroA 256, 0) (cnd e t w (sqV 7 S false 4096).1) := ⟨_, rfl⟩
  rw [← ep] at e1
  rw [← ep]
  have e' : dsamp_Small.l0 60000 60000 e t w 4096 7 S.1 (S.2 : Int) false (zeroA 256) 0 = _ := e1
  have d := done_eq23 p
  have hkk : ((if e = 2 then (some (.inl (5, 15, (zeroA 256)))) else (if e = 4 then (some (.inl (9, 9, (zeroA 256)))) else (some (.inr ((zeroA 256), 8)))) : Option ((Int × Int × (Arr 256)) ⊕ ((Arr 256) × Int)))) = some (.inl (t, w, zeroA 256)) := by
    rcases hk with ⟨rfl, rfl, rfl⟩ | ⟨rfl, rfl, rfl⟩ <;> rfl
  unfold dsamp_Small.f
  rw [hkk]
  simp only [Option.bind_some]
  rw [cvu64 hn, kLe2 hn, Option.bind_some, sp]
  show (((dsamp_Small.l0 60000 60000 e t w 4096 7 S.1 (S.2 : Int) false (zeroA 256) 0).bind _).bind _) = _
  rw [e']
  by_cases h : p.2 < 256
  · rw [if_pos h] at d
    rw [if_pos h, if_pos h]
    show ((dsamp_filler_done.f 60000 p.1 (p.2 : Int)).bind _) = _
    rw [d]
    rfl
  · rw [if_neg h] at d
    rw [if_neg h, if_neg h]
    show ((dsamp_filler_done.f 60000 p.1 (p.2 : Int)).bind _) = _
    rw [d]
    rfl
/-! ### by the document -/
/-! ### great numbers -/
theorem kMask {seed : List Int} (ls : seed.length ≤ 300) {n : Nat} (hn : n < 65536) {m : Int} {z : Nat} (hz : m = 131072 ∧ z = 18 ∨ m = 524288 ∧ z = 20) :
    dsamp_Mask.f 60000 seed (n : Int) m = some ((unpS (isub .i32 m 1) m (sqV 7 (absV 7 (zeroA 25, 0) false (sdt seed n)) false ((32 * z : Nat) : Int)).1).1, 0) := by
  have fS : FitS 7 (absV 7 (zeroA 25, 0) false (sdt seed n)) false := fit_sponge (by decide) _
  have sp := kSpn ls n
  have q := kSq 7 (absV 7 (zeroA 25, 0) false (sdt seed n)) false fS ((32 * z : Nat) : Int) (by omega)
  have u := dUnpack 60000 (by decide) (sqV 7 (absV 7 (zeroA 25, 0) false (sdt seed n)) false ((32 * z : Nat) : Int)).1 (sqv_byt _ _ _ _) (by rw [sqv_len]; omega) (isub .i32 m 1) m
  have hkk : ((if m = 131072 then (some (.inl (18, (zeroA 256)))) else (if m = 524288 then (some (.inl (20, (zeroA 256)))) else (some (.inr ((zeroA 256), 8)))) : Option ((Int × (Arr 256)) ⊕ ((Arr 256) × Int)))) = some (.inl ((z : Int), zeroA 256)) := by
    rcases hz with ⟨rfl, rfl⟩ | ⟨rfl, rfl⟩ <;> rfl
  have em : imul .i64 32 (z : Int) = ((32 * z : Nat) : Int) := by unfold imul; rw [id64 (by omega) (by omega)]; omega
  unfold dsamp_Mask.f
  rw [hkk]
  simp only [Option.bind_some]
  rw [cvu64 hn, kLe2 hn, Option.bind_some, sp]
  show ((keccak_Squeeze.f 60000 7 (absV 7 (zeroA 25, 0) false (sdt seed n)).1 ((absV 7 (zeroA 25, 0) false (sdt seed n)).2 : Int) false (imul .i64 32 (z : Int))).bind _) = _
  rw [em, q]
  simp only [Option.bind_some]
  rw [u]
  rfl
end Go.Proofs.YtppohhnfojalbaaDoor
