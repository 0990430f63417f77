/- Layer 23 (dsamp), plain laws: small numbers, and great ones, that a seed draws. -/
import Derived.Test.YtppohhnfojalbaaDoorVb
import Derived.Test.YtppohhnfojalbaaDoorDb
set_option linter.unusedSimpArgs false
set_option linter.unusedVariables false
set_option maxRecDepth 100000
namespace Go.Proofs.YtppohhnfojalbaaDoor
open Go Go.Mx
/-! ### a number as two bytes -/
theorem kLe2 {n : Nat} (h : n < 65536) : bits_Le.f 60000 (n : Int) 2 = some [((n % 256 : Nat) : Int), ((n / 256 : Nat) : Int)] := by
  have h1 : bits_Le.f 60000 (n : Int) 2 = some [iconv .u8 (ishr .u64 (n : Int) ((0 : Nat) : Int)), iconv .u8 (ishr .u64 (n : Int) ((8 : Nat) : Int))] := by kernel_rfl
  rw [h1, cvs n (i := 0) (by decide), cvs n (i := 8) (by decide)]
  have e1 : n / 2 ^ 0 % 256 = n % 256 := by rw [Nat.pow_zero, Nat.div_one]
  have e2 : n / 2 ^ 8 % 256 = n / 256 := by omega
  rw [e1, e2]
theorem rLe2 {n : Nat} (h : n < 65536) : ref01_Le.f 60000 (n : Int) 2 = some [((n % 256 : Nat) : Int), ((n / 256 : Nat) : Int)] := by
  have h1 : ref01_Le.f 60000 (n : Int) 2 = some [iconv .u8 (iand .u64 (n : Int) 255), iconv .u8 (iand .u64 (ishr .u64 (n : Int) 8) 255)] := by kernel_rfl
  have lo : ∀ m : Nat, m < 2 ^ 64 → iconv .u8 (iand .u64 (m : Int) 255) = ((m % 256 : Nat) : Int) := fun m hm => by
    have h1 := iand_nat (k := .u64) (x := m) (y := 255) hm (by decide)
    have h2 : iand .u64 (m : Int) 255 = ((m &&& 255 : Nat) : Int) := h1
    rw [h2, cv8, show (255 : Nat) = 2 ^ 8 - 1 from rfl, Nat.and_two_pow_sub_one_eq_mod]
    congr 1
    omega
  have s : ishr .u64 (n : Int) 8 = ((n / 256 : Nat) : Int) := ishr_nat (k := .u64) (n := 8) (by decide)
  rw [h1, s, lo n (by omega), lo (n / 256) (by omega), show n / 256 % 256 = n / 256 by omega]
/-! ### small numbers -/
/-- what four bits tell -/
def hv (e t w x : Int) : List Int := if x < w then [(e - x % t + 8380417) % 8380417] else []
def cnd (e t w : Int) : List Int → List Int
  | [] => []
  | x :: l => hv e t w (x % 16) ++ (hv e t w (x / 16) ++ cnd e t w l)
abbrev SS := Arr 256 × Int
def fillE : SS → List Int → SS ⊕ SS
  | p, [] => .inl p
  | p, x :: l => if p.2 + 1 < 256 then fillE (wr p.1 p.2 x, p.2 + 1) l else .inr (wr p.1 p.2 x, p.2 + 1)
theorem fillE_eq : ∀ (l : List Int) (a : Arr 256) (n : Nat), n < 256 → fillE (a, (n : Int)) l = if (fillP (a, n) l).2 < 256 then .inl ((fillP (a, n) l).1, ((fillP (a, n) l).2 : Int)) else .inr ((fillP (a, n) l).1, ((fillP (a, n) l).2 : Int))
  | [], a, n, h => by
    show _ = if n < 256 then _ else _
    rw [if_pos h]
    rfl
  | x :: l, a, n, h => by
    have hf : fillP (a, n) (x :: l) = fillP (wr a (n : Int) x, n + 1) l := by
      show (if n < 256 then _ else _) = _
      rw [if_pos h]
    rw [hf]
    show (if (n : Int) + 1 < 256 then fillE (wr a (n : Int) x, (n : Int) + 1) l else .inr (wr a (n : Int) x, (n : Int) + 1)) = _
    by_cases h1 : n + 1 < 256
    · rw [if_pos (by omega)]
      exact fillE_eq l _ (n + 1) h1
    · rw [if_neg (by omega), fillP_full (p := (wr a (n : Int) x, n + 1)) h1, if_neg h1]
      rfl
def sSt (e t w : Int) (s : SS) (x : Int) : SS ⊕ SS := fillE s (hv e t w (x % 16) ++ hv e t w (x / 16))
def sP (s : SS) : Prop := 0 ≤ s.2 ∧ s.2 < 256
theorem sP_st (e t w : Int) (s : SS) (x : Int) (s' : SS) (h : sP s) (hx : 0 ≤ x ∧ x ≤ 255) (q : sSt e t w s x = .inl s') : sP s' := by
  obtain ⟨a, n⟩ := s
  obtain ⟨h0, h1⟩ := h
  obtain ⟨m, rfl⟩ : ∃ m : Nat, n = (m : Int) := ⟨n.toNat, by omega⟩
  have hm : m < 256 := by simp only at h1; omega
  unfold sSt at q
  rw [fillE_eq _ a m hm] at q
  by_cases hc : (fillP (a, m) (hv e t w (x % 16) ++ hv e t w (x / 16))).2 < 256
  · rw [if_pos hc] at q
    have q := Sum.inl.inj q
    subst q
    exact ⟨by show (0 : Int) ≤ _; omega, by show ((_ : Nat) : Int) < 256; omega⟩
  · rw [if_neg hc] at q
    cases q
theorem run_small (e t w : Int) : ∀ (l : List Int) (a : Arr 256) (n : Nat), n < 256 →
    run (sSt e t w) (a, (n : Int)) l = if (fillP (a, n) (cnd e t w l)).2 < 256 then .inl ((fillP (a, n) (cnd e t w l)).1, ((fillP (a, n) (cnd e t w l)).2 : Int)) else .inr ((fillP (a, n) (cnd e t w l)).1, ((fillP (a, n) (cnd e t w l)).2 : Int))
  | [], a, n, h => by
    show _ = if n < 256 then _ else _
    rw [if_pos h]
    rfl
  | x :: l, a, n, h => by
    have e1 := fillE_eq (hv e t w (x % 16) ++ hv e t w (x / 16)) a n h
    have ec : fillP (a, n) (cnd e t w (x :: l)) = fillP (fillP (a, n) (hv e t w (x % 16) ++ hv e t w (x / 16))) (cnd e t w l) := by
      rw [← fillP_app, List.append_assoc]
      rfl
    obtain ⟨p, ep⟩ : ∃ p, p = fillP (a, n) (hv e t w (x % 16) ++ hv e t w (x / 16)) := ⟨_, rfl⟩
    rw [← ep] at e1 ec
    rw [ec]
    have es : sSt e t w (a, (n : Int)) x = if p.2 < 256 then .inl (p.1, (p.2 : Int)) else .inr (p.1, (p.2 : Int)) := e1
    rw [run_cons, es]
    by_cases hp : p.2 < 256
    · rw [if_pos hp]
      exact run_small e t w l p.1 p.2 hp
    · rw [if_neg hp, fillP_full hp, if_neg hp]
/-- the two kinds -/
def Kd (e t w : Int) : Prop := (e = 2 ∧ t = 5 ∧ w = 15) ∨ (e = 4 ∧ t = 9 ∧ w = 9)
theorem low4 {x : Int} (h : 0 ≤ x ∧ x ≤ 255) : iconv .i32 (iand .u8 x 15) = x % 16 := by
  obtain ⟨m, rfl⟩ : ∃ m : Nat, x = (m : Int) := ⟨x.toNat, by omega⟩
  have := iand_nat (k := .u8) (x := m) (y := 15) (show m < 2 ^ 8 by omega) (by decide)
  rw [show (15 : Nat) = 2 ^ 4 - 1 from rfl, Nat.and_two_pow_sub_one_eq_mod] at this
  have e : iand .u8 (m : Int) 15 = ((m % 2 ^ 4 : Nat) : Int) := this
  rw [e]
  unfold iconv
  rw [w32]
  omega
theorem high4 {x : Int} (h : 0 ≤ x ∧ x ≤ 255) : iconv .i32 (ishr .u8 x 4) = x / 16 := by
  obtain ⟨m, rfl⟩ : ∃ m : Nat, x = (m : Int) := ⟨x.toNat, by omega⟩
  have e : ishr .u8 (m : Int) 4 = ((m / 2 ^ 4 : Nat) : Int) := ishr_nat (k := .u8) (n := 4) (by decide)
  rw [e]
  unfold iconv
  rw [w32]
  omega
theorem small_val {e t w x : Int} (hk : Kd e t w) (h0 : 0 ≤ x) (h1 : x < 16) : isub .i32 e (irem .i32 x t) = e - x % t ∧ -8380417 ≤ e - x % t ∧ e - x % t < 8380417 ∧ ¬ t = 0 := by
  have hr : irem .i32 x t = x % t := by
    unfold irem
    exact Int.tmod_eq_emod_of_nonneg h0
  rw [hr]
  unfold isub
  rw [w32]
  rcases hk with ⟨rfl, rfl, rfl⟩ | ⟨rfl, rfl, rfl⟩ <;> (refine ⟨?_, ?_, ?_, by decide⟩ <;> omega)
theorem small_l1 {e t w : Int} (hk : Kd e t w) {b : List Int} (hb : Byt b) (lb : b.length ≤ 136) (s : SS) (hs : sP s) : dsamp_Small.l1 60000 60000 e t w b 0 s.1 s.2 = some (run (sSt e t w) s b) := by
  have key := loop1 (st := sSt e t w) (P := sP) (sP_st e t w) (fun k i s => dsamp_Small.l1 60000 k e t w b i s.1 s.2) hb (fun k i s h => by
      simp only [dsamp_Small.l1, h, if_false]) (fun k i s h hs => by
    obtain ⟨a, n⟩ := s
    obtain ⟨h2, h3⟩ := hs
    have c0 : (i : Int) < ((b.length : Nat) : Int) := by omega
    have c1 : (0 : Int) ≤ (i : Int) := by omega
    have hx := hb _ (List.getElem_mem h)
    obtain ⟨m, rfl⟩ : ∃ m : Nat, n = (m : Int) := ⟨n.toNat, by simp only at h2; omega⟩
    have hm : m < 256 := by simp only at h3; omega
    have ei := ginc (i := i) (by omega)
    have el := low4 hx
    have eh := high4 hx
    obtain ⟨u, eu⟩ : ∃ u, u = b[i] % 16 := ⟨_, rfl⟩
    obtain ⟨v, ev⟩ : ∃ v, v = b[i] / 16 := ⟨_, rfl⟩
    obtain ⟨s1, s2, s3, t0⟩ := small_val (x := u) hk (by omega) (by omega)
    obtain ⟨r1, r2, r3, _⟩ := small_val (x := v) hk (by omega) (by omega)
    have p1 := fun (a : Arr 256) (m : Nat) (hm : m < 256) => put_eq23 (a := a) (n := m) (x := e - u % t) hm s2 s3
    have p2 := fun (a : Arr 256) (m : Nat) (hm : m < 256) => put_eq23 (a := a) (n := m) (x := e - v % t) hm r2 r3
    have est : sSt e t w (a, (m : Int)) b[i] = fillE (a, (m : Int)) (hv e t w u ++ hv e t w v) := by rw [eu, ev]; rfl
    rw [est]
    simp only [dsamp_Small.l1, c0, c1, rdL_get h, el, eh, ← eu, ← ev, s1, r1, t0, ei, if_true, not_false_eq_true, Option.bind_some]
    have hv1 : u < w → hv e t w u = [(e - u % t + 8380417) % 8380417] := fun q => if_pos q
    have hv1' : ¬ u < w → hv e t w u = [] := fun q => if_neg q
    have hv2 : v < w → hv e t w v = [(e - v % t + 8380417) % 8380417] := fun q => if_pos q
    have hv2' : ¬ v < w → hv e t w v = [] := fun q => if_neg q
    have f1 : ∀ (a : Arr 256) (m : Nat) (x : Int) (l : List Int), fillE (a, (m : Int)) (x :: l) = if m + 1 < 256 then fillE (wr a (m : Int) x, ((m + 1 : Nat) : Int)) l else .inr (wr a (m : Int) x, ((m + 1 : Nat) : Int)) := fun a m x l => by
      show (if (m : Int) + 1 < 256 then _ else _) = _
      by_cases q : m + 1 < 256
      · rw [if_pos (show (m : Int) + 1 < 256 by omega), if_pos q]; rfl
      · rw [if_neg (show ¬ (m : Int) + 1 < 256 by omega), if_neg q]; rfl
    have f0 : ∀ p : SS, fillE p [] = .inl p := fun p => rfl
    by_cases hu : u < w
    · rw [if_pos hu, p1 a m hm, hv1 hu, List.singleton_append, f1]
      simp only [Option.bind_some]
      by_cases q : m + 1 < 256
      · rw [decide_eq_true q, if_pos rfl, if_pos q]
        by_cases hw : v < w
        · rw [if_pos hw, p2 _ (m + 1) q, hv2 hw, f1]
          simp only [Option.bind_some, f0]
          by_cases q2 : m + 1 + 1 < 256
          · rw [decide_eq_true q2, if_pos rfl, if_pos q2]; rfl
          · rw [decide_eq_false q2, if_neg (by decide), if_neg q2]; rfl
        · rw [if_neg hw, hv2' hw, f0]; rfl
      · rw [decide_eq_false q, if_neg (by decide), if_neg q]; rfl
    · rw [if_neg hu, hv1' hu, List.nil_append]
      by_cases hw : v < w
      · rw [if_pos hw, p2 a m hm, hv2 hw, f1]
        simp only [Option.bind_some, f0]
        by_cases q2 : m + 1 < 256
        · rw [decide_eq_true q2, if_pos rfl, if_pos q2]; rfl
        · rw [decide_eq_false q2, if_neg (by decide), if_neg q2]; rfl
      · rw [if_neg hw, hv2' hw, f0]; rfl)
  have := key b.length 0 60000 s (by omega) (by omega) hs
  rw [List.drop_zero] at this
  exact this
theorem seed_len {seed : List Int} (ls : seed.length ≤ 300) (n : Nat) : (seed ++ [((n % 256 : Nat) : Int), ((n / 256 : Nat) : Int)]).length ≤ 900 := by
  rw [List.length_append]
  show seed.length + 2 ≤ 900
  omega
/-- the text that a number's seed is -/
def sdt (seed : List Int) (n : Nat) : List Int := seed ++ [((n % 256 : Nat) : Int), ((n / 256 : Nat) : Int)]
theorem kSpn {seed : List Int} (ls : seed.length ≤ 300) (n : Nat) : dsamp_sponge.f 60000 7 [seed, [((n % 256 : Nat) : Int), ((n / 256 : Nat) : Int)]] = some (tupA 7 (absV 7 (zeroA 25, 0) false (sdt seed n)) false) := by
  have h := sponge_eq 7 (by decide) (W := [seed, [((n % 256 : Nat) : Int), ((n / 256 : Nat) : Int)]]) (by show 2 < 1000; decide) (by simp; omega)
  rw [h]
  unfold sdt
  simp
def smlV (e t w : Int) (bs : List Int) : Arr 256 × Int := if (fillP (zeroA 256, 0) (cnd e t w bs)).2 < 256 then (zeroA 256, 12) else ((fillP (zeroA 256, 0) (cnd e t w bs)).1, 0)
theorem cvu64 {n : Nat} (h : n < 65536) : iconv .u64 (n : Int) = (n : Int) := by unfold iconv; rw [wu64]; omega
theorem kSmall {e t w : Int} (hk : Kd e t w) {seed : List Int} (ls : seed.length ≤ 300) {n : Nat} (hn : n < 65536) : dsamp_Small.f 60000 seed (n : Int) e = some (smlV e t w (sqV 7 (absV 7 (zeroA 25, 0) false (sdt seed n)) false 4096).1) := by
  obtain ⟨S, eS⟩ : ∃ S, S = absV 7 (zeroA 25, 0) false (sdt seed n) := ⟨_, rfl⟩
  have fS : FitS 7 S false := by rw [eS]; exact fit_sponge (by decide) _
  have sp := kSpn ls n
  rw [← eS] at sp
  rw [← eS]
  have key := loop0 (st := sSt e t w) (P := sP) (sP_st e t w) 7 (fun k left s o v => dsamp_Small.l0 60000 k e t w left 7 s.1 (s.2 : Int) o v.1 v.2) (fun s o v => ((7 : Int), s.1, (s.2 : Int), o, v)) (fun k left s o v h => by
      simp only [dsamp_Small.l0, h, if_false]) (fun k left s o v h0 h1 hs hv => by
    have q := kSq 7 s o hs (imin 136 left) (by rw [imin136]; split <;> omega)
    have l := small_l1 hk (sqv_byt 7 s o (imin 136 left)) (by rw [sqv_len, imin136]; split <;> omega) v hv
    have e : isub .i64 left 136 = left - 136 := sub64 (by omega) (by omega)
    simp only [dsamp_Small.l0, h0, if_true]
    rw [q]
    simp only [Option.bind_some]
    rw [l]
    simp only [Option.bind_some, e]
    cases run (sSt _ t w) v (sqV 7 s o (imin 136 left)).1 with
    | inl v' => rfl
    | inr r => rfl)
  obtain ⟨s', o', e1⟩ := key 31 60000 4096 S false (zeroA 256, 0) (by decide) (by decide) (by decide) fS ⟨by decide, by decide⟩
  have rv := run_small e t w (sqV 7 S false 4096).1 (zeroA 256) 0 (by decide)
  have rv' : run (sSt e t w) (zeroA 256, 0) (sqV 7 S false 4096).1 = _ := rv
  rw [rv'] at e1
  unfold smlV
  obtain ⟨p, ep⟩ : ∃ p, p = fillP (zeroA 256, 0) (cnd e t w (sqV 7 S false 4096).1) := ⟨_, rfl⟩
  rw [← ep] at e1
  rw [← ep]
  have e' : dsamp_Small.l0 60000 60000 e t w 4096 7 S.1 (S.2 : Int) false (zeroA 256) 0 = _ := e1
  have d := done_eq23 p
  have hkk : ((if e = 2 then (some (.inl (5, 15, (zeroA 256)))) else (if e = 4 then (some (.inl (9, 9, (zeroA 256)))) else (some (.inr ((zeroA 256), 8)))) : Option ((Int × Int × (Arr 256)) ⊕ ((Arr 256) × Int)))) = some (.inl (t, w, zeroA 256)) := by
    rcases hk with ⟨rfl, rfl, rfl⟩ | ⟨rfl, rfl, rfl⟩ <;> rfl
  unfold dsamp_Small.f
  rw [hkk]
  simp only [Option.bind_some]
  rw [cvu64 hn, kLe2 hn, Option.bind_some, sp]
  show (((dsamp_Small.l0 60000 60000 e t w 4096 7 S.1 (S.2 : Int) false (zeroA 256) 0).bind _).bind _) = _
  rw [e']
  by_cases h : p.2 < 256
  · rw [if_pos h] at d
    rw [if_pos h, if_pos h]
    show ((dsamp_filler_done.f 60000 p.1 (p.2 : Int)).bind _) = _
    rw [d]
    rfl
  · rw [if_neg h] at d
    rw [if_neg h, if_neg h]
    show ((dsamp_filler_done.f 60000 p.1 (p.2 : Int)).bind _) = _
    rw [d]
    rfl
/-! ### by the document -/
theorem half_eq {e t w x : Int} (hk : Kd e t w) (h0 : 0 ≤ x) (h1 : x < 16) : ref23_half.f 60000 x e = some (if x < w then ((e - x % t + 8380417) % 8380417, true) else (0, false)) := by
  rcases hk with ⟨rfl, rfl, rfl⟩ | ⟨rfl, rfl, rfl⟩
  · have hr : irem .i32 x 5 = x % 5 := by unfold irem; exact Int.tmod_eq_emod_of_nonneg h0
    have hq : irem .i32 (iadd .i32 (isub .i32 2 (irem .i32 x 5)) 8380417) 8380417 = (2 - x % 5 + 8380417) % 8380417 := by
      have : isub .i32 2 (irem .i32 x 5) = 2 - x % 5 := by rw [hr]; unfold isub; rw [w32]; omega
      rw [this, qmod (by omega) (by omega)]
    unfold ref23_half.f
    by_cases hx : x < 15
    · rw [if_pos rfl, if_pos hx, if_pos hx, hq]
      rfl
    · rw [if_pos rfl, if_neg hx, if_neg hx]
      rfl
  · have hq : x < 9 → irem .i32 (iadd .i32 (isub .i32 4 x) 8380417) 8380417 = (4 - x % 9 + 8380417) % 8380417 := fun hx => by
      have : isub .i32 4 x = 4 - x := by unfold isub; rw [w32]; omega
      rw [this, qmod (by omega) (by omega), show x % 9 = x by omega]
    unfold ref23_half.f
    by_cases hx : x < 9
    · rw [if_neg (by decide), if_pos hx, if_pos rfl, if_pos hx, hq hx]
      rfl
    · rw [if_neg (by decide), if_neg hx, if_pos rfl, if_neg hx]
      rfl
theorem nib_step {e t w : Int} (hk : Kd e t w) {b : List Int} (hb : Byt b) (lb : b.length ≤ 14000) {i r : Nat} (hi : i < b.length) (hr : r < 2) (k n : Nat) (hn : n ≤ 256) (a : Arr 256) (v : Int) (ev : v = if r = 0 then b[i] % 16 else b[i] / 16) :
    ref23_small.l0 60000 (k + 1) e ((b.length : Nat) : Int) b (n : Int) ((2 * i + r : Nat) : Int) a = if n < 256 then ref23_small.l0 60000 k e ((b.length : Nat) : Int) b ((fillP (a, n) (hv e t w v)).2 : Int) ((2 * i + r + 1 : Nat) : Int) (fillP (a, n) (hv e t w v)).1 else some ((n : Int), a) := by
  have hx := hb _ (List.getElem_mem hi)
  have m2 : imul .i64 2 ((b.length : Nat) : Int) = ((2 * b.length : Nat) : Int) := by unfold imul; rw [id64 (by omega) (by omega)]; omega
  have c0 : ((2 * i + r : Nat) : Int) < ((2 * b.length : Nat) : Int) := by omega
  by_cases h : n < 256
  · rw [if_pos h]
    have c1 : (n : Int) < 256 := by omega
    have c1' : (0 : Int) ≤ (n : Int) := by omega
    have q : iquo .i64 ((2 * i + r : Nat) : Int) 2 = (i : Int) := by
      unfold iquo
      rw [tdivN (by omega), id64 (by omega) (by omega)]
      omega
    have c2 : (0 : Int) ≤ (i : Int) := by omega
    have c3 : (i : Int) < ((b.length : Nat) : Int) := by omega
    have cx : iconv .i32 b[i] = b[i] := by unfold iconv; rw [w32]; omega
    have hv4 : ((if irem .i64 ((2 * i + r : Nat) : Int) 2 = 0 then some (irem .i32 b[i] 16) else some (iquo .i32 b[i] 16) : Option Int)) = some v := by
      have er : irem .i64 ((2 * i + r : Nat) : Int) 2 = (r : Int) := by
        unfold irem
        rw [Int.tmod_eq_emod_of_nonneg (by omega)]
        omega
      have e1 : irem .i32 b[i] 16 = b[i] % 16 := by unfold irem; rw [Int.tmod_eq_emod_of_nonneg hx.1]
      have e2 : iquo .i32 b[i] 16 = b[i] / 16 := by unfold iquo; rw [tdivN hx.1, w32]; omega
      rw [er, e1, e2]
      rcases (show r = 0 ∨ r = 1 by omega) with h | h
      · subst h
        rw [ev, if_pos rfl]
        rfl
      · subst h
        rw [ev, if_neg (by decide)]
        rfl
    have v0 : 0 ≤ v ∧ v < 16 := by rw [ev]; split <;> omega
    have hf := half_eq hk v0.1 v0.2
    have ei : iadd .i64 ((2 * i + r : Nat) : Int) 1 = ((2 * i + r + 1 : Nat) : Int) := ginc (by omega)
    simp only [ref23_small.l0, m2, c0, c1, c1', q, c2, c3, rdL_get hi, cx, hv4, hf, ei, if_true, Option.bind_some]
    unfold hv
    by_cases hw : v < w
    · have f1 : fillP (a, n) [(e - v % t + 8380417) % 8380417] = (wr a (n : Int) ((e - v % t + 8380417) % 8380417), n + 1) := by
        show (if n < 256 then _ else _) = _
        rw [if_pos h]
        rfl
      simp only [hw, f1, if_true, Option.bind_some, ginc (i := n) (by omega)]
    · simp only [hw, if_false, Bool.false_eq_true, Option.bind_some]
      rfl
  · rw [if_neg h]
    have c1 : ¬ (n : Int) < 256 := by omega
    simp only [ref23_small.l0, m2, c0, c1, if_true, if_false]
theorem rSmall_l0 {e t w : Int} (hk : Kd e t w) {b : List Int} (hb : Byt b) (lb : b.length ≤ 14000) : ∀ (m i k n : Nat) (a : Arr 256), i + m = b.length → 2 * m < k → n ≤ 256 →
    ref23_small.l0 60000 k e ((b.length : Nat) : Int) b (n : Int) ((2 * i : Nat) : Int) a = some (((fillP (a, n) (cnd e t w (b.drop i))).2 : Int), (fillP (a, n) (cnd e t w (b.drop i))).1) := by
  intro m
  induction m with
  | zero =>
    intro i k n a hi hk2 hn
    obtain ⟨k, rfl⟩ : ∃ q, k = q + 1 := ⟨k - 1, by omega⟩
    have m2 : imul .i64 2 ((b.length : Nat) : Int) = ((2 * b.length : Nat) : Int) := by unfold imul; rw [id64 (by omega) (by omega)]; omega
    have c : ¬ ((2 * i : Nat) : Int) < ((2 * b.length : Nat) : Int) := by omega
    rw [List.drop_of_length_le (by omega)]
    simp only [ref23_small.l0, m2, c, if_false]
    rfl
  | succ m ih =>
    intro i k n a hi hk2 hn
    obtain ⟨k, rfl⟩ : ∃ q, k = q + 1 + 1 := ⟨k - 2, by omega⟩
    have hil : i < b.length := by omega
    have s1 : ref23_small.l0 60000 (k + 1 + 1) e ((b.length : Nat) : Int) b (n : Int) ((2 * i : Nat) : Int) a = if n < 256 then ref23_small.l0 60000 (k + 1) e ((b.length : Nat) : Int) b ((fillP (a, n) (hv e t w (b[i] % 16))).2 : Int) ((2 * i + 1 : Nat) : Int) (fillP (a, n) (hv e t w (b[i] % 16))).1 else some ((n : Int), a) := nib_step hk hb lb hil (r := 0) (by decide) (k + 1) n hn a (b[i] % 16) rfl
    rw [s1, List.drop_eq_getElem_cons hil]
    show _ = some (((fillP (a, n) (hv e t w (b[i] % 16) ++ (hv e t w (b[i] / 16) ++ cnd e t w (b.drop (i + 1))))).2 : Int), (fillP (a, n) (hv e t w (b[i] % 16) ++ (hv e t w (b[i] / 16) ++ cnd e t w (b.drop (i + 1))))).1)
    rw [fillP_app]
    by_cases h : n < 256
    · rw [if_pos h]
      obtain ⟨p, ep⟩ : ∃ p, p = fillP (a, n) (hv e t w (b[i] % 16)) := ⟨_, rfl⟩
      have hp : p.2 ≤ 256 := by rw [ep]; exact fillP_le _ _ hn
      rw [← ep]
      have s2 := nib_step hk hb lb hil (r := 1) (by decide) k p.2 hp p.1 (b[i] / 16) rfl
      rw [s2, fillP_app]
      by_cases h2 : p.2 < 256
      · rw [if_pos h2]
        have hq : (fillP p (hv e t w (b[i] / 16))).2 ≤ 256 := fillP_le _ _ hp
        have := ih (i + 1) k (fillP p (hv e t w (b[i] / 16))).2 (fillP p (hv e t w (b[i] / 16))).1 (by omega) (by omega) hq
        rw [show 2 * i + 1 + 1 = 2 * (i + 1) by omega]
        exact this
      · rw [if_neg h2, fillP_full h2, fillP_full h2]
    · rw [if_neg h, fillP_full (p := (a, n)) h, fillP_full (p := (a, n)) h]
theorem cnd_app (e t w : Int) : ∀ (x y : List Int), cnd e t w (x ++ y) = cnd e t w x ++ cnd e t w y
  | [], _ => rfl
  | a :: x, y => by
    show hv e t w (a % 16) ++ (hv e t w (a / 16) ++ cnd e t w (x ++ y)) = (hv e t w (a % 16) ++ (hv e t w (a / 16) ++ cnd e t w x)) ++ cnd e t w y
    rw [cnd_app e t w x y, List.append_assoc, List.append_assoc]
theorem rsmall_eq {e t w : Int} (hk : Kd e t w) {seed : List Int} (ls : seed.length ≤ 900) {n : Nat} (h : n ≤ 14000) : ref23_small.f 60000 seed e (n : Int) = some ((fillP (zeroA 256, 0) (cnd e t w (sqV 7 (absV 7 (zeroA 25, 0) false seed) false (n : Int)).1)).1, ((fillP (zeroA 256, 0) (cnd e t w (sqV 7 (absV 7 (zeroA 25, 0) false seed) false (n : Int)).1)).2 : Int)) := by
  have s := sum_eq 7 (by decide) ls (n := (n : Int)) (by omega) (by omega)
  have lb := sqv_len 7 (absV 7 (zeroA 25, 0) false seed) false (n : Int)
  have bb := sqv_byt 7 (absV 7 (zeroA 25, 0) false seed) false (n : Int)
  obtain ⟨b, eb⟩ : ∃ b, b = (sqV 7 (absV 7 (zeroA 25, 0) false seed) false (n : Int)).1 := ⟨_, rfl⟩
  rw [← eb] at s lb bb
  rw [← eb]
  rw [Int.toNat_natCast] at lb
  have l := rSmall_l0 hk bb (by omega) n 0 60000 0 (zeroA 256) (by omega) (by omega) (by decide)
  rw [lb, List.drop_zero] at l
  have l' : ref23_small.l0 60000 60000 e (n : Int) b 0 0 (zeroA 256) = _ := l
  unfold ref23_small.f
  rw [s]
  simp only [Option.bind_some]
  rw [l']
  rfl
theorem rSmall {e t w : Int} (hk : Kd e t w) {seed : List Int} (ls : seed.length ≤ 300) {n : Nat} (hn : n < 65536) : ref23_Small.f 60000 seed (n : Int) e = some (smlV e t w (sqV 7 (absV 7 (zeroA 25, 0) false (sdt seed n)) false 4096).1) := by
  have jn := join2 seed [((n % 256 : Nat) : Int), ((n / 256 : Nat) : Int)] (by show seed.length + 2 ≤ _; omega)
  have v1 := rsmall_eq hk (seed_len ls n) (n := 408) (by decide)
  have v2 := rsmall_eq hk (seed_len ls n) (n := 4096) (by decide)
  have et := sqv_take 7 (absV 7 (zeroA 25, 0) false (sdt seed n)) false (n := ((408 : Nat) : Int)) (m := ((4096 : Nat) : Int)) (by decide) (by decide)
  have er : ∃ r, cnd e t w (sqV 7 (absV 7 (zeroA 25, 0) false (sdt seed n)) false ((4096 : Nat) : Int)).1 = cnd e t w (sqV 7 (absV 7 (zeroA 25, 0) false (sdt seed n)) false ((408 : Nat) : Int)).1 ++ r := by
    rw [et, cnd_app]
    exact ⟨_, rfl⟩
  obtain ⟨r, er⟩ := er
  obtain ⟨p, ep⟩ : ∃ p, p = fillP (zeroA 256, 0) (cnd e t w (sqV 7 (absV 7 (zeroA 25, 0) false (sdt seed n)) false ((408 : Nat) : Int)).1) := ⟨_, rfl⟩
  obtain ⟨q, eq⟩ : ∃ q, q = fillP (zeroA 256, 0) (cnd e t w (sqV 7 (absV 7 (zeroA 25, 0) false (sdt seed n)) false ((4096 : Nat) : Int)).1) := ⟨_, rfl⟩
  have more : ¬ p.2 < 256 → q = p := fun h => by rw [ep, eq]; exact fill_more er (by rw [← ep]; exact h)
  have v1' : ref23_small.f 60000 (seed ++ [((n % 256 : Nat) : Int), ((n / 256 : Nat) : Int)]) e 408 = some (p.1, (p.2 : Int)) := by rw [ep]; exact v1
  have v2' : ref23_small.f 60000 (seed ++ [((n % 256 : Nat) : Int), ((n / 256 : Nat) : Int)]) e 4096 = some (q.1, (q.2 : Int)) := by rw [eq]; exact v2
  have eV : smlV e t w (sqV 7 (absV 7 (zeroA 25, 0) false (sdt seed n)) false 4096).1 = if q.2 < 256 then (zeroA 256, 12) else (q.1, 0) := by rw [eq]; rfl
  have hkk : ((if e = 2 then (some (.inl (zeroA 256))) else (if e = 4 then (some (.inl (zeroA 256))) else (some (.inr ((zeroA 256), 8)))) : Option (((Arr 256)) ⊕ ((Arr 256) × Int)))) = some (.inl (zeroA 256)) := by
    rcases hk with ⟨rfl, rfl, rfl⟩ | ⟨rfl, rfl, rfl⟩ <;> rfl
  rw [eV]
  unfold ref23_Small.f
  rw [hkk]
  simp only [Option.bind_some]
  rw [cvu64 hn, rLe2 hn, Option.bind_some, jn, Option.bind_some, v1']
  simp only [Option.bind_some]
  by_cases h : p.2 < 256
  · rw [if_pos (show (p.2 : Int) < 256 by omega)]
    simp only [jn, v2', Option.bind_some]
    by_cases h2 : q.2 < 256
    · rw [if_pos (show (q.2 : Int) < 256 by omega), if_pos h2]
    · rw [if_neg (show ¬ (q.2 : Int) < 256 by omega), if_neg h2]
  · rw [if_neg (show ¬ (p.2 : Int) < 256 by omega), more h]
    simp only [Option.bind_some]
    rw [if_neg (show ¬ (p.2 : Int) < 256 by omega), if_neg h]
/-! ### great numbers -/
theorem kMask {seed : List Int} (ls : seed.length ≤ 300) {n : Nat} (hn : n < 65536) {m : Int} {z : Nat} (hz : m = 131072 ∧ z = 18 ∨ m = 524288 ∧ z = 20) :
    dsamp_Mask.f 60000 seed (n : Int) m = some ((unpS (isub .i32 m 1) m (sqV 7 (absV 7 (zeroA 25, 0) false (sdt seed n)) false ((32 * z : Nat) : Int)).1).1, 0) := by
  have fS : FitS 7 (absV 7 (zeroA 25, 0) false (sdt seed n)) false := fit_sponge (by decide) _
  have sp := kSpn ls n
  have q := kSq 7 (absV 7 (zeroA 25, 0) false (sdt seed n)) false fS ((32 * z : Nat) : Int) (by omega)
  have u := dUnpack 60000 (by decide) (sqV 7 (absV 7 (zeroA 25, 0) false (sdt seed n)) false ((32 * z : Nat) : Int)).1 (sqv_byt _ _ _ _) (by rw [sqv_len]; omega) (isub .i32 m 1) m
  have hkk : ((if m = 131072 then (some (.inl (18, (zeroA 256)))) else (if m = 524288 then (some (.inl (20, (zeroA 256)))) else (some (.inr ((zeroA 256), 8)))) : Option ((Int × (Arr 256)) ⊕ ((Arr 256) × Int)))) = some (.inl ((z : Int), zeroA 256)) := by
    rcases hz with ⟨rfl, rfl⟩ | ⟨rfl, rfl⟩ <;> rfl
  have em : imul .i64 32 (z : Int) = ((32 * z : Nat) : Int) := by unfold imul; rw [id64 (by omega) (by omega)]; omega
  unfold dsamp_Mask.f
  rw [hkk]
  simp only [Option.bind_some]
  rw [cvu64 hn, kLe2 hn, Option.bind_some, sp]
  show ((keccak_Squeeze.f 60000 7 (absV 7 (zeroA 25, 0) false (sdt seed n)).1 ((absV 7 (zeroA 25, 0) false (sdt seed n)).2 : Int) false (imul .i64 32 (z : Int))).bind _) = _
  rw [em, q]
  simp only [Option.bind_some]
  rw [u]
  rfl
theorem rMask {seed : List Int} (ls : seed.length ≤ 300) {n : Nat} (hn : n < 65536) {m : Int} {z : Nat} (hz : m = 131072 ∧ z = 18 ∨ m = 524288 ∧ z = 20) :
    ref23_Mask.f 60000 seed (n : Int) m = some ((unpS (isub .i32 m 1) m (sqV 7 (absV 7 (zeroA 25, 0) false (sdt seed n)) false ((32 * z : Nat) : Int)).1).1, 0) := by
  have jn := join2 seed [((n % 256 : Nat) : Int), ((n / 256 : Nat) : Int)] (by show seed.length + 2 ≤ _; omega)
  have s := sum_eq 7 (by decide) (seed_len ls n) (n := ((32 * z : Nat) : Int)) (by omega) (by omega)
  have s' : ref08_Sum.f 60000 7 (seed ++ [((n % 256 : Nat) : Int), ((n / 256 : Nat) : Int)]) ((32 * z : Nat) : Int) = some ((sqV 7 (absV 7 (zeroA 25, 0) false (sdt seed n)) false ((32 * z : Nat) : Int)).1, 0) := s
  have u := rUnpack 60000 (by decide) (sqV 7 (absV 7 (zeroA 25, 0) false (sdt seed n)) false ((32 * z : Nat) : Int)).1 (sqv_byt _ _ _ _) (by rw [sqv_len]; omega) (isub .i32 m 1) m
  have hkk : ((if m = 131072 then (some (.inl (zeroA 256))) else (if m = 524288 then (some (.inl (zeroA 256))) else (some (.inr ((zeroA 256), 8)))) : Option (((Arr 256)) ⊕ ((Arr 256) × Int)))) = some (.inl (zeroA 256)) := by
    rcases hz with ⟨rfl, rfl⟩ | ⟨rfl, rfl⟩ <;> rfl
  have hsz : ((if m = 524288 then (some 640) else (some 576) : Option (Int))) = some ((32 * z : Nat) : Int) := by
    rcases hz with ⟨rfl, rfl⟩ | ⟨rfl, rfl⟩ <;> rfl
  unfold ref23_Mask.f
  rw [hkk]
  simp only [Option.bind_some]
  rw [hsz, Option.bind_some, cvu64 hn, rLe2 hn, Option.bind_some, jn, Option.bind_some, s']
  simp only [Option.bind_some]
  rw [u]
  rfl
end Go.Proofs.YtppohhnfojalbaaDoor
