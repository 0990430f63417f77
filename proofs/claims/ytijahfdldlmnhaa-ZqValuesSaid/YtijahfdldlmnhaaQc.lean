/- Layer 21 (zq), plain laws: values at roots; there and back. -/
import Derived.Test.YtijahfdldlmnhaaQb
set_option linter.unusedSimpArgs false
set_option linter.unusedVariables false
set_option maxRecDepth 100000
namespace Go.Proofs.Ytijahfdldlmnhaa
open Go Go.Mx
abbrev Q : Int := 8380417
def zR (i : Nat) : Int := ((1753 ^ brv8 i % 8380417 : Nat) : Int)
def gR (i : Nat) : Int := if i = 0 then 1 else - zR (3 * 2 ^ Nat.log2 i - 1 - i)
def rhoR (i : Nat) : Int := if i % 2 = 0 then zR (i / 2) else - zR (i / 2)
def iotaR (i : Nat) : Int := if i % 2 = 0 then gR (i / 2) else - gR (i / 2)
def omR (j : Nat) : Nat := 2 * brv8 j + 1
theorem ck_sq : ∀ i, i < 256 → 1 ≤ i → zR i ^ 2 % Q = rhoR i % Q := by decide +kernel
theorem ck_io : ∀ i, i < 512 → 2 ≤ i → iotaR i ^ 2 % Q = iotaR (i / 2) % Q := by decide +kernel
theorem ck_g : ∀ i, i < 256 → 1 ≤ i → gR i * zR i % Q = 1 % Q := by decide +kernel
theorem ck_om : ∀ j, j < 256 → rhoR (256 + j) % Q = ((1753 ^ omR j % 8380417 : Nat) : Int) % Q := by decide +kernel
theorem ck_iom : ∀ j, j < 256 → iotaR (256 + j) % Q = ((1753 ^ (512 - omR j) % 8380417 : Nat) : Int) % Q := by decide +kernel
theorem c_sq {i : Nat} (h : i < 256) (h1 : 1 ≤ i) : Cg Q (zR i ^ 2) (rhoR i) := .of (ck_sq i h h1)
theorem c_io {i : Nat} (h1 : 2 ≤ i) (h : i < 512) : Cg Q (iotaR i ^ 2) (iotaR (i / 2)) := .of (ck_io i h h1)
theorem c_g {i : Nat} (h : i < 256) (h1 : 1 ≤ i) : Cg Q (gR i * zR i) 1 := .of (ck_g i h h1)
theorem c_rho (i : Nat) : Cg Q (rhoR (2 * i)) (zR i) ∧ Cg Q (rhoR (2 * i + 1)) (- zR i) := by
  unfold rhoR
  rw [if_pos (by omega), if_neg (by omega), show 2 * i / 2 = i by omega, show (2 * i + 1) / 2 = i by omega]
  exact ⟨.refl _, .refl _⟩
theorem c_iota (i : Nat) : Cg Q (iotaR (2 * i)) (gR i) ∧ Cg Q (iotaR (2 * i + 1)) (- gR i) := by
  unfold iotaR
  rw [if_pos (by omega), if_neg (by omega), show 2 * i / 2 = i by omega, show (2 * i + 1) / 2 = i by omega]
  exact ⟨.refl _, .refl _⟩
theorem rd_roots {i : Nat} (h : i < 256) : rd rootsA (i : Nat) = zR i := by
  unfold rootsA
  rw [rd_mapA _ _ h]
  rfl
theorem blk_div {s b i : Nat} (h : i < 2 * s) : (b * (2 * s) + i) / (2 * s) = b ∧ (b * (2 * s) + i) % (2 * s) = i := by
  have hs : 0 < 2 * s := by omega
  rw [Nat.mul_comm b, Nat.mul_add_div hs, Nat.mul_add_mod, Nat.div_eq_of_lt h, Nat.mod_eq_of_lt h]
  exact ⟨by omega, rfl⟩
theorem blk_lt {n s b i : Nat} (hb : b < n) (h : i < 2 * s) : b * (2 * s) + i < n * (2 * s) := by
  have h1 : (b + 1) * (2 * s) ≤ n * (2 * s) := Nat.mul_le_mul_right _ hb
  rw [Nat.add_mul] at h1
  omega
theorem layU_fwd {s n : Nat} (hs : 0 < s) (hn : n * (2 * s) = 256) (hn0 : 0 < n) (hn2 : n ≤ 128) (z : Arr 256) :
    FwdL Q n s zR (fun j => rd z (j : Nat)) (fun j => rd (layU rootsA s (n - 1) n z) (j : Nat)) := by
  intro b i hb hi
  have l0 := blk_lt (s := s) (i := i) hb (by omega)
  have l1 := blk_lt (s := s) (i := s + i) hb (by omega)
  obtain ⟨d0, m0⟩ := blk_div (s := s) (b := b) (i := i) (by omega)
  obtain ⟨d1, m1⟩ := blk_div (s := s) (b := b) (i := s + i) (by omega)
  have hr : rd rootsA ((n - 1 + 1 + b : Nat) : Int) = zR (n + b) := by rw [show n - 1 + 1 + b = n + b by omega]; exact rd_roots (by omega)
  have h1 : ¬ s + i < s := by omega
  unfold layU
  dsimp only
  rw [rd_mapA _ _ (show b * (2 * s) + i < 256 by omega), rd_mapA _ _ (show b * (2 * s) + (s + i) < 256 by omega), if_pos l0, if_pos l1, d0, d1, m0, m1, if_pos hi, if_neg h1, hr,
    show b * (2 * s) + i + s = b * (2 * s) + (s + i) by omega, show b * (2 * s) + (s + i) - s = b * (2 * s) + i by omega]
  exact ⟨(Cg.mod _ _).trans ((Cg.refl _).add (Cg.mod _ _)), (Cg.mod _ _).trans ((Cg.refl _).sub (Cg.mod _ _))⟩
theorem layB_bwd {s n : Nat} (hs : 0 < s) (hn : n * (2 * s) = 256) (hn2 : n ≤ 128) (hc : ∀ b, b < n → gR (n + b) = - zR (2 * n - 1 - b)) (z : Arr 256) :
    BwdL Q n s gR (fun j => rd z (j : Nat)) (fun j => rd (layB rootsA s n n z) (j : Nat)) := by
  intro b i hb hi
  have l0 := blk_lt (s := s) (i := i) hb (by omega)
  have l1 := blk_lt (s := s) (i := s + i) hb (by omega)
  obtain ⟨d0, m0⟩ := blk_div (s := s) (b := b) (i := i) (by omega)
  obtain ⟨d1, m1⟩ := blk_div (s := s) (b := b) (i := s + i) (by omega)
  have hr : rd rootsA ((2 * n - 1 - b : Nat) : Int) = zR (2 * n - 1 - b) := rd_roots (by omega)
  have h1 : ¬ s + i < s := by omega
  unfold layB
  dsimp only
  rw [rd_mapA _ _ (show b * (2 * s) + i < 256 by omega), rd_mapA _ _ (show b * (2 * s) + (s + i) < 256 by omega), if_pos l0, if_pos l1, d1, m0, m1, if_pos hi, if_neg h1, hr,
    show b * (2 * s) + i + s = b * (2 * s) + (s + i) by omega, show b * (2 * s) + (s + i) - s = b * (2 * s) + i by omega, hc b hb]
  refine ⟨Cg.mod _ _, (Cg.mod _ _).trans (((Cg.refl _).mul (Cg.mod _ _)).trans (.of_eq ?_))⟩
  grind
theorem cj128 : ∀ b, b < 128 → gR (128 + b) = - zR (2 * 128 - 1 - b) := by decide +kernel
theorem cj64 : ∀ b, b < 64 → gR (64 + b) = - zR (2 * 64 - 1 - b) := by decide +kernel
theorem cj32 : ∀ b, b < 32 → gR (32 + b) = - zR (2 * 32 - 1 - b) := by decide +kernel
theorem cj16 : ∀ b, b < 16 → gR (16 + b) = - zR (2 * 16 - 1 - b) := by decide +kernel
theorem cj8 : ∀ b, b < 8 → gR (8 + b) = - zR (2 * 8 - 1 - b) := by decide +kernel
theorem cj4 : ∀ b, b < 4 → gR (4 + b) = - zR (2 * 4 - 1 - b) := by decide +kernel
theorem cj2 : ∀ b, b < 2 → gR (2 + b) = - zR (2 * 2 - 1 - b) := by decide +kernel
theorem cj1 : ∀ b, b < 1 → gR (1 + b) = - zR (2 * 1 - 1 - b) := by decide +kernel
/-- The values of a polynomial. -/
theorem pntt_sum (a : Arr 256) (j : Nat) (hj : j < 256) : Cg Q (rd (pntt a) (j : Nat)) (sm 256 fun t => rd a (t : Nat) * rhoR (256 + j) ^ t) := by
  have step : ∀ {n s : Nat} {V V' : Nat → Int}, n ≤ 128 → 0 < n → InvF Q (fun t => rd a (t : Nat)) rhoR n (2 * s) V → FwdL Q n s zR V V' → InvF Q (fun t => rd a (t : Nat)) rhoR (2 * n) s V' :=
    fun {n s V V'} h1 h2 hi hl => fwd_step hi hl (fun b hb => c_sq (by omega) (by omega)) (fun b hb => c_rho (n + b))
  have i0 := invF_start (M := Q) (fun t => rd a (t : Nat)) rhoR 256
  have i1 := step (n := 1) (s := 128) (by decide) (by decide) i0 (layU_fwd (by decide) (by decide) (by decide) (by decide) _)
  have i2 := step (n := 2) (s := 64) (by decide) (by decide) i1 (layU_fwd (by decide) (by decide) (by decide) (by decide) _)
  have i3 := step (n := 4) (s := 32) (by decide) (by decide) i2 (layU_fwd (by decide) (by decide) (by decide) (by decide) _)
  have i4 := step (n := 8) (s := 16) (by decide) (by decide) i3 (layU_fwd (by decide) (by decide) (by decide) (by decide) _)
  have i5 := step (n := 16) (s := 8) (by decide) (by decide) i4 (layU_fwd (by decide) (by decide) (by decide) (by decide) _)
  have i6 := step (n := 32) (s := 4) (by decide) (by decide) i5 (layU_fwd (by decide) (by decide) (by decide) (by decide) _)
  have i7 := step (n := 64) (s := 2) (by decide) (by decide) i6 (layU_fwd (by decide) (by decide) (by decide) (by decide) _)
  have i8 := step (n := 128) (s := 1) (by decide) (by decide) i7 (layU_fwd (by decide) (by decide) (by decide) (by decide) _)
  have := i8 j 0 hj (by decide)
  simp only [Nat.mul_one, Nat.add_zero] at this
  exact this
theorem nttB_sum (a : Arr 256) (k : Nat) (hk : k < 256) : Cg Q (rd (nttB rootsA a) (k : Nat)) (sm 256 fun j => rd a (j : Nat) * iotaR (256 + j) ^ k) := by
  have step : ∀ {n s : Nat} {V V' : Nat → Int}, (∃ l, s = 2 ^ l) → 256 = n * (2 * s) → InvB Q (fun t => rd a (t : Nat)) iotaR 256 (2 * n) s V → BwdL Q n s gR V V' → InvB Q (fun t => rd a (t : Nat)) iotaR 256 n (2 * s) V' :=
    fun {n s V V'} h1 h2 hi hl => bwd_step hi hl h1 h2 (fun i h1 h2 => c_io h1 h2) (fun b hb => c_iota (n + b))
  have i0 := invB_start (M := Q) (fun t => rd a (t : Nat)) iotaR 256 256
  have i1 := step (n := 128) (s := 1) ⟨0, rfl⟩ (by decide) i0 (layB_bwd (by decide) (by decide) (by decide) cj128 _)
  have i2 := step (n := 64) (s := 2) ⟨1, rfl⟩ (by decide) i1 (layB_bwd (by decide) (by decide) (by decide) cj64 _)
  have i3 := step (n := 32) (s := 4) ⟨2, rfl⟩ (by decide) i2 (layB_bwd (by decide) (by decide) (by decide) cj32 _)
  have i4 := step (n := 16) (s := 8) ⟨3, rfl⟩ (by decide) i3 (layB_bwd (by decide) (by decide) (by decide) cj16 _)
  have i5 := step (n := 8) (s := 16) ⟨4, rfl⟩ (by decide) i4 (layB_bwd (by decide) (by decide) (by decide) cj8 _)
  have i6 := step (n := 4) (s := 32) ⟨5, rfl⟩ (by decide) i5 (layB_bwd (by decide) (by decide) (by decide) cj4 _)
  have i7 := step (n := 2) (s := 64) ⟨6, rfl⟩ (by decide) i6 (layB_bwd (by decide) (by decide) (by decide) cj2 _)
  have i8 := step (n := 1) (s := 128) ⟨7, rfl⟩ (by decide) i7 (layB_bwd (by decide) (by decide) (by decide) cj1 _)
  have := i8 0 k (by decide) hk
  simp only [Nat.zero_mul, Nat.zero_add] at this
  exact this
theorem fit_eq {a b : Arr 256} (ha : FitP a) (hb : FitP b) (h : ∀ j : Nat, j < 256 → Cg Q (rd a (j : Nat)) (rd b (j : Nat))) : a = b :=
  arr_ext fun i hi => (h i hi).fit (ha i hi).1 (ha i hi).2 (hb i hi).1 (hb i hi).2
theorem fit_pntt {a : Arr 256} (ha : FitP a) : FitP (pntt a) := fit_nttR ha
theorem pback_pntt (a : Arr 256) (ha : FitP a) : pback (pntt a) = a := by
  refine fit_eq (fit_pback _) ha fun j hj => ?_
  have step : ∀ {n s : Nat} {c : Int} {V W : Arr 256}, 0 < s → n * (2 * s) = 256 → 0 < n → n ≤ 128 → (∀ b, b < n → gR (n + b) = - zR (2 * n - 1 - b)) →
      (∀ j : Nat, j < 256 → Cg Q (rd V (j : Nat)) (c * rd (layU rootsA s (n - 1) n W) (j : Nat))) → ∀ j : Nat, j < 256 → Cg Q (rd (layB rootsA s n n V) (j : Nat)) (c * 2 * rd W (j : Nat)) := by
    intro n s c V W hs hn h0 h2 hc hV j hj
    have := bwd_fwd (layU_fwd hs hn h0 h2 W) (layB_bwd hs hn h2 hc V) (c := c) (by rw [hn]; exact hV) (fun b hb => c_g (by omega) (by omega))
    rw [hn] at this
    exact this j hj
  have s0 : ∀ j : Nat, j < 256 → Cg Q (rd (pntt a) (j : Nat)) (1 * rd (pntt a) (j : Nat)) := fun j _ => .of_eq (by omega)
  have s1 := step (n := 128) (s := 1) (by decide) (by decide) (by decide) (by decide) cj128 s0
  have s2 := step (n := 64) (s := 2) (by decide) (by decide) (by decide) (by decide) cj64 s1
  have s3 := step (n := 32) (s := 4) (by decide) (by decide) (by decide) (by decide) cj32 s2
  have s4 := step (n := 16) (s := 8) (by decide) (by decide) (by decide) (by decide) cj16 s3
  have s5 := step (n := 8) (s := 16) (by decide) (by decide) (by decide) (by decide) cj8 s4
  have s6 := step (n := 4) (s := 32) (by decide) (by decide) (by decide) (by decide) cj4 s5
  have s7 := step (n := 2) (s := 64) (by decide) (by decide) (by decide) (by decide) cj2 s6
  have s8 := step (n := 1) (s := 128) (by decide) (by decide) (by decide) (by decide) cj1 s7 j hj
  unfold pback
  rw [rd_mapA _ _ hj]
  refine (Cg.mod _ _).trans ((Cg.mul s8 (.refl _)).trans ⟨rd a (j : Nat) * 255, ?_⟩)
  unfold Q
  omega
theorem pntt_pback (a : Arr 256) (ha : FitP a) : pntt (pback a) = a := by
  refine fit_eq (fit_pntt (fit_pback _)) ha fun j hj => ?_
  have step : ∀ {n s : Nat} {c : Int} {V W : Arr 256}, 0 < s → n * (2 * s) = 256 → 0 < n → n ≤ 128 → (∀ b, b < n → gR (n + b) = - zR (2 * n - 1 - b)) →
      (∀ j : Nat, j < 256 → Cg Q (rd V (j : Nat)) (c * rd (layB rootsA s n n W) (j : Nat))) → ∀ j : Nat, j < 256 → Cg Q (rd (layU rootsA s (n - 1) n V) (j : Nat)) (c * 2 * rd W (j : Nat)) := by
    intro n s c V W hs hn h0 h2 hc hV j hj
    have := fwd_bwd (layB_bwd hs hn h2 hc W) (layU_fwd hs hn h0 h2 V) (c := c) (by rw [hn]; exact hV) (fun b hb => c_g (by omega) (by omega))
    rw [hn] at this
    exact this j hj
  have s0 : ∀ j : Nat, j < 256 → Cg Q (rd (pback a) (j : Nat)) (8347681 * rd (nttB rootsA a) (j : Nat)) := fun j hj => by
    unfold pback
    rw [rd_mapA _ _ hj, Int.mul_comm 8347681]
    exact Cg.mod _ _
  have s1 := step (n := 1) (s := 128) (by decide) (by decide) (by decide) (by decide) cj1 s0
  have s2 := step (n := 2) (s := 64) (by decide) (by decide) (by decide) (by decide) cj2 s1
  have s3 := step (n := 4) (s := 32) (by decide) (by decide) (by decide) (by decide) cj4 s2
  have s4 := step (n := 8) (s := 16) (by decide) (by decide) (by decide) (by decide) cj8 s3
  have s5 := step (n := 16) (s := 8) (by decide) (by decide) (by decide) (by decide) cj16 s4
  have s6 := step (n := 32) (s := 4) (by decide) (by decide) (by decide) (by decide) cj32 s5
  have s7 := step (n := 64) (s := 2) (by decide) (by decide) (by decide) (by decide) cj64 s6
  have s8 := step (n := 128) (s := 1) (by decide) (by decide) (by decide) (by decide) cj128 s7 j hj
  refine Cg.trans s8 ⟨rd a (j : Nat) * 255, ?_⟩
  unfold Q
  omega
end Go.Proofs.Ytijahfdldlmnhaa
