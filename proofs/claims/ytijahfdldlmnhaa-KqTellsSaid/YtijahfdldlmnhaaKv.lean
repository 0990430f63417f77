/- Layer 25 (kq), plain laws: parts as values; there and back. -/
import Derived.Test.YtijahfdldlmnhaaKo
set_option linter.unusedSimpArgs false
set_option linter.unusedVariables false
set_option maxRecDepth 100000
namespace Go.Proofs.Ytijahfdldlmnhaa
open Go Go.Mx
abbrev Q : Int := 3329
def zR (i : Nat) : Int := ((17 ^ brv7 i % 3329 : Nat) : Int)
def gR (i : Nat) : Int := if i = 0 then 1 else - zR (3 * 2 ^ Nat.log2 i - 1 - i)
def rhoR (i : Nat) : Int := if i % 2 = 0 then zR (i / 2) else - zR (i / 2)
def iotaR (i : Nat) : Int := if i % 2 = 0 then gR (i / 2) else - gR (i / 2)
def omR (j : Nat) : Nat := 2 * brv7 j + 1
theorem ck_sq : ∀ i, i < 128 → 1 ≤ i → zR i ^ 2 % Q = rhoR i % Q := by decide +kernel
theorem ck_io : ∀ i, i < 256 → 2 ≤ i → iotaR i ^ 2 % Q = iotaR (i / 2) % Q := by decide +kernel
theorem ck_g : ∀ i, i < 128 → 1 ≤ i → gR i * zR i % Q = 1 % Q := by decide +kernel
theorem ck_om : ∀ j, j < 128 → rhoR (128 + j) % Q = ((17 ^ omR j % 3329 : Nat) : Int) % Q := by decide +kernel
theorem ck_iom : ∀ j, j < 128 → iotaR (128 + j) % Q = ((17 ^ (256 - omR j) % 3329 : Nat) : Int) % Q := by decide +kernel
theorem c_sq {i : Nat} (h : i < 128) (h1 : 1 ≤ i) : Cg Q (zR i ^ 2) (rhoR i) := .of (ck_sq i h h1)
theorem c_io {i : Nat} (h1 : 2 ≤ i) (h : i < 256) : Cg Q (iotaR i ^ 2) (iotaR (i / 2)) := .of (ck_io i h h1)
theorem c_g {i : Nat} (h : i < 128) (h1 : 1 ≤ i) : Cg Q (gR i * zR i) 1 := .of (ck_g i h h1)
theorem c_rho (i : Nat) : Cg Q (rhoR (2 * i)) (zR i) ∧ Cg Q (rhoR (2 * i + 1)) (- zR i) := by
  unfold rhoR
  rw [if_pos (by omega), if_neg (by omega), show 2 * i / 2 = i by omega, show (2 * i + 1) / 2 = i by omega]
  exact ⟨.refl _, .refl _⟩
theorem c_iota (i : Nat) : Cg Q (iotaR (2 * i)) (gR i) ∧ Cg Q (iotaR (2 * i + 1)) (- gR i) := by
  unfold iotaR
  rw [if_pos (by omega), if_neg (by omega), show 2 * i / 2 = i by omega, show (2 * i + 1) / 2 = i by omega]
  exact ⟨.refl _, .refl _⟩
theorem rd_roots {i : Nat} (h : i < 128) : rd rootsA (i : Nat) = zR i := by
  unfold rootsA
  rw [rd_mapA _ _ h]
  rfl
theorem blk_div {s b i : Nat} (h : i < 2 * s) : (b * (2 * s) + i) / (2 * s) = b ∧ (b * (2 * s) + i) % (2 * s) = i := by
  have hs : 0 < 2 * s := by omega
  rw [Nat.mul_comm b, Nat.mul_add_div hs, Nat.mul_add_mod, Nat.div_eq_of_lt h, Nat.mod_eq_of_lt h]
  exact ⟨by omega, rfl⟩
theorem blk_lt {n s b i : Nat} (hb : b < n) (h : i < 2 * s) : b * (2 * s) + i < n * (2 * s) := by
  have h1 : (b + 1) * (2 * s) ≤ n * (2 * s) := Nat.mul_le_mul_right _ hb
  rw [Nat.add_mul] at h1
  omega
theorem layU_fwd {s n : Nat} (hs : 0 < s) (hn : n * (2 * s) = 256) (hn0 : 0 < n) (hn2 : n ≤ 64) (z : Arr 256) :
    FwdL Q n s zR (fun j => rd z (j : Nat)) (fun j => rd (layU rootsA s (n - 1) n z) (j : Nat)) := by
  intro b i hb hi
  have l0 := blk_lt (s := s) (i := i) hb (by omega)
  have l1 := blk_lt (s := s) (i := s + i) hb (by omega)
  obtain ⟨d0, m0⟩ := blk_div (s := s) (b := b) (i := i) (by omega)
  obtain ⟨d1, m1⟩ := blk_div (s := s) (b := b) (i := s + i) (by omega)
  have hr : rd rootsA ((n - 1 + 1 + b : Nat) : Int) = zR (n + b) := by rw [show n - 1 + 1 + b = n + b by omega]; exact rd_roots (by omega)
  have h1 : ¬ s + i < s := by omega
  unfold layU
  dsimp only
  rw [rd_mapA _ _ (show b * (2 * s) + i < 256 by omega), rd_mapA _ _ (show b * (2 * s) + (s + i) < 256 by omega), if_pos l0, if_pos l1, d0, d1, m0, m1, if_pos hi, if_neg h1, hr,
    show b * (2 * s) + i + s = b * (2 * s) + (s + i) by omega, show b * (2 * s) + (s + i) - s = b * (2 * s) + i by omega]
  exact ⟨(Cg.mod _ _).trans ((Cg.refl _).add (Cg.mod _ _)), (Cg.mod _ _).trans ((Cg.refl _).sub (Cg.mod _ _))⟩
theorem layB_bwd {s n : Nat} (hs : 0 < s) (hn : n * (2 * s) = 256) (hn2 : n ≤ 64) (hc : ∀ b, b < n → gR (n + b) = - zR (2 * n - 1 - b)) (z : Arr 256) :
    BwdL Q n s gR (fun j => rd z (j : Nat)) (fun j => rd (layB rootsA s n n z) (j : Nat)) := by
  intro b i hb hi
  have l0 := blk_lt (s := s) (i := i) hb (by omega)
  have l1 := blk_lt (s := s) (i := s + i) hb (by omega)
  obtain ⟨d0, m0⟩ := blk_div (s := s) (b := b) (i := i) (by omega)
  obtain ⟨d1, m1⟩ := blk_div (s := s) (b := b) (i := s + i) (by omega)
  have hr : rd rootsA ((2 * n - 1 - b : Nat) : Int) = zR (2 * n - 1 - b) := rd_roots (by omega)
  have h1 : ¬ s + i < s := by omega
  unfold layB
  dsimp only
  rw [rd_mapA _ _ (show b * (2 * s) + i < 256 by omega), rd_mapA _ _ (show b * (2 * s) + (s + i) < 256 by omega), if_pos l0, if_pos l1, d1, m0, m1, if_pos hi, if_neg h1, hr,
    show b * (2 * s) + i + s = b * (2 * s) + (s + i) by omega, show b * (2 * s) + (s + i) - s = b * (2 * s) + i by omega, hc b hb]
  refine ⟨Cg.mod _ _, (Cg.mod _ _).trans ⟨zR (2 * n - 1 - b), ?_⟩⟩
  unfold Q
  grind
theorem cj64 : ∀ b, b < 64 → gR (64 + b) = - zR (2 * 64 - 1 - b) := by decide +kernel
theorem cj32 : ∀ b, b < 32 → gR (32 + b) = - zR (2 * 32 - 1 - b) := by decide +kernel
theorem cj16 : ∀ b, b < 16 → gR (16 + b) = - zR (2 * 16 - 1 - b) := by decide +kernel
theorem cj8 : ∀ b, b < 8 → gR (8 + b) = - zR (2 * 8 - 1 - b) := by decide +kernel
theorem cj4 : ∀ b, b < 4 → gR (4 + b) = - zR (2 * 4 - 1 - b) := by decide +kernel
theorem cj2 : ∀ b, b < 2 → gR (2 + b) = - zR (2 * 2 - 1 - b) := by decide +kernel
theorem cj1 : ∀ b, b < 1 → gR (1 + b) = - zR (2 * 1 - 1 - b) := by decide +kernel
theorem fwdL_par {M : Int} {n s : Nat} {r V V' : Nat → Int} (h : FwdL M n (2 * s) r V V') (p : Nat) (hp : p < 2) : FwdL M n s r (fun j => V (2 * j + p)) (fun j => V' (2 * j + p)) := by
  intro b i hb hi
  have h1 := h b (2 * i + p) hb (by omega)
  have e1 : b * (2 * (2 * s)) + (2 * i + p) = 2 * (b * (2 * s) + i) + p := by rw [Nat.mul_add, Nat.mul_left_comm b 2 (2 * s)]; omega
  have e2 : b * (2 * (2 * s)) + (2 * s + (2 * i + p)) = 2 * (b * (2 * s) + (s + i)) + p := by rw [Nat.mul_add, Nat.mul_left_comm b 2 (2 * s)]; omega
  rw [e1, e2] at h1
  exact h1
theorem bwdL_par {M : Int} {n s : Nat} {r V V' : Nat → Int} (h : BwdL M n (2 * s) r V V') (p : Nat) (hp : p < 2) : BwdL M n s r (fun j => V (2 * j + p)) (fun j => V' (2 * j + p)) := by
  intro b i hb hi
  have h1 := h b (2 * i + p) hb (by omega)
  have e1 : b * (2 * (2 * s)) + (2 * i + p) = 2 * (b * (2 * s) + i) + p := by rw [Nat.mul_add, Nat.mul_left_comm b 2 (2 * s)]; omega
  have e2 : b * (2 * (2 * s)) + (2 * s + (2 * i + p)) = 2 * (b * (2 * s) + (s + i)) + p := by rw [Nat.mul_add, Nat.mul_left_comm b 2 (2 * s)]; omega
  rw [e1, e2] at h1
  exact h1
/-- The parts of a polynomial. -/
theorem pntt_sum (a : Arr 256) (j p : Nat) (hj : j < 128) (hp : p < 2) : Cg Q (rd (pntt a) ((2 * j + p : Nat) : Int)) (sm 128 fun t => rd a ((2 * t + p : Nat) : Int) * rhoR (128 + j) ^ t) := by
  have step : ∀ (n s : Nat) (z : Arr 256), 0 < s → n * (2 * (2 * s)) = 256 → n ≤ 64 → 0 < n → InvF Q (fun t => rd a ((2 * t + p : Nat) : Int)) rhoR n (2 * s) (fun j => rd z ((2 * j + p : Nat) : Int)) → InvF Q (fun t => rd a ((2 * t + p : Nat) : Int)) rhoR (2 * n) s (fun j => rd (layU rootsA (2 * s) (n - 1) n z) ((2 * j + p : Nat) : Int)) :=
    fun n s z h0 hn h1 h2 hi => fwd_step hi (fwdL_par (layU_fwd (s := 2 * s) (n := n) (by omega) hn h2 h1 z) p hp) (fun b hb => c_sq (by omega) (by omega)) (fun b hb => c_rho (n + b))
  have i0 := invF_start (M := Q) (fun t => rd a ((2 * t + p : Nat) : Int)) rhoR 128
  have i1 := step 1 64 _ (by decide) (by decide) (by decide) (by decide) i0
  have i2 := step 2 32 _ (by decide) (by decide) (by decide) (by decide) i1
  have i3 := step 4 16 _ (by decide) (by decide) (by decide) (by decide) i2
  have i4 := step 8 8 _ (by decide) (by decide) (by decide) (by decide) i3
  have i5 := step 16 4 _ (by decide) (by decide) (by decide) (by decide) i4
  have i6 := step 32 2 _ (by decide) (by decide) (by decide) (by decide) i5
  have i7 := step 64 1 _ (by decide) (by decide) (by decide) (by decide) i6
  have := i7 j 0 hj (by decide)
  simp only [Nat.mul_one, Nat.add_zero] at this
  exact this
theorem nttB_sum (a : Arr 256) (k p : Nat) (hk : k < 128) (hp : p < 2) : Cg Q (rd (nttB rootsA a) ((2 * k + p : Nat) : Int)) (sm 128 fun j => rd a ((2 * j + p : Nat) : Int) * iotaR (128 + j) ^ k) := by
  have step : ∀ (n s : Nat) (z : Arr 256), 0 < s → (∃ l, s = 2 ^ l) → 128 = n * (2 * s) → n * (2 * (2 * s)) = 256 → n ≤ 64 → (∀ b, b < n → gR (n + b) = - zR (2 * n - 1 - b)) → InvB Q (fun t => rd a ((2 * t + p : Nat) : Int)) iotaR 128 (2 * n) s (fun j => rd z ((2 * j + p : Nat) : Int)) → InvB Q (fun t => rd a ((2 * t + p : Nat) : Int)) iotaR 128 n (2 * s) (fun j => rd (layB rootsA (2 * s) n n z) ((2 * j + p : Nat) : Int)) :=
    fun n s z h0 h1 h2 h3 h4 hc hi => bwd_step hi (bwdL_par (layB_bwd (s := 2 * s) (n := n) (by omega) h3 h4 hc z) p hp) h1 h2 (fun i h1 h2 => c_io h1 h2) (fun b hb => c_iota (n + b))
  have i0 := invB_start (M := Q) (fun t => rd a ((2 * t + p : Nat) : Int)) iotaR 128 128
  have i1 := step 64 1 _ (by decide) ⟨0, rfl⟩ (by decide) (by decide) (by decide) cj64 i0
  have i2 := step 32 2 _ (by decide) ⟨1, rfl⟩ (by decide) (by decide) (by decide) cj32 i1
  have i3 := step 16 4 _ (by decide) ⟨2, rfl⟩ (by decide) (by decide) (by decide) cj16 i2
  have i4 := step 8 8 _ (by decide) ⟨3, rfl⟩ (by decide) (by decide) (by decide) cj8 i3
  have i5 := step 4 16 _ (by decide) ⟨4, rfl⟩ (by decide) (by decide) (by decide) cj4 i4
  have i6 := step 2 32 _ (by decide) ⟨5, rfl⟩ (by decide) (by decide) (by decide) cj2 i5
  have i7 := step 1 64 _ (by decide) ⟨6, rfl⟩ (by decide) (by decide) (by decide) cj1 i6
  have := i7 0 k (by decide) hk
  simp only [Nat.zero_mul, Nat.zero_add] at this
  exact this
theorem fit_eq {a b : Arr 256} (ha : FitK a) (hb : FitK b) (h : ∀ j : Nat, j < 256 → Cg Q (rd a (j : Nat)) (rd b (j : Nat))) : a = b :=
  arr_ext fun i hi => (h i hi).fit (ha i hi).1 (ha i hi).2 (hb i hi).1 (hb i hi).2
theorem fit_pntt {a : Arr 256} (ha : FitK a) : FitK (pntt a) := fit_nttR ha
theorem pback_pntt (a : Arr 256) (ha : FitK a) : pback (pntt a) = a := by
  refine fit_eq (fit_pback _) ha fun j hj => ?_
  have step : ∀ {n s : Nat} {c : Int} {V W : Arr 256}, 0 < s → n * (2 * s) = 256 → 0 < n → n ≤ 64 → (∀ b, b < n → gR (n + b) = - zR (2 * n - 1 - b)) →
      (∀ j : Nat, j < 256 → Cg Q (rd V (j : Nat)) (c * rd (layU rootsA s (n - 1) n W) (j : Nat))) → ∀ j : Nat, j < 256 → Cg Q (rd (layB rootsA s n n V) (j : Nat)) (c * 2 * rd W (j : Nat)) := by
    intro n s c V W hs hn h0 h2 hc hV j hj
    have := bwd_fwd (layU_fwd hs hn h0 h2 W) (layB_bwd hs hn h2 hc V) (c := c) (by rw [hn]; exact hV) (fun b hb => c_g (by omega) (by omega))
    rw [hn] at this
    exact this j hj
  have s0 : ∀ j : Nat, j < 256 → Cg Q (rd (pntt a) (j : Nat)) (1 * rd (pntt a) (j : Nat)) := fun j _ => .of_eq (by omega)
  have s2 := step (n := 64) (s := 2) (by decide) (by decide) (by decide) (by decide) cj64 s0
  have s3 := step (n := 32) (s := 4) (by decide) (by decide) (by decide) (by decide) cj32 s2
  have s4 := step (n := 16) (s := 8) (by decide) (by decide) (by decide) (by decide) cj16 s3
  have s5 := step (n := 8) (s := 16) (by decide) (by decide) (by decide) (by decide) cj8 s4
  have s6 := step (n := 4) (s := 32) (by decide) (by decide) (by decide) (by decide) cj4 s5
  have s7 := step (n := 2) (s := 64) (by decide) (by decide) (by decide) (by decide) cj2 s6
  have s8 := step (n := 1) (s := 128) (by decide) (by decide) (by decide) (by decide) cj1 s7 j hj
  unfold pback
  rw [rd_mapA _ _ hj]
  refine (Cg.mod _ _).trans ((Cg.mul s8 (.refl _)).trans ⟨rd a (j : Nat) * 127, ?_⟩)
  unfold Q
  omega
theorem pntt_pback (a : Arr 256) (ha : FitK a) : pntt (pback a) = a := by
  refine fit_eq (fit_pntt (fit_pback _)) ha fun j hj => ?_
  have step : ∀ {n s : Nat} {c : Int} {V W : Arr 256}, 0 < s → n * (2 * s) = 256 → 0 < n → n ≤ 64 → (∀ b, b < n → gR (n + b) = - zR (2 * n - 1 - b)) →
      (∀ j : Nat, j < 256 → Cg Q (rd V (j : Nat)) (c * rd (layB rootsA s n n W) (j : Nat))) → ∀ j : Nat, j < 256 → Cg Q (rd (layU rootsA s (n - 1) n V) (j : Nat)) (c * 2 * rd W (j : Nat)) := by
    intro n s c V W hs hn h0 h2 hc hV j hj
    have := fwd_bwd (layB_bwd hs hn h2 hc W) (layU_fwd hs hn h0 h2 V) (c := c) (by rw [hn]; exact hV) (fun b hb => c_g (by omega) (by omega))
    rw [hn] at this
    exact this j hj
  have s0 : ∀ j : Nat, j < 256 → Cg Q (rd (pback a) (j : Nat)) (3303 * rd (nttB rootsA a) (j : Nat)) := fun j hj => by
    unfold pback
    rw [rd_mapA _ _ hj, Int.mul_comm 3303]
    exact Cg.mod _ _
  have s1 := step (n := 1) (s := 128) (by decide) (by decide) (by decide) (by decide) cj1 s0
  have s2 := step (n := 2) (s := 64) (by decide) (by decide) (by decide) (by decide) cj2 s1
  have s3 := step (n := 4) (s := 32) (by decide) (by decide) (by decide) (by decide) cj4 s2
  have s4 := step (n := 8) (s := 16) (by decide) (by decide) (by decide) (by decide) cj8 s3
  have s5 := step (n := 16) (s := 8) (by decide) (by decide) (by decide) (by decide) cj16 s4
  have s6 := step (n := 32) (s := 4) (by decide) (by decide) (by decide) (by decide) cj32 s5
  have s8 := step (n := 64) (s := 2) (by decide) (by decide) (by decide) (by decide) cj64 s6 j hj
  refine Cg.trans s8 ⟨rd a (j : Nat) * 127, ?_⟩
  unfold Q
  omega
end Go.Proofs.Ytijahfdldlmnhaa
