/- Layer 12 (gcm), plain laws: texts that are the same, few of them. -/
import Derived.Test.YtmpagpbnpgcecaaGb
import Derived.Test.YtmpagpbnpgcecaaGa
import Derived.Test.YtmpagpbnpgcecaaGc
import Derived.Test.YtmpagpbnpgcecaaGFAesBlocks
import Derived.Test.YtmpagpbnpgcecaaGFGcmSeals
set_option linter.unusedSimpArgs false
set_option linter.unusedVariables false
set_option maxRecDepth 100000
namespace Go.Proofs.Ytmpagpbnpgcecaa
open Go Go.Mx
theorem gsame (K : Nat) {y : List Int} (h : y.length < 1000) (hK : y.length < K) : ref01_Same.f K y y = some true := by
  have key : ∀ (n i k : Nat), i + n = y.length → n < k → ref01_Same.l0 K k y y (i : Int) = some (.inl ()) := by
    intro n
    induction n with
    | zero =>
      intro i k hi hk
      obtain ⟨k, rfl⟩ : ∃ q, k = q + 1 := ⟨k - 1, by omega⟩
      have h : ¬ (i : Int) < ((y.length : Nat) : Int) := by omega
      simp only [ref01_Same.l0, h, if_false]
    | succ n ih =>
      intro i k hi hk
      obtain ⟨k, rfl⟩ : ∃ q, k = q + 1 := ⟨k - 1, by omega⟩
      have c0 : (i : Int) < ((y.length : Nat) : Int) := by omega
      have c1 : (0 : Int) ≤ (i : Int) := by omega
      simp only [ref01_Same.l0, c0, c1, if_true, Option.bind_some, ginc (i := i) (by omega)]
      exact ih (i + 1) k (by omega) (by omega)
  have h0 : ref01_Same.l0 K K y y 0 = some (.inl ()) := key y.length 0 K (by omega) hK
  unfold ref01_Same.f
  rw [if_pos rfl, h0]
  rfl

theorem gFew_l0 {W : List (List Int)} (hW : W.length < 100000) : ∀ (m i k : Nat), i + m = W.length → m < k → law12_few.l0 1000 k W (i : Int) = some (.inr false) ∨ (law12_few.l0 1000 k W (i : Int) = some (.inl ()) ∧ ∀ b ∈ W.drop i, b.length ≤ 100) := by
  intro m
  induction m with
  | zero =>
    intro i k hi hk
    obtain ⟨k, rfl⟩ : ∃ q, k = q + 1 := ⟨k - 1, by omega⟩
    have c : ¬ (i : Int) < ((W.length : Nat) : Int) := by omega
    refine .inr ⟨by simp only [law12_few.l0, c, if_false], fun b hb => ?_⟩
    rw [List.drop_of_length_le (by omega)] at hb
    cases hb
  | succ m ih =>
    intro i k hi hk
    obtain ⟨k, rfl⟩ : ∃ q, k = q + 1 := ⟨k - 1, by omega⟩
    have hil : i < W.length := by omega
    have c0 : (i : Int) < ((W.length : Nat) : Int) := by omega
    have c1 : (0 : Int) ≤ (i : Int) := by omega
    by_cases h : ((W[i].length : Nat) : Int) > 100
    · exact .inl (by simp only [law12_few.l0, c0, c1, g_rdLL hil, h, if_true])
    · rcases ih (i + 1) k (by omega) (by omega) with h1 | ⟨h1, h2⟩
      · exact .inl (by simp only [law12_few.l0, c0, c1, g_rdLL hil, h, if_true, if_false, ginc (i := i) (by omega)]; exact h1)
      · refine .inr ⟨by simp only [law12_few.l0, c0, c1, g_rdLL hil, h, if_true, if_false, ginc (i := i) (by omega)]; exact h1, fun b hb => ?_⟩
        rw [List.drop_eq_getElem_cons hil] at hb
        rcases List.mem_cons.1 hb with rfl | hb
        · omega
        · exact h2 b hb
theorem gFew {W : List (List Int)} (hW : W.length < 900) : law12_few.f 1000 W = some false ∨ (law12_few.f 1000 W = some true ∧ ∀ b ∈ W, b.length ≤ 100) := by
  have h := gFew_l0 (W := W) (by omega) W.length 0 1000 (by omega) (by omega)
  unfold law12_few.f
  rcases h with h | ⟨h, h2⟩
  · have h' : law12_few.l0 1000 1000 W 0 = some (.inr false) := h
    exact .inl (by rw [h']; rfl)
  · have h' : law12_few.l0 1000 1000 W 0 = some (.inl ()) := h
    exact .inr ⟨by rw [h']; rfl, h2⟩
end Go.Proofs.Ytmpagpbnpgcecaa

/- Layer 12 (gcm), plain laws: products do not hang on the order or on brackets, and go over xor. -/
set_option linter.unusedSimpArgs false
set_option linter.unusedVariables false
set_option maxRecDepth 100000
namespace Go.Proofs.Ytmpagpbnpgcecaa
open Go Go.Mx
theorem xp_comm (p q : EL) : xp p q = xp q p := by unfold xp; rw [Nat.xor_comm, Nat.xor_comm p.2]
theorem xp_assoc (p q r : EL) : xp (xp p q) r = xp p (xp q r) := by unfold xp; simp only [Nat.xor_assoc]
theorem xp_zero (p : EL) : xp p (0, 0) = p := by unfold xp; simp only [Nat.xor_zero]
theorem P0 : P64 (0, 0) := ⟨by decide, by decide⟩
theorem nx_zero : nx (0, 0) = (0, 0) := by decide
theorem xor_half (a b : Nat) : (a ^^^ b) / 2 = a / 2 ^^^ b / 2 := by
  have := Nat.shiftRight_xor_distrib (a := a) (b := b) (i := 1)
  simpa [Nat.shiftRight_eq_div_pow] using this
theorem xor_mod2 (a b : Nat) : (a ^^^ b) % 2 = (a % 2 + b % 2) % 2 := by
  have h := Nat.xor_mod_two_pow (a := a) (b := b) (n := 1)
  rw [Nat.pow_one] at h
  rw [h]
  rcases Nat.mod_two_eq_zero_or_one a with h1 | h1 <;> rcases Nat.mod_two_eq_zero_or_one b with h2 | h2 <;> rw [h1, h2] <;> decide
theorem or_top {x b : Nat} (hx : x < 2 ^ 63) : x ||| b * 2 ^ 63 = x ^^^ b * 2 ^ 63 := by
  refine Nat.eq_of_testBit_eq fun i => ?_
  rw [Nat.testBit_or, Nat.testBit_xor]
  by_cases h : i < 63
  · have : (b * 2 ^ 63).testBit i = false := by
      rw [Nat.mul_comm, Nat.testBit_two_pow_mul]
      simp [show ¬ 63 ≤ i by omega]
    simp [this]
  · have : x.testBit i = false := Nat.testBit_lt_two_pow (Nat.lt_of_lt_of_le hx (Nat.pow_le_pow_right (by decide) (by omega)))
    simp [this]
theorem nx_xp {p q : EL} (hp : P64 p) (hq : P64 q) : nx (xp p q) = xp (nx p) (nx q) := by
  obtain ⟨p1, p2⟩ := p
  obtain ⟨q1, q2⟩ := q
  obtain ⟨a1, a2⟩ := hp
  obtain ⟨b1, b2⟩ := hq
  have a2' : p2 < 2 ^ 64 := a2
  have b2' : q2 < 2 ^ 64 := b2
  have c2 : p2 ^^^ q2 < 2 ^ 64 := Nat.xor_lt_two_pow a2' b2'
  unfold nx xp
  simp only
  rw [or_top (show (p2 ^^^ q2) / 2 < 2 ^ 63 by omega), or_top (show p2 / 2 < 2 ^ 63 by omega), or_top (show q2 / 2 < 2 ^ 63 by omega), xor_half, xor_half, xor_mod2, xor_mod2]
  have e1 : (if (p2 % 2 + q2 % 2) % 2 = 1 then 16212958658533785600 else 0) = (if p2 % 2 = 1 then 16212958658533785600 else 0) ^^^ (if q2 % 2 = 1 then 16212958658533785600 else 0) := by
    rcases Nat.mod_two_eq_zero_or_one p2 with h | h <;> rcases Nat.mod_two_eq_zero_or_one q2 with h' | h' <;> rw [h, h'] <;> decide
  have e2 : (p1 % 2 + q1 % 2) % 2 * 2 ^ 63 = (p1 % 2 * 2 ^ 63) ^^^ (q1 % 2 * 2 ^ 63) := by
    rcases Nat.mod_two_eq_zero_or_one p1 with h | h <;> rcases Nat.mod_two_eq_zero_or_one q1 with h' | h' <;> rw [h, h'] <;> decide
  rw [e1, e2]
  have sw : ∀ a b c d : Nat, (a ^^^ b) ^^^ (c ^^^ d) = (a ^^^ c) ^^^ (b ^^^ d) := fun a b c d => by
    rw [Nat.xor_assoc, Nat.xor_assoc, ← Nat.xor_assoc b c d, Nat.xor_comm b c, Nat.xor_assoc c b d]
  exact Prod.ext (sw _ _ _ _) (sw _ _ _ _)
/-- f times x, n times -/
def nxs : Nat → EL → EL
  | 0, f => f
  | n + 1, f => nx (nxs n f)
theorem nxs_P {f : EL} (hf : P64 f) : ∀ n, P64 (nxs n f)
  | 0 => hf
  | n + 1 => (nxs_P hf n).nx
theorem nxs_xp {f g : EL} (hf : P64 f) (hg : P64 g) : ∀ n, nxs n (xp f g) = xp (nxs n f) (nxs n g)
  | 0 => rfl
  | n + 1 => by
    show nx (nxs n (xp f g)) = _
    rw [nxs_xp hf hg n, nx_xp (nxs_P hf n) (nxs_P hg n)]
    rfl
theorem nxs_nx (f : EL) : ∀ n, nxs n (nx f) = nx (nxs n f)
  | 0 => rfl
  | n + 1 => by
    show nx (nxs n (nx f)) = _
    rw [nxs_nx f n]
    rfl
/-- the polynomial of e's first n bits, of nx, at f -/
def SS (e : EL) : Nat → EL → EL
  | 0, _ => (0, 0)
  | n + 1, f => if bt e n then xp (SS e n f) (nxs n f) else SS e n f
theorem SS_P {e f : EL} (hf : P64 f) : ∀ n, P64 (SS e n f)
  | 0 => P0
  | n + 1 => by
    unfold SS
    split
    · exact (SS_P hf n).xp (nxs_P hf n)
    · exact SS_P hf n
theorem tms_SS (e : EL) (f0 : EL) : ∀ (m i : Nat), (tms e m i (SS e i f0) (nxs i f0)).1 = SS e (i + m) f0
  | 0, i => rfl
  | m + 1, i => by
    have h := tms_SS e f0 m (i + 1)
    rw [show i + (m + 1) = i + 1 + m by omega, ← h]
    rfl
theorem tm_SS (e f : EL) : tm e f = SS e 128 f := by
  have h := tms_SS e f 128 0
  rw [Nat.zero_add] at h
  exact h
theorem SS_nx (e : EL) {f : EL} (hf : P64 f) : ∀ n, SS e n (nx f) = nx (SS e n f)
  | 0 => by show (0, 0) = nx (0, 0); rw [nx_zero]
  | n + 1 => by
    unfold SS
    rw [SS_nx e hf n, nxs_nx]
    split
    · rw [nx_xp (SS_P hf n) (nxs_P hf n)]
    · rfl
theorem SS_nxs (e : EL) {f : EL} (hf : P64 f) (n : Nat) : ∀ m, SS e n (nxs m f) = nxs m (SS e n f)
  | 0 => rfl
  | m + 1 => by
    show SS e n (nx (nxs m f)) = nx (nxs m (SS e n f))
    rw [SS_nx e (nxs_P hf m), SS_nxs e hf n m]
/-- the one -/
def one : EL := (2 ^ 63, 0)
theorem one_P : P64 one := ⟨by decide, by decide⟩
theorem nxs_one1 : ∀ j : Fin 64, nxs j.val one = (2 ^ (63 - j.val), 0) := by decide +kernel
theorem nxs_one2 : ∀ j : Fin 64, nxs (64 + j.val) one = (0, 2 ^ (63 - j.val)) := by decide +kernel
theorem top_step (x s : Nat) : x / 2 ^ (s + 1) * 2 ^ (s + 1) ^^^ (if x / 2 ^ s % 2 = 1 then 2 ^ s else 0) = x / 2 ^ s * 2 ^ s := by
  refine Nat.eq_of_testBit_eq fun i => ?_
  rw [Nat.testBit_xor, Nat.mul_comm, Nat.testBit_two_pow_mul, Nat.mul_comm (x / 2 ^ s), Nat.testBit_two_pow_mul, Nat.testBit_div_two_pow, Nat.testBit_div_two_pow]
  by_cases h : x / 2 ^ s % 2 = 1
  · have hb : x.testBit s = true := by rw [Nat.testBit_eq_decide_div_mod_eq]; simpa using h
    rw [if_pos h, Nat.testBit_two_pow]
    by_cases hi : s = i
    · subst hi
      simp [hb, show ¬ s + 1 ≤ s by omega]
    · by_cases h2 : s + 1 ≤ i
      · simp [hi, h2, show s ≤ i by omega, show i - (s + 1) + (s + 1) = i by omega, show i - s + s = i by omega]
      · simp [hi, h2, show ¬ s ≤ i by omega]
  · have hb : x.testBit s = false := by rw [Nat.testBit_eq_decide_div_mod_eq]; simpa using h
    rw [if_neg h, Nat.zero_testBit, Bool.xor_false]
    by_cases h2 : s + 1 ≤ i
    · simp [h2, show s ≤ i by omega, show i - (s + 1) + (s + 1) = i by omega, show i - s + s = i by omega]
    · by_cases hi : s = i
      · subst hi
        simp [hb, h2]
      · simp [h2, show ¬ s ≤ i by omega]
theorem SS_one1 {e : EL} (he : P64 e) : ∀ n, n ≤ 64 → SS e n one = (e.1 / 2 ^ (64 - n) * 2 ^ (64 - n), 0)
  | 0, _ => by
    show (0, 0) = _
    rw [show e.1 / 2 ^ (64 - 0) = 0 from Nat.div_eq_of_lt he.1, Nat.zero_mul]
  | n + 1, h => by
    have i1 := SS_one1 he n (by omega)
    have hn := nxs_one1 ⟨n, by omega⟩
    have hn' : nxs n one = (2 ^ (63 - n), 0) := hn
    have hb : bt e n ↔ e.1 / 2 ^ (63 - n) % 2 = 1 := by
      unfold bt
      rw [if_neg (by omega), Nat.mod_eq_of_lt (show n < 64 by omega)]
    have ts := top_step e.1 (63 - n)
    rw [show 63 - n + 1 = 64 - n by omega] at ts
    rw [show 64 - (n + 1) = 63 - n by omega, ← ts]
    unfold SS
    rw [i1, hn']
    by_cases hc : bt e n
    · rw [if_pos hc, if_pos (hb.1 hc)]
      show (_ ^^^ _, 0 ^^^ 0) = _
      rw [Nat.xor_self]
    · rw [if_neg hc, if_neg (fun q => hc (hb.2 q)), Nat.xor_zero]
theorem SS_one2 {e : EL} (he : P64 e) : ∀ n, n ≤ 64 → SS e (64 + n) one = (e.1, e.2 / 2 ^ (64 - n) * 2 ^ (64 - n))
  | 0, _ => by
    rw [Nat.add_zero, SS_one1 he 64 (Nat.le_refl _), show e.2 / 2 ^ (64 - 0) = 0 from Nat.div_eq_of_lt he.2, Nat.zero_mul, Nat.sub_self, Nat.pow_zero, Nat.div_one, Nat.mul_one]
  | n + 1, h => by
    have i1 := SS_one2 he n (by omega)
    have hn' : nxs (64 + n) one = (0, 2 ^ (63 - n)) := nxs_one2 ⟨n, by omega⟩
    have hb : bt e (64 + n) ↔ e.2 / 2 ^ (63 - n) % 2 = 1 := by
      unfold bt
      rw [if_pos (by omega), show (64 + n) % 64 = n by omega]
    have ts := top_step e.2 (63 - n)
    rw [show 63 - n + 1 = 64 - n by omega] at ts
    rw [show 64 - (n + 1) = 63 - n by omega, ← ts]
    show SS e (64 + n + 1) one = _
    unfold SS
    rw [i1, hn']
    by_cases hc : bt e (64 + n)
    · rw [if_pos hc, if_pos (hb.1 hc)]
      show (e.1 ^^^ 0, _) = _
      rw [Nat.xor_zero]
    · rw [if_neg hc, if_neg (fun q => hc (hb.2 q)), Nat.xor_zero]
theorem tm_one {e : EL} (he : P64 e) : SS e 128 one = e := by
  have h := SS_one2 he 64 (Nat.le_refl _)
  rw [Nat.sub_self, Nat.pow_zero, Nat.div_one, Nat.mul_one] at h
  exact h
end Go.Proofs.Ytmpagpbnpgcecaa

/- Layer 12 (gcm), plain laws: elements there and back, xored texts as elements, products and sums of blocks. -/
set_option linter.unusedSimpArgs false
set_option linter.unusedVariables false
set_option maxRecDepth 100000
namespace Go.Proofs.Ytmpagpbnpgcecaa
open Go Go.Mx
theorem horner {a i : Nat} (ha : a < 2 ^ 64) : (a / 2 ^ (8 * (i + 1)) * 256 + a / 2 ^ (8 * i) % 256) % 2 ^ 64 = a / 2 ^ (8 * i) := by
  have h1 : a / 2 ^ (8 * (i + 1)) = a / 2 ^ (8 * i) / 256 := by
    rw [Nat.div_div_eq_div_mul, show 8 * (i + 1) = 8 * i + 8 by omega, Nat.pow_add]
  have h2 : a / 2 ^ (8 * i) ≤ a := Nat.div_le_self _ _
  rw [h1]
  omega
def hF (n : Nat) (c : Int) : Nat := (n * 256 + c.toNat) % 2 ^ 64
theorem hF_by {a : Nat} (ha : a < 2 ^ 64) (i : Nat) : hF (a / 2 ^ (8 * (i + 1))) (by8 a i) = a / 2 ^ (8 * i) := by
  unfold hF by8
  rw [Int.toNat_natCast]
  exact horner ha
theorem num_be8 {a : Nat} (ha : a < 2 ^ 64) : num (be8 a) = a := by
  have z : a / 2 ^ (8 * (7 + 1)) = 0 := Nat.div_eq_of_lt ha
  have s7 : hF 0 (by8 a 7) = a / 2 ^ (8 * 7) := by
    have := hF_by ha 7
    rw [z] at this
    exact this
  have s6 : hF (a / 2 ^ (8 * 7)) (by8 a 6) = a / 2 ^ (8 * 6) := hF_by ha 6
  have s5 : hF (a / 2 ^ (8 * 6)) (by8 a 5) = a / 2 ^ (8 * 5) := hF_by ha 5
  have s4 : hF (a / 2 ^ (8 * 5)) (by8 a 4) = a / 2 ^ (8 * 4) := hF_by ha 4
  have s3 : hF (a / 2 ^ (8 * 4)) (by8 a 3) = a / 2 ^ (8 * 3) := hF_by ha 3
  have s2 : hF (a / 2 ^ (8 * 3)) (by8 a 2) = a / 2 ^ (8 * 2) := hF_by ha 2
  have s1 : hF (a / 2 ^ (8 * 2)) (by8 a 1) = a / 2 ^ (8 * 1) := hF_by ha 1
  have s0 : hF (a / 2 ^ (8 * 1)) (by8 a 0) = a / 2 ^ (8 * 0) := hF_by ha 0
  show hF (hF (hF (hF (hF (hF (hF (hF 0 (by8 a 7)) (by8 a 6)) (by8 a 5)) (by8 a 4)) (by8 a 3)) (by8 a 2)) (by8 a 1)) (by8 a 0) = a
  rw [s7, s6, s5, s4, s3, s2, s1, s0, Nat.mul_zero, Nat.pow_zero, Nat.div_one]
theorem hF_m {n m : Nat} (hn : n < 2 ^ 56) (hm : m < 256) : hF n (m : Int) = n * 256 + m ∧ n * 256 + m < 2 ^ 64 := by
  unfold hF
  rw [Int.toNat_natCast]
  exact ⟨Nat.mod_eq_of_lt (by omega), by omega⟩
theorem by8_z {n m : Nat} (hm : m < 256) : by8 (n * 256 + m) 0 = (m : Int) := by
  unfold by8
  rw [Nat.mul_zero, Nat.pow_zero, Nat.div_one]
  omega
theorem by8_s {n m : Nat} (hm : m < 256) (i : Nat) : by8 (n * 256 + m) (i + 1) = by8 n i := by
  unfold by8
  have h : (n * 256 + m) / 2 ^ (8 * (i + 1)) = n / 2 ^ (8 * i) := by
    rw [show 8 * (i + 1) = 8 + 8 * i by omega, Nat.pow_add, ← Nat.div_div_eq_div_mul, show (n * 256 + m) / 2 ^ 8 = n by omega]
  rw [h]
theorem be8_num {v : List Int} (hv : InL .u8 v) (hl : v.length = 8) : be8 (num v) = v := by
  match v, hl with
  | [x0, x1, x2, x3, x4, x5, x6, x7], _ =>
    obtain ⟨m0, rfl, l0⟩ := byte_nat hv (x := x0) (by simp)
    obtain ⟨m1, rfl, l1⟩ := byte_nat hv (x := x1) (by simp)
    obtain ⟨m2, rfl, l2⟩ := byte_nat hv (x := x2) (by simp)
    obtain ⟨m3, rfl, l3⟩ := byte_nat hv (x := x3) (by simp)
    obtain ⟨m4, rfl, l4⟩ := byte_nat hv (x := x4) (by simp)
    obtain ⟨m5, rfl, l5⟩ := byte_nat hv (x := x5) (by simp)
    obtain ⟨m6, rfl, l6⟩ := byte_nat hv (x := x6) (by simp)
    obtain ⟨m7, rfl, l7⟩ := byte_nat hv (x := x7) (by simp)
    have a0 := (hF_m (n := 0) (m := m0) (by decide) l0).1
    obtain ⟨n1, e1⟩ : ∃ n1, n1 = 0 * 256 + m0 := ⟨_, rfl⟩
    rw [← e1] at a0
    have a1 := (hF_m (n := n1) (m := m1) (by omega) l1).1
    obtain ⟨n2, e2⟩ : ∃ n2, n2 = n1 * 256 + m1 := ⟨_, rfl⟩
    rw [← e2] at a1
    have a2 := (hF_m (n := n2) (m := m2) (by omega) l2).1
    obtain ⟨n3, e3⟩ : ∃ n3, n3 = n2 * 256 + m2 := ⟨_, rfl⟩
    rw [← e3] at a2
    have a3 := (hF_m (n := n3) (m := m3) (by omega) l3).1
    obtain ⟨n4, e4⟩ : ∃ n4, n4 = n3 * 256 + m3 := ⟨_, rfl⟩
    rw [← e4] at a3
    have a4 := (hF_m (n := n4) (m := m4) (by omega) l4).1
    obtain ⟨n5, e5⟩ : ∃ n5, n5 = n4 * 256 + m4 := ⟨_, rfl⟩
    rw [← e5] at a4
    have a5 := (hF_m (n := n5) (m := m5) (by omega) l5).1
    obtain ⟨n6, e6⟩ : ∃ n6, n6 = n5 * 256 + m5 := ⟨_, rfl⟩
    rw [← e6] at a5
    have a6 := (hF_m (n := n6) (m := m6) (by omega) l6).1
    obtain ⟨n7, e7⟩ : ∃ n7, n7 = n6 * 256 + m6 := ⟨_, rfl⟩
    rw [← e7] at a6
    have a7 := (hF_m (n := n7) (m := m7) (by omega) l7).1
    have h0 : num [(m0 : Int), (m1 : Int), (m2 : Int), (m3 : Int), (m4 : Int), (m5 : Int), (m6 : Int), (m7 : Int)] = n7 * 256 + m7 := by
      show hF (hF (hF (hF (hF (hF (hF (hF 0 (m0 : Int)) (m1 : Int)) (m2 : Int)) (m3 : Int)) (m4 : Int)) (m5 : Int)) (m6 : Int)) (m7 : Int) = _
      rw [a0, a1, a2, a3, a4, a5, a6, a7]
    rw [h0]
    unfold be8
    rw [by8_z l7, by8_s l7 0, by8_s l7 1, by8_s l7 2, by8_s l7 3, by8_s l7 4, by8_s l7 5, by8_s l7 6, e7]
    rw [by8_z l6, by8_s l6 0, by8_s l6 1, by8_s l6 2, by8_s l6 3, by8_s l6 4, by8_s l6 5, e6]
    rw [by8_z l5, by8_s l5 0, by8_s l5 1, by8_s l5 2, by8_s l5 3, by8_s l5 4, e5]
    rw [by8_z l4, by8_s l4 0, by8_s l4 1, by8_s l4 2, by8_s l4 3, e4]
    rw [by8_z l3, by8_s l3 0, by8_s l3 1, by8_s l3 2, e3]
    rw [by8_z l2, by8_s l2 0, by8_s l2 1, e2]
    rw [by8_z l1, by8_s l1 0, e1]
    rw [by8_z l0]
theorem rd_wr {p : EL} (hp : P64 p) : rd16 (wr16 p) = p := by
  show (num (be8 p.1), num (be8 p.2)) = p
  rw [num_be8 hp.1, num_be8 hp.2]
theorem wr_rd {b : List Int} (hb : InL .u8 b) (hl : b.length = 16) : wr16 (rd16 b) = b := by
  show be8 (num (b.take 8)) ++ be8 (num (b.drop 8)) = b
  rw [be8_num (g_take hb 8) (by rw [List.length_take]; omega), be8_num (g_drop hb 8) (by rw [List.length_drop]; omega), List.take_append_drop]
theorem or_xor {x b h : Nat} (hx : x < 2 ^ h) : x + b * 2 ^ h = x ^^^ b * 2 ^ h := by
  rw [← or_parts hx]
  refine Nat.eq_of_testBit_eq fun i => ?_
  rw [Nat.testBit_or, Nat.testBit_xor]
  by_cases hi : i < h
  · have : (b * 2 ^ h).testBit i = false := by
      rw [Nat.mul_comm, Nat.testBit_two_pow_mul]
      simp [show ¬ h ≤ i by omega]
    simp [this]
  · have : x.testBit i = false := Nat.testBit_lt_two_pow (Nat.lt_of_lt_of_le hx (Nat.pow_le_pow_right (by decide) (by omega)))
    simp [this]
theorem mul_xor (a b h : Nat) : (a ^^^ b) * 2 ^ h = a * 2 ^ h ^^^ b * 2 ^ h := by
  have := Nat.shiftLeft_xor_distrib (a := a) (b := b) (i := h)
  simpa [Nat.shiftLeft_eq] using this
theorem hF_xor {n m x y : Nat} (hx : x < 256) (hy : y < 256) : hF (n ^^^ m) ((x ^^^ y : Nat) : Int) = hF n (x : Int) ^^^ hF m (y : Int) := by
  unfold hF
  rw [Int.toNat_natCast, Int.toNat_natCast, Int.toNat_natCast]
  have hxy := Nat.xor_lt_two_pow (n := 8) (x := x) (y := y) (by omega) (by omega)
  have e : ∀ a z : Nat, z < 256 → a * 256 + z = z ^^^ a * 2 ^ 8 := fun a z hz => by rw [← or_xor (h := 8) (by omega)]; omega
  rw [e _ _ (by omega), e _ _ hx, e _ _ hy, mul_xor, ← Nat.xor_mod_two_pow, Nat.xor_assoc, Nat.xor_assoc, ← Nat.xor_assoc y, Nat.xor_comm y (n * 2 ^ 8), Nat.xor_assoc (n * 2 ^ 8)]
theorem num_xr : ∀ (a b : List Int) (n m : Nat), InL .u8 a → InL .u8 b → a.length = b.length → (xr a b).foldl hF (n ^^^ m) = a.foldl hF n ^^^ b.foldl hF m
  | [], [], _, _, _, _, _ => rfl
  | [], _ :: _, _, _, _, _, h => by cases h
  | _ :: _, [], _, _, _, _, h => by cases h
  | x :: a, y :: b, n, m, ha, hb, hl => by
    obtain ⟨p, rfl, hp⟩ := byte_nat ha (x := x) (by simp)
    obtain ⟨q, rfl, hq⟩ := byte_nat hb (x := y) (by simp)
    have e : ixor .u8 (p : Int) (q : Int) = ((p ^^^ q : Nat) : Int) := ixor_nat (k := .u8) (show p < 2 ^ 8 by omega) (show q < 2 ^ 8 by omega)
    show (ixor .u8 (p : Int) (q : Int) :: xr a b).foldl hF (n ^^^ m) = (a.foldl hF (hF n (p : Int))) ^^^ (b.foldl hF (hF m (q : Int)))
    rw [List.foldl_cons, e, hF_xor hp hq]
    exact num_xr a b _ _ (fun z hz => ha z (List.mem_cons_of_mem _ hz)) (fun z hz => hb z (List.mem_cons_of_mem _ hz)) (by simpa using hl)
theorem num_x {a b : List Int} (ha : InL .u8 a) (hb : InL .u8 b) (hl : a.length = b.length) : num (xr a b) = num a ^^^ num b := by
  have := num_xr a b 0 0 ha hb hl
  rw [Nat.xor_self] at this
  exact this
theorem xr_take (a b : List Int) (n : Nat) : (xr a b).take n = xr (a.take n) (b.take n) := by
  unfold xr
  exact List.take_zipWith ..
theorem xr_drop (a b : List Int) (n : Nat) : (xr a b).drop n = xr (a.drop n) (b.drop n) := by
  unfold xr
  exact List.drop_zipWith ..
theorem rd_xr {a b : List Int} (ha : InL .u8 a) (hb : InL .u8 b) (la : a.length = 16) (lb : b.length = 16) : rd16 (xr a b) = xp (rd16 a) (rd16 b) := by
  unfold rd16 xp
  rw [xr_take, xr_drop, num_x (g_take ha 8) (g_take hb 8) (by rw [List.length_take, List.length_take, la, lb]), num_x (g_drop ha 8) (g_drop hb 8) (by rw [List.length_drop, List.length_drop, la, lb])]
end Go.Proofs.Ytmpagpbnpgcecaa

/- Layer 12 (gcm), plain laws: the document's xor, the sum of texts behind one another. -/
set_option linter.unusedSimpArgs false
set_option linter.unusedVariables false
set_option maxRecDepth 100000
namespace Go.Proofs.Ytmpagpbnpgcecaa
open Go Go.Mx
theorem gXorR_l0 {a b : List Int} (h : a.length = b.length) (hs : a.length < 100000) : ∀ (m i k : Nat), i + m = a.length → m < k → ref01_Xor.l0 1000 k a b (i : Int) ((xr a b).take i) = some (xr a b) := by
  have hx := xr_len (show a.length ≤ b.length by omega)
  intro m
  induction m with
  | zero =>
    intro i k hi hk
    obtain ⟨k, rfl⟩ : ∃ q, k = q + 1 := ⟨k - 1, by omega⟩
    have c : ¬ (i : Int) < ((a.length : Nat) : Int) := by omega
    simp only [ref01_Xor.l0, c, if_false, List.take_of_length_le (Nat.le_of_eq (show (xr a b).length = i by omega))]
  | succ m ih =>
    intro i k hi hk
    obtain ⟨k, rfl⟩ : ∃ q, k = q + 1 := ⟨k - 1, by omega⟩
    have hil : i < a.length := by omega
    have hib : i < b.length := by omega
    have hix : i < (xr a b).length := by omega
    have c0 : (i : Int) < ((a.length : Nat) : Int) := by omega
    have c1 : (0 : Int) ≤ (i : Int) := by omega
    have c3 : (i : Int) < ((b.length : Nat) : Int) := by omega
    have ht : ((xr a b).take i).length = i := by rw [List.length_take]; omega
    have e3 : ixor .u8 a[i] b[i] = (xr a b)[i] := (xr_get hix hil hib).symm
    have c4 : ((xr a b).take i).length + ([(xr a b)[i]] : List Int).length ≤ 140737488355328 := by rw [ht]; show i + 1 ≤ _; omega
    have e4 : (xr a b).take i ++ [(xr a b)[i]] = (xr a b).take (i + 1) := (List.take_succ_eq_append_getElem hix).symm
    simp only [ref01_Xor.l0, c0, c1, c3, rdL_get hil, rdL_get hib, e3, c4, e4, if_true, Option.bind_some, ginc (i := i) (by omega)]
    exact ih (i + 1) k (by omega) (by omega)
theorem gXorR {a b : List Int} (h : a.length = b.length) (hs : a.length < 900) : ref01_Xor.f 1000 a b = some (xr a b) := by
  have h0 : ref01_Xor.l0 1000 1000 a b 0 [] = some (xr a b) := gXorR_l0 h (by omega) a.length 0 1000 (by omega) (by omega)
  unfold ref01_Xor.f
  rw [h0]
  rfl
theorem gJoinR_l0 {W : List (List Int)} (hl : W.length < 100000) (hf : W.flatten.length < 100000) : ∀ (m i k : Nat), i + m = W.length → m < k → ref01_Join.l0 1000 k W (i : Int) (W.take i).flatten = some W.flatten := by
  intro m
  induction m with
  | zero =>
    intro i k hi hk
    obtain ⟨k, rfl⟩ : ∃ q, k = q + 1 := ⟨k - 1, by omega⟩
    have c : ¬ (i : Int) < ((W.length : Nat) : Int) := by omega
    simp only [ref01_Join.l0, c, if_false, List.take_of_length_le (Nat.le_of_eq (show W.length = i by omega))]
  | succ m ih =>
    intro i k hi hk
    obtain ⟨k, rfl⟩ : ∃ q, k = q + 1 := ⟨k - 1, by omega⟩
    have hil : i < W.length := by omega
    have c0 : (i : Int) < ((W.length : Nat) : Int) := by omega
    have c1 : (0 : Int) ≤ (i : Int) := by omega
    have h2 := g_fle W (i + 1)
    rw [g_flt hil, List.length_append] at h2
    have c2 : (W.take i).flatten.length + W[i].length ≤ 140737488355328 := by omega
    simp only [ref01_Join.l0, c0, c1, hil, g_rdLL hil, c2, if_true, Option.bind_some, ← g_flt hil, ginc (i := i) (by omega)]
    exact ih (i + 1) k (by omega) (by omega)
theorem gJoinR {a b : List Int} (hl : a.length + b.length < 900) : ref01_Join.f 1000 [a, b] = some (a ++ b) := by
  have h := gJoinR_l0 (W := [a, b]) (by show 2 < 100000; decide) (by simp; omega) 2 0 1000 rfl (by decide)
  have h0 : ref01_Join.l0 1000 1000 [a, b] 0 [] = some ([a, b] : List (List Int)).flatten := h
  unfold ref01_Join.f
  rw [h0]
  simp
theorem fl_16 {z : List Int} (h : 16 ≤ z.length) : fl z = z.take 16 := by
  refine List.ext_getElem (by rw [fl_len, List.length_take]; omega) fun i h1 h2 => ?_
  rw [fl_get z h1, if_pos h2, List.getD_eq_getElem?_getD, List.getElem?_eq_getElem h2]
  rfl
theorem sm_step {h s : EL} {z : List Int} (m : Nat) (hz : z ≠ []) : sm h (m + 1) s z = sm h m (tm (xp s (rd16 (fl z))) h) (z.drop 16) := by
  show (if z = [] then s else _) = _
  rw [if_neg hz]
theorem sm_nil {h s : EL} : ∀ m, sm h m s [] = s
  | 0 => rfl
  | m + 1 => by show (if ([] : List Int) = [] then s else _) = s; rw [if_pos rfl]
theorem sm_fuel {h : EL} : ∀ (m m' : Nat) {s : EL} {z : List Int}, z.length ≤ 16 * m → z.length ≤ 16 * m' → sm h m s z = sm h m' s z
  | 0, m', s, z, h1, _ => by
    have : z = [] := List.eq_nil_of_length_eq_zero (by omega)
    rw [this, sm_nil, sm_nil]
  | m + 1, 0, s, z, _, h2 => by
    have : z = [] := List.eq_nil_of_length_eq_zero (by omega)
    rw [this, sm_nil, sm_nil]
  | m + 1, m' + 1, s, z, h1, h2 => by
    by_cases hz : z = []
    · rw [hz, sm_nil, sm_nil]
    · rw [sm_step m hz, sm_step m' hz]
      exact sm_fuel m m' (by rw [List.length_drop]; omega) (by rw [List.length_drop]; omega)
theorem sm_app {h : EL} : ∀ (n m : Nat) {s : EL} {p q : List Int}, p.length = 16 * n → sm h (n + m) s (p ++ q) = sm h m (sm h n s p) q
  | 0, m, s, p, q, hp => by
    have : p = [] := List.eq_nil_of_length_eq_zero (by omega)
    subst this
    rw [sm_nil, Nat.zero_add]
    rfl
  | n + 1, m, s, p, q, hp => by
    have hz : p ≠ [] := fun e => by rw [e] at hp; simp at hp
    have hz2 : p ++ q ≠ [] := fun e => hz (List.append_eq_nil_iff.1 e).1
    rw [show n + 1 + m = n + m + 1 by omega, sm_step (n + m) hz2, sm_step n hz, fl_16 (by rw [List.length_append]; omega), fl_16 (by omega), List.take_append_of_le_length (by omega), List.drop_append_of_le_length (by omega)]
    exact sm_app n m (by rw [List.length_drop]; omega)
end Go.Proofs.Ytmpagpbnpgcecaa
