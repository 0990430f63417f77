/- Layer 12 (gcm), plain laws: products do not hang on the order or on brackets, and go over xor. -/
import Derived.Test.YtmpagpbnpgcecaaGc
set_option linter.unusedSimpArgs false
set_option linter.unusedVariables false
set_option maxRecDepth 100000
namespace Go.Proofs.Ytmpagpbnpgcecaa
open Go Go.Mx
theorem xp_comm (p q : EL) : xp p q = xp q p := by unfold xp; rw [Nat.xor_comm, Nat.xor_comm p.2]
theorem xp_assoc (p q r : EL) : xp (xp p q) r = xp p (xp q r) := by unfold xp; simp only [Nat.xor_assoc]
theorem xp_zero (p : EL) : xp p (0, 0) = p := by unfold xp; simp only [Nat.xor_zero]
theorem P0 : P64 (0, 0) := ⟨by decide, by decide⟩
theorem nx_zero : nx (0, 0) = (0, 0) := by decide
theorem xor_half (a b : Nat) : (a ^^^ b) / 2 = a / 2 ^^^ b / 2 := by
  have := Nat.shiftRight_xor_distrib (a := a) (b := b) (i := 1)
  simpa [Nat.shiftRight_eq_div_pow] using this
theorem xor_mod2 (a b : Nat) : (a ^^^ b) % 2 = (a % 2 + b % 2) % 2 := by
  have h := Nat.xor_mod_two_pow (a := a) (b := b) (n := 1)
  rw [Nat.pow_one] at h
  rw [h]
  rcases Nat.mod_two_eq_zero_or_one a with h1 | h1 <;> rcases Nat.mod_two_eq_zero_or_one b with h2 | h2 <;> rw [h1, h2] <;> decide
theorem or_top {x b : Nat} (hx : x < 2 ^ 63) : x ||| b * 2 ^ 63 = x ^^^ b * 2 ^ 63 := by
  refine Nat.eq_of_testBit_eq fun i => ?_
  rw [Nat.testBit_or, Nat.testBit_xor]
  by_cases h : i < 63
  · have : (b * 2 ^ 63).testBit i = false := by
      rw [Nat.mul_comm, Nat.testBit_two_pow_mul]
      simp [show ¬ 63 ≤ i by omega]
    simp [this]
  · have : x.testBit i = false := Nat.testBit_lt_two_pow (Nat.lt_of_lt_of_le hx (Nat.pow_le_pow_right (by decide) (by omega)))
    simp [this]
theorem nx_xp {p q : EL} (hp : P64 p) (hq : P64 q) : nx (xp p q) = xp (nx p) (nx q) := by
  obtain ⟨p1, p2⟩ := p
  obtain ⟨q1, q2⟩ := q
  obtain ⟨a1, a2⟩ := hp
  obtain ⟨b1, b2⟩ := hq
  have a2' : p2 < 2 ^ 64 := a2
  have b2' : q2 < 2 ^ 64 := b2
  have c2 : p2 ^^^ q2 < 2 ^ 64 := Nat.xor_lt_two_pow a2' b2'
  unfold nx xp
  simp only
  rw [or_top (show (p2 ^^^ q2) / 2 < 2 ^ 63 by omega), or_top (show p2 / 2 < 2 ^ 63 by omega), or_top (show q2 / 2 < 2 ^ 63 by omega), xor_half, xor_half, xor_mod2, xor_mod2]
  have e1 : (if (p2 % 2 + q2 % 2) % 2 = 1 then 16212958658533785600 else 0) = (if p2 % 2 = 1 then 16212958658533785600 else 0) ^^^ (if q2 % 2 = 1 then 16212958658533785600 else 0) := by
    rcases Nat.mod_two_eq_zero_or_one p2 with h | h <;> rcases Nat.mod_two_eq_zero_or_one q2 with h' | h' <;> rw [h, h'] <;> decide
  have e2 : (p1 % 2 + q1 % 2) % 2 * 2 ^ 63 = (p1 % 2 * 2 ^ 63) ^^^ (q1 % 2 * 2 ^ 63) := by
    rcases Nat.mod_two_eq_zero_or_one p1 with h | h <;> rcases Nat.mod_two_eq_zero_or_one q1 with h' | h' <;> rw [h, h'] <;> decide
  rw [e1, e2]
  have sw : ∀ a b c d : Nat, (a ^^^ b) ^^^ (c ^^^ d) = (a ^^^ c) ^^^ (b ^^^ d) := fun a b c d => by
    rw [Nat.xor_assoc, Nat.xor_assoc, ← Nat.xor_assoc b c d, Nat.xor_comm b c, Nat.xor_assoc c b d]
  exact Prod.ext (sw _ _ _ _) (sw _ _ _ _)
/-- f times x, n times -/
def nxs : Nat → EL → EL
  | 0, f => f
  | n + 1, f => nx (nxs n f)
theorem nxs_P {f : EL} (hf : P64 f) : ∀ n, P64 (nxs n f)
  | 0 => hf
  | n + 1 => (nxs_P hf n).nx
theorem nxs_xp {f g : EL} (hf : P64 f) (hg : P64 g) : ∀ n, nxs n (xp f g) = xp (nxs n f) (nxs n g)
  | 0 => rfl
  | n + 1 => by
    show nx (nxs n (xp f g)) = _
    rw [nxs_xp hf hg n, nx_xp (nxs_P hf n) (nxs_P hg n)]
    rfl
theorem nxs_nx (f : EL) : ∀ n, nxs n (nx f) = nx (nxs n f)
  | 0 => rfl
  | n + 1 => by
    show nx (nxs n (nx f)) = _
    rw [nxs_nx f n]
    rfl
/-- the polynomial of e's first n bits, of nx, at f -/
def SS (e : EL) : Nat → EL → EL
  | 0, _ => (0, 0)
  | n + 1, f => if bt e n then xp (SS e n f) (nxs n f) else SS e n f
theorem SS_P {e f : EL} (hf : P64 f) : ∀ n, P64 (SS e n f)
  | 0 => P0
  | n + 1 => by
    unfold SS
    split
    · exact (SS_P hf n).xp (nxs_P hf n)
    · exact SS_P hf n
theorem tms_SS (e : EL) (f0 : EL) : ∀ (m i : Nat), (tms e m i (SS e i f0) (nxs i f0)).1 = SS e (i + m) f0
  | 0, i => rfl
  | m + 1, i => by
    have h := tms_SS e f0 m (i + 1)
    rw [show i + (m + 1) = i + 1 + m by omega, ← h]
    rfl
theorem tm_SS (e f : EL) : tm e f = SS e 128 f := by
  have h := tms_SS e f 128 0
  rw [Nat.zero_add] at h
  exact h
theorem SS_nx (e : EL) {f : EL} (hf : P64 f) : ∀ n, SS e n (nx f) = nx (SS e n f)
  | 0 => by show (0, 0) = nx (0, 0); rw [nx_zero]
  | n + 1 => by
    unfold SS
    rw [SS_nx e hf n, nxs_nx]
    split
    · rw [nx_xp (SS_P hf n) (nxs_P hf n)]
    · rfl
theorem SS_nxs (e : EL) {f : EL} (hf : P64 f) (n : Nat) : ∀ m, SS e n (nxs m f) = nxs m (SS e n f)
  | 0 => rfl
  | m + 1 => by
    show SS e n (nx (nxs m f)) = nx (nxs m (SS e n f))
    rw [SS_nx e (nxs_P hf m), SS_nxs e hf n m]
/-- the one -/
def one : EL := (2 ^ 63, 0)
theorem one_P : P64 one := ⟨by decide, by decide⟩
theorem nxs_one1 : ∀ j : Fin 64, nxs j.val one = (2 ^ (63 - j.val), 0) := by decide +kernel
theorem nxs_one2 : ∀ j : Fin 64, nxs (64 + j.val) one = (0, 2 ^ (63 - j.val)) := by decide +kernel
theorem top_step (x s : Nat) : x / 2 ^ (s + 1) * 2 ^ (s + 1) ^^^ (if x / 2 ^ s % 2 = 1 then 2 ^ s else 0) = x / 2 ^ s * 2 ^ s := by
  refine Nat.eq_of_testBit_eq fun i => ?_
  rw [Nat.testBit_xor, Nat.mul_comm, Nat.testBit_two_pow_mul, Nat.mul_comm (x / 2 ^ s), Nat.testBit_two_pow_mul, Nat.testBit_div_two_pow, Nat.testBit_div_two_pow]
  by_cases h : x / 2 ^ s % 2 = 1
  · have hb : x.testBit s = true := by rw [Nat.testBit_eq_decide_div_mod_eq]; simpa using h
    rw [if_pos h, Nat.testBit_two_pow]
    by_cases hi : s = i
    · subst hi
      simp [hb, show ¬ s + 1 ≤ s by omega]
    · by_cases h2 : s + 1 ≤ i
      · simp [hi, h2, show s ≤ i by omega, show i - (s + 1) + (s + 1) = i by omega, show i - s + s = i by omega]
      · simp [hi, h2, show ¬ s ≤ i by omega]
  · have hb : x.testBit s = false := by rw [Nat.testBit_eq_decide_div_mod_eq]; simpa using h
    rw [if_neg h, Nat.zero_testBit, Bool.xor_false]
    by_cases h2 : s + 1 ≤ i
    · simp [h2, show s ≤ i by omega, show i - (s + 1) + (s + 1) = i by omega, show i - s + s = i by omega]
    · by_cases hi : s = i
      · subst hi
        simp [hb, h2]
      · simp [h2, show ¬ s ≤ i by omega]
theorem SS_one1 {e : EL} (he : P64 e) : ∀ n, n ≤ 64 → SS e n one = (e.1 / 2 ^ (64 - n) * 2 ^ (64 - n), 0)
  | 0, _ => by
    show (0, 0) = _
    rw [show e.1 / 2 ^ (64 - 0) = 0 from Nat.div_eq_of_lt he.1, Nat.zero_mul]
  | n + 1, h => by
    have i1 := SS_one1 he n (by omega)
    have hn := nxs_one1 ⟨n, by omega⟩
    have hn' : nxs n one = (2 ^ (63 - n), 0) := hn
    have hb : bt e n ↔ e.1 / 2 ^ (63 - n) % 2 = 1 := by
      unfold bt
      rw [if_neg (by omega), Nat.mod_eq_of_lt (show n < 64 by omega)]
    have ts := top_step e.1 (63 - n)
    rw [show 63 - n + 1 = 64 - n by omega] at ts
    rw [show 64 - (n + 1) = 63 - n by omega, ← ts]
    unfold SS
    rw [i1, hn']
    by_cases hc : bt e n
    · rw [if_pos hc, if_pos (hb.1 hc)]
      show (_ ^^^ _, 0 ^^^ 0) = _
      rw [Nat.xor_self]
    · rw [if_neg hc, if_neg (fun q => hc (hb.2 q)), Nat.xor_zero]
theorem SS_one2 {e : EL} (he : P64 e) : ∀ n, n ≤ 64 → SS e (64 + n) one = (e.1, e.2 / 2 ^ (64 - n) * 2 ^ (64 - n))
  | 0, _ => by
    rw [Nat.add_zero, SS_one1 he 64 (Nat.le_refl _), show e.2 / 2 ^ (64 - 0) = 0 from Nat.div_eq_of_lt he.2, Nat.zero_mul, Nat.sub_self, Nat.pow_zero, Nat.div_one, Nat.mul_one]
  | n + 1, h => by
    have i1 := SS_one2 he n (by omega)
    have hn' : nxs (64 + n) one = (0, 2 ^ (63 - n)) := nxs_one2 ⟨n, by omega⟩
    have hb : bt e (64 + n) ↔ e.2 / 2 ^ (63 - n) % 2 = 1 := by
      unfold bt
      rw [if_pos (by omega), show (64 + n) % 64 = n by omega]
    have ts := top_step e.2 (63 - n)
    rw [show 63 - n + 1 = 64 - n by omega] at ts
    rw [show 64 - (n + 1) = 63 - n by omega, ← ts]
    show SS e (64 + n + 1) one = _
    unfold SS
    rw [i1, hn']
    by_cases hc : bt e (64 + n)
    · rw [if_pos hc, if_pos (hb.1 hc)]
      show (e.1 ^^^ 0, _) = _
      rw [Nat.xor_zero]
    · rw [if_neg hc, if_neg (fun q => hc (hb.2 q)), Nat.xor_zero]
theorem tm_one {e : EL} (he : P64 e) : SS e 128 one = e := by
  have h := SS_one2 he 64 (Nat.le_refl _)
  rw [Nat.sub_self, Nat.pow_zero, Nat.div_one, Nat.mul_one] at h
  exact h
end Go.Proofs.Ytmpagpbnpgcecaa
