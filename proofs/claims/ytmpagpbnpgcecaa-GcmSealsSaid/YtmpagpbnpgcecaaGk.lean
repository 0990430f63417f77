/- Layer 12 (gcm), plain laws: the document's product of blocks, and its sum of blocks. -/
import Derived.Test.YtmpagpbnpgcecaaGj
import Derived.Test.YtmpagpbnpgcecaaGi
set_option linter.unusedSimpArgs false
set_option linter.unusedVariables false
set_option maxRecDepth 100000
namespace Go.Proofs.Ytmpagpbnpgcecaa
open Go Go.Mx
theorem xp_self (p : EL) : xp p p = (0, 0) := by unfold xp; rw [Nat.xor_self, Nat.xor_self]
theorem xp_twice (p q : EL) : xp (xp p q) q = p := by rw [xp_assoc, xp_self, xp_zero]
theorem xp_right (p q r : EL) : xp (xp p q) r = xp (xp p r) q := by rw [xp_assoc, xp_comm q r, ← xp_assoc]
theorem nxs_add (f : EL) (m : Nat) : ∀ n, nxs (m + n) f = nxs n (nxs m f)
  | 0 => rfl
  | n + 1 => by
    show nx (nxs (m + n) f) = nx (nxs n (nxs m f))
    rw [nxs_add f m n]
/-- a row of bits -/
def Bits (p : List Int) : Prop := ∀ x ∈ p, x = 0 ∨ x = 1
/-- the element that the first n bits are -/
def VL (p : List Int) : Nat → EL
  | 0 => (0, 0)
  | n + 1 => if p.getD n 0 = 1 then xp (VL p n) (nxs n one) else VL p n
theorem getD_set (p : List Int) (j m : Nat) (v : Int) (hj : j < p.length) : (p.set j v).getD m 0 = if j = m then v else p.getD m 0 := by
  rw [List.getD_eq_getElem?_getD, List.getElem?_set, List.getD_eq_getElem?_getD]
  by_cases h : j = m
  · subst h
    simp [hj]
  · simp [h]
theorem VL_low (p : List Int) (j : Nat) (v : Int) (hj : j < p.length) : ∀ n, n ≤ j → VL (p.set j v) n = VL p n
  | 0, _ => rfl
  | n + 1, h => by
    unfold VL
    rw [VL_low p j v hj n (by omega), getD_set p j n v hj, if_neg (show ¬ j = n by omega)]
theorem VL_flip {p : List Int} {j : Nat} {v : Int} (hj : j < p.length) (hv : v = 1 ↔ ¬ p.getD j 0 = 1) : ∀ n, j < n → VL (p.set j v) n = xp (VL p n) (nxs j one)
  | 0, h => absurd h (by omega)
  | n + 1, h => by
    unfold VL
    rw [getD_set p j n v hj]
    by_cases e : j = n
    · subst e
      rw [if_pos rfl, VL_low p j v hj j (Nat.le_refl _)]
      by_cases hp : p.getD j 0 = 1
      · rw [if_neg (fun q => hv.1 q hp), if_pos hp, xp_twice]
      · rw [if_pos (hv.2 hp), if_neg hp]
    · rw [if_neg e, VL_flip hj hv n (by omega)]
      split
      · rw [xp_right]
      · rfl
theorem bits_get {p : List Int} (hb : Bits p) (j : Nat) : p.getD j 0 = 0 ∨ p.getD j 0 = 1 := by
  rw [List.getD_eq_getElem?_getD]
  by_cases h : j < p.length
  · rw [List.getElem?_eq_getElem h]
    exact hb _ (List.getElem_mem h)
  · rw [List.getElem?_eq_none (by omega)]
    exact .inl rfl
theorem bits_set {p : List Int} (hb : Bits p) (j : Nat) {v : Int} (hv : v = 0 ∨ v = 1) : Bits (p.set j v) := fun x hx => by
  rcases List.mem_or_eq_of_mem_set hx with h | h
  · exact hb x h
  · rw [h]; exact hv
theorem rdD (p : List Int) (j : Nat) : rdL (CI .u8) p (j : Int) = p.getD j 0 := by
  unfold rdL
  rw [Int.toNat_natCast]
  rfl
theorem wr_flip {p : List Int} (hb : Bits p) {j : Nat} (hj : j < p.length) : ∃ q, wrL p (j : Int) (ixor .u8 (rdL (CI .u8) p (j : Int)) 1) = q ∧ q.length = p.length ∧ Bits q ∧ (∀ n, n ≤ j → VL q n = VL p n) ∧ ∀ n, j < n → VL q n = xp (VL p n) (nxs j one) := by
  refine ⟨_, rfl, ?_⟩
  unfold wrL
  rw [rdD, Int.toNat_natCast]
  rcases bits_get hb j with h | h
  · rw [h]
    exact ⟨List.length_set, bits_set hb j (by decide), VL_low p j _ hj, VL_flip hj (by rw [h]; decide)⟩
  · rw [h]
    exact ⟨List.length_set, bits_set hb j (by decide), VL_low p j _ hj, VL_flip hj (by rw [h]; decide)⟩
theorem wr_keep {p : List Int} (hb : Bits p) {j : Nat} (hj : j < p.length) : ∃ q, wrL p (j : Int) (ixor .u8 (rdL (CI .u8) p (j : Int)) 0) = q ∧ q.length = p.length ∧ Bits q ∧ ∀ n, VL q n = VL p n := by
  refine ⟨_, rfl, ?_⟩
  unfold wrL
  rw [rdD, Int.toNat_natCast]
  have e : ixor .u8 (p.getD j 0) 0 = p[j] := by
    rw [List.getD_eq_getElem?_getD, List.getElem?_eq_getElem hj, Option.getD_some]
    rcases hb _ (List.getElem_mem hj) with h | h <;> rw [h] <;> decide
  rw [e, List.set_getElem_self]
  exact ⟨rfl, hb, fun _ => rfl⟩
theorem gaddN {i j : Nat} (h : i + j < 1000000) : iadd .i64 (i : Int) (j : Int) = ((i + j : Nat) : Int) := by rw [add64 (by omega) (by omega)]; omega
theorem gMulR_l1 {a b : List Int} (ha : InL .u8 a) (hb : InL .u8 b) (la : a.length = 16) (lb : b.length = 16) {i : Nat} (hi : i < 128) (V0 : EL) : ∀ (m j k : Nat) (p : List Int), j + m = 128 → m < k → p.length = 255 → Bits p →
    VL p 255 = xp V0 (if bt (rd16 a) i then SS (rd16 b) j (nxs i one) else (0, 0)) →
    ∃ q, ref12_Mul.l1 1000 k a b (i : Int) (j : Int) p = some q ∧ q.length = 255 ∧ Bits q ∧ VL q 255 = xp V0 (if bt (rd16 a) i then SS (rd16 b) 128 (nxs i one) else (0, 0)) := by
  intro m
  induction m with
  | zero =>
    intro j k p hj hk hl hB hv
    obtain ⟨k, rfl⟩ : ∃ q, k = q + 1 := ⟨k - 1, by omega⟩
    have c : ¬ (j : Int) < 128 := by omega
    refine ⟨p, by simp only [ref12_Mul.l1, c, if_false], hl, hB, ?_⟩
    rw [hv, show j = 128 by omega]
  | succ m ih =>
    intro j k p hj hk hl hB hv
    obtain ⟨k, rfl⟩ : ∃ q, k = q + 1 := ⟨k - 1, by omega⟩
    have c : (j : Int) < 128 := by omega
    have c0 : (0 : Int) ≤ ((i + j : Nat) : Int) := by omega
    have c1 : ((i + j : Nat) : Int) < ((p.length : Nat) : Int) := by omega
    have b1 := gBit ha la hi
    have b2 := gBit hb lb (show j < 128 by omega)
    have t1 := bt_bb ha la hi
    have t2 := bt_bb hb lb (show j < 128 by omega)
    have x2 : bb a i < 2 := Nat.mod_lt _ (by decide)
    have y2 : bb b j < 2 := Nat.mod_lt _ (by decide)
    have hij : i + j < p.length := by omega
    obtain ⟨q, e1, e2, e3, e4⟩ : ∃ q, wrL p ((i + j : Nat) : Int) (ixor .u8 (rdL (CI .u8) p ((i + j : Nat) : Int)) (iand .u8 ((bb a i : Nat) : Int) ((bb b j : Nat) : Int))) = q ∧ q.length = p.length ∧ Bits q ∧
        VL q 255 = xp V0 (if bt (rd16 a) i then SS (rd16 b) (j + 1) (nxs i one) else (0, 0)) := by
      by_cases h1 : bb a i = 1
      · have h1' := t1.2 h1
        rw [if_pos h1'] at hv
        rw [if_pos h1']
        by_cases h2 : bb b j = 1
        · rw [h1, h2]
          have hs : SS (rd16 b) (j + 1) (nxs i one) = xp (SS (rd16 b) j (nxs i one)) (nxs j (nxs i one)) := by
            show (if bt (rd16 b) j then _ else _) = _
            rw [if_pos (t2.2 h2)]
          obtain ⟨q, e1, e2, e3, _, e4⟩ := wr_flip hB hij
          refine ⟨q, e1, e2, e3, ?_⟩
          rw [e4 255 (by omega), hv, hs, nxs_add, xp_assoc]
        · have hs : SS (rd16 b) (j + 1) (nxs i one) = SS (rd16 b) j (nxs i one) := by
            show (if bt (rd16 b) j then _ else _) = _
            rw [if_neg (fun h => h2 (t2.1 h))]
          rw [h1, show bb b j = 0 by omega]
          obtain ⟨q, e1, e2, e3, e4⟩ := wr_keep hB hij
          exact ⟨q, e1, e2, e3, by rw [e4, hv, hs]⟩
      · have h1' : ¬ bt (rd16 a) i := fun h => h1 (t1.1 h)
        rw [if_neg h1'] at hv
        rw [if_neg h1']
        have hz : iand .u8 ((bb a i : Nat) : Int) ((bb b j : Nat) : Int) = 0 := by
          rw [show bb a i = 0 by omega]
          rcases (show bb b j = 0 ∨ bb b j = 1 by omega) with h | h <;> rw [h] <;> decide
        rw [hz]
        obtain ⟨q, e1, e2, e3, e4⟩ := wr_keep hB hij
        exact ⟨q, e1, e2, e3, by rw [e4, hv]⟩
    obtain ⟨r, i1, i2, i3, i4⟩ := ih (j + 1) k q (by omega) (by omega) (by omega) e3 e4
    refine ⟨r, ?_, i2, i3, i4⟩
    simp only [ref12_Mul.l1, c, c0, c1, gaddN (i := i) (j := j) (by omega), b1, b2, if_true, Option.bind_some, e1, ginc (i := j) (by omega)]
    exact i1
theorem gMulR_l0 {a b : List Int} (ha : InL .u8 a) (hb : InL .u8 b) (la : a.length = 16) (lb : b.length = 16) : ∀ (m i k : Nat) (p : List Int), i + m = 128 → m < k → p.length = 255 → Bits p →
    VL p 255 = SS (rd16 a) i (rd16 b) →
    ∃ q, ref12_Mul.l0 1000 k a b (i : Int) p = some q ∧ q.length = 255 ∧ Bits q ∧ VL q 255 = SS (rd16 a) 128 (rd16 b) := by
  intro m
  induction m with
  | zero =>
    intro i k p hj hk hl hB hv
    obtain ⟨k, rfl⟩ : ∃ q, k = q + 1 := ⟨k - 1, by omega⟩
    have c : ¬ (i : Int) < 128 := by omega
    refine ⟨p, by simp only [ref12_Mul.l0, c, if_false], hl, hB, ?_⟩
    rw [hv, show i = 128 by omega]
  | succ m ih =>
    intro i k p hj hk hl hB hv
    obtain ⟨k, rfl⟩ : ∃ q, k = q + 1 := ⟨k - 1, by omega⟩
    have c : (i : Int) < 128 := by omega
    have h0 : VL p 255 = xp (SS (rd16 a) i (rd16 b)) (if bt (rd16 a) i then SS (rd16 b) 0 (nxs i one) else (0, 0)) := by
      have : (if bt (rd16 a) i then SS (rd16 b) 0 (nxs i one) else ((0, 0) : EL)) = (0, 0) := by
        split <;> rfl
      rw [this, xp_zero, hv]
    obtain ⟨q, e1, e2, e3, e4⟩ := gMulR_l1 ha hb la lb (show i < 128 by omega) (SS (rd16 a) i (rd16 b)) 128 0 1000 p (by omega) (by omega) hl hB h0
    have e1' : ref12_Mul.l1 1000 1000 a b (i : Int) 0 p = some q := e1
    have e5 : VL q 255 = SS (rd16 a) (i + 1) (rd16 b) := by
      rw [e4, SS_nxs (rd16 b) one_P, tm_one (rd16_P b)]
      show _ = (if bt (rd16 a) i then xp (SS (rd16 a) i (rd16 b)) (nxs i (rd16 b)) else SS (rd16 a) i (rd16 b))
      split
      · rfl
      · rw [xp_zero]
    obtain ⟨r, i1, i2, i3, i4⟩ := ih (i + 1) k q (by omega) (by omega) e2 e3 e5
    refine ⟨r, ?_, i2, i3, i4⟩
    simp only [ref12_Mul.l0, c, e1', if_true, Option.bind_some, ginc (i := i) (by omega)]
    exact i1
theorem nxs_128 : nxs 128 one = xp (xp (xp (nxs 0 one) (nxs 1 one)) (nxs 2 one)) (nxs 7 one) := by decide +kernel
theorem nxs_red (t : Nat) : nxs (128 + t) one = xp (xp (xp (nxs t one) (nxs (t + 1) one)) (nxs (t + 2) one)) (nxs (t + 7) one) := by
  have P := fun n => nxs_P one_P n
  rw [nxs_add, nxs_128, nxs_xp (((P 0).xp (P 1)).xp (P 2)) (P 7), nxs_xp ((P 0).xp (P 1)) (P 2), nxs_xp (P 0) (P 1), ← nxs_add, ← nxs_add, ← nxs_add, ← nxs_add, Nat.zero_add, Nat.add_comm 1 t, Nat.add_comm 2 t, Nat.add_comm 7 t]
theorem gsubN {i j : Nat} (h : i < 1000000) (hj : j ≤ i) : isub .i64 (i : Int) (j : Int) = ((i - j : Nat) : Int) := by rw [sub64 (by omega) (by omega)]; omega
theorem gMulR_l2 (V : EL) : ∀ (m k : Nat) (p : List Int), m ≤ 127 → m < k → p.length = 255 → Bits p → VL p (128 + m) = V →
    ∃ q, ref12_Mul.l2 1000 k ((127 + m : Nat) : Int) p = some q ∧ q.length = 255 ∧ Bits q ∧ VL q 128 = V := by
  intro m
  induction m with
  | zero =>
    intro k p hm hk hl hB hv
    obtain ⟨k, rfl⟩ : ∃ q, k = q + 1 := ⟨k - 1, by omega⟩
    have c : ¬ ((127 + 0 : Nat) : Int) ≥ 128 := by omega
    exact ⟨p, by simp only [ref12_Mul.l2, c, if_false], hl, hB, hv⟩
  | succ m ih =>
    intro k p hm hk hl hB hv
    obtain ⟨k, rfl⟩ : ∃ q, k = q + 1 := ⟨k - 1, by omega⟩
    have ez : ((127 + (m + 1) : Nat) : Int) = ((128 + m : Nat) : Int) := by omega
    rw [ez]
    have c : ((128 + m : Nat) : Int) ≥ 128 := by omega
    have c0 : (0 : Int) ≤ ((128 + m : Nat) : Int) := by omega
    have c1 : ((128 + m : Nat) : Int) < ((p.length : Nat) : Int) := by omega
    have s1 : isub .i64 ((128 + m : Nat) : Int) 1 = ((127 + m : Nat) : Int) := by
      have := gsubN (i := 128 + m) (j := 1) (by omega) (by omega)
      rw [show 128 + m - 1 = 127 + m by omega] at this
      exact this
    have hv' : (if p.getD (128 + m) 0 = 1 then xp (VL p (128 + m)) (nxs (128 + m) one) else VL p (128 + m)) = V := hv
    by_cases hp : p.getD (128 + m) 0 = 1
    · rw [if_pos hp, nxs_red] at hv'
      have r0 : rdL (CI .u8) p ((128 + m : Nat) : Int) = 1 := by rw [rdD, hp]
      have a0 : isub .i64 ((128 + m : Nat) : Int) 128 = ((m : Nat) : Int) := by
        have := gsubN (i := 128 + m) (j := 128) (by omega) (by omega)
        rw [show 128 + m - 128 = m by omega] at this
        exact this
      have a1 : isub .i64 ((128 + m : Nat) : Int) 127 = ((m + 1 : Nat) : Int) := by
        have := gsubN (i := 128 + m) (j := 127) (by omega) (by omega)
        rw [show 128 + m - 127 = m + 1 by omega] at this
        exact this
      have a2 : isub .i64 ((128 + m : Nat) : Int) 126 = ((m + 2 : Nat) : Int) := by
        have := gsubN (i := 128 + m) (j := 126) (by omega) (by omega)
        rw [show 128 + m - 126 = m + 2 by omega] at this
        exact this
      have a7 : isub .i64 ((128 + m : Nat) : Int) 121 = ((m + 7 : Nat) : Int) := by
        have := gsubN (i := 128 + m) (j := 121) (by omega) (by omega)
        rw [show 128 + m - 121 = m + 7 by omega] at this
        exact this
      obtain ⟨p0, w0, l0, B0, _, v0⟩ := wr_flip hB (show m < p.length by omega)
      obtain ⟨p1, w1, l1, B1, _, v1⟩ := wr_flip B0 (show m + 1 < p0.length by omega)
      obtain ⟨p2, w2, l2, B2, _, v2⟩ := wr_flip B1 (show m + 2 < p1.length by omega)
      obtain ⟨p3, w3, l3, B3, _, v3⟩ := wr_flip B2 (show m + 7 < p2.length by omega)
      have hv3 : VL p3 (128 + m) = V := by
        rw [v3 _ (by omega), v2 _ (by omega), v1 _ (by omega), v0 _ (by omega), ← hv']
        simp only [xp_assoc]
      obtain ⟨r, i1, i2, i3, i4⟩ := ih k p3 (by omega) (by omega) (by omega) B3 hv3
      refine ⟨r, ?_, i2, i3, i4⟩
      have d0 : (0 : Int) ≤ ((m : Nat) : Int) := by omega
      have d0' : ((m : Nat) : Int) < ((p.length : Nat) : Int) := by omega
      have d1 : (0 : Int) ≤ ((m + 1 : Nat) : Int) := by omega
      have d1' : ((m + 1 : Nat) : Int) < ((p0.length : Nat) : Int) := by omega
      have d2 : (0 : Int) ≤ ((m + 2 : Nat) : Int) := by omega
      have d2' : ((m + 2 : Nat) : Int) < ((p1.length : Nat) : Int) := by omega
      have d3 : (0 : Int) ≤ ((m + 7 : Nat) : Int) := by omega
      have d3' : ((m + 7 : Nat) : Int) < ((p2.length : Nat) : Int) := by omega
      simp only [ref12_Mul.l2, c, c0, c1, r0, a0, a1, a2, a7, d0, d0', w0, d1, d1', w1, d2, d2', w2, d3, d3', w3, s1, if_true, Option.bind_some]
      exact i1
    · rw [if_neg hp] at hv'
      have r0 : ¬ rdL (CI .u8) p ((128 + m : Nat) : Int) = 1 := by rw [rdD]; exact hp
      obtain ⟨r, i1, i2, i3, i4⟩ := ih k p (by omega) (by omega) hl hB hv'
      refine ⟨r, ?_, i2, i3, i4⟩
      simp only [ref12_Mul.l2, c, c0, c1, r0, s1, if_true, if_false, Option.bind_some]
      exact i1
/-- the bits that were put into the bytes so far -/
def Put (p out : List Int) (i : Nat) : Prop := out.length = 16 ∧ InL .u8 out ∧ ∀ m, m < 128 → ((out.getD (m / 8) 0).toNat.testBit (7 - m % 8) = true ↔ m < i ∧ p.getD m 0 = 1)
theorem gMulR_l3 {p : List Int} (hB : Bits p) (hl : p.length = 255) : ∀ (m i k : Nat) (out : List Int), i + m = 128 → m < k → Put p out i →
    ∃ q, ref12_Mul.l3 1000 k p (i : Int) out = some q ∧ Put p q 128 := by
  intro m
  induction m with
  | zero =>
    intro i k out hi hk hP
    obtain ⟨k, rfl⟩ : ∃ q, k = q + 1 := ⟨k - 1, by omega⟩
    have c : ¬ (i : Int) < 128 := by omega
    refine ⟨out, by simp only [ref12_Mul.l3, c, if_false], ?_⟩
    rw [show i = 128 by omega] at hP
    exact hP
  | succ m ih =>
    intro i k out hi hk hP
    obtain ⟨k, rfl⟩ : ∃ q, k = q + 1 := ⟨k - 1, by omega⟩
    obtain ⟨lo, ho, hx⟩ := hP
    have c : (i : Int) < 128 := by omega
    have q : iquo .i64 (i : Int) 8 = ((i / 8 : Nat) : Int) := by
      unfold iquo
      rw [tdivN (by omega), id64 (by omega) (by omega)]
      omega
    have s : isub .i64 7 (irem .i64 (i : Int) 8) = ((7 - i % 8 : Nat) : Int) := by
      unfold irem
      rw [show Int.tmod (i : Int) 8 = ((i % 8 : Nat) : Int) from rfl, sub64 (by omega) (by omega)]
      omega
    have hil : i / 8 < out.length := by omega
    obtain ⟨x, hx1, hx2⟩ := byte_nat ho (List.getElem_mem hil)
    have e : rdL (CI .u8) out ((i / 8 : Nat) : Int) = (x : Int) := by rw [rdL_get hil, hx1]
    have g : (out.getD (i / 8) 0).toNat = x := by rw [List.getD_eq_getElem?_getD, List.getElem?_eq_getElem hil, Option.getD_some, hx1, Int.toNat_natCast]
    obtain ⟨b, hb1, hb2⟩ : ∃ b : Nat, p.getD i 0 = (b : Int) ∧ b < 2 := by
      rcases bits_get hB i with h | h
      · exact ⟨0, h, by decide⟩
      · exact ⟨1, h, by decide⟩
    have hpow : 2 ^ (7 - i % 8) ≤ 2 ^ 7 := Nat.pow_le_pow_right (by decide) (by omega)
    have hbs : b * 2 ^ (7 - i % 8) < 2 ^ 8 := by
      rcases (show b = 0 ∨ b = 1 by omega) with h | h <;> rw [h] <;> omega
    have sh : ishl .u8 (b : Int) ((7 - i % 8 : Nat) : Int) = ((b * 2 ^ (7 - i % 8) : Nat) : Int) := ishl_nat (k := .u8) (show 7 - i % 8 ≤ 8 by omega) hbs
    have o := ior_nat (k := .u8) (x := x) (y := b * 2 ^ (7 - i % 8)) (show x < 2 ^ 8 by omega) hbs
    have c0 : (0 : Int) ≤ ((i / 8 : Nat) : Int) := by omega
    have c1 : ((i / 8 : Nat) : Int) < ((out.length : Nat) : Int) := by omega
    have c2 : (0 : Int) ≤ (i : Int) := by omega
    have c3 : (i : Int) < ((p.length : Nat) : Int) := by omega
    have c4 : (0 : Int) ≤ ((7 - i % 8 : Nat) : Int) := by omega
    have hor : x ||| b * 2 ^ (7 - i % 8) < 2 ^ 8 := Nat.or_lt_two_pow (by omega) hbs
    have hP' : Put p (wrL out ((i / 8 : Nat) : Int) ((x ||| b * 2 ^ (7 - i % 8) : Nat) : Int)) (i + 1) := by
      refine ⟨by simp only [wrL, List.length_set]; exact lo, fun y hy => ?_, fun n hn => ?_⟩
      · rcases List.mem_or_eq_of_mem_set hy with h | h
        · exact ho y h
        · rw [h]
          exact (⟨Int.natCast_nonneg _, by omega⟩ : (0 : Int) ≤ ((x ||| b * 2 ^ (7 - i % 8) : Nat) : Int) ∧ ((x ||| b * 2 ^ (7 - i % 8) : Nat) : Int) ≤ (255 : Int))
      · unfold wrL
        rw [Int.toNat_natCast, getD_set out _ _ _ hil]
        by_cases h8 : i / 8 = n / 8
        · have hxn := hx n hn
          rw [← h8, g] at hxn
          rw [if_pos h8, Int.toNat_natCast, Nat.testBit_or, Bool.or_eq_true, hxn, Nat.mul_comm, Nat.testBit_two_pow_mul]
          by_cases hni : n = i
          · subst hni
            rw [hb1]
            rcases (show b = 0 ∨ b = 1 by omega) with h | h <;> rw [h] <;> simp
          · have hne : n % 8 ≠ i % 8 := fun hh => hni (by omega)
            have hf : (decide (7 - i % 8 ≤ 7 - n % 8) && b.testBit (7 - n % 8 - (7 - i % 8))) = false := by
              by_cases hle : 7 - i % 8 ≤ 7 - n % 8
              · have : b.testBit (7 - n % 8 - (7 - i % 8)) = false := Nat.testBit_lt_two_pow (Nat.lt_of_lt_of_le hb2 (show 2 ^ 1 ≤ _ from Nat.pow_le_pow_right (by decide) (by omega)))
                rw [this, Bool.and_false]
              · simp [hle]
            rw [hf]
            constructor
            · rintro (h | h)
              · exact ⟨by omega, h.2⟩
              · cases h
            · rintro ⟨h1, h2⟩
              exact .inl ⟨by omega, h2⟩
        · rw [if_neg h8, hx n hn]
          constructor
          · rintro ⟨h1, h2⟩; exact ⟨by omega, h2⟩
          · rintro ⟨h1, h2⟩
            exact ⟨by
              rcases Nat.lt_succ_iff_lt_or_eq.1 h1 with h | h
              · exact h
              · exact absurd (by rw [h]) h8, h2⟩
    obtain ⟨r, i1, i2⟩ := ih (i + 1) k _ (by omega) (by omega) hP'
    refine ⟨r, ?_, i2⟩
    simp only [ref12_Mul.l3, c, q, s, c0, c1, c2, c3, c4, e, rdD, hb1, sh, o, if_true, Option.bind_some, ginc (i := i) (by omega)]
    exact i1
theorem VL_SS {p : List Int} {E : EL} : ∀ n, (∀ m, m < n → (bt E m ↔ p.getD m 0 = 1)) → SS E n one = VL p n
  | 0, _ => rfl
  | n + 1, h => by
    have i1 := VL_SS n (fun m hm => h m (by omega))
    unfold SS VL
    rw [i1]
    by_cases hb : bt E n
    · rw [if_pos hb, if_pos ((h n (by omega)).1 hb)]
    · rw [if_neg hb, if_neg (fun q => hb ((h n (by omega)).2 q))]
theorem put_wr {p out : List Int} (h : Put p out 128) : out = wr16 (VL p 128) := by
  obtain ⟨lo, ho, hx⟩ := h
  have h1 : SS (rd16 out) 128 one = VL p 128 := by
    refine VL_SS 128 fun m hm => ?_
    rw [bt_bb ho lo hm]
    have := hx m hm
    rw [Nat.testBit_eq_decide_div_mod_eq, decide_eq_true_eq] at this
    show (out.getD (m / 8) 0).toNat / 2 ^ (7 - m % 8) % 2 = 1 ↔ _
    rw [this]
    exact ⟨fun q => q.2, fun q => ⟨hm, q⟩⟩
  rw [← h1, tm_one (rd16_P out), wr_rd ho lo]
theorem VL_zero (n : Nat) : ∀ m, VL (List.replicate n 0) m = (0, 0)
  | 0 => rfl
  | m + 1 => by
    unfold VL
    have : (List.replicate n (0 : Int)).getD m 0 = 0 := by
      rw [List.getD_eq_getElem?_getD]
      by_cases h : m < n
      · simp [h]
      · rw [List.getElem?_eq_none (by simp; omega)]; rfl
    rw [this, if_neg (by decide), VL_zero n m]
theorem gMulR {a b : List Int} (ha : InL .u8 a) (hb : InL .u8 b) (la : a.length = 16) (lb : b.length = 16) : ref12_Mul.f 1000 a b = some (wr16 (tm (rd16 a) (rd16 b))) := by
  have z : (List.replicate (255 : Int).toNat (Cod.zero (CI .u8)) : List Int) = List.replicate 255 0 := rfl
  obtain ⟨p, p1, p2, p3, p4⟩ := gMulR_l0 ha hb la lb 128 0 1000 (List.replicate 255 0) (by decide) (by decide) (List.length_replicate) (fun x hx => .inl (List.eq_of_mem_replicate hx)) (by rw [VL_zero]; rfl)
  obtain ⟨q, q1, q2, q3, q4⟩ := gMulR_l2 (SS (rd16 a) 128 (rd16 b)) 127 1000 p (by decide) (by decide) p2 p3 p4
  have hz : Put q (List.replicate 16 0) 0 := by
    refine ⟨List.length_replicate, fun x hx => ?_, fun m hm => ?_⟩
    · rw [List.eq_of_mem_replicate hx]
      exact (⟨by decide, by decide⟩ : (0 : Int) ≤ 0 ∧ (0 : Int) ≤ 255)
    · have : (List.replicate 16 (0 : Int)).getD (m / 8) 0 = 0 := by
        rw [List.getD_eq_getElem?_getD, List.getElem?_eq_getElem (by rw [List.length_replicate]; omega), List.getElem_replicate]
        rfl
      rw [this]
      simp
  obtain ⟨r, r1, r2⟩ := gMulR_l3 q3 q2 128 0 1000 (List.replicate 16 0) (by decide) (by decide) hz
  have p1' : ref12_Mul.l0 1000 1000 a b 0 (List.replicate (255 : Int).toNat (Cod.zero (CI .u8))) = some p := p1
  have q1' : ref12_Mul.l2 1000 1000 254 p = some q := q1
  have r1' : ref12_Mul.l3 1000 1000 q 0 (List.replicate (16 : Int).toNat (Cod.zero (CI .u8))) = some r := r1
  unfold ref12_Mul.f
  rw [if_pos (by omega), if_pos (by omega), p1', Option.bind_some, q1', Option.bind_some, r1', Option.bind_some, put_wr r2, q4, tm_SS]
theorem wr_zero : wr16 (0, 0) = List.replicate 16 0 := by decide
theorem gGhashR_l0 {h b : List Int} (hh : InL .u8 h) (hb : InL .u8 b) (lh : h.length = 16) (lb : b.length < 900) : ∀ (m i k : Nat) (s : EL), P64 s → b.length = i + 16 * m → m < k →
    ref12_Ghash.l0 1000 k h b (i : Int) (wr16 s) = some (wr16 (sm (rd16 h) m s (b.drop i))) := by
  intro m
  induction m with
  | zero =>
    intro i k s hs hl hk
    obtain ⟨k, rfl⟩ : ∃ q, k = q + 1 := ⟨k - 1, by omega⟩
    have c : ¬ (i : Int) < ((b.length : Nat) : Int) := by omega
    simp only [ref12_Ghash.l0, c, if_false]
    rfl
  | succ m ih =>
    intro i k s hs hl hk
    obtain ⟨k, rfl⟩ : ∃ q, k = q + 1 := ⟨k - 1, by omega⟩
    have c : (i : Int) < ((b.length : Nat) : Int) := by omega
    have a16 : iadd .i64 (i : Int) 16 = ((i + 16 : Nat) : Int) := gaddN (i := i) (j := 16) (by omega)
    have c0 : (0 : Int) ≤ (i : Int) := by omega
    have c1 : (i : Int) ≤ ((i + 16 : Nat) : Int) := by omega
    have c2 : ((i + 16 : Nat) : Int) ≤ ((b.length : Nat) : Int) := by omega
    have hn : b.drop i ≠ [] := fun e => by
      have := congrArg List.length e
      rw [List.length_drop, List.length_nil] at this
      omega
    have e : subL b (i : Int) ((i + 16 : Nat) : Int) = (b.drop i).take 16 := by
      show (b.take (((i + 16 : Nat) : Int)).toNat).drop ((i : Int)).toNat = _
      rw [Int.toNat_natCast, Int.toNat_natCast, List.drop_take]
      congr 1
      omega
    have tl : ((b.drop i).take 16).length = 16 := by rw [List.length_take, List.length_drop]; omega
    have ti : InL .u8 ((b.drop i).take 16) := g_take (g_drop hb i) 16
    have x1 := gXorR (a := wr16 s) (b := (b.drop i).take 16) (by rw [tl, wr16_len]) (by rw [wr16_len]; decide)
    have xl : (xr (wr16 s) ((b.drop i).take 16)).length = 16 := by rw [xr_len (by rw [tl, wr16_len]; exact Nat.le_refl _), wr16_len]
    have m1 := gMulR (xr_in (wr16_in s) ti) hh xl lh
    rw [rd_xr (wr16_in s) ti (wr16_len s) tl, rd_wr hs] at m1
    have i1 := ih (i + 16) k (tm (xp s (rd16 ((b.drop i).take 16))) (rd16 h)) (tm_P (rd16_P h)) (by omega) (by omega)
    simp only [ref12_Ghash.l0, c, c0, c1, c2, a16, e, x1, m1, if_true, Option.bind_some]
    rw [i1, sm_step m hn, fl_16 (by rw [List.length_drop]; omega), List.drop_drop]
theorem gGhashR {h b : List Int} (hh : InL .u8 h) (hb : InL .u8 b) (lh : h.length = 16) (l16 : b.length % 16 = 0) (lb : b.length < 900) : ref12_Ghash.f 1000 h b = some (wr16 (sm (rd16 h) 60 (0, 0) b)) := by
  have m : irem .i64 ((b.length : Nat) : Int) 16 = 0 := by
    unfold irem
    rw [show Int.tmod ((b.length : Nat) : Int) 16 = ((b.length % 16 : Nat) : Int) from rfl, l16]
    rfl
  have g := gGhashR_l0 hh hb lh lb (b.length / 16) 0 1000 (0, 0) P0 (by omega) (by omega)
  rw [wr_zero, List.drop_zero] at g
  have g' : ref12_Ghash.l0 1000 1000 h b 0 (List.replicate (16 : Int).toNat (Cod.zero (CI .u8))) = some (wr16 (sm (rd16 h) (b.length / 16) (0, 0) b)) := g
  unfold ref12_Ghash.f
  rw [if_pos (by omega), if_pos m, g', Option.bind_some, sm_fuel (b.length / 16) 60 (by omega) (by omega)]
end Go.Proofs.Ytmpagpbnpgcecaa
