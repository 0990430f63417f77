/- Layer 8 (keccak), plain laws: sums that go on. -/
import Derived.Test.YtijahfdldlmnhaaDoorSb
set_option linter.unusedSimpArgs false
set_option linter.unusedVariables false
set_option maxRecDepth 100000
namespace Go.Proofs.YtijahfdldlmnhaaDoor
open Go Go.Mx
def rateN (k : Int) : Nat := if k = 4 then 136 else if k = 7 then 136 else if k = 5 then 72 else if k = 6 then 168 else 0
theorem rate_le (k : Int) : rateN k ≤ 168 := by unfold rateN; (repeat' split) <;> omega
theorem rate_eq (K : Nat) (k : Int) : keccak_rate.f K k = some ((rateN k : Nat) : Int) := by
  unfold keccak_rate.f rateN
  by_cases h4 : k = 4
  · rw [if_pos h4, if_pos h4]; rfl
  rw [if_neg h4, if_neg h4]
  by_cases h7 : k = 7
  · rw [if_pos h7, if_pos h7]; rfl
  rw [if_neg h7, if_neg h7]
  by_cases h5 : k = 5
  · rw [if_pos h5, if_pos h5]; rfl
  rw [if_neg h5, if_neg h5]
  by_cases h6 : k = 6
  · rw [if_pos h6, if_pos h6]; rfl
  rw [if_neg h6, if_neg h6]
  rfl
theorem rate_eq' (K : Nat) (k : Int) : ref08_Rate.f K k = some ((rateN k : Nat) : Int) := by
  rw [← rate_eq K k]
  rfl
def put1 (a : Arr 25) (t : Nat) (c : Int) : Arr 25 := wr a ((t / 8 : Nat) : Int) (ixor .u64 (rd a ((t / 8 : Nat) : Int)) (ishl .u64 (iconv .u64 c) ((8 * (t % 8) : Nat) : Int)))
theorem w_put {a : Arr 25} (h : InW a) (t : Nat) (c : Int) : InW (put1 a t c) := fun j hj => by
  unfold put1
  rw [rd_wr _ _ _ _ hj]
  split
  · exact w_xor _ _
  · exact h j hj
theorem pos_q {t : Nat} (h : t < 200) : iquo .i64 (t : Int) 8 = ((t / 8 : Nat) : Int) := by
  unfold iquo
  rw [tdivN (by omega), id64 (by omega) (by omega)]
  omega
theorem pos_r {t : Nat} (h : t < 200) : imul .i64 8 (irem .i64 (t : Int) 8) = ((8 * (t % 8) : Nat) : Int) := by
  unfold irem
  rw [tmodN (by omega), mul64 (by omega) (by omega)]
  omega
theorem put_eq (K : Nat) (a : Arr 25) (t : Nat) (ht : t < 200) (c : Int) : ref08_put.f K a (t : Int) c = some (put1 a t c) := by
  unfold ref08_put.f
  simp only [pos_q ht, pos_r ht, Option.bind_some, show (0 : Int) ≤ ((t / 8 : Nat) : Int) by omega, show ((t / 8 : Nat) : Int) < 25 by omega, show (0 : Int) ≤ ((8 * (t % 8) : Nat) : Int) by omega, if_true]
  rfl
theorem xor_eq (K : Nat) (k : Int) (a : Arr 25) (x : Int) (o : Bool) (t : Nat) (ht : t < 200) (c : Int) : keccak_xor.f K k a x o (t : Int) c = some (k, put1 a t c, x, o) := by
  unfold keccak_xor.f
  simp only [pos_q ht, pos_r ht, Option.bind_some, show (0 : Int) ≤ ((t / 8 : Nat) : Int) by omega, show ((t / 8 : Nat) : Int) < 25 by omega, show (0 : Int) ≤ ((8 * (t % 8) : Nat) : Int) by omega, if_true]
  rfl
/-! ### bytes more -/
def stA (r : Nat) (s : Arr 25 × Nat) (c : Int) : Arr 25 × Nat := if s.2 + 1 = r then (permA (put1 s.1 s.2 c), 0) else (put1 s.1 s.2 c, s.2 + 1)
def Ok (r : Nat) (s : Arr 25 × Nat) : Prop := InW s.1 ∧ s.2 < r
theorem stA_ok {r : Nat} {s : Arr 25 × Nat} (h : Ok r s) (c : Int) : Ok r (stA r s c) := by
  obtain ⟨h1, h2⟩ := h
  unfold stA
  by_cases h3 : s.2 + 1 = r
  · rw [if_pos h3]; exact ⟨w_perm _, by show 0 < r; omega⟩
  · rw [if_neg h3]; exact ⟨w_put h1 _ _, by show s.2 + 1 < r; omega⟩
theorem fold_ok {r : Nat} : ∀ (l : List Int) {s : Arr 25 × Nat}, Ok r s → Ok r (l.foldl (stA r) s)
  | [], _, h => h
  | c :: l, _, h => fold_ok l (stA_ok h c)
theorem drop_cons (b : List Int) (i : Nat) (h : i < b.length) : b.drop i = rdL (CI .u8) b (i : Nat) :: b.drop (i + 1) := by
  rw [List.drop_eq_getElem_cons h]
  congr 1
  show b[i] = b.getD (i : Int).toNat 0
  rw [Int.toNat_natCast, List.getD_eq_getElem?_getD, List.getElem?_eq_getElem h]
  rfl
def tupA (k : Int) (s : Arr 25 × Nat) (o : Bool) : Int × Arr 25 × Int × Bool := (k, s.1, (s.2 : Int), o)
theorem kA_l0 (b : List Int) (hb : b.length ≤ 900) (kind : Int) (r : Nat) (hr : r ≤ 168) : ∀ (d i k : Nat) (s : Arr 25 × Nat), i + d = b.length → d < k → Ok r s →
    keccak_Absorb.l0 1000 k b (r : Int) (i : Int) kind s.1 (s.2 : Int) false = some (tupA kind ((b.drop i).foldl (stA r) s) false) := by
  intro d
  induction d with
  | zero =>
    intro i k s hi hk hs
    obtain ⟨k, rfl⟩ : ∃ m, k = m + 1 := ⟨k - 1, by omega⟩
    simp only [keccak_Absorb.l0, show ¬ (i : Int) < (b.length : Int) by omega, if_false]
    rw [List.drop_of_length_le (by omega)]
    rfl
  | succ d ih =>
    intro i k s hi hk hs
    obtain ⟨k, rfl⟩ : ∃ m, k = m + 1 := ⟨k - 1, by omega⟩
    have ht := hs.2
    have e1 : iadd .i64 (i : Int) 1 = ((i + 1 : Nat) : Int) := iadd_nat i 1 (by omega)
    have e2 : iadd .i64 (s.2 : Int) 1 = ((s.2 + 1 : Nat) : Int) := iadd_nat s.2 1 (by omega)
    rw [drop_cons b i (by omega), List.foldl_cons]
    have hn := ih (i + 1) k (stA r s (rdL (CI .u8) b (i : Nat))) (by omega) (by omega) (stA_ok hs _)
    by_cases h3 : s.2 + 1 = r
    · have hst : stA r s (rdL (CI .u8) b (i : Nat)) = (permA (put1 s.1 s.2 (rdL (CI .u8) b (i : Nat))), 0) := by unfold stA; rw [if_pos h3]
      simp only [keccak_Absorb.l0, show (i : Int) < (b.length : Int) by omega, show (0 : Int) ≤ (i : Int) by omega, if_true, xor_eq 1000 kind s.1 (s.2 : Int) false s.2 (by omega), Option.bind_some, e1, e2, show ((s.2 + 1 : Nat) : Int) = (r : Int) by omega, Permute_eq]
      rw [hst] at hn ⊢
      exact hn
    · have hst : stA r s (rdL (CI .u8) b (i : Nat)) = (put1 s.1 s.2 (rdL (CI .u8) b (i : Nat)), s.2 + 1) := by unfold stA; rw [if_neg h3]
      simp only [keccak_Absorb.l0, show (i : Int) < (b.length : Int) by omega, show (0 : Int) ≤ (i : Int) by omega, if_true, xor_eq 1000 kind s.1 (s.2 : Int) false s.2 (by omega), Option.bind_some, e1, e2, show ¬ ((s.2 + 1 : Nat) : Int) = (r : Int) by omega, if_false]
      rw [hst] at hn ⊢
      exact hn
theorem rA_l0 (b : List Int) (hb : b.length ≤ 900) (kind : Int) : ∀ (d i k : Nat) (s : Arr 25 × Nat), i + d = b.length → d < k → Ok (rateN kind) s →
    ref08_Absorb.l0 1000 k b (i : Int) kind s.1 (s.2 : Int) false = some (tupA kind ((b.drop i).foldl (stA (rateN kind)) s) false) := by
  have hr := rate_le kind
  intro d
  induction d with
  | zero =>
    intro i k s hi hk hs
    obtain ⟨k, rfl⟩ : ∃ m, k = m + 1 := ⟨k - 1, by omega⟩
    simp only [ref08_Absorb.l0, show ¬ (i : Int) < (b.length : Int) by omega, if_false]
    rw [List.drop_of_length_le (by omega)]
    rfl
  | succ d ih =>
    intro i k s hi hk hs
    obtain ⟨k, rfl⟩ : ∃ m, k = m + 1 := ⟨k - 1, by omega⟩
    have ht := hs.2
    have e1 : iadd .i64 (i : Int) 1 = ((i + 1 : Nat) : Int) := iadd_nat i 1 (by omega)
    have e2 : iadd .i64 (s.2 : Int) 1 = ((s.2 + 1 : Nat) : Int) := iadd_nat s.2 1 (by omega)
    rw [drop_cons b i (by omega), List.foldl_cons]
    have hn := ih (i + 1) k (stA (rateN kind) s (rdL (CI .u8) b (i : Nat))) (by omega) (by omega) (stA_ok hs _)
    by_cases h3 : s.2 + 1 = rateN kind
    · have hst : stA (rateN kind) s (rdL (CI .u8) b (i : Nat)) = (permA (put1 s.1 s.2 (rdL (CI .u8) b (i : Nat))), 0) := by unfold stA; rw [if_pos h3]
      simp only [ref08_Absorb.l0, show (i : Int) < (b.length : Int) by omega, show (0 : Int) ≤ (i : Int) by omega, if_true, put_eq 1000 s.1 s.2 (by omega), Option.bind_some, e1, e2, rate_eq', show ((s.2 + 1 : Nat) : Int) = ((rateN kind : Nat) : Int) by omega, ref08_Permute_eq _ (w_put hs.1 _ _)]
      rw [hst] at hn ⊢
      exact hn
    · have hst : stA (rateN kind) s (rdL (CI .u8) b (i : Nat)) = (put1 s.1 s.2 (rdL (CI .u8) b (i : Nat)), s.2 + 1) := by unfold stA; rw [if_neg h3]
      simp only [ref08_Absorb.l0, show (i : Int) < (b.length : Int) by omega, show (0 : Int) ≤ (i : Int) by omega, if_true, put_eq 1000 s.1 s.2 (by omega), Option.bind_some, e1, e2, rate_eq', show ¬ ((s.2 + 1 : Nat) : Int) = ((rateN kind : Nat) : Int) by omega, if_false]
      rw [hst] at hn ⊢
      exact hn
/-- what a sum with bytes more is -/
def absV (kind : Int) (s : Arr 25 × Nat) (o : Bool) (b : List Int) : Arr 25 × Nat := if o = true then s else b.foldl (stA (rateN kind)) s
/-- what can be -/
def FitS (kind : Int) (s : Arr 25 × Nat) (o : Bool) : Prop := InW s.1 ∧ 0 < rateN kind ∧ (if o = true then s.2 ≤ rateN kind else s.2 < rateN kind)
theorem FitS.ok {kind : Int} {s : Arr 25 × Nat} (h : FitS kind s false) : Ok (rateN kind) s := ⟨h.1, by simpa using h.2.2⟩
theorem FitS.lt {kind : Int} {s : Arr 25 × Nat} {o : Bool} (h : FitS kind s o) : s.2 ≤ 168 := by
  have hr := rate_le kind
  obtain ⟨_, _, h3⟩ := h
  split at h3 <;> omega
theorem fit_abs {kind : Int} {s : Arr 25 × Nat} {o : Bool} (h : FitS kind s o) (b : List Int) : FitS kind (absV kind s o b) o := by
  unfold absV
  cases o with
  | true => rw [if_pos rfl]; exact h
  | false =>
    rw [if_neg (by decide)]
    have := fold_ok b h.ok
    exact ⟨this.1, h.2.1, by rw [if_neg (by decide)]; exact this.2⟩
theorem kAbs (kind : Int) (s : Arr 25 × Nat) (o : Bool) (h : FitS kind s o) (b : List Int) (hb : b.length ≤ 900) : keccak_Absorb.f 1000 kind s.1 (s.2 : Int) o b = some (tupA kind (absV kind s o b) o) := by
  unfold keccak_Absorb.f absV
  cases o with
  | true => rfl
  | false =>
    rw [if_neg (by decide), rate_eq, Option.bind_some, if_neg (by decide)]
    have := kA_l0 b hb kind (rateN kind) (rate_le kind) b.length 0 1000 s (by omega) (by omega) h.ok
    rw [show ((0 : Nat) : Int) = 0 from rfl, List.drop_zero] at this
    rw [this]
    rfl
theorem rAbs (kind : Int) (s : Arr 25 × Nat) (o : Bool) (h : FitS kind s o) (b : List Int) (hb : b.length ≤ 900) : ref08_Absorb.f 1000 kind s.1 (s.2 : Int) o b = some (tupA kind (absV kind s o b) o) := by
  unfold ref08_Absorb.f absV
  cases o with
  | true => rfl
  | false =>
    rw [if_neg (by decide), if_neg (by decide)]
    have := rA_l0 b hb kind b.length 0 1000 s (by omega) (by omega) h.ok
    rw [show ((0 : Nat) : Int) = 0 from rfl, List.drop_zero] at this
    rw [this]
    rfl
/-! ### bytes out -/
def nrm (r : Nat) (s : Arr 25 × Nat) : Arr 25 × Nat := if s.2 = r then (permA s.1, 0) else s
def byteS (s : Arr 25 × Nat) : Int := iconv .u8 (ishr .u64 (rd s.1 ((s.2 / 8 : Nat) : Int)) ((8 * (s.2 % 8) : Nat) : Int))
def nxt (s : Arr 25 × Nat) : Arr 25 × Nat := (s.1, s.2 + 1)
def sq (r : Nat) : Nat → Arr 25 × Nat → List Int × (Arr 25 × Nat)
  | 0, s => ([], s)
  | n + 1, s => (byteS (nrm r s) :: (sq r n (nxt (nrm r s))).1, (sq r n (nxt (nrm r s))).2)
theorem sq_len (r : Nat) : ∀ n s, (sq r n s).1.length = n
  | 0, _ => rfl
  | n + 1, s => by simp [sq, sq_len r n]
theorem sq_byt (r : Nat) : ∀ n s, Byt (sq r n s).1
  | 0, _ => Byt.nil
  | n + 1, s => by
    have h : 0 ≤ byteS (nrm r s) ∧ byteS (nrm r s) ≤ 255 := by
      unfold byteS iconv
      rw [wu8]
      constructor <;> omega
    exact Byt.cons h.1 h.2 (sq_byt r n _)
def OkQ (r : Nat) (s : Arr 25 × Nat) : Prop := InW s.1 ∧ s.2 ≤ r
theorem nrm_ok {r : Nat} (hr : 0 < r) {s : Arr 25 × Nat} (h : OkQ r s) : InW (nrm r s).1 ∧ (nrm r s).2 < r := by
  obtain ⟨h1, h2⟩ := h
  unfold nrm
  by_cases h3 : s.2 = r
  · rw [if_pos h3]; exact ⟨w_perm _, hr⟩
  · rw [if_neg h3]; exact ⟨h1, by omega⟩
theorem nxt_ok {r : Nat} (hr : 0 < r) {s : Arr 25 × Nat} (h : OkQ r s) : OkQ r (nxt (nrm r s)) := by
  obtain ⟨h1, h2⟩ := nrm_ok hr h
  exact ⟨h1, by show (nrm r s).2 + 1 ≤ r; omega⟩
theorem sq_ok {r : Nat} (hr : 0 < r) : ∀ (n : Nat) {s : Arr 25 × Nat}, OkQ r s → OkQ r (sq r n s).2
  | 0, _, h => h
  | n + 1, _, h => sq_ok hr n (nxt_ok hr h)
theorem wrL_take8 (l : List Int) (i : Nat) (v : Int) (h : i < l.length) : (wrL l (i : Nat) v).take (i + 1) = l.take i ++ [v] := by
  unfold wrL
  rw [Int.toNat_natCast, List.take_add_one, List.take_set, List.getElem?_set_self h, List.set_eq_of_length_le (by simp; omega)]
  rfl
def tupQ (l : List Int) (k : Int) (s : Arr 25 × Nat) : List Int × Int × Arr 25 × Int × Bool := (l, k, s.1, (s.2 : Int), true)
theorem kQ_l0 (kind : Int) (hr0 : 0 < rateN kind) (n : Nat) (hn : n ≤ 900) : ∀ (d i k : Nat) (l : List Int) (s : Arr 25 × Nat), i + d = n → d < k → l.length = n → OkQ (rateN kind) s →
    keccak_Squeeze.l0 1000 k (n : Int) (i : Int) l kind s.1 (s.2 : Int) true = some (tupQ (l.take i ++ (sq (rateN kind) d s).1) kind (sq (rateN kind) d s).2) := by
  have hr := rate_le kind
  intro d
  induction d with
  | zero =>
    intro i k l s hi hk hl hs
    obtain ⟨k, rfl⟩ : ∃ m, k = m + 1 := ⟨k - 1, by omega⟩
    have c : ¬ (i : Int) < ((List.replicate (n : Int).toNat (Cod.zero (CI .u8))).length : Int) := by rw [List.length_replicate]; omega
    simp only [keccak_Squeeze.l0, c, if_false]
    rw [List.take_of_length_le (by omega)]
    show _ = some (tupQ (l ++ []) kind s)
    rw [List.append_nil]
    rfl
  | succ d ih =>
    intro i k l s hi hk hl hs
    obtain ⟨k, rfl⟩ : ∃ m, k = m + 1 := ⟨k - 1, by omega⟩
    have c : (i : Int) < ((List.replicate (n : Int).toNat (Cod.zero (CI .u8))).length : Int) := by rw [List.length_replicate]; omega
    obtain ⟨w1, w2⟩ := nrm_ok hr0 hs
    have e1 : iadd .i64 (i : Int) 1 = ((i + 1 : Nat) : Int) := iadd_nat i 1 (by omega)
    have hih := ih (i + 1) k (wrL l (i : Nat) (byteS (nrm (rateN kind) s))) (nxt (nrm (rateN kind) s)) (by omega) (by omega) (by simp [wrL, hl]) (nxt_ok hr0 hs)
    rw [wrL_take8 l i _ (by omega), List.append_assoc] at hih
    by_cases h3 : s.2 = rateN kind
    · have hst : nrm (rateN kind) s = (permA s.1, 0) := by unfold nrm; rw [if_pos h3]
      have hq : iquo .i64 0 8 = (((nrm (rateN kind) s).2 / 8 : Nat) : Int) := by rw [hst]; exact pos_q (t := 0) (by decide)
      have hm : imul .i64 8 (irem .i64 0 8) = ((8 * ((nrm (rateN kind) s).2 % 8) : Nat) : Int) := by rw [hst]; exact pos_r (t := 0) (by decide)
      have ha : iadd .i64 0 1 = (((nxt (nrm (rateN kind) s)).2 : Nat) : Int) := by rw [hst]; exact iadd_nat 0 1 (by decide)
      have hp : permA s.1 = (nrm (rateN kind) s).1 := by rw [hst]
      have hb : iconv .u8 (ishr .u64 (rd (nrm (rateN kind) s).1 (((nrm (rateN kind) s).2 / 8 : Nat) : Int)) ((8 * ((nrm (rateN kind) s).2 % 8) : Nat) : Int)) = byteS (nrm (rateN kind) s) := rfl
      simp only [keccak_Squeeze.l0, c, if_true, rate_eq, Option.bind_some, show (s.2 : Int) = ((rateN kind : Nat) : Int) by omega, Permute_eq, hq, hm, ha, hp, hb, e1, show (0 : Int) ≤ (((nrm (rateN kind) s).2 / 8 : Nat) : Int) by omega, show (((nrm (rateN kind) s).2 / 8 : Nat) : Int) < 25 by omega, show (0 : Int) ≤ ((8 * ((nrm (rateN kind) s).2 % 8) : Nat) : Int) by omega, show (0 : Int) ≤ (i : Int) by omega, show (i : Int) < (l.length : Int) by omega]
      exact hih
    · have hst : nrm (rateN kind) s = s := by unfold nrm; rw [if_neg h3]
      have ht : s.2 < 200 := by have := hs.2; omega
      have ha : iadd .i64 (s.2 : Int) 1 = ((s.2 + 1 : Nat) : Int) := iadd_nat s.2 1 (by omega)
      have hb : iconv .u8 (ishr .u64 (rd s.1 ((s.2 / 8 : Nat) : Int)) ((8 * (s.2 % 8) : Nat) : Int)) = byteS s := rfl
      rw [hst] at hih
      simp only [keccak_Squeeze.l0, c, if_true, rate_eq, Option.bind_some, show ¬ (s.2 : Int) = ((rateN kind : Nat) : Int) by omega, if_false, pos_q ht, pos_r ht, ha, hb, e1, show (0 : Int) ≤ ((s.2 / 8 : Nat) : Int) by omega, show ((s.2 / 8 : Nat) : Int) < 25 by omega, show (0 : Int) ≤ ((8 * (s.2 % 8) : Nat) : Int) by omega, show (0 : Int) ≤ (i : Int) by omega, show (i : Int) < (l.length : Int) by omega]
      show _ = some (tupQ (l.take i ++ (byteS (nrm (rateN kind) s) :: (sq (rateN kind) d (nxt (nrm (rateN kind) s))).1)) kind (sq (rateN kind) d (nxt (nrm (rateN kind) s))).2)
      rw [hst]
      exact hih
theorem rQ_l0 (kind : Int) (hr0 : 0 < rateN kind) (n : Nat) (hn : n ≤ 900) : ∀ (d k : Nat) (l : List Int) (s : Arr 25 × Nat), l.length + d = n → d < k → OkQ (rateN kind) s →
    ref08_Squeeze.l0 1000 k (n : Int) ((rateN kind : Nat) : Int) l kind s.1 (s.2 : Int) true = some (tupQ (l ++ (sq (rateN kind) d s).1) kind (sq (rateN kind) d s).2) := by
  have hr := rate_le kind
  intro d
  induction d with
  | zero =>
    intro k l s hi hk hs
    obtain ⟨k, rfl⟩ : ∃ m, k = m + 1 := ⟨k - 1, by omega⟩
    simp only [ref08_Squeeze.l0, show ¬ (l.length : Int) < (n : Int) by omega, if_false]
    show _ = some (tupQ (l ++ []) kind s)
    rw [List.append_nil]
    rfl
  | succ d ih =>
    intro k l s hi hk hs
    obtain ⟨k, rfl⟩ : ∃ m, k = m + 1 := ⟨k - 1, by omega⟩
    obtain ⟨w1, w2⟩ := nrm_ok hr0 hs
    have hih := ih k (l ++ [byteS (nrm (rateN kind) s)]) (nxt (nrm (rateN kind) s)) (by simp; omega) (by omega) (nxt_ok hr0 hs)
    rw [List.append_assoc] at hih
    have hl : ∀ v : Int, l.length + ([v] : List Int).length ≤ 140737488355328 := fun v => by simp; omega
    by_cases h3 : s.2 = rateN kind
    · have hst : nrm (rateN kind) s = (permA s.1, 0) := by unfold nrm; rw [if_pos h3]
      have hq : iquo .i64 0 8 = (((nrm (rateN kind) s).2 / 8 : Nat) : Int) := by rw [hst]; exact pos_q (t := 0) (by decide)
      have hm : imul .i64 8 (irem .i64 0 8) = ((8 * ((nrm (rateN kind) s).2 % 8) : Nat) : Int) := by rw [hst]; exact pos_r (t := 0) (by decide)
      have ha : iadd .i64 0 1 = (((nxt (nrm (rateN kind) s)).2 : Nat) : Int) := by rw [hst]; exact iadd_nat 0 1 (by decide)
      have hp : permA s.1 = (nrm (rateN kind) s).1 := by rw [hst]
      have hb : iconv .u8 (ishr .u64 (rd (nrm (rateN kind) s).1 (((nrm (rateN kind) s).2 / 8 : Nat) : Int)) ((8 * ((nrm (rateN kind) s).2 % 8) : Nat) : Int)) = byteS (nrm (rateN kind) s) := rfl
      simp only [ref08_Squeeze.l0, show (l.length : Int) < (n : Int) by omega, if_true, Option.bind_some, show (s.2 : Int) = ((rateN kind : Nat) : Int) by omega, ref08_Permute_eq s.1 hs.1, hq, hm, ha, hp, hb, hl, show (0 : Int) ≤ (((nrm (rateN kind) s).2 / 8 : Nat) : Int) by omega, show (((nrm (rateN kind) s).2 / 8 : Nat) : Int) < 25 by omega, show (0 : Int) ≤ ((8 * ((nrm (rateN kind) s).2 % 8) : Nat) : Int) by omega]
      exact hih
    · have hst : nrm (rateN kind) s = s := by unfold nrm; rw [if_neg h3]
      have ht : s.2 < 200 := by have := hs.2; omega
      have ha : iadd .i64 (s.2 : Int) 1 = ((s.2 + 1 : Nat) : Int) := iadd_nat s.2 1 (by omega)
      have hb : iconv .u8 (ishr .u64 (rd s.1 ((s.2 / 8 : Nat) : Int)) ((8 * (s.2 % 8) : Nat) : Int)) = byteS s := rfl
      rw [hst] at hih
      simp only [ref08_Squeeze.l0, show (l.length : Int) < (n : Int) by omega, if_true, Option.bind_some, show ¬ (s.2 : Int) = ((rateN kind : Nat) : Int) by omega, if_false, pos_q ht, pos_r ht, ha, hb, hl, show (0 : Int) ≤ ((s.2 / 8 : Nat) : Int) by omega, show ((s.2 / 8 : Nat) : Int) < 25 by omega, show (0 : Int) ≤ ((8 * (s.2 % 8) : Nat) : Int) by omega]
      show _ = some (tupQ (l ++ (byteS (nrm (rateN kind) s) :: (sq (rateN kind) d (nxt (nrm (rateN kind) s))).1)) kind (sq (rateN kind) d (nxt (nrm (rateN kind) s))).2)
      rw [hst]
      exact hih
def markN (kind : Int) : Int := if kind = 4 then 6 else if kind = 5 then 6 else 31
/-- a sum that is squeezed from now on -/
def turnV (kind : Int) (s : Arr 25 × Nat) (o : Bool) : Arr 25 × Nat := if o = true then s else (permA (put1 (put1 s.1 s.2 (markN kind)) (rateN kind - 1) 128), 0)
theorem turn_ok {kind : Int} {s : Arr 25 × Nat} {o : Bool} (h : FitS kind s o) : OkQ (rateN kind) (turnV kind s o) := by
  unfold turnV
  cases o with
  | true => rw [if_pos rfl]; exact ⟨h.1, by simpa using h.2.2⟩
  | false => rw [if_neg (by decide)]; exact ⟨w_perm _, Nat.zero_le _⟩
/-- so many bytes out of a sum, and it behind them -/
def sqV (kind : Int) (s : Arr 25 × Nat) (o : Bool) (n : Int) : List Int × (Arr 25 × Nat) × Bool :=
  if n < 0 then ([], s, o) else ((sq (rateN kind) n.toNat (turnV kind s o)).1, (sq (rateN kind) n.toNat (turnV kind s o)).2, true)
theorem fit_sq {kind : Int} {s : Arr 25 × Nat} {o : Bool} (h : FitS kind s o) (n : Int) : FitS kind (sqV kind s o n).2.1 (sqV kind s o n).2.2 := by
  unfold sqV
  by_cases hn : n < 0
  · rw [if_pos hn]; exact h
  · rw [if_neg hn]
    have := sq_ok h.2.1 n.toNat (turn_ok h)
    exact ⟨this.1, h.2.1, by rw [if_pos rfl]; exact this.2⟩
theorem mark_eq (kind : Int) : ((if kind = 4 then (some 6) else (if kind = 5 then (some 6) else (some 31)) : Option (Int))) = some (markN kind) := by
  unfold markN
  (repeat' split) <;> rfl
theorem turned_eq (kind : Int) (s : Arr 25 × Nat) (h : FitS kind s false) : keccak_turned.f 1000 kind s.1 (s.2 : Int) false = some (tupA kind (turnV kind s false) true) := by
  have hr := rate_le kind
  have h0 := h.2.1
  have hlt := h.ok.2
  unfold keccak_turned.f turnV
  rw [mark_eq, Option.bind_some, xor_eq 1000 kind s.1 (s.2 : Int) false s.2 (by omega)]
  simp only [Option.bind_some, rate_eq]
  rw [show isub .i64 ((rateN kind : Nat) : Int) 1 = ((rateN kind - 1 : Nat) : Int) by rw [sub64 (by omega) (by omega)]; omega, xor_eq 1000 kind _ (s.2 : Int) false (rateN kind - 1) (by omega)]
  simp only [Option.bind_some, Permute_eq]
  rfl
theorem kSq (kind : Int) (s : Arr 25 × Nat) (o : Bool) (h : FitS kind s o) (n : Int) (hn : n ≤ 900) : keccak_Squeeze.f 1000 kind s.1 (s.2 : Int) o n = some (kind, (sqV kind s o n).2.1.1, ((sqV kind s o n).2.1.2 : Int), (sqV kind s o n).2.2, (sqV kind s o n).1) := by
  unfold keccak_Squeeze.f sqV
  by_cases h0 : n < 0
  · rw [if_pos h0, if_pos h0]
  · rw [if_neg h0, if_neg h0]
    obtain ⟨m, rfl⟩ : ∃ m : Nat, n = (m : Int) := ⟨n.toNat, by omega⟩
    have e : ((if o = true then (some (kind, s.1, (s.2 : Int), true)) else ((keccak_turned.f 1000 kind s.1 (s.2 : Int) false).bind fun (r4_0, r4_1, r4_2, r4_3) => some (r4_0, r4_1, r4_2, r4_3)) : Option (Int × (Arr 25) × Int × Bool))) = some (tupA kind (turnV kind s o) true) := by
      cases o with
      | true => rfl
      | false => rw [if_neg (by decide), turned_eq kind s h]; rfl
    rw [e]
    have := kQ_l0 kind h.2.1 m (by omega) m 0 1000 (List.replicate (m : Int).toNat (Cod.zero (CI .u8))) (turnV kind s o) (by omega) (by omega) (by rw [List.length_replicate]; omega) (turn_ok h)
    rw [show ((0 : Nat) : Int) = 0 from rfl, List.take_zero, List.nil_append] at this
    show (if (0 : Int) ≤ (m : Int) then _ else none) = _
    rw [if_pos (show (0 : Int) ≤ (m : Int) by omega), if_pos (show (m : Int) ≤ 140737488355328 by omega), Int.toNat_natCast]
    rw [Int.toNat_natCast] at this
    show ((keccak_Squeeze.l0 1000 1000 (m : Int) 0 (List.replicate m (Cod.zero (CI .u8))) kind (turnV kind s o).1 ((turnV kind s o).2 : Int) true).bind _) = _
    rw [this]
    rfl
theorem rSq (kind : Int) (s : Arr 25 × Nat) (o : Bool) (h : FitS kind s o) (n : Int) (hn : n ≤ 900) : ref08_Squeeze.f 1000 kind s.1 (s.2 : Int) o n = some (kind, (sqV kind s o n).2.1.1, ((sqV kind s o n).2.1.2 : Int), (sqV kind s o n).2.2, (sqV kind s o n).1) := by
  have hr := rate_le kind
  have hr0 := h.2.1
  unfold ref08_Squeeze.f sqV
  by_cases h0 : n < 0
  · rw [if_pos h0, if_pos h0]
  · rw [if_neg h0, if_neg h0, rate_eq', Option.bind_some]
    obtain ⟨m, rfl⟩ : ∃ m : Nat, n = (m : Int) := ⟨n.toNat, by omega⟩
    have e : ((if o = true then (some (kind, s.1, (s.2 : Int), true)) else (((if kind = 4 then (some 6) else (if kind = 5 then (some 6) else (some 31)) : Option (Int))).bind fun y5 => (ref08_put.f 1000 s.1 (s.2 : Int) y5).bind fun r6 => (ref08_put.f 1000 r6 (isub .i64 ((rateN kind : Nat) : Int) 1) 128).bind fun r7 => (ref08_Permute.f 1000 r7).bind fun r8 => some (kind, r8, 0, true)) : Option (Int × (Arr 25) × Int × Bool))) = some (tupA kind (turnV kind s o) true) := by
      cases o with
      | true => rfl
      | false =>
        have hlt := h.ok.2
        rw [if_neg (show ¬ (false = true) by decide), mark_eq, Option.bind_some, put_eq 1000 s.1 s.2 (by omega), Option.bind_some, show isub .i64 ((rateN kind : Nat) : Int) 1 = ((rateN kind - 1 : Nat) : Int) by rw [sub64 (by omega) (by omega)]; omega, put_eq 1000 _ (rateN kind - 1) (by omega), Option.bind_some,
          ref08_Permute_eq _ (w_put (w_put h.1 _ _) _ _)]
        rfl
    rw [e]
    have := rQ_l0 kind h.2.1 m (by omega) m 1000 [] (turnV kind s o) (by simp) (by omega) (turn_ok h)
    rw [List.nil_append] at this
    show ((ref08_Squeeze.l0 1000 1000 (m : Int) ((rateN kind : Nat) : Int) [] kind (turnV kind s o).1 ((turnV kind s o).2 : Int) true).bind _) = _
    rw [this, Int.toNat_natCast]
    rfl
end Go.Proofs.YtijahfdldlmnhaaDoor
