/- Layer 12 (gcm), plain laws: the document's xor, the sum of texts behind one another. -/
import Derived.Test.YtmpagpbnpgcecaaGh
import Derived.Test.YtmpagpbnpgcecaaGf
set_option linter.unusedSimpArgs false
set_option linter.unusedVariables false
set_option maxRecDepth 100000
namespace Go.Proofs.Ytmpagpbnpgcecaa
open Go Go.Mx
theorem wr_xp {u v : EL} (hu : P64 u) (hv : P64 v) : xr (wr16 u) (wr16 v) = wr16 (xp u v) := by
  have h := rd_xr (wr16_in u) (wr16_in v) (wr16_len u) (wr16_len v)
  rw [rd_wr hu, rd_wr hv] at h
  rw [← h, wr_rd (xr_in (wr16_in u) (wr16_in v)) (by rw [xr_len (by rw [wr16_len, wr16_len]; exact Nat.le_refl _), wr16_len])]
theorem gXorR_l0 {a b : List Int} (h : a.length = b.length) (hs : a.length < 100000) : ∀ (m i k : Nat), i + m = a.length → m < k → ref01_Xor.l0 1000 k a b (i : Int) ((xr a b).take i) = some (xr a b) := by
  have hx := xr_len (show a.length ≤ b.length by omega)
  intro m
  induction m with
  | zero =>
    intro i k hi hk
    obtain ⟨k, rfl⟩ : ∃ q, k = q + 1 := ⟨k - 1, by omega⟩
    have c : ¬ (i : Int) < ((a.length : Nat) : Int) := by omega
    simp only [ref01_Xor.l0, c, if_false, List.take_of_length_le (Nat.le_of_eq (show (xr a b).length = i by omega))]
  | succ m ih =>
    intro i k hi hk
    obtain ⟨k, rfl⟩ : ∃ q, k = q + 1 := ⟨k - 1, by omega⟩
    have hil : i < a.length := by omega
    have hib : i < b.length := by omega
    have hix : i < (xr a b).length := by omega
    have c0 : (i : Int) < ((a.length : Nat) : Int) := by omega
    have c1 : (0 : Int) ≤ (i : Int) := by omega
    have c3 : (i : Int) < ((b.length : Nat) : Int) := by omega
    have ht : ((xr a b).take i).length = i := by rw [List.length_take]; omega
    have e3 : ixor .u8 a[i] b[i] = (xr a b)[i] := (xr_get hix hil hib).symm
    have c4 : ((xr a b).take i).length + ([(xr a b)[i]] : List Int).length ≤ 140737488355328 := by rw [ht]; show i + 1 ≤ _; omega
    have e4 : (xr a b).take i ++ [(xr a b)[i]] = (xr a b).take (i + 1) := (List.take_succ_eq_append_getElem hix).symm
    simp only [ref01_Xor.l0, c0, c1, c3, rdL_get hil, rdL_get hib, e3, c4, e4, if_true, Option.bind_some, ginc (i := i) (by omega)]
    exact ih (i + 1) k (by omega) (by omega)
theorem gXorR {a b : List Int} (h : a.length = b.length) (hs : a.length < 900) : ref01_Xor.f 1000 a b = some (xr a b) := by
  have h0 : ref01_Xor.l0 1000 1000 a b 0 [] = some (xr a b) := gXorR_l0 h (by omega) a.length 0 1000 (by omega) (by omega)
  unfold ref01_Xor.f
  rw [h0]
  rfl
theorem gJoinR_l0 {W : List (List Int)} (hl : W.length < 100000) (hf : W.flatten.length < 100000) : ∀ (m i k : Nat), i + m = W.length → m < k → ref01_Join.l0 1000 k W (i : Int) (W.take i).flatten = some W.flatten := by
  intro m
  induction m with
  | zero =>
    intro i k hi hk
    obtain ⟨k, rfl⟩ : ∃ q, k = q + 1 := ⟨k - 1, by omega⟩
    have c : ¬ (i : Int) < ((W.length : Nat) : Int) := by omega
    simp only [ref01_Join.l0, c, if_false, List.take_of_length_le (Nat.le_of_eq (show W.length = i by omega))]
  | succ m ih =>
    intro i k hi hk
    obtain ⟨k, rfl⟩ : ∃ q, k = q + 1 := ⟨k - 1, by omega⟩
    have hil : i < W.length := by omega
    have c0 : (i : Int) < ((W.length : Nat) : Int) := by omega
    have c1 : (0 : Int) ≤ (i : Int) := by omega
    have h2 := g_fle W (i + 1)
    rw [g_flt hil, List.length_append] at h2
    have c2 : (W.take i).flatten.length + W[i].length ≤ 140737488355328 := by omega
    simp only [ref01_Join.l0, c0, c1, hil, g_rdLL hil, c2, if_true, Option.bind_some, ← g_flt hil, ginc (i := i) (by omega)]
    exact ih (i + 1) k (by omega) (by omega)
theorem gJoinR {a b : List Int} (hl : a.length + b.length < 900) : ref01_Join.f 1000 [a, b] = some (a ++ b) := by
  have h := gJoinR_l0 (W := [a, b]) (by show 2 < 100000; decide) (by simp; omega) 2 0 1000 rfl (by decide)
  have h0 : ref01_Join.l0 1000 1000 [a, b] 0 [] = some ([a, b] : List (List Int)).flatten := h
  unfold ref01_Join.f
  rw [h0]
  simp
theorem fl_16 {z : List Int} (h : 16 ≤ z.length) : fl z = z.take 16 := by
  refine List.ext_getElem (by rw [fl_len, List.length_take]; omega) fun i h1 h2 => ?_
  rw [fl_get z h1, if_pos h2, List.getD_eq_getElem?_getD, List.getElem?_eq_getElem h2]
  rfl
theorem sm_step {h s : EL} {z : List Int} (m : Nat) (hz : z ≠ []) : sm h (m + 1) s z = sm h m (tm (xp s (rd16 (fl z))) h) (z.drop 16) := by
  show (if z = [] then s else _) = _
  rw [if_neg hz]
theorem sm_nil {h s : EL} : ∀ m, sm h m s [] = s
  | 0 => rfl
  | m + 1 => by show (if ([] : List Int) = [] then s else _) = s; rw [if_pos rfl]
theorem sm_fuel {h : EL} : ∀ (m m' : Nat) {s : EL} {z : List Int}, z.length ≤ 16 * m → z.length ≤ 16 * m' → sm h m s z = sm h m' s z
  | 0, m', s, z, h1, _ => by
    have : z = [] := List.eq_nil_of_length_eq_zero (by omega)
    rw [this, sm_nil, sm_nil]
  | m + 1, 0, s, z, _, h2 => by
    have : z = [] := List.eq_nil_of_length_eq_zero (by omega)
    rw [this, sm_nil, sm_nil]
  | m + 1, m' + 1, s, z, h1, h2 => by
    by_cases hz : z = []
    · rw [hz, sm_nil, sm_nil]
    · rw [sm_step m hz, sm_step m' hz]
      exact sm_fuel m m' (by rw [List.length_drop]; omega) (by rw [List.length_drop]; omega)
theorem sm_app {h : EL} : ∀ (n m : Nat) {s : EL} {p q : List Int}, p.length = 16 * n → sm h (n + m) s (p ++ q) = sm h m (sm h n s p) q
  | 0, m, s, p, q, hp => by
    have : p = [] := List.eq_nil_of_length_eq_zero (by omega)
    subst this
    rw [sm_nil, Nat.zero_add]
    rfl
  | n + 1, m, s, p, q, hp => by
    have hz : p ≠ [] := fun e => by rw [e] at hp; simp at hp
    have hz2 : p ++ q ≠ [] := fun e => hz (List.append_eq_nil_iff.1 e).1
    rw [show n + 1 + m = n + m + 1 by omega, sm_step (n + m) hz2, sm_step n hz, fl_16 (by rw [List.length_append]; omega), fl_16 (by omega), List.take_append_of_le_length (by omega), List.drop_append_of_le_length (by omega)]
    exact sm_app n m (by rw [List.length_drop]; omega)
/-- the sum of two texts is that of the second, with the sum of the first xored to its first block -/
theorem sm_two {h : EL} (hh : P64 h) {p q : List Int} {n : Nat} (hp : p.length = 16 * n) (hq : InL .u8 q) (lq : 16 ≤ q.length) (l : p.length + q.length ≤ 800) :
    sm h 60 (0, 0) (p ++ q) = sm h 60 (0, 0) (xr (q.take 16) (wr16 (sm h 60 (0, 0) p)) ++ q.drop 16) := by
  have P1 : P64 (sm h 60 (0, 0) p) := sm_P hh 60 p P0
  have e1 : sm h 60 (0, 0) (p ++ q) = sm h 60 (sm h 60 (0, 0) p) q := by
    rw [sm_fuel 60 (n + 60) (by rw [List.length_append]; omega) (by rw [List.length_append]; omega), sm_app n 60 hp, sm_fuel n 60 (by omega) (by omega)]
  have tq : (q.take 16).length = 16 := by rw [List.length_take]; omega
  have xl : (xr (q.take 16) (wr16 (sm h 60 (0, 0) p))).length = 16 := by rw [xr_len (by rw [tq, wr16_len]; exact Nat.le_refl _), tq]
  have hne : q ≠ [] := fun e => by rw [e] at lq; simp at lq
  have hne2 : xr (q.take 16) (wr16 (sm h 60 (0, 0) p)) ++ q.drop 16 ≠ [] := fun e => by
    have := congrArg List.length e
    rw [List.length_append, xl, List.length_nil] at this
    omega
  rw [e1, sm_step 59 hne, sm_step 59 hne2, fl_16 lq, fl_16 (by rw [List.length_append, xl]; omega), List.take_left' xl, List.drop_left' xl, rd_xr (g_take hq 16) (wr16_in _) tq (wr16_len _), rd_wr P1, xp_zero', xp_comm]
end Go.Proofs.Ytmpagpbnpgcecaa
