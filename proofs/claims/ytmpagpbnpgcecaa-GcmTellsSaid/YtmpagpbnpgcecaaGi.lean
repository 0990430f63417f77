/- Layer 12 (gcm), plain laws: the document's xor, the sum of texts behind one another. -/
import Derived.Test.YtmpagpbnpgcecaaGh
import Derived.Test.YtmpagpbnpgcecaaGf
set_option linter.unusedSimpArgs false
set_option linter.unusedVariables false
set_option maxRecDepth 100000
namespace Go.Proofs.Ytmpagpbnpgcecaa
open Go Go.Mx
theorem gXorR_l0 {a b : List Int} (h : a.length = b.length) (hs : a.length < 100000) : ∀ (m i k : Nat), i + m = a.length → m < k → ref01_Xor.l0 1000 k a b (i : Int) ((xr a b).take i) = some (xr a b) := by
  have hx := xr_len (show a.length ≤ b.length by omega)
  intro m
  induction m with
  | zero =>
    intro i k hi hk
    obtain ⟨k, rfl⟩ : ∃ q, k = q + 1 := ⟨k - 1, by omega⟩
    have c : ¬ (i : Int) < ((a.length : Nat) : Int) := by omega
    simp only [ref01_Xor.l0, c, if_false, List.take_of_length_le (Nat.le_of_eq (show (xr a b).length = i by omega))]
  | succ m ih =>
    intro i k hi hk
    obtain ⟨k, rfl⟩ : ∃ q, k = q + 1 := ⟨k - 1, by omega⟩
    have hil : i < a.length := by omega
    have hib : i < b.length := by omega
    have hix : i < (xr a b).length := by omega
    have c0 : (i : Int) < ((a.length : Nat) : Int) := by omega
    have c1 : (0 : Int) ≤ (i : Int) := by omega
    have c3 : (i : Int) < ((b.length : Nat) : Int) := by omega
    have ht : ((xr a b).take i).length = i := by rw [List.length_take]; omega
    have e3 : ixor .u8 a[i] b[i] = (xr a b)[i] := (xr_get hix hil hib).symm
    have c4 : ((xr a b).take i).length + ([(xr a b)[i]] : List Int).length ≤ 140737488355328 := by rw [ht]; show i + 1 ≤ _; omega
    have e4 : (xr a b).take i ++ [(xr a b)[i]] = (xr a b).take (i + 1) := (List.take_succ_eq_append_getElem hix).symm
    simp only [ref01_Xor.l0, c0, c1, c3, rdL_get hil, rdL_get hib, e3, c4, e4, if_true, Option.bind_some, ginc (i := i) (by omega)]
    exact ih (i + 1) k (by omega) (by omega)
theorem gXorR {a b : List Int} (h : a.length = b.length) (hs : a.length < 900) : ref01_Xor.f 1000 a b = some (xr a b) := by
  have h0 : ref01_Xor.l0 1000 1000 a b 0 [] = some (xr a b) := gXorR_l0 h (by omega) a.length 0 1000 (by omega) (by omega)
  unfold ref01_Xor.f
  rw [h0]
  rfl
theorem fl_16 {z : List Int} (h : 16 ≤ z.length) : fl z = z.take 16 := by
  refine List.ext_getElem (by rw [fl_len, List.length_take]; omega) fun i h1 h2 => ?_
  rw [fl_get z h1, if_pos h2, List.getD_eq_getElem?_getD, List.getElem?_eq_getElem h2]
  rfl
theorem sm_step {h s : EL} {z : List Int} (m : Nat) (hz : z ≠ []) : sm h (m + 1) s z = sm h m (tm (xp s (rd16 (fl z))) h) (z.drop 16) := by
  show (if z = [] then s else _) = _
  rw [if_neg hz]
theorem sm_nil {h s : EL} : ∀ m, sm h m s [] = s
  | 0 => rfl
  | m + 1 => by show (if ([] : List Int) = [] then s else _) = s; rw [if_pos rfl]
theorem sm_fuel {h : EL} : ∀ (m m' : Nat) {s : EL} {z : List Int}, z.length ≤ 16 * m → z.length ≤ 16 * m' → sm h m s z = sm h m' s z
  | 0, m', s, z, h1, _ => by
    have : z = [] := List.eq_nil_of_length_eq_zero (by omega)
    rw [this, sm_nil, sm_nil]
  | m + 1, 0, s, z, _, h2 => by
    have : z = [] := List.eq_nil_of_length_eq_zero (by omega)
    rw [this, sm_nil, sm_nil]
  | m + 1, m' + 1, s, z, h1, h2 => by
    by_cases hz : z = []
    · rw [hz, sm_nil, sm_nil]
    · rw [sm_step m hz, sm_step m' hz]
      exact sm_fuel m m' (by rw [List.length_drop]; omega) (by rw [List.length_drop]; omega)
end Go.Proofs.Ytmpagpbnpgcecaa
