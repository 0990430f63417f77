/- Layer 10 (aes), plain laws: the rounds' stages in the program and in the document. -/
import Derived.Test.YtmpagpbnpgcecaaEe
import Derived.Test.YtmpagpbnpgcecaaMg
set_option linter.unusedSimpArgs false
set_option linter.unusedVariables false
set_option maxRecDepth 100000
namespace Go.Proofs.Ytmpagpbnpgcecaa
open Go Go.Mx
theorem t_double : ∀ a : Fin 256, ixor .u8 (ishl .u8 (a.val : Int) 1) (iand .u8 27 (isub .u8 0 (ishr .u8 (a.val : Int) 7))) = ((xt a.val : Nat) : Int) := by decide +kernel
theorem aDouble (K : Nat) {a : Nat} (h : a < 256) : aes_double.f K (a : Int) = some ((xt a : Nat) : Int) := by
  unfold aes_double.f
  rw [show ixor .u8 (ishl .u8 (a : Int) 1) (iand .u8 27 (isub .u8 0 (ishr .u8 (a : Int) 7))) = ((xt a : Nat) : Int) from t_double ⟨a, h⟩]
  rfl
theorem next4 : ∀ r : Fin 4, irem .i64 ((r.val + 1 : Nat) : Int) 4 = (((r.val + 1) % 4 : Nat) : Int) := by decide
def allq (s : Nat → Nat) (c : Nat) : Nat := ((s (4 * c) ^^^ s (4 * c + 1)) ^^^ s (4 * c + 2)) ^^^ s (4 * c + 3)
theorem atq_mq (s : Nat → Nat) (c : Nat) : ∀ r : Nat, r < 4 → atq (mq (colq s c)) r = (s (4 * c + r) ^^^ allq s c) ^^^ xt (s (4 * c + r) ^^^ s (4 * c + (r + 1) % 4))
  | 0, _ => rfl
  | 1, _ => rfl
  | 2, _ => rfl
  | 3, _ => rfl
theorem rd_col {b : Arr 16} {s : Nat → Nat} {c : Nat} (hc : c < 4) (hb : ∀ j : Nat, j < 16 → 4 * c ≤ j → rd b (j : Int) = ((s j : Nat) : Int)) {r : Nat} (hr : r < 4) : rd (subA 4 b ((4 * c : Nat) : Int)) (r : Int) = ((s (4 * c + r) : Nat) : Int) := by
  rw [rd_subA b _ r hr, show ((4 * c : Nat) : Int) + (r : Int) = ((4 * c + r : Nat) : Int) by omega]
  exact hb _ (by omega) (by omega)
theorem aCol (K : Nat) (hK : 4 < K) {b : Arr 16} {s : Nat → Nat} {c : Nat} (hc : c < 4) (hs : Bd s) (hb : ∀ j : Nat, j < 16 → 4 * c ≤ j → rd b (j : Int) = ((s j : Nat) : Int)) :
    ∃ y, aes_mix.l1 K K ((4 * c : Nat) : Int) b ((allq s c : Nat) : Int) 0 b = some y ∧ ∀ j : Nat, j < 16 → rd y (j : Int) = if 4 * c ≤ j ∧ j < 4 * c + 4 then ((onq mq s j : Nat) : Int) else rd b (j : Int) := by
  have hall : allq s c < 256 := xor_lt (xor_lt (xor_lt (hs _ (by omega)) (hs _ (by omega))) (hs _ (by omega))) (hs _ (by omega))
  obtain ⟨y, h1, _, h2⟩ := fillS (S := Arr 16) (fun z j => rd z (j : Int)) (fun z i x => wr z (i : Int) x) (fun _ => True) 16 (fun z i x => setA z i x) (fun k i z => aes_mix.l1 K k ((4 * c : Nat) : Int) b ((allq s c : Nat) : Int) i z) (4 * c) 4 (by omega)
    (fun r => ((onq mq s (4 * c + r) : Nat) : Int)) b (fun k i z hi _ _ => by
      have b0 : (0 : Int) ≤ (i : Int) := by omega
      have b1 : (i : Int) < 4 := by omega
      have hn := next4 ⟨i, hi⟩
      dsimp only at hn
      have hq : (i + 1) % 4 < 4 := Nat.mod_lt _ (by decide)
      have c0 : (0 : Int) ≤ (((i + 1) % 4 : Nat) : Int) := by omega
      have c1 : (((i + 1) % 4 : Nat) : Int) < 4 := by omega
      have r1 := rd_col hc hb hi
      have r2 := rd_col hc hb hq
      have l1 := hs (4 * c + i) (by omega)
      have l2 := hs (4 * c + (i + 1) % 4) (by omega)
      have x1 := ix8 l1 l2
      have x2 := aDouble K (xor_lt l1 l2)
      have x3 := ix8 l1 hall
      have x4 := ix8 (xor_lt l1 hall) (xt_lt (xor_lt l1 l2))
      have p : iadd .i64 ((4 * c : Nat) : Int) (i : Int) = ((4 * c + i : Nat) : Int) := by rw [add64 (by omega) (by omega)]; omega
      have d0 : (0 : Int) ≤ ((4 * c + i : Nat) : Int) := by omega
      have d1 : ((4 * c + i : Nat) : Int) < 16 := by omega
      rw [onq_at mq s hi, atq_mq s c i hi]
      simp only [aes_mix.l1, b0, b1, hn, c0, c1, r1, r2, x1, x2, x3, x4, p, d0, d1, if_true, Option.bind_some, inc (i := i) (by omega)]) (fun k z => by simp only [aes_mix.l1]; rfl) 4 0 K b (by decide) hK trivial (fun _ _ _ => rfl)
  refine ⟨y, h1, fun j hj => ?_⟩
  rw [h2 j hj]
  split
  · rename_i h4
    rw [show 4 * c + (j - 4 * c) = j by omega, if_pos (by omega)]
  · rw [if_neg (by omega)]
theorem aMix (K : Nat) (hK : 4 < K) {b : Arr 16} {s : Nat → Nat} (hb : ArS b s) (hs : Bd s) : ∃ y, aes_mix.f K b = some y ∧ ArS y (onq mq s) := by
  have key : ∀ n c k z, c + n = 4 → n < k → (∀ j : Nat, j < 16 → rd z (j : Int) = if j < 4 * c then ((onq mq s j : Nat) : Int) else ((s j : Nat) : Int)) → ∃ y, aes_mix.l0 K k ((4 * c : Nat) : Int) z = some y ∧ ArS y (onq mq s) := by
    intro n
    induction n with
    | zero =>
      intro c k z hc hk hz
      obtain ⟨k, rfl⟩ : ∃ q, k = q + 1 := ⟨k - 1, by omega⟩
      obtain rfl : c = 4 := by omega
      refine ⟨z, by simp only [aes_mix.l0]; rfl, fun j hj => ?_⟩
      rw [hz j hj, if_pos (by omega)]
    | succ n ih =>
      intro c k z hc hk hz
      obtain ⟨k, rfl⟩ : ∃ q, k = q + 1 := ⟨k - 1, by omega⟩
      have hz' : ∀ j : Nat, j < 16 → 4 * c ≤ j → rd z (j : Int) = ((s j : Nat) : Int) := fun j hj h => by rw [hz j hj, if_neg (by omega)]
      obtain ⟨y, h1, h2⟩ := aCol K hK (by omega) hs hz'
      obtain ⟨w, h3, h4⟩ := ih (c + 1) k y (by omega) (by omega) (fun j hj => by
        rw [h2 j hj, hz j hj]
        by_cases h5 : 4 * c ≤ j ∧ j < 4 * c + 4
        · rw [if_pos h5, if_pos (by omega)]
        · rw [if_neg h5]
          by_cases h6 : j < 4 * c
          · rw [if_pos h6, if_pos (by omega)]
          · rw [if_neg h6, if_neg (by omega)])
      refine ⟨w, ?_, h4⟩
      have r0 := rd_col (c := c) (r := 0) (by omega) hz' (by decide)
      have r1 := rd_col (c := c) (r := 1) (by omega) hz' (by decide)
      have r2 := rd_col (c := c) (r := 2) (by omega) hz' (by decide)
      have r3 := rd_col (c := c) (r := 3) (by omega) hz' (by decide)
      have l0 := hs (4 * c) (by omega)
      have l1 := hs (4 * c + 1) (by omega)
      have l2 := hs (4 * c + 2) (by omega)
      have l3 := hs (4 * c + 3) (by omega)
      have p : iadd .i64 ((4 * c : Nat) : Int) 4 = ((4 * (c + 1) : Nat) : Int) := by rw [add64 (by omega) (by omega)]; omega
      have q0 : (0 : Int) ≤ ((4 * c : Nat) : Int) := by omega
      have q1 : ((4 * c : Nat) : Int) < 16 := by omega
      have q2 : ((4 * c : Nat) : Int) ≤ ((4 * (c + 1) : Nat) : Int) := by omega
      have q3 : ((4 * (c + 1) : Nat) : Int) ≤ 16 := by omega
      have q4 : 4 ≤ ((4 * (c + 1) : Nat) : Int).toNat - ((4 * c : Nat) : Int).toNat := by omega
      have e0 : rd (subA 4 z ((4 * c : Nat) : Int)) 0 = ((s (4 * c) : Nat) : Int) := r0
      have e1 : rd (subA 4 z ((4 * c : Nat) : Int)) 1 = ((s (4 * c + 1) : Nat) : Int) := r1
      have e2 : rd (subA 4 z ((4 * c : Nat) : Int)) 2 = ((s (4 * c + 2) : Nat) : Int) := r2
      have e3 : rd (subA 4 z ((4 * c : Nat) : Int)) 3 = ((s (4 * c + 3) : Nat) : Int) := r3
      have x1 := ix8 l0 l1
      have x2 := ix8 (xor_lt l0 l1) l2
      have x3 := ix8 (xor_lt (xor_lt l0 l1) l2) l3
      unfold allq at h1
      simp only [aes_mix.l0, q0, q1, q2, q3, q4, p, e0, e1, e2, e3, x1, x2, x3, if_true, Option.bind_some, h1]
      exact h3
  obtain ⟨y, h1, h2⟩ := key 4 0 K b (by decide) hK (fun j hj => by rw [if_neg (by omega)]; exact hb j hj)
  refine ⟨y, ?_, h2⟩
  unfold aes_mix.f
  rw [show aes_mix.l0 K K 0 b = some y from h1]
  rfl
end Go.Proofs.Ytmpagpbnpgcecaa
