/- Own library of this work (20): parts with room, arrays out of slices and slices of arrays, copy, rows that are owned and only read. -/
import Derived.Test.YtemdbgmldljbpaaDoorMv
set_option linter.unusedSimpArgs false
set_option linter.unusedVariables false
namespace Go.Mx
open Go.RowKit
section
variable {T : Type} {C : Cod T} {P : Program} {ops : Array Oper} {K Kn : Act → World → Prop} {a : Act} {w w' : World} {i : Nat} {w0 : World} {X : List Nat} {L R : List Ent}
/-! ### a part with room -/
/-! ### an array out of a slice -/
/-! ### a block's row as a slice -/
def lA {n : Nat} (c : Arr n) : List Int := c.toList
theorem encL_lA {n : Nat} (k : IntKind) (c : Arr n) : encL (CI k) (lA c) = enc k c := by
  have e : ∀ m : List Int, encL (CI k) m = m.map (Value.int k) := fun m => by
    induction m with
    | nil => rfl
    | cons y m ih => rw [encL_cons, ih]; rfl
  rw [e]
  rfl
theorem lA_len {n : Nat} (c : Arr n) : (lA c).length = n := by simp [lA]
theorem St.rowB (h : St w0 X L R w) (j : Nat) {b n : Nat} {k : IntKind} {c : Arr n} {t : TypeId} {lo hi : Int} (hj : L[j]? = some (.blk b (enc k c) t)) (h0 : 0 ≤ lo) (h1 : lo ≤ hi) (h2 : hi ≤ n) : RowL (CI k) w (some ⟨b, 0 + lo.toNat * 1, Option.none⟩) (hi.toNat - lo.toNat) (n - lo.toNat) (subL (lA c) lo hi) := by
  have hb := h.blkAt j hj
  have hl := lA_len c
  refine ⟨?_, ⟨by omega, fun h => by cases h⟩, .inr ⟨b, 0 + lo.toNat * 1, _, _, _, rfl, hb, fun q u hq => ?_⟩⟩
  · rw [encL_len, subL_len h1 (by rw [hl]; exact h2) h0]
  · have e := encL_sub (CI k) (lA c) lo.toNat hi.toNat (by omega) (by omega)
    unfold subL at hq
    have hsz : (CI k).size = 1 := rfl
    rw [e, encL_lA, hsz, List.getElem?_drop, List.getElem?_take] at hq
    split at hq
    · rw [List.getElem?_toArray, Nat.zero_add]
      exact hq
    · cases hq
theorem yld_slA2 {t e n b o : Nat} {low high : Option Value} {lo hi : Int} (he : execAt ops i a = nextV (Instr.sliceAt t (.pointer (some ⟨b, o, none⟩)) low high none)) (hu : P.underlying t = some (.array n e)) (hs : szOf P e = some 1)
    (hlo : (low = none ∧ lo = 0) ∨ ∃ k, low = some (.int k lo)) (hhi : (high = none ∧ hi = n) ∨ ∃ k, high = some (.int k hi)) (h0 : 0 ≤ lo) (h1 : lo ≤ hi) (h2 : hi ≤ n) (h3 : lo < n) : Yld P ops Any i a w (.slice (some ⟨b, o + lo.toNat * 1, none⟩) (hi.toNat - lo.toNat) (n - lo.toNat)) := by
  refine yld fun w' => ?_
  rw [he]
  refine run_nextV ?_
  unfold Instr.sliceAt
  have hne : ¬ n = lo.toNat := by omega
  have hb : (Instr.sliceBounds false n n low high none).run P w' = .ok (lo.toNat, hi.toNat, n) w' := by
    unfold Instr.sliceBounds
    have b1 : ∀ k code, (Instr.sliceBound (.int k hi) n code).run P w' = .ok hi.toNat w' := fun k code => run_bound (by omega) (by omega)
    have b2 : ∀ k code, (Instr.sliceBound (.int k lo) hi.toNat code).run P w' = .ok lo.toNat w' := fun k code => run_bound h0 (by omega)
    rcases hlo with ⟨rfl, rfl⟩ | ⟨k1, rfl⟩ <;> rcases hhi with ⟨rfl, rfl⟩ | ⟨k2, rfl⟩
    · simp [Sem.run_bind, Result.andThen]
    · simp [Sem.run_bind, Result.andThen, b1]
    · have b3 : ∀ code, (Instr.sliceBound (.int k1 lo) n code).run P w' = .ok lo.toNat w' := fun code => run_bound h0 (by omega)
      simp [Sem.run_bind, Result.andThen, b3]
    · simp [Sem.run_bind, Result.andThen, b1, b2]
  simp [run_underlying hu, Sem.run_bind, Result.andThen, Instr.sureAddr, hb, run_sizeOf hs, hne, add_plain]
/-! ### copy into a block's row -/
/-! ### rows that are owned, and only read -/
/-! ### rows of the world at the start -/
end
end Go.Mx
