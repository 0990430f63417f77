/- Own library of this work (17): a row's arguments that are structs of single cells, or slices of rows of numbers. -/
import Derived.Test.YtblploekkjeolaaMk
import Derived.OpenShut
set_option linter.unusedSimpArgs false
set_option linter.unusedVariables false
namespace Go.Mx
open Go.RowKit Go.ChangeShapes Go.WideShapes Go.ChangeAt
theorem list_of {α : Type} {p : Nat → α → Prop} : ∀ m : Nat, (∀ i, i < m → ∃ x, p i x) → ∃ l : List α, l.length = m ∧ ∀ (i : Nat) (h : i < l.length), p i l[i]
  | 0, _ => ⟨[], rfl, fun i h => by simp at h⟩
  | m + 1, h => by
    obtain ⟨l, h1, h2⟩ := list_of m fun i hi => h i (by omega)
    obtain ⟨x, hx⟩ := h m (by omega)
    refine ⟨l ++ [x], by simp [h1], fun i hi => ?_⟩
    by_cases hm : i < l.length
    · rw [List.getElem_append_left hm]; exact h2 i hm
    · have : i = l.length := by simp at hi; omega
      subst this
      rw [List.getElem_append_right (Nat.le_refl _)]
      simp only [Nat.sub_self, List.getElem_singleton]
      rw [h1]; exact hx
theorem cells_at {w : World} {base : Nat} {a : Addr} {n : Nat} {cs : List Value} (h : w.cells? base a n = some cs) : cs.length = n ∧ ∀ (j : Nat) (v : Value), cs[j]? = some v → w.cell? (a.add j) = some v := by
  unfold World.cells? at h
  split at h
  · have key : ∀ (l : List Nat) (cs : List Value), (l.mapM fun i => w.cell? (a.add i)) = some cs → cs.length = l.length ∧ ∀ (j : Nat) (v : Value) (i : Nat), cs[j]? = some v → l[j]? = some i → w.cell? (a.add i) = some v := by
      intro l
      induction l with
      | nil =>
        intro cs hcs
        simp at hcs
        subst hcs
        exact ⟨rfl, fun j v i hv _ => by simp at hv⟩
      | cons x l ih =>
        intro cs hcs
        rw [List.mapM_cons] at hcs
        cases hx : w.cell? (a.add x) with
        | none => rw [hx] at hcs; cases hcs
        | some y =>
          rw [hx] at hcs
          cases hl : (l.mapM fun i => w.cell? (a.add i)) with
          | none => rw [hl] at hcs; cases hcs
          | some ys =>
            rw [hl] at hcs
            obtain rfl : y :: ys = cs := Option.some.inj hcs
            obtain ⟨h1, h2⟩ := ih ys hl
            refine ⟨by simp [h1], fun j v i hv hi => ?_⟩
            cases j with
            | zero =>
              obtain rfl := Option.some.inj hv
              obtain rfl := Option.some.inj hi
              exact hx
            | succ j => exact h2 j v i (by simpa using hv) (by simpa using hi)
    obtain ⟨h1, h2⟩ := key _ _ h
    rw [List.length_range] at h1
    refine ⟨h1, fun j v hv => h2 j v j hv ?_⟩
    have := (List.getElem?_eq_some_iff.1 hv).1
    rw [List.getElem?_range (by omega)]
  · cases h
theorem open_rowA {H : Type} {enc' : TypeId × Value → H} {P : Program} {w : World} {base : Nat} {held : Bool} {t e q : TypeId} {n : Nat} {k : IntKind} {A : Option Addr} {m c : Nat} {d : DataW H} {ps : List MemPlace} (hn : 0 < n) (ht : P.underlying t = some (.slice e)) (hea : P.underlying e = some (.array n q)) (hq : P.underlying q = some (.int k))
    (hce : P.cellsOf e = n) (hcq : P.cellsOf q = 1) (h : DataW.Trod enc' P w base (fun _ => true) held t (.slice A m c) d ps) : ∃ l : List (Arr n), RowL (CA k n hn) w A m c l ∧ ∀ x ∈ l, InA k x := by
  obtain ⟨fuel, hf⟩ := h
  rcases DataW.trod_slice ht hf with ⟨hcs, _⟩ | ⟨a, len, cap, elems, rest, fu, _, hcs, _, _, hl, _, hlen, hel, _, _⟩
  · simp [Value.cells] at hcs
    obtain ⟨rfl, rfl, rfl⟩ := hcs
    exact ⟨[], RowL.nil w, fun _ h => by cases h⟩
  · simp [Value.cells] at hcs
    obtain ⟨rfl, rfl, rfl⟩ := hcs
    rw [hce] at hel
    have each : ∀ i, i < m → ∃ x : Arr n, InA k x ∧ ∀ j, j < n → w.cell? ((a.add (i * n)).add j) = some (.int k (rd x (j : Nat))) := fun i hi => by
      have h1 := hel i hi
      rw [List.getElem?_eq_getElem (by omega), Option.bind_eq_some_iff] at h1
      obtain ⟨cs, hc1, hc2⟩ := h1
      obtain ⟨hcl, hcell⟩ := cells_at hc1
      obtain ⟨xs, mf, _, _, hcl2, hxl, hx⟩ := DataW.trod_array hea hc2
      rw [hcq] at hx
      obtain ⟨x, hx1, hx2⟩ := arr_of_cells (n := n) (k := k) cs.toArray (by simpa using hcl) fun j v hv => by
        rw [List.getElem?_toArray] at hv
        have hj : j < cs.length := (List.getElem?_eq_some_iff.1 hv).1
        have h2 := hx j (by omega)
        rw [List.getElem?_eq_getElem (by omega), Nat.mul_one] at h2
        obtain ⟨u, hu, _, hw⟩ := DataW.trod_int hq h2
        have h3 : (cs.drop j).take 1 = [cs[j]] := by
          rw [List.drop_eq_getElem_cons hj]
          rfl
        rw [h3] at hu
        rw [List.getElem?_eq_getElem hj] at hv
        obtain rfl := Option.some.inj hv
        exact ⟨u, (List.cons.inj hu).1, inR_of_wf hw⟩
      have hcs : cs = enc k x := by simpa using congrArg Array.toList hx1
      refine ⟨x, hx2, fun j hj => hcell j _ ?_⟩
      rw [hcs]
      have := enc_get k x (j : Int) (by omega) (by omega)
      rw [Int.toNat_natCast] at this
      exact this
    obtain ⟨l, hll, hlp⟩ := list_of m each
    refine ⟨l, ⟨by rw [encL_len, hll], ⟨hl, fun h => by cases h⟩, ?_⟩, fun x hx => ?_⟩
    · by_cases h0 : m = 0
      · left
        have : l = [] := List.eq_nil_of_length_eq_zero (by omega)
        rw [this]
        rfl
      · right
        have h00 := (hlp 0 (by omega)).2 0 hn
        obtain ⟨b, o, cs, T, fz, hx, hh, hv⟩ := cell_open h00
        have hx' : a = ⟨b, o, none⟩ := by
          obtain ⟨xb, xo, xs⟩ := a
          unfold Addr.add at hx
          cases xs with
          | none => simp_all
          | some s => simp_all
        subst hx'
        refine ⟨b, o, cs, T, fz, rfl, hh, fun j u hj => ?_⟩
        have hjl : j < m * n := by
          have := (List.getElem?_eq_some_iff.1 hj).1
          rw [encL_len, hll] at this
          exact this
        have hdm : j = (j / n) * n + j % n := by rw [Nat.mul_comm]; exact (Nat.div_add_mod j n).symm
        have hq1 : j / n < m := (Nat.div_lt_iff_lt_mul hn).2 hjl
        have hr1 : j % n < n := Nat.mod_lt _ hn
        have hg := encL_get (CA k n hn) l (j / n) (j % n) (by omega) hr1
        have hsz : (CA k n hn).size = n := rfl
        rw [hsz, ← hdm, hj] at hg
        have hc2 := (hlp (j / n) (by omega)).2 (j % n) hr1
        obtain ⟨b2, o2, cs2, T2, fz2, hx2, hh2, hv2⟩ := cell_open hc2
        rw [add_plain, add_plain] at hx2
        obtain ⟨rfl, rfl⟩ : b2 = b ∧ o2 = o + j := by
          simp only [Addr.mk.injEq] at hx2
          exact ⟨hx2.1.symm, by rw [hx2.2.1.symm, Nat.add_assoc, ← hdm]⟩
        rw [hh] at hh2
        obtain ⟨rfl, _, _⟩ : cs = cs2 ∧ T = T2 ∧ fz = fz2 := by simpa using hh2
        rw [hv2]
        have he := enc_get k (l[j / n]'(by omega)) ((j % n : Nat) : Int) (by omega) (by omega)
        rw [Int.toNat_natCast] at he
        have hg' : some u = (enc k (l[j / n]'(by omega)))[j % n]? := hg
        rw [hg', he]
    · obtain ⟨i, hi, rfl⟩ := List.mem_iff_getElem.1 hx
      exact (hlp i hi).1
end Go.Mx
