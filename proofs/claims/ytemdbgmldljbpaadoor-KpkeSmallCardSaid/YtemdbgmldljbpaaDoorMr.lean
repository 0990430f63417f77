/- Own library of this work (4): what a row's arguments are. -/
import Derived.Test.YtemdbgmldljbpaaDoorMc
import Derived.WalkKit
import Derived.ProofKit
import Derived.OpenShut
import Derived.ChangeOld
import Derived.Carry
namespace Go.Mx
open Go.RowKit Go.ChangeShapes Go.WideShapes Go.ChangeAt
def InR (k : IntKind) (x : Int) : Prop := k.min ≤ x ∧ x ≤ k.max
def InA {n : Nat} (k : IntKind) (a : Arr n) : Prop := ∀ x ∈ a.toList, InR k x
theorem inR_of_wf {k : IntKind} {x : Int} (h : (Lit.int k x).wf = true) : InR k x := by
  simp only [Lit.wf, Bool.and_eq_true, decide_eq_true_eq] at h
  exact h
def numOf : Value → Int
  | .int _ x => x
  | _ => 0
theorem arr_of_cells {n : Nat} {k : IntKind} (cs : Array Value) (hs : cs.size = n) (h : ∀ (i : Nat) (v : Value), cs[i]? = some v → ∃ x, v = Value.int k x ∧ InR k x) : ∃ a : Arr n, cs = (enc k a).toArray ∧ InA k a := by
  refine ⟨⟨cs.map numOf, by simpa using hs⟩, ?_, ?_⟩
  · apply Array.ext_getElem?
    intro i
    simp only [enc, Vector.toList, Array.toList_map, List.map_map, List.getElem?_toArray, List.getElem?_map, Array.getElem?_toList]
    cases hi : cs[i]? with
    | none => rfl
    | some v =>
      obtain ⟨x, rfl, _⟩ := h i v hi
      rfl
  · intro x hx
    simp only [Vector.toList, Array.toList_map, List.mem_map] at hx
    obtain ⟨v, hv, rfl⟩ := hx
    obtain ⟨i, hi⟩ := List.mem_iff_getElem?.1 hv
    rw [Array.getElem?_toList] at hi
    obtain ⟨x, rfl, hr⟩ := h i v hi
    exact hr
theorem open_arr {P : Program} {w : World} {r : Reach} {base : Nat} {t e n : Nat} {k : IntKind} {v : Value} (ht : P.underlying t = some (.array n e)) (hu : P.underlying e = some (.int k)) (hc : P.cellsOf t = n)
    (hct : P.cellTypes P.depth t = some (List.replicate n e)) (hv : Value.okWide P w r base t v) : ∃ a : Arr n, v = .agg (enc k a).toArray ∧ InA k a := by
  unfold Value.okWide at hv
  rw [ht] at hv
  obtain ⟨cs, rfl, hs, ts, hts, _, hcells⟩ := hv
  rw [hct] at hts
  obtain rfl := Option.some.inj hts
  rw [hc] at hs
  obtain ⟨a, rfl, ha⟩ := arr_of_cells (k := k) cs hs fun i v hi => by
    obtain ⟨u, hue, hok⟩ := hcells i v hi
    rw [List.getElem?_replicate] at hue
    split at hue
    · obtain rfl := Option.some.inj hue
      unfold Cell.okWide at hok
      rw [hu] at hok
      unfold Cell.ok at hok
      rw [hu] at hok
      cases v <;> simp only [] at hok
      rename_i k' x
      obtain ⟨rfl, hr⟩ := hok
      exact ⟨x, rfl, hr⟩
    · cases hue
  exact ⟨a, rfl, ha⟩
end Go.Mx
