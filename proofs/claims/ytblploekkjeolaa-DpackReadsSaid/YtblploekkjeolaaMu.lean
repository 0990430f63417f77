/- Own library of this work (18): a row's arguments that are structs of slices; is a slice that is read nil?; an empty literal; rows of the arguments that are told. -/
import Derived.Test.YtblploekkjeolaaMn
import Derived.Test.YtblploekkjeolaaMl
import Derived.Test.YtblploekkjeolaaMj
set_option linter.unusedSimpArgs false
set_option linter.unusedVariables false
namespace Go.Mx
open Go.RowKit Go.ChangeShapes Go.WideShapes Go.ChangeAt
/-! ### a struct of slices as a row's argument -/
def slB (P : Program) (u : TypeId) : Bool := match P.underlying u with
  | some (.slice _) => P.cellsOf u == 1
  | _ => false
def slsB (P : Program) (fs : Array Field) (pt : List TypeId) : Bool := (List.range pt.length).all fun i => match fs[i]?, pt[i]? with
  | some f, some u => f.offset == i && f.type == u && slB P u
  | _, _ => false
theorem slsB_at {P : Program} {fs : Array Field} {pt : List TypeId} (h : slsB P fs pt = true) {i : Nat} (hi : i < pt.length) : ∃ f u e, fs[i]? = some f ∧ pt[i]? = some u ∧ f.offset = i ∧ f.type = u ∧ P.underlying u = some (.slice e) ∧ P.cellsOf u = 1 := by
  have h1 := List.all_eq_true.1 h i (List.mem_range.2 hi)
  split at h1
  · rename_i f u hf hu
    simp only [Bool.and_eq_true, beq_iff_eq] at h1
    obtain ⟨⟨h2, h3⟩, h4⟩ := h1
    unfold slB at h4
    split at h4
    · rename_i e he
      exact ⟨f, u, e, hf, hu, h2, h3, he, by simpa using h4⟩
    · cases h4
  · cases h1
theorem open_sls {H : Type} {enc' : TypeId × Value → H} {P : Program} {w : World} {r : Reach} {base b0 : Nat} {held : Bool} {t : TypeId} {v : Value} {fs : Array Field} {d : DataW H} {ps : List MemPlace} (pt : List TypeId)
    (ht : P.underlying t = some (.struct fs)) (hc : P.cellsOf t = pt.length) (hfs : slsB P fs pt = true) (hv : Value.okWide P w r b0 t v) (h : DataW.Trod enc' P w base (fun _ => true) held t v d ps) :
    ∃ hs : List HS, hs.length = pt.length ∧ v = .agg (hs.map CS.val).toArray ∧ ∃ parts, d = .agg parts ∧ ∀ (i : Nat) (u : TypeId) (q : HS), pt[i]? = some u → hs[i]? = some q → ∃ d ps, parts[i]? = some d ∧ DataW.Trod enc' P w base (fun _ => true) held u (.slice q.1 q.2.1 q.2.2) d ps := by
  unfold Value.okWide at hv
  rw [ht] at hv
  obtain ⟨cs, rfl, hs, _⟩ := hv
  rw [hc] at hs
  obtain ⟨fuel, hf⟩ := h
  obtain ⟨xs, n, rfl, hxd, hl, hxl, hx⟩ := DataW.trod_struct ht hf
  obtain ⟨rfl, _⟩ := Prod.mk.inj hxd
  have each : ∀ i, i < pt.length → ∃ q : HS, cs[i]? = some (CS.val q) ∧ ∀ u, pt[i]? = some u → ∃ d ps, (xs.map (·.1))[i]? = some d ∧ DataW.Trod enc' P w base (fun _ => true) held u (.slice q.1 q.2.1 q.2.2) d ps := fun i hi => by
    obtain ⟨f, u, e, h1, h2, h3, h4, h5, h6⟩ := slsB_at hfs hi
    have h7 := hx i f h1
    have hi2 : i < xs.length := by rw [hxl]; exact (Array.getElem?_eq_some_iff.1 h1).1
    rw [List.getElem?_eq_getElem hi2, h3, h4, h6] at h7
    have hci : i < cs.size := by omega
    have h8 : ((Value.agg cs).cells.toList.drop i).take 1 = [cs[i]] := by
      show (cs.toList.drop i).take 1 = _
      rw [List.drop_eq_getElem_cons (by simpa using hci)]
      simp
    have key : ∀ A m c, cs[i] = .slice A m c → ∃ q : HS, cs[i]? = some (CS.val q) ∧ ∀ u, pt[i]? = some u → ∃ d ps, (xs.map (·.1))[i]? = some d ∧ DataW.Trod enc' P w base (fun _ => true) held u (.slice q.1 q.2.1 q.2.2) d ps := fun A m c hcc => by
      refine ⟨(A, m, c), by rw [Array.getElem?_eq_getElem hci, hcc]; rfl, fun u' hu' => ?_⟩
      rw [h2] at hu'
      obtain rfl := Option.some.inj hu'
      refine ⟨xs[i].1, xs[i].2, by rw [List.getElem?_map, List.getElem?_eq_getElem hi2]; rfl, n, ?_⟩
      rw [h8, hcc] at h7
      exact h7
    rw [h8] at h7
    rcases DataW.trod_slice h5 h7 with ⟨hcs, _⟩ | ⟨a, len, cap, _, _, _, _, hcs, _⟩
    · exact key _ _ _ (List.cons.inj hcs).1
    · exact key _ _ _ (List.cons.inj hcs).1
  obtain ⟨l, hll, hlp⟩ := list_of pt.length each
  refine ⟨l, hll, ?_, _, rfl, fun i u q hu hq => ?_⟩
  · congr 1
    apply Array.ext_getElem?
    intro i
    have e1 : ((l.map CS.val).toArray)[i]? = (l.map CS.val)[i]? := by simp
    rw [e1, List.getElem?_map]
    by_cases hi : i < l.length
    · rw [(hlp i hi).1, List.getElem?_eq_getElem hi]; rfl
    · rw [List.getElem?_eq_none (by omega), Array.getElem?_eq_none (by omega)]; rfl
  · obtain ⟨hi, rfl⟩ := List.getElem?_eq_some_iff.1 hq
    exact (hlp i hi).2 u hu
theorem sized_any {H : Type} {enc' : TypeId × Value → H} {P : Program} {w : World} {base : Nat} {sp : Nat → Bool} {held : Bool} {t e : TypeId} {A : Option Addr} {n c : Nat} {d : DataW H} {ps : List MemPlace} {ts : List TypeId} {ds : List (DataW H)} {j : Nat}
    (hsz : (DataW.weightsEach P ts ds).all (· ≤ reachBytes) = true) (ht : ts[j]? = some t) (hd : ds[j]? = some d) (hu : P.underlying t = some (.slice e)) (hB : 1 ≤ P.bytesOf e)
    (h : DataW.Trod enc' P w base sp held t (.slice A n c) d ps) : n ≤ 140737488351232 := by
  obtain ⟨fuel, hf⟩ := h
  rcases DataW.trod_slice hu hf with ⟨hcs, _⟩ | ⟨a, len, cap, elems, rest, _, _, hcs, hx, _, hl, _, hlen, _⟩
  · simp [Value.cells] at hcs
    omega
  · simp [Value.cells] at hcs
    obtain ⟨hx, _⟩ := Prod.mk.inj hx
    subst hx
    have z := sized_slice hsz ht hd hu
    rw [List.length_map, List.length_map] at z
    have h2 : (elems.length + rest.length) * 1 ≤ (elems.length + rest.length) * P.bytesOf e := Nat.mul_le_mul_left _ hB
    have h3 : reachBytes ≤ 140737488351232 := by decide
    omega
theorem sized_agg {H : Type} {P : Program} {t : TypeId} {fs : Array Field} {parts : List (DataW H)} {ts : List TypeId} {ds : List (DataW H)} {j : Nat}
    (hsz : (DataW.weightsEach P ts ds).all (· ≤ reachBytes) = true) (ht : ts[j]? = some t) (hd : ds[j]? = some (.agg parts)) (hu : P.underlying t = some (.struct fs)) : (DataW.weightsEach P (fs.toList.map (·.type)) parts).all (· ≤ reachBytes) = true := by
  refine List.all_eq_true.2 fun x hx => List.all_eq_true.1 hsz x (DataW.weights_mem_each ht hd x ?_)
  unfold DataW.weights
  rw [hu]
  exact hx
theorem hs_cons {m : Nat} {l : List HS} (h : l.length = m + 1) : ∃ A n c l', l = (A, n, c) :: l' ∧ l'.length = m := by
  cases l with
  | nil => cases h
  | cons x l => exact ⟨x.1, x.2.1, x.2.2, l, rfl, by simpa using h⟩
end Go.Mx
