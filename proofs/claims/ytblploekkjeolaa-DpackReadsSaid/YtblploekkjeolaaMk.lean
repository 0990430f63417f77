/- Own library of this work (13): a row's arguments that are structs; tables that the row's condition tells. -/
import Derived.Test.YtblploekkjeolaaMp
import Derived.Test.YtblploekkjeolaaMg
import Derived.Lib.LaidTab
import Derived.LaidMore
import Derived.MakeChecks
import Derived.Stop.LaidErr
import Derived.SizedLaws
import Derived.ChangeSlices
set_option linter.unusedSimpArgs false
set_option linter.unusedVariables false
namespace Go.Mx
open Go.RowKit Go.ChangeShapes Go.WideShapes Go.ChangeAt
/-- what single cells are: a number of a kind, or a bool -/
def Fits : List (Option IntKind) → List Value → Prop
  | [], l => l = []
  | some k :: p, l => ∃ x l', l = Value.int k x :: l' ∧ InR k x ∧ Fits p l'
  | none :: p, l => ∃ b l', l = Value.bool b :: l' ∧ Fits p l'
def CellK : Option IntKind → Value → Prop
  | some k, v => ∃ x, v = Value.int k x ∧ InR k x
  | none, v => ∃ b, v = Value.bool b
theorem fits_of : ∀ (p : List (Option IntKind)) (l : List Value), l.length = p.length → (∀ (i : Nat) (v : Value) (q : Option IntKind), l[i]? = some v → p[i]? = some q → CellK q v) → Fits p l
  | [], l, hl, _ => List.eq_nil_of_length_eq_zero hl
  | q :: p, [], hl, _ => by simp at hl
  | q :: p, v :: l, hl, h => by
    have h0 := h 0 v q rfl rfl
    have hr := fits_of p l (by simpa using hl) fun i v q hv hq => h (i + 1) v q (by simpa using hv) (by simpa using hq)
    cases q with
    | some k =>
      obtain ⟨x, rfl, hx⟩ := h0
      exact ⟨x, l, rfl, hx, hr⟩
    | none =>
      obtain ⟨b, rfl⟩ := h0
      exact ⟨b, l, rfl, hr⟩
def typeK (P : Program) (q : Option IntKind) (u : TypeId) : Prop := P.underlying u = some (match q with | some k => .int k | none => .bool)
theorem cellK_of {P : Program} {w : World} {r : Reach} {base : Nat} {u : TypeId} {q : Option IntKind} {v : Value} (hu : typeK P q u) (hok : Cell.okWide P w r base u v) : CellK q v := by
  unfold typeK at hu
  unfold Cell.okWide at hok
  cases q with
  | some k =>
    simp only [] at hu
    rw [hu] at hok
    unfold Cell.ok at hok
    rw [hu] at hok
    cases v <;> simp only [] at hok
    rename_i k' x
    obtain ⟨rfl, hr⟩ := hok
    exact ⟨x, rfl, hr⟩
  | none =>
    simp only [] at hu
    rw [hu] at hok
    unfold Cell.ok at hok
    rw [hu] at hok
    cases v <;> simp only [] at hok
    rename_i b
    exact ⟨b, rfl⟩
/-- A struct of single cells, one row of n numbers among them. -/
theorem open_mix {P : Program} {w : World} {r : Reach} {base : Nat} {t e : TypeId} {n : Nat} {k : IntKind} {v : Value} {fs : Array Field} (pk qk : List (Option IntKind)) (pt qt : List TypeId) (ht : P.underlying t = some (.struct fs)) (hu : P.underlying e = some (.int k)) (hc : P.cellsOf t = pk.length + n + qk.length)
    (hct : P.cellTypes P.depth t = some (pt ++ List.replicate n e ++ qt)) (hp : pt.length = pk.length) (hq : qt.length = qk.length) (hpk : ∀ (i : Nat) (u : TypeId) (q : Option IntKind), pt[i]? = some u → pk[i]? = some q → typeK P q u) (hqk : ∀ (i : Nat) (u : TypeId) (q : Option IntKind), qt[i]? = some u → qk[i]? = some q → typeK P q u)
    (hv : Value.okWide P w r base t v) : ∃ (pre : List Value) (a : Arr n) (post : List Value), v = .agg (pre ++ enc k a ++ post).toArray ∧ Fits pk pre ∧ InA k a ∧ Fits qk post := by
  unfold Value.okWide at hv
  rw [ht] at hv
  obtain ⟨cs, rfl, hs, ts, hts, _, hcells⟩ := hv
  rw [hct] at hts
  obtain rfl := Option.some.inj hts
  rw [hc] at hs
  have hl : cs.toList.length = pk.length + n + qk.length := by simpa using hs
  have cell : ∀ (i : Nat) (v : Value), cs.toList[i]? = some v → ∃ u, (pt ++ List.replicate n e ++ qt)[i]? = some u ∧ Cell.okWide P w r base u v := fun i v hi => by
    have h1 := hcells i v (by rw [← Array.getElem?_toList]; exact hi)
    have hlt := (List.getElem?_eq_some_iff.1 hi).1
    rw [Nat.mod_eq_of_lt (by simp; omega)] at h1
    exact h1
  obtain ⟨a, ha, hin⟩ := arr_of_cells (n := n) (k := k) ((cs.toList.drop pk.length).take n).toArray (by simp; omega) fun i v hi => by
    rw [List.getElem?_toArray, List.getElem?_take] at hi
    split at hi
    · rename_i hin
      rw [List.getElem?_drop] at hi
      obtain ⟨u, hue, hok⟩ := cell _ v hi
      rw [List.append_assoc, List.getElem?_append_right (by omega), hp, List.getElem?_append_left (by simp; omega), List.getElem?_replicate, if_pos (by omega)] at hue
      obtain rfl := Option.some.inj hue
      obtain ⟨x, h1, h2⟩ := cellK_of (q := some k) hu hok
      exact ⟨x, h1, h2⟩
    · cases hi
  have ha' : (cs.toList.drop pk.length).take n = enc k a := by simpa using congrArg Array.toList ha
  refine ⟨cs.toList.take pk.length, a, cs.toList.drop (pk.length + n), ?_, ?_, hin, ?_⟩
  · congr 1
    apply Array.toList_inj.1
    rw [← ha', ← List.drop_drop, List.append_assoc, List.take_append_drop, List.take_append_drop]
  · refine fits_of _ _ (by rw [List.length_take]; omega) fun i v q hv hq => ?_
    have hi := (List.getElem?_eq_some_iff.1 hq).1
    rw [List.getElem?_take, if_pos hi] at hv
    obtain ⟨u, hue, hok⟩ := cell i v hv
    rw [List.append_assoc, List.getElem?_append_left (by omega)] at hue
    exact cellK_of (hpk i u q hue hq) hok
  · refine fits_of _ _ (by rw [List.length_drop]; omega) fun i v q hv hq => ?_
    rw [List.getElem?_drop] at hv
    obtain ⟨u, hue, hok⟩ := cell _ v hv
    rw [List.getElem?_append_right (by simp; omega), List.length_append, List.length_replicate, hp, show pk.length + n + i - (pk.length + n) = i by omega] at hue
    exact cellK_of (hqk i u q hue hq) hok
theorem typeK_nil {P : Program} : ∀ (i : Nat) (u : TypeId) (q : Option IntKind), ([] : List TypeId)[i]? = some u → ([] : List (Option IntKind))[i]? = some q → typeK P q u := fun _ _ _ h => by simp at h
theorem typeK_cons {P : Program} {u0 : TypeId} {q0 : Option IntKind} {us : List TypeId} {qs : List (Option IntKind)} (h : typeK P q0 u0) (hr : ∀ (i : Nat) (u : TypeId) (q : Option IntKind), us[i]? = some u → qs[i]? = some q → typeK P q u) :
    ∀ (i : Nat) (u : TypeId) (q : Option IntKind), (u0 :: us)[i]? = some u → (q0 :: qs)[i]? = some q → typeK P q u := fun i u q hu hq => by
  cases i with
  | zero =>
    obtain rfl := Option.some.inj hu
    obtain rfl := Option.some.inj hq
    exact h
  | succ i => exact hr i u q (by simpa using hu) (by simpa using hq)
/-! ### lengths -/
theorem sized_row {H : Type} {enc' : TypeId × Value → H} {P : Program} {W : World} {base : Nat} {spare : Nat → Bool} {held : Bool} {t e : TypeId} {k : IntKind} {A : Option Addr} {n c : Nat} {d : DataW H} {ps : List MemPlace} {ts : List TypeId} {ds : List (DataW H)} {j : Nat}
    (hsz : (DataW.weightsEach P ts ds).all (· ≤ reachBytes) = true) (ht : ts[j]? = some t) (hd : ds[j]? = some d) (hu : P.underlying t = some (.slice e)) (he : P.underlying e = some (.int k)) (hc : P.cellsOf e = 1) (hB : 1 ≤ P.bytesOf e)
    (h : DataW.Trod enc' P W base spare held t (.slice A n c) d ps) : n ≤ 140737488351232 := by
  obtain ⟨fuel, hf⟩ := h
  rcases open_ints hu he hc hf with ⟨hcs, _⟩ | ⟨x, l, c', zs, hcs, _, hl, _, hz, hx, _, _⟩
  · simp [Value.cells] at hcs
    omega
  · simp [Value.cells] at hcs
    obtain ⟨rfl, rfl, rfl⟩ := hcs
    obtain ⟨hx, _⟩ := Prod.mk.inj hx
    subst hx
    have z := sized_slice hsz ht hd hu
    have hl2 : n ≤ zs.length := by
      rw [hz]
      split
      · exact hl
      · exact Nat.le_refl _
    have h1 : (lits (H := H) k (zs.take n)).length + (lits (H := H) k (zs.drop n)).length = zs.length := by
      simp [lits]
      omega
    rw [h1] at z
    have h2 : zs.length * 1 ≤ zs.length * P.bytesOf e := Nat.mul_le_mul_left _ hB
    have h3 : reachBytes ≤ 140737488351232 := by decide
    omega
/-! ### tables -/
theorem tab_row {P : Program} {W : World} {name : String} {g n : Nat} {k : IntKind} {tab : Arr n} (h : 0 < n) (hT : Go.Lib.TabIs P W name k tab.toList) (hg : P.globalNamed name = some g) : RowL (CA k n h) W (some ⟨g, 0, none⟩) 1 1 [tab] := by
  unfold Go.Lib.TabIs World.var? at hT
  rw [hg] at hT
  simp only [Option.bind_some] at hT
  split at hT
  · rename_i cs T fz hh
    obtain rfl := Option.some.inj hT
    refine ⟨?_, ⟨Nat.le_refl _, fun h => by cases h⟩, .inr ⟨g, 0, _, T, fz, rfl, hh, fun j u hj => ?_⟩⟩
    · rw [encL_len]; rfl
    · rw [Nat.zero_add, List.getElem?_toArray]
      have : encL (CA k n h) [tab] = enc k tab ++ [] := rfl
      rw [this, List.append_nil] at hj
      exact hj
  · cases hT
end Go.Mx
