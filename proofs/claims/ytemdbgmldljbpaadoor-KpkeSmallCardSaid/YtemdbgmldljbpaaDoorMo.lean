/- Own library of this work (2): what single operations do to the blocks that a call owns. -/
import Derived.Test.YtemdbgmldljbpaaDoorMx
import Derived.Laws.Sem
import Derived.Laws.Entries
namespace Go.Mx
open Go.RowKit
section
variable {P : Program} {ops : Array Oper} {K Kn : Act → World → Prop} {a : Act} {w w' : World} {i : Nat} {w0 : World} {X : List Nat} {L R : List Ent}

theorem yld {v : Value} (h : ∀ w', (execAt ops i a).run P w' = .ok (.value v) w') : Yld P ops Any i a w v := fun w' _ => h w'

/-- pure operations, in short -/
theorem wpS.p {l : List Nat} (i : Nat) (t : Tmp) (v : Value) (h : (dstAt ops i, fun w' => (execAt ops i a).run P w') = (some t, fun w' => .ok (.value v) w')) (H : wpS P ops K l (a.put (some t) v) w) : wpS P ops K (i :: l) a w :=
  wpS.take i false (some t) v (Prod.mk.inj h).1 (yld fun w' => congrFun (Prod.mk.inj h).2 w') H
theorem wpG.p {ng : List Nat} {S : Nat → Prop} {fuel : Nat} {listed : Array Bool} (i : Nat) (t : Tmp) (v : Value) (hc : takeB ops ng listed i false (waitL ops i) = true) (h : (dstAt ops i, fun w' => (execAt ops i a).run P w') = (some t, fun w' => .ok (.value v) w'))
    (H : wpG P ops K ng S fuel (listed.setIfInBounds i true) (a.put (some t) v) w) : wpG P ops K ng S (fuel + 1) listed a w :=
  wpG.takeD i false (some t) v (Prod.mk.inj h).1 hc (yld fun w' => congrFun (Prod.mk.inj h).2 w') H
theorem wpS.q {l : List Nat} (i : Nat) (t : Tmp) (v : Value) (H : wpS P ops K l (a.put (some t) v) w) (h : (dstAt ops i, fun w' => (execAt ops i a).run P w') = (some t, fun w' => .ok (.value v) w') := by kernel_rfl) : wpS P ops K (i :: l) a w := wpS.p i t v h H
theorem wpG.q {ng : List Nat} {S : Nat → Prop} {fuel : Nat} {listed : Array Bool} (i : Nat) (t : Tmp) (v : Value) (H : wpG P ops K ng S fuel (listed.setIfInBounds i true) (a.put (some t) v) w) (hc : takeB ops ng listed i false (waitL ops i) = true := by kernel_rfl)
    (h : (dstAt ops i, fun w' => (execAt ops i a).run P w') = (some t, fun w' => .ok (.value v) w') := by kernel_rfl) : wpG P ops K ng S (fuel + 1) listed a w := wpG.p i t v hc h H

def puts : Act → List (Nat × Tmp × Value) → Act
  | a, [] => a
  | a, x :: l => puts (a.put (some x.2.1) x.2.2) l
def pureRun (P : Program) (ops : Array Oper) : Act → List (Nat × Tmp × Value) → List (Option Tmp × (World → Result Next))
  | _, [] => []
  | a, x :: l => (dstAt ops x.1, fun w' => (execAt ops x.1 a).run P w') :: pureRun P ops (a.put (some x.2.1) x.2.2) l
def pureTold : List (Nat × Tmp × Value) → List (Option Tmp × (World → Result Next))
  | [] => []
  | x :: l => (some x.2.1, fun w' => .ok (.value x.2.2) w') :: pureTold l
/-- several at once -/
theorem wpS.ps (l : List (Nat × Tmp × Value)) {a : Act} {r : List Nat} (h : pureRun P ops a l = pureTold l) (H : wpS P ops K r (puts a l) w) : wpS P ops K (l.map (·.1) ++ r) a w := by
  induction l generalizing a with
  | nil => exact H
  | cons x l ih => exact wpS.p x.1 x.2.1 x.2.2 (List.cons.inj h).1 (ih (List.cons.inj h).2 H)
theorem wpS.qs (l : List (Nat × Tmp × Value)) {a : Act} {r : List Nat} (H : wpS P ops K r (puts a l) w) (h : pureRun P ops a l = pureTold l := by kernel_rfl) : wpS P ops K (l.map (·.1) ++ r) a w := wpS.ps l h H
theorem rb {α β : Type} {s : Sem α} {f : α → Sem β} {x : α} (h : s.run P w = .ok x w') : (s >>= f).run P w = (f x).run P w' := by
  rw [Sem.run_bind, h]; rfl
theorem run_ti {t : TypeId} {x : TypeInfo} (h : P.toTables.info? t = some x) : (typeInfo t).run P w = .ok x w := by
  simp [typeInfo, h]
theorem run_nextV {s : Sem Value} {v : Value} (h : s.run P w = .ok v w') : (nextV s).run P w = .ok (.value v) w' := by
  unfold nextV
  rw [rb h]
  rfl
theorem run_nextU {s : Sem Unit} (h : s.run P w = .ok () w') : (nextU s).run P w = .ok .skip w' := by
  unfold nextU
  rw [rb h]
  rfl

/-! numbers that the tables tell -/
def szOf (P : Program) (t : TypeId) : Option Nat := (P.toTables.info? t).map (·.size)
def aggB (P : Program) (t : TypeId) : Option Bool := (P.underlying t).map fun | .struct _ => true | .array _ _ => true | _ => false

theorem run_sizeOf {t : TypeId} {n : Nat} (h : szOf P t = some n) : (sizeOf t).run P w = .ok n w := by
  unfold szOf at h
  cases hi : P.toTables.info? t with
  | none => rw [hi] at h; cases h
  | some x => rw [hi] at h; cases h; unfold sizeOf; rw [rb (run_ti hi)]; rfl
theorem run_isAgg {t : TypeId} {c : Bool} (h : aggB P t = some c) : (isAgg t).run P w = .ok c w := by
  unfold aggB at h
  cases hi : P.underlying t with
  | none => rw [hi] at h; cases h
  | some x => rw [hi] at h; cases h; unfold isAgg; rw [rb (run_underlying hi w)]; cases x <;> rfl

theorem add_plain (b o n : Nat) : (⟨b, o, none⟩ : Addr).add n = ⟨b, o + n, none⟩ := by
  unfold Addr.add
  split
  · rename_i h; subst h; rfl
  · rfl

/-! an element's address -/
theorem yld_idx {t e : TypeId} {n sz b o : Nat} {k : IntKind} {x : Int} (he : execAt ops i a = nextV (Instr.indexAt t (.pointer (some ⟨b, o, none⟩)) (.int k x)))
    (hu : P.underlying t = some (.array n e)) (hs : szOf P e = some sz) (h0 : 0 ≤ x) (h1 : x < n) : Yld P ops Any i a w (.pointer (some ⟨b, o + x.toNat * sz, none⟩)) := by
  intro w' _
  rw [he]
  refine run_nextV ?_
  unfold Instr.indexAt
  simp [asIntOf, run_underlying hu, Instr.sureAddr, run_sizeOf hs, h0, h1, add_plain]

theorem cell_of_blk {b o : Nat} {c : List Value} {t : TypeId} {v : Value} (h : w.heap[b]? = some (.cells c.toArray t (0, 0))) (hv : c[o]? = some v) : w.cell? ⟨b, o, none⟩ = some v := by
  unfold World.cell?
  simp [h, hv]

theorem run_load_blk {b o : Nat} {c : List Value} {t : TypeId} {v : Value} (h : w.heap[b]? = some (.cells c.toArray t (0, 0))) (hv : c[o]? = some v) : (load ⟨b, o, none⟩).run P w = .ok v w := by
  unfold load
  simp only [Sem.run, cell_of_blk h hv]
theorem run_loadCellsFrom {b o : Nat} {c : List Value} {t : TypeId} (h : w.heap[b]? = some (.cells c.toArray t (0, 0))) : ∀ (n j : Nat) (acc : Array Value), o + j + n ≤ c.length →
    (loadCellsFrom ⟨b, o, none⟩ j n acc).run P w = .ok (acc ++ ((c.drop (o + j)).take n).toArray) w := by
  intro n
  induction n with
  | zero => intro j acc _; simp [loadCellsFrom]
  | succ n ih =>
    intro j acc hl
    unfold loadCellsFrom
    have hlt : o + j < c.length := by omega
    rw [add_plain, rb (run_load_blk h (List.getElem?_eq_getElem hlt))]
    show (loadCellsFrom ⟨b, o, none⟩ (j + 1) n (acc.push c[o + j])).run P w = _
    rw [ih (j + 1) _ (by omega), List.drop_eq_getElem_cons hlt, List.take_succ_cons, ← Nat.add_assoc]
    simp
theorem run_loadVar1 {b o : Nat} {c : List Value} {t e : TypeId} {v : Value} (h : w.heap[b]? = some (.cells c.toArray t (0, 0))) (hg : aggB P e = some false) (hv : c[o]? = some v) :
    (loadVar e ⟨b, o, none⟩).run P w = .ok v w := by
  unfold loadVar
  rw [rb (run_isAgg hg)]
  exact run_load_blk h hv
theorem run_loadVarN {b o n : Nat} {c mid : List Value} {t e : TypeId} (h : w.heap[b]? = some (.cells c.toArray t (0, 0))) (hg : aggB P e = some true) (hn : szOf P e = some n)
    (hm : (c.drop o).take n = mid) (hl : mid.length = n) : (loadVar e ⟨b, o, none⟩).run P w = .ok (.agg mid.toArray) w := by
  have hle : o + n ≤ c.length ∨ n = 0 := by
    rw [← hm, List.length_take, List.length_drop] at hl
    omega
  unfold loadVar
  rw [rb (run_isAgg hg)]
  show ((do pure (.agg (← loadCells ⟨b, o, none⟩ (← sizeOf e))) : Sem Value)).run P w = _
  rw [rb (run_sizeOf hn)]
  refine (rb (x := mid.toArray) (w' := w) ?_).trans rfl
  unfold loadCells
  rcases hle with hle | hle
  · rw [run_loadCellsFrom h n 0 #[] (by omega), Nat.add_zero, hm]
    simp
  · subst hle
    obtain rfl : mid = [] := List.eq_nil_of_length_eq_zero hl
    simp [loadCellsFrom]

/-- what a load may bear: a block of L is still what it was -/
def Bears (ρ : World → World → Prop) (w : World) (b : Nat) : Prop := ∀ w' o, ρ w w' → w.heap[b]? = some o → w'.heap[b]? = some o
theorem Bears.grow {b : Nat} : Bears Grow w b := fun _ _ g h => g.keep (fun _ => False) _ _ (fun h => h) h
theorem Bears.keep {S : Nat → Prop} {b : Nat} (h : ¬ S b) : Bears (Keep S) w b := fun _ _ g h' => g _ _ h h'
theorem yld_load1 {ρ : World → World → Prop} (hs : St w0 X L R w) (j : Nat) {b o : Nat} {c : List Value} {t e : TypeId} {v : Value} (hj : L[j]? = some (.blk b c t)) (he : execAt ops i a = nextV (Instr.loadAt e (.pointer (some ⟨b, o, none⟩))))
    (hg : aggB P e = some false) (hv : c[o]? = some v) (hB : Bears ρ w b) : Yld P ops ρ i a w v := by
  intro w' g
  rw [he]
  refine run_nextV ?_
  exact run_loadVar1 (hB _ _ g (hs.blkAt j hj)) hg hv
theorem yld_loadN {ρ : World → World → Prop} (hs : St w0 X L R w) (j : Nat) {b o n : Nat} {c mid : List Value} {t e : TypeId} (hj : L[j]? = some (.blk b c t)) (he : execAt ops i a = nextV (Instr.loadAt e (.pointer (some ⟨b, o, none⟩))))
    (hg : aggB P e = some true) (hn : szOf P e = some n) (hm : (c.drop o).take n = mid) (hl : mid.length = n) (hB : Bears ρ w b) : Yld P ops ρ i a w (.agg mid.toArray) := by
  intro w' g
  rw [he]
  refine run_nextV ?_
  exact run_loadVarN (hB _ _ g (hs.blkAt j hj)) hg hn hm hl

/-! new blocks -/
theorem op_box {d : Option Tmp} (hd : dstAt ops i = d) {t : TypeId} {v : Value} (hs : St w0 X L R w) (c : List Value) (he : execAt ops i a = nextV (Instr.box t v)) (hc : v.cells = c.toArray)
    (k : ∀ b w', Grow w w' → St w0 X (.blk b c t :: L) R w' → K (a.put d (.pointer (some ⟨b, 0, none⟩))) w') : wpOp P ops (NoP Kn) i K a w := by
  refine wpOp_val hd (w' := { w with heap := w.heap.push (.cells c.toArray t) }) (v := .pointer (some ⟨w.heap.size, 0, none⟩)) ?_ (k _ _ (grow_new w _) (hs.new c t))
  rw [he]
  refine run_nextV ?_
  unfold Instr.box newVar newRow
  rw [hc]
  rfl
def zeroOf (P : Program) (t : TypeId) : Option Value := (P.toTables.info? t).bind (·.zero)
theorem run_zeroValue {t : TypeId} {z : Value} (h : zeroOf P t = some z) : (zeroValue t).run P w = .ok z w := by
  unfold zeroOf at h
  cases hi : P.toTables.info? t with
  | none => rw [hi] at h; cases h
  | some x =>
    rw [hi] at h
    unfold zeroValue
    rw [rb (run_ti hi)]
    simp only [Option.bind_some] at h
    simp [h]
theorem op_alloc {d : Option Tmp} (hd : dstAt ops i = d) {t : TypeId} (hs : St w0 X L R w) (c : List Value) (z : Value) (he : execAt ops i a = nextV (Instr.alloc t true (.tuple #[]))) (hz : zeroOf P t = some z) (hc : z.cells = c.toArray)
    (k : ∀ b w', Grow w w' → St w0 X (.blk b c t :: L) R w' → K (a.put d (.pointer (some ⟨b, 0, none⟩))) w') : wpOp P ops (NoP Kn) i K a w := by
  refine wpOp_val hd (w' := { w with heap := w.heap.push (.cells c.toArray t) }) (v := .pointer (some ⟨w.heap.size, 0, none⟩)) ?_ (k _ _ (grow_new w _) (hs.new c t))
  rw [he]
  refine run_nextV ?_
  unfold Instr.alloc
  rw [rb (run_zeroValue hz)]
  show ((do pure (.pointer (some (← newVar t z))) : Sem Value)).run P w = _
  unfold newVar newRow
  rw [hc]
  rfl

/-! stores -/
def splice (c : List Value) (o : Nat) (vs : List Value) : List Value := c.take o ++ vs ++ c.drop (o + vs.length)
theorem splice_one (c : List Value) (o : Nat) (v : Value) (h : o < c.length) : splice c o [v] = c.set o v := by
  unfold splice
  rw [List.set_eq_take_append_cons_drop, if_pos h]
  simp
theorem heap_setCell {b o : Nat} {c : List Value} {t : TypeId} {v : Value} (h : w.heap[b]? = some (.cells c.toArray t (0, 0))) :
    (w.setCell ⟨b, o, none⟩ v).heap[b]? = some (.cells (c.set o v).toArray t (0, 0)) := by
  unfold World.setCell
  simp [Array.getElem?_modify, h]
theorem run_store_blk {b o : Nat} {c : List Value} {t : TypeId} {v : Value} (h : w.heap[b]? = some (.cells c.toArray t (0, 0))) (ho : o < c.length) (hv : v.oneCell' = true) :
    (store ⟨b, o, none⟩ v).run P w = .ok () (w.setCell ⟨b, o, none⟩ v) := by
  have hc := cell_of_blk h (List.getElem?_eq_getElem ho)
  have hf : w.frozen? ⟨b, o, none⟩ = false := by unfold World.frozen?; simp [h]
  unfold store
  cases v <;> first | (simp [Sem.run, hc, hf]; done) | (simp [Value.oneCell'] at hv)
theorem run_storeCells {b o : Nat} {t : TypeId} : ∀ (vs : List Value) (j : Nat) (c : List Value) (w : World), w.heap[b]? = some (.cells c.toArray t (0, 0)) → o + j + vs.length ≤ c.length → (∀ v ∈ vs, v.oneCell' = true) →
    ∃ w', (storeCells ⟨b, o, none⟩ vs j).run P w = .ok () w' ∧ w'.heap[b]? = some (.cells (splice c (o + j) vs).toArray t (0, 0)) ∧ w'.os = w.os ∧ w'.tape = w.tape ∧ w'.output = w.output ∧ w'.heap.size = w.heap.size ∧ ∀ k, k ≠ b → w'.heap[k]? = w.heap[k]? := by
  intro vs
  induction vs with
  | nil => intro j c w h _ _; exact ⟨w, rfl, by simpa [splice] using h, rfl, rfl, rfl, rfl, fun _ _ => rfl⟩
  | cons v vs ih =>
    intro j c w h hl hone
    rw [List.length_cons] at hl
    have ho : o + j < c.length := by omega
    obtain ⟨w', hr, hb, h1, h2, h3, h4, h5⟩ := ih (j + 1) (c.set (o + j) v) (w.setCell ⟨b, o + j, none⟩ v) (heap_setCell h) (by rw [List.length_set]; omega) (fun u hu => hone u (List.mem_cons_of_mem _ hu))
    refine ⟨w', ?_, ?_, h1, h2, h3, ?_, fun k hk => (h5 k hk).trans (Below.heap_setCell _ _ _ _ hk)⟩
    · unfold storeCells
      rw [add_plain, rb (run_store_blk h ho (hone v (List.mem_cons_self ..)))]
      exact hr
    · rw [hb]
      congr 2
      unfold splice
      rw [← Nat.add_assoc, List.take_add_one, List.take_set, List.getElem?_set_self ho, List.drop_set_of_lt (by omega)]
      rw [show o + j + 1 + vs.length = o + j + (v :: vs).length from by simp; omega, List.set_eq_of_length_le (by simp; omega)]
      simp
    · rw [h4]; simp [World.setCell]

theorem op_storeN {d : Option Tmp} (hd : dstAt ops i = d) {t : TypeId} {v : Value} {b o : Nat} {c vs : List Value} {T : TypeId} (hs : St w0 X L R w) (j : Nat) (hj : L[j]? = some (.blk b c T)) (he : execAt ops i a = nextU (Instr.storeAt t (.pointer (some ⟨b, o, none⟩)) v))
    (hc : v.cells = vs.toArray) (hn : szOf P t = some vs.length) (hl : o + vs.length ≤ c.length) (hone : ∀ u ∈ vs, u.oneCell' = true)
    (k : ∀ w', Keep (fun k => k = b) w w' → St w0 X (L.set j (.blk b (splice c o vs) T)) R w' → K (a.put d undef) w') : wpOp P ops (NoP Kn) i K a w := by
  obtain ⟨w', hr, hb, h1, h2, h3, h4, h5⟩ := run_storeCells (P := P) (o := o) vs 0 c w (hs.blkAt j hj) (by omega) hone
  refine wpOp_skip hd (w' := w') ?_ (k w' (fun x o hx ho => (h5 x hx).trans ho) (hs.blkSet j hj h1 h2 h3 h4 hb h5))
  rw [he]
  refine run_nextU ?_
  unfold Instr.storeAt storeVar
  simp [Instr.sureAddr, run_sizeOf hn, hc, hr]
theorem op_store1 {d : Option Tmp} (hd : dstAt ops i = d) {t : TypeId} {v : Value} {b o : Nat} {c : List Value} {T : TypeId} (hs : St w0 X L R w) (j : Nat) (hj : L[j]? = some (.blk b c T)) (he : execAt ops i a = nextU (Instr.storeAt t (.pointer (some ⟨b, o, none⟩)) v))
    (hv : v.oneCell' = true) (hn : szOf P t = some 1) (hl : o < c.length)
    (k : ∀ w', Keep (fun k => k = b) w w' → St w0 X (L.set j (.blk b (c.set o v) T)) R w' → K (a.put d undef) w') : wpOp P ops (NoP Kn) i K a w := by
  have hc : v.cells = [v].toArray := by cases v <;> first | rfl | simp [Value.oneCell'] at hv
  refine op_storeN hd hs j hj he hc hn (by simp; omega) (fun u hu => by obtain rfl := List.mem_singleton.1 hu; exact hv) fun w' hk h => k w' hk ?_
  rw [splice_one _ _ _ hl] at h
  exact h
end
end Go.Mx
