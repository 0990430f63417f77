/- Own library of this work (8): lists of values of one shape as rows: codecs, elements, stores, make, literals, append, parts. -/
import Derived.Test.YtemdbgmldljbpaaDoorMs
set_option linter.unusedSimpArgs false
set_option linter.unusedVariables false
namespace Go.Mx
open Go.RowKit
/-- How a plain value stands in memory. -/
structure Cod (T : Type) where
  size : Nat
  agg : Bool
  val : T → Value
  cells : T → List Value
  zero : T
  pos : 0 < size
  len : ∀ x, (cells x).length = size
  one : ∀ x, ∀ v ∈ cells x, v.oneCell' = true
  vc : ∀ x, (val x).cells = (cells x).toArray
  sc : agg = false → ∀ x, cells x = [val x]
  ag : agg = true → ∀ x, val x = .agg (cells x).toArray
def CI (k : IntKind) : Cod Int where
  size := 1
  agg := false
  val := Value.int k
  cells := fun x => [.int k x]
  zero := 0
  pos := Nat.one_pos
  len := fun _ => rfl
  one := fun x v hv => by obtain rfl := List.mem_singleton.1 hv; rfl
  vc := fun _ => rfl
  sc := fun _ _ => rfl
  ag := fun h => by cases h
def CA (k : IntKind) (n : Nat) (h : 0 < n) : Cod (Arr n) where
  size := n
  agg := true
  val := fun x => .agg (enc k x).toArray
  cells := enc k
  zero := zeroA n
  pos := h
  len := enc_len k
  one := enc_one k
  vc := fun _ => rfl
  sc := fun h => by cases h
  ag := fun _ _ => rfl
section
variable {T : Type} (C : Cod T)
def encL (l : List T) : List Value := l.flatMap C.cells
def rdL (l : List T) (x : Int) : T := l.getD x.toNat C.zero
def wrL (l : List T) (x : Int) (v : T) : List T := l.set x.toNat v
/-- l[lo:hi] -/
def subL (l : List T) (lo hi : Int) : List T := (l.take hi.toNat).drop lo.toNat
theorem encL_nil : encL C [] = [] := rfl
theorem encL_cons (x : T) (l : List T) : encL C (x :: l) = C.cells x ++ encL C l := rfl
theorem encL_append (l m : List T) : encL C (l ++ m) = encL C l ++ encL C m := List.flatMap_append
theorem encL_len (l : List T) : (encL C l).length = l.length * C.size := by
  induction l with
  | nil => simp [encL_nil]
  | cons x l ih => rw [encL_cons, List.length_append, C.len, ih, List.length_cons, Nat.add_mul]; omega
theorem encL_one (l : List T) : ∀ v ∈ encL C l, v.oneCell' = true := by
  intro v hv
  obtain ⟨x, _, hx⟩ := List.mem_flatMap.1 hv
  exact C.one x v hx
theorem encL_split (l : List T) (m : Nat) (hm : m < l.length) : encL C l = encL C (l.take m) ++ (C.cells l[m] ++ encL C (l.drop (m + 1))) := by
  rw [← encL_cons, ← encL_append, List.getElem_cons_drop, List.take_append_drop]
theorem encL_take_len (l : List T) (m : Nat) (hm : m ≤ l.length) : (encL C (l.take m)).length = m * C.size := by
  rw [encL_len, List.length_take, Nat.min_eq_left hm]
theorem encL_get (l : List T) (m j : Nat) (hm : m < l.length) (hj : j < C.size) : (encL C l)[m * C.size + j]? = (C.cells l[m])[j]? := by
  rw [encL_split C l m hm, List.getElem?_append_right (by rw [encL_take_len C l m (by omega)]; omega), encL_take_len C l m (by omega), Nat.add_sub_cancel_left, List.getElem?_append_left (by rw [C.len]; exact hj)]
theorem encL_mid (l : List T) (m : Nat) (hm : m < l.length) : ((encL C l).drop (m * C.size)).take C.size = C.cells l[m] := by
  rw [encL_split C l m hm, List.drop_append_of_le_length (by rw [encL_take_len C l m (by omega)]; omega), List.drop_of_length_le (by rw [encL_take_len C l m (by omega)]; omega), List.nil_append, List.take_append_of_le_length (by rw [C.len]; omega), List.take_of_length_le (by rw [C.len]; omega)]
theorem splice_mid (p q r v : List Value) (n : Nat) (hn : p.length = n) (hv : v.length = q.length) : splice (p ++ (q ++ r)) n v = p ++ (v ++ r) := by
  subst hn
  unfold splice
  rw [List.take_append_of_le_length (Nat.le_refl _), List.take_length, List.append_assoc]
  congr 2
  rw [← List.append_assoc, hv, ← List.length_append, List.drop_left]
theorem mid_sub (p q r : List Value) (n m : Nat) (hn : p.length = n) (hm : n + q.length = m) : ((p ++ (q ++ r)).take m).drop n = q := by
  subst hn
  subst hm
  rw [← List.append_assoc, ← List.length_append, List.take_left, List.drop_left]
theorem encL_splice (l : List T) (rest : List Value) (m : Nat) (hm : m < l.length) (v : T) : splice (encL C l ++ rest) (m * C.size) (C.cells v) = encL C (l.set m v) ++ rest := by
  have h1 : (encL C (l.take m)).length = m * C.size := encL_take_len C l m (by omega)
  rw [List.set_eq_take_append_cons_drop, if_pos hm, encL_append, encL_cons, encL_split C l m hm, List.append_assoc, List.append_assoc, splice_mid _ _ _ _ _ h1 (by rw [C.len, C.len])]
  simp only [List.append_assoc]
theorem encL_sub (l : List T) (lo hi : Nat) (h : lo ≤ hi) (h2 : hi ≤ l.length) : encL C ((l.take hi).drop lo) = ((encL C l).take (hi * C.size)).drop (lo * C.size) := by
  have e : encL C l = encL C (l.take lo) ++ (encL C ((l.take hi).drop lo) ++ encL C (l.drop hi)) := by
    rw [← encL_append, ← encL_append]
    congr 1
    rw [show l.take lo = (l.take hi).take lo by rw [List.take_take, Nat.min_eq_left h], ← List.append_assoc, List.take_append_drop, List.take_append_drop]
  have h1 : (encL C (l.take lo)).length = lo * C.size := encL_take_len C l lo (by omega)
  have h3 : (encL C ((l.take hi).drop lo)).length = (hi - lo) * C.size := by rw [encL_len, List.length_drop, List.length_take, Nat.min_eq_left h2]
  have h4 : lo * C.size + (hi - lo) * C.size = hi * C.size := by rw [← Nat.add_mul]; congr 1; omega
  generalize encL C ((l.take hi).drop lo) = q at *
  rw [e, mid_sub _ _ _ _ _ h1 (by rw [h3]; exact h4)]
end
section
variable {T : Type} {C : Cod T} {P : Program} {ops : Array Oper} {K Kn : Act → World → Prop} {a : Act} {w w' : World} {i : Nat} {w0 : World} {X : List Nat} {L R : List Ent}
abbrev Ent.ownL (C : Cod T) (A : Option Addr) (n c : Nat) (l : List T) (e : Nat) : Ent := .own A n c (encL C l) e C.size
abbrev Ent.rowL (C : Cod T) (A : Option Addr) (n c : Nat) (l : List T) : Ent := .row A n c (encL C l) C.size
abbrev RowL (C : Cod T) (w : World) (A : Option Addr) (n c : Nat) (l : List T) : Prop := RowP w A n c (encL C l) C.size
theorem RowL.nil (w : World) : RowL C w none 0 0 [] := ⟨by simp [encL_nil], ⟨Nat.le_refl _, fun _ => rfl⟩, .inl rfl⟩
theorem RowL.length {A : Option Addr} {n c : Nat} {l : List T} (h : RowL C w A n c l) : n = l.length := by
  have h1 := h.1
  rw [encL_len] at h1
  exact (Nat.eq_of_mul_eq_mul_right C.pos h1).symm
theorem yld_lenL {A : Option Addr} {n c : Nat} {l : List T} (hr : RowL C w A n c l) (h : ∀ w', (execAt ops i a).run P w' = .ok (.value (.int .i64 (n : Int))) w') : Yld P ops Any i a w (.int .i64 (l.length : Int)) := by
  rw [← hr.length]
  exact yld h
/-! ### an element -/
theorem yld_idxL {t e n c : Nat} {A : Option Addr} {l : List T} {k : IntKind} {x : Int} (hr : RowL C w A n c l) (he : execAt ops i a = nextV (Instr.indexAt t (.slice A n c) (.int k x))) (hu : P.underlying t = some (.slice e)) (hs : szOf P e = some C.size)
    (h0 : 0 ≤ x) (h1 : x < l.length) : Yld P ops Any i a w (.pointer (adr A (x.toNat * C.size))) := yld_idxS hr he hu hs C.pos h0 (by rw [hr.length]; exact h1)
theorem rdL_get {l : List T} {x : Int} (h0 : 0 ≤ x) (h1 : x < l.length) : ∃ hm : x.toNat < l.length, rdL C l x = l[x.toNat] := by
  have hm : x.toNat < l.length := by omega
  exact ⟨hm, by simp [rdL, List.getD_eq_getElem?_getD, hm]⟩
theorem yld_loadL {e n c : Nat} {A : Option Addr} {l : List T} {x : Int} (hr : RowL C w A n c l) (he : execAt ops i a = nextV (Instr.loadAt e (.pointer (adr A (x.toNat * C.size))))) (hc : C.agg = false) (hg : aggB P e = some false)
    (h0 : 0 ≤ x) (h1 : x < l.length) : Yld P ops Grow i a w (C.val (rdL C l x)) := by
  obtain ⟨hm, e1⟩ := rdL_get (C := C) h0 h1
  rw [e1]
  refine yld_loadS hr he hg ?_
  have h := encL_get C l x.toNat 0 hm C.pos
  rw [Nat.add_zero] at h
  rw [h, C.sc hc]
  rfl
theorem run_loadCellsRow {b o : Nat} {cs : Array Value} {t : TypeId} {fz : Nat × Nat} {xs : List Value} (h : w.heap[b]? = some (.cells cs t fz)) (hc : ∀ (j : Nat) (u : Value), xs[j]? = some u → cs[o + j]? = some u) : ∀ (n m j : Nat) (acc : Array Value), m + j + n ≤ xs.length →
    (loadCellsFrom ⟨b, o + m, none⟩ j n acc).run P w = .ok (acc ++ ((xs.drop (m + j)).take n).toArray) w := by
  intro n
  induction n with
  | zero => intro m j acc _; simp [loadCellsFrom]
  | succ n ih =>
    intro m j acc hl
    unfold loadCellsFrom
    have hlt : m + j < xs.length := by omega
    have hcell : w.cell? ⟨b, o + m + j, none⟩ = some xs[m + j] := by
      have := hc (m + j) _ (List.getElem?_eq_getElem hlt)
      rw [← Nat.add_assoc] at this
      simp [World.cell?, h, this]
    have hld : (load ⟨b, o + m + j, none⟩).run P w = .ok xs[m + j] w := by
      unfold load
      simp only [Sem.run, hcell]
    rw [add_plain, rb hld]
    show (loadCellsFrom ⟨b, o + m, none⟩ (j + 1) n (acc.push xs[m + j])).run P w = _
    rw [ih m (j + 1) _ (by omega), List.drop_eq_getElem_cons hlt, List.take_succ_cons, ← Nat.add_assoc]
    simp
theorem yld_loadLA {e n c : Nat} {A : Option Addr} {l : List T} {x : Int} (hr : RowL C w A n c l) (he : execAt ops i a = nextV (Instr.loadAt e (.pointer (adr A (x.toNat * C.size))))) (hc : C.agg = true) (hg : aggB P e = some true) (hn : szOf P e = some C.size)
    (h0 : 0 ≤ x) (h1 : x < l.length) : Yld P ops Grow i a w (C.val (rdL C l x)) := by
  obtain ⟨hm, e1⟩ := rdL_get (C := C) h0 h1
  rw [e1]
  intro w' g
  rw [he]
  refine run_nextV ?_
  have hr' : RowP w' A n c (encL C l) C.size := (Ent.row A n c (encL C l) C.size).loc w w' (fun b hb => g.block b (hr.foot_lt b hb)) hr
  obtain ⟨hl, _, h3⟩ := hr'
  have hlen := encL_len C l
  have hle : x.toNat * C.size + C.size ≤ (encL C l).length := by
    rw [hlen]
    have : (x.toNat + 1) * C.size ≤ l.length * C.size := Nat.mul_le_mul_right _ hm
    rw [Nat.add_mul] at this
    omega
  rcases h3 with h3 | ⟨b, o, cs, T', fz, rfl, hh, hcc⟩
  · have := C.pos
    rw [h3] at hle
    simp at hle
    omega
  · show (Instr.loadAt e (.pointer (some ((⟨b, o, none⟩ : Addr).add (x.toNat * C.size))))).run P w' = _
    rw [add_plain]
    show (loadVar e ⟨b, o + x.toNat * C.size, none⟩).run P w' = _
    unfold loadVar
    rw [rb (run_isAgg hg)]
    show ((do pure (.agg (← loadCells ⟨b, o + x.toNat * C.size, none⟩ (← sizeOf e))) : Sem Value)).run P w' = _
    rw [rb (run_sizeOf hn), C.ag hc]
    refine (rb (x := (C.cells l[x.toNat]).toArray) (w' := w') ?_).trans rfl
    unfold loadCells
    rw [run_loadCellsRow hh hcc C.size _ 0 #[] (by omega), Nat.add_zero, encL_mid C l _ hm]
    simp
/-! ### stores -/
theorem St.openOwn (h : St w0 X L R w) (j : Nat) {A : Option Addr} {n c e size : Nat} {xs : List Value} (hj : L[j]? = some (.own A n c xs e size)) (hn : 0 < n) :
    ∃ g rest, A = some ⟨g, 0, Option.none⟩ ∧ n ≤ c ∧ c ≤ maxLen ∧ xs.length = n * size ∧ (xs ++ rest).length = c * size ∧ St w0 X (L.set j (.blk g (xs ++ rest) e)) R w := by
  have ho := h.ownAt j hj
  have hc0 : c ≠ 0 := by have := (RowP.of_own ho).2.1.1; omega
  have hlt : ∀ b, (Value.slice A n c).ownBlock = some b → b < w.heap.size ∧ _ := fun b hb => (h.own _ (List.mem_of_getElem? hj)).2 b (by show (Value.slice (nz A c) n c).ownBlock = _; rw [nz_pos hc0]; exact hb)
  rw [nz_pos hc0] at ho
  obtain ⟨hl, h2⟩ := ho
  rcases h2 with ⟨_, h0⟩ | ⟨g, cap, cur, hv, _, hh, hnc, hcm, hcs, ht⟩
  · omega
  · injection hv with e1 e2 e3
    subst e1 e3
    have hx : xs ++ cur.toList.drop (n * size) = cur.toList := by rw [← ht, List.take_append_drop]
    refine ⟨g, cur.toList.drop (n * size), rfl, hnc, hcm, hl, by rw [hx, Array.length_toList, hcs], ?_⟩
    refine h.entSet j hj rfl rfl rfl (Nat.le_refl _) (fun _ _ _ => rfl) ?_ fun b hb => ?_
    · rw [hx]
      exact hh
    · obtain rfl : b = g := hb
      exact ⟨(hlt b rfl).1, .inl (by show (Value.slice (nz _ c) n c).ownBlock = _; rw [nz_pos hc0]; rfl)⟩
theorem St.closeOwn (h : St w0 X L R w) (j : Nat) {g n c e size : Nat} {xs rest : List Value} (hj : L[j]? = some (.blk g (xs ++ rest) e)) (hnc : n ≤ c) (hcm : c ≤ maxLen) (hl : xs.length = n * size) (hs : (xs ++ rest).length = c * size) :
    St w0 X (L.set j (.own (some ⟨g, 0, Option.none⟩) n c xs e size)) R w := by
  have hb := h.blkAt j hj
  refine h.entSet j hj rfl rfl rfl (Nat.le_refl _) (fun _ _ _ => rfl) (own_nz ⟨hl, .inr ⟨g, c, _, rfl, Nat.zero_le _, hb, hnc, hcm, by simpa using hs, ?_⟩⟩) fun b hb => ?_
  · simp only [List.take_append_of_le_length (Nat.le_of_eq hl.symm)]
    exact List.take_of_length_le (Nat.le_of_eq hl)
  · obtain rfl : g = b := Option.some.inj (nz_foot hb)
    exact ⟨((h.own _ (List.mem_of_getElem? hj)).2 g rfl).1, .inl rfl⟩
theorem op_storeL {d : Option Tmp} (hd : dstAt ops i = d) {t n c e : Nat} {A : Option Addr} {l : List T} {x : Int} {v : T} (hs : St w0 X L R w) (j : Nat) (hj : L[j]? = some (.ownL C A n c l e)) (he : execAt ops i a = nextU (Instr.storeAt t (.pointer (adr A (x.toNat * C.size))) (C.val v)))
    (hn : szOf P t = some C.size) (h0 : 0 ≤ x) (h1 : x < l.length)
    (k : ∀ w', St w0 X (L.set j (.ownL C A n c (wrL l x v) e)) R w' → K (a.put d undef) w') : wpOp P ops (NoP Kn) i K a w := by
  have hm : x.toNat < l.length := by omega
  have hnl : n = l.length := RowL.length (hs.rowL j hj)
  obtain ⟨g, rest, rfl, hnc, hcm, hxl, hrl, hb⟩ := hs.openOwn j hj (by omega)
  have hjl : j < L.length := (List.getElem?_eq_some_iff.1 hj).1
  have hj' : (L.set j (.blk g (encL C l ++ rest) e))[j]? = some (.blk g (encL C l ++ rest) e) := by simp [hjl]
  have hle : x.toNat * C.size + C.size ≤ (encL C l).length := by
    rw [encL_len]
    have : (x.toNat + 1) * C.size ≤ l.length * C.size := Nat.mul_le_mul_right _ hm
    rw [Nat.add_mul] at this
    omega
  have ha : adr (some ⟨g, 0, none⟩) (x.toNat * C.size) = some ⟨g, x.toNat * C.size, none⟩ := by simp [adr, add_plain]
  rw [ha] at he
  refine op_storeN hd hb j hj' he (vs := C.cells v) (C.vc v) (by rw [C.len]; exact hn) (by rw [C.len, List.length_append]; omega) (C.one v) fun w' _ h => k w' ?_
  rw [List.set_set, encL_splice C l rest _ hm] at h
  have := h.closeOwn j (n := n) (c := c) (size := C.size) (xs := encL C (wrL l x v)) (rest := rest) (e := e) (g := g) (by simp [hjl, wrL]) hnc hcm (by rw [encL_len, hnl]; simp [wrL]) (by
    rw [List.length_append, encL_len] at hrl ⊢
    simpa [wrL] using hrl)
  rw [List.set_set] at this
  exact this
/-! ### make -/
theorem encL_rep (n : Nat) : (madeCells (C.val C.zero).cells (n * C.size)).toList = encL C (List.replicate n C.zero) := by
  have hp := C.pos
  have hz : (C.val C.zero).cells.size = C.size := by rw [C.vc, List.size_toArray, C.len]
  apply List.ext_getElem?
  intro j
  by_cases hj : j < n * C.size
  · have hd : j / C.size < n := Nat.div_lt_of_lt_mul (by rw [Nat.mul_comm]; exact hj)
    have h := encL_get C (List.replicate n C.zero) (j / C.size) (j % C.size) (by simpa using hd) (Nat.mod_lt _ hp)
    rw [Nat.mul_comm, Nat.div_add_mod] at h
    rw [h]
    have hm : j % C.size < (C.cells C.zero).length := by rw [C.len]; exact Nat.mod_lt _ hp
    simp [madeCells, hj, C.vc, C.len, List.getElem?_eq_getElem hm]
  · rw [List.getElem?_eq_none (by simp [madeCells]; omega), List.getElem?_eq_none (by rw [encL_len]; simp; omega)]
theorem op_makeL {d : Option Tmp} (hd : dstAt ops i = d) {t e bytes B : Nat} {ti : TypeInfo} {kl kc : IntKind} {x : Int} (hs : St w0 X L R w) (he : execAt ops i a = nextV (Instr.makeSlice t (.int kl x) (.int kc x))) (hu : P.underlying t = some (.slice e))
    (hi : P.toTables.info? e = some ti) (hz : ti.zero = some (C.val C.zero)) (hsize : ti.size = C.size) (hby : ti.bytes = bytes) (h0 : 0 ≤ x) (h1 : x ≤ B) (hb : bytes * B ≤ 140737488355328) (hB : B ≤ 140737488355328)
    (k : ∀ A n c w', Grow w w' → St w0 X (.ownL C A n c (List.replicate x.toNat C.zero) e :: L) R w' → K (a.put d (.slice A n c)) w') : wpOp P ops (NoP Kn) i K a w :=
  op_make hd hs he hu hi hz hsize hby h0 h1 hb hB (encL C (List.replicate x.toNat C.zero)) (encL_rep _) fun A c w' g h => k A _ c w' g h
/-! ### append -/
theorem op_appendL {d : Option Tmp} (hd : dstAt ops i = d) {t ty e bytes B n nx c cx : Nat} {ti : TypeInfo} {z : Value} {A Ax : Option Addr} {l m : List T} (hs : St w0 X L R w) (j : Nat) (hj : L[j]? = some (.ownL C A n c l e)) (hr : RowL C w Ax nx cx m)
    (he : execAt ops i a = nextV (Builtin.append_ #[t, t] ty #[.slice A n c, .slice Ax nx cx])) (hu : P.underlying t = some (.slice e)) (hi : P.toTables.info? e = some ti) (hz : ti.zero = some z) (hsize : ti.size = C.size) (hby : ti.bytes = bytes) (hzs : z.cells.size = C.size)
    (hlen : l.length + m.length ≤ B) (hb : bytes * B ≤ 140737488355328) (hB : B ≤ 140737488355328)
    (k : ∀ A' n' c' w', St w0 X (L.set j (.ownL C A' n' c' (l ++ m) e)) R w' → K (a.put d (.slice A' n' c')) w') : wpOp P ops (NoP Kn) i K a w := by
  have h1 : n = l.length := RowL.length (hs.rowL j hj)
  have h2 := hr.length
  refine op_append hd hs j hj hr he hu hi hz hsize hby hzs C.pos (encL_one C m) (by omega) hb hB fun A' c' w' h => k A' _ c' w' ?_
  rw [← encL_append] at h
  exact h
/-! ### make with room, literals -/
theorem op_makeL0 {d : Option Tmp} (hd : dstAt ops i = d) {t e bytes B : Nat} {ti : TypeInfo} {kl kc : IntKind} {x : Int} (hs : St w0 X L R w) (he : execAt ops i a = nextV (Instr.makeSlice t (.int kl 0) (.int kc x))) (hu : P.underlying t = some (.slice e))
    (hi : P.toTables.info? e = some ti) (hz : ti.zero = some (C.val C.zero)) (hsize : ti.size = C.size) (hby : ti.bytes = bytes) (h0 : 0 ≤ x) (h1 : x ≤ B) (hb : bytes * B ≤ 140737488355328) (hB : B ≤ 140737488355328)
    (k : ∀ A n c w', Grow w w' → St w0 X (.ownL C A n c ([] : List T) e :: L) R w' → K (a.put d (.slice A n c)) w') : wpOp P ops (NoP Kn) i K a w := by
  obtain ⟨m, rfl⟩ := Int.eq_ofNat_of_zero_le h0
  have hm : m ≤ B := by omega
  have hbm : ti.bytes * m ≤ 281474976710656 := by
    rw [hby]
    have := Nat.mul_le_mul_left bytes hm
    omega
  obtain ⟨w', hr, ho, hg⟩ := run_make_own (P := P) w w.heap.size t e ti _ C.size hu hi hz hsize kl kc m hbm (by unfold maxLen; omega) (Nat.le_refl _)
  refine wpOp_val hd (w' := w') (v := .slice (some ⟨w.heap.size, 0, none⟩) 0 m) ?_ (k _ _ _ w' ⟨hg.os, hg.tape, hg.output, hg.size, fun q hq => hg.block q hq (by simp)⟩ (hs.ownNew rfl ho hg))
  rw [he]
  exact run_nextV hr
theorem op_lit {d : Option Tmp} (hd : dstAt ops i = d) {t e len : Nat} {z : Value} {parts : Array (Nat × Value)} (l : List T) (hs : St w0 X L R w) (he : execAt ops i a = nextV (Instr.buildSlice t len parts)) (hu : P.underlying t = some (.slice e)) (hsz : szOf P e = some C.size)
    (hz : zeroOf P e = some z) (hl : l.length = len) (hlen : 0 < len) (hbig : len * C.size ≤ 16777216) (hf : Instr.fill (fun i => some (i * C.size, C.size)) ((Array.range (len * C.size)).map (z.cells[· % z.cells.size]!)) parts.toList = some (encL C l).toArray)
    (k : ∀ A n c w', Grow w w' → St w0 X (.ownL C A n c l e :: L) R w' → K (a.put d (.slice A n c)) w') : wpOp P ops (NoP Kn) i K a w := by
  subst hl
  have hpos : ¬ l.length * C.size = 0 := by
    have := Nat.mul_pos hlen C.pos
    omega
  have ho : ({ w with heap := w.heap.push (.cells (encL C l).toArray e) } : World).ownsRow w.heap.size e C.size (.slice (some ⟨w.heap.size, 0, none⟩) l.length l.length) l.length (encL C l) := by
    refine ⟨encL_len C l, .inr ⟨w.heap.size, l.length, (encL C l).toArray, rfl, Nat.le_refl _, by simp, Nat.le_refl _, ?_, by simp [encL_len], ?_⟩⟩
    · have := C.pos
      have h2 : l.length * 1 ≤ l.length * C.size := Nat.mul_le_mul_left _ this
      unfold maxLen
      omega
    · rw [← encL_len C l]
      simp
  have hg : w.grownBy { w with heap := w.heap.push (.cells (encL C l).toArray e) } none := ⟨rfl, rfl, rfl, by simp, fun q hq _ => by show (w.heap.push _)[q]? = _; rw [Array.getElem?_push, if_neg (by omega)]⟩
  refine wpOp_val hd (w' := { w with heap := w.heap.push (.cells (encL C l).toArray e) }) (v := .slice (some ⟨w.heap.size, 0, none⟩) l.length l.length) ?_ (k _ _ _ _ (grow_new w _) (hs.ownNew rfl ho hg))
  rw [he]
  refine run_nextV ?_
  unfold Instr.buildSlice
  have hb2 : ¬ l.length * C.size > 2 ^ 24 := by omega
  simp only [run_underlying hu, Sem.run_bind, Result.andThen, run_sizeOf hsz, if_neg hb2, if_neg hpos, run_zeroValue hz, Sem.run_pure, hf]
  rfl
/-! ### parts of a row -/
theorem sub_nil {α : Type} (l : List α) (n m : Nat) (h : m ≤ n) : (l.take m).drop n = [] := List.drop_of_length_le (by rw [List.length_take]; omega)
theorem RowP.sub {A A' : Option Addr} {n c c' size lo hi : Nat} {xs : List Value} (hr : RowP w A n c xs size) (h : lo ≤ hi) (h2 : hi ≤ n) (hA : A' = if c = lo then A else adr A (lo * size)) (hc : c' = c - lo) :
    RowP w A' (hi - lo) c' ((xs.take (hi * size)).drop (lo * size)) size := by
  obtain ⟨hl, ⟨hnc, hn0⟩, h3⟩ := hr
  have hm : hi * size ≤ n * size := Nat.mul_le_mul_right _ h2
  have hlen : ((xs.take (hi * size)).drop (lo * size)).length = (hi - lo) * size := by
    rw [List.length_drop, List.length_take, Nat.min_eq_left (by omega), Nat.sub_mul]
  refine ⟨hlen, ⟨by omega, fun h' => ?_⟩, ?_⟩
  · subst hc
    have : A = none := by
      rw [hA] at h'
      split at h'
      · exact h'
      · unfold adr at h'
        exact Option.map_eq_none_iff.1 h'
    have := hn0 this
    omega
  · by_cases hcl : c = lo
    · left
      have : hi = lo := by omega
      subst this
      exact sub_nil _ _ _ (Nat.le_refl _)
    · rw [if_neg hcl] at hA
      rcases h3 with rfl | ⟨b, o, cs, T', fz, rfl, hh, hcc⟩
      · left; simp
      · right
        refine ⟨b, o + lo * size, cs, T', fz, ?_, hh, fun j u hj => ?_⟩
        · rw [hA]; simp [adr, add_plain]
        · rw [List.getElem?_drop, List.getElem?_take] at hj
          split at hj
          · rw [Nat.add_assoc]; exact hcc _ _ hj
          · cases hj
theorem subL_len {l : List T} {lo hi : Int} (h1 : lo ≤ hi) (h2 : hi ≤ l.length) (h0 : 0 ≤ lo) : (subL l lo hi).length = hi.toNat - lo.toNat := by
  unfold subL
  rw [List.length_drop, List.length_take, Nat.min_eq_left (by omega)]
theorem RowL.sub {A A' : Option Addr} {n n' c c' : Nat} {l : List T} {lo hi : Int} (hr : RowL C w A n c l) (h0 : 0 ≤ lo) (h1 : lo ≤ hi) (h2 : hi ≤ l.length) (hA : A' = if c = lo.toNat then A else adr A (lo.toNat * C.size)) (hn : n' = hi.toNat - lo.toNat) (hc : c' = c - lo.toNat) :
    RowL C w A' n' c' (subL l lo hi) := by
  have hnl := hr.length
  have h := RowP.sub (lo := lo.toNat) (hi := hi.toNat) hr (by omega) (by omega) hA hc
  rw [← encL_sub C l _ _ (by omega) (by omega), ← hn] at h
  exact h
theorem run_bound {k : IntKind} {x : Int} {y : Nat} {code : BoundsCode} (h0 : 0 ≤ x) (h1 : x ≤ y) : (Instr.sliceBound (.int k x) y code).run P w = .ok x.toNat w := by
  unfold Instr.sliceBound
  simp [asIntOf, h0, h1]
theorem St.addRow (h : St w0 X L R w) {A : Option Addr} {n c size : Nat} {xs : List Value} (hr : RowP w A n c xs size) (hf : ∀ e ∈ L, ∀ b, (Ent.row A n c xs size).foot b → ¬ e.foot b) : St w0 X L (.row A n c xs size :: R) w := by
  refine ⟨h.os, h.tape, h.output, h.size, h.block, h.own, h.apart, fun e he => ?_⟩
  rcases List.mem_cons.1 he with rfl | he
  · exact ⟨hr, fun b hb => ⟨hr.foot_lt b hb, fun e' he' => hf e' he' b hb⟩⟩
  · exact h.read e he
/-- A part of a row that is read is read, too. -/
theorem St.addSub (h : St w0 X L R w) (j : Nat) {A A' : Option Addr} {n n' c c' : Nat} {l : List T} {lo hi : Int} (hj : R[j]? = some (.rowL C A n c l)) (h0 : 0 ≤ lo) (h1 : lo ≤ hi) (h2 : hi ≤ l.length) (hA : A' = if c = lo.toNat then A else adr A (lo.toNat * C.size)) (hn : n' = hi.toNat - lo.toNat) (hc : c' = c - lo.toNat) :
    St w0 X L (.rowL C A' n' c' (subL l lo hi) :: R) w := by
  have hr := h.rowR j hj
  refine h.addRow (RowL.sub hr h0 h1 h2 hA hn hc) fun e he b hb => ?_
  refine ((h.read _ (List.mem_of_getElem? hj)).2 b ?_).2 e he
  obtain ⟨hne, a, ha, rfl⟩ := hb
  refine ⟨fun hx => hne ?_, ?_⟩
  · have hl : l.length = 0 := by
      have h4 := encL_len C l
      rw [hx] at h4
      have := C.pos
      rcases Nat.eq_zero_or_pos l.length with h5 | h5
      · exact h5
      · have := Nat.mul_pos h5 this
        simp at h4
        omega
    have : l = [] := List.eq_nil_of_length_eq_zero hl
    subst this
    simp [subL, encL]
  · rw [hA] at ha
    split at ha
    · exact ⟨a, ha, rfl⟩
    · obtain ⟨a0, h5, h6⟩ := Option.map_eq_some_iff.1 ha
      refine ⟨a0, h5, ?_⟩
      rcases hr.2.2 with h7 | ⟨b, o, cs, T', fz, h8, _⟩
      · exfalso
        refine hne ?_
        have hl : l.length = 0 := by
          have h4 := encL_len C l
          rw [h7] at h4
          have := C.pos
          rcases Nat.eq_zero_or_pos l.length with h9 | h9
          · exact h9
          · have := Nat.mul_pos h9 this
            simp at h4
            omega
        have : l = [] := List.eq_nil_of_length_eq_zero hl
        subst this
        simp [subL, encL]
      · rw [h8] at h5
        obtain rfl := Option.some.inj h5
        rw [← h6, add_plain]
theorem run_bounds {low high : Option Value} {lo hi : Int} {n c : Nat} (hlo : (low = none ∧ lo = 0) ∨ ∃ k, low = some (.int k lo)) (hhi : (high = none ∧ hi = n) ∨ ∃ k, high = some (.int k hi)) (h0 : 0 ≤ lo) (h1 : lo ≤ hi) (h2 : hi ≤ n) (hc : n ≤ c) :
    (Instr.sliceBounds true n c low high none).run P w = .ok (lo.toNat, hi.toNat, c) w := by
  unfold Instr.sliceBounds
  have b1 : ∀ k code, (Instr.sliceBound (.int k hi) c code).run P w = .ok hi.toNat w := fun k code => run_bound (by omega) (by omega)
  have b2 : ∀ k code, (Instr.sliceBound (.int k lo) hi.toNat code).run P w = .ok lo.toNat w := fun k code => run_bound h0 (by omega)
  rcases hlo with ⟨rfl, rfl⟩ | ⟨k1, rfl⟩ <;> rcases hhi with ⟨rfl, rfl⟩ | ⟨k2, rfl⟩
  · simp [Sem.run_bind, Result.andThen]
  · simp [Sem.run_bind, Result.andThen, b1]
  · have b3 : ∀ code, (Instr.sliceBound (.int k1 lo) n code).run P w = .ok lo.toNat w := fun code => run_bound h0 (by omega)
    simp [Sem.run_bind, Result.andThen, b3]
  · simp [Sem.run_bind, Result.andThen, b1, b2]
theorem yld_sub {t e n n' c c' : Nat} {A A' : Option Addr} {l : List T} {low high : Option Value} {lo hi : Int} (hr : RowL C w A n c l) (he : execAt ops i a = nextV (Instr.sliceAt t (.slice A n c) low high none)) (hu : P.underlying t = some (.slice e)) (hs : szOf P e = some C.size)
    (hlo : (low = none ∧ lo = 0) ∨ ∃ k, low = some (.int k lo)) (hhi : (high = none ∧ hi = (l.length : Int)) ∨ ∃ k, high = some (.int k hi)) (h0 : 0 ≤ lo) (h1 : lo ≤ hi) (h2 : hi ≤ l.length)
    (hA : A' = if c = lo.toNat then A else adr A (lo.toNat * C.size)) (hn : n' = hi.toNat - lo.toNat) (hc : c' = c - lo.toNat) : Yld P ops Any i a w (.slice A' n' c') := by
  refine yld fun w' => ?_
  rw [he]
  refine run_nextV ?_
  have hnl := hr.length
  rw [← hnl] at hhi h2
  unfold Instr.sliceAt
  simp only [run_underlying hu, Sem.run_bind, Result.andThen]
  unfold Instr.slice
  simp only [run_underlying hu, Sem.run_bind, Result.andThen, run_bounds hlo hhi h0 h1 h2 hr.2.1.1, run_sizeOf hs, Sem.run_pure, hA, hn, hc]
  rfl
/-! ### calls, and what is read -/
theorem op_callH {d : Option Tmp} {H : Type} (hd : dstAt ops i = d) {f : FuncId} {args : Array Value} {v : H → Value} {L1 : H → List Ent} (hs : St w0 X L R w) (he : ∀ w, (execAt ops i a).run P w = .ok (.enter f args) w)
    (c : Calls P f args w fun e w' => ∃ h : H, e = .returned (v h) ∧ St w [] (L1 h) [] w') (k : ∀ h w', Grow w w' → St w0 X (L1 h ++ L) R w' → K (a.put d (v h)) w') : wpOp P ops (NoP Kn) i K a w :=
  wpOp_call hd he c fun _ w' ⟨h, h1, h2⟩ => ⟨v h, h1, k h w' h2.grow (hs.grown h2)⟩
theorem St.pickR {R' : List Ent} (h : St w0 X L R w) (hm : ∀ e ∈ R', e ∈ R) : St w0 X L R' w :=
  ⟨h.os, h.tape, h.output, h.size, h.block, h.own, h.apart, fun e he => h.read e (hm e he)⟩
theorem pick_nil {R : List Ent} : ∀ e ∈ ([] : List Ent), e ∈ R := fun _ h => (by cases h)
theorem pick_cons {R R' : List Ent} {e : Ent} (j : Nat) (hj : R[j]? = some e) (ht : ∀ e ∈ R', e ∈ R) : ∀ e' ∈ e :: R', e' ∈ R := fun e' he => by
  rcases List.mem_cons.1 he with rfl | he
  · exact List.mem_of_getElem? hj
  · exact ht e' he
theorem St.addNilL (h : St w0 X L R w) (C : Cod T) (e : Nat) : St w0 X (.ownL C Option.none 0 0 ([] : List T) e :: L) R w := h.addNil e C.size
/-! ### the same, asked by numbers -/
def byOf (P : Program) (t : TypeId) : Option Nat := (P.toTables.info? t).map (·.bytes)
theorem info_of {t size bytes : Nat} {z : Value} (h1 : szOf P t = some size) (h2 : zeroOf P t = some z) (h3 : byOf P t = some bytes) : ∃ ti, P.toTables.info? t = some ti ∧ ti.zero = some z ∧ ti.size = size ∧ ti.bytes = bytes := by
  unfold szOf at h1
  unfold zeroOf at h2
  unfold byOf at h3
  cases h : P.toTables.info? t with
  | none => rw [h] at h3; cases h3
  | some ti =>
    rw [h] at h1 h2 h3
    exact ⟨ti, rfl, by simpa using h2, by simpa using h1, by simpa using h3⟩
theorem op_makeT {d : Option Tmp} (hd : dstAt ops i = d) {t e bytes B : Nat} {kl kc : IntKind} {x : Int} (hs : St w0 X L R w) (he : execAt ops i a = nextV (Instr.makeSlice t (.int kl x) (.int kc x))) (hu : P.underlying t = some (.slice e))
    (q1 : szOf P e = some C.size) (q2 : zeroOf P e = some (C.val C.zero)) (q3 : byOf P e = some bytes) (h0 : 0 ≤ x) (h1 : x ≤ B) (hb : bytes * B ≤ 140737488355328) (hB : B ≤ 140737488355328)
    (k : ∀ A n c w', Grow w w' → St w0 X (.ownL C A n c (List.replicate x.toNat C.zero) e :: L) R w' → K (a.put d (.slice A n c)) w') : wpOp P ops (NoP Kn) i K a w := by
  obtain ⟨ti, i1, i2, i3, i4⟩ := info_of q1 q2 q3
  exact op_makeL hd hs he hu i1 i2 i3 i4 h0 h1 hb hB k
theorem op_makeT0 {d : Option Tmp} (hd : dstAt ops i = d) {t e bytes B : Nat} {kl kc : IntKind} {x : Int} (hs : St w0 X L R w) (he : execAt ops i a = nextV (Instr.makeSlice t (.int kl 0) (.int kc x))) (hu : P.underlying t = some (.slice e))
    (q1 : szOf P e = some C.size) (q2 : zeroOf P e = some (C.val C.zero)) (q3 : byOf P e = some bytes) (h0 : 0 ≤ x) (h1 : x ≤ B) (hb : bytes * B ≤ 140737488355328) (hB : B ≤ 140737488355328)
    (k : ∀ A n c w', Grow w w' → St w0 X (.ownL C A n c ([] : List T) e :: L) R w' → K (a.put d (.slice A n c)) w') : wpOp P ops (NoP Kn) i K a w := by
  obtain ⟨ti, i1, i2, i3, i4⟩ := info_of q1 q2 q3
  exact op_makeL0 hd hs he hu i1 i2 i3 i4 h0 h1 hb hB k
theorem op_appendT {d : Option Tmp} (hd : dstAt ops i = d) {t ty e bytes B n nx c cx : Nat} {A Ax : Option Addr} {l m : List T} (hs : St w0 X L R w) (j : Nat) (hj : L[j]? = some (.ownL C A n c l e)) (hr : RowL C w Ax nx cx m)
    (he : execAt ops i a = nextV (Builtin.append_ #[t, t] ty #[.slice A n c, .slice Ax nx cx])) (hu : P.underlying t = some (.slice e)) (q1 : szOf P e = some C.size) (q2 : zeroOf P e = some (C.val C.zero)) (q3 : byOf P e = some bytes)
    (hlen : l.length + m.length ≤ B) (hb : bytes * B ≤ 140737488355328) (hB : B ≤ 140737488355328)
    (k : ∀ A' n' c' w', St w0 X (L.set j (.ownL C A' n' c' (l ++ m) e)) R w' → K (a.put d (.slice A' n' c')) w') : wpOp P ops (NoP Kn) i K a w := by
  obtain ⟨ti, i1, i2, i3, i4⟩ := info_of q1 q2 q3
  exact op_appendL hd hs j hj hr he hu i1 i2 i3 i4 (by rw [C.vc, List.size_toArray, C.len]) hlen hb hB k
end
end Go.Mx
