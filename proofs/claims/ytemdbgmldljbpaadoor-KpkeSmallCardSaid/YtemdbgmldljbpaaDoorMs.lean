/- Own library of this work (6): slices: rows that the call made (own), rows that are only read (row). -/
import Derived.Test.YtemdbgmldljbpaaDoorMc
import Derived.Laws.AppendOwn
import Derived.Laws.MakeOwn
import Derived.Laws.OwnMore
set_option linter.unusedSimpArgs false
set_option linter.unusedVariables false
namespace Go.Mx
open Go.RowKit
/-! ### entries -/
theorem own_loc {w w' : World} {base e size n : Nat} {v : Value} {xs : List Value} (h : w.ownsRow base e size v n xs) (hb : ∀ b, v.ownBlock = some b → w'.heap[b]? = w.heap[b]?) : w'.ownsRow base e size v n xs := by
  refine ⟨h.1, ?_⟩
  rcases h.2 with hn | ⟨g, cap, cur, rfl, hg, hh, rest⟩
  · exact .inl hn
  · exact .inr ⟨g, cap, cur, rfl, hg, by rw [hb g rfl]; exact hh, rest⟩
/-- where a row without room lies does not count -/
def nz (A : Option Addr) (c : Nat) : Option Addr := if c = 0 then none else A
theorem nz_pos {A : Option Addr} {c : Nat} (h : c ≠ 0) : nz A c = A := if_neg h
theorem nz_foot {A : Option Addr} {n c b : Nat} (h : (Value.slice (nz A c) n c).ownBlock = some b) : (Value.slice A n c).ownBlock = some b := by
  by_cases hc : c = 0
  · subst hc; cases h
  · rw [nz_pos hc] at h; exact h
theorem own_nz {w : World} {A : Option Addr} {n c base e size : Nat} {xs : List Value} (h : w.ownsRow base e size (.slice A n c) n xs) : w.ownsRow base e size (.slice (nz A c) n c) n xs := by
  by_cases hc : c = 0
  · subst hc
    refine ⟨h.1, .inl ?_⟩
    rcases h.2 with ⟨hv, hn⟩ | ⟨g, cap, cur, hv, _, _, hnc, _⟩
    · subst hn; exact ⟨rfl, rfl⟩
    · cases hv
      obtain rfl : n = 0 := by omega
      exact ⟨rfl, rfl⟩
  · rw [nz_pos hc]; exact h
/-- A row that the call owns: slice (A, n, c) of elements of type e, 'size' cells each, that read xs. -/
def Ent.own (A : Option Addr) (n c : Nat) (xs : List Value) (e size : Nat) : Ent where
  foot := fun k => (Value.slice (nz A c) n c).ownBlock = some k
  p := fun w => w.ownsRow 0 e size (.slice (nz A c) n c) n xs
  loc := fun _ _ h hp => own_loc hp h
/-- What is read of a slice (A, n, c): xs. -/
def RowP (w : World) (A : Option Addr) (n c : Nat) (xs : List Value) (size : Nat) : Prop :=
  xs.length = n * size ∧ (n ≤ c ∧ (A = none → c = 0)) ∧ (xs = [] ∨ ∃ b o cs T fz, A = some ⟨b, o, none⟩ ∧ w.heap[b]? = some (.cells cs T fz) ∧ ∀ (j : Nat) (u : Value), xs[j]? = some u → cs[o + j]? = some u)
def Ent.row (A : Option Addr) (n c : Nat) (xs : List Value) (size : Nat) : Ent where
  foot := fun k => xs ≠ [] ∧ ∃ a, A = some a ∧ a.block = k
  p := fun w => RowP w A n c xs size
  loc := fun w w' h hp => by
    obtain ⟨h1, h2, h3⟩ := hp
    refine ⟨h1, h2, ?_⟩
    by_cases hx : xs = []
    · exact .inl hx
    · rcases h3 with h3 | ⟨b, o, cs, T, fz, rfl, hh, hc⟩
      · exact .inl h3
      · exact .inr ⟨b, o, cs, T, fz, rfl, by rw [h b ⟨hx, _, rfl, rfl⟩]; exact hh, hc⟩
theorem RowP.foot_lt {w : World} {A : Option Addr} {n c size : Nat} {xs : List Value} (h : RowP w A n c xs size) : ∀ b, (Ent.row A n c xs size).foot b → b < w.heap.size := by
  rintro b ⟨hx, a, ha, rfl⟩
  rcases h.2.2 with h3 | ⟨b', o, cs, T, fz, rfl, hh, _⟩
  · exact absurd h3 hx
  · obtain rfl := Option.some.inj ha
    exact (Array.getElem?_eq_some_iff.1 hh).1
section
variable {P : Program} {ops : Array Oper} {K Kn : Act → World → Prop} {a : Act} {w w' : World} {i : Nat} {w0 : World} {X : List Nat} {L R : List Ent}

theorem St.startR {w : World} {R : List Ent} (h : ∀ e ∈ R, e.p w ∧ ∀ b, e.foot b → b < w.heap.size) : St w [] [] R w :=
  ⟨rfl, rfl, rfl, Nat.le_refl _, fun _ _ _ => rfl, fun _ h => (by cases h), .nil, fun e he => ⟨(h e he).1, fun b hb => ⟨(h e he).2 b hb, fun _ h => (by cases h)⟩⟩⟩
theorem RowP.ent {A : Option Addr} {n c size : Nat} {xs : List Value} (h : RowP w A n c xs size) : (Ent.row A n c xs size).p w ∧ ∀ b, (Ent.row A n c xs size).foot b → b < w.heap.size := ⟨h, h.foot_lt⟩
theorem all_nil {w : World} : ∀ e ∈ ([] : List Ent), e.p w ∧ ∀ b, e.foot b → b < w.heap.size := fun _ h => (by cases h)
theorem all_cons {w : World} {e : Ent} {R : List Ent} (h : e.p w ∧ ∀ b, e.foot b → b < w.heap.size) (hr : ∀ e ∈ R, e.p w ∧ ∀ b, e.foot b → b < w.heap.size) : ∀ e' ∈ e :: R, e'.p w ∧ ∀ b, e'.foot b → b < w.heap.size := by
  intro e' he'
  rcases List.mem_cons.1 he' with rfl | he'
  · exact h
  · exact hr e' he'
theorem St.rowR (h : St w0 X L R w) (j : Nat) {A : Option Addr} {n c size : Nat} {xs : List Value} (hj : R[j]? = some (.row A n c xs size)) : RowP w A n c xs size := (h.read _ (List.mem_of_getElem? hj)).1
theorem RowP.of_own {A : Option Addr} {n c e size : Nat} {xs : List Value} (h : w.ownsRow 0 e size (.slice (nz A c) n c) n xs) : RowP w A n c xs size := by
  by_cases hc : c = 0
  · subst hc
    have h0 : n = 0 := by
      rcases h.2 with ⟨_, hn⟩ | ⟨g, cap, cur, hv, _⟩
      · exact hn
      · cases hv
    subst h0
    exact ⟨h.1, ⟨Nat.le_refl _, fun _ => rfl⟩, .inl (List.eq_nil_of_length_eq_zero (by rw [h.1, Nat.zero_mul]))⟩
  rw [nz_pos hc] at h
  refine ⟨h.1, ?_, ?_⟩
  · rcases h.2 with ⟨hv, _⟩ | ⟨g, cap, cur, hv, _, _, hn, _⟩
    · cases hv; exact ⟨Nat.le_refl _, fun _ => rfl⟩
    · cases hv; exact ⟨hn, fun h => by cases h⟩
  · rcases h.2 with ⟨hv, hn⟩ | ⟨g, cap, cur, hv, _, hh, hn, _, hs, ht⟩
    · refine .inl (List.eq_nil_of_length_eq_zero ?_)
      rw [h.1, hn, Nat.zero_mul]
    · cases hv
      refine .inr ⟨g, 0, cur, e, (0, 0), rfl, hh, fun j u hj => ?_⟩
      rw [Nat.zero_add, ← Array.getElem?_toList]
      rw [← ht, List.getElem?_take] at hj
      split at hj
      · exact hj
      · cases hj
theorem St.rowL (h : St w0 X L R w) (j : Nat) {A : Option Addr} {n c e size : Nat} {xs : List Value} (hj : L[j]? = some (.own A n c xs e size)) : RowP w A n c xs size := RowP.of_own (h.own _ (List.mem_of_getElem? hj)).1
theorem St.ownAt (h : St w0 X L R w) (j : Nat) {A : Option Addr} {n c e size : Nat} {xs : List Value} (hj : L[j]? = some (.own A n c xs e size)) : w.ownsRow 0 e size (.slice (nz A c) n c) n xs := (h.own _ (List.mem_of_getElem? hj)).1
theorem own_foot {A : Option Addr} {n c e size : Nat} {xs : List Value} (h : (Ent.own A n c xs e size).p w) : ∀ b, (Ent.row A n c xs size).foot b → (Ent.own A n c xs e size).foot b := by
  rintro b ⟨hx, a, rfl, rfl⟩
  have hr := RowP.of_own h
  have hc : c ≠ 0 := fun hc => by
    have h1 := hr.2.1.1
    obtain rfl : n = 0 := by omega
    exact hx (List.eq_nil_of_length_eq_zero (by rw [hr.1, Nat.zero_mul]))
  show (Value.slice (nz (some a) c) n c).ownBlock = _
  rw [nz_pos hc]
  rfl
/-- An owned row is only read from here on. -/
theorem St.freeze (h : St w0 X L R w) (j : Nat) {A : Option Addr} {n c e size : Nat} {xs : List Value} (hj : L[j]? = some (.own A n c xs e size)) : St w0 X (L.eraseIdx j) (.row A n c xs size :: R) w := by
  have hjm := List.mem_of_getElem? hj
  have hfoot : ∀ b, (Ent.row A n c xs size).foot b → (Ent.own A n c xs e size).foot b := own_foot (h.own _ hjm).1
  refine ⟨h.os, h.tape, h.output, h.size, h.block, fun e he => h.own e (List.mem_of_mem_eraseIdx he), h.apart.sublist (List.eraseIdx_sublist ..), fun e' he' => ?_⟩
  rcases List.mem_cons.1 he' with rfl | he'
  · refine ⟨h.rowL j hj, fun b hb => ⟨((h.own _ hjm).2 b (hfoot b hb)).1, fun e2 he2 hb2 => ?_⟩⟩
    rw [List.mem_iff_getElem?] at he2
    obtain ⟨m, hm⟩ := he2
    rw [List.getElem?_eraseIdx] at hm
    have hpw := List.pairwise_iff_getElem.1 h.apart
    obtain ⟨hjl, hje⟩ := List.getElem?_eq_some_iff.1 hj
    split at hm
    · obtain ⟨hml, hme⟩ := List.getElem?_eq_some_iff.1 hm
      exact hpw m j hml hjl (by omega) b (by rw [hme]; exact hb2) (by rw [hje]; exact hfoot b hb)
    · obtain ⟨hml, hme⟩ := List.getElem?_eq_some_iff.1 hm
      exact hpw j (m + 1) hjl hml (by omega) b (by rw [hje]; exact hfoot b hb) (by rw [hme]; exact hb2)
  · exact ⟨(h.read e' he').1, fun b hb => ⟨((h.read e' he').2 b hb).1, fun e2 he2 => ((h.read e' he').2 b hb).2 e2 (List.mem_of_mem_eraseIdx he2)⟩⟩
/-- nil is owned. -/
theorem St.addNil (h : St w0 X L R w) (e size : Nat) : St w0 X (.own Option.none 0 0 [] e size :: L) R w := by
  refine ⟨h.os, h.tape, h.output, h.size, h.block, fun e' he' => ?_, .cons (fun _ _ b hb => by cases hb) h.apart, fun e' he' => ⟨(h.read e' he').1, fun b hb => ⟨((h.read e' he').2 b hb).1, fun e2 he2 hb2 => ?_⟩⟩⟩
  · rcases List.mem_cons.1 he' with rfl | he'
    · exact ⟨World.ownsRow_nil w 0 e size, fun b hb => by cases hb⟩
    · exact h.own e' he'
  · rcases List.mem_cons.1 he2 with rfl | he2
    · cases hb2
    · exact ((h.read e' he').2 b hb).2 e2 he2 hb2

/-! ### an element -/
def adr (A : Option Addr) (n : Nat) : Option Addr := A.map (·.add n)
theorem yld_idxS {t e n c size : Nat} {A : Option Addr} {xs : List Value} {k : IntKind} {x : Int} (hr : RowP w A n c xs size) (he : execAt ops i a = nextV (Instr.indexAt t (.slice A n c) (.int k x))) (hu : P.underlying t = some (.slice e)) (hs : szOf P e = some size)
    (hsz : 0 < size) (h0 : 0 ≤ x) (h1 : x < n) : Yld P ops Any i a w (.pointer (adr A (x.toNat * size))) := by
  refine yld fun w' => ?_
  rw [he]
  refine run_nextV ?_
  obtain ⟨hl, _, h3⟩ := hr
  have hn : 0 < n := by omega
  rcases h3 with rfl | ⟨b, o, cs, T, fz, rfl, _, _⟩
  · have := Nat.mul_pos hn hsz
    simp only [List.length_nil] at hl
    omega
  · unfold Instr.indexAt
    simp [asIntOf, run_underlying hu, run_sizeOf hs, h0, h1, adr]
theorem RowP.cell {A : Option Addr} {n c size : Nat} {xs : List Value} (h : RowP w A n c xs size) {m : Nat} {v : Value} (hv : xs[m]? = some v) : ∃ b o cs T fz, A = some ⟨b, o, none⟩ ∧ w.heap[b]? = some (.cells cs T fz) ∧ cs[o + m]? = some v := by
  rcases h.2.2 with rfl | ⟨b, o, cs, T, fz, rfl, hh, hc⟩
  · cases hv
  · exact ⟨b, o, cs, T, fz, rfl, hh, hc m v hv⟩
theorem run_loadVarS {A : Option Addr} {n c size e m : Nat} {xs : List Value} {v : Value} (h : RowP w A n c xs size) (hg : aggB P e = some false) (hv : xs[m]? = some v) :
    ∃ ad, adr A m = some ad ∧ (loadVar e ad).run P w = .ok v w := by
  obtain ⟨b, o, cs, T, fz, rfl, hh, hc⟩ := h.cell hv
  refine ⟨⟨b, o + m, none⟩, by simp [adr, add_plain], ?_⟩
  unfold loadVar
  rw [rb (run_isAgg hg)]
  show (load ⟨b, o + m, none⟩).run P w = _
  unfold load
  have : w.cell? ⟨b, o + m, none⟩ = some v := by simp [World.cell?, hh, hc]
  simp only [Sem.run, this]
theorem yld_loadS {A : Option Addr} {n c size e m : Nat} {xs : List Value} {v : Value} (hr : RowP w A n c xs size) (he : execAt ops i a = nextV (Instr.loadAt e (.pointer (adr A m)))) (hg : aggB P e = some false) (hv : xs[m]? = some v) : Yld P ops Grow i a w v := by
  intro w' g
  rw [he]
  refine run_nextV ?_
  have hr' : RowP w' A n c xs size := (Ent.row A n c xs size).loc w w' (fun b hb => g.block b (hr.foot_lt b hb)) hr
  obtain ⟨ad, h1, h2⟩ := run_loadVarS (P := P) hr' hg hv
  rw [h1]
  exact h2

/-! ### make, store, append -/
theorem St.ownNew {v : Value} {A : Option Addr} {n c e size : Nat} {xs : List Value} (h : St w0 X L R w) (hv : v = .slice A n c) (ho : w'.ownsRow w.heap.size e size v n xs) (g : w.grownBy w' Option.none) : St w0 X (.own A n c xs e size :: L) R w' := by
  subst hv
  have ho := own_nz ho
  have hlt := ho.lt
  have h' : St w [] [.own A n c xs e size] [] w' := by
    refine ⟨g.os, g.tape, g.output, g.size, fun k hk _ => g.block k hk (by simp), fun e' he' => ?_, .cons (fun _ h => (by cases h)) .nil, fun _ h => (by cases h)⟩
    obtain rfl := List.mem_singleton.1 he'
    refine ⟨⟨ho.1, ?_⟩, fun b hb => ⟨(hlt b hb).2, .inr (hlt b hb).1⟩⟩
    rcases ho.2 with h2 | ⟨q, cap, cur, hv, _, rest⟩
    · exact .inl h2
    · exact .inr ⟨q, cap, cur, hv, Nat.zero_le _, rest⟩
  exact h.grown h'
theorem op_make {d : Option Tmp} (hd : dstAt ops i = d) {t e size bytes B : Nat} {ti : TypeInfo} {z : Value} {kl kc : IntKind} {x : Int} (hs : St w0 X L R w) (he : execAt ops i a = nextV (Instr.makeSlice t (.int kl x) (.int kc x))) (hu : P.underlying t = some (.slice e))
    (hi : P.toTables.info? e = some ti) (hz : ti.zero = some z) (hsize : ti.size = size) (hby : ti.bytes = bytes) (h0 : 0 ≤ x) (h1 : x ≤ B) (hb : bytes * B ≤ 140737488355328) (hB : B ≤ 140737488355328) (xs : List Value) (hxs : (madeCells z.cells (x.toNat * size)).toList = xs)
    (k : ∀ A c w', Grow w w' → St w0 X (.own A x.toNat c xs e size :: L) R w' → K (a.put d (.slice A x.toNat c)) w') : wpOp P ops (NoP Kn) i K a w := by
  obtain ⟨m, rfl⟩ := Int.eq_ofNat_of_zero_le h0
  rw [Int.toNat_natCast] at *
  have hm : m ≤ B := by omega
  have hbm : ti.bytes * m ≤ 281474976710656 := by
    rw [hby]
    have := Nat.mul_le_mul_left bytes hm
    omega
  obtain ⟨w', hr, ho, hg⟩ := run_make_full (P := P) w w.heap.size t e ti z size hu hi hz hsize kl kc m hbm (by unfold maxLen; omega) (Nat.le_refl _)
  rw [hxs] at ho
  refine wpOp_val hd (w' := w') (v := .slice (some ⟨w.heap.size, 0, none⟩) m m) ?_ (k _ _ w' ⟨hg.os, hg.tape, hg.output, hg.size, fun q hq => hg.block q hq (by simp)⟩ (hs.ownNew rfl ho hg))
  rw [he]
  exact run_nextV hr

/-- One entry changes, in its own block or into a new one. -/
theorem St.entSet (h : St w0 X L R w) (j : Nat) {e0 e' : Ent} (hj : L[j]? = some e0) (hos : w'.os = w.os) (htape : w'.tape = w.tape) (hout : w'.output = w.output) (hsz : w.heap.size ≤ w'.heap.size)
    (hk : ∀ k, k < w.heap.size → ¬ e0.foot k → w'.heap[k]? = w.heap[k]?) (hp : e'.p w') (hf : ∀ b, e'.foot b → b < w'.heap.size ∧ (e0.foot b ∨ w.heap.size ≤ b)) : St w0 X (L.set j e') R w' := by
  have hjl : j < L.length := (List.getElem?_eq_some_iff.1 hj).1
  have hjm : e0 ∈ L := List.mem_of_getElem? hj
  have hfb := (h.own _ hjm).2
  have other : ∀ (m : Nat) (e : Ent), m ≠ j → L[m]? = some e → ∀ b, e.foot b → ¬ e0.foot b := fun m e hne hm b hb hb0 => by
    have hpw := List.pairwise_iff_getElem.1 h.apart
    obtain ⟨hml, hme⟩ := List.getElem?_eq_some_iff.1 hm
    obtain ⟨_, hje⟩ := List.getElem?_eq_some_iff.1 hj
    rcases Nat.lt_or_gt_of_ne hne with hlt | hgt
    · exact hpw m j hml hjl hlt b (by rw [hme]; exact hb) (by rw [hje]; exact hb0)
    · exact hpw j m hjl hml hgt b (by rw [hje]; exact hb0) (by rw [hme]; exact hb)
  have same : ∀ e : Ent, (∀ b, e.foot b → b < w.heap.size ∧ ¬ e0.foot b) → e.p w → e.p w' := fun e he hp => e.loc w w' (fun b hb => hk b (he b hb).1 (he b hb).2) hp
  refine ⟨hos.trans h.os, htape.trans h.tape, hout.trans h.output, Nat.le_trans h.size hsz, fun k hk0 hx => ?_, ?_, ?_, ?_⟩
  · rw [hk k (Nat.lt_of_lt_of_le hk0 h.size) (fun hfk => by rcases (hfb k hfk).2 with h1 | h1; exact hx h1; omega)]
    exact h.block k hk0 hx
  · intro e he
    rw [List.mem_iff_getElem?] at he
    obtain ⟨m, hm⟩ := he
    rw [List.getElem?_set] at hm
    split at hm
    · obtain rfl := Option.some.inj hm
      refine ⟨hp, fun b hb => ⟨(hf b hb).1, ?_⟩⟩
      rcases (hf b hb).2 with h1 | h1
      · exact (hfb b h1).2
      · exact .inr (Nat.le_trans h.size h1)
    · rename_i hne
      obtain ⟨h1, h2⟩ := h.own e (List.mem_of_getElem? hm)
      exact ⟨same e (fun b hb => ⟨(h2 b hb).1, other m e (Ne.symm hne) hm b hb⟩) h1, fun b hb => ⟨Nat.lt_of_lt_of_le (h2 b hb).1 hsz, (h2 b hb).2⟩⟩
  · rw [List.pairwise_iff_getElem]
    intro m n hm hn hmn b hb1 hb2
    rw [List.length_set] at hm hn
    rw [List.getElem_set] at hb1 hb2
    have hpw := List.pairwise_iff_getElem.1 h.apart
    split at hb1
    · rename_i hjm'
      subst hjm'
      rw [if_neg (by omega)] at hb2
      rcases (hf b hb1).2 with h1 | h1
      · exact other n _ (by omega) (List.getElem?_eq_getElem hn) b hb2 h1
      · exact absurd ((h.own _ (List.getElem_mem hn)).2 b hb2).1 (by omega)
    · split at hb2
      · rename_i hjn
        subst hjn
        rcases (hf b hb2).2 with h1 | h1
        · exact other m _ (by omega) (List.getElem?_eq_getElem hm) b hb1 h1
        · exact absurd ((h.own _ (List.getElem_mem hm)).2 b hb1).1 (by omega)
      · exact hpw m n hm hn hmn b hb1 hb2
  · intro e he
    obtain ⟨h1, h2⟩ := h.read e he
    refine ⟨same e (fun b hb => ⟨(h2 b hb).1, (h2 b hb).2 e0 hjm⟩) h1, fun b hb => ⟨Nat.lt_of_lt_of_le (h2 b hb).1 hsz, fun e2 he2 hb2 => ?_⟩⟩
    rw [List.mem_iff_getElem?] at he2
    obtain ⟨m, hm⟩ := he2
    rw [List.getElem?_set] at hm
    split at hm
    · obtain rfl := Option.some.inj hm
      rcases (hf b hb2).2 with h3 | h3
      · exact (h2 b hb).2 e0 hjm h3
      · exact absurd (h2 b hb).1 (by omega)
    · exact (h2 b hb).2 e2 (List.mem_of_getElem? hm) hb2
theorem St.ownSet (h : St w0 X L R w) (j : Nat) {A A' : Option Addr} {n c n' c' e size : Nat} {xs xs' : List Value} (hj : L[j]? = some (.own A n c xs e size)) (ho : w'.ownsRow 0 e size (.slice A' n' c') n' xs')
    (hg : w.grownBy w' (Value.slice (nz A c) n c).ownBlock) (hb : ∀ b, (Value.slice A' n' c').ownBlock = some b → (Value.slice (nz A c) n c).ownBlock = some b ∨ w.heap.size ≤ b) : St w0 X (L.set j (.own A' n' c' xs' e size)) R w' :=
  h.entSet j hj hg.os hg.tape hg.output hg.size (fun k hk hf => hg.block k hk fun he => hf he.symm) (own_nz ho) fun b hb' => ⟨((own_nz ho).lt b hb').2, hb b (nz_foot hb')⟩
theorem append_run {t ty e size bytes : Nat} {ti : TypeInfo} {z v : Value} {n : Nat} {xs : List Value} (ht : P.underlying t = some (.slice e)) (hi : P.toTables.info? e = some ti) (hz : ti.zero = some z) (hsize : ti.size = size) (hby : ti.bytes = bytes) (hzs : z.cells.size = size) (hsz : 0 < size)
    (hown : w.ownsRow 0 e size v n xs) (ad : Addr) (m c : Nat) (news : List Value) (hl : news.length = m * size) (hnews : ∀ j u, news[j]? = some u → w.cell? (ad.add j) = some u) (h1 : ∀ u ∈ news, u.oneCell' = true) (h63 : n + m ≤ maxLen) (hbytes : (n + m) * bytes ≤ 140737488355328) :
    ∃ A' c' w', (Builtin.append_ #[t, t] ty #[v, .slice (some ad) m c]).run P w = .ok (.slice A' (n + m) c') w' ∧ w'.ownsRow 0 e size (.slice A' (n + m) c') (n + m) (xs ++ news) ∧ w.grownBy w' v.ownBlock ∧
      ∀ b, (Value.slice A' (n + m) c').ownBlock = some b → v.ownBlock = some b ∨ w.heap.size ≤ b := by
  obtain ⟨v', w', hr, ho, hg, hnil⟩ := run_append_own (P := P) w 0 t ty e ti z size bytes ht hi hz hsize hby hzs hsz v n xs hown ad m c news hl hnews h1 h63 hbytes (Nat.zero_le _)
  have hshape : ∃ A' c', v' = .slice A' (n + m) c' := by
    rcases ho.2 with ⟨hv, hn⟩ | ⟨g, cap, cur, hv, _⟩
    · exact ⟨none, 0, by rw [hv, hn]⟩
    · exact ⟨_, _, hv⟩
  obtain ⟨A', c', rfl⟩ := hshape
  refine ⟨A', c', w', hr, ho, hg, fun b hb => ?_⟩
  have hsmall : n + m ≤ 9223372036854775807 := by simp only [maxLen] at h63; omega
  rcases hown.2 with ⟨rfl, rfl⟩ | ⟨g, cap, cur, rfl, hbg, hgh, hnc, hcm, hcs, htake⟩
  · by_cases hm : m = 0
    · have := hnil.2 ⟨rfl, hm⟩
      rw [this] at hb
      cases hb
    · subst hsize
      have hr' := run_append_nil (P := P) w t ty e ti z ht hi hz ad m c news hl hnews (by omega) (by omega) (by subst hby; have hb := hbytes; simp only [Nat.zero_add] at hb; omega)
      have := hr.symm.trans hr'
      injection this with h3 h4
      rw [h3] at hb
      simp only [Value.ownBlock, Option.some.injEq] at hb
      exact .inr (by omega)
  · subst hsize
    by_cases hroom : n + m ≤ cap
    · have hfit : n * ti.size + news.length ≤ cur.size := by rw [hl, hcs, ← Nat.add_mul]; exact Nat.mul_le_mul_right _ hroom
      have hr' := run_append_room (P := P) w t ty e ti ht hi g n cap cur hgh ad m c news hl hnews h1 hroom hfit
      have := hr.symm.trans hr'
      injection this with h3 h4
      rw [h3] at hb
      exact .inl hb
    · have holds : ∀ j u, xs[j]? = some u → w.cell? ((⟨g, 0, none⟩ : Addr).add j) = some u := hown.cells (g := g) rfl
      subst hby
      have hr' := run_append_grow (P := P) w t ty e ti z ht hi hz ⟨g, 0, none⟩ n cap xs hown.1 holds ad m c news hl hnews (by omega) (by omega) (growslice_fits (by omega) hbytes)
      have := hr.symm.trans hr'
      injection this with h3 h4
      rw [h3] at hb
      simp only [Value.ownBlock, Option.some.injEq] at hb
      exact .inr (by omega)
theorem op_append {d : Option Tmp} (hd : dstAt ops i = d) {t ty e size bytes B n m c cx : Nat} {ti : TypeInfo} {z : Value} {A Ax : Option Addr} {xs ys : List Value} (hs : St w0 X L R w) (j : Nat) (hj : L[j]? = some (.own A n c xs e size)) (hr : RowP w Ax m cx ys size)
    (he : execAt ops i a = nextV (Builtin.append_ #[t, t] ty #[.slice A n c, .slice Ax m cx])) (hu : P.underlying t = some (.slice e)) (hi : P.toTables.info? e = some ti) (hz : ti.zero = some z) (hsize : ti.size = size) (hby : ti.bytes = bytes) (hzs : z.cells.size = size) (hsz : 0 < size)
    (h1 : ∀ u ∈ ys, u.oneCell' = true) (hlen : n + m ≤ B) (hb : bytes * B ≤ 140737488355328) (hB : B ≤ 140737488355328)
    (k : ∀ A' c' w', St w0 X (L.set j (.own A' (n + m) c' (xs ++ ys) e size)) R w' → K (a.put d (.slice A' (n + m) c')) w') : wpOp P ops (NoP Kn) i K a w := by
  have hown := hs.ownAt j hj
  have hbytes : (n + m) * bytes ≤ 140737488355328 := by
    have := Nat.mul_le_mul_left bytes hlen
    rw [Nat.mul_comm]
    omega
  have hnil : ys = [] → m = 0 → K (a.put d (.slice A n c)) w := fun hy hm => by
    subst hy hm
    have := k A c w (by
      rw [List.append_nil, Nat.add_zero]
      exact hs.entSet j hj rfl rfl rfl (Nat.le_refl _) (fun _ _ _ => rfl) hown fun b hb => ⟨(hown.lt b hb).2, .inl hb⟩)
    simpa using this
  by_cases hc : c = 0
  · subst hc
    have hr0 := RowP.of_own hown
    obtain rfl : n = 0 := by have := hr0.2.1.1; omega
    obtain rfl : xs = [] := List.eq_nil_of_length_eq_zero (by rw [hr0.1, Nat.zero_mul])
    by_cases hm : m = 0
    · subst hm
      have hy : ys = [] := List.eq_nil_of_length_eq_zero (by rw [hr.1, Nat.zero_mul])
      refine wpOp_val hd (w' := w) (v := .slice A 0 0) ?_ (hnil hy rfl)
      rw [he]
      refine run_nextV ?_
      have hld : ∀ (ad : Addr), (loadCells ad 0).run P w = .ok #[] w := fun _ => rfl
      cases A <;> cases Ax <;> simp [Builtin.append_, run_underlying hu, sizeOf, typeInfo, hi, Builtin.lenOf, Builtin.firstCells, storeCells, hld]
    · cases Ax with
      | none =>
        have hc := hr.2.1.2 rfl
        have := hr.2.1.1
        omega
      | some ad =>
        have hnews : ∀ j u, ys[j]? = some u → w.cell? (ad.add j) = some u := by
          intro q u hq
          obtain ⟨b, o, cs, T, fz, hA, hh, hc⟩ := hr.cell hq
          obtain rfl := Option.some.inj hA
          rw [add_plain]
          simp [World.cell?, hh, hc]
        have h0 : w.ownsRow 0 e size (.slice none 0 0) 0 [] := World.ownsRow_nil w 0 e size
        obtain ⟨A', c', w', hrun, ho, hg, hblk⟩ := append_run (P := P) (ty := ty) hu hi hz hsize hby hzs hsz h0 ad m cx ys hr.1 hnews h1 (by unfold maxLen; omega) hbytes
        have hrun' : (Builtin.append_ #[t, t] ty #[.slice A 0 0, .slice (some ad) m cx]).run P w = .ok (.slice A' (0 + m) c') w' := by
          cases A with
          | none => exact hrun
          | some b =>
            subst hsize hby
            have hbm : m * ti.bytes ≤ 281474976710656 := by have := hbytes; rw [Nat.zero_add] at this; omega
            have hn1 := run_append_nil (P := P) w t ty e ti z hu hi hz ad m cx ys hr.1 hnews (by omega) (by omega) hbm
            have hg1 := run_append_grow (P := P) w t ty e ti z hu hi hz b 0 0 [] (by simp) (fun j v hv => by simp at hv) ad m cx ys hr.1 hnews (by omega) (by omega) (growslice_fits (by omega) (by simpa using hbytes))
            rw [hg1, ← hrun, hn1]
            simp
        refine wpOp_val hd (w' := w') ?_ (k A' c' w' (hs.ownSet j hj ho hg hblk))
        rw [he]
        exact run_nextV hrun'
  rw [nz_pos hc] at hown
  cases Ax with
  | none =>
    obtain ⟨hl, ⟨hmc, hc0⟩, h3⟩ := hr
    have hc : cx = 0 := hc0 rfl
    subst hc
    obtain rfl : m = 0 := by omega
    obtain rfl : ys = [] := List.eq_nil_of_length_eq_zero (by rw [hl, Nat.zero_mul])
    refine wpOp_val hd (w' := w) (v := .slice A n c) ?_ (hnil rfl rfl)
    rw [he]
    exact run_nextV (run_append_owned_none w 0 t ty e ti size hu hi _ n xs hown)
  | some ad =>
    have hnews : ∀ j u, ys[j]? = some u → w.cell? (ad.add j) = some u := by
      intro q u hq
      obtain ⟨b, o, cs, T, fz, hA, hh, hc⟩ := hr.cell hq
      obtain rfl := Option.some.inj hA
      rw [add_plain]
      simp [World.cell?, hh, hc]
    obtain ⟨A', c', w', hrun, ho, hg, hblk⟩ := append_run (P := P) (ty := ty) hu hi hz hsize hby hzs hsz hown ad m cx ys hr.1 hnews h1 (by unfold maxLen; omega) hbytes
    refine wpOp_val hd (w' := w') ?_ (k A' c' w' (hs.ownSet j hj ho (by rw [nz_pos hc]; exact hg) (by rw [nz_pos hc]; exact hblk)))
    rw [he]
    exact run_nextV hrun
/-- The beginning of an owned row. -/
theorem St.ownTake (h : St w0 X L R w) (j : Nat) {A : Option Addr} {n c e size m : Nat} {xs : List Value} (hj : L[j]? = some (.own A n c xs e size)) (hm : m ≤ n) : St w0 X (L.set j (.own A m c (xs.take (m * size)) e size)) R w := by
  have ho := h.ownAt j hj
  have hle : m * size ≤ n * size := Nat.mul_le_mul_right _ hm
  have hlen : (xs.take (m * size)).length = m * size := by rw [List.length_take, ho.1, Nat.min_eq_left hle]
  have hp : (Ent.own A m c (xs.take (m * size)) e size).p w := by
    refine ⟨hlen, ?_⟩
    rcases ho.2 with ⟨hv, hn⟩ | ⟨g, cap, cur, hv, hg, hh, hnc, hcm, hcs, ht⟩
    · obtain rfl : m = 0 := by omega
      injection hv with e1 e2 e3
      exact .inl ⟨by rw [e1, e3], rfl⟩
    · injection hv with e1 e2 e3
      refine .inr ⟨g, cap, cur, by rw [e1, e3], hg, hh, by omega, hcm, hcs, ?_⟩
      rw [← ht, List.take_take, Nat.min_eq_left hle]
  refine h.entSet j hj rfl rfl rfl (Nat.le_refl _) (fun _ _ _ => rfl) hp fun b hb => ?_
  have hb : (Ent.own A n c xs e size).foot b := by
    have hb' : (Value.slice (nz A c) m c).ownBlock = some b := hb
    show (Value.slice (nz A c) n c).ownBlock = some b
    cases hA : nz A c <;> rw [hA] at hb' <;> exact hb'
  exact ⟨((h.own _ (List.mem_of_getElem? hj)).2 b hb).1, .inl hb⟩
end
end Go.Mx
