/- Own library of this work (22): rows of which the beginning alone is known; bytes as strings. -/
import Derived.Test.YtmpagpbnpgcecaaMa
import Derived.Lib.MakeNoZero
import Derived.Laws.Externs
import Derived.Laws.BytesString
set_option linter.unusedSimpArgs false
set_option linter.unusedVariables false
namespace Go.Mx
open Go.RowKit
section
variable {T : Type} {C : Cod T} {P : Program} {ops : Array Oper} {K Kn : Act → World → Prop} {a : Act} {w w' : World} {i : Nat} {w0 : World} {X : List Nat} {L R : List Ent}
/-- A block of at least n elements, of which the first are l. -/
def Ent.known (C : Cod T) (b n : Nat) (l : List T) (e : TypeId) : Ent where
  foot := fun k => k = b
  p := fun w => ∃ vs : List Value, n * C.size ≤ (encL C l ++ vs).length ∧ w.heap[b]? = some (.cells (encL C l ++ vs).toArray e (0, 0))
  loc := fun _ _ h hp => by obtain ⟨vs, h1, h2⟩ := hp; exact ⟨vs, h1, (h b rfl).trans h2⟩
/-! ### bytes as a string -/
theorem chk_eq {α : Type} {p : Prop} [Decidable p] {A : Option α} (hp : p) : (if p then A else none) = A := if_pos hp
theorem bind_eq {α β : Type} {E : Option β} {A : β → Option α} {x : β} (hx : E = some x) : E.bind A = A x := by rw [hx]; rfl
/-! ### rows that are new, and nil where they are empty -/
def Fr (w0 : World) : Nat → Prop := fun b => w0.heap.size ≤ b
def Ent.rowN (F : Nat → Prop) (C : Cod T) (A : Option Addr) (n c : Nat) (l : List T) : Ent where
  foot := (Ent.rowL C A n c l).foot
  p := fun w => (RowL C w A n c l ∧ ∀ b, (Ent.rowL C A n c l).foot b → F b) ∧ (l = [] → A = Option.none)
  loc := fun w w' h hp => ⟨⟨(Ent.rowL C A n c l).loc w w' h hp.1.1, hp.1.2⟩, hp.2⟩
theorem St.rowN (h : St w0 X L R w) (j : Nat) {F : Nat → Prop} {A : Option Addr} {n c : Nat} {l : List T} (hj : R[j]? = some (.rowN F C A n c l)) : RowL C w A n c l := (h.read _ (List.mem_of_getElem? hj)).1.1.1
theorem St.neN (h : St w0 X L R w) (j : Nat) {F : Nat → Prop} {A : Option Addr} {n c : Nat} {l : List T} (hj : R[j]? = some (.rowN F C A n c l)) : l = [] → A = Option.none := (h.read _ (List.mem_of_getElem? hj)).1.2
theorem St.addNilN (h : St w0 X L R w) (C : Cod T) : St w0 X L (.rowN (Fr w0) C Option.none 0 0 ([] : List T) :: R) w :=
  ⟨h.os, h.tape, h.output, h.size, h.block, h.own, h.apart, fun e he => by
    rcases List.mem_cons.1 he with rfl | he
    · exact ⟨⟨⟨RowL.nil w, fun b hb => absurd rfl hb.1⟩, fun _ => rfl⟩, fun b hb => absurd rfl hb.1⟩
    · exact h.read e he⟩
theorem St.toN (h : St w0 X L R w) (j : Nat) {F : Nat → Prop} {A : Option Addr} {n c : Nat} {l : List T} (hj : R[j]? = some (.rowF F C A n c l)) (hF : ∀ b, F b → w0.heap.size ≤ b) (hn : l = [] → A = Option.none) : St w0 X L (.rowN (Fr w0) C A n c l :: R) w := by
  obtain ⟨⟨h1, h2⟩, h3⟩ := h.read _ (List.mem_of_getElem? hj)
  refine ⟨h.os, h.tape, h.output, h.size, h.block, h.own, h.apart, fun e he => ?_⟩
  rcases List.mem_cons.1 he with rfl | he
  · exact ⟨⟨⟨h1, fun b hb => hF b (h2 b hb)⟩, hn⟩, fun b hb => h3 b (h2 b hb)⟩
  · exact h.read e he
theorem St.promoteN (h : St w0 X L R w) (j : Nat) {A : Option Addr} {n c : Nat} {l : List T} (hj : R[j]? = some (.rowN (Fr w0) C A n c l)) : St w0 X (.rowL C A n c l :: L) [] w := by
  obtain ⟨⟨⟨h1, h2⟩, _⟩, h3⟩ := h.read _ (List.mem_of_getElem? hj)
  refine ⟨h.os, h.tape, h.output, h.size, h.block, fun e he => ?_, .cons (fun e he b hb hb' => (h3 b hb).2 e he hb') h.apart, fun _ h => (by cases h)⟩
  rcases List.mem_cons.1 he with rfl | he
  · exact ⟨h1, fun b hb => ⟨(h3 b hb).1, .inr (h2 b hb)⟩⟩
  · exact h.own e he
/-! ### own rows of slices that are only read from here on; parts of rows of rows -/
theorem St.addInn1 (h : St w0 X L R w) (k : Nat) {A : Option Addr} {n c : Nat} {x : List T} (hk : R[k]? = some (.rowL C A n c x)) : St w0 X L (.inn C [(A, n, c)] [x] :: R) w :=
  (h.addInn0 C).innApp 0 (k + 1) (H := []) (l := []) rfl hk
theorem St.freezeHH (h : St w0 X L R w) (j k : Nat) {A : Option Addr} {n c e : Nat} {H : List HS} {l : List (List T)} (hj : L[j]? = some (.ownL CS A n c H e)) (hk : R[k]? = some (.inn C H l)) : St w0 X (L.eraseIdx j) (.rowLL C A n c H l :: R.eraseIdx k) w := by
  have h1 := h.freeze j hj
  have r1 := h1.read (.rowL CS A n c H) List.mem_cons_self
  have r2 := h1.read (.inn C H l) (List.mem_cons_of_mem _ (List.mem_of_getElem? hk))
  exact ⟨h1.os, h1.tape, h1.output, h1.size, h1.block, h1.own, h1.apart, fun e' he' => by
    rcases List.mem_cons.1 he' with rfl | he'
    · exact ⟨⟨r1.1, r2.1⟩, fun b hb => hb.elim (r1.2 b) (r2.2 b)⟩
    · exact h1.read e' (List.mem_cons_of_mem _ (List.mem_of_mem_eraseIdx he'))⟩
theorem Inn.take : ∀ {H : List HS} {l : List (List T)} (m : Nat), Inn C w H l → Inn C w (H.take m) (l.take m) ∧ ∀ b, InnFoot C (H.take m) (l.take m) b → InnFoot C H l b
  | [], [], m, _ => by simp only [List.take_nil]; exact ⟨trivial, fun b h => h⟩
  | [], _ :: _, _, h => h.elim
  | _ :: _, [], _, h => h.elim
  | _ :: _, _ :: _, 0, h => ⟨trivial, fun b h => h.elim⟩
  | _ :: _, _ :: _, m + 1, h => ⟨⟨h.1, (Inn.take m h.2).1⟩, fun b hb => hb.elim .inl (fun hb => .inr ((Inn.take m h.2).2 b hb))⟩
theorem Inn.drop : ∀ {H : List HS} {l : List (List T)} (m : Nat), Inn C w H l → Inn C w (H.drop m) (l.drop m) ∧ ∀ b, InnFoot C (H.drop m) (l.drop m) b → InnFoot C H l b
  | [], [], m, _ => by simp only [List.drop_nil]; exact ⟨trivial, fun b h => h⟩
  | [], _ :: _, _, h => h.elim
  | _ :: _, [], _, h => h.elim
  | _ :: _, _ :: _, 0, h => ⟨h, fun b h => h⟩
  | _ :: _, _ :: _, m + 1, h => ⟨(Inn.drop m h.2).1, fun b hb => .inr ((Inn.drop m h.2).2 b hb)⟩
theorem St.addSubLL (h : St w0 X L R w) (j : Nat) {A A' : Option Addr} {n n' c c' : Nat} {H : List HS} {l : List (List T)} {lo hi : Int} (hj : R[j]? = some (.rowLL C A n c H l)) (h0 : 0 ≤ lo) (h1 : lo ≤ hi) (h2 : hi ≤ l.length) (hA : A' = if c = lo.toNat then A else adr A (lo.toNat * Cod.size CS)) (hn : n' = hi.toNat - lo.toNat) (hc : c' = c - lo.toNat) :
    St w0 X L (.rowLL C A' n' c' (subL H lo hi) (subL l lo hi) :: R) w := by
  have r := h.read _ (List.mem_of_getElem? hj)
  have hp : LLP C w A n c H l := r.1
  have hH : St w0 X L (.rowL CS A n c H :: R) w := h.addRow hp.1 fun e he b hb => (r.2 b (.inl hb)).2 e he
  have hS := hH.addSub (lo := lo) (hi := hi) 0 rfl h0 h1 (by rw [hp.2.length]; exact h2) hA hn hc
  have s := hS.read _ List.mem_cons_self
  have i1 := hp.2.take hi.toNat
  have i2 := i1.1.drop lo.toNat
  exact ⟨h.os, h.tape, h.output, h.size, h.block, h.own, h.apart, fun e' he' => by
    rcases List.mem_cons.1 he' with rfl | he'
    · exact ⟨⟨s.1, i2.1⟩, fun b hb => hb.elim (s.2 b) (fun hb => r.2 b (.inr (i1.2 b (i2.2 b hb))))⟩
    · exact h.read e' he'⟩
theorem yld_subLL {t e n n' c c' : Nat} {A A' : Option Addr} {H : List HS} {l : List (List T)} {low high : Option Value} {lo hi : Int} (hr : LLP C w A n c H l) (he : execAt ops i a = nextV (Instr.sliceAt t (.slice A n c) low high Option.none)) (hu : P.underlying t = some (.slice e)) (hs : szOf P e = some (Cod.size CS))
    (hlo : (low = Option.none ∧ lo = 0) ∨ ∃ k, low = some (.int k lo)) (hhi : (high = Option.none ∧ hi = (l.length : Int)) ∨ ∃ k, high = some (.int k hi)) (h0 : 0 ≤ lo) (h1 : lo ≤ hi) (h2 : hi ≤ l.length)
    (hA : A' = if c = lo.toNat then A else adr A (lo.toNat * Cod.size CS)) (hn : n' = hi.toNat - lo.toNat) (hc : c' = c - lo.toNat) : Yld P ops Any i a w (.slice A' n' c') := by
  refine yld_sub (C := CS) hr.1 he hu hs hlo ?_ h0 h1 (by rw [hr.2.length]; exact h2) hA hn hc
  rw [hr.2.length]
  exact hhi
end
end Go.Mx
