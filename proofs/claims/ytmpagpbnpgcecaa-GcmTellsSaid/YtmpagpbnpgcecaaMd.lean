/- Own library of this work (22): rows of which the beginning alone is known; bytes as strings. -/
import Derived.Test.YtmpagpbnpgcecaaMa
import Derived.Lib.MakeNoZero
import Derived.Laws.Externs
import Derived.Laws.BytesString
set_option linter.unusedSimpArgs false
set_option linter.unusedVariables false
namespace Go.Mx
open Go.RowKit
section
variable {T : Type} {C : Cod T} {P : Program} {ops : Array Oper} {K Kn : Act → World → Prop} {a : Act} {w w' : World} {i : Nat} {w0 : World} {X : List Nat} {L R : List Ent}
/-- A block of at least n elements, of which the first are l. -/
def Ent.known (C : Cod T) (b n : Nat) (l : List T) (e : TypeId) : Ent where
  foot := fun k => k = b
  p := fun w => ∃ vs : List Value, n * C.size ≤ (encL C l ++ vs).length ∧ w.heap[b]? = some (.cells (encL C l ++ vs).toArray e (0, 0))
  loc := fun _ _ h hp => by obtain ⟨vs, h1, h2⟩ := hp; exact ⟨vs, h1, (h b rfl).trans h2⟩
/-! ### bytes as a string -/
theorem chk_eq {α : Type} {p : Prop} [Decidable p] {A : Option α} (hp : p) : (if p then A else none) = A := if_pos hp
theorem bind_eq {α β : Type} {E : Option β} {A : β → Option α} {x : β} (hx : E = some x) : E.bind A = A x := by rw [hx]; rfl
/-! ### rows that are new, and nil where they are empty -/
def Fr (w0 : World) : Nat → Prop := fun b => w0.heap.size ≤ b
def Ent.rowN (F : Nat → Prop) (C : Cod T) (A : Option Addr) (n c : Nat) (l : List T) : Ent where
  foot := (Ent.rowL C A n c l).foot
  p := fun w => (RowL C w A n c l ∧ ∀ b, (Ent.rowL C A n c l).foot b → F b) ∧ (l = [] → A = Option.none)
  loc := fun w w' h hp => ⟨⟨(Ent.rowL C A n c l).loc w w' h hp.1.1, hp.1.2⟩, hp.2⟩
theorem St.rowN (h : St w0 X L R w) (j : Nat) {F : Nat → Prop} {A : Option Addr} {n c : Nat} {l : List T} (hj : R[j]? = some (.rowN F C A n c l)) : RowL C w A n c l := (h.read _ (List.mem_of_getElem? hj)).1.1.1
theorem St.neN (h : St w0 X L R w) (j : Nat) {F : Nat → Prop} {A : Option Addr} {n c : Nat} {l : List T} (hj : R[j]? = some (.rowN F C A n c l)) : l = [] → A = Option.none := (h.read _ (List.mem_of_getElem? hj)).1.2
theorem St.addNilN (h : St w0 X L R w) (C : Cod T) : St w0 X L (.rowN (Fr w0) C Option.none 0 0 ([] : List T) :: R) w :=
  ⟨h.os, h.tape, h.output, h.size, h.block, h.own, h.apart, fun e he => by
    rcases List.mem_cons.1 he with rfl | he
    · exact ⟨⟨⟨RowL.nil w, fun b hb => absurd rfl hb.1⟩, fun _ => rfl⟩, fun b hb => absurd rfl hb.1⟩
    · exact h.read e he⟩
theorem St.toN (h : St w0 X L R w) (j : Nat) {F : Nat → Prop} {A : Option Addr} {n c : Nat} {l : List T} (hj : R[j]? = some (.rowF F C A n c l)) (hF : ∀ b, F b → w0.heap.size ≤ b) (hn : l = [] → A = Option.none) : St w0 X L (.rowN (Fr w0) C A n c l :: R) w := by
  obtain ⟨⟨h1, h2⟩, h3⟩ := h.read _ (List.mem_of_getElem? hj)
  refine ⟨h.os, h.tape, h.output, h.size, h.block, h.own, h.apart, fun e he => ?_⟩
  rcases List.mem_cons.1 he with rfl | he
  · exact ⟨⟨⟨h1, fun b hb => hF b (h2 b hb)⟩, hn⟩, fun b hb => h3 b (h2 b hb)⟩
  · exact h.read e he
theorem St.promoteN (h : St w0 X L R w) (j : Nat) {A : Option Addr} {n c : Nat} {l : List T} (hj : R[j]? = some (.rowN (Fr w0) C A n c l)) : St w0 X (.rowL C A n c l :: L) [] w := by
  obtain ⟨⟨⟨h1, h2⟩, _⟩, h3⟩ := h.read _ (List.mem_of_getElem? hj)
  refine ⟨h.os, h.tape, h.output, h.size, h.block, fun e he => ?_, .cons (fun e he b hb hb' => (h3 b hb).2 e he hb') h.apart, fun _ h => (by cases h)⟩
  rcases List.mem_cons.1 he with rfl | he
  · exact ⟨h1, fun b hb => ⟨(h3 b hb).1, .inr (h2 b hb)⟩⟩
  · exact h.own e he
end
end Go.Mx
