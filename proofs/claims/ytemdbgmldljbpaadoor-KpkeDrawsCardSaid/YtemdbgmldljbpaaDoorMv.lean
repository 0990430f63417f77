/- Own library of this work (19): an empty literal; is a slice that is read nil?; rows of the arguments that are told. -/
import Derived.Test.YtemdbgmldljbpaaDoorMj
import Derived.Test.YtemdbgmldljbpaaDoorMl
set_option linter.unusedSimpArgs false
set_option linter.unusedVariables false
namespace Go.Mx
open Go.RowKit
section
variable {T : Type} {C : Cod T} {P : Program} {ops : Array Oper} {K Kn : Act → World → Prop} {a : Act} {w w' : World} {i : Nat} {w0 : World} {X : List Nat} {L R : List Ent}
/-! ### an empty literal -/
/-! ### a literal, part by part -/
/-! ### a value that is told where others may come ahead -/
/-! ### blocks that stay as they are -/
theorem keepB1 {b : Nat} {o : Obj} (h : w.heap[b]? = some o) (h' : w'.heap[b]? = some o) : Keep (fun k => ¬ k = b) w w' := fun k q hk hq => by
  obtain rfl : k = b := Classical.not_not.1 hk
  rw [h] at hq
  rw [h', hq]
theorem keepB2 {b : Nat} {S : Nat → Prop} {o : Obj} (h : w.heap[b]? = some o) (h' : w'.heap[b]? = some o) (r : Keep (fun k => ¬ S k) w w') : Keep (fun k => ¬ (k = b ∨ S k)) w w' := fun k q hk hq => by
  rcases Classical.not_not.1 hk with rfl | hs
  · rw [h] at hq
    rw [h', hq]
  · exact r k q (fun hn => hn hs) hq
/-! ### ways that come together again, and ways that leave -/
def ExJ (N : Act → World → Prop) (Q : Exit → Act → World → Prop) : Exit → Act → World → Prop
  | .normal, a, w => N a w
  | e, a, w => Q e a w
theorem wp_exj {r : Option Nat} {c : Code} {Q : Exit → Act → World → Prop} {N : Act → World → Prop} (h : ∀ N' : Act → World → Prop, (∀ a w, N a w → N' a w) → c.wpIn (FR r) 0 P (ExJ N' Q) a w) (k : ∀ a w, N a w → Q .normal a w) : c.wpIn (FR r) 0 P Q a w :=
  wpIn_mono (h N fun _ _ h => h) fun e a w hq => by
    cases e <;> first | exact k a w hq | exact hq
theorem exj_n {Q : Exit → Act → World → Prop} {N : Act → World → Prop} (h : N a w) : ExJ N Q .normal a w := h
theorem exj_r {Q : Exit → Act → World → Prop} {N : Act → World → Prop} (h : Q .ret a w) : ExJ N Q .ret a w := h
/-! ### is it nil? -/
/-! ### rows of the arguments that are told: F is where they may lie -/
end
end Go.Mx
