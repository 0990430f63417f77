/- Own library of this work (10): the number that bytes are, the lowest first. -/
import Derived.Test.YtmpagpbnpgcecaaMw
import Derived.Test.YtmpagpbnpgcecaaMt
set_option linter.unusedSimpArgs false
set_option linter.unusedVariables false
namespace Go.Mx
open Go
def Byt (l : List Int) : Prop := ∀ x ∈ l, 0 ≤ x ∧ x ≤ 255
theorem Byt.nil : Byt [] := fun _ h => (by cases h)
theorem Byt.cons {x : Int} {l : List Int} (h0 : 0 ≤ x) (h1 : x ≤ 255) (h : Byt l) : Byt (x :: l) := fun y hy => by
  rcases List.mem_cons.1 hy with rfl | hy
  · exact ⟨h0, h1⟩
  · exact h y hy
theorem Byt.append {a b : List Int} (ha : Byt a) (hb : Byt b) : Byt (a ++ b) := fun x hx => (List.mem_append.1 hx).elim (ha x) (hb x)
theorem Byt.tail {x : Int} {l : List Int} (h : Byt (x :: l)) : Byt l := fun y hy => h y (List.mem_cons_of_mem _ hy)
/-- or of parts that do not meet -/
theorem or_parts {x h n : Nat} (hx : x < 2 ^ h) : x ||| n * 2 ^ h = x + n * 2 ^ h := by
  have := Nat.shiftLeft_add_eq_or_of_lt hx n
  rw [Nat.shiftLeft_eq] at this
  rw [Nat.or_comm, ← this, Nat.add_comm]
end Go.Mx
