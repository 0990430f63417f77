/- Own library of this work (10): the number that bytes are, the lowest first. -/
import Derived.Test.YtppohhnfojalbaaDoorMw
import Derived.Test.YtppohhnfojalbaaDoorMt
set_option linter.unusedSimpArgs false
set_option linter.unusedVariables false
namespace Go.Mx
open Go
def Byt (l : List Int) : Prop := ∀ x ∈ l, 0 ≤ x ∧ x ≤ 255
def NB : List Int → Nat
  | [] => 0
  | x :: l => x.toNat + 256 * NB l
theorem Byt.nil : Byt [] := fun _ h => (by cases h)
theorem Byt.cons {x : Int} {l : List Int} (h0 : 0 ≤ x) (h1 : x ≤ 255) (h : Byt l) : Byt (x :: l) := fun y hy => by
  rcases List.mem_cons.1 hy with rfl | hy
  · exact ⟨h0, h1⟩
  · exact h y hy
theorem Byt.append {a b : List Int} (ha : Byt a) (hb : Byt b) : Byt (a ++ b) := fun x hx => (List.mem_append.1 hx).elim (ha x) (hb x)
theorem Byt.tail {x : Int} {l : List Int} (h : Byt (x :: l)) : Byt l := fun y hy => h y (List.mem_cons_of_mem _ hy)
theorem Byt.head {x : Int} {l : List Int} (h : Byt (x :: l)) : 0 ≤ x ∧ x ≤ 255 := h x List.mem_cons_self
theorem NB_append (a b : List Int) : NB (a ++ b) = NB a + 256 ^ a.length * NB b := by
  induction a with
  | nil => simp [NB]
  | cons x a ih =>
    show x.toNat + 256 * NB (a ++ b) = x.toNat + 256 * NB a + 256 ^ (a.length + 1) * NB b
    rw [ih, Nat.pow_succ, Nat.mul_add, Nat.mul_comm (256 ^ a.length) 256, Nat.mul_assoc]
    omega
theorem NB_lt {l : List Int} (h : Byt l) : NB l < 256 ^ l.length := by
  induction l with
  | nil => exact Nat.one_pos
  | cons x l ih =>
    have h1 := ih h.tail
    have h2 := h.head
    show x.toNat + 256 * NB l < 256 ^ (l.length + 1)
    rw [Nat.pow_succ]
    omega
theorem two_mul8 (j : Nat) : 256 ^ j = 2 ^ (8 * j) := by rw [Nat.pow_mul]
/-- or of parts that do not meet -/
theorem or_parts {x h n : Nat} (hx : x < 2 ^ h) : x ||| n * 2 ^ h = x + n * 2 ^ h := by
  have := Nat.shiftLeft_add_eq_or_of_lt hx n
  rw [Nat.shiftLeft_eq] at this
  rw [Nat.or_comm, ← this, Nat.add_comm]
end Go.Mx
