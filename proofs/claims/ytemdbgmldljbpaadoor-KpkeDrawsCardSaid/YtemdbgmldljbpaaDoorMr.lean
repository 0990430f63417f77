/- Own library of this work (4): what a row's arguments are. -/
import Derived.Test.YtemdbgmldljbpaaDoorMc
import Derived.WalkKit
import Derived.ProofKit
import Derived.OpenShut
import Derived.ChangeOld
import Derived.Carry
namespace Go.Mx
open Go.RowKit Go.ChangeShapes Go.WideShapes Go.ChangeAt
def InR (k : IntKind) (x : Int) : Prop := k.min ≤ x ∧ x ≤ k.max
theorem inR_of_wf {k : IntKind} {x : Int} (h : (Lit.int k x).wf = true) : InR k x := by
  simp only [Lit.wf, Bool.and_eq_true, decide_eq_true_eq] at h
  exact h
end Go.Mx
