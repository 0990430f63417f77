/- Layer 25 (kq), plain laws: differences; the law about squeezing. -/
import Derived.Test.YtemdbgmldljbpaaDoorKa
set_option linter.unusedSimpArgs false
set_option linter.unusedVariables false
namespace Go.Proofs.YtemdbgmldljbpaaDoor
open Go Go.Mx
theorem wr_wr {n : Nat} (z : Arr n) (i : Nat) (x y : Int) : wr (wr z (i : Nat) x) (i : Nat) y = wr z (i : Nat) y := by
  refine arr_ext fun j hj => ?_
  rw [rd_wr _ _ _ _ hj, rd_wr _ _ _ _ hj, rd_wr _ _ _ _ hj]
  split <;> rfl
def ksub (a b : Arr 256) : Arr 256 := mapA 256 fun i => (rd a (i : Nat) - rd b (i : Nat)) % 3329
theorem kq_Sub_eq (K : Nat) (hK : 256 < K) (a b : Arr 256) (ha : Bel 3329 a) (hb : Bel 3329 b) : kq_Sub.f K a b = some (ksub a b) := by
  rw [kq_Sub.f]
  rw [loop_map (n := 256) (fun k i z => kq_Sub.l0 K k b i z) (fun i x => (x - rd b (i : Nat)) % 3329) a ?_ ?_ K hK]
  · rfl
  · intro k i z hi hz
    obtain ⟨x0, x1⟩ := ha i hi
    obtain ⟨y0, y1⟩ := hb i hi
    have g1 : (i : Int) < 256 := by omega
    have g2 : (0 : Int) ≤ i := by omega
    have e1 : isub .i32 (rd a (i : Nat)) (rd b (i : Nat)) = rd a (i : Nat) - rd b (i : Nat) := sub32 (by omega) (by omega)
    have e3 := fun v => rd_wr_same z i v hi
    have e4 : iadd .i64 (i : Int) 1 = ((i + 1 : Nat) : Int) := by rw [add64 (by omega) (by omega)]; rfl
    by_cases h : rd a (i : Nat) - rd b (i : Nat) < 0
    · have e2 : iadd .i32 (rd a (i : Nat) - rd b (i : Nat)) 3329 = (rd a (i : Nat) - rd b (i : Nat)) % 3329 := by rw [add32 (by omega) (by omega)]; omega
      simp only [kq_Sub.l0, g1, g2, if_true, hz, Option.bind_some, e1, e3, h, e2, wr_wr, e4]
    · have e2 : rd a (i : Nat) - rd b (i : Nat) = (rd a (i : Nat) - rd b (i : Nat)) % 3329 := by omega
      simp only [kq_Sub.l0, g1, g2, if_true, hz, Option.bind_some, e1, e3, h, if_false, e4]
      rw [← e2]
  · intro k z
    simp only [kq_Sub.l0, show ¬ ((256 : Nat) : Int) < 256 by omega, if_false]
end Go.Proofs.YtemdbgmldljbpaaDoor
