/- Own library of this work (5): plain laws of numbers and of loops over rows. -/
import Derived.Test.YtmpagpbnpgcecaaMr
namespace Go.Mx
open Go
theorem w64 (x : Int) : IntKind.wrap .i64 x = (x + 9223372036854775808) % 18446744073709551616 - 9223372036854775808 := by
  simp only [IntKind.wrap, IntKind.bits, IntKind.signed]
  simp only [Bool.true_and, decide_eq_true_eq, ge_iff_le]
  split <;> omega
theorem wu8 (x : Int) : IntKind.wrap .u8 x = x % 256 := by
  simp [IntKind.wrap, IntKind.bits, IntKind.signed]
theorem wu64 (x : Int) : IntKind.wrap .u64 x = x % 18446744073709551616 := by
  simp [IntKind.wrap, IntKind.bits, IntKind.signed]
theorem id64 {x : Int} (h0 : -9223372036854775808 ≤ x) (h1 : x ≤ 9223372036854775807) : IntKind.wrap .i64 x = x := by rw [w64]; omega
theorem add64 {x y : Int} (h0 : -9223372036854775808 ≤ x + y) (h1 : x + y ≤ 9223372036854775807) : iadd .i64 x y = x + y := id64 h0 h1
theorem sub64 {x y : Int} (h0 : -9223372036854775808 ≤ x - y) (h1 : x - y ≤ 9223372036854775807) : isub .i64 x y = x - y := id64 h0 h1
theorem mul64 {x y : Int} (h0 : -9223372036854775808 ≤ x * y) (h1 : x * y ≤ 9223372036854775807) : imul .i64 x y = x * y := id64 h0 h1
theorem conv64 {x : Int} (h0 : -9223372036854775808 ≤ x) (h1 : x ≤ 9223372036854775807) : iconv .i64 x = x := id64 h0 h1
theorem tmodN {x y : Int} (h : 0 ≤ x) : x.tmod y = x % y := Int.tmod_eq_emod_of_nonneg h
theorem tdivN {x y : Int} (h : 0 ≤ x) : x.tdiv y = x / y := Int.tdiv_eq_ediv_of_nonneg h
/-! ### rows -/
section
variable {n : Nat}
theorem rd_eq (a : Arr n) (i : Nat) (h : i < n) : rd a i = a[i] := by
  simp [rd, List.getD_eq_getElem?_getD, h]
theorem rd_wr (a : Arr n) (i j : Nat) (x : Int) (hj : j < n) : rd (wr a i x) j = if i = j then x else rd a j := by
  rw [rd_eq _ _ hj, rd_eq _ _ hj]
  simp only [wr, Int.toNat_natCast, Vector.getElem_setIfInBounds]
end
end Go.Mx
