/- Layer 1 (bits), plain laws: the document's numbers out of bytes. -/
import Derived.Test.YtijahfdldlmnhabKd
set_option linter.unusedSimpArgs false
set_option linter.unusedVariables false
namespace Go.Proofs.Ytijahfdldlmnhab
open Go Go.Mx
theorem rdL_u8 {b : List Int} (hb : Byt b) (j : Nat) : ∃ c : Nat, rdL (CI .u8) b (j : Nat) = (c : Int) ∧ c < 256 ∧ (b.getD j 0).toNat = c := by
  refine ⟨(b.getD j 0).toNat, ?_, ?_, rfl⟩
  · show b.getD (j : Int).toNat 0 = _
    rw [Int.toNat_natCast]
    by_cases h : j < b.length
    · have := hb (b.getD j 0) (by rw [List.getD_eq_getElem?_getD, List.getElem?_eq_getElem h]; exact List.getElem_mem h)
      omega
    · rw [List.getD_eq_getElem?_getD, List.getElem?_eq_none (by omega)]; rfl
  · by_cases h : j < b.length
    · have := hb (b.getD j 0) (by rw [List.getD_eq_getElem?_getD, List.getElem?_eq_getElem h]; exact List.getElem_mem h)
      omega
    · rw [List.getD_eq_getElem?_getD, List.getElem?_eq_none (by omega)]; simp
theorem bit8 {c s : Nat} (hc : c < 256) (hs : s < 8) : iconv .u32 (iand .u8 (ishr .u8 (c : Int) (s : Int)) 1) = ((c / 2 ^ s % 2 : Nat) : Int) := by
  have h1 : c / 2 ^ s ≤ c := Nat.div_le_self _ _
  rw [ishr_nat (by simp only [IntKind.bits]; omega)]
  generalize c / 2 ^ s = q at *
  have : iand .u8 (q : Int) 1 = ((q &&& 1 : Nat) : Int) := iand_nat (y := 1) (by simp only [top, IntKind.bits, IntKind.signed]; exact Nat.lt_of_le_of_lt h1 hc) (by decide)
  rw [this, Nat.and_one_is_mod]
  exact wrap_nat (Nat.lt_of_lt_of_le (Nat.mod_lt _ (by decide)) (by decide))
end Go.Proofs.Ytijahfdldlmnhab
