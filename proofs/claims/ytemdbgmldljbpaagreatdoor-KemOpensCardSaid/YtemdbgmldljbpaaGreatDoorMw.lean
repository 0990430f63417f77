/- own -/
import Derived.Test.YtemdbgmldljbpaaGreatDoorMq
set_option linter.unusedSimpArgs false
set_option linter.unusedVariables false
namespace Go.Mx
open Go
def top (k:IntKind):Nat:=if k.signed then k.bits-1 else k.bits
theorem wrap_nat {k:IntKind}{n:Nat}(h:n<2^top k):k.wrap (n:Int)=n:=by
 cases k<;>simp only [top,IntKind.bits,IntKind.signed,IntKind.wrap,if_true,Bool.false_eq_true,if_false,Bool.true_and,Bool.false_and,decide_eq_true_eq,ge_iff_le] at *<;>first | omega | (split<;>omega)
theorem ofInt_nat (w n:Nat) (h:n<2^w):(BitVec.ofInt w (n:Int)).toNat=n:=by
 rw [BitVec.toNat_ofInt]
 have e:((n:Int)%((2^w:Nat):Int))=((n%2^w:Nat):Int):=(Int.natCast_emod n (2^w)).symm
 rw [e,Int.toNat_natCast,Nat.mod_eq_of_lt h]
theorem top_le (k:IntKind):2^top k≤2^k.bits:=Nat.pow_le_pow_right (by decide) (by unfold top; split<;>omega)
theorem iand_nat {k:IntKind}{x y:Nat}(hx:x<2^top k) (hy:y<2^top k):iand k x y=((x &&& y:Nat):Int):=by
 unfold iand
 rw [BitVec.toNat_and,ofInt_nat _ _ (Nat.lt_of_lt_of_le hx (top_le k)),ofInt_nat _ _ (Nat.lt_of_lt_of_le hy (top_le k))]
 exact wrap_nat (Nat.lt_of_le_of_lt Nat.and_le_left hx)
theorem ior_nat {k:IntKind}{x y:Nat}(hx:x<2^top k) (hy:y<2^top k):ior k x y=((x ||| y:Nat):Int):=by
 unfold ior
 rw [BitVec.toNat_or,ofInt_nat _ _ (Nat.lt_of_lt_of_le hx (top_le k)),ofInt_nat _ _ (Nat.lt_of_lt_of_le hy (top_le k))]
 exact wrap_nat (Nat.or_lt_two_pow hx hy)
theorem ixor_nat {k:IntKind}{x y:Nat}(hx:x<2^top k) (hy:y<2^top k):ixor k x y=((x ^^^ y:Nat):Int):=by
 unfold ixor
 rw [BitVec.toNat_xor,ofInt_nat _ _ (Nat.lt_of_lt_of_le hx (top_le k)),ofInt_nat _ _ (Nat.lt_of_lt_of_le hy (top_le k))]
 exact wrap_nat (Nat.xor_lt_two_pow hx hy)
theorem ishl_nat {k:IntKind}{x n:Nat}(hn:n≤k.bits) (h:x*2^n<2^top k):ishl k x n=((x*2^n:Nat):Int):=by
 unfold ishl
 rw [Int.toNat_natCast,Nat.min_eq_left hn]
 have e:(x:Int)*2^n=((x*2^n:Nat):Int):=by rw [Int.natCast_mul,Int.natCast_pow]; rfl
 rw [e]
 exact wrap_nat h
theorem ishr_nat {k:IntKind}{x n:Nat}(hn:n≤k.bits):ishr k x n=((x/2^n:Nat):Int):=by
 unfold ishr
 rw [Int.toNat_natCast,Nat.min_eq_left hn]
 have e:(2:Int)^n=((2^n:Nat):Int):=by rw [Int.natCast_pow]; rfl
 rw [e,Int.fdiv_eq_ediv_of_nonneg _ (Int.natCast_nonneg _),← Int.natCast_ediv]
theorem and_mask (x d:Nat):x &&& (2^d-1)=x%2^d:=Nat.and_two_pow_sub_one_eq_mod x d
end Go.Mx
