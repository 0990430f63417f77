/- Layer 21: sums, differences, norms and what can be are the document's, in plain Lean. -/
import Derived.Test.YtijahfdldlmnhaaLZqTells
import Derived.Test.YtijahfdldlmnhaaQa
namespace Go.Proofs.Ytijahfdldlmnhaa.Pure
open Go.Mx
theorem ZqTells : law21_ZqTells.Pure := by
  intro a _ b _
  refine ⟨KK, ?_⟩
  have hK : 256 < KK := by decide
  unfold law21_ZqTells.f
  simp only [zq_Fit_eq KK hK, ref21_Fit_eq KK hK, Option.bind_some, beq_self_eq_true, Bool.not_true, Bool.false_eq_true, if_false]
  cases ha : allA fitQ a with
  | false => simp [awake21]
  | true =>
    cases hb : allA fitQ b with
    | false => simp [awake21]
    | true =>
      have fa := fitP_of ha
      have fb := fitP_of hb
      simp [zq_Add_eq KK hK a b fa fb, ref21_Add_eq KK hK a b fa fb, zq_Sub_eq KK hK a b fa fb, ref21_Sub_eq KK hK a b fa fb, zq_Norm_eq KK hK a fa, ref21_Norm_eq KK hK a fa, eqA_self, awake21]
end Go.Proofs.Ytijahfdldlmnhaa.Pure
