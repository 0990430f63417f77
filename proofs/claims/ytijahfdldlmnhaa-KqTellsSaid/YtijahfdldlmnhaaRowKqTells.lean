/- apostille/apostillelaw25.KqTells: whatever the input, the law answers true, and the input reads as it did. -/
import Derived.Test.YtijahfdldlmnhaaRows
import Derived.Test.YtijahfdldlmnhaaMr
import Derived.Test.YtijahfdldlmnhaaMp
import Derived.Test.YtijahfdldlmnhaaPureKqTells
import Derived.Test.YtijahfdldlmnhaaVKqTells
namespace Go.Proofs.Ytijahfdldlmnhaa.kqTells
open Go.ChangeShapes Go.WideShapes Go.ChangeAt Go.RowKit Go.Mx
set_option linter.unusedVariables false
theorem own : ownKnob Try.prog.godebug = none := by kernel_rfl
theorem laidOut : laidOutB Try.prog = true := by kernel_rfl
set_option maxRecDepth 100000 in
theorem lifted (os : Os) (started : os.Started) (H : Type) (enc' : TypeId × Value → H) :
    ReturnsInHanded {} Try.checked os 10 .any (Rows.kqTellsSpec.pre6 enc' Try.prog Try.f10 Rows.kqTellsRow.domain false) (Rows.kqTellsSpec.post enc' Try.prog Try.f10 false true false false) := by
  refine returnsInHanded_of_change (C := Try.checked) own started (by kernel_rfl) Try.func10
    (ChangeSpec.witness6 (enc := enc') (C := Try.checked) false ⟨#[], #[.agg (enc .i32 (zeroA 256)).toArray, .agg (enc .i32 (zeroA 256)).toArray], []⟩ 8 (by kernel_rfl) (by kernel_rfl) (by kernel_rfl) (by kernel_rfl)) ?_
  intro W base args ds gs before hval0 hW hcnd _
  have hval : ∀ (j : Nat) t v, Try.f10.params[j]? = some t → args[j]? = some v → Value.okWide Try.prog W .any base t v := hval0
  have hW' := hW
  obtain ⟨p, q, hA0, hV, rfl, hfz, hnd⟩ := hW
  have hA : DataW.TrodAll enc' Try.prog W 0 (fun _ => true) true Try.f10.params.toList args.toList ds p := hA0
  rw [Try.params10] at hA hval
  obtain ⟨v0, vs0, d0, ds0, p0, q0, hargs, rfl, rfl, h0, r0⟩ := trodAll_cons hA
  obtain ⟨v1, vs1, d1, ds1, p1, q1, rfl, rfl, rfl, h1, r1⟩ := trodAll_cons r0
  obtain ⟨rfl, rfl, rfl⟩ := trodAll_nil r1
  obtain rfl : args = #[v0, v1] := by cases args; simp_all
  obtain ⟨rfl, rfl⟩ := trodVars_none hV
  have lt0 : ∀ x ∈ p0, x.block < W.heap.size := by obtain ⟨m, hm⟩ := h0; exact DataW.trod_lt m _ _ _ hm
  obtain ⟨a0, rfl, w0⟩ := open_arr (k := .i32) Try.underlying23 Try.underlying21 (by kernel_rfl) (by kernel_rfl) (hval 0 23 v0 rfl rfl)
  have lt1 : ∀ x ∈ p1, x.block < W.heap.size := by obtain ⟨m, hm⟩ := h1; exact DataW.trod_lt m _ _ _ hm
  obtain ⟨a1, rfl, w1⟩ := open_arr (k := .i32) Try.underlying23 Try.underlying21 (by kernel_rfl) (by kernel_rfl) (hval 1 23 v1 rfl rfl)
  clear hA0 hval0
  obtain ⟨K, hK⟩ := Pure.KqTells a0 w0 a1 w1
  refine (law25_KqTells.ok hK W).mono fun e W' ⟨he, hs⟩ => ?_
  subst he
  exact ⟨_, rfl, _, _, _, [], _, [], hW', trodAll_mk1 (shut_bool Try.underlying4 _), (trodAll_cons_mk (Below.trod laidOut (by kernel_rfl) (of_decide_eq_true (by kernel_rfl)) h0 hs.below lt0) (trodAll_cons_mk (Below.trod laidOut (by kernel_rfl) (of_decide_eq_true (by kernel_rfl)) h1 hs.below lt1) trodAll_mk0)), rfl, hs.below.frame _, fun h => by cases h⟩
theorem over : Rows.kqTellsRow.holds Try.pinned (OpenSpec.ofChange Rows.kqTellsSpec) :=
  OpenClaim.holds_of_wide 10 Try.f10 rfl rfl rfl rfl rfl rfl rfl ⟨rfl, rfl, rfl, rfl, rfl⟩ rfl rfl rfl rfl rfl (by kernel_rfl) Try.func10 (by kernel_rfl)
    (of_decide_eq_true (by kernel_rfl)) (by unfold Func.isWrapper; first | (rw [if_pos (by decide +kernel)]; kernel_rfl) | (rw [if_neg (by decide +kernel)]; exact ⟨rfl, rfl⟩))
    (fun os started H enc' _ => lifted os started H enc')
end Go.Proofs.Ytijahfdldlmnhaa.kqTells
namespace Go.Proofs.Ytijahfdldlmnhaa
/-- The row. -/
theorem kqTells_holds : Rows.KqTellsSaid := kqTells.over
#print axioms kqTells_holds
end Go.Proofs.Ytijahfdldlmnhaa
