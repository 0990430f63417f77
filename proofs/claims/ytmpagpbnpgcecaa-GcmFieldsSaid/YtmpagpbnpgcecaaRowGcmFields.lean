/- apostille/apostillelaw12.GcmFields: whatever the input, the law answers true, and the input reads as it did. -/
import Derived.Test.YtmpagpbnpgcecaaRows
import Derived.Test.YtmpagpbnpgcecaaMr
import Derived.Test.YtmpagpbnpgcecaaMp
import Derived.Test.YtmpagpbnpgcecaaMn
import Derived.Test.YtmpagpbnpgcecaaMu
import Derived.Test.YtmpagpbnpgcecaaPureGcmFields
import Derived.Test.YtmpagpbnpgcecaaVGcmFields
import Derived.SizedLaws
namespace Go.Proofs.Ytmpagpbnpgcecaa.gcmFields
open Go.ChangeShapes Go.WideShapes Go.ChangeAt Go.RowKit Go.Mx
set_option linter.unusedVariables false
theorem own : ownKnob Try.prog.godebug = none := by kernel_rfl
theorem laidOut : laidOutB Try.prog = true := by kernel_rfl
set_option maxRecDepth 100000 in
theorem lifted (os : Os) (started : os.Started) (H : Type) (enc' : TypeId × Value → H) :
    ReturnsInHanded {} Try.checked os 11 .any (Rows.gcmFieldsSpec.pre6 enc' Try.prog Try.f11 Rows.gcmFieldsRow.domain false) (Rows.gcmFieldsSpec.post enc' Try.prog Try.f11 false true false false) := by
  refine returnsInHanded_of_change (C := Try.checked) own started (by kernel_rfl) Try.func11
    (ChangeSpec.witness6 (enc := enc') (C := Try.checked) false ⟨#[], #[.agg (enc .u8 (zeroA 16)).toArray, .agg (enc .u8 (zeroA 16)).toArray, .agg (enc .u8 (zeroA 16)).toArray, .slice none 0 0, .slice none 0 0], []⟩ 8 (by kernel_rfl) (by kernel_rfl) (by kernel_rfl) (by kernel_rfl)) ?_
  intro W base args ds gs before hval0 hW hcnd _
  have hval : ∀ (j : Nat) t v, Try.f11.params[j]? = some t → args[j]? = some v → Value.okWide Try.prog W .any base t v := hval0
  have hW' := hW
  obtain ⟨p, q, hA0, hV, rfl, hfz, hnd⟩ := hW
  have hA : DataW.TrodAll enc' Try.prog W 0 (fun _ => true) true Try.f11.params.toList args.toList ds p := hA0
  rw [Try.params11] at hA hval
  obtain ⟨v0, vs0, d0, ds0, p0, q0, hargs, rfl, rfl, h0, r0⟩ := trodAll_cons hA
  obtain ⟨v1, vs1, d1, ds1, p1, q1, rfl, rfl, rfl, h1, r1⟩ := trodAll_cons r0
  obtain ⟨v2, vs2, d2, ds2, p2, q2, rfl, rfl, rfl, h2, r2⟩ := trodAll_cons r1
  obtain ⟨v3, vs3, d3, ds3, p3, q3, rfl, rfl, rfl, h3, r3⟩ := trodAll_cons r2
  obtain ⟨v4, vs4, d4, ds4, p4, q4, rfl, rfl, rfl, h4, r4⟩ := trodAll_cons r3
  obtain ⟨rfl, rfl, rfl⟩ := trodAll_nil r4
  obtain rfl : args = #[v0, v1, v2, v3, v4] := by cases args; simp_all
  obtain ⟨rfl, rfl⟩ := trodVars_none hV
  have lt0 : ∀ x ∈ p0, x.block < W.heap.size := by obtain ⟨m, hm⟩ := h0; exact DataW.trod_lt m _ _ _ hm
  obtain ⟨a0, rfl, w0⟩ := Go.Mx.open_arr (k := .u8) Try.underlying42 Try.underlying5 (by kernel_rfl) (by kernel_rfl) (hval 0 42 v0 rfl rfl)
  have lt1 : ∀ x ∈ p1, x.block < W.heap.size := by obtain ⟨m, hm⟩ := h1; exact DataW.trod_lt m _ _ _ hm
  obtain ⟨a1, rfl, w1⟩ := Go.Mx.open_arr (k := .u8) Try.underlying42 Try.underlying5 (by kernel_rfl) (by kernel_rfl) (hval 1 42 v1 rfl rfl)
  have lt2 : ∀ x ∈ p2, x.block < W.heap.size := by obtain ⟨m, hm⟩ := h2; exact DataW.trod_lt m _ _ _ hm
  obtain ⟨a2, rfl, w2⟩ := Go.Mx.open_arr (k := .u8) Try.underlying42 Try.underlying5 (by kernel_rfl) (by kernel_rfl) (hval 2 42 v2 rfl rfl)
  obtain ⟨A3, n3, c3, rfl⟩ := okWide_slice Try.underlying26 (hval 3 26 v3 rfl rfl)
  have lt3 : ∀ x ∈ p3, x.block < W.heap.size := by obtain ⟨m, hm⟩ := h3; exact DataW.trod_lt m _ _ _ hm
  obtain ⟨a3, w3, z3⟩ := Go.Mx.open_row (k := .u8) Try.underlying26 Try.underlying5 (by kernel_rfl) h3
  obtain ⟨A4, n4, c4, rfl⟩ := okWide_slice Try.underlying26 (hval 4 26 v4 rfl rfl)
  have lt4 : ∀ x ∈ p4, x.block < W.heap.size := by obtain ⟨m, hm⟩ := h4; exact DataW.trod_lt m _ _ _ hm
  obtain ⟨a4, w4, z4⟩ := Go.Mx.open_row (k := .u8) Try.underlying26 Try.underlying5 (by kernel_rfl) h4
  clear hA0 hval0
  obtain ⟨K, hK⟩ := Pure.GcmFields a0 w0 a1 w1 a2 w2 a3 z3 a4 z4
  refine (law12_GcmFields.ok hK W w3 w4).mono fun e W' ⟨he, hs⟩ => ?_
  subst he
  exact ⟨_, rfl, _, _, _, [], _, [], hW', trodAll_mk1 (shut_bool Try.underlying4 _), (trodAll_cons_mk (Below.trod laidOut (by kernel_rfl) (of_decide_eq_true (by kernel_rfl)) h0 hs.below lt0) (trodAll_cons_mk (Below.trod laidOut (by kernel_rfl) (of_decide_eq_true (by kernel_rfl)) h1 hs.below lt1) (trodAll_cons_mk (Below.trod laidOut (by kernel_rfl) (of_decide_eq_true (by kernel_rfl)) h2 hs.below lt2) (trodAll_cons_mk (Below.trod laidOut (by kernel_rfl) (of_decide_eq_true (by kernel_rfl)) h3 hs.below lt3) (trodAll_cons_mk (Below.trod laidOut (by kernel_rfl) (of_decide_eq_true (by kernel_rfl)) h4 hs.below lt4) trodAll_mk0))))), rfl, hs.below.frame _, fun h => by cases h⟩
theorem over : Rows.gcmFieldsRow.holds Try.pinned (OpenSpec.ofChange Rows.gcmFieldsSpec) :=
  OpenClaim.holds_of_wide 11 Try.f11 rfl rfl rfl rfl rfl rfl rfl ⟨rfl, rfl, rfl, rfl, rfl⟩ rfl rfl rfl rfl rfl (by kernel_rfl) Try.func11 (by kernel_rfl)
    (of_decide_eq_true (by kernel_rfl)) (by unfold Func.isWrapper; first | (rw [if_pos (by decide +kernel)]; kernel_rfl) | (rw [if_neg (by decide +kernel)]; exact ⟨rfl, rfl⟩))
    (fun os started H enc' _ => lifted os started H enc')
end Go.Proofs.Ytmpagpbnpgcecaa.gcmFields
namespace Go.Proofs.Ytmpagpbnpgcecaa
/-- The row. -/
theorem gcmFields_holds : Rows.GcmFieldsSaid := gcmFields.over
#print axioms gcmFields_holds
end Go.Proofs.Ytmpagpbnpgcecaa
