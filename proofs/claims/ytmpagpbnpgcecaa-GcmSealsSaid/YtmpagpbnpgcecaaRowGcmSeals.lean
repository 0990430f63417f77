/- apostille/apostillelaw12.GcmSeals: whatever the input, the law answers true, and the input reads as it did. -/
import Derived.Test.YtmpagpbnpgcecaaRows
import Derived.Test.YtmpagpbnpgcecaaMr
import Derived.Test.YtmpagpbnpgcecaaMp
import Derived.Test.YtmpagpbnpgcecaaMn
import Derived.Test.YtmpagpbnpgcecaaMu
import Derived.Test.YtmpagpbnpgcecaaPureGcmSeals
import Derived.Test.YtmpagpbnpgcecaaVGcmSeals
import Derived.SizedLaws
namespace Go.Proofs.Ytmpagpbnpgcecaa.gcmSeals
open Go.ChangeShapes Go.WideShapes Go.ChangeAt Go.RowKit Go.Mx
set_option linter.unusedVariables false
theorem own : ownKnob Try.prog.godebug = none := by kernel_rfl
theorem laidOut : laidOutB Try.prog = true := by kernel_rfl
set_option maxRecDepth 100000 in
theorem lifted (os : Os) (started : os.Started) (H : Type) (enc' : TypeId × Value → H) :
    ReturnsInHanded {} Try.checked os 7 .any (Rows.gcmSealsSpec.pre6 enc' Try.prog Try.f7 Rows.gcmSealsRow.domain false) (Rows.gcmSealsSpec.post enc' Try.prog Try.f7 false true false false) := by
  refine returnsInHanded_of_change (C := Try.checked) own started (by kernel_rfl) Try.func7
    (ChangeSpec.witness6 (enc := enc') (C := Try.checked) false ⟨#[], #[.slice none 0 0, .slice none 0 0, .slice none 0 0, .slice none 0 0], []⟩ 8 (by kernel_rfl) (by kernel_rfl) (by kernel_rfl) (by kernel_rfl)) ?_
  intro W base args ds gs before hval0 hW hcnd _
  have hval : ∀ (j : Nat) t v, Try.f7.params[j]? = some t → args[j]? = some v → Value.okWide Try.prog W .any base t v := hval0
  have hW' := hW
  obtain ⟨p, q, hA0, hV, rfl, hfz, hnd⟩ := hW
  have hA : DataW.TrodAll enc' Try.prog W 0 (fun _ => true) true Try.f7.params.toList args.toList ds p := hA0
  rw [Try.params7] at hA hval
  obtain ⟨v0, vs0, d0, ds0, p0, q0, hargs, rfl, rfl, h0, r0⟩ := trodAll_cons hA
  obtain ⟨v1, vs1, d1, ds1, p1, q1, rfl, rfl, rfl, h1, r1⟩ := trodAll_cons r0
  obtain ⟨v2, vs2, d2, ds2, p2, q2, rfl, rfl, rfl, h2, r2⟩ := trodAll_cons r1
  obtain ⟨v3, vs3, d3, ds3, p3, q3, rfl, rfl, rfl, h3, r3⟩ := trodAll_cons r2
  obtain ⟨rfl, rfl, rfl⟩ := trodAll_nil r3
  obtain rfl : args = #[v0, v1, v2, v3] := by cases args; simp_all
  obtain ⟨rfl, rfl⟩ := trodVars_none hV
  obtain ⟨A0, n0, c0, rfl⟩ := okWide_slice Try.underlying26 (hval 0 26 v0 rfl rfl)
  have lt0 : ∀ x ∈ p0, x.block < W.heap.size := by obtain ⟨m, hm⟩ := h0; exact DataW.trod_lt m _ _ _ hm
  obtain ⟨a0, w0, z0⟩ := Go.Mx.open_row (k := .u8) Try.underlying26 Try.underlying5 (by kernel_rfl) h0
  obtain ⟨A1, n1, c1, rfl⟩ := okWide_slice Try.underlying26 (hval 1 26 v1 rfl rfl)
  have lt1 : ∀ x ∈ p1, x.block < W.heap.size := by obtain ⟨m, hm⟩ := h1; exact DataW.trod_lt m _ _ _ hm
  obtain ⟨a1, w1, z1⟩ := Go.Mx.open_row (k := .u8) Try.underlying26 Try.underlying5 (by kernel_rfl) h1
  obtain ⟨A2, n2, c2, rfl⟩ := okWide_slice Try.underlying26 (hval 2 26 v2 rfl rfl)
  have lt2 : ∀ x ∈ p2, x.block < W.heap.size := by obtain ⟨m, hm⟩ := h2; exact DataW.trod_lt m _ _ _ hm
  obtain ⟨a2, w2, z2⟩ := Go.Mx.open_row (k := .u8) Try.underlying26 Try.underlying5 (by kernel_rfl) h2
  obtain ⟨A3, n3, c3, rfl⟩ := okWide_slice Try.underlying26 (hval 3 26 v3 rfl rfl)
  have lt3 : ∀ x ∈ p3, x.block < W.heap.size := by obtain ⟨m, hm⟩ := h3; exact DataW.trod_lt m _ _ _ hm
  obtain ⟨a3, w3, z3⟩ := Go.Mx.open_row (k := .u8) Try.underlying26 Try.underlying5 (by kernel_rfl) h3
  clear hA0 hval0
  obtain ⟨K, hK⟩ := Pure.GcmSeals a0 z0 a1 z1 a2 z2 a3 z3
  refine (law12_GcmSeals.ok hK W w0 w1 w2 w3).mono fun e W' ⟨he, hs⟩ => ?_
  subst he
  exact ⟨_, rfl, _, _, _, [], _, [], hW', trodAll_mk1 (shut_bool Try.underlying4 _), (trodAll_cons_mk (Below.trod laidOut (by kernel_rfl) (of_decide_eq_true (by kernel_rfl)) h0 hs.below lt0) (trodAll_cons_mk (Below.trod laidOut (by kernel_rfl) (of_decide_eq_true (by kernel_rfl)) h1 hs.below lt1) (trodAll_cons_mk (Below.trod laidOut (by kernel_rfl) (of_decide_eq_true (by kernel_rfl)) h2 hs.below lt2) (trodAll_cons_mk (Below.trod laidOut (by kernel_rfl) (of_decide_eq_true (by kernel_rfl)) h3 hs.below lt3) trodAll_mk0)))), rfl, hs.below.frame _, fun h => by cases h⟩
theorem over : Rows.gcmSealsRow.holds Try.pinned (OpenSpec.ofChange Rows.gcmSealsSpec) :=
  OpenClaim.holds_of_wide 7 Try.f7 rfl rfl rfl rfl rfl rfl rfl ⟨rfl, rfl, rfl, rfl, rfl⟩ rfl rfl rfl rfl rfl (by kernel_rfl) Try.func7 (by kernel_rfl)
    (of_decide_eq_true (by kernel_rfl)) (by unfold Func.isWrapper; first | (rw [if_pos (by decide +kernel)]; kernel_rfl) | (rw [if_neg (by decide +kernel)]; exact ⟨rfl, rfl⟩))
    (fun os started H enc' _ => lifted os started H enc')
end Go.Proofs.Ytmpagpbnpgcecaa.gcmSeals
namespace Go.Proofs.Ytmpagpbnpgcecaa
/-- The row. -/
theorem gcmSeals_holds : Rows.GcmSealsSaid := gcmSeals.over
#print axioms gcmSeals_holds
end Go.Proofs.Ytmpagpbnpgcecaa
