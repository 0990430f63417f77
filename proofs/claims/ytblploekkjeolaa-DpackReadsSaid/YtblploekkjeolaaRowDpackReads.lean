/- apostille/apostillelaw22.DpackReads: whatever the input, the law answers true, and the input reads as it did. -/
import Derived.Test.YtblploekkjeolaaRows
import Derived.Test.YtblploekkjeolaaMr
import Derived.Test.YtblploekkjeolaaMp
import Derived.Test.YtblploekkjeolaaMn
import Derived.Test.YtblploekkjeolaaMu
import Derived.Test.YtblploekkjeolaaPureDpackReads
import Derived.Test.YtblploekkjeolaaVDpackReads
import Derived.SizedLaws
namespace Go.Proofs.Ytblploekkjeolaa.dpackReads
open Go.ChangeShapes Go.WideShapes Go.ChangeAt Go.RowKit Go.Mx
set_option linter.unusedVariables false
theorem own : ownKnob Try.prog.godebug = none := by kernel_rfl
theorem laidOut : laidOutB Try.prog = true := by kernel_rfl
set_option maxRecDepth 100000 in
theorem lifted (os : Os) (started : os.Started) (H : Type) (enc' : TypeId × Value → H) :
    ReturnsInHanded {} Try.checked os 5 .any (Rows.dpackReadsSpec.pre6 enc' Try.prog Try.f5 Rows.dpackReadsRow.domain false) (Rows.dpackReadsSpec.post enc' Try.prog Try.f5 false true false false) := by
  refine returnsInHanded_of_change (C := Try.checked) own started (by kernel_rfl) Try.func5
    (ChangeSpec.witness6 (enc := enc') (C := Try.checked) false ⟨#[], #[.int .u8 0, .agg ([.int .i64 0, .int .i64 0, .int .i32 0, .int .i64 0, .int .i32 0, .int .i32 0, .int .i64 0, .int .i64 0]).toArray, .slice none 0 0], []⟩ 8 (by kernel_rfl) (by kernel_rfl) (by kernel_rfl) (by kernel_rfl)) ?_
  intro W base args ds gs before hval0 hW hcnd _
  have hval : ∀ (j : Nat) t v, Try.f5.params[j]? = some t → args[j]? = some v → Value.okWide Try.prog W .any base t v := hval0
  have hW' := hW
  obtain ⟨p, q, hA0, hV, rfl, hfz, hnd⟩ := hW
  have hA : DataW.TrodAll enc' Try.prog W 0 (fun _ => true) true Try.f5.params.toList args.toList ds p := hA0
  rw [Try.params5] at hA hval
  obtain ⟨v0, vs0, d0, ds0, p0, q0, hargs, rfl, rfl, h0, r0⟩ := trodAll_cons hA
  obtain ⟨v1, vs1, d1, ds1, p1, q1, rfl, rfl, rfl, h1, r1⟩ := trodAll_cons r0
  obtain ⟨v2, vs2, d2, ds2, p2, q2, rfl, rfl, rfl, h2, r2⟩ := trodAll_cons r1
  obtain ⟨rfl, rfl, rfl⟩ := trodAll_nil r2
  obtain rfl : args = #[v0, v1, v2] := by cases args; simp_all
  obtain ⟨rfl, rfl⟩ := trodVars_none hV
  obtain ⟨a0, rfl, rfl, rfl, w0⟩ := open_int Try.underlying5 (hval 0 5 v0 rfl rfl) h0
  have lt1 : ∀ x ∈ p1, x.block < W.heap.size := by obtain ⟨m, hm⟩ := h1; exact DataW.trod_lt m _ _ _ hm
  obtain ⟨pre1, rfl, fp1⟩ := Go.Mx.open_flat [some .i64, some .i64, some .i32, some .i64, some .i32, some .i32, some .i64, some .i64] [3, 3, 21, 3, 21, 21, 3, 3] Try.underlying23 (by kernel_rfl) (by kernel_rfl) rfl (typeK_cons Try.underlying3 (typeK_cons Try.underlying3 (typeK_cons Try.underlying21 (typeK_cons Try.underlying3 (typeK_cons Try.underlying21 (typeK_cons Try.underlying21 (typeK_cons Try.underlying3 (typeK_cons Try.underlying3 typeK_nil)))))))) (hval 1 23 v1 rfl rfl)
  obtain ⟨a1_0, _, rfl, r_a1_0, a1_1, _, rfl, r_a1_1, a1_2, _, rfl, r_a1_2, a1_3, _, rfl, r_a1_3, a1_4, _, rfl, r_a1_4, a1_5, _, rfl, r_a1_5, a1_6, _, rfl, r_a1_6, a1_7, _, rfl, r_a1_7, rfl⟩ := fp1
  obtain ⟨A2, n2, c2, rfl⟩ := okWide_slice Try.underlying24 (hval 2 24 v2 rfl rfl)
  have lt2 : ∀ x ∈ p2, x.block < W.heap.size := by obtain ⟨m, hm⟩ := h2; exact DataW.trod_lt m _ _ _ hm
  obtain ⟨a2, w2, z2⟩ := Go.Mx.open_row (k := .u8) Try.underlying24 Try.underlying5 (by kernel_rfl) h2
  clear hA0 hval0
  obtain ⟨K, hK⟩ := Pure.DpackReads a0 (inR_of_wf w0) a1_0 a1_1 a1_2 a1_3 a1_4 a1_5 a1_6 a1_7 r_a1_0 r_a1_1 r_a1_2 r_a1_3 r_a1_4 r_a1_5 r_a1_6 r_a1_7 a2 z2
  refine (law22_DpackReads.ok hK W w2).mono fun e W' ⟨he, hs⟩ => ?_
  subst he
  exact ⟨_, rfl, _, _, _, [], _, [], hW', trodAll_mk1 (shut_bool Try.underlying4 _), (trodAll_cons_mk (shut_int Try.underlying5 w0) (trodAll_cons_mk (Below.trod laidOut (by kernel_rfl) (of_decide_eq_true (by kernel_rfl)) h1 hs.below lt1) (trodAll_cons_mk (Below.trod laidOut (by kernel_rfl) (of_decide_eq_true (by kernel_rfl)) h2 hs.below lt2) trodAll_mk0))), rfl, hs.below.frame _, fun h => by cases h⟩
theorem over : Rows.dpackReadsRow.holds Try.pinned (OpenSpec.ofChange Rows.dpackReadsSpec) :=
  OpenClaim.holds_of_wide 5 Try.f5 rfl rfl rfl rfl rfl rfl rfl ⟨rfl, rfl, rfl, rfl, rfl⟩ rfl rfl rfl rfl rfl (by kernel_rfl) Try.func5 (by kernel_rfl)
    (of_decide_eq_true (by kernel_rfl)) (by unfold Func.isWrapper; first | (rw [if_pos (by decide +kernel)]; kernel_rfl) | (rw [if_neg (by decide +kernel)]; exact ⟨rfl, rfl⟩))
    (fun os started H enc' _ => lifted os started H enc')
end Go.Proofs.Ytblploekkjeolaa.dpackReads
namespace Go.Proofs.Ytblploekkjeolaa
/-- The row. -/
theorem dpackReads_holds : Rows.DpackReadsSaid := dpackReads.over
#print axioms dpackReads_holds
end Go.Proofs.Ytblploekkjeolaa
