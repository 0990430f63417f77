/- apostille/apostillelaw22.DpackTells: whatever the input, the law answers true, and the input reads as it did. -/
import Derived.Test.YtblploekkjeolaaRows
import Derived.Test.YtblploekkjeolaaMr
import Derived.Test.YtblploekkjeolaaMp
import Derived.Test.YtblploekkjeolaaMn
import Derived.Test.YtblploekkjeolaaPureDpackTells
import Derived.Test.YtblploekkjeolaaVDpackTells
namespace Go.Proofs.Ytblploekkjeolaa.dpackTells
open Go.ChangeShapes Go.WideShapes Go.ChangeAt Go.RowKit Go.Mx
set_option linter.unusedVariables false
theorem own : ownKnob Try.prog.godebug = none := by kernel_rfl
theorem laidOut : laidOutB Try.prog = true := by kernel_rfl
set_option maxRecDepth 100000 in
theorem lifted (os : Os) (started : os.Started) (H : Type) (enc' : TypeId × Value → H) :
    ReturnsInHanded {} Try.checked os 4 .any (Rows.dpackTellsSpec.pre6 enc' Try.prog Try.f4 Rows.dpackTellsRow.domain false) (Rows.dpackTellsSpec.post enc' Try.prog Try.f4 false true false false) := by
  refine returnsInHanded_of_change (C := Try.checked) own started (by kernel_rfl) Try.func4
    (ChangeSpec.witness6 (enc := enc') (C := Try.checked) false ⟨#[], #[.int .i64 0, .agg ([.int .i64 0, .int .i64 0, .int .i32 0, .int .i64 0, .int .i32 0, .int .i32 0, .int .i64 0, .int .i64 0]).toArray, .agg (enc .i32 (zeroA 256)).toArray, .int .i32 0, .int .i32 0, .slice none 0 0, .slice none 0 0, .int .i64 0], []⟩ 8 (by kernel_rfl) (by kernel_rfl) (by kernel_rfl) (by kernel_rfl)) ?_
  intro W base args ds gs before hval0 hW hcnd _
  have hval : ∀ (j : Nat) t v, Try.f4.params[j]? = some t → args[j]? = some v → Value.okWide Try.prog W .any base t v := hval0
  have hW' := hW
  obtain ⟨p, q, hA0, hV, rfl, hfz, hnd⟩ := hW
  have hA : DataW.TrodAll enc' Try.prog W 0 (fun _ => true) true Try.f4.params.toList args.toList ds p := hA0
  rw [Try.params4] at hA hval
  obtain ⟨v0, vs0, d0, ds0, p0, q0, hargs, rfl, rfl, h0, r0⟩ := trodAll_cons hA
  obtain ⟨v1, vs1, d1, ds1, p1, q1, rfl, rfl, rfl, h1, r1⟩ := trodAll_cons r0
  obtain ⟨v2, vs2, d2, ds2, p2, q2, rfl, rfl, rfl, h2, r2⟩ := trodAll_cons r1
  obtain ⟨v3, vs3, d3, ds3, p3, q3, rfl, rfl, rfl, h3, r3⟩ := trodAll_cons r2
  obtain ⟨v4, vs4, d4, ds4, p4, q4, rfl, rfl, rfl, h4, r4⟩ := trodAll_cons r3
  obtain ⟨v5, vs5, d5, ds5, p5, q5, rfl, rfl, rfl, h5, r5⟩ := trodAll_cons r4
  obtain ⟨v6, vs6, d6, ds6, p6, q6, rfl, rfl, rfl, h6, r6⟩ := trodAll_cons r5
  obtain ⟨v7, vs7, d7, ds7, p7, q7, rfl, rfl, rfl, h7, r7⟩ := trodAll_cons r6
  obtain ⟨rfl, rfl, rfl⟩ := trodAll_nil r7
  obtain rfl : args = #[v0, v1, v2, v3, v4, v5, v6, v7] := by cases args; simp_all
  obtain ⟨rfl, rfl⟩ := trodVars_none hV
  obtain ⟨a0, rfl, rfl, rfl, w0⟩ := open_int Try.underlying3 (hval 0 3 v0 rfl rfl) h0
  have lt1 : ∀ x ∈ p1, x.block < W.heap.size := by obtain ⟨m, hm⟩ := h1; exact DataW.trod_lt m _ _ _ hm
  obtain ⟨pre1, rfl, fp1⟩ := Go.Mx.open_flat [some .i64, some .i64, some .i32, some .i64, some .i32, some .i32, some .i64, some .i64] [3, 3, 21, 3, 21, 21, 3, 3] Try.underlying23 (by kernel_rfl) (by kernel_rfl) rfl (typeK_cons Try.underlying3 (typeK_cons Try.underlying3 (typeK_cons Try.underlying21 (typeK_cons Try.underlying3 (typeK_cons Try.underlying21 (typeK_cons Try.underlying21 (typeK_cons Try.underlying3 (typeK_cons Try.underlying3 typeK_nil)))))))) (hval 1 23 v1 rfl rfl)
  obtain ⟨a1_0, _, rfl, r_a1_0, a1_1, _, rfl, r_a1_1, a1_2, _, rfl, r_a1_2, a1_3, _, rfl, r_a1_3, a1_4, _, rfl, r_a1_4, a1_5, _, rfl, r_a1_5, a1_6, _, rfl, r_a1_6, a1_7, _, rfl, r_a1_7, rfl⟩ := fp1
  have lt2 : ∀ x ∈ p2, x.block < W.heap.size := by obtain ⟨m, hm⟩ := h2; exact DataW.trod_lt m _ _ _ hm
  obtain ⟨a2, rfl, w2⟩ := Go.Mx.open_arr (k := .i32) Try.underlying40 Try.underlying21 (by kernel_rfl) (by kernel_rfl) (hval 2 40 v2 rfl rfl)
  obtain ⟨a3, rfl, rfl, rfl, w3⟩ := open_int Try.underlying21 (hval 3 21 v3 rfl rfl) h3
  obtain ⟨a4, rfl, rfl, rfl, w4⟩ := open_int Try.underlying21 (hval 4 21 v4 rfl rfl) h4
  obtain ⟨A5, n5, c5, rfl⟩ := okWide_slice Try.underlying24 (hval 5 24 v5 rfl rfl)
  have lt5 : ∀ x ∈ p5, x.block < W.heap.size := by obtain ⟨m, hm⟩ := h5; exact DataW.trod_lt m _ _ _ hm
  obtain ⟨a5, w5, z5⟩ := Go.Mx.open_row (k := .u8) Try.underlying24 Try.underlying5 (by kernel_rfl) h5
  obtain ⟨A6, n6, c6, rfl⟩ := okWide_slice Try.underlying25 (hval 6 25 v6 rfl rfl)
  have lt6 : ∀ x ∈ p6, x.block < W.heap.size := by obtain ⟨m, hm⟩ := h6; exact DataW.trod_lt m _ _ _ hm
  obtain ⟨a6, w6, z6⟩ := Go.Mx.open_rowA (n := 256) (k := .i32) (by decide) Try.underlying25 Try.underlying40 Try.underlying21 (by kernel_rfl) (by kernel_rfl) h6
  obtain ⟨a7, rfl, rfl, rfl, w7⟩ := open_int Try.underlying3 (hval 7 3 v7 rfl rfl) h7
  clear hA0 hval0
  obtain ⟨K, hK⟩ := Pure.DpackTells a0 (inR_of_wf w0) a1_0 a1_1 a1_2 a1_3 a1_4 a1_5 a1_6 a1_7 r_a1_0 r_a1_1 r_a1_2 r_a1_3 r_a1_4 r_a1_5 r_a1_6 r_a1_7 a2 w2 a3 (inR_of_wf w3) a4 (inR_of_wf w4) a5 z5 a6 z6 a7 (inR_of_wf w7)
  refine (law22_DpackTells.ok hK W w5 w6).mono fun e W' ⟨he, hs⟩ => ?_
  subst he
  exact ⟨_, rfl, _, _, _, [], _, [], hW', trodAll_mk1 (shut_bool Try.underlying4 _), (trodAll_cons_mk (shut_int Try.underlying3 w0) (trodAll_cons_mk (Below.trod laidOut (by kernel_rfl) (of_decide_eq_true (by kernel_rfl)) h1 hs.below lt1) (trodAll_cons_mk (Below.trod laidOut (by kernel_rfl) (of_decide_eq_true (by kernel_rfl)) h2 hs.below lt2) (trodAll_cons_mk (shut_int Try.underlying21 w3) (trodAll_cons_mk (shut_int Try.underlying21 w4) (trodAll_cons_mk (Below.trod laidOut (by kernel_rfl) (of_decide_eq_true (by kernel_rfl)) h5 hs.below lt5) (trodAll_cons_mk (Below.trod laidOut (by kernel_rfl) (of_decide_eq_true (by kernel_rfl)) h6 hs.below lt6) (trodAll_cons_mk (shut_int Try.underlying3 w7) trodAll_mk0)))))))), rfl, hs.below.frame _, fun h => by cases h⟩
theorem over : Rows.dpackTellsRow.holds Try.pinned (OpenSpec.ofChange Rows.dpackTellsSpec) :=
  OpenClaim.holds_of_wide 4 Try.f4 rfl rfl rfl rfl rfl rfl rfl ⟨rfl, rfl, rfl, rfl, rfl⟩ rfl rfl rfl rfl rfl (by kernel_rfl) Try.func4 (by kernel_rfl)
    (of_decide_eq_true (by kernel_rfl)) (by unfold Func.isWrapper; first | (rw [if_pos (by decide +kernel)]; kernel_rfl) | (rw [if_neg (by decide +kernel)]; exact ⟨rfl, rfl⟩))
    (fun os started H enc' _ => lifted os started H enc')
end Go.Proofs.Ytblploekkjeolaa.dpackTells
namespace Go.Proofs.Ytblploekkjeolaa
/-- The row. -/
theorem dpackTells_holds : Rows.DpackTellsSaid := dpackTells.over
#print axioms dpackTells_holds
end Go.Proofs.Ytblploekkjeolaa
