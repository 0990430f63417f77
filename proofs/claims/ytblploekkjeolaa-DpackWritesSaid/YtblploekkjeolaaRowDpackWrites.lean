/- apostille/apostillelaw22.DpackWrites: whatever the input, the law answers true, and the input reads as it did. -/
import Derived.Test.YtblploekkjeolaaRows
import Derived.Test.YtblploekkjeolaaMr
import Derived.Test.YtblploekkjeolaaMp
import Derived.Test.YtblploekkjeolaaMn
import Derived.Test.YtblploekkjeolaaMu
import Derived.Test.YtblploekkjeolaaPureDpackWrites
import Derived.Test.YtblploekkjeolaaVDpackWrites
import Derived.SizedLaws
namespace Go.Proofs.Ytblploekkjeolaa.dpackWrites
open Go.ChangeShapes Go.WideShapes Go.ChangeAt Go.RowKit Go.Mx
set_option linter.unusedVariables false
theorem own : ownKnob Try.prog.godebug = none := by kernel_rfl
theorem laidOut : laidOutB Try.prog = true := by kernel_rfl
set_option maxRecDepth 100000 in
theorem lifted (os : Os) (started : os.Started) (H : Type) (enc' : TypeId × Value → H) :
    ReturnsInHanded {} Try.checked os 3 .any (Rows.dpackWritesSpec.pre6 enc' Try.prog Try.f3 Rows.dpackWritesRow.domain false) (Rows.dpackWritesSpec.post enc' Try.prog Try.f3 false true false false) := by
  refine returnsInHanded_of_change_sized (C := Try.checked) own started (by kernel_rfl) Try.func3
    (ChangeSpec.witness6 (enc := enc') (C := Try.checked) false ⟨#[], #[.int .u8 0, .agg ([.int .i64 0, .int .i64 0, .int .i32 0, .int .i64 0, .int .i32 0, .int .i32 0, .int .i64 0, .int .i64 0]).toArray, .agg #[.slice none 0 0, .slice none 0 0], .agg #[.slice none 0 0, .slice none 0 0, .slice none 0 0, .slice none 0 0, .slice none 0 0, .slice none 0 0], .agg #[.slice none 0 0, .slice none 0 0, .slice none 0 0]], []⟩ 8 (by kernel_rfl) (by kernel_rfl) (by kernel_rfl) (by kernel_rfl)) ?_
  intro W base args ds gs before hval0 hW hcnd hsz0 _
  have hval : ∀ (j : Nat) t v, Try.f3.params[j]? = some t → args[j]? = some v → Value.okWide Try.prog W .any base t v := hval0
  have hW' := hW
  obtain ⟨p, q, hA0, hV, rfl, hfz, hnd⟩ := hW
  have hA : DataW.TrodAll enc' Try.prog W 0 (fun _ => true) true Try.f3.params.toList args.toList ds p := hA0
  rw [Try.params3] at hA hval
  have hsz : (DataW.weightsEach Try.prog (Try.f3.params.toList ++ Rows.dpackWritesSpec.plain.varTypes Try.prog) (ds ++ gs)).all (· ≤ reachBytes) = true := hsz0
  rw [Try.params3] at hsz
  obtain ⟨v0, vs0, d0, ds0, p0, q0, hargs, rfl, rfl, h0, r0⟩ := trodAll_cons hA
  obtain ⟨v1, vs1, d1, ds1, p1, q1, rfl, rfl, rfl, h1, r1⟩ := trodAll_cons r0
  obtain ⟨v2, vs2, d2, ds2, p2, q2, rfl, rfl, rfl, h2, r2⟩ := trodAll_cons r1
  obtain ⟨v3, vs3, d3, ds3, p3, q3, rfl, rfl, rfl, h3, r3⟩ := trodAll_cons r2
  obtain ⟨v4, vs4, d4, ds4, p4, q4, rfl, rfl, rfl, h4, r4⟩ := trodAll_cons r3
  obtain ⟨rfl, rfl, rfl⟩ := trodAll_nil r4
  obtain rfl : args = #[v0, v1, v2, v3, v4] := by cases args; simp_all
  obtain ⟨rfl, rfl⟩ := trodVars_none hV
  obtain ⟨a0, rfl, rfl, rfl, w0⟩ := open_int Try.underlying5 (hval 0 5 v0 rfl rfl) h0
  have lt1 : ∀ x ∈ p1, x.block < W.heap.size := by obtain ⟨m, hm⟩ := h1; exact DataW.trod_lt m _ _ _ hm
  obtain ⟨pre1, rfl, fp1⟩ := Go.Mx.open_flat [some .i64, some .i64, some .i32, some .i64, some .i32, some .i32, some .i64, some .i64] [3, 3, 21, 3, 21, 21, 3, 3] Try.underlying23 (by kernel_rfl) (by kernel_rfl) rfl (typeK_cons Try.underlying3 (typeK_cons Try.underlying3 (typeK_cons Try.underlying21 (typeK_cons Try.underlying3 (typeK_cons Try.underlying21 (typeK_cons Try.underlying21 (typeK_cons Try.underlying3 (typeK_cons Try.underlying3 typeK_nil)))))))) (hval 1 23 v1 rfl rfl)
  obtain ⟨a1_0, _, rfl, r_a1_0, a1_1, _, rfl, r_a1_1, a1_2, _, rfl, r_a1_2, a1_3, _, rfl, r_a1_3, a1_4, _, rfl, r_a1_4, a1_5, _, rfl, r_a1_5, a1_6, _, rfl, r_a1_6, a1_7, _, rfl, r_a1_7, rfl⟩ := fp1
  have lt2 : ∀ x ∈ p2, x.block < W.heap.size := by obtain ⟨m, hm⟩ := h2; exact DataW.trod_lt m _ _ _ hm
  obtain ⟨hs2, hl2, rfl, parts2, rfl, hq2⟩ := Go.Mx.open_sls [24, 25] Try.underlying27 (by kernel_rfl) (by kernel_rfl) (hval 2 27 v2 rfl rfl) h2
  obtain ⟨A2_0, n2_0, c2_0, hs2_0, rfl, hl2_0⟩ := Go.Mx.hs_cons hl2
  obtain ⟨A2_1, n2_1, c2_1, hs2_1, rfl, hl2_1⟩ := Go.Mx.hs_cons hl2_0
  obtain rfl : hs2_1 = [] := List.eq_nil_of_length_eq_zero hl2_1
  obtain ⟨dd2_0, dp2_0, hp2_0, hh2_0⟩ := hq2 0 _ _ rfl rfl
  obtain ⟨a2_0, w2_0, z2_0⟩ := Go.Mx.open_row (k := .u8) Try.underlying24 Try.underlying5 (by kernel_rfl) hh2_0
  obtain ⟨dd2_1, dp2_1, hp2_1, hh2_1⟩ := hq2 1 _ _ rfl rfl
  obtain ⟨a2_1, w2_1, z2_1⟩ := Go.Mx.open_rowA (n := 256) (k := .i32) (by decide) Try.underlying25 Try.underlying40 Try.underlying21 (by kernel_rfl) (by kernel_rfl) hh2_1
  have y2_0 : a2_0.length ≤ 140737488351232 := by have q0 := sized_agg hsz (j := 2) (t := 27) rfl rfl Try.underlying27; have q1 := sized_any q0 (j := 0) (t := 24) rfl hp2_0 Try.underlying24 (by decide +kernel) hh2_0; have q2 := w2_0.length; omega
  have y2_1 : a2_1.length ≤ 140737488351232 := by have q0 := sized_agg hsz (j := 2) (t := 27) rfl rfl Try.underlying27; have q1 := sized_any q0 (j := 1) (t := 25) rfl hp2_1 Try.underlying25 (by decide +kernel) hh2_1; have q2 := w2_1.length; omega
  have lt3 : ∀ x ∈ p3, x.block < W.heap.size := by obtain ⟨m, hm⟩ := h3; exact DataW.trod_lt m _ _ _ hm
  obtain ⟨hs3, hl3, rfl, parts3, rfl, hq3⟩ := Go.Mx.open_sls [24, 24, 24, 25, 25, 25] Try.underlying29 (by kernel_rfl) (by kernel_rfl) (hval 3 29 v3 rfl rfl) h3
  obtain ⟨A3_0, n3_0, c3_0, hs3_0, rfl, hl3_0⟩ := Go.Mx.hs_cons hl3
  obtain ⟨A3_1, n3_1, c3_1, hs3_1, rfl, hl3_1⟩ := Go.Mx.hs_cons hl3_0
  obtain ⟨A3_2, n3_2, c3_2, hs3_2, rfl, hl3_2⟩ := Go.Mx.hs_cons hl3_1
  obtain ⟨A3_3, n3_3, c3_3, hs3_3, rfl, hl3_3⟩ := Go.Mx.hs_cons hl3_2
  obtain ⟨A3_4, n3_4, c3_4, hs3_4, rfl, hl3_4⟩ := Go.Mx.hs_cons hl3_3
  obtain ⟨A3_5, n3_5, c3_5, hs3_5, rfl, hl3_5⟩ := Go.Mx.hs_cons hl3_4
  obtain rfl : hs3_5 = [] := List.eq_nil_of_length_eq_zero hl3_5
  obtain ⟨dd3_0, dp3_0, hp3_0, hh3_0⟩ := hq3 0 _ _ rfl rfl
  obtain ⟨a3_0, w3_0, z3_0⟩ := Go.Mx.open_row (k := .u8) Try.underlying24 Try.underlying5 (by kernel_rfl) hh3_0
  obtain ⟨dd3_1, dp3_1, hp3_1, hh3_1⟩ := hq3 1 _ _ rfl rfl
  obtain ⟨a3_1, w3_1, z3_1⟩ := Go.Mx.open_row (k := .u8) Try.underlying24 Try.underlying5 (by kernel_rfl) hh3_1
  obtain ⟨dd3_2, dp3_2, hp3_2, hh3_2⟩ := hq3 2 _ _ rfl rfl
  obtain ⟨a3_2, w3_2, z3_2⟩ := Go.Mx.open_row (k := .u8) Try.underlying24 Try.underlying5 (by kernel_rfl) hh3_2
  obtain ⟨dd3_3, dp3_3, hp3_3, hh3_3⟩ := hq3 3 _ _ rfl rfl
  obtain ⟨a3_3, w3_3, z3_3⟩ := Go.Mx.open_rowA (n := 256) (k := .i32) (by decide) Try.underlying25 Try.underlying40 Try.underlying21 (by kernel_rfl) (by kernel_rfl) hh3_3
  obtain ⟨dd3_4, dp3_4, hp3_4, hh3_4⟩ := hq3 4 _ _ rfl rfl
  obtain ⟨a3_4, w3_4, z3_4⟩ := Go.Mx.open_rowA (n := 256) (k := .i32) (by decide) Try.underlying25 Try.underlying40 Try.underlying21 (by kernel_rfl) (by kernel_rfl) hh3_4
  obtain ⟨dd3_5, dp3_5, hp3_5, hh3_5⟩ := hq3 5 _ _ rfl rfl
  obtain ⟨a3_5, w3_5, z3_5⟩ := Go.Mx.open_rowA (n := 256) (k := .i32) (by decide) Try.underlying25 Try.underlying40 Try.underlying21 (by kernel_rfl) (by kernel_rfl) hh3_5
  have y3_0 : a3_0.length ≤ 140737488351232 := by have q0 := sized_agg hsz (j := 3) (t := 29) rfl rfl Try.underlying29; have q1 := sized_any q0 (j := 0) (t := 24) rfl hp3_0 Try.underlying24 (by decide +kernel) hh3_0; have q2 := w3_0.length; omega
  have y3_1 : a3_1.length ≤ 140737488351232 := by have q0 := sized_agg hsz (j := 3) (t := 29) rfl rfl Try.underlying29; have q1 := sized_any q0 (j := 1) (t := 24) rfl hp3_1 Try.underlying24 (by decide +kernel) hh3_1; have q2 := w3_1.length; omega
  have y3_2 : a3_2.length ≤ 140737488351232 := by have q0 := sized_agg hsz (j := 3) (t := 29) rfl rfl Try.underlying29; have q1 := sized_any q0 (j := 2) (t := 24) rfl hp3_2 Try.underlying24 (by decide +kernel) hh3_2; have q2 := w3_2.length; omega
  have y3_3 : a3_3.length ≤ 140737488351232 := by have q0 := sized_agg hsz (j := 3) (t := 29) rfl rfl Try.underlying29; have q1 := sized_any q0 (j := 3) (t := 25) rfl hp3_3 Try.underlying25 (by decide +kernel) hh3_3; have q2 := w3_3.length; omega
  have y3_4 : a3_4.length ≤ 140737488351232 := by have q0 := sized_agg hsz (j := 3) (t := 29) rfl rfl Try.underlying29; have q1 := sized_any q0 (j := 4) (t := 25) rfl hp3_4 Try.underlying25 (by decide +kernel) hh3_4; have q2 := w3_4.length; omega
  have y3_5 : a3_5.length ≤ 140737488351232 := by have q0 := sized_agg hsz (j := 3) (t := 29) rfl rfl Try.underlying29; have q1 := sized_any q0 (j := 5) (t := 25) rfl hp3_5 Try.underlying25 (by decide +kernel) hh3_5; have q2 := w3_5.length; omega
  have lt4 : ∀ x ∈ p4, x.block < W.heap.size := by obtain ⟨m, hm⟩ := h4; exact DataW.trod_lt m _ _ _ hm
  obtain ⟨hs4, hl4, rfl, parts4, rfl, hq4⟩ := Go.Mx.open_sls [24, 25, 25] Try.underlying31 (by kernel_rfl) (by kernel_rfl) (hval 4 31 v4 rfl rfl) h4
  obtain ⟨A4_0, n4_0, c4_0, hs4_0, rfl, hl4_0⟩ := Go.Mx.hs_cons hl4
  obtain ⟨A4_1, n4_1, c4_1, hs4_1, rfl, hl4_1⟩ := Go.Mx.hs_cons hl4_0
  obtain ⟨A4_2, n4_2, c4_2, hs4_2, rfl, hl4_2⟩ := Go.Mx.hs_cons hl4_1
  obtain rfl : hs4_2 = [] := List.eq_nil_of_length_eq_zero hl4_2
  obtain ⟨dd4_0, dp4_0, hp4_0, hh4_0⟩ := hq4 0 _ _ rfl rfl
  obtain ⟨a4_0, w4_0, z4_0⟩ := Go.Mx.open_row (k := .u8) Try.underlying24 Try.underlying5 (by kernel_rfl) hh4_0
  obtain ⟨dd4_1, dp4_1, hp4_1, hh4_1⟩ := hq4 1 _ _ rfl rfl
  obtain ⟨a4_1, w4_1, z4_1⟩ := Go.Mx.open_rowA (n := 256) (k := .i32) (by decide) Try.underlying25 Try.underlying40 Try.underlying21 (by kernel_rfl) (by kernel_rfl) hh4_1
  obtain ⟨dd4_2, dp4_2, hp4_2, hh4_2⟩ := hq4 2 _ _ rfl rfl
  obtain ⟨a4_2, w4_2, z4_2⟩ := Go.Mx.open_rowA (n := 256) (k := .i32) (by decide) Try.underlying25 Try.underlying40 Try.underlying21 (by kernel_rfl) (by kernel_rfl) hh4_2
  have y4_0 : a4_0.length ≤ 140737488351232 := by have q0 := sized_agg hsz (j := 4) (t := 31) rfl rfl Try.underlying31; have q1 := sized_any q0 (j := 0) (t := 24) rfl hp4_0 Try.underlying24 (by decide +kernel) hh4_0; have q2 := w4_0.length; omega
  have y4_1 : a4_1.length ≤ 140737488351232 := by have q0 := sized_agg hsz (j := 4) (t := 31) rfl rfl Try.underlying31; have q1 := sized_any q0 (j := 1) (t := 25) rfl hp4_1 Try.underlying25 (by decide +kernel) hh4_1; have q2 := w4_1.length; omega
  have y4_2 : a4_2.length ≤ 140737488351232 := by have q0 := sized_agg hsz (j := 4) (t := 31) rfl rfl Try.underlying31; have q1 := sized_any q0 (j := 2) (t := 25) rfl hp4_2 Try.underlying25 (by decide +kernel) hh4_2; have q2 := w4_2.length; omega
  clear hA0 hval0
  obtain ⟨K, hK⟩ := Pure.DpackWrites a0 (inR_of_wf w0) a1_0 a1_1 a1_2 a1_3 a1_4 a1_5 a1_6 a1_7 r_a1_0 r_a1_1 r_a1_2 r_a1_3 r_a1_4 r_a1_5 r_a1_6 r_a1_7 a2_0 a2_1 z2_0 y2_0 z2_1 y2_1 a3_0 a3_1 a3_2 a3_3 a3_4 a3_5 z3_0 y3_0 z3_1 y3_1 z3_2 y3_2 z3_3 y3_3 z3_4 y3_4 z3_5 y3_5 a4_0 a4_1 a4_2 z4_0 y4_0 z4_1 y4_1 z4_2 y4_2
  refine (law22_DpackWrites.ok hK W w2_0 w2_1 w3_0 w3_1 w3_2 w3_3 w3_4 w3_5 w4_0 w4_1 w4_2).mono fun e W' ⟨he, hs⟩ => ?_
  subst he
  exact ⟨_, rfl, _, _, _, [], _, [], hW', trodAll_mk1 (shut_bool Try.underlying4 _), (trodAll_cons_mk (shut_int Try.underlying5 w0) (trodAll_cons_mk (Below.trod laidOut (by kernel_rfl) (of_decide_eq_true (by kernel_rfl)) h1 hs.below lt1) (trodAll_cons_mk (Below.trod laidOut (by kernel_rfl) (of_decide_eq_true (by kernel_rfl)) h2 hs.below lt2) (trodAll_cons_mk (Below.trod laidOut (by kernel_rfl) (of_decide_eq_true (by kernel_rfl)) h3 hs.below lt3) (trodAll_cons_mk (Below.trod laidOut (by kernel_rfl) (of_decide_eq_true (by kernel_rfl)) h4 hs.below lt4) trodAll_mk0))))), rfl, hs.below.frame _, fun h => by cases h⟩
theorem over : Rows.dpackWritesRow.holds Try.pinned (OpenSpec.ofChange Rows.dpackWritesSpec) :=
  OpenClaim.holds_of_wide 3 Try.f3 rfl rfl rfl rfl rfl rfl rfl ⟨rfl, rfl, rfl, rfl, rfl⟩ rfl rfl rfl rfl rfl (by kernel_rfl) Try.func3 (by kernel_rfl)
    (of_decide_eq_true (by kernel_rfl)) (by unfold Func.isWrapper; first | (rw [if_pos (by decide +kernel)]; kernel_rfl) | (rw [if_neg (by decide +kernel)]; exact ⟨rfl, rfl⟩))
    (fun os started H enc' _ => lifted os started H enc')
end Go.Proofs.Ytblploekkjeolaa.dpackWrites
namespace Go.Proofs.Ytblploekkjeolaa
/-- The row. -/
theorem dpackWrites_holds : Rows.DpackWritesSaid := dpackWrites.over
#print axioms dpackWrites_holds
end Go.Proofs.Ytblploekkjeolaa
