/- apostille/apostillelaw27.KemOpens: whatever the input, the law answers true, and the input reads as it did. -/
import Derived.Test.YtemdbgmldljbpaaGreatDoorRows
import Derived.Test.YtemdbgmldljbpaaGreatDoorMr
import Derived.Test.YtemdbgmldljbpaaGreatDoorMp
import Derived.Test.YtemdbgmldljbpaaGreatDoorMn
import Derived.Test.YtemdbgmldljbpaaGreatDoorMu
import Derived.Test.YtemdbgmldljbpaaGreatDoorCards
import Derived.Test.YtemdbgmldljbpaaGreatDoorTie
import Derived.Test.YtemdbgmldljbpaaGreatDoorPureKemOpens
import Derived.Test.YtemdbgmldljbpaaGreatDoorVKemOpens
import Derived.ProofKit
import Derived.LaidMore
import Derived.OpenShut
import Derived.Stop.Joined
import Derived.SevenTiedAt
import Derived.SizedLaws
namespace Go.Proofs.YtemdbgmldljbpaaGreatDoor.kemOpens
open Go.ChangeShapes Go.WideShapes Go.ChangeAt Go.RowKit Go.Mx
set_option linter.unusedVariables false
theorem own : ownKnob Tryz.prog.godebug = none := by kernel_rfl
theorem laidOut : laidOutB Tryz.prog = true := by kernel_rfl
def laidL : List (String × DataW Unit) := [("apostille/keccak.constants", Rows.laid_apostille_keccak_constants), ("apostille/keccak.places", Rows.laid_apostille_keccak_places), ("apostille/keccak.turns", Rows.laid_apostille_keccak_turns)]
theorem door_met (os : Os) (args : Array Value) : laidMetH Tryz.prog laidL ((World.doorLaid Tryz.prog 400 os).forCall (fun _ _ => 0) ⟨#[], args, []⟩).memory :=
 laidMetH_of_parts3 (fuel := 8) (laidMet_of_run' 8 (by kernel_rfl) (by kernel_rfl)) (by kernel_rfl) (by kernel_rfl)
theorem of_laid {W : World} (h : laidMetH Tryz.prog laidL W) : RowL (CA .u64 24 (by decide)) W (some ⟨0, 0, none⟩) 1 1 [tab_0] ∧ RowL (CA .i64 24 (by decide)) W (some ⟨1, 0, none⟩) 1 1 [tab_1] ∧ RowL (CA .i64 24 (by decide)) W (some ⟨2, 0, none⟩) 1 1 [tab_2] := by
 rw [MakeChecks.laidMetH_plain _ _ _ (by kernel_rfl)] at h
 have h : laidMet Tryz.prog [("apostille/keccak.constants", Go.Lib.tabData .u64 tab_0.toList), ("apostille/keccak.places", Go.Lib.tabData .i64 tab_1.toList), ("apostille/keccak.turns", Go.Lib.tabData .i64 tab_2.toList)] W := h
 exact ⟨tab_row (by decide) (Go.Lib.tabIs_of_head (by kernel_rfl) (g := 0) (t := 129) (by kernel_rfl) Tryz.underlying129 Tryz.underlying85 (by kernel_rfl) (by kernel_rfl) h) (by kernel_rfl), tab_row (by decide) (Go.Lib.tabIs_of_head (by kernel_rfl) (g := 1) (t := 148) (by kernel_rfl) Tryz.underlying148 Tryz.underlying3 (by kernel_rfl) (by kernel_rfl) h.tail) (by kernel_rfl), tab_row (by decide) (Go.Lib.tabIs_of_head (by kernel_rfl) (g := 2) (t := 148) (by kernel_rfl) Tryz.underlying148 Tryz.underlying3 (by kernel_rfl) (by kernel_rfl) h.tail.tail) (by kernel_rfl)⟩
set_option maxRecDepth 100000 in
theorem lifted (os : Os) (started : os.Started) (H : Type) (enc' : TypeId × Value → H) :
  ReturnsInHanded {} Tryz.checked os 3 .any (fun w args => (Rows.kemOpensSpec.pre enc' Tryz.prog Tryz.f3 [] false w args ∧ laidMetH Tryz.prog laidL w) ∧ sizedMet enc' Tryz.prog Tryz.f3 (OpenSpec.ofChange Rows.kemOpensSpec) false w args) (Rows.kemOpensSpec.post enc' Tryz.prog Tryz.f3 false true false false) := by
 refine returnsInHanded_of_change_and (C := Tryz.checked) (X := fun w _ => laidMetH Tryz.prog laidL w) (fun _ _ _ hh h => h.of_heap hh) own started (by kernel_rfl) Tryz.func3
  (ChangeSpec.witness_shaped (enc := enc') (C := Tryz.checked) (os := os) (X := fun w _ => laidMetH Tryz.prog laidL w) false (World.doorLaid Tryz.prog 400 os) #[.int .u8 0, .agg ([.int .i64 0, .int .i64 0, .int .i64 0, .int .i64 0, .int .i64 0]).toArray, .slice none 0 0, .slice none 0 0] 8 rfl (World.shaped_of_RefB (by kernel_rfl) (by kernel_rfl)) (by kernel_rfl) (by kernel_rfl) (by kernel_rfl) (door_met os _)) ?_
 intro W base args ds gs before hval0 hW _ hsz0 hL _
 obtain ⟨g0, g1, g2⟩ := of_laid hL
 have hval : ∀ (j : Nat) t v, Tryz.f3.params[j]? = some t → args[j]? = some v → Value.okWide Tryz.prog W .any base t v := hval0
 have hW' := hW
 obtain ⟨p, q, hA0, hV, rfl, hfz, hnd⟩ := hW
 have hA : DataW.TrodAll enc' Tryz.prog W 0 (fun _ => true) true Tryz.f3.params.toList args.toList ds p := hA0
 rw [Tryz.params3] at hA hval
 have hsz : (DataW.weightsEach Tryz.prog (Tryz.f3.params.toList ++ Rows.kemOpensSpec.plain.varTypes Tryz.prog) (ds ++ gs)).all (· ≤ reachBytes) = true := hsz0
 rw [Tryz.params3] at hsz
 obtain ⟨v0, vs0, d0, ds0, p0, q0, hargs, rfl, rfl, h0, r0⟩ := trodAll_cons hA
 obtain ⟨v1, vs1, d1, ds1, p1, q1, rfl, rfl, rfl, h1, r1⟩ := trodAll_cons r0
 obtain ⟨v2, vs2, d2, ds2, p2, q2, rfl, rfl, rfl, h2, r2⟩ := trodAll_cons r1
 obtain ⟨v3, vs3, d3, ds3, p3, q3, rfl, rfl, rfl, h3, r3⟩ := trodAll_cons r2
 obtain ⟨rfl, rfl, rfl⟩ := trodAll_nil r3
 obtain rfl : args = #[v0, v1, v2, v3] := by cases args; simp_all
 obtain ⟨rfl, rfl⟩ := trodVars_none hV
 obtain ⟨a0, rfl, rfl, rfl, w0⟩ := open_int Tryz.underlying5 (hval 0 5 v0 rfl rfl) h0
 have lt1 : ∀ x ∈ p1, x.block < W.heap.size := by obtain ⟨m, hm⟩ := h1; exact DataW.trod_lt m _ _ _ hm
 obtain ⟨pre1, rfl, fp1⟩ := Go.Mx.open_flat [some .i64, some .i64, some .i64, some .i64, some .i64] [3, 3, 3, 3, 3] Tryz.underlying23 (by kernel_rfl) (by kernel_rfl) rfl (typeK_cons Tryz.underlying3 (typeK_cons Tryz.underlying3 (typeK_cons Tryz.underlying3 (typeK_cons Tryz.underlying3 (typeK_cons Tryz.underlying3 typeK_nil))))) (hval 1 23 v1 rfl rfl)
 obtain ⟨a1_0, _, rfl, r_a1_0, a1_1, _, rfl, r_a1_1, a1_2, _, rfl, r_a1_2, a1_3, _, rfl, r_a1_3, a1_4, _, rfl, r_a1_4, rfl⟩ := fp1
 obtain ⟨A2, n2, c2, rfl⟩ := okWide_slice Tryz.underlying24 (hval 2 24 v2 rfl rfl)
 have lt2 : ∀ x ∈ p2, x.block < W.heap.size := by obtain ⟨m, hm⟩ := h2; exact DataW.trod_lt m _ _ _ hm
 obtain ⟨a2, w2, z2⟩ := Go.Mx.open_row (k := .u8) Tryz.underlying24 Tryz.underlying5 (by kernel_rfl) h2
 have y2 : a2.length ≤ 140737488351232 := by have q1 := sized_any hsz (j := 2) (t := 24) rfl rfl Tryz.underlying24 (by decide +kernel) h2; have q2 := w2.length; omega
 obtain ⟨A3, n3, c3, rfl⟩ := okWide_slice Tryz.underlying24 (hval 3 24 v3 rfl rfl)
 have lt3 : ∀ x ∈ p3, x.block < W.heap.size := by obtain ⟨m, hm⟩ := h3; exact DataW.trod_lt m _ _ _ hm
 obtain ⟨a3, w3, z3⟩ := Go.Mx.open_row (k := .u8) Tryz.underlying24 Tryz.underlying5 (by kernel_rfl) h3
 have y3 : a3.length ≤ 140737488351232 := by have q1 := sized_any hsz (j := 3) (t := 24) rfl rfl Tryz.underlying24 (by decide +kernel) h3; have q2 := w3.length; omega
 clear hA0 hval0
 obtain ⟨K, hK⟩ := Pure.KemOpens a0 (inR_of_wf w0) a1_0 a1_1 a1_2 a1_3 a1_4 r_a1_0 r_a1_1 r_a1_2 r_a1_3 r_a1_4 a2 z2 y2 a3 z3 y3
 refine (law27_KemOpens.ok hK W w2 w3 g0 g1 g2).mono fun e W' ⟨he, hs⟩ => ?_
 subst he
 exact ⟨_, rfl, _, _, _, [], _, [], hW', trodAll_mk1 (shut_bool Tryz.underlying4 _), (trodAll_cons_mk (shut_int Tryz.underlying5 w0) (trodAll_cons_mk (Below.trod laidOut (by kernel_rfl) (of_decide_eq_true (by kernel_rfl)) h1 hs.below lt1) (trodAll_cons_mk (Below.trod laidOut (by kernel_rfl) (of_decide_eq_true (by kernel_rfl)) h2 hs.below lt2) (trodAll_cons_mk (Below.trod laidOut (by kernel_rfl) (of_decide_eq_true (by kernel_rfl)) h3 hs.below lt3) trodAll_mk0)))), rfl, hs.below.frame _, fun h => by cases h⟩
theorem over : Rows.kemOpensRow.holds Tryz.pinned (OpenSpec.ofChange Rows.kemOpensSpec) :=
 OpenClaim.holds_of_wide 3 Tryz.f3 rfl rfl rfl rfl rfl rfl rfl ⟨rfl, rfl, rfl, rfl, rfl⟩ rfl rfl rfl rfl rfl (by kernel_rfl) Tryz.func3 (by kernel_rfl)
  (of_decide_eq_true (by kernel_rfl)) (by unfold Func.isWrapper; first | (rw [if_pos (by decide +kernel)]; kernel_rfl) | (rw [if_neg (by decide +kernel)]; exact ⟨rfl, rfl⟩))
  (fun os started H enc' _ => lifted os started H enc')
end Go.Proofs.YtemdbgmldljbpaaGreatDoor.kemOpens
namespace Go.Proofs.YtemdbgmldljbpaaGreatDoor
/-- The row. -/
theorem kemOpens_bare : Rows.KemOpensSaid := kemOpens.over
/-- The tied card. -/
theorem kemOpens_holds : Rows.KemOpensCardSaid :=
 Claim7.holds_tied_plain_at .later [] [.data, .data, .data] true (true, "ab014bc25921a0a75a47092fe46fc4a9ceae4096bfc5ac78e80acab30b038126") false
  kemOpens_bare (fun _ h => by cases h) (by kernel_rfl) (fun _ h => by cases h) kemOpens_row_tie rfl ⟨rfl, rfl⟩ (by kernel_rfl) rfl
  (fun f fn hf hfn => by
   obtain rfl : f = 3 := Option.some.inj ((show Tryz.prog.funcNamed "apostille/apostillelaw27.KemOpens" = some 3 by kernel_rfl).symm.trans hf) |>.symm
   obtain rfl : fn = Tryz.f3 := (Option.some.inj (Tryz.func3.symm.trans hfn)).symm
   exact ⟨by kernel_rfl, fun j t ht => by
    rw [Tryz.params3] at ht
    have hm : t ∈ [5, 23, 24, 24] := by simpa using Array.mem_of_getElem? ht
    have hall : ([5, 23, 24, 24].all fun u => !Tryz.prog.wantsStandIn u) = true := by kernel_rfl
    exact (show Tryz.prog.wantsStandIn t = false by simpa using List.all_eq_true.1 hall t hm)⟩)
  (by kernel_rfl)
#print axioms kemOpens_holds
end Go.Proofs.YtemdbgmldljbpaaGreatDoor
