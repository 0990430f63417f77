/- apostille/apostillelaw27.KemShares: whatever the input, the law answers true, and the input reads as it did. -/
import Derived.Test.YtemdbgmldljbpaaDoorRows
import Derived.Test.YtemdbgmldljbpaaDoorMr
import Derived.Test.YtemdbgmldljbpaaDoorMp
import Derived.Test.YtemdbgmldljbpaaDoorMn
import Derived.Test.YtemdbgmldljbpaaDoorMu
import Derived.Test.YtemdbgmldljbpaaDoorCards
import Derived.Test.YtemdbgmldljbpaaDoorTie
import Derived.Test.YtemdbgmldljbpaaDoorPureKemShares
import Derived.Test.YtemdbgmldljbpaaDoorVKemShares
import Derived.ProofKit
import Derived.LaidMore
import Derived.OpenShut
import Derived.Stop.Joined
import Derived.SevenTiedAt
import Derived.SizedLaws
namespace Go.Proofs.YtemdbgmldljbpaaDoor.kemShares
open Go.ChangeShapes Go.WideShapes Go.ChangeAt Go.RowKit Go.Mx
set_option linter.unusedVariables false
theorem own : ownKnob Tryd.prog.godebug = none := by kernel_rfl
theorem laidOut : laidOutB Tryd.prog = true := by kernel_rfl
def laidL : List (String × DataW Unit) := [("apostille/keccak.constants", Rows.laid_apostille_keccak_constants), ("apostille/keccak.places", Rows.laid_apostille_keccak_places), ("apostille/keccak.turns", Rows.laid_apostille_keccak_turns)]
theorem door_met (os : Os) (args : Array Value) : laidMetH Tryd.prog laidL ((World.doorLaid Tryd.prog 400 os).forCall (fun _ _ => 0) ⟨#[], args, []⟩).memory :=
 laidMetH_of_parts3 (fuel := 8) (laidMet_of_run' 8 (by kernel_rfl) (by kernel_rfl)) (by kernel_rfl) (by kernel_rfl)
theorem of_laid {W : World} (h : laidMetH Tryd.prog laidL W) : RowL (CA .u64 24 (by decide)) W (some ⟨0, 0, none⟩) 1 1 [tab_0] ∧ RowL (CA .i64 24 (by decide)) W (some ⟨1, 0, none⟩) 1 1 [tab_1] ∧ RowL (CA .i64 24 (by decide)) W (some ⟨2, 0, none⟩) 1 1 [tab_2] := by
 rw [MakeChecks.laidMetH_plain _ _ _ (by kernel_rfl)] at h
 have h : laidMet Tryd.prog [("apostille/keccak.constants", Go.Lib.tabData .u64 tab_0.toList), ("apostille/keccak.places", Go.Lib.tabData .i64 tab_1.toList), ("apostille/keccak.turns", Go.Lib.tabData .i64 tab_2.toList)] W := h
 exact ⟨tab_row (by decide) (Go.Lib.tabIs_of_head (by kernel_rfl) (g := 0) (t := 144) (by kernel_rfl) Tryd.underlying144 Tryd.underlying112 (by kernel_rfl) (by kernel_rfl) h) (by kernel_rfl), tab_row (by decide) (Go.Lib.tabIs_of_head (by kernel_rfl) (g := 1) (t := 151) (by kernel_rfl) Tryd.underlying151 Tryd.underlying3 (by kernel_rfl) (by kernel_rfl) h.tail) (by kernel_rfl), tab_row (by decide) (Go.Lib.tabIs_of_head (by kernel_rfl) (g := 2) (t := 151) (by kernel_rfl) Tryd.underlying151 Tryd.underlying3 (by kernel_rfl) (by kernel_rfl) h.tail.tail) (by kernel_rfl)⟩
set_option maxRecDepth 100000 in
theorem lifted (os : Os) (started : os.Started) (H : Type) (enc' : TypeId × Value → H) :
  ReturnsInHanded {} Tryd.checked os 7 .any (fun w args => (Rows.kemSharesSpec.pre enc' Tryd.prog Tryd.f7 [] false w args ∧ laidMetH Tryd.prog laidL w) ∧ sizedMet enc' Tryd.prog Tryd.f7 (OpenSpec.ofChange Rows.kemSharesSpec) false w args) (Rows.kemSharesSpec.post enc' Tryd.prog Tryd.f7 false true false false) := by
 refine returnsInHanded_of_change_and (C := Tryd.checked) (X := fun w _ => laidMetH Tryd.prog laidL w) (fun _ _ _ hh h => h.of_heap hh) own started (by kernel_rfl) Tryd.func7
  (ChangeSpec.witness_shaped (enc := enc') (C := Tryd.checked) (os := os) (X := fun w _ => laidMetH Tryd.prog laidL w) false (World.doorLaid Tryd.prog 400 os) #[.int .u8 0, .agg (enc .u8 (zeroA 32)).toArray, .agg (enc .u8 (zeroA 32)).toArray, .agg (enc .u8 (zeroA 32)).toArray] 8 rfl (World.shaped_of_RefB (by kernel_rfl) (by kernel_rfl)) (by kernel_rfl) (by kernel_rfl) (by kernel_rfl) (door_met os _)) ?_
 intro W base args ds gs before hval0 hW _ hsz0 hL _
 obtain ⟨g0, g1, g2⟩ := of_laid hL
 have hval : ∀ (j : Nat) t v, Tryd.f7.params[j]? = some t → args[j]? = some v → Value.okWide Tryd.prog W .any base t v := hval0
 have hW' := hW
 obtain ⟨p, q, hA0, hV, rfl, hfz, hnd⟩ := hW
 have hA : DataW.TrodAll enc' Tryd.prog W 0 (fun _ => true) true Tryd.f7.params.toList args.toList ds p := hA0
 rw [Tryd.params7] at hA hval
 obtain ⟨v0, vs0, d0, ds0, p0, q0, hargs, rfl, rfl, h0, r0⟩ := trodAll_cons hA
 obtain ⟨v1, vs1, d1, ds1, p1, q1, rfl, rfl, rfl, h1, r1⟩ := trodAll_cons r0
 obtain ⟨v2, vs2, d2, ds2, p2, q2, rfl, rfl, rfl, h2, r2⟩ := trodAll_cons r1
 obtain ⟨v3, vs3, d3, ds3, p3, q3, rfl, rfl, rfl, h3, r3⟩ := trodAll_cons r2
 obtain ⟨rfl, rfl, rfl⟩ := trodAll_nil r3
 obtain rfl : args = #[v0, v1, v2, v3] := by cases args; simp_all
 obtain ⟨rfl, rfl⟩ := trodVars_none hV
 obtain ⟨a0, rfl, rfl, rfl, w0⟩ := open_int Tryd.underlying5 (hval 0 5 v0 rfl rfl) h0
 have lt1 : ∀ x ∈ p1, x.block < W.heap.size := by obtain ⟨m, hm⟩ := h1; exact DataW.trod_lt m _ _ _ hm
 obtain ⟨a1, rfl, w1⟩ := Go.Mx.open_arr (k := .u8) Tryd.underlying53 Tryd.underlying5 (by kernel_rfl) (by kernel_rfl) (hval 1 53 v1 rfl rfl)
 have lt2 : ∀ x ∈ p2, x.block < W.heap.size := by obtain ⟨m, hm⟩ := h2; exact DataW.trod_lt m _ _ _ hm
 obtain ⟨a2, rfl, w2⟩ := Go.Mx.open_arr (k := .u8) Tryd.underlying53 Tryd.underlying5 (by kernel_rfl) (by kernel_rfl) (hval 2 53 v2 rfl rfl)
 have lt3 : ∀ x ∈ p3, x.block < W.heap.size := by obtain ⟨m, hm⟩ := h3; exact DataW.trod_lt m _ _ _ hm
 obtain ⟨a3, rfl, w3⟩ := Go.Mx.open_arr (k := .u8) Tryd.underlying53 Tryd.underlying5 (by kernel_rfl) (by kernel_rfl) (hval 3 53 v3 rfl rfl)
 clear hA0 hval0
 obtain ⟨K, hK⟩ := Pure.KemShares a0 (inR_of_wf w0) a1 w1 a2 w2 a3 w3
 refine (law27_KemShares.ok hK W g0 g1 g2).mono fun e W' ⟨he, hs⟩ => ?_
 subst he
 exact ⟨_, rfl, _, _, _, [], _, [], hW', trodAll_mk1 (shut_bool Tryd.underlying4 _), (trodAll_cons_mk (shut_int Tryd.underlying5 w0) (trodAll_cons_mk (Below.trod laidOut (by kernel_rfl) (of_decide_eq_true (by kernel_rfl)) h1 hs.below lt1) (trodAll_cons_mk (Below.trod laidOut (by kernel_rfl) (of_decide_eq_true (by kernel_rfl)) h2 hs.below lt2) (trodAll_cons_mk (Below.trod laidOut (by kernel_rfl) (of_decide_eq_true (by kernel_rfl)) h3 hs.below lt3) trodAll_mk0)))), rfl, hs.below.frame _, fun h => by cases h⟩
theorem over : Rows.kemSharesRow.holds Tryd.pinned (OpenSpec.ofChange Rows.kemSharesSpec) :=
 OpenClaim.holds_of_wide 7 Tryd.f7 rfl rfl rfl rfl rfl rfl rfl ⟨rfl, rfl, rfl, rfl, rfl⟩ rfl rfl rfl rfl rfl (by kernel_rfl) Tryd.func7 (by kernel_rfl)
  (of_decide_eq_true (by kernel_rfl)) (by unfold Func.isWrapper; first | (rw [if_pos (by decide +kernel)]; kernel_rfl) | (rw [if_neg (by decide +kernel)]; exact ⟨rfl, rfl⟩))
  (fun os started H enc' _ => lifted os started H enc')
end Go.Proofs.YtemdbgmldljbpaaDoor.kemShares
namespace Go.Proofs.YtemdbgmldljbpaaDoor
/-- The row. -/
theorem kemShares_bare : Rows.KemSharesSaid := kemShares.over
/-- The tied card. -/
theorem kemShares_holds : Rows.KemSharesCardSaid :=
 Claim7.holds_tied_plain_at .later [] [.data, .data, .data] true (true, "f2a209147eb95f005a5160feb864a0311f9a7c4cf29bac5e3502494d8923cc1b") false
  kemShares_bare (fun _ h => by cases h) (by kernel_rfl) (fun _ h => by cases h) kemShares_row_tie rfl ⟨rfl, rfl⟩ (by kernel_rfl) rfl
  (fun f fn hf hfn => by
   obtain rfl : f = 7 := Option.some.inj ((show Tryd.prog.funcNamed "apostille/apostillelaw27.KemShares" = some 7 by kernel_rfl).symm.trans hf) |>.symm
   obtain rfl : fn = Tryd.f7 := (Option.some.inj (Tryd.func7.symm.trans hfn)).symm
   exact ⟨by kernel_rfl, fun j t ht => by
    rw [Tryd.params7] at ht
    have hm : t ∈ [5, 53, 53, 53] := by simpa using Array.mem_of_getElem? ht
    have hall : ([5, 53, 53, 53].all fun u => !Tryd.prog.wantsStandIn u) = true := by kernel_rfl
    exact (show Tryd.prog.wantsStandIn t = false by simpa using List.all_eq_true.1 hall t hm)⟩)
  (by kernel_rfl)
#print axioms kemShares_holds
end Go.Proofs.YtemdbgmldljbpaaDoor
