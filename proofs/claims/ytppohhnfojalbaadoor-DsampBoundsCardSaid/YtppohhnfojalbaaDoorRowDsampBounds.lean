/- apostille/apostillelaw23.DsampBounds: whatever the input, the law answers true, and the input reads as it did. -/
import Derived.Test.YtppohhnfojalbaaDoorRows
import Derived.Test.YtppohhnfojalbaaDoorMr
import Derived.Test.YtppohhnfojalbaaDoorMp
import Derived.Test.YtppohhnfojalbaaDoorMn
import Derived.Test.YtppohhnfojalbaaDoorMu
import Derived.Test.YtppohhnfojalbaaDoorCards
import Derived.Test.YtppohhnfojalbaaDoorTie
import Derived.Test.YtppohhnfojalbaaDoorPureDsampBounds
import Derived.Test.YtppohhnfojalbaaDoorVDsampBounds
import Derived.ProofKit
import Derived.LaidMore
import Derived.OpenShut
import Derived.Stop.Joined
import Derived.SevenTiedAt
import Derived.SizedLaws
namespace Go.Proofs.YtppohhnfojalbaaDoor.dsampBounds
open Go.ChangeShapes Go.WideShapes Go.ChangeAt Go.RowKit Go.Mx
set_option linter.unusedVariables false
theorem own : ownKnob Tryd.prog.godebug = none := by kernel_rfl
theorem laidOut : laidOutB Tryd.prog = true := by kernel_rfl
def laidL : List (String × DataW Unit) := [("apostille/keccak.constants", Rows.laid_apostille_keccak_constants), ("apostille/keccak.places", Rows.laid_apostille_keccak_places), ("apostille/keccak.turns", Rows.laid_apostille_keccak_turns)]
theorem door_met (os : Os) (args : Array Value) : laidMetH Tryd.prog laidL ((World.doorLaid Tryd.prog 400 os).forCall (fun _ _ => 0) ⟨#[], args, []⟩).memory :=
  laidMetH_of_parts3 (fuel := 8) (laidMet_of_run' 8 (by kernel_rfl) (by kernel_rfl)) (by kernel_rfl) (by kernel_rfl)
theorem of_laid {W : World} (h : laidMetH Tryd.prog laidL W) : RowL (CA .u64 24 (by decide)) W (some ⟨0, 0, none⟩) 1 1 [tab_0] ∧ RowL (CA .i64 24 (by decide)) W (some ⟨1, 0, none⟩) 1 1 [tab_1] ∧ RowL (CA .i64 24 (by decide)) W (some ⟨2, 0, none⟩) 1 1 [tab_2] := by
  rw [MakeChecks.laidMetH_plain _ _ _ (by kernel_rfl)] at h
  have h : laidMet Tryd.prog [("apostille/keccak.constants", Go.Lib.tabData .u64 tab_0.toList), ("apostille/keccak.places", Go.Lib.tabData .i64 tab_1.toList), ("apostille/keccak.turns", Go.Lib.tabData .i64 tab_2.toList)] W := h
  exact ⟨tab_row (by decide) (Go.Lib.tabIs_of_head (by kernel_rfl) (g := 0) (t := 92) (by kernel_rfl) Tryd.underlying92 Tryd.underlying47 (by kernel_rfl) (by kernel_rfl) h) (by kernel_rfl), tab_row (by decide) (Go.Lib.tabIs_of_head (by kernel_rfl) (g := 1) (t := 103) (by kernel_rfl) Tryd.underlying103 Tryd.underlying3 (by kernel_rfl) (by kernel_rfl) h.tail) (by kernel_rfl), tab_row (by decide) (Go.Lib.tabIs_of_head (by kernel_rfl) (g := 2) (t := 103) (by kernel_rfl) Tryd.underlying103 Tryd.underlying3 (by kernel_rfl) (by kernel_rfl) h.tail.tail) (by kernel_rfl)⟩
set_option maxRecDepth 100000 in
theorem lifted (os : Os) (started : os.Started) (H : Type) (enc' : TypeId × Value → H) :
    ReturnsInHanded {} Tryd.checked os 4 .any (fun w args => (Rows.dsampBoundsSpec.pre enc' Tryd.prog Tryd.f4 [] false w args ∧ laidMetH Tryd.prog laidL w) ∧ sizedMet enc' Tryd.prog Tryd.f4 (OpenSpec.ofChange Rows.dsampBoundsSpec) false w args) (Rows.dsampBoundsSpec.post enc' Tryd.prog Tryd.f4 false true false false) := by
  refine returnsInHanded_of_change_and (C := Tryd.checked) (X := fun w _ => laidMetH Tryd.prog laidL w) (fun _ _ _ hh h => h.of_heap hh) own started (by kernel_rfl) Tryd.func4
    (ChangeSpec.witness_shaped (enc := enc') (C := Tryd.checked) (os := os) (X := fun w _ => laidMetH Tryd.prog laidL w) false (World.doorLaid Tryd.prog 400 os) #[.slice none 0 0, .int .u16 0, .bool false, .bool false, .int .u8 0] 8 rfl (World.shaped_of_RefB (by kernel_rfl) (by kernel_rfl)) (by kernel_rfl) (by kernel_rfl) (by kernel_rfl) (door_met os _)) ?_
  intro W base args ds gs before hval0 hW _ hsz0 hL _
  obtain ⟨g0, g1, g2⟩ := of_laid hL
  have hval : ∀ (j : Nat) t v, Tryd.f4.params[j]? = some t → args[j]? = some v → Value.okWide Tryd.prog W .any base t v := hval0
  have hW' := hW
  obtain ⟨p, q, hA0, hV, rfl, hfz, hnd⟩ := hW
  have hA : DataW.TrodAll enc' Tryd.prog W 0 (fun _ => true) true Tryd.f4.params.toList args.toList ds p := hA0
  rw [Tryd.params4] at hA hval
  obtain ⟨v0, vs0, d0, ds0, p0, q0, hargs, rfl, rfl, h0, r0⟩ := trodAll_cons hA
  obtain ⟨v1, vs1, d1, ds1, p1, q1, rfl, rfl, rfl, h1, r1⟩ := trodAll_cons r0
  obtain ⟨v2, vs2, d2, ds2, p2, q2, rfl, rfl, rfl, h2, r2⟩ := trodAll_cons r1
  obtain ⟨v3, vs3, d3, ds3, p3, q3, rfl, rfl, rfl, h3, r3⟩ := trodAll_cons r2
  obtain ⟨v4, vs4, d4, ds4, p4, q4, rfl, rfl, rfl, h4, r4⟩ := trodAll_cons r3
  obtain ⟨rfl, rfl, rfl⟩ := trodAll_nil r4
  obtain rfl : args = #[v0, v1, v2, v3, v4] := by cases args; simp_all
  obtain ⟨rfl, rfl⟩ := trodVars_none hV
  obtain ⟨A0, n0, c0, rfl⟩ := okWide_slice Tryd.underlying22 (hval 0 22 v0 rfl rfl)
  have lt0 : ∀ x ∈ p0, x.block < W.heap.size := by obtain ⟨m, hm⟩ := h0; exact DataW.trod_lt m _ _ _ hm
  obtain ⟨a0, w0, z0⟩ := Go.Mx.open_row (k := .u8) Tryd.underlying22 Tryd.underlying5 (by kernel_rfl) h0
  obtain ⟨a1, rfl, rfl, rfl, w1⟩ := open_int Tryd.underlying23 (hval 1 23 v1 rfl rfl) h1
  obtain ⟨a2, rfl, rfl, rfl⟩ := open_bool Tryd.underlying4 (hval 2 4 v2 rfl rfl) h2
  obtain ⟨a3, rfl, rfl, rfl⟩ := open_bool Tryd.underlying4 (hval 3 4 v3 rfl rfl) h3
  obtain ⟨a4, rfl, rfl, rfl, w4⟩ := open_int Tryd.underlying5 (hval 4 5 v4 rfl rfl) h4
  clear hA0 hval0
  obtain ⟨K, hK⟩ := Pure.DsampBounds a0 z0 a1 (inR_of_wf w1) a2 a3 a4 (inR_of_wf w4)
  refine (law23_DsampBounds.ok hK W w0 g0 g1 g2).mono fun e W' ⟨he, hs⟩ => ?_
  subst he
  exact ⟨_, rfl, _, _, _, [], _, [], hW', trodAll_mk1 (shut_bool Tryd.underlying4 _), (trodAll_cons_mk (Below.trod laidOut (by kernel_rfl) (of_decide_eq_true (by kernel_rfl)) h0 hs.below lt0) (trodAll_cons_mk (shut_int Tryd.underlying23 w1) (trodAll_cons_mk (shut_bool Tryd.underlying4 _) (trodAll_cons_mk (shut_bool Tryd.underlying4 _) (trodAll_cons_mk (shut_int Tryd.underlying5 w4) trodAll_mk0))))), rfl, hs.below.frame _, fun h => by cases h⟩
theorem over : Rows.dsampBoundsRow.holds Tryd.pinned (OpenSpec.ofChange Rows.dsampBoundsSpec) :=
  OpenClaim.holds_of_wide 4 Tryd.f4 rfl rfl rfl rfl rfl rfl rfl ⟨rfl, rfl, rfl, rfl, rfl⟩ rfl rfl rfl rfl rfl (by kernel_rfl) Tryd.func4 (by kernel_rfl)
    (of_decide_eq_true (by kernel_rfl)) (by unfold Func.isWrapper; first | (rw [if_pos (by decide +kernel)]; kernel_rfl) | (rw [if_neg (by decide +kernel)]; exact ⟨rfl, rfl⟩))
    (fun os started H enc' _ => lifted os started H enc')
end Go.Proofs.YtppohhnfojalbaaDoor.dsampBounds
namespace Go.Proofs.YtppohhnfojalbaaDoor
/-- The row. -/
theorem dsampBounds_bare : Rows.DsampBoundsSaid := dsampBounds.over
/-- The tied card. -/
theorem dsampBounds_holds : Rows.DsampBoundsCardSaid :=
  Claim7.holds_tied_plain_at .later [] [.data, .data, .data] true (true, "449eab7fcae255c26319e9b3522d46dd0b7221e23dec589436b6836cd83a8648") false
    dsampBounds_bare (fun _ h => by cases h) (by kernel_rfl) (fun _ h => by cases h) dsampBounds_row_tie rfl ⟨rfl, rfl⟩ (by kernel_rfl) rfl
    (fun f fn hf hfn => by
      obtain rfl : f = 4 := Option.some.inj ((show Tryd.prog.funcNamed "apostille/apostillelaw23.DsampBounds" = some 4 by kernel_rfl).symm.trans hf) |>.symm
      obtain rfl : fn = Tryd.f4 := (Option.some.inj (Tryd.func4.symm.trans hfn)).symm
      exact ⟨by kernel_rfl, fun j t ht => by
        rw [Tryd.params4] at ht
        have hm : t ∈ [22, 23, 4, 4, 5] := by simpa using Array.mem_of_getElem? ht
        have hall : ([22, 23, 4, 4, 5].all fun u => !Tryd.prog.wantsStandIn u) = true := by kernel_rfl
        exact (show Tryd.prog.wantsStandIn t = false by simpa using List.all_eq_true.1 hall t hm)⟩)
    (by kernel_rfl)
#print axioms dsampBounds_holds
end Go.Proofs.YtppohhnfojalbaaDoor
