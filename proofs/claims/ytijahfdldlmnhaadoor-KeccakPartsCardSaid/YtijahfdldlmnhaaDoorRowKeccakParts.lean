/- apostille/apostillelaw08.KeccakParts: whatever the input, the law answers true, and the input reads as it did. -/
import Derived.Test.YtijahfdldlmnhaaDoorRows
import Derived.Test.YtijahfdldlmnhaaDoorMr
import Derived.Test.YtijahfdldlmnhaaDoorMp
import Derived.Test.YtijahfdldlmnhaaDoorMk
import Derived.Test.YtijahfdldlmnhaaDoorCards
import Derived.Test.YtijahfdldlmnhaaDoorTie
import Derived.Test.YtijahfdldlmnhaaDoorPureKeccakParts
import Derived.Test.YtijahfdldlmnhaaDoorVKeccakParts
import Derived.ProofKit
import Derived.LaidMore
import Derived.OpenShut
import Derived.Stop.Joined
import Derived.SevenTiedAt
namespace Go.Proofs.YtijahfdldlmnhaaDoor.keccakParts
open Go.ChangeShapes Go.WideShapes Go.ChangeAt Go.RowKit Go.Mx
set_option linter.unusedVariables false
theorem own : ownKnob Tryd.prog.godebug = none := by kernel_rfl
theorem laidOut : laidOutB Tryd.prog = true := by kernel_rfl
def laidL : List (String × DataW Unit) := [("apostille/keccak.constants", Rows.laid_apostille_keccak_constants), ("apostille/keccak.places", Rows.laid_apostille_keccak_places), ("apostille/keccak.turns", Rows.laid_apostille_keccak_turns)]
theorem door_met (os : Os) (args : Array Value) : laidMetH Tryd.prog laidL ((World.doorLaid Tryd.prog 400 os).forCall (fun _ _ => 0) ⟨#[], args, []⟩).memory :=
  laidMetH_of_parts3 (fuel := 8) (laidMet_of_run' 8 (by kernel_rfl) (by kernel_rfl)) (by kernel_rfl) (by kernel_rfl)
theorem of_laid {W : World} (h : laidMetH Tryd.prog laidL W) : RowL (CA .u64 24 (by decide)) W (some ⟨0, 0, none⟩) 1 1 [tab_0] ∧ RowL (CA .i64 24 (by decide)) W (some ⟨1, 0, none⟩) 1 1 [tab_1] ∧ RowL (CA .i64 24 (by decide)) W (some ⟨2, 0, none⟩) 1 1 [tab_2] := by
  rw [MakeChecks.laidMetH_plain _ _ _ (by kernel_rfl)] at h
  have h : laidMet Tryd.prog [("apostille/keccak.constants", Go.Lib.tabData .u64 tab_0.toList), ("apostille/keccak.places", Go.Lib.tabData .i64 tab_1.toList), ("apostille/keccak.turns", Go.Lib.tabData .i64 tab_2.toList)] W := h
  exact ⟨tab_row (by decide) (Go.Lib.tabIs_of_head (by kernel_rfl) (g := 0) (t := 54) (by kernel_rfl) Tryd.underlying54 Tryd.underlying22 (by kernel_rfl) (by kernel_rfl) h) (by kernel_rfl), tab_row (by decide) (Go.Lib.tabIs_of_head (by kernel_rfl) (g := 1) (t := 61) (by kernel_rfl) Tryd.underlying61 Tryd.underlying3 (by kernel_rfl) (by kernel_rfl) h.tail) (by kernel_rfl), tab_row (by decide) (Go.Lib.tabIs_of_head (by kernel_rfl) (g := 2) (t := 61) (by kernel_rfl) Tryd.underlying61 Tryd.underlying3 (by kernel_rfl) (by kernel_rfl) h.tail.tail) (by kernel_rfl)⟩
set_option maxRecDepth 100000 in
theorem lifted (os : Os) (started : os.Started) (H : Type) (enc' : TypeId × Value → H) :
    ReturnsInHanded {} Tryd.checked os 4 .any (fun w args => (Rows.keccakPartsSpec.pre enc' Tryd.prog Tryd.f4 [] false w args ∧ laidMetH Tryd.prog laidL w) ∧ sizedMet enc' Tryd.prog Tryd.f4 (OpenSpec.ofChange Rows.keccakPartsSpec) false w args) (Rows.keccakPartsSpec.post enc' Tryd.prog Tryd.f4 false true false false) := by
  refine returnsInHanded_of_change_and (C := Tryd.checked) (X := fun w _ => laidMetH Tryd.prog laidL w) (fun _ _ _ hh h => h.of_heap hh) own started (by kernel_rfl) Tryd.func4
    (ChangeSpec.witness_shaped (enc := enc') (C := Tryd.checked) (os := os) (X := fun w _ => laidMetH Tryd.prog laidL w) false (World.doorLaid Tryd.prog 400 os) #[.agg (([.int .i64 0] : List Value) ++ enc .u64 (zeroA 25) ++ ([.int .i64 0, .bool false] : List Value)).toArray, .slice none 0 0, .slice none 0 0, .int .u8 0, .int .u8 0] 8 rfl (World.shaped_of_RefB (by kernel_rfl) (by kernel_rfl)) (by kernel_rfl) (by kernel_rfl) (by kernel_rfl) (door_met os _)) ?_
  intro W base args ds gs before hval0 hW _ hsz0 hL _
  obtain ⟨g0, g1, g2⟩ := of_laid hL
  have hval : ∀ (j : Nat) t v, Tryd.f4.params[j]? = some t → args[j]? = some v → Value.okWide Tryd.prog W .any base t v := hval0
  have hW' := hW
  obtain ⟨p, q, hA0, hV, rfl, hfz, hnd⟩ := hW
  have hA : DataW.TrodAll enc' Tryd.prog W 0 (fun _ => true) true Tryd.f4.params.toList args.toList ds p := hA0
  rw [Tryd.params4] at hA hval
  have hsz : (DataW.weightsEach Tryd.prog (Tryd.f4.params.toList ++ Rows.keccakPartsSpec.plain.varTypes Tryd.prog) (ds ++ gs)).all (· ≤ reachBytes) = true := hsz0
  rw [Tryd.params4] at hsz
  obtain ⟨v0, vs0, d0, ds0, p0, q0, hargs, rfl, rfl, h0, r0⟩ := trodAll_cons hA
  obtain ⟨v1, vs1, d1, ds1, p1, q1, rfl, rfl, rfl, h1, r1⟩ := trodAll_cons r0
  obtain ⟨v2, vs2, d2, ds2, p2, q2, rfl, rfl, rfl, h2, r2⟩ := trodAll_cons r1
  obtain ⟨v3, vs3, d3, ds3, p3, q3, rfl, rfl, rfl, h3, r3⟩ := trodAll_cons r2
  obtain ⟨v4, vs4, d4, ds4, p4, q4, rfl, rfl, rfl, h4, r4⟩ := trodAll_cons r3
  obtain ⟨rfl, rfl, rfl⟩ := trodAll_nil r4
  obtain rfl : args = #[v0, v1, v2, v3, v4] := by cases args; simp_all
  obtain ⟨rfl, rfl⟩ := trodVars_none hV
  have lt0 : ∀ x ∈ p0, x.block < W.heap.size := by obtain ⟨m, hm⟩ := h0; exact DataW.trod_lt m _ _ _ hm
  obtain ⟨pre0, a0_1, post0, rfl, fp0, w0, fq0⟩ := Go.Mx.open_mix (k := .u64) (n := 25) (e := 22) [some .i64] [some .i64, none] [3] [3, 4] Tryd.underlying25 Tryd.underlying22 (by kernel_rfl) (by kernel_rfl) rfl rfl (typeK_cons Tryd.underlying3 typeK_nil) (typeK_cons Tryd.underlying3 (typeK_cons Tryd.underlying4 typeK_nil)) (hval 0 25 v0 rfl rfl)
  obtain ⟨a0_0, _, rfl, r_a0_0, rfl⟩ := fp0
  obtain ⟨a0_2, _, rfl, r_a0_2, a0_3, _, rfl, rfl⟩ := fq0
  obtain ⟨A1, n1, c1, rfl⟩ := okWide_slice Tryd.underlying26 (hval 1 26 v1 rfl rfl)
  have lt1 : ∀ x ∈ p1, x.block < W.heap.size := by obtain ⟨m, hm⟩ := h1; exact DataW.trod_lt m _ _ _ hm
  obtain ⟨a1, w1, z1⟩ := Go.Mx.open_row (k := .u8) Tryd.underlying26 Tryd.underlying5 (by kernel_rfl) h1
  have y1 : a1.length ≤ 140737488351232 := by have q1 := sized_row hsz (j := 1) (t := 26) rfl rfl Tryd.underlying26 Tryd.underlying5 (by kernel_rfl) (by decide +kernel) h1; have q2 := w1.length; omega
  obtain ⟨A2, n2, c2, rfl⟩ := okWide_slice Tryd.underlying26 (hval 2 26 v2 rfl rfl)
  have lt2 : ∀ x ∈ p2, x.block < W.heap.size := by obtain ⟨m, hm⟩ := h2; exact DataW.trod_lt m _ _ _ hm
  obtain ⟨a2, w2, z2⟩ := Go.Mx.open_row (k := .u8) Tryd.underlying26 Tryd.underlying5 (by kernel_rfl) h2
  have y2 : a2.length ≤ 140737488351232 := by have q1 := sized_row hsz (j := 2) (t := 26) rfl rfl Tryd.underlying26 Tryd.underlying5 (by kernel_rfl) (by decide +kernel) h2; have q2 := w2.length; omega
  obtain ⟨a3, rfl, rfl, rfl, w3⟩ := open_int Tryd.underlying5 (hval 3 5 v3 rfl rfl) h3
  obtain ⟨a4, rfl, rfl, rfl, w4⟩ := open_int Tryd.underlying5 (hval 4 5 v4 rfl rfl) h4
  clear hA0 hval0
  obtain ⟨K, hK⟩ := Pure.KeccakParts a0_0 a0_1 a0_2 a0_3 r_a0_0 w0 r_a0_2 a1 z1 y1 a2 z2 y2 a3 (inR_of_wf w3) a4 (inR_of_wf w4)
  refine (law08_KeccakParts.ok hK W w1 w2 g0 g1 g2).mono fun e W' ⟨he, hs⟩ => ?_
  subst he
  exact ⟨_, rfl, _, _, _, [], _, [], hW', trodAll_mk1 (shut_bool Tryd.underlying4 _), (trodAll_cons_mk (Below.trod laidOut (by kernel_rfl) (of_decide_eq_true (by kernel_rfl)) h0 hs.below lt0) (trodAll_cons_mk (Below.trod laidOut (by kernel_rfl) (of_decide_eq_true (by kernel_rfl)) h1 hs.below lt1) (trodAll_cons_mk (Below.trod laidOut (by kernel_rfl) (of_decide_eq_true (by kernel_rfl)) h2 hs.below lt2) (trodAll_cons_mk (shut_int Tryd.underlying5 w3) (trodAll_cons_mk (shut_int Tryd.underlying5 w4) trodAll_mk0))))), rfl, hs.below.frame _, fun h => by cases h⟩
theorem over : Rows.keccakPartsRow.holds Tryd.pinned (OpenSpec.ofChange Rows.keccakPartsSpec) :=
  OpenClaim.holds_of_wide 4 Tryd.f4 rfl rfl rfl rfl rfl rfl rfl ⟨rfl, rfl, rfl, rfl, rfl⟩ rfl rfl rfl rfl rfl (by kernel_rfl) Tryd.func4 (by kernel_rfl)
    (of_decide_eq_true (by kernel_rfl)) (by unfold Func.isWrapper; first | (rw [if_pos (by decide +kernel)]; kernel_rfl) | (rw [if_neg (by decide +kernel)]; exact ⟨rfl, rfl⟩))
    (fun os started H enc' _ => lifted os started H enc')
end Go.Proofs.YtijahfdldlmnhaaDoor.keccakParts
namespace Go.Proofs.YtijahfdldlmnhaaDoor
/-- The row. -/
theorem keccakParts_bare : Rows.KeccakPartsSaid := keccakParts.over
/-- The tied card. -/
theorem keccakParts_holds : Rows.KeccakPartsCardSaid :=
  Claim7.holds_tied_plain_at .later [] [.data, .data, .data] true (true, "f2835dcd23e80a5c3c36f530da1fee63c53de60aeed453842e707791c118b383") false
    keccakParts_bare (fun _ h => by cases h) (by kernel_rfl) (fun _ h => by cases h) keccakParts_row_tie rfl ⟨rfl, rfl⟩ (by kernel_rfl) rfl
    (fun f fn hf hfn => by
      obtain rfl : f = 4 := Option.some.inj ((show Tryd.prog.funcNamed "apostille/apostillelaw08.KeccakParts" = some 4 by kernel_rfl).symm.trans hf) |>.symm
      obtain rfl : fn = Tryd.f4 := (Option.some.inj (Tryd.func4.symm.trans hfn)).symm
      exact ⟨by kernel_rfl, fun j t ht => by
        rw [Tryd.params4] at ht
        have hm : t ∈ [25, 26, 26, 5, 5] := by simpa using Array.mem_of_getElem? ht
        have hall : ([25, 26, 26, 5, 5].all fun u => !Tryd.prog.wantsStandIn u) = true := by kernel_rfl
        exact (show Tryd.prog.wantsStandIn t = false by simpa using List.all_eq_true.1 hall t hm)⟩)
    (by kernel_rfl)
#print axioms keccakParts_holds
end Go.Proofs.YtijahfdldlmnhaaDoor
