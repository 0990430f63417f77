/-
  DERIVED. GIVEN WITH THE SEED: THE PROGRAM's TIES (one call each: nine closed facts by the kernel) AND EACH ROW's TIE, after the 31st guide's Derived/Test/Toyas{Tie, Card}.lean. No idea stands in it: it is a product of the set-up. Laid BY PROGRAM, IN A SANDBOX (cutbox-door.mjs). By AI agents, Wed Nov 11 2026. No macro, syntax, notation, axiom, sorry.
-/
import Derived.Test.YtemdbgmldljbpaaDoorRows
import Derived.LaidByTextLater
import Derived.SevenTiedAt
import Derived.LaidSub
import Derived.LaidOnce
namespace Go.Proofs.YtemdbgmldljbpaaDoor
open Go
set_option maxRecDepth 100000
theorem seatTie1 : Tryd.prog.laidByTextLater [("apostille/keccak.constants", Rows.laid_apostille_keccak_constants), ("apostille/keccak.places", Rows.laid_apostille_keccak_places), ("apostille/keccak.turns", Rows.laid_apostille_keccak_turns)] [.data, .data, .data] true :=
  Program.laidByTextLater_by_one 24 8 25 (by kernel_rfl) (by kernel_rfl) (by kernel_rfl) (by kernel_rfl) (by kernel_rfl) (by kernel_rfl) (fun _ _ => by kernel_rfl)
theorem noOwnUnsafe : Tryd.pinned.checked.prog.headLifts.contains "ownunsafe" = false := by kernel_rfl
theorem tie : Tryd.prog.laidByTextLater [("apostille/keccak.constants", Rows.laid_apostille_keccak_constants), ("apostille/keccak.places", Rows.laid_apostille_keccak_places), ("apostille/keccak.turns", Rows.laid_apostille_keccak_turns)] [.data, .data, .data] true :=
  Program.laidByTextLater.sub seatTie1 ["apostille/keccak.constants", "apostille/keccak.places", "apostille/keccak.turns"] (by kernel_rfl) (by kernel_rfl)
theorem kpkeDraws_row_tie : Rows.kpkeDrawsRow.laidByTextAt .later Tryd.pinned [.data, .data, .data] true :=
  OpenClaim.laidByTextAt_later rfl rfl tie noOwnUnsafe
theorem kpkeWorks_row_tie : Rows.kpkeWorksRow.laidByTextAt .later Tryd.pinned [.data, .data, .data] true :=
  OpenClaim.laidByTextAt_later rfl rfl tie noOwnUnsafe
theorem kpkeSmall_row_tie : Rows.kpkeSmallRow.laidByTextAt .later Tryd.pinned [.data, .data, .data] true :=
  OpenClaim.laidByTextAt_later rfl rfl tie noOwnUnsafe
theorem kemEach_row_tie : Rows.kemEachRow.laidByTextAt .later Tryd.pinned [.data, .data, .data] true :=
  OpenClaim.laidByTextAt_later rfl rfl tie noOwnUnsafe
theorem kemShares_row_tie : Rows.kemSharesRow.laidByTextAt .later Tryd.pinned [.data, .data, .data] true :=
  OpenClaim.laidByTextAt_later rfl rfl tie noOwnUnsafe
theorem kpkeDrawsUpto_row_tie : Rows.kpkeDrawsUptoRow.laidByTextAt .later Tryd.pinned [.data, .data, .data] true :=
  OpenClaim.laidByTextAt_later rfl rfl tie noOwnUnsafe
theorem kpkeWorksUpto_row_tie : Rows.kpkeWorksUptoRow.laidByTextAt .later Tryd.pinned [.data, .data, .data] true :=
  OpenClaim.laidByTextAt_later rfl rfl tie noOwnUnsafe
theorem kpkeSmallUpto_row_tie : Rows.kpkeSmallUptoRow.laidByTextAt .later Tryd.pinned [.data, .data, .data] true :=
  OpenClaim.laidByTextAt_later rfl rfl tie noOwnUnsafe
theorem kemEachUpto_row_tie : Rows.kemEachUptoRow.laidByTextAt .later Tryd.pinned [.data, .data, .data] true :=
  OpenClaim.laidByTextAt_later rfl rfl tie noOwnUnsafe
theorem kemSharesUpto_row_tie : Rows.kemSharesUptoRow.laidByTextAt .later Tryd.pinned [.data, .data, .data] true :=
  OpenClaim.laidByTextAt_later rfl rfl tie noOwnUnsafe
end Go.Proofs.YtemdbgmldljbpaaDoor
