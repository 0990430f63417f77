/-
  DERIVED. GIVEN WITH THE SEED: THE CARDS: each row of YtppohhnfojalbaaDoorRows.lean that lists a variable, with what it lists TIED to the program's text (the seventh form; the later family's looks); each row that meets fmt, with fmt's text TOLD by the authors' own Lean function (tested against real Go, not proved from fmt's source: count such statements apart). THE CARD IS WHAT COUNTS. Prove the row's statement (the work); the ties are given (YtppohhnfojalbaaDoorTie.lean); close each card by the builder's one call (the guide's Derived/Test/ToyasCard.lean, 'card_holds'). Laid BY PROGRAM, IN A SANDBOX (cutbox-door.mjs). By AI agents, Wed Nov 11 2026. No macro, syntax, notation, axiom, sorry.
-/
import Derived.Test.YtppohhnfojalbaaDoorRows
import GoSem.ClaimSeven
namespace Go.Proofs.YtppohhnfojalbaaDoor
namespace Rows

/-- THE TIED CARD OF 'apostillelaw23.DsampDraws'. -/
def dsampDrawsCard : Claim7 := { stood := { row := dsampDrawsRow, standIns := [], harness := (true, "449eab7fcae255c26319e9b3522d46dd0b7221e23dec589436b6836cd83a8648"), looks := false }, kinds := [], alts := [], laidByText := true, laidKinds := [.data, .data, .data], laidTests := true, laidLooks := .later }
def DsampDrawsCardSaid : Prop := Claim7.holds Tryd.pinned (.plain (OpenSpec.ofChange dsampDrawsSpec)) dsampDrawsCard

/-- THE TIED CARD OF 'apostillelaw23.DsampBounds'. -/
def dsampBoundsCard : Claim7 := { stood := { row := dsampBoundsRow, standIns := [], harness := (true, "449eab7fcae255c26319e9b3522d46dd0b7221e23dec589436b6836cd83a8648"), looks := false }, kinds := [], alts := [], laidByText := true, laidKinds := [.data, .data, .data], laidTests := true, laidLooks := .later }
def DsampBoundsCardSaid : Prop := Claim7.holds Tryd.pinned (.plain (OpenSpec.ofChange dsampBoundsSpec)) dsampBoundsCard

/-- THE SECOND FORM's CARD OF 'apostillelaw23.DsampDraws'. -/
def dsampDrawsUptoCard : Claim7 := { stood := { row := dsampDrawsUptoRow, standIns := [], harness := (true, "449eab7fcae255c26319e9b3522d46dd0b7221e23dec589436b6836cd83a8648"), looks := false }, kinds := [], alts := [], laidByText := true, laidKinds := [.data, .data, .data], laidTests := true, laidLooks := .later }
def DsampDrawsUptoCardSaid : Prop := Claim7.holds Tryd.pinned (.plain (OpenSpec.upto dsampDrawsSpec)) dsampDrawsUptoCard

/-- THE SECOND FORM's CARD OF 'apostillelaw23.DsampBounds'. -/
def dsampBoundsUptoCard : Claim7 := { stood := { row := dsampBoundsUptoRow, standIns := [], harness := (true, "449eab7fcae255c26319e9b3522d46dd0b7221e23dec589436b6836cd83a8648"), looks := false }, kinds := [], alts := [], laidByText := true, laidKinds := [.data, .data, .data], laidTests := true, laidLooks := .later }
def DsampBoundsUptoCardSaid : Prop := Claim7.holds Tryd.pinned (.plain (OpenSpec.upto dsampBoundsSpec)) dsampBoundsUptoCard
end Rows
end Go.Proofs.YtppohhnfojalbaaDoor
