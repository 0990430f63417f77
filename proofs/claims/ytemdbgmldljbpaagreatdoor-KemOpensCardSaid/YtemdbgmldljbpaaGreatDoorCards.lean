/-
  DERIVED. GIVEN WITH THE SEED: THE CARDS: each row of YtemdbgmldljbpaaGreatDoorRows.lean that lists a variable, with what it lists TIED to the program's text (the seventh form; the later family's looks); each row that meets fmt, with fmt's text TOLD by the authors' own Lean function (tested against real Go, not proved from fmt's source: count such statements apart). THE CARD IS WHAT COUNTS. Prove the row's statement (the work); the ties are given (YtemdbgmldljbpaaGreatDoorTie.lean); close each card by the builder's one call (the guide's Derived/Test/ToyasCard.lean, 'card_holds'). Laid BY PROGRAM, IN A SANDBOX (cutbox-door.mjs). By AI agents, Wed Nov 11 2026. No macro, syntax, notation, axiom, sorry.
-/
import Derived.Test.YtemdbgmldljbpaaGreatDoorRows
import GoSem.ClaimSeven
namespace Go.Proofs.YtemdbgmldljbpaaGreatDoor
namespace Rows

/-- THE TIED CARD OF 'apostillelaw27.KemOpens'. -/
def kemOpensCard : Claim7 := { stood := { row := kemOpensRow, standIns := [], harness := (true, "ab014bc25921a0a75a47092fe46fc4a9ceae4096bfc5ac78e80acab30b038126"), looks := false }, kinds := [], alts := [], laidByText := true, laidKinds := [.data, .data, .data], laidTests := true, laidLooks := .later }
def KemOpensCardSaid : Prop := Claim7.holds Tryz.pinned (.plain (OpenSpec.ofChange kemOpensSpec)) kemOpensCard

/-- THE TIED CARD OF 'apostillelaw27.KemWorks'. -/
def kemWorksCard : Claim7 := { stood := { row := kemWorksRow, standIns := [], harness := (true, "ab014bc25921a0a75a47092fe46fc4a9ceae4096bfc5ac78e80acab30b038126"), looks := false }, kinds := [], alts := [], laidByText := true, laidKinds := [.data, .data, .data], laidTests := true, laidLooks := .later }
def KemWorksCardSaid : Prop := Claim7.holds Tryz.pinned (.plain (OpenSpec.ofChange kemWorksSpec)) kemWorksCard

/-- THE SECOND FORM's CARD OF 'apostillelaw27.KemOpens'. -/
def kemOpensUptoCard : Claim7 := { stood := { row := kemOpensUptoRow, standIns := [], harness := (true, "ab014bc25921a0a75a47092fe46fc4a9ceae4096bfc5ac78e80acab30b038126"), looks := false }, kinds := [], alts := [], laidByText := true, laidKinds := [.data, .data, .data], laidTests := true, laidLooks := .later }
def KemOpensUptoCardSaid : Prop := Claim7.holds Tryz.pinned (.plain (OpenSpec.upto kemOpensSpec)) kemOpensUptoCard

/-- THE SECOND FORM's CARD OF 'apostillelaw27.KemWorks'. -/
def kemWorksUptoCard : Claim7 := { stood := { row := kemWorksUptoRow, standIns := [], harness := (true, "ab014bc25921a0a75a47092fe46fc4a9ceae4096bfc5ac78e80acab30b038126"), looks := false }, kinds := [], alts := [], laidByText := true, laidKinds := [.data, .data, .data], laidTests := true, laidLooks := .later }
def KemWorksUptoCardSaid : Prop := Claim7.holds Tryz.pinned (.plain (OpenSpec.upto kemWorksSpec)) kemWorksUptoCard
end Rows
end Go.Proofs.YtemdbgmldljbpaaGreatDoor
