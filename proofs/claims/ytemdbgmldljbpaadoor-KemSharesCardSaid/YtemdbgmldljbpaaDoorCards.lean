/-
  DERIVED. GIVEN WITH THE SEED: THE CARDS: each row of YtemdbgmldljbpaaDoorRows.lean that lists a variable, with what it lists TIED to the program's text (the seventh form; the later family's looks); each row that meets fmt, with fmt's text TOLD by the authors' own Lean function (tested against real Go, not proved from fmt's source: count such statements apart). THE CARD IS WHAT COUNTS. Prove the row's statement (the work); the ties are given (YtemdbgmldljbpaaDoorTie.lean); close each card by the builder's one call (the guide's Derived/Test/ToyasCard.lean, 'card_holds'). Laid BY PROGRAM, IN A SANDBOX (cutbox-door.mjs). By AI agents, Wed Nov 11 2026. No macro, syntax, notation, axiom, sorry.
-/
import Derived.Test.YtemdbgmldljbpaaDoorRows
import GoSem.ClaimSeven
namespace Go.Proofs.YtemdbgmldljbpaaDoor
namespace Rows

/-- THE TIED CARD OF 'apostillelaw26.KpkeDraws'. -/
def kpkeDrawsCard : Claim7 := { stood := { row := kpkeDrawsRow, standIns := [], harness := (true, "f2a209147eb95f005a5160feb864a0311f9a7c4cf29bac5e3502494d8923cc1b"), looks := false }, kinds := [], alts := [], laidByText := true, laidKinds := [.data, .data, .data], laidTests := true, laidLooks := .later }
def KpkeDrawsCardSaid : Prop := Claim7.holds Tryd.pinned (.plain (OpenSpec.ofChange kpkeDrawsSpec)) kpkeDrawsCard

/-- THE TIED CARD OF 'apostillelaw26.KpkeWorks'. -/
def kpkeWorksCard : Claim7 := { stood := { row := kpkeWorksRow, standIns := [], harness := (true, "f2a209147eb95f005a5160feb864a0311f9a7c4cf29bac5e3502494d8923cc1b"), looks := false }, kinds := [], alts := [], laidByText := true, laidKinds := [.data, .data, .data], laidTests := true, laidLooks := .later }
def KpkeWorksCardSaid : Prop := Claim7.holds Tryd.pinned (.plain (OpenSpec.ofChange kpkeWorksSpec)) kpkeWorksCard

/-- THE TIED CARD OF 'apostillelaw26.KpkeSmall'. -/
def kpkeSmallCard : Claim7 := { stood := { row := kpkeSmallRow, standIns := [], harness := (true, "f2a209147eb95f005a5160feb864a0311f9a7c4cf29bac5e3502494d8923cc1b"), looks := false }, kinds := [], alts := [], laidByText := true, laidKinds := [.data, .data, .data], laidTests := true, laidLooks := .later }
def KpkeSmallCardSaid : Prop := Claim7.holds Tryd.pinned (.plain (OpenSpec.ofChange kpkeSmallSpec)) kpkeSmallCard

/-- THE TIED CARD OF 'apostillelaw27.KemEach'. -/
def kemEachCard : Claim7 := { stood := { row := kemEachRow, standIns := [], harness := (true, "f2a209147eb95f005a5160feb864a0311f9a7c4cf29bac5e3502494d8923cc1b"), looks := false }, kinds := [], alts := [], laidByText := true, laidKinds := [.data, .data, .data], laidTests := true, laidLooks := .later }
def KemEachCardSaid : Prop := Claim7.holds Tryd.pinned (.plain (OpenSpec.ofChange kemEachSpec)) kemEachCard

/-- THE TIED CARD OF 'apostillelaw27.KemShares'. -/
def kemSharesCard : Claim7 := { stood := { row := kemSharesRow, standIns := [], harness := (true, "f2a209147eb95f005a5160feb864a0311f9a7c4cf29bac5e3502494d8923cc1b"), looks := false }, kinds := [], alts := [], laidByText := true, laidKinds := [.data, .data, .data], laidTests := true, laidLooks := .later }
def KemSharesCardSaid : Prop := Claim7.holds Tryd.pinned (.plain (OpenSpec.ofChange kemSharesSpec)) kemSharesCard

/-- THE SECOND FORM's CARD OF 'apostillelaw26.KpkeDraws'. -/
def kpkeDrawsUptoCard : Claim7 := { stood := { row := kpkeDrawsUptoRow, standIns := [], harness := (true, "f2a209147eb95f005a5160feb864a0311f9a7c4cf29bac5e3502494d8923cc1b"), looks := false }, kinds := [], alts := [], laidByText := true, laidKinds := [.data, .data, .data], laidTests := true, laidLooks := .later }
def KpkeDrawsUptoCardSaid : Prop := Claim7.holds Tryd.pinned (.plain (OpenSpec.upto kpkeDrawsSpec)) kpkeDrawsUptoCard

/-- THE SECOND FORM's CARD OF 'apostillelaw26.KpkeWorks'. -/
def kpkeWorksUptoCard : Claim7 := { stood := { row := kpkeWorksUptoRow, standIns := [], harness := (true, "f2a209147eb95f005a5160feb864a0311f9a7c4cf29bac5e3502494d8923cc1b"), looks := false }, kinds := [], alts := [], laidByText := true, laidKinds := [.data, .data, .data], laidTests := true, laidLooks := .later }
def KpkeWorksUptoCardSaid : Prop := Claim7.holds Tryd.pinned (.plain (OpenSpec.upto kpkeWorksSpec)) kpkeWorksUptoCard

/-- THE SECOND FORM's CARD OF 'apostillelaw26.KpkeSmall'. -/
def kpkeSmallUptoCard : Claim7 := { stood := { row := kpkeSmallUptoRow, standIns := [], harness := (true, "f2a209147eb95f005a5160feb864a0311f9a7c4cf29bac5e3502494d8923cc1b"), looks := false }, kinds := [], alts := [], laidByText := true, laidKinds := [.data, .data, .data], laidTests := true, laidLooks := .later }
def KpkeSmallUptoCardSaid : Prop := Claim7.holds Tryd.pinned (.plain (OpenSpec.upto kpkeSmallSpec)) kpkeSmallUptoCard

/-- THE SECOND FORM's CARD OF 'apostillelaw27.KemEach'. -/
def kemEachUptoCard : Claim7 := { stood := { row := kemEachUptoRow, standIns := [], harness := (true, "f2a209147eb95f005a5160feb864a0311f9a7c4cf29bac5e3502494d8923cc1b"), looks := false }, kinds := [], alts := [], laidByText := true, laidKinds := [.data, .data, .data], laidTests := true, laidLooks := .later }
def KemEachUptoCardSaid : Prop := Claim7.holds Tryd.pinned (.plain (OpenSpec.upto kemEachSpec)) kemEachUptoCard

/-- THE SECOND FORM's CARD OF 'apostillelaw27.KemShares'. -/
def kemSharesUptoCard : Claim7 := { stood := { row := kemSharesUptoRow, standIns := [], harness := (true, "f2a209147eb95f005a5160feb864a0311f9a7c4cf29bac5e3502494d8923cc1b"), looks := false }, kinds := [], alts := [], laidByText := true, laidKinds := [.data, .data, .data], laidTests := true, laidLooks := .later }
def KemSharesUptoCardSaid : Prop := Claim7.holds Tryd.pinned (.plain (OpenSpec.upto kemSharesSpec)) kemSharesUptoCard
end Rows
end Go.Proofs.YtemdbgmldljbpaaDoor
