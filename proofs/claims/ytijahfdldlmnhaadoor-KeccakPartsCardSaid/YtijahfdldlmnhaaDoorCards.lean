/-
  DERIVED. GIVEN WITH THE SEED: THE CARDS: each row of YtijahfdldlmnhaaDoorRows.lean that lists a variable, with what it lists TIED to the program's text (the seventh form; the later family's looks); each row that meets fmt, with fmt's text TOLD by the authors' own Lean function (tested against real Go, not proved from fmt's source: count such statements apart). THE CARD IS WHAT COUNTS. Prove the row's statement (the work); the ties are given (YtijahfdldlmnhaaDoorTie.lean); close each card by the builder's one call (the guide's Derived/Test/ToyasCard.lean, 'card_holds'). Laid BY PROGRAM, IN A SANDBOX (cutbox-door.mjs). By AI agents, Wed Nov 11 2026. No macro, syntax, notation, axiom, sorry.
-/
import Derived.Test.YtijahfdldlmnhaaDoorRows
import GoSem.ClaimSeven
namespace Go.Proofs.YtijahfdldlmnhaaDoor
namespace Rows

/-- THE TIED CARD OF 'apostillelaw08.KeccakGoes'. -/
def keccakGoesCard : Claim7 := { stood := { row := keccakGoesRow, standIns := [], harness := (true, "f2835dcd23e80a5c3c36f530da1fee63c53de60aeed453842e707791c118b383"), looks := false }, kinds := [], alts := [], laidByText := true, laidKinds := [.data, .data, .data], laidTests := true, laidLooks := .later }
def KeccakGoesCardSaid : Prop := Claim7.holds Tryd.pinned (.plain (OpenSpec.ofChange keccakGoesSpec)) keccakGoesCard

/-- THE TIED CARD OF 'apostillelaw08.KeccakParts'. -/
def keccakPartsCard : Claim7 := { stood := { row := keccakPartsRow, standIns := [], harness := (true, "f2835dcd23e80a5c3c36f530da1fee63c53de60aeed453842e707791c118b383"), looks := false }, kinds := [], alts := [], laidByText := true, laidKinds := [.data, .data, .data], laidTests := true, laidLooks := .later }
def KeccakPartsCardSaid : Prop := Claim7.holds Tryd.pinned (.plain (OpenSpec.ofChange keccakPartsSpec)) keccakPartsCard

/-- THE TIED CARD OF 'apostillelaw08.KeccakSums'. -/
def keccakSumsCard : Claim7 := { stood := { row := keccakSumsRow, standIns := [], harness := (true, "f2835dcd23e80a5c3c36f530da1fee63c53de60aeed453842e707791c118b383"), looks := false }, kinds := [], alts := [], laidByText := true, laidKinds := [.data, .data, .data], laidTests := true, laidLooks := .later }
def KeccakSumsCardSaid : Prop := Claim7.holds Tryd.pinned (.plain (OpenSpec.ofChange keccakSumsSpec)) keccakSumsCard

/-- THE TIED CARD OF 'apostillelaw08.KeccakTells'. -/
def keccakTellsCard : Claim7 := { stood := { row := keccakTellsRow, standIns := [], harness := (true, "f2835dcd23e80a5c3c36f530da1fee63c53de60aeed453842e707791c118b383"), looks := false }, kinds := [], alts := [], laidByText := true, laidKinds := [.data, .data, .data], laidTests := true, laidLooks := .later }
def KeccakTellsCardSaid : Prop := Claim7.holds Tryd.pinned (.plain (OpenSpec.ofChange keccakTellsSpec)) keccakTellsCard

/-- THE SECOND FORM's CARD OF 'apostillelaw08.KeccakGoes'. -/
def keccakGoesUptoCard : Claim7 := { stood := { row := keccakGoesUptoRow, standIns := [], harness := (true, "f2835dcd23e80a5c3c36f530da1fee63c53de60aeed453842e707791c118b383"), looks := false }, kinds := [], alts := [], laidByText := true, laidKinds := [.data, .data, .data], laidTests := true, laidLooks := .later }
def KeccakGoesUptoCardSaid : Prop := Claim7.holds Tryd.pinned (.plain (OpenSpec.upto keccakGoesSpec)) keccakGoesUptoCard

/-- THE SECOND FORM's CARD OF 'apostillelaw08.KeccakParts'. -/
def keccakPartsUptoCard : Claim7 := { stood := { row := keccakPartsUptoRow, standIns := [], harness := (true, "f2835dcd23e80a5c3c36f530da1fee63c53de60aeed453842e707791c118b383"), looks := false }, kinds := [], alts := [], laidByText := true, laidKinds := [.data, .data, .data], laidTests := true, laidLooks := .later }
def KeccakPartsUptoCardSaid : Prop := Claim7.holds Tryd.pinned (.plain (OpenSpec.upto keccakPartsSpec)) keccakPartsUptoCard

/-- THE SECOND FORM's CARD OF 'apostillelaw08.KeccakSums'. -/
def keccakSumsUptoCard : Claim7 := { stood := { row := keccakSumsUptoRow, standIns := [], harness := (true, "f2835dcd23e80a5c3c36f530da1fee63c53de60aeed453842e707791c118b383"), looks := false }, kinds := [], alts := [], laidByText := true, laidKinds := [.data, .data, .data], laidTests := true, laidLooks := .later }
def KeccakSumsUptoCardSaid : Prop := Claim7.holds Tryd.pinned (.plain (OpenSpec.upto keccakSumsSpec)) keccakSumsUptoCard

/-- THE SECOND FORM's CARD OF 'apostillelaw08.KeccakTells'. -/
def keccakTellsUptoCard : Claim7 := { stood := { row := keccakTellsUptoRow, standIns := [], harness := (true, "f2835dcd23e80a5c3c36f530da1fee63c53de60aeed453842e707791c118b383"), looks := false }, kinds := [], alts := [], laidByText := true, laidKinds := [.data, .data, .data], laidTests := true, laidLooks := .later }
def KeccakTellsUptoCardSaid : Prop := Claim7.holds Tryd.pinned (.plain (OpenSpec.upto keccakTellsSpec)) keccakTellsUptoCard
end Rows
end Go.Proofs.YtijahfdldlmnhaaDoor
