/-
  No cell of these rows narrows 'for every input' (looked for: loops, veiled, ifaces, maps, wideKeys, modest, calm, conditions, laid).
  DERIVED. THE GIVEN ROWS OF THIS SEAT. 8 by the template 'for every input the law returns true; each argument reads behind the call as it read before'; 0 by the template 'total and deterministic' (their statements: YtijahfdldlmnhaaTotals.lean).
  GIVEN WITH THE SEED: the statements are not yours to turn. If you find one false, say at which input.
  Laid BY PROGRAM, IN A SANDBOX (cutbox-rows.mjs): the forced cells as the released guide's own fill.sh prints them over the translation 642af4778f5916e7… (all of the seat's roots in one cut). By AI agents, Wed Nov 11 2026. No macro, syntax, notation, axiom, sorry.
-/
import Derived.Test.YtijahfdldlmnhaaChecked
import GoSem.Claim
import GoSem.ClaimJoined
import GoSem.ClaimMapViews
import Derived.JoinedTies
import Derived.KernelRfl
namespace Go.Proofs.Ytijahfdldlmnhaa
/- THE CELL 'sum', in the pinned program and in every row, IS THE sha256 OF THE DUMP (.gsa) THAT YtijahfdldlmnhaaProg.lean LOADS. Nothing in Lean hashes anything: it is a label: what it is worth is what the hold of that sum in a sandbox is worth. -/
noncomputable def Try.pinned : Pinned := { name := "ytijahfdldlmnhaa", sum := "642af4778f5916e7bac794bf6be11ccd1cc2ae02ca185bff4b40c2ffc2eee872", checked := Try.checked }
namespace Rows
def none {H : Type} : Left H := { results := [], args := [] }

/-- 'apostillelaw25.KqAbout': WHATEVER THE INPUT: true; the input reads as it did. -/
def kqAboutSpec : ChangeSpec := { name := "kqAbout", fn := fun _ => fun
  | [d1, d2] => { results := [.lit (.bool true)], args := [d1, d2] }
  | _ => none }
def kqAboutRow : OpenClaim := { program := "ytijahfdldlmnhaa", sum := "642af4778f5916e7bac794bf6be11ccd1cc2ae02ca185bff4b40c2ffc2eee872", func := "apostille/apostillelaw25.KqAbout", spec := "kqAbout", apart := false }
def KqAboutSaid : Prop := kqAboutRow.holds Try.pinned (OpenSpec.ofChange kqAboutSpec)

/-- ITS FALSE NEIGHBOUR: 'it returns false'. Refute it at one input. -/
def kqAboutWrong : ChangeSpec := { name := "kqAbout", fn := fun _ => fun
  | [d1, d2] => { results := [.lit (.bool false)], args := [d1, d2] }
  | _ => none }
def KqAboutWrongFalsely : Prop := kqAboutRow.holds Try.pinned (OpenSpec.ofChange kqAboutWrong)

/-- 'apostillelaw21.ZqParts': WHATEVER THE INPUT: true; the input reads as it did. -/
def zqPartsSpec : ChangeSpec := { name := "zqParts", fn := fun _ => fun
  | [d1, d2, d3, d4] => { results := [.lit (.bool true)], args := [d1, d2, d3, d4] }
  | _ => none }
def zqPartsRow : OpenClaim := { program := "ytijahfdldlmnhaa", sum := "642af4778f5916e7bac794bf6be11ccd1cc2ae02ca185bff4b40c2ffc2eee872", func := "apostille/apostillelaw21.ZqParts", spec := "zqParts", apart := false }
def ZqPartsSaid : Prop := zqPartsRow.holds Try.pinned (OpenSpec.ofChange zqPartsSpec)

/-- ITS FALSE NEIGHBOUR: 'it returns false'. Refute it at one input. -/
def zqPartsWrong : ChangeSpec := { name := "zqParts", fn := fun _ => fun
  | [d1, d2, d3, d4] => { results := [.lit (.bool false)], args := [d1, d2, d3, d4] }
  | _ => none }
def ZqPartsWrongFalsely : Prop := zqPartsRow.holds Try.pinned (OpenSpec.ofChange zqPartsWrong)

/-- 'apostillelaw21.ZqHints': WHATEVER THE INPUT: true; the input reads as it did. -/
def zqHintsSpec : ChangeSpec := { name := "zqHints", fn := fun _ => fun
  | [d1, d2, d3] => { results := [.lit (.bool true)], args := [d1, d2, d3] }
  | _ => none }
def zqHintsRow : OpenClaim := { program := "ytijahfdldlmnhaa", sum := "642af4778f5916e7bac794bf6be11ccd1cc2ae02ca185bff4b40c2ffc2eee872", func := "apostille/apostillelaw21.ZqHints", spec := "zqHints", apart := false }
def ZqHintsSaid : Prop := zqHintsRow.holds Try.pinned (OpenSpec.ofChange zqHintsSpec)

/-- ITS FALSE NEIGHBOUR: 'it returns false'. Refute it at one input. -/
def zqHintsWrong : ChangeSpec := { name := "zqHints", fn := fun _ => fun
  | [d1, d2, d3] => { results := [.lit (.bool false)], args := [d1, d2, d3] }
  | _ => none }
def ZqHintsWrongFalsely : Prop := zqHintsRow.holds Try.pinned (OpenSpec.ofChange zqHintsWrong)

/-- 'apostillelaw21.ZqValues': WHATEVER THE INPUT: true; the input reads as it did. -/
def zqValuesSpec : ChangeSpec := { name := "zqValues", fn := fun _ => fun
  | [d1, d2] => { results := [.lit (.bool true)], args := [d1, d2] }
  | _ => none }
def zqValuesRow : OpenClaim := { program := "ytijahfdldlmnhaa", sum := "642af4778f5916e7bac794bf6be11ccd1cc2ae02ca185bff4b40c2ffc2eee872", func := "apostille/apostillelaw21.ZqValues", spec := "zqValues", apart := false }
def ZqValuesSaid : Prop := zqValuesRow.holds Try.pinned (OpenSpec.ofChange zqValuesSpec)

/-- ITS FALSE NEIGHBOUR: 'it returns false'. Refute it at one input. -/
def zqValuesWrong : ChangeSpec := { name := "zqValues", fn := fun _ => fun
  | [d1, d2] => { results := [.lit (.bool false)], args := [d1, d2] }
  | _ => none }
def ZqValuesWrongFalsely : Prop := zqValuesRow.holds Try.pinned (OpenSpec.ofChange zqValuesWrong)

/-- 'apostillelaw21.ZqTells': WHATEVER THE INPUT: true; the input reads as it did. -/
def zqTellsSpec : ChangeSpec := { name := "zqTells", fn := fun _ => fun
  | [d1, d2] => { results := [.lit (.bool true)], args := [d1, d2] }
  | _ => none }
def zqTellsRow : OpenClaim := { program := "ytijahfdldlmnhaa", sum := "642af4778f5916e7bac794bf6be11ccd1cc2ae02ca185bff4b40c2ffc2eee872", func := "apostille/apostillelaw21.ZqTells", spec := "zqTells", apart := false }
def ZqTellsSaid : Prop := zqTellsRow.holds Try.pinned (OpenSpec.ofChange zqTellsSpec)

/-- ITS FALSE NEIGHBOUR: 'it returns false'. Refute it at one input. -/
def zqTellsWrong : ChangeSpec := { name := "zqTells", fn := fun _ => fun
  | [d1, d2] => { results := [.lit (.bool false)], args := [d1, d2] }
  | _ => none }
def ZqTellsWrongFalsely : Prop := zqTellsRow.holds Try.pinned (OpenSpec.ofChange zqTellsWrong)

/-- 'apostillelaw25.KqBits': WHATEVER THE INPUT: true; the input reads as it did. -/
def kqBitsSpec : ChangeSpec := { name := "kqBits", fn := fun _ => fun
  | [d1, d2, d3] => { results := [.lit (.bool true)], args := [d1, d2, d3] }
  | _ => none }
def kqBitsRow : OpenClaim := { program := "ytijahfdldlmnhaa", sum := "642af4778f5916e7bac794bf6be11ccd1cc2ae02ca185bff4b40c2ffc2eee872", func := "apostille/apostillelaw25.KqBits", spec := "kqBits", apart := false }
def KqBitsSaid : Prop := kqBitsRow.holds Try.pinned (OpenSpec.ofChange kqBitsSpec)

/-- ITS FALSE NEIGHBOUR: 'it returns false'. Refute it at one input. -/
def kqBitsWrong : ChangeSpec := { name := "kqBits", fn := fun _ => fun
  | [d1, d2, d3] => { results := [.lit (.bool false)], args := [d1, d2, d3] }
  | _ => none }
def KqBitsWrongFalsely : Prop := kqBitsRow.holds Try.pinned (OpenSpec.ofChange kqBitsWrong)

/-- 'apostillelaw21.ZqBack': WHATEVER THE INPUT: true; the input reads as it did. -/
def zqBackSpec : ChangeSpec := { name := "zqBack", fn := fun _ => fun
  | [d1, d2, d3] => { results := [.lit (.bool true)], args := [d1, d2, d3] }
  | _ => none }
def zqBackRow : OpenClaim := { program := "ytijahfdldlmnhaa", sum := "642af4778f5916e7bac794bf6be11ccd1cc2ae02ca185bff4b40c2ffc2eee872", func := "apostille/apostillelaw21.ZqBack", spec := "zqBack", apart := false }
def ZqBackSaid : Prop := zqBackRow.holds Try.pinned (OpenSpec.ofChange zqBackSpec)

/-- ITS FALSE NEIGHBOUR: 'it returns false'. Refute it at one input. -/
def zqBackWrong : ChangeSpec := { name := "zqBack", fn := fun _ => fun
  | [d1, d2, d3] => { results := [.lit (.bool false)], args := [d1, d2, d3] }
  | _ => none }
def ZqBackWrongFalsely : Prop := zqBackRow.holds Try.pinned (OpenSpec.ofChange zqBackWrong)

/-- 'apostillelaw25.KqTells': WHATEVER THE INPUT: true; the input reads as it did. -/
def kqTellsSpec : ChangeSpec := { name := "kqTells", fn := fun _ => fun
  | [d1, d2] => { results := [.lit (.bool true)], args := [d1, d2] }
  | _ => none }
def kqTellsRow : OpenClaim := { program := "ytijahfdldlmnhaa", sum := "642af4778f5916e7bac794bf6be11ccd1cc2ae02ca185bff4b40c2ffc2eee872", func := "apostille/apostillelaw25.KqTells", spec := "kqTells", apart := false }
def KqTellsSaid : Prop := kqTellsRow.holds Try.pinned (OpenSpec.ofChange kqTellsSpec)

/-- ITS FALSE NEIGHBOUR: 'it returns false'. Refute it at one input. -/
def kqTellsWrong : ChangeSpec := { name := "kqTells", fn := fun _ => fun
  | [d1, d2] => { results := [.lit (.bool false)], args := [d1, d2] }
  | _ => none }
def KqTellsWrongFalsely : Prop := kqTellsRow.holds Try.pinned (OpenSpec.ofChange kqTellsWrong)

/- THE SECOND FORM. 'bulk': how many values and letters a reading holds, each counted each time it is reached (what is shared counts as often as it is met; a slice's spare places count too). A statement '..UptoSaid' is the law's where the arguments, and the package variables that the reading takes, are together of bulk at most 1048576: NARROWER than '..Said'. Prove '..Said' where nothing that the law and all that it calls make is longer than what came in: it says more and counts as full. Else prove '..UptoSaid'. A law counts once. -/
mutual
def uptoBulk {H : Type} : DataW H → Nat
  | .lit (.string bytes) => bytes.length + 1
  | .lit _ => 1
  | .nil => 1
  | .ptr d => uptoBulk d + 1
  | .slice elems spare => uptoBulkAll elems + uptoBulkAll spare + 1
  | .agg parts => uptoBulkAll parts + 1
  | .iface _ d => uptoBulk d + 1
  | .map entries => uptoBulkEntries entries + 1
  | .held _ => 1
def uptoBulkAll {H : Type} : List (DataW H) → Nat
  | [] => 0
  | d :: r => uptoBulk d + uptoBulkAll r
def uptoBulkEntries {H : Type} : List (Lit × DataW H) → Nat
  | [] => 0
  | x :: r => uptoBulkEntry x + uptoBulkEntries r
def uptoBulkEntry {H : Type} : Lit × DataW H → Nat
  | (.string bytes, d) => bytes.length + uptoBulk d + 1
  | (_, d) => uptoBulk d + 1
 end
def uptoSmall : (H : Type) → List (DataW H) → Bool := fun _ ds => decide (uptoBulkAll ds ≤ 1048576)
def OpenSpec.upto (s : _root_.Go.ChangeSpec) : _root_.Go.OpenSpec := { _root_.Go.OpenSpec.ofChange s with cond := some uptoSmall }

/-- 'apostillelaw25.KqAbout', WHERE WHAT IT READS IS OF BULK AT MOST 1048576: true; the input reads as it did. -/
def kqAboutUptoRow : OpenClaim := { program := "ytijahfdldlmnhaa", sum := "642af4778f5916e7bac794bf6be11ccd1cc2ae02ca185bff4b40c2ffc2eee872", func := "apostille/apostillelaw25.KqAbout", spec := "kqAbout", apart := false, narrowed := true }
def KqAboutUptoSaid : Prop := kqAboutUptoRow.holds Try.pinned (OpenSpec.upto kqAboutSpec)

/-- 'apostillelaw21.ZqParts', WHERE WHAT IT READS IS OF BULK AT MOST 1048576: true; the input reads as it did. -/
def zqPartsUptoRow : OpenClaim := { program := "ytijahfdldlmnhaa", sum := "642af4778f5916e7bac794bf6be11ccd1cc2ae02ca185bff4b40c2ffc2eee872", func := "apostille/apostillelaw21.ZqParts", spec := "zqParts", apart := false, narrowed := true }
def ZqPartsUptoSaid : Prop := zqPartsUptoRow.holds Try.pinned (OpenSpec.upto zqPartsSpec)

/-- 'apostillelaw21.ZqHints', WHERE WHAT IT READS IS OF BULK AT MOST 1048576: true; the input reads as it did. -/
def zqHintsUptoRow : OpenClaim := { program := "ytijahfdldlmnhaa", sum := "642af4778f5916e7bac794bf6be11ccd1cc2ae02ca185bff4b40c2ffc2eee872", func := "apostille/apostillelaw21.ZqHints", spec := "zqHints", apart := false, narrowed := true }
def ZqHintsUptoSaid : Prop := zqHintsUptoRow.holds Try.pinned (OpenSpec.upto zqHintsSpec)

/-- 'apostillelaw21.ZqValues', WHERE WHAT IT READS IS OF BULK AT MOST 1048576: true; the input reads as it did. -/
def zqValuesUptoRow : OpenClaim := { program := "ytijahfdldlmnhaa", sum := "642af4778f5916e7bac794bf6be11ccd1cc2ae02ca185bff4b40c2ffc2eee872", func := "apostille/apostillelaw21.ZqValues", spec := "zqValues", apart := false, narrowed := true }
def ZqValuesUptoSaid : Prop := zqValuesUptoRow.holds Try.pinned (OpenSpec.upto zqValuesSpec)

/-- 'apostillelaw21.ZqTells', WHERE WHAT IT READS IS OF BULK AT MOST 1048576: true; the input reads as it did. -/
def zqTellsUptoRow : OpenClaim := { program := "ytijahfdldlmnhaa", sum := "642af4778f5916e7bac794bf6be11ccd1cc2ae02ca185bff4b40c2ffc2eee872", func := "apostille/apostillelaw21.ZqTells", spec := "zqTells", apart := false, narrowed := true }
def ZqTellsUptoSaid : Prop := zqTellsUptoRow.holds Try.pinned (OpenSpec.upto zqTellsSpec)

/-- 'apostillelaw25.KqBits', WHERE WHAT IT READS IS OF BULK AT MOST 1048576: true; the input reads as it did. -/
def kqBitsUptoRow : OpenClaim := { program := "ytijahfdldlmnhaa", sum := "642af4778f5916e7bac794bf6be11ccd1cc2ae02ca185bff4b40c2ffc2eee872", func := "apostille/apostillelaw25.KqBits", spec := "kqBits", apart := false, narrowed := true }
def KqBitsUptoSaid : Prop := kqBitsUptoRow.holds Try.pinned (OpenSpec.upto kqBitsSpec)

/-- 'apostillelaw21.ZqBack', WHERE WHAT IT READS IS OF BULK AT MOST 1048576: true; the input reads as it did. -/
def zqBackUptoRow : OpenClaim := { program := "ytijahfdldlmnhaa", sum := "642af4778f5916e7bac794bf6be11ccd1cc2ae02ca185bff4b40c2ffc2eee872", func := "apostille/apostillelaw21.ZqBack", spec := "zqBack", apart := false, narrowed := true }
def ZqBackUptoSaid : Prop := zqBackUptoRow.holds Try.pinned (OpenSpec.upto zqBackSpec)

/-- 'apostillelaw25.KqTells', WHERE WHAT IT READS IS OF BULK AT MOST 1048576: true; the input reads as it did. -/
def kqTellsUptoRow : OpenClaim := { program := "ytijahfdldlmnhaa", sum := "642af4778f5916e7bac794bf6be11ccd1cc2ae02ca185bff4b40c2ffc2eee872", func := "apostille/apostillelaw25.KqTells", spec := "kqTells", apart := false, narrowed := true }
def KqTellsUptoSaid : Prop := kqTellsUptoRow.holds Try.pinned (OpenSpec.upto kqTellsSpec)

end Rows
end Go.Proofs.Ytijahfdldlmnhaa
