/-
  No cell of these rows narrows 'for every input' (looked for: loops, veiled, ifaces, maps, wideKeys, modest, calm, conditions, laid).
  DERIVED. THE GIVEN ROWS OF THIS SEAT. 10 by the template 'for every input the law returns true; each argument reads behind the call as it read before'; 0 by the template 'total and deterministic' (their statements: YtmpagpbnpgcecaaTotals.lean).
  GIVEN WITH THE SEED: the statements are not yours to turn. If you find one false, say at which input.
  Laid BY PROGRAM, IN A SANDBOX (cutbox-rows.mjs): the forced cells as the released guide's own fill.sh prints them over the translation 7203c024c4942cb8… (all of the seat's roots in one cut). By AI agents, Wed Nov 11 2026. No macro, syntax, notation, axiom, sorry.
-/
import Derived.Test.YtmpagpbnpgcecaaChecked
import GoSem.Claim
import GoSem.ClaimJoined
import GoSem.ClaimMapViews
import Derived.JoinedTies
import Derived.KernelRfl
namespace Go.Proofs.Ytmpagpbnpgcecaa
/- THE CELL 'sum', in the pinned program and in every row, IS THE sha256 OF THE DUMP (.gsa) THAT YtmpagpbnpgcecaaProg.lean LOADS. Nothing in Lean hashes anything: it is a label: what it is worth is what the hold of that sum in a sandbox is worth. -/
noncomputable def Try.pinned : Pinned := { name := "ytmpagpbnpgcecaa", sum := "7203c024c4942cb8a12f1cda52b6bafcd1c1df73ed4e99af6bbc2e0f5a2aece7", checked := Try.checked }
namespace Rows
def none {H : Type} : Left H := { results := [], args := [] }

/-- 'apostillelaw10.AesBytes': WHATEVER THE INPUT: true; the input reads as it did. -/
def aesBytesSpec : ChangeSpec := { name := "aesBytes", fn := fun _ => fun
  | [d1, d2, d3] => { results := [.lit (.bool true)], args := [d1, d2, d3] }
  | _ => none }
def aesBytesRow : OpenClaim := { program := "ytmpagpbnpgcecaa", sum := "7203c024c4942cb8a12f1cda52b6bafcd1c1df73ed4e99af6bbc2e0f5a2aece7", func := "apostille/apostillelaw10.AesBytes", spec := "aesBytes", unfollowed := true, recurses := true, apart := false }
def AesBytesSaid : Prop := aesBytesRow.holds Try.pinned (OpenSpec.ofChange aesBytesSpec)

/-- ITS FALSE NEIGHBOUR: 'it returns false'. Refute it at one input. -/
def aesBytesWrong : ChangeSpec := { name := "aesBytes", fn := fun _ => fun
  | [d1, d2, d3] => { results := [.lit (.bool false)], args := [d1, d2, d3] }
  | _ => none }
def AesBytesWrongFalsely : Prop := aesBytesRow.holds Try.pinned (OpenSpec.ofChange aesBytesWrong)

/-- 'apostillelaw10.AesBlocks': WHATEVER THE INPUT: true; the input reads as it did. -/
def aesBlocksSpec : ChangeSpec := { name := "aesBlocks", fn := fun _ => fun
  | [d1, d2] => { results := [.lit (.bool true)], args := [d1, d2] }
  | _ => none }
def aesBlocksRow : OpenClaim := { program := "ytmpagpbnpgcecaa", sum := "7203c024c4942cb8a12f1cda52b6bafcd1c1df73ed4e99af6bbc2e0f5a2aece7", func := "apostille/apostillelaw10.AesBlocks", spec := "aesBlocks", unfollowed := true, recurses := true, apart := false }
def AesBlocksSaid : Prop := aesBlocksRow.holds Try.pinned (OpenSpec.ofChange aesBlocksSpec)

/-- ITS FALSE NEIGHBOUR: 'it returns false'. Refute it at one input. -/
def aesBlocksWrong : ChangeSpec := { name := "aesBlocks", fn := fun _ => fun
  | [d1, d2] => { results := [.lit (.bool false)], args := [d1, d2] }
  | _ => none }
def AesBlocksWrongFalsely : Prop := aesBlocksRow.holds Try.pinned (OpenSpec.ofChange aesBlocksWrong)

/-- 'apostillelaw11.WrapTells': WHATEVER THE INPUT: true; the input reads as it did. -/
def wrapTellsSpec : ChangeSpec := { name := "wrapTells", fn := fun _ => fun
  | [d1, d2] => { results := [.lit (.bool true)], args := [d1, d2] }
  | _ => none }
def wrapTellsRow : OpenClaim := { program := "ytmpagpbnpgcecaa", sum := "7203c024c4942cb8a12f1cda52b6bafcd1c1df73ed4e99af6bbc2e0f5a2aece7", func := "apostille/apostillelaw11.WrapTells", spec := "wrapTells", unfollowed := true, recurses := true, apart := false }
def WrapTellsSaid : Prop := wrapTellsRow.holds Try.pinned (OpenSpec.ofChange wrapTellsSpec)

/-- ITS FALSE NEIGHBOUR: 'it returns false'. Refute it at one input. -/
def wrapTellsWrong : ChangeSpec := { name := "wrapTells", fn := fun _ => fun
  | [d1, d2] => { results := [.lit (.bool false)], args := [d1, d2] }
  | _ => none }
def WrapTellsWrongFalsely : Prop := wrapTellsRow.holds Try.pinned (OpenSpec.ofChange wrapTellsWrong)

/-- 'apostillelaw11.WrapBack': WHATEVER THE INPUT: true; the input reads as it did. -/
def wrapBackSpec : ChangeSpec := { name := "wrapBack", fn := fun _ => fun
  | [d1, d2, d3] => { results := [.lit (.bool true)], args := [d1, d2, d3] }
  | _ => none }
def wrapBackRow : OpenClaim := { program := "ytmpagpbnpgcecaa", sum := "7203c024c4942cb8a12f1cda52b6bafcd1c1df73ed4e99af6bbc2e0f5a2aece7", func := "apostille/apostillelaw11.WrapBack", spec := "wrapBack", unfollowed := true, recurses := true, apart := false }
def WrapBackSaid : Prop := wrapBackRow.holds Try.pinned (OpenSpec.ofChange wrapBackSpec)

/-- ITS FALSE NEIGHBOUR: 'it returns false'. Refute it at one input. -/
def wrapBackWrong : ChangeSpec := { name := "wrapBack", fn := fun _ => fun
  | [d1, d2, d3] => { results := [.lit (.bool false)], args := [d1, d2, d3] }
  | _ => none }
def WrapBackWrongFalsely : Prop := wrapBackRow.holds Try.pinned (OpenSpec.ofChange wrapBackWrong)

/-- 'apostillelaw12.GcmSeals': WHATEVER THE INPUT: true; the input reads as it did. -/
def gcmSealsSpec : ChangeSpec := { name := "gcmSeals", fn := fun _ => fun
  | [d1, d2, d3, d4] => { results := [.lit (.bool true)], args := [d1, d2, d3, d4] }
  | _ => none }
def gcmSealsRow : OpenClaim := { program := "ytmpagpbnpgcecaa", sum := "7203c024c4942cb8a12f1cda52b6bafcd1c1df73ed4e99af6bbc2e0f5a2aece7", func := "apostille/apostillelaw12.GcmSeals", spec := "gcmSeals", unfollowed := true, recurses := true, apart := false }
def GcmSealsSaid : Prop := gcmSealsRow.holds Try.pinned (OpenSpec.ofChange gcmSealsSpec)

/-- ITS FALSE NEIGHBOUR: 'it returns false'. Refute it at one input. -/
def gcmSealsWrong : ChangeSpec := { name := "gcmSeals", fn := fun _ => fun
  | [d1, d2, d3, d4] => { results := [.lit (.bool false)], args := [d1, d2, d3, d4] }
  | _ => none }
def GcmSealsWrongFalsely : Prop := gcmSealsRow.holds Try.pinned (OpenSpec.ofChange gcmSealsWrong)

/-- 'apostillelaw12.GcmBack': WHATEVER THE INPUT: true; the input reads as it did. -/
def gcmBackSpec : ChangeSpec := { name := "gcmBack", fn := fun _ => fun
  | [d1, d2, d3, d4, d5] => { results := [.lit (.bool true)], args := [d1, d2, d3, d4, d5] }
  | _ => none }
def gcmBackRow : OpenClaim := { program := "ytmpagpbnpgcecaa", sum := "7203c024c4942cb8a12f1cda52b6bafcd1c1df73ed4e99af6bbc2e0f5a2aece7", func := "apostille/apostillelaw12.GcmBack", spec := "gcmBack", unfollowed := true, recurses := true, apart := false }
def GcmBackSaid : Prop := gcmBackRow.holds Try.pinned (OpenSpec.ofChange gcmBackSpec)

/-- ITS FALSE NEIGHBOUR: 'it returns false'. Refute it at one input. -/
def gcmBackWrong : ChangeSpec := { name := "gcmBack", fn := fun _ => fun
  | [d1, d2, d3, d4, d5] => { results := [.lit (.bool false)], args := [d1, d2, d3, d4, d5] }
  | _ => none }
def GcmBackWrongFalsely : Prop := gcmBackRow.holds Try.pinned (OpenSpec.ofChange gcmBackWrong)

/-- 'apostillelaw10.AesChains': WHATEVER THE INPUT: true; the input reads as it did. -/
def aesChainsSpec : ChangeSpec := { name := "aesChains", fn := fun _ => fun
  | [d1, d2, d3] => { results := [.lit (.bool true)], args := [d1, d2, d3] }
  | _ => none }
def aesChainsRow : OpenClaim := { program := "ytmpagpbnpgcecaa", sum := "7203c024c4942cb8a12f1cda52b6bafcd1c1df73ed4e99af6bbc2e0f5a2aece7", func := "apostille/apostillelaw10.AesChains", spec := "aesChains", inPlace := ["internal/bytealg.MakeNoZero"], unfollowed := true, recurses := true, apart := false }
def AesChainsSaid : Prop := aesChainsRow.holds Try.pinned (OpenSpec.ofChange aesChainsSpec)

/-- ITS FALSE NEIGHBOUR: 'it returns false'. Refute it at one input. -/
def aesChainsWrong : ChangeSpec := { name := "aesChains", fn := fun _ => fun
  | [d1, d2, d3] => { results := [.lit (.bool false)], args := [d1, d2, d3] }
  | _ => none }
def AesChainsWrongFalsely : Prop := aesChainsRow.holds Try.pinned (OpenSpec.ofChange aesChainsWrong)

/-- 'apostillelaw12.GcmTells': WHATEVER THE INPUT: true; the input reads as it did. -/
def gcmTellsSpec : ChangeSpec := { name := "gcmTells", fn := fun _ => fun
  | [d1, d2, d3] => { results := [.lit (.bool true)], args := [d1, d2, d3] }
  | _ => none }
def gcmTellsRow : OpenClaim := { program := "ytmpagpbnpgcecaa", sum := "7203c024c4942cb8a12f1cda52b6bafcd1c1df73ed4e99af6bbc2e0f5a2aece7", func := "apostille/apostillelaw12.GcmTells", spec := "gcmTells", unfollowed := true, recurses := true, apart := false }
def GcmTellsSaid : Prop := gcmTellsRow.holds Try.pinned (OpenSpec.ofChange gcmTellsSpec)

/-- ITS FALSE NEIGHBOUR: 'it returns false'. Refute it at one input. -/
def gcmTellsWrong : ChangeSpec := { name := "gcmTells", fn := fun _ => fun
  | [d1, d2, d3] => { results := [.lit (.bool false)], args := [d1, d2, d3] }
  | _ => none }
def GcmTellsWrongFalsely : Prop := gcmTellsRow.holds Try.pinned (OpenSpec.ofChange gcmTellsWrong)

/-- 'apostillelaw12.GcmFields': WHATEVER THE INPUT: true; the input reads as it did. -/
def gcmFieldsSpec : ChangeSpec := { name := "gcmFields", fn := fun _ => fun
  | [d1, d2, d3, d4, d5] => { results := [.lit (.bool true)], args := [d1, d2, d3, d4, d5] }
  | _ => none }
def gcmFieldsRow : OpenClaim := { program := "ytmpagpbnpgcecaa", sum := "7203c024c4942cb8a12f1cda52b6bafcd1c1df73ed4e99af6bbc2e0f5a2aece7", func := "apostille/apostillelaw12.GcmFields", spec := "gcmFields", unfollowed := true, recurses := true, apart := false }
def GcmFieldsSaid : Prop := gcmFieldsRow.holds Try.pinned (OpenSpec.ofChange gcmFieldsSpec)

/-- ITS FALSE NEIGHBOUR: 'it returns false'. Refute it at one input. -/
def gcmFieldsWrong : ChangeSpec := { name := "gcmFields", fn := fun _ => fun
  | [d1, d2, d3, d4, d5] => { results := [.lit (.bool false)], args := [d1, d2, d3, d4, d5] }
  | _ => none }
def GcmFieldsWrongFalsely : Prop := gcmFieldsRow.holds Try.pinned (OpenSpec.ofChange gcmFieldsWrong)

/-- 'apostillelaw10.AesBack': WHATEVER THE INPUT: true; the input reads as it did. -/
def aesBackSpec : ChangeSpec := { name := "aesBack", fn := fun _ => fun
  | [d1, d2, d3, d4] => { results := [.lit (.bool true)], args := [d1, d2, d3, d4] }
  | _ => none }
def aesBackRow : OpenClaim := { program := "ytmpagpbnpgcecaa", sum := "7203c024c4942cb8a12f1cda52b6bafcd1c1df73ed4e99af6bbc2e0f5a2aece7", func := "apostille/apostillelaw10.AesBack", spec := "aesBack", inPlace := ["internal/bytealg.MakeNoZero"], unfollowed := true, recurses := true, apart := false }
def AesBackSaid : Prop := aesBackRow.holds Try.pinned (OpenSpec.ofChange aesBackSpec)

/-- ITS FALSE NEIGHBOUR: 'it returns false'. Refute it at one input. -/
def aesBackWrong : ChangeSpec := { name := "aesBack", fn := fun _ => fun
  | [d1, d2, d3, d4] => { results := [.lit (.bool false)], args := [d1, d2, d3, d4] }
  | _ => none }
def AesBackWrongFalsely : Prop := aesBackRow.holds Try.pinned (OpenSpec.ofChange aesBackWrong)

/- THE SECOND FORM. 'bulk': how many values and letters a reading holds, each counted each time it is reached (what is shared counts as often as it is met; a slice's spare places count too). A statement '..UptoSaid' is the law's where the arguments, and the package variables that the reading takes, are together of bulk at most 1048576: NARROWER than '..Said'. Prove '..Said' where nothing that the law and all that it calls make is longer than what came in: it says more and counts as full. Else prove '..UptoSaid'. A law counts once. -/
mutual
def uptoBulk {H : Type} : DataW H → Nat
  | .lit (.string bytes) => bytes.length + 1
  | .lit _ => 1
  | .nil => 1
  | .ptr d => uptoBulk d + 1
  | .slice elems spare => uptoBulkAll elems + uptoBulkAll spare + 1
  | .agg parts => uptoBulkAll parts + 1
  | .iface _ d => uptoBulk d + 1
  | .map entries => uptoBulkEntries entries + 1
  | .held _ => 1
def uptoBulkAll {H : Type} : List (DataW H) → Nat
  | [] => 0
  | d :: r => uptoBulk d + uptoBulkAll r
def uptoBulkEntries {H : Type} : List (Lit × DataW H) → Nat
  | [] => 0
  | x :: r => uptoBulkEntry x + uptoBulkEntries r
def uptoBulkEntry {H : Type} : Lit × DataW H → Nat
  | (.string bytes, d) => bytes.length + uptoBulk d + 1
  | (_, d) => uptoBulk d + 1
 end
def uptoSmall : (H : Type) → List (DataW H) → Bool := fun _ ds => decide (uptoBulkAll ds ≤ 1048576)
def OpenSpec.upto (s : _root_.Go.ChangeSpec) : _root_.Go.OpenSpec := { _root_.Go.OpenSpec.ofChange s with cond := some uptoSmall }

/-- 'apostillelaw10.AesBytes', WHERE WHAT IT READS IS OF BULK AT MOST 1048576: true; the input reads as it did. -/
def aesBytesUptoRow : OpenClaim := { program := "ytmpagpbnpgcecaa", sum := "7203c024c4942cb8a12f1cda52b6bafcd1c1df73ed4e99af6bbc2e0f5a2aece7", func := "apostille/apostillelaw10.AesBytes", spec := "aesBytes", unfollowed := true, recurses := true, apart := false, narrowed := true }
def AesBytesUptoSaid : Prop := aesBytesUptoRow.holds Try.pinned (OpenSpec.upto aesBytesSpec)

/-- 'apostillelaw10.AesBlocks', WHERE WHAT IT READS IS OF BULK AT MOST 1048576: true; the input reads as it did. -/
def aesBlocksUptoRow : OpenClaim := { program := "ytmpagpbnpgcecaa", sum := "7203c024c4942cb8a12f1cda52b6bafcd1c1df73ed4e99af6bbc2e0f5a2aece7", func := "apostille/apostillelaw10.AesBlocks", spec := "aesBlocks", unfollowed := true, recurses := true, apart := false, narrowed := true }
def AesBlocksUptoSaid : Prop := aesBlocksUptoRow.holds Try.pinned (OpenSpec.upto aesBlocksSpec)

/-- 'apostillelaw11.WrapTells', WHERE WHAT IT READS IS OF BULK AT MOST 1048576: true; the input reads as it did. -/
def wrapTellsUptoRow : OpenClaim := { program := "ytmpagpbnpgcecaa", sum := "7203c024c4942cb8a12f1cda52b6bafcd1c1df73ed4e99af6bbc2e0f5a2aece7", func := "apostille/apostillelaw11.WrapTells", spec := "wrapTells", unfollowed := true, recurses := true, apart := false, narrowed := true }
def WrapTellsUptoSaid : Prop := wrapTellsUptoRow.holds Try.pinned (OpenSpec.upto wrapTellsSpec)

/-- 'apostillelaw11.WrapBack', WHERE WHAT IT READS IS OF BULK AT MOST 1048576: true; the input reads as it did. -/
def wrapBackUptoRow : OpenClaim := { program := "ytmpagpbnpgcecaa", sum := "7203c024c4942cb8a12f1cda52b6bafcd1c1df73ed4e99af6bbc2e0f5a2aece7", func := "apostille/apostillelaw11.WrapBack", spec := "wrapBack", unfollowed := true, recurses := true, apart := false, narrowed := true }
def WrapBackUptoSaid : Prop := wrapBackUptoRow.holds Try.pinned (OpenSpec.upto wrapBackSpec)

/-- 'apostillelaw12.GcmSeals', WHERE WHAT IT READS IS OF BULK AT MOST 1048576: true; the input reads as it did. -/
def gcmSealsUptoRow : OpenClaim := { program := "ytmpagpbnpgcecaa", sum := "7203c024c4942cb8a12f1cda52b6bafcd1c1df73ed4e99af6bbc2e0f5a2aece7", func := "apostille/apostillelaw12.GcmSeals", spec := "gcmSeals", unfollowed := true, recurses := true, apart := false, narrowed := true }
def GcmSealsUptoSaid : Prop := gcmSealsUptoRow.holds Try.pinned (OpenSpec.upto gcmSealsSpec)

/-- 'apostillelaw12.GcmBack', WHERE WHAT IT READS IS OF BULK AT MOST 1048576: true; the input reads as it did. -/
def gcmBackUptoRow : OpenClaim := { program := "ytmpagpbnpgcecaa", sum := "7203c024c4942cb8a12f1cda52b6bafcd1c1df73ed4e99af6bbc2e0f5a2aece7", func := "apostille/apostillelaw12.GcmBack", spec := "gcmBack", unfollowed := true, recurses := true, apart := false, narrowed := true }
def GcmBackUptoSaid : Prop := gcmBackUptoRow.holds Try.pinned (OpenSpec.upto gcmBackSpec)

/-- 'apostillelaw10.AesChains', WHERE WHAT IT READS IS OF BULK AT MOST 1048576: true; the input reads as it did. -/
def aesChainsUptoRow : OpenClaim := { program := "ytmpagpbnpgcecaa", sum := "7203c024c4942cb8a12f1cda52b6bafcd1c1df73ed4e99af6bbc2e0f5a2aece7", func := "apostille/apostillelaw10.AesChains", spec := "aesChains", inPlace := ["internal/bytealg.MakeNoZero"], unfollowed := true, recurses := true, apart := false, narrowed := true }
def AesChainsUptoSaid : Prop := aesChainsUptoRow.holds Try.pinned (OpenSpec.upto aesChainsSpec)

/-- 'apostillelaw12.GcmTells', WHERE WHAT IT READS IS OF BULK AT MOST 1048576: true; the input reads as it did. -/
def gcmTellsUptoRow : OpenClaim := { program := "ytmpagpbnpgcecaa", sum := "7203c024c4942cb8a12f1cda52b6bafcd1c1df73ed4e99af6bbc2e0f5a2aece7", func := "apostille/apostillelaw12.GcmTells", spec := "gcmTells", unfollowed := true, recurses := true, apart := false, narrowed := true }
def GcmTellsUptoSaid : Prop := gcmTellsUptoRow.holds Try.pinned (OpenSpec.upto gcmTellsSpec)

/-- 'apostillelaw12.GcmFields', WHERE WHAT IT READS IS OF BULK AT MOST 1048576: true; the input reads as it did. -/
def gcmFieldsUptoRow : OpenClaim := { program := "ytmpagpbnpgcecaa", sum := "7203c024c4942cb8a12f1cda52b6bafcd1c1df73ed4e99af6bbc2e0f5a2aece7", func := "apostille/apostillelaw12.GcmFields", spec := "gcmFields", unfollowed := true, recurses := true, apart := false, narrowed := true }
def GcmFieldsUptoSaid : Prop := gcmFieldsUptoRow.holds Try.pinned (OpenSpec.upto gcmFieldsSpec)

/-- 'apostillelaw10.AesBack', WHERE WHAT IT READS IS OF BULK AT MOST 1048576: true; the input reads as it did. -/
def aesBackUptoRow : OpenClaim := { program := "ytmpagpbnpgcecaa", sum := "7203c024c4942cb8a12f1cda52b6bafcd1c1df73ed4e99af6bbc2e0f5a2aece7", func := "apostille/apostillelaw10.AesBack", spec := "aesBack", inPlace := ["internal/bytealg.MakeNoZero"], unfollowed := true, recurses := true, apart := false, narrowed := true }
def AesBackUptoSaid : Prop := aesBackUptoRow.holds Try.pinned (OpenSpec.upto aesBackSpec)

end Rows
end Go.Proofs.Ytmpagpbnpgcecaa
