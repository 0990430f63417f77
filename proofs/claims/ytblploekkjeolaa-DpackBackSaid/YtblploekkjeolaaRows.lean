/-
  No cell of these rows narrows 'for every input' (looked for: loops, veiled, ifaces, maps, wideKeys, modest, calm, conditions, laid).
  DERIVED. THE GIVEN ROWS OF THIS SEAT. 4 by the template 'for every input the law returns true; each argument reads behind the call as it read before'; 0 by the template 'total and deterministic' (their statements: YtblploekkjeolaaTotals.lean).
  GIVEN WITH THE SEED: the statements are not yours to turn. If you find one false, say at which input.
  Laid BY PROGRAM, IN A SANDBOX (cutbox-rows.mjs): the forced cells as the released guide's own fill.sh prints them over the translation 3fc0baf826dd19d6… (all of the seat's roots in one cut). By AI agents, Wed Nov 11 2026. No macro, syntax, notation, axiom, sorry.
-/
import Derived.Test.YtblploekkjeolaaChecked
import GoSem.Claim
import GoSem.ClaimJoined
import GoSem.ClaimMapViews
import Derived.JoinedTies
import Derived.KernelRfl
namespace Go.Proofs.Ytblploekkjeolaa
/- THE CELL 'sum', in the pinned program and in every row, IS THE sha256 OF THE DUMP (.gsa) THAT YtblploekkjeolaaProg.lean LOADS. Nothing in Lean hashes anything: it is a label: what it is worth is what the hold of that sum in a sandbox is worth. -/
noncomputable def Try.pinned : Pinned := { name := "ytblploekkjeolaa", sum := "3fc0baf826dd19d64de60d48355cd776b95efe799713a26e270906a246344249", checked := Try.checked }
namespace Rows
def none {H : Type} : Left H := { results := [], args := [] }

/-- 'apostillelaw22.DpackWrites': WHATEVER THE INPUT: true; the input reads as it did. -/
def dpackWritesSpec : ChangeSpec := { name := "dpackWrites", fn := fun _ => fun
  | [d1, d2, d3, d4, d5] => { results := [.lit (.bool true)], args := [d1, d2, d3, d4, d5] }
  | _ => none }
def dpackWritesRow : OpenClaim := { program := "ytblploekkjeolaa", sum := "3fc0baf826dd19d64de60d48355cd776b95efe799713a26e270906a246344249", func := "apostille/apostillelaw22.DpackWrites", spec := "dpackWrites", unfollowed := true, recurses := true, apart := false }
def DpackWritesSaid : Prop := dpackWritesRow.holds Try.pinned (OpenSpec.ofChange dpackWritesSpec)

/-- ITS FALSE NEIGHBOUR: 'it returns false'. Refute it at one input. -/
def dpackWritesWrong : ChangeSpec := { name := "dpackWrites", fn := fun _ => fun
  | [d1, d2, d3, d4, d5] => { results := [.lit (.bool false)], args := [d1, d2, d3, d4, d5] }
  | _ => none }
def DpackWritesWrongFalsely : Prop := dpackWritesRow.holds Try.pinned (OpenSpec.ofChange dpackWritesWrong)

/-- 'apostillelaw22.DpackTells': WHATEVER THE INPUT: true; the input reads as it did. -/
def dpackTellsSpec : ChangeSpec := { name := "dpackTells", fn := fun _ => fun
  | [d1, d2, d3, d4, d5, d6, d7, d8] => { results := [.lit (.bool true)], args := [d1, d2, d3, d4, d5, d6, d7, d8] }
  | _ => none }
def dpackTellsRow : OpenClaim := { program := "ytblploekkjeolaa", sum := "3fc0baf826dd19d64de60d48355cd776b95efe799713a26e270906a246344249", func := "apostille/apostillelaw22.DpackTells", spec := "dpackTells", unfollowed := true, recurses := true, apart := false }
def DpackTellsSaid : Prop := dpackTellsRow.holds Try.pinned (OpenSpec.ofChange dpackTellsSpec)

/-- ITS FALSE NEIGHBOUR: 'it returns false'. Refute it at one input. -/
def dpackTellsWrong : ChangeSpec := { name := "dpackTells", fn := fun _ => fun
  | [d1, d2, d3, d4, d5, d6, d7, d8] => { results := [.lit (.bool false)], args := [d1, d2, d3, d4, d5, d6, d7, d8] }
  | _ => none }
def DpackTellsWrongFalsely : Prop := dpackTellsRow.holds Try.pinned (OpenSpec.ofChange dpackTellsWrong)

/-- 'apostillelaw22.DpackReads': WHATEVER THE INPUT: true; the input reads as it did. -/
def dpackReadsSpec : ChangeSpec := { name := "dpackReads", fn := fun _ => fun
  | [d1, d2, d3] => { results := [.lit (.bool true)], args := [d1, d2, d3] }
  | _ => none }
def dpackReadsRow : OpenClaim := { program := "ytblploekkjeolaa", sum := "3fc0baf826dd19d64de60d48355cd776b95efe799713a26e270906a246344249", func := "apostille/apostillelaw22.DpackReads", spec := "dpackReads", unfollowed := true, recurses := true, apart := false }
def DpackReadsSaid : Prop := dpackReadsRow.holds Try.pinned (OpenSpec.ofChange dpackReadsSpec)

/-- ITS FALSE NEIGHBOUR: 'it returns false'. Refute it at one input. -/
def dpackReadsWrong : ChangeSpec := { name := "dpackReads", fn := fun _ => fun
  | [d1, d2, d3] => { results := [.lit (.bool false)], args := [d1, d2, d3] }
  | _ => none }
def DpackReadsWrongFalsely : Prop := dpackReadsRow.holds Try.pinned (OpenSpec.ofChange dpackReadsWrong)

/-- 'apostillelaw22.DpackBack': WHATEVER THE INPUT: true; the input reads as it did. -/
def dpackBackSpec : ChangeSpec := { name := "dpackBack", fn := fun _ => fun
  | [d1, d2, d3, d4] => { results := [.lit (.bool true)], args := [d1, d2, d3, d4] }
  | _ => none }
def dpackBackRow : OpenClaim := { program := "ytblploekkjeolaa", sum := "3fc0baf826dd19d64de60d48355cd776b95efe799713a26e270906a246344249", func := "apostille/apostillelaw22.DpackBack", spec := "dpackBack", unfollowed := true, recurses := true, apart := false }
def DpackBackSaid : Prop := dpackBackRow.holds Try.pinned (OpenSpec.ofChange dpackBackSpec)

/-- ITS FALSE NEIGHBOUR: 'it returns false'. Refute it at one input. -/
def dpackBackWrong : ChangeSpec := { name := "dpackBack", fn := fun _ => fun
  | [d1, d2, d3, d4] => { results := [.lit (.bool false)], args := [d1, d2, d3, d4] }
  | _ => none }
def DpackBackWrongFalsely : Prop := dpackBackRow.holds Try.pinned (OpenSpec.ofChange dpackBackWrong)

/- THE SECOND FORM. 'bulk': how many values and letters a reading holds, each counted each time it is reached (what is shared counts as often as it is met; a slice's spare places count too). A statement '..UptoSaid' is the law's where the arguments, and the package variables that the reading takes, are together of bulk at most 1048576: NARROWER than '..Said'. Prove '..Said' where nothing that the law and all that it calls make is longer than what came in: it says more and counts as full. Else prove '..UptoSaid'. A law counts once. -/
mutual
def uptoBulk {H : Type} : DataW H → Nat
  | .lit (.string bytes) => bytes.length + 1
  | .lit _ => 1
  | .nil => 1
  | .ptr d => uptoBulk d + 1
  | .slice elems spare => uptoBulkAll elems + uptoBulkAll spare + 1
  | .agg parts => uptoBulkAll parts + 1
  | .iface _ d => uptoBulk d + 1
  | .map entries => uptoBulkEntries entries + 1
  | .held _ => 1
def uptoBulkAll {H : Type} : List (DataW H) → Nat
  | [] => 0
  | d :: r => uptoBulk d + uptoBulkAll r
def uptoBulkEntries {H : Type} : List (Lit × DataW H) → Nat
  | [] => 0
  | x :: r => uptoBulkEntry x + uptoBulkEntries r
def uptoBulkEntry {H : Type} : Lit × DataW H → Nat
  | (.string bytes, d) => bytes.length + uptoBulk d + 1
  | (_, d) => uptoBulk d + 1
 end
def uptoSmall : (H : Type) → List (DataW H) → Bool := fun _ ds => decide (uptoBulkAll ds ≤ 1048576)
def OpenSpec.upto (s : _root_.Go.ChangeSpec) : _root_.Go.OpenSpec := { _root_.Go.OpenSpec.ofChange s with cond := some uptoSmall }

/-- 'apostillelaw22.DpackWrites', WHERE WHAT IT READS IS OF BULK AT MOST 1048576: true; the input reads as it did. -/
def dpackWritesUptoRow : OpenClaim := { program := "ytblploekkjeolaa", sum := "3fc0baf826dd19d64de60d48355cd776b95efe799713a26e270906a246344249", func := "apostille/apostillelaw22.DpackWrites", spec := "dpackWrites", unfollowed := true, recurses := true, apart := false, narrowed := true }
def DpackWritesUptoSaid : Prop := dpackWritesUptoRow.holds Try.pinned (OpenSpec.upto dpackWritesSpec)

/-- 'apostillelaw22.DpackTells', WHERE WHAT IT READS IS OF BULK AT MOST 1048576: true; the input reads as it did. -/
def dpackTellsUptoRow : OpenClaim := { program := "ytblploekkjeolaa", sum := "3fc0baf826dd19d64de60d48355cd776b95efe799713a26e270906a246344249", func := "apostille/apostillelaw22.DpackTells", spec := "dpackTells", unfollowed := true, recurses := true, apart := false, narrowed := true }
def DpackTellsUptoSaid : Prop := dpackTellsUptoRow.holds Try.pinned (OpenSpec.upto dpackTellsSpec)

/-- 'apostillelaw22.DpackReads', WHERE WHAT IT READS IS OF BULK AT MOST 1048576: true; the input reads as it did. -/
def dpackReadsUptoRow : OpenClaim := { program := "ytblploekkjeolaa", sum := "3fc0baf826dd19d64de60d48355cd776b95efe799713a26e270906a246344249", func := "apostille/apostillelaw22.DpackReads", spec := "dpackReads", unfollowed := true, recurses := true, apart := false, narrowed := true }
def DpackReadsUptoSaid : Prop := dpackReadsUptoRow.holds Try.pinned (OpenSpec.upto dpackReadsSpec)

/-- 'apostillelaw22.DpackBack', WHERE WHAT IT READS IS OF BULK AT MOST 1048576: true; the input reads as it did. -/
def dpackBackUptoRow : OpenClaim := { program := "ytblploekkjeolaa", sum := "3fc0baf826dd19d64de60d48355cd776b95efe799713a26e270906a246344249", func := "apostille/apostillelaw22.DpackBack", spec := "dpackBack", unfollowed := true, recurses := true, apart := false, narrowed := true }
def DpackBackUptoSaid : Prop := dpackBackUptoRow.holds Try.pinned (OpenSpec.upto dpackBackSpec)

end Rows
end Go.Proofs.Ytblploekkjeolaa
