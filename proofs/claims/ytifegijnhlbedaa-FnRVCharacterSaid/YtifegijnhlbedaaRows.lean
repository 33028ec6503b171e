/-
  No cell of these rows narrows 'for every input' (looked for: loops, veiled, ifaces, maps, wideKeys, modest, calm, conditions, laid).
  DERIVED. THE GIVEN ROWS OF THIS SEAT. 5 by the template 'for every input the law returns true; each argument reads behind the call as it read before'; 0 by the template 'total and deterministic' (their statements: YtifegijnhlbedaaTotals.lean).
  GIVEN WITH THE SEED: the statements are not yours to turn. If you find one false, say at which input.
  Laid BY PROGRAM, IN A SANDBOX (cutbox-rows.mjs): the forced cells as the released guide's own fill.sh prints them over the translation 392f65c09915f877… (all of the seat's roots in one cut). By AI agents, Wed Nov 11 2026. No macro, syntax, notation, axiom, sorry.
-/
import Derived.Test.YtifegijnhlbedaaChecked
import GoSem.Claim
import GoSem.ClaimJoined
import GoSem.ClaimMapViews
import Derived.JoinedTies
import Derived.KernelRfl
namespace Go.Proofs.Ytifegijnhlbedaa
/- THE CELL 'sum', in the pinned program and in every row, IS THE sha256 OF THE DUMP (.gsa) THAT YtifegijnhlbedaaProg.lean LOADS. Nothing in Lean hashes anything: it is a label: what it is worth is what the hold of that sum in a sandbox is worth. -/
noncomputable def Try.pinned : Pinned := { name := "ytifegijnhlbedaa", sum := "392f65c09915f8776c5124213cbbe8cd8a6f1b83ce56f9a176327743985a8a6b", checked := Try.checked }
namespace Rows
def none {H : Type} : Left H := { results := [], args := [] }

/-- 'laws.FnAZSide': WHATEVER THE INPUT: true; the input reads as it did. -/
def fnAZSideSpec : ChangeSpec := { name := "fnAZSide", fn := fun _ => fun
  | [d1, d2] => { results := [.lit (.bool true)], args := [d1, d2] }
  | _ => none }
def fnAZSideRow : OpenClaim := { program := "ytifegijnhlbedaa", sum := "392f65c09915f8776c5124213cbbe8cd8a6f1b83ce56f9a176327743985a8a6b", func := "given.example/pub-quietzone/laws.FnAZSide", spec := "fnAZSide", apart := false }
def FnAZSideSaid : Prop := fnAZSideRow.holds Try.pinned (OpenSpec.ofChange fnAZSideSpec)

/-- ITS FALSE NEIGHBOUR: 'it returns false'. Refute it at one input. -/
def fnAZSideWrong : ChangeSpec := { name := "fnAZSide", fn := fun _ => fun
  | [d1, d2] => { results := [.lit (.bool false)], args := [d1, d2] }
  | _ => none }
def FnAZSideWrongFalsely : Prop := fnAZSideRow.holds Try.pinned (OpenSpec.ofChange fnAZSideWrong)

/-- 'laws.FnAZBytes': WHATEVER THE INPUT: true; the input reads as it did. -/
def fnAZBytesSpec : ChangeSpec := { name := "fnAZBytes", fn := fun _ => fun
  | [d] => { results := [.lit (.bool true)], args := [d] }
  | _ => none }
def fnAZBytesRow : OpenClaim := { program := "ytifegijnhlbedaa", sum := "392f65c09915f8776c5124213cbbe8cd8a6f1b83ce56f9a176327743985a8a6b", func := "given.example/pub-quietzone/laws.FnAZBytes", spec := "fnAZBytes", apart := false }
def FnAZBytesSaid : Prop := fnAZBytesRow.holds Try.pinned (OpenSpec.ofChange fnAZBytesSpec)

/-- ITS FALSE NEIGHBOUR: 'it returns false'. Refute it at one input. -/
def fnAZBytesWrong : ChangeSpec := { name := "fnAZBytes", fn := fun _ => fun
  | [d] => { results := [.lit (.bool false)], args := [d] }
  | _ => none }
def FnAZBytesWrongFalsely : Prop := fnAZBytesRow.holds Try.pinned (OpenSpec.ofChange fnAZBytesWrong)

/-- 'laws.FnRVCharacter': WHATEVER THE INPUT: true; the input reads as it did. -/
def fnRVCharacterSpec : ChangeSpec := { name := "fnRVCharacter", fn := fun _ => fun
  | [d1, d2, d3] => { results := [.lit (.bool true)], args := [d1, d2, d3] }
  | _ => none }
def fnRVCharacterRow : OpenClaim := { program := "ytifegijnhlbedaa", sum := "392f65c09915f8776c5124213cbbe8cd8a6f1b83ce56f9a176327743985a8a6b", func := "given.example/pub-quietzone/laws.FnRVCharacter", spec := "fnRVCharacter", recurses := true, apart := false }
def FnRVCharacterSaid : Prop := fnRVCharacterRow.holds Try.pinned (OpenSpec.ofChange fnRVCharacterSpec)

/-- ITS FALSE NEIGHBOUR: 'it returns false'. Refute it at one input. -/
def fnRVCharacterWrong : ChangeSpec := { name := "fnRVCharacter", fn := fun _ => fun
  | [d1, d2, d3] => { results := [.lit (.bool false)], args := [d1, d2, d3] }
  | _ => none }
def FnRVCharacterWrongFalsely : Prop := fnRVCharacterRow.holds Try.pinned (OpenSpec.ofChange fnRVCharacterWrong)

/-- 'laws.FnAZTurn': WHATEVER THE INPUT: true; the input reads as it did. -/
def fnAZTurnSpec : ChangeSpec := { name := "fnAZTurn", fn := fun _ => fun
  | [d1, d2] => { results := [.lit (.bool true)], args := [d1, d2] }
  | _ => none }
def fnAZTurnRow : OpenClaim := { program := "ytifegijnhlbedaa", sum := "392f65c09915f8776c5124213cbbe8cd8a6f1b83ce56f9a176327743985a8a6b", func := "given.example/pub-quietzone/laws.FnAZTurn", spec := "fnAZTurn", apart := false }
def FnAZTurnSaid : Prop := fnAZTurnRow.holds Try.pinned (OpenSpec.ofChange fnAZTurnSpec)

/-- ITS FALSE NEIGHBOUR: 'it returns false'. Refute it at one input. -/
def fnAZTurnWrong : ChangeSpec := { name := "fnAZTurn", fn := fun _ => fun
  | [d1, d2] => { results := [.lit (.bool false)], args := [d1, d2] }
  | _ => none }
def FnAZTurnWrongFalsely : Prop := fnAZTurnRow.holds Try.pinned (OpenSpec.ofChange fnAZTurnWrong)

/-- 'laws.FnBISources': WHATEVER THE INPUT: true; the input reads as it did. -/
def fnBISourcesSpec : ChangeSpec := { name := "fnBISources", fn := fun _ => fun
  | [d1, d2] => { results := [.lit (.bool true)], args := [d1, d2] }
  | _ => none }
def fnBISourcesRow : OpenClaim := { program := "ytifegijnhlbedaa", sum := "392f65c09915f8776c5124213cbbe8cd8a6f1b83ce56f9a176327743985a8a6b", func := "given.example/pub-quietzone/laws.FnBISources", spec := "fnBISources", apart := false }
def FnBISourcesSaid : Prop := fnBISourcesRow.holds Try.pinned (OpenSpec.ofChange fnBISourcesSpec)

/-- ITS FALSE NEIGHBOUR: 'it returns false'. Refute it at one input. -/
def fnBISourcesWrong : ChangeSpec := { name := "fnBISources", fn := fun _ => fun
  | [d1, d2] => { results := [.lit (.bool false)], args := [d1, d2] }
  | _ => none }
def FnBISourcesWrongFalsely : Prop := fnBISourcesRow.holds Try.pinned (OpenSpec.ofChange fnBISourcesWrong)

/- THE SECOND FORM. 'bulk': how many values and letters a reading holds, each counted each time it is reached (what is shared counts as often as it is met; a slice's spare places count too). A statement '..UptoSaid' is the law's where the arguments, and the package variables that the reading takes, are together of bulk at most 1048576: NARROWER than '..Said'. Prove '..Said' where nothing that the law and all that it calls make is longer than what came in: it says more and counts as full. Else prove '..UptoSaid'. A law counts once. -/
mutual
def uptoBulk {H : Type} : DataW H → Nat
  | .lit (.string bytes) => bytes.length + 1
  | .lit _ => 1
  | .nil => 1
  | .ptr d => uptoBulk d + 1
  | .slice elems spare => uptoBulkAll elems + uptoBulkAll spare + 1
  | .agg parts => uptoBulkAll parts + 1
  | .iface _ d => uptoBulk d + 1
  | .map entries => uptoBulkEntries entries + 1
  | .held _ => 1
def uptoBulkAll {H : Type} : List (DataW H) → Nat
  | [] => 0
  | d :: r => uptoBulk d + uptoBulkAll r
def uptoBulkEntries {H : Type} : List (Lit × DataW H) → Nat
  | [] => 0
  | x :: r => uptoBulkEntry x + uptoBulkEntries r
def uptoBulkEntry {H : Type} : Lit × DataW H → Nat
  | (.string bytes, d) => bytes.length + uptoBulk d + 1
  | (_, d) => uptoBulk d + 1
 end
def uptoSmall : (H : Type) → List (DataW H) → Bool := fun _ ds => decide (uptoBulkAll ds ≤ 1048576)
def OpenSpec.upto (s : _root_.Go.ChangeSpec) : _root_.Go.OpenSpec := { _root_.Go.OpenSpec.ofChange s with cond := some uptoSmall }

/-- 'laws.FnAZSide', WHERE WHAT IT READS IS OF BULK AT MOST 1048576: true; the input reads as it did. -/
def fnAZSideUptoRow : OpenClaim := { program := "ytifegijnhlbedaa", sum := "392f65c09915f8776c5124213cbbe8cd8a6f1b83ce56f9a176327743985a8a6b", func := "given.example/pub-quietzone/laws.FnAZSide", spec := "fnAZSide", apart := false, narrowed := true }
def FnAZSideUptoSaid : Prop := fnAZSideUptoRow.holds Try.pinned (OpenSpec.upto fnAZSideSpec)

/-- 'laws.FnAZBytes', WHERE WHAT IT READS IS OF BULK AT MOST 1048576: true; the input reads as it did. -/
def fnAZBytesUptoRow : OpenClaim := { program := "ytifegijnhlbedaa", sum := "392f65c09915f8776c5124213cbbe8cd8a6f1b83ce56f9a176327743985a8a6b", func := "given.example/pub-quietzone/laws.FnAZBytes", spec := "fnAZBytes", apart := false, narrowed := true }
def FnAZBytesUptoSaid : Prop := fnAZBytesUptoRow.holds Try.pinned (OpenSpec.upto fnAZBytesSpec)

/-- 'laws.FnRVCharacter', WHERE WHAT IT READS IS OF BULK AT MOST 1048576: true; the input reads as it did. -/
def fnRVCharacterUptoRow : OpenClaim := { program := "ytifegijnhlbedaa", sum := "392f65c09915f8776c5124213cbbe8cd8a6f1b83ce56f9a176327743985a8a6b", func := "given.example/pub-quietzone/laws.FnRVCharacter", spec := "fnRVCharacter", recurses := true, apart := false, narrowed := true }
def FnRVCharacterUptoSaid : Prop := fnRVCharacterUptoRow.holds Try.pinned (OpenSpec.upto fnRVCharacterSpec)

/-- 'laws.FnAZTurn', WHERE WHAT IT READS IS OF BULK AT MOST 1048576: true; the input reads as it did. -/
def fnAZTurnUptoRow : OpenClaim := { program := "ytifegijnhlbedaa", sum := "392f65c09915f8776c5124213cbbe8cd8a6f1b83ce56f9a176327743985a8a6b", func := "given.example/pub-quietzone/laws.FnAZTurn", spec := "fnAZTurn", apart := false, narrowed := true }
def FnAZTurnUptoSaid : Prop := fnAZTurnUptoRow.holds Try.pinned (OpenSpec.upto fnAZTurnSpec)

/-- 'laws.FnBISources', WHERE WHAT IT READS IS OF BULK AT MOST 1048576: true; the input reads as it did. -/
def fnBISourcesUptoRow : OpenClaim := { program := "ytifegijnhlbedaa", sum := "392f65c09915f8776c5124213cbbe8cd8a6f1b83ce56f9a176327743985a8a6b", func := "given.example/pub-quietzone/laws.FnBISources", spec := "fnBISources", apart := false, narrowed := true }
def FnBISourcesUptoSaid : Prop := fnBISourcesUptoRow.holds Try.pinned (OpenSpec.upto fnBISourcesSpec)

end Rows
end Go.Proofs.Ytifegijnhlbedaa
