/-
  No cell of these rows narrows 'for every input' (looked for: loops, veiled, ifaces, maps, wideKeys, modest, calm, conditions, laid).
  DERIVED. THE GIVEN ROWS OF THIS SEAT. 4 by the template 'for every input the law returns true; each argument reads behind the call as it read before'; 0 by the template 'total and deterministic' (their statements: YtmaghlckgfihcaaTotals.lean).
  GIVEN WITH THE SEED: the statements are not yours to turn. If you find one false, say at which input.
  Laid BY PROGRAM, IN A SANDBOX (cutbox-rows.mjs): the forced cells as the released guide's own fill.sh prints them over the translation c1d1dc6e42219894… (all of the seat's roots in one cut). By AI agents, Wed Nov 11 2026. No macro, syntax, notation, axiom, sorry.
-/
import Derived.Test.YtmaghlckgfihcaaChecked
import GoSem.Claim
import GoSem.ClaimJoined
import GoSem.ClaimMapViews
import Derived.JoinedTies
import Derived.KernelRfl
namespace Go.Proofs.Ytmaghlckgfihcaa
/- THE CELL 'sum', in the pinned program and in every row, IS THE sha256 OF THE DUMP (.gsa) THAT YtmaghlckgfihcaaProg.lean LOADS. Nothing in Lean hashes anything: it is a label: what it is worth is what the hold of that sum in a sandbox is worth. -/
noncomputable def Try.pinned : Pinned := { name := "ytmaghlckgfihcaa", sum := "c1d1dc6e4221989415f24a20bb5d39c2c781e178ba9643817e6aa546e07bb2f1", checked := Try.checked }
namespace Rows
def none {H : Type} : Left H := { results := [], args := [] }

/-- 'laws.FnBIBoxes': WHATEVER THE INPUT: true; the input reads as it did. -/
def fnBIBoxesSpec : ChangeSpec := { name := "fnBIBoxes", fn := fun _ => fun
  | [d1, d2, d3] => { results := [.lit (.bool true)], args := [d1, d2, d3] }
  | _ => none }
def fnBIBoxesRow : OpenClaim := { program := "ytmaghlckgfihcaa", sum := "c1d1dc6e4221989415f24a20bb5d39c2c781e178ba9643817e6aa546e07bb2f1", func := "given.example/pub-quietzone/laws.FnBIBoxes", spec := "fnBIBoxes", apart := false }
def FnBIBoxesSaid : Prop := fnBIBoxesRow.holds Try.pinned (OpenSpec.ofChange fnBIBoxesSpec)

/-- ITS FALSE NEIGHBOUR: 'it returns false'. Refute it at one input. -/
def fnBIBoxesWrong : ChangeSpec := { name := "fnBIBoxes", fn := fun _ => fun
  | [d1, d2, d3] => { results := [.lit (.bool false)], args := [d1, d2, d3] }
  | _ => none }
def FnBIBoxesWrongFalsely : Prop := fnBIBoxesRow.holds Try.pinned (OpenSpec.ofChange fnBIBoxesWrong)

/-- 'laws.FnBITwice': WHATEVER THE INPUT: true; the input reads as it did. -/
def fnBITwiceSpec : ChangeSpec := { name := "fnBITwice", fn := fun _ => fun
  | [d1, d2] => { results := [.lit (.bool true)], args := [d1, d2] }
  | _ => none }
def fnBITwiceRow : OpenClaim := { program := "ytmaghlckgfihcaa", sum := "c1d1dc6e4221989415f24a20bb5d39c2c781e178ba9643817e6aa546e07bb2f1", func := "given.example/pub-quietzone/laws.FnBITwice", spec := "fnBITwice", apart := false }
def FnBITwiceSaid : Prop := fnBITwiceRow.holds Try.pinned (OpenSpec.ofChange fnBITwiceSpec)

/-- ITS FALSE NEIGHBOUR: 'it returns false'. Refute it at one input. -/
def fnBITwiceWrong : ChangeSpec := { name := "fnBITwice", fn := fun _ => fun
  | [d1, d2] => { results := [.lit (.bool false)], args := [d1, d2] }
  | _ => none }
def FnBITwiceWrongFalsely : Prop := fnBITwiceRow.holds Try.pinned (OpenSpec.ofChange fnBITwiceWrong)

/-- 'laws.FnPXPeaks': WHATEVER THE INPUT: true; the input reads as it did. -/
def fnPXPeaksSpec : ChangeSpec := { name := "fnPXPeaks", fn := fun _ => fun
  | [d1, d2, d3, d4] => { results := [.lit (.bool true)], args := [d1, d2, d3, d4] }
  | _ => none }
def fnPXPeaksRow : OpenClaim := { program := "ytmaghlckgfihcaa", sum := "c1d1dc6e4221989415f24a20bb5d39c2c781e178ba9643817e6aa546e07bb2f1", func := "given.example/pub-quietzone/laws.FnPXPeaks", spec := "fnPXPeaks", apart := false }
def FnPXPeaksSaid : Prop := fnPXPeaksRow.holds Try.pinned (OpenSpec.ofChange fnPXPeaksSpec)

/-- ITS FALSE NEIGHBOUR: 'it returns false'. Refute it at one input. -/
def fnPXPeaksWrong : ChangeSpec := { name := "fnPXPeaks", fn := fun _ => fun
  | [d1, d2, d3, d4] => { results := [.lit (.bool false)], args := [d1, d2, d3, d4] }
  | _ => none }
def FnPXPeaksWrongFalsely : Prop := fnPXPeaksRow.holds Try.pinned (OpenSpec.ofChange fnPXPeaksWrong)

/-- 'laws.FnPXGrays': WHATEVER THE INPUT: true; the input reads as it did. -/
def fnPXGraysSpec : ChangeSpec := { name := "fnPXGrays", fn := fun _ => fun
  | [d1, d2] => { results := [.lit (.bool true)], args := [d1, d2] }
  | _ => none }
def fnPXGraysRow : OpenClaim := { program := "ytmaghlckgfihcaa", sum := "c1d1dc6e4221989415f24a20bb5d39c2c781e178ba9643817e6aa546e07bb2f1", func := "given.example/pub-quietzone/laws.FnPXGrays", spec := "fnPXGrays", unfollowed := true, recurses := true, apart := false }
def FnPXGraysSaid : Prop := fnPXGraysRow.holds Try.pinned (OpenSpec.ofChange fnPXGraysSpec)

/-- ITS FALSE NEIGHBOUR: 'it returns false'. Refute it at one input. -/
def fnPXGraysWrong : ChangeSpec := { name := "fnPXGrays", fn := fun _ => fun
  | [d1, d2] => { results := [.lit (.bool false)], args := [d1, d2] }
  | _ => none }
def FnPXGraysWrongFalsely : Prop := fnPXGraysRow.holds Try.pinned (OpenSpec.ofChange fnPXGraysWrong)

/- THE SECOND FORM. 'bulk': how many values and letters a reading holds, each counted each time it is reached (what is shared counts as often as it is met; a slice's spare places count too). A statement '..UptoSaid' is the law's where the arguments, and the package variables that the reading takes, are together of bulk at most 1048576: NARROWER than '..Said'. Prove '..Said' where nothing that the law and all that it calls make is longer than what came in: it says more and counts as full. Else prove '..UptoSaid'. A law counts once. -/
mutual
def uptoBulk {H : Type} : DataW H → Nat
  | .lit (.string bytes) => bytes.length + 1
  | .lit _ => 1
  | .nil => 1
  | .ptr d => uptoBulk d + 1
  | .slice elems spare => uptoBulkAll elems + uptoBulkAll spare + 1
  | .agg parts => uptoBulkAll parts + 1
  | .iface _ d => uptoBulk d + 1
  | .map entries => uptoBulkEntries entries + 1
  | .held _ => 1
def uptoBulkAll {H : Type} : List (DataW H) → Nat
  | [] => 0
  | d :: r => uptoBulk d + uptoBulkAll r
def uptoBulkEntries {H : Type} : List (Lit × DataW H) → Nat
  | [] => 0
  | x :: r => uptoBulkEntry x + uptoBulkEntries r
def uptoBulkEntry {H : Type} : Lit × DataW H → Nat
  | (.string bytes, d) => bytes.length + uptoBulk d + 1
  | (_, d) => uptoBulk d + 1
 end
def uptoSmall : (H : Type) → List (DataW H) → Bool := fun _ ds => decide (uptoBulkAll ds ≤ 1048576)
def OpenSpec.upto (s : _root_.Go.ChangeSpec) : _root_.Go.OpenSpec := { _root_.Go.OpenSpec.ofChange s with cond := some uptoSmall }

/-- 'laws.FnBIBoxes', WHERE WHAT IT READS IS OF BULK AT MOST 1048576: true; the input reads as it did. -/
def fnBIBoxesUptoRow : OpenClaim := { program := "ytmaghlckgfihcaa", sum := "c1d1dc6e4221989415f24a20bb5d39c2c781e178ba9643817e6aa546e07bb2f1", func := "given.example/pub-quietzone/laws.FnBIBoxes", spec := "fnBIBoxes", apart := false, narrowed := true }
def FnBIBoxesUptoSaid : Prop := fnBIBoxesUptoRow.holds Try.pinned (OpenSpec.upto fnBIBoxesSpec)

/-- 'laws.FnBITwice', WHERE WHAT IT READS IS OF BULK AT MOST 1048576: true; the input reads as it did. -/
def fnBITwiceUptoRow : OpenClaim := { program := "ytmaghlckgfihcaa", sum := "c1d1dc6e4221989415f24a20bb5d39c2c781e178ba9643817e6aa546e07bb2f1", func := "given.example/pub-quietzone/laws.FnBITwice", spec := "fnBITwice", apart := false, narrowed := true }
def FnBITwiceUptoSaid : Prop := fnBITwiceUptoRow.holds Try.pinned (OpenSpec.upto fnBITwiceSpec)

/-- 'laws.FnPXPeaks', WHERE WHAT IT READS IS OF BULK AT MOST 1048576: true; the input reads as it did. -/
def fnPXPeaksUptoRow : OpenClaim := { program := "ytmaghlckgfihcaa", sum := "c1d1dc6e4221989415f24a20bb5d39c2c781e178ba9643817e6aa546e07bb2f1", func := "given.example/pub-quietzone/laws.FnPXPeaks", spec := "fnPXPeaks", apart := false, narrowed := true }
def FnPXPeaksUptoSaid : Prop := fnPXPeaksUptoRow.holds Try.pinned (OpenSpec.upto fnPXPeaksSpec)

/-- 'laws.FnPXGrays', WHERE WHAT IT READS IS OF BULK AT MOST 1048576: true; the input reads as it did. -/
def fnPXGraysUptoRow : OpenClaim := { program := "ytmaghlckgfihcaa", sum := "c1d1dc6e4221989415f24a20bb5d39c2c781e178ba9643817e6aa546e07bb2f1", func := "given.example/pub-quietzone/laws.FnPXGrays", spec := "fnPXGrays", unfollowed := true, recurses := true, apart := false, narrowed := true }
def FnPXGraysUptoSaid : Prop := fnPXGraysUptoRow.holds Try.pinned (OpenSpec.upto fnPXGraysSpec)

end Rows
end Go.Proofs.Ytmaghlckgfihcaa
