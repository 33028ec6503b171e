/-
  No cell of these rows narrows 'for every input' (looked for: loops, veiled, ifaces, maps, wideKeys, modest, calm, conditions, laid).
  DERIVED. THE GIVEN ROWS OF THIS SEAT. 3 by the template 'for every input the law returns true; each argument reads behind the call as it read before'; 0 by the template 'total and deterministic' (their statements: YtpffffhgmhpkiaaTotals.lean).
  GIVEN WITH THE SEED: the statements are not yours to turn. If you find one false, say at which input.
  Laid BY PROGRAM, IN A SANDBOX (cutbox-rows.mjs): the forced cells as the released guide's own fill.sh prints them over the translation f428691ad858c507… (all of the seat's roots in one cut). By AI agents, Wed Nov 11 2026. No macro, syntax, notation, axiom, sorry.
-/
import Derived.Test.YtpffffhgmhpkiaaChecked
import GoSem.Claim
import GoSem.ClaimJoined
import GoSem.ClaimMapViews
import Derived.JoinedTies
import Derived.KernelRfl
namespace Go.Proofs.Ytpffffhgmhpkiaa
/- THE CELL 'sum', in the pinned program and in every row, IS THE sha256 OF THE DUMP (.gsa) THAT YtpffffhgmhpkiaaProg.lean LOADS. Nothing in Lean hashes anything: it is a label: what it is worth is what the hold of that sum in a sandbox is worth. -/
noncomputable def Try.pinned : Pinned := { name := "ytpffffhgmhpkiaa", sum := "f428691ad858c507c612db08f910d01dd206020e73f1a83ecc4109e451536fb5", checked := Try.checked }
namespace Rows
def none {H : Type} : Left H := { results := [], args := [] }

/-- 'laws.FnRQJoins': WHATEVER THE INPUT: true; the input reads as it did. -/
def fnRQJoinsSpec : ChangeSpec := { name := "fnRQJoins", fn := fun _ => fun
  | [d1, d2, d3, d4, d5, d6] => { results := [.lit (.bool true)], args := [d1, d2, d3, d4, d5, d6] }
  | _ => none }
def fnRQJoinsRow : OpenClaim := { program := "ytpffffhgmhpkiaa", sum := "f428691ad858c507c612db08f910d01dd206020e73f1a83ecc4109e451536fb5", func := "given.example/pub-quietzone/laws.FnRQJoins", spec := "fnRQJoins", inPlace := ["internal/reflectlite.ValueOf", "internal/reflectlite.Swapper", "(internal/reflectlite.Value).Len"], unfollowed := true, recurses := true, apart := false }
def FnRQJoinsSaid : Prop := fnRQJoinsRow.holds Try.pinned (OpenSpec.ofChange fnRQJoinsSpec)

/-- ITS FALSE NEIGHBOUR: 'it returns false'. Refute it at one input. -/
def fnRQJoinsWrong : ChangeSpec := { name := "fnRQJoins", fn := fun _ => fun
  | [d1, d2, d3, d4, d5, d6] => { results := [.lit (.bool false)], args := [d1, d2, d3, d4, d5, d6] }
  | _ => none }
def FnRQJoinsWrongFalsely : Prop := fnRQJoinsRow.holds Try.pinned (OpenSpec.ofChange fnRQJoinsWrong)

/-- 'laws.FnQRReads': WHATEVER THE INPUT: true; the input reads as it did. -/
def fnQRReadsSpec : ChangeSpec := { name := "fnQRReads", fn := fun _ => fun
  | [d1, d2, d3, d4, d5] => { results := [.lit (.bool true)], args := [d1, d2, d3, d4, d5] }
  | _ => none }
def fnQRReadsRow : OpenClaim := { program := "ytpffffhgmhpkiaa", sum := "f428691ad858c507c612db08f910d01dd206020e73f1a83ecc4109e451536fb5", func := "given.example/pub-quietzone/laws.FnQRReads", spec := "fnQRReads", apart := false }
def FnQRReadsSaid : Prop := fnQRReadsRow.holds Try.pinned (OpenSpec.ofChange fnQRReadsSpec)

/-- ITS FALSE NEIGHBOUR: 'it returns false'. Refute it at one input. -/
def fnQRReadsWrong : ChangeSpec := { name := "fnQRReads", fn := fun _ => fun
  | [d1, d2, d3, d4, d5] => { results := [.lit (.bool false)], args := [d1, d2, d3, d4, d5] }
  | _ => none }
def FnQRReadsWrongFalsely : Prop := fnQRReadsRow.holds Try.pinned (OpenSpec.ofChange fnQRReadsWrong)

/-- 'laws.FnQRSpeaks': WHATEVER THE INPUT: true; the input reads as it did. -/
def fnQRSpeaksSpec : ChangeSpec := { name := "fnQRSpeaks", fn := fun _ => fun
  | [d1, d2, d3] => { results := [.lit (.bool true)], args := [d1, d2, d3] }
  | _ => none }
def fnQRSpeaksRow : OpenClaim := { program := "ytpffffhgmhpkiaa", sum := "f428691ad858c507c612db08f910d01dd206020e73f1a83ecc4109e451536fb5", func := "given.example/pub-quietzone/laws.FnQRSpeaks", spec := "fnQRSpeaks", apart := false }
def FnQRSpeaksSaid : Prop := fnQRSpeaksRow.holds Try.pinned (OpenSpec.ofChange fnQRSpeaksSpec)

/-- ITS FALSE NEIGHBOUR: 'it returns false'. Refute it at one input. -/
def fnQRSpeaksWrong : ChangeSpec := { name := "fnQRSpeaks", fn := fun _ => fun
  | [d1, d2, d3] => { results := [.lit (.bool false)], args := [d1, d2, d3] }
  | _ => none }
def FnQRSpeaksWrongFalsely : Prop := fnQRSpeaksRow.holds Try.pinned (OpenSpec.ofChange fnQRSpeaksWrong)

/- THE SECOND FORM. 'bulk': how many values and letters a reading holds, each counted each time it is reached (what is shared counts as often as it is met; a slice's spare places count too). A statement '..UptoSaid' is the law's where the arguments, and the package variables that the reading takes, are together of bulk at most 1048576: NARROWER than '..Said'. Prove '..Said' where nothing that the law and all that it calls make is longer than what came in: it says more and counts as full. Else prove '..UptoSaid'. A law counts once. -/
mutual
def uptoBulk {H : Type} : DataW H → Nat
  | .lit (.string bytes) => bytes.length + 1
  | .lit _ => 1
  | .nil => 1
  | .ptr d => uptoBulk d + 1
  | .slice elems spare => uptoBulkAll elems + uptoBulkAll spare + 1
  | .agg parts => uptoBulkAll parts + 1
  | .iface _ d => uptoBulk d + 1
  | .map entries => uptoBulkEntries entries + 1
  | .held _ => 1
def uptoBulkAll {H : Type} : List (DataW H) → Nat
  | [] => 0
  | d :: r => uptoBulk d + uptoBulkAll r
def uptoBulkEntries {H : Type} : List (Lit × DataW H) → Nat
  | [] => 0
  | x :: r => uptoBulkEntry x + uptoBulkEntries r
def uptoBulkEntry {H : Type} : Lit × DataW H → Nat
  | (.string bytes, d) => bytes.length + uptoBulk d + 1
  | (_, d) => uptoBulk d + 1
 end
def uptoSmall : (H : Type) → List (DataW H) → Bool := fun _ ds => decide (uptoBulkAll ds ≤ 1048576)
def OpenSpec.upto (s : _root_.Go.ChangeSpec) : _root_.Go.OpenSpec := { _root_.Go.OpenSpec.ofChange s with cond := some uptoSmall }

/-- 'laws.FnRQJoins', WHERE WHAT IT READS IS OF BULK AT MOST 1048576: true; the input reads as it did. -/
def fnRQJoinsUptoRow : OpenClaim := { program := "ytpffffhgmhpkiaa", sum := "f428691ad858c507c612db08f910d01dd206020e73f1a83ecc4109e451536fb5", func := "given.example/pub-quietzone/laws.FnRQJoins", spec := "fnRQJoins", inPlace := ["internal/reflectlite.ValueOf", "internal/reflectlite.Swapper", "(internal/reflectlite.Value).Len"], unfollowed := true, recurses := true, apart := false, narrowed := true }
def FnRQJoinsUptoSaid : Prop := fnRQJoinsUptoRow.holds Try.pinned (OpenSpec.upto fnRQJoinsSpec)

/-- 'laws.FnQRReads', WHERE WHAT IT READS IS OF BULK AT MOST 1048576: true; the input reads as it did. -/
def fnQRReadsUptoRow : OpenClaim := { program := "ytpffffhgmhpkiaa", sum := "f428691ad858c507c612db08f910d01dd206020e73f1a83ecc4109e451536fb5", func := "given.example/pub-quietzone/laws.FnQRReads", spec := "fnQRReads", apart := false, narrowed := true }
def FnQRReadsUptoSaid : Prop := fnQRReadsUptoRow.holds Try.pinned (OpenSpec.upto fnQRReadsSpec)

/-- 'laws.FnQRSpeaks', WHERE WHAT IT READS IS OF BULK AT MOST 1048576: true; the input reads as it did. -/
def fnQRSpeaksUptoRow : OpenClaim := { program := "ytpffffhgmhpkiaa", sum := "f428691ad858c507c612db08f910d01dd206020e73f1a83ecc4109e451536fb5", func := "given.example/pub-quietzone/laws.FnQRSpeaks", spec := "fnQRSpeaks", apart := false, narrowed := true }
def FnQRSpeaksUptoSaid : Prop := fnQRSpeaksUptoRow.holds Try.pinned (OpenSpec.upto fnQRSpeaksSpec)

end Rows
end Go.Proofs.Ytpffffhgmhpkiaa
