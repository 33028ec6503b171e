/-
  No cell of these rows narrows 'for every input' (looked for: loops, veiled, ifaces, maps, wideKeys, modest, calm, conditions, laid).
  DERIVED. THE GIVEN ROWS OF THIS SEAT. 3 by the template 'for every input the law returns true; each argument reads behind the call as it read before'; 0 by the template 'total and deterministic' (their statements: YtkonepeejhgloaaTotals.lean).
  GIVEN WITH THE SEED: the statements are not yours to turn. If you find one false, say at which input.
  Laid BY PROGRAM, IN A SANDBOX (cutbox-rows.mjs): the forced cells as the released guide's own fill.sh prints them over the translation 6e0c832be60dc344… (all of the seat's roots in one cut). By AI agents, Wed Nov 11 2026. No macro, syntax, notation, axiom, sorry.
-/
import Derived.Test.YtkonepeejhgloaaChecked
import GoSem.Claim
import GoSem.ClaimJoined
import GoSem.ClaimMapViews
import Derived.JoinedTies
import Derived.KernelRfl
namespace Go.Proofs.Ytkonepeejhgloaa
/- THE CELL 'sum', in the pinned program and in every row, IS THE sha256 OF THE DUMP (.gsa) THAT YtkonepeejhgloaaProg.lean LOADS. Nothing in Lean hashes anything: it is a label: what it is worth is what the hold of that sum in a sandbox is worth. -/
noncomputable def Try.pinned : Pinned := { name := "ytkonepeejhgloaa", sum := "6e0c832be60dc3442040a2e67c74dd3e528e9aa7b728c474482618cc215f63b0", checked := Try.checked }
namespace Rows
def none {H : Type} : Left H := { results := [], args := [] }

/-- 'laws.FnPXTwice': WHATEVER THE INPUT: true; the input reads as it did. -/
def fnPXTwiceSpec : ChangeSpec := { name := "fnPXTwice", fn := fun _ => fun
  | [d1, d2] => { results := [.lit (.bool true)], args := [d1, d2] }
  | _ => none }
def fnPXTwiceRow : OpenClaim := { program := "ytkonepeejhgloaa", sum := "6e0c832be60dc3442040a2e67c74dd3e528e9aa7b728c474482618cc215f63b0", func := "given.example/pub-quietzone/laws.FnPXTwice", spec := "fnPXTwice", unfollowed := true, recurses := true, apart := false }
def FnPXTwiceSaid : Prop := fnPXTwiceRow.holds Try.pinned (OpenSpec.ofChange fnPXTwiceSpec)

/-- ITS FALSE NEIGHBOUR: 'it returns false'. Refute it at one input. -/
def fnPXTwiceWrong : ChangeSpec := { name := "fnPXTwice", fn := fun _ => fun
  | [d1, d2] => { results := [.lit (.bool false)], args := [d1, d2] }
  | _ => none }
def FnPXTwiceWrongFalsely : Prop := fnPXTwiceRow.holds Try.pinned (OpenSpec.ofChange fnPXTwiceWrong)

/-- 'laws.FnPXRows': WHATEVER THE INPUT: true; the input reads as it did. -/
def fnPXRowsSpec : ChangeSpec := { name := "fnPXRows", fn := fun _ => fun
  | [d1, d2, d3] => { results := [.lit (.bool true)], args := [d1, d2, d3] }
  | _ => none }
def fnPXRowsRow : OpenClaim := { program := "ytkonepeejhgloaa", sum := "6e0c832be60dc3442040a2e67c74dd3e528e9aa7b728c474482618cc215f63b0", func := "given.example/pub-quietzone/laws.FnPXRows", spec := "fnPXRows", unfollowed := true, recurses := true, apart := false }
def FnPXRowsSaid : Prop := fnPXRowsRow.holds Try.pinned (OpenSpec.ofChange fnPXRowsSpec)

/-- ITS FALSE NEIGHBOUR: 'it returns false'. Refute it at one input. -/
def fnPXRowsWrong : ChangeSpec := { name := "fnPXRows", fn := fun _ => fun
  | [d1, d2, d3] => { results := [.lit (.bool false)], args := [d1, d2, d3] }
  | _ => none }
def FnPXRowsWrongFalsely : Prop := fnPXRowsRow.holds Try.pinned (OpenSpec.ofChange fnPXRowsWrong)

/-- 'laws.FnPXHybrid': WHATEVER THE INPUT: true; the input reads as it did. -/
def fnPXHybridSpec : ChangeSpec := { name := "fnPXHybrid", fn := fun _ => fun
  | [d1, d2, d3, d4] => { results := [.lit (.bool true)], args := [d1, d2, d3, d4] }
  | _ => none }
def fnPXHybridRow : OpenClaim := { program := "ytkonepeejhgloaa", sum := "6e0c832be60dc3442040a2e67c74dd3e528e9aa7b728c474482618cc215f63b0", func := "given.example/pub-quietzone/laws.FnPXHybrid", spec := "fnPXHybrid", unfollowed := true, recurses := true, apart := false }
def FnPXHybridSaid : Prop := fnPXHybridRow.holds Try.pinned (OpenSpec.ofChange fnPXHybridSpec)

/-- ITS FALSE NEIGHBOUR: 'it returns false'. Refute it at one input. -/
def fnPXHybridWrong : ChangeSpec := { name := "fnPXHybrid", fn := fun _ => fun
  | [d1, d2, d3, d4] => { results := [.lit (.bool false)], args := [d1, d2, d3, d4] }
  | _ => none }
def FnPXHybridWrongFalsely : Prop := fnPXHybridRow.holds Try.pinned (OpenSpec.ofChange fnPXHybridWrong)

/- THE SECOND FORM. 'bulk': how many values and letters a reading holds, each counted each time it is reached (what is shared counts as often as it is met; a slice's spare places count too). A statement '..UptoSaid' is the law's where the arguments, and the package variables that the reading takes, are together of bulk at most 1048576: NARROWER than '..Said'. Prove '..Said' where nothing that the law and all that it calls make is longer than what came in: it says more and counts as full. Else prove '..UptoSaid'. A law counts once. -/
mutual
def uptoBulk {H : Type} : DataW H → Nat
  | .lit (.string bytes) => bytes.length + 1
  | .lit _ => 1
  | .nil => 1
  | .ptr d => uptoBulk d + 1
  | .slice elems spare => uptoBulkAll elems + uptoBulkAll spare + 1
  | .agg parts => uptoBulkAll parts + 1
  | .iface _ d => uptoBulk d + 1
  | .map entries => uptoBulkEntries entries + 1
  | .held _ => 1
def uptoBulkAll {H : Type} : List (DataW H) → Nat
  | [] => 0
  | d :: r => uptoBulk d + uptoBulkAll r
def uptoBulkEntries {H : Type} : List (Lit × DataW H) → Nat
  | [] => 0
  | x :: r => uptoBulkEntry x + uptoBulkEntries r
def uptoBulkEntry {H : Type} : Lit × DataW H → Nat
  | (.string bytes, d) => bytes.length + uptoBulk d + 1
  | (_, d) => uptoBulk d + 1
 end
def uptoSmall : (H : Type) → List (DataW H) → Bool := fun _ ds => decide (uptoBulkAll ds ≤ 1048576)
def OpenSpec.upto (s : _root_.Go.ChangeSpec) : _root_.Go.OpenSpec := { _root_.Go.OpenSpec.ofChange s with cond := some uptoSmall }

/-- 'laws.FnPXTwice', WHERE WHAT IT READS IS OF BULK AT MOST 1048576: true; the input reads as it did. -/
def fnPXTwiceUptoRow : OpenClaim := { program := "ytkonepeejhgloaa", sum := "6e0c832be60dc3442040a2e67c74dd3e528e9aa7b728c474482618cc215f63b0", func := "given.example/pub-quietzone/laws.FnPXTwice", spec := "fnPXTwice", unfollowed := true, recurses := true, apart := false, narrowed := true }
def FnPXTwiceUptoSaid : Prop := fnPXTwiceUptoRow.holds Try.pinned (OpenSpec.upto fnPXTwiceSpec)

/-- 'laws.FnPXRows', WHERE WHAT IT READS IS OF BULK AT MOST 1048576: true; the input reads as it did. -/
def fnPXRowsUptoRow : OpenClaim := { program := "ytkonepeejhgloaa", sum := "6e0c832be60dc3442040a2e67c74dd3e528e9aa7b728c474482618cc215f63b0", func := "given.example/pub-quietzone/laws.FnPXRows", spec := "fnPXRows", unfollowed := true, recurses := true, apart := false, narrowed := true }
def FnPXRowsUptoSaid : Prop := fnPXRowsUptoRow.holds Try.pinned (OpenSpec.upto fnPXRowsSpec)

/-- 'laws.FnPXHybrid', WHERE WHAT IT READS IS OF BULK AT MOST 1048576: true; the input reads as it did. -/
def fnPXHybridUptoRow : OpenClaim := { program := "ytkonepeejhgloaa", sum := "6e0c832be60dc3442040a2e67c74dd3e528e9aa7b728c474482618cc215f63b0", func := "given.example/pub-quietzone/laws.FnPXHybrid", spec := "fnPXHybrid", unfollowed := true, recurses := true, apart := false, narrowed := true }
def FnPXHybridUptoSaid : Prop := fnPXHybridUptoRow.holds Try.pinned (OpenSpec.upto fnPXHybridSpec)

end Rows
end Go.Proofs.Ytkonepeejhgloaa
