/-
  No cell of these rows narrows 'for every input' (looked for: loops, veiled, ifaces, maps, wideKeys, modest, calm, conditions, laid).
  DERIVED. THE GIVEN ROWS OF THIS SEAT. 5 by the template 'for every input the law returns true; each argument reads behind the call as it read before'; 0 by the template 'total and deterministic' (their statements: YtjgckbccbambmaaTotals.lean).
  GIVEN WITH THE SEED: the statements are not yours to turn. If you find one false, say at which input.
  Laid BY PROGRAM, IN A SANDBOX (cutbox-rows.mjs): the forced cells as the released guide's own fill.sh prints them over the translation a3388d02ff8eb60d… (all of the seat's roots in one cut). By AI agents, Wed Nov 11 2026. No macro, syntax, notation, axiom, sorry.
-/
import Derived.Test.YtjgckbccbambmaaChecked
import GoSem.Claim
import GoSem.ClaimJoined
import GoSem.ClaimMapViews
import Derived.JoinedTies
import Derived.KernelRfl
namespace Go.Proofs.Ytjgckbccbambmaa
/- THE CELL 'sum', in the pinned program and in every row, IS THE sha256 OF THE DUMP (.gsa) THAT YtjgckbccbambmaaProg.lean LOADS. Nothing in Lean hashes anything: it is a label: what it is worth is what the hold of that sum in a sandbox is worth. -/
noncomputable def Try.pinned : Pinned := { name := "ytjgckbccbambmaa", sum := "a3388d02ff8eb60d4c9c825b6fce518e0cfbc007cfe5ddaf9b94fc9a0cf3d684", checked := Try.checked }
namespace Rows
def none {H : Type} : Left H := { results := [], args := [] }

/-- 'laws.FnQRLevels': WHATEVER THE INPUT: true; the input reads as it did. -/
def fnQRLevelsSpec : ChangeSpec := { name := "fnQRLevels", fn := fun _ => fun
  | [d] => { results := [.lit (.bool true)], args := [d] }
  | _ => none }
def fnQRLevelsRow : OpenClaim := { program := "ytjgckbccbambmaa", sum := "a3388d02ff8eb60d4c9c825b6fce518e0cfbc007cfe5ddaf9b94fc9a0cf3d684", func := "given.example/pub-quietzone/laws.FnQRLevels", spec := "fnQRLevels", apart := false }
def FnQRLevelsSaid : Prop := fnQRLevelsRow.holds Try.pinned (OpenSpec.ofChange fnQRLevelsSpec)

/-- ITS FALSE NEIGHBOUR: 'it returns false'. Refute it at one input. -/
def fnQRLevelsWrong : ChangeSpec := { name := "fnQRLevels", fn := fun _ => fun
  | [d] => { results := [.lit (.bool false)], args := [d] }
  | _ => none }
def FnQRLevelsWrongFalsely : Prop := fnQRLevelsRow.holds Try.pinned (OpenSpec.ofChange fnQRLevelsWrong)

/-- 'laws.FnQRVersionInfos': WHATEVER THE INPUT: true; the input reads as it did. -/
def fnQRVersionInfosSpec : ChangeSpec := { name := "fnQRVersionInfos", fn := fun _ => fun
  | [d] => { results := [.lit (.bool true)], args := [d] }
  | _ => none }
def fnQRVersionInfosRow : OpenClaim := { program := "ytjgckbccbambmaa", sum := "a3388d02ff8eb60d4c9c825b6fce518e0cfbc007cfe5ddaf9b94fc9a0cf3d684", func := "given.example/pub-quietzone/laws.FnQRVersionInfos", spec := "fnQRVersionInfos", apart := false }
def FnQRVersionInfosSaid : Prop := fnQRVersionInfosRow.holds Try.pinned (OpenSpec.ofChange fnQRVersionInfosSpec)

/-- ITS FALSE NEIGHBOUR: 'it returns false'. Refute it at one input. -/
def fnQRVersionInfosWrong : ChangeSpec := { name := "fnQRVersionInfos", fn := fun _ => fun
  | [d] => { results := [.lit (.bool false)], args := [d] }
  | _ => none }
def FnQRVersionInfosWrongFalsely : Prop := fnQRVersionInfosRow.holds Try.pinned (OpenSpec.ofChange fnQRVersionInfosWrong)

/-- 'laws.FnQRPenaltyShare': WHATEVER THE INPUT: true; the input reads as it did. -/
def fnQRPenaltyShareSpec : ChangeSpec := { name := "fnQRPenaltyShare", fn := fun _ => fun
  | [d] => { results := [.lit (.bool true)], args := [d] }
  | _ => none }
def fnQRPenaltyShareRow : OpenClaim := { program := "ytjgckbccbambmaa", sum := "a3388d02ff8eb60d4c9c825b6fce518e0cfbc007cfe5ddaf9b94fc9a0cf3d684", func := "given.example/pub-quietzone/laws.FnQRPenaltyShare", spec := "fnQRPenaltyShare", apart := false }
def FnQRPenaltyShareSaid : Prop := fnQRPenaltyShareRow.holds Try.pinned (OpenSpec.ofChange fnQRPenaltyShareSpec)

/-- ITS FALSE NEIGHBOUR: 'it returns false'. Refute it at one input. -/
def fnQRPenaltyShareWrong : ChangeSpec := { name := "fnQRPenaltyShare", fn := fun _ => fun
  | [d] => { results := [.lit (.bool false)], args := [d] }
  | _ => none }
def FnQRPenaltyShareWrongFalsely : Prop := fnQRPenaltyShareRow.holds Try.pinned (OpenSpec.ofChange fnQRPenaltyShareWrong)

/-- 'laws.FnQRPenaltyRuns': WHATEVER THE INPUT: true; the input reads as it did. -/
def fnQRPenaltyRunsSpec : ChangeSpec := { name := "fnQRPenaltyRuns", fn := fun _ => fun
  | [d] => { results := [.lit (.bool true)], args := [d] }
  | _ => none }
def fnQRPenaltyRunsRow : OpenClaim := { program := "ytjgckbccbambmaa", sum := "a3388d02ff8eb60d4c9c825b6fce518e0cfbc007cfe5ddaf9b94fc9a0cf3d684", func := "given.example/pub-quietzone/laws.FnQRPenaltyRuns", spec := "fnQRPenaltyRuns", apart := false }
def FnQRPenaltyRunsSaid : Prop := fnQRPenaltyRunsRow.holds Try.pinned (OpenSpec.ofChange fnQRPenaltyRunsSpec)

/-- ITS FALSE NEIGHBOUR: 'it returns false'. Refute it at one input. -/
def fnQRPenaltyRunsWrong : ChangeSpec := { name := "fnQRPenaltyRuns", fn := fun _ => fun
  | [d] => { results := [.lit (.bool false)], args := [d] }
  | _ => none }
def FnQRPenaltyRunsWrongFalsely : Prop := fnQRPenaltyRunsRow.holds Try.pinned (OpenSpec.ofChange fnQRPenaltyRunsWrong)

/-- 'laws.FnQRUnmasks': WHATEVER THE INPUT: true; the input reads as it did. -/
def fnQRUnmasksSpec : ChangeSpec := { name := "fnQRUnmasks", fn := fun _ => fun
  | [d1, d2] => { results := [.lit (.bool true)], args := [d1, d2] }
  | _ => none }
def fnQRUnmasksRow : OpenClaim := { program := "ytjgckbccbambmaa", sum := "a3388d02ff8eb60d4c9c825b6fce518e0cfbc007cfe5ddaf9b94fc9a0cf3d684", func := "given.example/pub-quietzone/laws.FnQRUnmasks", spec := "fnQRUnmasks", unfollowed := true, recurses := true, apart := false }
def FnQRUnmasksSaid : Prop := fnQRUnmasksRow.holds Try.pinned (OpenSpec.ofChange fnQRUnmasksSpec)

/-- ITS FALSE NEIGHBOUR: 'it returns false'. Refute it at one input. -/
def fnQRUnmasksWrong : ChangeSpec := { name := "fnQRUnmasks", fn := fun _ => fun
  | [d1, d2] => { results := [.lit (.bool false)], args := [d1, d2] }
  | _ => none }
def FnQRUnmasksWrongFalsely : Prop := fnQRUnmasksRow.holds Try.pinned (OpenSpec.ofChange fnQRUnmasksWrong)

/- THE SECOND FORM. 'bulk': how many values and letters a reading holds, each counted each time it is reached (what is shared counts as often as it is met; a slice's spare places count too). A statement '..UptoSaid' is the law's where the arguments, and the package variables that the reading takes, are together of bulk at most 1048576: NARROWER than '..Said'. Prove '..Said' where nothing that the law and all that it calls make is longer than what came in: it says more and counts as full. Else prove '..UptoSaid'. A law counts once. -/
mutual
def uptoBulk {H : Type} : DataW H → Nat
  | .lit (.string bytes) => bytes.length + 1
  | .lit _ => 1
  | .nil => 1
  | .ptr d => uptoBulk d + 1
  | .slice elems spare => uptoBulkAll elems + uptoBulkAll spare + 1
  | .agg parts => uptoBulkAll parts + 1
  | .iface _ d => uptoBulk d + 1
  | .map entries => uptoBulkEntries entries + 1
  | .held _ => 1
def uptoBulkAll {H : Type} : List (DataW H) → Nat
  | [] => 0
  | d :: r => uptoBulk d + uptoBulkAll r
def uptoBulkEntries {H : Type} : List (Lit × DataW H) → Nat
  | [] => 0
  | x :: r => uptoBulkEntry x + uptoBulkEntries r
def uptoBulkEntry {H : Type} : Lit × DataW H → Nat
  | (.string bytes, d) => bytes.length + uptoBulk d + 1
  | (_, d) => uptoBulk d + 1
 end
def uptoSmall : (H : Type) → List (DataW H) → Bool := fun _ ds => decide (uptoBulkAll ds ≤ 1048576)
def OpenSpec.upto (s : _root_.Go.ChangeSpec) : _root_.Go.OpenSpec := { _root_.Go.OpenSpec.ofChange s with cond := some uptoSmall }

/-- 'laws.FnQRLevels', WHERE WHAT IT READS IS OF BULK AT MOST 1048576: true; the input reads as it did. -/
def fnQRLevelsUptoRow : OpenClaim := { program := "ytjgckbccbambmaa", sum := "a3388d02ff8eb60d4c9c825b6fce518e0cfbc007cfe5ddaf9b94fc9a0cf3d684", func := "given.example/pub-quietzone/laws.FnQRLevels", spec := "fnQRLevels", apart := false, narrowed := true }
def FnQRLevelsUptoSaid : Prop := fnQRLevelsUptoRow.holds Try.pinned (OpenSpec.upto fnQRLevelsSpec)

/-- 'laws.FnQRVersionInfos', WHERE WHAT IT READS IS OF BULK AT MOST 1048576: true; the input reads as it did. -/
def fnQRVersionInfosUptoRow : OpenClaim := { program := "ytjgckbccbambmaa", sum := "a3388d02ff8eb60d4c9c825b6fce518e0cfbc007cfe5ddaf9b94fc9a0cf3d684", func := "given.example/pub-quietzone/laws.FnQRVersionInfos", spec := "fnQRVersionInfos", apart := false, narrowed := true }
def FnQRVersionInfosUptoSaid : Prop := fnQRVersionInfosUptoRow.holds Try.pinned (OpenSpec.upto fnQRVersionInfosSpec)

/-- 'laws.FnQRPenaltyShare', WHERE WHAT IT READS IS OF BULK AT MOST 1048576: true; the input reads as it did. -/
def fnQRPenaltyShareUptoRow : OpenClaim := { program := "ytjgckbccbambmaa", sum := "a3388d02ff8eb60d4c9c825b6fce518e0cfbc007cfe5ddaf9b94fc9a0cf3d684", func := "given.example/pub-quietzone/laws.FnQRPenaltyShare", spec := "fnQRPenaltyShare", apart := false, narrowed := true }
def FnQRPenaltyShareUptoSaid : Prop := fnQRPenaltyShareUptoRow.holds Try.pinned (OpenSpec.upto fnQRPenaltyShareSpec)

/-- 'laws.FnQRPenaltyRuns', WHERE WHAT IT READS IS OF BULK AT MOST 1048576: true; the input reads as it did. -/
def fnQRPenaltyRunsUptoRow : OpenClaim := { program := "ytjgckbccbambmaa", sum := "a3388d02ff8eb60d4c9c825b6fce518e0cfbc007cfe5ddaf9b94fc9a0cf3d684", func := "given.example/pub-quietzone/laws.FnQRPenaltyRuns", spec := "fnQRPenaltyRuns", apart := false, narrowed := true }
def FnQRPenaltyRunsUptoSaid : Prop := fnQRPenaltyRunsUptoRow.holds Try.pinned (OpenSpec.upto fnQRPenaltyRunsSpec)

/-- 'laws.FnQRUnmasks', WHERE WHAT IT READS IS OF BULK AT MOST 1048576: true; the input reads as it did. -/
def fnQRUnmasksUptoRow : OpenClaim := { program := "ytjgckbccbambmaa", sum := "a3388d02ff8eb60d4c9c825b6fce518e0cfbc007cfe5ddaf9b94fc9a0cf3d684", func := "given.example/pub-quietzone/laws.FnQRUnmasks", spec := "fnQRUnmasks", unfollowed := true, recurses := true, apart := false, narrowed := true }
def FnQRUnmasksUptoSaid : Prop := fnQRUnmasksUptoRow.holds Try.pinned (OpenSpec.upto fnQRUnmasksSpec)

end Rows
end Go.Proofs.Ytjgckbccbambmaa
