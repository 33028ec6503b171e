/-
  No cell of these rows narrows 'for every input' (looked for: loops, veiled, ifaces, maps, wideKeys, modest, calm, conditions, laid).
  DERIVED. THE GIVEN ROWS OF THIS SEAT. 7 by the template 'for every input the law returns true; each argument reads behind the call as it read before'; 0 by the template 'total and deterministic' (their statements: YtpkmknbmjlnkgaaTotals.lean).
  GIVEN WITH THE SEED: the statements are not yours to turn. If you find one false, say at which input.
  Laid BY PROGRAM, IN A SANDBOX (cutbox-rows.mjs): the forced cells as the released guide's own fill.sh prints them over the translation 36daf4dcd9ecbced… (all of the seat's roots in one cut). By AI agents, Wed Nov 11 2026. No macro, syntax, notation, axiom, sorry.
-/
import Derived.Test.YtpkmknbmjlnkgaaChecked
import GoSem.Claim
import GoSem.ClaimJoined
import GoSem.ClaimMapViews
import Derived.JoinedTies
import Derived.KernelRfl
namespace Go.Proofs.Ytpkmknbmjlnkgaa
/- THE CELL 'sum', in the pinned program and in every row, IS THE sha256 OF THE DUMP (.gsa) THAT YtpkmknbmjlnkgaaProg.lean LOADS. Nothing in Lean hashes anything: it is a label: what it is worth is what the hold of that sum in a sandbox is worth. -/
noncomputable def Try.pinned : Pinned := { name := "ytpkmknbmjlnkgaa", sum := "36daf4dcd9ecbcedd5c73169a3a55a63548663956d4de7f1c193668315cc9c7f", checked := Try.checked }
namespace Rows
def none {H : Type} : Left H := { results := [], args := [] }

/-- 'laws.FnRSTimes': WHATEVER THE INPUT: true; the input reads as it did. -/
def fnRSTimesSpec : ChangeSpec := { name := "fnRSTimes", fn := fun _ => fun
  | [d1, d2, d3] => { results := [.lit (.bool true)], args := [d1, d2, d3] }
  | _ => none }
def fnRSTimesRow : OpenClaim := { program := "ytpkmknbmjlnkgaa", sum := "36daf4dcd9ecbcedd5c73169a3a55a63548663956d4de7f1c193668315cc9c7f", func := "given.example/pub-quietzone/laws.FnRSTimes", spec := "fnRSTimes", apart := false }
def FnRSTimesSaid : Prop := fnRSTimesRow.holds Try.pinned (OpenSpec.ofChange fnRSTimesSpec)

/-- ITS FALSE NEIGHBOUR: 'it returns false'. Refute it at one input. -/
def fnRSTimesWrong : ChangeSpec := { name := "fnRSTimes", fn := fun _ => fun
  | [d1, d2, d3] => { results := [.lit (.bool false)], args := [d1, d2, d3] }
  | _ => none }
def FnRSTimesWrongFalsely : Prop := fnRSTimesRow.holds Try.pinned (OpenSpec.ofChange fnRSTimesWrong)

/-- 'laws.FnRSRules': WHATEVER THE INPUT: true; the input reads as it did. -/
def fnRSRulesSpec : ChangeSpec := { name := "fnRSRules", fn := fun _ => fun
  | [d1, d2, d3, d4] => { results := [.lit (.bool true)], args := [d1, d2, d3, d4] }
  | _ => none }
def fnRSRulesRow : OpenClaim := { program := "ytpkmknbmjlnkgaa", sum := "36daf4dcd9ecbcedd5c73169a3a55a63548663956d4de7f1c193668315cc9c7f", func := "given.example/pub-quietzone/laws.FnRSRules", spec := "fnRSRules", apart := false }
def FnRSRulesSaid : Prop := fnRSRulesRow.holds Try.pinned (OpenSpec.ofChange fnRSRulesSpec)

/-- ITS FALSE NEIGHBOUR: 'it returns false'. Refute it at one input. -/
def fnRSRulesWrong : ChangeSpec := { name := "fnRSRules", fn := fun _ => fun
  | [d1, d2, d3, d4] => { results := [.lit (.bool false)], args := [d1, d2, d3, d4] }
  | _ => none }
def FnRSRulesWrongFalsely : Prop := fnRSRulesRow.holds Try.pinned (OpenSpec.ofChange fnRSRulesWrong)

/-- 'laws.FnRSValues': WHATEVER THE INPUT: true; the input reads as it did. -/
def fnRSValuesSpec : ChangeSpec := { name := "fnRSValues", fn := fun _ => fun
  | [d1, d2, d3] => { results := [.lit (.bool true)], args := [d1, d2, d3] }
  | _ => none }
def fnRSValuesRow : OpenClaim := { program := "ytpkmknbmjlnkgaa", sum := "36daf4dcd9ecbcedd5c73169a3a55a63548663956d4de7f1c193668315cc9c7f", func := "given.example/pub-quietzone/laws.FnRSValues", spec := "fnRSValues", apart := false }
def FnRSValuesSaid : Prop := fnRSValuesRow.holds Try.pinned (OpenSpec.ofChange fnRSValuesSpec)

/-- ITS FALSE NEIGHBOUR: 'it returns false'. Refute it at one input. -/
def fnRSValuesWrong : ChangeSpec := { name := "fnRSValues", fn := fun _ => fun
  | [d1, d2, d3] => { results := [.lit (.bool false)], args := [d1, d2, d3] }
  | _ => none }
def FnRSValuesWrongFalsely : Prop := fnRSValuesRow.holds Try.pinned (OpenSpec.ofChange fnRSValuesWrong)

/-- 'laws.FnRSScales': WHATEVER THE INPUT: true; the input reads as it did. -/
def fnRSScalesSpec : ChangeSpec := { name := "fnRSScales", fn := fun _ => fun
  | [d1, d2, d3, d4] => { results := [.lit (.bool true)], args := [d1, d2, d3, d4] }
  | _ => none }
def fnRSScalesRow : OpenClaim := { program := "ytpkmknbmjlnkgaa", sum := "36daf4dcd9ecbcedd5c73169a3a55a63548663956d4de7f1c193668315cc9c7f", func := "given.example/pub-quietzone/laws.FnRSScales", spec := "fnRSScales", apart := false }
def FnRSScalesSaid : Prop := fnRSScalesRow.holds Try.pinned (OpenSpec.ofChange fnRSScalesSpec)

/-- ITS FALSE NEIGHBOUR: 'it returns false'. Refute it at one input. -/
def fnRSScalesWrong : ChangeSpec := { name := "fnRSScales", fn := fun _ => fun
  | [d1, d2, d3, d4] => { results := [.lit (.bool false)], args := [d1, d2, d3, d4] }
  | _ => none }
def FnRSScalesWrongFalsely : Prop := fnRSScalesRow.holds Try.pinned (OpenSpec.ofChange fnRSScalesWrong)

/-- 'laws.FnRSRefuses': WHATEVER THE INPUT: true; the input reads as it did. -/
def fnRSRefusesSpec : ChangeSpec := { name := "fnRSRefuses", fn := fun _ => fun
  | [d1, d2, d3] => { results := [.lit (.bool true)], args := [d1, d2, d3] }
  | _ => none }
def fnRSRefusesRow : OpenClaim := { program := "ytpkmknbmjlnkgaa", sum := "36daf4dcd9ecbcedd5c73169a3a55a63548663956d4de7f1c193668315cc9c7f", func := "given.example/pub-quietzone/laws.FnRSRefuses", spec := "fnRSRefuses", apart := false }
def FnRSRefusesSaid : Prop := fnRSRefusesRow.holds Try.pinned (OpenSpec.ofChange fnRSRefusesSpec)

/-- ITS FALSE NEIGHBOUR: 'it returns false'. Refute it at one input. -/
def fnRSRefusesWrong : ChangeSpec := { name := "fnRSRefuses", fn := fun _ => fun
  | [d1, d2, d3] => { results := [.lit (.bool false)], args := [d1, d2, d3] }
  | _ => none }
def FnRSRefusesWrongFalsely : Prop := fnRSRefusesRow.holds Try.pinned (OpenSpec.ofChange fnRSRefusesWrong)

/-- 'laws.FnRSCorrects': WHATEVER THE INPUT: true; the input reads as it did. -/
def fnRSCorrectsSpec : ChangeSpec := { name := "fnRSCorrects", fn := fun _ => fun
  | [d1, d2, d3, d4, d5] => { results := [.lit (.bool true)], args := [d1, d2, d3, d4, d5] }
  | _ => none }
def fnRSCorrectsRow : OpenClaim := { program := "ytpkmknbmjlnkgaa", sum := "36daf4dcd9ecbcedd5c73169a3a55a63548663956d4de7f1c193668315cc9c7f", func := "given.example/pub-quietzone/laws.FnRSCorrects", spec := "fnRSCorrects", apart := false }
def FnRSCorrectsSaid : Prop := fnRSCorrectsRow.holds Try.pinned (OpenSpec.ofChange fnRSCorrectsSpec)

/-- ITS FALSE NEIGHBOUR: 'it returns false'. Refute it at one input. -/
def fnRSCorrectsWrong : ChangeSpec := { name := "fnRSCorrects", fn := fun _ => fun
  | [d1, d2, d3, d4, d5] => { results := [.lit (.bool false)], args := [d1, d2, d3, d4, d5] }
  | _ => none }
def FnRSCorrectsWrongFalsely : Prop := fnRSCorrectsRow.holds Try.pinned (OpenSpec.ofChange fnRSCorrectsWrong)

/-- 'laws.FnRSEnds': WHATEVER THE INPUT: true; the input reads as it did. -/
def fnRSEndsSpec : ChangeSpec := { name := "fnRSEnds", fn := fun _ => fun
  | [d1, d2, d3] => { results := [.lit (.bool true)], args := [d1, d2, d3] }
  | _ => none }
def fnRSEndsRow : OpenClaim := { program := "ytpkmknbmjlnkgaa", sum := "36daf4dcd9ecbcedd5c73169a3a55a63548663956d4de7f1c193668315cc9c7f", func := "given.example/pub-quietzone/laws.FnRSEnds", spec := "fnRSEnds", apart := false }
def FnRSEndsSaid : Prop := fnRSEndsRow.holds Try.pinned (OpenSpec.ofChange fnRSEndsSpec)

/-- ITS FALSE NEIGHBOUR: 'it returns false'. Refute it at one input. -/
def fnRSEndsWrong : ChangeSpec := { name := "fnRSEnds", fn := fun _ => fun
  | [d1, d2, d3] => { results := [.lit (.bool false)], args := [d1, d2, d3] }
  | _ => none }
def FnRSEndsWrongFalsely : Prop := fnRSEndsRow.holds Try.pinned (OpenSpec.ofChange fnRSEndsWrong)

/- THE SECOND FORM. 'bulk': how many values and letters a reading holds, each counted each time it is reached (what is shared counts as often as it is met; a slice's spare places count too). A statement '..UptoSaid' is the law's where the arguments, and the package variables that the reading takes, are together of bulk at most 1048576: NARROWER than '..Said'. Prove '..Said' where nothing that the law and all that it calls make is longer than what came in: it says more and counts as full. Else prove '..UptoSaid'. A law counts once. -/
mutual
def uptoBulk {H : Type} : DataW H → Nat
  | .lit (.string bytes) => bytes.length + 1
  | .lit _ => 1
  | .nil => 1
  | .ptr d => uptoBulk d + 1
  | .slice elems spare => uptoBulkAll elems + uptoBulkAll spare + 1
  | .agg parts => uptoBulkAll parts + 1
  | .iface _ d => uptoBulk d + 1
  | .map entries => uptoBulkEntries entries + 1
  | .held _ => 1
def uptoBulkAll {H : Type} : List (DataW H) → Nat
  | [] => 0
  | d :: r => uptoBulk d + uptoBulkAll r
def uptoBulkEntries {H : Type} : List (Lit × DataW H) → Nat
  | [] => 0
  | x :: r => uptoBulkEntry x + uptoBulkEntries r
def uptoBulkEntry {H : Type} : Lit × DataW H → Nat
  | (.string bytes, d) => bytes.length + uptoBulk d + 1
  | (_, d) => uptoBulk d + 1
 end
def uptoSmall : (H : Type) → List (DataW H) → Bool := fun _ ds => decide (uptoBulkAll ds ≤ 1048576)
def OpenSpec.upto (s : _root_.Go.ChangeSpec) : _root_.Go.OpenSpec := { _root_.Go.OpenSpec.ofChange s with cond := some uptoSmall }

/-- 'laws.FnRSTimes', WHERE WHAT IT READS IS OF BULK AT MOST 1048576: true; the input reads as it did. -/
def fnRSTimesUptoRow : OpenClaim := { program := "ytpkmknbmjlnkgaa", sum := "36daf4dcd9ecbcedd5c73169a3a55a63548663956d4de7f1c193668315cc9c7f", func := "given.example/pub-quietzone/laws.FnRSTimes", spec := "fnRSTimes", apart := false, narrowed := true }
def FnRSTimesUptoSaid : Prop := fnRSTimesUptoRow.holds Try.pinned (OpenSpec.upto fnRSTimesSpec)

/-- 'laws.FnRSRules', WHERE WHAT IT READS IS OF BULK AT MOST 1048576: true; the input reads as it did. -/
def fnRSRulesUptoRow : OpenClaim := { program := "ytpkmknbmjlnkgaa", sum := "36daf4dcd9ecbcedd5c73169a3a55a63548663956d4de7f1c193668315cc9c7f", func := "given.example/pub-quietzone/laws.FnRSRules", spec := "fnRSRules", apart := false, narrowed := true }
def FnRSRulesUptoSaid : Prop := fnRSRulesUptoRow.holds Try.pinned (OpenSpec.upto fnRSRulesSpec)

/-- 'laws.FnRSValues', WHERE WHAT IT READS IS OF BULK AT MOST 1048576: true; the input reads as it did. -/
def fnRSValuesUptoRow : OpenClaim := { program := "ytpkmknbmjlnkgaa", sum := "36daf4dcd9ecbcedd5c73169a3a55a63548663956d4de7f1c193668315cc9c7f", func := "given.example/pub-quietzone/laws.FnRSValues", spec := "fnRSValues", apart := false, narrowed := true }
def FnRSValuesUptoSaid : Prop := fnRSValuesUptoRow.holds Try.pinned (OpenSpec.upto fnRSValuesSpec)

/-- 'laws.FnRSScales', WHERE WHAT IT READS IS OF BULK AT MOST 1048576: true; the input reads as it did. -/
def fnRSScalesUptoRow : OpenClaim := { program := "ytpkmknbmjlnkgaa", sum := "36daf4dcd9ecbcedd5c73169a3a55a63548663956d4de7f1c193668315cc9c7f", func := "given.example/pub-quietzone/laws.FnRSScales", spec := "fnRSScales", apart := false, narrowed := true }
def FnRSScalesUptoSaid : Prop := fnRSScalesUptoRow.holds Try.pinned (OpenSpec.upto fnRSScalesSpec)

/-- 'laws.FnRSRefuses', WHERE WHAT IT READS IS OF BULK AT MOST 1048576: true; the input reads as it did. -/
def fnRSRefusesUptoRow : OpenClaim := { program := "ytpkmknbmjlnkgaa", sum := "36daf4dcd9ecbcedd5c73169a3a55a63548663956d4de7f1c193668315cc9c7f", func := "given.example/pub-quietzone/laws.FnRSRefuses", spec := "fnRSRefuses", apart := false, narrowed := true }
def FnRSRefusesUptoSaid : Prop := fnRSRefusesUptoRow.holds Try.pinned (OpenSpec.upto fnRSRefusesSpec)

/-- 'laws.FnRSCorrects', WHERE WHAT IT READS IS OF BULK AT MOST 1048576: true; the input reads as it did. -/
def fnRSCorrectsUptoRow : OpenClaim := { program := "ytpkmknbmjlnkgaa", sum := "36daf4dcd9ecbcedd5c73169a3a55a63548663956d4de7f1c193668315cc9c7f", func := "given.example/pub-quietzone/laws.FnRSCorrects", spec := "fnRSCorrects", apart := false, narrowed := true }
def FnRSCorrectsUptoSaid : Prop := fnRSCorrectsUptoRow.holds Try.pinned (OpenSpec.upto fnRSCorrectsSpec)

/-- 'laws.FnRSEnds', WHERE WHAT IT READS IS OF BULK AT MOST 1048576: true; the input reads as it did. -/
def fnRSEndsUptoRow : OpenClaim := { program := "ytpkmknbmjlnkgaa", sum := "36daf4dcd9ecbcedd5c73169a3a55a63548663956d4de7f1c193668315cc9c7f", func := "given.example/pub-quietzone/laws.FnRSEnds", spec := "fnRSEnds", apart := false, narrowed := true }
def FnRSEndsUptoSaid : Prop := fnRSEndsUptoRow.holds Try.pinned (OpenSpec.upto fnRSEndsSpec)

end Rows
end Go.Proofs.Ytpkmknbmjlnkgaa
