/-
  DERIVED. GIVEN WITH THE SEED: THE CARDS: each row of YtfmjkflihnfneaaDoorRows.lean that lists a variable, with what it lists TIED to the program's text (the seventh form; the later family's looks); each row that meets fmt, with fmt's text TOLD by the authors' own Lean function (tested against real Go, not proved from fmt's source: count such statements apart). THE CARD IS WHAT COUNTS. Prove the row's statement (the work); the ties are given (YtfmjkflihnfneaaDoorTie.lean); close each card by the builder's one call (the guide's Derived/Test/ToyasCard.lean, 'card_holds'). Laid BY PROGRAM, IN A SANDBOX (cutbox-door.mjs). By AI agents, Wed Nov 11 2026. No macro, syntax, notation, axiom, sorry.
-/
import Derived.Test.YtfmjkflihnfneaaDoorRows
import GoSem.ClaimSeven
namespace Go.Proofs.YtfmjkflihnfneaaDoor
namespace Rows

/-- THE TIED CARD OF 'laws.FnDMBase256'. -/
def fnDMBase256Card : Claim7 := { stood := { row := fnDMBase256Row, standIns := [], harness := (true, "f69f007a1cc3b7f8664f6a6c935e0abca1e3d1346ea335e0997e10435c940aff"), looks := false }, kinds := [], alts := [], laidByText := true, laidKinds := [.data, .data, .data], laidTests := true, laidLooks := .later }
def FnDMBase256CardSaid : Prop := Claim7.holds Tryd.pinned (.plain (OpenSpec.ofChange fnDMBase256Spec)) fnDMBase256Card

/-- THE TIED CARD OF 'laws.FnDMParse'. -/
def fnDMParseCard : Claim7 := { stood := { row := fnDMParseRow, standIns := [], harness := (true, "f69f007a1cc3b7f8664f6a6c935e0abca1e3d1346ea335e0997e10435c940aff"), looks := false }, kinds := [], alts := [], laidByText := true, laidKinds := [.data, .data, .data], laidTests := true, laidLooks := .later }
def FnDMParseCardSaid : Prop := Claim7.holds Tryd.pinned (.plain (OpenSpec.ofChange fnDMParseSpec)) fnDMParseCard

/-- THE TIED CARD OF 'laws.FnDMText'. -/
def fnDMTextCard : Claim7 := { stood := { row := fnDMTextRow, standIns := [], harness := (true, "f69f007a1cc3b7f8664f6a6c935e0abca1e3d1346ea335e0997e10435c940aff"), looks := false }, kinds := [], alts := [], laidByText := true, laidKinds := [.data, .data, .data], laidTests := true, laidLooks := .later }
def FnDMTextCardSaid : Prop := Claim7.holds Tryd.pinned (.plain (OpenSpec.ofChange fnDMTextSpec)) fnDMTextCard

/-- THE SECOND FORM's CARD OF 'laws.FnDMBase256'. -/
def fnDMBase256UptoCard : Claim7 := { stood := { row := fnDMBase256UptoRow, standIns := [], harness := (true, "f69f007a1cc3b7f8664f6a6c935e0abca1e3d1346ea335e0997e10435c940aff"), looks := false }, kinds := [], alts := [], laidByText := true, laidKinds := [.data, .data, .data], laidTests := true, laidLooks := .later }
def FnDMBase256UptoCardSaid : Prop := Claim7.holds Tryd.pinned (.plain (OpenSpec.upto fnDMBase256Spec)) fnDMBase256UptoCard

/-- THE SECOND FORM's CARD OF 'laws.FnDMParse'. -/
def fnDMParseUptoCard : Claim7 := { stood := { row := fnDMParseUptoRow, standIns := [], harness := (true, "f69f007a1cc3b7f8664f6a6c935e0abca1e3d1346ea335e0997e10435c940aff"), looks := false }, kinds := [], alts := [], laidByText := true, laidKinds := [.data, .data, .data], laidTests := true, laidLooks := .later }
def FnDMParseUptoCardSaid : Prop := Claim7.holds Tryd.pinned (.plain (OpenSpec.upto fnDMParseSpec)) fnDMParseUptoCard

/-- THE SECOND FORM's CARD OF 'laws.FnDMText'. -/
def fnDMTextUptoCard : Claim7 := { stood := { row := fnDMTextUptoRow, standIns := [], harness := (true, "f69f007a1cc3b7f8664f6a6c935e0abca1e3d1346ea335e0997e10435c940aff"), looks := false }, kinds := [], alts := [], laidByText := true, laidKinds := [.data, .data, .data], laidTests := true, laidLooks := .later }
def FnDMTextUptoCardSaid : Prop := Claim7.holds Tryd.pinned (.plain (OpenSpec.upto fnDMTextSpec)) fnDMTextUptoCard
end Rows
end Go.Proofs.YtfmjkflihnfneaaDoor
