/-
  DERIVED. GIVEN WITH THE SEED: THE CARDS: each row of YtliephokeafllaaGreatDoorRows.lean that lists a variable, with what it lists TIED to the program's text (the seventh form; the later family's looks); each row that meets fmt, with fmt's text TOLD by the authors' own Lean function (tested against real Go, not proved from fmt's source: count such statements apart). THE CARD IS WHAT COUNTS. Prove the row's statement (the work); the ties are given (YtliephokeafllaaGreatDoorTie.lean); close each card by the builder's one call (the guide's Derived/Test/ToyasCard.lean, 'card_holds'). Laid BY PROGRAM, IN A SANDBOX (cutbox-door.mjs). By AI agents, Wed Nov 11 2026. No macro, syntax, notation, axiom, sorry.
-/
import Derived.Test.YtliephokeafllaaGreatDoorRows
import GoSem.ClaimSeven
namespace Go.Proofs.YtliephokeafllaaGreatDoor
namespace Rows

/-- THE TIED CARD OF 'laws.FnAZBare'. -/
def fnAZBareCard : Claim7 := { stood := { row := fnAZBareRow, standIns := [], harness := (true, "bb3d3e2cc7930ce01bff0d215d741f3c65b8d7365b10a73e7cad5b7dd85ecfa9"), looks := false }, kinds := [], alts := [], laidByText := true, laidKinds := [.data, .data, .data], laidTests := true, laidLooks := .later }
def FnAZBareCardSaid : Prop := Claim7.holds Tryz.pinned (.plain (OpenSpec.ofChange fnAZBareSpec)) fnAZBareCard

/-- THE SECOND FORM's CARD OF 'laws.FnAZBare'. -/
def fnAZBareUptoCard : Claim7 := { stood := { row := fnAZBareUptoRow, standIns := [], harness := (true, "bb3d3e2cc7930ce01bff0d215d741f3c65b8d7365b10a73e7cad5b7dd85ecfa9"), looks := false }, kinds := [], alts := [], laidByText := true, laidKinds := [.data, .data, .data], laidTests := true, laidLooks := .later }
def FnAZBareUptoCardSaid : Prop := Claim7.holds Tryz.pinned (.plain (OpenSpec.upto fnAZBareSpec)) fnAZBareUptoCard
end Rows
end Go.Proofs.YtliephokeafllaaGreatDoor
