/-
  DERIVED. GIVEN WITH THE SEED: THE CARDS: each row of YtmaghlckgfihcaaDoorRows.lean that lists a variable, with what it lists TIED to the program's text (the seventh form; the later family's looks); each row that meets fmt, with fmt's text TOLD by the authors' own Lean function (tested against real Go, not proved from fmt's source: count such statements apart). THE CARD IS WHAT COUNTS. Prove the row's statement (the work); the ties are given (YtmaghlckgfihcaaDoorTie.lean); close each card by the builder's one call (the guide's Derived/Test/ToyasCard.lean, 'card_holds'). Laid BY PROGRAM, IN A SANDBOX (cutbox-door.mjs). By AI agents, Wed Nov 11 2026. No macro, syntax, notation, axiom, sorry.
-/
import Derived.Test.YtmaghlckgfihcaaDoorRows
import GoSem.ClaimSeven
namespace Go.Proofs.YtmaghlckgfihcaaDoor
namespace Rows

/-- THE TIED CARD OF 'laws.FnBINexts'. -/
def fnBINextsCard : Claim7 := { stood := { row := fnBINextsRow, standIns := [], harness := (true, "dacbbe785a9f655484755456a00d96b2640a9aa7538b10b4d9b62f3fe33b67ea"), looks := false }, kinds := [], alts := [], laidByText := true, laidKinds := [.data], laidTests := true, laidLooks := .later }
def FnBINextsCardSaid : Prop := Claim7.holds Tryd.pinned (.plain (OpenSpec.ofChange fnBINextsSpec)) fnBINextsCard

/-- THE SECOND FORM's CARD OF 'laws.FnBINexts'. -/
def fnBINextsUptoCard : Claim7 := { stood := { row := fnBINextsUptoRow, standIns := [], harness := (true, "dacbbe785a9f655484755456a00d96b2640a9aa7538b10b4d9b62f3fe33b67ea"), looks := false }, kinds := [], alts := [], laidByText := true, laidKinds := [.data], laidTests := true, laidLooks := .later }
def FnBINextsUptoCardSaid : Prop := Claim7.holds Tryd.pinned (.plain (OpenSpec.upto fnBINextsSpec)) fnBINextsUptoCard
end Rows
end Go.Proofs.YtmaghlckgfihcaaDoor
