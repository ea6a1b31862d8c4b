/-
  DERIVED. GIVEN WITH THE SEED: THE CARDS: each row of YbulkcefcDoorRows.lean that lists a variable, with what it lists TIED to the program's text (the seventh form; the later family's looks); each row that meets fmt, with fmt's text TOLD by the authors' own Lean function (tested against real Go, not proved from fmt's source: count such statements apart). THE CARD IS WHAT COUNTS. Prove the row's statement (the work); the ties are given (YbulkcefcDoorTie.lean); close each card by the builder's one call (the guide's Derived/Test/ToyasCard.lean, 'card_holds'). Laid BY PROGRAM, IN A SANDBOX (cutbox-door.mjs). By AI agents, Wed Nov 11 2026. No macro, syntax, notation, axiom, sorry.
-/
import Derived.Test.YbulkcefcDoorRows
import GoSem.ClaimSeven
namespace Go.Proofs.YbulkcefcDoor
namespace Rows

/-- THE TIED CARD OF 'ledger.LawS4019AFlip'. -/
def lawS4019AFlipCard : Claim7 := { stood := { row := lawS4019AFlipRow, standIns := [], harness := (true, "7adae55975bad1b499130e86e4e0827af3968d102ac67cf6c25835abf40fb82a"), looks := false }, kinds := [], alts := [], laidByText := true, laidKinds := [.data, .data, .data], laidTests := true, laidLooks := .later }
def LawS4019AFlipCardSaid : Prop := Claim7.holds Ybad.pinned (.plain (OpenSpec.ofChange lawS4019AFlipSpec)) lawS4019AFlipCard
end Rows
end Go.Proofs.YbulkcefcDoor
