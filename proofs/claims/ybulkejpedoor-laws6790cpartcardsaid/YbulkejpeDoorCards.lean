/-
  DERIVED. GIVEN WITH THE SEED: THE CARDS: each row of YbulkejpeDoorRows.lean that lists a variable, with what it lists TIED to the program's text (the seventh form; the later family's looks); each row that meets fmt, with fmt's text TOLD by the authors' own Lean function (tested against real Go, not proved from fmt's source: count such statements apart). THE CARD IS WHAT COUNTS. Prove the row's statement (the work); the ties are given (YbulkejpeDoorTie.lean); close each card by the builder's one call (the guide's Derived/Test/ToyasCard.lean, 'card_holds'). Laid BY PROGRAM, IN A SANDBOX (cutbox-door.mjs). By AI agents, Wed Nov 11 2026. No macro, syntax, notation, axiom, sorry.
-/
import Derived.Test.YbulkejpeDoorRows
import GoSem.ClaimSeven
namespace Go.Proofs.YbulkejpeDoor
namespace Rows

/-- THE TIED CARD OF 'verify.LawS6790CPart'. -/
def lawS6790CPartCard : Claim7 := { stood := { row := lawS6790CPartRow, standIns := [], harness := (true, "8ec3c722757f5c969dc03d8e63d854ed0f25f01d97e61b192b00dcc01894d7c4"), looks := false }, kinds := [], alts := [], laidByText := true, laidKinds := [.data, .data, .data], laidTests := true, laidLooks := .later }
def LawS6790CPartCardSaid : Prop := Claim7.holds Ybad.pinned (.plain (OpenSpec.ofChange lawS6790CPartSpec)) lawS6790CPartCard
end Rows
end Go.Proofs.YbulkejpeDoor
