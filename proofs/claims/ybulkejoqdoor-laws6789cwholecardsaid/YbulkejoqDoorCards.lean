/-
  DERIVED. GIVEN WITH THE SEED: THE CARDS: each row of YbulkejoqDoorRows.lean that lists a variable, with what it lists TIED to the program's text (the seventh form; the later family's looks); each row that meets fmt, with fmt's text TOLD by the authors' own Lean function (tested against real Go, not proved from fmt's source: count such statements apart). THE CARD IS WHAT COUNTS. Prove the row's statement (the work); the ties are given (YbulkejoqDoorTie.lean); close each card by the builder's one call (the guide's Derived/Test/ToyasCard.lean, 'card_holds'). Laid BY PROGRAM, IN A SANDBOX (cutbox-door.mjs). By AI agents, Wed Nov 11 2026. No macro, syntax, notation, axiom, sorry.
-/
import Derived.Test.YbulkejoqDoorRows
import GoSem.ClaimSeven
namespace Go.Proofs.YbulkejoqDoor
namespace Rows

/-- THE TIED CARD OF 'almucantar.LawS6789AWhole'. -/
def lawS6789AWholeCard : Claim7 := { stood := { row := lawS6789AWholeRow, standIns := [], harness := (true, "077b306ad2489eb0aa46ba786dddc9d3608140bcf62d0e6b35f4f75063eab818"), looks := true }, kinds := [], alts := [], laidByText := true, laidKinds := [.data, .data, .data], laidTests := true, laidLooks := .later }
def LawS6789AWholeCardSaid : Prop := Claim7.holds Ybad.pinned (.plain (OpenSpec.ofChange lawS6789AWholeSpec)) lawS6789AWholeCard

/-- THE TIED CARD OF 'almucantar.LawS6789BWhole'. -/
def lawS6789BWholeCard : Claim7 := { stood := { row := lawS6789BWholeRow, standIns := [], harness := (true, "077b306ad2489eb0aa46ba786dddc9d3608140bcf62d0e6b35f4f75063eab818"), looks := true }, kinds := [], alts := [], laidByText := true, laidKinds := [.data, .data, .data, .data, .pinned, .pinned], laidTests := true, laidLooks := .later }
def LawS6789BWholeCardSaid : Prop := Claim7.holds Ybad.pinned (.plain (OpenSpec.ofChange lawS6789BWholeSpec)) lawS6789BWholeCard

/-- THE TIED CARD OF 'almucantar.LawS6789CWhole'. -/
def lawS6789CWholeCard : Claim7 := { stood := { row := lawS6789CWholeRow, standIns := [], harness := (true, "077b306ad2489eb0aa46ba786dddc9d3608140bcf62d0e6b35f4f75063eab818"), looks := true }, kinds := [], alts := [], laidByText := true, laidKinds := [.data], laidTests := true, laidLooks := .later }
def LawS6789CWholeCardSaid : Prop := Claim7.holds Ybad.pinned (.plain (OpenSpec.ofChange lawS6789CWholeSpec)) lawS6789CWholeCard
end Rows
end Go.Proofs.YbulkejoqDoor
