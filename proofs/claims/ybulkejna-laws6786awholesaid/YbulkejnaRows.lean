/-
  No cell of these rows narrows 'for every input' (looked for: loops, veiled, ifaces, maps, wideKeys, modest, calm, conditions, laid).
  DERIVED. THE GIVEN ROWS OF THIS SEAT. 2 by the template 'for every input the law returns true; each argument reads behind the call as it read before'; 0 by the template 'total and deterministic' (their statements: YbulkejnaTotals.lean).
  GIVEN WITH THE SEED: the statements are not yours to turn. If you find one false, say at which input.
  Laid BY PROGRAM, IN A SANDBOX (cutbox-rows.mjs): the forced cells as the released guide's own fill.sh prints them over the translation fe62804b0957507d… (all of the seat's roots in one cut). By AI agents, Wed Nov 11 2026. No macro, syntax, notation, axiom, sorry.
-/
import Derived.Test.YbulkejnaChecked
import GoSem.Claim
import GoSem.ClaimJoined
import GoSem.ClaimMapViews
import Derived.JoinedTies
import Derived.KernelRfl
namespace Go.Proofs.Ybulkejna
/- THE CELL 'sum', in the pinned program and in every row, IS THE sha256 OF THE DUMP (.gsa) THAT YbulkejnaProg.lean LOADS. Nothing in Lean hashes anything: it is a label: what it is worth is what the hold of that sum in a sandbox is worth. -/
noncomputable def Yba.pinned : Pinned := { name := "ybulkejna", sum := "fe62804b0957507d4a8718f37fa336dcf38ba562692da92bd6e30fb477e1fa4e", checked := Yba.checked }
namespace Rows
def none {H : Type} : Left H := { results := [], args := [] }

/-- 'interp.LawS6786AWhole': WHATEVER THE INPUT: true; the input reads as it did. -/
def lawS6786AWholeSpec : ChangeSpec := { name := "lawS6786AWhole", fn := fun _ => fun
  | [d1, d2, d3, d4, d5, d6, d7, d8, d9] => { results := [.lit (.bool true)], args := [d1, d2, d3, d4, d5, d6, d7, d8, d9] }
  | _ => none }
def lawS6786AWholeRow : OpenClaim := { program := "ybulkejna", sum := "fe62804b0957507d4a8718f37fa336dcf38ba562692da92bd6e30fb477e1fa4e", func := "example.com/epiphyte/epiphyte/pkg/interp.LawS6786AWhole", spec := "lawS6786AWhole", plainKeys := false, apart := false }
def LawS6786AWholeSaid : Prop := lawS6786AWholeRow.holds Yba.pinned (OpenSpec.ofChange lawS6786AWholeSpec)

/-- ITS FALSE NEIGHBOUR: 'it returns false'. Refute it at one input. -/
def lawS6786AWholeWrong : ChangeSpec := { name := "lawS6786AWhole", fn := fun _ => fun
  | [d1, d2, d3, d4, d5, d6, d7, d8, d9] => { results := [.lit (.bool false)], args := [d1, d2, d3, d4, d5, d6, d7, d8, d9] }
  | _ => none }
def LawS6786AWholeWrongFalsely : Prop := lawS6786AWholeRow.holds Yba.pinned (OpenSpec.ofChange lawS6786AWholeWrong)

/-- 'interp.LawS6786AHoldRelease': WHATEVER THE INPUT: true; the input reads as it did. -/
def lawS6786AHoldReleaseSpec : ChangeSpec := { name := "lawS6786AHoldRelease", fn := fun _ => fun
  | [d1, d2, d3, d4, d5, d6, d7, d8, d9] => { results := [.lit (.bool true)], args := [d1, d2, d3, d4, d5, d6, d7, d8, d9] }
  | _ => none }
def lawS6786AHoldReleaseRow : OpenClaim := { program := "ybulkejna", sum := "fe62804b0957507d4a8718f37fa336dcf38ba562692da92bd6e30fb477e1fa4e", func := "example.com/epiphyte/epiphyte/pkg/interp.LawS6786AHoldRelease", spec := "lawS6786AHoldRelease", plainKeys := false, apart := false }
def LawS6786AHoldReleaseSaid : Prop := lawS6786AHoldReleaseRow.holds Yba.pinned (OpenSpec.ofChange lawS6786AHoldReleaseSpec)

/-- ITS FALSE NEIGHBOUR: 'it returns false'. Refute it at one input. -/
def lawS6786AHoldReleaseWrong : ChangeSpec := { name := "lawS6786AHoldRelease", fn := fun _ => fun
  | [d1, d2, d3, d4, d5, d6, d7, d8, d9] => { results := [.lit (.bool false)], args := [d1, d2, d3, d4, d5, d6, d7, d8, d9] }
  | _ => none }
def LawS6786AHoldReleaseWrongFalsely : Prop := lawS6786AHoldReleaseRow.holds Yba.pinned (OpenSpec.ofChange lawS6786AHoldReleaseWrong)

end Rows
end Go.Proofs.Ybulkejna
