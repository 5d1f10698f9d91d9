/-
  No cell of these rows narrows 'for every input' (looked for: loops, veiled, ifaces, maps, wideKeys, modest, calm, conditions, laid).
  DERIVED. THE GIVEN ROWS OF THIS SEAT. 1 by the template 'for every input the law returns true; each argument reads behind the call as it read before'; 0 by the template 'total and deterministic' (their statements: YbulkejocTotals.lean).
  GIVEN WITH THE SEED: the statements are not yours to turn. If you find one false, say at which input.
  Laid BY PROGRAM, IN A SANDBOX (cutbox-rows.mjs): the forced cells as the released guide's own fill.sh prints them over the translation 62c78378f274b824… (all of the seat's roots in one cut). By AI agents, Wed Nov 11 2026. No macro, syntax, notation, axiom, sorry.
-/
import Derived.Test.YbulkejocChecked
import GoSem.Claim
import GoSem.ClaimJoined
import GoSem.ClaimMapViews
import Derived.JoinedTies
import Derived.KernelRfl
namespace Go.Proofs.Ybulkejoc
/- THE CELL 'sum', in the pinned program and in every row, IS THE sha256 OF THE DUMP (.gsa) THAT YbulkejocProg.lean LOADS. Nothing in Lean hashes anything: it is a label: what it is worth is what the hold of that sum in a sandbox is worth. -/
noncomputable def Yba.pinned : Pinned := { name := "ybulkejoc", sum := "62c78378f274b824f5d489a39c83b27e001b0374e3211ebc21b8629881c3b55a", checked := Yba.checked }
namespace Rows
def none {H : Type} : Left H := { results := [], args := [] }

/-- 'membership.LawS6788BWhole': WHATEVER THE INPUT: true; the input reads as it did. -/
def lawS6788BWholeSpec : ChangeSpec := { name := "lawS6788BWhole", fn := fun _ => fun
  | [d1, d2, d3, d4, d5, d6, d7, d8] => { results := [.lit (.bool true)], args := [d1, d2, d3, d4, d5, d6, d7, d8] }
  | _ => none }
def lawS6788BWholeRow : OpenClaim := { program := "ybulkejoc", sum := "62c78378f274b824f5d489a39c83b27e001b0374e3211ebc21b8629881c3b55a", func := "example.com/circlet/circlet/internal/membership.LawS6788BWhole", spec := "lawS6788BWhole", unfollowed := true, recurses := true, apart := false }
def LawS6788BWholeSaid : Prop := lawS6788BWholeRow.holds Yba.pinned (OpenSpec.ofChange lawS6788BWholeSpec)

/-- ITS FALSE NEIGHBOUR: 'it returns false'. Refute it at one input. -/
def lawS6788BWholeWrong : ChangeSpec := { name := "lawS6788BWhole", fn := fun _ => fun
  | [d1, d2, d3, d4, d5, d6, d7, d8] => { results := [.lit (.bool false)], args := [d1, d2, d3, d4, d5, d6, d7, d8] }
  | _ => none }
def LawS6788BWholeWrongFalsely : Prop := lawS6788BWholeRow.holds Yba.pinned (OpenSpec.ofChange lawS6788BWholeWrong)

end Rows
end Go.Proofs.Ybulkejoc
