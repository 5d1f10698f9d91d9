/-
  No cell of these rows narrows 'for every input' (looked for: loops, veiled, ifaces, maps, wideKeys, modest, calm, conditions, laid).
  DERIVED. THE GIVEN ROWS OF THIS SEAT. 2 by the template 'for every input the law returns true; each argument reads behind the call as it read before'; 0 by the template 'total and deterministic' (their statements: YbulkejpeTotals.lean).
  GIVEN WITH THE SEED: the statements are not yours to turn. If you find one false, say at which input.
  Laid BY PROGRAM, IN A SANDBOX (cutbox-rows.mjs): the forced cells as the released guide's own fill.sh prints them over the translation 469604deebb45a64… (all of the seat's roots in one cut). By AI agents, Wed Nov 11 2026. No macro, syntax, notation, axiom, sorry.
-/
import Derived.Test.YbulkejpeChecked
import GoSem.Claim
import GoSem.ClaimJoined
import GoSem.ClaimMapViews
import Derived.JoinedTies
import Derived.KernelRfl
namespace Go.Proofs.Ybulkejpe
/- THE CELL 'sum', in the pinned program and in every row, IS THE sha256 OF THE DUMP (.gsa) THAT YbulkejpeProg.lean LOADS. Nothing in Lean hashes anything: it is a label: what it is worth is what the hold of that sum in a sandbox is worth. -/
noncomputable def Yba.pinned : Pinned := { name := "ybulkejpe", sum := "469604deebb45a64be431ca5a6a29cba1fe4e9f4cc5aec15833a5f3a560c87c3", checked := Yba.checked }
namespace Rows
def none {H : Type} : Left H := { results := [], args := [] }

/-- 'verify.LawS6790AWhole': WHATEVER THE INPUT: true; the input reads as it did. -/
def lawS6790AWholeSpec : ChangeSpec := { name := "lawS6790AWhole", fn := fun _ => fun
  | [d1, d2, d3, d4, d5, d6, d7] => { results := [.lit (.bool true)], args := [d1, d2, d3, d4, d5, d6, d7] }
  | _ => none }
def lawS6790AWholeRow : OpenClaim := { program := "ybulkejpe", sum := "469604deebb45a64be431ca5a6a29cba1fe4e9f4cc5aec15833a5f3a560c87c3", func := "example.com/tideline/tideline/verify.LawS6790AWhole", spec := "lawS6790AWhole", apart := false }
def LawS6790AWholeSaid : Prop := lawS6790AWholeRow.holds Yba.pinned (OpenSpec.ofChange lawS6790AWholeSpec)

/-- ITS FALSE NEIGHBOUR: 'it returns false'. Refute it at one input. -/
def lawS6790AWholeWrong : ChangeSpec := { name := "lawS6790AWhole", fn := fun _ => fun
  | [d1, d2, d3, d4, d5, d6, d7] => { results := [.lit (.bool false)], args := [d1, d2, d3, d4, d5, d6, d7] }
  | _ => none }
def LawS6790AWholeWrongFalsely : Prop := lawS6790AWholeRow.holds Yba.pinned (OpenSpec.ofChange lawS6790AWholeWrong)

/-- 'check.LawS6790BWhole': WHATEVER THE INPUT: true; the input reads as it did. -/
def lawS6790BWholeSpec : ChangeSpec := { name := "lawS6790BWhole", fn := fun _ => fun
  | [d1, d2, d3, d4, d5, d6, d7] => { results := [.lit (.bool true)], args := [d1, d2, d3, d4, d5, d6, d7] }
  | _ => none }
def lawS6790BWholeRow : OpenClaim := { program := "ybulkejpe", sum := "469604deebb45a64be431ca5a6a29cba1fe4e9f4cc5aec15833a5f3a560c87c3", func := "example.com/tideline/tideline/check.LawS6790BWhole", spec := "lawS6790BWhole", apart := false }
def LawS6790BWholeSaid : Prop := lawS6790BWholeRow.holds Yba.pinned (OpenSpec.ofChange lawS6790BWholeSpec)

/-- ITS FALSE NEIGHBOUR: 'it returns false'. Refute it at one input. -/
def lawS6790BWholeWrong : ChangeSpec := { name := "lawS6790BWhole", fn := fun _ => fun
  | [d1, d2, d3, d4, d5, d6, d7] => { results := [.lit (.bool false)], args := [d1, d2, d3, d4, d5, d6, d7] }
  | _ => none }
def LawS6790BWholeWrongFalsely : Prop := lawS6790BWholeRow.holds Yba.pinned (OpenSpec.ofChange lawS6790BWholeWrong)

end Rows
end Go.Proofs.Ybulkejpe
