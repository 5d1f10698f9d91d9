/-
  NARROWER THAN 'FOR EVERY INPUT', by the rows' own cells (each row's printed sentence says how): LawS6789AWhole: laid · LawS6789BWhole: laid · LawS6789CWhole: laid.
  DERIVED. THE GIVEN ROWS OF THIS SEAT. 3 by the template 'for every input the law returns true; each argument reads behind the call as it read before'; 0 by the template 'total and deterministic' (their statements: YbulkejoqDoorTotals.lean).
  GIVEN WITH THE SEED: the statements are not yours to turn. If you find one false, say at which input.
  Laid BY PROGRAM, IN A SANDBOX (cutbox-rows.mjs): the forced cells as the released guide's own fill.sh prints them over the translation d6e895666e479d37… (all of the seat's roots in one cut). By AI agents, Wed Nov 11 2026. No macro, syntax, notation, axiom, sorry.
-/
import Derived.Test.YbulkejoqDoorChecked
import GoSem.PinnedTables
import GoSem.Claim
import GoSem.ClaimJoined
import GoSem.ClaimMapViews
import Derived.JoinedTies
import Derived.KernelRfl
namespace Go.Proofs.YbulkejoqDoor
/- THE CELL 'sum', in the pinned program and in every row, IS THE sha256 OF THE DUMP (.gsa) THAT YbulkejoqDoorProg.lean LOADS. Nothing in Lean hashes anything: it is a label: what it is worth is what the hold of that sum in a sandbox is worth. -/
noncomputable def Ybad.pinned : Pinned := { name := "ybulkejoqdoor", sum := "d6e895666e479d37e87a961c4956983a7e2b0e1e812095e50b471b5e9477c282", checked := Ybad.checked }
namespace Rows
def none {H : Type} : Left H := { results := [], args := [] }

/- WHAT THE LISTED PACKAGE-LEVEL VARIABLES READ AS WHEN THE CALL BEGINS. Each datum BY PROGRAM (the guide's laid-datum.mjs) off the statement by which the dump's own 'gosem.cut.vars' lays the variable. In a bare row this is a premise. The card (YbulkejoqDoorCards.lean) ties it to the program's text. -/
def laid_math_sin {H : Type} : DataW H := .agg [.lit (.float .f64 4460209587652500685), .lit (.float .f64 13716528389658582877), .lit (.float .f64 4523617212962785441), .lit (.float .f64 13774824197404483331), .lit (.float .f64 4575957461383575504), .lit (.float .f64 13818544856648471880)]
def laid_math_cos {H : Type} : DataW H := .agg [.lit (.float .f64 13666448263388469915), .lit (.float .f64 4477121864728985349), .lit (.float .f64 13732177093698800582), .lit (.float .f64 4537941361668146421), .lit (.float .f64 13787419979223748497), .lit (.float .f64 4586165620538955083)]
def laid_math_mPi4 {H : Type} : DataW H := .agg [.lit (.int .u64 1), .lit (.int .u64 5040379952546458195), .lit (.int .u64 17892431488136887169), .lit (.int .u64 13169980181085364355), .lit (.int .u64 18204331823439776451), .lit (.int .u64 7946843935494350272), .lit (.int .u64 905889640498799673), .lit (.int .u64 18175356263134875261), .lit (.int .u64 15061281708168349961), .lit (.int .u64 15220161563773041794), .lit (.int .u64 8296664548579374057), .lit (.int .u64 4109744767560208502), .lit (.int .u64 4607516669194743839), .lit (.int .u64 16023283104648321598), .lit (.int .u64 15739233654134936430), .lit (.int .u64 11424645774684705882), .lit (.int .u64 16883842788696515318), .lit (.int .u64 8795094592981902804), .lit (.int .u64 15561835991111744016), .lit (.int .u64 12395701187267450711)]
def laid_math_bits_deBruijn32tab {H : Type} : DataW H := .agg [.lit (.int .u8 0), .lit (.int .u8 1), .lit (.int .u8 28), .lit (.int .u8 2), .lit (.int .u8 29), .lit (.int .u8 14), .lit (.int .u8 24), .lit (.int .u8 3), .lit (.int .u8 30), .lit (.int .u8 22), .lit (.int .u8 20), .lit (.int .u8 15), .lit (.int .u8 25), .lit (.int .u8 17), .lit (.int .u8 4), .lit (.int .u8 8), .lit (.int .u8 31), .lit (.int .u8 27), .lit (.int .u8 13), .lit (.int .u8 23), .lit (.int .u8 21), .lit (.int .u8 19), .lit (.int .u8 16), .lit (.int .u8 7), .lit (.int .u8 26), .lit (.int .u8 12), .lit (.int .u8 18), .lit (.int .u8 6), .lit (.int .u8 11), .lit (.int .u8 5), .lit (.int .u8 10), .lit (.int .u8 9)]
def laid_math_bits_deBruijn64tab {H : Type} : DataW H := .agg [.lit (.int .u8 0), .lit (.int .u8 1), .lit (.int .u8 56), .lit (.int .u8 2), .lit (.int .u8 57), .lit (.int .u8 49), .lit (.int .u8 28), .lit (.int .u8 3), .lit (.int .u8 61), .lit (.int .u8 58), .lit (.int .u8 42), .lit (.int .u8 50), .lit (.int .u8 38), .lit (.int .u8 29), .lit (.int .u8 17), .lit (.int .u8 4), .lit (.int .u8 62), .lit (.int .u8 47), .lit (.int .u8 59), .lit (.int .u8 36), .lit (.int .u8 45), .lit (.int .u8 43), .lit (.int .u8 51), .lit (.int .u8 22), .lit (.int .u8 53), .lit (.int .u8 39), .lit (.int .u8 33), .lit (.int .u8 30), .lit (.int .u8 24), .lit (.int .u8 18), .lit (.int .u8 12), .lit (.int .u8 5), .lit (.int .u8 63), .lit (.int .u8 55), .lit (.int .u8 48), .lit (.int .u8 27), .lit (.int .u8 60), .lit (.int .u8 41), .lit (.int .u8 37), .lit (.int .u8 16), .lit (.int .u8 46), .lit (.int .u8 35), .lit (.int .u8 44), .lit (.int .u8 21), .lit (.int .u8 52), .lit (.int .u8 32), .lit (.int .u8 23), .lit (.int .u8 11), .lit (.int .u8 54), .lit (.int .u8 26), .lit (.int .u8 40), .lit (.int .u8 15), .lit (.int .u8 34), .lit (.int .u8 20), .lit (.int .u8 31), .lit (.int .u8 10), .lit (.int .u8 25), .lit (.int .u8 14), .lit (.int .u8 19), .lit (.int .u8 9), .lit (.int .u8 13), .lit (.int .u8 8), .lit (.int .u8 7), .lit (.int .u8 6)]
def laid_internal_strconv_optimize {H : Type} : DataW H := .lit (.bool true)
def laid_internal_strconv_uint64pow10 {H : Type} : DataW H := .agg [.lit (.int .u64 1), .lit (.int .u64 10), .lit (.int .u64 100), .lit (.int .u64 1000), .lit (.int .u64 10000), .lit (.int .u64 100000), .lit (.int .u64 1000000), .lit (.int .u64 10000000), .lit (.int .u64 100000000), .lit (.int .u64 1000000000), .lit (.int .u64 10000000000), .lit (.int .u64 100000000000), .lit (.int .u64 1000000000000), .lit (.int .u64 10000000000000), .lit (.int .u64 100000000000000), .lit (.int .u64 1000000000000000), .lit (.int .u64 10000000000000000), .lit (.int .u64 100000000000000000), .lit (.int .u64 1000000000000000000), .lit (.int .u64 10000000000000000000)]
/-- One of Go's own tables, pinned by name: the form's constant. -/
def laid_internal_strconv_leftcheats : DataW Unit := Go.Pinned.leftcheats
/-- One of Go's own tables, pinned by name: the form's constant. -/
def laid_internal_strconv_pow10Tab : DataW Unit := Go.Pinned.pow10Tab
def laid_example_com_almucantar_almucantar_twilights {H : Type} : DataW H := .slice [.agg [.lit (.string [99, 105, 118, 105, 108]), .lit (.float .f64 13841813454723219456)], .agg [.lit (.string [110, 97, 117, 116, 105, 99, 97, 108]), .lit (.float .f64 13846317054350589952)], .agg [.lit (.string [97, 115, 116, 114, 111, 110, 111, 109, 105, 99, 97, 108]), .lit (.float .f64 13849131804117696512)]] []

/-- 'almucantar.LawS6789AWhole': WHATEVER THE INPUT: true; the input reads as it did. -/
def lawS6789AWholeSpec : ChangeSpec := { name := "lawS6789AWhole", fn := fun _ => fun
  | [d1, d2, d3] => { results := [.lit (.bool true)], args := [d1, d2, d3] }
  | _ => none }
def lawS6789AWholeRow : OpenClaim := { program := "ybulkejoqdoor", sum := "d6e895666e479d37e87a961c4956983a7e2b0e1e812095e50b471b5e9477c282", func := "example.com/almucantar/almucantar.LawS6789AWhole", spec := "lawS6789AWhole", inPlace := ["math.Float64bits", "math.Float64frombits", "math/bits.Add64", "math.archHypot", "math.sqrt"], named := ["math._cos", "math._sin", "math.mPi4"], apart := false, laid := [("math._sin", laid_math_sin), ("math._cos", laid_math_cos), ("math.mPi4", laid_math_mPi4)] }
def LawS6789AWholeSaid : Prop := lawS6789AWholeRow.holds Ybad.pinned (OpenSpec.ofChange lawS6789AWholeSpec)

/-- ITS FALSE NEIGHBOUR: 'it returns false'. Refute it at one input. -/
def lawS6789AWholeWrong : ChangeSpec := { name := "lawS6789AWhole", fn := fun _ => fun
  | [d1, d2, d3] => { results := [.lit (.bool false)], args := [d1, d2, d3] }
  | _ => none }
def LawS6789AWholeWrongFalsely : Prop := lawS6789AWholeRow.holds Ybad.pinned (OpenSpec.ofChange lawS6789AWholeWrong)

/-- 'almucantar.LawS6789BWhole': WHATEVER THE INPUT: true; the input reads as it did. -/
def lawS6789BWholeSpec : ChangeSpec := { name := "lawS6789BWhole", fn := fun _ => fun
  | [d] => { results := [.lit (.bool true)], args := [d] }
  | _ => none }
def lawS6789BWholeRow : OpenClaim := { program := "ybulkejoqdoor", sum := "d6e895666e479d37e87a961c4956983a7e2b0e1e812095e50b471b5e9477c282", func := "example.com/almucantar/almucantar.LawS6789BWhole", spec := "lawS6789BWhole", inPlace := ["math.Float64bits", "math.Float64frombits", "internal/strconv.float32bits", "internal/strconv.float64bits"], named := ["internal/strconv.optimize", "internal/strconv.uint64pow10", "math/bits.deBruijn32tab", "math/bits.deBruijn64tab", "internal/strconv.pow10Tab", "internal/strconv.leftcheats"], apart := false, laid := [("math/bits.deBruijn32tab", laid_math_bits_deBruijn32tab), ("math/bits.deBruijn64tab", laid_math_bits_deBruijn64tab), ("internal/strconv.optimize", laid_internal_strconv_optimize), ("internal/strconv.uint64pow10", laid_internal_strconv_uint64pow10), ("internal/strconv.leftcheats", laid_internal_strconv_leftcheats), ("internal/strconv.pow10Tab", laid_internal_strconv_pow10Tab)] }
def LawS6789BWholeSaid : Prop := lawS6789BWholeRow.holds Ybad.pinned (OpenSpec.ofChange lawS6789BWholeSpec)

/-- ITS FALSE NEIGHBOUR: 'it returns false'. Refute it at one input. -/
def lawS6789BWholeWrong : ChangeSpec := { name := "lawS6789BWhole", fn := fun _ => fun
  | [d] => { results := [.lit (.bool false)], args := [d] }
  | _ => none }
def LawS6789BWholeWrongFalsely : Prop := lawS6789BWholeRow.holds Ybad.pinned (OpenSpec.ofChange lawS6789BWholeWrong)

/-- 'almucantar.LawS6789CWhole': WHATEVER THE INPUT: true; the input reads as it did. -/
def lawS6789CWholeSpec : ChangeSpec := { name := "lawS6789CWhole", vars := ["example.com/almucantar/almucantar.twilights"], fn := fun _ => fun
  | [d1, d2, g1] => { results := [.lit (.bool true)], args := [d1, d2], vars := [g1] }
  | _ => none }
def lawS6789CWholeRow : OpenClaim := { program := "ybulkejoqdoor", sum := "d6e895666e479d37e87a961c4956983a7e2b0e1e812095e50b471b5e9477c282", func := "example.com/almucantar/almucantar.LawS6789CWhole", spec := "lawS6789CWhole", inPlace := ["math.Float64frombits"], named := ["example.com/almucantar/almucantar.twilights"], apart := false, laid := [("example.com/almucantar/almucantar.twilights", laid_example_com_almucantar_almucantar_twilights)] }
def LawS6789CWholeSaid : Prop := lawS6789CWholeRow.holds Ybad.pinned (OpenSpec.ofChange lawS6789CWholeSpec)

/-- ITS FALSE NEIGHBOUR: 'it returns false'. Refute it at one input. -/
def lawS6789CWholeWrong : ChangeSpec := { name := "lawS6789CWhole", vars := ["example.com/almucantar/almucantar.twilights"], fn := fun _ => fun
  | [d1, d2, g1] => { results := [.lit (.bool false)], args := [d1, d2], vars := [g1] }
  | _ => none }
def LawS6789CWholeWrongFalsely : Prop := lawS6789CWholeRow.holds Ybad.pinned (OpenSpec.ofChange lawS6789CWholeWrong)

end Rows
end Go.Proofs.YbulkejoqDoor
