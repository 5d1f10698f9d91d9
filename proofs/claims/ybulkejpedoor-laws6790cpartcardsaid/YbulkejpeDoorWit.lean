/- The witness: the settled world with the listed variables laid as the row lists them. -/
import Derived.Test.YbulkejpeDoorRows
import Derived.Test.YbulkejpeDoorPost
import Derived.LaidMore
import Derived.Lay
namespace Go.Proofs.YbulkejpeDoor
open Go Go.ChangeShapes Go.WideShapes Go.ChangeAt Go.RowKit
set_option maxRecDepth 100000
abbrev wa : Array Value := #[.slice none 0 0, .int .u16 0, .int .u16 0, .int .u8 0, .int .u8 0, .int .u8 0, .slice none 0 0, .int .u16 0]
theorem wit_zip (os : Os) : ((World.laidAll Ybad.prog os Rows.lawS6790CPartRow.laid).forCall (fun _ _ => 0) ⟨#[], wa, []⟩).variablesZipB Ybad.prog = true := by kernel_rfl
theorem wit_rest (os : Os) : (((World.laidAll Ybad.prog os Rows.lawS6790CPartRow.laid).forCall (fun _ _ => 0) ⟨#[], wa, []⟩).heap.toList.drop Ybad.prog.globals.size).take ((begin Ybad.prog (fun _ _ => 0) default).world.heap.size - Ybad.prog.globals.size) =
      (begin Ybad.prog (fun _ _ => 0) default).world.heap.toList.drop Ybad.prog.globals.size := by kernel_rfl
theorem wit_ok (os : Os) : Input.okWideB Ybad.prog ((World.laidAll Ybad.prog os Rows.lawS6790CPartRow.laid).forCall (fun _ _ => 0) ⟨#[], wa, []⟩) 3 ⟨#[], wa, []⟩ = true := by kernel_rfl
theorem wit_pre {H : Type} (enc : TypeId × Value → H) (os : Os) : Rows.lawS6790CPartSpec.preB enc Ybad.prog Ybad.f3 [] false ((World.laidAll Ybad.prog os Rows.lawS6790CPartRow.laid).forCall (fun _ _ => 0) ⟨#[], wa, []⟩).memory wa 8 = true := by kernel_rfl
theorem wit_sized {H : Type} (enc : TypeId × Value → H) (os : Os) : Rows.lawS6790CPartSpec.sizedB enc Ybad.prog Ybad.f3 false ((World.laidAll Ybad.prog os Rows.lawS6790CPartRow.laid).forCall (fun _ _ => 0) ⟨#[], wa, []⟩).memory wa 8 = true := by kernel_rfl
theorem wit_met (os : Os) : laidMetH Ybad.prog Rows.lawS6790CPartRow.laid ((World.laidAll Ybad.prog os Rows.lawS6790CPartRow.laid).forCall (fun _ _ => 0) ⟨#[], wa, []⟩).memory := by
  rw [MakeChecks.laidMetH_plain _ _ _ (by kernel_rfl)]
  exact laidMet_laidAll wa (by kernel_rfl) (by kernel_rfl)
end Go.Proofs.YbulkejpeDoor
