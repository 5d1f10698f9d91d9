/- The walk of 'LawS6786AWhole' (function 3): true, whatever the input; new blocks alone. -/
import Derived.Test.YbulkejnaSmall
import Derived.WalkLawsBesides
import Derived.WalkSpells
namespace Go.Proofs.Ybulkejna
open Go.ChangeShapes Go.WideShapes Go.ChangeAt Go.RowKit

set_option maxHeartbeats 1000000 in
theorem whole_pos (a0 a1 a2 a3 a4 a5 a6 a7 a8 : Int) (h0 : 0 ≤ a0) (w : World) :
    Calls Yba.prog 3 #[.int .i64 a0, .int .i64 a1, .int .i64 a2, .int .i64 a3, .int .i64 a4, .int .i64 a5, .int .i64 a6, .int .i64 a7, .int .u32 a8] w fun e w' => e = .returned (.bool true) ∧ Grown w w' := by
  have q35 : ∀ w : World, (binOp .eql 35 (.slice none 0 0) (.slice none 0 0)).run Yba.prog w = .ok (.bool true) w := fun w => Lib.run_eql_slice_nil w _ _ none 0 0 0 0 Yba.underlying35
  have q33 : ∀ w : World, (binOp .eql 33 (.map none) (.map none)).run Yba.prog w = .ok (.bool true) w := fun w => run_eql_map_nil w _ _ _ none Yba.underlying33
  have q34 : ∀ w : World, (binOp .eql 34 (.map none) (.map none)).run Yba.prog w = .ok (.bool true) w := fun w => run_eql_map_nil w _ _ _ none Yba.underlying34
  go_enter Yba.func3, Yba.ntmps3
  go_wp2_with (first | (go_at_call 5; refine (build_any _ _ _ _ _ _ _ _ _).mono ?_; rintro e w' ⟨rfl, rfl⟩) | (go_at_call 6; refine (release_pos _ _ a2 h0 _ ?hc ?hf).mono ?_; rotate_left 2; rintro e w' ⟨rfl, rfl⟩))
  case hc => simp
  case hf => simp
  go_region_with (go_at_call 7; refine (read_any w.heap.size a1 (wrap64 (a2 - 1)) a3 a4 a5 a6 a7 a8 _ ?_ ?_ ?_ ?_ ?_ ?_ ?_ ?_).mono ?_; (iterate 8 (simp)); rintro e w2 ⟨rfl, rfl⟩)
  all_goals go_wp2
  all_goals go_ret
  all_goals exact ⟨rfl, by repeat (first | exact Grown.refl _ | apply Grown.drew | apply Grown.alloc)⟩

set_option maxHeartbeats 1000000 in
theorem whole_neg (a0 a1 a2 a3 a4 a5 a6 a7 a8 : Int) (h0 : a0 < 0) (w : World) :
    Calls Yba.prog 3 #[.int .i64 a0, .int .i64 a1, .int .i64 a2, .int .i64 a3, .int .i64 a4, .int .i64 a5, .int .i64 a6, .int .i64 a7, .int .u32 a8] w fun e w' => e = .returned (.bool true) ∧ Grown w w' := by
  have q35 : ∀ w : World, (binOp .eql 35 (.slice none 0 0) (.slice none 0 0)).run Yba.prog w = .ok (.bool true) w := fun w => Lib.run_eql_slice_nil w _ _ none 0 0 0 0 Yba.underlying35
  have q33 : ∀ w : World, (binOp .eql 33 (.map none) (.map none)).run Yba.prog w = .ok (.bool true) w := fun w => run_eql_map_nil w _ _ _ none Yba.underlying33
  have q34 : ∀ w : World, (binOp .eql 34 (.map none) (.map none)).run Yba.prog w = .ok (.bool true) w := fun w => run_eql_map_nil w _ _ _ none Yba.underlying34
  go_enter Yba.func3, Yba.ntmps3
  go_wp2_with (first | (go_at_call 5; refine (build_any _ _ _ _ _ _ _ _ _).mono ?_; rintro e w' ⟨rfl, rfl⟩) | (go_at_call 6; refine (release_neg _ _ h0 _).mono ?_; rintro e w' ⟨rfl, rfl⟩))
  go_region_with (go_at_call 7; refine (read_any w.heap.size a1 a2 a3 a4 a5 a6 a7 a8 _ ?_ ?_ ?_ ?_ ?_ ?_ ?_ ?_).mono ?_; (iterate 8 (simp)); rintro e w2 ⟨rfl, rfl⟩)
  all_goals go_wp2
  all_goals go_ret
  all_goals exact ⟨rfl, by repeat (first | exact Grown.refl _ | apply Grown.drew | apply Grown.alloc)⟩

theorem whole_any (a0 a1 a2 a3 a4 a5 a6 a7 a8 : Int) (w : World) :
    Calls Yba.prog 3 #[.int .i64 a0, .int .i64 a1, .int .i64 a2, .int .i64 a3, .int .i64 a4, .int .i64 a5, .int .i64 a6, .int .i64 a7, .int .u32 a8] w fun e w' => e = .returned (.bool true) ∧ Grown w w' := by
  by_cases h0 : 0 ≤ a0
  · exact whole_pos a0 a1 a2 a3 a4 a5 a6 a7 a8 h0 w
  · exact whole_neg a0 a1 a2 a3 a4 a5 a6 a7 a8 (by omega) w
end Go.Proofs.Ybulkejna
