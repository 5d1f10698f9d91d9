/- The walk of 'LawS6786AHoldRelease' (function 4): true, whatever the input; new blocks alone. -/
import Derived.Test.YbulkejnaSmall
import Derived.WalkLawsBesides
import Derived.WalkSpells
namespace Go.Proofs.Ybulkejna
open Go.ChangeShapes Go.WideShapes Go.ChangeAt Go.RowKit

set_option maxHeartbeats 1000000 in
theorem hr_no (a1 a2 a3 a4 a5 a6 a7 a8 : Int) (w : World) :
    Calls Yba.prog 4 #[.bool false, .int .i64 a1, .int .i64 a2, .int .i64 a3, .int .i64 a4, .int .i64 a5, .int .i64 a6, .int .i64 a7, .int .u32 a8] w fun e w' => e = .returned (.bool true) ∧ Grown w w' := by
  go_enter Yba.func4, Yba.ntmps4
  go_wp2_with (first | (go_at_call 5; refine (build_any _ _ _ _ _ _ _ _ _).mono ?_; rintro e w' ⟨rfl, rfl⟩) | (go_at_call 8; refine (hold_no _ _).mono ?_; rintro e w' ⟨rfl, rfl⟩) | (go_at_call 6; refine (release_neg _ _ (by decide) _).mono ?_; rintro e w' ⟨rfl, rfl⟩))
  go_region_with (go_at_call 7; refine (read_any w.heap.size a1 a2 a3 a4 a5 a6 a7 a8 _ ?_ ?_ ?_ ?_ ?_ ?_ ?_ ?_).mono ?_; (iterate 8 (simp)); rintro e w2 ⟨rfl, rfl⟩)
  all_goals go_wp2
  all_goals go_ret
  all_goals exact ⟨rfl, by repeat (first | exact Grown.refl _ | apply Grown.drew | apply Grown.alloc)⟩

theorem wrap_back (x : Int) (h1 : -9223372036854775808 ≤ x) (h2 : x ≤ 9223372036854775807) : wrap64 (wrap64 (x + 1) - 1) = x := by
  simp only [wrap64]
  omega

set_option maxHeartbeats 1000000 in
theorem hr_up_pos (a1 a2 a3 a4 a5 a6 a7 a8 : Int) (hw : wrap64 (wrap64 (a2 + 1) - 1) = a2) (hs : a3 < wrap64 (a2 + 1)) (h0 : 0 ≤ a2) (w : World) :
    Calls Yba.prog 4 #[.bool true, .int .i64 a1, .int .i64 a2, .int .i64 a3, .int .i64 a4, .int .i64 a5, .int .i64 a6, .int .i64 a7, .int .u32 a8] w fun e w' => e = .returned (.bool true) ∧ Grown w w' := by
  go_enter Yba.func4, Yba.ntmps4
  go_wp2_with (first | (go_at_call 5; refine (build_any _ _ _ _ _ _ _ _ _).mono ?_; rintro e w' ⟨rfl, rfl⟩) | (go_at_call 8; refine (hold_up _ a2 a3 _ ?hc ?hd ?hf ?hg hs).mono ?_; rotate_left 4; rintro e w' ⟨rfl, rfl⟩) | (go_at_call 6; refine (release_pos _ _ (wrap64 (a2 + 1)) h0 _ ?hc2 ?hf2).mono ?_; rotate_left 2; rintro e w' ⟨rfl, rfl⟩))
  case hc => simp
  case hd => simp
  case hf => simp
  case hg => simp
  case hc2 => simp
  case hf2 => simp
  go_region_with (go_at_call 7; refine (read_any w.heap.size a1 a2 (wrap64 (a2 + 1)) a4 a5 a6 a7 a8 _ ?_ ?_ ?_ ?_ ?_ ?_ ?_ ?_).mono ?_; (iterate 8 (simp)); rintro e w2 ⟨rfl, rfl⟩)
  all_goals go_wp2
  all_goals go_ret
  all_goals exact ⟨rfl, by repeat (first | exact Grown.refl _ | apply Grown.drew | apply Grown.alloc)⟩

set_option maxHeartbeats 1000000 in
theorem hr_up_neg (a1 a2 a3 a4 a5 a6 a7 a8 : Int) (hw : wrap64 (wrap64 (a2 + 1) - 1) = a2) (hs : a3 < wrap64 (a2 + 1)) (h0 : a2 < 0) (w : World) :
    Calls Yba.prog 4 #[.bool true, .int .i64 a1, .int .i64 a2, .int .i64 a3, .int .i64 a4, .int .i64 a5, .int .i64 a6, .int .i64 a7, .int .u32 a8] w fun e w' => e = .returned (.bool true) ∧ Grown w w' := by
  go_enter Yba.func4, Yba.ntmps4
  go_wp2_with (first | (go_at_call 5; refine (build_any _ _ _ _ _ _ _ _ _).mono ?_; rintro e w' ⟨rfl, rfl⟩) | (go_at_call 8; refine (hold_up _ a2 a3 _ ?hc ?hd ?hf ?hg hs).mono ?_; rotate_left 4; rintro e w' ⟨rfl, rfl⟩) | (go_at_call 6; refine (release_neg _ _ h0 _).mono ?_; rintro e w' ⟨rfl, rfl⟩))
  case hc => simp
  case hd => simp
  case hf => simp
  case hg => simp
  go_region_with (go_at_call 7; refine (read_any w.heap.size a1 (wrap64 (a2 + 1)) (wrap64 (a2 + 1)) a4 a5 a6 a7 a8 _ ?_ ?_ ?_ ?_ ?_ ?_ ?_ ?_).mono ?_; (iterate 8 (simp)); rintro e w2 ⟨rfl, rfl⟩)
  all_goals go_wp2
  all_goals go_ret
  all_goals exact ⟨rfl, by repeat (first | exact Grown.refl _ | apply Grown.drew | apply Grown.alloc)⟩

set_option maxHeartbeats 1000000 in
theorem hr_same_pos (a1 a2 a3 a4 a5 a6 a7 a8 : Int) (hw : wrap64 (wrap64 (a2 + 1) - 1) = a2) (hs : wrap64 (a2 + 1) ≤ a3) (h0 : 0 ≤ a2) (w : World) :
    Calls Yba.prog 4 #[.bool true, .int .i64 a1, .int .i64 a2, .int .i64 a3, .int .i64 a4, .int .i64 a5, .int .i64 a6, .int .i64 a7, .int .u32 a8] w fun e w' => e = .returned (.bool true) ∧ Grown w w' := by
  go_enter Yba.func4, Yba.ntmps4
  go_wp2_with (first | (go_at_call 5; refine (build_any _ _ _ _ _ _ _ _ _).mono ?_; rintro e w' ⟨rfl, rfl⟩) | (go_at_call 8; refine (hold_same _ a2 a3 _ ?hc ?hd ?hf ?hg hs).mono ?_; rotate_left 4; rintro e w' ⟨rfl, rfl⟩) | (go_at_call 6; refine (release_pos _ _ (wrap64 (a2 + 1)) h0 _ ?hc2 ?hf2).mono ?_; rotate_left 2; rintro e w' ⟨rfl, rfl⟩))
  case hc => simp
  case hd => simp
  case hf => simp
  case hg => simp
  case hc2 => simp
  case hf2 => simp
  go_region_with (go_at_call 7; refine (read_any w.heap.size a1 a2 a3 a4 a5 a6 a7 a8 _ ?_ ?_ ?_ ?_ ?_ ?_ ?_ ?_).mono ?_; (iterate 8 (simp)); rintro e w2 ⟨rfl, rfl⟩)
  all_goals go_wp2
  all_goals go_ret
  all_goals exact ⟨rfl, by repeat (first | exact Grown.refl _ | apply Grown.drew | apply Grown.alloc)⟩

set_option maxHeartbeats 1000000 in
theorem hr_same_neg (a1 a2 a3 a4 a5 a6 a7 a8 : Int) (hw : wrap64 (wrap64 (a2 + 1) - 1) = a2) (hs : wrap64 (a2 + 1) ≤ a3) (h0 : a2 < 0) (w : World) :
    Calls Yba.prog 4 #[.bool true, .int .i64 a1, .int .i64 a2, .int .i64 a3, .int .i64 a4, .int .i64 a5, .int .i64 a6, .int .i64 a7, .int .u32 a8] w fun e w' => e = .returned (.bool true) ∧ Grown w w' := by
  go_enter Yba.func4, Yba.ntmps4
  go_wp2_with (first | (go_at_call 5; refine (build_any _ _ _ _ _ _ _ _ _).mono ?_; rintro e w' ⟨rfl, rfl⟩) | (go_at_call 8; refine (hold_same _ a2 a3 _ ?hc ?hd ?hf ?hg hs).mono ?_; rotate_left 4; rintro e w' ⟨rfl, rfl⟩) | (go_at_call 6; refine (release_neg _ _ h0 _).mono ?_; rintro e w' ⟨rfl, rfl⟩))
  case hc => simp
  case hd => simp
  case hf => simp
  case hg => simp
  go_region_with (go_at_call 7; refine (read_any w.heap.size a1 (wrap64 (a2 + 1)) a3 a4 a5 a6 a7 a8 _ ?_ ?_ ?_ ?_ ?_ ?_ ?_ ?_).mono ?_; (iterate 8 (simp)); rintro e w2 ⟨rfl, rfl⟩)
  all_goals go_wp2
  all_goals go_ret
  all_goals exact ⟨rfl, by repeat (first | exact Grown.refl _ | apply Grown.drew | apply Grown.alloc)⟩

theorem hr_any (a0 : Bool) (a1 a2 a3 a4 a5 a6 a7 a8 : Int) (h1 : -9223372036854775808 ≤ a2) (h2 : a2 ≤ 9223372036854775807) (w : World) :
    Calls Yba.prog 4 #[.bool a0, .int .i64 a1, .int .i64 a2, .int .i64 a3, .int .i64 a4, .int .i64 a5, .int .i64 a6, .int .i64 a7, .int .u32 a8] w fun e w' => e = .returned (.bool true) ∧ Grown w w' := by
  have hw := wrap_back a2 h1 h2
  cases a0
  · exact hr_no a1 a2 a3 a4 a5 a6 a7 a8 w
  · by_cases hs : a3 < wrap64 (a2 + 1)
    · by_cases h0 : 0 ≤ a2
      · exact hr_up_pos a1 a2 a3 a4 a5 a6 a7 a8 hw hs h0 w
      · exact hr_up_neg a1 a2 a3 a4 a5 a6 a7 a8 hw hs (by omega) w
    · by_cases h0 : 0 ≤ a2
      · exact hr_same_pos a1 a2 a3 a4 a5 a6 a7 a8 hw (by omega) h0 w
      · exact hr_same_neg a1 a2 a3 a4 a5 a6 a7 a8 hw (by omega) (by omega) w
end Go.Proofs.Ybulkejna
