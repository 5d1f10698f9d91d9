/- cmp.Compare[int] (27), the comparison of two rumours (26), one exchange in the row. -/
import Derived.Test.YbulkejocRow
import Derived.WalkLawsBesides
import Derived.WalkSpells
namespace Go.Proofs.Ybulkejoc
open Go.ChangeShapes Go.WideShapes Go.ChangeAt Go.RowKit

def cmpI (x y : Int) : Int := if x < y then -1 else if y < x then 1 else 0
theorem cmpI_neg (x y : Int) : cmpI x y < 0 ↔ x < y := by unfold cmpI; split <;> (try split) <;> omega

theorem ret_int {k : IntKind} {a b : Int} (h : a = b) : Ending.returned (.int k a) = .returned (.int k b) := by rw [h]

theorem compare_any (x y : Int) (w : World) : Calls Yba.prog 27 #[.int .i64 x, .int .i64 y] w fun e w' => e = .returned (.int .i64 (cmpI x y)) ∧ w' = w := by
  go_enter Yba.func27, Yba.ntmps27
  go_wp2
  all_goals go_ret
  all_goals refine ⟨ret_int ?_, rfl⟩
  all_goals (unfold cmpI; first | rw [if_pos ‹_›] | (rw [if_neg (by omega), if_pos ‹_›]) | (rw [if_neg (by omega), if_neg (by omega)]))

/-- The comparison that piggyback hands to the sort: by 'sent'. -/
theorem less_any (p q : Nat) (x y : Int) (w : World) (hp : w.cell? ⟨p, 4, none⟩ = some (.int .i64 x)) (hq : w.cell? ⟨q, 4, none⟩ = some (.int .i64 y)) :
    Calls Yba.prog 26 #[.pointer (some ⟨p, 0, none⟩), .pointer (some ⟨q, 0, none⟩)] w fun e w' => e = .returned (.int .i64 (cmpI x y)) ∧ ∃ n, w' = w.drewN n := by
  go_enter Yba.func26, Yba.ntmps26
  go_wp2
  go_quiet ((go_at_call 27; exact Calls.quiet_of_same (compare_any _ _ _)))
  go_wp2
  go_ret
  exact ⟨rfl, _, rfl⟩
end Go.Proofs.Ybulkejoc
