/- The contracts of 'zzs6786abuild' (5), 'release' (6), 'hold' (8). -/
import Derived.Test.YbulkejnaRead
namespace Go.Proofs.Ybulkejna
open Go.ChangeShapes Go.WideShapes Go.ChangeAt Go.RowKit

theorem build_any (a1 a2 a3 a4 a5 a6 a7 a8 : Int) (w : World) :
    Calls Yba.prog 5 #[.int .i64 a1, .int .i64 a2, .int .i64 a3, .int .i64 a4, .int .i64 a5, .int .i64 a6, .int .i64 a7, .int .u32 a8] w fun e w' => e = .returned (.pointer (some ⟨w.heap.size, 0, none⟩)) ∧
      w' = w.alloc (.cells #[.pointer none, .pointer none, .nilIface, .map none, .map none, .int .i64 a1, .int .i64 a2, .int .i64 a3, .int .i64 a4, .int .i64 a5, .slice none 0 0, .int .i64 a6, .int .i64 a7, .int .u32 a8] 39) := by
  go_enter Yba.func5, Yba.ntmps5
  go_wp2
  go_ret
  exact ⟨rfl, rfl⟩
theorem release_pos (b : Nat) (h x : Int) (h0 : 0 ≤ h) (w : World) (hc : w.cell? ⟨b, 6, none⟩ = some (.int .i64 x)) (hf : w.frozen? ⟨b, 6, none⟩ = false) :
    Calls Yba.prog 6 #[.pointer (some ⟨b, 0, none⟩), .int .i64 h] w fun e w' => e = .returned (.tuple #[]) ∧ w' = w.setCell ⟨b, 6, none⟩ (.int .i64 (wrap64 (x - 1))) := by
  go_enter Yba.func6, Yba.ntmps6
  go_wp2
  go_end0
  exact ⟨rfl, rfl⟩
theorem release_neg (b : Nat) (h : Int) (h0 : h < 0) (w : World) :
    Calls Yba.prog 6 #[.pointer (some ⟨b, 0, none⟩), .int .i64 h] w fun e w' => e = .returned (.tuple #[]) ∧ w' = w := by
  go_enter Yba.func6, Yba.ntmps6
  go_wp2
  go_end0
  exact ⟨rfl, rfl⟩
theorem hold_no (b : Nat) (w : World) :
    Calls Yba.prog 8 #[.pointer (some ⟨b, 0, none⟩), .bool false] w fun e w' => e = .returned (.int .i64 (-1)) ∧ w' = w := by
  go_enter Yba.func8, Yba.ntmps8
  go_wp2
  go_ret
  exact ⟨rfl, rfl⟩
theorem hold_up (b : Nat) (x y : Int) (w : World) (hc : w.cell? ⟨b, 6, none⟩ = some (.int .i64 x)) (hd : w.cell? ⟨b, 7, none⟩ = some (.int .i64 y)) (hf : w.frozen? ⟨b, 6, none⟩ = false) (hg : w.frozen? ⟨b, 7, none⟩ = false) (h : y < wrap64 (x + 1)) :
    Calls Yba.prog 8 #[.pointer (some ⟨b, 0, none⟩), .bool true] w fun e w' => e = .returned (.int .i64 (wrap64 (wrap64 (x + 1) - 1))) ∧ w' = ((w.setCell ⟨b, 6, none⟩ (.int .i64 (wrap64 (x + 1)))).setCell ⟨b, 7, none⟩ (.int .i64 (wrap64 (x + 1)))).drew := by
  go_enter Yba.func8, Yba.ntmps8
  go_wp2
  go_region
  go_wp2
  go_ret
  exact ⟨rfl, rfl⟩
theorem hold_same (b : Nat) (x y : Int) (w : World) (hc : w.cell? ⟨b, 6, none⟩ = some (.int .i64 x)) (hd : w.cell? ⟨b, 7, none⟩ = some (.int .i64 y)) (hf : w.frozen? ⟨b, 6, none⟩ = false) (hg : w.frozen? ⟨b, 7, none⟩ = false) (h : wrap64 (x + 1) ≤ y) :
    Calls Yba.prog 8 #[.pointer (some ⟨b, 0, none⟩), .bool true] w fun e w' => e = .returned (.int .i64 (wrap64 (wrap64 (x + 1) - 1))) ∧ w' = ((w.setCell ⟨b, 6, none⟩ (.int .i64 (wrap64 (x + 1)))).setCell ⟨b, 7, none⟩ (.int .i64 y)).drew := by
  go_enter Yba.func8, Yba.ntmps8
  go_wp2
  go_region
  go_wp2
  go_ret
  exact ⟨rfl, rfl⟩
end Go.Proofs.Ybulkejna
