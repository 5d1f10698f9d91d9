/- The contract of 'zzs6786aread' (function 7): it reads the eight plain fields of the machine at block b. -/
import Derived.Test.YbulkejnaProg
import Derived.WalkKit
import Derived.ProofKit
import Derived.Deep.RegionHeld
namespace Go.Proofs.Ybulkejna
open Go.ChangeShapes Go.WideShapes Go.ChangeAt Go.RowKit

set_option maxHeartbeats 1000000 in
theorem read_any (b : Nat) (x5 x6 x7 x8 x9 y1 y2 y3 : Int) (w : World)
    (h5 : w.cell? ⟨b, 5, none⟩ = some (.int .i64 x5)) (h6 : w.cell? ⟨b, 6, none⟩ = some (.int .i64 x6)) (h7 : w.cell? ⟨b, 7, none⟩ = some (.int .i64 x7))
    (h8 : w.cell? ⟨b, 8, none⟩ = some (.int .i64 x8)) (h9 : w.cell? ⟨b, 9, none⟩ = some (.int .i64 x9))
    (k1 : w.cell? ⟨b, 11, none⟩ = some (.int .i64 y1)) (k2 : w.cell? ⟨b, 12, none⟩ = some (.int .i64 y2)) (k3 : w.cell? ⟨b, 13, none⟩ = some (.int .u32 y3)) :
    Calls Yba.prog 7 #[.pointer (some ⟨b, 0, none⟩)] w fun e w' => e = .returned (.agg #[.int .i64 x5, .int .i64 x6, .int .i64 x7, .int .i64 x8, .int .i64 x9, .int .i64 y1, .int .i64 y2, .int .u32 y3]) ∧ w' = (w.alloc (.cells #[.int .i64 x5, .int .i64 x6, .int .i64 x7, .int .i64 x8, .int .i64 x9, .int .i64 y1, .int .i64 y2, .int .u32 y3] 26)).drew := by
  go_enter Yba.func7, Yba.ntmps7
  go_wp2
  go_region_held (fun w' => w'.cell? ⟨b, 5, none⟩ = some (.int .i64 x5) ∧ w'.cell? ⟨b, 6, none⟩ = some (.int .i64 x6) ∧ w'.cell? ⟨b, 7, none⟩ = some (.int .i64 x7) ∧ w'.cell? ⟨b, 8, none⟩ = some (.int .i64 x8) ∧ w'.cell? ⟨b, 9, none⟩ = some (.int .i64 x9) ∧ w'.cell? ⟨b, 11, none⟩ = some (.int .i64 y1) ∧ w'.cell? ⟨b, 12, none⟩ = some (.int .i64 y2) ∧ w'.cell? ⟨b, 13, none⟩ = some (.int .u32 y3)) (go_keep) (fail)
  go_wp2
  refine bodyPost_ret (v := .agg #[.int .i64 x5, .int .i64 x6, .int .i64 x7, .int .i64 x8, .int .i64 x9, .int .i64 y1, .int .i64 y2, .int .u32 y3]) (by simp [results, Yba.results7, go_sem]) rfl ⟨rfl, rfl⟩
end Go.Proofs.Ybulkejna
