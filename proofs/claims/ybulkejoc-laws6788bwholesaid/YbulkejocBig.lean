/- The law where a row is longer than 512: it returns true at once. -/
import Derived.Test.YbulkejocPre
namespace Go.Proofs.Ybulkejoc
open Go.ChangeShapes Go.WideShapes Go.ChangeAt Go.RowKit

set_option maxRecDepth 100000 in
set_option maxHeartbeats 4000000 in
theorem law_big (addr : ByteArray) (tok sst inc : Int) (MA RA : Option Addr) (nm mcap nr rcap : Nat) (use : Bool) (now : Int) (W : World) (h : 512 < nm ∨ 512 < nr) :
    Calls Yba.prog 3 #[.string addr, .int .u64 tok, .int .u8 sst, .int .u64 inc, .slice MA nm mcap, .slice RA nr rcap, .bool use, .int .i64 now] W fun e W' => e = .returned (.bool true) ∧ Below W.heap.size W W' := by
  by_cases h1 : 512 < nm
  · have hmI : (512 : Int) < (nm : Int) := by omega
    clear h
    go_enter Yba.func3, Yba.ntmps3
    go_wp2
    go_ret
    exact ⟨rfl, Below.refl _ _⟩
  · have hmI : ¬ (512 : Int) < (nm : Int) := by omega
    have hrI : (512 : Int) < (nr : Int) := by omega
    clear h
    go_enter Yba.func3, Yba.ntmps3
    go_wp2
    go_ret
    exact ⟨rfl, Below.refl _ _⟩
end Go.Proofs.Ybulkejoc
