/- The law where a row is longer than 512: it returns true at once. -/
import Derived.Test.YbulkejpeDoorLm
namespace Go.Proofs.YbulkejpeDoor
open Go Go.ChangeShapes Go.WideShapes Go.ChangeAt Go.RowKit

set_option maxRecDepth 100000 in
set_option maxHeartbeats 4000000 in
theorem law_big (LA WA : Option Addr) (n lcap nw wcap : Nat) (rd cm ep mep lvl lm : Int) (W : World) (h : 512 < n ∨ 512 < nw) :
    Calls Ybad.prog 3 #[.slice LA n lcap, .int .u16 rd, .int .u16 cm, .int .u8 ep, .int .u8 mep, .int .u8 lvl, .slice WA nw wcap, .int .u16 lm] W fun e' W' => e' = .returned (.bool true) ∧ Below W.heap.size W W' := by
  by_cases h1 : 512 < n
  · have hmI : (512 : Int) < (n : Int) := by omega
    clear h
    go_enter Ybad.func3, Ybad.ntmps3
    go_wp2
    go_ret
    exact ⟨rfl, Below.refl _ _⟩
  · have hmI : ¬ (512 : Int) < (n : Int) := by omega
    have hrI : (512 : Int) < (nw : Int) := by omega
    clear h
    go_enter Ybad.func3, Ybad.ntmps3
    go_wp2
    go_ret
    exact ⟨rfl, Below.refl _ _⟩
end Go.Proofs.YbulkejpeDoor
