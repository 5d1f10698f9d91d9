/- Small functions: the names' makers (4, 5), CanSucceed (16), sameBuffer (26), isDecodedWrites (21), nextChangedFrom (15). -/
import Derived.Test.YbulkejpeDoorOwn
import Derived.Test.YbulkejpeDoorProg
namespace Go.Proofs.YbulkejpeDoor
open Go Go.ChangeShapes Go.WideShapes Go.ChangeAt Go.RowKit

def kF (i : Int) : ByteArray := if i = 0 then ⟨#[107, 49]⟩ else if i = 1 then ⟨#[107, 50]⟩ else ⟨#[107, 51]⟩
def vF (i : Int) : ByteArray := if i = 0 then ⟨#[118, 49]⟩ else if i = 1 then ⟨#[118, 50]⟩ else ⟨#[118, 51]⟩
theorem ck_any (i : Int) (w : World) : Calls Ybad.prog 4 #[.int .i64 i] w fun e w' => e = .returned (.string (kF i)) ∧ w' = w := by
  unfold kF
  by_cases h0 : i = 0
  · subst h0
    go_enter Ybad.func4, Ybad.ntmps4
    go_wp2
    go_ret
    exact ⟨rfl, rfl⟩
  · by_cases h1 : i = 1
    · subst h1
      go_enter Ybad.func4, Ybad.ntmps4
      go_wp2
      go_ret
      exact ⟨rfl, rfl⟩
    · rw [if_neg h0, if_neg h1]
      go_enter Ybad.func4, Ybad.ntmps4
      go_wp2
      go_ret
      exact ⟨rfl, rfl⟩
theorem cv_any (i : Int) (w : World) : Calls Ybad.prog 5 #[.int .i64 i] w fun e w' => e = .returned (.string (vF i)) ∧ w' = w := by
  unfold vF
  by_cases h0 : i = 0
  · subst h0
    go_enter Ybad.func5, Ybad.ntmps5
    go_wp2
    go_ret
    exact ⟨rfl, rfl⟩
  · by_cases h1 : i = 1
    · subst h1
      go_enter Ybad.func5, Ybad.ntmps5
      go_wp2
      go_ret
      exact ⟨rfl, rfl⟩
    · rw [if_neg h0, if_neg h1]
      go_enter Ybad.func5, Ybad.ntmps5
      go_wp2
      go_ret
      exact ⟨rfl, rfl⟩
end Go.Proofs.YbulkejpeDoor
