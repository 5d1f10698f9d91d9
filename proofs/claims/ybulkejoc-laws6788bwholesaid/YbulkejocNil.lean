/- No rumours at all (a nil slice): the sort (34, 31, 25), piggyback (21). -/
import Derived.Test.YbulkejocPig
namespace Go.Proofs.Ybulkejoc
open Go.ChangeShapes Go.WideShapes Go.ChangeAt Go.RowKit

set_option maxRecDepth 100000 in
theorem stable_nil (w : World) : Calls Yba.prog 31 #[.slice none 0 0, .int .i64 0, .func (.func 26) #[] #[]] w fun e w' => e = .returned (.tuple #[]) ∧ w' = w := by
  go_enter Yba.func31, Yba.ntmps31
  go_wp2
  go_rounds 1
  go_rounds 1
  go_rounds 1
  go_end0
  exact ⟨rfl, rfl⟩
theorem sortStable_nil (w : World) : Calls Yba.prog 25 #[.slice none 0 0, .func (.func 26) #[] #[]] w fun e w' => e = .returned (.tuple #[]) ∧ w' = w := by
  go_enter Yba.func25, Yba.ntmps25
  go_wp2_with (go_at_call 31; refine (stable_nil _).mono ?_; rintro e w1 ⟨rfl, rfl⟩)
  go_end0
  exact ⟨rfl, rfl⟩

set_option maxRecDepth 100000 in
set_option maxHeartbeats 2000000 in
theorem piggy_nil (w : World) (nb mb mp : Nat) (es : Array MapEntry) (clock : Nat) (room : Int)
    (hmp : w.cell? ⟨nb, 15, none⟩ = some (.map (some mp))) (hob : w.heap[mp]? = some (.map es clock)) (hfew : es.size ≤ 100000)
    (hr : w.cell? ⟨nb, 24, none⟩ = some (.slice none 0 0)) (hf : w.frozen? ⟨nb, 24, none⟩ = false) :
    Calls Yba.prog 21 #[.pointer (some ⟨nb, 0, none⟩), .pointer (some ⟨mb, 0, none⟩), .int .i64 room] w fun e w' => e = .returned (.tuple #[]) ∧ w' = w.setCell ⟨nb, 24, none⟩ (.slice none 0 0) := by
  obtain ⟨L, hL⟩ : ∃ L : Nat, Lib.bitLen (es.size + 1) = L := ⟨_, rfl⟩
  have hlenb := bitLen_bd (es.size + 1) (by omega)
  rw [hL] at hlenb
  have hlen : ∀ W, Calls Yba.prog 6 #[.int .u64 ((es.size : Int) + 1)] W fun e w' => e = .returned (.int .i64 L) ∧ w' = W := by
    intro W
    have := Yba.bits_Len ((es.size : Int) + 1) W (by omega) (by omega)
    rw [show ((es.size : Int) + 1).toNat = es.size + 1 by omega, hL] at this
    exact this
  clear hL
  have eob := run_len_map (P := Yba.prog) (w := w) 39 3 mp es clock Yba.underlying39 hob
  simp only [goInt] at eob
  have hcl := fun W => run_clear_none none 0 0 W
  go_enter Yba.func21, Yba.ntmps21
  go_wp2_with (first | (go_at_call 25; refine (sortStable_nil _).mono ?_; (rintro e w1 ⟨rfl, rfl⟩)) | (go_at_call 6; refine (hlen _).mono ?_; (rintro e w2 ⟨rfl, rfl⟩)))
  go_rounds 1
  go_end0
  exact ⟨rfl, rfl⟩
end Go.Proofs.Ybulkejoc
