/- The walk of 'LawS6789CWhole' (function 5): true, whatever the input, where the table lies as listed; new blocks alone. -/
import Derived.Test.YbulkejoqDoorAlt
namespace Go.Proofs.YbulkejoqDoor
open Go.ChangeShapes Go.WideShapes Go.ChangeAt Go.RowKit
theorem feq0 (w : World) : (binOp .eql 22 (.float .f64 13841813454723219456) (.float .f64 13841813454723219456)).run Ybad.prog w = .ok (.bool true) w := by kernel_rfl
theorem feq1 (w : World) : (binOp .eql 22 (.float .f64 13846317054350589952) (.float .f64 13846317054350589952)).run Ybad.prog w = .ok (.bool true) w := by kernel_rfl
theorem feq2 (w : World) : (binOp .eql 22 (.float .f64 13849131804117696512) (.float .f64 13849131804117696512)).run Ybad.prog w = .ok (.bool true) w := by kernel_rfl

set_option maxHeartbeats 1000000 in
theorem lit0 (s : ByteArray) (p : Int) (b off cap : Nat) (w : World) (ht : TwAt w b off cap) (hp0 : 0 ≤ p) (hp1 : p ≤ 255) (hk0 : (p % 4 == 1) = true) :
    Calls Ybad.prog 5 #[.string s, .int .u8 p] w fun e w' => e = .returned (.bool true) ∧ Below w.heap.size w w' := by
  have hc0 : ([99, 105, 118, 105, 108] == (ByteArray.mk #[99, 105, 118, 105, 108]).toList) = true := by decide +kernel
  have hd0 : ((ByteArray.mk #[99, 105, 118, 105, 108]).toList == [99, 105, 118, 105, 108]) = true := by decide +kernel
  have hfe := feq0
  go_enter Ybad.func5, Ybad.ntmps5
  go_wp2_with (first | (go_at_call 14; refine (alt0 _ b off cap _ ht hc0).mono ?_; rintro e w1 ⟨rfl, hw1⟩) | (go_at_call 15; refine (want0 _ _ hd0).mono ?_; rintro e w2 ⟨rfl, rfl⟩))
  go_ret
  exact ⟨rfl, hw1⟩

set_option maxHeartbeats 1000000 in
theorem lit1 (s : ByteArray) (p : Int) (b off cap : Nat) (w : World) (ht : TwAt w b off cap) (hp0 : 0 ≤ p) (hp1 : p ≤ 255) (hk0 : (p % 4 == 1) = false) (hk1 : (p % 4 == 2) = true) :
    Calls Ybad.prog 5 #[.string s, .int .u8 p] w fun e w' => e = .returned (.bool true) ∧ Below w.heap.size w w' := by
  have hc0 : ([99, 105, 118, 105, 108] == (ByteArray.mk #[110, 97, 117, 116, 105, 99, 97, 108]).toList) = false := by decide +kernel
  have hd0 : ((ByteArray.mk #[110, 97, 117, 116, 105, 99, 97, 108]).toList == [99, 105, 118, 105, 108]) = false := by decide +kernel
  have hc1 : ([110, 97, 117, 116, 105, 99, 97, 108] == (ByteArray.mk #[110, 97, 117, 116, 105, 99, 97, 108]).toList) = true := by decide +kernel
  have hd1 : ((ByteArray.mk #[110, 97, 117, 116, 105, 99, 97, 108]).toList == [110, 97, 117, 116, 105, 99, 97, 108]) = true := by decide +kernel
  have hfe := feq1
  go_enter Ybad.func5, Ybad.ntmps5
  go_wp2_with (first | (go_at_call 14; refine (alt1 _ b off cap _ ht hc0 hc1).mono ?_; rintro e w1 ⟨rfl, hw1⟩) | (go_at_call 15; refine (want1 _ _ hd0 hd1).mono ?_; rintro e w2 ⟨rfl, rfl⟩))
  go_ret
  exact ⟨rfl, hw1⟩

set_option maxHeartbeats 1000000 in
theorem lit2 (s : ByteArray) (p : Int) (b off cap : Nat) (w : World) (ht : TwAt w b off cap) (hp0 : 0 ≤ p) (hp1 : p ≤ 255) (hk0 : (p % 4 == 1) = false) (hk1 : (p % 4 == 2) = false) (hk2 : (p % 4 == 3) = true) :
    Calls Ybad.prog 5 #[.string s, .int .u8 p] w fun e w' => e = .returned (.bool true) ∧ Below w.heap.size w w' := by
  have hc0 : ([99, 105, 118, 105, 108] == (ByteArray.mk #[97, 115, 116, 114, 111, 110, 111, 109, 105, 99, 97, 108]).toList) = false := by decide +kernel
  have hd0 : ((ByteArray.mk #[97, 115, 116, 114, 111, 110, 111, 109, 105, 99, 97, 108]).toList == [99, 105, 118, 105, 108]) = false := by decide +kernel
  have hc1 : ([110, 97, 117, 116, 105, 99, 97, 108] == (ByteArray.mk #[97, 115, 116, 114, 111, 110, 111, 109, 105, 99, 97, 108]).toList) = false := by decide +kernel
  have hd1 : ((ByteArray.mk #[97, 115, 116, 114, 111, 110, 111, 109, 105, 99, 97, 108]).toList == [110, 97, 117, 116, 105, 99, 97, 108]) = false := by decide +kernel
  have hc2 : ([97, 115, 116, 114, 111, 110, 111, 109, 105, 99, 97, 108] == (ByteArray.mk #[97, 115, 116, 114, 111, 110, 111, 109, 105, 99, 97, 108]).toList) = true := by decide +kernel
  have hd2 : ((ByteArray.mk #[97, 115, 116, 114, 111, 110, 111, 109, 105, 99, 97, 108]).toList == [97, 115, 116, 114, 111, 110, 111, 109, 105, 99, 97, 108]) = true := by decide +kernel
  have hfe := feq2
  go_enter Ybad.func5, Ybad.ntmps5
  go_wp2_with (first | (go_at_call 14; refine (alt2 _ b off cap _ ht hc0 hc1 hc2).mono ?_; rintro e w1 ⟨rfl, hw1⟩) | (go_at_call 15; refine (want2 _ _ hd0 hd1 hd2).mono ?_; rintro e w2 ⟨rfl, rfl⟩))
  go_ret
  exact ⟨rfl, hw1⟩

set_option maxHeartbeats 1000000 in
theorem own0 (s : ByteArray) (p : Int) (b off cap : Nat) (w : World) (ht : TwAt w b off cap) (hp0 : 0 ≤ p) (hp1 : p ≤ 255) (hk0 : (p % 4 == 1) = false) (hk1 : (p % 4 == 2) = false) (hk2 : (p % 4 == 3) = false) (hc0 : ([99, 105, 118, 105, 108] == s.toList) = true) (hd0 : (s.toList == [99, 105, 118, 105, 108]) = true) :
    Calls Ybad.prog 5 #[.string s, .int .u8 p] w fun e w' => e = .returned (.bool true) ∧ Below w.heap.size w w' := by
  have hfe := feq0
  go_enter Ybad.func5, Ybad.ntmps5
  go_wp2_with (first | (go_at_call 14; refine (alt0 _ b off cap _ ht hc0).mono ?_; rintro e w1 ⟨rfl, hw1⟩) | (go_at_call 15; refine (want0 _ _ hd0).mono ?_; rintro e w2 ⟨rfl, rfl⟩))
  go_ret
  exact ⟨rfl, hw1⟩

set_option maxHeartbeats 1000000 in
theorem own1 (s : ByteArray) (p : Int) (b off cap : Nat) (w : World) (ht : TwAt w b off cap) (hp0 : 0 ≤ p) (hp1 : p ≤ 255) (hk0 : (p % 4 == 1) = false) (hk1 : (p % 4 == 2) = false) (hk2 : (p % 4 == 3) = false) (hc0 : ([99, 105, 118, 105, 108] == s.toList) = false) (hc1 : ([110, 97, 117, 116, 105, 99, 97, 108] == s.toList) = true) (hd0 : (s.toList == [99, 105, 118, 105, 108]) = false) (hd1 : (s.toList == [110, 97, 117, 116, 105, 99, 97, 108]) = true) :
    Calls Ybad.prog 5 #[.string s, .int .u8 p] w fun e w' => e = .returned (.bool true) ∧ Below w.heap.size w w' := by
  have hfe := feq1
  go_enter Ybad.func5, Ybad.ntmps5
  go_wp2_with (first | (go_at_call 14; refine (alt1 _ b off cap _ ht hc0 hc1).mono ?_; rintro e w1 ⟨rfl, hw1⟩) | (go_at_call 15; refine (want1 _ _ hd0 hd1).mono ?_; rintro e w2 ⟨rfl, rfl⟩))
  go_ret
  exact ⟨rfl, hw1⟩

set_option maxHeartbeats 1000000 in
theorem own2 (s : ByteArray) (p : Int) (b off cap : Nat) (w : World) (ht : TwAt w b off cap) (hp0 : 0 ≤ p) (hp1 : p ≤ 255) (hk0 : (p % 4 == 1) = false) (hk1 : (p % 4 == 2) = false) (hk2 : (p % 4 == 3) = false) (hc0 : ([99, 105, 118, 105, 108] == s.toList) = false) (hc1 : ([110, 97, 117, 116, 105, 99, 97, 108] == s.toList) = false) (hc2 : ([97, 115, 116, 114, 111, 110, 111, 109, 105, 99, 97, 108] == s.toList) = true) (hd0 : (s.toList == [99, 105, 118, 105, 108]) = false) (hd1 : (s.toList == [110, 97, 117, 116, 105, 99, 97, 108]) = false) (hd2 : (s.toList == [97, 115, 116, 114, 111, 110, 111, 109, 105, 99, 97, 108]) = true) :
    Calls Ybad.prog 5 #[.string s, .int .u8 p] w fun e w' => e = .returned (.bool true) ∧ Below w.heap.size w w' := by
  have hfe := feq2
  go_enter Ybad.func5, Ybad.ntmps5
  go_wp2_with (first | (go_at_call 14; refine (alt2 _ b off cap _ ht hc0 hc1 hc2).mono ?_; rintro e w1 ⟨rfl, hw1⟩) | (go_at_call 15; refine (want2 _ _ hd0 hd1 hd2).mono ?_; rintro e w2 ⟨rfl, rfl⟩))
  go_ret
  exact ⟨rfl, hw1⟩

set_option maxHeartbeats 1000000 in
theorem own3 (s : ByteArray) (p : Int) (b off cap : Nat) (w : World) (ht : TwAt w b off cap) (hp0 : 0 ≤ p) (hp1 : p ≤ 255) (hk0 : (p % 4 == 1) = false) (hk1 : (p % 4 == 2) = false) (hk2 : (p % 4 == 3) = false) (hc0 : ([99, 105, 118, 105, 108] == s.toList) = false) (hc1 : ([110, 97, 117, 116, 105, 99, 97, 108] == s.toList) = false) (hc2 : ([97, 115, 116, 114, 111, 110, 111, 109, 105, 99, 97, 108] == s.toList) = false) (hd0 : (s.toList == [99, 105, 118, 105, 108]) = false) (hd1 : (s.toList == [110, 97, 117, 116, 105, 99, 97, 108]) = false) (hd2 : (s.toList == [97, 115, 116, 114, 111, 110, 111, 109, 105, 99, 97, 108]) = false) :
    Calls Ybad.prog 5 #[.string s, .int .u8 p] w fun e w' => e = .returned (.bool true) ∧ Below w.heap.size w w' := by
  go_enter Ybad.func5, Ybad.ntmps5
  go_wp2_with (first | (go_at_call 14; refine (alt3 _ b off cap _ ht hc0 hc1 hc2).mono ?_; rintro e w1 ⟨rfl, hw1⟩) | (go_at_call 15; refine (want3 _ _ hd0 hd1 hd2).mono ?_; rintro e w2 ⟨rfl, rfl⟩) | (go_at_call 16; refine (isnan_any _).mono ?_; rintro e w2 ⟨rfl, rfl⟩))
  go_ret
  exact ⟨rfl, hw1⟩

theorem beq_swap {a b : List UInt8} {c : Bool} (h : (a == b) = c) : (b == a) = c := by rw [BEq.comm]; exact h

theorem law_any (s : ByteArray) (p : Int) (b off cap : Nat) (w : World) (ht : TwAt w b off cap) (hp0 : 0 ≤ p) (hp1 : p ≤ 255) :
    Calls Ybad.prog 5 #[.string s, .int .u8 p] w fun e w' => e = .returned (.bool true) ∧ Below w.heap.size w w' := by
  cases hk0 : (p % 4 == 1)
  · cases hk1 : (p % 4 == 2)
    · cases hk2 : (p % 4 == 3)
      · cases hc0 : ([99, 105, 118, 105, 108] == s.toList)
        · cases hc1 : ([110, 97, 117, 116, 105, 99, 97, 108] == s.toList)
          · cases hc2 : ([97, 115, 116, 114, 111, 110, 111, 109, 105, 99, 97, 108] == s.toList)
            · exact own3 s p b off cap w ht hp0 hp1 hk0 hk1 hk2 hc0 hc1 hc2 (beq_swap hc0) (beq_swap hc1) (beq_swap hc2)
            · exact own2 s p b off cap w ht hp0 hp1 hk0 hk1 hk2 hc0 hc1 hc2 (beq_swap hc0) (beq_swap hc1) (beq_swap hc2)
          · exact own1 s p b off cap w ht hp0 hp1 hk0 hk1 hk2 hc0 hc1 (beq_swap hc0) (beq_swap hc1)
        · exact own0 s p b off cap w ht hp0 hp1 hk0 hk1 hk2 hc0 (beq_swap hc0)
      · exact lit2 s p b off cap w ht hp0 hp1 hk0 hk1 hk2
    · exact lit1 s p b off cap w ht hp0 hp1 hk0 hk1
  · exact lit0 s p b off cap w ht hp0 hp1 hk0
end Go.Proofs.YbulkejoqDoor
