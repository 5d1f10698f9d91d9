/- The walks of 'LawS6789CWhole' (function 5) and its callees. 'TwAt': the table 'twilights' lies as the row lists it. -/
import Derived.Test.YbulkejoqDoorProg
import Derived.WalkKit
import Derived.WalkLawsBesides
import Derived.WalkSpells
import Derived.ProofKit
import Derived.Handy
namespace Go.Proofs.YbulkejoqDoor
open Go.ChangeShapes Go.WideShapes Go.ChangeAt Go.RowKit

theorem run_store_float {P : Program} {w : World} {a : Addr} {m : Mode} (k : FloatKind) (n : Nat) : (store a (.float k n) m).run P w = stored P w a (.float k n) m := run_store P w a _ m rfl
attribute [local go_sem] run_store_float
theorem frombits (w : World) : (callFunc 30 #[.int .u64 9221120237041090561]).run Ybad.prog w = .ok (.value (.float .f64 9221120237041090561)) w := by kernel_rfl
set_option maxRecDepth 100000 in
theorem nan_any (w : World) :
    Calls Ybad.prog 29 #[] w fun e w' => e = .returned (.float .f64 9221120237041090561) ∧ w' = w := by
  have hf := frombits
  go_enter Ybad.func29, Ybad.ntmps29
  go_wp2
  go_ret
  exact ⟨rfl, rfl⟩
set_option maxRecDepth 100000 in
theorem isnan_any (w : World) :
    Calls Ybad.prog 16 #[.float .f64 9221120237041090561] w fun e w' => e = .returned (.bool true) ∧ w' = w := by
  go_enter Ybad.func16, Ybad.ntmps16
  go_wp2
  go_ret
  exact ⟨rfl, rfl⟩

structure TwAt (w : World) (b off cap : Nat) : Prop where
  hb : b < w.heap.size
  hg : w.cell? ⟨1, 0, none⟩ = some (.slice (some ⟨b, off, none⟩) 3 cap)
  s0 : w.cell? ⟨b, off, none⟩ = some (.string ⟨#[99, 105, 118, 105, 108]⟩)
  f0 : w.cell? ⟨b, off + 1, none⟩ = some (.float .f64 13841813454723219456)
  s1 : w.cell? ⟨b, off + 2, none⟩ = some (.string ⟨#[110, 97, 117, 116, 105, 99, 97, 108]⟩)
  f1 : w.cell? ⟨b, off + 2 + 1, none⟩ = some (.float .f64 13846317054350589952)
  s2 : w.cell? ⟨b, off + 4, none⟩ = some (.string ⟨#[97, 115, 116, 114, 111, 110, 111, 109, 105, 99, 97, 108]⟩)
  f2 : w.cell? ⟨b, off + 4 + 1, none⟩ = some (.float .f64 13849131804117696512)

set_option maxHeartbeats 1000000 in
theorem alt0 (s : ByteArray) (b off cap : Nat) (w : World) (ht : TwAt w b off cap) (hc0 : ([99, 105, 118, 105, 108] == s.toList) = true) :
    Calls Ybad.prog 14 #[.string s] w fun e w' => e = .returned (.float .f64 13841813454723219456) ∧ Below w.heap.size w w' := by
  obtain ⟨hb, hg, s0, f0, s1, f1, s2, f2⟩ := ht
  go_enter Ybad.func14, Ybad.ntmps14
  go_wp2
  go_rounds 4
  go_ret
  exact ⟨rfl, by go_grown⟩
theorem want0 (s : ByteArray) (w : World) (hd0 : (s.toList == [99, 105, 118, 105, 108]) = true) :
    Calls Ybad.prog 15 #[.string s] w fun e w' => e = .returned (.tuple #[.float .f64 13841813454723219456, .bool true]) ∧ w' = w := by
  go_enter Ybad.func15, Ybad.ntmps15
  go_wp2
  go_ret2
  exact ⟨rfl, rfl⟩

set_option maxHeartbeats 1000000 in
theorem alt1 (s : ByteArray) (b off cap : Nat) (w : World) (ht : TwAt w b off cap) (hc0 : ([99, 105, 118, 105, 108] == s.toList) = false) (hc1 : ([110, 97, 117, 116, 105, 99, 97, 108] == s.toList) = true) :
    Calls Ybad.prog 14 #[.string s] w fun e w' => e = .returned (.float .f64 13846317054350589952) ∧ Below w.heap.size w w' := by
  obtain ⟨hb, hg, s0, f0, s1, f1, s2, f2⟩ := ht
  go_enter Ybad.func14, Ybad.ntmps14
  go_wp2
  go_rounds 4
  go_ret
  exact ⟨rfl, by go_grown⟩
theorem want1 (s : ByteArray) (w : World) (hd0 : (s.toList == [99, 105, 118, 105, 108]) = false) (hd1 : (s.toList == [110, 97, 117, 116, 105, 99, 97, 108]) = true) :
    Calls Ybad.prog 15 #[.string s] w fun e w' => e = .returned (.tuple #[.float .f64 13846317054350589952, .bool true]) ∧ w' = w := by
  go_enter Ybad.func15, Ybad.ntmps15
  go_wp2
  go_ret2
  exact ⟨rfl, rfl⟩

set_option maxHeartbeats 1000000 in
theorem alt2 (s : ByteArray) (b off cap : Nat) (w : World) (ht : TwAt w b off cap) (hc0 : ([99, 105, 118, 105, 108] == s.toList) = false) (hc1 : ([110, 97, 117, 116, 105, 99, 97, 108] == s.toList) = false) (hc2 : ([97, 115, 116, 114, 111, 110, 111, 109, 105, 99, 97, 108] == s.toList) = true) :
    Calls Ybad.prog 14 #[.string s] w fun e w' => e = .returned (.float .f64 13849131804117696512) ∧ Below w.heap.size w w' := by
  obtain ⟨hb, hg, s0, f0, s1, f1, s2, f2⟩ := ht
  go_enter Ybad.func14, Ybad.ntmps14
  go_wp2
  go_rounds 4
  go_ret
  exact ⟨rfl, by go_grown⟩
theorem want2 (s : ByteArray) (w : World) (hd0 : (s.toList == [99, 105, 118, 105, 108]) = false) (hd1 : (s.toList == [110, 97, 117, 116, 105, 99, 97, 108]) = false) (hd2 : (s.toList == [97, 115, 116, 114, 111, 110, 111, 109, 105, 99, 97, 108]) = true) :
    Calls Ybad.prog 15 #[.string s] w fun e w' => e = .returned (.tuple #[.float .f64 13849131804117696512, .bool true]) ∧ w' = w := by
  go_enter Ybad.func15, Ybad.ntmps15
  go_wp2
  go_ret2
  exact ⟨rfl, rfl⟩

set_option maxHeartbeats 1000000 in
theorem alt3 (s : ByteArray) (b off cap : Nat) (w : World) (ht : TwAt w b off cap) (hc0 : ([99, 105, 118, 105, 108] == s.toList) = false) (hc1 : ([110, 97, 117, 116, 105, 99, 97, 108] == s.toList) = false) (hc2 : ([97, 115, 116, 114, 111, 110, 111, 109, 105, 99, 97, 108] == s.toList) = false) :
    Calls Ybad.prog 14 #[.string s] w fun e w' => e = .returned (.float .f64 9221120237041090561) ∧ Below w.heap.size w w' := by
  obtain ⟨hb, hg, s0, f0, s1, f1, s2, f2⟩ := ht
  go_enter Ybad.func14, Ybad.ntmps14
  go_wp2
  refine wp_loop_rounds 4 ?_
  iterate 4 (rw [rounds_succ]; go_wp2_with (go_at_call 29; refine (nan_any _).mono ?_; rintro e w' ⟨rfl, rfl⟩))
  go_ret
  exact ⟨rfl, by go_grown⟩
theorem want3 (s : ByteArray) (w : World) (hd0 : (s.toList == [99, 105, 118, 105, 108]) = false) (hd1 : (s.toList == [110, 97, 117, 116, 105, 99, 97, 108]) = false) (hd2 : (s.toList == [97, 115, 116, 114, 111, 110, 111, 109, 105, 99, 97, 108]) = false) :
    Calls Ybad.prog 15 #[.string s] w fun e w' => e = .returned (.tuple #[.float .f64 0, .bool false]) ∧ w' = w := by
  go_enter Ybad.func15, Ybad.ntmps15
  go_wp2
  go_ret2
  exact ⟨rfl, rfl⟩
end Go.Proofs.YbulkejoqDoor
