/- The walk of LawS6790BWhole (function 4): true, whatever the input; new blocks alone. -/
import Derived.Test.YbulkejpeMem
import Derived.Deep.RegionHeld
import Derived.BigQuiet
namespace Go.Proofs.Ybulkejpe
open Go.ChangeShapes Go.WideShapes Go.ChangeAt Go.RowKit

theorem law_big (lv r c ep te tc : Int) (a : Option Addr) (n m : Nat) (hn : 1048576 < n) (hm : n ≤ maxLen) (w : World) :
    Calls Yba.prog 4 #[.int .i64 lv, .slice a n m, .int .i64 r, .int .i64 c, .int .i64 ep, .int .i64 te, .int .i64 tc] w fun e w' => e = .returned (.bool true) ∧ Below w.heap.size w w' := by
  unfold maxLen at hm
  go_enter Yba.func4, Yba.ntmps4
  go_wp2
  go_ret
  exact ⟨rfl, by go_grown⟩

theorem law_nil (lv r c ep te tc : Int) (w : World) :
    Calls Yba.prog 4 #[.int .i64 lv, .slice none 0 0, .int .i64 r, .int .i64 c, .int .i64 ep, .int .i64 te, .int .i64 tc] w fun e w' => e = .returned (.bool true) ∧ Below w.heap.size w w' := by
  have q31 : ∀ (w : World) (a : Option Addr) (n c n' c' : Nat), (binOp .neq 31 (.slice a n c) (.slice none n' c')).run Yba.prog w = .ok (.bool (!a.isNone)) w := fun w a n c n' c' => run_neq_slice_nil_any w _ _ a n c n' c' Yba.underlying31
  have p31 : ∀ (w : World) (a : Option Addr) (n c n' c' : Nat), (binOp .eql 31 (.slice a n c) (.slice none n' c')).run Yba.prog w = .ok (.bool a.isNone) w := fun w a n c n' c' => Lib.run_eql_slice_nil w _ _ a n c n' c' Yba.underlying31
  have p32 : ∀ (w : World) (a : Option Addr) (n c n' c' : Nat), (binOp .eql 32 (.slice a n c) (.slice none n' c')).run Yba.prog w = .ok (.bool a.isNone) w := fun w a n c n' c' => Lib.run_eql_slice_nil w _ _ a n c n' c' Yba.underlying32
  have hmk := make_zero
  have hcp := copy_none
  go_enter Yba.func4, Yba.ntmps4
  go_wp2_with (first | (go_at_call 7; refine (tok_any _ _ _ _ _ _ _ _ _ _).mono ?_; rintro e w1 ⟨rfl, hb1⟩) | (go_at_call 8; refine (model_any _ _ _ _ _).mono ?_; rintro e w2 ⟨rfl, rfl⟩))
  go_rounds 1
  go_ret
  exact ⟨rfl, (((((Below.refl _ _).alloc (Nat.le_refl _) _).alloc (by simp) _).alloc (by simp; omega) _).trans (hb1.mono (by simp; omega)))⟩

theorem law_zero (lv r c ep te tc : Int) (a : Addr) (m : Nat) (w : World) :
    Calls Yba.prog 4 #[.int .i64 lv, .slice (some a) 0 m, .int .i64 r, .int .i64 c, .int .i64 ep, .int .i64 te, .int .i64 tc] w fun e w' => e = .returned (.bool true) ∧ Below w.heap.size w w' := by
  have q31 : ∀ (w : World) (a : Option Addr) (n c n' c' : Nat), (binOp .neq 31 (.slice a n c) (.slice none n' c')).run Yba.prog w = .ok (.bool (!a.isNone)) w := fun w a n c n' c' => run_neq_slice_nil_any w _ _ a n c n' c' Yba.underlying31
  have p31 : ∀ (w : World) (a : Option Addr) (n c n' c' : Nat), (binOp .eql 31 (.slice a n c) (.slice none n' c')).run Yba.prog w = .ok (.bool a.isNone) w := fun w a n c n' c' => Lib.run_eql_slice_nil w _ _ a n c n' c' Yba.underlying31
  have p32 : ∀ (w : World) (a : Option Addr) (n c n' c' : Nat), (binOp .eql 32 (.slice a n c) (.slice none n' c')).run Yba.prog w = .ok (.bool a.isNone) w := fun w a n c n' c' => Lib.run_eql_slice_nil w _ _ a n c n' c' Yba.underlying32
  have hmk := make_zero
  have hcp := copy_zero
  go_enter Yba.func4, Yba.ntmps4
  go_wp2
  refine wp_loop_rounds 1 ?_
  rw [rounds_succ]
  go_wp2_with (first | (go_at_call 7; refine (tok_any _ _ _ _ _ _ _ _ _ _).mono ?_; rintro e w1 ⟨rfl, hb1⟩) | (go_at_call 8; refine (model_any _ _ _ _ _).mono ?_; rintro e w2 ⟨rfl, rfl⟩))
  refine wp_loop_rounds 1 ?_
  rw [rounds_succ]
  go_wp2
  go_ret
  exact ⟨rfl, ((((((Below.refl _ _).alloc (Nat.le_refl _) _).alloc (by simp) _).alloc (by simp; omega) _).alloc (by simp; omega) _).trans (hb1.mono (by simp; omega)))⟩

/-- The first loop's relation. -/
def Rel (w : World) (n : Nat) (i : Value) (wr : World) : Prop := ∃ k : Nat, k ≤ n ∧ i = .int .i64 k ∧ Below w.heap.size w wr ∧ wr.heap.size = w.heap.size + 1 ∧ Row wr w.heap.size n

theorem law_some (lv r c ep te tc : Int) (b off n m : Nat) (ss : Nat → ByteArray) (w : World) (hn0 : 0 < n) (hn : n ≤ 1048576) (hb : b < w.heap.size) (hc : ∀ j, j < n → w.cell? ⟨b, off + j, none⟩ = some (.string (ss j))) :
    Calls Yba.prog 4 #[.int .i64 lv, .slice (some ⟨b, off, none⟩) n m, .int .i64 r, .int .i64 c, .int .i64 ep, .int .i64 te, .int .i64 tc] w fun e w' => e = .returned (.bool true) ∧ Below w.heap.size w w' := by
  have q31 : ∀ (w : World) (a : Option Addr) (n c n' c' : Nat), (binOp .neq 31 (.slice a n c) (.slice none n' c')).run Yba.prog w = .ok (.bool (!a.isNone)) w := fun w a n c n' c' => run_neq_slice_nil_any w _ _ a n c n' c' Yba.underlying31
  have p31 : ∀ (w : World) (a : Option Addr) (n c n' c' : Nat), (binOp .eql 31 (.slice a n c) (.slice none n' c')).run Yba.prog w = .ok (.bool a.isNone) w := fun w a n c n' c' => Lib.run_eql_slice_nil w _ _ a n c n' c' Yba.underlying31
  have p32 : ∀ (w : World) (a : Option Addr) (n c n' c' : Nat), (binOp .eql 32 (.slice a n c) (.slice none n' c')).run Yba.prog w = .ok (.bool a.isNone) w := fun w a n c n' c' => Lib.run_eql_slice_nil w _ _ a n c n' c' Yba.underlying32
  have hmk := make_any n hn
  go_enter Yba.func4, Yba.ntmps4
  go_wp2
  go_loopw [16] (fun i wr => Rel w n i wr) (fun i _ => n - (intOf i).toNat)
  case atStart => exact ⟨0, by omega, rfl, (Below.refl _ _).alloc (Nat.le_refl _) _, by simp, row_new w n⟩
  case round =>
    obtain ⟨k, hk, rfl, hbl, hsz, hrow⟩ := hrel
    by_cases hlt : k < n
    · have hc1 := (hbl.cell (p := ⟨b, off + k, none⟩) hb).trans (hc k hlt)
      have hc2 := (hbl.cell (p := ⟨b, off + (n - 1 - k), none⟩) hb).trans (hc (n - 1 - k) (by omega))
      obtain ⟨⟨s1, hr1⟩, hf1⟩ := hrow (k * 2) (by omega)
      obtain ⟨⟨s2, hr2⟩, hf2⟩ := hrow (k * 2 + 1) (by omega)
      have e2 : ((n : Int) - 1 - (k : Int)).toNat = n - 1 - k := by omega
      have hi1 : (0 : Int) ≤ (n : Int) - 1 - (k : Int) := by omega
      have hi2 : (n : Int) - 1 - (k : Int) < (n : Int) := by omega
      go_wp2
      go_region
      go_wp2
      go_roundw
      case rel =>
        refine ⟨k + 1, by omega, by go_num, ?_, by simp [hsz], row_drew (row_set (row_set hrow _ (by omega) _) _ (by omega) _)⟩
        exact ((hbl.setCell (p := ⟨w.heap.size, k * 2, none⟩) (Nat.le_refl _) _).setCell (p := ⟨w.heap.size, k * 2 + 1, none⟩) (Nat.le_refl _) _).drew
      case measure => simp [intOf]; omega
    · obtain rfl : k = n := by omega
      obtain ⟨w3, hcp, hb3, hs3, htw⟩ := copy_row wr w.heap.size k (by omega) hrow
      rw [hsz] at hcp htw hs3
      have hcp' : (Builtin.copy_ #[32, 32] 3 #[.slice (some ⟨w.heap.size + 1, 0, none⟩) k k, .slice (some ⟨w.heap.size, 0, none⟩) k k]).run Yba.prog (wr.alloc (.cells (mk2 k) 34)) = .ok (.int .i64 (k : Int)) w3 := hcp
      have H3 : Hid (w3.heap.size = w.heap.size + 1 + 1) := hs3
      clear hs3 hcp
      go_wp2_with (first | (go_at_call 7; refine (tok_any _ _ _ _ _ _ _ _ _ _).mono ?_; rintro e w1 ⟨rfl, hb1⟩) | (go_at_call 8; refine (model_any _ _ _ _ _).mono ?_; rintro e w2 ⟨rfl, rfl⟩))
      have hz3 := H3.out
      have hB2 : Below w.heap.size w w2 := (hbl.trans (hb3.mono (by omega))).trans ((((Below.refl w.heap.size w3).alloc (by omega) _).alloc (by simp; omega) _).trans (hb1.mono (by simp; omega)))
      have htw2 : Twins w2 w.heap.size (w.heap.size + 1) k := by
        refine twins_below htw (B := w3.heap.size) ?_ (by omega) (by omega)
        exact (((Below.refl _ w3).alloc (Nat.le_refl _) _).alloc (by simp) _).trans (hb1.mono (by simp; omega))
      clear hb1 hcp' htw hb3 hrow hbl hc hmk hz3 H3
      go_loopw [21] (fun i wq => ∃ j : Nat, j ≤ k ∧ i = .int .i64 j ∧ Below w.heap.size w wq ∧ Twins wq w.heap.size (w.heap.size + 1) k) (fun i _ => k - (intOf i).toNat)
      case atStart => exact ⟨0, by omega, rfl, hB2, htw2⟩
      case round =>
        obtain ⟨j, hj, rfl, hbq, htq⟩ := hrel
        by_cases hlt2 : j < k
        · obtain ⟨s1, c1, d1⟩ := htq (j * 2) (by omega)
          obtain ⟨s2, c2, d2⟩ := htq (j * 2 + 1) (by omega)
          go_wp2
          go_region
          go_wp2
          go_roundw
          case rel => exact ⟨j + 1, by omega, by go_num, hbq.drew, htq⟩
          case measure => simp [intOf]; omega
        · go_wp2
          go_ret
          exact ⟨rfl, hbq⟩
end Go.Proofs.Ybulkejpe
