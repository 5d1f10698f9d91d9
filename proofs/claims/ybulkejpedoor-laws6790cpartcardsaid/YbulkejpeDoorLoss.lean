/- slices.Clip (19) and State.DataLosses (24). -/
import Derived.Test.YbulkejpeDoorProg
import Derived.Test.YbulkejpeDoorOwn
import Derived.Test.YbulkejpeDoorRep
namespace Go.Proofs.YbulkejpeDoor
open Go Go.ChangeShapes Go.WideShapes Go.ChangeAt Go.RowKit

theorem info31 : (Ybad.prog.info? 31).map (fun i => (i.zero, i.size, i.bytes)) = some (some (.agg #[.int .i64 0, .slice none 0 0, .int .i64 0, .int .i64 0, .int .i64 0]), 5, 56) := by kernel_rfl

theorem clip_any (a : Addr) (k cap : Nat) (hk : k ≤ cap) (w : World) : Calls Ybad.prog 19 #[.slice (some a) k cap] w fun e w' => e = .returned (.slice (some a) k k) ∧ w' = w := by
  go_enter Ybad.func19, Ybad.ntmps19
  go_wp2
  go_ret
  exact ⟨rfl, rfl⟩

/-- The states behind a data loss: the log keeps c, c + 1, .. entries. -/
def lossCells (lev e : Int) (LA : Option Addr) (r c : Nat) (m : Nat) : List Value := (List.range m).flatMap fun j => [.int .i64 lev, .slice LA (c + j) (c + j), .int .i64 r, .int .i64 c, .int .i64 (e + 1)]
theorem lossCells_succ (lev e : Int) (LA : Option Addr) (r c m : Nat) : lossCells lev e LA r c (m + 1) = lossCells lev e LA r c m ++ [.int .i64 lev, .slice LA (c + m) (c + m), .int .i64 r, .int .i64 c, .int .i64 (e + 1)] := by simp [lossCells, List.range_succ]

set_option maxRecDepth 100000 in
set_option maxHeartbeats 2000000 in
theorem losses_any (lev e : Int) (a : Addr) (n cap r c : Nat) (w : World) (hcap : n ≤ cap) (hn : n ≤ 512) (he0 : 0 ≤ e) (he1 : e ≤ 1000) :
    Calls Ybad.prog 24 #[stV lev e (.slice (some a) n cap) r c] w fun e' w' => ∃ v, e' = .returned v ∧ Below w.heap.size w w' ∧ w'.ownsRow w.heap.size 31 5 v (n - c) (lossCells lev e (some a) r c (n - c)) := by
  unfold stV
  have hB0 : Below w.heap.size w (w.alloc (.cells #[.int .i64 lev, .slice (some a) n cap, .int .i64 r, .int .i64 c, .int .i64 e] 31)) := (Below.refl _ _).alloc (Nat.le_refl _) _
  have hS0 : StAt (w.alloc (.cells #[.int .i64 lev, .slice (some a) n cap, .int .i64 r, .int .i64 c, .int .i64 e] 31)) w.heap.size lev e (.slice (some a) n cap) r c := by
    have hb : (w.alloc (.cells #[.int .i64 lev, .slice (some a) n cap, .int .i64 r, .int .i64 c, .int .i64 e] 31)).heap[w.heap.size]? = some (.cells #[.int .i64 lev, .slice (some a) n cap, .int .i64 r, .int .i64 c, .int .i64 e] 31 (0, 0)) := heap_alloc_new _ _
    exact ⟨by rw [cell_of_block hb]; rfl, by rw [cell_of_block hb]; rfl, by rw [cell_of_block hb]; rfl, by rw [cell_of_block hb]; rfl, by rw [cell_of_block hb]; rfl⟩
  obtain ⟨w1, hw1⟩ : ∃ w1, w1 = w.alloc (.cells #[.int .i64 lev, .slice (some a) n cap, .int .i64 r, .int .i64 c, .int .i64 e] 31) := ⟨_, rfl⟩
  have hz1 : w1.heap.size = w.heap.size + 1 := by rw [hw1]; simp
  rw [← hw1] at hB0 hS0
  have HX : Hid (w1 = w.alloc (.cells #[.int .i64 lev, .slice (some a) n cap, .int .i64 r, .int .i64 c, .int .i64 e] 31)) := hw1
  clear hw1
  have hlt0 : w.heap.size < w1.heap.size := by omega
  go_enter Ybad.func24, Ybad.ntmps24
  go_wp2
  rw [← HX.out]
  go_loopw [3, 4] (fun v3 v4 wr => ∃ m : Nat, (m ≤ n - c) ∧ v4 = .int .i64 ((c + m : Nat) : Int) ∧ Hid (Below w1.heap.size w1 wr ∧ wr.ownsRow w1.heap.size 31 5 v3 m (lossCells lev e (some a) r c m))) (fun _ v4 _ => n - (intOf v4).toNat)
  case atStart => exact ⟨0, Nat.zero_le _, rfl, Below.refl _ _, World.ownsRow_nil _ _ _ _⟩
  case round =>
    obtain ⟨m, hm, rfl, H⟩ := hrel
    obtain ⟨q0, q1, q2, q3, q4⟩ := hS0.below hlt0 H.out.1
    obtain ⟨cm, Hcm⟩ : ∃ cm, Hid (c + m = cm) := ⟨_, rfl⟩
    rw [Hcm.out]
    by_cases hlt : cm < n
    · have hltI : (cm : Int) < (n : Int) := by omega
      have hB2 : Below wr.heap.size wr (wr.alloc (.cells #[.int .i64 lev, .slice (some a) cm cm, .int .i64 r, .int .i64 c, .int .i64 (e + 1)] 31)) := (Below.refl _ _).alloc (Nat.le_refl _) _
      have ho2 := own_kept H.out.2 (Kept.of_below (S := fun _ => False) hB2 (Nat.le_refl _)) (fun _ _ e => e)
      obtain ⟨g, gcap, w3, hr3, ho3, hk3⟩ := append_one (P := Ybad.prog) (t := 100) Ybad.underlying100 info31 rfl (by omega) ho2 (by have := H.out.1.size; simp; omega) #[.int .i64 lev, .slice (some a) cm cm, .int .i64 r, .int .i64 c, .int .i64 (e + 1)] rfl (by intro u hu; simp at hu; rcases hu with rfl | rfl | rfl | rfl | rfl <;> rfl) (by omega) (by omega)
      simp only [World.size_alloc] at hr3
      have HN : Hid (Below w1.heap.size w1 w3 ∧ w3.ownsRow w1.heap.size 31 5 (.slice (some ⟨g, 0, none⟩) (m + 1) gcap) (m + 1) (lossCells lev e (some a) r c (m + 1))) := by
        refine ⟨(H.out.1.trans (hB2.mono H.out.1.size)).trans (hk3.below (fun k hk hv => by have := (ownsRow_lt ho2 hv).1; omega) (by have := H.out.1.size; simp; omega)), ?_⟩
        rw [lossCells_succ, Hcm.out]
        exact ho3
      have hcl := fun W' => clip_any a cm cap (by omega) W'
      have hcI : (cm : Int) ≤ (cap : Int) := by omega
      have hlt1 : w.heap.size < wr.heap.size := by have := H.out.1.size; omega
      clear hB2 ho2 ho3 hk3
      go_wp2_with (first | (go_at_call 19; refine (hcl _).mono ?_; rintro e' w4 ⟨rfl, rfl⟩) | (at_builtin; refine wpList_append_eq (by rfl) _ _ 100 (by rfl) u3 (.slice (some ⟨wr.heap.size + 1, 0, none⟩) 1 1) _ _ (by rfl) (by rfl) hr3 ?_))
      go_roundw
      case rel => exact ⟨m + 1, by have := Hcm.out; omega, by have := Hcm.out; rw [← this]; go_num, HN.out⟩
      case measure => have := Hcm.out; simp [intOf]; omega
    · have hltI : ¬ (cm : Int) < (n : Int) := by omega
      have HN : Hid (Below w.heap.size w wr ∧ wr.ownsRow w.heap.size 31 5 u3 (n - c) (lossCells lev e (some a) r c (n - c))) := by
        have h1 := Hcm.out
        have : m = n - c := by omega
        rw [← this]
        exact ⟨hB0.trans (H.out.1.mono (by omega)), ownsRow_base H.out.2 (by omega)⟩
      go_wp2
      go_ret
      exact ⟨_, rfl, HN.out⟩
end Go.Proofs.YbulkejpeDoor
