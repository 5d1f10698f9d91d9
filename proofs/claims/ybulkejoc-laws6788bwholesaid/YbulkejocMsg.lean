/- 'zzs6788bmeq' (9) at equal rows of members; Message.size (19) at a message with no news. -/
import Derived.Test.YbulkejocHas
import Derived.Deep.RegionHeld
namespace Go.Proofs.Ybulkejoc
open Go.ChangeShapes Go.WideShapes Go.ChangeAt Go.RowKit

set_option maxHeartbeats 1000000 in
theorem meq_any (ms : List Mb) (v v' : Value) (w : World) (h : MsAt w v ms) (h' : MsAt w v' ms) : Calls Yba.prog 9 #[v, v'] w fun e w' => e = .returned (.bool true) ∧ Below w.heap.size w w' := by
  have hnil : ms = [] → Calls Yba.prog 9 #[v, v'] w fun e w' => e = .returned (.bool true) ∧ Below w.heap.size w w' := by
    rintro rfl
    rcases h.form with ⟨rfl, _⟩ | ⟨g, cap, rfl, _⟩ <;> rcases h'.form with ⟨rfl, _⟩ | ⟨g', cap', rfl, _⟩
    all_goals
      go_enter Yba.func9, Yba.ntmps9
      go_wp2
      go_rounds 1
      go_ret
      exact ⟨rfl, by go_grown⟩
  rcases h.form with ⟨rfl, h0⟩ | ⟨g, cap, rfl, hg, hm, hc⟩
  · exact hnil h0
  rcases h'.form with ⟨rfl, h0⟩ | ⟨g', cap', rfl, hg', hm', hc'⟩
  · exact hnil h0
  clear hnil
  unfold maxLen at hm
  go_enter Yba.func9, Yba.ntmps9
  go_wp2
  go_loopw [13] (fun i wr => ∃ k : Nat, k ≤ ms.length ∧ i = .int .i64 (k : Int) ∧ Below w.heap.size w wr) (fun i _ => ms.length - (intOf i).toNat)
  case atStart => exact ⟨0, Nat.zero_le _, rfl, Below.refl _ _⟩
  case round =>
    obtain ⟨k, hk, rfl, hB⟩ := hrel
    by_cases hlt : k < ms.length
    · obtain ⟨c0, c1, c2, c3⟩ := hc k hlt
      have d0 := (hB.cell (p := ⟨g, k * 4, none⟩) hg).trans c0
      have d1 := (hB.cell (p := ⟨g, k * 4 + 1, none⟩) hg).trans c1
      have d2 := (hB.cell (p := ⟨g, k * 4 + 1 + 1, none⟩) hg).trans c2
      have d3 := (hB.cell (p := ⟨g, k * 4 + 1 + 1 + 1, none⟩) hg).trans c3
      obtain ⟨c0', c1', c2', c3'⟩ := hc' k hlt
      have e0 := (hB.cell (p := ⟨g', k * 4, none⟩) hg').trans c0'
      have e1 := (hB.cell (p := ⟨g', k * 4 + 1, none⟩) hg').trans c1'
      have e2 := (hB.cell (p := ⟨g', k * 4 + 1 + 1, none⟩) hg').trans c2'
      have e3 := (hB.cell (p := ⟨g', k * 4 + 1 + 1 + 1, none⟩) hg').trans c3'
      obtain ⟨m, hmk⟩ : ∃ m, ms[k] = m := ⟨_, rfl⟩
      rw [hmk] at d0 d1 d2 d3 e0 e1 e2 e3
      clear c0 c1 c2 c3 c0' c1' c2' c3' hmk hc hc'
      have hsz := hB.size
      have hlt' : (k : Int) < (ms.length : Int) := by omega
      go_wp2
      go_quiet (fail)
      go_wp2
      go_roundw
      case rel => exact ⟨k + 1, by omega, by go_num, hB.trans ⟨rfl, rfl, rfl, Nat.le_refl _, fun _ _ => rfl⟩⟩
      case measure => simp [intOf]; omega
    · go_wp2
      go_ret
      exact ⟨rfl, hB⟩

set_option maxHeartbeats 1000000 in
theorem size_any (m : Mb) (hm : m.Ok) (w : World) : Calls Yba.prog 19 #[.agg #[.int .u8 6, .int .u64 0, .string m.addr, .int .u64 m.tok, .int .u8 m.st, .int .u64 m.inc, .string ByteArray.empty, .slice none 0 0]] w fun e w' => e = .returned (.int .i64 (recF m + 8)) ∧ Below w.heap.size w w' := by
  have hb := recF_bd hm
  have h0 : uvl 0 = 1 := uvl_small (by omega)
  go_enter Yba.func19, Yba.ntmps19
  go_wp2
  have hq0 := uvarintLen_any 0 (by omega)
  simp only [h0] at hq0
  go_region_held (fun w' => w'.cell? ⟨w.heap.size, 1, none⟩ = some (.int .u64 0) ∧ w'.cell? ⟨w.heap.size, 2, none⟩ = some (.string m.addr) ∧ w'.cell? ⟨w.heap.size, 2 + 1, none⟩ = some (.int .u64 (m.tok : Int)) ∧ w'.cell? ⟨w.heap.size, 2 + 1 + 1, none⟩ = some (.int .u8 (m.st : Int)) ∧ w'.cell? ⟨w.heap.size, 2 + 1 + 1 + 1, none⟩ = some (.int .u64 (m.inc : Int)) ∧ w.heap.size < w'.heap.size) (first | (simp; done) | (refine ⟨(hB2.cell (p := ⟨w.heap.size, 1, none⟩) (by simp; omega)).trans (by simp [*]), (hB2.cell (p := ⟨w.heap.size, 2, none⟩) (by simp; omega)).trans (by simp [*]), (hB2.cell (p := ⟨w.heap.size, 2 + 1, none⟩) (by simp; omega)).trans (by simp [*]), (hB2.cell (p := ⟨w.heap.size, 2 + 1 + 1, none⟩) (by simp; omega)).trans (by simp [*]), (hB2.cell (p := ⟨w.heap.size, 2 + 1 + 1 + 1, none⟩) (by simp; omega)).trans (by simp [*]), ?_⟩; have := hB2.size; omega) | (refine ⟨(hB.cell (p := ⟨w.heap.size, 1, none⟩) (by simp)).trans (by simp [*]), (hB.cell (p := ⟨w.heap.size, 2, none⟩) (by simp)).trans (by simp [*]), (hB.cell (p := ⟨w.heap.size, 2 + 1, none⟩) (by simp)).trans (by simp [*]), (hB.cell (p := ⟨w.heap.size, 2 + 1 + 1, none⟩) (by simp)).trans (by simp [*]), (hB.cell (p := ⟨w.heap.size, 2 + 1 + 1 + 1, none⟩) (by simp)).trans (by simp [*]), ?_⟩; have := hB.size; simp at this; omega)) (first | (go_at_call 23; refine (hq0 _).mono ?_; rintro e w1 ⟨rfl, hB⟩) | (go_at_call 20; refine (recordSize_any m hm _).mono ?_; rintro e w2 ⟨rfl, hB2⟩))
  have hs := hB.size
  simp at hs
  have d0 : w2.cell? ⟨w.heap.size, 0, none⟩ = some (.int .u8 6) := (hB2.cell (p := ⟨w.heap.size, 0, none⟩) (by simp; omega)).trans ((hB.cell (p := ⟨w.heap.size, 0, none⟩) (by simp)).trans (by simp))
  have d7 : w2.cell? ⟨w.heap.size, 7, none⟩ = some (.slice none 0 0) := (hB2.cell (p := ⟨w.heap.size, 7, none⟩) (by simp; omega)).trans ((hB.cell (p := ⟨w.heap.size, 7, none⟩) (by simp)).trans (by simp))
  have hBB : Below w.heap.size w w2 := ((((Below.refl _ _).alloc (Nat.le_refl _) _).drew).trans (hB.mono (by simp))).trans (hB2.mono (by omega))
  clear hB hB2 hq0
  go_wp2
  go_rounds 1
  go_wp2
  go_ret
  refine ⟨ret_int' (by simp (disch := omega) only [IntWalk.i64_in]; omega), hBB⟩
end Go.Proofs.Ybulkejoc
