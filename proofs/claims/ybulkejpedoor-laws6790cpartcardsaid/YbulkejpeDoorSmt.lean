/- Small functions: CanSucceed (16), sameBuffer (26), isDecodedWrites (21), nextChangedFrom (15). -/
import Derived.Test.YbulkejpeDoorOwn
import Derived.Test.YbulkejpeDoorProg
import Derived.Deep.QuietTactic
import Derived.Handy
namespace Go.Proofs.YbulkejpeDoor
open Go Go.ChangeShapes Go.WideShapes Go.ChangeAt Go.RowKit

def canF (lev e c te tc : Int) : Bool := decide (te = e) && (!decide (lev = 1) || decide (tc ≤ c))
set_option maxRecDepth 100000 in
theorem can_any (lev e r c te tc : Int) (A : Option Addr) (n cap : Nat) (w : World) : Calls Ybad.prog 16 #[.agg #[.int .i64 lev, .slice A n cap, .int .i64 r, .int .i64 c, .int .i64 e], .agg #[.int .i64 te, .int .i64 tc]] w fun e' w' => e' = .returned (.bool (canF lev e c te tc)) ∧ Below w.heap.size w w' := by
  unfold canF
  by_cases h1 : te = e
  · subst h1
    by_cases h2 : lev = 1
    · subst h2
      go_enter Ybad.func16, Ybad.ntmps16
      go_wp2
      go_ret
      exact ⟨by simp, by go_grown⟩
    · go_enter Ybad.func16, Ybad.ntmps16
      go_wp2
      go_ret
      exact ⟨by simp [h2], by go_grown⟩
  · go_enter Ybad.func16, Ybad.ntmps16
    go_wp2
    go_ret
    exact ⟨by simp [h1], by go_grown⟩

theorem same_any (A : Option Addr) (n cap : Nat) (w : World) (hn : n ≤ 512) : Calls Ybad.prog 26 #[.slice A n cap, .slice none 0 0] w fun e' w' => e' = .returned (.bool false) ∧ ∃ k, w' = w.drewN k := by
  by_cases h0 : n = 0
  · subst h0
    go_enter Ybad.func26, Ybad.ntmps26
    go_wp2
    go_quiet (fail)
    go_wp2
    go_ret
    exact ⟨rfl, nq, rfl⟩
  · have h1 : 0 < n := by omega
    go_enter Ybad.func26, Ybad.ntmps26
    go_wp2
    go_quiet (fail)
    go_wp2
    go_ret
    exact ⟨rfl, nq, rfl⟩

/-- The verifier's cells that the road reads: MaxLog, MaxEpoch, decoded.writes, nextWrites, nextChanged. -/
structure VAt (vb : Nat) (n me : Int) (v : Value) (cs : Array Value) : Prop where
  log : cs[3]? = some (.int .i64 n)
  ep : cs[4]? = some (.int .i64 me)
  dec : cs[69]? = some (.slice none 0 0)
  nw : cs[73]? = some v
  ch : ∃ c, cs[74]? = some (.int .i64 c)
def VObj (vb : Nat) (n me : Int) (v : Value) (W : World) : Prop := ∃ cs, W.heap[vb]? = some (.cells cs 67 (0, 0)) ∧ VAt vb n me v cs
theorem VObj.kept {S : Nat → Prop} {vb : Nat} {n me : Int} {v : Value} {W W' : World} (h : VObj vb n me v W) (k : Kept S W W') (hs : ¬ S vb) : VObj vb n me v W' := by
  obtain ⟨cs, h1, h2⟩ := h
  exact ⟨cs, k.obj h1 hs, h2⟩
theorem VObj.lt {vb : Nat} {n me : Int} {v : Value} {W : World} (h : VObj vb n me v W) : vb < W.heap.size := by
  obtain ⟨cs, h1, h2⟩ := h
  exact lt_of_heap h1
theorem VObj.set74 {vb : Nat} {n me : Int} {v : Value} {W : World} (h : VObj vb n me v W) (i : Int) : VObj vb n me v (W.setCell ⟨vb, 74, none⟩ (.int .i64 i)) := by
  obtain ⟨cs, h1, h2, h3, h4, h5, c, h6⟩ := h
  refine ⟨_, heap_setCell_same h1 74 _, ?_, ?_, ?_, ?_, ⟨i, ?_⟩⟩
  iterate 4 (rw [Array.getElem?_setIfInBounds_ne (by omega)]; assumption)
  rw [Array.getElem?_setIfInBounds_self_of_lt (Array.getElem?_eq_some_iff.1 h6).1]
theorem VObj.set73 {vb : Nat} {n me : Int} {v : Value} {W : World} (h : VObj vb n me v W) (v' : Value) : VObj vb n me v' (W.setCell ⟨vb, 73, none⟩ v') := by
  obtain ⟨cs, h1, h2, h3, h4, h5, c, h6⟩ := h
  refine ⟨_, heap_setCell_same h1 73 _, ?_, ?_, ?_, ?_, ⟨c, ?_⟩⟩
  iterate 3 (rw [Array.getElem?_setIfInBounds_ne (by omega)]; assumption)
  · rw [Array.getElem?_setIfInBounds_self_of_lt (Array.getElem?_eq_some_iff.1 h5).1]
  · rw [Array.getElem?_setIfInBounds_ne (by omega)]; assumption
theorem VObj.cells {vb : Nat} {n me : Int} {v : Value} {W : World} (h : VObj vb n me v W) : W.cell? ⟨vb, 3, none⟩ = some (.int .i64 n) ∧ W.cell? ⟨vb, 4, none⟩ = some (.int .i64 me) ∧ W.cell? ⟨vb, 69, none⟩ = some (.slice none 0 0) ∧ W.cell? ⟨vb, 73, none⟩ = some v ∧ (∃ c, W.cell? ⟨vb, 74, none⟩ = some (.int .i64 c)) ∧ W.frozen? ⟨vb, 73, none⟩ = false ∧ W.frozen? ⟨vb, 74, none⟩ = false := by
  obtain ⟨cs, h1, h2, h3, h4, h5, c, h6⟩ := h
  refine ⟨?_, ?_, ?_, ?_, ⟨c, ?_⟩, frozen_of_block h1 _, frozen_of_block h1 _⟩ <;> (rw [cell_of_block h1]; assumption)

theorem isdec_any {vb : Nat} {n me : Int} {v : Value} {w : World} (h : VObj vb n me v w) (A : Option Addr) (m cap : Nat) (hm : m ≤ 512) : Calls Ybad.prog 21 #[.pointer (some ⟨vb, 0, none⟩), .slice A m cap] w fun e' w' => e' = .returned (.bool false) ∧ ∃ k, w' = w.drewN k := by
  obtain ⟨c1, c2, c3, c4, _⟩ := h.cells
  go_enter Ybad.func21, Ybad.ntmps21
  go_wp2_with (go_at_call 26; refine (same_any A m cap _ hm).mono ?_; rintro _ _ ⟨rfl, k, rfl⟩)
  go_ret
  exact ⟨rfl, k, rfl⟩

theorem nextCh_any {vb : Nat} {n me : Int} {v : Value} {w : World} (h : VObj vb n me v w) (lev r c e i : Int) (A A' : Option Addr) (k cap m cap' : Nat) (hm : m ≤ 512) :
    Calls Ybad.prog 15 #[.pointer (some ⟨vb, 0, none⟩), .agg #[.int .i64 lev, .slice A k cap, .int .i64 r, .int .i64 c, .int .i64 e, .slice A' m cap'], .int .i64 i] w fun e' w' => e' = .returned (.tuple #[]) ∧ Kept (fun b => b = vb) w w' ∧ VObj vb n me v w' := by
  have hlt := h.lt
  obtain ⟨c1, c2, c3, c4, ⟨c0, c5⟩, c6, c7⟩ := h.cells
  have kX : Kept (fun b => b = vb) w ((w.setCell ⟨vb, 74, none⟩ (.int .i64 (-1))).alloc (.cells #[.int .i64 lev, .slice A k cap, .int .i64 r, .int .i64 c, .int .i64 e, .slice A' m cap'] 52)) := (Kept.setCell (S := fun b => b = vb) (Kept.refl _ _) (fun _ => rfl) _).alloc _
  have vX : VObj vb n me v ((w.setCell ⟨vb, 74, none⟩ (.int .i64 (-1))).alloc (.cells #[.int .i64 lev, .slice A k cap, .int .i64 r, .int .i64 c, .int .i64 e, .slice A' m cap'] 52)) := (h.set74 _).kept ((Kept.refl (fun _ => False) _).alloc _) (fun e => e)
  go_enter Ybad.func15, Ybad.ntmps15
  go_wp2_with (go_at_call 21; refine (isdec_any vX _ _ _ hm).mono ?_; rintro _ _ ⟨rfl, q, rfl⟩)
  go_end0
  exact ⟨rfl, kX.drewN _, vX.kept ((Kept.refl (fun _ => False) _).drewN _) (fun e => e)⟩
end Go.Proofs.YbulkejpeDoor
