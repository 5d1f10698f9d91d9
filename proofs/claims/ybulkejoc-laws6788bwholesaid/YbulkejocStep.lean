/- begin (10), end (13), the law's log (4), changed (11) at the node's own record. -/
import Derived.Test.YbulkejocSend
import Derived.Test.YbulkejocMap
import Derived.Laws.EntriesVeiled
import Derived.Deep.RegionWith
namespace Go.Proofs.Ybulkejoc
open Go.ChangeShapes Go.WideShapes Go.ChangeAt Go.RowKit

theorem begin_any (w : World) (nb : Nat) (now : Int) {u u' : Value} (h1 : w.cell? ⟨nb, 27, none⟩ = some u) (h2 : w.cell? ⟨nb, 28, none⟩ = some u') (f1 : w.frozen? ⟨nb, 27, none⟩ = false) (f2 : w.frozen? ⟨nb, 28, none⟩ = false) :
    Calls Yba.prog 10 #[.pointer (some ⟨nb, 0, none⟩), .int .i64 now] w fun e w' => e = .returned (.tuple #[]) ∧ w' = (w.setCell ⟨nb, 27, none⟩ (.int .i64 now)).setCell ⟨nb, 28, none⟩ (.slice none 0 0) := by
  go_enter Yba.func10, Yba.ntmps10
  go_wp2
  go_end0
  exact ⟨rfl, rfl⟩

theorem end_any (w : World) (nb : Nat) {vo : Value} (h2 : w.cell? ⟨nb, 28, none⟩ = some vo) (f2 : w.frozen? ⟨nb, 28, none⟩ = false) :
    Calls Yba.prog 13 #[.pointer (some ⟨nb, 0, none⟩)] w fun e w' => e = .returned vo ∧ w' = w.setCell ⟨nb, 28, none⟩ (.slice none 0 0) := by
  go_enter Yba.func13, Yba.ntmps13
  go_wp2
  go_ret
  exact ⟨rfl, rfl⟩

/-- The law's closure: the log, still nil, takes the member. -/
theorem log_any (w : World) (lg : Nat) (m : Mb) (h : w.cell? ⟨lg, 0, none⟩ = some (.slice none 0 0)) (f : w.frozen? ⟨lg, 0, none⟩ = false) :
    Calls Yba.prog 4 #[.agg #[.string m.addr, .int .u64 m.tok, .int .u8 m.st, .int .u64 m.inc], .pointer (some ⟨lg, 0, none⟩)] w fun e w' => e = .returned (.tuple #[]) ∧ Fr (fun b o => b = lg ∧ o = 0) w w' ∧ ∃ v, w'.cell? ⟨lg, 0, none⟩ = some v ∧ w'.ownsRow w.heap.size 29 4 v 1 m.cells := by
  obtain ⟨i0, hi0, hz0, hz1, hz2⟩ := info_parts info29
  have hlt : lg < w.heap.size := World.block_lt_of_cell? w _ h
  have hXB : Below w.heap.size w ((w.alloc (.cells #[.string m.addr, .int .u64 m.tok, .int .u8 m.st, .int .u64 m.inc] 29)).alloc (.cells #[.string m.addr, .int .u64 m.tok, .int .u8 m.st, .int .u64 m.inc] 29)) := ((Below.refl _ _).alloc (Nat.le_refl _) _).alloc (by simp) _
  obtain ⟨v', w5, hrun, hown, hgrow, _⟩ := run_append_own (P := Yba.prog) ((w.alloc (.cells #[.string m.addr, .int .u64 m.tok, .int .u8 m.st, .int .u64 m.inc] 29)).alloc (.cells #[.string m.addr, .int .u64 m.tok, .int .u8 m.st, .int .u64 m.inc] 29)) w.heap.size 30 30 29 i0 _ 4 40 Yba.underlying30 hi0 hz0 hz1 hz2 rfl (by omega) (.slice none 0 0) 0 [] (World.ownsRow_nil _ _ _ _) ⟨w.heap.size + 1, 0, none⟩ 1 1 m.cells rfl (by
    have hb := heap_alloc_new (w.alloc (.cells #[.string m.addr, .int .u64 m.tok, .int .u8 m.st, .int .u64 m.inc] 29)) (.cells #[.string m.addr, .int .u64 m.tok, .int .u8 m.st, .int .u64 m.inc] 29)
    simp only [World.size_alloc] at hb
    exact World.news_of_block (cs := #[.string m.addr, .int .u64 m.tok, .int .u8 m.st, .int .u64 m.inc]) (t := 29) (fr := (0, 0)) hb) (by simp [Mb.cells, Value.oneCell']) (by unfold maxLen; omega) (by omega) (by simp; omega)
  obtain ⟨gg, gcap, rfl⟩ : ∃ gg gcap, v' = .slice (some ⟨gg, 0, none⟩) 1 gcap := by
    rcases hown.2 with ⟨_, h0⟩ | ⟨gg, gcap, _, rfl, _⟩
    · omega
    · exact ⟨gg, gcap, rfl⟩
  have Hown : Hid _ := hown
  clear hown
  have hb5 : w5.heap[lg]? = w.heap[lg]? := (hgrow.block lg (by simp; omega) (by simp [Value.ownBlock])).trans (hXB.block lg hlt)
  have c5 := (World.cell?_of_block (a := ⟨lg, 0, none⟩) hb5).trans h
  have f5 := (World.frozen?_of_block (a := ⟨lg, 0, none⟩) hb5).trans f
  go_enter Yba.func4, Yba.ntmps4
  go_wp2_with (at_builtin; refine wpList_append_eq (by rfl) _ _ 30 (by rfl) (.slice none 0 0) (.slice (some ⟨w.heap.size + 1, 0, none⟩) 1 1) _ _ (by rfl) (by rfl) hrun ?_)
  go_end0
  have hown := Hown.out
  refine ⟨rfl, ?_, _, World.cell?_setCell_same _ _ _ c5, ownsRow_block hown fun b hb => Below.heap_setCell _ _ _ _ (by have := (ownsRow_lt hown hb).1; simp; omega)⟩
  exact (Fr.setCell ((Fr.of_below hXB (Nat.le_refl _)).grown hgrow (fun k hk => by simp [Value.ownBlock] at hk)) (fun _ => ⟨rfl, rfl⟩) _)

/-- What the node's 'Changed' is: nil, or the law's log. -/
def chF (use : Bool) (lg : Nat) : Value := if use then .func (.func 4) #[] #[.pointer (some ⟨lg, 0, none⟩)] else .nilFunc

theorem eqIn_nil_nil (d : Nat) (W : World) : (Op.equalIn (d + 1) 35 .nilFunc .nilFunc).run Yba.prog W = .ok true W := by
  simp [Op.equalIn, run_underlying Yba.underlying35]
theorem eqIn_fun_nil (d lg : Nat) (W : World) : (Op.equalIn (d + 1) 35 (.func (.func 4) #[] #[.pointer (some ⟨lg, 0, none⟩)]) .nilFunc).run Yba.prog W = .ok false W := by
  simp [Op.equalIn, run_underlying Yba.underlying35]
theorem neq_nil_nil (W : World) : (binOp .neq 35 .nilFunc .nilFunc).run Yba.prog W = .ok (.bool false) W := by
  simp only [binOp]
  simp [Op.equal, Op.maxDepth, eqIn_nil_nil 9999]
theorem neq_fun_nil (lg : Nat) (W : World) : (binOp .neq 35 (.func (.func 4) #[] #[.pointer (some ⟨lg, 0, none⟩)]) .nilFunc).run Yba.prog W = .ok (.bool true) W := by
  simp only [binOp]
  simp [Op.equal, Op.maxDepth, eqIn_fun_nil 9999]

set_option maxRecDepth 100000 in
theorem changed_any (w : World) (nb lg : Nat) (m : Mb) (use : Bool) (h0 : w.cell? ⟨nb, 11, none⟩ = some (.string m.addr)) (h8 : w.cell? ⟨nb, 8, none⟩ = some (chF use lg)) (hl : w.cell? ⟨lg, 0, none⟩ = some (.slice none 0 0)) (f : w.frozen? ⟨lg, 0, none⟩ = false) :
    Calls Yba.prog 11 #[.pointer (some ⟨nb, 0, none⟩), .agg #[.string m.addr, .int .u64 m.tok, .int .u8 m.st, .int .u64 m.inc]] w fun e w' => e = .returned (.tuple #[]) ∧ Fr (fun b o => b = lg ∧ o = 0) w w' ∧ ∃ v, w'.cell? ⟨lg, 0, none⟩ = some v ∧ w'.ownsRow w.heap.size 29 4 v (if use then 1 else 0) (if use then m.cells else []) := by
  have hlt : lg < w.heap.size := World.block_lt_of_cell? w _ hl
  have hnlt : nb < w.heap.size := World.block_lt_of_cell? w _ h0
  have hself : (m.addr.toList == m.addr.toList) = true := by simp
  have hXB : Below w.heap.size w (w.alloc (.cells #[.string m.addr, .int .u64 m.tok, .int .u8 m.st, .int .u64 m.inc] 29)) := (Below.refl _ _).alloc (Nat.le_refl _) _
  cases use
  · simp only [chF, Bool.false_eq_true, if_false] at h8
    have hq := neq_nil_nil
    go_enter Yba.func11, Yba.ntmps11
    go_wp2
    go_quiet (fail)
    go_wp2
    go_end0
    refine ⟨rfl, ?_, .slice none 0 0, ?_, World.ownsRow_nil _ _ _ _⟩
    · exact (Fr.of_below hXB (Nat.le_refl _)).drewN _
    · exact (hXB.cell (p := ⟨lg, 0, none⟩) hlt).trans hl
  · simp only [chF, if_true] at h8
    have hq := neq_fun_nil lg
    go_enter Yba.func11, Yba.ntmps11
    go_wp2
    go_quiet (fail)
    go_wp2
    have hlog := fun W (hc : W.cell? ⟨lg, 0, none⟩ = some (.slice none 0 0)) hf => log_any W lg m hc hf
    go_region_with (go_at_call 4; refine (hlog _ ?_ ?_).mono ?_; exact (hXB.cell (p := ⟨lg, 0, none⟩) hlt).trans hl; exact (hXB.frozen (p := ⟨lg, 0, none⟩) hlt).trans f; rintro e w1 ⟨rfl, hF, v, hv, hown⟩)
    all_goals
      go_end0
      refine ⟨rfl, ?_, v, hv, ?_⟩
      · exact ((Fr.of_below hXB (Nat.le_refl _)).drewN _).trans hF (fun _ _ _ h => h)
      · exact ownsRow_base hown (by simp)
end Go.Proofs.Ybulkejoc
