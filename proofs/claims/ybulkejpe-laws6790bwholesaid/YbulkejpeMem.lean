/- Small laws on memory that the walk of 'LawS6790BWhole' wants: 'make([]Entry, n)', 'copy' at elements of two cells, rows of strings. -/
import Derived.Test.YbulkejpeTok
import Derived.Laws.OwnMore
import Derived.Laws.IdiomCopy
namespace Go.Proofs.Ybulkejpe
open Go.ChangeShapes Go.WideShapes Go.ChangeAt Go.RowKit

theorem info34 : (Yba.prog.info? 34).map (fun i => (i.zero, i.size, i.bytes)) = some (some (.agg #[.string ByteArray.empty, .string ByteArray.empty]), 2, 32) := by kernel_rfl
theorem size34 : (Yba.prog.info? 34).map (·.size) = some 2 := by kernel_rfl

/-- The cells of a new row of n entries. -/
def mk2 (n : Nat) : Array Value := madeCells #[.string ByteArray.empty, .string ByteArray.empty] (n * 2)
theorem mk2_size (n : Nat) : (mk2 n).size = n * 2 := size_madeCells _ _
theorem mk2_at (n j : Nat) (h : j < n * 2) : (mk2 n)[j]? = some (.string ByteArray.empty) := by
  have h2 : j % 2 = 0 ∨ j % 2 = 1 := by omega
  rcases h2 with h2 | h2 <;> simp [mk2, madeCells, h, h2]

/-- 'make([]Entry, n)'. -/
theorem make_any (n : Nat) (hn : n ≤ 1048576) (w : World) :
    (Instr.makeSlice 32 (.int .i64 (n : Int)) (.int .i64 (n : Int))).run Yba.prog w = .ok (.slice (some ⟨w.heap.size, 0, none⟩) n n) (w.alloc (.cells (mk2 n) 34)) := by
  obtain ⟨i0, hi, hz0, hz1, hz2⟩ := info_parts info34
  have := run_make (P := Yba.prog) w 32 34 i0 _ Yba.underlying32 hi hz0 .i64 .i64 n n (by omega) (by omega) (by rw [hz2]; omega) (by omega)
  rw [hz1] at this
  simp only [Int.toNat_natCast] at this
  exact this
theorem make_zero (w : World) :
    (Instr.makeSlice 32 (.int .i64 0) (.int .i64 0)).run Yba.prog w = .ok (.slice (some ⟨w.heap.size, 0, none⟩) 0 0) (w.alloc (.cells (mk2 0) 34)) := make_any 0 (by omega) w

/-- 'copy' at elements of k cells: all is read before anything is written. -/
theorem run_copy_k {P : Program} (w : World) (dT sT ty elem : TypeId) (k b o dLen dCap : Nat) (a : Addr) (sLen sCap : Nat) (cs : List Value)
    (hu : P.underlying dT = some (.slice elem)) (hs : (P.info? elem).map (·.size) = some k) (hn : cs.length = Nat.min sLen dLen * k)
    (hsrc : ∀ j v, cs[j]? = some v → w.cell? (a.add j) = some v) (hc : ∀ j, j < cs.length → (w.cell? ⟨b, o + j, none⟩).isSome = true) (hf : ∀ j, j < cs.length → w.frozen? ⟨b, o + j, none⟩ = false) (h1 : ∀ v ∈ cs, v.oneCell' = true) :
    (Builtin.copy_ #[dT, sT] ty #[.slice (some ⟨b, o, none⟩) dLen dCap, .slice (some a) sLen sCap]).run P w = .ok (goInt (Nat.min sLen dLen)) (w.setCells b o cs) := by
  have hl := run_loadCells_list (P := P) w a cs hsrc
  have hst := run_storeCells_cells (P := P) b o cs 0 w (by simpa using hc) (by simpa using hf) h1
  cases hq : P.info? elem with
  | none => simp [hq] at hs
  | some i =>
    have hi : i.size = k := by simpa [hq] using hs
    simp only [Builtin.copy_, List.getElem?_toArray, List.getElem?_cons_zero, List.getElem?_cons_succ]
    simp [run_underlying hu, Builtin.lenOf, Builtin.firstCells, sizeOf, typeInfo, hq, hi, ← hn, hl, hst]

theorem copy_none (w : World) (ad : Addr) (n m : Nat) : (Builtin.copy_ #[32, 32] 3 #[.slice (some ad) n m, .slice none 0 0]).run Yba.prog w = .ok (goInt 0) w :=
  run_copy_nil Yba.prog w 32 32 3 34 ad n m Yba.underlying32 (by rw [size34]; rfl)

theorem copy_zero (w : World) (ad a : Addr) (m k l : Nat) : (Builtin.copy_ #[32, 32] 3 #[.slice (some ad) 0 m, .slice (some a) k l]).run Yba.prog w = .ok (goInt 0) w := by
  have hl : (loadCells a 0).run Yba.prog w = .ok #[] w := by simpa using run_loadCells_list (P := Yba.prog) w a [] (by simp)
  cases hq : Yba.prog.info? 34 with
  | none => have := size34; simp [hq] at this
  | some i => simp [Builtin.copy_, run_underlying Yba.underlying32, Builtin.lenOf, Builtin.firstCells, sizeOf, typeInfo, hq, storeCells, hl]

/-- Block g holds at least n * 2 cells, each a string, none frozen. -/
def Row (w : World) (g n : Nat) : Prop := ∀ j, j < n * 2 → (∃ s, w.cell? ⟨g, j, none⟩ = some (.string s)) ∧ w.frozen? ⟨g, j, none⟩ = false

theorem row_new (w : World) (n : Nat) : Row (w.alloc (.cells (mk2 n) 34)) w.heap.size n := fun j hj => ⟨⟨ByteArray.empty, by simp [mk2_at n j hj]⟩, by simp⟩
theorem cell_set (w : World) (g j i : Nat) (u : Value) (h : ∃ v, w.cell? ⟨g, j, none⟩ = some v) : (w.setCell ⟨g, j, none⟩ u).cell? ⟨g, i, none⟩ = if i = j then some u else w.cell? ⟨g, i, none⟩ := by
  obtain ⟨v, hv⟩ := h
  by_cases e : i = j
  · subst e
    rw [if_pos rfl]
    exact World.cell?_setCell_same' _ _ _ (by rw [hv]; rfl)
  · rw [if_neg e]
    refine World.cell?_setCell_other _ _ _ _ ?_
    intro h
    injection h with _ h2
    omega
theorem row_set {w : World} {g n : Nat} (h : Row w g n) (j : Nat) (hj : j < n * 2) (s : ByteArray) : Row (w.setCell ⟨g, j, none⟩ (.string s)) g n := fun i hi => by
  obtain ⟨⟨s1, h1⟩, _⟩ := h j hj
  obtain ⟨⟨s2, h2⟩, f2⟩ := h i hi
  refine ⟨?_, by rw [World.frozen?_setCell]; exact f2⟩
  rw [cell_set _ _ _ _ _ ⟨_, h1⟩]
  split
  · exact ⟨s, rfl⟩
  · exact ⟨s2, h2⟩
theorem row_drew {w : World} {g n : Nat} (h : Row w g n) : Row w.drew g n := h

/-- Blocks g and g' hold the same strings, n * 2 of them. -/
def Twins (w : World) (g g' n : Nat) : Prop := ∀ j, j < n * 2 → ∃ s, w.cell? ⟨g, j, none⟩ = some (.string s) ∧ w.cell? ⟨g', j, none⟩ = some (.string s)

theorem twins_below {w w' : World} {g g' n B : Nat} (h : Twins w g g' n) (hb : Below B w w') (hg : g < B) (hg' : g' < B) : Twins w' g g' n := fun j hj => by
  obtain ⟨s, h1, h2⟩ := h j hj
  exact ⟨s, (hb.cell (p := ⟨g, j, none⟩) hg).trans h1, (hb.cell (p := ⟨g', j, none⟩) hg').trans h2⟩

theorem below_setCells {B : Nat} {a : World} (g : Nat) (hg : B ≤ g) : ∀ (cs : List Value) (o : Nat) (w : World), Below B a w → Below B a (w.setCells g o cs)
  | [], _, _, h => h
  | v :: r, o, _, h => below_setCells g hg r (o + 1) _ (h.setCell (p := ⟨g, o, none⟩) hg v)
theorem size_setCells (g : Nat) : ∀ (cs : List Value) (o : Nat) (w : World), (w.setCells g o cs).heap.size = w.heap.size
  | [], _, _ => rfl
  | v :: r, o, w => by
    show ((w.setCell ⟨g, o, none⟩ v).setCells g (o + 1) r).heap.size = _
    rw [size_setCells g r (o + 1)]
    simp [World.setCell]

/-- 'saved := make([]Entry, n); copy(saved, log)', behind the make. -/
theorem copy_row (w : World) (g n : Nat) (hg : g < w.heap.size) (h : Row w g n) :
    ∃ w', (Builtin.copy_ #[32, 32] 3 #[.slice (some ⟨w.heap.size, 0, none⟩) n n, .slice (some ⟨g, 0, none⟩) n n]).run Yba.prog (w.alloc (.cells (mk2 n) 34)) = .ok (goInt n) w' ∧ Below w.heap.size w w' ∧ w'.heap.size = w.heap.size + 1 ∧ Twins w' g w.heap.size n := by
  have hw : ∀ j, j < n * 2 → ∃ s, (w.alloc (.cells (mk2 n) 34)).cell? ⟨g, j, none⟩ = some (.string s) := fun j hj => by
    obtain ⟨⟨s, hs⟩, _⟩ := h j hj
    exact ⟨s, by rw [World.cell?_alloc_lt _ _ _ hg]; exact hs⟩
  have hnew : ∀ j, j < n * 2 → (w.alloc (.cells (mk2 n) 34)).cell? ⟨w.heap.size, j, none⟩ = some (.string ByteArray.empty) := fun j hj => by simp [mk2_at n j hj]
  let S : Nat → ByteArray := fun j => if hj : j < n * 2 then (hw j hj).choose else ByteArray.empty
  have hS : ∀ j, j < n * 2 → (w.alloc (.cells (mk2 n) 34)).cell? ⟨g, j, none⟩ = some (.string (S j)) := fun j hj => by
    simp only [S, dif_pos hj]
    exact (hw j hj).choose_spec
  let cs : List Value := (List.range (n * 2)).map fun j => .string (S j)
  have hlen : cs.length = n * 2 := by simp [cs]
  have hget : ∀ j, j < n * 2 → cs[j]? = some (.string (S j)) := fun j hj => by simp [cs, hj]
  have hrun := run_copy_k (P := Yba.prog) (w.alloc (.cells (mk2 n) 34)) 32 32 3 34 2 w.heap.size 0 n n ⟨g, 0, none⟩ n n cs Yba.underlying32 size34 (by rw [hlen]; simp)
    (fun j v hj => by
      have hj2 : j < n * 2 := by rw [← hlen]; exact (List.getElem?_eq_some_iff.1 hj).1
      rw [hget j hj2] at hj
      cases hj
      rw [add_plain]
      simpa using hS j hj2)
    (fun j hj => by rw [hlen] at hj; rw [Nat.zero_add, hnew j hj]; rfl) (fun j hj => by simp)
    (fun v hv => by
      simp only [cs, List.mem_map] at hv
      obtain ⟨j, _, rfl⟩ := hv
      rfl)
  refine ⟨_, by simpa using hrun, ?_, ?_, ?_⟩
  · exact below_setCells _ (Nat.le_refl _) _ _ _ ((Below.refl _ _).alloc (Nat.le_refl _) _)
  · rw [size_setCells]
    simp
  · intro j hj
    refine ⟨S j, ?_, ?_⟩
    · rw [World.cell?_setCells_out _ _ _ _ _ (fun e => by simp at e; omega)]
      exact hS j hj
    · have := World.cell?_setCells_in w.heap.size cs 0 (w.alloc (.cells (mk2 n) 34)) (fun i hi => by rw [hlen] at hi; rw [Nat.zero_add, hnew i hi]; rfl) j (by omega)
      rw [Nat.zero_add] at this
      rw [this]
      have h2 := hget j hj
      rw [List.getElem?_eq_getElem (by omega)] at h2
      exact h2
end Go.Proofs.Ybulkejpe
