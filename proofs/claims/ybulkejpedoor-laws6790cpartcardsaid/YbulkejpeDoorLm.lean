/- Small laws on memory that the walk of the law wants: make, copy, rows that are filled. -/
import Derived.Test.YbulkejpeDoorBeg
import Derived.Test.YbulkejpeDoorSml
import Derived.Test.YbulkejpeDoorSam
import Derived.Laws.MakeOwn
import Derived.Laws.CopyRow
namespace Go.Proofs.YbulkejpeDoor
open Go Go.ChangeShapes Go.WideShapes Go.ChangeAt Go.RowKit

/-- Row g of n elements of z cells: the first j are as in xs. -/
def Fill (W : World) (g t z n j : Nat) (xs : List Value) : Prop := ∃ cs : Array Value, W.heap[g]? = some (.cells cs t (0, 0)) ∧ cs.size = n * z ∧ ∀ i, i < j * z → cs[i]? = xs[i]?
theorem Fill.kept {S : Nat → Prop} {W W' : World} {g t z n j : Nat} {xs : List Value} (h : Fill W g t z n j xs) (k : Kept S W W') (hn : ¬ S g) : Fill W' g t z n j xs := by
  obtain ⟨cs, h1, h2⟩ := h
  exact ⟨cs, k.obj h1 hn, h2⟩
theorem Fill.lt {W : World} {g t z n j : Nat} {xs : List Value} (h : Fill W g t z n j xs) : g < W.heap.size := by
  obtain ⟨cs, h1, h2⟩ := h
  exact lt_of_heap h1
theorem Fill.at {W : World} {g t z n j : Nat} {xs : List Value} (h : Fill W g t z n j xs) (i : Nat) (hi : i < n * z) : (∃ v, W.cell? ⟨g, i, none⟩ = some v) ∧ W.frozen? ⟨g, i, none⟩ = false := by
  obtain ⟨cs, h1, h2, _⟩ := h
  refine ⟨⟨cs[i]'(by omega), ?_⟩, frozen_of_block h1 i⟩
  rw [cell_of_block h1]
  exact Array.getElem?_eq_getElem (by omega)
theorem Fill.cell {W : World} {g t z n : Nat} {xs : List Value} (h : Fill W g t z n n xs) (i : Nat) (hi : i < n * z) : W.cell? ⟨g, i, none⟩ = xs[i]? := by
  obtain ⟨cs, h1, h2, h3⟩ := h
  rw [cell_of_block h1, h3 i hi]
/-- One more element, of two cells. -/
theorem Fill.step2 {W : World} {g t n j : Nat} {xs : List Value} (h : Fill W g t 2 n j xs) (a b : Value) (ha : xs[j * 2]? = some a) (hb : xs[j * 2 + 1]? = some b) (hj : j < n) :
    Fill ((W.setCell ⟨g, j * 2, none⟩ a).setCell ⟨g, j * 2 + 1, none⟩ b) g t 2 n (j + 1) xs := by
  obtain ⟨cs, h1, h2, h3⟩ := h
  refine ⟨_, heap_setCell_same (heap_setCell_same h1 _ a) _ b, by simpa using h2, fun i hi => ?_⟩
  simp only [Array.getElem?_setIfInBounds, Array.size_setIfInBounds]
  by_cases e1 : j * 2 + 1 = i
  · subst e1
    rw [if_pos rfl, if_pos (by omega), hb]
  · rw [if_neg e1]
    by_cases e2 : j * 2 = i
    · subst e2
      rw [if_pos rfl, if_pos (by omega), ha]
    · rw [if_neg e2]
      exact h3 i (by omega)
theorem Fill.step5 {W : World} {g t n j : Nat} {xs : List Value} (h : Fill W g t 5 n j xs) (a b c d e : Value) (ha : xs[j * 5]? = some a) (hb : xs[j * 5 + 1]? = some b) (hc : xs[j * 5 + 2]? = some c) (hd : xs[j * 5 + 3]? = some d) (he : xs[j * 5 + 4]? = some e) (hj : j < n) :
    Fill (((((W.setCell ⟨g, j * 5, none⟩ a).setCell ⟨g, j * 5 + 1, none⟩ b).setCell ⟨g, j * 5 + 2, none⟩ c).setCell ⟨g, j * 5 + 3, none⟩ d).setCell ⟨g, j * 5 + 4, none⟩ e) g t 5 n (j + 1) xs := by
  obtain ⟨cs, h1, h2, h3⟩ := h
  refine ⟨_, heap_setCell_same (heap_setCell_same (heap_setCell_same (heap_setCell_same (heap_setCell_same h1 _ a) _ b) _ c) _ d) _ e, by simpa using h2, fun i hi => ?_⟩
  simp only [Array.getElem?_setIfInBounds, Array.size_setIfInBounds]
  by_cases e5 : j * 5 + 4 = i
  · subst e5
    rw [if_pos rfl, if_pos (by omega), he]
  rw [if_neg e5]
  by_cases e4 : j * 5 + 3 = i
  · subst e4
    rw [if_pos rfl, if_pos (by omega), hd]
  rw [if_neg e4]
  by_cases e3 : j * 5 + 2 = i
  · subst e3
    rw [if_pos rfl, if_pos (by omega), hc]
  rw [if_neg e3]
  by_cases e2 : j * 5 + 1 = i
  · subst e2
    rw [if_pos rfl, if_pos (by omega), hb]
  rw [if_neg e2]
  by_cases e1 : j * 5 = i
  · subst e1
    rw [if_pos rfl, if_pos (by omega), ha]
  rw [if_neg e1]
  exact h3 i (by omega)

def mkC2 (n : Nat) : Array Value := madeCells #[.string ByteArray.empty, .string ByteArray.empty] (n * 2)
def mkC5 (n : Nat) : Array Value := madeCells #[.int .i64 0, .int .i64 0, .int .i64 0, .int .i64 0, .int .i64 0] (n * 5)
theorem make25 (n : Nat) (hn : n ≤ 512) (w : World) :
    (Instr.makeSlice 25 (.int .i64 (n : Int)) (.int .i64 (n : Int))).run Ybad.prog w = .ok (.slice (some ⟨w.heap.size, 0, none⟩) n n) (w.alloc (.cells (mkC2 n) 28)) := by
  obtain ⟨i0, hi, hz0, hz1, hz2⟩ := info_parts info28
  have := run_make (P := Ybad.prog) w 25 28 i0 _ Ybad.underlying25 hi hz0 .i64 .i64 n n (by omega) (by omega) (by rw [hz2]; omega) (by omega)
  rw [hz1] at this
  simp only [Int.toNat_natCast] at this
  exact this
theorem make32 (n : Nat) (hn : n ≤ 512) (w : World) :
    (Instr.makeSlice 32 (.int .i64 (n : Int)) (.int .i64 (n : Int))).run Ybad.prog w = .ok (.slice (some ⟨w.heap.size, 0, none⟩) n n) (w.alloc (.cells (mkC5 n) 39)) := by
  obtain ⟨i0, hi, hz0, hz1, hz2⟩ := info_parts info39
  have := run_make (P := Ybad.prog) w 32 39 i0 _ Ybad.underlying32 hi hz0 .i64 .i64 n n (by omega) (by omega) (by rw [hz2]; omega) (by omega)
  rw [hz1] at this
  simp only [Int.toNat_natCast] at this
  exact this
theorem Fill.new2 (w : World) (n : Nat) (xs : List Value) : Fill (w.alloc (.cells (mkC2 n) 28)) w.heap.size 28 2 n 0 xs := ⟨_, heap_alloc_new _ _, size_madeCells _ _, fun i hi => by omega⟩
theorem Fill.new5 (w : World) (n : Nat) (xs : List Value) : Fill (w.alloc (.cells (mkC5 n) 39)) w.heap.size 39 5 n 0 xs := ⟨_, heap_alloc_new _ _, size_madeCells _ _, fun i hi => by omega⟩

/-- 'copy' at elements of z cells, over a whole row. -/
theorem copy_full {t elem z : Nat} (hu : Ybad.prog.underlying t = some (.slice elem)) (hs : (Ybad.prog.info? elem).map (·.size) = some z) (w : World) (g b n cap cap' : Nat) (xs ys : List Value) (hxs : xs.length = n * z) (hd : Fill w g elem z n 0 ys) (hsrc : Fill w b elem z n n xs) (h1 : ∀ v ∈ xs, v.oneCell' = true) :
    ∃ w', (Builtin.copy_ #[t, t] 3 #[.slice (some ⟨g, 0, none⟩) n cap, .slice (some ⟨b, 0, none⟩) n cap']).run Ybad.prog w = .ok (.int .i64 (n : Int)) w' ∧ Kept (fun b => b = g) w w' ∧ Fill w' g elem z n n xs := by
  obtain ⟨cur, hg, hcs, _⟩ := hd
  have hl := run_loadCells_list (P := Ybad.prog) w ⟨b, 0, none⟩ xs (by
    intro j v hj
    have hjl := (List.getElem?_eq_some_iff.1 hj).1
    have := hsrc.cell j (by omega)
    rw [hj] at this
    rw [add_plain]
    simpa using this)
  have hst := run_storeCells_at Ybad.prog g 0 elem xs 0 cur w hg (by simp; omega) h1
  refine ⟨w.setRow g (cur.toList.take 0 ++ xs ++ cur.toList.drop (0 + xs.length)).toArray, ?_, ?_, ?_⟩
  · cases hq : Ybad.prog.info? elem with
    | none => simp [hq] at hs
    | some i =>
      have hi : i.size = z := by simpa [hq] using hs
      have hl' : (loadCells ⟨b, 0, none⟩ (n * z)).run Ybad.prog w = .ok xs.toArray w := by rw [← hxs]; exact hl
      simp only [Builtin.copy_, List.getElem?_toArray, List.getElem?_cons_zero, List.getElem?_cons_succ]
      simp [run_underlying hu, Builtin.lenOf, Builtin.firstCells, sizeOf, typeInfo, hq, hi, hl', goInt]
      have hst' : (storeCells ⟨g, 0, none⟩ xs).run Ybad.prog w = .ok () (w.setRow g (xs ++ List.drop xs.length cur.toList).toArray) := by simpa using hst
      rw [hst']
      simp
  · exact ⟨rfl, rfl, rfl, by simp, fun k hk hn => setRow_other w g k _ hn⟩
  · refine ⟨_, setRow_heap w g cur _ elem _ hg, ?_, fun i hi => ?_⟩
    · simp [hxs, hcs]
    · simp [List.getElem?_append_left (show i < xs.length by omega)]

/-- The writes' plain data. -/
structure Wi where
  ep : Nat
  ck : Nat
  key : Nat
  val : Nat
  st : Nat
def mkW (n : Nat) (e : Int) (f : Wi) : Wr := ⟨(f.ep : Int) % e + 1, if 0 < n then (f.ck : Int) % (n : Int) + 1 else 0, (f.key : Int) % 3 + 1, (f.val : Int) % 3 + 1, if 0 < n then (f.st : Int) % 3 else (f.st : Int) % 2 + 1⟩
def mkWs (n : Nat) (e : Int) (nw : Nat) (f : Nat → Wi) : List Wr := (List.range nw).map fun i => mkW n e (f i)
def mkE (n : Nat) (xs : Nat → Nat) : List (ByteArray × ByteArray) := (List.range n).map fun i => (kF ((xs i : Int) % 3), vF ((xs i : Int) / 3 % 3))
theorem mkWs_len (n : Nat) (e : Int) (nw : Nat) (f : Nat → Wi) : (mkWs n e nw f).length = nw := by simp [mkWs]
theorem mkE_len (n : Nat) (xs : Nat → Nat) : (mkE n xs).length = n := by simp [mkE]
theorem ecells_at {E : List (ByteArray × ByteArray)} {j : Nat} {p : ByteArray × ByteArray} (h : E[j]? = some p) : (ecells E)[j * 2]? = some (.string p.1) ∧ (ecells E)[j * 2 + 1]? = some (.string p.2) := by
  have hj := (List.getElem?_eq_some_iff.1 h).1
  obtain ⟨q, h1, h2, h3⟩ := cellsE hj (Nat.le_refl _)
  rw [List.take_length] at h2 h3
  rw [h] at h1
  cases h1
  exact ⟨h2, h3⟩
theorem mkE_at (n : Nat) (xs : Nat → Nat) (j : Nat) (hj : j < n) : (ecells (mkE n xs))[j * 2]? = some (.string (kF ((xs j : Int) % 3))) ∧ (ecells (mkE n xs))[j * 2 + 1]? = some (.string (vF ((xs j : Int) / 3 % 3))) := ecells_at (E := mkE n xs) (p := (kF ((xs j : Int) % 3), vF ((xs j : Int) / 3 % 3))) (by simp [mkE, hj])
theorem wcells_at {ws : List Wr} {j : Nat} {x : Wr} (h : ws[j]? = some x) : (wcells ws)[j * 5]? = some (.int .i64 x.te) ∧ (wcells ws)[j * 5 + 1]? = some (.int .i64 x.tc) ∧ (wcells ws)[j * 5 + 2]? = some (.int .i64 x.key) ∧ (wcells ws)[j * 5 + 3]? = some (.int .i64 x.val) ∧ (wcells ws)[j * 5 + 4]? = some (.int .i64 x.st) := cellsW (f := fun o => (wcells ws)[o]?) h (fun _ _ => rfl)
theorem mkWs_at (n : Nat) (e : Int) (nw : Nat) (f : Nat → Wi) (j : Nat) (hj : j < nw) : (mkWs n e nw f)[j]? = some (mkW n e (f j)) := by simp [mkWs, hj]

/-- An argument's row of bytes, as it came. -/
def InL (W : World) (LA : Option Addr) (n : Nat) (xs : Nat → Nat) : Prop := ∀ i, i < n → ∃ b off, LA = some ⟨b, off, none⟩ ∧ b < W.heap.size ∧ xs i < 256 ∧ W.cell? ⟨b, off + i, none⟩ = some (.int .u8 (xs i : Int))
def Wi.Ok (f : Wi) : Prop := f.ep < 256 ∧ f.ck < 256 ∧ f.key < 256 ∧ f.val < 256 ∧ f.st < 256
def InW (W : World) (WA : Option Addr) (nw : Nat) (f : Nat → Wi) : Prop := ∀ i, i < nw → ∃ b off, WA = some ⟨b, off, none⟩ ∧ b < W.heap.size ∧ (f i).Ok ∧ W.cell? ⟨b, off + i * 5, none⟩ = some (.int .u8 ((f i).ep : Int)) ∧ W.cell? ⟨b, off + i * 5 + 1, none⟩ = some (.int .u8 ((f i).ck : Int)) ∧ W.cell? ⟨b, off + i * 5 + 2, none⟩ = some (.int .u8 ((f i).key : Int)) ∧ W.cell? ⟨b, off + i * 5 + 3, none⟩ = some (.int .u8 ((f i).val : Int)) ∧ W.cell? ⟨b, off + i * 5 + 4, none⟩ = some (.int .u8 ((f i).st : Int))

/-- The body of the block n. -/
def blk (n : Nat) : Code → Option Code
  | .block i c => if i = n then some c else blk n c
  | .seq a b => match blk n a with
    | some c => some c
    | none => blk n b
  | .cond _ a b => match blk n a with
    | some c => some c
    | none => blk n b
  | .loop c => blk n c
  | .scope c => blk n c
  | _ => none
end Go.Proofs.YbulkejpeDoor
