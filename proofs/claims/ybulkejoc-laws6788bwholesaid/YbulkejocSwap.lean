/- The row of the law's own model: reading it, writing one element of it. No Go text is walked here. -/
import Derived.Test.YbulkejocModel
import Derived.Test.YbulkejocMemC
namespace Go.Proofs.Ybulkejoc
open Go.ChangeShapes Go.WideShapes Go.ChangeAt Go.RowKit

/-- Block g is a row of the model: M, and what lies behind it. -/
def MRow (w : World) (g : Nat) (M : List (Mb × Int)) (rest : List Value) : Prop := w.heap[g]? = some (.cells (rcells M ++ rest).toArray 56 (0, 0))

theorem rcells_len (M : List (Mb × Int)) : (rcells M).length = M.length * 5 := by
  induction M with
  | nil => rfl
  | cons m M ih => simp only [rcells, List.flatMap_cons, List.length_append, List.length_cons] at ih ⊢; rw [ih]; simp; omega
def c5 (x : Mb × Int) : List Value := [.string x.1.addr, .int .u64 x.1.tok, .int .u8 x.1.st, .int .u64 x.1.inc, .int .i64 x.2]
theorem rcells_cons (x : Mb × Int) (M : List (Mb × Int)) : rcells (x :: M) = c5 x ++ rcells M := rfl
theorem rcells_at : ∀ (M : List (Mb × Int)) (rest : List Value) (i r : Nat) (h : i < M.length), r < 5 → (rcells M ++ rest)[i * 5 + r]? = (c5 M[i])[r]?
  | m :: M, rest, 0, r, _, hr => by
    rw [rcells_cons, List.append_assoc, Nat.zero_mul, Nat.zero_add, List.getElem?_append_left (by simpa [c5] using hr)]
    rfl
  | m :: M, rest, i + 1, r, h, hr => by
    have := rcells_at M rest i r (by simpa using h) hr
    rw [rcells_cons, List.append_assoc, List.getElem?_append_right (by simp [c5]; omega), ← show i * 5 + r = (i + 1) * 5 + r - (c5 m).length by simp [c5]; omega, this]
    rfl

variable {w : World} {g : Nat} {M : List (Mb × Int)} {rest : List Value}

theorem MRow.cells (h : MRow w g M rest) {i : Nat} (hi : i < M.length) : w.cell? ⟨g, i * 5, none⟩ = some (.string M[i].1.addr) ∧ w.cell? ⟨g, i * 5 + 1, none⟩ = some (.int .u64 M[i].1.tok) ∧ w.cell? ⟨g, i * 5 + 1 + 1, none⟩ = some (.int .u8 M[i].1.st) ∧ w.cell? ⟨g, i * 5 + 1 + 1 + 1, none⟩ = some (.int .u64 M[i].1.inc) ∧ w.cell? ⟨g, i * 5 + 1 + 1 + 1 + 1, none⟩ = some (.int .i64 M[i].2) := by
  have hc : ∀ r, r < 5 → w.cell? ⟨g, i * 5 + r, none⟩ = (c5 M[i])[r]? := fun r hr => by
    rw [cell_of_block h, List.getElem?_toArray, rcells_at M rest i r hi hr]
  exact ⟨hc 0 (by omega), hc 1 (by omega), hc 2 (by omega), hc 3 (by omega), hc 4 (by omega)⟩
theorem MRow.frozen (h : MRow w g M rest) (i : Nat) : w.frozen? ⟨g, i, none⟩ = false := frozen_of_block h i

theorem set5 : ∀ (M : List (Mb × Int)) (rest : List Value) (k : Nat) (x : Mb × Int), k < M.length → (((((rcells M ++ rest).set (k * 5) (.string x.1.addr)).set (k * 5 + 1) (.int .u64 x.1.tok)).set (k * 5 + 1 + 1) (.int .u8 x.1.st)).set (k * 5 + 1 + 1 + 1) (.int .u64 x.1.inc)).set (k * 5 + 1 + 1 + 1 + 1) (.int .i64 x.2) = rcells (M.set k x) ++ rest
  | m :: M, rest, 0, x, _ => by simp [rcells_cons, c5]
  | m :: M, rest, k + 1, x, h => by
    have ih := set5 M rest k x (by simpa using h)
    have hl : ∀ (i : Nat) (l : List Value) (v : Value), (c5 m ++ l).set ((k + 1) * 5 + i) v = c5 m ++ l.set (k * 5 + i) v := by
      intro i l v
      rw [List.set_append_right _ _ (by simp [c5]; omega)]
      congr 2
      simp [c5]
      omega
    simp only [rcells_cons, List.append_assoc, List.set_cons_succ]
    have e1 : (k + 1) * 5 + 1 + 1 = (k + 1) * 5 + 2 := rfl
    have e2 : (k + 1) * 5 + 1 + 1 + 1 = (k + 1) * 5 + 3 := rfl
    have e3 : (k + 1) * 5 + 1 + 1 + 1 + 1 = (k + 1) * 5 + 4 := rfl
    rw [show (k + 1) * 5 = (k + 1) * 5 + 0 from rfl, hl 0, show (k + 1) * 5 + 0 + 1 = (k + 1) * 5 + 1 from rfl, hl 1, show (k + 1) * 5 + 1 + 1 = (k + 1) * 5 + 2 from rfl, hl 2, show (k + 1) * 5 + 2 + 1 = (k + 1) * 5 + 3 from rfl, hl 3, show (k + 1) * 5 + 3 + 1 = (k + 1) * 5 + 4 from rfl, hl 4]
    exact congrArg _ ih

theorem heap_setCell_same {cs : Array Value} {t : TypeId} (h : w.heap[g]? = some (.cells cs t (0, 0))) (i : Nat) (v : Value) : (w.setCell ⟨g, i, none⟩ v).heap[g]? = some (.cells (cs.setIfInBounds i v) t (0, 0)) := by
  simp only [World.setCell, Array.getElem?_modify, h]
  simp

/-- One element of the model is written. -/
theorem MRow.set (h : MRow w g M rest) {k : Nat} (hk : k < M.length) (x : Mb × Int) : MRow (((((w.setCell ⟨g, k * 5, none⟩ (.string x.1.addr)).setCell ⟨g, k * 5 + 1, none⟩ (.int .u64 x.1.tok)).setCell ⟨g, k * 5 + 1 + 1, none⟩ (.int .u8 x.1.st)).setCell ⟨g, k * 5 + 1 + 1 + 1, none⟩ (.int .u64 x.1.inc)).setCell ⟨g, k * 5 + 1 + 1 + 1 + 1, none⟩ (.int .i64 x.2)) g (M.set k x) rest := by
  unfold MRow
  rw [heap_setCell_same (heap_setCell_same (heap_setCell_same (heap_setCell_same (heap_setCell_same h _ _) _ _) _ _) _ _) _ _, ← set5 M rest k x hk]
  simp
end Go.Proofs.Ybulkejoc
