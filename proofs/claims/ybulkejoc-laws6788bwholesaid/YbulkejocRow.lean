/- The row of rumours as the sort sees it: 'SW w0 g rest d wr': wr is w0 but for block g, which holds pointers to the blocks d and, behind them, 'rest'; draws may have been made. -/
import Derived.Test.YbulkejocProg
import Derived.Test.YbulkejocStab
import Derived.WalkKit
import Derived.ProofKit
import Derived.Handy
import Derived.Deep.QuietTactic
import Derived.BigQuiet
namespace Go.Proofs.Ybulkejoc
open Go.ChangeShapes Go.WideShapes Go.ChangeAt Go.RowKit

/-- A pointer to the head of block k. -/
def ptr (k : Nat) : Value := .pointer (some ⟨k, 0, none⟩)

structure SW (w0 : World) (g : Nat) (rest : List Value) (d : List Nat) (wr : World) : Prop where
  row : wr.heap[g]? = some (.cells ((d.map ptr) ++ rest).toArray 52 (0, 0))
  os : wr.os = w0.os
  tape : wr.tape = w0.tape
  output : wr.output = w0.output
  size : wr.heap.size = w0.heap.size
  other : ∀ k, k ≠ g → wr.heap[k]? = w0.heap[k]?

theorem cell_of_block {w : World} {g : Nat} {cs : Array Value} {t : TypeId} {fz : Nat × Nat} (h : w.heap[g]? = some (.cells cs t fz)) (i : Nat) : w.cell? ⟨g, i, none⟩ = cs[i]? := by
  simp [World.cell?, h]
theorem frozen_of_block {w : World} {g : Nat} {cs : Array Value} {t : TypeId} (h : w.heap[g]? = some (.cells cs t (0, 0))) (i : Nat) : w.frozen? ⟨g, i, none⟩ = false := by
  simp [World.frozen?, h]

variable {w0 wr : World} {g : Nat} {rest : List Value} {d : List Nat}

theorem SW.cell (h : SW w0 g rest d wr) {i : Nat} (hi : i < d.length) : wr.cell? ⟨g, i, none⟩ = some (.pointer (some ⟨d[i], 0, none⟩)) := by
  rw [cell_of_block h.row]
  simp [List.getElem?_append_left, hi, ptr]
theorem SW.frozen (h : SW w0 g rest d wr) (i : Nat) : wr.frozen? ⟨g, i, none⟩ = false := frozen_of_block h.row i
theorem SW.cell_other (h : SW w0 g rest d wr) {k : Nat} (hk : k ≠ g) (j : Nat) : wr.cell? ⟨k, j, none⟩ = w0.cell? ⟨k, j, none⟩ := World.cell?_of_block (h.other k hk)
theorem SW.drew (h : SW w0 g rest d wr) : SW w0 g rest d wr.drew := ⟨h.row, h.os, h.tape, h.output, h.size, h.other⟩
theorem SW.drewN (h : SW w0 g rest d wr) (n : Nat) : SW w0 g rest d (wr.drewN n) := ⟨h.row, h.os, h.tape, h.output, h.size, h.other⟩

theorem SW.set (h : SW w0 g rest d wr) {i : Nat} (hi : i < d.length) (k : Nat) : SW w0 g rest (d.set i k) (wr.setCell ⟨g, i, none⟩ (.pointer (some ⟨k, 0, none⟩))) := by
  refine ⟨?_, h.os, h.tape, h.output, by simp [World.setCell, h.size], fun j hj => ?_⟩
  · have hr := h.row
    simp only [World.setCell, Array.getElem?_modify, hr]
    simp only [if_true, Option.map_some]
    congr 1
    congr 1
    simp [List.map_set, hi, ptr]
  · rw [Below.heap_setCell _ _ _ _ (by simpa using hj)]
    exact h.other j hj
end Go.Proofs.Ybulkejoc
