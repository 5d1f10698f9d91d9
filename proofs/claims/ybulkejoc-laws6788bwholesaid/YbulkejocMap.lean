/- The map of members that the law makes: string keys, pointers to entries. No Go text is walked here. -/
import Derived.Test.YbulkejocProg
import Derived.WalkKit
import Derived.ProofKit
import Derived.Handy
import Derived.MapKept
namespace Go.Proofs.Ybulkejoc
open Go Go.RowKit

/-- The entries of a map that was filled in this order. -/
def entsL : Nat → List (ByteArray × Nat) → List MapEntry
  | _, [] => []
  | i, x :: l => ⟨.string x.1, .pointer (some ⟨x.2, 0, none⟩), i⟩ :: entsL (i + 1) l
def ents (l : List (ByteArray × Nat)) : Array MapEntry := (entsL 0 l).toArray
theorem entsL_len : ∀ (l : List (ByteArray × Nat)) (i : Nat), (entsL i l).length = l.length
  | [], _ => rfl
  | _ :: l, i => by simp [entsL, entsL_len l (i + 1)]
theorem ents_size (l : List (ByteArray × Nat)) : (ents l).size = l.length := by simp [ents, entsL_len]
theorem entsL_snoc : ∀ (l : List (ByteArray × Nat)) (i : Nat) (x : ByteArray × Nat), entsL i (l ++ [x]) = entsL i l ++ [⟨.string x.1, .pointer (some ⟨x.2, 0, none⟩), i + l.length⟩]
  | [], i, x => rfl
  | y :: l, i, x => by simp only [List.cons_append, entsL, entsL_snoc l (i + 1) x, List.length_cons]; rw [show i + 1 + l.length = i + (l.length + 1) by omega]
theorem ents_push (l : List (ByteArray × Nat)) (a : ByteArray) (b : Nat) : (ents l).push ⟨.string a, .pointer (some ⟨b, 0, none⟩), l.length⟩ = ents (l ++ [(a, b)]) := by
  simp [ents, entsL_snoc]

theorem findNow_out (a : ByteArray) : ∀ (l : List (ByteArray × Nat)) (i j : Nat), (∀ x ∈ l, a ≠ x.1) → Instr.findNow .string (.string a) (entsL i l) j = some none
  | [], _, _, _ => rfl
  | x :: l, i, j, h => by
    have h1 : (a == x.1) = false := by have := h x (by simp); exact Bool.eq_false_iff.2 (fun e => this ((MapKept.bytes_beq _ _).1 e))
    simp only [entsL, Instr.findNow, Instr.sameNow, h1]
    exact findNow_out a l (i + 1) (j + 1) (fun y hy => h y (by simp [hy]))
theorem findNow_in (a : ByteArray) (b : Nat) : ∀ (l : List (ByteArray × Nat)) (i j : Nat), (l.map (·.1)).Nodup → (a, b) ∈ l → ∃ k, Instr.findNow .string (.string a) (entsL i l) j = some (some (k, .pointer (some ⟨b, 0, none⟩)))
  | x :: l, i, j, hn, h => by
    simp only [List.map_cons, List.nodup_cons] at hn
    rcases List.mem_cons.1 h with rfl | h
    · refine ⟨j, ?_⟩
      simp [entsL, Instr.findNow, Instr.sameNow, (MapKept.bytes_beq a a).2 rfl]
    · have h1 : (a == x.1) = false := by
        have : a ≠ x.1 := fun e => hn.1 (e ▸ List.mem_map_of_mem (f := (·.1)) h)
        exact Bool.eq_false_iff.2 (fun e => this ((MapKept.bytes_beq _ _).1 e))
      obtain ⟨k, hk⟩ := findNow_in a b l (i + 1) (j + 1) hn.2 h
      refine ⟨k, ?_⟩
      simp only [entsL, Instr.findNow, Instr.sameNow, h1]
      exact hk

variable {w : World} {mp clock : Nat} {l : List (ByteArray × Nat)}

theorem lookup_in (h : w.heap[mp]? = some (.map (ents l) clock)) (hn : (l.map (·.1)).Nodup) {a : ByteArray} {b : Nat} (hm : (a, b) ∈ l) (ok : Bool) :
    (Instr.lookup 39 (.map (some mp)) (.string a) ok).run Yba.prog w = .ok (if ok then .tuple #[.pointer (some ⟨b, 0, none⟩), .bool true] else .pointer (some ⟨b, 0, none⟩)) w := by
  obtain ⟨k, hk⟩ := findNow_in a b l 0 0 hn hm
  have hf := MapKept.run_findKey (P := Yba.prog) (w := w) (kt := 9) Yba.underlying9 hk
  have hc : (Instr.checkKey (ents l).isEmpty 10000 9 (.string a)).run Yba.prog w = .ok () w := MapKept.run_checkKey (k := .string a) Yba.underlying9 (by simp [MapKept.IsKey]) _ 9999
  cases ok <;> simp [Instr.lookup, run_underlying Yba.underlying39, MapKept.run_getObj_map h, hc, show (ents l).toList = entsL 0 l from rfl, hf, Result.andThen]
theorem lookup_out (h : w.heap[mp]? = some (.map (ents l) clock)) {a : ByteArray} (hm : ∀ x ∈ l, a ≠ x.1) :
    (Instr.lookup 39 (.map (some mp)) (.string a) true).run Yba.prog w = .ok (.tuple #[.pointer none, .bool false]) w := by
  have hk := findNow_out a l 0 0 hm
  have hf := MapKept.run_findKey (P := Yba.prog) (w := w) (kt := 9) Yba.underlying9 hk
  have hc : (Instr.checkKey (ents l).isEmpty 10000 9 (.string a)).run Yba.prog w = .ok () w := MapKept.run_checkKey (k := .string a) Yba.underlying9 (by simp [MapKept.IsKey]) _ 9999
  simp [Instr.lookup, run_underlying Yba.underlying39, MapKept.run_getObj_map h, hc, show (ents l).toList = entsL 0 l from rfl, hf, Result.andThen]
theorem update_out (h : w.heap[mp]? = some (.map (ents l) l.length)) {a : ByteArray} (hm : ∀ x ∈ l, a ≠ x.1) (b : Nat) :
    (Instr.mapUpdate 39 (.map (some mp)) (.string a) (.pointer (some ⟨b, 0, none⟩))).run Yba.prog w = .ok () { w with heap := w.heap.setIfInBounds mp (.map (ents (l ++ [(a, b)])) (l ++ [(a, b)]).length) } := by
  have hk := findNow_out a l 0 0 hm
  have hf := MapKept.run_findKey (P := Yba.prog) (w := w) (kt := 9) Yba.underlying9 hk
  have hc : (Instr.checkKey false 10000 9 (.string a)).run Yba.prog w = .ok () w := MapKept.run_checkKey (k := .string a) Yba.underlying9 (by simp [MapKept.IsKey]) _ 9999
  simp [Instr.mapUpdate, run_underlying Yba.underlying39, MapKept.run_getObj_map h, hc, show (ents l).toList = entsL 0 l from rfl, hf, MapKept.run_setObj_map _ h, Result.andThen, ents_push]
end Go.Proofs.Ybulkejoc
