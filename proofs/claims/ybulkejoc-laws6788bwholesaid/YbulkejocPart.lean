/- Parts of the law's code, taken out of the translation by their blocks' and regions' numbers. -/
import Derived.Test.YbulkejocWant
import Derived.Test.YbulkejocLists
namespace Go.Proofs.Ybulkejoc
open Go.ChangeShapes Go.WideShapes Go.ChangeAt Go.RowKit

/-- The body of the block n. -/
def blk (n : Nat) : Code → Option Code
  | .block i c => if i = n then some c else blk n c
  | .seq a b => match blk n a with
    | some c => some c
    | none => blk n b
  | .cond _ a b => match blk n a with
    | some c => some c
    | none => blk n b
  | .loop c => blk n c
  | .scope c => blk n c
  | _ => none
/-- The first region of a text. -/
def headR : Code → Option Nat
  | .region i _ _ => some i
  | .seq a _ => headR a
  | .block _ c => headR c
  | _ => none
/-- The text from region n on. -/
def fromR (n : Nat) : Code → Option Code
  | .seq a b => if headR a = some n then some (.seq a b) else match fromR n a with
    | some c => some c
    | none => fromR n b
  | .block _ c => fromR n c
  | .cond _ a b => match fromR n a with
    | some c => some c
    | none => fromR n b
  | .loop c => fromR n c
  | .scope c => fromR n c
  | _ => none

theorem MRow.drewN {w : World} {g : Nat} {M : List (Mb × Int)} {rest : List Value} (h : MRow w g M rest) (n : Nat) : MRow (w.drewN n) g M rest := h
theorem Kept.drewN {S : Nat → Prop} {w w' : World} (h : Kept S w w') (n : Nat) : Kept S w (w'.drewN n) := ⟨h.os, h.tape, h.output, h.size, h.block⟩
theorem MRow.kept {w w' : World} {g : Nat} {M : List (Mb × Int)} {rest : List Value} {S : Nat → Prop} (h : MRow w g M rest) (k : Kept S w w') (hn : ¬ S g) : MRow w' g M rest := (k.block g (lt_of_heap h) hn).trans h
theorem MRow.alloc {w : World} {g : Nat} {M : List (Mb × Int)} {rest : List Value} (h : MRow w g M rest) (o : Obj) : MRow (w.alloc o) g M rest := (heap_alloc_old _ _ (lt_of_heap h)).trans h

/-- A row of the model that the law owns, opened and shut. -/
theorem MRow.of_own {w : World} {B n : Nat} {v : Value} {M : List (Mb × Int)} (h : w.ownsRow B 56 5 v n (rcells M)) (hn : n = M.length) :
    (v = .slice none 0 0 ∧ M = []) ∨ ∃ gb cap rest, v = .slice (some ⟨gb, 0, none⟩) n cap ∧ MRow w gb M rest ∧ ∀ w' M', M'.length = n → MRow w' gb M' rest → w'.ownsRow B 56 5 v n (rcells M') := by
  rcases h.2 with ⟨h1, h2⟩ | ⟨g, cap, cur, h1, h2, h3, h4, h5, h6, h7⟩
  · exact Or.inl ⟨h1, List.eq_nil_of_length_eq_zero (by omega)⟩
  · refine Or.inr ⟨g, cap, cur.toList.drop (n * 5), h1, ?_, ?_⟩
    · unfold MRow
      rw [h3, ← h7, List.take_append_drop]
    · intro w' M' hl hM
      refine ⟨by rw [rcells_len, hl], Or.inr ⟨g, cap, _, h1, h2, hM, h4, h5, ?_, ?_⟩⟩
      · have : cur.toList.length = cap * 5 := by simpa using h6
        simp only [List.size_toArray, List.length_append, rcells_len, hl, List.length_drop, this]
        have : n * 5 ≤ cap * 5 := Nat.mul_le_mul_right 5 h4
        omega
      · rw [List.take_append_of_le_length (by rw [rcells_len, hl]; exact Nat.le_refl _), List.take_of_length_le (by rw [rcells_len, hl]; exact Nat.le_refl _)]

/-- One packing step, cut in two. -/
def Pv.half (p : Pv) (r : Mb × Int) : Int × List Mb × (Mb × Int) := if p.fits r then (p.room - recF r.1, p.news ++ [r.1], (r.1, r.2 + 1)) else (p.room, p.news, r)
theorem Pv.step_half (lim : Int) (p : Pv) (r : Mb × Int) : Pv.step lim p r = ⟨(p.half r).1, (p.half r).2.1, if (p.half r).2.2.2 < lim then p.kept ++ [(p.half r).2.2] else p.kept⟩ := by
  unfold Pv.step Pv.half
  split <;> rfl
theorem Pv.run_next (lim room : Int) {M : List (Mb × Int)} {j : Nat} {r : Mb × Int} (hj : M[j]? = some r) : Pv.run lim room (M.take (j + 1)) = Pv.step lim (Pv.run lim room (M.take j)) r := by
  obtain ⟨h1, h2⟩ := List.getElem?_eq_some_iff.1 hj
  rw [List.take_succ_eq_append_getElem h1, h2, Pv.run_snoc]
/-- The numbers stay small. -/
theorem Pv.run_bd (lim room : Int) (M : List (Mb × Int)) (hM : ∀ r ∈ M, 0 < recF r.1) : (Pv.run lim room M).room ≤ room ∧ (room ≤ (Pv.run lim room M).room ∨ 0 ≤ (Pv.run lim room M).room) ∧ (Pv.run lim room M).news.length ≤ M.length ∧ (Pv.run lim room M).kept.length ≤ M.length := by
  have aux : ∀ (M : List (Mb × Int)) (p : Pv), (∀ r ∈ M, 0 < recF r.1) → (M.foldl (Pv.step lim) p).room ≤ p.room ∧ (p.room ≤ (M.foldl (Pv.step lim) p).room ∨ 0 ≤ (M.foldl (Pv.step lim) p).room) ∧ (M.foldl (Pv.step lim) p).news.length ≤ p.news.length + M.length ∧ (M.foldl (Pv.step lim) p).kept.length ≤ p.kept.length + M.length := by
    intro M
    induction M with
    | nil => intro p _; simp
    | cons r M ih =>
      intro p h
      have h1 := ih (Pv.step lim p r) (fun x hx => h x (by simp [hx]))
      have h0 := h r (by simp)
      have hs : (Pv.step lim p r).room ≤ p.room ∧ (p.room ≤ (Pv.step lim p r).room ∨ 0 ≤ (Pv.step lim p r).room) ∧ (Pv.step lim p r).news.length ≤ p.news.length + 1 ∧ (Pv.step lim p r).kept.length ≤ p.kept.length + 1 := by
        unfold Pv.step
        split
        · next hf =>
          simp only [Pv.fits, Bool.and_eq_true, decide_eq_true_eq] at hf
          refine ⟨by simp; omega, Or.inr (by simp; omega), by simp, ?_⟩
          dsimp only
          split <;> simp
        · refine ⟨by simp, Or.inl (by simp), by simp, ?_⟩
          dsimp only
          split <;> simp
      simp only [List.foldl_cons, List.length_cons]
      omega
  simpa [Pv.run] using aux M ⟨room, [], []⟩ hM
end Go.Proofs.Ybulkejoc
