/- What the law expects, in memory. No Go text is walked here. -/
import Derived.Test.YbulkejpeDoorLm
namespace Go.Proofs.YbulkejpeDoor
open Go Go.ChangeShapes Go.WideShapes Go.ChangeAt Go.RowKit

def Xp.cells (x : Xp) (b cap : Nat) : List Value := x.m.cells ++ [.int .i64 x.lev, .slice (some ⟨b, 0, none⟩) x.k cap, .int .i64 x.r, .int .i64 x.c, .int .i64 x.e, .int .i64 x.i, .int .i64 x.stt, .bool x.opt]
def xcells (X : List (Xp × Nat × Nat)) : List Value := X.flatMap fun p => p.1.cells p.2.1 p.2.2
theorem Xp.cells_len (x : Xp) (b cap : Nat) : (x.cells b cap).length = 15 := rfl
theorem xcells_at {X : List (Xp × Nat × Nat)} {j : Nat} {p : Xp × Nat × Nat} (h : X[j]? = some p) : ∀ o, o < 15 → (xcells X)[j * 15 + o]? = (p.1.cells p.2.1 p.2.2)[o]? := by
  induction X generalizing j with
  | nil => simp at h
  | cons q X ih =>
    intro o ho
    simp only [xcells, List.flatMap_cons] at ih ⊢
    cases j with
    | zero =>
      simp only [List.getElem?_cons_zero, Option.some.injEq] at h
      subst h
      rw [List.getElem?_append_left (by rw [Xp.cells_len]; omega)]
      simp
    | succ j =>
      rw [List.getElem?_append_right (by rw [Xp.cells_len]; omega), ← ih (j := j) (by simpa using h) o ho]
      congr 1
      rw [Xp.cells_len]
      omega
theorem info80 : (Ybad.prog.info? 80).map (fun i => (i.zero, i.size, i.bytes)) = some (some (.agg #[.int .i64 0, .int .i64 0, .int .i64 0, .int .i64 0, .int .i64 0, .int .i64 0, .int .i64 0, .int .i64 0, .slice none 0 0, .int .i64 0, .int .i64 0, .int .i64 0, .int .i64 0, .int .i64 0, .bool false]), 15, 136) := by kernel_rfl

structure ExpAt (w1 : World) (X : List (Xp × Nat × Nat)) (v : Value) (W : World) : Prop where
  own : W.ownsRow w1.heap.size 80 15 v X.length (xcells X)
  kp : Kept (fun _ => False) w1 W

theorem ExpAt.kept {w1 W W' : World} {X : List (Xp × Nat × Nat)} {v : Value} (h : ExpAt w1 X v W) (k : Kept (fun _ => False) W W') : ExpAt w1 X v W' := ⟨own_kept h.own k (fun _ _ e => e), h.kp.trans k (fun _ _ e => e)⟩

theorem ExpAt.push {w1 W W' : World} {X : List (Xp × Nat × Nat)} {v : Value} (h : ExpAt w1 X v W) (k : Kept (fun _ => False) W W') (x : Xp) (b cap : Nat) (hX : X.length ≤ 300000) :
    ∃ g gcap w', (Builtin.append_ #[78, 78] 78 #[v, .slice (some ⟨W'.heap.size, 0, none⟩) 1 1]).run Ybad.prog (W'.alloc (.cells (x.cells b cap).toArray 80)) = .ok (.slice (some ⟨g, 0, none⟩) (X.length + 1) gcap) w' ∧ ExpAt w1 (X ++ [(x, b, cap)]) (.slice (some ⟨g, 0, none⟩) (X.length + 1) gcap) w' ∧
      ∀ (o : Nat) (cs : Array Value) (t : TypeId), W'.heap[o]? = some (.cells cs t (0, 0)) → t ≠ 80 → w'.heap[o]? = W'.heap[o]? := by
  have h' := h.kept k
  obtain ⟨i0, hi0, hz0, hz1, hz2⟩ := info_parts info80
  have hown' := h'.own.alloc (.cells (x.cells b cap).toArray 80)
  have hz := h'.kp.size
  obtain ⟨v', w', hr, ho, hg, _⟩ := run_append_own (P := Ybad.prog) (W'.alloc (.cells (x.cells b cap).toArray 80)) w1.heap.size 78 78 80 i0 _ 15 136 Ybad.underlying78 hi0 hz0 hz1 hz2 rfl (by omega) v X.length (xcells X) hown' ⟨W'.heap.size, 0, none⟩ 1 1 (x.cells b cap) (by simp [Xp.cells_len]) (World.news_of_block (cs := (x.cells b cap).toArray) (t := 80) (fr := (0, 0)) (heap_alloc_new W' _)) (by
      intro u hu
      simp only [Xp.cells, Mv.cells, List.cons_append, List.nil_append, List.mem_cons, List.not_mem_nil, or_false] at hu
      rcases hu with rfl | rfl | rfl | rfl | rfl | rfl | rfl | rfl | rfl | rfl | rfl | rfl | rfl | rfl | rfl <;> rfl) (by unfold maxLen; omega) (by omega) (by simp; omega)
  have kk : Kept (fun b => v.ownBlock = some b) W' w' := (Kept.of_below (S := fun b => v.ownBlock = some b) ((Below.refl W'.heap.size W').alloc (Nat.le_refl _) _) (Nat.le_refl _)).grown hg (fun _ _ e => e)
  rcases ho.2 with ⟨_, h0⟩ | ⟨g, gcap, _, rfl, _⟩
  · omega
  · refine ⟨g, gcap, w', hr, ⟨?_, h'.kp.trans kk (fun j hj e => ?_)⟩, fun o cs t hb ht => kk.block o (lt_of_heap hb) (obj_own_ne hb h'.own (Ne.symm ht))⟩
    · simpa [xcells] using ho
    · have := (ownsRow_lt h'.own e).1
      omega

/-- A write's two. -/
def xpE (lev e r c : Int) (n : Nat) (i : Nat) (w : Wr) : List Xp := if w.st = 0 then [⟨⟨2, w.key, w.val, 0, 0, 0, 0⟩, lev, r, c, e, n, i, 1, true⟩, ⟨⟨3, w.key, w.val, 0, 0, 0, 0⟩, lev, r, c, e, n, i, 2, false⟩] else []
def expTo (lev e r c : Int) (n : Nat) (ws : List Wr) : Nat → List Xp
  | 0 => []
  | j + 1 => expTo lev e r c n ws j ++ (match ws[j]? with | some w => xpE lev e r c n j w | none => [])
def xpS (lev e : Int) (n r c eb eb2 : Nat) : It → Xp × Nat × Nat
  | .inl x => (⟨⟨0, 0, 0, x.1, x.2, 0, 0⟩, lev, x.1, x.2, e, n, -1, 0, false⟩, eb, n)
  | .inr k => (⟨⟨0, 0, 0, 0, 0, k, e + 1⟩, lev, r, c, e + 1, k, -1, 0, false⟩, eb2, n)
def tag (eb n : Nat) (X : List Xp) : List (Xp × Nat × Nat) := X.map fun x => (x, eb, n)
theorem expTo_len (lev e r c : Int) (n : Nat) (ws : List Wr) : ∀ j, (expTo lev e r c n ws j).length ≤ 2 * j
  | 0 => by simp [expTo]
  | j + 1 => by
    have ih := expTo_len lev e r c n ws j
    simp only [expTo, List.length_append]
    cases ws[j]? with
    | none => simp; omega
    | some w =>
      have : (xpE lev e r c n j w).length ≤ 2 := by unfold xpE; split <;> simp
      simp only; omega
theorem tag_len (eb n : Nat) (X : List Xp) : (tag eb n X).length = X.length := by simp [tag]

/-- The block of the state's store. -/
def StB (W : World) (sb : Nat) (lev e : Int) (r c n eb : Nat) : Prop := W.heap[sb]? = some (.cells #[.int .i64 lev, .slice (some ⟨eb, 0, none⟩) n n, .int .i64 r, .int .i64 c, .int .i64 e] 31 (0, 0))
theorem StB.cells {W : World} {sb : Nat} {lev e : Int} {r c n eb : Nat} (h : StB W sb lev e r c n eb) : W.cell? ⟨sb, 0, none⟩ = some (.int .i64 lev) ∧ W.cell? ⟨sb, 1, none⟩ = some (.slice (some ⟨eb, 0, none⟩) n n) ∧ W.cell? ⟨sb, 2, none⟩ = some (.int .i64 r) ∧ W.cell? ⟨sb, 3, none⟩ = some (.int .i64 c) ∧ W.cell? ⟨sb, 4, none⟩ = some (.int .i64 e) := by
  refine ⟨?_, ?_, ?_, ?_, ?_⟩ <;> (rw [cell_of_block h]; rfl)
theorem five {w : World} {g : Nat} {a b c d e : Value} {t : TypeId} (h : w.heap[g]? = some (.cells #[a, b, c, d, e] t (0, 0))) :
    w.cell? ⟨g, 0, none⟩ = some a ∧ w.cell? ⟨g, 1, none⟩ = some b ∧ w.cell? ⟨g, 2, none⟩ = some c ∧ w.cell? ⟨g, 3, none⟩ = some d ∧ w.cell? ⟨g, 4, none⟩ = some e := by
  refine ⟨?_, ?_, ?_, ?_, ?_⟩ <;> (rw [cell_of_block h]; rfl)
end Go.Proofs.YbulkejpeDoor
