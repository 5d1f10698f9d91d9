/- What the law's closure 'yield' records, in memory. No Go text is walked here. -/
import Derived.Test.YbulkejpeDoorProg
import Derived.Test.YbulkejpeDoorOwn
import Derived.Test.YbulkejpeDoorRng
namespace Go.Proofs.YbulkejpeDoor
open Go Go.ChangeShapes Go.WideShapes Go.ChangeAt Go.RowKit

structure Mv where
  o : Int
  k : Int
  v : Int
  rd : Int
  cm : Int
  kp : Int
  ep : Int
def Mv.cells (m : Mv) : List Value := [.int .i64 m.o, .int .i64 m.k, .int .i64 m.v, .int .i64 m.rd, .int .i64 m.cm, .int .i64 m.kp, .int .i64 m.ep]
structure Wr where
  te : Int
  tc : Int
  key : Int
  val : Int
  st : Int
def Wr.cells (w : Wr) : List Value := [.int .i64 w.te, .int .i64 w.tc, .int .i64 w.key, .int .i64 w.val, .int .i64 w.st]
def wcells (ws : List Wr) : List Value := ws.flatMap Wr.cells
def ecells (E : List (ByteArray × ByteArray)) : List Value := E.flatMap fun p => [.string p.1, .string p.2]
/-- One call of yield: the move, the state it leads to (its log: the first k entries), its writes. -/
structure Ev where
  m : Mv
  lev : Int
  r : Int
  c : Int
  e : Int
  k : Nat
  ws : List Wr
/-- A record's cells; L: the state's slice of the log; vl, vw: the slices of the copies. -/
def Ev.cells (x : Ev) (L vl vw : Value) : List Value := x.m.cells ++ [.int .i64 x.lev, L, .int .i64 x.r, .int .i64 x.c, .int .i64 x.e, vl, vw]
def gcells : List Ev → List (Value × Value × Value) → List Value
  | x :: G, u :: us => x.cells u.1 u.2.1 u.2.2 ++ gcells G us
  | _, _ => []
theorem gcells_snoc (x : Ev) (u : Value × Value × Value) : ∀ (G : List Ev) (us : List (Value × Value × Value)), us.length = G.length → gcells (G ++ [x]) (us ++ [u]) = gcells G us ++ x.cells u.1 u.2.1 u.2.2
  | [], [], _ => by simp [gcells]
  | y :: G, w :: us, h => by
    simp only [List.cons_append, gcells, List.append_assoc]
    rw [gcells_snoc x u G us (by simpa using h)]
  | [], _ :: _, h => by simp at h
  | _ :: _, [], h => by simp at h
theorem wcells_len (ws : List Wr) : (wcells ws).length = ws.length * 5 := by
  induction ws with
  | nil => rfl
  | cons x ws ih => simp only [wcells, List.flatMap_cons, List.length_append, List.length_cons] at ih ⊢; rw [ih]; simp [Wr.cells]; omega
theorem ecells_len (E : List (ByteArray × ByteArray)) : (ecells E).length = E.length * 2 := by
  induction E with
  | nil => rfl
  | cons x E ih => simp only [ecells, List.flatMap_cons, List.length_append, List.length_cons] at ih ⊢; rw [ih]; simp; omega

theorem info28 : (Ybad.prog.info? 28).map (fun i => (i.zero, i.size, i.bytes)) = some (some (.agg #[.string ByteArray.empty, .string ByteArray.empty]), 2, 32) := by kernel_rfl
theorem info39 : (Ybad.prog.info? 39).map (fun i => (i.zero, i.size, i.bytes)) = some (some (.agg #[.int .i64 0, .int .i64 0, .int .i64 0, .int .i64 0, .int .i64 0]), 5, 40) := by kernel_rfl
theorem info75 : (Ybad.prog.info? 75).map (fun i => (i.zero, i.size, i.bytes)) = some (some (.agg #[.int .i64 0, .int .i64 0, .int .i64 0, .int .i64 0, .int .i64 0, .int .i64 0, .int .i64 0, .int .i64 0, .slice none 0 0, .int .i64 0, .int .i64 0, .int .i64 0, .slice none 0 0, .slice none 0 0]), 14, 160) := by kernel_rfl

/-- What has been recorded; T: blocks that the records leave alone. -/
structure RecAt (B cb rb lb : Nat) (lim : Int) (E : List (ByteArray × ByteArray)) (T : Nat → Prop) (G : List Ev) (W : World) : Prop where
  calls : Boxed W cb 3 (.int .i64 (G.length : Int))
  lim' : Boxed W lb 3 (.int .i64 lim)
  recs : ∃ (v : Value) (us : List (Value × Value × Value)), Boxed W rb 68 v ∧ (∀ b, v.ownBlock = some b → ¬ T b) ∧ us.length = G.length ∧ W.ownsRow B 75 14 v G.length (gcells G us) ∧
    ∀ i (hi : i < G.length) (hu : i < us.length), (us[i].1.oneCell' = true) ∧ W.ownsRow B 28 2 us[i].2.1 G[i].k (ecells (E.take G[i].k)) ∧ W.ownsRow B 39 5 us[i].2.2 G[i].ws.length (wcells G[i].ws)
  tc : ¬ T cb
  tr : ¬ T rb
  cr : cb ≠ rb
  cl : lb ≠ cb
  many : G.length ≤ 300000

variable {B cb rb lb : Nat} {lim : Int} {E : List (ByteArray × ByteArray)}

theorem row_turn {w w' : World} {B e z n : Nat} {v : Value} {xs : List Value} (h : w.ownsRow B e z v n xs) {row : Option Nat} (hg : w.grownBy w' row) (hr : ∀ r, row = some r → ∃ o : Obj, w.heap[r]? = some o ∧ o.isCells = false) : w'.ownsRow B e z v n xs := by
  refine ownsRow_block h fun b hb => hg.block b (ownsRow_lt h hb).2 (fun e => ?_)
  obtain ⟨o, ho, hc⟩ := hr b e.symm
  rcases h.2 with ⟨e1, _⟩ | ⟨g1, cap1, cur1, e1, _, t1, _⟩
  · rw [e1] at hb; simp [Value.ownBlock] at hb
  · rw [e1] at hb
    simp only [Value.ownBlock, Option.some.injEq] at hb
    subst hb
    rw [t1] at ho
    cases ho
    cases hc

theorem RecAt.abide (B₀ : Nat) : Abide B₀ (fun T G W => RecAt B cb rb lb lim E T G W) := by
  refine ⟨fun T G W W' row h hg hr => ?_, fun T G W W' h hg => ?_, fun T T' G W h hs => ?_⟩
  · have hr' : ∀ r, row = some r → ∃ o : Obj, W.heap[r]? = some o ∧ o.isCells = false := fun r e => (hr r e).2
    obtain ⟨v, us, r1, r2, r3, r4, r5⟩ := h.recs
    exact ⟨boxed_own cb 3 (fun (_ : Unit) => _) () W W' row h.calls hg hr', boxed_own lb 3 (fun (_ : Unit) => _) () W W' row h.lim' hg hr', ⟨v, us, boxed_own rb 68 (fun (_ : Unit) => _) () W W' row r1 hg hr', r2, r3, row_turn r4 hg hr', fun i hi hu => ⟨(r5 i hi hu).1, row_turn (r5 i hi hu).2.1 hg hr', row_turn (r5 i hi hu).2.2 hg hr'⟩⟩, h.tc, h.tr, h.cr, h.cl, h.many⟩
  · have hr' : ∀ r, (none : Option Nat) = some r → ∃ o : Obj, W.heap[r]? = some o ∧ o.isCells = false := fun r e => by cases e
    obtain ⟨v, us, r1, r2, r3, r4, r5⟩ := h.recs
    refine ⟨boxed_own cb 3 (fun (_ : Unit) => _) () W W' none h.calls hg hr', boxed_own lb 3 (fun (_ : Unit) => _) () W W' none h.lim' hg hr', ⟨v, us, boxed_own rb 68 (fun (_ : Unit) => _) () W W' none r1 hg hr', ?_, r3, row_turn r4 hg hr', fun i hi hu => ⟨(r5 i hi hu).1, row_turn (r5 i hi hu).2.1 hg hr', row_turn (r5 i hi hu).2.2 hg hr'⟩⟩, ?_, ?_, h.cr, h.cl, h.many⟩
    · rintro b hb (h1 | h1)
      · exact r2 b hb h1
      · have := (ownsRow_lt r4 hb).2; omega
    · rintro (h1 | h1)
      · exact h.tc h1
      · have := h.calls.lt; omega
    · rintro (h1 | h1)
      · exact h.tr h1
      · have := r1.lt; omega
  · obtain ⟨v, us, r1, r2, r3⟩ := h.recs
    exact ⟨h.calls, h.lim', ⟨v, us, r1, fun b hb ht => r2 b hb (hs b ht), r3⟩, fun ht => h.tc (hs _ ht), fun ht => h.tr (hs _ ht), h.cr, h.cl, h.many⟩
end Go.Proofs.YbulkejpeDoor
