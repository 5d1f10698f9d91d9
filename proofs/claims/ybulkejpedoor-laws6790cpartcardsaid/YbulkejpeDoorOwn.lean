/- Slices of the call's own, by their very block: append, and what is kept. No Go text. -/
import Derived.WalkKit
import Derived.ProofKit
import Derived.Handy
import Derived.Laws.OwnMore
import Derived.Deep.AppendLies
import Derived.Deep.QuietTactic
namespace Go.Proofs.YbulkejpeDoor
open Go Go.ChangeShapes Go.WideShapes Go.ChangeAt Go.RowKit

theorem ownsRow_base {w : World} {b b' : Nat} {e : TypeId} {size : Nat} {v : Value} {n : Nat} {xs : List Value} (h : w.ownsRow b e size v n xs) (hb : b' ≤ b) : w.ownsRow b' e size v n xs := by
  refine ⟨h.1, ?_⟩
  rcases h.2 with h | ⟨g, cap, cur, h1, h2, h3⟩
  · exact Or.inl h
  · exact Or.inr ⟨g, cap, cur, h1, by omega, h3⟩

/-- All but the blocks S is kept. -/
structure Kept (S : Nat → Prop) (w w' : World) : Prop where
  os : w'.os = w.os
  tape : w'.tape = w.tape
  output : w'.output = w.output
  size : w.heap.size ≤ w'.heap.size
  block : ∀ k, k < w.heap.size → ¬ S k → w'.heap[k]? = w.heap[k]?

variable {S S' : Nat → Prop} {w w' w'' : World}

theorem Kept.refl (S : Nat → Prop) (w : World) : Kept S w w := ⟨rfl, rfl, rfl, Nat.le_refl _, fun _ _ _ => rfl⟩
theorem Kept.trans (h : Kept S w w') (k : Kept S' w' w'') (hs : ∀ j, j < w.heap.size → S' j → S j) : Kept S w w'' :=
  ⟨k.os.trans h.os, k.tape.trans h.tape, k.output.trans h.output, Nat.le_trans h.size k.size, fun j hj hn => (k.block j (Nat.lt_of_lt_of_le hj h.size) (fun hs' => hn (hs j hj hs'))).trans (h.block j hj hn)⟩
theorem Kept.mono (h : Kept S w w') (hs : ∀ j, S j → S' j) : Kept S' w w' := ⟨h.os, h.tape, h.output, h.size, fun j hj hn => h.block j hj (fun k => hn (hs j k))⟩
theorem Kept.drew (h : Kept S w w') : Kept S w w'.drew := ⟨h.os, h.tape, h.output, h.size, h.block⟩
theorem Kept.alloc (h : Kept S w w') (o : Obj) : Kept S w (w'.alloc o) :=
  h.trans (S' := fun _ => False) ⟨rfl, rfl, rfl, by simp, fun k hk _ => Below.heap_alloc _ _ _ hk⟩ (fun _ _ h => h.elim)
theorem Kept.setCell (h : Kept S w w') {a : Addr} (ha : a.block < w.heap.size → S a.block) (v : Value) : Kept S w (w'.setCell a v) :=
  h.trans (S' := fun k => k = a.block) ⟨rfl, rfl, rfl, by simp [World.setCell], fun k _ hn => Below.heap_setCell _ _ _ _ hn⟩ (fun j hj e => by subst e; exact ha hj)
theorem Kept.of_below {B : Nat} (h : Below B w w') (hB : w.heap.size ≤ B) : Kept S w w' := ⟨h.os, h.tape, h.output, h.size, fun k hk _ => h.block k (by omega)⟩
theorem Kept.of_grown {row : Option Nat} (h : w.grownBy w' row) (hs : ∀ k, k < w.heap.size → row = some k → S k) : Kept S w w' :=
  ⟨h.os, h.tape, h.output, h.size, fun k hk hn => h.block k hk (fun e => hn (hs k hk e.symm))⟩
theorem Kept.grown {row : Option Nat} (h : Kept S w w') (g : w'.grownBy w'' row) (hs : ∀ k, k < w.heap.size → row = some k → S k) : Kept S w w'' :=
  h.trans (S' := fun k => row = some k) (Kept.of_grown g (fun _ _ e => e)) hs
theorem Kept.below {B : Nat} (h : Kept S w w') (hs : ∀ k, k < B → ¬ S k) (hB : B ≤ w.heap.size) : Below B w w' := ⟨h.os, h.tape, h.output, h.size, fun k hk => h.block k (by omega) (hs k hk)⟩
theorem Kept.cell (h : Kept S w w') {a : Addr} (ha : a.block < w.heap.size) (hn : ¬ S a.block) : w'.cell? a = w.cell? a := World.cell?_of_block (h.block _ ha hn)
theorem Kept.frozen (h : Kept S w w') {a : Addr} (ha : a.block < w.heap.size) (hn : ¬ S a.block) : w'.frozen? a = w.frozen? a := World.frozen?_of_block (h.block _ ha hn)

theorem lt_of_heap {o : Obj} {k : Nat} (h : w.heap[k]? = some o) : k < w.heap.size := (Array.getElem?_eq_some_iff.1 h).1
theorem Kept.obj (h : Kept S w w') {k : Nat} {o : Obj} (ho : w.heap[k]? = some o) (hn : ¬ S k) : w'.heap[k]? = some o := (h.block k (lt_of_heap ho) hn).trans ho


theorem cell_of_block {w : World} {g : Nat} {cs : Array Value} {t : TypeId} {fz : Nat × Nat} (h : w.heap[g]? = some (.cells cs t fz)) (i : Nat) : w.cell? ⟨g, i, none⟩ = cs[i]? := by
  simp [World.cell?, h]
theorem frozen_of_block {w : World} {g : Nat} {cs : Array Value} {t : TypeId} (h : w.heap[g]? = some (.cells cs t (0, 0))) (i : Nat) : w.frozen? ⟨g, i, none⟩ = false := by
  simp [World.frozen?, h]

section
variable {v : Value}
theorem ownsRow_block {B e size n : Nat} {xs : List Value} {w1 w2 : World} (h : w1.ownsRow B e size v n xs) (hb : ∀ b, v.ownBlock = some b → w2.heap[b]? = w1.heap[b]?) : w2.ownsRow B e size v n xs := by
  refine ⟨h.1, ?_⟩
  rcases h.2 with h | ⟨g, cap, cur, rfl, h2, h3, h4⟩
  · exact Or.inl h
  · exact Or.inr ⟨g, cap, cur, rfl, h2, (hb g rfl).trans h3, h4⟩
theorem ownsRow_lt {B e size n : Nat} {xs : List Value} {w1 : World} (h : w1.ownsRow B e size v n xs) {b : Nat} (hb : v.ownBlock = some b) : B ≤ b ∧ b < w1.heap.size := by
  rcases h.2 with ⟨rfl, _⟩ | ⟨g, cap, cur, rfl, h2, h3, h4⟩
  · simp [Value.ownBlock] at hb
  · simp only [Value.ownBlock, Option.some.injEq] at hb
    subst hb
    exact ⟨h2, lt_of_heap h3⟩

end
section
variable {w w' : World} {B B' e e' z z' n n' : Nat} {v v' : Value} {xs xs' : List Value}
/-- Rows of different types lie in different blocks. -/
theorem own_ne (h : w.ownsRow B e z v n xs) (h' : w.ownsRow B' e' z' v' n' xs') (he : e ≠ e') {b : Nat} (hb : v.ownBlock = some b) : v'.ownBlock ≠ some b := by
  intro hb'
  rcases h.2 with ⟨e1, _⟩ | ⟨g1, cap1, cur1, e1, _, t1, _⟩
  · rw [e1] at hb; simp [Value.ownBlock] at hb
  · rcases h'.2 with ⟨e2, _⟩ | ⟨g2, cap2, cur2, e2, _, t2, _⟩
    · rw [e2] at hb'; simp [Value.ownBlock] at hb'
    · rw [e1] at hb; rw [e2] at hb'
      simp only [Value.ownBlock, Option.some.injEq] at hb hb'
      subst hb hb'
      rw [t1] at t2
      injection t2 with t3
      injection t3 with _ t4
      exact he t4
theorem own_kept {S : Nat → Prop} (h : w.ownsRow B e z v n xs) (k : Kept S w w') (hs : ∀ b, v.ownBlock = some b → ¬ S b) : w'.ownsRow B e z v n xs :=
  ownsRow_block h fun b hb => k.block b (ownsRow_lt h hb).2 (hs b hb)

end
theorem own_form {w : World} {B e z n : Nat} {v : Value} {xs : List Value} (h : w.ownsRow B e z v n xs) : ∃ A cap, v = .slice A n cap := by
  rcases h.2 with ⟨rfl, rfl⟩ | ⟨g, cap, _, rfl, _⟩
  · exact ⟨none, 0, rfl⟩
  · exact ⟨_, cap, rfl⟩

/-- A row's cells. -/
theorem own_cells {w : World} {B e z n : Nat} {v : Value} {xs : List Value} (h : w.ownsRow B e z v n xs) : (v = .slice none 0 0 ∧ n = 0) ∨ ∃ g cap, v = .slice (some ⟨g, 0, none⟩) n cap ∧ g < w.heap.size ∧ ∀ i, i < n * z → w.cell? ⟨g, i, none⟩ = xs[i]? := by
  rcases h.2 with h | ⟨g, cap, cur, h1, h2, h3, h4, h5, h6, h7⟩
  · exact Or.inl h
  · refine Or.inr ⟨g, cap, h1, lt_of_heap h3, fun i hi => ?_⟩
    rw [cell_of_block h3, ← h7, List.getElem?_take, if_pos hi]
    simp

theorem obj_own_ne {w : World} {b t : Nat} {cs : Array Value} (h : w.heap[b]? = some (.cells cs t (0, 0))) {B e z n : Nat} {v : Value} {xs : List Value} (h' : w.ownsRow B e z v n xs) (he : e ≠ t) : v.ownBlock ≠ some b := by
  intro hb
  rcases h'.2 with ⟨e1, _⟩ | ⟨g1, cap1, cur1, e1, _, t1, _⟩
  · rw [e1] at hb; simp [Value.ownBlock] at hb
  · rw [e1] at hb
    simp only [Value.ownBlock, Option.some.injEq] at hb
    subst hb
    rw [t1] at h
    injection h with t3
    injection t3 with _ t4
    exact he t4

/-- append of one element that lies in a block of its own, made last. -/
theorem append_one {P : Program} {t e : TypeId} {size bytes : Nat} {zv : Value} (ht : P.underlying t = some (.slice e)) (hi : (P.info? e).map (fun i => (i.zero, i.size, i.bytes)) = some (some zv, size, bytes)) (hzs : zv.cells.size = size) (hsz : 0 < size)
    {w : World} {B : Nat} {v : Value} {n : Nat} {xs : List Value} (hown : w.ownsRow B e size v n xs) (hB : B ≤ w.heap.size) (cs : Array Value) (hl : cs.size = size) (h1 : ∀ u ∈ cs.toList, u.oneCell' = true) (hn : n ≤ 100000) (hby : bytes ≤ 1000) :
    ∃ g cap w', (Builtin.append_ #[t, t] t #[v, .slice (some ⟨w.heap.size, 0, none⟩) 1 1]).run P (w.alloc (.cells cs e)) = .ok (.slice (some ⟨g, 0, none⟩) (n + 1) cap) w' ∧ w'.ownsRow B e size (.slice (some ⟨g, 0, none⟩) (n + 1) cap) (n + 1) (xs ++ cs.toList) ∧ Kept (fun b => v.ownBlock = some b) w w' := by
  obtain ⟨i0, hi0, hz0, hz1, hz2⟩ := info_parts hi
  have hown' := hown.alloc (.cells cs e)
  obtain ⟨v', w', hr, ho, hg, _⟩ := run_append_own (P := P) (w.alloc (.cells cs e)) B t t e i0 zv size bytes ht hi0 hz0 hz1 hz2 hzs hsz v n xs hown' ⟨w.heap.size, 0, none⟩ 1 1 cs.toList (by simp [hl]) (World.news_of_block (cs := cs) (t := e) (fr := (0, 0)) (heap_alloc_new w _)) h1 (by unfold maxLen; omega) (by
      have : (n + 1) * bytes ≤ 100001 * 1000 := Nat.mul_le_mul (by omega) hby
      omega) (by simp; omega)
  rcases ho.2 with ⟨_, h0⟩ | ⟨g, cap, _, rfl, _⟩
  · omega
  · refine ⟨g, cap, w', hr, ho, ?_⟩
    exact (Kept.of_below (S := fun b => v.ownBlock = some b) ((Below.refl w.heap.size w).alloc (Nat.le_refl _) _) (Nat.le_refl _)).grown hg (fun _ _ e => e)

theorem wpList_append_eq {P : Program} {ops : Array Oper} {rest : List Oper} {o : Oper} {a : Act} {w : World} {Q : Exit → Act → World → Prop} (hgd : o.guard = none) (s x : Operand) (t : TypeId)
    (ho : o.op = .call { callee := .builtin .append, args := #[s, x], argTypes := #[t, t] }) (v u v' : Value) (w' : World) (hs : a.eval s = v) (hx : a.eval x = u)
    (hr : (Builtin.append_ #[t, t] o.type #[v, u]).run P w = .ok v' w') (h : wpList P ops Q rest (a.put o.dst v') w') : wpList P ops Q (o :: rest) a w :=
  wpList_plain hgd fun _ hK => by
    unfold Oper.wp execOp
    simp only [ho, resolve, invoke, builtin, Sem.run_bind, Sem.run_pure, Result.andThen_ok, List.map_toArray, List.map_cons, List.map_nil, hs, hx, hr]
    exact hK _ _ h
theorem heap_setCell_same {w : World} {g : Nat} {cs : Array Value} {t : TypeId} (h : w.heap[g]? = some (.cells cs t (0, 0))) (i : Nat) (v : Value) : (w.setCell ⟨g, i, none⟩ v).heap[g]? = some (.cells (cs.setIfInBounds i v) t (0, 0)) := by
  simp only [World.setCell, Array.getElem?_modify, h]
  simp
theorem Kept.drewN {S : Nat → Prop} {w w' : World} (h : Kept S w w') (n : Nat) : Kept S w (w'.drewN n) := ⟨h.os, h.tape, h.output, h.size, h.block⟩
end Go.Proofs.YbulkejpeDoor
