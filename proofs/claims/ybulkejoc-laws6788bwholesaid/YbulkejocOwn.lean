/- Slices of the call's own, by their very block: append, and what is kept. No Go text. -/
import Derived.WalkKit
import Derived.ProofKit
import Derived.Handy
import Derived.Laws.OwnMore
namespace Go.Proofs.Ybulkejoc
open Go Go.RowKit

theorem ownsRow_base {w : World} {b b' : Nat} {e : TypeId} {size : Nat} {v : Value} {n : Nat} {xs : List Value} (h : w.ownsRow b e size v n xs) (hb : b' ≤ b) : w.ownsRow b' e size v n xs := by
  refine ⟨h.1, ?_⟩
  rcases h.2 with h | ⟨g, cap, cur, h1, h2, h3⟩
  · exact Or.inl h
  · exact Or.inr ⟨g, cap, cur, h1, by omega, h3⟩

/-- append, where at least one element comes: the row stays where it is, or it lies in a new block. -/
theorem append_new {P : Program} (w : World) (t ty e : TypeId) (i : TypeInfo) (z : Value) (size bytes : Nat) (ht : P.underlying t = some (.slice e)) (hi : P.info? e = some i) (hz : i.zero = some z)
    (hsize : i.size = size) (hby : i.bytes = bytes) (hzs : z.cells.size = size) (hsz : 0 < size)
    (v : Value) (n : Nat) (xs : List Value) (hown : w.ownsRow 0 e size v n xs)
    (a : Addr) (m c : Nat) (news : List Value) (hm : 0 < m) (hl : news.length = m * size) (hnews : ∀ j u, news[j]? = some u → w.cell? (a.add j) = some u) (h1 : ∀ u ∈ news, u.oneCell' = true)
    (h63 : n + m ≤ maxLen) (hbytes : (n + m) * bytes ≤ 140737488355328) :
    ∃ g cap w', (Builtin.append_ #[t, t] ty #[v, .slice (some a) m c]).run P w = .ok (.slice (some ⟨g, 0, none⟩) (n + m) cap) w' ∧ w'.ownsRow 0 e size (.slice (some ⟨g, 0, none⟩) (n + m) cap) (n + m) (xs ++ news) ∧ w.grownBy w' v.ownBlock ∧
      (v.ownBlock = some g ∨ w.heap.size ≤ g) := by
  rcases hown.2 with ⟨rfl, rfl⟩ | ⟨g, cap, cur, rfl, hbg, hg, hnc, hcm, hcs, htake⟩
  · have hx : xs = [] := List.eq_nil_of_length_eq_zero (by simpa using hown.1)
    subst hx
    obtain ⟨v', w', hr, ho, hgr, _⟩ := run_append_own (P := P) w w.heap.size t ty e i z size bytes ht hi hz hsize hby hzs hsz _ 0 [] (World.ownsRow_nil _ _ _ _) a m c news hl hnews h1 h63 hbytes (Nat.le_refl _)
    rcases ho.2 with ⟨_, h0⟩ | ⟨g, cap, cur, rfl, hb, _⟩
    · omega
    · exact ⟨g, cap, w', hr, ownsRow_base ho (Nat.zero_le _), hgr, Or.inr hb⟩
  · by_cases hroom : n + m ≤ cap
    · obtain ⟨w', hr, ho, hgr⟩ := run_append_fits (P := P) w 0 t ty e i size ht hi hsize g n cap xs hown a m c news hl hnews h1 hroom
      exact ⟨g, cap, w', hr, ho, hgr, Or.inl rfl⟩
    · obtain ⟨v', w', hr, ho, hgr, _⟩ := run_append_own (P := P) w 0 t ty e i z size bytes ht hi hz hsize hby hzs hsz _ n xs hown a m c news hl hnews h1 h63 hbytes (Nat.zero_le _)
      subst hsize
      subst hby
      have h63' : n + m ≤ 9223372036854775807 := by simp only [maxLen] at h63; omega
      have hr2 := run_append_grow (P := P) w t ty e i z ht hi hz ⟨g, 0, none⟩ n cap xs hown.1 (hown.cells (g := g) rfl) a m c news hl hnews (by omega) (by omega) (growslice_fits (by omega) hbytes)
      rw [hr] at hr2
      injection hr2 with e1 e2
      subst e1
      exact ⟨w.heap.size, _, w', hr, ho, hgr, Or.inr (Nat.le_refl _)⟩

/-- All but the blocks S is kept. -/
structure Kept (S : Nat → Prop) (w w' : World) : Prop where
  os : w'.os = w.os
  tape : w'.tape = w.tape
  output : w'.output = w.output
  size : w.heap.size ≤ w'.heap.size
  block : ∀ k, k < w.heap.size → ¬ S k → w'.heap[k]? = w.heap[k]?

variable {S S' : Nat → Prop} {w w' w'' : World}

theorem Kept.refl (S : Nat → Prop) (w : World) : Kept S w w := ⟨rfl, rfl, rfl, Nat.le_refl _, fun _ _ _ => rfl⟩
theorem Kept.trans (h : Kept S w w') (k : Kept S' w' w'') (hs : ∀ j, j < w.heap.size → S' j → S j) : Kept S w w'' :=
  ⟨k.os.trans h.os, k.tape.trans h.tape, k.output.trans h.output, Nat.le_trans h.size k.size, fun j hj hn => (k.block j (Nat.lt_of_lt_of_le hj h.size) (fun hs' => hn (hs j hj hs'))).trans (h.block j hj hn)⟩
theorem Kept.mono (h : Kept S w w') (hs : ∀ j, S j → S' j) : Kept S' w w' := ⟨h.os, h.tape, h.output, h.size, fun j hj hn => h.block j hj (fun k => hn (hs j k))⟩
theorem Kept.drew (h : Kept S w w') : Kept S w w'.drew := ⟨h.os, h.tape, h.output, h.size, h.block⟩
theorem Kept.alloc (h : Kept S w w') (o : Obj) : Kept S w (w'.alloc o) :=
  h.trans (S' := fun _ => False) ⟨rfl, rfl, rfl, by simp, fun k hk _ => Below.heap_alloc _ _ _ hk⟩ (fun _ _ h => h.elim)
theorem Kept.setCell (h : Kept S w w') {a : Addr} (ha : a.block < w.heap.size → S a.block) (v : Value) : Kept S w (w'.setCell a v) :=
  h.trans (S' := fun k => k = a.block) ⟨rfl, rfl, rfl, by simp [World.setCell], fun k _ hn => Below.heap_setCell _ _ _ _ hn⟩ (fun j hj e => by subst e; exact ha hj)
theorem Kept.of_below {B : Nat} (h : Below B w w') (hB : w.heap.size ≤ B) : Kept S w w' := ⟨h.os, h.tape, h.output, h.size, fun k hk _ => h.block k (by omega)⟩
theorem Kept.of_grown {row : Option Nat} (h : w.grownBy w' row) (hs : ∀ k, k < w.heap.size → row = some k → S k) : Kept S w w' :=
  ⟨h.os, h.tape, h.output, h.size, fun k hk hn => h.block k hk (fun e => hn (hs k hk e.symm))⟩
theorem Kept.grown {row : Option Nat} (h : Kept S w w') (g : w'.grownBy w'' row) (hs : ∀ k, k < w.heap.size → row = some k → S k) : Kept S w w'' :=
  h.trans (S' := fun k => row = some k) (Kept.of_grown g (fun _ _ e => e)) hs
theorem Kept.below {B : Nat} (h : Kept S w w') (hs : ∀ k, k < B → ¬ S k) (hB : B ≤ w.heap.size) : Below B w w' := ⟨h.os, h.tape, h.output, h.size, fun k hk => h.block k (by omega) (hs k hk)⟩
theorem Kept.cell (h : Kept S w w') {a : Addr} (ha : a.block < w.heap.size) (hn : ¬ S a.block) : w'.cell? a = w.cell? a := World.cell?_of_block (h.block _ ha hn)
theorem Kept.frozen (h : Kept S w w') {a : Addr} (ha : a.block < w.heap.size) (hn : ¬ S a.block) : w'.frozen? a = w.frozen? a := World.frozen?_of_block (h.block _ ha hn)

theorem lt_of_heap {o : Obj} {k : Nat} (h : w.heap[k]? = some o) : k < w.heap.size := (Array.getElem?_eq_some_iff.1 h).1
theorem Kept.obj (h : Kept S w w') {k : Nat} {o : Obj} (ho : w.heap[k]? = some o) (hn : ¬ S k) : w'.heap[k]? = some o := (h.block k (lt_of_heap ho) hn).trans ho
end Go.Proofs.Ybulkejoc
