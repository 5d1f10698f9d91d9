/- A frame by cells: all but the cells C is kept. And the plain text of one packet's packing. No Go text. -/
import Derived.Test.YbulkejocHas
import Derived.Laws.IdiomCopy
namespace Go.Proofs.Ybulkejoc
open Go.ChangeShapes Go.WideShapes Go.ChangeAt Go.RowKit

structure Fr (C : Nat → Nat → Prop) (w w' : World) : Prop where
  os : w'.os = w.os
  tape : w'.tape = w.tape
  output : w'.output = w.output
  size : w.heap.size ≤ w'.heap.size
  block : ∀ k, k < w.heap.size → (∀ o, ¬ C k o) → w'.heap[k]? = w.heap[k]?
  cell : ∀ k o, k < w.heap.size → ¬ C k o → w'.cell? ⟨k, o, none⟩ = w.cell? ⟨k, o, none⟩
  frozen : ∀ k o, k < w.heap.size → w'.frozen? ⟨k, o, none⟩ = w.frozen? ⟨k, o, none⟩

variable {C C' : Nat → Nat → Prop} {w w' w'' : World}

theorem Fr.refl (C : Nat → Nat → Prop) (w : World) : Fr C w w := ⟨rfl, rfl, rfl, Nat.le_refl _, fun _ _ _ => rfl, fun _ _ _ _ => rfl, fun _ _ _ => rfl⟩
theorem Fr.trans (h : Fr C w w') (k : Fr C' w' w'') (hs : ∀ j o, j < w.heap.size → C' j o → C j o) : Fr C w w'' where
  os := k.os.trans h.os
  tape := k.tape.trans h.tape
  output := k.output.trans h.output
  size := Nat.le_trans h.size k.size
  block := fun j hj hn => (k.block j (Nat.lt_of_lt_of_le hj h.size) (fun o hc => hn o (hs j o hj hc))).trans (h.block j hj hn)
  cell := fun j o hj hn => (k.cell j o (Nat.lt_of_lt_of_le hj h.size) (fun hc => hn (hs j o hj hc))).trans (h.cell j o hj hn)
  frozen := fun j o hj => (k.frozen j o (Nat.lt_of_lt_of_le hj h.size)).trans (h.frozen j o hj)
theorem Fr.mono (h : Fr C w w') (hs : ∀ j o, C j o → C' j o) : Fr C' w w' :=
  ⟨h.os, h.tape, h.output, h.size, fun k hk hn => h.block k hk (fun o hc => hn o (hs k o hc)), fun k o hk hn => h.cell k o hk (fun hc => hn (hs k o hc)), h.frozen⟩
/-- What writes in no old block at all. -/
theorem Fr.of_below {B : Nat} (h : Below B w w') (hB : w.heap.size ≤ B) : Fr C w w' :=
  ⟨h.os, h.tape, h.output, h.size, fun k hk _ => h.block k (by omega), fun k _ hk _ => World.cell?_of_block (h.block k (by omega)), fun k _ hk => World.frozen?_of_block (h.block k (by omega))⟩
theorem Fr.below (h : Fr C w w') {B : Nat} (hs : ∀ k o, k < B → ¬ C k o) (hB : B ≤ w.heap.size) : Below B w w' :=
  ⟨h.os, h.tape, h.output, h.size, fun k hk => h.block k (by omega) (fun o => hs k o hk)⟩
theorem Fr.drew (h : Fr C w w') : Fr C w w'.drew := ⟨h.os, h.tape, h.output, h.size, h.block, h.cell, h.frozen⟩
theorem Fr.drewN (h : Fr C w w') (n : Nat) : Fr C w (w'.drewN n) := ⟨h.os, h.tape, h.output, h.size, h.block, h.cell, h.frozen⟩
theorem Fr.alloc (h : Fr C w w') (o : Obj) : Fr C w (w'.alloc o) :=
  h.trans (C' := fun _ _ => False) (Fr.of_below (B := w'.heap.size) ((Below.refl _ _).alloc (Nat.le_refl _) _) (Nat.le_refl _)) (fun _ _ _ h => h.elim)
theorem Fr.setCell_one (w : World) (b o : Nat) (v : Value) : Fr (fun j i => j = b ∧ i = o) w (w.setCell ⟨b, o, none⟩ v) where
  os := rfl
  tape := rfl
  output := rfl
  size := by simp [World.setCell]
  block := fun k _ hn => Below.heap_setCell _ _ _ _ (fun e => hn o ⟨e, rfl⟩)
  cell := fun k i _ hn => by
    by_cases e : k = b
    · subst e
      have : i ≠ o := fun e => hn ⟨rfl, e⟩
      simp [World.cell?, World.setCell, Array.getElem?_modify]
      cases w.heap[k]? with
      | none => rfl
      | some x => cases x <;> simp [Ne.symm this]
    · exact World.cell?_of_block (Below.heap_setCell _ _ _ _ e)
  frozen := fun k i _ => by simp
theorem Fr.setCell (h : Fr C w w') {b o : Nat} (hb : b < w.heap.size → C b o) (v : Value) : Fr C w (w'.setCell ⟨b, o, none⟩ v) :=
  h.trans (Fr.setCell_one w' b o v) (fun j i hj ⟨e1, e2⟩ => by subst e1 e2; exact hb hj)
theorem Fr.grown {row : Option Nat} (h : Fr C w w') (g : w'.grownBy w'' row) (hs : ∀ k, row = some k → w.heap.size ≤ k) : Fr C w w'' where
  os := g.os.trans h.os
  tape := g.tape.trans h.tape
  output := g.output.trans h.output
  size := Nat.le_trans h.size g.size
  block := fun k hk hn => (g.block k (Nat.lt_of_lt_of_le hk h.size) (fun e => by have := hs k e.symm; omega)).trans (h.block k hk hn)
  cell := fun k o hk hn => (World.cell?_of_block (g.block k (Nat.lt_of_lt_of_le hk h.size) (fun e => by have := hs k e.symm; omega))).trans (h.cell k o hk hn)
  frozen := fun k o hk => (World.frozen?_of_block (g.block k (Nat.lt_of_lt_of_le hk h.size) (fun e => by have := hs k e.symm; omega))).trans (h.frozen k o hk)
theorem Fr.setRow (h : Fr C w w') {g : Nat} {cur cs : Array Value} {t : TypeId} (hg : w'.heap[g]? = some (.cells cur t (0, 0))) (hC : g < w.heap.size → ∀ o, C g o) : Fr C w (w'.setRow g cs) :=
  h.trans (C' := fun j _ => j = g) ⟨rfl, rfl, rfl, by simp, fun k _ hn => setRow_other _ _ _ _ (fun e => hn 0 e), fun k o _ hn => World.cell?_of_block (setRow_other _ _ _ _ hn), fun k o _ => by
    by_cases e : k = g
    · subst e
      simp [World.frozen?, setRow_heap w' k cur cs t (0, 0) hg, hg]
    · exact World.frozen?_of_block (setRow_other _ _ _ _ e)⟩ (fun j o hj e => by subst e; exact hC hj o)

/-- Packing: the room left, the rumours (blocks) told, the rumours kept. -/
structure Pk where
  room : Int
  ns : List Nat
  kept : List Nat

def Pk.fits (mem : Nat → Mb) (p : Pk) (k : Nat) : Bool := decide (recF (mem k) ≤ p.room) && !hasF (p.ns.map mem) (mem k).addr
def Pk.step (mem : Nat → Mb) (key : Nat → Int) (limit : Int) (p : Pk) (k : Nat) : Pk :=
  if p.fits mem k then ⟨p.room - recF (mem k), p.ns ++ [k], if key k + 1 < limit then p.kept ++ [k] else p.kept⟩
  else ⟨p.room, p.ns, if key k < limit then p.kept ++ [k] else p.kept⟩
def Pk.run (mem : Nat → Mb) (key : Nat → Int) (limit room : Int) (d : List Nat) : Pk := d.foldl (Pk.step mem key limit) ⟨room, [], []⟩

theorem Pk.run_snoc (mem : Nat → Mb) (key : Nat → Int) (limit room : Int) (d : List Nat) (k : Nat) : Pk.run mem key limit room (d ++ [k]) = Pk.step mem key limit (Pk.run mem key limit room d) k := by simp [Pk.run]

/-- What is told and what is kept come from the row, in its order. -/
theorem Pk.fold_sub (mem : Nat → Mb) (key : Nat → Int) (limit : Int) : ∀ (d : List Nat) (p : Pk), (d.foldl (Pk.step mem key limit) p).ns.Sublist (p.ns ++ d) ∧ (d.foldl (Pk.step mem key limit) p).kept.Sublist (p.kept ++ d)
  | [], p => by simp
  | k :: d, p => by
    have ih := Pk.fold_sub mem key limit d (Pk.step mem key limit p k)
    simp only [List.foldl_cons]
    have e1 : ∀ l : List Nat, (l ++ d).Sublist (l ++ k :: d) := fun l => List.Sublist.append_left (List.sublist_cons_self _ _) _
    have e2 : ∀ l : List Nat, (l ++ [k] ++ d).Sublist (l ++ k :: d) := fun l => by simp
    refine ⟨ih.1.trans ?_, ih.2.trans ?_⟩
    · unfold Pk.step
      split
      · exact e2 _
      · exact e1 _
    · unfold Pk.step
      split <;> (dsimp only; split) <;> first | exact e2 _ | exact e1 _
theorem Pk.run_ns (mem : Nat → Mb) (key : Nat → Int) (limit room : Int) (d : List Nat) : (Pk.run mem key limit room d).ns.Sublist d := by simpa [Pk.run] using (Pk.fold_sub mem key limit d ⟨room, [], []⟩).1
theorem Pk.run_kept (mem : Nat → Mb) (key : Nat → Int) (limit room : Int) (d : List Nat) : (Pk.run mem key limit room d).kept.Sublist d := by simpa [Pk.run] using (Pk.fold_sub mem key limit d ⟨room, [], []⟩).2
theorem Pk.fold_room (mem : Nat → Mb) (key : Nat → Int) (limit lo hi : Int) (hlo : lo ≤ 0) : ∀ (d : List Nat) (p : Pk), (∀ k ∈ d, 0 < recF (mem k)) → lo ≤ p.room → p.room ≤ hi → lo ≤ (d.foldl (Pk.step mem key limit) p).room ∧ (d.foldl (Pk.step mem key limit) p).room ≤ hi
  | [], p, _, h1, h2 => ⟨h1, h2⟩
  | k :: d, p, hp, h1, h2 => by
    simp only [List.foldl_cons]
    have h0 := hp k (by simp)
    refine Pk.fold_room mem key limit lo hi hlo d _ (fun k hk => hp k (by simp [hk])) ?_ ?_
    all_goals
      unfold Pk.step
      split
      · next hf =>
        simp only [Pk.fits, Bool.and_eq_true, decide_eq_true_eq] at hf
        dsimp only
        omega
      · dsimp only
        omega
theorem Pk.run_room (mem : Nat → Mb) (key : Nat → Int) (limit room : Int) (d : List Nat) (hp : ∀ k ∈ d, 0 < recF (mem k)) (lo hi : Int) (hlo : lo ≤ 0) (h1 : lo ≤ room) (h2 : room ≤ hi) : lo ≤ (Pk.run mem key limit room d).room ∧ (Pk.run mem key limit room d).room ≤ hi :=
  Pk.fold_room mem key limit lo hi hlo d ⟨room, [], []⟩ hp h1 h2

/-- How often a rumour has been told behind a packing. -/
def bump (key : Nat → Int) (ns : List Nat) (k : Nat) : Int := if k ∈ ns then key k + 1 else key k
end Go.Proofs.Ybulkejoc
