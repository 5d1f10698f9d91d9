/- The memory on piggyback's road. No Go text is walked here. -/
import Derived.Test.YbulkejocFr
import Derived.Test.YbulkejocStable
import Derived.Lib.SliceRun
namespace Go.Proofs.Ybulkejoc
open Go.ChangeShapes Go.WideShapes Go.ChangeAt Go.RowKit

/-- Block k is a rumour: a member, and how often it was told. -/
structure RumAt (w : World) (k : Nat) (m : Mb) (s : Int) : Prop where
  lt : k < w.heap.size
  a : w.cell? ⟨k, 0, none⟩ = some (.string m.addr)
  t : w.cell? ⟨k, 1, none⟩ = some (.int .u64 m.tok)
  s' : w.cell? ⟨k, 2, none⟩ = some (.int .u8 m.st)
  i : w.cell? ⟨k, 3, none⟩ = some (.int .u64 m.inc)
  sent : w.cell? ⟨k, 4, none⟩ = some (.int .i64 s)
  fz : w.frozen? ⟨k, 4, none⟩ = false
  ok : m.Ok
  lo : 0 ≤ s
  hi : s ≤ 1000000

/-- What piggyback needs of the memory, the row apart. -/
structure PigSt (w : World) (nb mb g : Nat) (d : List Nat) (mem : Nat → Mb) (key : Nat → Int) : Prop where
  rum : ∀ k ∈ d, RumAt w k (mem k) (key k)
  nodup : d.Nodup
  gd : g ∉ d
  nd : nb ∉ d
  md : mb ∉ d
  ng : nb ≠ g
  mg : mb ≠ g
  nm : nb ≠ mb
  fn : w.frozen? ⟨nb, 24, none⟩ = false
  fm : w.frozen? ⟨mb, 7, none⟩ = false
  nlt : nb < w.heap.size
  mlt : mb < w.heap.size
  glt : g < w.heap.size

/-- The cells that piggyback's loop may write; that piggyback may write. -/
def PigC0 (mb g : Nat) (d : List Nat) (b o : Nat) : Prop := (b = mb ∧ o = 7) ∨ b = g ∨ (b ∈ d ∧ o = 4)
def PigC (nb mb g : Nat) (d : List Nat) (b o : Nat) : Prop := (b = nb ∧ o = 24) ∨ PigC0 mb g d b o

/-- The memory within piggyback's loop. -/
structure PigAt (w : World) (nb mb g : Nat) (rest : List Value) (d : List Nat) (mem : Nat → Mb) (key : Nat → Int) (ns kept : List Nat) (wr : World) : Prop where
  row : wr.heap[g]? = some (.cells (((kept ++ d.drop kept.length).map ptr) ++ rest).toArray 52 (0, 0))
  news : ∃ v, wr.cell? ⟨mb, 7, none⟩ = some v ∧ wr.ownsRow w.heap.size 29 4 v ns.length (mcells (ns.map mem))
  sent : ∀ k ∈ d, wr.cell? ⟨k, 4, none⟩ = some (.int .i64 (bump key ns k))
  fr : Fr (PigC0 mb g d) w wr

variable {w : World} {nb mb g : Nat} {rest : List Value} {d : List Nat} {mem : Nat → Mb} {key : Nat → Int} {ns kept : List Nat} {wr W W' : World} {rb k : Nat} {v : Value}

theorem ownsRow_block {B e size n : Nat} {xs : List Value} {w1 w2 : World} (h : w1.ownsRow B e size v n xs) (hb : ∀ b, v.ownBlock = some b → w2.heap[b]? = w1.heap[b]?) : w2.ownsRow B e size v n xs := by
  refine ⟨h.1, ?_⟩
  rcases h.2 with h | ⟨g, cap, cur, rfl, h2, h3, h4⟩
  · exact Or.inl h
  · exact Or.inr ⟨g, cap, cur, rfl, h2, (hb g rfl).trans h3, h4⟩
theorem ownsRow_lt {B e size n : Nat} {xs : List Value} {w1 : World} (h : w1.ownsRow B e size v n xs) {b : Nat} (hb : v.ownBlock = some b) : B ≤ b ∧ b < w1.heap.size := by
  rcases h.2 with ⟨rfl, _⟩ | ⟨g, cap, cur, rfl, h2, h3, h4⟩
  · simp [Value.ownBlock] at hb
  · simp only [Value.ownBlock, Option.some.injEq] at hb
    subst hb
    exact ⟨h2, lt_of_heap h3⟩

/-- ... and within a round: the round's own box rb holds the pointer to rumour k; the news' row is not the box. -/
structure PigMid (w : World) (nb mb g : Nat) (rest : List Value) (d : List Nat) (mem : Nat → Mb) (key : Nat → Int) (rb k : Nat) (v : Value) (ns kept : List Nat) (W : World) : Prop where
  row : W.heap[g]? = some (.cells (((kept ++ d.drop kept.length).map ptr) ++ rest).toArray 52 (0, 0))
  news : W.cell? ⟨mb, 7, none⟩ = some v
  own : W.ownsRow w.heap.size 29 4 v ns.length (mcells (ns.map mem))
  sent : ∀ k ∈ d, W.cell? ⟨k, 4, none⟩ = some (.int .i64 (bump key ns k))
  fr : Fr (PigC0 mb g d) w W
  box : W.cell? ⟨rb, 0, none⟩ = some (.pointer (some ⟨k, 0, none⟩))
  lt : rb < W.heap.size
  old : w.heap.size ≤ rb
  apart : v.ownBlock ≠ some rb

theorem PigMid.toAt (h : PigMid w nb mb g rest d mem key rb k v ns kept W) : PigAt w nb mb g rest d mem key ns kept W := ⟨h.row, ⟨v, h.news, h.own⟩, h.sent, h.fr⟩

theorem PigMid.cells (h : PigMid w nb mb g rest d mem key rb k v ns kept W) (st : PigSt w nb mb g d mem key) (hk : k ∈ d) :
    W.cell? ⟨k, 0, none⟩ = some (.string (mem k).addr) ∧ W.cell? ⟨k, 1, none⟩ = some (.int .u64 (mem k).tok) ∧ W.cell? ⟨k, 2, none⟩ = some (.int .u8 (mem k).st) ∧ W.cell? ⟨k, 3, none⟩ = some (.int .u64 (mem k).inc) ∧ W.frozen? ⟨k, 4, none⟩ = false ∧ W.frozen? ⟨mb, 7, none⟩ = false := by
  have hR := st.rum k hk
  have hn : ∀ o, o ≠ 4 → ¬ PigC0 mb g d k o := by
    rintro o ho (⟨rfl, _⟩ | rfl | ⟨_, e⟩)
    · exact st.md hk
    · exact st.gd hk
    · exact ho e
  exact ⟨(h.fr.cell k 0 hR.lt (hn 0 (by omega))).trans hR.a, (h.fr.cell k 1 hR.lt (hn 1 (by omega))).trans hR.t, (h.fr.cell k 2 hR.lt (hn 2 (by omega))).trans hR.s', (h.fr.cell k 3 hR.lt (hn 3 (by omega))).trans hR.i, (h.fr.frozen k 4 hR.lt).trans hR.fz, (h.fr.frozen mb 7 st.mlt).trans st.fm⟩

theorem PigAt.cellj (h : PigAt w nb mb g rest d mem key ns kept wr) {j : Nat} (hj : d[j]? = some k) (hq : kept.length ≤ j) : wr.cell? ⟨g, j, none⟩ = some (.pointer (some ⟨k, 0, none⟩)) := by
  have hlt := (List.getElem?_eq_some_iff.1 hj).1
  rw [cell_of_block h.row]
  simp only [List.getElem?_toArray]
  rw [List.getElem?_append_left (by simp; omega), List.getElem?_map, List.getElem?_append_right hq, List.getElem?_drop, show kept.length + (j - kept.length) = j by omega, hj]
  rfl

/-- What makes new blocks alone keeps all this. -/
theorem PigAt.below (h : PigAt w nb mb g rest d mem key ns kept wr) (st : PigSt w nb mb g d mem key) (hB : Below wr.heap.size wr W) : PigAt w nb mb g rest d mem key ns kept W := by
  have hs := h.fr.size
  obtain ⟨v, h1, h2⟩ := h.news
  refine ⟨(hB.block g (by have := st.glt; omega)).trans h.row, ⟨v, (hB.cell (p := ⟨mb, 7, none⟩) (by have := st.mlt; simp; omega)).trans h1, ownsRow_block h2 fun b hb => hB.block b (ownsRow_lt h2 hb).2⟩, fun k hk => (hB.cell (p := ⟨k, 4, none⟩) (by have := (st.rum k hk).lt; simp; omega)).trans (h.sent k hk), h.fr.trans (Fr.of_below (C := fun _ _ => False) hB (Nat.le_refl _)) (fun _ _ _ h => h.elim)⟩
theorem PigMid.below (h : PigMid w nb mb g rest d mem key rb k v ns kept W) (st : PigSt w nb mb g d mem key) (hB : Below W.heap.size W W') : PigMid w nb mb g rest d mem key rb k v ns kept W' := by
  have hs := h.fr.size
  have hz := hB.size
  exact ⟨(hB.block g (by have := st.glt; omega)).trans h.row, (hB.cell (p := ⟨mb, 7, none⟩) (by have := st.mlt; simp; omega)).trans h.news, ownsRow_block h.own fun b hb => hB.block b (ownsRow_lt h.own hb).2, fun k hk => (hB.cell (p := ⟨k, 4, none⟩) (by have := (st.rum k hk).lt; simp; omega)).trans (h.sent k hk), h.fr.trans (Fr.of_below (C := fun _ _ => False) hB (Nat.le_refl _)) (fun _ _ _ h => h.elim),
    (hB.cell (p := ⟨rb, 0, none⟩) h.lt).trans h.box, by have := h.lt; omega, h.old, h.apart⟩

/-- A round's box. -/
theorem PigAt.enter (h : PigAt w nb mb g rest d mem key ns kept wr) (st : PigSt w nb mb g d mem key) (k : Nat) : ∃ v, PigMid w nb mb g rest d mem key wr.heap.size k v ns kept (wr.alloc (.cells #[.pointer (some ⟨k, 0, none⟩)] 52)) := by
  have hB : Below wr.heap.size wr (wr.alloc (.cells #[.pointer (some ⟨k, 0, none⟩)] 52)) := (Below.refl _ _).alloc (Nat.le_refl _) _
  have h' := h.below st hB
  obtain ⟨v, h1, h2⟩ := h.news
  refine ⟨v, h'.row, (hB.cell (p := ⟨mb, 7, none⟩) (by have := st.mlt; have := h.fr.size; simp; omega)).trans h1, ownsRow_block h2 fun b hb => hB.block b (ownsRow_lt h2 hb).2, h'.sent, h'.fr, by simp, by simp, h.fr.size, fun hb => ?_⟩
  have := (ownsRow_lt h2 hb).2
  omega

theorem bump_snoc {k j : Nat} (hk : k ∉ ns) : bump key (ns ++ [k]) j = if j = k then key j + 1 else bump key ns j := by
  unfold bump
  by_cases e : j = k
  · subst e; simp
  · simp [e]

theorem PigMid.grown (h : PigMid w nb mb g rest d mem key rb k v ns kept W) (st : PigSt w nb mb g d mem key) (hk : k ∈ d) {X w1 : World} (hB : Below W.heap.size W X) (hg : X.grownBy w1 v.ownBlock) :
    w1.cell? ⟨mb, 7, none⟩ = some v ∧ (w1.cell? ⟨rb, 0, none⟩ = some (.pointer (some ⟨k, 0, none⟩)) ∧ w1.cell? ⟨k, 0, none⟩ = some (.string (mem k).addr) ∧ w1.cell? ⟨k, 1, none⟩ = some (.int .u64 (mem k).tok) ∧ w1.cell? ⟨k, 2, none⟩ = some (.int .u8 (mem k).st) ∧ w1.cell? ⟨k, 3, none⟩ = some (.int .u64 (mem k).inc)) ∧ w1.frozen? ⟨mb, 7, none⟩ = false ∧ w1.frozen? ⟨k, 4, none⟩ = false ∧ w1.cell? ⟨k, 4, none⟩ = some (.int .i64 (bump key ns k)) := by
  have hX := h.below st hB
  obtain ⟨c0, c1, c2, c3, c4, c5⟩ := hX.cells st hk
  have hXs := hX.fr.size
  have hfar : ∀ b, b < w.heap.size → w1.heap[b]? = X.heap[b]? := fun b hb => hg.block b (by omega) (fun e => by have := (ownsRow_lt h.own e.symm).1; omega)
  have hR := st.rum k hk
  have cc : ∀ b o, b < w.heap.size → w1.cell? ⟨b, o, none⟩ = X.cell? ⟨b, o, none⟩ := fun b o hb => World.cell?_of_block (a := ⟨b, o, none⟩) (hfar b hb)
  have cf : ∀ b o, b < w.heap.size → w1.frozen? ⟨b, o, none⟩ = X.frozen? ⟨b, o, none⟩ := fun b o hb => World.frozen?_of_block (a := ⟨b, o, none⟩) (hfar b hb)
  rw [cc mb 7 st.mlt, cc k 0 hR.lt, cc k 1 hR.lt, cc k 2 hR.lt, cc k 3 hR.lt, cc k 4 hR.lt, cf mb 7 st.mlt, cf k 4 hR.lt, World.cell?_of_block (a := ⟨rb, 0, none⟩) (hg.block rb hX.lt (fun e => h.apart e.symm))]
  exact ⟨hX.news, ⟨hX.box, c0, c1, c2, c3⟩, c5, c4, hX.sent k hk⟩
/-- ... and a store into the message leaves the round's own cells. -/
theorem PigMid.apart_set (h : PigMid w nb mb g rest d mem key rb k v ns kept W) (st : PigSt w nb mb g d mem key) (hk : k ∈ d) {w1 : World} (hG : w1.cell? ⟨rb, 0, none⟩ = some (.pointer (some ⟨k, 0, none⟩)) ∧ w1.cell? ⟨k, 0, none⟩ = some (.string (mem k).addr) ∧ w1.cell? ⟨k, 1, none⟩ = some (.int .u64 (mem k).tok) ∧ w1.cell? ⟨k, 2, none⟩ = some (.int .u8 (mem k).st) ∧ w1.cell? ⟨k, 3, none⟩ = some (.int .u64 (mem k).inc)) (x : Value) : (w1.setCell ⟨mb, 7, none⟩ x).cell? ⟨rb, 0, none⟩ = some (.pointer (some ⟨k, 0, none⟩)) ∧ (w1.setCell ⟨mb, 7, none⟩ x).cell? ⟨k, 0, none⟩ = some (.string (mem k).addr) ∧ (w1.setCell ⟨mb, 7, none⟩ x).cell? ⟨k, 1, none⟩ = some (.int .u64 (mem k).tok) ∧ (w1.setCell ⟨mb, 7, none⟩ x).cell? ⟨k, 2, none⟩ = some (.int .u8 (mem k).st) ∧ (w1.setCell ⟨mb, 7, none⟩ x).cell? ⟨k, 3, none⟩ = some (.int .u64 (mem k).inc) := by
  have hmk : k ≠ mb := fun e => st.md (e ▸ hk)
  have hr1 : rb ≠ mb := by have := st.mlt; have := h.old; omega
  have cc : ∀ b o, b ≠ mb → (w1.setCell ⟨mb, 7, none⟩ x).cell? ⟨b, o, none⟩ = w1.cell? ⟨b, o, none⟩ := fun b o hb => World.cell?_of_block (a := ⟨b, o, none⟩) (Below.heap_setCell _ _ _ _ hb)
  rw [cc _ _ hr1, cc _ _ hmk, cc _ _ hmk, cc _ _ hmk, cc _ _ hmk]
  exact hG

/-- The news take one more: append's world, then the store into the message. -/
theorem PigMid.told (h : PigMid w nb mb g rest d mem key rb k v ns kept W) (st : PigSt w nb mb g d mem key) (hk : k ∈ d) (hkn : k ∉ ns) {X w1 : World} (hB : Below W.heap.size W X) {g' cap' : Nat} (hown : w1.ownsRow w.heap.size 29 4 (.slice (some ⟨g', 0, none⟩) (ns.length + 1) cap') (ns.length + 1) (mcells (ns.map mem) ++ (mem k).cells)) (hg : X.grownBy w1 v.ownBlock) (hat : v.ownBlock = some g' ∨ W.heap.size ≤ g') (s : Int) (hs : s = key k + 1) :
    PigMid w nb mb g rest d mem key rb k (.slice (some ⟨g', 0, none⟩) (ns.length + 1) cap') (ns ++ [k]) kept ((w1.setCell ⟨mb, 7, none⟩ (.slice (some ⟨g', 0, none⟩) (ns.length + 1) cap')).setCell ⟨k, 4, none⟩ (.int .i64 s)) := by
  subst hs
  have hX := h.below st hB
  have hold : w.heap.size ≤ g' := (ownsRow_lt hown rfl).1
  have hXs := hX.fr.size
  have hfar : ∀ b, b < w.heap.size → w1.heap[b]? = X.heap[b]? := fun b hb => hg.block b (by omega) (fun e => by have := (ownsRow_lt h.own e.symm).1; omega)
  have hR := st.rum k hk
  have hmk : mb ≠ k := fun e => st.md (e ▸ hk)
  have hgk : g ≠ k := fun e => st.gd (e ▸ hk)
  have hF1 : Fr (PigC0 mb g d) w w1 := hX.fr.grown hg (fun b hb => (ownsRow_lt h.own hb).1)
  have hgw : g' < w1.heap.size := (ownsRow_lt hown rfl).2
  have hne : ∀ b, b ≠ mb → b ≠ k → ((w1.setCell ⟨mb, 7, none⟩ (.slice (some ⟨g', 0, none⟩) (ns.length + 1) cap')).setCell ⟨k, 4, none⟩ (.int .i64 (key k + 1))).heap[b]? = w1.heap[b]? := fun b h1 h2 => (Below.heap_setCell _ _ _ _ h2).trans (Below.heap_setCell _ _ _ _ h1)
  have hrbg : rb ≠ g' := by
    rcases hat with e | e
    · intro e'; subst e'; exact h.apart e
    · have := h.lt; omega
  refine ⟨?_, ?_, ?_, ?_, ?_, ?_, ?_, h.old, ?_⟩
  · rw [hne g (Ne.symm st.mg) hgk, hfar g st.glt]; exact hX.row
  · rw [(Fr.setCell_one _ k 4 _).cell mb 7 (by have := st.mlt; simp; have := hg.size; omega) (by rintro ⟨e, _⟩; exact hmk e)]
    have : (w1.cell? ⟨mb, 7, none⟩) = some v := (World.cell?_of_block (hfar mb st.mlt)).trans hX.news
    exact World.cell?_setCell_same _ _ _ this
  · rw [List.map_append, mcells_append]
    have e1 : (ns ++ [k]).length = ns.length + 1 := by simp
    rw [e1]
    have e2 : mcells ([k].map mem) = (mem k).cells := by simp [mcells]
    rw [e2]
    refine ownsRow_block hown fun b hb => ?_
    have := (ownsRow_lt hown hb).1
    exact hne b (by have := st.mlt; omega) (by have := hR.lt; omega)
  · intro j hj
    have hjR := st.rum j hj
    rw [bump_snoc hkn]
    have hmj : j ≠ mb := fun e => st.md (e ▸ hj)
    have hj1 : (w1.setCell ⟨mb, 7, none⟩ (.slice (some ⟨g', 0, none⟩) (ns.length + 1) cap')).cell? ⟨j, 4, none⟩ = some (.int .i64 (bump key ns j)) := by
      rw [(Fr.setCell_one w1 mb 7 _).cell j 4 (by have := hjR.lt; have := hg.size; omega) (by rintro ⟨e, _⟩; exact hmj e)]
      exact (World.cell?_of_block (hfar j hjR.lt)).trans (hX.sent j hj)
    by_cases e : j = k
    · subst e
      rw [if_pos rfl]
      exact World.cell?_setCell_same _ _ _ hj1
    · rw [if_neg e, (Fr.setCell_one _ k 4 _).cell j 4 (by have := hjR.lt; have := hg.size; simp; omega) (by rintro ⟨e', _⟩; exact e e')]
      exact hj1
  · exact (hF1.setCell (fun _ => Or.inl ⟨rfl, rfl⟩) _).setCell (fun _ => Or.inr (Or.inr ⟨hk, rfl⟩)) _
  · have hr1 : rb ≠ mb := by have := st.mlt; have := h.old; omega
    have hr2 : rb ≠ k := by have := hR.lt; have := h.old; omega
    rw [World.cell?_of_block (a := ⟨rb, 0, none⟩) (hne rb hr1 hr2), World.cell?_of_block (a := ⟨rb, 0, none⟩) (hg.block rb hX.lt (fun e => h.apart e.symm))]
    exact hX.box
  · have := hX.lt; have := hg.size; simp; omega
  · simp only [Value.ownBlock, ne_eq, Option.some.injEq]; exact Ne.symm hrbg

/-- The kept take one more, in place. -/
theorem PigMid.keep (h : PigMid w nb mb g rest d mem key rb k v ns kept W) (st : PigSt w nb mb g d mem key) {j : Nat} (hj : d[j]? = some k) (hq : kept.length ≤ j) {X : World} (hB : Below W.heap.size W X) :
    PigMid w nb mb g rest d mem key rb k v ns (kept ++ [k]) (X.setRow g ((((kept ++ d.drop kept.length).map ptr) ++ rest).take kept.length ++ [ptr k] ++ (((kept ++ d.drop kept.length).map ptr) ++ rest).drop (kept.length + 1)).toArray) := by
  have hX := h.below st hB
  have hlt := (List.getElem?_eq_some_iff.1 hj).1
  have hXs := hX.fr.size
  have hoth : ∀ b, b ≠ g → (X.setRow g ((((kept ++ d.drop kept.length).map ptr) ++ rest).take kept.length ++ [ptr k] ++ (((kept ++ d.drop kept.length).map ptr) ++ rest).drop (kept.length + 1)).toArray).heap[b]? = X.heap[b]? := fun b hb => setRow_other _ _ _ _ hb
  refine ⟨?_, ?_, ?_, ?_, ?_, ?_, ?_, h.old, h.apart⟩
  · rw [setRow_heap X g _ _ 52 (0, 0) hX.row]
    congr 2
    have e1 : (((kept ++ d.drop kept.length).map ptr) ++ rest).take kept.length = kept.map ptr := by
      rw [List.map_append, List.append_assoc]
      exact List.take_left' (by simp)
    have e2 : (((kept ++ d.drop kept.length).map ptr) ++ rest).drop (kept.length + 1) = (d.drop (kept.length + 1)).map ptr ++ rest := by
      rw [List.map_append, List.append_assoc, List.drop_append, List.drop_eq_nil_of_le (by simp), List.nil_append, List.length_map, show kept.length + 1 - kept.length = 1 by omega, List.drop_append_of_le_length (by simp; omega), ← List.map_drop, List.drop_drop]
    rw [e1, e2]
    simp [ptr]
  · rw [World.cell?_of_block (a := ⟨mb, 7, none⟩) (hoth mb st.mg)]; exact hX.news
  · exact ownsRow_block hX.own fun b hb => hoth b (by have := (ownsRow_lt h.own hb).1; have := st.glt; omega)
  · intro i hi
    rw [World.cell?_of_block (a := ⟨i, 4, none⟩) (hoth i (fun e => st.gd (e ▸ hi)))]
    exact hX.sent i hi
  · exact hX.fr.setRow hX.row (fun _ _ => Or.inr (Or.inl rfl))
  · rw [World.cell?_of_block (a := ⟨rb, 0, none⟩) (hoth rb (by have := h.old; have := st.glt; omega))]; exact hX.box
  · simpa using hX.lt

/-- What piggyback leaves. -/
structure PigOut (w : World) (nb mb g cap : Nat) (rest : List Value) (d : List Nat) (mem : Nat → Mb) (key : Nat → Int) (ns kept : List Nat) (wr : World) : Prop where
  row : ∃ rest' : List Value, wr.heap[g]? = some (.cells ((kept.map ptr) ++ rest').toArray 52 (0, 0)) ∧ rest'.length + kept.length = rest.length + d.length
  slice : wr.cell? ⟨nb, 24, none⟩ = some (.slice (some ⟨g, 0, none⟩) kept.length cap)
  news : ∃ v, wr.cell? ⟨mb, 7, none⟩ = some v ∧ wr.ownsRow w.heap.size 29 4 v ns.length (mcells (ns.map mem))
  sent : ∀ k ∈ d, wr.cell? ⟨k, 4, none⟩ = some (.int .i64 (bump key ns k))
  fr : Fr (PigC nb mb g d) w wr

theorem setCells_os (b : Nat) : ∀ (vs : List Value) (o : Nat) (w : World), (w.setCells b o vs).os = w.os ∧ (w.setCells b o vs).tape = w.tape ∧ (w.setCells b o vs).output = w.output ∧ (w.setCells b o vs).heap.size = w.heap.size ∧ ∀ k, k ≠ b → (w.setCells b o vs).heap[k]? = w.heap[k]?
  | [], _, _ => ⟨rfl, rfl, rfl, rfl, fun _ _ => rfl⟩
  | v :: vs, o, w => by
    obtain ⟨h1, h2, h3, h4, h5⟩ := setCells_os b vs (o + 1) (w.setCell ⟨b, o, none⟩ v)
    simp only [World.setCells]
    exact ⟨h1, h2, h3, h4.trans (by simp [World.setCell]), fun k hk => (h5 k hk).trans (Below.heap_setCell _ _ _ _ hk)⟩
theorem setCells_row (b : Nat) (t : TypeId) : ∀ (vs : List Value) (o : Nat) (w : World) (cs : Array Value), w.heap[b]? = some (.cells cs t (0, 0)) → ∃ cs' : Array Value, (w.setCells b o vs).heap[b]? = some (.cells cs' t (0, 0)) ∧ cs'.size = cs.size ∧ ∀ i, i < o → cs'[i]? = cs[i]?
  | [], _, _, cs, h => ⟨cs, h, rfl, fun _ _ => rfl⟩
  | v :: vs, o, w, cs, h => by
    have h1 : (w.setCell ⟨b, o, none⟩ v).heap[b]? = some (.cells (cs.setIfInBounds o v) t (0, 0)) := by
      simp only [World.setCell, Array.getElem?_modify, h]
      simp
    obtain ⟨cs', e1, e2, e3⟩ := setCells_row b t vs (o + 1) _ _ h1
    refine ⟨cs', e1, e2.trans (by simp), fun i hi => (e3 i (by omega)).trans ?_⟩
    simp [show o ≠ i by omega]

/-- The end: the tail is cleared (or there is none), the row's head is laid into the node. -/
theorem PigAt.out (h : PigAt w nb mb g rest d mem key ns kept wr) (st : PigSt w nb mb g d mem key) (hkl : kept.length ≤ d.length) (cap : Nat) {u : Value} (hu : wr.cell? ⟨nb, 24, none⟩ = some u) (z : List Value) :
    PigOut w nb mb g cap rest d mem key ns kept ((wr.setCells g kept.length z).setCell ⟨nb, 24, none⟩ (.slice (some ⟨g, 0, none⟩) kept.length cap)) := by
  obtain ⟨cs', r1, r2, r3⟩ := setCells_row g 52 z kept.length wr _ h.row
  obtain ⟨s1, s2, s3, s4, s5⟩ := setCells_os g z kept.length wr
  have hXs := h.fr.size
  have hF : Fr (PigC0 mb g d) w (wr.setCells g kept.length z) := by
    refine h.fr.trans (C' := fun b _ => b = g) ⟨s1, s2, s3, by omega, fun b _ hb => s5 b (fun e => hb 0 e), fun b o _ hb => World.cell?_of_block (a := ⟨b, o, none⟩) (s5 b hb), fun b o _ => ?_⟩ (fun b o _ e => Or.inr (Or.inl e))
    exact World.frozen?_setCells _ _ _ _ _
  have hoth : ∀ b, b ≠ nb → ((wr.setCells g kept.length z).setCell ⟨nb, 24, none⟩ (.slice (some ⟨g, 0, none⟩) kept.length cap)).heap[b]? = (wr.setCells g kept.length z).heap[b]? := fun b hb => Below.heap_setCell _ _ _ _ hb
  have htake : cs'.toList.take kept.length = kept.map ptr := by
    apply List.ext_getElem?
    intro i
    rw [List.getElem?_take]
    split
    · next hi =>
      have := r3 i hi
      rw [← Array.getElem?_toList] at this
      rw [this, List.getElem?_toArray, List.getElem?_append_left (by simp; omega), List.map_append, List.getElem?_append_left (by simpa using hi)]
    · next hi =>
      rw [List.getElem?_eq_none (by simp; omega)]
  refine ⟨⟨cs'.toList.drop kept.length, ?_, ?_⟩, ?_, ?_, ?_, ?_⟩
  · rw [hoth g (Ne.symm st.ng), r1, ← htake, List.take_append_drop]
  · simp only [List.length_drop, Array.length_toList, r2]
    simp
    omega
  · exact World.cell?_setCell_same (u := u) _ _ _ ((World.cell?_of_block (a := ⟨nb, 24, none⟩) (s5 nb st.ng)).trans hu)
  · obtain ⟨v, h1, h2⟩ := h.news
    refine ⟨v, ?_, ownsRow_block h2 fun b hb => ?_⟩
    · rw [World.cell?_of_block (a := ⟨mb, 7, none⟩) (hoth mb (Ne.symm st.nm)), World.cell?_of_block (a := ⟨mb, 7, none⟩) (s5 mb st.mg)]; exact h1
    · have := (ownsRow_lt h2 hb).1
      rw [hoth b (by have := st.nlt; omega), s5 b (by have := st.glt; omega)]
  · intro j hj
    rw [World.cell?_of_block (a := ⟨j, 4, none⟩) (hoth j (fun e => st.nd (e ▸ hj))), World.cell?_of_block (a := ⟨j, 4, none⟩) (s5 j (fun e => st.gd (e ▸ hj)))]
    exact h.sent j hj
  · exact (hF.mono (C' := PigC nb mb g d) (fun _ _ h => Or.inr h)).setCell (fun _ => Or.inl ⟨rfl, rfl⟩) _
end Go.Proofs.Ybulkejoc
