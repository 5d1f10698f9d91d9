/- All that the law compares at its end, in one world. No Go text is walked here. -/
import Derived.Test.YbulkejocWant
namespace Go.Proofs.Ybulkejoc
open Go.ChangeShapes Go.WideShapes Go.ChangeAt Go.RowKit

/-- A row's cells. -/
theorem own_cells {w : World} {B e z n : Nat} {v : Value} {xs : List Value} (h : w.ownsRow B e z v n xs) : (v = .slice none 0 0 ∧ n = 0) ∨ ∃ g cap, v = .slice (some ⟨g, 0, none⟩) n cap ∧ g < w.heap.size ∧ ∀ i, i < n * z → w.cell? ⟨g, i, none⟩ = xs[i]? := by
  rcases h.2 with h | ⟨g, cap, cur, h1, h2, h3, h4, h5, h6, h7⟩
  · exact Or.inl h
  · refine Or.inr ⟨g, cap, h1, lt_of_heap h3, fun i hi => ?_⟩
    rw [cell_of_block h3, ← h7, List.getElem?_take, if_pos hi]
    simp

/-- The packets' cells, one by one. -/
theorem ocells_at (me : Mb) : ∀ (out : List (ByteArray × List Mb)) (vs : List Value) (_ : vs.length = out.length) (i r : Nat) (h : i < out.length) (hv : i < vs.length), r < 9 → (ocells me out vs)[i * 9 + r]? = (pcells me out[i].1 vs[i])[r]?
  | x :: out, v :: vs, hl, 0, r, _, _, hr => by
    rw [ocells, Nat.zero_mul, Nat.zero_add, List.getElem?_append_left (by simpa [pcells] using hr)]
    rfl
  | x :: out, v :: vs, hl, i + 1, r, h, hv, hr => by
    have := ocells_at me out vs (by simpa using hl) i r (by simpa using h) (by simpa using hv) hr
    rw [ocells, List.getElem?_append_right (by simp [pcells]; omega), ← show i * 9 + r = (i + 1) * 9 + r - (pcells me x.1 v).length by simp [pcells]; omega, this]
    rfl
  | [], _, _, _, _, h, _, _ => by simp at h
  | _ :: _, [], hl, _, _, _, _, _ => by simp at hl

structure Fin (W : World) (me : Mb) (sb lg mp nb : Nat) (L : List (Nat × Mb)) (s : Ls) (mem : Nat → Mb) (va vr got v29 v37 v38 v39 : Value) (now : Int) (w : World) : Prop where
  bel : Below W.heap.size W w
  self : w.heap[sb]? = some (.cells #[.string me.addr, .int .u64 me.tok, .int .u8 3, .int .u64 me.inc] 29 (0, 0))
  log : ∃ v ms, w.cell? ⟨lg, 0, none⟩ = some v ∧ MsAt w v ms ∧ MsAt w v38 ms
  n11 : w.cell? ⟨nb, 11, none⟩ = some (.string me.addr)
  n12 : w.cell? ⟨nb, 12, none⟩ = some (.int .u64 me.tok)
  n13 : w.cell? ⟨nb, 13, none⟩ = some (.int .u8 3)
  n14 : w.cell? ⟨nb, 14, none⟩ = some (.int .u64 me.inc)
  n15 : w.cell? ⟨nb, 15, none⟩ = some (.map (some mp))
  n16 : w.cell? ⟨nb, 16, none⟩ = some va
  n19 : w.cell? ⟨nb, 19, none⟩ = some v39
  n24 : ∃ A cap, w.cell? ⟨nb, 24, none⟩ = some (.slice A s.d.length cap) ∧ ∀ i (hi : i < s.d.length), ∃ g, A = some ⟨g, 0, none⟩ ∧ w.cell? ⟨g, i, none⟩ = some (ptr s.d[i])
  n27 : w.cell? ⟨nb, 27, none⟩ = some (.int .i64 now)
  n28 : w.cell? ⟨nb, 28, none⟩ = some (.slice none 0 0)
  rum : ∀ k ∈ s.d, RumAt w k (mem k) (s.key k)
  map : w.heap[mp]? = some (.map (ents (kl L)) (kl L).length)
  ent : ∀ p ∈ L, EntAt w p.1 p.2
  keys : (L.map fun p => p.2.addr).Nodup
  addr : w.ownsRow 0 9 1 va L.length (L.map fun p => .string p.2.addr)
  recs : w.ownsRow 0 29 4 vr L.length (mcells (L.map (·.2)))
  model : w.ownsRow 0 56 5 v29 s.d.length (rcells (s.d.map fun k => (mem k, s.key k)))
  got : ∃ vs : List Value, vs.length = s.out.length ∧ w.ownsRow 0 67 9 got s.out.length (ocells (gone me) s.out vs) ∧ (∀ i (hi : i < s.out.length) (hv : i < vs.length), w.ownsRow 0 29 4 vs[i] s.out[i].2.length (mcells s.out[i].2)) ∧ (s.out = [] → got = .slice none 0 0)
  want : ∃ vs : List Value, vs.length = s.out.length ∧ w.ownsRow 0 67 9 v37 s.out.length (ocells (gone me) s.out vs) ∧ (∀ i (hi : i < s.out.length) (hv : i < vs.length), w.ownsRow 0 29 4 vs[i] s.out[i].2.length (mcells s.out[i].2)) ∧ (s.out = [] → v37 = .slice none 0 0)
  probe : ∃ P, v39 = .pointer P

theorem fin_of {W wa w : World} {me : Mb} {use : Bool} {sb lg mp pb nb : Nat} {L : List (Nat × Mb)} {s : Ls} {mem : Nat → Mb} {M : List (Mb × Int)} {va vr vm got v29 v37 v38 v39 : Value} {now : Int} (h : Aft W me use sb lg mp pb nb L s mem M va vr vm got now wa) (e : WantEnd wa me use sb pb s mem vm v29 v37 v38 v39 w) : Fin W me sb lg mp nb L s mem va vr got v29 v37 v38 v39 now w := by
  have k := e.kept
  have nlt : nb < wa.heap.size := World.block_lt_of_cell? wa _ h.n11
  have hS : ∀ b, b ≠ sb → vm.ownBlock ≠ some b → ¬ (b = sb ∨ vm.ownBlock = some b) := by
    rintro b h1 h2 (h3 | h3)
    · exact h1 h3
    · exact h2 h3
  have c : ∀ o, w.cell? ⟨nb, o, none⟩ = wa.cell? ⟨nb, o, none⟩ := fun o => k.cell (a := ⟨nb, o, none⟩) nlt (hS nb h.nbs.1 h.nbs.2)
  obtain ⟨lv, l1, l2, l3⟩ := h.log
  have l2' : wa.ownsRow 0 29 4 lv _ _ := l2
  obtain ⟨A, cap, a1, a2⟩ := h.n24
  obtain ⟨gvs, g1, g2, g3, g4, g5⟩ := h.got
  have row : ∀ {B e z n : Nat} {v : Value} {xs : List Value}, wa.ownsRow B e z v n xs → e ≠ 56 → (∀ b, v.ownBlock = some b → b ≠ sb) → w.ownsRow B e z v n xs := fun ho he hs => own_kept ho k (fun b hb => hS b (hs b hb) (own_ne ho h.model he hb))
  have hmp : ¬ (mp = sb ∨ vm.ownBlock = some mp) := by
    refine hS mp (cell_not_map h.map (by rw [cell_of_block h.self 0]; rfl : wa.cell? ⟨sb, 0, none⟩ = some (.string me.addr))) ?_
    intro hb
    rcases h.model.2 with ⟨e1, _⟩ | ⟨g1, cap1, cur1, e1, _, t1, _⟩
    · rw [e1] at hb; simp [Value.ownBlock] at hb
    · rw [e1] at hb
      simp only [Value.ownBlock, Option.some.injEq] at hb
      subst hb
      rw [h.map] at t1
      cases t1
  refine ⟨?_, e.self, ⟨lv, _, ?_, row l2' (by decide) l3, e.log⟩, (c 11).trans h.n11, (c 12).trans h.n12, (c 13).trans h.n13, (c 14).trans h.n14, (c 15).trans h.n15, (c 16).trans h.n16, ?_, ⟨A, cap, (c 24).trans a1, fun i hi => ?_⟩, (c 27).trans h.n27, (c 28).trans h.n28, fun q hq => ?_, (k.block mp (lt_of_heap h.map) hmp).trans h.map, fun p hp => ?_, h.keys, row h.addr (by decide) h.vas, row h.recs (by decide) h.vrs, e.model, ⟨gvs, g1, row g2 (by decide) g3, fun i hi hv => row (g4 i hi hv).1 (by decide) (g4 i hi hv).2, g5⟩, e.want, ⟨_, e.probe⟩⟩
  · refine h.bel.trans (k.below ?_ h.bel.size)
    rintro b hb (hb' | hb')
    · have := h.sbw.1; omega
    · have := (ownsRow_lt h.model hb').1; omega
  · rw [k.cell (a := ⟨lg, 0, none⟩) (World.block_lt_of_cell? wa _ l1) (hS lg h.lgs.1 h.lgs.2)]
    exact l1
  · rw [c 19, h.n19, e.probe]
  · obtain ⟨g, b1, b2, b3, b4⟩ := a2 i hi
    exact ⟨g, b1, (k.cell (a := ⟨g, i, none⟩) (World.block_lt_of_cell? wa _ b4) (hS g b2 b3)).trans b4⟩
  · obtain ⟨r, r1, r2⟩ := h.rum q hq
    have cq : ∀ o, w.cell? ⟨q, o, none⟩ = wa.cell? ⟨q, o, none⟩ := fun o => k.cell (a := ⟨q, o, none⟩) r.lt (hS q r1 r2)
    exact ⟨by have := r.lt; have := k.size; omega, (cq 0).trans r.a, (cq 1).trans r.t, (cq 2).trans r.s', (cq 3).trans r.i, (cq 4).trans r.sent, (k.frozen (a := ⟨q, 4, none⟩) r.lt (hS q r1 r2)).trans r.fz, r.ok, r.lo, r.hi⟩
  · obtain ⟨r, r1, r2⟩ := h.ent p hp
    exact r.kept k (hS _ r1 r2)
end Go.Proofs.Ybulkejoc
