/- One round of each of the law's first two loops, as facts on the memory. No Go text is walked here. -/
import Derived.Test.YbulkejocMem
namespace Go.Proofs.Ybulkejoc
open Go.ChangeShapes Go.WideShapes Go.ChangeAt Go.RowKit

theorem info9 : (Yba.prog.info? 9).map (fun i => (i.zero, i.size, i.bytes)) = some (some (.string ByteArray.empty), 1, 16) := by kernel_rfl
theorem info56 : (Yba.prog.info? 56).map (fun i => (i.zero, i.size, i.bytes)) = some (some (.agg #[.string ByteArray.empty, .int .u64 0, .int .u8 0, .int .u64 0, .int .i64 0]), 5, 48) := by kernel_rfl

variable {w1 wr : World} {mp : Nat} {L : List (Nat × Mb)} {va vr : Value}

/-- append of one element that lies in a block of its own, made last. -/
theorem append_one {t e : TypeId} {size bytes : Nat} {zv : Value} (ht : Yba.prog.underlying t = some (.slice e)) (hi : (Yba.prog.info? e).map (fun i => (i.zero, i.size, i.bytes)) = some (some zv, size, bytes)) (hzs : zv.cells.size = size) (hsz : 0 < size)
    {w : World} {B : Nat} {v : Value} {n : Nat} {xs : List Value} (hown : w.ownsRow B e size v n xs) (hB : B ≤ w.heap.size) (cs : Array Value) (hl : cs.size = size) (h1 : ∀ u ∈ cs.toList, u.oneCell' = true) (hn : n ≤ 100000) (hby : bytes ≤ 1000) :
    ∃ g cap w', (Builtin.append_ #[t, t] t #[v, .slice (some ⟨w.heap.size, 0, none⟩) 1 1]).run Yba.prog (w.alloc (.cells cs e)) = .ok (.slice (some ⟨g, 0, none⟩) (n + 1) cap) w' ∧ w'.ownsRow B e size (.slice (some ⟨g, 0, none⟩) (n + 1) cap) (n + 1) (xs ++ cs.toList) ∧ Kept (fun b => v.ownBlock = some b) w w' := by
  obtain ⟨i0, hi0, hz0, hz1, hz2⟩ := info_parts hi
  have hown' := hown.alloc (.cells cs e)
  obtain ⟨v', w', hr, ho, hg, _⟩ := run_append_own (P := Yba.prog) (w.alloc (.cells cs e)) B t t e i0 zv size bytes ht hi0 hz0 hz1 hz2 hzs hsz v n xs hown' ⟨w.heap.size, 0, none⟩ 1 1 cs.toList (by simp [hl]) (World.news_of_block (cs := cs) (t := e) (fr := (0, 0)) (heap_alloc_new w _)) h1 (by unfold maxLen; omega) (by
      have : (n + 1) * bytes ≤ 100001 * 1000 := Nat.mul_le_mul (by omega) hby
      omega) (by simp; omega)
  rcases ho.2 with ⟨_, h0⟩ | ⟨g, cap, _, rfl, _⟩
  · omega
  · refine ⟨g, cap, w', hr, ho, ?_⟩
    exact (Kept.of_below (S := fun b => v.ownBlock = some b) ((Below.refl w.heap.size w).alloc (Nat.le_refl _) _) (Nat.le_refl _)).grown hg (fun _ _ e => e)

theorem MemAt.round (h : MemAt w1 mp L va vr wr) (x : Mb) {t4 : Nat} (hx : x.Ok) (ht : t4 < 4) (hnew : ∀ p ∈ L, x.addr ≠ p.2.addr) (hL : L.length ≤ 512) :
    ∃ w4, (Instr.mapUpdate 39 (.map (some mp)) (.string x.addr) (.pointer (some ⟨wr.heap.size + 1 + 1, 0, none⟩))).run Yba.prog (((wr.alloc (.cells #[.string x.addr, .int .u64 x.tok, .int .u8 x.st, .int .u64 x.inc] 42)).alloc (.cells #[.string x.addr, .int .u64 x.tok, .int .u8 t4, .int .u64 x.inc] 29)).alloc (.cells #[.string x.addr, .int .u64 x.tok, .int .u8 t4, .int .u64 x.inc, .int .i64 0, .pointer none, .int .u64 0] 47)) = .ok () w4 ∧
      w4.cell? ⟨wr.heap.size, 0, none⟩ = some (.string x.addr) ∧
      ∃ ga ca w5, (Builtin.append_ #[40, 40] 40 #[va, .slice (some ⟨w4.heap.size, 0, none⟩) 1 1]).run Yba.prog (w4.alloc (.cells #[.string x.addr] 9)) = .ok (.slice (some ⟨ga, 0, none⟩) (L.length + 1) ca) w5 ∧
        (w5.cell? ⟨wr.heap.size + 1, 0, none⟩ = some (.string x.addr) ∧ w5.cell? ⟨wr.heap.size + 1, 1, none⟩ = some (.int .u64 x.tok) ∧ w5.cell? ⟨wr.heap.size + 1, 2, none⟩ = some (.int .u8 t4) ∧ w5.cell? ⟨wr.heap.size + 1, 3, none⟩ = some (.int .u64 x.inc)) ∧
        ∃ gr cr w6, (Builtin.append_ #[30, 30] 30 #[vr, .slice (some ⟨w5.heap.size, 0, none⟩) 1 1]).run Yba.prog (w5.alloc (.cells #[.string x.addr, .int .u64 x.tok, .int .u8 t4, .int .u64 x.inc] 29)) = .ok (.slice (some ⟨gr, 0, none⟩) (L.length + 1) cr) w6 ∧
          MemAt w1 mp (L ++ [(wr.heap.size + 1 + 1, ⟨x.addr, x.tok, t4, x.inc⟩)]) (.slice (some ⟨ga, 0, none⟩) (L.length + 1) ca) (.slice (some ⟨gr, 0, none⟩) (L.length + 1) cr) w6 := by
  obtain ⟨wC, hwC⟩ : ∃ wC, wC = ((wr.alloc (.cells #[.string x.addr, .int .u64 x.tok, .int .u8 x.st, .int .u64 x.inc] 42)).alloc (.cells #[.string x.addr, .int .u64 x.tok, .int .u8 t4, .int .u64 x.inc] 29)).alloc (.cells #[.string x.addr, .int .u64 x.tok, .int .u8 t4, .int .u64 x.inc, .int .i64 0, .pointer none, .int .u64 0] 47) := ⟨_, rfl⟩
  rw [← hwC]
  have hBC : Below wr.heap.size wr wC := by
    rw [hwC]
    exact (((Below.refl _ _).alloc (Nat.le_refl _) _).alloc (by simp) _).alloc (by simp; omega) _
  have hsC : wC.heap.size = wr.heap.size + 3 := by rw [hwC]; simp
  have hC := h.below hBC
  have hx0 : wC.heap[wr.heap.size]? = some (.cells #[.string x.addr, .int .u64 x.tok, .int .u8 x.st, .int .u64 x.inc] 42 (0, 0)) := by
    rw [hwC, heap_alloc_old _ _ (by simp; omega), heap_alloc_old _ _ (by simp), heap_alloc_new]
  have hx1 : wC.heap[wr.heap.size + 1]? = some (.cells #[.string x.addr, .int .u64 x.tok, .int .u8 t4, .int .u64 x.inc] 29 (0, 0)) := by
    rw [hwC, heap_alloc_old _ _ (by simp)]
    have := heap_alloc_new (wr.alloc (.cells #[.string x.addr, .int .u64 x.tok, .int .u8 x.st, .int .u64 x.inc] 42)) (.cells #[.string x.addr, .int .u64 x.tok, .int .u8 t4, .int .u64 x.inc] 29)
    simpa using this
  have hx2 : wC.heap[wr.heap.size + 1 + 1]? = some (.cells #[.string x.addr, .int .u64 x.tok, .int .u8 t4, .int .u64 x.inc, .int .i64 0, .pointer none, .int .u64 0] 47 (0, 0)) := by
    rw [hwC]
    have := heap_alloc_new ((wr.alloc (.cells #[.string x.addr, .int .u64 x.tok, .int .u8 x.st, .int .u64 x.inc] 42)).alloc (.cells #[.string x.addr, .int .u64 x.tok, .int .u8 t4, .int .u64 x.inc] 29)) (.cells #[.string x.addr, .int .u64 x.tok, .int .u8 t4, .int .u64 x.inc, .int .i64 0, .pointer none, .int .u64 0] 47)
    simpa using this
  have hup := update_out hC.map (a := x.addr) (by intro y hy; obtain ⟨p, hp, rfl⟩ := List.mem_map.1 hy; exact hnew p hp) (wr.heap.size + 1 + 1)
  obtain ⟨w4, hw4⟩ : ∃ w4 : World, w4 = { wC with heap := wC.heap.setIfInBounds mp (.map (ents (kl L ++ [(x.addr, wr.heap.size + 1 + 1)])) (kl L ++ [(x.addr, wr.heap.size + 1 + 1)]).length) } := ⟨_, rfl⟩
  rw [← hw4] at hup
  have hmlt : mp < wr.heap.size := lt_of_heap h.map
  have hs4 : w4.heap.size = wC.heap.size := by rw [hw4]; simp
  have h4o : ∀ b, b ≠ mp → w4.heap[b]? = wC.heap[b]? := by
    intro b hb
    rw [hw4]
    simp [Ne.symm hb]
  have h4m : w4.heap[mp]? = some (.map (ents (kl L ++ [(x.addr, wr.heap.size + 1 + 1)])) (kl L ++ [(x.addr, wr.heap.size + 1 + 1)]).length) := by
    rw [hw4]
    exact (MapKept.heap_set hC.map).1
  have k4 : Kept (fun b => b = mp) wr w4 := by
    refine (Kept.of_below (S := fun b => b = mp) hBC (Nat.le_refl _)).trans (S' := fun b => b = mp) ⟨by rw [hw4], by rw [hw4], by rw [hw4], by omega, fun b _ hb => h4o b hb⟩ (fun _ _ h => h)
  have hmpb : ∀ {v : Value} {B e z n : Nat} {xs : List Value}, wr.ownsRow B e z v n xs → w4.ownsRow B e z v n xs := by
    intro v B e z n xs ho
    refine own_kept ho k4 ?_
    rintro b hb rfl
    rcases ho.2 with ⟨e1, _⟩ | ⟨g1, cap1, cur1, e1, _, t1, _⟩
    · rw [e1] at hb; simp [Value.ownBlock] at hb
    · rw [e1] at hb
      simp only [Value.ownBlock, Option.some.injEq] at hb
      subst hb
      rw [h.map] at t1
      cases t1
  have a4 := hmpb h.addr
  have r4 := hmpb h.recs
  have hs1 := h.kept.size
  have y0 : w4.heap[wr.heap.size]? = some (.cells #[.string x.addr, .int .u64 x.tok, .int .u8 x.st, .int .u64 x.inc] 42 (0, 0)) := (h4o _ (by omega)).trans hx0
  have y1 : w4.heap[wr.heap.size + 1]? = some (.cells #[.string x.addr, .int .u64 x.tok, .int .u8 t4, .int .u64 x.inc] 29 (0, 0)) := (h4o _ (by omega)).trans hx1
  have y2 : w4.heap[wr.heap.size + 1 + 1]? = some (.cells #[.string x.addr, .int .u64 x.tok, .int .u8 t4, .int .u64 x.inc, .int .i64 0, .pointer none, .int .u64 0] 47 (0, 0)) := (h4o _ (by omega)).trans hx2
  obtain ⟨ga, ca, w5, ra, oa, ka⟩ := append_one (t := 40) Yba.underlying40 info9 rfl (by omega) a4 (by omega) #[.string x.addr] rfl (by intro u hu; simp at hu; subst hu; rfl) (by omega) (by omega)
  have kab : ∀ b, wr.heap.size ≤ b → va.ownBlock ≠ some b := fun b hb e => by have := (ownsRow_lt h.addr e).2; omega
  have z1 : w5.heap[wr.heap.size + 1]? = some (.cells #[.string x.addr, .int .u64 x.tok, .int .u8 t4, .int .u64 x.inc] 29 (0, 0)) := (ka.block _ (by omega) (kab _ (by omega))).trans y1
  have r5 := own_kept r4 ka (fun b hb => own_ne r4 a4 (by decide) hb)
  obtain ⟨gr, cr, w6, rr, or', kr⟩ := append_one (t := 30) Yba.underlying30 info29 rfl (by omega) r5 (by have := ka.size; omega) #[.string x.addr, .int .u64 x.tok, .int .u8 t4, .int .u64 x.inc] rfl (by intro u hu; simp at hu; rcases hu with rfl | rfl | rfl | rfl <;> rfl) (by omega) (by omega)
  refine ⟨w4, hup, ?_, ga, ca, w5, ra, ?_, gr, cr, w6, rr, ?_⟩
  · rw [cell_of_block y0]; rfl
  · simp only [cell_of_block z1]
    exact ⟨rfl, rfl, rfl, rfl⟩
  · refine h.push ⟨⟨hx.len, hx.tok, by show t4 < 256; omega, hx.inc⟩, ht⟩ hnew (by omega) k4 h4m ⟨⟨_, y2⟩, ?_, ?_, ?_, ?_⟩ ka oa kr or'
    all_goals rw [cell_of_block y2]; rfl
end Go.Proofs.Ybulkejoc
