/- The law's rumours, as its second loop lays them. No Go text is walked here. -/
import Derived.Test.YbulkejocMemB
namespace Go.Proofs.Ybulkejoc
open Go.ChangeShapes Go.WideShapes Go.ChangeAt Go.RowKit

/-- The law's own list of rumours: its cells. -/
def rcells (R : List (Mb × Int)) : List Value := R.flatMap fun p => [.string p.1.addr, .int .u64 p.1.tok, .int .u8 p.1.st, .int .u64 p.1.inc, .int .i64 p.2]
theorem rcells_append (a b : List (Mb × Int)) : rcells (a ++ b) = rcells a ++ rcells b := by simp [rcells]

def rumObj (m : Mb) (s : Int) : Obj := .cells #[.string m.addr, .int .u64 m.tok, .int .u8 m.st, .int .u64 m.inc, .int .i64 s] 54 (0, 0)

structure RmAt (w2 : World) (R : List (Nat × Mb × Int)) (vs vm : Value) (wr : World) : Prop where
  rows : wr.ownsRow w2.heap.size 52 1 vs R.length (R.map fun p => ptr p.1)
  model : wr.ownsRow w2.heap.size 56 5 vm R.length (rcells (R.map (·.2)))
  rum : ∀ p ∈ R, w2.heap.size ≤ p.1 ∧ wr.heap[p.1]? = some (rumObj p.2.1 p.2.2)
  blocks : (R.map (·.1)).Nodup
  ok : ∀ p ∈ R, p.2.1.Ok ∧ 0 ≤ p.2.2 ∧ p.2.2 ≤ 15
  bel : Below w2.heap.size w2 wr

variable {w2 wr : World} {R : List (Nat × Mb × Int)} {vs vm : Value}

theorem RmAt.start (w : World) : RmAt w [] (.slice none 0 0) (.slice none 0 0) w := ⟨World.ownsRow_nil _ _ _ _, World.ownsRow_nil _ _ _ _, by simp, by simp, by simp, Below.refl _ _⟩

theorem rum_own_ne {w : World} {b : Nat} {m : Mb} {s : Int} (h : w.heap[b]? = some (rumObj m s)) {B e z n : Nat} {v : Value} {xs : List Value} (h' : w.ownsRow B e z v n xs) (he : e ≠ 54) : v.ownBlock ≠ some b := by
  intro hb
  rcases h'.2 with ⟨e1, _⟩ | ⟨g1, cap1, cur1, e1, _, t1, _⟩
  · rw [e1] at hb; simp [Value.ownBlock] at hb
  · rw [e1] at hb
    simp only [Value.ownBlock, Option.some.injEq] at hb
    subst hb
    rw [t1] at h
    injection h with t3
    injection t3 with _ t4
    exact he t4

theorem RmAt.round (h : RmAt w2 R vs vm wr) (x : Mb) (sr : Nat) {t4 : Nat} {s : Int} (hx : x.Ok) (ht : t4 < 4) (hs0 : 0 ≤ s) (hs1 : s ≤ 15) (hR : R.length ≤ 512) :
    ∃ ga ca w5, (Builtin.append_ #[48, 48] 48 #[vs, .slice (some ⟨wr.heap.size + 1 + 1 + 1, 0, none⟩) 1 1]).run Yba.prog ((((wr.alloc (.cells #[.string x.addr, .int .u64 x.tok, .int .u8 x.st, .int .u64 x.inc, .int .u8 sr] 51)).alloc (.cells #[.string x.addr, .int .u64 x.tok, .int .u8 t4, .int .u64 x.inc] 29)).alloc (.cells #[.string x.addr, .int .u64 x.tok, .int .u8 t4, .int .u64 x.inc, .int .i64 s] 54)).alloc (.cells #[.pointer (some ⟨wr.heap.size + 1 + 1, 0, none⟩)] 52)) = .ok (.slice (some ⟨ga, 0, none⟩) (R.length + 1) ca) w5 ∧
      (w5.cell? ⟨wr.heap.size + 1, 0, none⟩ = some (.string x.addr) ∧ w5.cell? ⟨wr.heap.size + 1, 1, none⟩ = some (.int .u64 x.tok) ∧ w5.cell? ⟨wr.heap.size + 1, 2, none⟩ = some (.int .u8 t4) ∧ w5.cell? ⟨wr.heap.size + 1, 3, none⟩ = some (.int .u64 x.inc)) ∧
      ∃ gr cr w6, (Builtin.append_ #[49, 49] 49 #[vm, .slice (some ⟨w5.heap.size, 0, none⟩) 1 1]).run Yba.prog (w5.alloc (.cells #[.string x.addr, .int .u64 x.tok, .int .u8 t4, .int .u64 x.inc, .int .i64 s] 56)) = .ok (.slice (some ⟨gr, 0, none⟩) (R.length + 1) cr) w6 ∧
        RmAt w2 (R ++ [(wr.heap.size + 1 + 1, ⟨x.addr, x.tok, t4, x.inc⟩, s)]) (.slice (some ⟨ga, 0, none⟩) (R.length + 1) ca) (.slice (some ⟨gr, 0, none⟩) (R.length + 1) cr) w6 := by
  obtain ⟨wC, hwC⟩ : ∃ wC, wC = ((wr.alloc (.cells #[.string x.addr, .int .u64 x.tok, .int .u8 x.st, .int .u64 x.inc, .int .u8 sr] 51)).alloc (.cells #[.string x.addr, .int .u64 x.tok, .int .u8 t4, .int .u64 x.inc] 29)).alloc (.cells #[.string x.addr, .int .u64 x.tok, .int .u8 t4, .int .u64 x.inc, .int .i64 s] 54) := ⟨_, rfl⟩
  rw [← hwC]
  have hBC : Below wr.heap.size wr wC := by
    rw [hwC]
    exact (((Below.refl _ _).alloc (Nat.le_refl _) _).alloc (by simp) _).alloc (by simp; omega) _
  have hsC : wC.heap.size = wr.heap.size + 1 + 1 + 1 := by rw [hwC]; simp
  have kC : Kept (fun _ => False) wr wC := Kept.of_below hBC (Nat.le_refl _)
  have hx1 : wC.heap[wr.heap.size + 1]? = some (.cells #[.string x.addr, .int .u64 x.tok, .int .u8 t4, .int .u64 x.inc] 29 (0, 0)) := by
    rw [hwC, heap_alloc_old _ _ (by simp)]
    have := heap_alloc_new (wr.alloc (.cells #[.string x.addr, .int .u64 x.tok, .int .u8 x.st, .int .u64 x.inc, .int .u8 sr] 51)) (.cells #[.string x.addr, .int .u64 x.tok, .int .u8 t4, .int .u64 x.inc] 29)
    simpa using this
  have hx2 : wC.heap[wr.heap.size + 1 + 1]? = some (rumObj ⟨x.addr, x.tok, t4, x.inc⟩ s) := by
    rw [hwC]
    have := heap_alloc_new ((wr.alloc (.cells #[.string x.addr, .int .u64 x.tok, .int .u8 x.st, .int .u64 x.inc, .int .u8 sr] 51)).alloc (.cells #[.string x.addr, .int .u64 x.tok, .int .u8 t4, .int .u64 x.inc] 29)) (.cells #[.string x.addr, .int .u64 x.tok, .int .u8 t4, .int .u64 x.inc, .int .i64 s] 54)
    simpa [rumObj] using this
  have aC := own_kept h.rows kC (fun _ _ h => h)
  have mC := own_kept h.model kC (fun _ _ h => h)
  have hs1' := h.bel.size
  obtain ⟨ga, ca, w5, ra, oa, ka⟩ := append_one (t := 48) Yba.underlying48 info52 rfl (by omega) aC (by omega) #[.pointer (some ⟨wr.heap.size + 1 + 1, 0, none⟩)] rfl (by intro u hu; simp at hu; subst hu; rfl) (by omega) (by omega)
  rw [hsC] at ra
  have kab : ∀ b, wr.heap.size ≤ b → vs.ownBlock ≠ some b := fun b hb e => by have := (ownsRow_lt h.rows e).2; omega
  have kmb : ∀ b, wr.heap.size ≤ b → vm.ownBlock ≠ some b := fun b hb e => by have := (ownsRow_lt h.model e).2; omega
  have z1 : w5.heap[wr.heap.size + 1]? = some (.cells #[.string x.addr, .int .u64 x.tok, .int .u8 t4, .int .u64 x.inc] 29 (0, 0)) := (ka.block _ (by omega) (kab _ (by omega))).trans hx1
  have m5 := own_kept mC ka (fun b hb => own_ne mC aC (by decide) hb)
  obtain ⟨gr, cr, w6, rr, or', kr⟩ := append_one (t := 49) Yba.underlying49 info56 rfl (by omega) m5 (by have := ka.size; omega) #[.string x.addr, .int .u64 x.tok, .int .u8 t4, .int .u64 x.inc, .int .i64 s] rfl (by intro u hu; simp at hu; rcases hu with rfl | rfl | rfl | rfl | rfl <;> rfl) (by omega) (by omega)
  have hrum : ∀ (b : Nat) (m : Mb) (u : Int), wC.heap[b]? = some (rumObj m u) → w6.heap[b]? = some (rumObj m u) := by
    intro b m u hb
    have h5 := (ka.block b (lt_of_heap hb) (rum_own_ne hb aC (by decide))).trans hb
    exact (kr.block b (lt_of_heap h5) (rum_own_ne h5 m5 (by decide))).trans h5
  refine ⟨ga, ca, w5, ra, ?_, gr, cr, w6, rr, ?_, ?_, ?_, ?_, ?_, ?_⟩
  · simp only [cell_of_block z1]
    exact ⟨rfl, rfl, rfl, rfl⟩
  · have := own_kept oa kr (fun b hb => own_ne oa m5 (by decide) hb)
    simpa [ptr] using this
  · have : rcells ((R ++ [(wr.heap.size + 1 + 1, (⟨x.addr, x.tok, t4, x.inc⟩ : Mb), s)]).map (·.2)) = rcells (R.map (·.2)) ++ [.string x.addr, .int .u64 x.tok, .int .u8 t4, .int .u64 x.inc, .int .i64 s] := by simp [rcells]
    rw [this]
    simpa using or'
  · intro p hp
    rcases List.mem_append.1 hp with hp | hp
    · have hr := h.rum p hp
      exact ⟨hr.1, hrum _ _ _ ((kC.block _ (lt_of_heap hr.2) (fun h => h)).trans hr.2)⟩
    · simp only [List.mem_singleton] at hp
      subst hp
      exact ⟨by show w2.heap.size ≤ wr.heap.size + 1 + 1; omega, hrum _ _ _ hx2⟩
  · rw [List.map_append, List.nodup_append]
    refine ⟨h.blocks, by simp, ?_⟩
    intro y hy z hz
    simp only [List.map_cons, List.map_nil, List.mem_singleton] at hz
    obtain ⟨p, hp, rfl⟩ := List.mem_map.1 hy
    subst hz
    have := lt_of_heap (h.rum p hp).2
    omega
  · intro p hp
    rcases List.mem_append.1 hp with hp | hp
    · exact h.ok p hp
    · simp only [List.mem_singleton] at hp
      subst hp
      exact ⟨⟨hx.len, hx.tok, by show t4 < 256; omega, hx.inc⟩, hs0, hs1⟩
  · refine h.bel.trans (Kept.below (S := fun b => w2.heap.size ≤ b) ?_ (fun k hk h => by omega) hs1')
    refine ((kC.mono (S' := fun b => w2.heap.size ≤ b) (fun _ h => h.elim)).trans ka ?_).trans kr ?_
    · intro b _ hb; exact (ownsRow_lt aC hb).1
    · intro b _ hb; exact (ownsRow_lt m5 hb).1
end Go.Proofs.Ybulkejoc
