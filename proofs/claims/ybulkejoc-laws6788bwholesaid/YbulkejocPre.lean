/- The law's arguments, its first blocks, and what lies in memory where it calls Leave. No Go text is walked here. -/
import Derived.Test.YbulkejocAft
namespace Go.Proofs.Ybulkejoc
open Go.ChangeShapes Go.WideShapes Go.ChangeAt Go.RowKit

/-- An argument's row of members, as it came. -/
def InM (W : World) (MA : Option Addr) (nm : Nat) (ms : Nat → Mb) : Prop := ∀ i, i < nm → ∃ b off, MA = some ⟨b, off, none⟩ ∧ b < W.heap.size ∧ (ms i).Ok ∧ W.cell? ⟨b, off + i * 4, none⟩ = some (.string (ms i).addr) ∧ W.cell? ⟨b, off + i * 4 + 1, none⟩ = some (.int .u64 (ms i).tok) ∧ W.cell? ⟨b, off + i * 4 + 1 + 1, none⟩ = some (.int .u8 (ms i).st) ∧ W.cell? ⟨b, off + i * 4 + 1 + 1 + 1, none⟩ = some (.int .u64 (ms i).inc)

/-- An argument's row of rumours, as it came. -/
def InR (W : World) (RA : Option Addr) (nr : Nat) (rs : Nat → Mb) (rk : Nat → Nat) : Prop := ∀ i, i < nr → ∃ b off, RA = some ⟨b, off, none⟩ ∧ b < W.heap.size ∧ (rs i).Ok ∧ rk i < 256 ∧ W.cell? ⟨b, off + i * 5, none⟩ = some (.string (rs i).addr) ∧ W.cell? ⟨b, off + i * 5 + 1, none⟩ = some (.int .u64 (rs i).tok) ∧ W.cell? ⟨b, off + i * 5 + 1 + 1, none⟩ = some (.int .u8 (rs i).st) ∧ W.cell? ⟨b, off + i * 5 + 1 + 1 + 1, none⟩ = some (.int .u64 (rs i).inc) ∧ W.cell? ⟨b, off + i * 5 + 1 + 1 + 1 + 1, none⟩ = some (.int .u8 (rk i))

/-- The law's first blocks: its own record (sb), the log (lg), the node's config (cb). -/
structure Lw (W : World) (me : Mb) (use : Bool) (sb lg cb : Nat) (w : World) : Prop where
  bel : Below W.heap.size W w
  sbn : W.heap.size ≤ sb
  lgn : W.heap.size ≤ lg
  cbn : W.heap.size ≤ cb
  sl : sb ≠ lg
  sc : sb ≠ cb
  lc : lg ≠ cb
  self : w.heap[sb]? = some (.cells #[.string me.addr, .int .u64 me.tok, .int .u8 me.st, .int .u64 me.inc] 29 (0, 0))
  log : w.heap[lg]? = some (.cells #[.slice none 0 0] 30 (0, 0))
  cfg : w.heap[cb]? = some (.cells #[.string me.addr, .int .u64 me.tok, .int .u64 me.inc, .int .i64 0, .int .i64 0, .int .i64 0, .int .i64 0, .pointer none, chF use lg, .nilFunc, .nilFunc] 38 (0, 0))

theorem own_form {w : World} {B e z n : Nat} {v : Value} {xs : List Value} (h : w.ownsRow B e z v n xs) : ∃ A cap, v = .slice A n cap := by
  rcases h.2 with ⟨rfl, rfl⟩ | ⟨g, cap, _, rfl, _⟩
  · exact ⟨none, 0, rfl⟩
  · exact ⟨_, cap, rfl⟩

/-- The world where the law calls Leave. -/
def callW (me : Mb) (use : Bool) (lg mp : Nat) (va vs : Value) (wr : World) : World :=
  ((((wr.alloc (.cells #[.string ⟨#[122, 122]⟩, .int .u64 7, .int .i64 0, .bool false, .bool false] 59)).alloc (.map #[] 0)).alloc (.map #[] 0)).alloc (.cells #[.string ⟨#[115, 116, 97, 108, 101]⟩, .int .u8 0, .int .u64 0, .string ⟨#[]⟩, .int .u64 0, .int .u8 0, .int .u64 0, .string ⟨#[]⟩, .slice none 0 0] 67)).alloc (.cells (nodeCells me use lg mp (wr.heap.size + 1) wr.heap.size (wr.heap.size + 1 + 1) (wr.heap.size + 1 + 1 + 1) va vs) 70)

theorem pre_of {W wc w2 wr : World} {me : Mb} {use : Bool} {sb lg cb : Nat} {L : List (Nat × Mb)} {R : List (Nat × Mb × Int)} {va vr vs vm : Value} (hw : Lw W me use sb lg cb wc) (hL : MemAt (wc.alloc (.map #[] 0)) wc.heap.size L va vr w2) (hRm : RmAt w2 R vs vm wr) (hW2 : Below W.heap.size W wr) (hl : L.length ≤ 512) (hr : R.length ≤ 512) :
    Pre W me use sb lg wc.heap.size (wc.heap.size + 1) w2.heap.size wr.heap.size wr.heap.size (wr.heap.size + 1) (wr.heap.size + 1 + 1) (wr.heap.size + 1 + 1 + 1) (wr.heap.size + 1 + 1 + 1 + 1) L R va vr vs vm (callW me use lg wc.heap.size va vs wr) := by
  obtain ⟨X4, hX4⟩ : ∃ X4, X4 = (((wr.alloc (.cells #[.string ⟨#[122, 122]⟩, .int .u64 7, .int .i64 0, .bool false, .bool false] 59)).alloc (.map #[] 0)).alloc (.map #[] 0)).alloc (.cells #[.string ⟨#[115, 116, 97, 108, 101]⟩, .int .u8 0, .int .u64 0, .string ⟨#[]⟩, .int .u64 0, .int .u8 0, .int .u64 0, .string ⟨#[]⟩, .slice none 0 0] 67) := ⟨_, rfl⟩
  have hB4 : Below wr.heap.size wr X4 := by
    rw [hX4]
    exact ((((Below.refl _ _).alloc (Nat.le_refl _) _).alloc (by simp) _).alloc (by simp; omega) _).alloc (by simp; omega) _
  have hs4 : X4.heap.size = wr.heap.size + 1 + 1 + 1 + 1 := by rw [hX4]; simp
  have hB5 : Below wr.heap.size wr (callW me use lg wc.heap.size va vs wr) := by
    unfold callW
    rw [← hX4]
    exact hB4.alloc (by omega) _
  have hnode : (callW me use lg wc.heap.size va vs wr).heap[wr.heap.size + 1 + 1 + 1 + 1]? = some (.cells (nodeCells me use lg wc.heap.size (wr.heap.size + 1) wr.heap.size (wr.heap.size + 1 + 1) (wr.heap.size + 1 + 1 + 1) va vs) 70 (0, 0)) := by
    unfold callW
    rw [← hX4, ← hs4]
    exact heap_alloc_new X4 _
  have hs5 : (callW me use lg wc.heap.size va vs wr).heap.size = wr.heap.size + 1 + 1 + 1 + 1 + 1 := by
    unfold callW
    rw [← hX4]
    simp [hs4]
  have hk := hL.kept.size
  simp only [World.size_alloc] at hk
  have hr2 := hRm.bel.size
  have hkw : ∀ b, b < wc.heap.size → (callW me use lg wc.heap.size va vs wr).heap[b]? = wc.heap[b]? := by
    intro b hb
    rw [hB5.block b (by omega), hRm.bel.block b (by omega), hL.kept.block b (by simp; omega) (by omega), heap_alloc_old _ _ hb]
  have k5 : Kept (fun _ => False) w2 (callW me use lg wc.heap.size va vs wr) := Kept.of_below (hRm.bel.trans (hB5.mono hr2)) (Nat.le_refl _)
  have k6 : Kept (fun _ => False) wr (callW me use lg wc.heap.size va vs wr) := Kept.of_below hB5 (Nat.le_refl _)
  have l1 := lt_of_heap hw.self
  have l2 := lt_of_heap hw.log
  have hWc := hw.bel.size
  refine ⟨hW2.trans (hB5.mono hW2.size), (hkw sb l1).trans hw.self, (hkw lg l2).trans hw.log, hnode, ?_, ?_, ?_, ?_, hL.keys, hL.blocks, hL.ok, own_kept hRm.rows k6 (fun _ _ h => h), own_kept hRm.model k6 (fun _ _ h => h), ?_, hRm.blocks, hRm.ok, hl, hr, ⟨hw.sbn, by omega, hw.lgn, by omega, by omega, by omega⟩, hw.sl, ⟨by omega, by omega, by omega, by omega⟩, ?_, ?_, ?_, ?_, by omega⟩
  · rw [k5.block wc.heap.size (lt_of_heap hL.map) (fun h => h)]
    exact hL.map
  · simpa using own_kept hL.addr k5 (fun _ _ h => h)
  · simpa using own_kept hL.recs k5 (fun _ _ h => h)
  · intro p hp
    have he := hL.ent p hp
    exact ⟨by simpa using he.1, he.2.lt, he.2.kept k5 (fun h => h)⟩
  · intro p hp
    have he := hRm.rum p hp
    exact ⟨he.1, lt_of_heap he.2, (k6.block p.1 (lt_of_heap he.2) (fun h => h)).trans he.2⟩
  · intro b hb; exact (ownsRow_lt hL.addr hb).2
  · intro b hb; exact (ownsRow_lt hL.recs hb).2
  · intro b hb; exact (ownsRow_lt hRm.rows hb).2
  · intro b hb; exact (ownsRow_lt hRm.model hb).2

/-- Leave, as the law calls it. -/
theorem leave_law {W w : World} {me : Mb} {use : Bool} {sb lg mp b1 b2 b3 pb m1 m2 pk nb : Nat} {L : List (Nat × Mb)} {R : List (Nat × Mb × Int)} {va vr vs vm : Value} (h : Pre W me use sb lg mp b1 b2 b3 pb m1 m2 pk nb L R va vr vs vm w) (hme : me.Ok) (now : Int) :
    Calls Yba.prog 5 #[.pointer (some ⟨nb, 0, none⟩), .int .i64 now] w fun e w' => ∃ got, e = .returned got ∧ ∃ (f : Nat → Mb × Int) (emem : Nat → Mb), (∀ p ∈ R, f p.1 = p.2) ∧ (∀ p ∈ L, emem p.1 = p.2) ∧
      Aft W me use sb lg mp pb nb L (lvF (fun k => (f k).1) emem me L (R.map (·.1)) (fun k => (f k).2)) (fun k => (f k).1) (R.map (·.2)) va vr vm got now w' := by
  obtain ⟨f, hf⟩ := fun_of ((⟨ByteArray.empty, 0, 0, 0⟩ : Mb), (0 : Int)) R h.rblocks
  obtain ⟨emem, he⟩ := fun_of (⟨ByteArray.empty, 0, 0, 0⟩ : Mb) L h.lblocks
  obtain ⟨g, hg1, hg2, hg3, hgd, hrow, hgm⟩ := h.row
  have c : ∀ o, w.cell? ⟨nb, o, none⟩ = (nodeCells me use lg mp m1 pb m2 pk va vs)[o]? := fun o => cell_of_block h.node o
  by_cases hst : me.st = 3
  · refine (leave_left w nb now (u := .int .i64 0) (u' := .slice (some ⟨pk, 0, none⟩) 1 1) (by rw [c]; rfl) (by rw [c]; rfl) (by rw [c]; simp [nodeCells, hst]) (frozen_of_block h.node _) (frozen_of_block h.node _)).mono ?_
    rintro e w' ⟨rfl, rfl⟩
    exact ⟨_, rfl, f, emem, hf, he, h.aft_left hst hg1 hgm hrow hf⟩
  · refine (leave_any w nb lg mp (kl L) ⟨me.addr, me.tok, 3, me.inc⟩ me.st g _ _ _ emem va use now (h.lvin hme hst hg1 hg2 hg3 hgd hrow hf he)).mono ?_
    rintro e w' ⟨vo, rfl, ho⟩
    exact ⟨vo, rfl, f, emem, hf, he, h.aft hst hg1 hg2 hgm ho⟩
end Go.Proofs.Ybulkejoc
