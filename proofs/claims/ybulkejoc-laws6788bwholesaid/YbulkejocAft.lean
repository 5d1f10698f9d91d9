/- What lies in memory behind Leave, whether the node had left already or not. No Go text is walked here. -/
import Derived.Test.YbulkejocJoin
namespace Go.Proofs.Ybulkejoc
open Go.ChangeShapes Go.WideShapes Go.ChangeAt Go.RowKit

/-- The node's record behind Leave. -/
def gone (me : Mb) : Mb := ⟨me.addr, me.tok, 3, me.inc⟩
theorem gone_left {me : Mb} (h : me.st = 3) : gone me = me := by
  obtain ⟨a, b, c, d⟩ := me
  simp only [gone] at h ⊢
  rw [← h]
/-- What Leave makes of the rumours. -/
def lvF (mem : Nat → Mb) (emem : Nat → Mb) (me : Mb) (L : List (Nat × Mb)) (d0 : List Nat) (key : Nat → Int) : Ls :=
  if me.st = 3 then ⟨d0, key, []⟩ else Ls.run mem (gone me) L.length emem ⟨d0, key, []⟩ (kl L)

structure Aft (W : World) (me : Mb) (use : Bool) (sb lg mp pb nb : Nat) (L : List (Nat × Mb)) (s : Ls) (mem : Nat → Mb) (M : List (Mb × Int)) (va vr vm got : Value) (now : Int) (w : World) : Prop where
  bel : Below W.heap.size W w
  self : w.heap[sb]? = some (.cells #[.string me.addr, .int .u64 me.tok, .int .u8 me.st, .int .u64 me.inc] 29 (0, 0))
  log : ∃ v, w.cell? ⟨lg, 0, none⟩ = some v ∧ MsAt w v (if use && decide (me.st ≠ 3) then [gone me] else []) ∧ ∀ b, v.ownBlock = some b → b ≠ sb
  n11 : w.cell? ⟨nb, 11, none⟩ = some (.string me.addr)
  n12 : w.cell? ⟨nb, 12, none⟩ = some (.int .u64 me.tok)
  n13 : w.cell? ⟨nb, 13, none⟩ = some (.int .u8 3)
  n14 : w.cell? ⟨nb, 14, none⟩ = some (.int .u64 me.inc)
  n15 : w.cell? ⟨nb, 15, none⟩ = some (.map (some mp))
  n16 : w.cell? ⟨nb, 16, none⟩ = some va
  n19 : w.cell? ⟨nb, 19, none⟩ = some (.pointer (if me.st = 3 then some ⟨pb, 0, none⟩ else none))
  n24 : ∃ A cap, w.cell? ⟨nb, 24, none⟩ = some (.slice A s.d.length cap) ∧ ∀ i (hi : i < s.d.length), ∃ g, A = some ⟨g, 0, none⟩ ∧ g ≠ sb ∧ vm.ownBlock ≠ some g ∧ w.cell? ⟨g, i, none⟩ = some (ptr s.d[i])
  n27 : w.cell? ⟨nb, 27, none⟩ = some (.int .i64 now)
  n28 : w.cell? ⟨nb, 28, none⟩ = some (.slice none 0 0)
  rum : ∀ k ∈ s.d, RumAt w k (mem k) (s.key k) ∧ k ≠ sb ∧ vm.ownBlock ≠ some k
  map : w.heap[mp]? = some (.map (ents (kl L)) (kl L).length)
  ent : ∀ p ∈ L, EntAt w p.1 p.2 ∧ p.1 ≠ sb ∧ vm.ownBlock ≠ some p.1
  keys : (L.map fun p => p.2.addr).Nodup
  lok : ∀ p ∈ L, p.2.Ok ∧ p.2.st < 4
  addr : w.ownsRow 0 9 1 va L.length (L.map fun p => .string p.2.addr)
  recs : w.ownsRow 0 29 4 vr L.length (mcells (L.map (·.2)))
  model : w.ownsRow W.heap.size 56 5 vm M.length (rcells M)
  vas : ∀ b, va.ownBlock = some b → b ≠ sb
  vrs : ∀ b, vr.ownBlock = some b → b ≠ sb
  lgs : lg ≠ sb ∧ vm.ownBlock ≠ some lg
  nbs : nb ≠ sb ∧ vm.ownBlock ≠ some nb
  sbw : W.heap.size ≤ sb ∧ vm.ownBlock ≠ some sb
  got : ∃ vs : List Value, vs.length = s.out.length ∧ w.ownsRow 0 67 9 got s.out.length (ocells (gone me) s.out vs) ∧ (∀ b, got.ownBlock = some b → b ≠ sb) ∧ (∀ i (hi : i < s.out.length) (hv : i < vs.length), w.ownsRow 0 29 4 vs[i] s.out[i].2.length (mcells s.out[i].2) ∧ ∀ b, (vs[i]).ownBlock = some b → b ≠ sb) ∧ (s.out = [] → got = .slice none 0 0)

variable {W w w' : World} {me : Mb} {use : Bool} {sb lg mp b1 b2 b3 pb m1 m2 pk nb : Nat} {L : List (Nat × Mb)} {R : List (Nat × Mb × Int)} {va vr vs vm : Value}

theorem obj_own_ne {w : World} {b t : Nat} {cs : Array Value} (h : w.heap[b]? = some (.cells cs t (0, 0))) {B e z n : Nat} {v : Value} {xs : List Value} (h' : w.ownsRow B e z v n xs) (he : e ≠ t) : v.ownBlock ≠ some b := by
  intro hb
  rcases h'.2 with ⟨e1, _⟩ | ⟨g1, cap1, cur1, e1, _, t1, _⟩
  · rw [e1] at hb; simp [Value.ownBlock] at hb
  · rw [e1] at hb
    simp only [Value.ownBlock, Option.some.injEq] at hb
    subst hb
    rw [t1] at h
    injection h with t3
    injection t3 with _ t4
    exact he t4

theorem rowIs_cells {g : Nat} {d : List Nat} {v : Value} (h : RowIs w v nb g d) : ∃ A cap, v = .slice A d.length cap ∧ ∀ i (hi : i < d.length), A = some ⟨g, 0, none⟩ ∧ w.cell? ⟨g, i, none⟩ = some (ptr d[i]) := by
  rcases h with ⟨rfl, rfl⟩ | ⟨cap, rest, rfl, h1, _⟩
  · exact ⟨none, 0, rfl, fun i hi => by simp at hi⟩
  · refine ⟨_, cap, rfl, fun i hi => ⟨rfl, ?_⟩⟩
    rw [cell_of_block h1]
    simp [List.getElem?_append_left, hi]

/-- The node leaves. -/
theorem Pre.aft (h : Pre W me use sb lg mp b1 b2 b3 pb m1 m2 pk nb L R va vr vs vm w) (hst : me.st ≠ 3) {g : Nat} (hg1 : b2 ≤ g) (hg2 : g < b3 ∨ g = pb) (hgm : ∀ b, vm.ownBlock = some b → b ≠ g)
    {f : Nat → Mb × Int} {emem : Nat → Mb} {now : Int} {got : Value}
    (ho : LvOut w nb lg g (gone me) (R.map (·.1)) (fun k => (f k).1) use now (Ls.run (fun k => (f k).1) (gone me) (kl L).length emem ⟨R.map (·.1), fun k => (f k).2, []⟩ (kl L)) got w') :
    Aft W me use sb lg mp pb nb L (lvF (fun k => (f k).1) emem me L (R.map (·.1)) (fun k => (f k).2)) (fun k => (f k).1) (R.map (·.2)) va vr vm got now w' := by
  have o1 := h.o1
  have o3 := h.o3
  have hkl : (kl L).length = L.length := by simp [kl]
  have hs : lvF (fun k => (f k).1) emem me L (R.map (·.1)) (fun k => (f k).2) = Ls.run (fun k => (f k).1) (gone me) L.length emem ⟨R.map (·.1), fun k => (f k).2, []⟩ (kl L) := if_neg hst
  rw [hkl] at ho
  rw [hs]
  have hd : ∀ k ∈ R.map (·.1), b2 ≤ k ∧ k < b3 := by
    intro k hk
    obtain ⟨p, hp, rfl⟩ := List.mem_map.1 hk
    exact ⟨(h.rum p hp).1, (h.rum p hp).2.1⟩
  have hF := ho.fr
  have hC : ∀ b, b ≠ nb → b ≠ lg → b ≠ g → b ∉ R.map (·.1) → ∀ o, ¬ LeaveC nb lg g (R.map (·.1)) b o := by
    rintro b h1 h2 h3 h4 o (⟨e, _⟩ | ⟨e, _⟩ | e | ⟨e, _⟩)
    · exact h1 e
    · exact h2 e
    · exact h3 e
    · exact h4 e
  have hblk : ∀ b, b < w.heap.size → b ≠ nb → b ≠ lg → b ≠ g → b ∉ R.map (·.1) → w'.heap[b]? = w.heap[b]? := fun b hb h1 h2 h3 h4 => hF.block b hb (hC b h1 h2 h3 h4)
  have hnlt : nb < w.heap.size := lt_of_heap h.node
  have hnC : ∀ o, o ≠ 13 → o ≠ 19 → o ≠ 24 → o ≠ 27 → o ≠ 28 → w'.cell? ⟨nb, o, none⟩ = (nodeCells me use lg mp m1 pb m2 pk va vs)[o]? := by
    intro o h1 h2 h3 h4 h5
    rw [hF.cell nb o hnlt ?_]
    · exact cell_of_block h.node o
    · rintro (⟨_, e⟩ | ⟨e, _⟩ | e | ⟨e, _⟩)
      · omega
      · omega
      · omega
      · have := hd nb e; omega
  have hlow : ∀ b, b < b2 → b < w.heap.size → b ≠ lg → w'.heap[b]? = w.heap[b]? := fun b hb hlt hl => hblk b hlt (by omega) hl (by omega) (fun hk => by have := hd b hk; omega)
  have hvm : ∀ b, vm.ownBlock = some b → b2 ≤ b ∧ b < b3 := fun b hb => ⟨(ownsRow_lt h.model hb).1, h.vm' b hb⟩
  have hmod : w'.ownsRow b2 56 5 vm R.length (rcells (R.map (·.2))) := by
    refine ownsRow_block h.model fun b hb => hblk b (ownsRow_lt h.model hb).2 (by have := hvm b hb; omega) (by have := hvm b hb; omega) (hgm b hb) ?_
    intro hk
    obtain ⟨p, hp, rfl⟩ := List.mem_map.1 hk
    exact rum_own_ne (h.rum p hp).2.2 h.model (by decide) hb
  have hWs := h.bel.size
  have hWlt : ∀ b, b < b1 → W.heap.size ≤ b → b ≠ nb := fun b h1 h2 => by omega
  obtain ⟨lv, l1, l2⟩ := ho.log
  obtain ⟨rv, r1, r2⟩ := ho.row
  obtain ⟨gvs, g1, g2, g3, g4⟩ := ho.out
  have hsbw : sb < w.heap.size := lt_of_heap h.self
  refine ⟨?_, (hlow sb (by omega) hsbw h.o2).trans h.self, ⟨lv, l1, ?_, fun b hb e => by have := (ownsRow_lt l2 hb).1; omega⟩, by rw [hnC 11 (by omega) (by omega) (by omega) (by omega) (by omega)]; rfl, by rw [hnC 12 (by omega) (by omega) (by omega) (by omega) (by omega)]; rfl, ho.state, by rw [hnC 14 (by omega) (by omega) (by omega) (by omega) (by omega)]; rfl, by rw [hnC 15 (by omega) (by omega) (by omega) (by omega) (by omega)]; rfl, by rw [hnC 16 (by omega) (by omega) (by omega) (by omega) (by omega)]; rfl, by rw [if_neg hst]; exact ho.probe, ?_, ho.now, ho.outs, ?_, ?_, ?_, h.keys, h.lok, ?_, ?_, ?_, ?_, ?_, ?_, ?_, ?_, ?_⟩
  · refine h.bel.trans (hF.below (B := W.heap.size) ?_ hWs)
    rintro b o hb (⟨e, _⟩ | ⟨e, _⟩ | e | ⟨e, _⟩)
    · omega
    · omega
    · omega
    · have := hd b e; omega
  · have l3 := ownsRow_base l2 (Nat.zero_le _)
    cases use
    · simpa [MsAt, mcells] using l3
    · simpa [MsAt, mcells, hst] using l3
  · obtain ⟨A, cap, e1, e2⟩ := rowIs_cells r2
    refine ⟨A, cap, by rw [← e1]; exact r1, fun i hi => ⟨g, (e2 i hi).1, by omega, fun hb => hgm g hb rfl, (e2 i hi).2⟩⟩
  · intro k hk
    have hk0 := ho.sub k hk
    have hb := hd k hk0
    refine ⟨ho.rum k hk, by omega, fun hv => ?_⟩
    obtain ⟨p, hp, rfl⟩ := List.mem_map.1 hk0
    exact rum_own_ne (h.rum p hp).2.2 h.model (by decide) hv
  · exact (hlow mp (by omega) (lt_of_heap h.map) (cell_not_map h.map (by rw [cell_of_block h.log]; rfl : w.cell? ⟨lg, 0, none⟩ = some (.slice none 0 0)))).trans h.map
  · intro p hp
    obtain ⟨h1, h2, h3⟩ := h.ent p hp
    have hb := hlow p.1 h2 h3.lt (by omega)
    obtain ⟨cs, hc⟩ := h3.obj
    refine ⟨⟨⟨cs, hb.trans hc⟩, (World.cell?_of_block (a := ⟨p.1, 0, none⟩) hb).trans h3.a, (World.cell?_of_block (a := ⟨p.1, 1, none⟩) hb).trans h3.t, (World.cell?_of_block (a := ⟨p.1, 2, none⟩) hb).trans h3.s', (World.cell?_of_block (a := ⟨p.1, 3, none⟩) hb).trans h3.i⟩, by omega, fun hv => ?_⟩
    have := hvm _ hv
    omega
  · refine ownsRow_base (ownsRow_block h.addr fun b hb => ?_) (Nat.zero_le _)
    have := (ownsRow_lt h.addr hb).1
    exact hlow b (h.va' b hb) (ownsRow_lt h.addr hb).2 (by omega)
  · refine ownsRow_base (ownsRow_block h.recs fun b hb => ?_) (Nat.zero_le _)
    have := (ownsRow_lt h.recs hb).1
    exact hlow b (h.vr' b hb) (ownsRow_lt h.recs hb).2 (by omega)
  · simpa using ownsRow_base hmod (by omega : W.heap.size ≤ b2)
  · intro b hb; have := (ownsRow_lt h.addr hb).1; omega
  · intro b hb; have := (ownsRow_lt h.recs hb).1; omega
  · exact ⟨Ne.symm h.o2, fun hv => by have := hvm _ hv; omega⟩
  · exact ⟨by omega, fun hv => by have := hvm _ hv; omega⟩
  · exact ⟨by omega, fun hv => by have := hvm _ hv; omega⟩
  · refine ⟨gvs, g1, ownsRow_base g2 (Nat.zero_le _), fun b hb => ?_, fun i hi hv => ⟨ownsRow_base (g3 i hi hv) (Nat.zero_le _), fun b hb => ?_⟩, g4⟩
    · have := (ownsRow_lt g2 hb).1; omega
    · have := (ownsRow_lt (g3 i hi hv) hb).1; omega

/-- The node has left already. -/
theorem Pre.aft_left (h : Pre W me use sb lg mp b1 b2 b3 pb m1 m2 pk nb L R va vr vs vm w) (hst : me.st = 3) {g : Nat} (hg1 : b2 ≤ g) (hgm : ∀ b, vm.ownBlock = some b → b ≠ g) (hrow : RowIs w vs nb g (R.map (·.1)))
    {f : Nat → Mb × Int} (hf : ∀ p ∈ R, f p.1 = p.2) {emem : Nat → Mb} {now : Int} :
    Aft W me use sb lg mp pb nb L (lvF (fun k => (f k).1) emem me L (R.map (·.1)) (fun k => (f k).2)) (fun k => (f k).1) (R.map (·.2)) va vr vm (.slice none 0 0) now (((w.setCell ⟨nb, 27, none⟩ (.int .i64 now)).setCell ⟨nb, 28, none⟩ (.slice none 0 0)).setCell ⟨nb, 28, none⟩ (.slice none 0 0)) := by
  have o1 := h.o1
  have o3 := h.o3
  have hs : lvF (fun k => (f k).1) emem me L (R.map (·.1)) (fun k => (f k).2) = ⟨R.map (·.1), fun k => (f k).2, []⟩ := if_pos hst
  rw [hs]
  have hnlt : nb < w.heap.size := lt_of_heap h.node
  have c : ∀ o, w.cell? ⟨nb, o, none⟩ = (nodeCells me use lg mp m1 pb m2 pk va vs)[o]? := fun o => cell_of_block h.node o
  have hF : Fr (fun b o => b = nb ∧ (o = 27 ∨ o = 28)) w (((w.setCell ⟨nb, 27, none⟩ (.int .i64 now)).setCell ⟨nb, 28, none⟩ (.slice none 0 0)).setCell ⟨nb, 28, none⟩ (.slice none 0 0)) := by
    refine Fr.setCell (Fr.setCell (Fr.setCell (Fr.refl _ _) ?_ _) ?_ _) ?_ _ <;> (intro _; exact ⟨rfl, by omega⟩)
  have x1 : (w.setCell ⟨nb, 27, none⟩ (.int .i64 now)).cell? ⟨nb, 27, none⟩ = some (.int .i64 now) := World.cell?_setCell_same (u := .int .i64 0) _ _ _ (by rw [c]; rfl)
  have x2 : (w.setCell ⟨nb, 27, none⟩ (.int .i64 now)).cell? ⟨nb, 28, none⟩ = some (.slice (some ⟨pk, 0, none⟩) 1 1) := by
    rw [(Fr.setCell_one w nb 27 _).cell nb 28 hnlt (by rintro ⟨_, e⟩; omega), c]; rfl
  have x3 := World.cell?_setCell_same (w.setCell ⟨nb, 27, none⟩ (.int .i64 now)) ⟨nb, 28, none⟩ (.slice none 0 0) x2
  have x4 := World.cell?_setCell_same _ ⟨nb, 28, none⟩ (.slice none 0 0) x3
  obtain ⟨w', hw'⟩ : ∃ w', w' = ((w.setCell ⟨nb, 27, none⟩ (.int .i64 now)).setCell ⟨nb, 28, none⟩ (.slice none 0 0)).setCell ⟨nb, 28, none⟩ (.slice none 0 0) := ⟨_, rfl⟩
  have x5 : w'.cell? ⟨nb, 27, none⟩ = some (.int .i64 now) := by
    rw [hw', (Fr.setCell_one _ nb 28 _).cell nb 27 (by simpa using hnlt) (by rintro ⟨_, e⟩; omega), (Fr.setCell_one _ nb 28 _).cell nb 27 (by simpa using hnlt) (by rintro ⟨_, e⟩; omega)]
    exact x1
  rw [← hw'] at hF x4 ⊢
  have hb : ∀ b, b < w.heap.size → b ≠ nb → w'.heap[b]? = w.heap[b]? := fun b hlt hn => hF.block b hlt (by rintro o ⟨e, _⟩; exact hn e)
  have hnC : ∀ o, o ≠ 27 → o ≠ 28 → w'.cell? ⟨nb, o, none⟩ = (nodeCells me use lg mp m1 pb m2 pk va vs)[o]? := by
    intro o h1 h2
    rw [hF.cell nb o hnlt (by rintro ⟨_, e⟩; omega)]
    exact c o
  have hvm : ∀ b, vm.ownBlock = some b → b2 ≤ b ∧ b < b3 := fun b hb => ⟨(ownsRow_lt h.model hb).1, h.vm' b hb⟩
  have hWs := h.bel.size
  have hlgb := (hb lg (lt_of_heap h.log) (by omega)).trans h.log
  refine ⟨?_, (hb sb (lt_of_heap h.self) (by omega)).trans h.self, ⟨.slice none 0 0, by rw [cell_of_block hlgb]; rfl, ?_, fun b hb' => by simp [Value.ownBlock] at hb'⟩, by rw [hnC 11 (by omega) (by omega)]; rfl, by rw [hnC 12 (by omega) (by omega)]; rfl, by rw [hnC 13 (by omega) (by omega)]; simp [nodeCells, hst], by rw [hnC 14 (by omega) (by omega)]; rfl, by rw [hnC 15 (by omega) (by omega)]; rfl, by rw [hnC 16 (by omega) (by omega)]; rfl, by rw [hnC 19 (by omega) (by omega), if_pos hst]; rfl, ?_, x5, x4, ?_, (hb mp (lt_of_heap h.map) (by omega)).trans h.map, ?_, h.keys, h.lok, ?_, ?_, ?_, ?_, ?_, ?_, ?_, ?_, ?_⟩
  · exact h.bel.trans (hF.below (B := W.heap.size) (by rintro b o hlt ⟨e, _⟩; omega) hWs)
  · simp only [hst]
    simpa [MsAt, mcells] using World.ownsRow_nil w' 0 29 4
  · obtain ⟨A, cap, e1, e2⟩ := rowIs_cells hrow
    refine ⟨A, cap, by rw [hnC 24 (by omega) (by omega), ← e1]; rfl, fun i hi => ⟨g, (e2 i hi).1, by omega, fun hv => hgm g hv rfl, ?_⟩⟩
    have hgn : g ≠ nb := by
      rcases hrow with ⟨_, h0⟩ | ⟨_, _, _, _, _, hng, _⟩
      · have h0' : R.map (·.1) = [] := h0
        rw [h0'] at hi
        simp at hi
      · exact Ne.symm hng
    rw [World.cell?_of_block (a := ⟨g, i, none⟩) (hb g (World.block_lt_of_cell? w _ (e2 i hi).2) hgn)]
    exact (e2 i hi).2
  · intro k hk
    have hk' : k ∈ R.map (·.1) := hk
    obtain ⟨p, hp, rfl⟩ := List.mem_map.1 hk'
    obtain ⟨h1, h2, h3⟩ := h.rum p hp
    have hok := h.rok p hp
    have h4 := (hb p.1 (lt_of_heap h3) (by omega)).trans h3
    have cc : ∀ o, w'.cell? ⟨p.1, o, none⟩ = _ := fun o => cell_of_block h4 o
    refine ⟨?_, by omega, rum_own_ne h3 h.model (by decide)⟩
    show RumAt w' p.1 (f p.1).1 (f p.1).2
    rw [hf p hp]
    refine ⟨lt_of_heap h4, ?_, ?_, ?_, ?_, ?_, frozen_of_block h4 4, hok.1, hok.2.1, by omega⟩
    all_goals rw [cc]; rfl
  · intro p hp
    obtain ⟨h1, h2, h3⟩ := h.ent p hp
    have hbp := hb p.1 h3.lt (by omega)
    obtain ⟨cs, hc⟩ := h3.obj
    refine ⟨⟨⟨cs, hbp.trans hc⟩, (World.cell?_of_block (a := ⟨p.1, 0, none⟩) hbp).trans h3.a, (World.cell?_of_block (a := ⟨p.1, 1, none⟩) hbp).trans h3.t, (World.cell?_of_block (a := ⟨p.1, 2, none⟩) hbp).trans h3.s', (World.cell?_of_block (a := ⟨p.1, 3, none⟩) hbp).trans h3.i⟩, by omega, fun hv => ?_⟩
    have := hvm _ hv
    omega
  · refine ownsRow_base (ownsRow_block h.addr fun b hb' => hb b (ownsRow_lt h.addr hb').2 ?_) (Nat.zero_le _)
    have := h.va' b hb'; omega
  · refine ownsRow_base (ownsRow_block h.recs fun b hb' => hb b (ownsRow_lt h.recs hb').2 ?_) (Nat.zero_le _)
    have := h.vr' b hb'; omega
  · have : w'.ownsRow b2 56 5 vm R.length (rcells (R.map (·.2))) := ownsRow_block h.model fun b hb' => hb b (ownsRow_lt h.model hb').2 (by have := hvm b hb'; omega)
    simpa using ownsRow_base this (by omega : W.heap.size ≤ b2)
  · intro b hb'; have := (ownsRow_lt h.addr hb').1; omega
  · intro b hb'; have := (ownsRow_lt h.recs hb').1; omega
  · exact ⟨Ne.symm h.o2, fun hv => by have := hvm _ hv; omega⟩
  · exact ⟨by omega, fun hv => by have := hvm _ hv; omega⟩
  · exact ⟨by omega, fun hv => by have := hvm _ hv; omega⟩
  · exact ⟨[], rfl, by simpa [ocells] using World.ownsRow_nil w' 0 67 9, fun b hb' => by simp [Value.ownBlock] at hb', fun i hi => by simp at hi, fun _ => rfl⟩
end Go.Proofs.Ybulkejoc
