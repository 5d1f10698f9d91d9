/- From the law's own blocks to what Leave finds. No Go text is walked here. -/
import Derived.Test.YbulkejocMemC
namespace Go.Proofs.Ybulkejoc
open Go.ChangeShapes Go.WideShapes Go.ChangeAt Go.RowKit

/-- A list of pairs whose firsts do not repeat is a function. -/
theorem fun_of {α : Type} (z : α) : ∀ (l : List (Nat × α)), (l.map (·.1)).Nodup → ∃ f : Nat → α, ∀ p ∈ l, f p.1 = p.2
  | [], _ => ⟨fun _ => z, by simp⟩
  | p :: l, h => by
    simp only [List.map_cons, List.nodup_cons] at h
    obtain ⟨f, hf⟩ := fun_of z l h.2
    refine ⟨fun k => if k = p.1 then p.2 else f k, fun q hq => ?_⟩
    rcases List.mem_cons.1 hq with rfl | hq
    · simp
    · have : q.1 ≠ p.1 := fun e => h.1 (e ▸ List.mem_map_of_mem (f := (·.1)) hq)
      simp [this, hf q hq]

/-- The node's cells as the law lays them. -/
def nodeCells (me : Mb) (use : Bool) (lg mp m1 pb m2 pk : Nat) (va vs : Value) : Array Value :=
  #[.string me.addr, .int .u64 me.tok, .int .u64 me.inc, .int .i64 0, .int .i64 0, .int .i64 0, .int .i64 0, .pointer none, chF use lg, .nilFunc, .nilFunc,
    .string me.addr, .int .u64 me.tok, .int .u8 me.st, .int .u64 me.inc, .map (some mp), va, .map (some m1), .slice none 0 0, .pointer (some ⟨pb, 0, none⟩),
    .int .i64 0, .int .i64 0, .int .u64 0, .map (some m2), vs, .string ⟨#[]⟩, .bool false, .int .i64 0, .slice (some ⟨pk, 0, none⟩) 1 1]

/-- All that lies in memory where the law calls Leave. The numbers order the blocks: b0 the law's own (record, log), b1 the members', b2 the rumours', b3 the probe and the node. -/
structure Pre (W : World) (me : Mb) (use : Bool) (sb lg mp b1 b2 b3 pb m1 m2 pk nb : Nat) (L : List (Nat × Mb)) (R : List (Nat × Mb × Int)) (va vr vs vm : Value) (w : World) : Prop where
  bel : Below W.heap.size W w
  self : w.heap[sb]? = some (.cells #[.string me.addr, .int .u64 me.tok, .int .u8 me.st, .int .u64 me.inc] 29 (0, 0))
  log : w.heap[lg]? = some (.cells #[.slice none 0 0] 30 (0, 0))
  node : w.heap[nb]? = some (.cells (nodeCells me use lg mp m1 pb m2 pk va vs) 70 (0, 0))
  map : w.heap[mp]? = some (.map (ents (kl L)) (kl L).length)
  addr : w.ownsRow b1 9 1 va L.length (L.map fun p => .string p.2.addr)
  recs : w.ownsRow b1 29 4 vr L.length (mcells (L.map (·.2)))
  ent : ∀ p ∈ L, b1 ≤ p.1 ∧ p.1 < b2 ∧ EntAt w p.1 p.2
  keys : (L.map fun p => p.2.addr).Nodup
  lblocks : (L.map (·.1)).Nodup
  lok : ∀ p ∈ L, p.2.Ok ∧ p.2.st < 4
  rows : w.ownsRow b2 52 1 vs R.length (R.map fun p => ptr p.1)
  model : w.ownsRow b2 56 5 vm R.length (rcells (R.map (·.2)))
  rum : ∀ p ∈ R, b2 ≤ p.1 ∧ p.1 < b3 ∧ w.heap[p.1]? = some (rumObj p.2.1 p.2.2)
  rblocks : (R.map (·.1)).Nodup
  rok : ∀ p ∈ R, p.2.1.Ok ∧ 0 ≤ p.2.2 ∧ p.2.2 ≤ 15
  llen : L.length ≤ 512
  rlen : R.length ≤ 512
  o1 : W.heap.size ≤ sb ∧ sb < b1 ∧ W.heap.size ≤ lg ∧ lg < b1 ∧ W.heap.size ≤ mp ∧ mp < b1
  o2 : sb ≠ lg
  o3 : b1 ≤ b2 ∧ b2 ≤ b3 ∧ b3 ≤ pb ∧ pb < nb
  va' : ∀ b, va.ownBlock = some b → b < b2
  vr' : ∀ b, vr.ownBlock = some b → b < b2
  vs' : ∀ b, vs.ownBlock = some b → b < b3
  vm' : ∀ b, vm.ownBlock = some b → b < b3
  pbn : pb < w.heap.size

variable {W w : World} {me : Mb} {use : Bool} {sb lg mp b1 b2 b3 pb m1 m2 pk nb : Nat} {L : List (Nat × Mb)} {R : List (Nat × Mb × Int)} {va vr vs vm : Value}

/-- The row of rumours: its block, or (no rumours) the probe's. -/
theorem Pre.row (h : Pre W me use sb lg mp b1 b2 b3 pb m1 m2 pk nb L R va vr vs vm w) : ∃ g, b2 ≤ g ∧ (g < b3 ∨ g = pb) ∧ g < w.heap.size ∧ g ∉ R.map (·.1) ∧ RowIs w vs nb g (R.map (·.1)) ∧ (∀ b, vm.ownBlock = some b → b ≠ g) := by
  rcases h.rows.2 with ⟨e1, h0⟩ | ⟨g, cap, cur, e1, hb, hg, hnc, hcm, hcs, htake⟩
  · have hR : R = [] := List.eq_nil_of_length_eq_zero h0
    subst hR
    refine ⟨pb, by have := h.o3; omega, Or.inr rfl, h.pbn, by simp, Or.inl ⟨e1, rfl⟩, fun b hb e => ?_⟩
    have := h.vm' b hb
    have := h.o3
    omega
  · have hgb : g < b3 := h.vs' g (by rw [e1]; rfl)
    have hgd : g ∉ R.map (·.1) := by
      intro hm
      obtain ⟨p, hp, rfl⟩ := List.mem_map.1 hm
      exact rum_own_ne (h.rum p hp).2.2 h.rows (by decide) (by rw [e1]; rfl)
    refine ⟨g, hb, Or.inl hgb, lt_of_heap hg, hgd, Or.inr ⟨cap, cur.toList.drop R.length, ?_, ?_, ?_, ?_, hgd⟩, fun b hb' e => ?_⟩
    · rw [e1]; simp
    · rw [hg]
      have : ((R.map (·.1)).map ptr) = R.map fun p => ptr p.1 := by simp [Function.comp_def]
      rw [this, ← htake, Nat.mul_one, List.take_append_drop]
    · simp only [List.length_map, List.length_drop, Array.length_toList, hcs, Nat.mul_one]
      omega
    · have := h.o3; omega
    · subst e
      exact own_ne h.model h.rows (by decide) hb' (by rw [e1]; rfl)

/-- What Leave finds. -/
theorem Pre.lvin (h : Pre W me use sb lg mp b1 b2 b3 pb m1 m2 pk nb L R va vr vs vm w) (hme : me.Ok) (hst : me.st ≠ 3) {g : Nat} (hg1 : b2 ≤ g) (hg2 : g < b3 ∨ g = pb) (hg3 : g < w.heap.size) (hgd : g ∉ R.map (·.1)) (hrow : RowIs w vs nb g (R.map (·.1)))
    {f : Nat → Mb × Int} (hf : ∀ p ∈ R, f p.1 = p.2) {emem : Nat → Mb} (he : ∀ p ∈ L, emem p.1 = p.2) :
    LvIn w nb lg mp (kl L) ⟨me.addr, me.tok, 3, me.inc⟩ me.st g (R.map (·.1)) (fun k => (f k).1) (fun k => (f k).2) emem va use := by
  have c : ∀ o, w.cell? ⟨nb, o, none⟩ = (nodeCells me use lg mp m1 pb m2 pk va vs)[o]? := fun o => cell_of_block h.node o
  have o1 := h.o1
  have o3 := h.o3
  have hkl : (kl L).length = L.length := by simp [kl]
  have hrum : ∀ k ∈ R.map (·.1), RumAt w k (f k).1 (f k).2 ∧ b2 ≤ k ∧ k < b3 ∧ (f k).2 ≤ 15 := by
    intro k hk
    obtain ⟨p, hp, rfl⟩ := List.mem_map.1 hk
    obtain ⟨h1, h2, h3⟩ := h.rum p hp
    have hok := h.rok p hp
    rw [hf p hp]
    have cc : ∀ o, w.cell? ⟨p.1, o, none⟩ = _ := fun o => cell_of_block h3 o
    refine ⟨⟨lt_of_heap h3, ?_, ?_, ?_, ?_, ?_, frozen_of_block h3 4, hok.1, hok.2.1, by omega⟩, h1, h2, hok.2.2⟩
    all_goals rw [cc]; rfl
  refine ⟨by rw [c]; rfl, by rw [c]; rfl, by rw [c]; rfl, by rw [c]; rfl, ⟨hme.len, hme.tok, by show 3 < 256; omega, hme.inc⟩, rfl, hst, by rw [c]; rfl, h.map, ?_, by rw [hkl]; exact h.llen, by rw [c]; rfl, ?_, ?_, fun k hk => (hrum k hk).1, fun k hk => (hrum k hk).2.2.2, h.rblocks, by simpa using h.rlen, ⟨vs, by rw [c]; rfl, hrow⟩, by rw [c]; rfl, ?_, frozen_of_block h.log 0, by rw [c]; rfl, by rw [c]; rfl, by rw [c]; rfl, fun o => frozen_of_block h.node o, ?_, hgd, ?_, hg3, ?_, ?_, ?_, ?_, ?_, ?_⟩
  · simpa [kl, Function.comp_def] using h.keys
  · have : ((kl L).map fun x => Value.string x.1) = L.map fun p => .string p.2.addr := by simp [kl, Function.comp_def]
    rw [this, hkl]
    exact ownsRow_base h.addr (Nat.zero_le _)
  · intro x hx
    obtain ⟨p, hp, rfl⟩ := List.mem_map.1 hx
    show w.cell? ⟨p.1, 2, none⟩ = some (.int .u8 (emem p.1).st)
    rw [he p hp]
    exact (h.ent p hp).2.2.s'
  · rw [cell_of_block h.log]; rfl
  · omega
  · omega
  · intro hk; have := (hrum nb hk).2; omega
  · omega
  · omega
  · intro hk; have := (hrum lg hk).2; omega
  · intro b hb
    have h1 := h.va' b hb
    have h2 := (ownsRow_lt h.addr hb).1
    refine ⟨by omega, by omega, fun hk => ?_, by omega⟩
    have := (hrum b hk).2; omega
  · intro x hx
    obtain ⟨p, hp, rfl⟩ := List.mem_map.1 hx
    have h1 := h.ent p hp
    show p.1 ≠ nb ∧ p.1 ≠ g ∧ p.1 ∉ R.map (·.1) ∧ p.1 ≠ lg
    refine ⟨by omega, by omega, fun hk => ?_, by omega⟩
    have := (hrum p.1 hk).2; omega
end Go.Proofs.Ybulkejoc
