/- The law's members and rumours, as its first two loops lay them. No Go text is walked here. -/
import Derived.Test.YbulkejocLeave
import Derived.Maps.OwnSet
namespace Go.Proofs.Ybulkejoc
open Go.ChangeShapes Go.WideShapes Go.ChangeAt Go.RowKit

theorem wpList_mapUpdate_eq {P : Program} {ops : Array Oper} {rest : List Oper} {o : Oper} {a : Act} {w : World} {Q : Exit → Act → World → Prop} (hgd : o.guard = none) (m x v : Operand) (t : TypeId)
    (ho : o.op = Op.mapUpdate t m x v) (mv xv vv : Value) (w' : World) (hm : a.eval m = mv) (hx : a.eval x = xv) (hv : a.eval v = vv)
    (hr : (Instr.mapUpdate t mv xv vv).run P w = .ok () w') (h : wpList P ops Q rest (a.put o.dst undef) w') : wpList P ops Q (o :: rest) a w :=
  wpList_plain hgd fun _ hK => by
    unfold Oper.wp
    simp [execOp, ho, hm, hx, hv, hr, Result.andThen]
    exact hK _ _ h

variable {w w' : World} {B B' e e' z z' n n' : Nat} {v v' : Value} {xs xs' : List Value}

/-- Rows of different types lie in different blocks. -/
theorem own_ne (h : w.ownsRow B e z v n xs) (h' : w.ownsRow B' e' z' v' n' xs') (he : e ≠ e') {b : Nat} (hb : v.ownBlock = some b) : v'.ownBlock ≠ some b := by
  intro hb'
  rcases h.2 with ⟨e1, _⟩ | ⟨g1, cap1, cur1, e1, _, t1, _⟩
  · rw [e1] at hb; simp [Value.ownBlock] at hb
  · rcases h'.2 with ⟨e2, _⟩ | ⟨g2, cap2, cur2, e2, _, t2, _⟩
    · rw [e2] at hb'; simp [Value.ownBlock] at hb'
    · rw [e1] at hb; rw [e2] at hb'
      simp only [Value.ownBlock, Option.some.injEq] at hb hb'
      subst hb hb'
      rw [t1] at t2
      injection t2 with t3
      injection t3 with _ t4
      exact he t4
theorem own_kept {S : Nat → Prop} (h : w.ownsRow B e z v n xs) (k : Kept S w w') (hs : ∀ b, v.ownBlock = some b → ¬ S b) : w'.ownsRow B e z v n xs :=
  ownsRow_block h fun b hb => k.block b (ownsRow_lt h hb).2 (hs b hb)

structure EntAt (w : World) (b : Nat) (m : Mb) : Prop where
  obj : ∃ cs : Array Value, w.heap[b]? = some (.cells cs 47 (0, 0))
  a : w.cell? ⟨b, 0, none⟩ = some (.string m.addr)
  t : w.cell? ⟨b, 1, none⟩ = some (.int .u64 m.tok)
  s' : w.cell? ⟨b, 2, none⟩ = some (.int .u8 m.st)
  i : w.cell? ⟨b, 3, none⟩ = some (.int .u64 m.inc)
theorem EntAt.lt {b : Nat} {m : Mb} (h : EntAt w b m) : b < w.heap.size := World.block_lt_of_cell? w _ h.a
theorem EntAt.kept {S : Nat → Prop} {b : Nat} {m : Mb} (h : EntAt w b m) (k : Kept S w w') (hs : ¬ S b) : EntAt w' b m := by
  have hb := k.block b h.lt hs
  obtain ⟨cs, hc⟩ := h.obj
  exact ⟨⟨cs, hb.trans hc⟩, (World.cell?_of_block (a := ⟨b, 0, none⟩) hb).trans h.a, (World.cell?_of_block (a := ⟨b, 1, none⟩) hb).trans h.t, (World.cell?_of_block (a := ⟨b, 2, none⟩) hb).trans h.s', (World.cell?_of_block (a := ⟨b, 3, none⟩) hb).trans h.i⟩
theorem EntAt.own_ne {b : Nat} {m : Mb} (h : EntAt w b m) (h' : w.ownsRow B e z v n xs) (he : e ≠ 47) : v.ownBlock ≠ some b := by
  intro hb
  obtain ⟨cs, hc⟩ := h.obj
  rcases h'.2 with ⟨e1, _⟩ | ⟨g1, cap1, cur1, e1, _, t1, _⟩
  · rw [e1] at hb; simp [Value.ownBlock] at hb
  · rw [e1] at hb
    simp only [Value.ownBlock, Option.some.injEq] at hb
    subst hb
    rw [t1] at hc
    injection hc with t3
    injection t3 with _ t4
    exact he t4

/-- The keys and the entries' blocks of a list of members. -/
def kl (L : List (Nat × Mb)) : List (ByteArray × Nat) := L.map fun p => (p.2.addr, p.1)

/-- The law's members: the map, the addresses, the records. -/
structure MemAt (w1 : World) (mp : Nat) (L : List (Nat × Mb)) (va vr : Value) (wr : World) : Prop where
  map : wr.heap[mp]? = some (.map (ents (kl L)) (kl L).length)
  addr : wr.ownsRow w1.heap.size 9 1 va L.length (L.map fun p => .string p.2.addr)
  recs : wr.ownsRow w1.heap.size 29 4 vr L.length (mcells (L.map (·.2)))
  ent : ∀ p ∈ L, w1.heap.size ≤ p.1 ∧ EntAt wr p.1 p.2
  keys : (L.map fun p => p.2.addr).Nodup
  blocks : (L.map (·.1)).Nodup
  ok : ∀ p ∈ L, p.2.Ok ∧ p.2.st < 4
  old : mp < w1.heap.size
  kept : Kept (fun b => b = mp) w1 wr

variable {w1 wr w4 wE wG : World} {mp : Nat} {L : List (Nat × Mb)} {va vr va' vr' : Value}

theorem MemAt.below (h : MemAt w1 mp L va vr wr) {W : World} (hB : Below wr.heap.size wr W) : MemAt w1 mp L va vr W := by
  have k : Kept (fun _ => False) wr W := Kept.of_below hB (Nat.le_refl _)
  have hs := h.kept.size
  exact ⟨(hB.block mp (lt_of_heap h.map)).trans h.map, own_kept h.addr k (fun _ _ h => h), own_kept h.recs k (fun _ _ h => h), fun p hp => ⟨(h.ent p hp).1, (h.ent p hp).2.kept k (fun h => h)⟩, h.keys, h.blocks, h.ok, h.old, h.kept.trans k (fun _ _ h => h.elim)⟩

/-- One member more. -/
theorem MemAt.push (h : MemAt w1 mp L va vr wr) {m : Mb} {eb : Nat} (hm : m.Ok ∧ m.st < 4) (hnew : ∀ p ∈ L, m.addr ≠ p.2.addr) (heb : wr.heap.size ≤ eb)
    (k4 : Kept (fun b => b = mp) wr w4) (h4 : w4.heap[mp]? = some (.map (ents (kl L ++ [(m.addr, eb)])) (kl L ++ [(m.addr, eb)]).length)) (he : EntAt w4 eb m)
    (kE : Kept (fun b => va.ownBlock = some b) w4 wE) (hE : wE.ownsRow w1.heap.size 9 1 va' (L.length + 1) ((L.map fun p => .string p.2.addr) ++ [.string m.addr]))
    (kG : Kept (fun b => vr.ownBlock = some b) wE wG) (hG : wG.ownsRow w1.heap.size 29 4 vr' (L.length + 1) (mcells (L.map (·.2)) ++ m.cells)) : MemAt w1 mp (L ++ [(eb, m)]) va' vr' wG := by
  have hmpb : ∀ {w : World} {B e z n : Nat} {v : Value} {xs : List Value} {es : Array MapEntry} {c : Nat}, w.ownsRow B e z v n xs → w.heap[mp]? = some (.map es c) → v.ownBlock ≠ some mp := by
    intro w B e z n v xs es c ho hm hb
    rcases ho.2 with ⟨e1, _⟩ | ⟨g1, cap1, cur1, e1, _, t1, _⟩
    · rw [e1] at hb; simp [Value.ownBlock] at hb
    · rw [e1] at hb
      simp only [Value.ownBlock, Option.some.injEq] at hb
      subst hb
      rw [t1] at hm
      cases hm
  have a4 := own_kept h.addr k4 (fun b hb e => hmpb h.addr h.map (e ▸ hb))
  have r4 := own_kept h.recs k4 (fun b hb e => hmpb h.recs h.map (e ▸ hb))
  have rE := own_kept r4 kE (fun b hb => own_ne r4 a4 (by decide) hb)
  have hmE : wE.heap[mp]? = some (.map (ents (kl L ++ [(m.addr, eb)])) (kl L ++ [(m.addr, eb)]).length) := (kE.block mp (lt_of_heap h4) (hmpb a4 h4)).trans h4
  have hmG : wG.heap[mp]? = some (.map (ents (kl L ++ [(m.addr, eb)])) (kl L ++ [(m.addr, eb)]).length) := (kG.block mp (lt_of_heap hmE) (hmpb rE hmE)).trans hmE
  have hent : ∀ b x, EntAt w4 b x → EntAt wG b x := fun b x hx => by
    have x1 := hx.kept kE (hx.own_ne a4 (by decide))
    exact x1.kept kG (x1.own_ne rE (by decide))
  have s4 := k4.size
  have sE := kE.size
  have hs1 := h.kept.size
  have hkl : kl (L ++ [(eb, m)]) = kl L ++ [(m.addr, eb)] := by simp [kl]
  refine ⟨by rw [hkl]; exact hmG, ?_, ?_, ?_, ?_, ?_, ?_, h.old, ?_⟩
  · have := own_kept hE kG (fun b hb => own_ne hE rE (by decide) hb)
    simpa using this
  · have : mcells ((L ++ [(eb, m)]).map (·.2)) = mcells (L.map (·.2)) ++ m.cells := by simp [mcells]
    rw [this]
    simpa using hG
  · intro p hp
    rcases List.mem_append.1 hp with hp | hp
    · refine ⟨(h.ent p hp).1, hent _ _ ((h.ent p hp).2.kept k4 ?_)⟩
      rintro rfl
      exact cell_not_map h.map (h.ent p hp).2.a rfl
    · simp only [List.mem_singleton] at hp
      subst hp
      exact ⟨by show w1.heap.size ≤ eb; omega, hent _ _ he⟩
  · rw [List.map_append, List.nodup_append]
    refine ⟨h.keys, by simp, ?_⟩
    intro x hx y hy
    simp only [List.map_cons, List.map_nil, List.mem_singleton] at hy
    obtain ⟨p, hp, rfl⟩ := List.mem_map.1 hx
    subst hy
    exact fun e => hnew p hp e.symm
  · rw [List.map_append, List.nodup_append]
    refine ⟨h.blocks, by simp, ?_⟩
    intro x hx y hy
    simp only [List.map_cons, List.map_nil, List.mem_singleton] at hy
    obtain ⟨p, hp, rfl⟩ := List.mem_map.1 hx
    subst hy
    have := (h.ent p hp).2.lt
    omega
  · intro p hp
    rcases List.mem_append.1 hp with hp | hp
    · exact h.ok p hp
    · simp only [List.mem_singleton] at hp
      subst hp
      exact hm
  · refine ((h.kept.trans k4 (fun _ _ h => h)).trans kE ?_).trans kG ?_
    · intro b hb hv
      have := (ownsRow_lt a4 hv).1
      omega
    · intro b hb hv
      have := (ownsRow_lt rE hv).1
      omega
theorem MemAt.start (W : World) : MemAt (W.alloc (.map #[] 0)) W.heap.size [] (.slice none 0 0) (.slice none 0 0) (W.alloc (.map #[] 0)) :=
  ⟨by simpa [kl, ents, entsL] using heap_alloc_new W (.map #[] 0), World.ownsRow_nil _ _ _ _, World.ownsRow_nil _ _ _ _, by simp, by simp, by simp, by simp, by simp, Kept.refl _ _⟩
end Go.Proofs.Ybulkejoc
