/- The law's closure 'yield' (6). -/
import Derived.Test.YbulkejpeDoorRec
import Derived.Test.YbulkejpeDoorLast
import Derived.Deep.RegionLaw
namespace Go.Proofs.YbulkejpeDoor
open Go Go.ChangeShapes Go.WideShapes Go.ChangeAt Go.RowKit

theorem step_append_ex {P : Program} {ops : Array Oper} {o : Oper} {a : Act} {w : World} {K : Act → World → Prop} {Q : Exit → Act → World → Prop} {E : Prop} (hgd : o.guard = none) (s x : Operand) (t : TypeId)
    (ho : o.op = .call { callee := .builtin .append, args := #[s, x], argTypes := #[t, t] }) (v u : Value) (hs : a.eval s = v) (hx : a.eval x = u) {R : Value → World → Prop}
    (hr : ∃ v' w', (Builtin.append_ #[t, t] o.type #[v, u]).run P w = .ok v' w' ∧ R v' w') (h : ∀ v' w', R v' w' → K (a.put o.dst v') w') :
    if Region.wanted o (yielded ops a.tmps) = true then Oper.wp P o a w K Q else E := by
  have hw : Region.wanted o (yielded ops a.tmps) = true := by simp [Region.wanted, hgd]
  rw [if_pos hw]
  obtain ⟨v', w', hr, hR⟩ := hr
  unfold Oper.wp execOp
  simp only [ho, resolve, invoke, builtin, Sem.run_bind, Sem.run_pure, Result.andThen_ok, List.map_toArray, List.map_cons, List.map_nil, hs, hx, hr]
  exact h v' w' hR

/-- append, where at least one element comes: the row stays where it is, or it lies in a new block. -/
theorem append_new {P : Program} (w : World) (t ty e : TypeId) (i : TypeInfo) (z : Value) (size bytes : Nat) (ht : P.underlying t = some (.slice e)) (hi : P.info? e = some i) (hz : i.zero = some z)
    (hsize : i.size = size) (hby : i.bytes = bytes) (hzs : z.cells.size = size) (hsz : 0 < size)
    (v : Value) (n : Nat) (xs : List Value) (hown : w.ownsRow 0 e size v n xs)
    (a : Addr) (m c : Nat) (news : List Value) (hm : 0 < m) (hl : news.length = m * size) (hnews : ∀ j u, news[j]? = some u → w.cell? (a.add j) = some u) (h1 : ∀ u ∈ news, u.oneCell' = true)
    (h63 : n + m ≤ maxLen) (hbytes : (n + m) * bytes ≤ 140737488355328) :
    ∃ g cap w', (Builtin.append_ #[t, t] ty #[v, .slice (some a) m c]).run P w = .ok (.slice (some ⟨g, 0, none⟩) (n + m) cap) w' ∧ w'.ownsRow 0 e size (.slice (some ⟨g, 0, none⟩) (n + m) cap) (n + m) (xs ++ news) ∧ w.grownBy w' v.ownBlock ∧
      (v.ownBlock = some g ∨ w.heap.size ≤ g) := by
  rcases hown.2 with ⟨rfl, rfl⟩ | ⟨g, cap, cur, rfl, hbg, hg, hnc, hcm, hcs, htake⟩
  · have hx : xs = [] := List.eq_nil_of_length_eq_zero (by simpa using hown.1)
    subst hx
    obtain ⟨v', w', hr, ho, hgr, _⟩ := run_append_own (P := P) w w.heap.size t ty e i z size bytes ht hi hz hsize hby hzs hsz _ 0 [] (World.ownsRow_nil _ _ _ _) a m c news hl hnews h1 h63 hbytes (Nat.le_refl _)
    rcases ho.2 with ⟨_, h0⟩ | ⟨g, cap, cur, rfl, hb, _⟩
    · omega
    · exact ⟨g, cap, w', hr, ownsRow_base ho (Nat.zero_le _), hgr, Or.inr hb⟩
  · by_cases hroom : n + m ≤ cap
    · obtain ⟨w', hr, ho, hgr⟩ := run_append_fits (P := P) w 0 t ty e i size ht hi hsize g n cap xs hown a m c news hl hnews h1 hroom
      exact ⟨g, cap, w', hr, ho, hgr, Or.inl rfl⟩
    · obtain ⟨v', w', hr, ho, hgr, _⟩ := run_append_own (P := P) w 0 t ty e i z size bytes ht hi hz hsize hby hzs hsz _ n xs hown a m c news hl hnews h1 h63 hbytes (Nat.zero_le _)
      subst hsize
      subst hby
      have h63' : n + m ≤ 9223372036854775807 := by simp only [maxLen] at h63; omega
      have hr2 := run_append_grow (P := P) w t ty e i z ht hi hz ⟨g, 0, none⟩ n cap xs hown.1 (hown.cells (g := g) rfl) a m c news hl hnews (by omega) (by omega) (growslice_fits (by omega) hbytes)
      rw [hr] at hr2
      injection hr2 with e1 e2
      subst e1
      exact ⟨w.heap.size, _, w', hr, ho, hgr, Or.inr (Nat.le_refl _)⟩

/-- A copy: append onto nil. -/
theorem copy_any {P : Program} {t e : TypeId} {size bytes : Nat} {zv : Value} (ht : P.underlying t = some (.slice e)) (hi : (P.info? e).map (fun i => (i.zero, i.size, i.bytes)) = some (some zv, size, bytes)) (hzs : zv.cells.size = size) (hsz : 0 < size)
    (w : World) (b m c : Nat) (news : List Value) (hl : news.length = m * size) (hnews : ∀ j, j < m * size → w.cell? ⟨b, j, none⟩ = news[j]?) (h1 : ∀ u ∈ news, u.oneCell' = true) (hm : m ≤ 100000) (hby : bytes ≤ 1000) :
    ∃ v' w', (Builtin.append_ #[t, t] t #[.slice none 0 0, .slice (some ⟨b, 0, none⟩) m c]).run P w = .ok v' w' ∧ (w'.ownsRow w.heap.size e size v' m news ∧ Below w.heap.size w w') := by
  obtain ⟨i0, hi0, hz0, hz1, hz2⟩ := info_parts hi
  obtain ⟨v', w', hr, ho, hg, _⟩ := run_append_own (P := P) w w.heap.size t t e i0 zv size bytes ht hi0 hz0 hz1 hz2 hzs hsz (.slice none 0 0) 0 [] (World.ownsRow_nil _ _ _ _) ⟨b, 0, none⟩ m c news hl (by
    intro j u hj
    have hjl := (List.getElem?_eq_some_iff.1 hj).1
    have := hnews j (by omega)
    rw [hj] at this
    rw [add_plain]
    simpa using this) h1 (by unfold maxLen; omega) (by
      have : (0 + m) * bytes ≤ 100000 * 1000 := Nat.mul_le_mul (by omega) hby
      omega) (Nat.le_refl _)
  refine ⟨v', w', hr, by simpa using ho, ⟨hg.os, hg.tape, hg.output, hg.size, fun k hk => hg.block k hk (by simp [Value.ownBlock])⟩⟩

variable {B cb rb lb : Nat} {lim : Int} {E : List (ByteArray × ByteArray)} {T : Nat → Prop} {G : List Ev} {W X wZ : World} {x : Ev}

theorem ecells_one (E : List (ByteArray × ByteArray)) : ∀ u ∈ ecells E, u.oneCell' = true := by
  intro u hu
  obtain ⟨p, _, hp⟩ := List.mem_flatMap.1 hu
  simp at hp
  rcases hp with rfl | rfl <;> rfl
theorem wcells_one (ws : List Wr) : ∀ u ∈ wcells ws, u.oneCell' = true := by
  intro u hu
  obtain ⟨p, _, hp⟩ := List.mem_flatMap.1 hu
  simp [Wr.cells] at hp
  rcases hp with rfl | rfl | rfl | rfl | rfl <;> rfl

/-- The record is laid: from the world X, where the count stands, through the two copies (wZ), to the end. -/
theorem RecAt.push (h : RecAt B cb rb lb lim E T G W) (hBW : B ≤ W.heap.size) (hn : G.length < 300000) (hT : ∀ k, T k → k < W.heap.size) (hlr : lb ≠ rb)
    (kX : Kept (fun b => b = cb) W X) (hX : Boxed X cb 3 (.int .i64 ((G.length : Int) + 1))) (hZ : Below X.heap.size X wZ) {L vl vw v : Value} (hL : L.oneCell' = true) (hv : Boxed X rb 68 v)
    (ol : wZ.ownsRow W.heap.size 28 2 vl x.k (ecells (E.take x.k))) (ow : wZ.ownsRow W.heap.size 39 5 vw x.ws.length (wcells x.ws)) :
    ∃ v' w', (Builtin.append_ #[68, 68] 68 #[v, .slice (some ⟨wZ.heap.size, 0, none⟩) 1 1]).run Ybad.prog (wZ.alloc (.cells (x.cells L vl vw).toArray 75)) = .ok v' w' ∧ ((w'.cell? ⟨rb, 0, none⟩ = some v ∧ w'.frozen? ⟨rb, 0, none⟩ = false ∧ ∃ g cap, v' = .slice (some ⟨g, 0, none⟩) (G.length + 1) cap) ∧ RecAt B cb rb lb lim E T (G ++ [x]) (w'.setCell ⟨rb, 0, none⟩ v') ∧ Kept (fun b => ¬ T b) W (w'.setCell ⟨rb, 0, none⟩ v') ∧ KeepsFrom 0 W (w'.setCell ⟨rb, 0, none⟩ v') ∧ ∀ (b : Nat) (cs : Array Value) (t : TypeId), wZ.heap[b]? = some (Obj.cells cs t (0, 0)) → t ≠ 75 → w'.heap[b]? = wZ.heap[b]?) := by
  obtain ⟨v0, us, r1, r2, r3, r4, r5⟩ := h.recs
  have hXrb : X.heap[rb]? = W.heap[rb]? := kX.block rb r1.lt (Ne.symm h.cr)
  have ev : v0 = v := by
    have h1 : W.heap[rb]? = some (.cells #[v0] 68 (0, 0)) := r1
    have h2 : X.heap[rb]? = some (.cells #[v] 68 (0, 0)) := hv
    rw [hXrb, h1] at h2
    simpa using h2
  subst ev
  have kZ : Kept (fun _ => False) X wZ := Kept.of_below hZ (Nat.le_refl _)
  have hcells : W.heap[cb]? = some (.cells #[.int .i64 (G.length : Int)] 3 (0, 0)) := h.calls
  have toZ : ∀ {B e z n : Nat} {v : Value} {xs : List Value}, W.ownsRow B e z v n xs → e ≠ 3 → wZ.ownsRow B e z v n xs := fun ho he => own_kept (own_kept ho kX (fun b hb e' => obj_own_ne hcells ho he (e' ▸ hb))) kZ (fun _ _ e => e)
  have hrZ : wZ.heap[rb]? = some (.cells #[v0] 68 (0, 0)) := (hZ.block rb hv.lt).trans hv
  have hcZ : wZ.heap[cb]? = some (.cells #[.int .i64 ((G.length : Int) + 1)] 3 (0, 0)) := (hZ.block cb hX.lt).trans hX
  have hlX : X.heap[lb]? = some (.cells #[.int .i64 lim] 3 (0, 0)) := (kX.block lb h.lim'.lt h.cl).trans h.lim'
  have hlZ : wZ.heap[lb]? = some (.cells #[.int .i64 lim] 3 (0, 0)) := (hZ.block lb (lt_of_heap hlX)).trans hlX
  have q4 := toZ r4 (by decide)
  have hz1 := kX.size
  have hz2 := hZ.size
  have o1 : ∀ {e z n : Nat} {u : Value} {xs : List Value}, wZ.ownsRow W.heap.size e z u n xs → u.oneCell' = true := fun ho => by rcases ho.2 with ⟨rfl, _⟩ | ⟨_, _, _, rfl, _⟩ <;> rfl
  obtain ⟨i0, hi0, g1, g2, g3⟩ := info_parts info75
  obtain ⟨g, cap, w3, hr, ho, hg, hat⟩ := append_new (P := Ybad.prog) (wZ.alloc (.cells (x.cells L vl vw).toArray 75)) 68 68 75 i0 _ 14 160 Ybad.underlying68 hi0 g1 g2 g3 rfl (by omega) v0 G.length (gcells G us) (ownsRow_base (q4.alloc _) (Nat.zero_le _)) ⟨wZ.heap.size, 0, none⟩ 1 1 (x.cells L vl vw) (by omega) (by simp [Ev.cells, Mv.cells]) (World.news_of_block (cs := (x.cells L vl vw).toArray) (t := 75) (fr := (0, 0)) (heap_alloc_new wZ _)) (by
      intro u hu
      simp only [Ev.cells, Mv.cells, List.cons_append, List.nil_append, List.mem_cons, List.not_mem_nil, or_false] at hu
      rcases hu with rfl | rfl | rfl | rfl | rfl | rfl | rfl | rfl | rfl | rfl | rfl | rfl | rfl | rfl <;> first | rfl | exact hL | exact o1 ol | exact o1 ow) (by unfold maxLen; omega) (by omega)
  have hk : Kept (fun b => v0.ownBlock = some b) wZ w3 := (Kept.of_below (S := fun b => v0.ownBlock = some b) ((Below.refl wZ.heap.size wZ).alloc (Nat.le_refl _) _) (Nat.le_refl _)).grown hg (fun _ _ e => e)
  have hr3 : w3.heap[rb]? = some (.cells #[v0] 68 (0, 0)) := (hk.block rb (lt_of_heap hrZ) (obj_own_ne hrZ q4 (by decide))).trans hrZ
  have hc3 : w3.heap[cb]? = some (.cells #[.int .i64 ((G.length : Int) + 1)] 3 (0, 0)) := (hk.block cb (lt_of_heap hcZ) (obj_own_ne hcZ q4 (by decide))).trans hcZ
  have hl3 : w3.heap[lb]? = some (.cells #[.int .i64 lim] 3 (0, 0)) := (hk.block lb (lt_of_heap hlZ) (obj_own_ne hlZ q4 (by decide))).trans hlZ
  have hset : ∀ b, b ≠ rb → (w3.setCell ⟨rb, 0, none⟩ (.slice (some ⟨g, 0, none⟩) (G.length + 1) cap)).heap[b]? = w3.heap[b]? := fun b hb => Below.heap_setCell _ _ _ _ hb
  have ks : Kept (fun b => b = rb) w3 (w3.setCell ⟨rb, 0, none⟩ (.slice (some ⟨g, 0, none⟩) (G.length + 1) cap)) := Kept.setCell (S := fun b => b = rb) (Kept.refl _ _) (fun _ => rfl) _
  have toF : ∀ {B e z n : Nat} {u : Value} {xs : List Value}, w3.ownsRow B e z u n xs → e ≠ 68 → (w3.setCell ⟨rb, 0, none⟩ (.slice (some ⟨g, 0, none⟩) (G.length + 1) cap)).ownsRow B e z u n xs := fun ho' he => own_kept ho' ks (fun b hb e' => obj_own_ne hr3 ho' he (e' ▸ hb))
  have to3 : ∀ {B e z n : Nat} {u : Value} {xs : List Value}, wZ.ownsRow B e z u n xs → e ≠ 75 → w3.ownsRow B e z u n xs := fun ho' he => own_kept ho' hk (fun b hb => own_ne ho' q4 he hb)
  have hgB : B ≤ g ∧ ¬ T g := by
    rcases hat with h1 | h1
    · exact ⟨(ownsRow_lt r4 h1).1, r2 g h1⟩
    · simp only [World.size_alloc] at h1
      exact ⟨by omega, fun ht => by have := hT g ht; omega⟩
  have ho' : w3.ownsRow B 75 14 (.slice (some ⟨g, 0, none⟩) (G.length + 1) cap) (G.length + 1) (gcells G us ++ x.cells L vl vw) := by
    refine ⟨ho.1, ?_⟩
    rcases ho.2 with ⟨h1, _⟩ | ⟨g', cap', cur, h1, _, h3⟩
    · cases h1
    · refine Or.inr ⟨g', cap', cur, h1, ?_, h3⟩
      simp only [Value.slice.injEq, Option.some.injEq, Addr.mk.injEq, and_true, true_and] at h1
      omega
  have KF : Kept (fun b => ¬ T b) W (w3.setCell ⟨rb, 0, none⟩ (.slice (some ⟨g, 0, none⟩) (G.length + 1) cap)) := by
    refine (((kX.mono (S' := fun b => ¬ T b) (fun b e => e ▸ h.tc)).trans kZ (fun _ _ e => e.elim)).trans hk (fun b _ hb => r2 b hb)).trans ks (fun b _ e => e ▸ h.tr)
  refine ⟨_, w3, hr, ⟨by rw [cell_of_block hr3]; rfl, frozen_of_block hr3 0, g, cap, rfl⟩, ⟨?_, ?_, ⟨.slice (some ⟨g, 0, none⟩) (G.length + 1) cap, us ++ [(L, vl, vw)], ?_, ?_, by simp [r3], ?_, ?_⟩, h.tc, h.tr, h.cr, h.cl, by simp; omega⟩, KF, ?_, fun b cs t hb ht => hk.block b (lt_of_heap hb) (obj_own_ne hb q4 (Ne.symm ht))⟩
  · show _ = _
    rw [hset cb h.cr, hc3]
    simp
  · show _ = _
    rw [hset lb hlr]
    exact hl3
  · show _ = _
    rw [heap_setCell_same hr3]
    rfl
  · intro b hb
    simp only [Value.ownBlock, Option.some.injEq] at hb
    exact hb ▸ hgB.2
  · have := toF ho' (by decide)
    rw [gcells_snoc x (L, vl, vw) G us r3]
    simpa using this
  · intro i hi hu
    simp only [List.length_append, List.length_cons, List.length_nil] at hi
    by_cases e : i < G.length
    · have := r5 i e (by omega)
      simp only [List.getElem_append_left e]
      rw [List.getElem_append_left (by omega)]
      exact ⟨this.1, toF (to3 (toZ this.2.1 (by decide)) (by decide)) (by decide), toF (to3 (toZ this.2.2 (by decide)) (by decide)) (by decide)⟩
    · have hi' : i = G.length := by omega
      subst hi'
      simp only [List.getElem_append_right (Nat.le_refl _), Nat.sub_self, List.getElem_cons_zero]
      rw [List.getElem_append_right (by omega)]
      simp only [r3, Nat.sub_self, List.getElem_cons_zero]
      exact ⟨hL, toF (to3 (ownsRow_base ol hBW) (by decide)) (by decide), toF (to3 (ownsRow_base ow hBW) (by decide)) (by decide)⟩
  · refine ⟨KF.size, fun b o _ hb hc => ?_⟩
    have n1 : b ≠ cb := fun e => by subst e; rw [hcells] at hb; cases hb; cases hc
    have n2 : b ≠ rb := fun e => by
      have h1 : W.heap[rb]? = some (.cells #[v0] 68 (0, 0)) := r1
      rw [← e, hb] at h1
      cases h1
      cases hc
    have n3 : v0.ownBlock ≠ some b := fun e => by
      rcases r4.2 with ⟨e1, _⟩ | ⟨g1, cap1, cur1, e1, _, t1, _⟩
      · rw [e1] at e; simp [Value.ownBlock] at e
      · rw [e1] at e
        simp only [Value.ownBlock, Option.some.injEq] at e
        subst e
        rw [t1] at hb
        cases hb
        cases hc
    have hlt := lt_of_heap hb
    rw [hset b n2, hk.block b (by omega) n3, hZ.block b (by omega), kX.block b hlt n1]
    exact hb

set_option maxRecDepth 100000 in
set_option maxHeartbeats 4000000 in
theorem yield_any (x : Ev) (eb ecap wb wcap nw : Nat) (h : RecAt B cb rb lb lim E T G W) (hBW : B ≤ W.heap.size) (hn : G.length < 300000) (hT : ∀ k, T k → k < W.heap.size) (hlr : lb ≠ rb) (hk : x.k ≤ E.length) (hk5 : x.k ≤ 512) (HN : Hid (x.ws.length = nw)) (hw5 : nw ≤ 512)
    (he : eb ≠ cb) (hwb : wb ≠ cb) (hel : eb < W.heap.size) (hwl : wb < W.heap.size) (hE : Hid (∀ j, j < x.k * 2 → W.cell? ⟨eb, j, none⟩ = (ecells (E.take x.k))[j]?)) (hW : Hid (∀ j, j < x.ws.length * 5 → W.cell? ⟨wb, j, none⟩ = (wcells x.ws)[j]?)) (hlim0 : 0 ≤ lim) (hlim1 : lim ≤ 100000) :
    Calls Ybad.prog 6 #[.agg #[.int .i64 x.m.o, .int .i64 x.m.k, .int .i64 x.m.v, .int .i64 x.m.rd, .int .i64 x.m.cm, .int .i64 x.m.kp, .int .i64 x.m.ep], .agg #[.int .i64 x.lev, .slice (some ⟨eb, 0, none⟩) x.k ecap, .int .i64 x.r, .int .i64 x.c, .int .i64 x.e, .slice (some ⟨wb, 0, none⟩) nw wcap], .pointer (some ⟨cb, 0, none⟩), .pointer (some ⟨rb, 0, none⟩), .pointer (some ⟨lb, 0, none⟩)] W fun e' W' =>
      e' = .returned (.bool (decide (lim = 0) || decide ((G.length : Int) + 1 < lim))) ∧ RecAt B cb rb lb lim E T (G ++ [x]) W' ∧ Kept (fun b => ¬ T b) W W' ∧ KeepsFrom 0 W W' := by
  have hcc := h.calls.cell
  have hcf := h.calls.frozen
  have hclt := h.calls.lt
  obtain ⟨v, us0, r1, _⟩ := h.recs
  have hcb : W.heap[cb]? = some (.cells #[.int .i64 (G.length : Int)] 3 (0, 0)) := h.calls
  have kX : Kept (fun b => b = cb) W (((W.setCell ⟨cb, 0, none⟩ (.int .i64 ((G.length : Int) + 1))).alloc (.cells #[.int .i64 x.m.o, .int .i64 x.m.k, .int .i64 x.m.v, .int .i64 x.m.rd, .int .i64 x.m.cm, .int .i64 x.m.kp, .int .i64 x.m.ep] 73)).alloc (.cells #[.int .i64 x.lev, .slice (some ⟨eb, 0, none⟩) x.k ecap, .int .i64 x.r, .int .i64 x.c, .int .i64 x.e, .slice (some ⟨wb, 0, none⟩) nw wcap] 52)) := ((Kept.setCell (S := fun b => b = cb) (Kept.refl _ _) (fun _ => rfl) _).alloc _).alloc _
  have hX : Boxed (((W.setCell ⟨cb, 0, none⟩ (.int .i64 ((G.length : Int) + 1))).alloc (.cells #[.int .i64 x.m.o, .int .i64 x.m.k, .int .i64 x.m.v, .int .i64 x.m.rd, .int .i64 x.m.cm, .int .i64 x.m.kp, .int .i64 x.m.ep] 73)).alloc (.cells #[.int .i64 x.lev, .slice (some ⟨eb, 0, none⟩) x.k ecap, .int .i64 x.r, .int .i64 x.c, .int .i64 x.e, .slice (some ⟨wb, 0, none⟩) nw wcap] 52)) cb 3 (.int .i64 ((G.length : Int) + 1)) := by
    show _ = _
    rw [heap_alloc_old _ _ (by simp; omega), heap_alloc_old _ _ (by simpa using hclt), heap_setCell_same hcb]
    rfl
  have h5 : (((W.setCell ⟨cb, 0, none⟩ (.int .i64 ((G.length : Int) + 1))).alloc (.cells #[.int .i64 x.m.o, .int .i64 x.m.k, .int .i64 x.m.v, .int .i64 x.m.rd, .int .i64 x.m.cm, .int .i64 x.m.kp, .int .i64 x.m.ep] 73)).alloc (.cells #[.int .i64 x.lev, .slice (some ⟨eb, 0, none⟩) x.k ecap, .int .i64 x.r, .int .i64 x.c, .int .i64 x.e, .slice (some ⟨wb, 0, none⟩) nw wcap] 52)).heap[W.heap.size]? = some (.cells #[.int .i64 x.m.o, .int .i64 x.m.k, .int .i64 x.m.v, .int .i64 x.m.rd, .int .i64 x.m.cm, .int .i64 x.m.kp, .int .i64 x.m.ep] 73 (0, 0)) := by
    rw [heap_alloc_old _ _ (by simp)]
    have := heap_alloc_new (W.setCell ⟨cb, 0, none⟩ (.int .i64 ((G.length : Int) + 1))) (.cells #[.int .i64 x.m.o, .int .i64 x.m.k, .int .i64 x.m.v, .int .i64 x.m.rd, .int .i64 x.m.cm, .int .i64 x.m.kp, .int .i64 x.m.ep] 73)
    simpa using this
  have h6 : (((W.setCell ⟨cb, 0, none⟩ (.int .i64 ((G.length : Int) + 1))).alloc (.cells #[.int .i64 x.m.o, .int .i64 x.m.k, .int .i64 x.m.v, .int .i64 x.m.rd, .int .i64 x.m.cm, .int .i64 x.m.kp, .int .i64 x.m.ep] 73)).alloc (.cells #[.int .i64 x.lev, .slice (some ⟨eb, 0, none⟩) x.k ecap, .int .i64 x.r, .int .i64 x.c, .int .i64 x.e, .slice (some ⟨wb, 0, none⟩) nw wcap] 52)).heap[W.heap.size + 1]? = some (.cells #[.int .i64 x.lev, .slice (some ⟨eb, 0, none⟩) x.k ecap, .int .i64 x.r, .int .i64 x.c, .int .i64 x.e, .slice (some ⟨wb, 0, none⟩) nw wcap] 52 (0, 0)) := by
    have := heap_alloc_new ((W.setCell ⟨cb, 0, none⟩ (.int .i64 ((G.length : Int) + 1))).alloc (.cells #[.int .i64 x.m.o, .int .i64 x.m.k, .int .i64 x.m.v, .int .i64 x.m.rd, .int .i64 x.m.cm, .int .i64 x.m.kp, .int .i64 x.m.ep] 73)) (.cells #[.int .i64 x.lev, .slice (some ⟨eb, 0, none⟩) x.k ecap, .int .i64 x.r, .int .i64 x.c, .int .i64 x.e, .slice (some ⟨wb, 0, none⟩) nw wcap] 52)
    simpa using this
  have hv : Boxed (((W.setCell ⟨cb, 0, none⟩ (.int .i64 ((G.length : Int) + 1))).alloc (.cells #[.int .i64 x.m.o, .int .i64 x.m.k, .int .i64 x.m.v, .int .i64 x.m.rd, .int .i64 x.m.cm, .int .i64 x.m.kp, .int .i64 x.m.ep] 73)).alloc (.cells #[.int .i64 x.lev, .slice (some ⟨eb, 0, none⟩) x.k ecap, .int .i64 x.r, .int .i64 x.c, .int .i64 x.e, .slice (some ⟨wb, 0, none⟩) nw wcap] 52)) rb 68 v := (kX.block rb r1.lt (Ne.symm h.cr)).trans r1
  have hzX : (((W.setCell ⟨cb, 0, none⟩ (.int .i64 ((G.length : Int) + 1))).alloc (.cells #[.int .i64 x.m.o, .int .i64 x.m.k, .int .i64 x.m.v, .int .i64 x.m.rd, .int .i64 x.m.cm, .int .i64 x.m.kp, .int .i64 x.m.ep] 73)).alloc (.cells #[.int .i64 x.lev, .slice (some ⟨eb, 0, none⟩) x.k ecap, .int .i64 x.r, .int .i64 x.c, .int .i64 x.e, .slice (some ⟨wb, 0, none⟩) nw wcap] 52)).heap.size = W.heap.size + 2 := by simp
  go_enter Ybad.func6, Ybad.ntmps6
  go_wp2
  generalize ((W.setCell ⟨cb, 0, none⟩ (.int .i64 ((G.length : Int) + 1))).alloc (.cells #[.int .i64 x.m.o, .int .i64 x.m.k, .int .i64 x.m.v, .int .i64 x.m.rd, .int .i64 x.m.cm, .int .i64 x.m.kp, .int .i64 x.m.ep] 73)).alloc (.cells #[.int .i64 x.lev, .slice (some ⟨eb, 0, none⟩) x.k ecap, .int .i64 x.r, .int .i64 x.c, .int .i64 x.e, .slice (some ⟨wb, 0, none⟩) nw wcap] 52) = X at kX hX h5 h6 hv hzX ⊢
  have carry : ∀ w', Below X.heap.size X w' → w'.cell? ⟨rb, 0, none⟩ = some v ∧ w'.cell? ⟨W.heap.size, 0, none⟩ = some (.int .i64 x.m.o) ∧ w'.cell? ⟨W.heap.size, 1, none⟩ = some (.int .i64 x.m.k) ∧ w'.cell? ⟨W.heap.size, 2, none⟩ = some (.int .i64 x.m.v) ∧ w'.cell? ⟨W.heap.size, 3, none⟩ = some (.int .i64 x.m.rd) ∧ w'.cell? ⟨W.heap.size, 4, none⟩ = some (.int .i64 x.m.cm) ∧ w'.cell? ⟨W.heap.size, 5, none⟩ = some (.int .i64 x.m.kp) ∧ w'.cell? ⟨W.heap.size, 6, none⟩ = some (.int .i64 x.m.ep) ∧ w'.cell? ⟨W.heap.size + 1, 0, none⟩ = some (.int .i64 x.lev) ∧ w'.cell? ⟨W.heap.size + 1, 1, none⟩ = some (.slice (some ⟨eb, 0, none⟩) x.k ecap) ∧ w'.cell? ⟨W.heap.size + 1, 2, none⟩ = some (.int .i64 x.r) ∧ w'.cell? ⟨W.heap.size + 1, 3, none⟩ = some (.int .i64 x.c) ∧ w'.cell? ⟨W.heap.size + 1, 4, none⟩ = some (.int .i64 x.e) ∧ w'.cell? ⟨W.heap.size + 1, 5, none⟩ = some (.slice (some ⟨wb, 0, none⟩) nw wcap) := by
    intro w' hb
    have hb5 := (hb.block _ (lt_of_heap h5)).trans h5
    have hb6 := (hb.block _ (lt_of_heap h6)).trans h6
    have hbr : w'.heap[rb]? = some (.cells #[v] 68 (0, 0)) := (hb.block _ hv.lt).trans hv
    refine ⟨by rw [cell_of_block hbr]; rfl, ?_, ?_, ?_, ?_, ?_, ?_, ?_, ?_, ?_, ?_, ?_, ?_, ?_⟩ <;> first | (rw [cell_of_block hb5]; rfl) | (rw [cell_of_block hb6]; rfl)
  have hcpL : ∀ w', Below X.heap.size X w' → ∃ v' w'', (Builtin.append_ #[25, 25] 25 #[.slice none 0 0, .slice (some ⟨eb, 0, none⟩) x.k ecap]).run Ybad.prog w' = .ok v' w'' ∧ (w''.ownsRow W.heap.size 28 2 v' x.k (ecells (E.take x.k)) ∧ Below X.heap.size X w'') := by
    intro w' hb
    have hlen : (ecells (E.take x.k)).length = x.k * 2 := by rw [ecells_len, List.length_take, Nat.min_eq_left hk]
    obtain ⟨v', w'', q1, q2, q3⟩ := copy_any (P := Ybad.prog) (t := 25) Ybad.underlying25 info28 rfl (by omega) w' eb x.k ecap (ecells (E.take x.k)) hlen (fun j hj => by
      rw [World.cell?_of_block (a := ⟨eb, j, none⟩) (hb.block eb (by omega)), World.cell?_of_block (a := ⟨eb, j, none⟩) (kX.block eb hel he)]
      exact hE.out j hj) (ecells_one _) (by omega) (by omega)
    exact ⟨v', w'', q1, ownsRow_base q2 (by have := hb.size; omega), hb.trans (q3.mono hb.size)⟩
  have hcpW : ∀ w', Below X.heap.size X w' → ∃ v' w'', (Builtin.append_ #[32, 32] 32 #[.slice none 0 0, .slice (some ⟨wb, 0, none⟩) nw wcap]).run Ybad.prog w' = .ok v' w'' ∧ (w''.ownsRow W.heap.size 39 5 v' x.ws.length (wcells x.ws) ∧ Below X.heap.size X w'' ∧ ∀ {e z n : Nat} {u : Value} {xs : List Value}, w'.ownsRow W.heap.size e z u n xs → w''.ownsRow W.heap.size e z u n xs) := by
    intro w' hb
    obtain ⟨v', w'', q1, q2, q3⟩ := copy_any (P := Ybad.prog) (t := 32) Ybad.underlying32 info39 rfl (by omega) w' wb nw wcap (wcells x.ws) (by rw [wcells_len, HN.out]) (fun j hj => by
      rw [World.cell?_of_block (a := ⟨wb, j, none⟩) (hb.block wb (by omega)), World.cell?_of_block (a := ⟨wb, j, none⟩) (kX.block wb hwl hwb)]
      exact hW.out j (by rw [HN.out]; exact hj)) (wcells_one _) (by omega) (by omega)
    refine ⟨v', w'', q1, by rw [HN.out]; exact ownsRow_base q2 (by have := hb.size; omega), hb.trans (q3.mono hb.size), fun ho => own_kept ho (Kept.of_below (S := fun _ => False) q3 (Nat.le_refl _)) (fun _ _ e => e)⟩
  have hpush : ∀ wZ vl vw, Below X.heap.size X wZ → wZ.ownsRow W.heap.size 28 2 vl x.k (ecells (E.take x.k)) → wZ.ownsRow W.heap.size 39 5 vw x.ws.length (wcells x.ws) → _ := fun wZ vl vw a1 a2 a3 => h.push hBW hn hT hlr kX hX a1 (L := .slice (some ⟨eb, 0, none⟩) x.k ecap) rfl hv a2 a3
  have HC : Hid (∀ w' : World, (w'.heap[W.heap.size]? = X.heap[W.heap.size]? ∧ w'.heap[W.heap.size + 1]? = X.heap[W.heap.size + 1]?) → w'.cell? ⟨W.heap.size, 0, none⟩ = some (.int .i64 x.m.o) ∧ w'.cell? ⟨W.heap.size, 1, none⟩ = some (.int .i64 x.m.k) ∧ w'.cell? ⟨W.heap.size, 2, none⟩ = some (.int .i64 x.m.v) ∧ w'.cell? ⟨W.heap.size, 3, none⟩ = some (.int .i64 x.m.rd) ∧ w'.cell? ⟨W.heap.size, 4, none⟩ = some (.int .i64 x.m.cm) ∧ w'.cell? ⟨W.heap.size, 5, none⟩ = some (.int .i64 x.m.kp) ∧ w'.cell? ⟨W.heap.size, 6, none⟩ = some (.int .i64 x.m.ep) ∧ w'.cell? ⟨W.heap.size + 1, 0, none⟩ = some (.int .i64 x.lev) ∧ w'.cell? ⟨W.heap.size + 1, 1, none⟩ = some (.slice (some ⟨eb, 0, none⟩) x.k ecap) ∧ w'.cell? ⟨W.heap.size + 1, 2, none⟩ = some (.int .i64 x.r) ∧ w'.cell? ⟨W.heap.size + 1, 3, none⟩ = some (.int .i64 x.c) ∧ w'.cell? ⟨W.heap.size + 1, 4, none⟩ = some (.int .i64 x.e) ∧ w'.cell? ⟨W.heap.size + 1, 5, none⟩ = some (.slice (some ⟨wb, 0, none⟩) nw wcap)) := by
    intro w' hb
    have hb5 := hb.1.trans h5
    have hb6 := hb.2.trans h6
    refine ⟨?_, ?_, ?_, ?_, ?_, ?_, ?_, ?_, ?_, ?_, ?_, ?_, ?_⟩ <;> first | (rw [cell_of_block hb5]; rfl) | (rw [cell_of_block hb6]; rfl)
  have HBl : Hid (∀ w', Below X.heap.size X w' → w'.heap[W.heap.size]? = X.heap[W.heap.size]? ∧ w'.heap[W.heap.size + 1]? = X.heap[W.heap.size + 1]?) := fun w' hb => ⟨hb.block _ (lt_of_heap h5), hb.block _ (lt_of_heap h6)⟩
  have Hrbc : Hid (∀ w', Below X.heap.size X w' → w'.cell? ⟨rb, 0, none⟩ = some v) := fun w' hb => (carry w' hb).1
  have hrbW : rb ≠ W.heap.size ∧ rb ≠ W.heap.size + 1 := by have := r1.lt; omega
  have H56 : Hid (X.heap[W.heap.size]? = some (.cells #[.int .i64 x.m.o, .int .i64 x.m.k, .int .i64 x.m.v, .int .i64 x.m.rd, .int .i64 x.m.cm, .int .i64 x.m.kp, .int .i64 x.m.ep] 73 (0, 0)) ∧ X.heap[W.heap.size + 1]? = some (.cells #[.int .i64 x.lev, .slice (some ⟨eb, 0, none⟩) x.k ecap, .int .i64 x.r, .int .i64 x.c, .int .i64 x.e, .slice (some ⟨wb, 0, none⟩) nw wcap] 52 (0, 0))) := ⟨h5, h6⟩
  have hX0 : Below X.heap.size X X.drew := (Below.refl _ _).drew
  have a0 := Hrbc.out X.drew hX0
  clear h5 h6 hv hcc hcf
  refine wp_region_Z (fun w' => w'.cell? ⟨rb, 0, none⟩ = some v ∧ w'.cell? ⟨W.heap.size, 0, none⟩ = some (.int .i64 x.m.o) ∧ w'.cell? ⟨W.heap.size, 1, none⟩ = some (.int .i64 x.m.k) ∧ w'.cell? ⟨W.heap.size, 2, none⟩ = some (.int .i64 x.m.v) ∧ w'.cell? ⟨W.heap.size, 3, none⟩ = some (.int .i64 x.m.rd) ∧ w'.cell? ⟨W.heap.size, 4, none⟩ = some (.int .i64 x.m.cm) ∧ w'.cell? ⟨W.heap.size, 5, none⟩ = some (.int .i64 x.m.kp) ∧ w'.cell? ⟨W.heap.size, 6, none⟩ = some (.int .i64 x.m.ep) ∧ w'.cell? ⟨W.heap.size + 1, 0, none⟩ = some (.int .i64 x.lev) ∧ w'.cell? ⟨W.heap.size + 1, 1, none⟩ = some (.slice (some ⟨eb, 0, none⟩) x.k ecap) ∧ w'.cell? ⟨W.heap.size + 1, 2, none⟩ = some (.int .i64 x.r) ∧ w'.cell? ⟨W.heap.size + 1, 3, none⟩ = some (.int .i64 x.c) ∧ w'.cell? ⟨W.heap.size + 1, 4, none⟩ = some (.int .i64 x.e) ∧ w'.cell? ⟨W.heap.size + 1, 5, none⟩ = some (.slice (some ⟨wb, 0, none⟩) nw wcap)) 14 (by kernel_rfl) ?_
  have hS0 := carry _ hX0
  refine zTake 0 [0, 13, 14] (v := ?_) rfl (by kernel_rfl) (by kernel_rfl) (by kernel_rfl) (by kernel_rfl) (by kernel_rfl) (fun _ _ _ h => h) (Or.inl ⟨by rfl, ?y1⟩) (by assumption) ?_
  case y1 =>
    intro w hSw
    try dsimp only at hSw
    go_simp
    try (with_reducible rfl)
  simp only [Act.put, List.setIfInBounds_toArray, List.set_cons_zero, List.set_cons_succ]
  refine zTake 1 [1, 11, 12, 13, 14] (v := ?_) rfl (by kernel_rfl) (by kernel_rfl) (by kernel_rfl) (by kernel_rfl) (by kernel_rfl) (fun _ _ _ h => h) (Or.inl ⟨by rfl, ?y2⟩) (by assumption) ?_
  case y2 =>
    intro w hSw
    try dsimp only at hSw
    go_simp
    try (with_reducible rfl)
  simp only [Act.put, List.setIfInBounds_toArray, List.set_cons_zero, List.set_cons_succ]
  refine zTake 2 [2, 3, 11, 12, 13, 14] (v := ?_) rfl (by kernel_rfl) (by kernel_rfl) (by kernel_rfl) (by kernel_rfl) (by kernel_rfl) (fun _ _ _ h => h) (Or.inl ⟨by rfl, ?y3⟩) (by assumption) ?_
  case y3 =>
    intro w hSw
    try dsimp only at hSw
    go_simp
    try (with_reducible rfl)
  simp only [Act.put, List.setIfInBounds_toArray, List.set_cons_zero, List.set_cons_succ]
  refine zTake 3 [3, 11, 12, 13, 14] (v := ?_) rfl (by kernel_rfl) (by kernel_rfl) (by kernel_rfl) (by kernel_rfl) (by kernel_rfl) (fun _ _ _ h => h) (Or.inl ⟨by rfl, ?y4⟩) (by assumption) ?_
  case y4 =>
    intro w hSw
    try dsimp only at hSw
    go_simp
    try (with_reducible rfl)
  simp only [Act.put, List.setIfInBounds_toArray, List.set_cons_zero, List.set_cons_succ]
  refine zTake 4 [4, 5, 6, 7, 11, 12, 13, 14] (v := ?_) rfl (by kernel_rfl) (by kernel_rfl) (by kernel_rfl) (by kernel_rfl) (by kernel_rfl) (fun _ _ _ h => h) (Or.inl ⟨by rfl, ?y5⟩) (by assumption) ?_
  case y5 =>
    intro w hSw
    try dsimp only at hSw
    go_simp
    try (with_reducible rfl)
  simp only [Act.put, List.setIfInBounds_toArray, List.set_cons_zero, List.set_cons_succ]
  refine zTake 5 [5, 6, 7, 11, 12, 13, 14] (v := ?_) rfl (by kernel_rfl) (by kernel_rfl) (by kernel_rfl) (by kernel_rfl) (by kernel_rfl) (fun _ _ _ h => h) (Or.inl ⟨by rfl, ?y6⟩) (by assumption) ?_
  case y6 =>
    intro w hSw
    try dsimp only at hSw
    go_simp
    try (with_reducible rfl)
  simp only [Act.put, List.setIfInBounds_toArray, List.set_cons_zero, List.set_cons_succ]
  refine zTake 6 [6, 7, 11, 12, 13, 14] (v := ?_) rfl (by kernel_rfl) (by kernel_rfl) (by kernel_rfl) (by kernel_rfl) (by kernel_rfl) (fun _ _ _ h => h) (Or.inl ⟨by rfl, ?y7⟩) (by assumption) ?_
  case y7 =>
    intro w hSw
    try dsimp only at hSw
    go_simp
    try (with_reducible rfl)
  simp only [Act.put, List.setIfInBounds_toArray, List.set_cons_zero, List.set_cons_succ]
  refine zTake 8 [8, 9, 10, 11, 12, 13, 14] (v := ?_) rfl (by kernel_rfl) (by kernel_rfl) (by kernel_rfl) (by kernel_rfl) (by kernel_rfl) (fun _ _ _ h => h) (Or.inl ⟨by rfl, ?y8⟩) (by assumption) ?_
  case y8 =>
    intro w hSw
    try dsimp only at hSw
    go_simp
    try (with_reducible rfl)
  simp only [Act.put, List.setIfInBounds_toArray, List.set_cons_zero, List.set_cons_succ]
  refine zTake 9 [9, 10, 11, 12, 13, 14] (v := ?_) rfl (by kernel_rfl) (by kernel_rfl) (by kernel_rfl) (by kernel_rfl) (by kernel_rfl) (fun _ _ _ h => h) (Or.inl ⟨by rfl, ?y9⟩) (by assumption) ?_
  case y9 =>
    intro w hSw
    try dsimp only at hSw
    go_simp
    try (with_reducible rfl)
  simp only [Act.put, List.setIfInBounds_toArray, List.set_cons_zero, List.set_cons_succ]
  refine zOne 7 (by kernel_rfl) rfl ?_
  intro K hK
  refine step_append_ex (by rfl) _ _ 25 (by rfl) (.slice none 0 0) (.slice (some ⟨eb, 0, none⟩) x.k ecap) (by rfl) (by rfl) (hcpL _ hX0) ?_
  rintro vl w1 ⟨ol, hb1⟩
  obtain ⟨la, lc, rfl⟩ := own_form ol
  refine hK.out _ _ (fun _ => carry _ hb1) ?_
  clear hK K
  simp only [Act.put, List.setIfInBounds_toArray, List.set_cons_zero, List.set_cons_succ]
  refine zOne 10 (by kernel_rfl) rfl ?_
  intro K hK
  refine step_append_ex (by rfl) _ _ 32 (by rfl) (.slice none 0 0) (.slice (some ⟨wb, 0, none⟩) nw wcap) (by rfl) (by rfl) (hcpW _ hb1) ?_
  rintro vw w2 ⟨ow, hb2, hkeep⟩
  obtain ⟨wa, wc, rfl⟩ := own_form ow
  refine hK.out _ _ (fun _ => carry _ hb2) ?_
  clear hK K hS0
  simp only [Act.put, List.setIfInBounds_toArray, List.set_cons_zero, List.set_cons_succ]
  have hS0 := carry _ hb2
  refine zTake 11 [11, 12, 13, 14] (v := ?_) rfl (by kernel_rfl) (by kernel_rfl) (by kernel_rfl) (by kernel_rfl) (by kernel_rfl) (fun _ _ _ h => h) (Or.inl ⟨by rfl, ?y10⟩) (by assumption) ?_
  case y10 =>
    intro w hSw
    try dsimp only at hSw
    go_simp
    try (with_reducible rfl)
  simp only [Act.put, List.setIfInBounds_toArray, List.set_cons_zero, List.set_cons_succ]
  refine zOne 12 (by kernel_rfl) rfl ?_
  intro K hK
  go_simp
  refine hK.out _ _ (fun _ => carry _ (hb2.alloc hb2.size _)) ?_
  clear hK K hS0
  refine zOne 13 (by kernel_rfl) rfl ?_
  intro K hK
  refine step_append_ex (by rfl) _ _ 68 (by rfl) v _ (by rfl) (by rfl) (hpush w2 _ _ hb2 (hkeep ol) ow) ?_
  rintro v3 w3 ⟨⟨d1, d2, g, gcap, rfl⟩, hR, hKp, hKF, hq⟩
  refine hK.out _ _ (fun _ => ?_) ?_
  · have h5 := (hq _ _ _ ((hb2.block _ (lt_of_heap H56.out.1)).trans H56.out.1) (by decide)).trans ((hb2.block _ (lt_of_heap H56.out.1)).trans H56.out.1)
    have h6 := (hq _ _ _ ((hb2.block _ (lt_of_heap H56.out.2)).trans H56.out.2) (by decide)).trans ((hb2.block _ (lt_of_heap H56.out.2)).trans H56.out.2)
    refine ⟨d1, ?_, ?_, ?_, ?_, ?_, ?_, ?_, ?_, ?_, ?_, ?_, ?_, ?_⟩ <;> first | (rw [cell_of_block h5]; rfl) | (rw [cell_of_block h6]; rfl)
  clear hK K
  simp only [Act.put, List.setIfInBounds_toArray, List.set_cons_zero, List.set_cons_succ]
  refine zOne 14 (by kernel_rfl) rfl ?_
  intro K hK
  go_simp
  refine hK.out _ _ (fun h => absurd rfl h) ?_
  refine wpAnyZ_done (by kernel_rfl) ?_ _
  clear hK K
  generalize w3.setCell ⟨rb, 0, none⟩ (.slice (some ⟨g, 0, none⟩) (G.length + 1) gcap) = Y at hR hKp hKF ⊢
  have c1 := hR.calls.cell
  have c2 := hR.lim'.cell
  have e1 : ((G ++ [x]).length : Int) = (G.length : Int) + 1 := by simp
  rw [e1] at c1
  by_cases hl0 : lim = 0
  · subst hl0
    go_wp2
    go_ret
    exact ⟨by simp, hR, hKp, hKF⟩
  · go_wp2
    go_ret
    exact ⟨by simp [hl0], hR, hKp, hKF⟩
end Go.Proofs.YbulkejpeDoor
