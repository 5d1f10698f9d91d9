/- ends (10). -/
import Derived.Test.YbulkejpeDoorStp
namespace Go.Proofs.YbulkejpeDoor
open Go Go.ChangeShapes Go.WideShapes Go.ChangeAt Go.RowKit

variable {B cb rb lb : Nat} {lim : Int} {E : List (ByteArray × ByteArray)} {T : Nat → Prop} {W W' : World}

def endAt (lev e r c : Int) (n : Nat) (ws : List Wr) (i : Nat) (w : Wr) : List Ev :=
  if w.st = 0 then (if canF lev e c w.te w.tc = true then [evE lev e r c n ws i w 2 1] else []) ++ [evE lev e r c n ws i w 3 2] else []
def endsTo (lev e r c : Int) (n : Nat) (ws : List Wr) : Nat → List Ev
  | 0 => []
  | j + 1 => endsTo lev e r c n ws j ++ (match ws[j]? with | some w => endAt lev e r c n ws j w | none => [])
theorem endAt_len (lev e r c : Int) (n : Nat) (ws : List Wr) (i : Nat) (w : Wr) : (endAt lev e r c n ws i w).length ≤ 2 := by
  unfold endAt
  split
  · split <;> simp
  · simp
theorem endsTo_len (lev e r c : Int) (n : Nat) (ws : List Wr) : ∀ j, (endsTo lev e r c n ws j).length ≤ 2 * j
  | 0 => by simp [endsTo]
  | j + 1 => by
    have ih := endsTo_len lev e r c n ws j
    simp only [endsTo, List.length_append]
    cases ws[j]? with
    | none => simp; omega
    | some w => have := endAt_len lev e r c n ws j w; simp only; omega
theorem endsTo_pre (lev e r c : Int) (n : Nat) (ws : List Wr) (j : Nat) : ∀ k, endsTo lev e r c n ws j <+: endsTo lev e r c n ws (j + k)
  | 0 => List.prefix_refl _
  | k + 1 => (endsTo_pre lev e r c n ws j k).trans (List.prefix_append _ _)

/-- While the loop goes on. -/
def EL (W0 : World) (vb nw cb rb lb : Nat) (n me lim : Int) (E : List (ByteArray × ByteArray)) (G : List Ev) (W : World) : Prop := ∃ B A m ncap, EAt W0 vb nw cb rb lb B n me lim E A m ncap G W

theorem cellsW {ws : List Wr} {j : Nat} {x : Wr} {f : Nat → Option Value} (hx : ws[j]? = some x) (h : ∀ o, o < 5 → f (j * 5 + o) = (wcells ws)[j * 5 + o]?) :
    f (j * 5) = some (.int .i64 x.te) ∧ f (j * 5 + 1) = some (.int .i64 x.tc) ∧ f (j * 5 + 2) = some (.int .i64 x.key) ∧ f (j * 5 + 3) = some (.int .i64 x.val) ∧ f (j * 5 + 4) = some (.int .i64 x.st) := by
  have key : ∀ (ws : List Wr) (j : Nat), ws[j]? = some x → ∀ o, o < 5 → (wcells ws)[j * 5 + o]? = x.cells[o]? := by
    intro ws
    induction ws with
    | nil => intro j hj; simp at hj
    | cons y ws ih =>
      intro j hj o ho
      simp only [wcells, List.flatMap_cons]
      cases j with
      | zero =>
        simp only [List.getElem?_cons_zero, Option.some.injEq] at hj
        subst hj
        rw [List.getElem?_append_left (by simp [Wr.cells]; omega)]
        simp
      | succ j =>
        rw [List.getElem?_append_right (by simp [Wr.cells]; omega)]
        have := ih j (by simpa using hj) o ho
        rw [← this]
        congr 1
        simp [Wr.cells]
        omega
  refine ⟨?_, ?_, ?_, ?_, ?_⟩
  · have := h 0 (by omega); rw [Nat.add_zero] at this; rw [this]; exact (key ws j hx 0 (by omega)).trans rfl
  · rw [h 1 (by omega), key ws j hx 1 (by omega)]; rfl
  · rw [h 2 (by omega), key ws j hx 2 (by omega)]; rfl
  · rw [h 3 (by omega), key ws j hx 3 (by omega)]; rfl
  · rw [h 4 (by omega), key ws j hx 4 (by omega)]; rfl
theorem Hid.mk' {p : Prop} (h : p) : Hid p := h

theorem can_is {lev e r c te tc : Int} {A : Option Addr} {n cap : Nat} {w : World} {b : Bool} (h : canF lev e c te tc = b) : Calls Ybad.prog 16 #[.agg #[.int .i64 lev, .slice A n cap, .int .i64 r, .int .i64 c, .int .i64 e], .agg #[.int .i64 te, .int .i64 tc]] w fun e' w' => e' = .returned (.bool b) ∧ Below w.heap.size w w' := h ▸ can_any lev e r c te tc A n cap w
theorem seven {w : World} {g : Nat} {a b c d e f g' : Value} {t : TypeId} (h : w.heap[g]? = some (.cells #[a, b, c, d, e, f, g'] t (0, 0))) :
    w.cell? ⟨g, 0, none⟩ = some a ∧ w.cell? ⟨g, 1, none⟩ = some b ∧ w.cell? ⟨g, 2, none⟩ = some c ∧ w.cell? ⟨g, 3, none⟩ = some d ∧ w.cell? ⟨g, 4, none⟩ = some e ∧ w.cell? ⟨g, 5, none⟩ = some f ∧ w.cell? ⟨g, 6, none⟩ = some g' ∧ w.frozen? ⟨g, 0, none⟩ = false := by
  refine ⟨?_, ?_, ?_, ?_, ?_, ?_, ?_, frozen_of_block h 0⟩ <;> (rw [cell_of_block h]; rfl)

def EndPost (W : World) (vb nw cb rb lb : Nat) (n me lim : Int) (E : List (ByteArray × ByteArray)) (all : List Ev) (e' : Ending) (W' : World) : Prop :=
  ∃ (b : Bool) (G : List Ev), e' = .returned (.bool b) ∧ EL W vb nw cb rb lb n me lim E G W' ∧ ((b = true ∧ G = all ∧ more lim G.length) ∨ (b = false ∧ G <+: all ∧ lim ≠ 0 ∧ (G.length : Int) = lim))
theorem EndPost.go {W : World} {vb nw : Nat} {n me : Int} {all : List Ev} (h : EL W vb nw cb rb lb n me lim E all W') (hm : more lim all.length) : EndPost W vb nw cb rb lb n me lim E all (.returned (.bool true)) W' := ⟨true, all, rfl, h, Or.inl ⟨rfl, rfl, hm⟩⟩
theorem EndPost.no {W : World} {vb nw : Nat} {n me : Int} {all G : List Ev} (h : EL W vb nw cb rb lb n me lim E G W') (hp : G <+: all) (hl : lim ≠ 0 ∧ (G.length : Int) = lim) : EndPost W vb nw cb rb lb n me lim E all (.returned (.bool false)) W' := ⟨false, G, rfl, h, Or.inr ⟨rfl, hp, hl⟩⟩


theorem EL.base {W0 : World} {vb nw : Nat} {n me : Int} {o : Obj} {G : List Ev} (h0 : W.alloc o = W0) (h : EL W0 vb nw cb rb lb n me lim E G W') (hv : vb < W.heap.size) : EL W vb nw cb rb lb n me lim E G W' := by
  obtain ⟨B, A, m, nc, h⟩ := h
  subst h0
  have hz : (W.alloc o).heap.size = W.heap.size + 1 := by simp
  refine ⟨B, A, m, nc, h.hB, by have := h.h0; omega, h.rc, h.v, h.own, ?_, ((Kept.refl (fun _ => False) W).alloc o |>.mono (fun _ e => e.elim)).trans h.kp (fun _ _ e => e), hv⟩
  rcases h.buf with h1 | ⟨nb, h1, h2, h3, h4⟩
  · exact Or.inl h1
  · exact Or.inr ⟨nb, h1, h2, by omega, h4⟩
theorem ends_le {lev e r c : Int} {n : Nat} {ws : List Wr} {j nw : Nat} (h : j < nw) : endsTo lev e r c n ws (j + 1) <+: endsTo lev e r c n ws nw := by
  have := endsTo_pre lev e r c n ws (j + 1) (nw - (j + 1))
  rwa [show j + 1 + (nw - (j + 1)) = nw by omega] at this
theorem ends_last {lev e r c : Int} {n : Nat} {ws : List Wr} {j nw : Nat} {G : List Ev} (hq : endsTo lev e r c n ws (j + 1) = G) (h : j < nw) : G <+: endsTo lev e r c n ws nw := hq ▸ ends_le h

set_option maxRecDepth 100000 in
set_option maxHeartbeats 4000000 in
theorem ends_any (lev e r c n me : Int) (vb eb ecap wb wcap nw k : Nat) (ws : List Wr) (h : RecAt B cb rb lb lim E T [] W) (hnil : Boxed W rb 68 (.slice none 0 0)) (hv : VObj vb n me (.slice none 0 0) W) (hk5 : k ≤ 512) (hEk : E.length = k) (HN : Hid (ws.length = nw)) (hw5 : nw ≤ 512)
    (heb : eb ≠ cb ∧ eb ≠ vb ∧ eb ≠ rb ∧ eb < W.heap.size) (hwb : wb ≠ cb ∧ wb ≠ vb ∧ wb ≠ rb ∧ wb < W.heap.size) (hE : Hid (∀ j, j < k * 2 → W.cell? ⟨eb, j, none⟩ = (ecells E)[j]?)) (hW : Hid (∀ j, j < nw * 5 → W.cell? ⟨wb, j, none⟩ = (wcells ws)[j]?)) (hlim0 : 0 ≤ lim) (hlim1 : lim ≤ 100000) :
    Calls Ybad.prog 10 #[.pointer (some ⟨vb, 0, none⟩), .agg #[.int .i64 lev, .slice (some ⟨eb, 0, none⟩) k ecap, .int .i64 r, .int .i64 c, .int .i64 e, .slice (some ⟨wb, 0, none⟩) nw wcap], .func (.func 6) #[] #[.pointer (some ⟨cb, 0, none⟩), .pointer (some ⟨rb, 0, none⟩), .pointer (some ⟨lb, 0, none⟩)]] W fun e' W' => EndPost W vb nw cb rb lb n me lim E (endsTo lev e r c k ws nw) e' W' := by
  have hX : EL (W.alloc (.cells #[.int .i64 lev, .slice (some ⟨eb, 0, none⟩) k ecap, .int .i64 r, .int .i64 c, .int .i64 e, .slice (some ⟨wb, 0, none⟩) nw wcap] 52)) vb nw cb rb lb n me lim E (endsTo lev e r c k ws 0) (W.alloc (.cells #[.int .i64 lev, .slice (some ⟨eb, 0, none⟩) k ecap, .int .i64 r, .int .i64 c, .int .i64 e, .slice (some ⟨wb, 0, none⟩) nw wcap] 52)) := by
    have ka : Kept (fun _ => False) W (W.alloc (.cells #[.int .i64 lev, .slice (some ⟨eb, 0, none⟩) k ecap, .int .i64 r, .int .i64 c, .int .i64 e, .slice (some ⟨wb, 0, none⟩) nw wcap] 52)) := (Kept.refl _ _).alloc _
    have hn' : Boxed (W.alloc (.cells #[.int .i64 lev, .slice (some ⟨eb, 0, none⟩) k ecap, .int .i64 r, .int .i64 c, .int .i64 e, .slice (some ⟨wb, 0, none⟩) nw wcap] 52)) rb 68 (.slice none 0 0) := ka.obj hnil (fun e => e)
    exact ⟨_, none, 0, 0, Nat.le_refl _, Nat.le_refl _, ((h.kept ka (fun _ _ e => e.elim)).rebase hn' _).none, hv.kept ka (fun e => e), World.ownsRow_nil _ _ _ _, Or.inl ⟨rfl, rfl, hn'⟩, Kept.refl _ _, by have := hv.lt; simp; omega⟩
  have hbx : (W.alloc (.cells #[.int .i64 lev, .slice (some ⟨eb, 0, none⟩) k ecap, .int .i64 r, .int .i64 c, .int .i64 e, .slice (some ⟨wb, 0, none⟩) nw wcap] 52)).heap[W.heap.size]? = some (.cells #[.int .i64 lev, .slice (some ⟨eb, 0, none⟩) k ecap, .int .i64 r, .int .i64 c, .int .i64 e, .slice (some ⟨wb, 0, none⟩) nw wcap] 52 (0, 0)) := heap_alloc_new _ _
  have hm0 : more lim (endsTo lev e r c k ws 0).length := by
    unfold more
    simp [endsTo]
    omega
  go_enter Ybad.func10, Ybad.ntmps10
  go_wp2
  generalize hW0 : W.alloc (.cells #[.int .i64 lev, .slice (some ⟨eb, 0, none⟩) k ecap, .int .i64 r, .int .i64 c, .int .i64 e, .slice (some ⟨wb, 0, none⟩) nw wcap] 52) = W0 at hX hbx ⊢
  go_loopw [13] (fun v13 wr => ∃ j : Nat, j ≤ nw ∧ v13 = .int .i64 (j : Int) ∧ Hid (EL W0 vb nw cb rb lb n me lim E (endsTo lev e r c k ws j) wr ∧ more lim (endsTo lev e r c k ws j).length)) (fun v13 _ => nw - (intOf v13).toNat)
  · exact ⟨0, by omega, rfl, hX, hm0⟩
  · obtain ⟨j, hj, rfl, HI⟩ := hrel
    have hvl := hv.lt
    have hwb0 : wb ≠ cb ∧ wb ≠ vb ∧ wb ≠ rb ∧ wb < W0.heap.size := ⟨hwb.1, hwb.2.1, hwb.2.2.1, by subst hW0; simp; omega⟩
    have heb0 : eb ≠ cb ∧ eb ≠ vb ∧ eb ≠ rb ∧ eb < W0.heap.size := ⟨heb.1, heb.2.1, heb.2.2.1, by subst hW0; simp; omega⟩
    have hW0c : Hid (∀ j, j < nw * 5 → W0.cell? ⟨wb, j, none⟩ = (wcells ws)[j]?) := fun j hj => by
      subst hW0
      exact (((Kept.refl (fun _ => False) W).alloc _).cell (a := ⟨wb, j, none⟩) hwb.2.2.2 (fun e => e)).trans (hW.out j hj)
    have hE0c : Hid (∀ j, j < k * 2 → W0.cell? ⟨eb, j, none⟩ = (ecells E)[j]?) := fun j hj => by
      subst hW0
      exact (((Kept.refl (fun _ => False) W).alloc _).cell (a := ⟨eb, j, none⟩) heb.2.2.2 (fun e => e)).trans (hE.out j hj)
    by_cases hlt : j < nw
    · obtain ⟨⟨B1, A1, m1, nc1, EA⟩, hm⟩ := HI.out
      have hjl : j < ws.length := by rw [HN.out]; exact hlt
      obtain ⟨x, hx⟩ : ∃ x, ws[j]? = some x := ⟨ws[j], List.getElem?_eq_getElem hjl⟩
      have d := cellsW (f := fun o => wr.cell? ⟨wb, o, none⟩) hx (fun o ho => by
        have h1 : wr.cell? ⟨wb, j * 5 + o, none⟩ = W0.cell? ⟨wb, j * 5 + o, none⟩ := EA.kp.cell (a := ⟨wb, j * 5 + o, none⟩) (by subst hW0; simp; omega) (by simp; omega)
        have h2 : W0.cell? ⟨wb, j * 5 + o, none⟩ = W.cell? ⟨wb, j * 5 + o, none⟩ := by
          subst hW0
          exact ((Kept.refl (fun _ => False) W).alloc _).cell (a := ⟨wb, j * 5 + o, none⟩) hwb.2.2.2 (fun e => e)
        rw [h1, h2, hW.out _ (by omega)])
      obtain ⟨d0, d1, d2, d3, d4⟩ := d
      have HX : Hid (ws[j]? = some x) := hx
      have HE := Hid.mk' EA
      have q4 := six (EA.kp.obj hbx (by have := h.calls.lt; have := hv.lt; have := hnil.lt; omega))
      obtain ⟨f1, f2, f3, f4, f5, f6, -⟩ := q4
      have hjs : W.heap.size < wr.heap.size := by have := EA.kp.size; subst hW0; simp at this; omega
      have hwr : wb < wr.heap.size := by omega
      have HB4 : Hid (W0.heap[W.heap.size]? = some (.cells #[.int .i64 lev, .slice (some ⟨eb, 0, none⟩) k ecap, .int .i64 r, .int .i64 c, .int .i64 e, .slice (some ⟨wb, 0, none⟩) nw wcap] 52 (0, 0)) ∧ (¬ (W.heap.size = vb ∨ W.heap.size = cb ∨ W.heap.size = rb))) := ⟨hbx, by have := h.calls.lt; have := hv.lt; have := hnil.lt; omega⟩
      clear hx hX hbx EA hm0 h hnil hv
      have kG : Kept (fun _ => False) wr ((wr.alloc (.cells #[.int .i64 x.te, .int .i64 x.tc, .int .i64 x.key, .int .i64 x.val, .int .i64 x.st] 39)).alloc (.cells #[.int .i64 0, .int .i64 x.key, .int .i64 x.val, .int .i64 0, .int .i64 0, .int .i64 0, .int .i64 0] 73)) := ((Kept.refl _ _).alloc _).alloc _
      have mG : ((wr.alloc (.cells #[.int .i64 x.te, .int .i64 x.tc, .int .i64 x.key, .int .i64 x.val, .int .i64 x.st] 39)).alloc (.cells #[.int .i64 0, .int .i64 x.key, .int .i64 x.val, .int .i64 0, .int .i64 0, .int .i64 0, .int .i64 0] 73)).heap[wr.heap.size + 1]? = some (.cells #[.int .i64 0, .int .i64 x.key, .int .i64 x.val, .int .i64 0, .int .i64 0, .int .i64 0, .int .i64 0] 73 (0, 0)) := by
        have := heap_alloc_new (wr.alloc (.cells #[.int .i64 x.te, .int .i64 x.tc, .int .i64 x.key, .int .i64 x.val, .int .i64 x.st] 39)) (.cells #[.int .i64 0, .int .i64 x.key, .int .i64 x.val, .int .i64 0, .int .i64 0, .int .i64 0, .int .i64 0] 73)
        simpa using this
      by_cases hst : x.st = 0
      · rw [hst] at d4
        rw [hst] at kG mG
        cases hcan : canF lev e c x.te x.tc
        · go_wp2_with (go_at_call 16; refine (can_is hcan).mono ?_; rintro _ Y ⟨rfl, hY⟩; have m1 := (hY.block _ (by simp)).trans mG; have m2 := seven m1; obtain ⟨p1, p2, p3, p4, p5, p6, p7, p8⟩ := m2)
          clear p1 p2 p3 p4 p5 p6 p7 p8 d0 d1 d2 d3 d4 f1 f2 f3 f4 f5 f6
          have EA1 := (HE.out.quiet kG (fun _ _ e => e.elim)).quiet (Kept.of_below (S := fun _ => False) hY (Nat.le_refl _)) (fun _ _ e => e.elim)
          have hW0s : W0.heap.size ≤ wr.heap.size := HE.out.kp.size
          clear hY mG kG
          have kS : Kept (fun b => b = wr.heap.size + 1) Y (Y.setCell ⟨wr.heap.size + 1, 0, none⟩ (.int .i64 3)) := Kept.setCell (S := fun b => b = wr.heap.size + 1) (Kept.refl _ _) (fun _ => rfl) _
          have EZ := EA1.quiet kS (fun b hb e => by subst e; exact ⟨by omega, _, _, m1, by decide, by decide, by decide, by decide, by decide, by decide⟩)
          have mZ := heap_setCell_same m1 0 (.int .i64 3)
          simp only [List.setIfInBounds_toArray, List.set_cons_zero] at mZ
          generalize Y.setCell ⟨wr.heap.size + 1, 0, none⟩ (.int .i64 3) = Z at EZ mZ kS ⊢
          have bZ := EZ.kp.obj HB4.out.1 HB4.out.2
          have cs : Hid (∀ w' : World, w'.heap[wr.heap.size + 1]? = Z.heap[wr.heap.size + 1]? → w'.heap[W.heap.size]? = Z.heap[W.heap.size]? → w'.cell? ⟨wr.heap.size + 1, 0, none⟩ = some (.int .i64 3) ∧ w'.cell? ⟨wr.heap.size + 1, 1, none⟩ = some (.int .i64 x.key) ∧ w'.cell? ⟨wr.heap.size + 1, 2, none⟩ = some (.int .i64 x.val) ∧ w'.cell? ⟨wr.heap.size + 1, 3, none⟩ = some (.int .i64 0) ∧ w'.cell? ⟨wr.heap.size + 1, 4, none⟩ = some (.int .i64 0) ∧ w'.cell? ⟨wr.heap.size + 1, 5, none⟩ = some (.int .i64 0) ∧ w'.cell? ⟨wr.heap.size + 1, 6, none⟩ = some (.int .i64 0) ∧ w'.cell? ⟨W.heap.size, 0, none⟩ = some (.int .i64 lev) ∧ w'.cell? ⟨W.heap.size, 1, none⟩ = some (.slice (some ⟨eb, 0, none⟩) k ecap) ∧ w'.cell? ⟨W.heap.size, 2, none⟩ = some (.int .i64 r) ∧ w'.cell? ⟨W.heap.size, 3, none⟩ = some (.int .i64 c) ∧ w'.cell? ⟨W.heap.size, 4, none⟩ = some (.int .i64 e) ∧ w'.cell? ⟨W.heap.size, 5, none⟩ = some (.slice (some ⟨wb, 0, none⟩) nw wcap)) := by
            intro w' e1 e2
            obtain ⟨a0, a1, a2, a3, a4, a5, a6, -⟩ := seven (e1.trans mZ)
            obtain ⟨b0, b1, b2, b3, b4, b5, -⟩ := six (e2.trans bZ)
            exact ⟨a0, a1, a2, a3, a4, a5, a6, b0, b1, b2, b3, b4, b5⟩
          have HZ : Hid (Z.heap[wr.heap.size + 1]? = some (.cells #[.int .i64 3, .int .i64 x.key, .int .i64 x.val, .int .i64 0, .int .i64 0, .int .i64 0, .int .i64 0] 73 (0, 0)) ∧ Z.heap[W.heap.size]? = some (.cells #[.int .i64 lev, .slice (some ⟨eb, 0, none⟩) k ecap, .int .i64 r, .int .i64 c, .int .i64 e, .slice (some ⟨wb, 0, none⟩) nw wcap] 52 (0, 0))) := ⟨mZ, bZ⟩
          clear kS mZ bZ m1 EA1
          refine wp_region_Z (fun w' => w'.cell? ⟨wr.heap.size + 1, 0, none⟩ = some (.int .i64 3) ∧ w'.cell? ⟨wr.heap.size + 1, 1, none⟩ = some (.int .i64 x.key) ∧ w'.cell? ⟨wr.heap.size + 1, 2, none⟩ = some (.int .i64 x.val) ∧ w'.cell? ⟨wr.heap.size + 1, 3, none⟩ = some (.int .i64 0) ∧ w'.cell? ⟨wr.heap.size + 1, 4, none⟩ = some (.int .i64 0) ∧ w'.cell? ⟨wr.heap.size + 1, 5, none⟩ = some (.int .i64 0) ∧ w'.cell? ⟨wr.heap.size + 1, 6, none⟩ = some (.int .i64 0) ∧ w'.cell? ⟨W.heap.size, 0, none⟩ = some (.int .i64 lev) ∧ w'.cell? ⟨W.heap.size, 1, none⟩ = some (.slice (some ⟨eb, 0, none⟩) k ecap) ∧ w'.cell? ⟨W.heap.size, 2, none⟩ = some (.int .i64 r) ∧ w'.cell? ⟨W.heap.size, 3, none⟩ = some (.int .i64 c) ∧ w'.cell? ⟨W.heap.size, 4, none⟩ = some (.int .i64 e) ∧ w'.cell? ⟨W.heap.size, 5, none⟩ = some (.slice (some ⟨wb, 0, none⟩) nw wcap)) 7 (by kernel_rfl) ?_
          have hS0 := cs.out Z.drew rfl rfl
          refine zTake 0 [0, 6, 7] (v := ?_) rfl (by kernel_rfl) (by kernel_rfl) (by kernel_rfl) (by kernel_rfl) (by kernel_rfl) (fun _ _ _ h => h) (Or.inl ⟨by rfl, ?y1⟩) (by assumption) ?_
          case y1 =>
            intro w hSw
            try dsimp only at hSw
            go_simp
            try (with_reducible rfl)
          simp only [Act.put, List.setIfInBounds_toArray, List.set_cons_zero, List.set_cons_succ]
          refine zTake 1 [1, 6, 7] (v := ?_) rfl (by kernel_rfl) (by kernel_rfl) (by kernel_rfl) (by kernel_rfl) (by kernel_rfl) (fun _ _ _ h => h) (Or.inl ⟨by rfl, ?y2⟩) (by assumption) ?_
          case y2 =>
            intro w hSw
            try dsimp only at hSw
            go_simp
            try (with_reducible rfl)
          simp only [Act.put, List.setIfInBounds_toArray, List.set_cons_zero, List.set_cons_succ]
          refine zTake 2 [2, 5, 6, 7] (v := ?_) rfl (by kernel_rfl) (by kernel_rfl) (by kernel_rfl) (by kernel_rfl) (by kernel_rfl) (fun _ _ _ h => h) (Or.inl ⟨by rfl, ?y3⟩) (by assumption) ?_
          case y3 =>
            intro w hSw
            try dsimp only at hSw
            go_simp
            try (with_reducible rfl)
          simp only [Act.put, List.setIfInBounds_toArray, List.set_cons_zero, List.set_cons_succ]
          refine zTake 3 [3, 5, 6, 7] (v := ?_) rfl (by kernel_rfl) (by kernel_rfl) (by kernel_rfl) (by kernel_rfl) (by kernel_rfl) (fun _ _ _ h => h) (Or.inl ⟨by rfl, ?y4⟩) (by assumption) ?_
          case y4 =>
            intro w hSw
            try dsimp only at hSw
            go_simp
            try (with_reducible rfl)
          simp only [Act.put, List.setIfInBounds_toArray, List.set_cons_zero, List.set_cons_succ]
          refine zTake 4 [4, 5, 6, 7] (v := ?_) rfl (by kernel_rfl) (by kernel_rfl) (by kernel_rfl) (by kernel_rfl) (by kernel_rfl) (fun _ _ _ h => h) (Or.inl ⟨by rfl, ?y5⟩) (by assumption) ?_
          case y5 =>
            intro w hSw
            try dsimp only at hSw
            go_simp
            try (with_reducible rfl)
          simp only [Act.put, List.setIfInBounds_toArray, List.set_cons_zero, List.set_cons_succ]
          refine zOne 5 (by kernel_rfl) rfl ?_
          intro K hK
          go_simp
          refine (wst_step (EZ.quiet ((Kept.refl (fun _ => False) Z).drew) (fun _ _ e => e.elim)) lev r c e 2 eb k ecap wb wcap j ws HN hlt hw5 hwb0 hW0c).mono ?_
          rintro _ w1 ⟨g, gcap, B2, rfl, EW, oW, hw1⟩
          have i1 := hw1 _ _ _ HZ.out.1 (by decide) (by decide)
          have i2 := hw1 _ _ _ HZ.out.2 (by decide) (by decide)
          refine hK.out _ _ (fun _ => cs.out w1 i1 i2) ?_
          clear hK K EZ hw1
          refine zOne 6 (by kernel_rfl) rfl ?_
          intro K hK
          go_simp
          refine (yld_step EW lev e r c eb ecap k j ws x 3 2 oW HN hw5 hk5 hEk (by have := endsTo_len lev e r c k ws j; omega) heb0 hE0c hlim0 hlim1).mono ?_
          rintro _ w2 ⟨bb, rfl, EY, hb1, hb2, hw2⟩
          have i3 := (hw2 _ _ _ (i1.trans HZ.out.1) (by decide) (by decide) (by decide)).trans i1
          have i4 := (hw2 _ _ _ (i2.trans HZ.out.2) (by decide) (by decide) (by decide)).trans i2
          refine hK.out _ _ (fun _ => cs.out w2 i3 i4) ?_
          clear hK K EW oW hw2 i1 i2 hS0
          refine zOne 7 (by kernel_rfl) rfl ?_
          intro K hK
          go_simp
          refine hK.out _ _ (fun h => absurd rfl h) ?_
          refine wpAnyZ_done (by kernel_rfl) ?_ _
          clear hK K
          have mW := i3.trans HZ.out.1
          clear i3 i4 cs HZ
          have HQ : Hid (endsTo lev e r c k ws (j + 1) = endsTo lev e r c k ws j ++ [evE lev e r c k ws j x 3 2]) := by show _ = _; simp only [endsTo, HX.out, endAt, hst, hcan, if_true, Bool.false_eq_true, if_false, List.nil_append]
          cases bb
          · have HH := Hid.mk' (hb2 rfl HI.out.2)
            clear hb1 hb2
            go_wp2
            go_ret
            exact EndPost.no (EL.base hW0 ⟨_, _, _, _, EY⟩ hvl) (ends_last HQ.out hlt) (by have := HH.out; simp only [List.length_append, List.length_cons, List.length_nil] at this ⊢; omega)
          · have HH := Hid.mk' (hb1 rfl)
            clear hb1 hb2
            go_wp2
            go_roundw
            case rel => exact ⟨j + 1, by omega, by go_num, by rw [HQ.out]; exact ⟨_, _, _, _, EY⟩, by rw [HQ.out, List.length_append]; exact HH.out⟩
            case measure => simp [intOf]; omega
        · go_wp2_with (go_at_call 16; refine (can_is hcan).mono ?_; rintro _ Y ⟨rfl, hY⟩; have m1 := (hY.block _ (by simp)).trans mG; have m2 := seven m1; obtain ⟨p1, p2, p3, p4, p5, p6, p7, p8⟩ := m2)
          clear p1 p2 p3 p4 p5 p6 p7 p8 d0 d1 d2 d3 d4 f1 f2 f3 f4 f5 f6
          have EA1 := (HE.out.quiet kG (fun _ _ e => e.elim)).quiet (Kept.of_below (S := fun _ => False) hY (Nat.le_refl _)) (fun _ _ e => e.elim)
          have hW0s : W0.heap.size ≤ wr.heap.size := HE.out.kp.size
          clear hY mG kG
          have kS : Kept (fun b => b = wr.heap.size + 1) Y (Y.setCell ⟨wr.heap.size + 1, 0, none⟩ (.int .i64 2)) := Kept.setCell (S := fun b => b = wr.heap.size + 1) (Kept.refl _ _) (fun _ => rfl) _
          have EZ := EA1.quiet kS (fun b hb e => by subst e; exact ⟨by omega, _, _, m1, by decide, by decide, by decide, by decide, by decide, by decide⟩)
          have mZ := heap_setCell_same m1 0 (.int .i64 2)
          simp only [List.setIfInBounds_toArray, List.set_cons_zero] at mZ
          generalize Y.setCell ⟨wr.heap.size + 1, 0, none⟩ (.int .i64 2) = Z at EZ mZ kS ⊢
          have bZ := EZ.kp.obj HB4.out.1 HB4.out.2
          have cs : Hid (∀ w' : World, w'.heap[wr.heap.size + 1]? = Z.heap[wr.heap.size + 1]? → w'.heap[W.heap.size]? = Z.heap[W.heap.size]? → w'.cell? ⟨wr.heap.size + 1, 0, none⟩ = some (.int .i64 2) ∧ w'.cell? ⟨wr.heap.size + 1, 1, none⟩ = some (.int .i64 x.key) ∧ w'.cell? ⟨wr.heap.size + 1, 2, none⟩ = some (.int .i64 x.val) ∧ w'.cell? ⟨wr.heap.size + 1, 3, none⟩ = some (.int .i64 0) ∧ w'.cell? ⟨wr.heap.size + 1, 4, none⟩ = some (.int .i64 0) ∧ w'.cell? ⟨wr.heap.size + 1, 5, none⟩ = some (.int .i64 0) ∧ w'.cell? ⟨wr.heap.size + 1, 6, none⟩ = some (.int .i64 0) ∧ w'.cell? ⟨W.heap.size, 0, none⟩ = some (.int .i64 lev) ∧ w'.cell? ⟨W.heap.size, 1, none⟩ = some (.slice (some ⟨eb, 0, none⟩) k ecap) ∧ w'.cell? ⟨W.heap.size, 2, none⟩ = some (.int .i64 r) ∧ w'.cell? ⟨W.heap.size, 3, none⟩ = some (.int .i64 c) ∧ w'.cell? ⟨W.heap.size, 4, none⟩ = some (.int .i64 e) ∧ w'.cell? ⟨W.heap.size, 5, none⟩ = some (.slice (some ⟨wb, 0, none⟩) nw wcap)) := by
            intro w' e1 e2
            obtain ⟨a0, a1, a2, a3, a4, a5, a6, -⟩ := seven (e1.trans mZ)
            obtain ⟨b0, b1, b2, b3, b4, b5, -⟩ := six (e2.trans bZ)
            exact ⟨a0, a1, a2, a3, a4, a5, a6, b0, b1, b2, b3, b4, b5⟩
          have HZ : Hid (Z.heap[wr.heap.size + 1]? = some (.cells #[.int .i64 2, .int .i64 x.key, .int .i64 x.val, .int .i64 0, .int .i64 0, .int .i64 0, .int .i64 0] 73 (0, 0)) ∧ Z.heap[W.heap.size]? = some (.cells #[.int .i64 lev, .slice (some ⟨eb, 0, none⟩) k ecap, .int .i64 r, .int .i64 c, .int .i64 e, .slice (some ⟨wb, 0, none⟩) nw wcap] 52 (0, 0))) := ⟨mZ, bZ⟩
          clear kS mZ bZ m1 EA1
          refine wp_region_Z (fun w' => w'.cell? ⟨wr.heap.size + 1, 0, none⟩ = some (.int .i64 2) ∧ w'.cell? ⟨wr.heap.size + 1, 1, none⟩ = some (.int .i64 x.key) ∧ w'.cell? ⟨wr.heap.size + 1, 2, none⟩ = some (.int .i64 x.val) ∧ w'.cell? ⟨wr.heap.size + 1, 3, none⟩ = some (.int .i64 0) ∧ w'.cell? ⟨wr.heap.size + 1, 4, none⟩ = some (.int .i64 0) ∧ w'.cell? ⟨wr.heap.size + 1, 5, none⟩ = some (.int .i64 0) ∧ w'.cell? ⟨wr.heap.size + 1, 6, none⟩ = some (.int .i64 0) ∧ w'.cell? ⟨W.heap.size, 0, none⟩ = some (.int .i64 lev) ∧ w'.cell? ⟨W.heap.size, 1, none⟩ = some (.slice (some ⟨eb, 0, none⟩) k ecap) ∧ w'.cell? ⟨W.heap.size, 2, none⟩ = some (.int .i64 r) ∧ w'.cell? ⟨W.heap.size, 3, none⟩ = some (.int .i64 c) ∧ w'.cell? ⟨W.heap.size, 4, none⟩ = some (.int .i64 e) ∧ w'.cell? ⟨W.heap.size, 5, none⟩ = some (.slice (some ⟨wb, 0, none⟩) nw wcap)) 7 (by kernel_rfl) ?_
          have hS0 := cs.out Z.drew rfl rfl
          refine zTake 0 [0, 6, 7] (v := ?_) rfl (by kernel_rfl) (by kernel_rfl) (by kernel_rfl) (by kernel_rfl) (by kernel_rfl) (fun _ _ _ h => h) (Or.inl ⟨by rfl, ?y6⟩) (by assumption) ?_
          case y6 =>
            intro w hSw
            try dsimp only at hSw
            go_simp
            try (with_reducible rfl)
          simp only [Act.put, List.setIfInBounds_toArray, List.set_cons_zero, List.set_cons_succ]
          refine zTake 1 [1, 6, 7] (v := ?_) rfl (by kernel_rfl) (by kernel_rfl) (by kernel_rfl) (by kernel_rfl) (by kernel_rfl) (fun _ _ _ h => h) (Or.inl ⟨by rfl, ?y7⟩) (by assumption) ?_
          case y7 =>
            intro w hSw
            try dsimp only at hSw
            go_simp
            try (with_reducible rfl)
          simp only [Act.put, List.setIfInBounds_toArray, List.set_cons_zero, List.set_cons_succ]
          refine zTake 2 [2, 5, 6, 7] (v := ?_) rfl (by kernel_rfl) (by kernel_rfl) (by kernel_rfl) (by kernel_rfl) (by kernel_rfl) (fun _ _ _ h => h) (Or.inl ⟨by rfl, ?y8⟩) (by assumption) ?_
          case y8 =>
            intro w hSw
            try dsimp only at hSw
            go_simp
            try (with_reducible rfl)
          simp only [Act.put, List.setIfInBounds_toArray, List.set_cons_zero, List.set_cons_succ]
          refine zTake 3 [3, 5, 6, 7] (v := ?_) rfl (by kernel_rfl) (by kernel_rfl) (by kernel_rfl) (by kernel_rfl) (by kernel_rfl) (fun _ _ _ h => h) (Or.inl ⟨by rfl, ?y9⟩) (by assumption) ?_
          case y9 =>
            intro w hSw
            try dsimp only at hSw
            go_simp
            try (with_reducible rfl)
          simp only [Act.put, List.setIfInBounds_toArray, List.set_cons_zero, List.set_cons_succ]
          refine zTake 4 [4, 5, 6, 7] (v := ?_) rfl (by kernel_rfl) (by kernel_rfl) (by kernel_rfl) (by kernel_rfl) (by kernel_rfl) (fun _ _ _ h => h) (Or.inl ⟨by rfl, ?y10⟩) (by assumption) ?_
          case y10 =>
            intro w hSw
            try dsimp only at hSw
            go_simp
            try (with_reducible rfl)
          simp only [Act.put, List.setIfInBounds_toArray, List.set_cons_zero, List.set_cons_succ]
          refine zOne 5 (by kernel_rfl) rfl ?_
          intro K hK
          go_simp
          refine (wst_step (EZ.quiet ((Kept.refl (fun _ => False) Z).drew) (fun _ _ e => e.elim)) lev r c e 1 eb k ecap wb wcap j ws HN hlt hw5 hwb0 hW0c).mono ?_
          rintro _ w1 ⟨g, gcap, B2, rfl, EW, oW, hw1⟩
          have i1 := hw1 _ _ _ HZ.out.1 (by decide) (by decide)
          have i2 := hw1 _ _ _ HZ.out.2 (by decide) (by decide)
          refine hK.out _ _ (fun _ => cs.out w1 i1 i2) ?_
          clear hK K EZ hw1
          refine zOne 6 (by kernel_rfl) rfl ?_
          intro K hK
          go_simp
          refine (yld_step EW lev e r c eb ecap k j ws x 2 1 oW HN hw5 hk5 hEk (by have := endsTo_len lev e r c k ws j; omega) heb0 hE0c hlim0 hlim1).mono ?_
          rintro _ w2 ⟨bb, rfl, EY, hb1, hb2, hw2⟩
          have i3 := (hw2 _ _ _ (i1.trans HZ.out.1) (by decide) (by decide) (by decide)).trans i1
          have i4 := (hw2 _ _ _ (i2.trans HZ.out.2) (by decide) (by decide) (by decide)).trans i2
          refine hK.out _ _ (fun _ => cs.out w2 i3 i4) ?_
          clear hK K EW oW hw2 i1 i2 hS0
          refine zOne 7 (by kernel_rfl) rfl ?_
          intro K hK
          go_simp
          refine hK.out _ _ (fun h => absurd rfl h) ?_
          refine wpAnyZ_done (by kernel_rfl) ?_ _
          clear hK K
          have mW := i3.trans HZ.out.1
          clear i3 i4 cs HZ
          have HQ0 : Hid (endsTo lev e r c k ws (j + 1) = (endsTo lev e r c k ws j ++ [evE lev e r c k ws j x 2 1]) ++ [evE lev e r c k ws j x 3 2]) := by
            show _ = _
            simp only [endsTo, HX.out, endAt, hst, hcan, if_true, List.append_assoc, List.cons_append, List.nil_append]
          cases bb
          · have HH := Hid.mk' (hb2 rfl HI.out.2)
            clear hb1 hb2
            go_wp2
            go_ret
            refine EndPost.no (EL.base hW0 ⟨_, _, _, _, EY⟩ hvl) ?_ (by have := HH.out; simp only [List.length_append, List.length_cons, List.length_nil] at this ⊢; omega)
            exact (HQ0.out ▸ List.prefix_append _ _ : _ <+: endsTo lev e r c k ws (j + 1)).trans (ends_le hlt)
          · have m2 := mW
            have EA2 := EY
            have HM := Hid.mk' (hb1 rfl)
            clear hb1 hb2
            obtain ⟨p1, p2, p3, p4, p5, p6, p7, p8⟩ := seven mW
            go_wp2
            clear p1 p2 p3 p4 p5 p6 p7 p8 EY mW
            have kS : Kept (fun b => b = wr.heap.size + 1) w2 (w2.setCell ⟨wr.heap.size + 1, 0, none⟩ (.int .i64 3)) := Kept.setCell (S := fun b => b = wr.heap.size + 1) (Kept.refl _ _) (fun _ => rfl) _
            have EZ := EA2.quiet kS (fun b hb e => by subst e; exact ⟨by omega, _, _, m2, by decide, by decide, by decide, by decide, by decide, by decide⟩)
            have mZ := heap_setCell_same m2 0 (.int .i64 3)
            simp only [List.setIfInBounds_toArray, List.set_cons_zero] at mZ
            generalize w2.setCell ⟨wr.heap.size + 1, 0, none⟩ (.int .i64 3) = Z at EZ mZ kS ⊢
            have bZ := EZ.kp.obj HB4.out.1 HB4.out.2
            have cs : Hid (∀ w' : World, w'.heap[wr.heap.size + 1]? = Z.heap[wr.heap.size + 1]? → w'.heap[W.heap.size]? = Z.heap[W.heap.size]? → w'.cell? ⟨wr.heap.size + 1, 0, none⟩ = some (.int .i64 3) ∧ w'.cell? ⟨wr.heap.size + 1, 1, none⟩ = some (.int .i64 x.key) ∧ w'.cell? ⟨wr.heap.size + 1, 2, none⟩ = some (.int .i64 x.val) ∧ w'.cell? ⟨wr.heap.size + 1, 3, none⟩ = some (.int .i64 0) ∧ w'.cell? ⟨wr.heap.size + 1, 4, none⟩ = some (.int .i64 0) ∧ w'.cell? ⟨wr.heap.size + 1, 5, none⟩ = some (.int .i64 0) ∧ w'.cell? ⟨wr.heap.size + 1, 6, none⟩ = some (.int .i64 0) ∧ w'.cell? ⟨W.heap.size, 0, none⟩ = some (.int .i64 lev) ∧ w'.cell? ⟨W.heap.size, 1, none⟩ = some (.slice (some ⟨eb, 0, none⟩) k ecap) ∧ w'.cell? ⟨W.heap.size, 2, none⟩ = some (.int .i64 r) ∧ w'.cell? ⟨W.heap.size, 3, none⟩ = some (.int .i64 c) ∧ w'.cell? ⟨W.heap.size, 4, none⟩ = some (.int .i64 e) ∧ w'.cell? ⟨W.heap.size, 5, none⟩ = some (.slice (some ⟨wb, 0, none⟩) nw wcap)) := by
              intro w' e1 e2
              obtain ⟨a0, a1, a2, a3, a4, a5, a6, -⟩ := seven (e1.trans mZ)
              obtain ⟨b0, b1, b2, b3, b4, b5, -⟩ := six (e2.trans bZ)
              exact ⟨a0, a1, a2, a3, a4, a5, a6, b0, b1, b2, b3, b4, b5⟩
            have HZ : Hid (Z.heap[wr.heap.size + 1]? = some (.cells #[.int .i64 3, .int .i64 x.key, .int .i64 x.val, .int .i64 0, .int .i64 0, .int .i64 0, .int .i64 0] 73 (0, 0)) ∧ Z.heap[W.heap.size]? = some (.cells #[.int .i64 lev, .slice (some ⟨eb, 0, none⟩) k ecap, .int .i64 r, .int .i64 c, .int .i64 e, .slice (some ⟨wb, 0, none⟩) nw wcap] 52 (0, 0))) := ⟨mZ, bZ⟩
            clear kS mZ bZ m2 EA2
            refine wp_region_Z (fun w' => w'.cell? ⟨wr.heap.size + 1, 0, none⟩ = some (.int .i64 3) ∧ w'.cell? ⟨wr.heap.size + 1, 1, none⟩ = some (.int .i64 x.key) ∧ w'.cell? ⟨wr.heap.size + 1, 2, none⟩ = some (.int .i64 x.val) ∧ w'.cell? ⟨wr.heap.size + 1, 3, none⟩ = some (.int .i64 0) ∧ w'.cell? ⟨wr.heap.size + 1, 4, none⟩ = some (.int .i64 0) ∧ w'.cell? ⟨wr.heap.size + 1, 5, none⟩ = some (.int .i64 0) ∧ w'.cell? ⟨wr.heap.size + 1, 6, none⟩ = some (.int .i64 0) ∧ w'.cell? ⟨W.heap.size, 0, none⟩ = some (.int .i64 lev) ∧ w'.cell? ⟨W.heap.size, 1, none⟩ = some (.slice (some ⟨eb, 0, none⟩) k ecap) ∧ w'.cell? ⟨W.heap.size, 2, none⟩ = some (.int .i64 r) ∧ w'.cell? ⟨W.heap.size, 3, none⟩ = some (.int .i64 c) ∧ w'.cell? ⟨W.heap.size, 4, none⟩ = some (.int .i64 e) ∧ w'.cell? ⟨W.heap.size, 5, none⟩ = some (.slice (some ⟨wb, 0, none⟩) nw wcap)) 7 (by kernel_rfl) ?_
            have hS0 := cs.out Z.drew rfl rfl
            refine zTake 0 [0, 6, 7] (v := ?_) rfl (by kernel_rfl) (by kernel_rfl) (by kernel_rfl) (by kernel_rfl) (by kernel_rfl) (fun _ _ _ h => h) (Or.inl ⟨by rfl, ?y11⟩) (by assumption) ?_
            case y11 =>
              intro w hSw
              try dsimp only at hSw
              go_simp
              try (with_reducible rfl)
            simp only [Act.put, List.setIfInBounds_toArray, List.set_cons_zero, List.set_cons_succ]
            refine zTake 1 [1, 6, 7] (v := ?_) rfl (by kernel_rfl) (by kernel_rfl) (by kernel_rfl) (by kernel_rfl) (by kernel_rfl) (fun _ _ _ h => h) (Or.inl ⟨by rfl, ?y12⟩) (by assumption) ?_
            case y12 =>
              intro w hSw
              try dsimp only at hSw
              go_simp
              try (with_reducible rfl)
            simp only [Act.put, List.setIfInBounds_toArray, List.set_cons_zero, List.set_cons_succ]
            refine zTake 2 [2, 5, 6, 7] (v := ?_) rfl (by kernel_rfl) (by kernel_rfl) (by kernel_rfl) (by kernel_rfl) (by kernel_rfl) (fun _ _ _ h => h) (Or.inl ⟨by rfl, ?y13⟩) (by assumption) ?_
            case y13 =>
              intro w hSw
              try dsimp only at hSw
              go_simp
              try (with_reducible rfl)
            simp only [Act.put, List.setIfInBounds_toArray, List.set_cons_zero, List.set_cons_succ]
            refine zTake 3 [3, 5, 6, 7] (v := ?_) rfl (by kernel_rfl) (by kernel_rfl) (by kernel_rfl) (by kernel_rfl) (by kernel_rfl) (fun _ _ _ h => h) (Or.inl ⟨by rfl, ?y14⟩) (by assumption) ?_
            case y14 =>
              intro w hSw
              try dsimp only at hSw
              go_simp
              try (with_reducible rfl)
            simp only [Act.put, List.setIfInBounds_toArray, List.set_cons_zero, List.set_cons_succ]
            refine zTake 4 [4, 5, 6, 7] (v := ?_) rfl (by kernel_rfl) (by kernel_rfl) (by kernel_rfl) (by kernel_rfl) (by kernel_rfl) (fun _ _ _ h => h) (Or.inl ⟨by rfl, ?y15⟩) (by assumption) ?_
            case y15 =>
              intro w hSw
              try dsimp only at hSw
              go_simp
              try (with_reducible rfl)
            simp only [Act.put, List.setIfInBounds_toArray, List.set_cons_zero, List.set_cons_succ]
            refine zOne 5 (by kernel_rfl) rfl ?_
            intro K hK
            go_simp
            refine (wst_step (EZ.quiet ((Kept.refl (fun _ => False) Z).drew) (fun _ _ e => e.elim)) lev r c e 2 eb k ecap wb wcap j ws HN hlt hw5 hwb0 hW0c).mono ?_
            rintro _ w1 ⟨g, gcap, B2, rfl, EW, oW, hw1⟩
            have i1 := hw1 _ _ _ HZ.out.1 (by decide) (by decide)
            have i2 := hw1 _ _ _ HZ.out.2 (by decide) (by decide)
            refine hK.out _ _ (fun _ => cs.out w1 i1 i2) ?_
            clear hK K EZ hw1
            refine zOne 6 (by kernel_rfl) rfl ?_
            intro K hK
            go_simp
            refine (yld_step EW lev e r c eb ecap k j ws x 3 2 oW HN hw5 hk5 hEk (by have := endsTo_len lev e r c k ws j; simp only [List.length_append, List.length_cons, List.length_nil]; omega) heb0 hE0c hlim0 hlim1).mono ?_
            rintro _ w2 ⟨bb, rfl, EY, hb1, hb2, hw2⟩
            have i3 := (hw2 _ _ _ (i1.trans HZ.out.1) (by decide) (by decide) (by decide)).trans i1
            have i4 := (hw2 _ _ _ (i2.trans HZ.out.2) (by decide) (by decide) (by decide)).trans i2
            refine hK.out _ _ (fun _ => cs.out w2 i3 i4) ?_
            clear hK K EW oW hw2 i1 i2 hS0
            refine zOne 7 (by kernel_rfl) rfl ?_
            intro K hK
            go_simp
            refine hK.out _ _ (fun h => absurd rfl h) ?_
            refine wpAnyZ_done (by kernel_rfl) ?_ _
            clear hK K
            have mW := i3.trans HZ.out.1
            clear i3 i4 cs HZ
            have HQ : Hid (endsTo lev e r c k ws (j + 1) = (endsTo lev e r c k ws j ++ [evE lev e r c k ws j x 2 1]) ++ [evE lev e r c k ws j x 3 2]) := HQ0.out
            cases bb
            · have HH := Hid.mk' (hb2 rfl (by have := HM.out; simpa using this))
              clear hb1 hb2
              go_wp2
              go_ret
              exact EndPost.no (EL.base hW0 ⟨_, _, _, _, EY⟩ hvl) (ends_last HQ.out hlt) (by have := HH.out; simp only [List.length_append, List.length_cons, List.length_nil] at this ⊢; omega)
            · have HH := Hid.mk' (hb1 rfl)
              clear hb1 hb2
              go_wp2
              go_roundw
              case rel => exact ⟨j + 1, by omega, by go_num, by rw [HQ.out]; exact ⟨_, _, _, _, EY⟩, by rw [HQ.out, List.length_append]; exact HH.out⟩
              case measure => simp [intOf]; omega
      · have hq : endsTo lev e r c k ws (j + 1) = endsTo lev e r c k ws j := by
          simp only [endsTo, HX.out, endAt, if_neg hst, List.append_nil]
        have HQ := Hid.mk' hq
        clear hq
        go_wp2
        go_roundw
        case rel => exact ⟨j + 1, by omega, by go_num, by rw [HQ.out]; exact ⟨_, _, _, _, HE.out.quiet (Kept.alloc (Kept.refl (fun _ => False) wr) _) (fun _ _ e => e.elim)⟩, by rw [HQ.out]; exact HI.out.2⟩
        case measure => simp [intOf]; omega
    · have hjn : j = nw := by omega
      subst hjn
      go_wp2
      go_ret
      exact EndPost.go (EL.base hW0 HI.out.1 hvl) HI.out.2
end Go.Proofs.YbulkejpeDoor
