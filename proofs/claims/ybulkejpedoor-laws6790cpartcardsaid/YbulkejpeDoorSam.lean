/- csame (8). -/
import Derived.Test.YbulkejpeDoorEnd
import Derived.Deep.QuietTactic
namespace Go.Proofs.YbulkejpeDoor
open Go Go.ChangeShapes Go.WideShapes Go.ChangeAt Go.RowKit

structure Xp where
  m : Mv
  lev : Int
  r : Int
  c : Int
  e : Int
  k : Nat
  i : Int
  stt : Int
  opt : Bool
def Xp.wsOf (x : Xp) (ws : List Wr) : List Wr := if 0 ≤ x.i then stSet ws x.i.toNat x.stt else ws
def HdP (g : Ev) (x : Xp) : Prop := g.m = x.m ∧ g.lev = x.lev ∧ g.r = x.r ∧ g.c = x.c ∧ g.e = x.e ∧ g.k = x.k
def SameP (g : Ev) (x : Xp) (ws : List Wr) : Prop := HdP g x ∧ g.ws = x.wsOf ws
theorem Xp.wsOf_len (x : Xp) (ws : List Wr) : (x.wsOf ws).length = ws.length := by
  unfold Xp.wsOf
  split
  · exact stSet_len _ _ _
  · rfl
theorem Xp.wsOf_at (x : Xp) (ws : List Wr) (j : Nat) (w : Wr) (h : ws[j]? = some w) : (x.wsOf ws)[j]? = some (if (j : Int) = x.i then { w with st := x.stt } else w) := by
  unfold Xp.wsOf stSet
  split
  · rw [List.getElem?_modify, h]
    by_cases e : (j : Int) = x.i
    · have : x.i.toNat = j := by omega
      simp [e, this]
    · have : ¬ x.i.toNat = j := by omega
      simp [e, this]
  · rw [h, if_neg (by omega)]

theorem cellsE {E : List (ByteArray × ByteArray)} {k j : Nat} (hj : j < k) (hk : k ≤ E.length) : ∃ p, E[j]? = some p ∧ (ecells (E.take k))[j * 2]? = some (.string p.1) ∧ (ecells (E.take k))[j * 2 + 1]? = some (.string p.2) := by
  have key : ∀ (E : List (ByteArray × ByteArray)) (j : Nat) (p), E[j]? = some p → (ecells E)[j * 2]? = some (.string p.1) ∧ (ecells E)[j * 2 + 1]? = some (.string p.2) := by
    intro E
    induction E with
    | nil => intro j p h; simp at h
    | cons q E ih =>
      intro j p h
      cases j with
      | zero =>
        simp only [List.getElem?_cons_zero, Option.some.injEq] at h
        subst h
        simp [ecells]
      | succ j =>
        have := ih j p (by simpa using h)
        have e1 : (j + 1) * 2 = j * 2 + 1 + 1 := by omega
        simp only [ecells, List.flatMap_cons, List.cons_append, List.nil_append, e1, List.getElem?_cons_succ] at this ⊢
        exact this
  refine ⟨E[j], List.getElem?_eq_getElem (by omega), key _ j _ ?_⟩
  rw [List.getElem?_take_of_lt hj]
  exact List.getElem?_eq_getElem (by omega)

theorem Wr.first_ne {a b c d e a' b' c' d' e' : Int} (h : (⟨a, b, c, d, e⟩ : Wr) ≠ ⟨a', b', c', d', e'⟩) : a ≠ a' ∨ (a = a' ∧ b ≠ b') ∨ (a = a' ∧ b = b' ∧ c ≠ c') ∨ (a = a' ∧ b = b' ∧ c = c' ∧ d ≠ d') ∨ (a = a' ∧ b = b' ∧ c = c' ∧ d = d' ∧ e ≠ e') := by
  simp only [ne_eq, Wr.mk.injEq] at h
  omega
def SamPost (g : Ev) (x : Xp) (ws : List Wr) (w : World) (e' : Ending) (w' : World) : Prop := ∃ b : Bool, e' = .returned (.bool b) ∧ (b = true ↔ SameP g x ws) ∧ Kept (fun _ => False) w w'
theorem SamPost.no {g : Ev} {x : Xp} {ws : List Wr} {w w' : World} (h : ¬ SameP g x ws) (k : Kept (fun _ => False) w w') : SamPost g x ws w (.returned (.bool false)) w' := ⟨false, rfl, ⟨(fun e => by cases e), fun e => (h e).elim⟩, k⟩
theorem SamPost.yes {g : Ev} {x : Xp} {ws : List Wr} {w w' : World} (h : SameP g x ws) (k : Kept (fun _ => False) w w') : SamPost g x ws w (.returned (.bool true)) w' := ⟨true, rfl, ⟨fun _ => h, fun _ => rfl⟩, k⟩

set_option maxRecDepth 100000 in
set_option maxHeartbeats 4000000 in
theorem csame_no (g : Ev) (L : Value) (A : Option Addr) (cap : Nat) (Aw : Option Addr) (gw gcap : Nat) (x : Xp) (lb lcap wb nw wcap : Nat) (ws : List Wr) (w : World) (HH : Hid (¬ HdP g x)) :
    Calls Ybad.prog 8 #[.agg #[.int .i64 g.m.o, .int .i64 g.m.k, .int .i64 g.m.v, .int .i64 g.m.rd, .int .i64 g.m.cm, .int .i64 g.m.kp, .int .i64 g.m.ep, .int .i64 g.lev, L, .int .i64 g.r, .int .i64 g.c, .int .i64 g.e, .slice A g.k cap, .slice Aw gw gcap],
      .agg #[.int .i64 x.m.o, .int .i64 x.m.k, .int .i64 x.m.v, .int .i64 x.m.rd, .int .i64 x.m.cm, .int .i64 x.m.kp, .int .i64 x.m.ep, .int .i64 x.lev, .slice (some ⟨lb, 0, none⟩) x.k lcap, .int .i64 x.r, .int .i64 x.c, .int .i64 x.e, .int .i64 x.i, .int .i64 x.stt, .bool x.opt], .slice (some ⟨wb, 0, none⟩) nw wcap] w fun e' w' => SamPost g x ws w e' w' := by
  obtain ⟨⟨o1, k1, v1, rd1, cm1, kp1, ep1⟩, lev1, r1, c1, e1, n1, ws1⟩ := g
  obtain ⟨⟨o2, k2, v2, rd2, cm2, kp2, ep2⟩, lev2, r2, c2, e2, n2, i2, st2, op2⟩ := x
  go_enter Ybad.func8, Ybad.ntmps8
  go_wp2
  all_goals first
    | (go_ret; exact SamPost.no (fun h => HH.out h.1) (((Kept.refl _ _).alloc _).alloc _))
    | (exfalso; apply HH.out; unfold HdP; clear HH; simp_all <;> omega)

set_option maxRecDepth 100000 in
set_option maxHeartbeats 4000000 in
theorem csame_yes (m : Mv) (lev r c e i stt : Int) (k : Nat) (opt : Bool) (L : Value) (A : Option Addr) (cap : Nat) (Aw : Option Addr) (gw gcap lb lcap wb nw wcap : Nat) (gs ws : List Wr) (E : List (ByteArray × ByteArray)) (w : World) (hk5 : k ≤ 512) (hkE : k ≤ E.length) (HN : Hid (ws.length = nw)) (HG : Hid (gs.length = gw)) (hw5 : nw ≤ 512) (hg5 : gw ≤ 512)
    (hA : Hid (∀ j, j < k → ∃ b, A = some ⟨b, 0, none⟩ ∧ b < w.heap.size ∧ w.cell? ⟨b, j * 2, none⟩ = (ecells (E.take k))[j * 2]? ∧ w.cell? ⟨b, j * 2 + 1, none⟩ = (ecells (E.take k))[j * 2 + 1]?))
    (hl : lb < w.heap.size) (hL : Hid (∀ j, j < k * 2 → w.cell? ⟨lb, j, none⟩ = (ecells (E.take k))[j]?))
    (hAw : Hid (∀ j, j < gw → ∃ b, Aw = some ⟨b, 0, none⟩ ∧ b < w.heap.size ∧ ∀ o, o < 5 → w.cell? ⟨b, j * 5 + o, none⟩ = (wcells gs)[j * 5 + o]?))
    (hw : wb < w.heap.size) (hW : Hid (∀ j, j < nw * 5 → w.cell? ⟨wb, j, none⟩ = (wcells ws)[j]?)) (hcap : k ≤ cap ∧ k ≤ lcap) :
    Calls Ybad.prog 8 #[.agg #[.int .i64 m.o, .int .i64 m.k, .int .i64 m.v, .int .i64 m.rd, .int .i64 m.cm, .int .i64 m.kp, .int .i64 m.ep, .int .i64 lev, L, .int .i64 r, .int .i64 c, .int .i64 e, .slice A k cap, .slice Aw gw gcap],
      .agg #[.int .i64 m.o, .int .i64 m.k, .int .i64 m.v, .int .i64 m.rd, .int .i64 m.cm, .int .i64 m.kp, .int .i64 m.ep, .int .i64 lev, .slice (some ⟨lb, 0, none⟩) k lcap, .int .i64 r, .int .i64 c, .int .i64 e, .int .i64 i, .int .i64 stt, .bool opt], .slice (some ⟨wb, 0, none⟩) nw wcap] w fun e' w' => SamPost ⟨m, lev, r, c, e, k, gs⟩ ⟨m, lev, r, c, e, k, i, stt, opt⟩ ws w e' w' := by
  obtain ⟨o1, k1, v1, rd1, cm1, kp1, ep1⟩ := m
  have kX : Kept (fun _ => False) w ((w.alloc (.cells #[.int .i64 o1, .int .i64 k1, .int .i64 v1, .int .i64 rd1, .int .i64 cm1, .int .i64 kp1, .int .i64 ep1, .int .i64 lev, L, .int .i64 r, .int .i64 c, .int .i64 e, .slice A k cap, .slice Aw gw gcap] 75)).alloc (.cells #[.int .i64 o1, .int .i64 k1, .int .i64 v1, .int .i64 rd1, .int .i64 cm1, .int .i64 kp1, .int .i64 ep1, .int .i64 lev, .slice (some ⟨lb, 0, none⟩) k lcap, .int .i64 r, .int .i64 c, .int .i64 e, .int .i64 i, .int .i64 stt, .bool opt] 80)) := ((Kept.refl _ _).alloc _).alloc _
  have g75 : ((w.alloc (.cells #[.int .i64 o1, .int .i64 k1, .int .i64 v1, .int .i64 rd1, .int .i64 cm1, .int .i64 kp1, .int .i64 ep1, .int .i64 lev, L, .int .i64 r, .int .i64 c, .int .i64 e, .slice A k cap, .slice Aw gw gcap] 75)).alloc (.cells #[.int .i64 o1, .int .i64 k1, .int .i64 v1, .int .i64 rd1, .int .i64 cm1, .int .i64 kp1, .int .i64 ep1, .int .i64 lev, .slice (some ⟨lb, 0, none⟩) k lcap, .int .i64 r, .int .i64 c, .int .i64 e, .int .i64 i, .int .i64 stt, .bool opt] 80)).heap[w.heap.size]? = some (.cells #[.int .i64 o1, .int .i64 k1, .int .i64 v1, .int .i64 rd1, .int .i64 cm1, .int .i64 kp1, .int .i64 ep1, .int .i64 lev, L, .int .i64 r, .int .i64 c, .int .i64 e, .slice A k cap, .slice Aw gw gcap] 75 (0, 0)) := by
    rw [heap_alloc_old _ _ (by simp)]
    exact heap_alloc_new _ _
  have g80 : ((w.alloc (.cells #[.int .i64 o1, .int .i64 k1, .int .i64 v1, .int .i64 rd1, .int .i64 cm1, .int .i64 kp1, .int .i64 ep1, .int .i64 lev, L, .int .i64 r, .int .i64 c, .int .i64 e, .slice A k cap, .slice Aw gw gcap] 75)).alloc (.cells #[.int .i64 o1, .int .i64 k1, .int .i64 v1, .int .i64 rd1, .int .i64 cm1, .int .i64 kp1, .int .i64 ep1, .int .i64 lev, .slice (some ⟨lb, 0, none⟩) k lcap, .int .i64 r, .int .i64 c, .int .i64 e, .int .i64 i, .int .i64 stt, .bool opt] 80)).heap[w.heap.size + 1]? = some (.cells #[.int .i64 o1, .int .i64 k1, .int .i64 v1, .int .i64 rd1, .int .i64 cm1, .int .i64 kp1, .int .i64 ep1, .int .i64 lev, .slice (some ⟨lb, 0, none⟩) k lcap, .int .i64 r, .int .i64 c, .int .i64 e, .int .i64 i, .int .i64 stt, .bool opt] 80 (0, 0)) := by
    have := heap_alloc_new (w.alloc (.cells #[.int .i64 o1, .int .i64 k1, .int .i64 v1, .int .i64 rd1, .int .i64 cm1, .int .i64 kp1, .int .i64 ep1, .int .i64 lev, L, .int .i64 r, .int .i64 c, .int .i64 e, .slice A k cap, .slice Aw gw gcap] 75)) (.cells #[.int .i64 o1, .int .i64 k1, .int .i64 v1, .int .i64 rd1, .int .i64 cm1, .int .i64 kp1, .int .i64 ep1, .int .i64 lev, .slice (some ⟨lb, 0, none⟩) k lcap, .int .i64 r, .int .i64 c, .int .i64 e, .int .i64 i, .int .i64 stt, .bool opt] 80)
    simpa using this
  have HC : Hid (∀ wr : World, Kept (fun _ => False) ((w.alloc (.cells #[.int .i64 o1, .int .i64 k1, .int .i64 v1, .int .i64 rd1, .int .i64 cm1, .int .i64 kp1, .int .i64 ep1, .int .i64 lev, L, .int .i64 r, .int .i64 c, .int .i64 e, .slice A k cap, .slice Aw gw gcap] 75)).alloc (.cells #[.int .i64 o1, .int .i64 k1, .int .i64 v1, .int .i64 rd1, .int .i64 cm1, .int .i64 kp1, .int .i64 ep1, .int .i64 lev, .slice (some ⟨lb, 0, none⟩) k lcap, .int .i64 r, .int .i64 c, .int .i64 e, .int .i64 i, .int .i64 stt, .bool opt] 80)) wr → wr.cell? ⟨w.heap.size, 12, none⟩ = some (.slice A k cap) ∧ wr.cell? ⟨w.heap.size, 13, none⟩ = some (.slice Aw gw gcap) ∧ wr.cell? ⟨w.heap.size + 1, 8, none⟩ = some (.slice (some ⟨lb, 0, none⟩) k lcap) ∧ wr.cell? ⟨w.heap.size + 1, 12, none⟩ = some (.int .i64 i) ∧ wr.cell? ⟨w.heap.size + 1, 13, none⟩ = some (.int .i64 stt) ∧ w.heap.size + 1 < wr.heap.size ∧ Kept (fun _ => False) w wr) := by
    intro wr hk
    have b1 := hk.obj g75 (fun e => e)
    have b2 := hk.obj g80 (fun e => e)
    refine ⟨?_, ?_, ?_, ?_, ?_, lt_of_heap b2, kX.trans hk (fun _ _ e => e)⟩ <;> first | (rw [cell_of_block b1]; rfl) | (rw [cell_of_block b2]; rfl)
  clear g75 g80 kX
  go_enter Ybad.func8, Ybad.ntmps8
  go_wp2
  generalize ((w.alloc (.cells #[.int .i64 o1, .int .i64 k1, .int .i64 v1, .int .i64 rd1, .int .i64 cm1, .int .i64 kp1, .int .i64 ep1, .int .i64 lev, L, .int .i64 r, .int .i64 c, .int .i64 e, .slice A k cap, .slice Aw gw gcap] 75)).alloc (.cells #[.int .i64 o1, .int .i64 k1, .int .i64 v1, .int .i64 rd1, .int .i64 cm1, .int .i64 kp1, .int .i64 ep1, .int .i64 lev, .slice (some ⟨lb, 0, none⟩) k lcap, .int .i64 r, .int .i64 c, .int .i64 e, .int .i64 i, .int .i64 stt, .bool opt] 80)) = X at HC ⊢
  go_loopw [7] (fun v7 wr => ∃ j : Nat, j ≤ k ∧ v7 = .int .i64 (j : Int) ∧ Hid (Kept (fun _ => False) X wr)) (fun v7 _ => k - (intOf v7).toNat)
  case atStart => exact ⟨0, by omega, rfl, Kept.refl _ _⟩
  case round =>
    obtain ⟨j, hj, rfl, HK⟩ := hrel
    obtain ⟨q1, q2, q3, q4, q5, q6, q7⟩ := HC.out wr HK.out
    have HQ := Hid.mk' q7
    by_cases hlt : j < k
    · obtain ⟨b, rfl, hb, hc1, hc2⟩ := hA.out j hlt
      obtain ⟨p, -, y1, y2⟩ := cellsE hlt hkE
      have z1 := (q7.cell (a := ⟨b, j * 2, none⟩) hb (fun e => e)).trans (hc1.trans y1)
      have z2 := (q7.cell (a := ⟨b, j * 2 + 1, none⟩) hb (fun e => e)).trans (hc2.trans y2)
      have z3 := (q7.cell (a := ⟨lb, j * 2, none⟩) hl (fun e => e)).trans ((hL.out (j * 2) (by omega)).trans y1)
      have z4 := (q7.cell (a := ⟨lb, j * 2 + 1, none⟩) hl (fun e => e)).trans ((hL.out (j * 2 + 1) (by omega)).trans y2)
      clear hc1 hc2 y1 y2 q7 q2 q4 q5
      go_wp2
      go_quiet (fail)
      go_wp2
      go_roundw
      case rel => exact ⟨j + 1, by omega, by go_num, HK.out.drewN _⟩
      case measure => simp [intOf]; omega
    · have hjk : j = k := by omega
      subst hjk
      by_cases hgw : gw = nw
      · subst hgw
        clear q7 q4 q5
        go_wp2
        clear q1 q2 q3 q6
        go_loopw [8] (fun v8 wr => ∃ t : Nat, t ≤ gw ∧ v8 = .int .i64 (t : Int) ∧ Hid (Kept (fun _ => False) X wr ∧ ∀ u, u < t → gs[u]? = (Xp.wsOf ⟨⟨o1, k1, v1, rd1, cm1, kp1, ep1⟩, lev, r, c, e, j, i, stt, opt⟩ ws)[u]?)) (fun v8 _ => gw - (intOf v8).toNat)
        case atStart => exact ⟨0, by omega, rfl, HK.out, fun u hu => by omega⟩
        case round =>
          obtain ⟨t, ht, rfl, HT⟩ := hrel
          obtain ⟨q1, q2, q3, q4, q5, q6, q7⟩ := HC.out wr HT.out.1
          have HQ' := Hid.mk' q7
          by_cases hlt : t < gw
          · obtain ⟨b, rfl, hb, hcb⟩ := hAw.out t hlt
            have htg : t < gs.length := by rw [HG.out]; exact hlt
            have htw : t < ws.length := by rw [HN.out]; exact hlt
            obtain ⟨y, hy⟩ : ∃ y, gs[t]? = some y := ⟨gs[t], List.getElem?_eq_getElem htg⟩
            obtain ⟨z, hz⟩ : ∃ z, ws[t]? = some z := ⟨ws[t], List.getElem?_eq_getElem htw⟩
            have hof := Xp.wsOf_at ⟨⟨o1, k1, v1, rd1, cm1, kp1, ep1⟩, lev, r, c, e, j, i, stt, opt⟩ ws t z hz
            obtain ⟨b0, b1, b2, b3, b4⟩ := cellsW (f := fun o => wr.cell? ⟨b, o, none⟩) hy (fun o ho => (q7.cell (a := ⟨b, t * 5 + o, none⟩) hb (fun e => e)).trans (hcb o ho))
            obtain ⟨a0, a1, a2, a3, a4⟩ := cellsW (f := fun o => wr.cell? ⟨wb, o, none⟩) hz (fun o ho => (q7.cell (a := ⟨wb, t * 5 + o, none⟩) hw (fun e => e)).trans (hW.out _ (by omega)))
            have q6' : w.heap.size < wr.heap.size := by omega
            have hb' : b < wr.heap.size := by omega
            clear q1 q3 q7 hcb
            by_cases hti : (t : Int) = i
            · subst hti
              have hof2 : (Xp.wsOf ⟨⟨o1, k1, v1, rd1, cm1, kp1, ep1⟩, lev, r, c, e, j, (t : Int), stt, opt⟩ ws)[t]? = some { z with st := stt } := hof.trans (by rw [if_pos rfl])
              by_cases hyz : y = { z with st := stt }
              · subst hyz
                have HR : Hid (∀ u, u < t + 1 → gs[u]? = (Xp.wsOf ⟨⟨o1, k1, v1, rd1, cm1, kp1, ep1⟩, lev, r, c, e, j, (t : Int), stt, opt⟩ ws)[u]?) := fun u hu => by
                  by_cases e : u = t
                  · subst e
                    exact hy.trans hof2.symm
                  · exact HT.out.2 u (by omega)
                clear hof hof2 hy hz
                go_wp2
                go_quiet (fail)
                go_wp2
                go_roundw
                case rel => exact ⟨t + 1, by omega, by go_num, Kept.drewN (Kept.alloc HT.out.1 _) _, HR.out⟩
                case measure => simp [intOf]; omega
              · have HNS : Hid (¬ SameP ⟨⟨o1, k1, v1, rd1, cm1, kp1, ep1⟩, lev, r, c, e, j, gs⟩ ⟨⟨o1, k1, v1, rd1, cm1, kp1, ep1⟩, lev, r, c, e, j, (t : Int), stt, opt⟩ ws) := fun h => hyz (by
                  have h1 : gs = _ := h.2
                  rw [← h1, hy] at hof2
                  exact Option.some.inj hof2)
                have HYZ : Hid (y ≠ { z with st := stt }) := hyz
                clear hof hof2 hy hz hyz
                obtain ⟨y0, y1, y2, y3, y4⟩ := y
                obtain ⟨z0, z1, z2, z3, z4⟩ := z
                dsimp only at b0 b1 b2 b3 b4 a0 a1 a2 a3 a4
                go_wp2
                have hne := Wr.first_ne HYZ.out
                clear HYZ
                rcases hne with hne | ⟨rfl, hne⟩ | ⟨rfl, rfl, hne⟩ | ⟨rfl, rfl, rfl, hne⟩ | ⟨rfl, rfl, rfl, rfl, hne⟩
                all_goals
                  go_quiet (fail)
                  go_wp2
                  go_ret
                  exact SamPost.no HNS.out (Kept.drewN (Kept.alloc HQ'.out _) _)
            · have hof2 : (Xp.wsOf ⟨⟨o1, k1, v1, rd1, cm1, kp1, ep1⟩, lev, r, c, e, j, i, stt, opt⟩ ws)[t]? = some z := hof.trans (by rw [if_neg hti])
              by_cases hyz : y = z
              · subst hyz
                have HR : Hid (∀ u, u < t + 1 → gs[u]? = (Xp.wsOf ⟨⟨o1, k1, v1, rd1, cm1, kp1, ep1⟩, lev, r, c, e, j, i, stt, opt⟩ ws)[u]?) := fun u hu => by
                  by_cases e : u = t
                  · subst e
                    exact hy.trans hof2.symm
                  · exact HT.out.2 u (by omega)
                clear hof hof2 hy hz
                go_wp2
                go_quiet (fail)
                go_wp2
                go_roundw
                case rel => exact ⟨t + 1, by omega, by go_num, Kept.drewN (Kept.alloc HT.out.1 _) _, HR.out⟩
                case measure => simp [intOf]; omega
              · have HNS : Hid (¬ SameP ⟨⟨o1, k1, v1, rd1, cm1, kp1, ep1⟩, lev, r, c, e, j, gs⟩ ⟨⟨o1, k1, v1, rd1, cm1, kp1, ep1⟩, lev, r, c, e, j, i, stt, opt⟩ ws) := fun h => hyz (by
                  have h1 : gs = _ := h.2
                  rw [← h1, hy] at hof2
                  exact Option.some.inj hof2)
                have HYZ : Hid (y ≠ z) := hyz
                clear hof hof2 hy hz hyz
                obtain ⟨y0, y1, y2, y3, y4⟩ := y
                obtain ⟨z0, z1, z2, z3, z4⟩ := z
                dsimp only at b0 b1 b2 b3 b4 a0 a1 a2 a3 a4
                go_wp2
                have hne := Wr.first_ne HYZ.out
                clear HYZ
                rcases hne with hne | ⟨rfl, hne⟩ | ⟨rfl, rfl, hne⟩ | ⟨rfl, rfl, rfl, hne⟩ | ⟨rfl, rfl, rfl, rfl, hne⟩
                all_goals
                  go_quiet (fail)
                  go_wp2
                  go_ret
                  exact SamPost.no HNS.out (Kept.drewN (Kept.alloc HQ'.out _) _)
          · have htn : t = gw := by omega
            subst htn
            clear q1 q2 q3 q4 q5 q7
            go_wp2
            go_ret
            refine SamPost.yes ⟨⟨rfl, rfl, rfl, rfl, rfl, rfl⟩, List.ext_getElem? (fun u => ?_)⟩ HQ'.out
            by_cases hu : u < t
            · exact HT.out.2 u hu
            · rw [List.getElem?_eq_none (by have := HG.out; simp only; omega), List.getElem?_eq_none (by have := HN.out; rw [Xp.wsOf_len]; omega)]
      · clear q7 q4 q5
        go_wp2
        go_ret
        exact SamPost.no (fun h => hgw (by rw [← HG.out, ← HN.out]; have := congrArg List.length h.2; simpa [Xp.wsOf_len] using this)) HQ.out
end Go.Proofs.YbulkejpeDoor
