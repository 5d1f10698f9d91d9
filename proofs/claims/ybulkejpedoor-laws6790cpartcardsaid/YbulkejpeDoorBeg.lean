/- begins (9): the log is full, so nothing begins. -/
import Derived.Test.YbulkejpeDoorEnd
import Derived.Deep.QuietTactic
namespace Go.Proofs.YbulkejpeDoor
open Go Go.ChangeShapes Go.WideShapes Go.ChangeAt Go.RowKit

set_option maxRecDepth 100000 in
theorem begins_any {vb : Nat} {me : Int} {v : Value} {w : World} (k : Nat) (h : VObj vb (k : Int) me v w) (lev e r c : Int) (A A' : Option Addr) (ecap nw wcap : Nat) (f : Value) :
    Calls Ybad.prog 9 #[.pointer (some ⟨vb, 0, none⟩), .agg #[.int .i64 lev, .slice A k ecap, .int .i64 r, .int .i64 c, .int .i64 e, .slice A' nw wcap], f] w fun e' w' => e' = .returned (.bool true) ∧ Kept (fun _ => False) w w' := by
  obtain ⟨c1, -⟩ := h.cells
  have hlt := h.lt
  have kX : Kept (fun _ => False) w (w.alloc (.cells #[.int .i64 lev, .slice A k ecap, .int .i64 r, .int .i64 c, .int .i64 e, .slice A' nw wcap] 52)) := (Kept.refl _ _).alloc _
  go_enter Ybad.func9, Ybad.ntmps9
  go_wp2
  go_quiet (fail)
  go_wp2
  go_ret
  exact ⟨rfl, kX.drewN _⟩

variable {B cb rb lb : Nat} {lim : Int} {E : List (ByteArray × ByteArray)} {T : Nat → Prop} {W : World}

/-- All that Steps yields. -/
def allEv (lev e : Int) (r c n : Nat) (me : Int) (ws : List Wr) (nw : Nat) : List Ev := endsTo lev e r c n ws nw ++ (stps r c n (decide (e < me))).map (evS lev e n r c ws)

def StPost (W : World) (vb cb rb lb : Nat) (lim : Int) (E : List (ByteArray × ByteArray)) (all : List Ev) (W' : World) : Prop :=
  Kept (fun b => b = vb ∨ b = cb ∨ b = rb) W W' ∧ ∃ B G, RecAt B cb rb lb lim E (fun _ => False) G W' ∧ G <+: all ∧ ((G = all ∧ more lim G.length) ∨ (lim ≠ 0 ∧ (G.length : Int) = lim))

set_option maxRecDepth 100000 in
set_option maxHeartbeats 4000000 in
theorem steps_any (lev e me : Int) (vb eb ecap wb wcap nw k r c : Nat) (ws : List Wr) (h : RecAt B cb rb lb lim E T [] W) (hnil : Boxed W rb 68 (.slice none 0 0)) (hv : VObj vb (k : Int) me (.slice none 0 0) W) (hk5 : k ≤ 512) (hEk : E.length = k) (HN : Hid (ws.length = nw)) (hw5 : nw ≤ 512)
    (heb : eb ≠ cb ∧ eb ≠ vb ∧ eb ≠ rb ∧ eb < W.heap.size) (hwb : wb ≠ cb ∧ wb ≠ vb ∧ wb ≠ rb ∧ wb < W.heap.size) (hrc : r ≤ c) (hcn : c ≤ k) (hcap : k ≤ ecap) (he0 : 0 ≤ e) (he1 : e ≤ 1000) (hE : Hid (∀ j, j < k * 2 → W.cell? ⟨eb, j, none⟩ = (ecells E)[j]?)) (hW : Hid (∀ j, j < nw * 5 → W.cell? ⟨wb, j, none⟩ = (wcells ws)[j]?)) (hlim0 : 0 ≤ lim) (hlim1 : lim ≤ 100000) :
    Calls Ybad.prog 7 #[.pointer (some ⟨vb, 0, none⟩), .agg #[.int .i64 lev, .slice (some ⟨eb, 0, none⟩) k ecap, .int .i64 r, .int .i64 c, .int .i64 e, .slice (some ⟨wb, 0, none⟩) nw wcap], .func (.func 6) #[] #[.pointer (some ⟨cb, 0, none⟩), .pointer (some ⟨rb, 0, none⟩), .pointer (some ⟨lb, 0, none⟩)]] W fun e' W' =>
      e' = .returned (.tuple #[]) ∧ StPost W vb cb rb lb lim E (allEv lev e r c k me ws nw) W' := by
  have kX : Kept (fun _ => False) W (W.alloc (.cells #[.int .i64 lev, .slice (some ⟨eb, 0, none⟩) k ecap, .int .i64 r, .int .i64 c, .int .i64 e, .slice (some ⟨wb, 0, none⟩) nw wcap] 52)) := (Kept.refl _ _).alloc _
  have bX : (W.alloc (.cells #[.int .i64 lev, .slice (some ⟨eb, 0, none⟩) k ecap, .int .i64 r, .int .i64 c, .int .i64 e, .slice (some ⟨wb, 0, none⟩) nw wcap] 52)).heap[W.heap.size]? = some (.cells #[.int .i64 lev, .slice (some ⟨eb, 0, none⟩) k ecap, .int .i64 r, .int .i64 c, .int .i64 e, .slice (some ⟨wb, 0, none⟩) nw wcap] 52 (0, 0)) := heap_alloc_new _ _
  have HX : Hid (VObj vb (k : Int) me (.slice none 0 0) (W.alloc (.cells #[.int .i64 lev, .slice (some ⟨eb, 0, none⟩) k ecap, .int .i64 r, .int .i64 c, .int .i64 e, .slice (some ⟨wb, 0, none⟩) nw wcap] 52))) := hv.kept kX (fun e => e)
  have HB : Hid (W.heap.size ≠ vb ∧ W.heap.size ≠ cb ∧ W.heap.size ≠ rb) := by have := hv.lt; have := h.calls.lt; have := hnil.lt; exact ⟨by omega, by omega, by omega⟩
  go_enter Ybad.func7, Ybad.ntmps7
  go_wp2_with (first | (go_at_call 9; refine (begins_any k HX.out lev e r c _ _ ecap nw wcap _).mono ?_; rintro _ X ⟨rfl, kB⟩; obtain ⟨q0, q1, q2, q3, q4, q5, -⟩ := six (kB.obj bX (fun e => e))))
  have kX' := kX.trans kB (fun _ _ e => e)
  have hzX := kX'.size
  have ceb : Hid (∀ j, j < k * 2 → X.cell? ⟨eb, j, none⟩ = (ecells E)[j]?) := fun j hj => (kX'.cell (a := ⟨eb, j, none⟩) heb.2.2.2 (fun e => e)).trans (hE.out j hj)
  have cwb : Hid (∀ j, j < nw * 5 → X.cell? ⟨wb, j, none⟩ = (wcells ws)[j]?) := fun j hj => (kX'.cell (a := ⟨wb, j, none⟩) hwb.2.2.2 (fun e => e)).trans (hW.out j hj)
  have heb' : eb ≠ cb ∧ eb ≠ vb ∧ eb ≠ rb ∧ eb < X.heap.size := ⟨heb.1, heb.2.1, heb.2.2.1, by omega⟩
  have hwb' : wb ≠ cb ∧ wb ≠ vb ∧ wb ≠ rb ∧ wb < X.heap.size := ⟨hwb.1, hwb.2.1, hwb.2.2.1, by omega⟩
  have hB4 := kB.obj bX (fun e => e)
  refine (ends_any (W := X) lev e r c (k : Int) me vb eb ecap wb wcap nw k ws (h.kept kX' (fun _ _ e => e.elim)) (kX'.obj hnil (fun e => e)) (hv.kept kX' (fun e => e)) hk5 hEk HN hw5 heb' hwb' ceb cwb hlim0 hlim1).mono ?_
  rintro _ Y ⟨bb, G, rfl, ⟨B1, A1, m1, nc1, EA⟩, hor⟩
  have hp : G <+: endsTo lev e r c k ws nw := by
    rcases hor with ⟨_, h1, _⟩ | ⟨_, h1, _⟩
    · exact h1 ▸ List.prefix_refl _
    · exact h1
  have hzB := EA.h0
  have hzC := EA.hB
  have kY : Kept (fun b => b = vb ∨ b = cb ∨ b = rb) W Y := (kX'.mono (fun _ e => e.elim)).trans EA.kp (fun _ _ e => e)
  have hY4 := EA.kp.obj hB4 (by have := HB.out; omega)
  clear q0 q1 q2 q3 q4 q5 HX bX kB
  cases bb
  · have hor' : lim ≠ 0 ∧ (G.length : Int) = lim := by
      rcases hor with ⟨h1, _⟩ | ⟨_, _, h1⟩
      · cases h1
      · exact h1
    have HP : Hid (StPost W vb cb rb lb lim E (allEv lev e r c k me ws nw) Y) := ⟨kY, B1, G, EA.rc, hp.trans (List.prefix_append _ _), Or.inr hor'⟩
    clear hor hor' hY4 hB4
    go_wp2
    go_end0
    exact ⟨rfl, HP.out⟩
  · have hor' : G = endsTo lev e r c k ws nw ∧ more lim G.length := by
      rcases hor with ⟨_, h1⟩ | ⟨h1, _⟩
      · exact h1
      · cases h1
    obtain ⟨rfl, hm⟩ := hor'
    obtain ⟨v0, us, r1, _⟩ := EA.rc.recs
    obtain ⟨vcs, hvc, _⟩ := EA.v
    have HS := storeSteps_any (T := TW Y B1 cb rb) lev e me vb eb ecap wb wcap nw k r c ws EA.rc.turn EA.hB (fun b hb => hb.2.2.1) (two EA.rc.lim' r1 (by decide)) hm (by have := endsTo_len lev e r c k ws nw; omega)
      ⟨TW.of EA.rc.calls r1 hvc (by decide) (by decide) (by decide), ⟨heb.1, heb.2.2.1, by omega, Or.inl (by omega)⟩, ⟨hwb.1, hwb.2.2.1, by omega, Or.inl (by omega)⟩⟩ hrc hcn hk5 hcap he0 he1 hEk HN hw5 EA.v.cells.2.1
      (fun j hj => (EA.kp.cell (a := ⟨eb, j, none⟩) heb'.2.2.2 (by simp; omega)).trans (ceb.out j hj)) (fun j hj => (EA.kp.cell (a := ⟨wb, j, none⟩) hwb'.2.2.2 (by simp; omega)).trans (cwb.out j (by rw [← HN.out]; exact hj))) hlim0 hlim1
    have HS' := Hid.mk' HS
    obtain ⟨q0, q1, q2, q3, q4, q5, -⟩ := six hY4
    clear HS hor hY4 hB4 hm
    go_wp2_with (go_at_call 11; refine HS'.out.mono ?_; rintro _ Z ⟨rfl, kZ, pre, hpre, hrZ, hor2⟩; clear q0 q1 q2 q3 q4 q5)
    go_end0
    refine ⟨rfl, kY.trans kZ (fun j hj e => ?_), B1, _, hrZ.none, ?_, ?_⟩
    · by_cases e1 : j = cb
      · exact Or.inr (Or.inl e1)
      · by_cases e2 : j = rb
        · exact Or.inr (Or.inr e2)
        · exact (e ⟨e1, e2, by omega, Or.inl (by omega)⟩).elim
    · obtain ⟨t, ht⟩ := hpre
      refine ⟨t.map (evS lev e k r c ws), ?_⟩
      unfold allEv
      rw [← ht]
      simp
    · rcases hor2 with ⟨h1, h2⟩ | h1
      · refine Or.inl ⟨by rw [h1]; rfl, ?_⟩
        simpa using h2
      · refine Or.inr ?_
        simpa using h1
end Go.Proofs.YbulkejpeDoor
