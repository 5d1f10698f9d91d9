/- withStatus and yield, as 'ends' calls them. -/
import Derived.Test.YbulkejpeDoorInv
namespace Go.Proofs.YbulkejpeDoor
open Go Go.ChangeShapes Go.WideShapes Go.ChangeAt Go.RowKit

variable {B cb rb lb : Nat} {lim : Int} {E : List (ByteArray × ByteArray)} {G : List Ev} {W W0 : World} {vb nw : Nat} {n me : Int} {A : Option Addr} {m ncap : Nat}

def evE (lev e r c : Int) (n : Nat) (ws : List Wr) (i : Nat) (w : Wr) (o st : Int) : Ev := ⟨⟨o, w.key, w.val, 0, 0, 0, 0⟩, lev, r, c, e, n, stSet ws i st⟩

theorem wst_step (h : EAt W0 vb nw cb rb lb B n me lim E A m ncap G W) (lev r c e st : Int) (eb k cap wb wcap i : Nat) (ws : List Wr) (HN : Hid (ws.length = nw)) (hi : i < nw) (h5 : nw ≤ 512) (hwb : wb ≠ cb ∧ wb ≠ vb ∧ wb ≠ rb ∧ wb < W0.heap.size) (hc : Hid (∀ j, j < nw * 5 → W0.cell? ⟨wb, j, none⟩ = (wcells ws)[j]?)) :
    Calls Ybad.prog 17 #[.pointer (some ⟨vb, 0, none⟩), .agg #[.int .i64 lev, .slice (some ⟨eb, 0, none⟩) k cap, .int .i64 r, .int .i64 c, .int .i64 e, .slice (some ⟨wb, 0, none⟩) nw wcap], .int .i64 (i : Int), .int .i64 st] W fun e' w' => ∃ g gcap B', e' = .returned (.agg #[.int .i64 lev, .slice (some ⟨eb, 0, none⟩) k cap, .int .i64 r, .int .i64 c, .int .i64 e, .slice (some ⟨g, 0, none⟩) nw gcap]) ∧
      EAt W0 vb nw cb rb lb B' n me lim E (some ⟨g, 0, none⟩) nw gcap G w' ∧ w'.ownsRow 0 39 5 (.slice (some ⟨g, 0, none⟩) nw gcap) nw (wcells (stSet ws i st)) ∧ ∀ (b : Nat) (cs : Array Value) (t : TypeId), W.heap[b]? = some (.cells cs t (0, 0)) → t ≠ 67 → t ≠ 39 → w'.heap[b]? = W.heap[b]? := by
  refine (withSt_any h.v lev r c e st eb k cap wb nw wcap i ws HN hi h5 (by have := h.kp.size; omega) h.own h.room (fun j hj => (h.kp.cell (a := ⟨wb, j, none⟩) hwb.2.2.2 (by simp; omega)).trans (hc.out j hj))).mono ?_
  rintro _ w' ⟨g, gcap, rfl, k1, v1, o1, hat⟩
  obtain ⟨B', h', _⟩ := h.wst k1 v1 o1 hat
  refine ⟨g, gcap, B', rfl, h', o1, fun b cs t hb h1 h2 => k1.block b (lt_of_heap hb) (fun e => ?_)⟩
  rcases e with rfl | e
  · obtain ⟨cs', hv, _⟩ := h.v
    exact two hb hv h1 rfl
  · exact obj_own_ne hb h.own (Ne.symm h2) (by cases A with | none => cases e | some a => exact e)

theorem yld_step {g gcap : Nat} (h : EAt W0 vb nw cb rb lb B n me lim E (some ⟨g, 0, none⟩) nw gcap G W) (lev e r c : Int) (eb ecap k i : Nat) (ws : List Wr) (x : Wr) (o st : Int) (ho : W.ownsRow 0 39 5 (.slice (some ⟨g, 0, none⟩) nw gcap) nw (wcells (stSet ws i st))) (HN : Hid (ws.length = nw)) (h5 : nw ≤ 512) (hk5 : k ≤ 512) (hEk : E.length = k) (hG : G.length ≤ 2000)
    (heb : eb ≠ cb ∧ eb ≠ vb ∧ eb ≠ rb ∧ eb < W0.heap.size) (hE : Hid (∀ j, j < k * 2 → W0.cell? ⟨eb, j, none⟩ = (ecells E)[j]?)) (hlim0 : 0 ≤ lim) (hlim1 : lim ≤ 100000) :
    Calls Ybad.prog 6 #[.agg #[.int .i64 o, .int .i64 x.key, .int .i64 x.val, .int .i64 0, .int .i64 0, .int .i64 0, .int .i64 0], .agg #[.int .i64 lev, .slice (some ⟨eb, 0, none⟩) k ecap, .int .i64 r, .int .i64 c, .int .i64 e, .slice (some ⟨g, 0, none⟩) nw gcap], .pointer (some ⟨cb, 0, none⟩), .pointer (some ⟨rb, 0, none⟩), .pointer (some ⟨lb, 0, none⟩)] W fun e' w' => ∃ b : Bool, e' = .returned (.bool b) ∧
      EAt W0 vb nw cb rb lb B n me lim E (some ⟨g, 0, none⟩) nw gcap (G ++ [evE lev e r c k ws i x o st]) w' ∧ (b = true → more lim (G.length + 1)) ∧ (b = false → more lim G.length → lim ≠ 0 ∧ ((G.length + 1 : Nat) : Int) = lim) ∧ ∀ (b : Nat) (cs : Array Value) (t : TypeId), W.heap[b]? = some (.cells cs t (0, 0)) → t ≠ 3 → t ≠ 68 → t ≠ 75 → w'.heap[b]? = W.heap[b]? := by
  obtain ⟨v0, us, r1, _⟩ := h.rc.recs
  have hlr : lb ≠ rb := two h.rc.lim' r1 (by decide)
  obtain ⟨cur, hg⟩ : ∃ cur, W.heap[g]? = some (.cells cur 39 (0, 0)) := by
    rcases ho.2 with ⟨e1, _⟩ | ⟨g', cap', cur, e1, _, t1, _⟩
    · cases e1
    · simp only [Value.slice.injEq, Option.some.injEq, Addr.mk.injEq, and_true] at e1
      obtain ⟨rfl, _⟩ := e1
      exact ⟨cur, t1⟩
  have hrow : ∀ j, j < nw * 5 → W.cell? ⟨g, j, none⟩ = (wcells (stSet ws i st))[j]? := by
    rcases own_cells ho with ⟨e1, _⟩ | ⟨g', cap', e1, _, h1⟩
    · cases e1
    · simp only [Value.slice.injEq, Option.some.injEq, Addr.mk.injEq, and_true] at e1
      obtain ⟨rfl, _⟩ := e1
      exact h1
  have hz := h.kp.size
  have hl : (stSet ws i st).length = nw := by rw [stSet_len]; exact HN.out
  refine (yield_any (evE lev e r c k ws i x o st) eb ecap g gcap nw h.rc.turn h.hB (by omega) (fun b hb => hb.2.2.1) hlr (Nat.le_of_eq hEk.symm) hk5 hl h5 heb.1 (two hg h.rc.calls (by decide)) (by omega) (lt_of_heap hg) (fun j hj => ?_) (fun j hj => ?_) hlim0 hlim1).mono ?_
  · have e1 : (evE lev e r c k ws i x o st).k = k := rfl
    rw [e1, ← hEk, List.take_length, h.kp.cell (a := ⟨eb, j, none⟩) heb.2.2.2 (by simp; omega)]
    exact hE.out j hj
  · exact hrow j (by have : (evE lev e r c k ws i x o st).ws.length = nw := hl; omega)
  · rintro _ w' ⟨rfl, hr, hk, _⟩
    refine ⟨_, rfl, h.yld hr hk, fun hb => ?_, fun hb hm => ?_, fun b cs t hb h1 h2 h3 => hk.block b (lt_of_heap hb) (fun e => e (TW.of h.rc.calls r1 hb h1 h2 h3))⟩
    · unfold more
      simpa using hb
    · unfold more at hm
      simp only [Bool.or_eq_false_iff, decide_eq_false_iff_not] at hb
      omega
end Go.Proofs.YbulkejpeDoor
