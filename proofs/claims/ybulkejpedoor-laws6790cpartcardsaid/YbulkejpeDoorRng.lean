/- A range over a function whose iterator may itself range over one (an iterator built on another): a contract and its law, at the wide fence. No Go text is walked here. -/
import Derived.RangeFuncNested
import Derived.RangeFuncBound
import Derived.RangeFuncCalls
import Derived.RangeFuncLeaves
import Derived.WalkKit
import Derived.OwnWalkIn
import Derived.TacticsInMore
import Derived.LoopNIn
import Derived.LoopIn
namespace Go.Proofs.YbulkejpeDoor
open Go Go.RowKit

/-- What a client asks of an iterator: T, the blocks that the client's rounds leave alone; a new block may be laid, and may be left alone from then on; what is no cells and was laid since may turn. -/
structure Abide {α : Type} (B : Nat) (J : (Nat → Prop) → List α → World → Prop) : Prop where
  own : ∀ T, OwnFrom B (J T)
  add : ∀ T pre W W', J T pre W → W.grownBy W' none → J (fun k => T k ∨ (W.heap.size ≤ k ∧ k < W'.heap.size)) pre W'
  less : ∀ T T' pre W, J T pre W → (∀ k, T' k → T k) → J T' pre W

/-- The blocks T are as they were. -/
def Same (T : Nat → Prop) (W W' : World) : Prop := ∀ k, T k → k < W.heap.size → W'.heap[k]? = W.heap[k]?
theorem Same.refl (T : Nat → Prop) (W : World) : Same T W W := fun _ _ _ => rfl
theorem Same.trans {T : Nat → Prop} {W W' W'' : World} (h : Same T W W') (k : Same T W' W'') (hs : W.heap.size ≤ W'.heap.size) : Same T W W'' := fun j hj hl => (k j hj (by omega)).trans (h j hj hl)
theorem Same.sub {T T' : Nat → Prop} {W W' : World} (h : Same T W W') (hs : ∀ k, T' k → T k) : Same T' W W' := fun j hj hl => h j (hs j hj) hl
theorem Same.alloc {T : Nat → Prop} {W W' : World} (h : Same T W W') (hs : W.heap.size ≤ W'.heap.size) (o : Obj) : Same T W (W'.alloc o) := h.trans (fun _ _ hl => Below.heap_alloc _ _ _ hl) hs

/-- What a round leaves: nothing but cells is turned among what lay from B on; the blocks T are as they were; it goes on, or it has said 'no more'. -/
def RoundOK {α : Type} (B : Nat) (J Jx : (Nat → Prop) → List α → World → Prop) (T : Nat → Prop) (pre : List α) (x : α) (W1 : World) (e : Ending) (W' : World) : Prop :=
  KeepsFrom B W1 W' ∧ Same T W1 W' ∧ ((e = .returned (.bool true) ∧ J T (pre ++ [x]) W') ∨ (e = .returned (.bool false) ∧ Jx T (pre ++ [x]) W'))

/-- The contract of an iterator; Need: what it asks of the blocks T and the world where it begins. -/
def SeqT {α : Type} (P : Program) (g : Nat) (lb : Array Value) (encs : α → Array Value) (S Sp : List α → Prop) (Need : (Nat → Prop) → World → Prop) : Prop :=
  ∀ (l : Nat) (J Jx : (Nat → Prop) → List α → World → Prop) (W : World) (T : Nat → Prop), Need T W → Abide W.heap.size J → Abide W.heap.size Jx →
    (∀ T pre x W1, J T pre W1 → Sp (pre ++ [x]) → YieldAt Fence.wide 0 P l (encs x) W1 (RoundOK W.heap.size J Jx T pre x W1)) →
    J T [] W →
    CallsIn Fence.wide 0 P g (#[.func (.yield l) #[] #[]] ++ lb) W fun e W' => (∃ v, e = .returned v) ∧ W.heap.size ≤ W'.heap.size ∧ Same T W W' ∧ ((∃ xs, S xs ∧ J T xs W') ∨ (∃ pre, Sp pre ∧ Jx T pre W'))

theorem Abide.sub {α : Type} {B B' : Nat} {J : (Nat → Prop) → List α → World → Prop} (h : Abide B J) (hB : B ≤ B') : Abide B' J := ⟨fun T s A X row hs hg hr => h.own T s A X row hs hg (fun r e => ⟨by have := (hr r e).1; omega, (hr r e).2⟩), h.add, h.less⟩
theorem grownBy_of_below {W W' : World} (h : Below W.heap.size W W') : W.grownBy W' none := ⟨h.os, h.tape, h.output, h.size, fun k hk _ => h.block k hk⟩
/-- A set of blocks, said otherwise. -/
theorem set_eq {α : Type} {J : (Nat → Prop) → List α → World → Prop} {T T' : Nat → Prop} {pre : List α} {W : World} (h : J T pre W) (e : ∀ k, T k ↔ T' k) : J T' pre W := by
  have : T = T' := funext fun k => propext (e k)
  exact this ▸ h

/-- How the body of a round may be left. -/
def bodyPost {α : Type} (B : Nat) (I Ix : (Nat → Prop) → List α → World → Prop) (T : Nat → Prop) (xs : List α) (W : World) : Exit → Act → World → Prop
  | .normal, _, W' => KeepsFrom B W W' ∧ Same T W W' ∧ I T xs W'
  | .ret, _, W' => KeepsFrom B W W' ∧ Same T W W' ∧ Ix T xs W'
  | _, _, _ => False

theorem put_keeps {B l : Nat} {W : World} (o' : Obj) (hl : l < B) : KeepsFrom B W (W.putObj l o') :=
  ⟨by simp, fun k o hk h _ => (World.putObj_heap_other (by omega)).trans h⟩

/-- The statement 'for x := range g { .. }', outside a round; a body that goes on or returns. The blocks T are told of by the client to lie ahead of the loop. -/
theorem range_law {P : Program} {α : Type} {g : Operand} {ps : Array Tmp} {assign body : Code} {Q : Exit → Act → World → Prop} {a : Act} {w : World} {gf : Nat} {lb : Array Value} (hg : a.eval g = .func (.func gf) #[] lb) (eg : ∀ args w, (callFunc gf args).run P w = .ok (.enter gf args) w)
    {encs : α → Array Value} {S Sp : List α → Prop} {Need : (Nat → Prop) → World → Prop} (hseq : SeqT P gf lb encs S Sp Need) (hps : ∀ x, (encs x).size = ps.size)
    (T₀ : Nat → Prop) (hT₀ : ∀ k, T₀ k → k < w.heap.size) (hneed : ∀ W, Below w.heap.size w W → Need T₀ W)
    (I Ix : (Nat → Prop) → List α → World → Prop) (hI : Abide w.heap.size I) (hIx : Abide w.heap.size Ix) (h0 : I T₀ [] w) (Ax : α → Act → World → Prop) (hAx : ∀ x a', OwnFrom w.heap.size (fun (_ : Unit) W => Ax x a' W))
    (hassign : ∀ (l : Nat) (T : Nat → Prop) (pre : List α) (x : α) (W : World) (K : Act → World → Prop), I T pre W → (∀ a' W', KeepsFrom w.heap.size W W' → Same T W W' → I T pre W' → Ax x a' W' → K a' W') →
      assign.wpIn (Fence.wide.inRound l) 0 P (Exit.then K (fun _ _ _ => False)) { tmps := (ps.zip (encs x)).foldl (fun t (p, v) => t.setIfInBounds p v) a.tmps, defers := [] } W)
    (hbody : ∀ (l : Nat) (T : Nat → Prop) (pre : List α) (x : α) (a' : Act) (W : World), w.heap.size ≤ l → l < W.heap.size → I T pre W → Ax x a' W → Sp (pre ++ [x]) → body.wpIn (Fence.wide.inRound l) 0 P (bodyPost w.heap.size I Ix T (pre ++ [x]) W) a' W)
    (hdone : ∀ (D : Nat) (xs : List α) (W : World), w.heap.size ≤ D → w.heap.size ≤ W.heap.size → Same T₀ w W → S xs → I T₀ xs W → W.heap[D]? = some (.deferred (some [])) → Q .normal { a with defers := { target := .collected D, args := #[] } :: a.defers } W)
    (hstop : ∀ (D : Nat) (pre : List α) (W : World), w.heap.size ≤ D → w.heap.size ≤ W.heap.size → Same T₀ w W → Sp pre → Ix T₀ pre W → W.heap[D]? = some (.deferred (some [])) → Code.ret.wpIn Fence.wide 0 P Q { a with defers := { target := .collected D, args := #[] } :: a.defers } W) :
    (Code.rangeFunc g ps assign body).wpIn Fence.wide 0 P Q a w := by
  refine wpIn_rangeFunc ?_
  intro fn hfn
  obtain ⟨R, hR⟩ : ∃ R : LoopState → Option Code → Loop, R = fun st pe => { state := st, pending := pe, fn, tmps := a.tmps, params := ps, assign, body, defers := w.heap.size } := ⟨_, rfl⟩
  obtain ⟨W1, hW1⟩ : ∃ W1, W1 = (w.alloc (.deferred (some []))).alloc (.loop (R .ready none)) := ⟨_, rfl⟩
  have hz1 : W1.heap.size = w.heap.size + 2 := by rw [hW1]; simp
  have hB1 : Below w.heap.size w W1 := by rw [hW1]; exact ((Below.refl _ w).alloc (Nat.le_refl _) _).alloc (by simp) _
  have hL1 : W1.heap[w.heap.size + 1]? = some (.loop (R .ready none)) := by
    have := World.alloc_heap_new (w.alloc (.deferred (some []))) (.loop (R .ready none))
    rw [hW1]
    simpa using this
  have hD1 : W1.heap[w.heap.size]? = some (.deferred (some [])) := by
    rw [hW1, Below.heap_alloc _ _ _ (by simp)]
    exact World.alloc_heap_new w _
  have hI1 : I T₀ [] W1 := by rw [hW1]; exact (hI.own T₀).alloc _ ((hI.own T₀).alloc _ h0)
  have up : ∀ {β : Type} {G : β → World → Prop}, OwnFrom w.heap.size G → OwnFrom W1.heap.size G := fun hG s A B row hs hg' hr => hG s A B row hs hg' (fun r e => ⟨by have := (hr r e).1; omega, (hr r e).2⟩)
  have keepO : ∀ {A B : World} {row : Option Nat} {k : Nat} {o : Obj}, k < W1.heap.size → A.grownBy B row → (∀ r, row = some r → W1.heap.size ≤ r ∧ ∃ o : Obj, A.heap[r]? = some o ∧ o.isCells = false) → A.heap[k]? = some o → B.heap[k]? = some o := fun hk hg' hr h => (hg'.block _ (Array.getElem?_eq_some_iff.1 h).1 (fun e => by have := (hr _ e.symm).1; omega)).trans h
  have hput : ∀ {T : Nat → Prop} {X : World} (o : Obj), ¬ T (w.heap.size + 1) → Same T X (X.putObj (w.heap.size + 1) o) := fun o hn k hk _ => World.putObj_heap_other (fun e => hn (e ▸ hk))
  have abide : ∀ {G : (Nat → Prop) → List α → World → Prop} (st : Loop), Abide w.heap.size G → Abide W1.heap.size (fun T pre W => G T pre W ∧ (¬ T w.heap.size ∧ ¬ T (w.heap.size + 1)) ∧ W.heap[w.heap.size + 1]? = some (.loop st) ∧ W.heap[w.heap.size]? = some (.deferred (some []))) := by
    intro G st hG
    refine ⟨fun T s A B row hs hg' hr => ⟨up (hG.own T) s A B row hs.1 hg' hr, hs.2.1, keepO (by omega) hg' hr hs.2.2.1, keepO (by omega) hg' hr hs.2.2.2⟩, fun T pre W W' hs hg' => ?_, fun T T' pre W hs hsub => ⟨hG.less T T' pre W hs.1 hsub, ⟨fun h => hs.2.1.1 (hsub _ h), fun h => hs.2.1.2 (hsub _ h)⟩, hs.2.2⟩⟩
    have h1 := (Array.getElem?_eq_some_iff.1 hs.2.2.1).1
    refine ⟨hG.add T pre W W' hs.1 hg', ⟨?_, ?_⟩, (hg'.block _ h1 (by simp)).trans hs.2.2.1, (hg'.block _ (by omega) (by simp)).trans hs.2.2.2⟩
    · rintro (h | h)
      · exact hs.2.1.1 h
      · omega
    · rintro (h | h)
      · exact hs.2.1.2 h
      · omega
  refine ⟨w.heap.size + 1, [{ target := .collected w.heap.size, args := #[] }], W1, { target := .fn (.func gf) lb, args := #[.func (.yield (w.heap.size + 1)) #[] #[]] }, W1, gf, #[.func (.yield (w.heap.size + 1)) #[] #[]] ++ lb, W1, ?_, ?_, fun _ _ => trivial, ?_, fun h => (by cases h), ?_⟩
  · rw [hW1, hR]
    exact run_enterLoop_outer _ _ _ _ _
  · simp only [resolve, hg]
    simp [go_sem]
  · simp [invoke, go_sem, eg]
  refine (hseq (w.heap.size + 1) (fun T pre W => I T pre W ∧ (¬ T w.heap.size ∧ ¬ T (w.heap.size + 1)) ∧ W.heap[w.heap.size + 1]? = some (.loop (R .ready none)) ∧ W.heap[w.heap.size]? = some (.deferred (some [])))
    (fun T pre W => Ix T pre W ∧ (¬ T w.heap.size ∧ ¬ T (w.heap.size + 1)) ∧ W.heap[w.heap.size + 1]? = some (.loop (R .done (some .ret))) ∧ W.heap[w.heap.size]? = some (.deferred (some []))) W1 T₀ (hneed W1 hB1) (abide _ hI) (abide _ hIx) ?_ ⟨hI1, ⟨fun h => by have := hT₀ _ h; omega, fun h => by have := hT₀ _ h; omega⟩, hL1, hD1⟩).mono ?_
  · rintro T pre x W ⟨hi, hn, hl, hd⟩ hlen
    have hy := run_yield (P := P) (args := encs x) hl (by rw [hR]; exact hps x)
    rw [hR] at hy
    refine ⟨fn, _, assign, body, hy, roundIn_of_wpIn hfn (hassign _ T pre x W _ hi ?_)⟩
    intro a' Wa hka hsa hia hax
    have hla := hka.same _ _ (by omega) hl rfl
    have hda := hka.same _ _ (Nat.le_refl _) hd rfl
    have hlt : w.heap.size + 1 < Wa.heap.size := (Array.getElem?_eq_some_iff.1 hla).1
    refine ⟨_, run_beginRound hla (by rw [hR]), ?_⟩
    obtain ⟨Wb, hWb⟩ : ∃ Wb, Wb = Wa.putObj (w.heap.size + 1) (.loop { R .ready none with state := .busy }) := ⟨_, rfl⟩
    rw [← hWb]
    have hlb : Wb.heap[w.heap.size + 1]? = some (.loop { R .ready none with state := .busy }) := by rw [hWb]; exact World.putObj_heap_same hlt
    have hdb : Wb.heap[w.heap.size]? = some (.deferred (some [])) := by rw [hWb]; exact (World.putObj_heap_other (by omega)).trans hda
    have hkb : KeepsFrom W1.heap.size Wa Wb := by rw [hWb]; exact put_keeps _ (by omega)
    have hsb : Same T Wa Wb := by rw [hWb]; exact hput _ hn.2
    have hib : I T pre Wb := by rw [hWb]; exact (hI.own T).putObj _ hia (by omega) hla rfl
    have hab : Ax x a' Wb := by rw [hWb]; exact (hAx x a').putObj (s := ()) _ hax (by omega) hla rfl
    have hkm : ∀ {X Y : World}, KeepsFrom w.heap.size X Y → KeepsFrom W1.heap.size X Y := fun h => ⟨h.size, fun k o hk => h.same k o (by omega)⟩
    refine wpIn_mono (hbody _ T pre x a' Wb (by omega) (Array.getElem?_eq_some_iff.1 hlb).1 hib hab hlen) ?_
    rintro e a3 W3 hp
    cases e with
    | normal =>
      obtain ⟨hk3, hs3, hi3⟩ := hp
      have hl3 := hk3.same _ _ (by omega) hlb rfl
      have hd3 := hk3.same _ _ (Nat.le_refl _) hdb rfl
      refine ⟨_, _, run_endRound none hl3, ?_, ?_, .inl ⟨rfl, ?_⟩⟩
      · exact (((hkm hka).trans hkb).trans (hkm hk3)).trans (put_keeps _ (by omega))
      · exact (((hsa.trans hsb hka.size).trans hs3 (Nat.le_trans hka.size hkb.size)).trans (hput _ hn.2) (Nat.le_trans hka.size (Nat.le_trans hkb.size hk3.size)))
      · refine ⟨(hI.own T).putObj _ hi3 (by omega) hl3 rfl, hn, ?_, (World.putObj_heap_other (by omega)).trans hd3⟩
        rw [World.putObj_heap_same (Array.getElem?_eq_some_iff.1 hl3).1, hR]
        rfl
    | ret =>
      obtain ⟨hk3, hs3, hi3⟩ := hp
      have hl3 := hk3.same _ _ (by omega) hlb rfl
      have hd3 := hk3.same _ _ (Nat.le_refl _) hdb rfl
      refine ⟨_, _, run_endRound (some .ret) hl3, ?_, ?_, .inr ⟨rfl, ?_⟩⟩
      · exact (((hkm hka).trans hkb).trans (hkm hk3)).trans (put_keeps _ (by omega))
      · exact (((hsa.trans hsb hka.size).trans hs3 (Nat.le_trans hka.size hkb.size)).trans (hput _ hn.2) (Nat.le_trans hka.size (Nat.le_trans hkb.size hk3.size)))
      · refine ⟨(hIx.own T).putObj _ hi3 (by omega) hl3 rfl, hn, ?_, (World.putObj_heap_other (by omega)).trans hd3⟩
        rw [World.putObj_heap_same (Array.getElem?_eq_some_iff.1 hl3).1, hR]
        rfl
    | exit id => exact hp.elim
    | goto t => exact hp.elim
    | panic ch => exact hp.elim
    | outgrown => exact hp.elim
  · have hs0 : Same T₀ w W1 := fun k hk hl => hB1.block k hl
    rintro e W2 ⟨⟨v, rfl⟩, hz2, hs2, (⟨xs, hS, hi, hn, hl, hd⟩ | ⟨pre, hSp, hi, hn, hl, hd⟩)⟩
    · refine ⟨none, _, by have := run_endLoop (P := P) hl (by rw [hR]; simp); rw [hR] at this; exact this, hdone _ xs _ (Nat.le_refl _) (by simp; omega) ((hs0.trans hs2 hB1.size).trans (hput _ hn.2) (by omega)) hS ((hI.own T₀).putObj _ hi (by omega) hl rfl) ((World.putObj_heap_other (by omega)).trans hd)⟩
    · refine ⟨some .ret, _, by have := run_endLoop (P := P) hl (by rw [hR]; simp); rw [hR] at this; exact this, hstop _ pre _ (Nat.le_refl _) (by simp; omega) ((hs0.trans hs2 hB1.size).trans (hput _ hn.2) (by omega)) hSp ((hIx.own T₀).putObj _ hi (by omega) hl rfl) ((World.putObj_heap_other (by omega)).trans hd)⟩
end Go.Proofs.YbulkejpeDoor
