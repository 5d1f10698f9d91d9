/- What stands while 'ends' goes on. No Go text is walked here. -/
import Derived.Test.YbulkejpeDoorWst
import Derived.Test.YbulkejpeDoorSs
namespace Go.Proofs.YbulkejpeDoor
open Go Go.ChangeShapes Go.WideShapes Go.ChangeAt Go.RowKit

variable {B cb rb lb : Nat} {lim : Int} {E : List (ByteArray × ByteArray)} {T : Nat → Prop} {G : List Ev} {W W' : World}

/-- Blocks that a record leaves alone. -/
def TW (W : World) (B cb rb : Nat) (k : Nat) : Prop := k ≠ cb ∧ k ≠ rb ∧ k < W.heap.size ∧ (k < B ∨ ∃ cs t, W.heap[k]? = some (.cells cs t (0, 0)) ∧ t ≠ 75)

theorem RecAt.turn (h : RecAt B cb rb lb lim E T G W) : RecAt B cb rb lb lim E (TW W B cb rb) G W := by
  obtain ⟨v, us, r1, r2, r3, r4, r5⟩ := h.recs
  refine ⟨h.calls, h.lim', ⟨v, us, r1, fun b hb ht => ?_, r3, r4, r5⟩, fun t => t.1 rfl, fun t => t.2.1 rfl, h.cr, h.cl, h.many⟩
  rcases ht.2.2.2 with h1 | ⟨cs, t, h1, h2⟩
  · have := (ownsRow_lt r4 hb).1
    omega
  · exact obj_own_ne h1 r4 (Ne.symm h2) hb

theorem RecAt.kept {S : Nat → Prop} (h : RecAt B cb rb lb lim E T G W) (k : Kept S W W') (hs : ∀ b, b < W.heap.size → S b → b ≠ cb ∧ b ≠ rb ∧ b ≠ lb ∧ (b < B ∨ ∃ cs t, W.heap[b]? = some (.cells cs t (0, 0)) ∧ t ≠ 75 ∧ t ≠ 28 ∧ t ≠ 39)) : RecAt B cb rb lb lim E T G W' := by
  obtain ⟨v, us, r1, r2, r3, r4, r5⟩ := h.recs
  have go : ∀ {e z n : Nat} {u : Value} {xs : List Value}, W.ownsRow B e z u n xs → (e = 75 ∨ e = 28 ∨ e = 39) → W'.ownsRow B e z u n xs := by
    intro e z n u xs ho he
    refine own_kept ho k (fun b hb hS => ?_)
    have hlt := ownsRow_lt ho hb
    rcases (hs b hlt.2 hS).2.2.2 with h1 | ⟨cs, t, h1, h2, h3, h4⟩
    · omega
    · exact obj_own_ne h1 ho (by rcases he with rfl | rfl | rfl <;> exact Ne.symm ‹_›) hb
  exact ⟨k.obj h.calls (fun hS => (hs _ h.calls.lt hS).1 rfl), k.obj h.lim' (fun hS => (hs _ h.lim'.lt hS).2.2.1 rfl), ⟨v, us, k.obj r1 (fun hS => (hs _ r1.lt hS).2.1 rfl), r2, r3, go r4 (.inl rfl), fun i hi hu => ⟨(r5 i hi hu).1, go (r5 i hi hu).2.1 (.inr (.inl rfl)), go (r5 i hi hu).2.2 (.inr (.inr rfl))⟩⟩, h.tc, h.tr, h.cr, h.cl, h.many⟩

theorem RecAt.rebase (h : RecAt B cb rb lb lim E T [] W) (hn : Boxed W rb 68 (.slice none 0 0)) (B' : Nat) : RecAt B' cb rb lb lim E T [] W :=
  ⟨h.calls, h.lim', ⟨.slice none 0 0, [], hn, (fun b hb => by cases hb), rfl, World.ownsRow_nil _ _ _ _, (fun i hi => by simp at hi)⟩, h.tc, h.tr, h.cr, h.cl, h.many⟩

theorem RecAt.none (h : RecAt B cb rb lb lim E T G W) : RecAt B cb rb lb lim E (fun _ => False) G W := (RecAt.abide (B := B) 0).less _ _ _ _ h (fun _ e => e.elim)

structure EAt (W0 : World) (vb nw cb rb lb B : Nat) (n me lim : Int) (E : List (ByteArray × ByteArray)) (A : Option Addr) (m ncap : Nat) (G : List Ev) (W : World) : Prop where
  hB : B ≤ W.heap.size
  h0 : W0.heap.size ≤ B
  rc : RecAt B cb rb lb lim E (fun _ => False) G W
  v : VObj vb n me (.slice A m ncap) W
  own : W.ownsRow 0 39 5 (.slice A 0 ncap) 0 []
  buf : (A = none ∧ G = [] ∧ Boxed W rb 68 (.slice none 0 0)) ∨ (∃ nb, A = some ⟨nb, 0, none⟩ ∧ nb < B ∧ W0.heap.size ≤ nb ∧ nw ≤ ncap)
  kp : Kept (fun b => b = vb ∨ b = cb ∨ b = rb) W0 W
  vlt : vb < W0.heap.size

variable {W0 : World} {vb nw : Nat} {n me : Int} {A : Option Addr} {m ncap : Nat}

theorem EAt.room (h : EAt W0 vb nw cb rb lb B n me lim E A m ncap G W) : A = none ∨ nw ≤ ncap := by
  rcases h.buf with h1 | ⟨nb, _, _, _, h1⟩
  · exact Or.inl h1.1
  · exact Or.inr h1

theorem two {W : World} {b b' t t' : Nat} {cs cs' : Array Value} (h : W.heap[b]? = some (.cells cs t (0, 0))) (h' : W.heap[b']? = some (.cells cs' t' (0, 0))) (ht : t ≠ t') : b ≠ b' := by
  rintro rfl
  rw [h] at h'
  cases h'
  exact ht rfl

theorem EAt.quiet {S : Nat → Prop} (h : EAt W0 vb nw cb rb lb B n me lim E A m ncap G W) (k : Kept S W W') (hs : ∀ b, b < W.heap.size → S b → W0.heap.size ≤ b ∧ ∃ cs t, W.heap[b]? = some (.cells cs t (0, 0)) ∧ t ≠ 3 ∧ t ≠ 67 ∧ t ≠ 68 ∧ t ≠ 75 ∧ t ≠ 28 ∧ t ≠ 39) : EAt W0 vb nw cb rb lb B n me lim E A m ncap G W' := by
  obtain ⟨v0, us, r1, _⟩ := h.rc.recs
  refine ⟨Nat.le_trans h.hB k.size, h.h0, h.rc.kept k (fun b hb hS => ?_), h.v.kept k (fun hS => ?_), own_kept h.own k (fun b hb hS => ?_), ?_, h.kp.trans k (fun j hj hS => ?_), h.vlt⟩
  · obtain ⟨_, cs, t, h1, h2, h3, h4, h5, h6, h7⟩ := hs b hb hS
    exact ⟨two h1 h.rc.calls h2, two h1 r1 h4, two h1 h.rc.lim' h2, Or.inr ⟨cs, t, h1, h5, h6, h7⟩⟩
  · have := (hs vb h.v.lt hS).1
    have := h.vlt
    omega
  · obtain ⟨_, cs, t, h1, h2, h3, h4, h5, h6, h7⟩ := hs b (ownsRow_lt h.own hb).2 hS
    exact obj_own_ne h1 h.own (Ne.symm h7) hb
  · rcases h.buf with ⟨h1, h2, h3⟩ | h1
    · refine Or.inl ⟨h1, h2, k.obj h3 (fun hS => ?_)⟩
      obtain ⟨_, cs, t, h4, _, _, h5, _⟩ := hs rb h3.lt hS
      exact two h4 h3 h5 rfl
    · exact Or.inr h1
  · have := (hs j (Nat.lt_of_lt_of_le hj h.kp.size) hS).1
    omega

theorem EAt.wst {g gcap : Nat} {row : List Value} (h : EAt W0 vb nw cb rb lb B n me lim E A m ncap G W) (k : Kept (fun b => b = vb ∨ A.map Addr.block = some b) W W') (v' : VObj vb n me (.slice (some ⟨g, 0, none⟩) nw gcap) W') (o : W'.ownsRow 0 39 5 (.slice (some ⟨g, 0, none⟩) nw gcap) nw row) (hat : (A = none ∧ W.heap.size ≤ g) ∨ (A = some ⟨g, 0, none⟩ ∧ gcap = ncap)) :
    ∃ B', EAt W0 vb nw cb rb lb B' n me lim E (some ⟨g, 0, none⟩) nw gcap G W' ∧ B ≤ B' := by
  obtain ⟨v0, us, r1, _⟩ := h.rc.recs
  obtain ⟨cs, hv, _⟩ := h.v
  have hcap : nw ≤ gcap := by
    rcases o.2 with ⟨e1, _⟩ | ⟨g', cap', cur, e1, _, _, h4, _⟩
    · cases e1
    · simp only [Value.slice.injEq, Option.some.injEq, Addr.mk.injEq, and_true] at e1
      omega
  have hgl : g < W'.heap.size := (ownsRow_lt o (b := g) rfl).2
  rcases h.buf with ⟨rfl, rfl, h3⟩ | ⟨nb, rfl, h2, h3, h4⟩
  · have hg : W.heap.size ≤ g := by rcases hat with ⟨_, h1⟩ | ⟨h1, _⟩; (· exact h1); cases h1
    have k' : Kept (fun b => b = vb) W W' := k.mono (fun b e => by rcases e with e | e; (· exact e); cases e)
    have hr : RecAt B cb rb lb lim E (fun _ => False) [] W' := h.rc.kept k' (fun b _ e => by subst e; exact ⟨two hv h.rc.calls (by decide), two hv r1 (by decide), two hv h.rc.lim' (by decide), Or.inl (by have := h.vlt; have := h.h0; omega)⟩)
    have hb : Boxed W' rb 68 (.slice none 0 0) := k'.obj h3 (fun e => two hv r1 (by decide) e.symm)
    have hz := h.hB
    have hz2 := k.size
    have hz3 := h.h0
    refine ⟨W'.heap.size, ⟨Nat.le_refl _, by omega, hr.rebase hb _, v', own_cut o, Or.inr ⟨g, rfl, hgl, by omega, hcap⟩, h.kp.trans k' (fun _ _ e => Or.inl e), h.vlt⟩, by omega⟩
  · have hg : g = nb := by rcases hat with ⟨h1, _⟩ | ⟨h1, _⟩; (· cases h1); simpa using h1.symm
    subst hg
    obtain ⟨cur, hcur⟩ : ∃ cur, W.heap[g]? = some (.cells cur 39 (0, 0)) := by
      rcases h.own.2 with ⟨e1, _⟩ | ⟨g', cap', cur, e1, _, t1, _⟩
      · cases e1
      · simp only [Value.slice.injEq, Option.some.injEq, Addr.mk.injEq, and_true] at e1
        obtain ⟨rfl, _⟩ := e1
        exact ⟨cur, t1⟩
    have hr : RecAt B cb rb lb lim E (fun _ => False) G W' := h.rc.kept k (fun b _ e => by
      rcases e with rfl | e
      · exact ⟨two hv h.rc.calls (by decide), two hv r1 (by decide), two hv h.rc.lim' (by decide), Or.inl (by have := h.vlt; have := h.h0; omega)⟩
      · simp only [Option.map_some, Option.some.injEq] at e
        subst e
        exact ⟨two hcur h.rc.calls (by decide), two hcur r1 (by decide), two hcur h.rc.lim' (by decide), Or.inl h2⟩)
    refine ⟨B, ⟨Nat.le_trans h.hB k.size, h.h0, hr, v', own_cut o, Or.inr ⟨g, rfl, h2, h3, hcap⟩, h.kp.trans k (fun j hj e => ?_), h.vlt⟩, Nat.le_refl _⟩
    rcases e with e | e
    · exact Or.inl e
    · simp only [Option.map_some, Option.some.injEq] at e
      omega

theorem TW.of {cs : Array Value} {t b : Nat} (hc : Boxed W cb 3 (.int .i64 (G.length : Int))) {v : Value} (hr : Boxed W rb 68 v) (h : W.heap[b]? = some (.cells cs t (0, 0))) (h1 : t ≠ 3) (h2 : t ≠ 68) (h3 : t ≠ 75) : TW W B cb rb b :=
  ⟨two h hc h1, two h hr h2, lt_of_heap h, Or.inr ⟨cs, t, h, h3⟩⟩

theorem EAt.yld {g : Nat} {x : Ev} (h : EAt W0 vb nw cb rb lb B n me lim E (some ⟨g, 0, none⟩) m ncap G W) (hr : RecAt B cb rb lb lim E (TW W B cb rb) (G ++ [x]) W') (k : Kept (fun b => ¬ TW W B cb rb b) W W') : EAt W0 vb nw cb rb lb B n me lim E (some ⟨g, 0, none⟩) m ncap (G ++ [x]) W' := by
  obtain ⟨v0, us, r1, _⟩ := h.rc.recs
  obtain ⟨cs, hv, _⟩ := h.v
  have hz := h.hB
  have hz3 := h.h0
  refine ⟨Nat.le_trans h.hB k.size, h.h0, hr.none, h.v.kept k (fun e => e (TW.of h.rc.calls r1 hv (by decide) (by decide) (by decide))), own_kept h.own k (fun b hb e => e ?_), ?_, h.kp.trans k (fun j hj e => ?_), h.vlt⟩
  · rcases h.own.2 with ⟨e1, _⟩ | ⟨g', cap', cur, e1, _, t1, _⟩
    · cases e1
    · simp only [Value.slice.injEq, Option.some.injEq, Addr.mk.injEq, and_true] at e1
      obtain ⟨rfl, _⟩ := e1
      simp only [Value.ownBlock, Option.some.injEq] at hb
      subst hb
      exact TW.of h.rc.calls r1 t1 (by decide) (by decide) (by decide)
  · rcases h.buf with ⟨h1, _⟩ | h1
    · cases h1
    · exact Or.inr h1
  · by_cases e1 : j = cb
    · exact Or.inr (Or.inl e1)
    · by_cases e2 : j = rb
      · exact Or.inr (Or.inr e2)
      · exact (e ⟨e1, e2, by omega, Or.inl (by omega)⟩).elim
end Go.Proofs.YbulkejpeDoor
