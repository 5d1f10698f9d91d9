/- withStatus (17). -/
import Derived.Test.YbulkejpeDoorSmt
import Derived.Test.YbulkejpeDoorYld
namespace Go.Proofs.YbulkejpeDoor
open Go Go.ChangeShapes Go.WideShapes Go.ChangeAt Go.RowKit

theorem own_cut {w : World} {B e z n n' cap : Nat} {g : Nat} {xs : List Value} (h : w.ownsRow B e z (.slice (some ⟨g, 0, none⟩) n cap) n' xs) : w.ownsRow B e z (.slice (some ⟨g, 0, none⟩) 0 cap) 0 [] := by
  refine ⟨by simp, ?_⟩
  rcases h.2 with ⟨e1, _⟩ | ⟨g', cap', cur, e1, h2, h3, h4, h5, h6, h7⟩
  · cases e1
  · simp only [Value.slice.injEq, Option.some.injEq, Addr.mk.injEq, and_true] at e1
    obtain ⟨rfl, rfl, rfl⟩ := e1
    exact Or.inr ⟨g, cap, cur, rfl, h2, h3, Nat.zero_le _, h5, h6, by simp⟩

theorem own_set {w : World} {B e z n cap : Nat} {g : Nat} {xs : List Value} (h : w.ownsRow B e z (.slice (some ⟨g, 0, none⟩) n cap) n xs) (j : Nat) (u : Value) :
    (w.setCell ⟨g, j, none⟩ u).ownsRow B e z (.slice (some ⟨g, 0, none⟩) n cap) n (xs.set j u) := by
  have h0 := h.1
  refine ⟨by simpa using h0, ?_⟩
  rcases h.2 with ⟨e1, _⟩ | ⟨g', cap', cur, e1, h2, h3, h4, h5, h6, h7⟩
  · cases e1
  · simp only [Value.slice.injEq, Option.some.injEq, Addr.mk.injEq, and_true] at e1
    obtain ⟨rfl, _, rfl⟩ := e1
    refine Or.inr ⟨g, cap, cur.setIfInBounds j u, rfl, h2, heap_setCell_same h3 j u, h4, h5, ?_, ?_⟩
    · simpa using h6
    · rw [Array.toList_setIfInBounds, List.take_set, h7]

/-- Write number i with the status st. -/
def stSet (ws : List Wr) (i : Nat) (st : Int) : List Wr := ws.modify i fun x => { x with st := st }
theorem stSet_len (ws : List Wr) (i : Nat) (st : Int) : (stSet ws i st).length = ws.length := by simp [stSet]
theorem wcells_set (st : Int) : ∀ (ws : List Wr) (i : Nat), i < ws.length → wcells (stSet ws i st) = (wcells ws).set (i * 5 + 4) (.int .i64 st)
  | [], _, h => by simp at h
  | w :: ws, 0, _ => by simp [stSet, wcells, Wr.cells]
  | w :: ws, i + 1, h => by
    have ih := wcells_set st ws i (by simpa using h)
    simp only [stSet, wcells, List.modify_succ_cons, List.flatMap_cons] at ih ⊢
    rw [ih, List.set_append_right _ _ (by simp [Wr.cells]; omega)]
    congr 2
    simp [Wr.cells]
    omega

/-- append(buf[:0], ws...), with room in buf or no buf at all. -/
theorem app_buf (w : World) (A : Option Addr) (ncap wb nw wcap : Nat) (ws : List Wr) (hown : w.ownsRow 0 39 5 (.slice A 0 ncap) 0 []) (hl : ws.length = nw) (h0 : 0 < nw) (h5 : nw ≤ 512) (hroom : A = none ∨ nw ≤ ncap)
    (hc : ∀ j, j < nw * 5 → w.cell? ⟨wb, j, none⟩ = (wcells ws)[j]?) :
    ∃ v' w', (Builtin.append_ #[32, 32] 32 #[.slice A 0 ncap, .slice (some ⟨wb, 0, none⟩) nw wcap]).run Ybad.prog w = .ok v' w' ∧ ∃ g cap, v' = .slice (some ⟨g, 0, none⟩) nw cap ∧ w'.ownsRow 0 39 5 (.slice (some ⟨g, 0, none⟩) nw cap) nw (wcells ws) ∧ w.grownBy w' (A.map Addr.block) ∧ ((A = none ∧ w.heap.size ≤ g) ∨ (A = some ⟨g, 0, none⟩ ∧ cap = ncap)) := by
  obtain ⟨i0, hi0, g1, g2, g3⟩ := info_parts info39
  have hn : (wcells ws).length = nw * 5 := by rw [wcells_len, hl]
  have hnews : ∀ j u, (wcells ws)[j]? = some u → w.cell? ((⟨wb, 0, none⟩ : Addr).add j) = some u := by
    intro j u hj
    have hjl := (List.getElem?_eq_some_iff.1 hj).1
    have := hc j (by omega)
    rw [hj] at this
    rw [add_plain]
    simpa using this
  rcases hown.2 with ⟨e1, _⟩ | ⟨g, cap, cur, e1, _⟩
  · cases e1
    obtain ⟨g, cap, w', hr, ho, hg, hat⟩ := append_new (P := Ybad.prog) w 32 32 39 i0 _ 5 40 Ybad.underlying32 hi0 g1 g2 g3 rfl (by omega) (.slice none 0 0) 0 [] hown ⟨wb, 0, none⟩ nw wcap (wcells ws) h0 hn hnews (wcells_one _) (by unfold maxLen; omega) (by omega)
    simp only [Nat.zero_add, List.nil_append] at hr ho
    refine ⟨_, w', hr, g, cap, rfl, ho, hg, Or.inl ⟨rfl, ?_⟩⟩
    rcases hat with h | h
    · cases h
    · exact h
  · have e2 : A = some ⟨g, 0, none⟩ ∧ ncap = cap := by simpa using e1
    obtain ⟨rfl, rfl⟩ := e2
    have hroom' : nw ≤ ncap := by rcases hroom with h | h; (· cases h); exact h
    obtain ⟨w', hr, ho, hg⟩ := run_append_fits (P := Ybad.prog) w 0 32 32 39 i0 5 Ybad.underlying32 hi0 g2 g 0 ncap [] hown ⟨wb, 0, none⟩ nw wcap (wcells ws) hn hnews (wcells_one _) (by omega)
    simp only [Nat.zero_add, List.nil_append] at hr ho
    exact ⟨_, w', hr, g, ncap, rfl, ho, hg, Or.inr ⟨rfl, rfl⟩⟩

theorem six {w : World} {g : Nat} {a b c d e f : Value} {t : TypeId} (h : w.heap[g]? = some (.cells #[a, b, c, d, e, f] t (0, 0))) :
    w.cell? ⟨g, 0, none⟩ = some a ∧ w.cell? ⟨g, 1, none⟩ = some b ∧ w.cell? ⟨g, 2, none⟩ = some c ∧ w.cell? ⟨g, 3, none⟩ = some d ∧ w.cell? ⟨g, 4, none⟩ = some e ∧ w.cell? ⟨g, 5, none⟩ = some f ∧
    w.frozen? ⟨g, 0, none⟩ = false ∧ w.frozen? ⟨g, 1, none⟩ = false ∧ w.frozen? ⟨g, 2, none⟩ = false ∧ w.frozen? ⟨g, 3, none⟩ = false ∧ w.frozen? ⟨g, 4, none⟩ = false ∧ w.frozen? ⟨g, 5, none⟩ = false := by
  refine ⟨?_, ?_, ?_, ?_, ?_, ?_, frozen_of_block h 0, frozen_of_block h 1, frozen_of_block h 2, frozen_of_block h 3, frozen_of_block h 4, frozen_of_block h 5⟩ <;> (rw [cell_of_block h]; rfl)

set_option maxRecDepth 100000 in
set_option maxHeartbeats 4000000 in
theorem withSt_any {vb : Nat} {n me : Int} {A : Option Addr} {m ncap : Nat} {w : World} (h : VObj vb n me (.slice A m ncap) w) (lev r c e st : Int) (eb k cap wb nw wcap i : Nat) (ws : List Wr) (HN : Hid (ws.length = nw)) (hi : i < nw) (h5 : nw ≤ 512) (hwb : wb < w.heap.size)
    (hown : w.ownsRow 0 39 5 (.slice A 0 ncap) 0 []) (hroom : A = none ∨ nw ≤ ncap) (hc : Hid (∀ j, j < nw * 5 → w.cell? ⟨wb, j, none⟩ = (wcells ws)[j]?)) :
    Calls Ybad.prog 17 #[.pointer (some ⟨vb, 0, none⟩), .agg #[.int .i64 lev, .slice (some ⟨eb, 0, none⟩) k cap, .int .i64 r, .int .i64 c, .int .i64 e, .slice (some ⟨wb, 0, none⟩) nw wcap], .int .i64 (i : Int), .int .i64 st] w fun e' w' => ∃ g gcap, e' = .returned (.agg #[.int .i64 lev, .slice (some ⟨eb, 0, none⟩) k cap, .int .i64 r, .int .i64 c, .int .i64 e, .slice (some ⟨g, 0, none⟩) nw gcap]) ∧
      Kept (fun b => b = vb ∨ A.map Addr.block = some b) w w' ∧ VObj vb n me (.slice (some ⟨g, 0, none⟩) nw gcap) w' ∧ w'.ownsRow 0 39 5 (.slice (some ⟨g, 0, none⟩) nw gcap) nw (wcells (stSet ws i st)) ∧ ((A = none ∧ w.heap.size ≤ g) ∨ (A = some ⟨g, 0, none⟩ ∧ gcap = ncap)) := by
  have hlt := h.lt
  have kX : Kept (fun _ => False) w ((w.alloc (.cells #[.int .i64 lev, .slice (some ⟨eb, 0, none⟩) k cap, .int .i64 r, .int .i64 c, .int .i64 e, .slice (some ⟨wb, 0, none⟩) nw wcap] 52)).alloc (.cells #[.int .i64 0, .slice none 0 0, .int .i64 0, .int .i64 0, .int .i64 0, .slice none 0 0] 52)) := ((Kept.refl _ _).alloc _).alloc _
  have b5 : ((w.alloc (.cells #[.int .i64 lev, .slice (some ⟨eb, 0, none⟩) k cap, .int .i64 r, .int .i64 c, .int .i64 e, .slice (some ⟨wb, 0, none⟩) nw wcap] 52)).alloc (.cells #[.int .i64 0, .slice none 0 0, .int .i64 0, .int .i64 0, .int .i64 0, .slice none 0 0] 52)).heap[w.heap.size]? = some (.cells #[.int .i64 lev, .slice (some ⟨eb, 0, none⟩) k cap, .int .i64 r, .int .i64 c, .int .i64 e, .slice (some ⟨wb, 0, none⟩) nw wcap] 52 (0, 0)) := by
    rw [heap_alloc_old _ _ (by simp)]
    exact heap_alloc_new _ _
  have b8 : ((w.alloc (.cells #[.int .i64 lev, .slice (some ⟨eb, 0, none⟩) k cap, .int .i64 r, .int .i64 c, .int .i64 e, .slice (some ⟨wb, 0, none⟩) nw wcap] 52)).alloc (.cells #[.int .i64 0, .slice none 0 0, .int .i64 0, .int .i64 0, .int .i64 0, .slice none 0 0] 52)).heap[w.heap.size + 1]? = some (.cells #[.int .i64 0, .slice none 0 0, .int .i64 0, .int .i64 0, .int .i64 0, .slice none 0 0] 52 (0, 0)) := by
    have := heap_alloc_new (w.alloc (.cells #[.int .i64 lev, .slice (some ⟨eb, 0, none⟩) k cap, .int .i64 r, .int .i64 c, .int .i64 e, .slice (some ⟨wb, 0, none⟩) nw wcap] 52)) (.cells #[.int .i64 0, .slice none 0 0, .int .i64 0, .int .i64 0, .int .i64 0, .slice none 0 0] 52)
    simpa using this
  have zX : ((w.alloc (.cells #[.int .i64 lev, .slice (some ⟨eb, 0, none⟩) k cap, .int .i64 r, .int .i64 c, .int .i64 e, .slice (some ⟨wb, 0, none⟩) nw wcap] 52)).alloc (.cells #[.int .i64 0, .slice none 0 0, .int .i64 0, .int .i64 0, .int .i64 0, .slice none 0 0] 52)).heap.size = w.heap.size + 2 := by simp
  go_enter Ybad.func17, Ybad.ntmps17
  go_wp2
  generalize (w.alloc (.cells #[.int .i64 lev, .slice (some ⟨eb, 0, none⟩) k cap, .int .i64 r, .int .i64 c, .int .i64 e, .slice (some ⟨wb, 0, none⟩) nw wcap] 52)).alloc (.cells #[.int .i64 0, .slice none 0 0, .int .i64 0, .int .i64 0, .int .i64 0, .slice none 0 0] 52) = X at kX b5 b8 zX ⊢
  have vX := h.kept kX (fun e => e)
  have oX := own_kept hown kX (fun _ _ e => e)
  refine wp_region_Z (fun w' => w'.cell? ⟨vb, 73, none⟩ = some (.slice A m ncap) ∧ w'.cell? ⟨w.heap.size, 5, none⟩ = some (.slice (some ⟨wb, 0, none⟩) nw wcap)) 11 (by kernel_rfl) ?_
  have hS0 : X.drew.cell? ⟨vb, 73, none⟩ = some (.slice A m ncap) ∧ X.drew.cell? ⟨w.heap.size, 5, none⟩ = some (.slice (some ⟨wb, 0, none⟩) nw wcap) := ⟨vX.cells.2.2.2.1, (cell_of_block b5 5).trans rfl⟩
  refine zTake 0 [0, 9, 10, 11] (v := ?_) rfl (by kernel_rfl) (by kernel_rfl) (by kernel_rfl) (by kernel_rfl) (by kernel_rfl) (fun _ _ _ h => h) (Or.inl ⟨by rfl, ?y1⟩) (by assumption) ?_
  case y1 =>
    intro w hSw
    try dsimp only at hSw
    go_simp
    try (with_reducible rfl)
  simp only [Act.put, List.setIfInBounds_toArray, List.set_cons_zero, List.set_cons_succ]
  refine zTake 1 [1, 2, 3, 4, 5, 8, 11] (v := ?_) rfl (by kernel_rfl) (by kernel_rfl) (by kernel_rfl) (by kernel_rfl) (by kernel_rfl) (fun _ _ _ h => h) (Or.inl ⟨by rfl, ?y2⟩) (by assumption) ?_
  case y2 =>
    intro w hSw
    try dsimp only at hSw
    go_simp
    try (with_reducible rfl)
  simp only [Act.put, List.setIfInBounds_toArray, List.set_cons_zero, List.set_cons_succ]
  refine zTake 2 [2, 3, 4, 5, 8, 11] (v := ?_) rfl (by kernel_rfl) (by kernel_rfl) (by kernel_rfl) (by kernel_rfl) (by kernel_rfl) (fun _ _ _ h => h) (Or.inl ⟨by rfl, ?y3⟩) (by assumption) ?_
  case y3 =>
    intro w hSw
    try dsimp only at hSw
    go_simp
    try (with_reducible rfl)
  simp only [Act.put, List.setIfInBounds_toArray, List.set_cons_zero, List.set_cons_succ]
  refine zTake 3 [3, 4, 5, 8, 11] (v := ?_) rfl (by kernel_rfl) (by kernel_rfl) (by kernel_rfl) (by kernel_rfl) (by kernel_rfl) (fun _ _ _ h => h) (Or.inl ⟨by rfl, ?y4⟩) (by assumption) ?_
  case y4 =>
    intro w hSw
    try dsimp only at hSw
    go_simp
    try (with_reducible rfl)
  simp only [Act.put, List.setIfInBounds_toArray, List.set_cons_zero, List.set_cons_succ]
  refine zTake 4 [4, 5, 8, 11] (v := ?_) rfl (by kernel_rfl) (by kernel_rfl) (by kernel_rfl) (by kernel_rfl) (by kernel_rfl) (fun _ _ _ h => h) (Or.inl ⟨by rfl, ?y5⟩) (by assumption) ?_
  case y5 =>
    intro w hSw
    try dsimp only at hSw
    go_simp
    try (with_reducible rfl)
  simp only [Act.put, List.setIfInBounds_toArray, List.set_cons_zero, List.set_cons_succ]
  refine zTake 5 [5, 8, 11] (v := ?_) rfl (by kernel_rfl) (by kernel_rfl) (by kernel_rfl) (by kernel_rfl) (by kernel_rfl) (fun _ _ _ h => h) (Or.inl ⟨by rfl, ?y6⟩) (by assumption) ?_
  case y6 =>
    intro w hSw
    try dsimp only at hSw
    go_simp
    try (with_reducible rfl)
  simp only [Act.put, List.setIfInBounds_toArray, List.set_cons_zero, List.set_cons_succ]
  refine zTake 6 [6, 7, 8, 11] (v := ?_) rfl (by kernel_rfl) (by kernel_rfl) (by kernel_rfl) (by kernel_rfl) (by kernel_rfl) (fun _ _ _ h => h) (Or.inl ⟨by rfl, ?y7⟩) (by assumption) ?_
  case y7 =>
    intro w hSw
    try dsimp only at hSw
    go_simp
    try (with_reducible rfl)
  simp only [Act.put, List.setIfInBounds_toArray, List.set_cons_zero, List.set_cons_succ]
  refine zTake 7 [7, 8, 11] (v := ?_) rfl (by kernel_rfl) (by kernel_rfl) (by kernel_rfl) (by kernel_rfl) (by kernel_rfl) (fun _ _ _ h => h) (Or.inl ⟨by rfl, ?y8⟩) (by assumption) ?_
  case y8 =>
    intro w hSw
    try dsimp only at hSw
    go_simp
    try (with_reducible rfl)
  simp only [Act.put, List.setIfInBounds_toArray, List.set_cons_zero, List.set_cons_succ]
  refine zOne 8 (by kernel_rfl) rfl ?_
  intro K hK
  refine step_append_ex (by rfl) _ _ 32 (by rfl) (.slice A 0 ncap) (.slice (some ⟨wb, 0, none⟩) nw wcap) (by rfl) (by rfl) (app_buf _ A ncap wb nw wcap ws (own_kept oX (Kept.drew (Kept.refl (fun _ => False) X)) (fun _ _ e => e)) HN.out (by omega) h5 hroom (fun j hj => (kX.drew.cell (a := ⟨wb, j, none⟩) hwb (fun e => e)).trans (hc.out j hj))) ?_
  rintro _ w1 ⟨g, gcap, rfl, o1, hg, hat⟩
  have k1 : Kept (fun b => A.map Addr.block = some b) w w1 := (kX.drew.mono (fun _ e => e.elim)).grown hg (fun b _ e => e)
  have hA : ∀ b, A.map Addr.block = some b → b < w.heap.size ∧ b ≠ vb := by
    intro b hb
    have hb' : (Value.slice A 0 ncap).ownBlock = some b := by cases A with | none => cases hb | some a => exact hb
    obtain ⟨cs, hcs, _⟩ := h
    exact ⟨(ownsRow_lt hown hb').2, fun e => obj_own_ne hcs hown (by decide) (e ▸ hb')⟩
  have b51 : w1.heap[w.heap.size]? = some (.cells #[.int .i64 lev, .slice (some ⟨eb, 0, none⟩) k cap, .int .i64 r, .int .i64 c, .int .i64 e, .slice (some ⟨wb, 0, none⟩) nw wcap] 52 (0, 0)) := (hg.block _ (by show _ < X.heap.size; omega) (fun e => by have := (hA _ e.symm).1; omega)).trans b5
  have b81 : w1.heap[w.heap.size + 1]? = some (.cells #[.int .i64 0, .slice none 0 0, .int .i64 0, .int .i64 0, .int .i64 0, .slice none 0 0] 52 (0, 0)) := (hg.block _ (by show _ < X.heap.size; omega) (fun e => by have := (hA _ e.symm).1; omega)).trans b8
  have v1 : VObj vb n me (.slice A m ncap) w1 := h.kept k1 (fun e => (hA _ e).2 rfl)
  have hat' : (A = none ∧ w.heap.size ≤ g) ∨ (A = some ⟨g, 0, none⟩ ∧ gcap = ncap) := by
    rcases hat with ⟨h1, h2⟩ | h1
    · refine Or.inl ⟨h1, ?_⟩
      have : X.heap.size ≤ g := h2
      omega
    · exact Or.inr h1
  have hgv : g ≠ vb ∧ g ≠ w.heap.size ∧ g ≠ w.heap.size + 1 := by
    rcases hat with ⟨_, h2⟩ | ⟨h1, _⟩
    · have : X.heap.size ≤ g := h2
      omega
    · have := hA g (by rw [h1]; rfl)
      omega
  refine hK.out _ _ (fun _ => ⟨v1.cells.2.2.2.1, (cell_of_block b51 5).trans rfl⟩) ?_
  clear hK K hS0
  simp only [Act.put, List.setIfInBounds_toArray, List.set_cons_zero, List.set_cons_succ]
  have hS0 : w1.cell? ⟨vb, 73, none⟩ = some (.slice A m ncap) ∧ w1.cell? ⟨w.heap.size, 5, none⟩ = some (.slice (some ⟨wb, 0, none⟩) nw wcap) := ⟨v1.cells.2.2.2.1, (cell_of_block b51 5).trans rfl⟩
  refine zTake 9 [9, 10, 11] (v := ?_) rfl (by kernel_rfl) (by kernel_rfl) (by kernel_rfl) (by kernel_rfl) (by kernel_rfl) (fun _ _ _ h => h) (Or.inl ⟨by rfl, ?y9⟩) (by assumption) ?_
  case y9 =>
    intro w hSw
    try dsimp only at hSw
    go_simp
    try (with_reducible rfl)
  simp only [Act.put, List.setIfInBounds_toArray, List.set_cons_zero, List.set_cons_succ]
  refine zTake 10 [10, 11] (v := ?_) rfl (by kernel_rfl) (by kernel_rfl) (by kernel_rfl) (by kernel_rfl) (by kernel_rfl) (fun _ _ _ h => h) (Or.inl ⟨by rfl, ?y10⟩) (by assumption) ?_
  case y10 =>
    intro w hSw
    try dsimp only at hSw
    go_simp
    try (with_reducible rfl)
  simp only [Act.put, List.setIfInBounds_toArray, List.set_cons_zero, List.set_cons_succ]
  refine zOne 11 (by kernel_rfl) rfl ?_
  intro K hK
  have hf73 := v1.cells.2.2.2.2.2.1
  go_simp
  refine hK.out _ _ (fun h => absurd rfl h) ?_
  refine wpAnyZ_done (by kernel_rfl) ?_ _
  clear hK K hS0
  have v2 := v1.set73 (.slice (some ⟨g, 0, none⟩) nw gcap)
  have k2 : Kept (fun b => b = vb ∨ A.map Addr.block = some b) w (w1.setCell ⟨vb, 73, none⟩ (.slice (some ⟨g, 0, none⟩) nw gcap)) := Kept.setCell (S := fun b => b = vb ∨ A.map Addr.block = some b) (k1.mono (fun _ e => Or.inr e)) (fun _ => Or.inl rfl) _
  have s2 : Kept (fun b => b = vb) w1 (w1.setCell ⟨vb, 73, none⟩ (.slice (some ⟨g, 0, none⟩) nw gcap)) := Kept.setCell (S := fun b => b = vb) (Kept.refl _ _) (fun _ => rfl) _
  have o2 := own_kept o1 s2 (fun b hb e => by simp only [Value.ownBlock, Option.some.injEq] at hb; omega)
  have b52 := s2.obj b51 (by omega)
  have b82 := s2.obj b81 (by omega)
  generalize w1.setCell ⟨vb, 73, none⟩ (.slice (some ⟨g, 0, none⟩) nw gcap) = Y at v2 k2 s2 o2 b52 b82 ⊢
  clear hf73 b5 b8 b51 b81
  have c73 := v2.cells.2.2.2.1
  have hfr : Y.frozen? ⟨g, i * 5 + 4, none⟩ = false := by
    rcases o2.2 with ⟨e1, _⟩ | ⟨g', cap', cur, e1, _, h3, _⟩
    · cases e1
    · simp only [Value.slice.injEq, Option.some.injEq, Addr.mk.injEq, and_true] at e1
      obtain ⟨rfl, _⟩ := e1
      exact frozen_of_block h3 _
  obtain ⟨u, hce⟩ : ∃ u, Y.cell? ⟨g, i * 5 + 4, none⟩ = some u := by
    have hlen : i * 5 + 4 < (wcells ws).length := by rw [wcells_len, HN.out]; omega
    rcases own_cells o2 with ⟨e1, _⟩ | ⟨g', cap', e1, _, h1⟩
    · cases e1
    · simp only [Value.slice.injEq, Option.some.injEq, Addr.mk.injEq, and_true] at e1
      obtain ⟨rfl, _⟩ := e1
      rw [h1 _ (by omega)]
      exact ⟨_, List.getElem?_eq_getElem hlen⟩
  have c50 : Y.cell? ⟨w.heap.size, 0, none⟩ = _ := cell_of_block b52 0
  have c51 : Y.cell? ⟨w.heap.size, 1, none⟩ = _ := cell_of_block b52 1
  have c52 : Y.cell? ⟨w.heap.size, 2, none⟩ = _ := cell_of_block b52 2
  have c53 : Y.cell? ⟨w.heap.size, 3, none⟩ = _ := cell_of_block b52 3
  have c54 : Y.cell? ⟨w.heap.size, 4, none⟩ = _ := cell_of_block b52 4
  have c55 : Y.cell? ⟨w.heap.size, 5, none⟩ = _ := cell_of_block b52 5
  simp only [List.getElem?_toArray, List.getElem?_cons_zero, List.getElem?_cons_succ] at c50 c51 c52 c53 c54 c55
  obtain ⟨n1, n2, n3⟩ := hgv
  have n2' := Ne.symm n2
  have n1' := Ne.symm n1
  have s3 : Kept (fun b => b = g) Y (Y.setCell ⟨g, i * 5 + 4, none⟩ (.int .i64 st)) := Kept.setCell (S := fun b => b = g) (Kept.refl _ _) (fun _ => rfl) _
  have v3 := v2.kept s3 n1'
  have b53 := s3.obj b52 n2'
  have b83 := s3.obj b82 (Ne.symm n3)
  have o3 := own_set o2 (i * 5 + 4) (.int .i64 st)
  rw [← wcells_set st ws i (by rw [HN.out]; exact hi)] at o3
  have k3 : Kept (fun b => b = vb ∨ A.map Addr.block = some b) w (Y.setCell ⟨g, i * 5 + 4, none⟩ (.int .i64 st)) := Kept.setCell (S := fun b => b = vb ∨ A.map Addr.block = some b) k2 (fun hl => by
    rcases hat' with ⟨_, h2⟩ | ⟨h2, _⟩
    · have : g < w.heap.size := hl
      omega
    · exact Or.inr (by rw [h2]; rfl)) _
  have HV : Hid (VObj vb n me (.slice (some ⟨g, 0, none⟩) nw gcap) (Y.setCell ⟨g, i * 5 + 4, none⟩ (.int .i64 st))) := v3
  clear zX vX kX oX o1 k1 hg v1 s2 hat hown v2 k2 o2 b52 b82 s3 v3
  go_wp2_with (go_at_call 15; refine (nextCh_any HV.out _ _ _ _ _ _ _ _ _ _ _ (by omega)).mono ?_; rintro _ Z ⟨rfl, k4, v4⟩; have z5 := six (k4.obj b53 (by omega)); have z8 := six (k4.obj b83 (by omega)); have H8 : Hid (Z.heap[w.heap.size + 1]? = _) := k4.obj b83 (by omega); have z73 := v4.cells.2.2.2.1; clear b53 b83 c73 hfr hce c50 c51 c52 c53 c54 c55; obtain ⟨d1, d2, d3, d4, d5, d6, d7, d8, d9, d10, d11, d12⟩ := z5; obtain ⟨f1, f2, f3, f4, f5, f6, f7, f8, f9, f10, f11, f12⟩ := z8)
  have sA : Kept (fun b => b = w.heap.size) Z (Z.setCell ⟨w.heap.size, 5, none⟩ (.slice (some ⟨g, 0, none⟩) nw gcap)) := Kept.setCell (S := fun b => b = w.heap.size) (Kept.refl _ _) (fun _ => rfl) _
  have bF := heap_setCell_same (heap_setCell_same (heap_setCell_same (heap_setCell_same (heap_setCell_same (heap_setCell_same (sA.obj H8.out (by omega)) 0 (.int .i64 lev)) 1 (.slice (some ⟨eb, 0, none⟩) k cap)) 2 (.int .i64 r)) 3 (.int .i64 c)) 4 (.int .i64 e)) 5 (.slice (some ⟨g, 0, none⟩) nw gcap)
  simp only [List.setIfInBounds_toArray, List.set_cons_zero, List.set_cons_succ] at bF
  have sF : Kept (fun b => b = w.heap.size ∨ b = w.heap.size + 1) Z ((((((((Z.setCell ⟨w.heap.size, 5, none⟩ (.slice (some ⟨g, 0, none⟩) nw gcap)).setCell ⟨w.heap.size + 1, 0, none⟩ (.int .i64 lev)).setCell ⟨w.heap.size + 1, 1, none⟩ (.slice (some ⟨eb, 0, none⟩) k cap)).setCell ⟨w.heap.size + 1, 2, none⟩ (.int .i64 r)).setCell ⟨w.heap.size + 1, 3, none⟩ (.int .i64 c)).setCell ⟨w.heap.size + 1, 4, none⟩ (.int .i64 e)).setCell ⟨w.heap.size + 1, 5, none⟩ (.slice (some ⟨g, 0, none⟩) nw gcap))) := by
    have sB : Kept (fun b => b = w.heap.size ∨ b = w.heap.size + 1) Z (Z.setCell ⟨w.heap.size, 5, none⟩ (.slice (some ⟨g, 0, none⟩) nw gcap)) := sA.mono (fun _ e => Or.inl e)
    iterate 6 refine Kept.setCell (S := fun b => b = w.heap.size ∨ b = w.heap.size + 1) ?_ (fun _ => Or.inr rfl) _
    exact sB
  generalize ((((((((Z.setCell ⟨w.heap.size, 5, none⟩ (.slice (some ⟨g, 0, none⟩) nw gcap)).setCell ⟨w.heap.size + 1, 0, none⟩ (.int .i64 lev)).setCell ⟨w.heap.size + 1, 1, none⟩ (.slice (some ⟨eb, 0, none⟩) k cap)).setCell ⟨w.heap.size + 1, 2, none⟩ (.int .i64 r)).setCell ⟨w.heap.size + 1, 3, none⟩ (.int .i64 c)).setCell ⟨w.heap.size + 1, 4, none⟩ (.int .i64 e)).setCell ⟨w.heap.size + 1, 5, none⟩ (.slice (some ⟨g, 0, none⟩) nw gcap))) = F at bF sF ⊢
  have bz := six bF
  clear bF d1 d2 d3 d4 d5 d6 d7 d8 d9 d10 d11 d12 f1 f2 f3 f4 f5 f6 f7 f8 f9 f10 f11 f12 sA z73
  have k5 := k3.trans k4 (fun _ _ e => Or.inl e)
  have hzs := k3.size
  obtain ⟨q0, q1, q2, q3, q4, q5, _⟩ := bz
  refine bodyPost_ret (v := .agg #[.int .i64 lev, .slice (some ⟨eb, 0, none⟩) k cap, .int .i64 r, .int .i64 c, .int .i64 e, .slice (some ⟨g, 0, none⟩) nw gcap]) (by simp [results, Ybad.results17, go_sem, q0, q1, q2, q3, q4, q5, Result.andThen_ok]) rfl ?_
  exact ⟨g, gcap, rfl, k5.trans sF (fun j hj e => by rcases e with e | e <;> omega), v4.kept sF (by omega), own_kept (own_kept o3 k4 (fun b hb e => by simp only [Value.ownBlock, Option.some.injEq] at hb; omega)) sF (fun b hb e => by simp only [Value.ownBlock, Option.some.injEq] at hb; omega), hat'⟩
end Go.Proofs.YbulkejpeDoor
