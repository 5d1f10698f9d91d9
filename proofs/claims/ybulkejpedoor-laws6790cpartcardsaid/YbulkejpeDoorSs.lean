/- search.StoreSteps (18) and verifier.storeSteps (11). -/
import Derived.Test.YbulkejpeDoorYld
import Derived.Test.YbulkejpeDoorSts
namespace Go.Proofs.YbulkejpeDoor
open Go Go.RowKit Go.Shelf
attribute [local go_sem] Oper.semAt_some

theorem stSeq_any (lev e : Int) (A : Option Addr) (n cap : Nat) (r c : Int) (loss : Bool) (w : World) : Calls Ybad.prog 18 #[stV lev e (.slice A n cap) r c, .bool loss] w fun e' w' => e' = .returned (.func (.func 22) #[] #[.pointer (some ⟨w.heap.size, 0, none⟩), .pointer (some ⟨w.heap.size + 1, 0, none⟩)]) ∧ w' = (w.alloc (.cells #[.int .i64 lev, .slice A n cap, .int .i64 r, .int .i64 c, .int .i64 e] 31)).alloc (.cells #[.bool loss] 4) := by
  unfold stV
  go_enter Ybad.func18, Ybad.ntmps18
  go_wp2
  go_ret
  exact ⟨rfl, rfl⟩

/-- The event of one of the store's own steps. -/
def evS (lev e : Int) (n r c : Nat) (ws : List Wr) : It → Ev
  | .inl x => ⟨⟨0, 0, 0, x.1, x.2, 0, 0⟩, lev, x.1, x.2, e, n, ws⟩
  | .inr k => ⟨⟨0, 0, 0, 0, 0, k, e + 1⟩, lev, r, c, e + 1, k, ws⟩

variable {B cb rb lb : Nat} {lim : Int} {E : List (ByteArray × ByteArray)} {T : Nat → Prop} {G : List Ev} {W : World}

def mvS (e : Int) : It → Array Value
  | .inl x => #[.int .i64 x.1, .int .i64 x.2, .int .i64 0, .int .i64 0]
  | .inr k => #[.int .i64 0, .int .i64 0, .int .i64 k, .int .i64 (e + 1)]
def stS (lev e : Int) (eb ecap n r c : Nat) : It → Array Value
  | .inl x => #[.int .i64 lev, .slice (some ⟨eb, 0, none⟩) n ecap, .int .i64 x.1, .int .i64 x.2, .int .i64 e]
  | .inr k => #[.int .i64 lev, .slice (some ⟨eb, 0, none⟩) k k, .int .i64 r, .int .i64 c, .int .i64 (e + 1)]

theorem flat_len {α β : Type} (f : α → List β) (M : Nat) : ∀ l : List α, (∀ a ∈ l, (f a).length ≤ M) → (l.flatMap f).length ≤ l.length * M
  | [], _ => by simp
  | a :: l, h => by
    have h1 := flat_len f M l (fun b hb => h b (by simp [hb]))
    have h2 := h a (by simp)
    simp only [List.flatMap_cons, List.length_append, List.length_cons, Nat.add_mul]
    omega
theorem stps_len (r c n : Nat) (loss : Bool) (hn : n ≤ 512) : (stps r c n loss).length ≤ 263681 := by
  have h1 : (repls r c n).length ≤ (n + 1 - c) * 513 := by
    have := flat_len (fun i => row r c (c + i) (c + i + 1 - r)) 513 (List.range (n + 1 - c)) (fun i hi => by
      have hi' := List.mem_range.1 hi
      refine Nat.le_trans (List.length_filter_le _ _) ?_
      simp
      omega)
    simpa [repls] using this
  have h2 : (n + 1 - c) * 513 ≤ 513 * 513 := Nat.mul_le_mul_right 513 (by omega)
  simp only [stps, List.length_append, List.length_map]
  split
  · simp
    omega
  · simp
    omega
theorem ecells_take (E : List (ByteArray × ByteArray)) (k j : Nat) (hk : k ≤ E.length) (hj : j < k * 2) : (ecells (E.take k))[j]? = (ecells E)[j]? := by
  have h : ecells E = ecells (E.take k) ++ ecells (E.drop k) := by
    unfold ecells
    rw [← List.flatMap_append, List.take_append_drop]
  rw [h, List.getElem?_append_left (by rw [ecells_len, List.length_take, Nat.min_eq_left hk]; exact hj)]
theorem stps_mem {r c n k : Nat} {loss : Bool} {pre : List It} (h : pre ++ [.inr k] <+: stps r c n loss) : k ≤ n := by
  have : (Sum.inr k : It) ∈ stps r c n loss := h.subset (by simp)
  simp only [stps, List.mem_append, List.mem_map] at this
  rcases this with ⟨x, _, hx⟩ | this
  · cases hx
  · split at this
    · simp only [List.mem_map, List.mem_range] at this
      obtain ⟨j, hj, hx⟩ := this
      cases hx
      omega
    · simp at this

/-- Yield asks for more. -/
def more (lim : Int) (m : Nat) : Prop := lim = 0 ∨ (m : Int) < lim

theorem ssAbide {W W0 : World} {lev e : Int} {n r c : Nat} {ws : List Wr} (R : List It → Prop) : Abide W0.heap.size (fun T' pre Y => (RecAt B cb rb lb lim E (fun k => T' k ∨ T k ∨ (W.heap.size ≤ k ∧ k < W0.heap.size)) (G ++ pre.map (evS lev e n r c ws)) Y ∧ (∀ k, T' k → k < Y.heap.size)) ∧ R pre ∧ Kept (fun b => ¬ (T b ∨ (W.heap.size ≤ b ∧ b < W0.heap.size))) W0 Y) := by
  have kg : ∀ {A B' : World} {row : Option Nat}, Kept (fun b => ¬ (T b ∨ (W.heap.size ≤ b ∧ b < W0.heap.size))) W0 A → A.grownBy B' row → (∀ r, row = some r → W0.heap.size ≤ r) → Kept (fun b => ¬ (T b ∨ (W.heap.size ≤ b ∧ b < W0.heap.size))) W0 B' := fun hk hg hr =>
    ⟨hg.os.trans hk.os, hg.tape.trans hk.tape, hg.output.trans hk.output, Nat.le_trans hk.size hg.size, fun k hk1 hn => (hg.block k (Nat.lt_of_lt_of_le hk1 hk.size) (fun e => by have := hr k e.symm; omega)).trans (hk.block k hk1 hn)⟩
  refine ⟨fun T' pre A B' row hs hg hr => ⟨⟨(RecAt.abide W0.heap.size).own _ _ A B' row hs.1.1 hg hr, fun k hk => Nat.lt_of_lt_of_le (hs.1.2 k hk) hg.size⟩, hs.2.1, kg hs.2.2 hg (fun r e => (hr r e).1)⟩, fun T' pre A B' hs hg => ⟨⟨?_, ?_⟩, hs.2.1, kg hs.2.2 hg (fun r e => by cases e)⟩, fun T' T'' pre A hs hsub => ⟨⟨(RecAt.abide W0.heap.size).less _ _ _ _ hs.1.1 (fun k hk => hk.imp (hsub k) id), fun k hk => hs.1.2 k (hsub k hk)⟩, hs.2⟩⟩
  · exact set_eq (J := fun T G W => RecAt B cb rb lb lim E T G W) ((RecAt.abide W0.heap.size).add _ _ A B' hs.1.1 hg) (fun k => or_right_comm)
  · rintro k (hk | hk)
    · exact Nat.lt_of_lt_of_le (hs.1.2 k hk) hg.size
    · exact hk.2

/-- A statement that does not panic: what lies behind its panics does not matter. -/
theorem wpIn_calm {F : Fence} {n : Nat} {P : Program} {c : Code} {K : Act → World → Prop} {Q : Exit → Act → World → Prop} {a : Act} {w : World} (h : c.wpIn F n P (Exit.then K (fun _ _ _ => False)) a w) : c.wpIn F n P (Exit.then K Q) a w := by
  refine wpIn_mono h ?_
  intro e a' w' h'
  cases e with
  | normal => exact h'
  | exit id => exact h'.elim
  | goto l => exact h'.elim
  | ret => exact h'.elim
  | panic x => exact h'.elim
  | outgrown => exact h'.elim

/-- The first range over a function of a text. -/
def rf : Code → Option Code
  | .rangeFunc g ps a b => some (.rangeFunc g ps a b)
  | .seq a b => match rf a with
    | some c => some c
    | none => rf b
  | .block _ c => rf c
  | .scope c => rf c
  | _ => none

set_option maxRecDepth 100000 in
set_option maxHeartbeats 4000000 in
theorem ssRange (lev e : Int) (me : Int) (vb eb ecap wb wcap nw n r c : Nat) (ws : List Wr) (h : RecAt B cb rb lb lim E T G W) (hBW : B ≤ W.heap.size) (hT : ∀ k, T k → k < W.heap.size) (hlr : lb ≠ rb) (hmore : more lim G.length) (hG : G.length ≤ 10000)
    (hTs : T vb ∧ T eb ∧ T wb) (hrc : r ≤ c) (hcn : c ≤ n) (hn : n ≤ 512) (hcap : n ≤ ecap) (he0 : 0 ≤ e) (he1 : e ≤ 1000) (hEn : E.length = n) (HN : Hid (ws.length = nw)) (hw5 : nw ≤ 512)
    (hE : Hid (∀ j, j < n * 2 → W.cell? ⟨eb, j, none⟩ = (ecells E)[j]?)) (hWs : Hid (∀ j, j < ws.length * 5 → W.cell? ⟨wb, j, none⟩ = (wcells ws)[j]?)) (hlim0 : 0 ≤ lim) (hlim1 : lim ≤ 100000) :
    Code.wpIn Fence.wide 0 Ybad.prog ((Ybad.f11.body.bind rf).getD .skip) (Exit.inBlock 0 (bodyPostM Fence.wide 0 Ybad.prog Ybad.f11 (fun e' W' =>
      e' = .returned (.tuple #[]) ∧ Kept (fun b => ¬ T b) W W' ∧ ∃ pre, pre <+: stps r c n (decide (e < me)) ∧ RecAt B cb rb lb lim E T (G ++ pre.map (evS lev e n r c ws)) W' ∧ ((pre = stps r c n (decide (e < me)) ∧ more lim (G.length + pre.length)) ∨ (lim ≠ 0 ∧ ((G.length + pre.length : Nat) : Int) = lim))))) ⟨#[.pointer (some ⟨vb, 0, none⟩), .agg #[.int .i64 lev, .slice (some ⟨eb, 0, none⟩) n ecap, .int .i64 r, .int .i64 c, .int .i64 e, .slice (some ⟨wb, 0, none⟩) nw wcap], (.func (.func 6) #[] #[.pointer (some ⟨cb, 0, none⟩), .pointer (some ⟨rb, 0, none⟩), .pointer (some ⟨lb, 0, none⟩)]), undef, .pointer (some ⟨W.heap.size, 0, none⟩), .pointer (some ⟨W.heap.size + 1, 0, none⟩), undef, undef, .pointer (some ⟨W.heap.size, 0, none⟩), .agg #[.int .i64 lev, .slice (some ⟨eb, 0, none⟩) n ecap, .int .i64 r, .int .i64 c, .int .i64 e], .pointer (some ⟨W.heap.size, 0, none⟩), .pointer (some ⟨W.heap.size, 4, none⟩), .int .i64 e, .pointer (some ⟨vb, 0, none⟩), .pointer (some ⟨vb, 0, none⟩), .pointer (some ⟨vb, 0, none⟩), .pointer (some ⟨vb, 4, none⟩), .int .i64 me, .bool (decide (e < me)), .func (.func 22) #[] #[.pointer (some ⟨W.heap.size + 1 + 1, 0, none⟩), .pointer (some ⟨W.heap.size + 1 + 1 + 1, 0, none⟩)], undef, undef, undef, undef, undef, undef, undef, undef, undef, undef, undef], []⟩ (((((W.alloc (.cells #[.int .i64 lev, .slice (some ⟨eb, 0, none⟩) n ecap, .int .i64 r, .int .i64 c, .int .i64 e, .slice (some ⟨wb, 0, none⟩) nw wcap] 52)).alloc (.cells #[(.func (.func 6) #[] #[.pointer (some ⟨cb, 0, none⟩), .pointer (some ⟨rb, 0, none⟩), .pointer (some ⟨lb, 0, none⟩)])] 76)).alloc (.cells #[.int .i64 lev, .slice (some ⟨eb, 0, none⟩) n ecap, .int .i64 r, .int .i64 c, .int .i64 e] 31)).alloc (.cells #[.bool (decide (e < me))] 4)).drew) := by
  conv => arg 4; whnf
  have hB0 : Below W.heap.size W (((((W.alloc (.cells #[.int .i64 lev, .slice (some ⟨eb, 0, none⟩) n ecap, .int .i64 r, .int .i64 c, .int .i64 e, .slice (some ⟨wb, 0, none⟩) nw wcap] 52)).alloc (.cells #[(.func (.func 6) #[] #[.pointer (some ⟨cb, 0, none⟩), .pointer (some ⟨rb, 0, none⟩), .pointer (some ⟨lb, 0, none⟩)])] 76)).alloc (.cells #[.int .i64 lev, .slice (some ⟨eb, 0, none⟩) n ecap, .int .i64 r, .int .i64 c, .int .i64 e] 31)).alloc (.cells #[.bool (decide (e < me))] 4)).drew) := (((((Below.refl _ _).alloc (Nat.le_refl _) _).alloc (by simp) _).alloc (by simp; omega) _).alloc (by simp; omega) _).drew
  have hz0 : (((((W.alloc (.cells #[.int .i64 lev, .slice (some ⟨eb, 0, none⟩) n ecap, .int .i64 r, .int .i64 c, .int .i64 e, .slice (some ⟨wb, 0, none⟩) nw wcap] 52)).alloc (.cells #[(.func (.func 6) #[] #[.pointer (some ⟨cb, 0, none⟩), .pointer (some ⟨rb, 0, none⟩), .pointer (some ⟨lb, 0, none⟩)])] 76)).alloc (.cells #[.int .i64 lev, .slice (some ⟨eb, 0, none⟩) n ecap, .int .i64 r, .int .i64 c, .int .i64 e] 31)).alloc (.cells #[.bool (decide (e < me))] 4)).drew).heap.size = W.heap.size + 4 := by simp
  have h4 : (((((W.alloc (.cells #[.int .i64 lev, .slice (some ⟨eb, 0, none⟩) n ecap, .int .i64 r, .int .i64 c, .int .i64 e, .slice (some ⟨wb, 0, none⟩) nw wcap] 52)).alloc (.cells #[(.func (.func 6) #[] #[.pointer (some ⟨cb, 0, none⟩), .pointer (some ⟨rb, 0, none⟩), .pointer (some ⟨lb, 0, none⟩)])] 76)).alloc (.cells #[.int .i64 lev, .slice (some ⟨eb, 0, none⟩) n ecap, .int .i64 r, .int .i64 c, .int .i64 e] 31)).alloc (.cells #[.bool (decide (e < me))] 4)).drew).heap[W.heap.size]? = some (.cells #[.int .i64 lev, .slice (some ⟨eb, 0, none⟩) n ecap, .int .i64 r, .int .i64 c, .int .i64 e, .slice (some ⟨wb, 0, none⟩) nw wcap] 52 (0, 0)) := by
    show ((((W.alloc (.cells #[.int .i64 lev, .slice (some ⟨eb, 0, none⟩) n ecap, .int .i64 r, .int .i64 c, .int .i64 e, .slice (some ⟨wb, 0, none⟩) nw wcap] 52)).alloc (.cells #[(.func (.func 6) #[] #[.pointer (some ⟨cb, 0, none⟩), .pointer (some ⟨rb, 0, none⟩), .pointer (some ⟨lb, 0, none⟩)])] 76)).alloc (.cells #[.int .i64 lev, .slice (some ⟨eb, 0, none⟩) n ecap, .int .i64 r, .int .i64 c, .int .i64 e] 31)).alloc (.cells #[.bool (decide (e < me))] 4)).heap[W.heap.size]? = _
    rw [heap_alloc_old _ _ (by simp; omega), heap_alloc_old _ _ (by simp; omega), heap_alloc_old _ _ (by simp), heap_alloc_new]
  have h5 : (((((W.alloc (.cells #[.int .i64 lev, .slice (some ⟨eb, 0, none⟩) n ecap, .int .i64 r, .int .i64 c, .int .i64 e, .slice (some ⟨wb, 0, none⟩) nw wcap] 52)).alloc (.cells #[(.func (.func 6) #[] #[.pointer (some ⟨cb, 0, none⟩), .pointer (some ⟨rb, 0, none⟩), .pointer (some ⟨lb, 0, none⟩)])] 76)).alloc (.cells #[.int .i64 lev, .slice (some ⟨eb, 0, none⟩) n ecap, .int .i64 r, .int .i64 c, .int .i64 e] 31)).alloc (.cells #[.bool (decide (e < me))] 4)).drew).heap[W.heap.size + 1]? = some (.cells #[(.func (.func 6) #[] #[.pointer (some ⟨cb, 0, none⟩), .pointer (some ⟨rb, 0, none⟩), .pointer (some ⟨lb, 0, none⟩)])] 76 (0, 0)) := by
    show ((((W.alloc (.cells #[.int .i64 lev, .slice (some ⟨eb, 0, none⟩) n ecap, .int .i64 r, .int .i64 c, .int .i64 e, .slice (some ⟨wb, 0, none⟩) nw wcap] 52)).alloc (.cells #[(.func (.func 6) #[] #[.pointer (some ⟨cb, 0, none⟩), .pointer (some ⟨rb, 0, none⟩), .pointer (some ⟨lb, 0, none⟩)])] 76)).alloc (.cells #[.int .i64 lev, .slice (some ⟨eb, 0, none⟩) n ecap, .int .i64 r, .int .i64 c, .int .i64 e] 31)).alloc (.cells #[.bool (decide (e < me))] 4)).heap[W.heap.size + 1]? = _
    rw [heap_alloc_old _ _ (by simp), heap_alloc_old _ _ (by simp)]
    have := heap_alloc_new (W.alloc (.cells #[.int .i64 lev, .slice (some ⟨eb, 0, none⟩) n ecap, .int .i64 r, .int .i64 c, .int .i64 e, .slice (some ⟨wb, 0, none⟩) nw wcap] 52)) (.cells #[(.func (.func 6) #[] #[.pointer (some ⟨cb, 0, none⟩), .pointer (some ⟨rb, 0, none⟩), .pointer (some ⟨lb, 0, none⟩)])] 76)
    simpa using this
  have h6 : (((((W.alloc (.cells #[.int .i64 lev, .slice (some ⟨eb, 0, none⟩) n ecap, .int .i64 r, .int .i64 c, .int .i64 e, .slice (some ⟨wb, 0, none⟩) nw wcap] 52)).alloc (.cells #[(.func (.func 6) #[] #[.pointer (some ⟨cb, 0, none⟩), .pointer (some ⟨rb, 0, none⟩), .pointer (some ⟨lb, 0, none⟩)])] 76)).alloc (.cells #[.int .i64 lev, .slice (some ⟨eb, 0, none⟩) n ecap, .int .i64 r, .int .i64 c, .int .i64 e] 31)).alloc (.cells #[.bool (decide (e < me))] 4)).drew).heap[W.heap.size + 1 + 1]? = some (.cells #[.int .i64 lev, .slice (some ⟨eb, 0, none⟩) n ecap, .int .i64 r, .int .i64 c, .int .i64 e] 31 (0, 0)) := by
    show ((((W.alloc (.cells #[.int .i64 lev, .slice (some ⟨eb, 0, none⟩) n ecap, .int .i64 r, .int .i64 c, .int .i64 e, .slice (some ⟨wb, 0, none⟩) nw wcap] 52)).alloc (.cells #[(.func (.func 6) #[] #[.pointer (some ⟨cb, 0, none⟩), .pointer (some ⟨rb, 0, none⟩), .pointer (some ⟨lb, 0, none⟩)])] 76)).alloc (.cells #[.int .i64 lev, .slice (some ⟨eb, 0, none⟩) n ecap, .int .i64 r, .int .i64 c, .int .i64 e] 31)).alloc (.cells #[.bool (decide (e < me))] 4)).heap[W.heap.size + 1 + 1]? = _
    rw [heap_alloc_old _ _ (by simp)]
    have := heap_alloc_new ((W.alloc (.cells #[.int .i64 lev, .slice (some ⟨eb, 0, none⟩) n ecap, .int .i64 r, .int .i64 c, .int .i64 e, .slice (some ⟨wb, 0, none⟩) nw wcap] 52)).alloc (.cells #[(.func (.func 6) #[] #[.pointer (some ⟨cb, 0, none⟩), .pointer (some ⟨rb, 0, none⟩), .pointer (some ⟨lb, 0, none⟩)])] 76)) (.cells #[.int .i64 lev, .slice (some ⟨eb, 0, none⟩) n ecap, .int .i64 r, .int .i64 c, .int .i64 e] 31)
    simpa using this
  have h7 : (((((W.alloc (.cells #[.int .i64 lev, .slice (some ⟨eb, 0, none⟩) n ecap, .int .i64 r, .int .i64 c, .int .i64 e, .slice (some ⟨wb, 0, none⟩) nw wcap] 52)).alloc (.cells #[(.func (.func 6) #[] #[.pointer (some ⟨cb, 0, none⟩), .pointer (some ⟨rb, 0, none⟩), .pointer (some ⟨lb, 0, none⟩)])] 76)).alloc (.cells #[.int .i64 lev, .slice (some ⟨eb, 0, none⟩) n ecap, .int .i64 r, .int .i64 c, .int .i64 e] 31)).alloc (.cells #[.bool (decide (e < me))] 4)).drew).heap[W.heap.size + 1 + 1 + 1]? = some (.cells #[.bool (decide (e < me))] 4 (0, 0)) := by
    show ((((W.alloc (.cells #[.int .i64 lev, .slice (some ⟨eb, 0, none⟩) n ecap, .int .i64 r, .int .i64 c, .int .i64 e, .slice (some ⟨wb, 0, none⟩) nw wcap] 52)).alloc (.cells #[(.func (.func 6) #[] #[.pointer (some ⟨cb, 0, none⟩), .pointer (some ⟨rb, 0, none⟩), .pointer (some ⟨lb, 0, none⟩)])] 76)).alloc (.cells #[.int .i64 lev, .slice (some ⟨eb, 0, none⟩) n ecap, .int .i64 r, .int .i64 c, .int .i64 e] 31)).alloc (.cells #[.bool (decide (e < me))] 4)).heap[W.heap.size + 1 + 1 + 1]? = _
    have := heap_alloc_new (((W.alloc (.cells #[.int .i64 lev, .slice (some ⟨eb, 0, none⟩) n ecap, .int .i64 r, .int .i64 c, .int .i64 e, .slice (some ⟨wb, 0, none⟩) nw wcap] 52)).alloc (.cells #[(.func (.func 6) #[] #[.pointer (some ⟨cb, 0, none⟩), .pointer (some ⟨rb, 0, none⟩), .pointer (some ⟨lb, 0, none⟩)])] 76)).alloc (.cells #[.int .i64 lev, .slice (some ⟨eb, 0, none⟩) n ecap, .int .i64 r, .int .i64 c, .int .i64 e] 31)) (.cells #[.bool (decide (e < me))] 4)
    simpa using this
  have hR0 : RecAt B cb rb lb lim E (fun k => T k ∨ (W.heap.size ≤ k ∧ k < (((((W.alloc (.cells #[.int .i64 lev, .slice (some ⟨eb, 0, none⟩) n ecap, .int .i64 r, .int .i64 c, .int .i64 e, .slice (some ⟨wb, 0, none⟩) nw wcap] 52)).alloc (.cells #[(.func (.func 6) #[] #[.pointer (some ⟨cb, 0, none⟩), .pointer (some ⟨rb, 0, none⟩), .pointer (some ⟨lb, 0, none⟩)])] 76)).alloc (.cells #[.int .i64 lev, .slice (some ⟨eb, 0, none⟩) n ecap, .int .i64 r, .int .i64 c, .int .i64 e] 31)).alloc (.cells #[.bool (decide (e < me))] 4)).drew).heap.size)) G (((((W.alloc (.cells #[.int .i64 lev, .slice (some ⟨eb, 0, none⟩) n ecap, .int .i64 r, .int .i64 c, .int .i64 e, .slice (some ⟨wb, 0, none⟩) nw wcap] 52)).alloc (.cells #[(.func (.func 6) #[] #[.pointer (some ⟨cb, 0, none⟩), .pointer (some ⟨rb, 0, none⟩), .pointer (some ⟨lb, 0, none⟩)])] 76)).alloc (.cells #[.int .i64 lev, .slice (some ⟨eb, 0, none⟩) n ecap, .int .i64 r, .int .i64 c, .int .i64 e] 31)).alloc (.cells #[.bool (decide (e < me))] 4)).drew) := (RecAt.abide 0).add T G W _ h (grownBy_of_below hB0)
  obtain ⟨W0, hW0⟩ : ∃ W0, W0 = ((((W.alloc (.cells #[.int .i64 lev, .slice (some ⟨eb, 0, none⟩) n ecap, .int .i64 r, .int .i64 c, .int .i64 e, .slice (some ⟨wb, 0, none⟩) nw wcap] 52)).alloc (.cells #[(.func (.func 6) #[] #[.pointer (some ⟨cb, 0, none⟩), .pointer (some ⟨rb, 0, none⟩), .pointer (some ⟨lb, 0, none⟩)])] 76)).alloc (.cells #[.int .i64 lev, .slice (some ⟨eb, 0, none⟩) n ecap, .int .i64 r, .int .i64 c, .int .i64 e] 31)).alloc (.cells #[.bool (decide (e < me))] 4)).drew := ⟨_, rfl⟩
  rw [← hW0] at hB0 hz0 h4 h5 h6 h7 hR0
  have HW0 : Hid (W0 = ((((W.alloc (.cells #[.int .i64 lev, .slice (some ⟨eb, 0, none⟩) n ecap, .int .i64 r, .int .i64 c, .int .i64 e, .slice (some ⟨wb, 0, none⟩) nw wcap] 52)).alloc (.cells #[(.func (.func 6) #[] #[.pointer (some ⟨cb, 0, none⟩), .pointer (some ⟨rb, 0, none⟩), .pointer (some ⟨lb, 0, none⟩)])] 76)).alloc (.cells #[.int .i64 lev, .slice (some ⟨eb, 0, none⟩) n ecap, .int .i64 r, .int .i64 c, .int .i64 e] 31)).alloc (.cells #[.bool (decide (e < me))] 4)).drew) := hW0
  clear hW0
  rw [← HW0.out]
  refine range_law (gf := 22) (lb := #[.pointer (some ⟨W.heap.size + 1 + 1, 0, none⟩), .pointer (some ⟨W.heap.size + 1 + 1 + 1, 0, none⟩)]) rfl (enters_of Ybad.func22 (by kernel_rfl) rfl) (sts_in lev e ⟨eb, 0, none⟩ n ecap r c (W.heap.size + 1 + 1) (W.heap.size + 1 + 1 + 1) (decide (e < me)) hrc hcn hn hcap he0 he1) (fun x => by cases x <;> rfl)
    (fun k => T k ∨ (W.heap.size ≤ k ∧ k < W0.heap.size)) (fun k hk => by rcases hk with hk | hk; have := hT k hk; omega; omega)
    (fun Y hY => ⟨fun k hk => by have := hY.size; rcases hk with hk | hk; have := hT k hk; omega; omega, .inr ⟨by omega, by omega⟩, .inr ⟨by omega, by omega⟩, by
      have hb := (hY.block (W.heap.size + 1 + 1) (by omega)).trans h6
      exact ⟨by rw [cell_of_block hb]; rfl, by rw [cell_of_block hb]; rfl, by rw [cell_of_block hb]; rfl, by rw [cell_of_block hb]; rfl, by rw [cell_of_block hb]; rfl⟩, by
      rw [cell_of_block ((hY.block (W.heap.size + 1 + 1 + 1) (by omega)).trans h7)]; rfl⟩)
    (fun T' pre Y => (RecAt B cb rb lb lim E (fun k => T' k ∨ T k ∨ (W.heap.size ≤ k ∧ k < W0.heap.size)) (G ++ pre.map (evS lev e n r c ws)) Y ∧ (∀ k, T' k → k < Y.heap.size)) ∧ more lim (G.length + pre.length) ∧ Kept (fun b => ¬ (T b ∨ (W.heap.size ≤ b ∧ b < W0.heap.size))) W0 Y)
    (fun T' pre Y => (RecAt B cb rb lb lim E (fun k => T' k ∨ T k ∨ (W.heap.size ≤ k ∧ k < W0.heap.size)) (G ++ pre.map (evS lev e n r c ws)) Y ∧ (∀ k, T' k → k < Y.heap.size)) ∧ (lim ≠ 0 ∧ ((G.length + pre.length : Nat) : Int) = lim) ∧ Kept (fun b => ¬ (T b ∨ (W.heap.size ≤ b ∧ b < W0.heap.size))) W0 Y)
    ?hI ?hIx ?h0
    (fun x a' Y => ∃ b6 b7, Y.heap[b6]? = some (.cells (mvS e x) 71 (0, 0)) ∧ Y.heap[b7]? = some (.cells (stS lev e eb ecap n r c x) 31 (0, 0)) ∧ a' = { tmps := #[.pointer (some ⟨vb, 0, none⟩), .agg #[.int .i64 lev, .slice (some ⟨eb, 0, none⟩) n ecap, .int .i64 r, .int .i64 c, .int .i64 e, .slice (some ⟨wb, 0, none⟩) nw wcap], (.func (.func 6) #[] #[.pointer (some ⟨cb, 0, none⟩), .pointer (some ⟨rb, 0, none⟩), .pointer (some ⟨lb, 0, none⟩)]), undef, .pointer (some ⟨W.heap.size, 0, none⟩), .pointer (some ⟨W.heap.size + 1, 0, none⟩), .pointer (some ⟨b6, 0, none⟩), .pointer (some ⟨b7, 0, none⟩), .pointer (some ⟨W.heap.size, 0, none⟩), .agg #[.int .i64 lev, .slice (some ⟨eb, 0, none⟩) n ecap, .int .i64 r, .int .i64 c, .int .i64 e], .pointer (some ⟨W.heap.size, 0, none⟩), .pointer (some ⟨W.heap.size, 4, none⟩), .int .i64 e, .pointer (some ⟨vb, 0, none⟩), .pointer (some ⟨vb, 0, none⟩), .pointer (some ⟨vb, 0, none⟩), .pointer (some ⟨vb, 4, none⟩), .int .i64 me, .bool (decide (e < me)), .func (.func 22) #[] #[.pointer (some ⟨W.heap.size + 1 + 1, 0, none⟩), .pointer (some ⟨W.heap.size + 1 + 1 + 1, 0, none⟩)], .agg (mvS e x), .agg (stS lev e eb ecap n r c x), undef, undef, undef, undef, undef, undef, undef, undef, undef], defers := [] })
    ?hAx ?assign ?body ?done ?stop
  case hI => exact ssAbide _
  case hIx => exact ssAbide _
  case h0 => exact ⟨⟨by simpa using set_eq (J := fun T G W => RecAt B cb rb lb lim E T G W) hR0 (fun k => by simp), fun k hk => by rcases hk with hk | hk; have := hT k hk; omega; omega⟩, by simpa using hmore, Kept.refl _ _⟩
  case hAx =>
    rintro x a' _ A B' row ⟨b6, b7, q6, q7, q8⟩ hg hr
    have tr : ∀ {b : Nat} {cs : Array Value} {t : TypeId}, A.heap[b]? = some (.cells cs t (0, 0)) → B'.heap[b]? = some (.cells cs t (0, 0)) := fun {b cs t} h1 => (hg.block b (Array.getElem?_eq_some_iff.1 h1).1 (fun e => by obtain ⟨_, o, ho, hc⟩ := hr b e.symm; rw [h1] at ho; cases ho; cases hc)).trans h1
    exact ⟨b6, b7, tr q6, tr q7, q8⟩
  case assign =>
    intro l' T' pre x Y K hi hK
    have hi2 := (ssAbide (B := B) (cb := cb) (rb := rb) (lb := lb) (lim := lim) (E := E) (G := G) (W0 := W0) (lev := lev) (e := e) (n := n) (r := r) (c := c) (ws := ws) (W := W) (T := T) (fun pre => more lim (G.length + pre.length))).own T' pre Y _ none hi (grownBy_of_below (((Below.refl Y.heap.size Y).alloc (Nat.le_refl _) (.cells (mvS e x) 71)).alloc (by simp) (.cells (stS lev e eb ecap n r c x) 31))) (fun r h => by cases h)
    have hk1 : KeepsFrom W0.heap.size Y ((Y.alloc (.cells (mvS e x) 71)).alloc (.cells (stS lev e eb ecap n r c x) 31)) := ((KeepsOthers.alloc _ _).trans (KeepsOthers.alloc _ _)).from _
    have hs1 : Same T' Y ((Y.alloc (.cells (mvS e x) 71)).alloc (.cells (stS lev e eb ecap n r c x) 31)) := ((Same.refl _ _).alloc (Nat.le_refl _) _).alloc (by simp) _
    have hx1 : ((Y.alloc (.cells (mvS e x) 71)).alloc (.cells (stS lev e eb ecap n r c x) 31)).heap[Y.heap.size]? = some (.cells (mvS e x) 71 (0, 0)) := by rw [heap_alloc_old _ _ (by simp), heap_alloc_new]
    have hx2 : ((Y.alloc (.cells (mvS e x) 71)).alloc (.cells (stS lev e eb ecap n r c x) 31)).heap[Y.heap.size + 1]? = some (.cells (stS lev e eb ecap n r c x) 31 (0, 0)) := by
      have := heap_alloc_new (Y.alloc (.cells (mvS e x) 71)) (.cells (stS lev e eb ecap n r c x) 31)
      simpa using this
    have hfin := hK _ _ hk1 hs1 hi2 ⟨Y.heap.size, Y.heap.size + 1, hx1, hx2, rfl⟩
    clear hk1 hs1 hi2 hx1 hx2
    cases x with
    | inl x =>
      simp only [mvS, stS] at hfin
      simp only [encS, stV]
      gi_wp2
      exact hfin
    | inr x =>
      simp only [mvS, stS] at hfin
      simp only [encS, stV]
      gi_wp2
      exact hfin
  case body =>
    rintro l' T' pre x a' Y hl hlt ⟨⟨hR, hTl⟩, hm, hK⟩ ⟨b6, b7, q6, q7, rfl⟩ hsp
    have hYs := hK.size
    have g4 : Y.heap[W.heap.size]? = _ := (hK.block W.heap.size (by omega) (fun hn => hn (.inr ⟨by omega, by omega⟩))).trans h4
    have g5 : Y.heap[W.heap.size + 1]? = _ := (hK.block (W.heap.size + 1) (by omega) (fun hn => hn (.inr ⟨by omega, by omega⟩))).trans h5
    have f4 := cell_of_block g4 5
    have f5 := cell_of_block g5 0
    simp only [List.getElem?_toArray, List.getElem?_cons_zero, List.getElem?_cons_succ] at f4 f5
    have hold : ∀ b, T b → Y.heap[b]? = W.heap[b]? := fun b hb => (hK.block b (by have := hT b hb; omega) (fun hn => hn (.inl hb))).trans (hB0.block b (hT b hb))
    have hlen2 : (G ++ pre.map (evS lev e n r c ws)).length + 1 ≤ 299999 := by
      have h1 := hsp.length_le
      have h2 := stps_len r c n (decide (e < me)) hn
      simp at h1 ⊢
      omega
    have HR : Hid (RecAt B cb rb lb lim E (fun k => T' k ∨ T k ∨ (W.heap.size ≤ k ∧ k < W0.heap.size)) (G ++ pre.map (evS lev e n r c ws)) Y) := hR
    have HT2 : Hid (∀ k, T' k ∨ T k ∨ (W.heap.size ≤ k ∧ k < W0.heap.size) → k < Y.heap.size) := by
      rintro k (hk | hk | hk)
      · exact hTl k hk
      · have := hT k hk; omega
      · omega
    have hy : ∀ (ec : Nat), (evS lev e n r c ws x).k ≤ n → Calls Ybad.prog 6 _ Y _ := fun ec hk => yield_any (T := (fun k => T' k ∨ T k ∨ (W.heap.size ≤ k ∧ k < W0.heap.size))) (evS lev e n r c ws x) eb ec wb wcap nw hR (by have := h.calls.lt; omega) (by omega) HT2.out hlr (by omega) (by omega) (by cases x <;> exact HN) hw5 (fun e' => hR.tc (.inr (.inl (e' ▸ hTs.2.1)))) (fun e' => hR.tc (.inr (.inl (e' ▸ hTs.2.2)))) (by have := hT _ hTs.2.1; omega) (by have := hT _ hTs.2.2; omega) (by
        intro j hj
        rw [World.cell?_of_block (a := ⟨eb, j, none⟩) (hold eb hTs.2.1), ecells_take E _ j (by omega) hj]
        exact hE.out j (by have : (evS lev e n r c ws x).k * 2 ≤ n * 2 := Nat.mul_le_mul_right 2 hk; omega)) (by
        intro j hj
        rw [World.cell?_of_block (a := ⟨wb, j, none⟩) (hold wb hTs.2.2)]
        cases x <;> exact hWs.out j hj) hlim0 hlim1
    have Hfin : Hid (∀ Y' : World, RecAt B cb rb lb lim E (fun k => T' k ∨ T k ∨ (W.heap.size ≤ k ∧ k < W0.heap.size)) (G ++ pre.map (evS lev e n r c ws) ++ [evS lev e n r c ws x]) Y' ∧ Kept (fun b => ¬ (T' b ∨ T b ∨ (W.heap.size ≤ b ∧ b < W0.heap.size))) Y Y' ∧ KeepsFrom 0 Y Y' → KeepsFrom W0.heap.size Y Y' ∧ Same T' Y Y' ∧ ((RecAt B cb rb lb lim E (fun k => T' k ∨ T k ∨ (W.heap.size ≤ k ∧ k < W0.heap.size)) (G ++ (pre ++ [x]).map (evS lev e n r c ws)) Y' ∧ (∀ k, T' k → k < Y'.heap.size)) ∧ Kept (fun b => ¬ (T b ∨ (W.heap.size ≤ b ∧ b < W0.heap.size))) W0 Y')) := by
      rintro Y' ⟨a1, a2, a3⟩
      refine ⟨⟨a3.size, fun k o _ => a3.same k o (Nat.zero_le _)⟩, fun k hk hl => a2.block k hl (fun hn => hn (.inl hk)), ⟨by simpa using a1, fun k hk => Nat.lt_of_lt_of_le (hTl k hk) a2.size⟩, ?_⟩
      exact hK.trans a2 (fun k _ hn hm => hn (.inr hm))
    cases x with
    | inl x =>
      have hyc := hy ecap (Nat.le_refl _)
      simp only [mvS] at q6
      simp only [stS] at q7
      simp only [evS] at hyc
      have u0 := cell_of_block q6 0
      have u1 := cell_of_block q6 1
      have u2 := cell_of_block q6 2
      have u3 := cell_of_block q6 3
      have v0 := cell_of_block q7 0
      have v1 := cell_of_block q7 1
      have v2 := cell_of_block q7 2
      have v3 := cell_of_block q7 3
      have v4 := cell_of_block q7 4
      simp only [List.getElem?_toArray, List.getElem?_cons_zero, List.getElem?_cons_succ] at u0 u1 u2 u3 v0 v1 v2 v3 v4
      simp only [mvS, stS]
      clear q6 q7 hR hK hy g4 g5 hold
      by_cases hmo : more lim ((G ++ pre.map (evS lev e n r c ws)).length + 1)
      · have hbool : (decide (lim = 0) || decide (((G ++ pre.map (evS lev e n r c ws)).length : Int) + 1 < lim)) = true := by
          rcases hmo with h1 | h1
          · simp [h1]
          · simp only [Bool.or_eq_true, decide_eq_true_eq]
            right
            omega
        rw [hbool] at hyc
        have Hmo : Hid (more lim (G.length + (pre ++ [Sum.inl x]).length)) := by
          show more _ _
          simpa [Nat.add_assoc] using hmo
        clear hmo hbool
        gi_wp2
        refine ⟨trivial, rfl, (CallsIn.inRound l' (callsIn_wide.2 hyc)).mono ?_⟩
        rintro e' Y' ⟨rfl, hfin⟩
        have HF : Hid _ := Hfin.out Y' hfin
        clear hfin
        gi_wp2
        exact ⟨HF.out.1, HF.out.2.1, HF.out.2.2.1, Hmo.out, HF.out.2.2.2⟩
      · have hbool : (decide (lim = 0) || decide (((G ++ pre.map (evS lev e n r c ws)).length : Int) + 1 < lim)) = false := by
          simp only [more, not_or] at hmo
          simp only [Bool.or_eq_false_iff, decide_eq_false_iff_not]
          omega
        rw [hbool] at hyc
        have Hmo : Hid (lim ≠ 0 ∧ ((G.length + (pre ++ [Sum.inl x]).length : Nat) : Int) = lim) := by
          simp only [more, not_or] at hmo hm
          refine ⟨hmo.1, ?_⟩
          have h1 := hm.resolve_left hmo.1
          simp at hmo ⊢
          omega
        clear hmo hbool
        gi_wp2
        refine ⟨trivial, rfl, (CallsIn.inRound l' (callsIn_wide.2 hyc)).mono ?_⟩
        rintro e' Y' ⟨rfl, hfin⟩
        have HF : Hid _ := Hfin.out Y' hfin
        clear hfin
        gi_wp2
        exact ⟨HF.out.1, HF.out.2.1, HF.out.2.2.1, Hmo.out, HF.out.2.2.2⟩
    | inr k =>
      have hyc := hy k (stps_mem hsp)
      simp only [mvS] at q6
      simp only [stS] at q7
      simp only [evS] at hyc
      have u0 := cell_of_block q6 0
      have u1 := cell_of_block q6 1
      have u2 := cell_of_block q6 2
      have u3 := cell_of_block q6 3
      have v0 := cell_of_block q7 0
      have v1 := cell_of_block q7 1
      have v2 := cell_of_block q7 2
      have v3 := cell_of_block q7 3
      have v4 := cell_of_block q7 4
      simp only [List.getElem?_toArray, List.getElem?_cons_zero, List.getElem?_cons_succ] at u0 u1 u2 u3 v0 v1 v2 v3 v4
      simp only [mvS, stS]
      clear q6 q7 hR hK hy g4 g5 hold
      by_cases hmo : more lim ((G ++ pre.map (evS lev e n r c ws)).length + 1)
      · have hbool : (decide (lim = 0) || decide (((G ++ pre.map (evS lev e n r c ws)).length : Int) + 1 < lim)) = true := by
          rcases hmo with h1 | h1
          · simp [h1]
          · simp only [Bool.or_eq_true, decide_eq_true_eq]
            right
            omega
        rw [hbool] at hyc
        have Hmo : Hid (more lim (G.length + (pre ++ [Sum.inr k]).length)) := by
          show more _ _
          simpa [Nat.add_assoc] using hmo
        clear hmo hbool
        gi_wp2
        refine ⟨trivial, rfl, (CallsIn.inRound l' (callsIn_wide.2 hyc)).mono ?_⟩
        rintro e' Y' ⟨rfl, hfin⟩
        have HF : Hid _ := Hfin.out Y' hfin
        clear hfin
        gi_wp2
        exact ⟨HF.out.1, HF.out.2.1, HF.out.2.2.1, Hmo.out, HF.out.2.2.2⟩
      · have hbool : (decide (lim = 0) || decide (((G ++ pre.map (evS lev e n r c ws)).length : Int) + 1 < lim)) = false := by
          simp only [more, not_or] at hmo
          simp only [Bool.or_eq_false_iff, decide_eq_false_iff_not]
          omega
        rw [hbool] at hyc
        have Hmo : Hid (lim ≠ 0 ∧ ((G.length + (pre ++ [Sum.inr k]).length : Nat) : Int) = lim) := by
          simp only [more, not_or] at hmo hm
          refine ⟨hmo.1, ?_⟩
          have h1 := hm.resolve_left hmo.1
          simp at hmo ⊢
          omega
        clear hmo hbool
        gi_wp2
        refine ⟨trivial, rfl, (CallsIn.inRound l' (callsIn_wide.2 hyc)).mono ?_⟩
        rintro e' Y' ⟨rfl, hfin⟩
        have HF : Hid _ := Hfin.out Y' hfin
        clear hfin
        gi_wp2
        exact ⟨HF.out.1, HF.out.2.1, HF.out.2.2.1, Hmo.out, HF.out.2.2.2⟩
  case done =>
    rintro D xs Y hD hz hs rfl ⟨⟨hR, _⟩, hm, hK⟩ hKD
    have hend : Kept (fun b => ¬ T b) W (Y.putObj D (.deferred none)) ∧ RecAt B cb rb lb lim E T (G ++ (stps r c n (decide (e < me))).map (evS lev e n r c ws)) (Y.putObj D (.deferred none)) := by
      have hg := grownBy_putObj' Y D (.deferred none)
      refine ⟨⟨hg.os.trans (hK.os.trans hB0.os), hg.tape.trans (hK.tape.trans hB0.tape), hg.output.trans (hK.output.trans hB0.output), by simp; omega, fun k hk hn => ?_⟩, ?_⟩
      · rw [World.putObj_heap_other (by omega), hK.block k (by omega) (fun h' => hn (fun ht => h' (.inl ht))), hB0.block k hk]
      · exact ((RecAt.abide W0.heap.size).own T).putObj _ ((RecAt.abide W0.heap.size).less _ _ _ _ hR (fun k hk => .inr (.inl hk))) hD hKD rfl
    have HE : Hid _ := hend
    clear hend hR hK
    gi_wp2
    refine ⟨by simp, .inl ⟨_, _, rfl, run_takeDeferred hKD, ?_⟩⟩
    exact ⟨_, results_none rfl _ _ _, rfl, HE.out.1, _, List.prefix_refl _, HE.out.2, .inl ⟨rfl, hm⟩⟩
  case stop =>
    rintro D pre Y hD hz hs hpre ⟨⟨hR, _⟩, hm, hK⟩ hKD
    have hend : Kept (fun b => ¬ T b) W (Y.putObj D (.deferred none)) ∧ RecAt B cb rb lb lim E T (G ++ pre.map (evS lev e n r c ws)) (Y.putObj D (.deferred none)) := by
      have hg := grownBy_putObj' Y D (.deferred none)
      refine ⟨⟨hg.os.trans (hK.os.trans hB0.os), hg.tape.trans (hK.tape.trans hB0.tape), hg.output.trans (hK.output.trans hB0.output), by simp; omega, fun k hk hn => ?_⟩, ?_⟩
      · rw [World.putObj_heap_other (by omega), hK.block k (by omega) (fun h' => hn (fun ht => h' (.inl ht))), hB0.block k hk]
      · exact ((RecAt.abide W0.heap.size).own T).putObj _ ((RecAt.abide W0.heap.size).less _ _ _ _ hR (fun k hk => .inr (.inl hk))) hD hKD rfl
    have HE : Hid _ := hend
    have Hm : Hid (lim ≠ 0 ∧ ((G.length + pre.length : Nat) : Int) = lim) := hm
    clear hend hR hK hm
    gi_wp2
    refine ⟨by simp, .inl ⟨_, _, rfl, run_takeDeferred hKD, ?_⟩⟩
    exact ⟨_, results_none rfl _ _ _, rfl, HE.out.1, _, hpre, HE.out.2, .inr ⟨Hm.out.1, by have := Hm.out.2; omega⟩⟩

set_option maxRecDepth 100000 in
set_option maxHeartbeats 4000000 in
theorem storeSteps_any (lev e : Int) (me : Int) (vb eb ecap wb wcap nw n r c : Nat) (ws : List Wr) (h : RecAt B cb rb lb lim E T G W) (hBW : B ≤ W.heap.size) (hT : ∀ k, T k → k < W.heap.size) (hlr : lb ≠ rb) (hmore : more lim G.length) (hG : G.length ≤ 10000)
    (hTs : T vb ∧ T eb ∧ T wb) (hrc : r ≤ c) (hcn : c ≤ n) (hn : n ≤ 512) (hcap : n ≤ ecap) (he0 : 0 ≤ e) (he1 : e ≤ 1000) (hEn : E.length = n) (HN : Hid (ws.length = nw)) (hw5 : nw ≤ 512) (hme : W.cell? ⟨vb, 4, none⟩ = some (.int .i64 me))
    (hE : Hid (∀ j, j < n * 2 → W.cell? ⟨eb, j, none⟩ = (ecells E)[j]?)) (hWs : Hid (∀ j, j < ws.length * 5 → W.cell? ⟨wb, j, none⟩ = (wcells ws)[j]?)) (hlim0 : 0 ≤ lim) (hlim1 : lim ≤ 100000) :
    Calls Ybad.prog 11 #[.pointer (some ⟨vb, 0, none⟩), .agg #[.int .i64 lev, .slice (some ⟨eb, 0, none⟩) n ecap, .int .i64 r, .int .i64 c, .int .i64 e, .slice (some ⟨wb, 0, none⟩) nw wcap], .func (.func 6) #[] #[.pointer (some ⟨cb, 0, none⟩), .pointer (some ⟨rb, 0, none⟩), .pointer (some ⟨lb, 0, none⟩)]] W fun e' W' =>
      e' = .returned (.tuple #[]) ∧ Kept (fun b => ¬ T b) W W' ∧ ∃ pre, pre <+: stps r c n (decide (e < me)) ∧ RecAt B cb rb lb lim E T (G ++ pre.map (evS lev e n r c ws)) W' ∧ ((pre = stps r c n (decide (e < me)) ∧ more lim (G.length + pre.length)) ∨ (lim ≠ 0 ∧ ((G.length + pre.length : Nat) : Int) = lim)) := by
  refine (callsIn_wide (n := 0)).1 ?_
  refine callsIn_of_wp_marks Ybad.func11 rfl trivial ?_ rfl
  simp only [Ybad.ntmps11, List.size_toArray, List.length_cons, List.length_nil, Nat.reduceAdd, Nat.reduceSub, Array.replicate_succ, Array.replicate_zero, List.push_toArray, List.append_toArray, List.nil_append, List.cons_append]
  have hvlt : vb < W.heap.size := hT _ hTs.1
  have hmx : Ybad.prog.follows .mixedOrders = true := by kernel_rfl
  have hss := fun w => stSeq_any lev e (some ⟨eb, 0, none⟩) n ecap r c (decide (e < me)) w
  simp only [stV] at hss
  gi_wp2
  refine wpIn_calm ?_
  gi_region_with_o (refine ⟨trivial, rfl, (callsIn_wide.2 (hss _)).mono ?_⟩; rintro e' w' ⟨rfl, rfl⟩)
  all_goals gi_wp2
  all_goals exact ssRange lev e me vb eb ecap wb wcap nw n r c ws h hBW hT hlr hmore hG hTs hrc hcn hn hcap he0 he1 hEn HN hw5 hE hWs hlim0 hlim1
end Go.Proofs.YbulkejpeDoor
