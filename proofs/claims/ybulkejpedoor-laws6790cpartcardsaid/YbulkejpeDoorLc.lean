/- The comparison of a record with what was expected; the greedy match. -/
import Derived.Test.YbulkejpeDoorLx
namespace Go.Proofs.YbulkejpeDoor
open Go Go.ChangeShapes Go.WideShapes Go.ChangeAt Go.RowKit

theorem gcells_at : ∀ (G : List Ev) (us : List (Value × Value × Value)) (j : Nat) (g : Ev) (u : Value × Value × Value), G[j]? = some g → us[j]? = some u → ∀ o, o < 14 → (gcells G us)[j * 14 + o]? = (g.cells u.1 u.2.1 u.2.2)[o]?
  | [], _, _, _, _, h, _, _, _ => by simp at h
  | _ :: _, [], _, _, _, _, h, _, _ => by simp at h
  | x :: G, v :: us, 0, g, u, h1, h2, o, ho => by
    simp only [List.getElem?_cons_zero, Option.some.injEq] at h1 h2
    subst h1
    subst h2
    simp only [gcells]
    rw [List.getElem?_append_left (by simp [Ev.cells, Mv.cells]; omega)]
    simp
  | x :: G, v :: us, j + 1, g, u, h1, h2, o, ho => by
    simp only [gcells]
    rw [List.getElem?_append_right (by simp [Ev.cells, Mv.cells]; omega), ← gcells_at G us j g u (by simpa using h1) (by simpa using h2) o ho]
    congr 1
    simp [Ev.cells, Mv.cells]
    omega
theorem own_room {w : World} {B e z n : Nat} {v : Value} {xs : List Value} (h : w.ownsRow B e z v n xs) : ∃ A cap, v = .slice A n cap ∧ n ≤ cap ∧ ∀ i, i < n * z → ∃ b, A = some ⟨b, 0, none⟩ ∧ b < w.heap.size ∧ ∀ i, i < n * z → w.cell? ⟨b, i, none⟩ = xs[i]? := by
  rcases h.2 with ⟨rfl, rfl⟩ | ⟨g, cap, cur, rfl, _, _, hc, _⟩
  · exact ⟨none, 0, rfl, Nat.le_refl _, fun i hi => by omega⟩
  · refine ⟨_, cap, rfl, hc, fun _ _ => ?_⟩
    rcases own_cells h with ⟨e1, _⟩ | ⟨g', cap', e1, h2, h3⟩
    · cases e1
    · simp only [Value.slice.injEq, Option.some.injEq, Addr.mk.injEq, and_true] at e1
      obtain ⟨rfl, _⟩ := e1
      exact ⟨g, rfl, h2, h3⟩

theorem csame_any (g : Ev) (L vl vw : Value) (x : Xp) (b cap wb nw wcap B B' : Nat) (ws : List Wr) (E : List (ByteArray × ByteArray)) (W : World) (hgk : g.k ≤ E.length) (hE5 : E.length ≤ 512) (hol : W.ownsRow B 28 2 vl g.k (ecells (E.take g.k))) (how : W.ownsRow B' 39 5 vw g.ws.length (wcells g.ws))
    (hcap : x.k ≤ cap) (hF : Fill W b 28 2 E.length E.length (ecells E)) (hFw : Fill W wb 39 5 nw nw (wcells ws)) (hws : ws.length = nw) (hw5 : nw ≤ 512) (hg5 : g.ws.length ≤ 512) :
    Calls Ybad.prog 8 #[.agg (g.cells L vl vw).toArray, .agg (x.cells b cap).toArray, .slice (some ⟨wb, 0, none⟩) nw wcap] W fun e' w' => SamPost g x ws W e' w' := by
  obtain ⟨A, c1, rfl, hc1, h1⟩ := own_room hol
  obtain ⟨Aw, c2, rfl, hc2, h2⟩ := own_room how
  by_cases hh : HdP g x
  · obtain ⟨gm, glev, gr, gc, ge, gk, gws⟩ := g
    obtain ⟨xm, xlev, xr, xc, xe, xk, xi, xs, xo⟩ := x
    obtain ⟨e1, e2, e3, e4, e5, e6⟩ := hh
    dsimp only at e1 e2 e3 e4 e5 e6 hgk hg5 h1 h2 hcap hc1 hc2
    subst e1 e2 e3 e4 e5 e6
    refine csame_yes gm glev gr gc ge xi xs gk xo L A c1 Aw gws.length c2 b cap wb nw wcap gws ws E W (by omega) hgk hws rfl hw5 hg5 (fun j hj => ?_) hF.lt (fun j hj => ?_) (fun j hj => ?_) hFw.lt (fun j hj => hFw.cell j hj) ⟨hc1, hcap⟩
    · obtain ⟨b', hb1, hb2, hb3⟩ := h1 (j * 2) (by omega)
      exact ⟨b', hb1, hb2, hb3 _ (by omega), hb3 _ (by omega)⟩
    · rw [ecells_take E gk j hgk hj]
      exact hF.cell j (by omega)
    · obtain ⟨b', hb1, hb2, hb3⟩ := h2 (j * 5) (by omega)
      exact ⟨b', hb1, hb2, fun o ho => hb3 _ (by omega)⟩
  · exact csame_no g L A c1 Aw g.ws.length c2 x b cap wb nw wcap ws W hh

/-- The events are what was expected, but for some that may lack. -/
inductive Al (ws : List Wr) : List Xp → List Ev → Prop
  | nil : Al ws [] []
  | take {x : Xp} {X : List Xp} {a : Ev} {A : List Ev} (h : SameP a x ws) (t : Al ws X A) : Al ws (x :: X) (a :: A)
  | skip {x : Xp} {X : List Xp} {a : Ev} {A : List Ev} (ho : x.opt = true) (h : ¬ SameP a x ws) (t : Al ws X (a :: A)) : Al ws (x :: X) (a :: A)

theorem Al.append {ws : List Wr} {X Y : List Xp} {A C : List Ev} (h : Al ws X A) (k : Al ws Y C) : Al ws (X ++ Y) (A ++ C) := by
  induction h with
  | nil => exact k
  | take h _ ih => exact .take h ih
  | skip ho h _ ih => exact .skip ho h ih

theorem Al.writes (lev e r c : Int) (n : Nat) (ws : List Wr) : ∀ j, Al ws (expTo lev e r c n ws j) (endsTo lev e r c n ws j)
  | 0 => .nil
  | j + 1 => by
    refine (Al.writes lev e r c n ws j).append ?_
    cases ws[j]? with
    | none => exact .nil
    | some w =>
      simp only
      unfold xpE endAt
      have hy : ∀ o st : Int, ∀ b : Bool, SameP (evE lev e r c n ws j w o st) ⟨⟨o, w.key, w.val, 0, 0, 0, 0⟩, lev, r, c, e, n, j, st, b⟩ ws := fun o st b => ⟨⟨rfl, rfl, rfl, rfl, rfl, rfl⟩, by simp [evE, Xp.wsOf]⟩
      split
      · split
        · exact .take (hy 2 1 true) (.take (hy 3 2 false) .nil)
        · refine .skip rfl (fun h => ?_) (.take (hy 3 2 false) .nil)
          have := congrArg Mv.o h.1.1
          simp [evE] at this
      · exact .nil

theorem Al.steps (lev e : Int) (n r c eb eb2 : Nat) (ws : List Wr) : ∀ l : List It, Al ws ((l.map (xpS lev e n r c eb eb2)).map (·.1)) (l.map (evS lev e n r c ws))
  | [] => .nil
  | .inl x :: l => .take ⟨⟨rfl, rfl, rfl, rfl, rfl, rfl⟩, by simp [evS, xpS, Xp.wsOf]⟩ (Al.steps lev e n r c eb eb2 ws l)
  | .inr x :: l => .take ⟨⟨rfl, rfl, rfl, rfl, rfl, rfl⟩, by simp [evS, xpS, Xp.wsOf]⟩ (Al.steps lev e n r c eb eb2 ws l)

/-- All that the law expects. -/
def allXp (lev e : Int) (n r c eb eb2 : Nat) (me : Int) (ws : List Wr) (nw : Nat) : List (Xp × Nat × Nat) := tag eb n (expTo lev e r c n ws nw) ++ (stps r c n (decide (e < me))).map (xpS lev e n r c eb eb2)
theorem Al.all (lev e : Int) (n r c eb eb2 : Nat) (me : Int) (ws : List Wr) (nw : Nat) : Al ws ((allXp lev e n r c eb eb2 me ws nw).map (·.1)) (allEv lev e r c n me ws nw) := by
  unfold allXp allEv
  rw [List.map_append]
  refine Al.append ?_ (Al.steps lev e n r c eb eb2 ws _)
  have : (tag eb n (expTo lev e r c n ws nw)).map (·.1) = expTo lev e r c n ws nw := by simp [tag, Function.comp_def]
  rw [this]
  exact Al.writes lev e r c n ws nw
end Go.Proofs.YbulkejpeDoor
