/- Rows of members: 'zzs6788bhas' (8), slices.ContainsFunc with piggyback's predicate (28, 33, 29), 'zzs6788bmeq' (9), Message.size (19). -/
import Derived.Test.YbulkejocNum
import Derived.Test.YbulkejocOwn
import Derived.BigRegion
namespace Go.Proofs.Ybulkejoc
open Go.ChangeShapes Go.WideShapes Go.ChangeAt Go.RowKit

/-- The cells of a row of members. -/
def mcells (ms : List Mb) : List Value := ms.flatMap Mb.cells
theorem mcells_len (ms : List Mb) : (mcells ms).length = ms.length * 4 := by
  induction ms with
  | nil => rfl
  | cons m ms ih => simp only [mcells, List.flatMap_cons, List.length_append, List.length_cons] at ih ⊢; rw [ih]; simp [Mb.cells]; omega
theorem mcells_at : ∀ (ms : List Mb) (i r : Nat) (h : i < ms.length), r < 4 → (mcells ms)[i * 4 + r]? = (ms[i].cells)[r]?
  | m :: ms, 0, r, _, hr => by
    simp only [mcells, List.flatMap_cons, List.getElem_cons_zero, Nat.zero_mul, Nat.zero_add]
    rw [List.getElem?_append_left (by simp [Mb.cells]; omega)]
  | m :: ms, i + 1, r, h, hr => by
    have := mcells_at ms i r (by simpa using h) hr
    simp only [mcells, List.flatMap_cons, List.getElem_cons_succ] at this ⊢
    rw [List.getElem?_append_right (by simp [Mb.cells]; omega), ← this]
    congr 1
    simp [Mb.cells]
    omega
theorem mcells_append (a b : List Mb) : mcells (a ++ b) = mcells a ++ mcells b := by simp [mcells]

/-- A slice value that holds the members ms. -/
def MsAt (w : World) (v : Value) (ms : List Mb) : Prop := w.ownsRow 0 29 4 v ms.length (mcells ms)

/-- What a slice of members is: nil, or a row. -/
theorem MsAt.form {w : World} {v : Value} {ms : List Mb} (h : MsAt w v ms) : (v = .slice none 0 0 ∧ ms = []) ∨ ∃ g cap, v = .slice (some ⟨g, 0, none⟩) ms.length cap ∧ g < w.heap.size ∧ ms.length ≤ maxLen ∧ ∀ i (hi : i < ms.length), w.cell? ⟨g, i * 4, none⟩ = some (.string ms[i].addr) ∧ w.cell? ⟨g, i * 4 + 1, none⟩ = some (.int .u64 ms[i].tok) ∧ w.cell? ⟨g, i * 4 + 1 + 1, none⟩ = some (.int .u8 ms[i].st) ∧ w.cell? ⟨g, i * 4 + 1 + 1 + 1, none⟩ = some (.int .u64 ms[i].inc) := by
  rcases h.2 with ⟨h1, h2⟩ | ⟨g, cap, cur, rfl, _, hg, hnc, hcm, _⟩
  · exact Or.inl ⟨h1, List.eq_nil_of_length_eq_zero h2⟩
  · refine Or.inr ⟨g, cap, rfl, lt_of_heap hg, Nat.le_trans hnc hcm, fun i hi => ?_⟩
    have hc : ∀ r, r < 4 → w.cell? ⟨g, i * 4 + r, none⟩ = (ms[i].cells)[r]? := fun r hr => by
      rw [World.ownsRow.cellAt h (i * 4 + r) (by omega), mcells_at ms i r hi hr]
    exact ⟨hc 0 (by omega), hc 1 (by omega), hc 2 (by omega), hc 3 (by omega)⟩

def hasF (ms : List Mb) (a : ByteArray) : Bool := ms.any fun m => m.addr.toList == a.toList
theorem hasF_snoc (ms : List Mb) (m : Mb) (a : ByteArray) : hasF (ms ++ [m]) a = (hasF ms a || (m.addr.toList == a.toList)) := by simp [hasF]
theorem hasF_of_take {ms : List Mb} {a : ByteArray} {k : Nat} (hk : k < ms.length) (h : (ms[k].addr.toList == a.toList) = true) : hasF ms a = true := by
  simp only [hasF, List.any_eq_true]
  exact ⟨ms[k], List.getElem_mem hk, h⟩

set_option maxHeartbeats 1000000 in
theorem has_any (ms : List Mb) (v : Value) (a : ByteArray) (w : World) (h : MsAt w v ms) : Calls Yba.prog 8 #[v, .string a] w fun e w' => e = .returned (.bool (hasF ms a)) ∧ Below w.heap.size w w' := by
  rcases h.form with ⟨rfl, rfl⟩ | ⟨g, cap, rfl, hg, hm, hc⟩
  · go_enter Yba.func8, Yba.ntmps8
    go_wp2
    go_rounds 1
    go_ret
    exact ⟨rfl, by go_grown⟩
  · unfold maxLen at hm
    go_enter Yba.func8, Yba.ntmps8
    go_wp2
    go_loopw [9] (fun i wr => ∃ k : Nat, k ≤ ms.length ∧ i = .int .i64 (k : Int) ∧ Hid (hasF (ms.take k) a = false) ∧ Below w.heap.size w wr) (fun i _ => ms.length - (intOf i).toNat)
    case atStart => exact ⟨0, Nat.zero_le _, rfl, rfl, Below.refl _ _⟩
    case round =>
      obtain ⟨k, hk, rfl, HH, hB⟩ := hrel
      by_cases hlt : k < ms.length
      · obtain ⟨c0, c1, c2, c3⟩ := hc k hlt
        have d0 := (hB.cell (p := ⟨g, k * 4, none⟩) hg).trans c0
        have d1 := (hB.cell (p := ⟨g, k * 4 + 1, none⟩) hg).trans c1
        have d2 := (hB.cell (p := ⟨g, k * 4 + 1 + 1, none⟩) hg).trans c2
        have d3 := (hB.cell (p := ⟨g, k * 4 + 1 + 1 + 1, none⟩) hg).trans c3
        obtain ⟨m, hmk⟩ : ∃ m, ms[k] = m := ⟨_, rfl⟩
        rw [hmk] at d0 d1 d2 d3
        have HM : Hid (∀ hh : k < ms.length, ms[k] = m) := fun _ => hmk
        clear c0 c1 c2 c3 hmk
        have hsz := hB.size
        have hts : ms.take (k + 1) = ms.take k ++ [m] := by rw [List.take_succ_eq_append_getElem hlt, HM.out hlt]
        have HN : Hid (hasF (ms.take (k + 1)) a = (m.addr.toList == a.toList)) := by
          show _ = _
          rw [hts, hasF_snoc, HH.out, Bool.false_or]
        clear hts
        cases he : (m.addr.toList == a.toList)
        · go_wp2
          go_roundw
          case rel => exact ⟨k + 1, by omega, by go_num, HN.out.trans he, by go_grown⟩
          case measure => simp [intOf]; omega
        · go_wp2
          go_ret
          refine ⟨?_, by go_grown⟩
          rw [hasF_of_take hlt (by rw [HM.out hlt]; exact he)]
          rfl
      · go_wp2
        go_ret
        have h1 := HH.out
        rw [List.take_of_length_le (by omega)] at h1
        refine ⟨?_, hB⟩
        rw [h1]
        rfl

/-- piggyback's predicate: 'o.Addr == r.member.Addr', r boxed in block rb. -/
theorem pred_any (m : Mb) (a : ByteArray) (rb p : Nat) (w : World) (h1 : w.cell? ⟨rb, 0, none⟩ = some (.pointer (some ⟨p, 0, none⟩))) (h2 : w.cell? ⟨p, 0, none⟩ = some (.string a)) (hrb : rb < w.heap.size) (hp : p < w.heap.size) :
    Calls Yba.prog 29 #[.agg #[.string m.addr, .int .u64 m.tok, .int .u8 m.st, .int .u64 m.inc], .pointer (some ⟨rb, 0, none⟩)] w fun e w' => e = .returned (.bool (m.addr.toList == a.toList)) ∧ Below w.heap.size w w' := by
  go_enter Yba.func29, Yba.ntmps29
  go_wp2
  go_quiet (fail)
  go_wp2
  go_ret
  exact ⟨rfl, ⟨rfl, rfl, rfl, by simp, fun k hk => Below.heap_alloc _ _ _ hk⟩⟩

set_option maxHeartbeats 1000000 in
theorem indexFunc_any (ms : List Mb) (v : Value) (a : ByteArray) (rb p : Nat) (w : World) (h : MsAt w v ms) (h1 : w.cell? ⟨rb, 0, none⟩ = some (.pointer (some ⟨p, 0, none⟩))) (h2 : w.cell? ⟨p, 0, none⟩ = some (.string a)) (hrb : rb < w.heap.size) (hp : p < w.heap.size) :
    Calls Yba.prog 33 #[v, .func (.func 29) #[] #[.pointer (some ⟨rb, 0, none⟩)]] w fun e w' => (∃ i : Int, e = .returned (.int .i64 i) ∧ decide (0 ≤ i) = hasF ms a) ∧ Below w.heap.size w w' := by
  rcases h.form with ⟨rfl, rfl⟩ | ⟨g, cap, rfl, hg, hm, hc⟩
  · go_enter Yba.func33, Yba.ntmps33
    go_wp2
    go_rounds 1
    go_ret
    exact ⟨⟨-1, rfl, rfl⟩, by go_grown⟩
  · unfold maxLen at hm
    go_enter Yba.func33, Yba.ntmps33
    go_wp2
    go_loopw [8] (fun i wr => ∃ k : Nat, k ≤ ms.length ∧ i = .int .i64 (k : Int) ∧ Hid (hasF (ms.take k) a = false) ∧ Below w.heap.size w wr) (fun i _ => ms.length - (intOf i).toNat)
    case atStart => exact ⟨0, Nat.zero_le _, rfl, rfl, Below.refl _ _⟩
    case round =>
      obtain ⟨k, hk, rfl, HH, hB⟩ := hrel
      by_cases hlt : k < ms.length
      · obtain ⟨c0, c1, c2, c3⟩ := hc k hlt
        have d0 := (hB.cell (p := ⟨g, k * 4, none⟩) hg).trans c0
        have d1 := (hB.cell (p := ⟨g, k * 4 + 1, none⟩) hg).trans c1
        have d2 := (hB.cell (p := ⟨g, k * 4 + 1 + 1, none⟩) hg).trans c2
        have d3 := (hB.cell (p := ⟨g, k * 4 + 1 + 1 + 1, none⟩) hg).trans c3
        obtain ⟨m, hmk⟩ : ∃ m, ms[k] = m := ⟨_, rfl⟩
        rw [hmk] at d0 d1 d2 d3
        have HM : Hid (∀ hh : k < ms.length, ms[k] = m) := fun _ => hmk
        clear c0 c1 c2 c3 hmk
        have hsz := hB.size
        have e1 := (hB.cell (p := ⟨rb, 0, none⟩) hrb).trans h1
        have e2 := (hB.cell (p := ⟨p, 0, none⟩) hp).trans h2
        have hts : ms.take (k + 1) = ms.take k ++ [m] := by rw [List.take_succ_eq_append_getElem hlt, HM.out hlt]
        have HN : Hid (hasF (ms.take (k + 1)) a = (m.addr.toList == a.toList)) := by
          show _ = _
          rw [hts, hasF_snoc, HH.out, Bool.false_or]
        clear hts
        have hC := fun W (b1 : W.cell? ⟨rb, 0, none⟩ = _) b2 b3 b4 => pred_any m a rb p W b1 b2 b3 b4
        cases he : (m.addr.toList == a.toList)
        · rw [he] at hC
          go_wp2_with (go_at_call 29; refine (hC _ ?_ ?_ ?_ ?_).mono ?_; exact e1; exact e2; omega; omega; rintro e w1 ⟨rfl, hB1⟩)
          go_roundw
          case rel => exact ⟨k + 1, by omega, by go_num, HN.out.trans he, hB.trans (hB1.mono hsz)⟩
          case measure => simp [intOf]; omega
        · rw [he] at hC
          go_wp2_with (go_at_call 29; refine (hC _ ?_ ?_ ?_ ?_).mono ?_; exact e1; exact e2; omega; omega; rintro e w1 ⟨rfl, hB1⟩)
          go_ret
          refine ⟨⟨_, rfl, ?_⟩, hB.trans (hB1.mono hsz)⟩
          rw [hasF_of_take hlt (by rw [HM.out hlt]; exact he)]
          simp
      · go_wp2
        go_ret
        have h1 := HH.out
        rw [List.take_of_length_le (by omega)] at h1
        exact ⟨⟨-1, rfl, by rw [h1]; rfl⟩, hB⟩

theorem contains_any (ms : List Mb) (v : Value) (a : ByteArray) (rb p : Nat) (w : World) (h : MsAt w v ms) (h1 : w.cell? ⟨rb, 0, none⟩ = some (.pointer (some ⟨p, 0, none⟩))) (h2 : w.cell? ⟨p, 0, none⟩ = some (.string a)) (hrb : rb < w.heap.size) (hp : p < w.heap.size) :
    Calls Yba.prog 28 #[v, .func (.func 29) #[] #[.pointer (some ⟨rb, 0, none⟩)]] w fun e w' => e = .returned (.bool (hasF ms a)) ∧ Below w.heap.size w w' := by
  go_enter Yba.func28, Yba.ntmps28
  go_wp2_with (go_at_call 33; refine (indexFunc_any ms v a rb p _ h h1 h2 hrb hp).mono ?_; rintro e w1 ⟨⟨i, rfl, hi⟩, hB⟩)
  go_ret
  exact ⟨by rw [← hi]; rfl, hB⟩
end Go.Proofs.Ybulkejoc
