/- State.ReplicationsSeq (23) and its iterator (27). -/
import Derived.Test.YbulkejpeDoorProg
import Derived.Test.YbulkejpeDoorRng
import Derived.Shelf.Abstract
import Derived.Shelf.RegionOpen
namespace Go.Proofs.YbulkejpeDoor
open Go Go.RowKit Go.Shelf
attribute [local go_sem] Oper.semAt_some

/-- The first m read points with the commit point c', the state's own pair left out. -/
def row (r c c' m : Nat) : List (Nat × Nat) := ((List.range m).map fun j => (r + j, c')).filter fun x => !(decide (x.1 = r) && decide (x.2 = c))
/-- What has come when k commit points are done and m read points of the next. -/
def upto (r c k m : Nat) : List (Nat × Nat) := ((List.range k).flatMap fun i => row r c (c + i) (c + i + 1 - r)) ++ row r c (c + k) m
def repls (r c n : Nat) : List (Nat × Nat) := (List.range (n + 1 - c)).flatMap fun i => row r c (c + i) (c + i + 1 - r)

theorem row_succ (r c c' m : Nat) : row r c c' (m + 1) = if r + m = r ∧ c' = c then row r c c' m else row r c c' m ++ [(r + m, c')] := by
  have e : row r c c' (m + 1) = row r c c' m ++ [(r + m, c')].filter (fun x => !(decide (x.1 = r) && decide (x.2 = c))) := by simp [row, List.range_succ]
  rw [e]
  by_cases h : r + m = r ∧ c' = c
  · rw [if_pos h]
    have : (!(decide (r + m = r) && decide (c' = c))) = false := by simp [h.1, h.2]
    simp only [List.filter, this, List.append_nil]
  · rw [if_neg h]
    have : (!(decide (r + m = r) && decide (c' = c))) = true := by
      rw [Bool.not_eq_true', Bool.and_eq_false_iff, decide_eq_false_iff_not, decide_eq_false_iff_not]
      omega
    simp only [List.filter, this]
theorem upto_row (r c k : Nat) : upto r c k (c + k + 1 - r) = upto r c (k + 1) 0 := by
  simp [upto, List.range_succ, row]
theorem upto_zero (r c : Nat) : upto r c 0 0 = [] := by simp [upto, row]
theorem upto_full (r c n : Nat) : upto r c (n + 1 - c) 0 = repls r c n := by simp [upto, repls, row]
theorem upto_succ (r c k m : Nat) : upto r c k (m + 1) = if r + m = r ∧ c + k = c then upto r c k m else upto r c k m ++ [(r + m, c + k)] := by
  unfold upto
  rw [row_succ]
  split <;> simp
/-- What has come is a part of all. -/
theorem upto_pre (r c n k m : Nat) (hk : k < n + 1 - c) (hm : m ≤ c + k + 1 - r) : upto r c k m <+: repls r c n := by
  have h1 : repls r c n = (List.range (k + 1)).flatMap (fun i => row r c (c + i) (c + i + 1 - r)) ++ ((List.range (n + 1 - c - (k + 1))).map (k + 1 + ·)).flatMap (fun i => row r c (c + i) (c + i + 1 - r)) := by
    rw [← List.flatMap_append, ← List.range_add, show k + 1 + (n + 1 - c - (k + 1)) = n + 1 - c by omega]
    rfl
  have h2 : row r c (c + k) m <+: row r c (c + k) (c + k + 1 - r) := by
    unfold row
    refine List.IsPrefix.filter _ (List.IsPrefix.map _ ?_)
    rw [show c + k + 1 - r = m + (c + k + 1 - r - m) by omega, List.range_add]
    exact List.prefix_append _ _
  rw [h1, List.range_succ, List.flatMap_append, upto, List.append_assoc]
  refine (List.prefix_append_right_inj _).2 ?_
  simp only [List.flatMap_cons, List.flatMap_nil, List.append_nil]
  exact h2.trans (List.prefix_append _ _)

/-- A state of the store, as a value. -/
def stV (lev e : Int) (L : Value) (r c : Int) : Value := .agg #[.int .i64 lev, L, .int .i64 r, .int .i64 c, .int .i64 e]
structure StAt (w : World) (b : Nat) (lev e : Int) (L : Value) (r c : Int) : Prop where
  c0 : w.cell? ⟨b, 0, none⟩ = some (.int .i64 lev)
  c1 : w.cell? ⟨b, 1, none⟩ = some L
  c2 : w.cell? ⟨b, 2, none⟩ = some (.int .i64 r)
  c3 : w.cell? ⟨b, 3, none⟩ = some (.int .i64 c)
  c4 : w.cell? ⟨b, 4, none⟩ = some (.int .i64 e)
theorem StAt.below {n₀ : Nat} {w w' : World} {b : Nat} {lev e : Int} {L : Value} {r c : Int} (h : StAt w b lev e L r c) (hb : b < n₀) (hB : Below n₀ w w') : StAt w' b lev e L r c :=
  ⟨(hB.cell (p := ⟨b, 0, none⟩) hb).trans h.c0, (hB.cell (p := ⟨b, 1, none⟩) hb).trans h.c1, (hB.cell (p := ⟨b, 2, none⟩) hb).trans h.c2, (hB.cell (p := ⟨b, 3, none⟩) hb).trans h.c3, (hB.cell (p := ⟨b, 4, none⟩) hb).trans h.c4⟩

theorem StAt.same {T : Nat → Prop} {w w' : World} {b : Nat} {lev e : Int} {L : Value} {r c : Int} (h : StAt w b lev e L r c) (hb : T b) (hB : Same T w w') : StAt w' b lev e L r c := by
  have hlt := World.block_lt_of_cell? w _ h.c0
  have hk := hB b hb hlt
  exact ⟨(World.cell?_of_block (a := ⟨b, 0, none⟩) hk).trans h.c0, (World.cell?_of_block (a := ⟨b, 1, none⟩) hk).trans h.c1, (World.cell?_of_block (a := ⟨b, 2, none⟩) hk).trans h.c2, (World.cell?_of_block (a := ⟨b, 3, none⟩) hk).trans h.c3, (World.cell?_of_block (a := ⟨b, 4, none⟩) hk).trans h.c4⟩

set_option maxHeartbeats 2000000 in
theorem repl_in (lev e : Int) (LA : Option Addr) (n cap r c sb : Nat) (hrc : r ≤ c) (hcn : c ≤ n) (hn : n ≤ 512) :
    SeqT Ybad.prog 27 #[.pointer (some ⟨sb, 0, none⟩)] (fun x : Nat × Nat => #[stV lev e (.slice LA n cap) x.1 x.2]) (· = repls r c n) (· <+: repls r c n) (fun T W => T sb ∧ StAt W sb lev e (.slice LA n cap) r c) := by
  intro l J Jx W T hneed hJ hJx hY h0
  obtain ⟨hTs, hS0⟩ := hneed
  simp only [List.append_toArray, List.cons_append, List.nil_append]
  refine callsIn_of_wp Ybad.func27 rfl trivial ?_ rfl
  simp only [Ybad.ntmps27, List.size_toArray, List.length_cons, List.length_nil, Nat.reduceAdd, Nat.reduceSub, Array.replicate_succ, Array.replicate_zero, List.push_toArray, List.append_toArray, List.nil_append, List.cons_append]
  obtain ⟨s0, s1, s2, s3, s4⟩ := hS0
  gi_wp2
  gi_loopw [3] (fun v3 wr => ∃ k : Nat, k ≤ n + 1 - c ∧ v3 = .int .i64 ((c + k : Nat) : Int) ∧ Hid (W.heap.size ≤ wr.heap.size ∧ Same T W wr ∧ J T (upto r c k 0) wr)) (fun v3 _ => n + 1 - (intOf v3).toNat)
  case atStart => exact ⟨0, Nat.zero_le _, rfl, Nat.le_refl _, Same.refl _ _, by rw [upto_zero]; exact h0⟩
  case round =>
    obtain ⟨k, hk, rfl, H⟩ := hrel
    obtain ⟨q0, q1, q2, q3, q4⟩ : StAt wr sb lev e (.slice LA n cap) r c := (StAt.same ⟨s0, s1, s2, s3, s4⟩ hTs H.out.2.1)
    obtain ⟨ck, Hck⟩ : ∃ ck, Hid (c + k = ck) := ⟨_, rfl⟩
    rw [Hck.out]
    by_cases hlt : ck ≤ n
    · have hltI : (ck : Int) ≤ (n : Int) := by omega
      have hcc : c ≤ ck := by have := Hck.out; omega
      obtain ⟨wo, rfl⟩ : ∃ wo, wo = wr := ⟨_, rfl⟩
      gi_wp2
      gi_loopw [4] (fun v4 wr => ∃ m rm : Nat, r ≤ rm ∧ rm ≤ ck + 1 ∧ Hid (r + m = rm) ∧ v4 = .int .i64 (rm : Int) ∧ Hid (W.heap.size ≤ wr.heap.size ∧ Same T W wr ∧ J T (upto r c k m) wr)) (fun v4 _ => ck + 1 - (intOf v4).toNat)
      case atStart => exact ⟨0, r, Nat.le_refl _, by omega, rfl, rfl, H.out⟩
      case round =>
        obtain ⟨m, rm, hm0, hm, Hrm, rfl, H2⟩ := hrel
        obtain ⟨p0, p1, p2, p3, p4⟩ : StAt wr sb lev e (.slice LA n cap) r c := (StAt.same ⟨s0, s1, s2, s3, s4⟩ hTs H2.out.2.1)
        by_cases hlt2 : rm ≤ ck
        · have hltI2 : (rm : Int) ≤ (ck : Int) := by omega
          have tell : rm ≠ r ∨ ck ≠ c → Hid (YieldAt Fence.wide 0 Ybad.prog l #[.agg #[.int .i64 lev, .slice LA n cap, .int .i64 (rm : Int), .int .i64 (ck : Int), .int .i64 e]] (wr.alloc (.cells #[.int .i64 lev, .slice LA n cap, .int .i64 (rm : Int), .int .i64 (ck : Int), .int .i64 e] 31)) fun e' W' => (W.heap.size ≤ W'.heap.size ∧ Same T W W') ∧ ((e' = .returned (.bool true) ∧ J T (upto r c k (m + 1)) W') ∨ (e' = .returned (.bool false) ∧ Jx T (upto r c k (m + 1)) W' ∧ upto r c k (m + 1) <+: repls r c n))) := by
            intro hne
            have h1 := Hrm.out
            have h2 := Hck.out
            have hup : upto r c k (m + 1) = upto r c k m ++ [(rm, ck)] := by rw [upto_succ, if_neg (by omega), h1, h2]
            have hpre : upto r c k (m + 1) <+: repls r c n := upto_pre r c n k (m + 1) (by omega) (by omega)
            have hy := hY T (upto r c k m) (rm, ck) _ ((hJ.own T).alloc (.cells #[.int .i64 lev, .slice LA n cap, .int .i64 (rm : Int), .int .i64 (ck : Int), .int .i64 e] 31) H2.out.2.2) (hup ▸ hpre)
            refine YieldAt.mono hy ?_
            rintro e' W' ⟨hkf, hb, h3⟩
            rw [hup]
            refine ⟨⟨by have := hkf.size; simp at this; have := H2.out.1; omega, (H2.out.2.1.alloc H2.out.1 _).trans hb (by simp; have := H2.out.1; omega)⟩, ?_⟩
            rcases h3 with h3 | h3
            · exact .inl h3
            · exact .inr ⟨h3.1, h3.2, hup ▸ hpre⟩
          by_cases hr0 : rm = r
          · by_cases hc0 : ck = c
            · have HN : Hid (W.heap.size ≤ wr.heap.size ∧ Same T W wr ∧ J T (upto r c k (m + 1)) wr) := by
                refine ⟨H2.out.1, H2.out.2.1, ?_⟩
                rw [upto_succ, if_pos ⟨by have := Hrm.out; omega, by have := Hck.out; omega⟩]
                exact H2.out.2.2
              clear tell
              subst hr0
              subst hc0
              gi_wp2
              go_roundw
              case rel => exact ⟨m + 1, rm + 1, by omega, by omega, by have := Hrm.out; show _ = _; omega, by go_num, HN.out⟩
              case measure => simp [intOf]; omega
            · obtain ⟨fn, tmps, assign, body, hy, hR⟩ := (tell (.inr hc0)).out
              have hcI : ¬ (ck : Int) = (c : Int) := by omega
              clear tell
              subst hr0
              gi_wp2
              refine ⟨rfl, hR.mono ?_⟩
              rintro e' W3 ⟨hB3, (⟨rfl, hJ3⟩ | ⟨rfl, hJx3, hp3⟩)⟩
              · gi_wp2
                go_roundw
                case rel => exact ⟨m + 1, rm + 1, by omega, by omega, by have := Hrm.out; show _ = _; omega, by go_num, hB3.1, hB3.2, hJ3⟩
                case measure => simp [intOf]; omega
              · gi_wp2
                refine bodyPost_ret (results_none rfl _ _ _) rfl ?_
                exact ⟨⟨_, rfl⟩, hB3.1, hB3.2, .inr ⟨_, hp3, hJx3⟩⟩
          · obtain ⟨fn, tmps, assign, body, hy, hR⟩ := (tell (.inl hr0)).out
            have hrI : ¬ (rm : Int) = (r : Int) := by omega
            clear tell
            gi_wp2
            refine ⟨rfl, hR.mono ?_⟩
            rintro e' W3 ⟨hB3, (⟨rfl, hJ3⟩ | ⟨rfl, hJx3, hp3⟩)⟩
            · gi_wp2
              go_roundw
              case rel => exact ⟨m + 1, rm + 1, by omega, by omega, by have := Hrm.out; show _ = _; omega, by go_num, hB3.1, hB3.2, hJ3⟩
              case measure => simp [intOf]; omega
            · gi_wp2
              refine bodyPost_ret (results_none rfl _ _ _) rfl ?_
              exact ⟨⟨_, rfl⟩, hB3.1, hB3.2, .inr ⟨_, hp3, hJx3⟩⟩
        · have hltI2 : ¬ (rm : Int) ≤ (ck : Int) := by omega
          have HN : Hid (W.heap.size ≤ wr.heap.size ∧ Same T W wr ∧ J T (upto r c (k + 1) 0) wr) := by
            have h1 := Hrm.out
            have h2 := Hck.out
            have : m = c + k + 1 - r := by omega
            rw [← upto_row, ← this]
            exact H2.out
          gi_wp2
          go_roundw
          case rel => exact ⟨k + 1, by have := Hck.out; omega, by have := Hck.out; rw [← this]; go_num, HN.out⟩
          case measure => have := Hck.out; simp [intOf]; omega
    · have hltI : ¬ (ck : Int) ≤ (n : Int) := by omega
      have HN : Hid (W.heap.size ≤ wr.heap.size ∧ Same T W wr ∧ J T (repls r c n) wr) := by
        have h2 := Hck.out
        have : k = n + 1 - c := by omega
        rw [← upto_full, ← this]
        exact H.out
      gi_wp2
      go_end0
      exact ⟨⟨_, rfl⟩, HN.out.1, HN.out.2.1, .inl HN.out.2.2⟩
end Go.Proofs.YbulkejpeDoor
