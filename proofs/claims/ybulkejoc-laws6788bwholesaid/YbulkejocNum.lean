/- The sizes: 'zzs6788buvlen' (16), 'zzs6788brec' (7); binary.AppendUvarint onto nil (30), uvarintLen (23), stringSize (24), recordSize (20). -/
import Derived.Test.YbulkejocProg
import Derived.WalkKit
import Derived.WalkLawsBesides
import Derived.WalkSpells
import Derived.ProofKit
import Derived.Handy
import Derived.Lib.Varint
import Derived.Deep.QuietTactic
import Derived.BigQuiet
import Derived.Deep.RegionHeld
namespace Go.Proofs.Ybulkejoc
open Go.ChangeShapes Go.WideShapes Go.ChangeAt Go.RowKit

/-- The length of v's varint. -/
def uvl (v : Nat) : Nat := (Lib.uvarint v).length
theorem uvl_small {v : Nat} (h : v < 128) : uvl v = 1 := by rw [uvl, Lib.uvarint_small h]; rfl
theorem uvl_big {v : Nat} (h : 128 ≤ v) : uvl v = uvl (v / 128) + 1 := by rw [uvl, Lib.uvarint_big h, List.length_cons]; rfl
theorem uvl_le {v : Nat} (h : v < 18446744073709551616) : 1 ≤ uvl v ∧ uvl v ≤ 10 := ⟨Lib.uvarint_pos v, Lib.uvarint_length64 h⟩

/-- All old cells, all old marks read as before. -/
theorem bcell {W w1 : World} (hb : Below W.heap.size W w1) : (∀ b o, b < W.heap.size → w1.cell? ⟨b, o, none⟩ = W.cell? ⟨b, o, none⟩) ∧ (∀ b o, b < W.heap.size → w1.frozen? ⟨b, o, none⟩ = W.frozen? ⟨b, o, none⟩) :=
  ⟨fun b o h => hb.cell (p := ⟨b, o, none⟩) h, fun b o h => hb.frozen (p := ⟨b, o, none⟩) h⟩

theorem ret_int' {k : IntKind} {a b : Int} (h : a = b) : Ending.returned (.int k a) = .returned (.int k b) := by rw [h]

theorem uvlen_any (v : Nat) (hv : v < 18446744073709551616) (w : World) : Calls Yba.prog 16 #[.int .u64 (v : Int)] w fun e w' => e = .returned (.int .i64 (uvl v : Int)) ∧ w' = w := by
  go_enter Yba.func16, Yba.ntmps16
  go_wp2
  go_loop [0, 3] (fun vv vk => ∃ (x k : Nat), x ≤ v ∧ vv = .int .u64 (x : Int) ∧ vk = .int .i64 (k : Int) ∧ Hid (k + uvl x = uvl v + 1) ∧ 1 ≤ k ∧ k ≤ 10) (fun vv _ => (intOf vv).toNat)
  case atStart => exact ⟨v, 1, Nat.le_refl _, rfl, rfl, show _ = _ by omega, by omega, by omega⟩
  case round =>
    obtain ⟨x, k, hx, rfl, rfl, HK, hk1, hk2⟩ := hrel
    by_cases h : 128 ≤ x
    · have h' : (128 : Int) ≤ (x : Int) := by omega
      go_wp2
      go_round
      case rel =>
        have h1 := HK.out
        rw [uvl_big h] at h1
        have h2 := (uvl_le (v := x / 128) (by omega)).1
        have h3 := (uvl_le hv).2
        exact ⟨x / 128, k + 1, by omega, by go_num, by go_num, show _ = _ by omega, by omega, by omega⟩
      case measure => simp [intOf]; omega
    · have h' : ¬ (128 : Int) ≤ (x : Int) := by omega
      go_wp2
      go_ret
      have h1 := HK.out
      rw [uvl_small (by omega)] at h1
      exact ⟨ret_int' (by omega), rfl⟩

theorem info5 : (Yba.prog.info? 5).map (fun i => (i.zero, i.size, i.bytes)) = some (some (.int .u8 0), 1, 1) := by kernel_rfl

/-- binary.AppendUvarint(nil, x): a slice of as many bytes as x's varint has. -/
theorem appendUvarint_nil (x : Nat) (hx : x < 18446744073709551616) (w : World) : Calls Yba.prog 30 #[.slice none 0 0, .int .u64 (x : Int)] w fun e w' => (∃ g cap, e = .returned (.slice (some ⟨g, 0, none⟩) (uvl x) cap)) ∧ Below w.heap.size w w' := by
  obtain ⟨i0, hi, hz0, hz1, hz2⟩ := info_parts info5
  have hmax := uvl_le hx
  go_enter Yba.func30, Yba.ntmps30
  go_wp2
  go_loopw [0, 1] (fun vb vx wr => ∃ (y k : Nat) (xs : List Value), y ≤ x ∧ vx = .int .u64 (y : Int) ∧ k ≤ 10 ∧ Hid (k + uvl y = uvl x) ∧ wr.ownsRow w.heap.size 5 1 vb k xs ∧ Below w.heap.size w wr) (fun _ vx _ => (intOf vx).toNat)
  case atStart => exact ⟨x, 0, [], Nat.le_refl _, rfl, by omega, show _ = _ by omega, World.ownsRow_nil _ _ _ _, Below.refl _ _⟩
  case round =>
    obtain ⟨y, k, xs, hy, rfl, hk, HK, hown, hB⟩ := hrel
    by_cases h : 128 ≤ y
    · have h' : (128 : Int) ≤ (y : Int) := by omega
      go_wp2_with (at_builtin; refine wpList_append_own _ rfl _ _ 96 rfl w.heap.size 5 i0 (.int .u8 0) 1 1 Yba.underlying96 hi hz0 hz1 hz2 rfl (by decide) _ _ _ rfl (hown.alloc _) ⟨wr.heap.size, 0, none⟩ 1 1 [Value.int .u8 (bits .or .u8 ((y : Int) % 256) 128)] rfl rfl ?c1 ?c2 ?c3 ?c4 ?c5 ?_)
      case c1 =>
        intro j u hj
        match j, hj with
        | 0, hj => simp at hj; subst hj; simp [Addr.add]
      case c2 => intro u hu; simp at hu; subst hu; rfl
      case c3 => unfold maxLen; omega
      case c4 => omega
      case c5 => have := hB.size; simp; omega
      intro v' w1 hown' hgrow _
      have hB1 : Below w.heap.size w w1 := (hB.alloc (by have := hB.size; omega) _).grown hgrow (by have := hB.size; simp; omega) (fun k hk => (hown.lt k hk).1)
      clear hgrow hown hB
      go_wp2
      go_roundw
      case rel =>
        have h1 := HK.out
        rw [uvl_big h] at h1
        have h2 := (uvl_le (v := y / 128) (by omega)).1
        exact ⟨y / 128, k + 1, _, by omega, by go_num, by omega, show _ = _ by omega, hown', hB1⟩
      case measure => simp [intOf]; omega
    · have h' : ¬ (128 : Int) ≤ (y : Int) := by omega
      go_wp2_with (at_builtin; refine wpList_append_own _ rfl _ _ 96 rfl w.heap.size 5 i0 (.int .u8 0) 1 1 Yba.underlying96 hi hz0 hz1 hz2 rfl (by decide) _ _ _ rfl (hown.alloc _) ⟨wr.heap.size, 0, none⟩ 1 1 [Value.int .u8 ((y : Int))] rfl rfl ?c1 ?c2 ?c3 ?c4 ?c5 ?_)
      case c2 => rfl
      case c3 => unfold maxLen; omega
      case c4 => omega
      case c5 => have := hB.size; simp; omega
      intro v' w1 hown' hgrow _
      have hB1 : Below w.heap.size w w1 := (hB.alloc (by have := hB.size; omega) _).grown hgrow (by have := hB.size; simp; omega) (fun k hk => (hown.lt k hk).1)
      clear hgrow hown hB
      go_wp2
      go_ret
      have h1 := HK.out
      rw [uvl_small (by omega)] at h1
      rcases hown'.2 with ⟨_, h0⟩ | ⟨g, cap, cur, rfl, _⟩
      · omega
      · refine ⟨⟨g, cap, ?_⟩, hB1⟩
        rw [← h1]
        rfl

theorem uvarintLen_any (x : Nat) (hx : x < 18446744073709551616) (w : World) : Calls Yba.prog 23 #[.int .u64 (x : Int)] w fun e w' => e = .returned (.int .i64 (uvl x : Int)) ∧ Below w.heap.size w w' := by
  have hmax := uvl_le hx
  go_enter Yba.func23, Yba.ntmps23
  go_wp2_with (go_at_call 30; refine (appendUvarint_nil x hx _).mono ?_; rintro e w1 ⟨⟨g, cap, rfl⟩, hB⟩)
  go_ret
  exact ⟨rfl, hB⟩

/-- A member as plain data. -/
structure Mb where
  addr : ByteArray
  tok : Nat
  st : Nat
  inc : Nat

/-- Its cells. -/
def Mb.cells (m : Mb) : List Value := [.string m.addr, .int .u64 m.tok, .int .u8 m.st, .int .u64 m.inc]
/-- What is known of every member on the road: lengths that memory can hold; numbers of their kinds. -/
structure Mb.Ok (m : Mb) : Prop where
  len : m.addr.size ≤ 1125899906842624
  tok : m.tok < 18446744073709551616
  st : m.st < 256
  inc : m.inc < 18446744073709551616

/-- The length of a member's record. -/
def recF (m : Mb) : Int := (uvl m.addr.size : Int) + (m.addr.size : Int) + 8 + (uvl m.inc : Int) + 1
theorem recF_bd {m : Mb} (h : m.Ok) : 0 < recF m ∧ recF m ≤ 1125899906842700 := by
  have h1 := uvl_le (v := m.addr.size) (by have := h.len; omega)
  have h2 := uvl_le (v := m.inc) h.inc
  have := h.len
  unfold recF
  omega

theorem stringSize_any (s : ByteArray) (hs : s.size ≤ 1125899906842624) (w : World) : Calls Yba.prog 24 #[.string s] w fun e w' => e = .returned (.int .i64 ((uvl s.size : Int) + (s.size : Int))) ∧ Below w.heap.size w w' := by
  have hu := uvl_le (v := s.size) (by omega)
  go_enter Yba.func24, Yba.ntmps24
  go_wp2_with (go_at_call 23; refine (uvarintLen_any s.size (by omega) _).mono ?_; rintro e w1 ⟨rfl, hB⟩)
  go_ret
  exact ⟨rfl, hB⟩

set_option maxHeartbeats 1000000 in
theorem recordSize_any (m : Mb) (hm : m.Ok) (w : World) : Calls Yba.prog 20 #[.agg #[.string m.addr, .int .u64 m.tok, .int .u8 m.st, .int .u64 m.inc]] w fun e w' => e = .returned (.int .i64 (recF m)) ∧ Below w.heap.size w w' := by
  have h1 := uvl_le (v := m.addr.size) (by have := hm.len; omega)
  have h2 := uvl_le (v := m.inc) hm.inc
  have h3 := hm.len
  go_enter Yba.func20, Yba.ntmps20
  go_wp2
  go_region_held (fun w' => w'.cell? ⟨w.heap.size, 0, none⟩ = some (.string m.addr) ∧ w'.cell? ⟨w.heap.size, 3, none⟩ = some (.int .u64 (m.inc : Int)) ∧ w.heap.size < w'.heap.size) (first | (simp; done) | (refine ⟨(hB2.cell (p := ⟨w.heap.size, 0, none⟩) (by simp; omega)).trans (by simp [*]), (hB2.cell (p := ⟨w.heap.size, 3, none⟩) (by simp; omega)).trans (by simp [*]), ?_⟩; have := hB2.size; omega) | (refine ⟨(hB.cell (p := ⟨w.heap.size, 0, none⟩) (by simp)).trans (by simp), (hB.cell (p := ⟨w.heap.size, 3, none⟩) (by simp)).trans (by simp), ?_⟩; have := hB.size; simp at this; omega)) (first | (go_at_call 24; refine (stringSize_any m.addr hm.len _).mono ?_; rintro e w1 ⟨rfl, hB⟩) | (go_at_call 23; refine (uvarintLen_any m.inc hm.inc _).mono ?_; rintro e w2 ⟨rfl, hB2⟩))
  all_goals go_wp2
  all_goals go_ret
  all_goals refine ⟨ret_int' (by simp (disch := omega) only [IntWalk.i64_in]; rfl), ?_⟩
  all_goals exact ((((Below.refl _ _).alloc (Nat.le_refl _) _).drew).trans (hB.mono (by simp))).trans (hB2.mono (by have := hB.size; simp at this; omega))

set_option maxHeartbeats 1000000 in
/-- The law's own measure of a record. -/
theorem rec_any (m : Mb) (hm : m.Ok) (w : World) : Calls Yba.prog 7 #[.agg #[.string m.addr, .int .u64 m.tok, .int .u8 m.st, .int .u64 m.inc]] w fun e w' => e = .returned (.int .i64 (recF m)) ∧ Below w.heap.size w w' := by
  have h1 := uvl_le (v := m.addr.size) (by have := hm.len; omega)
  have h2 := uvl_le (v := m.inc) hm.inc
  have h3 := hm.len
  go_enter Yba.func7, Yba.ntmps7
  go_wp2
  go_quiet ((first | (go_at_call_of 16 (m.inc : Int); exact Calls.quiet_of_same (uvlen_any m.inc hm.inc _)) | (go_at_call 16; exact Calls.quiet_of_same (uvlen_any m.addr.size (by omega) _))))
  go_wp2
  go_ret
  refine ⟨ret_int' rfl, ?_⟩
  exact ⟨rfl, rfl, rfl, by simp, fun k hk => Below.heap_alloc _ _ _ hk⟩
end Go.Proofs.Ybulkejoc
