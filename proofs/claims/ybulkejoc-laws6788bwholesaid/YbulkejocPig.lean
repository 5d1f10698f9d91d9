/- piggyback (21). -/
import Derived.Test.YbulkejocPigA
import Derived.Test.YbulkejocShelf
import Derived.Test.YbulkejocMsg
import Derived.Deep.Cut
import Derived.Deep.CutRange
import Derived.Deep.RegionLaw
import Derived.Deep.AppendLies
namespace Go.Proofs.Ybulkejoc
open Go.ChangeShapes Go.WideShapes Go.ChangeAt Go.RowKit

def limF (n : Nat) : Int := 3 * (Lib.bitLen (n + 1) : Int)

theorem bitLen_bd (n : Nat) (h : n ≤ 100001) : Lib.bitLen n ≤ 17 := Lib.bitLen_le n 17 (by omega) (by omega)

theorem info29 : (Yba.prog.info? 29).map (fun i => (i.zero, i.size, i.bytes)) = some (some (.agg #[.string ByteArray.empty, .int .u64 0, .int .u8 0, .int .u64 0]), 4, 40) := by kernel_rfl
theorem run_next (mem : Nat → Mb) (key : Nat → Int) (lim room : Int) {d : List Nat} {j k : Nat} (hj : d[j]? = some k) {p : Pk} (hp : p = Pk.run mem key lim room (d.take j)) : Pk.run mem key lim room (d.take (j + 1)) = Pk.step mem key lim p k := by
  obtain ⟨hlt, rfl⟩ := List.getElem?_eq_some_iff.1 hj
  rw [List.take_succ_eq_append_getElem hlt, Pk.run_snoc, hp]

set_option maxRecDepth 100000 in
set_option maxHeartbeats 4000000 in
theorem piggy_any (w : World) (nb mb g cap mp : Nat) (es : Array MapEntry) (clock : Nat) (rest : List Value) (d : List Nat) (n : Nat) (mem : Nat → Mb) (key : Nat → Int) (room : Int)
    (h : PigSt w nb mb g d mem key) (hrow : w.heap[g]? = some (.cells ((d.map ptr) ++ rest).toArray 52 (0, 0))) (hmp : w.cell? ⟨nb, 15, none⟩ = some (.map (some mp))) (hob : w.heap[mp]? = some (.map es clock)) (hfew : es.size ≤ 100000) (hmpg : mp ≠ g) (hnews : w.cell? ⟨mb, 7, none⟩ = some (.slice none 0 0))
    (Hn : Hid (d.length = n)) (hbig : n ≤ 100000) (hcap : Hid (d.length + rest.length = cap)) (hr : w.cell? ⟨nb, 24, none⟩ = some (.slice (some ⟨g, 0, none⟩) n cap)) (hroom : -1125899906843000 ≤ room ∧ room ≤ 1400)
    (pos : Nat → Nat) (hp : d.Pairwise (fun x y => pos x < pos y)) :
    Calls Yba.prog 21 #[.pointer (some ⟨nb, 0, none⟩), .pointer (some ⟨mb, 0, none⟩), .int .i64 room] w fun e w' => e = .returned (.tuple #[]) ∧ ∃ d1, d1.Perm d ∧ d1.Pairwise (Stab.lt key pos) ∧
      PigOut w nb mb g cap rest d1 mem key (Pk.run mem key (limF es.size) room d1).ns (Pk.run mem key (limF es.size) room d1).kept w' := by
  obtain ⟨L, hL⟩ : ∃ L : Nat, Lib.bitLen (es.size + 1) = L := ⟨_, rfl⟩
  have hlenb := bitLen_bd (es.size + 1) (by omega)
  rw [hL] at hlenb
  have hlim : limF es.size = 3 * (L : Int) := by rw [limF, hL]
  rw [hlim]
  have hlen : ∀ W, Calls Yba.prog 6 #[.int .u64 ((es.size : Int) + 1)] W fun e w' => e = .returned (.int .i64 L) ∧ w' = W := by
    intro W
    have := Yba.bits_Len ((es.size : Int) + 1) W (by omega) (by omega)
    rw [show ((es.size : Int) + 1).toNat = es.size + 1 by omega, hL] at this
    exact this
  clear hL hlim
  have hS0 : SW w g rest d w := ⟨hrow, rfl, rfl, rfl, rfl, fun _ _ => rfl⟩
  have hK0 : Keys w g key d := fun k hk => ⟨fun e => h.gd (e ▸ hk), (h.rum k hk).sent⟩
  have hnc : n ≤ cap := by have := Hn.out; have := hcap.out; omega
  obtain ⟨i0, hi0, hz0, hz1, hz2⟩ := info_parts info29
  go_enter Yba.func21, Yba.ntmps21
  go_wp2_with (first | (go_at_call 25; refine (sortStable_any w g rest key pos d _ n cap Hn hbig hS0 hK0 hp).mono ?_; (rintro e w1 ⟨rfl, d1, hperm, hlt, hS⟩); have e15 := (hS.cell_other h.ng 15).trans hmp; have e24 := (hS.cell_other h.ng 24).trans hr; have eob := run_len_map (P := Yba.prog) (w := w1) 39 3 mp es clock Yba.underlying39 ((hS.other mp hmpg).trans hob); simp only [goInt] at eob) | (go_at_call 6; refine (hlen _).mono ?_; (rintro e w2 ⟨rfl, rfl⟩)))
  clear e15 eob hlen
  have st : PigSt w nb mb g d1 mem key := ⟨fun k hk => h.rum k (hperm.mem_iff.1 hk), hperm.nodup_iff.2 h.nodup, fun e => h.gd (hperm.mem_iff.1 e), fun e => h.nd (hperm.mem_iff.1 e), fun e => h.md (hperm.mem_iff.1 e), h.ng, h.mg, h.nm, h.fn, h.fm, h.nlt, h.mlt, h.glt⟩
  have hA0 : PigAt w nb mb g rest d1 mem key [] [] w2 := by
    refine ⟨by simpa using hS.row, ⟨_, (hS.cell_other h.mg 7).trans hnews, World.ownsRow_nil _ _ _ _⟩, fun k hk => ?_, ?_⟩
    · rw [hS.cell_other (fun e => st.gd (e ▸ hk)) 4]
      simpa [bump] using (st.rum k hk).sent
    · refine ⟨hS.os, hS.tape, hS.output, by rw [hS.size]; exact Nat.le_refl _, fun b _ hb => hS.other b ?_, fun b o _ hb => hS.cell_other ?_ o, fun b o _ => ?_⟩
      · intro e; exact hb 0 (Or.inr (Or.inl e))
      · intro e; exact hb (Or.inr (Or.inl e))
      · by_cases e : b = g
        · subst e
          rw [hS.frozen, hS0.frozen]
        · exact World.frozen?_of_block (hS.other b e)
  have Hd1 : Hid (d1.length = n) := hperm.length_eq.trans Hn.out
  have Hc1 : Hid (d1.length + rest.length = cap) := by have := hperm.length_eq; have := hcap.out; show _ = _; omega
  clear hS hS0 h hrow e24 Hn hcap
  go_loopw [2, 7, 35] (fun vr vk vi wr => ∃ (j q : Nat) (p : Pk), j ≤ n ∧ vi = .int .i64 (j : Int) ∧ Hid (p = Pk.run mem key (3 * (L : Int)) room (d1.take j)) ∧ vr = .int .i64 p.room ∧ vk = .slice (some ⟨g, 0, none⟩) q cap ∧ Hid (p.kept.length = q) ∧ q ≤ j ∧ PigAt w nb mb g rest d1 mem key p.ns p.kept wr) (fun _ _ vi _ => n - (intOf vi).toNat)
  case atStart => exact ⟨0, 0, ⟨room, [], []⟩, Nat.zero_le _, rfl, rfl, rfl, rfl, rfl, Nat.le_refl _, hA0⟩
  case round =>
    clear hA0
    obtain ⟨j, q, p, hj, rfl, Hp, rfl, rfl, Hq, hqj, hA⟩ := hrel
    by_cases hlt' : j < n
    · have hltI : (j : Int) < (n : Int) := by omega
      obtain ⟨k, Hk⟩ : ∃ k, Hid (d1[j]? = some k) := ⟨d1[j]'(by rw [Hd1.out]; exact hlt'), by show _ = _; simp⟩
      have hkd : k ∈ d1 := List.mem_of_getElem? Hk.out
      have cj := hA.cellj Hk.out (by rw [Hq.out]; exact hqj)
      have hR := st.rum k hkd
      obtain ⟨v, hM⟩ := hA.enter st k
      have hkn : k ∉ p.ns := by
        intro hin
        rw [Hp.out] at hin
        have h1 := (Pk.run_ns mem key (3 * (L : Int)) room (d1.take j)).subset hin
        obtain ⟨hjl, hjk⟩ := List.getElem?_eq_some_iff.1 Hk.out
        obtain ⟨i, hi, hik⟩ := List.mem_iff_getElem.1 h1
        simp only [List.length_take] at hi
        rw [List.getElem_take] at hik
        have := (List.getElem_inj st.nodup).1 (hik.trans hjk.symm)
        omega
      have hrec := fun W => recordSize_any (mem k) hR.ok W
      have hrm : -1125899906843000 ≤ p.room ∧ p.room ≤ 1400 := by
        rw [Hp.out]
        exact Pk.run_room mem key _ room _ (fun i hi => (recF_bd (st.rum i (List.mem_of_mem_take hi)).ok).1) _ _ (by omega) hroom.1 hroom.2
      have hbd := recF_bd hR.ok
      have hks := hM.sent k hkd
      rw [bump, if_neg hkn] at hks
      obtain ⟨c0, c1, c2, c3, _, _⟩ := hM.cells st hkd
      go_upto_region 7 with (go_at_call 20; refine (hrec _).mono ?_; rintro e w3 ⟨rfl, hB3⟩)
      have hM3 := hM.below st hB3
      clear hM hB3 c0 c1 c2 c3 hks cj hA hrec
      have b3 := hM3.box
      have m3 := hM3.news
      obtain ⟨d0, d1', d2, d3, d4, d5⟩ := hM3.cells st hkd
      go_cut [35, 55] from 35 to 89 (fun vi vb W => vi = .int .i64 (j : Int) ∧ vb = .bool (p.fits mem k) ∧ PigMid w nb mb g rest d1 mem key wr.heap.size k v p.ns p.kept W)
      case first =>
        cases hfit : decide (recF (mem k) ≤ p.room)
        · have hfit' := of_decide_eq_false hfit
          go_wp2
          go_meet
          exact ⟨rfl, by simp [Pk.fits, hfit], hM3⟩
        · have hfit' := of_decide_eq_true hfit
          go_wp2_with (go_at_call 28; refine (contains_any (p.ns.map mem) v (mem k).addr wr.heap.size k _ ?_ b3 d0 hM3.lt (by have := hM3.fr.size; have := hR.lt; omega)).mono ?_; (have := ownsRow_base hM3.own (Nat.zero_le _); simpa [MsAt] using this); rintro e w4 ⟨rfl, hB4⟩)
          go_meet
          exact ⟨rfl, by simp [Pk.fits, hfit], hM3.below st hB4⟩
      case rest =>
        obtain ⟨rfl, rfl, hM4⟩ := hcut
        clear hM3 b3 m3 d0 d1' d2 d3 d4 d5
        have b4 := hM4.box
        have m4 := hM4.news
        have k4 := hM4.sent k hkd
        rw [bump, if_neg hkn] at k4
        obtain ⟨e0, e1, e2, e3, e4, e5⟩ := hM4.cells st hkd
        cases hf : p.fits mem k
        · by_cases hkeep : key k < 3 * (L : Int)
          · obtain ⟨W', hr, hM'⟩ := hM4.run_keep st Hk.out Hq.out hqj Hc1.out
            go_wp2_with (at_builtin; refine wpList_append_eq (by rfl) _ _ 48 (by rfl) (.slice (some ⟨g, 0, none⟩) q cap) (.slice (some ⟨wc.heap.size, 0, none⟩) 1 1) _ _ (by rfl) (by rfl) hr ?_)
            go_roundw
            case rel =>
              refine ⟨j + 1, q + 1, ⟨p.room, p.ns, p.kept ++ [k]⟩, by omega, by go_num, ?_, rfl, rfl, by show _ = _; simp [Hq.out], by omega, hM'.toAt⟩
              show _ = _
              rw [run_next mem key _ room Hk.out Hp.out, Pk.step, hf, if_neg (by simp), if_pos hkeep]
            case measure => simp [intOf]; omega
          · go_wp2
            go_roundw
            case rel =>
              refine ⟨j + 1, q, ⟨p.room, p.ns, p.kept⟩, by omega, by go_num, ?_, rfl, rfl, Hq, by omega, hM4.toAt⟩
              show _ = _
              rw [run_next mem key _ room Hk.out Hp.out, Pk.step, hf, if_neg (by simp), if_neg hkeep]
            case measure => simp [intOf]; omega
        · have hfit' : recF (mem k) ≤ p.room := by
            simp only [Pk.fits, Bool.and_eq_true, decide_eq_true_eq] at hf
            exact hf.1
          have hXB : Below wc.heap.size wc (wc.alloc (.cells #[.string (mem k).addr, .int .u64 (mem k).tok, .int .u8 (mem k).st, .int .u64 (mem k).inc] 29)).drew := ((Below.refl _ _).alloc (Nat.le_refl _) _).drew
          have hown4 := (hM4.below st hXB).own
          have hbase : w.heap.size ≤ (wc.alloc (.cells #[.string (mem k).addr, .int .u64 (mem k).tok, .int .u8 (mem k).st, .int .u64 (mem k).inc] 29)).drew.heap.size := (hM4.below st hXB).fr.size
          have hX7 : (wc.alloc (.cells #[.string (mem k).addr, .int .u64 (mem k).tok, .int .u8 (mem k).st, .int .u64 (mem k).inc] 29)).cell? ⟨mb, 7, none⟩ = some v := (hM4.below st hXB).news
          have hX7' := (hM4.below st hXB).news
          have hnsl : p.ns.length ≤ 100000 := by
            have := (Pk.run_ns mem key (3 * (L : Int)) room (d1.take j)).length_le
            rw [← Hp.out] at this
            simp at this
            omega
          go_upto_region 8 with fail
          go_cut [35] from 35 to 89 (fun vi W => vi = .int .i64 (j : Int) ∧ ∃ vv, PigMid w nb mb g rest d1 mem key wr.heap.size k vv (p.ns ++ [k]) p.kept (W.setCell ⟨k, 4, none⟩ (.int .i64 (key k + 1))) ∧ W.cell? ⟨wr.heap.size, 0, none⟩ = some (.pointer (some ⟨k, 0, none⟩)) ∧ W.cell? ⟨k, 4, none⟩ = some (.int .i64 (key k)) ∧ W.frozen? ⟨k, 4, none⟩ = false)
          case first =>
            go_region_law
              ((refine step_append_lies _ (by rfl) _ _ _ (by rfl) w.heap.size 29 i0 _ 4 40 Yba.underlying30 hi0 hz0 hz1 hz2 rfl (by omega) v p.ns.length (mcells (p.ns.map mem)) (by rfl) hown4 ⟨wc.heap.size, 0, none⟩ 1 1 (mem k).cells (by rfl) (by rfl) (World.news_of_block (cs := #[.string (mem k).addr, .int .u64 (mem k).tok, .int .u8 (mem k).st, .int .u64 (mem k).inc]) (t := 29) (fr := (0, 0)) (heap_alloc_new wc _)) (by simp [Mb.cells, Value.oneCell']) (by omega) (by unfold maxLen; omega) (by omega) hbase (wc.heap.size + 1) (by simp) ?_; intro gg gcap w5 hown5 hgrow hat hlt5; obtain ⟨m5, hG, f5, f6, c6⟩ := hM4.grown st hkd hXB hgrow; have hG' := hM4.apart_set st hkd hG))
            all_goals (try go_wp2_with fail)
            all_goals go_meet
            all_goals
              have hT := hM4.told st hkd hkn hXB hown5 hgrow (by rcases hat with e | e; exact Or.inl e; exact Or.inr (by omega)) (key k + 1) rfl
              rw [bump, if_neg hkn] at c6
              have hkm : k ≠ mb := fun e => st.md (by rw [← e]; exact hkd)
              refine ⟨rfl, _, hT, (hG' _).1, ?_, by simpa using f6⟩
              rw [← c6]
              exact World.cell?_of_block (a := ⟨k, 4, none⟩) (Below.heap_setCell _ _ _ _ hkm)
          case rest =>
            obtain ⟨rfl, vv, hT, b6, k6, f6⟩ := hcut
            clear hX7 hX7' hbase hown4 hXB b4 m4 k4 e0 e1 e2 e3 e4 e5 hM4
            have b7 := hT.box
            have k7 := hT.sent k hkd
            rw [bump_snoc hkn, if_pos rfl] at k7
            have hs7 : (wc.setCell ⟨k, 4, none⟩ (.int .i64 (key k + 1))).heap.size = wc.heap.size := by simp
            have hklo := hR.lo
            have hkhi := hR.hi
            by_cases hkeep : key k + 1 < 3 * (L : Int)
            · obtain ⟨W', hr, hM'⟩ := hT.run_keep st Hk.out Hq.out hqj Hc1.out
              rw [hs7] at hr
              go_wp2_with (at_builtin; refine wpList_append_eq (by rfl) _ _ 48 (by rfl) (.slice (some ⟨g, 0, none⟩) q cap) (.slice (some ⟨wc.heap.size, 0, none⟩) 1 1) _ _ (by rfl) (by rfl) hr ?_)
              go_roundw
              case rel =>
                refine ⟨j + 1, q + 1, ⟨p.room - recF (mem k), p.ns ++ [k], p.kept ++ [k]⟩, by omega, by go_num, ?_, by go_num, rfl, by show _ = _; simp [Hq.out], by omega, hM'.toAt⟩
                show _ = _
                rw [run_next mem key _ room Hk.out Hp.out, Pk.step, hf, if_pos rfl, if_pos hkeep]
              case measure => simp [intOf]; omega
            · go_wp2
              go_roundw
              case rel =>
                refine ⟨j + 1, q, ⟨p.room - recF (mem k), p.ns ++ [k], p.kept⟩, by omega, by go_num, ?_, by go_num, rfl, Hq, by omega, hT.toAt⟩
                show _ = _
                rw [run_next mem key _ room Hk.out Hp.out, Pk.step, hf, if_pos rfl, if_neg hkeep]
              case measure => simp [intOf]; omega
    · have hltI : ¬ (j : Int) < (n : Int) := by omega
      have hn24 : wr.cell? ⟨nb, 24, none⟩ = some (.slice (some ⟨g, 0, none⟩) n cap) := by
        rw [hA.fr.cell nb 24 st.nlt ?_]
        · exact hr
        · rintro (⟨e, _⟩ | e | ⟨e, _⟩)
          · exact st.nm e
          · exact st.ng e
          · exact st.nd e
      have hqn : q ≤ n := by omega
      have hjn : d1.take j = d1 := List.take_of_length_le (by rw [Hd1.out]; omega)
      have Hout : Hid (∀ z, PigOut w nb mb g cap rest d1 mem key (Pk.run mem key (3 * (L : Int)) room d1).ns (Pk.run mem key (3 * (L : Int)) room d1).kept ((wr.setCells g q z).setCell ⟨nb, 24, none⟩ (.slice (some ⟨g, 0, none⟩) q cap))) := by
        intro z
        have h1 := Hp.out
        rw [hjn] at h1
        have h2 := hA.out st (by rw [Hq.out, Hd1.out]; exact hqn) cap hn24 z
        rw [Hq.out, h1] at h2
        exact h2
      have hfz : wr.frozen? ⟨nb, 24, none⟩ = false := (hA.fr.frozen nb 24 st.nlt).trans st.fn
      by_cases hqe : q < n
      · have hcl := hA.run_clear Hq.out (m := n - q) (by omega) (by have := Hd1.out; omega) (cap - q) 0
        have hcq : ¬ cap = q := by omega
        have hcq' : ¬ (cap : Int) = (q : Int) := by omega
        have c24 : (wr.setCells g q (List.replicate (n - q) (.pointer none))).cell? ⟨nb, 24, none⟩ = some (.slice (some ⟨g, 0, none⟩) n cap) := (World.cell?_of_block (a := ⟨nb, 24, none⟩) ((setCells_os g _ q wr).2.2.2.2 nb st.ng)).trans hn24
        have f24 : (wr.setCells g q (List.replicate (n - q) (.pointer none))).frozen? ⟨nb, 24, none⟩ = false := (World.frozen?_setCells _ _ _ _ _).trans hfz
        clear hjn
        go_wp2_with (at_builtin; refine wpList_clear_eq (by rfl) _ 48 (by rfl) (.slice (some ⟨g, q, none⟩) (n - q) (cap - q)) _ _ (by rfl) hcl ?_)
        go_end0
        exact ⟨rfl, d1, hperm, hlt, Hout.out _⟩
      · have hqq : q = n := by omega
        subst hqq
        clear hjn
        by_cases hcq : cap = q
        · subst hcq
          have hcl := run_clear_none (some ⟨g, 0, none⟩) 0 0 wr
          go_wp2
          go_end0
          exact ⟨rfl, d1, hperm, hlt, Hout.out []⟩
        · have hcq' : ¬ (cap : Int) = (q : Int) := by omega
          have hcl := run_clear_none (some ⟨g, q, none⟩) (cap - q) 0 wr
          go_wp2
          go_end0
          exact ⟨rfl, d1, hperm, hlt, Hout.out []⟩
end Go.Proofs.Ybulkejoc
