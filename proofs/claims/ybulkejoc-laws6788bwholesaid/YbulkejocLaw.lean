/- The law, for rows of at most 512 elements. -/
import Derived.Test.YbulkejocMemL
import Derived.Test.YbulkejocLw
import Derived.Test.YbulkejocRumL
import Derived.Test.YbulkejocNtL
import Derived.Test.YbulkejocCmpR
import Derived.WideMake
import Derived.Deep.Cut
import Derived.Deep.CutRange
import Derived.Outline
namespace Go.Proofs.Ybulkejoc
open Go.ChangeShapes Go.WideShapes Go.ChangeAt Go.RowKit

set_option maxRecDepth 100000 in
set_option maxHeartbeats 4000000 in
theorem law_any (me : Mb) (sst : Nat) (MA RA : Option Addr) (nm mcap nr rcap : Nat) (use : Bool) (now : Int) (W : World) (hm : nm ≤ 512) (hr : nr ≤ 512) (hst : sst < 256) (hmeok : me.Ok) (hme : me.st = sst % 4) (ms : Nat → Mb) (hM : InM W MA nm ms) (rs : Nat → Mb) (rk : Nat → Nat) (hRR : InR W RA nr rs rk) :
    Calls Yba.prog 3 #[.string me.addr, .int .u64 me.tok, .int .u8 sst, .int .u64 me.inc, .slice MA nm mcap, .slice RA nr rcap, .bool use, .int .i64 now] W fun e W' => e = .returned (.bool true) ∧ Below W.heap.size W W' := by
  have hmm := @run_makeMap_plain Yba.prog
  have hmI : ¬ (512 : Int) < (nm : Int) := by omega
  have hrI : ¬ (512 : Int) < (nr : Int) := by omega
  have hst4 : (sst : Int) % 4 = (me.st : Int) := by omega
  have hst5 : me.st < 4 := by omega
  have HM : Hid (InM W MA nm ms) := hM
  have HR : Hid (InR W RA nr rs rk) := hRR
  clear hM hRR hme
  go_enter Yba.func3, Yba.ntmps3
  go_upto_if 80 with fail
  go_cut [17, 18, 19] from 61 to 82 (fun v17 v18 v19 w => ∃ sb lg cb, v17 = .pointer (some ⟨sb, 0, none⟩) ∧ v18 = .pointer (some ⟨lg, 0, none⟩) ∧ v19 = .pointer (some ⟨cb, 0, none⟩) ∧ Lw W me use sb lg cb w)
  case first =>
    cases use
    · go_wp2
      go_meet
      exact ⟨W.heap.size, W.heap.size + 1, W.heap.size + 1 + 1, rfl, rfl, rfl, lw_of W me false⟩
    · go_wp2
      go_meet
      exact ⟨W.heap.size, W.heap.size + 1, W.heap.size + 1 + 1, rfl, rfl, rfl, lw_of W me true⟩
  case rest =>
    obtain ⟨sb, lg, cb, rfl, rfl, rfl, hw⟩ := hcut
    go_wp2
    have HB1 : Hid (Below W.heap.size W (wc.alloc (.map #[] 0)) ∧ W.heap.size ≤ wc.heap.size) := ⟨hw.bel.alloc hw.bel.size _, hw.bel.size⟩
    have HL0 : Hid (MemAt (wc.alloc (.map #[] 0)) wc.heap.size [] (.slice none 0 0) (.slice none 0 0) (wc.alloc (.map #[] 0))) := MemAt.start wc
    refine memL W _ MA nm mcap ms wc.heap.size hm HM HB1 HL0 (fun a' w2 hx => ?_)
    obtain ⟨u21, hx⟩ := hx; obtain ⟨u22, hx⟩ := hx; obtain ⟨u24, hx⟩ := hx; obtain ⟨u25, hx⟩ := hx; obtain ⟨u26, hx⟩ := hx; obtain ⟨u27, hx⟩ := hx; obtain ⟨u86, hx⟩ := hx; obtain ⟨u87, hx⟩ := hx; obtain ⟨u88, hx⟩ := hx; obtain ⟨u89, hx⟩ := hx; obtain ⟨u90, hx⟩ := hx; obtain ⟨u91, hx⟩ := hx; obtain ⟨u92, hx⟩ := hx; obtain ⟨u93, hx⟩ := hx; obtain ⟨u94, hx⟩ := hx; obtain ⟨u95, hx⟩ := hx; obtain ⟨u96, hx⟩ := hx; obtain ⟨u97, hx⟩ := hx; obtain ⟨u98, hx⟩ := hx; obtain ⟨u99, hx⟩ := hx; obtain ⟨u100, hx⟩ := hx; obtain ⟨u101, hx⟩ := hx; obtain ⟨u102, hx⟩ := hx; obtain ⟨u103, hx⟩ := hx; obtain ⟨u104, hx⟩ := hx; obtain ⟨u105, hx⟩ := hx; obtain ⟨u106, hx⟩ := hx; obtain ⟨u107, hx⟩ := hx; obtain ⟨u108, hx⟩ := hx; obtain ⟨u109, hx⟩ := hx; obtain ⟨u110, hx⟩ := hx; obtain ⟨u111, hx⟩ := hx; obtain ⟨u112, hx⟩ := hx; obtain ⟨u113, hx⟩ := hx; obtain ⟨u114, hx⟩ := hx; obtain ⟨u115, hx⟩ := hx; obtain ⟨u116, hx⟩ := hx; obtain ⟨u117, hx⟩ := hx; obtain ⟨u118, hx⟩ := hx; obtain ⟨u119, hx⟩ := hx; obtain ⟨u120, hx⟩ := hx; obtain ⟨u121, hx⟩ := hx; obtain ⟨u122, hx⟩ := hx; obtain ⟨u123, hx⟩ := hx; obtain ⟨u124, hx⟩ := hx
    obtain ⟨hx, rfl⟩ := hx
    obtain ⟨L, hLn, hL⟩ := hx.out
    clear hx
    have HWr : Hid (Below W.heap.size W w2) := HB1.out.1.trans (hL.kept.below (fun k hk e => by have := HB1.out.2; omega) HB1.out.1.size)
    have HL : Hid (MemAt (wc.alloc (.map #[] 0)) wc.heap.size L u21 u22 w2) := hL
    have Hw : Hid (Lw W me use sb lg cb wc) := hw
    obtain ⟨vA, vaC, rfl⟩ := own_form hL.addr
    obtain ⟨rA, vrC, rfl⟩ := own_form hL.recs
    clear hL hw
    go_wp2
    refine rumL W _ RA nr rcap rs rk hr HR HWr (fun a' w3 hx => ?_)
    obtain ⟨u28, hx⟩ := hx; obtain ⟨u29, hx⟩ := hx; obtain ⟨u31, hx⟩ := hx; obtain ⟨u32, hx⟩ := hx; obtain ⟨u33, hx⟩ := hx; obtain ⟨u127, hx⟩ := hx; obtain ⟨u128, hx⟩ := hx; obtain ⟨u129, hx⟩ := hx; obtain ⟨u130, hx⟩ := hx; obtain ⟨u131, hx⟩ := hx; obtain ⟨u132, hx⟩ := hx; obtain ⟨u133, hx⟩ := hx; obtain ⟨u134, hx⟩ := hx; obtain ⟨u135, hx⟩ := hx; obtain ⟨u136, hx⟩ := hx; obtain ⟨u137, hx⟩ := hx; obtain ⟨u138, hx⟩ := hx; obtain ⟨u139, hx⟩ := hx; obtain ⟨u140, hx⟩ := hx; obtain ⟨u141, hx⟩ := hx; obtain ⟨u142, hx⟩ := hx; obtain ⟨u143, hx⟩ := hx; obtain ⟨u144, hx⟩ := hx; obtain ⟨u145, hx⟩ := hx; obtain ⟨u146, hx⟩ := hx; obtain ⟨u147, hx⟩ := hx; obtain ⟨u148, hx⟩ := hx; obtain ⟨u149, hx⟩ := hx; obtain ⟨u150, hx⟩ := hx; obtain ⟨u151, hx⟩ := hx; obtain ⟨u152, hx⟩ := hx; obtain ⟨u153, hx⟩ := hx; obtain ⟨u154, hx⟩ := hx; obtain ⟨u155, hx⟩ := hx; obtain ⟨u156, hx⟩ := hx; obtain ⟨u157, hx⟩ := hx; obtain ⟨u158, hx⟩ := hx; obtain ⟨u159, hx⟩ := hx
    obtain ⟨hx, rfl⟩ := hx
    obtain ⟨R, hRn, hRm⟩ := hx.out
    clear hx
    obtain ⟨sA, vsC, rfl⟩ := own_form hRm.rows
    obtain ⟨mA, vmC, rfl⟩ := own_form hRm.model
    have hw := Hw.out
    have hL := HL.out
    have hW2 : Below W.heap.size W w3 := HWr.out.trans (hRm.bel.mono HWr.out.size)
    obtain ⟨wr, rfl⟩ : ∃ wr, wr = w3 := ⟨_, rfl⟩
    have hkw : ∀ b, b < wc.heap.size → wr.heap[b]? = wc.heap[b]? := by
      intro b hb
      rw [hRm.bel.block b (by have := hL.kept.size; simp at this; omega), hL.kept.block b (by simp; omega) (by omega), heap_alloc_old _ _ hb]
    have hsb := (hkw sb (lt_of_heap hw.self)).trans hw.self
    have hlg := (hkw lg (lt_of_heap hw.log)).trans hw.log
    have hcb := (hkw cb (lt_of_heap hw.cfg)).trans hw.cfg
    have hAB : Below wr.heap.size wr (wr.alloc (.cells #[.string ⟨#[122, 122]⟩, .int .u64 7, .int .i64 0, .bool false, .bool false] 59)) := (Below.refl _ _).alloc (Nat.le_refl _) _
    have hsb' := (hAB.block sb (lt_of_heap hsb)).trans hsb
    have hcb' := (hAB.block cb (lt_of_heap hcb)).trans hcb
    have q0 := cell_of_block hcb' 0
    have q1 := cell_of_block hcb' 1
    have q2 := cell_of_block hcb' 2
    have q3 := cell_of_block hcb' 3
    have q4 := cell_of_block hcb' 4
    have q5 := cell_of_block hcb' 5
    have q6 := cell_of_block hcb' 6
    have q7 := cell_of_block hcb' 7
    have q8 := cell_of_block hcb' 8
    have q9 := cell_of_block hcb' 9
    have q10 := cell_of_block hcb' 10
    have p0 := cell_of_block hsb' 0
    have p1 := cell_of_block hsb' 1
    have p2 := cell_of_block hsb' 2
    have p3 := cell_of_block hsb' 3
    simp only [List.getElem?_toArray, List.getElem?_cons_zero, List.getElem?_cons_succ] at q0 q1 q2 q3 q4 q5 q6 q7 q8 q9 q10 p0 p1 p2 p3
    clear hsb' hcb'
    have hlv := leave_law (pre_of hw hL hRm hW2 (by omega) (by omega)) hmeok now
    simp only [callW, nodeCells] at hlv
    clear hkw hsb hlg hcb hAB
    go_upto_region 33 with fail
    go_cut [20, 34, 35, 36] from 61 to 176 (fun v20 v34 v35 v36 w => ∃ (mp pb nb : Nat) (got : Value) (f : Nat → Mb × Int) (emem : Nat → Mb), v20 = .map (some mp) ∧ v34 = .pointer (some ⟨pb, 0, none⟩) ∧ v35 = .pointer (some ⟨nb, 0, none⟩) ∧ v36 = got ∧ Hid ((∀ p ∈ R, f p.1 = p.2) ∧ (∀ p ∈ L, emem p.1 = p.2) ∧
      Aft W me use sb lg mp pb nb L (lvF (fun k => (f k).1) emem me L (R.map (·.1)) (fun k => (f k).2)) (fun k => (f k).1) (R.map (·.2)) (.slice vA L.length vaC) (.slice rA L.length vrC) (.slice mA R.length vmC) got now w))
    case first =>
      go_wp2_with (go_at_call 5; refine hlv.mono ?_; rintro e w3 ⟨got, rfl, f, emem, hf, he, hA⟩)
      go_meet
      exact ⟨_, _, _, got, f, emem, rfl, rfl, rfl, rfl, hf, he, hA⟩
    case rest =>
      obtain ⟨mp, pb, nb, got, f, emem, rfl, rfl, rfl, rfl, HA⟩ := hcut
      have HRok : Hid ((R.map (·.1)).Nodup ∧ (∀ p ∈ R, p.2.1.Ok ∧ 0 ≤ p.2.2 ∧ p.2.2 ≤ 15) ∧ R.length ≤ 512 ∧ L.length ≤ 512) := ⟨hRm.blocks, hRm.ok, by omega, by omega⟩
      clear hlv q0 q1 q2 q3 q4 q5 q6 q7 q8 q9 q10 p0 p1 p2 p3 hRm hL hW2 hw HM HR HL Hw HWr HB1 HL0
      have hA := HA.out.2.2
      have hs2 := cell_of_block hA.self 2
      simp only [List.getElem?_toArray, List.getElem?_cons_zero, List.getElem?_cons_succ] at hs2
      have HA' : Hid (Aft W me use sb lg mp pb nb L (lvF (fun k => (f k).1) emem me L (R.map (·.1)) (fun k => (f k).2)) (fun k => (f k).1) (R.map (·.2)) (.slice vA L.length vaC) (.slice rA L.length vrC) (.slice mA R.length vmC) u36 now wc) := hA
      clear hA
      obtain ⟨wa, rfl⟩ : ∃ wa, wa = wc := ⟨_, rfl⟩
      go_upto_if 180 with fail
      go_cut [29, 37, 38, 39] from 40 to 305 (fun v29 v37 v38 v39 w => Hid (WantEnd wa me use sb pb (lvF (fun k => (f k).1) emem me L (R.map (·.1)) (fun k => (f k).2)) (fun k => (f k).1) (.slice mA R.length vmC) v29 v37 v38 v39 w))
      case first =>
        by_cases hleft : me.st = 3
        · have hl1 : (me.st : Int) = 3 := by omega
          have Hend : Hid _ := want_left HA.out.1 hleft HA'.out
          clear hleft
          go_wp2
          go_meet
          exact Hend.out
        · have hl1 : ¬ (me.st : Int) = 3 := by omega
          have HA2 : Hid ((∀ p ∈ R, f p.1 = p.2) ∧ (∀ p ∈ L, emem p.1 = p.2)) := ⟨HA.out.1, HA.out.2.1⟩
          refine wp_cond_true ?ev ?_
          case ev =>
            refine (congrArg Value.bool ?_ : Value.bool _ = Value.bool true)
            simp
            omega
          refine ntL W wa me use sb lg mp pb nb L R f emem vA rA mA vaC vrC vmC u36 now hmeok hleft HRok HA2 HA' (fun a' w' hx => ?_)
          obtain ⟨u29, hx⟩ := hx; obtain ⟨u37, hx⟩ := hx; obtain ⟨u38, hx⟩ := hx; obtain ⟨u39, hx⟩ := hx; obtain ⟨u40, hx⟩ := hx; obtain ⟨u41, hx⟩ := hx; obtain ⟨u42, hx⟩ := hx; obtain ⟨u43, hx⟩ := hx; obtain ⟨u44, hx⟩ := hx; obtain ⟨u45, hx⟩ := hx; obtain ⟨u46, hx⟩ := hx; obtain ⟨u47, hx⟩ := hx; obtain ⟨u48, hx⟩ := hx; obtain ⟨u49, hx⟩ := hx; obtain ⟨u51, hx⟩ := hx; obtain ⟨u52, hx⟩ := hx; obtain ⟨u181, hx⟩ := hx; obtain ⟨u182, hx⟩ := hx; obtain ⟨u183, hx⟩ := hx; obtain ⟨u184, hx⟩ := hx; obtain ⟨u185, hx⟩ := hx; obtain ⟨u186, hx⟩ := hx; obtain ⟨u187, hx⟩ := hx; obtain ⟨u188, hx⟩ := hx; obtain ⟨u189, hx⟩ := hx; obtain ⟨u190, hx⟩ := hx; obtain ⟨u191, hx⟩ := hx; obtain ⟨u192, hx⟩ := hx; obtain ⟨u193, hx⟩ := hx; obtain ⟨u194, hx⟩ := hx; obtain ⟨u195, hx⟩ := hx; obtain ⟨u196, hx⟩ := hx; obtain ⟨u197, hx⟩ := hx; obtain ⟨u198, hx⟩ := hx; obtain ⟨u199, hx⟩ := hx; obtain ⟨u200, hx⟩ := hx; obtain ⟨u201, hx⟩ := hx; obtain ⟨u202, hx⟩ := hx; obtain ⟨u203, hx⟩ := hx; obtain ⟨u204, hx⟩ := hx; obtain ⟨u205, hx⟩ := hx; obtain ⟨u206, hx⟩ := hx; obtain ⟨u207, hx⟩ := hx; obtain ⟨u208, hx⟩ := hx; obtain ⟨u209, hx⟩ := hx; obtain ⟨u210, hx⟩ := hx; obtain ⟨u211, hx⟩ := hx; obtain ⟨u212, hx⟩ := hx; obtain ⟨u213, hx⟩ := hx; obtain ⟨u214, hx⟩ := hx; obtain ⟨u215, hx⟩ := hx; obtain ⟨u216, hx⟩ := hx; obtain ⟨u217, hx⟩ := hx; obtain ⟨u218, hx⟩ := hx; obtain ⟨u219, hx⟩ := hx; obtain ⟨u220, hx⟩ := hx; obtain ⟨u221, hx⟩ := hx; obtain ⟨u222, hx⟩ := hx; obtain ⟨u223, hx⟩ := hx; obtain ⟨u224, hx⟩ := hx; obtain ⟨u225, hx⟩ := hx; obtain ⟨u226, hx⟩ := hx; obtain ⟨u227, hx⟩ := hx; obtain ⟨u228, hx⟩ := hx; obtain ⟨u229, hx⟩ := hx; obtain ⟨u230, hx⟩ := hx; obtain ⟨u231, hx⟩ := hx; obtain ⟨u232, hx⟩ := hx; obtain ⟨u233, hx⟩ := hx; obtain ⟨u234, hx⟩ := hx; obtain ⟨u235, hx⟩ := hx; obtain ⟨u236, hx⟩ := hx; obtain ⟨u237, hx⟩ := hx; obtain ⟨u238, hx⟩ := hx; obtain ⟨u239, hx⟩ := hx; obtain ⟨u240, hx⟩ := hx; obtain ⟨u241, hx⟩ := hx; obtain ⟨u242, hx⟩ := hx; obtain ⟨u243, hx⟩ := hx; obtain ⟨u244, hx⟩ := hx; obtain ⟨u245, hx⟩ := hx; obtain ⟨u246, hx⟩ := hx; obtain ⟨u247, hx⟩ := hx; obtain ⟨u248, hx⟩ := hx; obtain ⟨u249, hx⟩ := hx; obtain ⟨u250, hx⟩ := hx; obtain ⟨u251, hx⟩ := hx; obtain ⟨u252, hx⟩ := hx; obtain ⟨u253, hx⟩ := hx; obtain ⟨u254, hx⟩ := hx; obtain ⟨u255, hx⟩ := hx; obtain ⟨u256, hx⟩ := hx; obtain ⟨u257, hx⟩ := hx; obtain ⟨u258, hx⟩ := hx; obtain ⟨u259, hx⟩ := hx; obtain ⟨u260, hx⟩ := hx; obtain ⟨u261, hx⟩ := hx; obtain ⟨u262, hx⟩ := hx; obtain ⟨u263, hx⟩ := hx; obtain ⟨u264, hx⟩ := hx; obtain ⟨u265, hx⟩ := hx; obtain ⟨u266, hx⟩ := hx; obtain ⟨u267, hx⟩ := hx; obtain ⟨u268, hx⟩ := hx; obtain ⟨u269, hx⟩ := hx; obtain ⟨u270, hx⟩ := hx; obtain ⟨u271, hx⟩ := hx; obtain ⟨u272, hx⟩ := hx; obtain ⟨u273, hx⟩ := hx; obtain ⟨u274, hx⟩ := hx; obtain ⟨u275, hx⟩ := hx; obtain ⟨u276, hx⟩ := hx; obtain ⟨u277, hx⟩ := hx; obtain ⟨u278, hx⟩ := hx; obtain ⟨u279, hx⟩ := hx; obtain ⟨u280, hx⟩ := hx; obtain ⟨u281, hx⟩ := hx; obtain ⟨u282, hx⟩ := hx; obtain ⟨u283, hx⟩ := hx; obtain ⟨u284, hx⟩ := hx; obtain ⟨u285, hx⟩ := hx; obtain ⟨u286, hx⟩ := hx; obtain ⟨u287, hx⟩ := hx; obtain ⟨u288, hx⟩ := hx; obtain ⟨u289, hx⟩ := hx; obtain ⟨u290, hx⟩ := hx; obtain ⟨u291, hx⟩ := hx; obtain ⟨u292, hx⟩ := hx; obtain ⟨u293, hx⟩ := hx; obtain ⟨u294, hx⟩ := hx; obtain ⟨u295, hx⟩ := hx; obtain ⟨u296, hx⟩ := hx; obtain ⟨u297, hx⟩ := hx; obtain ⟨u298, hx⟩ := hx; obtain ⟨u299, hx⟩ := hx; obtain ⟨u300, hx⟩ := hx; obtain ⟨u301, hx⟩ := hx; obtain ⟨u302, hx⟩ := hx; obtain ⟨u303, hx⟩ := hx; obtain ⟨u304, hx⟩ := hx; obtain ⟨u305, hx⟩ := hx
          obtain ⟨hx, rfl⟩ := hx
          go_wp2
          go_meet
          exact hx.out
      case rest =>
        rename_i hK
        have HF : Hid _ := fin_of HA'.out hcut.out
        have Hs : Hid ((lvF (fun k => (f k).1) emem me L (R.map (·.1)) (fun k => (f k).2)).d.length ≤ 512 ∧ (lvF (fun k => (f k).1) emem me L (R.map (·.1)) (fun k => (f k).2)).out.length ≤ 512) := by
          have hg := good_start HA.out.1 HRok.out.1 HRok.out.2.1
          have := HRok.out.2.2
          unfold lvF
          split
          · exact ⟨by simp; omega, by simp⟩
          · have h1 := hg.run (fun k => (f k).1) (gone me) L.length emem (kl L)
            refine ⟨Nat.le_trans h1.len (by simp; omega), Nat.le_trans h1.many (by simp [kl]; omega)⟩
        refine hK _ _ ?_
        refine cmpR W me sb lg mp nb L (lvF (fun k => (f k).1) emem me L (R.map (·.1)) (fun k => (f k).2)) (fun k => (f k).1) vA rA L.length vaC vrC u36 u29 u37 u38 u39 now wc (rfl : L.length = L.length) HRok.out.2.2.2 Hs HF (fun a' w' hx => ?_)
        obtain ⟨u16, hx⟩ := hx; obtain ⟨u53, hx⟩ := hx; obtain ⟨u54, hx⟩ := hx; obtain ⟨u55, hx⟩ := hx; obtain ⟨u56, hx⟩ := hx; obtain ⟨u57, hx⟩ := hx; obtain ⟨u58, hx⟩ := hx; obtain ⟨u59, hx⟩ := hx; obtain ⟨u60, hx⟩ := hx; obtain ⟨u306, hx⟩ := hx; obtain ⟨u307, hx⟩ := hx; obtain ⟨u308, hx⟩ := hx; obtain ⟨u309, hx⟩ := hx; obtain ⟨u310, hx⟩ := hx; obtain ⟨u311, hx⟩ := hx; obtain ⟨u312, hx⟩ := hx; obtain ⟨u313, hx⟩ := hx; obtain ⟨u314, hx⟩ := hx; obtain ⟨u315, hx⟩ := hx; obtain ⟨u316, hx⟩ := hx; obtain ⟨u317, hx⟩ := hx; obtain ⟨u318, hx⟩ := hx; obtain ⟨u319, hx⟩ := hx; obtain ⟨u320, hx⟩ := hx; obtain ⟨u321, hx⟩ := hx; obtain ⟨u322, hx⟩ := hx; obtain ⟨u323, hx⟩ := hx; obtain ⟨u324, hx⟩ := hx; obtain ⟨u325, hx⟩ := hx; obtain ⟨u326, hx⟩ := hx; obtain ⟨u327, hx⟩ := hx; obtain ⟨u328, hx⟩ := hx; obtain ⟨u329, hx⟩ := hx; obtain ⟨u330, hx⟩ := hx; obtain ⟨u331, hx⟩ := hx; obtain ⟨u332, hx⟩ := hx; obtain ⟨u333, hx⟩ := hx; obtain ⟨u334, hx⟩ := hx; obtain ⟨u335, hx⟩ := hx; obtain ⟨u336, hx⟩ := hx; obtain ⟨u337, hx⟩ := hx; obtain ⟨u338, hx⟩ := hx; obtain ⟨u339, hx⟩ := hx; obtain ⟨u340, hx⟩ := hx; obtain ⟨u341, hx⟩ := hx; obtain ⟨u342, hx⟩ := hx; obtain ⟨u343, hx⟩ := hx; obtain ⟨u344, hx⟩ := hx; obtain ⟨u345, hx⟩ := hx; obtain ⟨u346, hx⟩ := hx; obtain ⟨u347, hx⟩ := hx; obtain ⟨u348, hx⟩ := hx; obtain ⟨u349, hx⟩ := hx; obtain ⟨u350, hx⟩ := hx; obtain ⟨u351, hx⟩ := hx; obtain ⟨u352, hx⟩ := hx; obtain ⟨u353, hx⟩ := hx; obtain ⟨u354, hx⟩ := hx; obtain ⟨u355, hx⟩ := hx; obtain ⟨u356, hx⟩ := hx; obtain ⟨u357, hx⟩ := hx; obtain ⟨u358, hx⟩ := hx; obtain ⟨u359, hx⟩ := hx; obtain ⟨u360, hx⟩ := hx; obtain ⟨u361, hx⟩ := hx; obtain ⟨u362, hx⟩ := hx; obtain ⟨u363, hx⟩ := hx; obtain ⟨u364, hx⟩ := hx; obtain ⟨u365, hx⟩ := hx; obtain ⟨u366, hx⟩ := hx; obtain ⟨u367, hx⟩ := hx; obtain ⟨u368, hx⟩ := hx; obtain ⟨u369, hx⟩ := hx; obtain ⟨u370, hx⟩ := hx; obtain ⟨u371, hx⟩ := hx; obtain ⟨u372, hx⟩ := hx; obtain ⟨u373, hx⟩ := hx; obtain ⟨u374, hx⟩ := hx; obtain ⟨u375, hx⟩ := hx; obtain ⟨u376, hx⟩ := hx; obtain ⟨u377, hx⟩ := hx; obtain ⟨u378, hx⟩ := hx; obtain ⟨u379, hx⟩ := hx; obtain ⟨u380, hx⟩ := hx; obtain ⟨u381, hx⟩ := hx; obtain ⟨u382, hx⟩ := hx; obtain ⟨u383, hx⟩ := hx; obtain ⟨u384, hx⟩ := hx; obtain ⟨u385, hx⟩ := hx; obtain ⟨u386, hx⟩ := hx; obtain ⟨u387, hx⟩ := hx; obtain ⟨u388, hx⟩ := hx; obtain ⟨u389, hx⟩ := hx; obtain ⟨u390, hx⟩ := hx; obtain ⟨u391, hx⟩ := hx; obtain ⟨u392, hx⟩ := hx; obtain ⟨u393, hx⟩ := hx; obtain ⟨u394, hx⟩ := hx; obtain ⟨u395, hx⟩ := hx; obtain ⟨u396, hx⟩ := hx; obtain ⟨u397, hx⟩ := hx; obtain ⟨u398, hx⟩ := hx; obtain ⟨u399, hx⟩ := hx; obtain ⟨u400, hx⟩ := hx; obtain ⟨u401, hx⟩ := hx; obtain ⟨u402, hx⟩ := hx; obtain ⟨u403, hx⟩ := hx; obtain ⟨u404, hx⟩ := hx; obtain ⟨u405, hx⟩ := hx; obtain ⟨u406, hx⟩ := hx; obtain ⟨u407, hx⟩ := hx; obtain ⟨u408, hx⟩ := hx; obtain ⟨u409, hx⟩ := hx; obtain ⟨u410, hx⟩ := hx; obtain ⟨u411, hx⟩ := hx; obtain ⟨u412, hx⟩ := hx; obtain ⟨u413, hx⟩ := hx; obtain ⟨u414, hx⟩ := hx; obtain ⟨u415, hx⟩ := hx; obtain ⟨u416, hx⟩ := hx; obtain ⟨u417, hx⟩ := hx; obtain ⟨u418, hx⟩ := hx; obtain ⟨u419, hx⟩ := hx; obtain ⟨u420, hx⟩ := hx; obtain ⟨u421, hx⟩ := hx; obtain ⟨u422, hx⟩ := hx; obtain ⟨u423, hx⟩ := hx; obtain ⟨u424, hx⟩ := hx; obtain ⟨u425, hx⟩ := hx; obtain ⟨u426, hx⟩ := hx; obtain ⟨u427, hx⟩ := hx; obtain ⟨u428, hx⟩ := hx; obtain ⟨u429, hx⟩ := hx; obtain ⟨u430, hx⟩ := hx; obtain ⟨u431, hx⟩ := hx; obtain ⟨u432, hx⟩ := hx; obtain ⟨u433, hx⟩ := hx; obtain ⟨u434, hx⟩ := hx; obtain ⟨u435, hx⟩ := hx; obtain ⟨u436, hx⟩ := hx; obtain ⟨u437, hx⟩ := hx; obtain ⟨u438, hx⟩ := hx; obtain ⟨u439, hx⟩ := hx; obtain ⟨u440, hx⟩ := hx; obtain ⟨u441, hx⟩ := hx; obtain ⟨u442, hx⟩ := hx; obtain ⟨u443, hx⟩ := hx; obtain ⟨u444, hx⟩ := hx; obtain ⟨u445, hx⟩ := hx; obtain ⟨u446, hx⟩ := hx; obtain ⟨u447, hx⟩ := hx; obtain ⟨u448, hx⟩ := hx; obtain ⟨u449, hx⟩ := hx; obtain ⟨u450, hx⟩ := hx; obtain ⟨u451, hx⟩ := hx; obtain ⟨u452, hx⟩ := hx; obtain ⟨u453, hx⟩ := hx; obtain ⟨u454, hx⟩ := hx; obtain ⟨u455, hx⟩ := hx; obtain ⟨u456, hx⟩ := hx; obtain ⟨u457, hx⟩ := hx; obtain ⟨u458, hx⟩ := hx; obtain ⟨u459, hx⟩ := hx; obtain ⟨u460, hx⟩ := hx; obtain ⟨u461, hx⟩ := hx; obtain ⟨u462, hx⟩ := hx; obtain ⟨u463, hx⟩ := hx; obtain ⟨u464, hx⟩ := hx; obtain ⟨u465, hx⟩ := hx; obtain ⟨u466, hx⟩ := hx; obtain ⟨u467, hx⟩ := hx; obtain ⟨u468, hx⟩ := hx; obtain ⟨u469, hx⟩ := hx; obtain ⟨u470, hx⟩ := hx; obtain ⟨u471, hx⟩ := hx; obtain ⟨u472, hx⟩ := hx; obtain ⟨u473, hx⟩ := hx; obtain ⟨u474, hx⟩ := hx; obtain ⟨u475, hx⟩ := hx; obtain ⟨u476, hx⟩ := hx; obtain ⟨u477, hx⟩ := hx; obtain ⟨u478, hx⟩ := hx; obtain ⟨u479, hx⟩ := hx; obtain ⟨u480, hx⟩ := hx; obtain ⟨u481, hx⟩ := hx; obtain ⟨u482, hx⟩ := hx; obtain ⟨u483, hx⟩ := hx; obtain ⟨u484, hx⟩ := hx; obtain ⟨u485, hx⟩ := hx; obtain ⟨u486, hx⟩ := hx; obtain ⟨u487, hx⟩ := hx; obtain ⟨u488, hx⟩ := hx; obtain ⟨u489, hx⟩ := hx; obtain ⟨u490, hx⟩ := hx; obtain ⟨u491, hx⟩ := hx; obtain ⟨u492, hx⟩ := hx; obtain ⟨u493, hx⟩ := hx; obtain ⟨u494, hx⟩ := hx; obtain ⟨u495, hx⟩ := hx; obtain ⟨u496, hx⟩ := hx; obtain ⟨u497, hx⟩ := hx; obtain ⟨u498, hx⟩ := hx; obtain ⟨u499, hx⟩ := hx; obtain ⟨u500, hx⟩ := hx; obtain ⟨u501, hx⟩ := hx; obtain ⟨u502, hx⟩ := hx; obtain ⟨u503, hx⟩ := hx; obtain ⟨u504, hx⟩ := hx; obtain ⟨u505, hx⟩ := hx; obtain ⟨u506, hx⟩ := hx; obtain ⟨u507, hx⟩ := hx; obtain ⟨u508, hx⟩ := hx; obtain ⟨u509, hx⟩ := hx; obtain ⟨u510, hx⟩ := hx; obtain ⟨u511, hx⟩ := hx; obtain ⟨u512, hx⟩ := hx; obtain ⟨u513, hx⟩ := hx; obtain ⟨u514, hx⟩ := hx; obtain ⟨u515, hx⟩ := hx; obtain ⟨u516, hx⟩ := hx; obtain ⟨u517, hx⟩ := hx; obtain ⟨u518, hx⟩ := hx; obtain ⟨u519, hx⟩ := hx; obtain ⟨u520, hx⟩ := hx; obtain ⟨u521, hx⟩ := hx; obtain ⟨u522, hx⟩ := hx; obtain ⟨u523, hx⟩ := hx; obtain ⟨u524, hx⟩ := hx; obtain ⟨u525, hx⟩ := hx; obtain ⟨u526, hx⟩ := hx; obtain ⟨u527, hx⟩ := hx; obtain ⟨u528, hx⟩ := hx; obtain ⟨u529, hx⟩ := hx; obtain ⟨u530, hx⟩ := hx; obtain ⟨u531, hx⟩ := hx; obtain ⟨u532, hx⟩ := hx; obtain ⟨u533, hx⟩ := hx; obtain ⟨u534, hx⟩ := hx
        obtain ⟨hx, rfl⟩ := hx
        obtain ⟨h16, hB⟩ := hx.out
        subst h16
        go_ret
        exact ⟨rfl, hB⟩
end Go.Proofs.Ybulkejoc
