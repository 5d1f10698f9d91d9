/- The law, for rows of at most 512 elements. -/
import Derived.Test.YbulkejpeDoorLb
import Derived.Test.YbulkejpeDoorL1
import Derived.Test.YbulkejpeDoorL2
import Derived.Deep.Cut
import Derived.Deep.CutRange
namespace Go.Proofs.YbulkejpeDoor
open Go Go.ChangeShapes Go.WideShapes Go.ChangeAt Go.RowKit

theorem sz28 : (Ybad.prog.info? 28).map (·.size) = some 2 := by kernel_rfl
theorem sz39 : (Ybad.prog.info? 39).map (·.size) = some 5 := by kernel_rfl

set_option maxRecDepth 1000000 in
set_option maxHeartbeats 8000000 in
theorem law_any (LA WA : Option Addr) (n lcap nw wcap rd cm ep mep lvl lm : Nat) (xs : Nat → Nat) (f : Nat → Wi) (W : World) (hn : n ≤ 512) (hnw : nw ≤ 512) (h1 : rd < 65536) (h2 : cm < 65536) (h3 : ep < 256) (h4 : mep < 256) (h5 : lvl < 256) (h6 : lm < 65536) (hL : InL W LA n xs) (hWs : InW W WA nw f) :
    Calls Ybad.prog 3 #[.slice LA n lcap, .int .u16 (rd : Int), .int .u16 (cm : Int), .int .u8 (ep : Int), .int .u8 (mep : Int), .int .u8 (lvl : Int), .slice WA nw wcap, .int .u16 (lm : Int)] W fun e' W' => e' = .returned (.bool true) ∧ Below W.heap.size W W' := by
  have HL := Hid.mk' hL
  have HW := Hid.mk' hWs
  clear hL hWs
  have hmI : ¬ (512 : Int) < (n : Int) := by omega
  have hrI : ¬ (512 : Int) < (nw : Int) := by omega
  obtain ⟨c, hc, hcn⟩ : ∃ c : Nat, (cm : Int) % ((n : Int) + 1) = (c : Int) ∧ c ≤ n := ⟨cm % (n + 1), by rw [Int.natCast_emod]; simp, by have := Nat.mod_lt cm (show n + 1 > 0 by omega); omega⟩
  obtain ⟨r, hr, hrc⟩ : ∃ r : Nat, (rd : Int) % ((c : Int) + 1) = (r : Int) ∧ r ≤ c := ⟨rd % (c + 1), by rw [Int.natCast_emod]; simp, by have := Nat.mod_lt rd (show c + 1 > 0 by omega); omega⟩
  obtain ⟨e0, he0, he1⟩ : ∃ e0 : Nat, (ep : Int) % 4 = (e0 : Int) ∧ e0 < 4 := ⟨ep % 4, by omega, by omega⟩
  obtain ⟨l0, hl0, hl1⟩ : ∃ l0 : Nat, (lvl : Int) % 5 = (l0 : Int) ∧ l0 < 5 := ⟨lvl % 5, by omega, by omega⟩
  obtain ⟨m0, hm0, hm1⟩ : ∃ m0 : Nat, (mep : Int) % 6 = (m0 : Int) ∧ m0 < 6 := ⟨mep % 6, by omega, by omega⟩
  have hmk := make25 n hn
  have hmk2 := make32 nw hnw
  go_enter Ybad.func3, Ybad.ntmps3
  go_wp2
  refine lp1 W _ LA n lcap W.heap.size xs hn HL ⟨(Below.refl _ _).alloc (Nat.le_refl _) _, Nat.le_refl _⟩ (Fill.new2 W n _) (fun a' w2 hx => ?_)
  obtain ⟨u19, hx⟩ := hx; obtain ⟨u20, hx⟩ := hx; obtain ⟨u62, hx⟩ := hx; obtain ⟨u63, hx⟩ := hx; obtain ⟨u64, hx⟩ := hx; obtain ⟨u65, hx⟩ := hx; obtain ⟨u66, hx⟩ := hx; obtain ⟨u67, hx⟩ := hx; obtain ⟨u68, hx⟩ := hx; obtain ⟨u69, hx⟩ := hx; obtain ⟨u70, hx⟩ := hx; obtain ⟨u71, hx⟩ := hx; obtain ⟨u72, hx⟩ := hx; obtain ⟨u73, hx⟩ := hx; obtain ⟨u74, hx⟩ := hx; obtain ⟨u75, hx⟩ := hx; obtain ⟨u76, hx⟩ := hx; obtain ⟨u77, hx⟩ := hx; obtain ⟨u78, hx⟩ := hx; obtain ⟨u79, hx⟩ := hx; obtain ⟨u80, hx⟩ := hx; obtain ⟨u81, hx⟩ := hx; obtain ⟨u82, hx⟩ := hx; obtain ⟨u83, hx⟩ := hx
  obtain ⟨hx1, rfl⟩ := hx
  go_wp2
  simp only [hc, hr]
  clear hc hr
  have hB2 : Below W.heap.size W w2 := ((Below.refl _ _).alloc (Nat.le_refl _) _).trans (hx1.out.1.below (fun k hk e => by omega) (by simp))
  have hz2 := hB2.size
  have HF2 : Hid (Fill ((w2.alloc (.cells #[.int .i64 ((l0 : Int) + 1), .slice (some ⟨W.heap.size, 0, none⟩) n n, .int .i64 (r : Int), .int .i64 (c : Int), .int .i64 ((e0 : Int) + 1)] 31)).alloc (.cells (mkC5 nw) 39)) (w2.heap.size + 1) 39 5 nw 0 (wcells (mkWs n ((e0 : Int) + 1) nw f))) := by
    have := Fill.new5 (w2.alloc (.cells #[.int .i64 ((l0 : Int) + 1), .slice (some ⟨W.heap.size, 0, none⟩) n n, .int .i64 (r : Int), .int .i64 (c : Int), .int .i64 ((e0 : Int) + 1)] 31)) nw (wcells (mkWs n ((e0 : Int) + 1) nw f))
    rw [World.size_alloc] at this
    exact this
  refine lp2 W _ WA n nw wcap (w2.heap.size + 1) ((e0 : Int) + 1) f hn hnw ⟨by omega, by omega⟩ HW ⟨(hB2.alloc hz2 _).alloc (by simp; omega) _, by omega⟩ HF2 (fun a' w3 hx => ?_)
  obtain ⟨u26, hx⟩ := hx; obtain ⟨u27, hx⟩ := hx; obtain ⟨u28, hx⟩ := hx; obtain ⟨u110, hx⟩ := hx; obtain ⟨u111, hx⟩ := hx; obtain ⟨u112, hx⟩ := hx; obtain ⟨u113, hx⟩ := hx; obtain ⟨u114, hx⟩ := hx; obtain ⟨u115, hx⟩ := hx; obtain ⟨u116, hx⟩ := hx; obtain ⟨u117, hx⟩ := hx; obtain ⟨u118, hx⟩ := hx; obtain ⟨u119, hx⟩ := hx; obtain ⟨u120, hx⟩ := hx; obtain ⟨u121, hx⟩ := hx; obtain ⟨u122, hx⟩ := hx; obtain ⟨u123, hx⟩ := hx; obtain ⟨u124, hx⟩ := hx; obtain ⟨u125, hx⟩ := hx; obtain ⟨u126, hx⟩ := hx; obtain ⟨u127, hx⟩ := hx; obtain ⟨u128, hx⟩ := hx; obtain ⟨u129, hx⟩ := hx; obtain ⟨u130, hx⟩ := hx; obtain ⟨u131, hx⟩ := hx; obtain ⟨u132, hx⟩ := hx; obtain ⟨u133, hx⟩ := hx; obtain ⟨u134, hx⟩ := hx; obtain ⟨u135, hx⟩ := hx; obtain ⟨u136, hx⟩ := hx; obtain ⟨u137, hx⟩ := hx; obtain ⟨u138, hx⟩ := hx; obtain ⟨u139, hx⟩ := hx; obtain ⟨u140, hx⟩ := hx; obtain ⟨u141, hx⟩ := hx; obtain ⟨u142, hx⟩ := hx; obtain ⟨u143, hx⟩ := hx; obtain ⟨u144, hx⟩ := hx; obtain ⟨u145, hx⟩ := hx; obtain ⟨u146, hx⟩ := hx; obtain ⟨u147, hx⟩ := hx; obtain ⟨u148, hx⟩ := hx; obtain ⟨u149, hx⟩ := hx; obtain ⟨u150, hx⟩ := hx; obtain ⟨u151, hx⟩ := hx; obtain ⟨u152, hx⟩ := hx; obtain ⟨u153, hx⟩ := hx; obtain ⟨u154, hx⟩ := hx; obtain ⟨u155, hx⟩ := hx; obtain ⟨u156, hx⟩ := hx; obtain ⟨u157, hx⟩ := hx; obtain ⟨u158, hx⟩ := hx; obtain ⟨u159, hx⟩ := hx; obtain ⟨u160, hx⟩ := hx; obtain ⟨u161, hx⟩ := hx; obtain ⟨u162, hx⟩ := hx; obtain ⟨u163, hx⟩ := hx; obtain ⟨u164, hx⟩ := hx
  obtain ⟨hx2, rfl⟩ := hx
  -- what lies where, behind the two loops
  have hB3 : Below W.heap.size W w3 := ((hB2.alloc hz2 _).alloc (by simp; omega) _).trans (hx2.out.1.below (fun k hk e => by omega) (by simp; omega))
  have kA : Kept (fun b => b = w2.heap.size + 1) (w2.alloc (.cells #[.int .i64 ((l0 : Int) + 1), .slice (some ⟨W.heap.size, 0, none⟩) n n, .int .i64 (r : Int), .int .i64 (c : Int), .int .i64 ((e0 : Int) + 1)] 31)) w3 := (((Kept.refl (fun b => b = w2.heap.size + 1) _).alloc _)).trans hx2.out.1 (fun _ _ e => e)
  have kB : Kept (fun b => b = w2.heap.size + 1) w2 w3 := ((Kept.refl (fun b => b = w2.heap.size + 1) w2).alloc _).trans kA (fun _ _ e => e)
  have sB : StB w3 w2.heap.size ((l0 : Int) + 1) ((e0 : Int) + 1) r c n W.heap.size := kA.obj (heap_alloc_new _ _) (by omega)
  have hWlt : W.heap.size < w2.heap.size := hx1.out.2.lt
  have fE : Fill w3 W.heap.size 28 2 n n (ecells (mkE n xs)) := hx1.out.2.kept kB (by omega)
  have fW := hx2.out.2
  have hz3 := kA.size
  simp only [World.size_alloc] at hz3
  have E2 : (ecells (mkE n xs)).length = n * 2 := by rw [ecells_len, mkE_len]
  have W5 : (wcells (mkWs n ((e0 : Int) + 1) nw f)).length = nw * 5 := by rw [wcells_len, mkWs_len]
  have ka1 : Kept (fun _ => False) w3 (w3.alloc (.cells (mkC2 n) 28)) := (Kept.refl _ _).alloc _
  obtain ⟨w4, hcp1, k4, f4⟩ := copy_full (t := 25) Ybad.underlying25 (by rw [sz28]) (w3.alloc (.cells (mkC2 n) 28)) w3.heap.size W.heap.size n n n (ecells (mkE n xs)) (ecells (mkE n xs)) E2 (Fill.new2 w3 n _) (fE.kept ka1 (fun e => e)) (ecells_one _)
  have k34 : Kept (fun _ => False) w3 w4 := (ka1.mono (fun _ e => e.elim)).trans k4 (fun j hj e => by omega)
  have ka2 : Kept (fun _ => False) w4 (w4.alloc (.cells (mkC5 nw) 39)) := (Kept.refl _ _).alloc _
  obtain ⟨w5, hcp2, k5, f5⟩ := copy_full (t := 32) Ybad.underlying32 (by rw [sz39]) (w4.alloc (.cells (mkC5 nw) 39)) w4.heap.size (w2.heap.size + 1) nw nw nw (wcells (mkWs n ((e0 : Int) + 1) nw f)) (wcells (mkWs n ((e0 : Int) + 1) nw f)) W5 (Fill.new5 w4 nw _) ((fW.kept k34 (fun e => e)).kept ka2 (fun e => e)) (wcells_one _)
  have k45 : Kept (fun _ => False) w4 w5 := (ka2.mono (fun _ e => e.elim)).trans k5 (fun j hj e => by omega)
  have k35 := k34.trans k45 (fun _ _ e => e)
  have HHf : Hid (∀ lim : Int, Half W n nw r c W.heap.size w2.heap.size (w2.heap.size + 1) w3.heap.size w4.heap.size w5.heap.size ((l0 : Int) + 1) ((e0 : Int) + 1) lim (mkE n xs) (mkWs n ((e0 : Int) + 1) nw f) (w5.alloc (.cells #[.int .i64 lim] 3))) := by
    intro lim
    have k6 : Kept (fun _ => False) w5 (w5.alloc (.cells #[.int .i64 lim] 3)) := (Kept.refl _ _).alloc _
    have k36 := k35.trans k6 (fun _ _ e => e)
    exact ⟨hB3.trans (k36.below (fun _ _ e => e) hB3.size), fE.kept k36 (fun e => e), (f4.kept k45 (fun e => e)).kept k6 (fun e => e), fW.kept k36 (fun e => e), f5.kept k6 (fun e => e), k36.obj sB (fun e => e), heap_alloc_new _ _⟩
  clear ka1 ka2 k4 k5 k34 k45 k35 f4 f5 fE fW sB kA kB hB2 hB3 HF2 hx1 hx2 E2 W5 hWlt hz3 hz2
  go_upto_if 181 with fail
  go_cut [32] from 179 to 185 (fun v32 w => ∃ lim : Int, v32 = .pointer (some ⟨w5.heap.size, 0, none⟩) ∧ 0 ≤ lim ∧ lim ≤ 100000 ∧ Hid (w = w5.alloc (.cells #[.int .i64 lim] 3)))
  case first =>
    by_cases hl2 : lm % 2 = 1
    · have hl3 : (lm : Int) % 2 = 1 := by omega
      obtain ⟨q, hq, hq1⟩ : ∃ q : Nat, (lm : Int) / 2 = (q : Int) ∧ q < 32768 := ⟨lm / 2, by omega, by omega⟩
      go_wp2
      go_meet
      exact ⟨(q : Int) + 1, rfl, by omega, by omega, rfl⟩
    · have hl3 : ¬ (lm : Int) % 2 = 1 := by omega
      go_wp2
      go_meet
      exact ⟨0, rfl, by omega, by omega, rfl⟩
  case rest =>
    obtain ⟨lim, rfl, l1, l2, hw⟩ := hcut
    have hw' := hw.out
    clear hw
    subst hw'
    refine (‹∀ (a : Act) (w : World), Code.wp Ybad.prog _ _ a w → _›) _ _ ?_
    refine lawB W _ n nw r c W.heap.size w2.heap.size (w2.heap.size + 1) w3.heap.size w4.heap.size w5.heap.size ((l0 : Int) + 1) ((e0 : Int) + 1) lim (m0 : Int) (mkE n xs) (mkWs n ((e0 : Int) + 1) nw f) hn hnw hrc hcn ⟨by omega, by omega⟩ ⟨l1, l2⟩ (mkE_len _ _) (mkWs_len _ _ _ _) (HHf.out lim)
end Go.Proofs.YbulkejpeDoor
