/- The proof of 'Rows.LawS6788BWholeSaid'. -/
import Derived.Test.YbulkejocRows
import Derived.Test.YbulkejocLaw
import Derived.Test.YbulkejocBig
import Derived.Test.YbulkejocArgs
import Derived.Test.YbulkejocPost
import Derived.ChangeMaps5
namespace Go.Proofs.Ybulkejoc
open Go Go.ChangeShapes Go.WideShapes Go.ChangeAt Go.RowKit
open Go.ChangeMaps (open_string)

theorem own : ownKnob Yba.prog.godebug = none := by kernel_rfl
theorem laidOut : laidOutB Yba.prog = true := by kernel_rfl

set_option maxRecDepth 100000 in
theorem lifted (os : Os) (started : os.Started) (H : Type) (enc : TypeId × Value → H) :
    ReturnsInHanded {} Yba.checked os 3 .any (Rows.lawS6788BWholeSpec.pre6 enc Yba.prog Yba.f3 Rows.lawS6788BWholeRow.domain false) (Rows.lawS6788BWholeSpec.post enc Yba.prog Yba.f3 false true false false) := by
  refine returnsInHanded_of_change_sized (C := Yba.checked) own started (by kernel_rfl) Yba.func3
    (ChangeSpec.witness6 (enc := enc) (C := Yba.checked) false ⟨#[], #[.string ByteArray.empty, .int .u64 0, .int .u8 0, .int .u64 0, .slice none 0 0, .slice none 0 0, .bool false, .int .i64 0], []⟩ 8 (by kernel_rfl) (by kernel_rfl) (by kernel_rfl) (by kernel_rfl)) ?_
  intro W base args ds gs before hval0 hW hcnd hsz0 _
  have hval : ∀ (j : Nat) t v, Yba.f3.params[j]? = some t → args[j]? = some v → Value.okWide Yba.prog W .any base t v := hval0
  have hW' := hW
  obtain ⟨p, q, hA0, hV, rfl, hfz, hnd⟩ := hW
  have hA : DataW.TrodAll enc Yba.prog W 0 (fun _ => true) true Yba.f3.params.toList args.toList ds p := hA0
  have hsz : (DataW.weightsEach Yba.prog (Yba.f3.params.toList ++ Rows.lawS6788BWholeSpec.plain.varTypes Yba.prog) (ds ++ gs)).all (· ≤ reachBytes) = true := hsz0
  rw [Yba.params3] at hA hval hsz
  obtain ⟨v0, vs0, d0, ds0, p0, q0, hargs, rfl, rfl, h0, r0⟩ := trodAll_cons hA
  obtain ⟨v1, vs1, d1, ds1, p1, q1, rfl, rfl, rfl, h1, r1⟩ := trodAll_cons r0
  obtain ⟨v2, vs2, d2, ds2, p2, q2, rfl, rfl, rfl, h2, r2⟩ := trodAll_cons r1
  obtain ⟨v3, vs3, d3, ds3, p3, q3, rfl, rfl, rfl, h3, r3⟩ := trodAll_cons r2
  obtain ⟨v4, vs4, d4, ds4, p4, q4, rfl, rfl, rfl, h4, r4⟩ := trodAll_cons r3
  obtain ⟨v5, vs5, d5, ds5, p5, q5, rfl, rfl, rfl, h5, r5⟩ := trodAll_cons r4
  obtain ⟨v6, vs6, d6, ds6, p6, q6, rfl, rfl, rfl, h6, r6⟩ := trodAll_cons r5
  obtain ⟨v7, vs7, d7, ds7, p7, q7, rfl, rfl, rfl, h7, r7⟩ := trodAll_cons r6
  obtain ⟨rfl, rfl, rfl⟩ := trodAll_nil r7
  obtain rfl : args = #[v0, v1, v2, v3, v4, v5, v6, v7] := by cases args; simp_all
  obtain ⟨rfl, rfl⟩ := trodVars_none hV
  have fin : ∀ (e : Ending) (W' : World), (e = .returned (.bool true) ∧ Below W.heap.size W W') → ∃ v, e = .returned v ∧ Rows.lawS6788BWholeSpec.post enc Yba.prog Yba.f3 false true false false W #[v0, v1, v2, v3, v4, v5, v6, v7] v W' := fun e W' he => by
    obtain ⟨rfl, hB⟩ := he
    exact ⟨_, rfl, law_post (t := 4) laidOut hW' hB (by kernel_rfl) (by kernel_rfl) (by kernel_rfl) Yba.underlying4 rfl⟩
  have hall := fun n hn => of_decide_eq_true (List.all_eq_true.1 hsz n hn)
  have s0 : ∀ n ∈ d0.weights Yba.prog 9, n ≤ reachBytes := fun n hn => hall n (DataW.weights_mem_each (j := 0) (t := 9) rfl rfl n hn)
  have s4 : ∀ n ∈ d4.weights Yba.prog 23, n ≤ reachBytes := fun n hn => hall n (DataW.weights_mem_each (j := 4) (t := 23) rfl rfl n hn)
  have s5 : ∀ n ∈ d5.weights Yba.prog 24, n ≤ reachBytes := fun n hn => hall n (DataW.weights_mem_each (j := 5) (t := 24) rfl rfl n hn)
  obtain ⟨a0, rfl, rfl, rfl, _⟩ := open_string Yba.underlying9 (hval 0 9 v0 rfl rfl) h0
  obtain ⟨n1, rfl, rfl, rfl, w1⟩ := open_int Yba.underlying22 (hval 1 22 v1 rfl rfl) h1
  obtain ⟨n2, rfl, rfl, rfl, w2⟩ := open_int Yba.underlying5 (hval 2 5 v2 rfl rfl) h2
  obtain ⟨n3, rfl, rfl, rfl, w3⟩ := open_int Yba.underlying22 (hval 3 22 v3 rfl rfl) h3
  obtain ⟨use, rfl, rfl, rfl⟩ := open_bool Yba.underlying4 (hval 6 4 v6 rfl rfl) h6
  obtain ⟨now, rfl, rfl, rfl, _⟩ := open_int Yba.underlying2 (hval 7 2 v7 rfl rfl) h7
  obtain ⟨A4, l4, c4, rfl⟩ := okWide_slice Yba.underlying23 (hval 4 23 v4 rfl rfl)
  obtain ⟨A5, l5, c5', rfl⟩ := okWide_slice Yba.underlying24 (hval 5 24 v5 rfl rfl)
  obtain ⟨fuel4, hf4⟩ := h4
  obtain ⟨fuel5, hf5⟩ := h5
  obtain ⟨MA, nm, mcap, ms, e4, _, hM⟩ := open_members hf4 s4
  obtain ⟨RA, nr, rcap, rs, rk, e5, _, hR⟩ := open_rumours hf5 s5
  simp only [Value.cells, List.cons.injEq, Value.slice.injEq, and_true] at e4 e5
  obtain ⟨rfl, rfl, rfl⟩ := e4
  obtain ⟨rfl, rfl, rfl⟩ := e5
  obtain ⟨k1, rfl, b1⟩ := of_u64 w1
  obtain ⟨k2, rfl, b2⟩ := of_u8 w2
  obtain ⟨k3, rfl, b3⟩ := of_u64 w3
  by_cases hbig : 512 < l4 ∨ 512 < l5
  · exact (law_big a0 _ _ _ A4 A5 l4 c4 l5 c5' use now W hbig).mono fin
  · have hs0 : a0.size ≤ reachBytes := s0 a0.size (by simp [DataW.weights])
    have hs1 := reachBytes_lt
    exact (law_any ⟨a0, k1, k2 % 4, k3⟩ k2 A4 A5 l4 c4 l5 c5' use now W (by omega) (by omega) b2 ⟨by show a0.size ≤ _; omega, b1, by show k2 % 4 < 256; omega, b3⟩ rfl ms hM rs rk hR).mono fin

theorem lawS6788BWhole.proved : Rows.LawS6788BWholeSaid :=
  OpenClaim.holds_of_wide 3 Yba.f3 rfl rfl rfl rfl rfl rfl rfl ⟨rfl, rfl, rfl, rfl, rfl⟩ rfl rfl rfl rfl rfl (by kernel_rfl) Yba.func3 (by kernel_rfl)
    (of_decide_eq_true (by kernel_rfl)) (by unfold Func.isWrapper; first | (rw [if_pos (by decide +kernel)]; kernel_rfl) | (rw [if_neg (by decide +kernel)]; exact ⟨rfl, rfl⟩))
    (fun os started H enc _ => lifted os started H enc)
end Go.Proofs.Ybulkejoc
