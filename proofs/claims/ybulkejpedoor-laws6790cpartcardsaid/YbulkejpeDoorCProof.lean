/- The proof of 'Rows.LawS6790CPartSaid' and of its tied card. -/
import Derived.Test.YbulkejpeDoorWit
import Derived.Test.YbulkejpeDoorTie
import Derived.Test.YbulkejpeDoorCards
import Derived.Test.YbulkejpeDoorLa
import Derived.Test.YbulkejpeDoorBig
import Derived.Test.YbulkejpeDoorArgs
import Derived.Test.YbulkejpeDoorPost
import Derived.ChangeMaps5
import Derived.SevenTiedAt
namespace Go.Proofs.YbulkejpeDoor
open Go Go.ChangeShapes Go.WideShapes Go.ChangeAt Go.RowKit

theorem own : ownKnob Ybad.prog.godebug = none := by kernel_rfl
theorem laidOut : laidOutB Ybad.prog = true := by kernel_rfl

set_option maxRecDepth 100000 in
theorem lifted (os : Os) (started : os.Started) (H : Type) (enc : TypeId × Value → H) :
    ReturnsInHanded {} Ybad.checked os 3 .any (fun w args => (Rows.lawS6790CPartSpec.pre enc Ybad.prog Ybad.f3 [] false w args ∧ laidMetH Ybad.prog Rows.lawS6790CPartRow.laid w) ∧ sizedMet enc Ybad.prog Ybad.f3 (OpenSpec.ofChange Rows.lawS6790CPartSpec) false w args)
      (Rows.lawS6790CPartSpec.post enc Ybad.prog Ybad.f3 false true false false) := by
  refine returnsInHanded_of_change_and (C := Ybad.checked) (X := fun w _ => laidMetH Ybad.prog Rows.lawS6790CPartRow.laid w) (fun _ _ _ hh h => h.of_heap hh) own started (by kernel_rfl) Ybad.func3
    (ChangeSpec.witness_shaped (enc := enc) (C := Ybad.checked) (os := os) (X := fun w _ => laidMetH Ybad.prog Rows.lawS6790CPartRow.laid w) false (World.laidAll Ybad.prog os Rows.lawS6790CPartRow.laid) wa 8 (World.laidAll_os _ _ _) (World.shaped_of_ZipB (wit_zip os) (wit_rest os)) (wit_ok os) (wit_pre enc os) (wit_sized enc os) (wit_met os)) ?_
  intro W base args ds gs before hval0 hW _ _ _ _
  have hval : ∀ (j : Nat) t v, Ybad.f3.params[j]? = some t → args[j]? = some v → Value.okWide Ybad.prog W .any base t v := hval0
  have hW' := hW
  obtain ⟨p, q, hA0, hV, rfl, hfz, hnd⟩ := hW
  have hA : DataW.TrodAll enc Ybad.prog W 0 (fun _ => true) true Ybad.f3.params.toList args.toList ds p := hA0
  rw [Ybad.params3] at hA hval
  obtain ⟨v0, vs0, d0, ds0, p0, q0, hargs, rfl, rfl, h0, r0⟩ := trodAll_cons hA
  obtain ⟨v1, vs1, d1, ds1, p1, q1, rfl, rfl, rfl, h1, r1⟩ := trodAll_cons r0
  obtain ⟨v2, vs2, d2, ds2, p2, q2, rfl, rfl, rfl, h2, r2⟩ := trodAll_cons r1
  obtain ⟨v3, vs3, d3, ds3, p3, q3, rfl, rfl, rfl, h3, r3⟩ := trodAll_cons r2
  obtain ⟨v4, vs4, d4, ds4, p4, q4, rfl, rfl, rfl, h4, r4⟩ := trodAll_cons r3
  obtain ⟨v5, vs5, d5, ds5, p5, q5, rfl, rfl, rfl, h5, r5⟩ := trodAll_cons r4
  obtain ⟨v6, vs6, d6, ds6, p6, q6, rfl, rfl, rfl, h6, r6⟩ := trodAll_cons r5
  obtain ⟨v7, vs7, d7, ds7, p7, q7, rfl, rfl, rfl, h7, r7⟩ := trodAll_cons r6
  obtain ⟨rfl, rfl, rfl⟩ := trodAll_nil r7
  obtain rfl : args = #[v0, v1, v2, v3, v4, v5, v6, v7] := by cases args; simp_all
  obtain ⟨rfl, rfl⟩ := trodVars_none hV
  have fin : ∀ (e : Ending) (W' : World), (e = .returned (.bool true) ∧ Below W.heap.size W W') → ∃ v, e = .returned v ∧ Rows.lawS6790CPartSpec.post enc Ybad.prog Ybad.f3 false true false false W #[v0, v1, v2, v3, v4, v5, v6, v7] v W' := fun e W' he => by
    obtain ⟨rfl, hB⟩ := he
    exact ⟨_, rfl, law_post (t := 4) laidOut hW' hB (by kernel_rfl) (by kernel_rfl) (by kernel_rfl) Ybad.underlying4 rfl⟩
  obtain ⟨n1, rfl, rfl, rfl, w1⟩ := open_int Ybad.underlying23 (hval 1 23 v1 rfl rfl) h1
  obtain ⟨n2, rfl, rfl, rfl, w2⟩ := open_int Ybad.underlying23 (hval 2 23 v2 rfl rfl) h2
  obtain ⟨n3, rfl, rfl, rfl, w3⟩ := open_int Ybad.underlying5 (hval 3 5 v3 rfl rfl) h3
  obtain ⟨n4, rfl, rfl, rfl, w4⟩ := open_int Ybad.underlying5 (hval 4 5 v4 rfl rfl) h4
  obtain ⟨n5, rfl, rfl, rfl, w5⟩ := open_int Ybad.underlying5 (hval 5 5 v5 rfl rfl) h5
  obtain ⟨n7, rfl, rfl, rfl, w7⟩ := open_int Ybad.underlying23 (hval 7 23 v7 rfl rfl) h7
  obtain ⟨A0, l0, c0, rfl⟩ := okWide_slice Ybad.underlying22 (hval 0 22 v0 rfl rfl)
  obtain ⟨A6, l6, c6, rfl⟩ := okWide_slice Ybad.underlying24 (hval 6 24 v6 rfl rfl)
  obtain ⟨fuel0, hf0⟩ := h0
  obtain ⟨fuel6, hf6⟩ := h6
  obtain ⟨LA, n, lcap, xs, e0, hL⟩ := open_bytes hf0
  obtain ⟨WA, nw, wcap, f, e6, hWs⟩ := open_writes hf6
  simp only [Value.cells, List.cons.injEq, Value.slice.injEq, and_true] at e0 e6
  obtain ⟨rfl, rfl, rfl⟩ := e0
  obtain ⟨rfl, rfl, rfl⟩ := e6
  obtain ⟨k1, rfl, b1⟩ := of_u16 w1
  obtain ⟨k2, rfl, b2⟩ := of_u16 w2
  obtain ⟨k3, rfl, b3⟩ := of_u8 w3
  obtain ⟨k4, rfl, b4⟩ := of_u8 w4
  obtain ⟨k5, rfl, b5⟩ := of_u8 w5
  obtain ⟨k7, rfl, b7⟩ := of_u16 w7
  by_cases hbig : 512 < l0 ∨ 512 < l6
  · exact (law_big A0 A6 l0 c0 l6 c6 _ _ _ _ _ _ W hbig).mono fin
  · exact (law_any A0 A6 l0 c0 l6 c6 k1 k2 k3 k4 k5 k7 xs f W (by omega) (by omega) b1 b2 b3 b4 b5 b7 hL hWs).mono fin

theorem row_holds : Rows.LawS6790CPartSaid :=
  OpenClaim.holds_of_wide 3 Ybad.f3 rfl rfl rfl rfl rfl rfl rfl ⟨rfl, rfl, rfl, rfl, rfl⟩ rfl rfl rfl rfl rfl (by kernel_rfl) Ybad.func3 (by kernel_rfl)
    (of_decide_eq_true (by kernel_rfl)) (by unfold Func.isWrapper; first | (rw [if_pos (by decide +kernel)]; kernel_rfl) | (rw [if_neg (by decide +kernel)]; exact ⟨rfl, rfl⟩))
    (fun os started H enc _ => lifted os started H enc)

/-- The statement: the tied card. -/
theorem card_holds : Rows.LawS6790CPartCardSaid :=
  Claim7.holds_tied_plain_at .later [] [.data, .data, .data] true (true, "8ec3c722757f5c969dc03d8e63d854ed0f25f01d97e61b192b00dcc01894d7c4") false
    row_holds (fun _ h => by cases h) (by kernel_rfl) (fun _ h => by cases h) lawS6790CPart_row_tie rfl ⟨rfl, rfl⟩ (by kernel_rfl) rfl
    (fun f fn hf hfn => by
      obtain rfl : f = 3 := Option.some.inj ((show Ybad.prog.funcNamed Rows.lawS6790CPartRow.func = some 3 by kernel_rfl).symm.trans hf) |>.symm
      obtain rfl : fn = Ybad.f3 := (Option.some.inj (Ybad.func3.symm.trans hfn)).symm
      exact ⟨by kernel_rfl, fun j t ht => by
        rw [Ybad.params3] at ht
        have hm : t ∈ [22, 23, 23, 5, 5, 5, 24, 23] := by simpa using Array.mem_of_getElem? ht
        have hall : ([22, 23, 23, 5, 5, 5, 24, 23].all fun u => !Ybad.prog.wantsStandIn u) = true := by kernel_rfl
        exact (show Ybad.prog.wantsStandIn t = false by simpa using List.all_eq_true.1 hall t hm)⟩)
    (by kernel_rfl)
end Go.Proofs.YbulkejpeDoor
