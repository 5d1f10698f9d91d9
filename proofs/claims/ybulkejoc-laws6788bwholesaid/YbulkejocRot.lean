/- slices.swapRangeCmpFunc (37) and rotateCmpFunc (36) at the row of rumours. -/
import Derived.Test.YbulkejocIns
namespace Go.Proofs.Ybulkejoc
open Go.ChangeShapes Go.WideShapes Go.ChangeAt Go.RowKit Go.Proofs.Ybulkejoc.Stab

theorem swap_far (P Q R : List Nat) (u v : Nat) : ((P ++ u :: (Q ++ v :: R)).set P.length v).set (P.length + 1 + Q.length) u = P ++ v :: (Q ++ u :: R) := by
  have h1 : (P ++ u :: (Q ++ v :: R)).set P.length v = P ++ v :: (Q ++ v :: R) := by simp
  rw [h1]
  have h2 : P ++ v :: (Q ++ v :: R) = (P ++ v :: Q) ++ v :: R := by simp
  rw [h2]
  have h3 : P.length + 1 + Q.length = (P ++ v :: Q).length := by simp; omega
  rw [h3]
  simp

theorem SW.far {w0 wr : World} {g : Nat} {rest : List Value} {P Q R : List Nat} {u v : Nat} (h : SW w0 g rest (P ++ u :: (Q ++ v :: R)) wr) :
    SW w0 g rest (P ++ v :: (Q ++ u :: R)) ((wr.setCell ⟨g, P.length, none⟩ (.pointer (some ⟨v, 0, none⟩))).setCell ⟨g, P.length + 1 + Q.length, none⟩ (.pointer (some ⟨u, 0, none⟩))) := by
  have := (h.set (i := P.length) (by simp) v).set (i := P.length + 1 + Q.length) (by simp; omega) u
  rwa [swap_far] at this
theorem SW.far2 {w0 wr : World} {g : Nat} {rest : List Value} {P Q R : List Nat} {u v : Nat} (h : SW w0 g rest (P ++ u :: (Q ++ v :: R)) wr) : wr.cell? ⟨g, P.length + 1 + Q.length, none⟩ = some (.pointer (some ⟨v, 0, none⟩)) := by
  have h2 : P ++ u :: (Q ++ v :: R) = (P ++ u :: Q) ++ v :: R := by simp
  rw [h2] at h
  have := h.at0
  have h3 : (P ++ u :: Q).length = P.length + 1 + Q.length := by simp; omega
  rwa [h3] at this

/-- The row when i exchanges are done. -/
def half (X A M B Y : List Nat) (i : Nat) : List Nat := (X ++ B.take i) ++ (A.drop i ++ (M ++ A.take i) ++ (B.drop i ++ Y))

theorem half_split {X A M B Y : List Nat} {i : Nat} (hA : i < A.length) (hB : i < B.length) : half X A M B Y i = (X ++ B.take i) ++ A[i] :: ((A.drop (i + 1) ++ (M ++ A.take i)) ++ B[i] :: (B.drop (i + 1) ++ Y)) := by
  unfold half
  rw [List.drop_eq_getElem_cons hA, List.drop_eq_getElem_cons hB]
  simp only [List.append_assoc, List.cons_append]
theorem half_next {X A M B Y : List Nat} {i : Nat} (hA : i < A.length) (hB : i < B.length) : (X ++ B.take i) ++ B[i] :: ((A.drop (i + 1) ++ (M ++ A.take i)) ++ A[i] :: (B.drop (i + 1) ++ Y)) = half X A M B Y (i + 1) := by
  unfold half
  rw [List.take_succ_eq_append_getElem hA, List.take_succ_eq_append_getElem hB]
  simp only [List.append_assoc, List.cons_append, List.nil_append]

set_option maxHeartbeats 1000000 in
theorem swapRange_any (w0 : World) (g : Nat) (rest : List Value) (X A M B Y : List Nat) (a b k : Nat) (HA : Hid (X.length = a)) (HB : Hid (X.length + A.length + M.length = b)) (HK : Hid (A.length = k ∧ B.length = k)) (w : World) (n cap : Nat)
    (Hn : Hid ((X ++ A ++ M ++ B ++ Y).length ≤ n)) (hbig : n ≤ 1000000) (h : SW w0 g rest (X ++ A ++ M ++ B ++ Y) w) (f : Value) :
    Calls Yba.prog 37 #[.slice (some ⟨g, 0, none⟩) n cap, .int .i64 (a : Int), .int .i64 (b : Int), .int .i64 (k : Int), f] w fun e w' =>
      e = .returned (.tuple #[]) ∧ SW w0 g rest (X ++ B ++ M ++ A ++ Y) w' := by
  have hbk : b + k ≤ n := by have := HB.out; have := HK.out; have := Hn.out; simp at this; omega
  have hak : a + k ≤ b := by have := HB.out; have := HK.out; have := HA.out; omega
  go_enter Yba.func37, Yba.ntmps37
  go_wp2
  go_loopw [10] (fun i wr => ∃ j : Nat, j ≤ k ∧ i = .int .i64 (j : Int) ∧ SW w0 g rest (half X A M B Y j) wr) (fun i _ => k - (intOf i).toNat)
  case atStart => exact ⟨0, by omega, rfl, by simpa [half] using h⟩
  case round =>
    obtain ⟨j, hj, rfl, hw⟩ := hrel
    by_cases hlt : j < k
    · have hjA : j < A.length := by have := HK.out; omega
      have hjB : j < B.length := by have := HK.out; omega
      rw [half_split hjA hjB] at hw
      obtain ⟨u, hu⟩ : ∃ u, A[j] = u := ⟨_, rfl⟩
      obtain ⟨v, hv⟩ : ∃ v, B[j] = v := ⟨_, rfl⟩
      rw [hu, hv] at hw
      have e1 : (X ++ B.take j).length = a + j := by have := HA.out; simp; omega
      have e2 : (X ++ B.take j).length + 1 + (A.drop (j + 1) ++ (M ++ A.take j)).length = b + j := by have := HA.out; have := HB.out; simp; omega
      have hc1 := hw.at0
      have hc2 := hw.far2
      rw [e2] at hc2
      rw [e1] at hc1
      have hf1 := hw.frozen (a + j)
      have hf2 := hw.frozen (b + j)
      have HN : Hid (SW w0 g rest (half X A M B Y (j + 1)) ((wr.drew.setCell ⟨g, a + j, none⟩ (.pointer (some ⟨v, 0, none⟩))).setCell ⟨g, b + j, none⟩ (.pointer (some ⟨u, 0, none⟩)))) := by
        have := hw.drew.far
        rw [e1, show (a + j + 1 + (A.drop (j + 1) ++ (M ++ A.take j)).length) = b + j by rw [← e1]; exact e2, ← hu, ← hv, half_next hjA hjB] at this
        rw [← hu, ← hv]
        exact this
      have hi1 : (a : Int) + (j : Int) < (n : Int) := by omega
      have hi2 : (b : Int) + (j : Int) < (n : Int) := by omega
      clear hw e1 e2 hu hv
      go_wp2
      go_region
      go_wp2
      go_roundw
      case rel => exact ⟨j + 1, by omega, by go_num, HN.out⟩
      case measure => simp [intOf]; omega
    · go_wp2
      go_end0
      obtain rfl : j = k := by omega
      refine ⟨rfl, ?_⟩
      have h2 := HK.out
      unfold half at hw
      rw [List.take_of_length_le (Nat.le_of_eq h2.1), List.take_of_length_le (Nat.le_of_eq h2.2), List.drop_eq_nil_of_le (Nat.le_of_eq h2.1), List.drop_eq_nil_of_le (Nat.le_of_eq h2.2)] at hw
      simpa using hw

/-- rotateCmpFunc: 'x u v y' becomes 'x v u y'. The loop's relation: u' and v' are what is left to turn round. -/
theorem rotate_any (w0 : World) (g : Nat) (rest : List Value) (X U V Y : List Nat) (a m b : Nat) (HA : Hid (X.length = a)) (HM : Hid (X.length + U.length = m)) (HB : Hid (m + V.length = b)) (w : World) (n cap : Nat)
    (hU : 0 < U.length) (hV : 0 < V.length) (Hn : Hid ((X ++ U ++ V ++ Y).length ≤ n)) (hbig : n ≤ 1000000) (h : SW w0 g rest (X ++ U ++ V ++ Y) w) (f : Value) :
    Calls Yba.prog 36 #[.slice (some ⟨g, 0, none⟩) n cap, .int .i64 (a : Int), .int .i64 (m : Int), .int .i64 (b : Int), f] w fun e w' =>
      e = .returned (.tuple #[]) ∧ SW w0 g rest (X ++ V ++ U ++ Y) w' := by
  have ham : a < m := by have := HA.out; have := HM.out; omega
  have hmb : m < b := by have := HB.out; omega
  have hbn : b ≤ n := by have := HM.out; have := HB.out; have := Hn.out; simp at this; omega
  go_enter Yba.func36, Yba.ntmps36
  go_wp2
  go_loopw [10, 11] (fun vi vj wr => ∃ (X1 U1 V1 Y1 : List Nat) (i j : Nat), 0 < i ∧ 0 < j ∧ vi = .int .i64 (i : Int) ∧ vj = .int .i64 (j : Int) ∧ Hid (U1.length = i ∧ V1.length = j ∧ X1.length + i = m ∧ m + j + Y1.length = (X ++ U ++ V ++ Y).length) ∧ Hid (X1 ++ V1 ++ U1 ++ Y1 = X ++ V ++ U ++ Y) ∧ SW w0 g rest (X1 ++ U1 ++ V1 ++ Y1) wr) (fun vi vj _ => (intOf vi).toNat + (intOf vj).toNat)
  case atStart => exact ⟨X, U, V, Y, m - a, b - m, by omega, by omega, by go_num, by go_num, by have := HA.out; have := HM.out; have := HB.out; show _ ∧ _; simp; omega, rfl, h⟩
  case round =>
    obtain ⟨X1, U1, V1, Y1, i, j, hi, hj, rfl, rfl, HL, HE, hw⟩ := hrel
    have hxm : i ≤ m := by have := HL.out; omega
    have hmj : m + j ≤ n := by have := HL.out; have := Hn.out; omega
    have hin : (m : Int) - (i : Int) = ((m - i : Nat) : Int) := by omega
    by_cases heq : i = j
    · subst heq
      have hd : ((i : Int) != (i : Int)) = false := by simp
      go_wp2_with fail
      refine (swapRange_any w0 g rest X1 U1 [] V1 Y1 (m - i) m i (show _ = _ by have := HL.out; omega) (show _ = _ by have := HL.out; simp; omega) ⟨HL.out.1, HL.out.2.1⟩ _ n cap (show _ ≤ _ by have := HL.out; have := Hn.out; simp at *; omega) hbig (by simpa using hw) f).mono ?_
      rintro e w1 ⟨rfl, hw1⟩
      go_wp2
      go_end0
      refine ⟨rfl, ?_⟩
      rw [← HE.out]
      simpa using hw1
    · by_cases hgt : j < i
      · have hd : ((i : Int) != (j : Int)) = true := by simp; omega
        have hg : (j : Int) < (i : Int) := by omega
        go_wp2_with fail
        refine (swapRange_any w0 g rest X1 (U1.take j) (U1.drop j) V1 Y1 (m - i) m j (show _ = _ by have := HL.out; omega) (show _ = _ by have := HL.out; simp; omega) (show _ ∧ _ by have := HL.out; simp; omega) _ n cap (show _ ≤ _ by have := HL.out; have := Hn.out; simp at *; omega) hbig (by simpa [List.append_assoc] using hw) f).mono ?_
        rintro e w1 ⟨rfl, hw1⟩
        go_wp2
        go_roundw
        case rel =>
          refine ⟨X1 ++ V1, U1.drop j, U1.take j, Y1, i - j, j, by omega, by omega, by go_num, by go_num, ?_, ?_, by simpa [List.append_assoc] using hw1⟩
          · have := HL.out
            show _ ∧ _
            simp at *
            omega
          · show _ = _
            rw [← HE.out]
            simp [List.append_assoc]
        case measure => simp [intOf]; omega
      · have hd : ((i : Int) != (j : Int)) = true := by simp; omega
        have hg : ¬ (j : Int) < (i : Int) := by omega
        have hin2 : (m : Int) + (j : Int) - (i : Int) = ((m + j - i : Nat) : Int) := by omega
        go_wp2_with fail
        refine (swapRange_any w0 g rest X1 U1 (V1.take (j - i)) (V1.drop (j - i)) Y1 (m - i) (m + j - i) i (show _ = _ by have := HL.out; omega) (show _ = _ by have := HL.out; simp; omega) (show _ ∧ _ by have := HL.out; simp; omega) _ n cap (show _ ≤ _ by have := HL.out; have := Hn.out; simp at *; omega) hbig (by simpa [List.append_assoc] using hw) f).mono ?_
        rintro e w1 ⟨rfl, hw1⟩
        go_wp2
        go_roundw
        case rel =>
          refine ⟨X1, V1.drop (j - i), V1.take (j - i), U1 ++ Y1, i, j - i, by omega, by omega, by go_num, by go_num, ?_, ?_, by simpa [List.append_assoc] using hw1⟩
          · have := HL.out
            show _ ∧ _
            simp at *
            omega
          · show _ = _
            rw [← HE.out]
            simp [List.append_assoc]
        case measure => simp [intOf]; omega
end Go.Proofs.Ybulkejoc
