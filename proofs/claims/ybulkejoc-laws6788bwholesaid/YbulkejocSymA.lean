/- slices.symMergeCmpFunc (35), the case of one element on the left. -/
import Derived.Test.YbulkejocRot
namespace Go.Proofs.Ybulkejoc
open Go.ChangeShapes Go.WideShapes Go.ChangeAt Go.RowKit Go.Proofs.Ybulkejoc.Stab

/-- A cell of the row inside the part R. -/
theorem SW.inR {w0 wr : World} {g : Nat} {rest : List Value} {A R Y : List Nat} (h : SW w0 g rest (A ++ R ++ Y) wr) {i : Nat} (hi : i < R.length) : wr.cell? ⟨g, A.length + i, none⟩ = some (.pointer (some ⟨R[i], 0, none⟩)) := by
  have := h.cell (i := A.length + i) (by simp; omega)
  rw [this]
  simp [hi]

set_option maxRecDepth 100000 in
set_option maxHeartbeats 2000000 in
theorem symA (w0 : World) (g : Nat) (rest : List Value) (key : Nat → Int) (pos : Nat → Nat) (X : List Nat) (x : Nat) (R Y : List Nat) (a m b : Nat) (HX : Hid (X.length = a)) (ham : m = a + 1) (HB : Hid (m + R.length = b)) (w : World) (n cap : Nat)
    (hR : 0 < R.length) (Hn : Hid ((X ++ [x] ++ R ++ Y).length ≤ n)) (hbig : n ≤ 1000000) (h : SW w0 g rest (X ++ [x] ++ R ++ Y) w) (hk : Keys w0 g key (X ++ [x] ++ R ++ Y)) (hs : R.Pairwise (lt key pos)) (hx : ∀ y ∈ R, pos x < pos y) :
    Calls Yba.prog 35 #[.slice (some ⟨g, 0, none⟩) n cap, .int .i64 (a : Int), .int .i64 (m : Int), .int .i64 (b : Int), .func (.func 26) #[] #[]] w fun e w' =>
      e = .returned (.tuple #[]) ∧ ∃ M, Merged key pos [x] R M ∧ SW w0 g rest (X ++ M ++ Y) w' := by
  subst ham
  have hbn : b ≤ n := by have := HX.out; have := HB.out; have := Hn.out; simp at this; omega
  have hmb : a + 1 < b := by have := HB.out; omega
  have hd1 : ((a : Int) + 1 - (a : Int) == 1) = true := by simp; omega
  go_enter Yba.func35, Yba.ntmps35
  go_wp2
  go_loopw [10, 11] (fun vi vj wr => ∃ (t u : Nat), t ≤ u ∧ u ≤ R.length ∧ vi = .int .i64 ((a + 1 + t : Nat) : Int) ∧ vj = .int .i64 ((a + 1 + u : Nat) : Int) ∧ (∀ (k : 0 < t) (h : t ≤ R.length), key (R[t - 1]'(by omega)) < key x) ∧ (∀ k : u < R.length, ¬ key R[u] < key x) ∧ SW w0 g rest (X ++ [x] ++ R ++ Y) wr) (fun vi vj _ => (intOf vj).toNat - (intOf vi).toNat)
  case atStart => exact ⟨0, R.length, by omega, by omega, by go_num, by have := HB.out; exact congrArg (Value.int .i64) (by omega), fun k => absurd k (by omega), fun k => absurd k (by omega), h⟩
  case round =>
    obtain ⟨t, u, htu, hu, rfl, rfl, h1, h2, hw⟩ := hrel
    have hcx := (show SW w0 g rest (X ++ x :: (R ++ Y)) wr by simpa using hw).at0
    rw [HX.out] at hcx
    have hkx := hw.key hk (k := x) (by simp)
    have hRb : a + 1 + R.length ≤ n := by have := HB.out; omega
    by_cases hlt : t < u
    · obtain ⟨p, hp⟩ : ∃ p, (t + u) / 2 = p := ⟨_, rfl⟩
      have hpt : t ≤ p := by omega
      have hpu : p < u := by omega
      obtain ⟨m', hm'⟩ : ∃ m', a + 1 + p = m' := ⟨_, rfl⟩
      have hmid : ((a : Int) + 1 + (t : Int) + ((a : Int) + 1 + (u : Int))) / 2 = (m' : Int) := by omega
      have hcp := (show SW w0 g rest ((X ++ [x]) ++ R ++ Y) wr from hw).inR (i := p) (by omega)
      rw [show (X ++ [x]).length = a + 1 by have := HX.out; simp; omega, hm'] at hcp
      obtain ⟨y, hy⟩ : ∃ y, R[p] = y := ⟨_, rfl⟩
      rw [hy] at hcp
      have hky := hw.key hk (k := y) (by rw [← hy]; simp [List.getElem_mem])
      have hi0 : (a : Int) < (n : Int) := by omega
      have hi1 : (m' : Int) < (n : Int) := by omega
      have HM : Hid (a + 1 + p = m') := hm'
      have HY : Hid (∀ hh : p < R.length, R[p] = y) := fun _ => hy
      clear hp hy hm'
      by_cases hc : key y < key x
      · have hd : cmpI (key y) (key x) < 0 := (cmpI_neg _ _).2 hc
        go_wp2
        go_quiet ((go_at_call 26; exact Calls.quiet_of (less_any _ _ _ _ _ (by assumption) (by assumption))))
        go_wp2
        go_roundw
        case rel =>
          have := HM.out
          refine ⟨p + 1, u, by omega, by omega, by go_num, by go_num, fun _ _ => ?_, h2, by simpa using hw.drewN nq⟩
          simp only [Nat.add_sub_cancel]
          rw [HY.out (by omega)]
          exact hc
        case measure => have := HM.out; simp [intOf]; omega
      · have hd : ¬ cmpI (key y) (key x) < 0 := fun h => hc ((cmpI_neg _ _).1 h)
        go_wp2
        go_quiet ((go_at_call 26; exact Calls.quiet_of (less_any _ _ _ _ _ (by assumption) (by assumption))))
        go_wp2
        go_roundw
        case rel =>
          have := HM.out
          refine ⟨t, p, by omega, by omega, by go_num, by go_num, h1, fun k => ?_, by simpa using hw.drewN nq⟩
          rw [HY.out (by omega)]
          exact hc
        case measure => have := HM.out; simp [intOf]; omega
    · obtain rfl : t = u := by omega
      have HI : Hid (Merged key pos [x] R (R.take t ++ x :: R.drop t)) := insert_left hs hx hu (fun k => h2 k) (fun k => h1 k hu)
      have h' := hw
      clear hcx hkx h1 h2 h hk hw
      go_wp2
      go_loopw [13] (fun vk wr => ∃ s : Nat, s ≤ t ∧ vk = .int .i64 ((a + s : Nat) : Int) ∧ SW w0 g rest (X ++ (R.take s ++ x :: R.drop s) ++ Y) wr) (fun vk _ => a + t - (intOf vk).toNat)
      case atStart => exact ⟨0, by omega, by go_num, by simpa using h'⟩
      case round =>
        obtain ⟨s, hst, rfl, hw⟩ := hrel
        by_cases hlt2 : s < t
        · have hsR : s < R.length := by omega
          rw [List.drop_eq_getElem_cons hsR] at hw
          obtain ⟨y, hy⟩ : ∃ y, R[s] = y := ⟨_, rfl⟩
          rw [hy] at hw
          have hw2 : SW w0 g rest ((X ++ R.take s) ++ x :: ([] ++ y :: (R.drop (s + 1) ++ Y))) wr := by simpa [List.append_assoc] using hw
          have e1 : (X ++ R.take s).length = a + s := by have := HX.out; simp; omega
          have hc1 := hw2.at0
          have hc2 := hw2.far2
          simp only [e1, List.length_nil, Nat.add_zero] at hc1 hc2
          have hf1 := hw2.frozen (a + s)
          have hf2 := hw2.frozen (a + s + 1)
          have HN : Hid (SW w0 g rest (X ++ (R.take (s + 1) ++ x :: R.drop (s + 1)) ++ Y) ((wr.drew.setCell ⟨g, a + s, none⟩ (.pointer (some ⟨y, 0, none⟩))).setCell ⟨g, a + s + 1, none⟩ (.pointer (some ⟨x, 0, none⟩)))) := by
            have := hw2.drew.far
            simp only [e1, List.length_nil, Nat.add_zero] at this
            show SW _ _ _ _ _
            rw [List.take_succ_eq_append_getElem hsR, hy]
            simpa [List.append_assoc] using this
          have hi1 : (a : Int) + (s : Int) < (n : Int) := by omega
          have hi2 : (a : Int) + (s : Int) + 1 < (n : Int) := by omega
          clear hw hw2 e1 hy h'
          go_wp2
          go_region
          go_wp2
          go_roundw
          case rel => exact ⟨s + 1, by omega, by go_num, HN.out⟩
          case measure => simp [intOf]; omega
        · obtain rfl : s = t := by omega
          go_wp2
          go_returns
          exact ⟨rfl, _, HI.out, hw⟩
end Go.Proofs.Ybulkejoc
