/- slices.symMergeCmpFunc (35), the case of one element on the right. -/
import Derived.Test.YbulkejocSymA
namespace Go.Proofs.Ybulkejoc
open Go.ChangeShapes Go.WideShapes Go.ChangeAt Go.RowKit Go.Proofs.Ybulkejoc.Stab

set_option maxRecDepth 100000 in
set_option maxHeartbeats 2000000 in
theorem symB (w0 : World) (g : Nat) (rest : List Value) (key : Nat → Int) (pos : Nat → Nat) (X : List Nat) (y : Nat) (L Y : List Nat) (a m b : Nat) (HX : Hid (X.length = a)) (hbm : b = m + 1) (HM : Hid (a + L.length = m)) (w : World) (n cap : Nat)
    (hL : 1 < L.length) (Hn : Hid ((X ++ L ++ [y] ++ Y).length ≤ n)) (hbig : n ≤ 1000000) (h : SW w0 g rest (X ++ L ++ [y] ++ Y) w) (hk : Keys w0 g key (X ++ L ++ [y] ++ Y)) (hs : L.Pairwise (lt key pos)) (hx : ∀ x ∈ L, pos x < pos y) :
    Calls Yba.prog 35 #[.slice (some ⟨g, 0, none⟩) n cap, .int .i64 (a : Int), .int .i64 (m : Int), .int .i64 (b : Int), .func (.func 26) #[] #[]] w fun e w' =>
      e = .returned (.tuple #[]) ∧ ∃ M, Merged key pos L [y] M ∧ SW w0 g rest (X ++ M ++ Y) w' := by
  subst hbm
  have hmn : m + 1 ≤ n := by have := HX.out; have := HM.out; have := Hn.out; simp at this; omega
  have ham : a + 1 < m := by have := HM.out; omega
  have hd1 : ((m : Int) - (a : Int) == 1) = false := by simp; omega
  have hd2 : ((m : Int) + 1 - (m : Int) == 1) = true := by simp; omega
  go_enter Yba.func35, Yba.ntmps35
  go_wp2
  go_loopw [14, 15] (fun vi vj wr => ∃ (t u : Nat), t ≤ u ∧ u ≤ L.length ∧ vi = .int .i64 ((a + t : Nat) : Int) ∧ vj = .int .i64 ((a + u : Nat) : Int) ∧ (∀ (k : 0 < t) (h : t ≤ L.length), ¬ key y < key (L[t - 1]'(by omega))) ∧ (∀ k : u < L.length, key y < key L[u]) ∧ SW w0 g rest (X ++ L ++ [y] ++ Y) wr) (fun vi vj _ => (intOf vj).toNat - (intOf vi).toNat)
  case atStart => exact ⟨0, L.length, by omega, by omega, by go_num, by have := HM.out; exact congrArg (Value.int .i64) (by omega), fun k => absurd k (by omega), fun k => absurd k (by omega), h⟩
  case round =>
    obtain ⟨t, u, htu, hu, rfl, rfl, h1, h2, hw⟩ := hrel
    have hcx := (show SW w0 g rest ((X ++ L) ++ y :: Y) wr by simpa using hw).at0
    rw [show (X ++ L).length = m by have := HX.out; have := HM.out; simp; omega] at hcx
    have hkx := hw.key hk (k := y) (by simp)
    have hLb : a + L.length ≤ n := by have := HM.out; omega
    by_cases hlt : t < u
    · obtain ⟨p, hp⟩ : ∃ p, (t + u) / 2 = p ∧ a + p = (a + t + (a + u)) / 2 := ⟨_, rfl, by omega⟩
      have hpt : t ≤ p := by omega
      have hpu : p < u := by omega
      obtain ⟨m', hm'⟩ : ∃ m', a + p = m' := ⟨_, rfl⟩
      have hmid : ((a : Int) + (t : Int) + ((a : Int) + (u : Int))) / 2 = (m' : Int) := by omega
      have hcp := (show SW w0 g rest (X ++ L ++ ([y] ++ Y)) wr by simpa using hw).inR (i := p) (by omega)
      rw [HX.out, hm'] at hcp
      obtain ⟨z, hz⟩ : ∃ z, L[p] = z := ⟨_, rfl⟩
      rw [hz] at hcp
      have hky := hw.key hk (k := z) (by rw [← hz]; simp [List.getElem_mem])
      have hi0 : (m : Int) < (n : Int) := by omega
      have hi1 : (m' : Int) < (n : Int) := by omega
      have HM' : Hid (a + p = m') := hm'
      have HY : Hid (∀ hh : p < L.length, L[p] = z) := fun _ => hz
      clear hp hz hm'
      by_cases hc : key y < key z
      · have hd : decide (cmpI (key y) (key z) < 0) = true := decide_eq_true ((cmpI_neg _ _).2 hc)
        go_wp2
        go_quiet ((go_at_call 26; exact Calls.quiet_of (less_any _ _ _ _ _ (by assumption) (by assumption))))
        go_wp2
        go_roundw
        case rel =>
          have := HM'.out
          refine ⟨t, p, by omega, by omega, by go_num, by go_num, h1, fun k => ?_, by simpa using hw.drewN nq⟩
          rw [HY.out (by omega)]
          exact hc
        case measure => have := HM'.out; simp [intOf]; omega
      · have hd : decide (cmpI (key y) (key z) < 0) = false := decide_eq_false fun h => hc ((cmpI_neg _ _).1 h)
        go_wp2
        go_quiet ((go_at_call 26; exact Calls.quiet_of (less_any _ _ _ _ _ (by assumption) (by assumption))))
        go_wp2
        go_roundw
        case rel =>
          have := HM'.out
          refine ⟨p + 1, u, by omega, by omega, by go_num, by go_num, fun _ _ => ?_, h2, by simpa using hw.drewN nq⟩
          simp only [Nat.add_sub_cancel]
          rw [HY.out (by omega)]
          exact hc
        case measure => have := HM'.out; simp [intOf]; omega
    · obtain rfl : t = u := by omega
      have HI : Hid (Merged key pos L [y] (L.take t ++ y :: L.drop t)) := insert_right hs hx hu (fun k => h1 k hu) (fun k => h2 k)
      have h' := hw
      clear hcx hkx h1 h2 h hk hw
      go_wp2
      go_loopw [17] (fun vk wr => ∃ s : Nat, t ≤ s ∧ s ≤ L.length ∧ vk = .int .i64 ((a + s : Nat) : Int) ∧ SW w0 g rest (X ++ (L.take s ++ y :: L.drop s) ++ Y) wr) (fun vk _ => (intOf vk).toNat)
      case atStart => exact ⟨L.length, hu, Nat.le_refl _, by have := HM.out; exact congrArg (Value.int .i64) (by omega), by simpa using h'⟩
      case round =>
        obtain ⟨s, hts, hsL, rfl, hw⟩ := hrel
        by_cases hlt2 : t < s
        · obtain ⟨r, rfl⟩ : ∃ r, s = r + 1 := ⟨s - 1, by omega⟩
          have hrL : r < L.length := by omega
          rw [List.take_succ_eq_append_getElem hrL] at hw
          obtain ⟨z, hz⟩ : ∃ z, L[r] = z := ⟨_, rfl⟩
          rw [hz] at hw
          have hw2 : SW w0 g rest ((X ++ L.take r) ++ z :: y :: (L.drop (r + 1) ++ Y)) wr := by simpa [List.append_assoc] using hw
          have e1 : (X ++ L.take r).length = a + r := by have := HX.out; simp; omega
          have hc1 := hw2.at0
          have hc2 := hw2.at1
          rw [e1] at hc1 hc2
          have hf1 := hw2.frozen (a + r)
          have hf2 := hw2.frozen (a + r + 1)
          obtain ⟨K, hK⟩ : ∃ K, a + r = K := ⟨_, rfl⟩
          have HN : Hid (SW w0 g rest (X ++ (L.take r ++ y :: L.drop r) ++ Y) ((wr.drew.setCell ⟨g, K + 1, none⟩ (.pointer (some ⟨z, 0, none⟩))).setCell ⟨g, K, none⟩ (.pointer (some ⟨y, 0, none⟩)))) := by
            have := hw2.drew.swap
            rw [e1, hK] at this
            show SW _ _ _ _ _
            rw [List.drop_eq_getElem_cons hrL, hz]
            simpa only [List.append_assoc, List.cons_append] using this
          rw [hK] at hc1 hc2 hf1 hf2
          have eK : ((a + (r + 1) : Nat) : Int) = (K : Int) + 1 := by omega
          have hi1 : (K : Int) + 1 < (n : Int) := by have := HM.out; omega
          have hg1 : (a : Int) + (t : Int) < (K : Int) + 1 := by omega
          have HK : Hid (a + r = K) := hK
          rw [eK]
          clear hw hw2 e1 hz h' hK eK
          go_wp2
          go_region
          go_wp2
          go_roundw
          case rel => exact ⟨r, by omega, by omega, by have := HK.out; exact congrArg (Value.int .i64) (by omega), HN.out⟩
          case measure => simp [intOf]
        · obtain rfl : s = t := by omega
          go_wp2
          go_returns
          exact ⟨rfl, _, HI.out, hw⟩
end Go.Proofs.Ybulkejoc
