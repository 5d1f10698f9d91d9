/- slices.symMergeCmpFunc (35): the general case, by its own contract at shorter rows; the contract. -/
import Derived.Test.YbulkejocSymB
namespace Go.Proofs.Ybulkejoc
open Go.ChangeShapes Go.WideShapes Go.ChangeAt Go.RowKit Go.Proofs.Ybulkejoc.Stab

def SymSaid (w0 : World) (g : Nat) (rest : List Value) (key : Nat → Int) (pos : Nat → Nat) (n cap N : Nat) : Prop :=
  ∀ (X L R Y : List Nat) (a m b : Nat) (w : World), L.length + R.length ≤ N → 0 < L.length → 0 < R.length → X.length = a → a + L.length = m → m + R.length = b → (X ++ L ++ R ++ Y).length ≤ n → n ≤ 1000000 →
    SW w0 g rest (X ++ L ++ R ++ Y) w → Keys w0 g key (X ++ L ++ R ++ Y) → L.Pairwise (lt key pos) → R.Pairwise (lt key pos) → (∀ x ∈ L, ∀ y ∈ R, pos x < pos y) →
    Calls Yba.prog 35 #[.slice (some ⟨g, 0, none⟩) n cap, .int .i64 (a : Int), .int .i64 (m : Int), .int .i64 (b : Int), .func (.func 26) #[] #[]] w fun e w' =>
      e = .returned (.tuple #[]) ∧ ∃ M, Merged key pos L R M ∧ SW w0 g rest (X ++ M ++ Y) w'

theorem getD_in (l : List Nat) {i : Nat} (h : i < l.length) : l.getD i 0 = l[i] := by simp [List.getD, h]

/-- The search's word on the place c: the right one is the smaller. -/
def PC (key : Nat → Int) (L R : List Nat) (a m p c : Nat) : Prop := key (R.getD (p - c - m) 0) < key (L.getD (c - a) 0)

theorem cut_of {key : Nat → Int} {pos : Nat → Nat} {L R : List Nat} (hL : L.Pairwise (lt key pos)) (hR : R.Pairwise (lt key pos)) (hx : ∀ x ∈ L, ∀ y ∈ R, pos x < pos y) {a m b md lo hi s : Nat}
    (ham : a + L.length = m) (hmb : m + R.length = b) (hlo : a ≤ lo) (hhi : hi ≤ m) (hls : lo ≤ s) (hsh : s ≤ hi) (h1 : lo = a ∨ md + m - lo = b) (h2 : hi = m ∨ md + m - hi = m) (hN : md + m - s ≤ b) (hN2 : m ≤ md + m - s) (hmd : s ≤ md + m)
    (c1 : s = lo ∨ ¬ PC key L R a m (md + m - 1) (s - 1)) (c2 : s = hi ∨ PC key L R a m (md + m - 1) s) :
    ∀ x ∈ L.take (s - a) ++ R.take (md + m - s - m), ∀ y ∈ L.drop (s - a) ++ R.drop (md + m - s - m), lt key pos x y := by
  refine cut hL hR hx (by omega) (by omega) (fun h k => ?_) (fun h k => ?_)
  · rcases c1 with c1 | c1
    · exfalso; omega
    · unfold PC at c1
      rw [show md + m - 1 - (s - 1) - m = md + m - s - m by omega, show s - 1 - a = s - a - 1 by omega, getD_in _ k, getD_in _ (by omega)] at c1
      exact c1
  · rcases c2 with c2 | c2
    · exfalso; omega
    · unfold PC at c2
      rw [show md + m - 1 - s - m = md + m - s - m - 1 by omega, getD_in _ (by omega), getD_in _ h] at c2
      exact c2

set_option maxRecDepth 100000 in
set_option maxHeartbeats 4000000 in
theorem symC (w0 : World) (g : Nat) (rest : List Value) (key : Nat → Int) (pos : Nat → Nat) (n cap N0 : Nat) (ih : SymSaid w0 g rest key pos n cap N0) (X L R Y : List Nat) (a m b : Nat) (w : World) (HN0 : Hid (L.length + R.length ≤ N0 + 1)) (hL : 1 < L.length) (hR : 1 < R.length)
    (HX : Hid (X.length = a)) (HM : Hid (a + L.length = m)) (HB : Hid (m + R.length = b)) (Hn : Hid ((X ++ L ++ R ++ Y).length ≤ n)) (hbig : n ≤ 1000000)
    (h : SW w0 g rest (X ++ L ++ R ++ Y) w) (hk : Keys w0 g key (X ++ L ++ R ++ Y)) (hsL : L.Pairwise (lt key pos)) (hsR : R.Pairwise (lt key pos)) (hx : ∀ x ∈ L, ∀ y ∈ R, pos x < pos y) :
    Calls Yba.prog 35 #[.slice (some ⟨g, 0, none⟩) n cap, .int .i64 (a : Int), .int .i64 (m : Int), .int .i64 (b : Int), .func (.func 26) #[] #[]] w fun e w' =>
      e = .returned (.tuple #[]) ∧ ∃ M, Merged key pos L R M ∧ SW w0 g rest (X ++ M ++ Y) w' := by
  have hbn : b ≤ n := by have := HX.out; have := HM.out; have := HB.out; have := Hn.out; simp at this; omega
  have ham : a + 1 < m := by have := HM.out; omega
  have hmb : m + 1 < b := by have := HB.out; omega
  have hd1 : ((m : Int) - (a : Int) == 1) = false := by simp; omega
  have hd2 : ((b : Int) - (m : Int) == 1) = false := by simp; omega
  obtain ⟨md, hmd⟩ : ∃ md, (a + b) / 2 = md := ⟨_, rfl⟩
  have hmd0 : a < md := by omega
  have hmd1 : md < b := by omega
  have hmid : ((a : Int) + (b : Int)) / 2 = (md : Int) := by omega
  obtain ⟨N, hN⟩ : ∃ N, md + m = N := ⟨_, rfl⟩
  have hNe : (md : Int) + (m : Int) = (N : Int) := by omega
  obtain ⟨p, hp⟩ : ∃ p, N = p + 1 := ⟨N - 1, by omega⟩
  have hpe : (N : Int) - 1 = (p : Int) := by omega
  obtain ⟨lo0, hlo0⟩ : ∃ lo0, N - b = lo0 := ⟨_, rfl⟩
  by_cases hcase : md < m
  · have hle : (N : Int) - (b : Int) = (lo0 : Int) := by omega
    have hgt : (md : Int) < (m : Int) := by omega
    obtain ⟨lo, hlo⟩ : ∃ lo, lo = lo0 := ⟨_, rfl⟩
    obtain ⟨hi, hhi⟩ : ∃ hi, hi = md := ⟨_, rfl⟩
    have hlh : lo ≤ hi := by omega
    have HLO : Hid (lo = lo0) := hlo
    have HHI : Hid (hi = md) := hhi
    have HF : Hid (a ≤ lo ∧ hi ≤ m ∧ (lo = a ∨ N - lo = b) ∧ (hi = m ∨ N - hi = m) ∧ (md + m = N ∧ N = p + 1 ∧ a < md ∧ md < b ∧ hi ≤ N ∧ m ≤ N - hi ∧ N - lo ≤ b) ∧ ∀ c, lo ≤ c → c < hi → m ≤ p - c ∧ p - c < b ∧ c ≤ p) := ⟨by omega, by omega, by omega, by omega, by omega, fun c h1 h2 => by omega⟩
    clear hmd hN hp hlo0 hlo hhi
    go_enter Yba.func35, Yba.ntmps35
    go_wp2
    go_loopw [20, 21] (fun vs vr wr => ∃ (s u : Nat), lo ≤ s ∧ s ≤ u ∧ u ≤ hi ∧ vs = .int .i64 (s : Int) ∧ vr = .int .i64 (u : Int) ∧ Hid (s = lo ∨ ¬ PC key L R a m p (s - 1)) ∧ Hid (u = hi ∨ PC key L R a m p u) ∧ SW w0 g rest (X ++ L ++ R ++ Y) wr) (fun vs vr _ => (intOf vr).toNat - (intOf vs).toNat)
    case atStart => exact ⟨lo, hi, Nat.le_refl _, hlh, Nat.le_refl _, by first | rfl | (rw [HLO.out]), by first | rfl | (rw [HHI.out]), Or.inl rfl, Or.inl rfl, h⟩
    case round =>
      obtain ⟨s, u, hls, hsu, huh, rfl, rfl, H1, H2, hw⟩ := hrel
      by_cases hlt : s < u
      · obtain ⟨c, hc⟩ : ∃ c, (s + u) / 2 = c := ⟨_, rfl⟩
        have hcs : s ≤ c := by omega
        have hcu : c < u := by omega
        have hce : ((s : Int) + (u : Int)) / 2 = (c : Int) := by omega
        have hF := HF.out.2.2.2.2.2 c (by omega) (by omega)
        obtain ⟨q, hq⟩ : ∃ q, p - c = q := ⟨_, rfl⟩
        have hqe : (p : Int) - (c : Int) = (q : Int) := by omega
        have hcL : c - a < L.length := by have := HF.out.1; have := HF.out.2.1; have := HM.out; omega
        have hqR : q - m < R.length := by have := HB.out; omega
        have hcc := (show SW w0 g rest (X ++ L ++ (R ++ Y)) wr by simpa using hw).inR hcL
        rw [HX.out, show a + (c - a) = c by have := HF.out.1; omega] at hcc
        have hcq := (show SW w0 g rest ((X ++ L) ++ R ++ Y) wr by simpa using hw).inR hqR
        rw [show (X ++ L).length + (q - m) = q by have := HX.out; have := HM.out; simp; omega] at hcq
        obtain ⟨z, hz⟩ : ∃ z, L[c - a] = z := ⟨_, rfl⟩
        obtain ⟨y, hy⟩ : ∃ y, R[q - m] = y := ⟨_, rfl⟩
        rw [hz] at hcc
        rw [hy] at hcq
        have hkz := hw.key hk (k := z) (by rw [← hz]; simp [List.getElem_mem])
        have hky := hw.key hk (k := y) (by rw [← hy]; simp [List.getElem_mem])
        have HP : Hid (PC key L R a m p c ↔ key y < key z) := by
          show PC key L R a m p c ↔ _
          unfold PC
          rw [hq, getD_in _ hqR, getD_in _ hcL, hz, hy]
        have hi0 : (c : Int) < (n : Int) := by omega
        have hi1 : (q : Int) < (n : Int) := by omega
        have hsum : s + u ≤ 2000000 := by omega
        clear hc hq hz hy hcL hqR hF
        by_cases hc : key y < key z
        · have hd : decide (cmpI (key y) (key z) < 0) = true := decide_eq_true ((cmpI_neg _ _).2 hc)
          go_wp2
          go_quiet ((go_at_call 26; exact Calls.quiet_of (less_any _ _ _ _ _ (by assumption) (by assumption))))
          go_wp2
          go_roundw
          case rel => exact ⟨s, c, hls, hcs, by omega, rfl, rfl, H1, Or.inr (HP.out.2 hc), by simpa using hw.drewN nq⟩
          case measure => simp [intOf]; omega
        · have hd : decide (cmpI (key y) (key z) < 0) = false := decide_eq_false fun h => hc ((cmpI_neg _ _).1 h)
          go_wp2
          go_quiet ((go_at_call 26; exact Calls.quiet_of (less_any _ _ _ _ _ (by assumption) (by assumption))))
          go_wp2
          go_roundw
          case rel => exact ⟨c + 1, u, by omega, by omega, huh, by go_num, rfl, Or.inr (fun k => absurd (HP.out.1 (by simpa using k)) (by omega)), H2, by simpa using hw.drewN nq⟩
          case measure => simp [intOf]; omega
      · obtain rfl : s = u := by omega
        obtain ⟨en, hen⟩ : ∃ en, N - s = en := ⟨_, rfl⟩
        have HFo := HF.out
        have hene : (N : Int) - (s : Int) = (en : Int) := by omega
        obtain ⟨L1, hL1⟩ : ∃ L1, L.take (s - a) = L1 := ⟨_, rfl⟩
        obtain ⟨L2, hL2⟩ : ∃ L2, L.drop (s - a) = L2 := ⟨_, rfl⟩
        obtain ⟨R1, hR1⟩ : ∃ R1, R.take (en - m) = R1 := ⟨_, rfl⟩
        obtain ⟨R2, hR2⟩ : ∃ R2, R.drop (en - m) = R2 := ⟨_, rfl⟩
        have HJ : Hid (L = L1 ++ L2 ∧ R = R1 ++ R2) := ⟨by rw [← hL1, ← hL2, List.take_append_drop], by rw [← hR1, ← hR2, List.take_append_drop]⟩
        have HLn : Hid (L1.length = s - a ∧ L2.length = m - s ∧ R1.length = en - m ∧ R2.length = b - en ∧ a ≤ s ∧ s ≤ m ∧ m ≤ en ∧ en ≤ b ∧ md + m = en + s ∧ a < md ∧ md < b) := by
          have := HM.out; have := HB.out
          refine ⟨by rw [← hL1, List.length_take]; omega, by rw [← hL2, List.length_drop]; omega, by rw [← hR1, List.length_take]; omega, by rw [← hR2, List.length_drop]; omega, by omega, by omega, by omega, by omega, by omega, by omega, by omega⟩
        have HC : Hid (∀ x ∈ L1 ++ R1, ∀ y ∈ L2 ++ R2, lt key pos x y) := by
          have e1 : md + m - 1 = p := by omega
          have e2 : md + m - s = en := by omega
          have := cut_of hsL hsR hx (md := md) (lo := lo) (hi := hi) (s := s) HM.out HB.out HFo.1 HFo.2.1 hls huh (by omega) (by omega) (by omega) (by omega) (by omega) (by rw [e1]; exact H1.out) (by rw [e1]; exact H2.out)
          rw [e2, hL1, hL2, hR1, hR2] at this
          exact this
        have hsL1 : L1.Pairwise (lt key pos) := by rw [← hL1]; exact hsL.sublist (List.take_sublist _ _)
        have hsL2 : L2.Pairwise (lt key pos) := by rw [← hL2]; exact hsL.sublist (List.drop_sublist _ _)
        have hsR1 : R1.Pairwise (lt key pos) := by rw [← hR1]; exact hsR.sublist (List.take_sublist _ _)
        have hsR2 : R2.Pairwise (lt key pos) := by rw [← hR2]; exact hsR.sublist (List.drop_sublist _ _)
        have hx1 : ∀ x ∈ L1, ∀ y ∈ R1, pos x < pos y := fun x hxx y hyy => hx x (by rw [HJ.out.1]; simp [hxx]) y (by rw [HJ.out.2]; simp [hyy])
        have hx2 : ∀ x ∈ L2, ∀ y ∈ R2, pos x < pos y := fun x hxx y hyy => hx x (by rw [HJ.out.1]; simp [hxx]) y (by rw [HJ.out.2]; simp [hyy])
        have hw0 : SW w0 g rest (X ++ L1 ++ L2 ++ R1 ++ (R2 ++ Y)) wr := by
          rw [HJ.out.1, HJ.out.2] at hw
          simpa [List.append_assoc] using hw
        have HK1 : Hid (Keys w0 g key (X ++ L1 ++ R1 ++ (L2 ++ R2 ++ Y))) := hk.sub fun z hz => by
          rw [HJ.out.1, HJ.out.2]
          simpa [or_assoc, or_comm, or_left_comm] using hz
        have HT : Hid ((X ++ L1 ++ R1 ++ (L2 ++ R2 ++ Y)).length ≤ n) := by
          have := Hn.out
          rw [HJ.out.1, HJ.out.2] at this
          show _ ≤ _
          simp at this ⊢
          omega
        clear hL1 hL2 hR1 hR2 hw h hk hsL hsR hx HFo hen
        by_cases hrot : s < m ∧ m < en
        · obtain ⟨hr1, hr2⟩ := hrot
          have hr1' : (s : Int) < (m : Int) := by omega
          have hr2' : (m : Int) < (en : Int) := by omega
          go_wp2_with fail
          refine (rotate_any w0 g rest (X ++ L1) L2 R1 (R2 ++ Y) s m en (show _ = _ by have h3 := HLn.out; have h4 := HX.out; simp; omega) (show _ = _ by have h3 := HLn.out; have h4 := HX.out; simp; omega) (show _ = _ by have h3 := HLn.out; omega) _ n cap (by have h3 := HLn.out; omega) (by have h3 := HLn.out; omega) (show _ ≤ _ by have h1 := HT.out; simp at h1 ⊢; omega) hbig hw0 _).mono ?_
          rintro e w1 ⟨rfl, hw1'⟩
          have hw1 : SW w0 g rest (X ++ L1 ++ R1 ++ (L2 ++ R2 ++ Y)) w1 := by simpa [List.append_assoc] using hw1'
          clear hw1' hw0
          by_cases hB : a < s ∧ s < md
          · obtain ⟨ha1, ha2⟩ := hB
            have ha1' : (a : Int) < (s : Int) := by omega
            have ha2' : (s : Int) < (md : Int) := by omega
            go_wp2_with fail
            refine (ih X L1 R1 (L2 ++ R2 ++ Y) a s md _ (by have h3 := HLn.out; have h4 := HN0.out; have h5 := HM.out; have h6 := HB.out; omega) (by have h3 := HLn.out; omega) (by have h3 := HLn.out; omega) HX.out (by have h3 := HLn.out; omega) (by have h3 := HLn.out; omega) HT.out hbig hw1 HK1.out hsL1 hsR1 hx1).mono ?_
            rintro e w2 ⟨rfl, M1, hM1, hw2⟩
            have HM1 : Hid (Merged key pos L1 R1 M1) := hM1
            clear hM1
            have HX2 : Hid ((X ++ M1).length = md) := by have h1 := HX.out; have h2 := HM1.out.1.length_eq; have h3 := HLn.out; show _ = _; simp at h2 ⊢; omega
            by_cases hB2 : md < en ∧ en < b
            · obtain ⟨hb1, hb2⟩ := hB2
              have hb1' : (md : Int) < (en : Int) := by omega
              have hb2' : (en : Int) < (b : Int) := by omega
              go_wp2_with fail
              all_goals
               refine (ih (X ++ M1) L2 R2 Y md en b _ (by have h3 := HLn.out; have h4 := HN0.out; have h5 := HM.out; have h6 := HB.out; omega) (by have h3 := HLn.out; omega) (by have h3 := HLn.out; omega) HX2.out (by have h3 := HLn.out; omega) (by have h3 := HLn.out; omega) (by have h1 := HT.out; have h2 := HM1.out.1.length_eq; simp at h1 h2 ⊢; omega) hbig (by simpa [List.append_assoc] using hw2) (HK1.out.sub fun z hz => by simpa [HM1.out.1.mem_iff, or_assoc, or_comm, or_left_comm] using hz) hsL2 hsR2 hx2).mono ?_
               rintro e w3 ⟨rfl, M2, hM2, hw3⟩
               go_wp2
               go_end0
               refine ⟨rfl, M1 ++ M2, ?_, by simpa [List.append_assoc] using hw3⟩
               rw [HJ.out.1, HJ.out.2]
               exact merged_of HM1.out hM2 HC.out
            · have hB3 : L2 = [] ∨ R2 = [] := by
                have h3 := HLn.out
                by_cases hq : L2 = []
                · exact Or.inl hq
                · have : 0 < L2.length := List.length_pos_iff.2 hq
                  exact Or.inr (List.eq_nil_of_length_eq_zero (by omega))
              have HM2 : Hid (Merged key pos L2 R2 (L2 ++ R2)) := by
                show Merged _ _ _ _ _
                rcases hB3 with h0 | h0
                · rw [h0]; exact merged_nil_left hsR2
                · rw [h0, List.append_nil]; exact merged_nil_right hsL2
              clear hB3
              by_cases hb1 : md < en
              · have hb1' : (md : Int) < (en : Int) := by omega
                have hb2' : ¬ (en : Int) < (b : Int) := by omega
                go_wp2
                all_goals
                  go_end0
                  refine ⟨rfl, M1 ++ (L2 ++ R2), ?_, by simpa [List.append_assoc] using hw2⟩
                  rw [HJ.out.1, HJ.out.2]
                  exact merged_of HM1.out HM2.out HC.out
              · have hb1' : ¬ (md : Int) < (en : Int) := by omega
                go_wp2
                all_goals
                  go_end0
                  refine ⟨rfl, M1 ++ (L2 ++ R2), ?_, by simpa [List.append_assoc] using hw2⟩
                  rw [HJ.out.1, HJ.out.2]
                  exact merged_of HM1.out HM2.out HC.out
          · have hB0 : L1 = [] ∨ R1 = [] := by
              have h3 := HLn.out
              by_cases hq : L1 = []
              · exact Or.inl hq
              · have : 0 < L1.length := List.length_pos_iff.2 hq
                exact Or.inr (List.eq_nil_of_length_eq_zero (by omega))
            obtain ⟨M1, hM1e⟩ : ∃ M1, L1 ++ R1 = M1 := ⟨_, rfl⟩
            have HM1 : Hid (Merged key pos L1 R1 M1) := by
              show Merged _ _ _ _ _
              rw [← hM1e]
              rcases hB0 with h0 | h0
              · rw [h0]; exact merged_nil_left hsR1
              · rw [h0, List.append_nil]; exact merged_nil_right hsL1
            have hw2 := hw1
            rw [List.append_assoc X, hM1e] at hw2
            clear hB0 hM1e
            by_cases ha1 : a < s
            · have ha1' : (a : Int) < (s : Int) := by omega
              have ha2' : ¬ (s : Int) < (md : Int) := by omega
              have HX2 : Hid ((X ++ M1).length = md) := by have h1 := HX.out; have h2 := HM1.out.1.length_eq; have h3 := HLn.out; show _ = _; simp at h2 ⊢; omega
              by_cases hB2 : md < en ∧ en < b
              · obtain ⟨hb1, hb2⟩ := hB2
                have hb1' : (md : Int) < (en : Int) := by omega
                have hb2' : (en : Int) < (b : Int) := by omega
                go_wp2_with fail
                all_goals
                 refine (ih (X ++ M1) L2 R2 Y md en b _ (by have h3 := HLn.out; have h4 := HN0.out; have h5 := HM.out; have h6 := HB.out; omega) (by have h3 := HLn.out; omega) (by have h3 := HLn.out; omega) HX2.out (by have h3 := HLn.out; omega) (by have h3 := HLn.out; omega) (by have h1 := HT.out; have h2 := HM1.out.1.length_eq; simp at h1 h2 ⊢; omega) hbig (by simpa [List.append_assoc] using hw2) (HK1.out.sub fun z hz => by simpa [HM1.out.1.mem_iff, or_assoc, or_comm, or_left_comm] using hz) hsL2 hsR2 hx2).mono ?_
                 rintro e w3 ⟨rfl, M2, hM2, hw3⟩
                 go_wp2
                 go_end0
                 refine ⟨rfl, M1 ++ M2, ?_, by simpa [List.append_assoc] using hw3⟩
                 rw [HJ.out.1, HJ.out.2]
                 exact merged_of HM1.out hM2 HC.out
              · have hB3 : L2 = [] ∨ R2 = [] := by
                  have h3 := HLn.out
                  by_cases hq : L2 = []
                  · exact Or.inl hq
                  · have : 0 < L2.length := List.length_pos_iff.2 hq
                    exact Or.inr (List.eq_nil_of_length_eq_zero (by omega))
                have HM2 : Hid (Merged key pos L2 R2 (L2 ++ R2)) := by
                  show Merged _ _ _ _ _
                  rcases hB3 with h0 | h0
                  · rw [h0]; exact merged_nil_left hsR2
                  · rw [h0, List.append_nil]; exact merged_nil_right hsL2
                clear hB3
                by_cases hb1 : md < en
                · have hb1' : (md : Int) < (en : Int) := by omega
                  have hb2' : ¬ (en : Int) < (b : Int) := by omega
                  go_wp2
                  all_goals
                    go_end0
                    refine ⟨rfl, M1 ++ (L2 ++ R2), ?_, by simpa [List.append_assoc] using hw2⟩
                    rw [HJ.out.1, HJ.out.2]
                    exact merged_of HM1.out HM2.out HC.out
                · have hb1' : ¬ (md : Int) < (en : Int) := by omega
                  go_wp2
                  all_goals
                    go_end0
                    refine ⟨rfl, M1 ++ (L2 ++ R2), ?_, by simpa [List.append_assoc] using hw2⟩
                    rw [HJ.out.1, HJ.out.2]
                    exact merged_of HM1.out HM2.out HC.out
            · have ha1' : ¬ (a : Int) < (s : Int) := by omega
              have HX2 : Hid ((X ++ M1).length = md) := by have h1 := HX.out; have h2 := HM1.out.1.length_eq; have h3 := HLn.out; show _ = _; simp at h2 ⊢; omega
              by_cases hB2 : md < en ∧ en < b
              · obtain ⟨hb1, hb2⟩ := hB2
                have hb1' : (md : Int) < (en : Int) := by omega
                have hb2' : (en : Int) < (b : Int) := by omega
                go_wp2_with fail
                all_goals
                 refine (ih (X ++ M1) L2 R2 Y md en b _ (by have h3 := HLn.out; have h4 := HN0.out; have h5 := HM.out; have h6 := HB.out; omega) (by have h3 := HLn.out; omega) (by have h3 := HLn.out; omega) HX2.out (by have h3 := HLn.out; omega) (by have h3 := HLn.out; omega) (by have h1 := HT.out; have h2 := HM1.out.1.length_eq; simp at h1 h2 ⊢; omega) hbig (by simpa [List.append_assoc] using hw2) (HK1.out.sub fun z hz => by simpa [HM1.out.1.mem_iff, or_assoc, or_comm, or_left_comm] using hz) hsL2 hsR2 hx2).mono ?_
                 rintro e w3 ⟨rfl, M2, hM2, hw3⟩
                 go_wp2
                 go_end0
                 refine ⟨rfl, M1 ++ M2, ?_, by simpa [List.append_assoc] using hw3⟩
                 rw [HJ.out.1, HJ.out.2]
                 exact merged_of HM1.out hM2 HC.out
              · have hB3 : L2 = [] ∨ R2 = [] := by
                  have h3 := HLn.out
                  by_cases hq : L2 = []
                  · exact Or.inl hq
                  · have : 0 < L2.length := List.length_pos_iff.2 hq
                    exact Or.inr (List.eq_nil_of_length_eq_zero (by omega))
                have HM2 : Hid (Merged key pos L2 R2 (L2 ++ R2)) := by
                  show Merged _ _ _ _ _
                  rcases hB3 with h0 | h0
                  · rw [h0]; exact merged_nil_left hsR2
                  · rw [h0, List.append_nil]; exact merged_nil_right hsL2
                clear hB3
                by_cases hb1 : md < en
                · have hb1' : (md : Int) < (en : Int) := by omega
                  have hb2' : ¬ (en : Int) < (b : Int) := by omega
                  go_wp2
                  all_goals
                    go_end0
                    refine ⟨rfl, M1 ++ (L2 ++ R2), ?_, by simpa [List.append_assoc] using hw2⟩
                    rw [HJ.out.1, HJ.out.2]
                    exact merged_of HM1.out HM2.out HC.out
                · have hb1' : ¬ (md : Int) < (en : Int) := by omega
                  go_wp2
                  all_goals
                    go_end0
                    refine ⟨rfl, M1 ++ (L2 ++ R2), ?_, by simpa [List.append_assoc] using hw2⟩
                    rw [HJ.out.1, HJ.out.2]
                    exact merged_of HM1.out HM2.out HC.out
        · have hrt : L2 = [] ∨ R1 = [] := by
            have h3 := HLn.out
            by_cases hq : L2 = []
            · exact Or.inl hq
            · have : 0 < L2.length := List.length_pos_iff.2 hq
              exact Or.inr (List.eq_nil_of_length_eq_zero (by omega))
          have hw1 : SW w0 g rest (X ++ L1 ++ R1 ++ (L2 ++ R2 ++ Y)) wr := by
            rcases hrt with h0 | h0
            · rw [h0] at hw0 ⊢; simpa [List.append_assoc] using hw0
            · rw [h0] at hw0 ⊢; simpa [List.append_assoc] using hw0
          clear hrt hw0
          by_cases hr1 : s < m
          · have hr1' : (s : Int) < (m : Int) := by omega
            have hr2' : ¬ (m : Int) < (en : Int) := by omega
            by_cases hB : a < s ∧ s < md
            · obtain ⟨ha1, ha2⟩ := hB
              have ha1' : (a : Int) < (s : Int) := by omega
              have ha2' : (s : Int) < (md : Int) := by omega
              go_wp2_with fail
              refine (ih X L1 R1 (L2 ++ R2 ++ Y) a s md _ (by have h3 := HLn.out; have h4 := HN0.out; have h5 := HM.out; have h6 := HB.out; omega) (by have h3 := HLn.out; omega) (by have h3 := HLn.out; omega) HX.out (by have h3 := HLn.out; omega) (by have h3 := HLn.out; omega) HT.out hbig hw1 HK1.out hsL1 hsR1 hx1).mono ?_
              rintro e w2 ⟨rfl, M1, hM1, hw2⟩
              have HM1 : Hid (Merged key pos L1 R1 M1) := hM1
              clear hM1
              have HX2 : Hid ((X ++ M1).length = md) := by have h1 := HX.out; have h2 := HM1.out.1.length_eq; have h3 := HLn.out; show _ = _; simp at h2 ⊢; omega
              by_cases hB2 : md < en ∧ en < b
              · obtain ⟨hb1, hb2⟩ := hB2
                have hb1' : (md : Int) < (en : Int) := by omega
                have hb2' : (en : Int) < (b : Int) := by omega
                go_wp2_with fail
                all_goals
                 refine (ih (X ++ M1) L2 R2 Y md en b _ (by have h3 := HLn.out; have h4 := HN0.out; have h5 := HM.out; have h6 := HB.out; omega) (by have h3 := HLn.out; omega) (by have h3 := HLn.out; omega) HX2.out (by have h3 := HLn.out; omega) (by have h3 := HLn.out; omega) (by have h1 := HT.out; have h2 := HM1.out.1.length_eq; simp at h1 h2 ⊢; omega) hbig (by simpa [List.append_assoc] using hw2) (HK1.out.sub fun z hz => by simpa [HM1.out.1.mem_iff, or_assoc, or_comm, or_left_comm] using hz) hsL2 hsR2 hx2).mono ?_
                 rintro e w3 ⟨rfl, M2, hM2, hw3⟩
                 go_wp2
                 go_end0
                 refine ⟨rfl, M1 ++ M2, ?_, by simpa [List.append_assoc] using hw3⟩
                 rw [HJ.out.1, HJ.out.2]
                 exact merged_of HM1.out hM2 HC.out
              · have hB3 : L2 = [] ∨ R2 = [] := by
                  have h3 := HLn.out
                  by_cases hq : L2 = []
                  · exact Or.inl hq
                  · have : 0 < L2.length := List.length_pos_iff.2 hq
                    exact Or.inr (List.eq_nil_of_length_eq_zero (by omega))
                have HM2 : Hid (Merged key pos L2 R2 (L2 ++ R2)) := by
                  show Merged _ _ _ _ _
                  rcases hB3 with h0 | h0
                  · rw [h0]; exact merged_nil_left hsR2
                  · rw [h0, List.append_nil]; exact merged_nil_right hsL2
                clear hB3
                by_cases hb1 : md < en
                · have hb1' : (md : Int) < (en : Int) := by omega
                  have hb2' : ¬ (en : Int) < (b : Int) := by omega
                  go_wp2
                  all_goals
                    go_end0
                    refine ⟨rfl, M1 ++ (L2 ++ R2), ?_, by simpa [List.append_assoc] using hw2⟩
                    rw [HJ.out.1, HJ.out.2]
                    exact merged_of HM1.out HM2.out HC.out
                · have hb1' : ¬ (md : Int) < (en : Int) := by omega
                  go_wp2
                  all_goals
                    go_end0
                    refine ⟨rfl, M1 ++ (L2 ++ R2), ?_, by simpa [List.append_assoc] using hw2⟩
                    rw [HJ.out.1, HJ.out.2]
                    exact merged_of HM1.out HM2.out HC.out
            · have hB0 : L1 = [] ∨ R1 = [] := by
                have h3 := HLn.out
                by_cases hq : L1 = []
                · exact Or.inl hq
                · have : 0 < L1.length := List.length_pos_iff.2 hq
                  exact Or.inr (List.eq_nil_of_length_eq_zero (by omega))
              obtain ⟨M1, hM1e⟩ : ∃ M1, L1 ++ R1 = M1 := ⟨_, rfl⟩
              have HM1 : Hid (Merged key pos L1 R1 M1) := by
                show Merged _ _ _ _ _
                rw [← hM1e]
                rcases hB0 with h0 | h0
                · rw [h0]; exact merged_nil_left hsR1
                · rw [h0, List.append_nil]; exact merged_nil_right hsL1
              have hw2 := hw1
              rw [List.append_assoc X, hM1e] at hw2
              clear hB0 hM1e
              by_cases ha1 : a < s
              · have ha1' : (a : Int) < (s : Int) := by omega
                have ha2' : ¬ (s : Int) < (md : Int) := by omega
                have HX2 : Hid ((X ++ M1).length = md) := by have h1 := HX.out; have h2 := HM1.out.1.length_eq; have h3 := HLn.out; show _ = _; simp at h2 ⊢; omega
                by_cases hB2 : md < en ∧ en < b
                · obtain ⟨hb1, hb2⟩ := hB2
                  have hb1' : (md : Int) < (en : Int) := by omega
                  have hb2' : (en : Int) < (b : Int) := by omega
                  go_wp2_with fail
                  all_goals
                   refine (ih (X ++ M1) L2 R2 Y md en b _ (by have h3 := HLn.out; have h4 := HN0.out; have h5 := HM.out; have h6 := HB.out; omega) (by have h3 := HLn.out; omega) (by have h3 := HLn.out; omega) HX2.out (by have h3 := HLn.out; omega) (by have h3 := HLn.out; omega) (by have h1 := HT.out; have h2 := HM1.out.1.length_eq; simp at h1 h2 ⊢; omega) hbig (by simpa [List.append_assoc] using hw2) (HK1.out.sub fun z hz => by simpa [HM1.out.1.mem_iff, or_assoc, or_comm, or_left_comm] using hz) hsL2 hsR2 hx2).mono ?_
                   rintro e w3 ⟨rfl, M2, hM2, hw3⟩
                   go_wp2
                   go_end0
                   refine ⟨rfl, M1 ++ M2, ?_, by simpa [List.append_assoc] using hw3⟩
                   rw [HJ.out.1, HJ.out.2]
                   exact merged_of HM1.out hM2 HC.out
                · have hB3 : L2 = [] ∨ R2 = [] := by
                    have h3 := HLn.out
                    by_cases hq : L2 = []
                    · exact Or.inl hq
                    · have : 0 < L2.length := List.length_pos_iff.2 hq
                      exact Or.inr (List.eq_nil_of_length_eq_zero (by omega))
                  have HM2 : Hid (Merged key pos L2 R2 (L2 ++ R2)) := by
                    show Merged _ _ _ _ _
                    rcases hB3 with h0 | h0
                    · rw [h0]; exact merged_nil_left hsR2
                    · rw [h0, List.append_nil]; exact merged_nil_right hsL2
                  clear hB3
                  by_cases hb1 : md < en
                  · have hb1' : (md : Int) < (en : Int) := by omega
                    have hb2' : ¬ (en : Int) < (b : Int) := by omega
                    go_wp2
                    all_goals
                      go_end0
                      refine ⟨rfl, M1 ++ (L2 ++ R2), ?_, by simpa [List.append_assoc] using hw2⟩
                      rw [HJ.out.1, HJ.out.2]
                      exact merged_of HM1.out HM2.out HC.out
                  · have hb1' : ¬ (md : Int) < (en : Int) := by omega
                    go_wp2
                    all_goals
                      go_end0
                      refine ⟨rfl, M1 ++ (L2 ++ R2), ?_, by simpa [List.append_assoc] using hw2⟩
                      rw [HJ.out.1, HJ.out.2]
                      exact merged_of HM1.out HM2.out HC.out
              · have ha1' : ¬ (a : Int) < (s : Int) := by omega
                have HX2 : Hid ((X ++ M1).length = md) := by have h1 := HX.out; have h2 := HM1.out.1.length_eq; have h3 := HLn.out; show _ = _; simp at h2 ⊢; omega
                by_cases hB2 : md < en ∧ en < b
                · obtain ⟨hb1, hb2⟩ := hB2
                  have hb1' : (md : Int) < (en : Int) := by omega
                  have hb2' : (en : Int) < (b : Int) := by omega
                  go_wp2_with fail
                  all_goals
                   refine (ih (X ++ M1) L2 R2 Y md en b _ (by have h3 := HLn.out; have h4 := HN0.out; have h5 := HM.out; have h6 := HB.out; omega) (by have h3 := HLn.out; omega) (by have h3 := HLn.out; omega) HX2.out (by have h3 := HLn.out; omega) (by have h3 := HLn.out; omega) (by have h1 := HT.out; have h2 := HM1.out.1.length_eq; simp at h1 h2 ⊢; omega) hbig (by simpa [List.append_assoc] using hw2) (HK1.out.sub fun z hz => by simpa [HM1.out.1.mem_iff, or_assoc, or_comm, or_left_comm] using hz) hsL2 hsR2 hx2).mono ?_
                   rintro e w3 ⟨rfl, M2, hM2, hw3⟩
                   go_wp2
                   go_end0
                   refine ⟨rfl, M1 ++ M2, ?_, by simpa [List.append_assoc] using hw3⟩
                   rw [HJ.out.1, HJ.out.2]
                   exact merged_of HM1.out hM2 HC.out
                · have hB3 : L2 = [] ∨ R2 = [] := by
                    have h3 := HLn.out
                    by_cases hq : L2 = []
                    · exact Or.inl hq
                    · have : 0 < L2.length := List.length_pos_iff.2 hq
                      exact Or.inr (List.eq_nil_of_length_eq_zero (by omega))
                  have HM2 : Hid (Merged key pos L2 R2 (L2 ++ R2)) := by
                    show Merged _ _ _ _ _
                    rcases hB3 with h0 | h0
                    · rw [h0]; exact merged_nil_left hsR2
                    · rw [h0, List.append_nil]; exact merged_nil_right hsL2
                  clear hB3
                  by_cases hb1 : md < en
                  · have hb1' : (md : Int) < (en : Int) := by omega
                    have hb2' : ¬ (en : Int) < (b : Int) := by omega
                    go_wp2
                    all_goals
                      go_end0
                      refine ⟨rfl, M1 ++ (L2 ++ R2), ?_, by simpa [List.append_assoc] using hw2⟩
                      rw [HJ.out.1, HJ.out.2]
                      exact merged_of HM1.out HM2.out HC.out
                  · have hb1' : ¬ (md : Int) < (en : Int) := by omega
                    go_wp2
                    all_goals
                      go_end0
                      refine ⟨rfl, M1 ++ (L2 ++ R2), ?_, by simpa [List.append_assoc] using hw2⟩
                      rw [HJ.out.1, HJ.out.2]
                      exact merged_of HM1.out HM2.out HC.out
          · have hr1' : ¬ (s : Int) < (m : Int) := by omega
            by_cases hB : a < s ∧ s < md
            · obtain ⟨ha1, ha2⟩ := hB
              have ha1' : (a : Int) < (s : Int) := by omega
              have ha2' : (s : Int) < (md : Int) := by omega
              go_wp2_with fail
              refine (ih X L1 R1 (L2 ++ R2 ++ Y) a s md _ (by have h3 := HLn.out; have h4 := HN0.out; have h5 := HM.out; have h6 := HB.out; omega) (by have h3 := HLn.out; omega) (by have h3 := HLn.out; omega) HX.out (by have h3 := HLn.out; omega) (by have h3 := HLn.out; omega) HT.out hbig hw1 HK1.out hsL1 hsR1 hx1).mono ?_
              rintro e w2 ⟨rfl, M1, hM1, hw2⟩
              have HM1 : Hid (Merged key pos L1 R1 M1) := hM1
              clear hM1
              have HX2 : Hid ((X ++ M1).length = md) := by have h1 := HX.out; have h2 := HM1.out.1.length_eq; have h3 := HLn.out; show _ = _; simp at h2 ⊢; omega
              by_cases hB2 : md < en ∧ en < b
              · obtain ⟨hb1, hb2⟩ := hB2
                have hb1' : (md : Int) < (en : Int) := by omega
                have hb2' : (en : Int) < (b : Int) := by omega
                go_wp2_with fail
                all_goals
                 refine (ih (X ++ M1) L2 R2 Y md en b _ (by have h3 := HLn.out; have h4 := HN0.out; have h5 := HM.out; have h6 := HB.out; omega) (by have h3 := HLn.out; omega) (by have h3 := HLn.out; omega) HX2.out (by have h3 := HLn.out; omega) (by have h3 := HLn.out; omega) (by have h1 := HT.out; have h2 := HM1.out.1.length_eq; simp at h1 h2 ⊢; omega) hbig (by simpa [List.append_assoc] using hw2) (HK1.out.sub fun z hz => by simpa [HM1.out.1.mem_iff, or_assoc, or_comm, or_left_comm] using hz) hsL2 hsR2 hx2).mono ?_
                 rintro e w3 ⟨rfl, M2, hM2, hw3⟩
                 go_wp2
                 go_end0
                 refine ⟨rfl, M1 ++ M2, ?_, by simpa [List.append_assoc] using hw3⟩
                 rw [HJ.out.1, HJ.out.2]
                 exact merged_of HM1.out hM2 HC.out
              · have hB3 : L2 = [] ∨ R2 = [] := by
                  have h3 := HLn.out
                  by_cases hq : L2 = []
                  · exact Or.inl hq
                  · have : 0 < L2.length := List.length_pos_iff.2 hq
                    exact Or.inr (List.eq_nil_of_length_eq_zero (by omega))
                have HM2 : Hid (Merged key pos L2 R2 (L2 ++ R2)) := by
                  show Merged _ _ _ _ _
                  rcases hB3 with h0 | h0
                  · rw [h0]; exact merged_nil_left hsR2
                  · rw [h0, List.append_nil]; exact merged_nil_right hsL2
                clear hB3
                by_cases hb1 : md < en
                · have hb1' : (md : Int) < (en : Int) := by omega
                  have hb2' : ¬ (en : Int) < (b : Int) := by omega
                  go_wp2
                  all_goals
                    go_end0
                    refine ⟨rfl, M1 ++ (L2 ++ R2), ?_, by simpa [List.append_assoc] using hw2⟩
                    rw [HJ.out.1, HJ.out.2]
                    exact merged_of HM1.out HM2.out HC.out
                · have hb1' : ¬ (md : Int) < (en : Int) := by omega
                  go_wp2
                  all_goals
                    go_end0
                    refine ⟨rfl, M1 ++ (L2 ++ R2), ?_, by simpa [List.append_assoc] using hw2⟩
                    rw [HJ.out.1, HJ.out.2]
                    exact merged_of HM1.out HM2.out HC.out
            · have hB0 : L1 = [] ∨ R1 = [] := by
                have h3 := HLn.out
                by_cases hq : L1 = []
                · exact Or.inl hq
                · have : 0 < L1.length := List.length_pos_iff.2 hq
                  exact Or.inr (List.eq_nil_of_length_eq_zero (by omega))
              obtain ⟨M1, hM1e⟩ : ∃ M1, L1 ++ R1 = M1 := ⟨_, rfl⟩
              have HM1 : Hid (Merged key pos L1 R1 M1) := by
                show Merged _ _ _ _ _
                rw [← hM1e]
                rcases hB0 with h0 | h0
                · rw [h0]; exact merged_nil_left hsR1
                · rw [h0, List.append_nil]; exact merged_nil_right hsL1
              have hw2 := hw1
              rw [List.append_assoc X, hM1e] at hw2
              clear hB0 hM1e
              by_cases ha1 : a < s
              · have ha1' : (a : Int) < (s : Int) := by omega
                have ha2' : ¬ (s : Int) < (md : Int) := by omega
                have HX2 : Hid ((X ++ M1).length = md) := by have h1 := HX.out; have h2 := HM1.out.1.length_eq; have h3 := HLn.out; show _ = _; simp at h2 ⊢; omega
                by_cases hB2 : md < en ∧ en < b
                · obtain ⟨hb1, hb2⟩ := hB2
                  have hb1' : (md : Int) < (en : Int) := by omega
                  have hb2' : (en : Int) < (b : Int) := by omega
                  go_wp2_with fail
                  all_goals
                   refine (ih (X ++ M1) L2 R2 Y md en b _ (by have h3 := HLn.out; have h4 := HN0.out; have h5 := HM.out; have h6 := HB.out; omega) (by have h3 := HLn.out; omega) (by have h3 := HLn.out; omega) HX2.out (by have h3 := HLn.out; omega) (by have h3 := HLn.out; omega) (by have h1 := HT.out; have h2 := HM1.out.1.length_eq; simp at h1 h2 ⊢; omega) hbig (by simpa [List.append_assoc] using hw2) (HK1.out.sub fun z hz => by simpa [HM1.out.1.mem_iff, or_assoc, or_comm, or_left_comm] using hz) hsL2 hsR2 hx2).mono ?_
                   rintro e w3 ⟨rfl, M2, hM2, hw3⟩
                   go_wp2
                   go_end0
                   refine ⟨rfl, M1 ++ M2, ?_, by simpa [List.append_assoc] using hw3⟩
                   rw [HJ.out.1, HJ.out.2]
                   exact merged_of HM1.out hM2 HC.out
                · have hB3 : L2 = [] ∨ R2 = [] := by
                    have h3 := HLn.out
                    by_cases hq : L2 = []
                    · exact Or.inl hq
                    · have : 0 < L2.length := List.length_pos_iff.2 hq
                      exact Or.inr (List.eq_nil_of_length_eq_zero (by omega))
                  have HM2 : Hid (Merged key pos L2 R2 (L2 ++ R2)) := by
                    show Merged _ _ _ _ _
                    rcases hB3 with h0 | h0
                    · rw [h0]; exact merged_nil_left hsR2
                    · rw [h0, List.append_nil]; exact merged_nil_right hsL2
                  clear hB3
                  by_cases hb1 : md < en
                  · have hb1' : (md : Int) < (en : Int) := by omega
                    have hb2' : ¬ (en : Int) < (b : Int) := by omega
                    go_wp2
                    all_goals
                      go_end0
                      refine ⟨rfl, M1 ++ (L2 ++ R2), ?_, by simpa [List.append_assoc] using hw2⟩
                      rw [HJ.out.1, HJ.out.2]
                      exact merged_of HM1.out HM2.out HC.out
                  · have hb1' : ¬ (md : Int) < (en : Int) := by omega
                    go_wp2
                    all_goals
                      go_end0
                      refine ⟨rfl, M1 ++ (L2 ++ R2), ?_, by simpa [List.append_assoc] using hw2⟩
                      rw [HJ.out.1, HJ.out.2]
                      exact merged_of HM1.out HM2.out HC.out
              · have ha1' : ¬ (a : Int) < (s : Int) := by omega
                have HX2 : Hid ((X ++ M1).length = md) := by have h1 := HX.out; have h2 := HM1.out.1.length_eq; have h3 := HLn.out; show _ = _; simp at h2 ⊢; omega
                by_cases hB2 : md < en ∧ en < b
                · obtain ⟨hb1, hb2⟩ := hB2
                  have hb1' : (md : Int) < (en : Int) := by omega
                  have hb2' : (en : Int) < (b : Int) := by omega
                  go_wp2_with fail
                  all_goals
                   refine (ih (X ++ M1) L2 R2 Y md en b _ (by have h3 := HLn.out; have h4 := HN0.out; have h5 := HM.out; have h6 := HB.out; omega) (by have h3 := HLn.out; omega) (by have h3 := HLn.out; omega) HX2.out (by have h3 := HLn.out; omega) (by have h3 := HLn.out; omega) (by have h1 := HT.out; have h2 := HM1.out.1.length_eq; simp at h1 h2 ⊢; omega) hbig (by simpa [List.append_assoc] using hw2) (HK1.out.sub fun z hz => by simpa [HM1.out.1.mem_iff, or_assoc, or_comm, or_left_comm] using hz) hsL2 hsR2 hx2).mono ?_
                   rintro e w3 ⟨rfl, M2, hM2, hw3⟩
                   go_wp2
                   go_end0
                   refine ⟨rfl, M1 ++ M2, ?_, by simpa [List.append_assoc] using hw3⟩
                   rw [HJ.out.1, HJ.out.2]
                   exact merged_of HM1.out hM2 HC.out
                · have hB3 : L2 = [] ∨ R2 = [] := by
                    have h3 := HLn.out
                    by_cases hq : L2 = []
                    · exact Or.inl hq
                    · have : 0 < L2.length := List.length_pos_iff.2 hq
                      exact Or.inr (List.eq_nil_of_length_eq_zero (by omega))
                  have HM2 : Hid (Merged key pos L2 R2 (L2 ++ R2)) := by
                    show Merged _ _ _ _ _
                    rcases hB3 with h0 | h0
                    · rw [h0]; exact merged_nil_left hsR2
                    · rw [h0, List.append_nil]; exact merged_nil_right hsL2
                  clear hB3
                  by_cases hb1 : md < en
                  · have hb1' : (md : Int) < (en : Int) := by omega
                    have hb2' : ¬ (en : Int) < (b : Int) := by omega
                    go_wp2
                    all_goals
                      go_end0
                      refine ⟨rfl, M1 ++ (L2 ++ R2), ?_, by simpa [List.append_assoc] using hw2⟩
                      rw [HJ.out.1, HJ.out.2]
                      exact merged_of HM1.out HM2.out HC.out
                  · have hb1' : ¬ (md : Int) < (en : Int) := by omega
                    go_wp2
                    all_goals
                      go_end0
                      refine ⟨rfl, M1 ++ (L2 ++ R2), ?_, by simpa [List.append_assoc] using hw2⟩
                      rw [HJ.out.1, HJ.out.2]
                      exact merged_of HM1.out HM2.out HC.out
  · have hgt : ¬ (md : Int) < (m : Int) := by omega
    obtain ⟨lo, hlo⟩ : ∃ lo, lo = a := ⟨_, rfl⟩
    obtain ⟨hi, hhi⟩ : ∃ hi, hi = m := ⟨_, rfl⟩
    have hlh : lo ≤ hi := by omega
    have HLO : Hid (lo = a) := hlo
    have HHI : Hid (hi = m) := hhi
    have HF : Hid (a ≤ lo ∧ hi ≤ m ∧ (lo = a ∨ N - lo = b) ∧ (hi = m ∨ N - hi = m) ∧ (md + m = N ∧ N = p + 1 ∧ a < md ∧ md < b ∧ hi ≤ N ∧ m ≤ N - hi ∧ N - lo ≤ b) ∧ ∀ c, lo ≤ c → c < hi → m ≤ p - c ∧ p - c < b ∧ c ≤ p) := ⟨by omega, by omega, by omega, by omega, by omega, fun c h1 h2 => by omega⟩
    clear hmd hN hp hlo0 hlo hhi
    go_enter Yba.func35, Yba.ntmps35
    go_wp2
    go_loopw [20, 21] (fun vs vr wr => ∃ (s u : Nat), lo ≤ s ∧ s ≤ u ∧ u ≤ hi ∧ vs = .int .i64 (s : Int) ∧ vr = .int .i64 (u : Int) ∧ Hid (s = lo ∨ ¬ PC key L R a m p (s - 1)) ∧ Hid (u = hi ∨ PC key L R a m p u) ∧ SW w0 g rest (X ++ L ++ R ++ Y) wr) (fun vs vr _ => (intOf vr).toNat - (intOf vs).toNat)
    case atStart => exact ⟨lo, hi, Nat.le_refl _, hlh, Nat.le_refl _, by first | rfl | (rw [HLO.out]), by first | rfl | (rw [HHI.out]), Or.inl rfl, Or.inl rfl, h⟩
    case round =>
      obtain ⟨s, u, hls, hsu, huh, rfl, rfl, H1, H2, hw⟩ := hrel
      by_cases hlt : s < u
      · obtain ⟨c, hc⟩ : ∃ c, (s + u) / 2 = c := ⟨_, rfl⟩
        have hcs : s ≤ c := by omega
        have hcu : c < u := by omega
        have hce : ((s : Int) + (u : Int)) / 2 = (c : Int) := by omega
        have hF := HF.out.2.2.2.2.2 c (by omega) (by omega)
        obtain ⟨q, hq⟩ : ∃ q, p - c = q := ⟨_, rfl⟩
        have hqe : (p : Int) - (c : Int) = (q : Int) := by omega
        have hcL : c - a < L.length := by have := HF.out.1; have := HF.out.2.1; have := HM.out; omega
        have hqR : q - m < R.length := by have := HB.out; omega
        have hcc := (show SW w0 g rest (X ++ L ++ (R ++ Y)) wr by simpa using hw).inR hcL
        rw [HX.out, show a + (c - a) = c by have := HF.out.1; omega] at hcc
        have hcq := (show SW w0 g rest ((X ++ L) ++ R ++ Y) wr by simpa using hw).inR hqR
        rw [show (X ++ L).length + (q - m) = q by have := HX.out; have := HM.out; simp; omega] at hcq
        obtain ⟨z, hz⟩ : ∃ z, L[c - a] = z := ⟨_, rfl⟩
        obtain ⟨y, hy⟩ : ∃ y, R[q - m] = y := ⟨_, rfl⟩
        rw [hz] at hcc
        rw [hy] at hcq
        have hkz := hw.key hk (k := z) (by rw [← hz]; simp [List.getElem_mem])
        have hky := hw.key hk (k := y) (by rw [← hy]; simp [List.getElem_mem])
        have HP : Hid (PC key L R a m p c ↔ key y < key z) := by
          show PC key L R a m p c ↔ _
          unfold PC
          rw [hq, getD_in _ hqR, getD_in _ hcL, hz, hy]
        have hi0 : (c : Int) < (n : Int) := by omega
        have hi1 : (q : Int) < (n : Int) := by omega
        have hsum : s + u ≤ 2000000 := by omega
        clear hc hq hz hy hcL hqR hF
        by_cases hc : key y < key z
        · have hd : decide (cmpI (key y) (key z) < 0) = true := decide_eq_true ((cmpI_neg _ _).2 hc)
          go_wp2
          go_quiet ((go_at_call 26; exact Calls.quiet_of (less_any _ _ _ _ _ (by assumption) (by assumption))))
          go_wp2
          go_roundw
          case rel => exact ⟨s, c, hls, hcs, by omega, rfl, rfl, H1, Or.inr (HP.out.2 hc), by simpa using hw.drewN nq⟩
          case measure => simp [intOf]; omega
        · have hd : decide (cmpI (key y) (key z) < 0) = false := decide_eq_false fun h => hc ((cmpI_neg _ _).1 h)
          go_wp2
          go_quiet ((go_at_call 26; exact Calls.quiet_of (less_any _ _ _ _ _ (by assumption) (by assumption))))
          go_wp2
          go_roundw
          case rel => exact ⟨c + 1, u, by omega, by omega, huh, by go_num, rfl, Or.inr (fun k => absurd (HP.out.1 (by simpa using k)) (by omega)), H2, by simpa using hw.drewN nq⟩
          case measure => simp [intOf]; omega
      · obtain rfl : s = u := by omega
        obtain ⟨en, hen⟩ : ∃ en, N - s = en := ⟨_, rfl⟩
        have HFo := HF.out
        have hene : (N : Int) - (s : Int) = (en : Int) := by omega
        obtain ⟨L1, hL1⟩ : ∃ L1, L.take (s - a) = L1 := ⟨_, rfl⟩
        obtain ⟨L2, hL2⟩ : ∃ L2, L.drop (s - a) = L2 := ⟨_, rfl⟩
        obtain ⟨R1, hR1⟩ : ∃ R1, R.take (en - m) = R1 := ⟨_, rfl⟩
        obtain ⟨R2, hR2⟩ : ∃ R2, R.drop (en - m) = R2 := ⟨_, rfl⟩
        have HJ : Hid (L = L1 ++ L2 ∧ R = R1 ++ R2) := ⟨by rw [← hL1, ← hL2, List.take_append_drop], by rw [← hR1, ← hR2, List.take_append_drop]⟩
        have HLn : Hid (L1.length = s - a ∧ L2.length = m - s ∧ R1.length = en - m ∧ R2.length = b - en ∧ a ≤ s ∧ s ≤ m ∧ m ≤ en ∧ en ≤ b ∧ md + m = en + s ∧ a < md ∧ md < b) := by
          have := HM.out; have := HB.out
          refine ⟨by rw [← hL1, List.length_take]; omega, by rw [← hL2, List.length_drop]; omega, by rw [← hR1, List.length_take]; omega, by rw [← hR2, List.length_drop]; omega, by omega, by omega, by omega, by omega, by omega, by omega, by omega⟩
        have HC : Hid (∀ x ∈ L1 ++ R1, ∀ y ∈ L2 ++ R2, lt key pos x y) := by
          have e1 : md + m - 1 = p := by omega
          have e2 : md + m - s = en := by omega
          have := cut_of hsL hsR hx (md := md) (lo := lo) (hi := hi) (s := s) HM.out HB.out HFo.1 HFo.2.1 hls huh (by omega) (by omega) (by omega) (by omega) (by omega) (by rw [e1]; exact H1.out) (by rw [e1]; exact H2.out)
          rw [e2, hL1, hL2, hR1, hR2] at this
          exact this
        have hsL1 : L1.Pairwise (lt key pos) := by rw [← hL1]; exact hsL.sublist (List.take_sublist _ _)
        have hsL2 : L2.Pairwise (lt key pos) := by rw [← hL2]; exact hsL.sublist (List.drop_sublist _ _)
        have hsR1 : R1.Pairwise (lt key pos) := by rw [← hR1]; exact hsR.sublist (List.take_sublist _ _)
        have hsR2 : R2.Pairwise (lt key pos) := by rw [← hR2]; exact hsR.sublist (List.drop_sublist _ _)
        have hx1 : ∀ x ∈ L1, ∀ y ∈ R1, pos x < pos y := fun x hxx y hyy => hx x (by rw [HJ.out.1]; simp [hxx]) y (by rw [HJ.out.2]; simp [hyy])
        have hx2 : ∀ x ∈ L2, ∀ y ∈ R2, pos x < pos y := fun x hxx y hyy => hx x (by rw [HJ.out.1]; simp [hxx]) y (by rw [HJ.out.2]; simp [hyy])
        have hw0 : SW w0 g rest (X ++ L1 ++ L2 ++ R1 ++ (R2 ++ Y)) wr := by
          rw [HJ.out.1, HJ.out.2] at hw
          simpa [List.append_assoc] using hw
        have HK1 : Hid (Keys w0 g key (X ++ L1 ++ R1 ++ (L2 ++ R2 ++ Y))) := hk.sub fun z hz => by
          rw [HJ.out.1, HJ.out.2]
          simpa [or_assoc, or_comm, or_left_comm] using hz
        have HT : Hid ((X ++ L1 ++ R1 ++ (L2 ++ R2 ++ Y)).length ≤ n) := by
          have := Hn.out
          rw [HJ.out.1, HJ.out.2] at this
          show _ ≤ _
          simp at this ⊢
          omega
        clear hL1 hL2 hR1 hR2 hw h hk hsL hsR hx HFo hen
        by_cases hrot : s < m ∧ m < en
        · obtain ⟨hr1, hr2⟩ := hrot
          have hr1' : (s : Int) < (m : Int) := by omega
          have hr2' : (m : Int) < (en : Int) := by omega
          go_wp2_with fail
          refine (rotate_any w0 g rest (X ++ L1) L2 R1 (R2 ++ Y) s m en (show _ = _ by have h3 := HLn.out; have h4 := HX.out; simp; omega) (show _ = _ by have h3 := HLn.out; have h4 := HX.out; simp; omega) (show _ = _ by have h3 := HLn.out; omega) _ n cap (by have h3 := HLn.out; omega) (by have h3 := HLn.out; omega) (show _ ≤ _ by have h1 := HT.out; simp at h1 ⊢; omega) hbig hw0 _).mono ?_
          rintro e w1 ⟨rfl, hw1'⟩
          have hw1 : SW w0 g rest (X ++ L1 ++ R1 ++ (L2 ++ R2 ++ Y)) w1 := by simpa [List.append_assoc] using hw1'
          clear hw1' hw0
          by_cases hB : a < s ∧ s < md
          · obtain ⟨ha1, ha2⟩ := hB
            have ha1' : (a : Int) < (s : Int) := by omega
            have ha2' : (s : Int) < (md : Int) := by omega
            go_wp2_with fail
            refine (ih X L1 R1 (L2 ++ R2 ++ Y) a s md _ (by have h3 := HLn.out; have h4 := HN0.out; have h5 := HM.out; have h6 := HB.out; omega) (by have h3 := HLn.out; omega) (by have h3 := HLn.out; omega) HX.out (by have h3 := HLn.out; omega) (by have h3 := HLn.out; omega) HT.out hbig hw1 HK1.out hsL1 hsR1 hx1).mono ?_
            rintro e w2 ⟨rfl, M1, hM1, hw2⟩
            have HM1 : Hid (Merged key pos L1 R1 M1) := hM1
            clear hM1
            have HX2 : Hid ((X ++ M1).length = md) := by have h1 := HX.out; have h2 := HM1.out.1.length_eq; have h3 := HLn.out; show _ = _; simp at h2 ⊢; omega
            by_cases hB2 : md < en ∧ en < b
            · obtain ⟨hb1, hb2⟩ := hB2
              have hb1' : (md : Int) < (en : Int) := by omega
              have hb2' : (en : Int) < (b : Int) := by omega
              go_wp2_with fail
              all_goals
               refine (ih (X ++ M1) L2 R2 Y md en b _ (by have h3 := HLn.out; have h4 := HN0.out; have h5 := HM.out; have h6 := HB.out; omega) (by have h3 := HLn.out; omega) (by have h3 := HLn.out; omega) HX2.out (by have h3 := HLn.out; omega) (by have h3 := HLn.out; omega) (by have h1 := HT.out; have h2 := HM1.out.1.length_eq; simp at h1 h2 ⊢; omega) hbig (by simpa [List.append_assoc] using hw2) (HK1.out.sub fun z hz => by simpa [HM1.out.1.mem_iff, or_assoc, or_comm, or_left_comm] using hz) hsL2 hsR2 hx2).mono ?_
               rintro e w3 ⟨rfl, M2, hM2, hw3⟩
               go_wp2
               go_end0
               refine ⟨rfl, M1 ++ M2, ?_, by simpa [List.append_assoc] using hw3⟩
               rw [HJ.out.1, HJ.out.2]
               exact merged_of HM1.out hM2 HC.out
            · have hB3 : L2 = [] ∨ R2 = [] := by
                have h3 := HLn.out
                by_cases hq : L2 = []
                · exact Or.inl hq
                · have : 0 < L2.length := List.length_pos_iff.2 hq
                  exact Or.inr (List.eq_nil_of_length_eq_zero (by omega))
              have HM2 : Hid (Merged key pos L2 R2 (L2 ++ R2)) := by
                show Merged _ _ _ _ _
                rcases hB3 with h0 | h0
                · rw [h0]; exact merged_nil_left hsR2
                · rw [h0, List.append_nil]; exact merged_nil_right hsL2
              clear hB3
              by_cases hb1 : md < en
              · have hb1' : (md : Int) < (en : Int) := by omega
                have hb2' : ¬ (en : Int) < (b : Int) := by omega
                go_wp2
                all_goals
                  go_end0
                  refine ⟨rfl, M1 ++ (L2 ++ R2), ?_, by simpa [List.append_assoc] using hw2⟩
                  rw [HJ.out.1, HJ.out.2]
                  exact merged_of HM1.out HM2.out HC.out
              · have hb1' : ¬ (md : Int) < (en : Int) := by omega
                go_wp2
                all_goals
                  go_end0
                  refine ⟨rfl, M1 ++ (L2 ++ R2), ?_, by simpa [List.append_assoc] using hw2⟩
                  rw [HJ.out.1, HJ.out.2]
                  exact merged_of HM1.out HM2.out HC.out
          · have hB0 : L1 = [] ∨ R1 = [] := by
              have h3 := HLn.out
              by_cases hq : L1 = []
              · exact Or.inl hq
              · have : 0 < L1.length := List.length_pos_iff.2 hq
                exact Or.inr (List.eq_nil_of_length_eq_zero (by omega))
            obtain ⟨M1, hM1e⟩ : ∃ M1, L1 ++ R1 = M1 := ⟨_, rfl⟩
            have HM1 : Hid (Merged key pos L1 R1 M1) := by
              show Merged _ _ _ _ _
              rw [← hM1e]
              rcases hB0 with h0 | h0
              · rw [h0]; exact merged_nil_left hsR1
              · rw [h0, List.append_nil]; exact merged_nil_right hsL1
            have hw2 := hw1
            rw [List.append_assoc X, hM1e] at hw2
            clear hB0 hM1e
            by_cases ha1 : a < s
            · have ha1' : (a : Int) < (s : Int) := by omega
              have ha2' : ¬ (s : Int) < (md : Int) := by omega
              have HX2 : Hid ((X ++ M1).length = md) := by have h1 := HX.out; have h2 := HM1.out.1.length_eq; have h3 := HLn.out; show _ = _; simp at h2 ⊢; omega
              by_cases hB2 : md < en ∧ en < b
              · obtain ⟨hb1, hb2⟩ := hB2
                have hb1' : (md : Int) < (en : Int) := by omega
                have hb2' : (en : Int) < (b : Int) := by omega
                go_wp2_with fail
                all_goals
                 refine (ih (X ++ M1) L2 R2 Y md en b _ (by have h3 := HLn.out; have h4 := HN0.out; have h5 := HM.out; have h6 := HB.out; omega) (by have h3 := HLn.out; omega) (by have h3 := HLn.out; omega) HX2.out (by have h3 := HLn.out; omega) (by have h3 := HLn.out; omega) (by have h1 := HT.out; have h2 := HM1.out.1.length_eq; simp at h1 h2 ⊢; omega) hbig (by simpa [List.append_assoc] using hw2) (HK1.out.sub fun z hz => by simpa [HM1.out.1.mem_iff, or_assoc, or_comm, or_left_comm] using hz) hsL2 hsR2 hx2).mono ?_
                 rintro e w3 ⟨rfl, M2, hM2, hw3⟩
                 go_wp2
                 go_end0
                 refine ⟨rfl, M1 ++ M2, ?_, by simpa [List.append_assoc] using hw3⟩
                 rw [HJ.out.1, HJ.out.2]
                 exact merged_of HM1.out hM2 HC.out
              · have hB3 : L2 = [] ∨ R2 = [] := by
                  have h3 := HLn.out
                  by_cases hq : L2 = []
                  · exact Or.inl hq
                  · have : 0 < L2.length := List.length_pos_iff.2 hq
                    exact Or.inr (List.eq_nil_of_length_eq_zero (by omega))
                have HM2 : Hid (Merged key pos L2 R2 (L2 ++ R2)) := by
                  show Merged _ _ _ _ _
                  rcases hB3 with h0 | h0
                  · rw [h0]; exact merged_nil_left hsR2
                  · rw [h0, List.append_nil]; exact merged_nil_right hsL2
                clear hB3
                by_cases hb1 : md < en
                · have hb1' : (md : Int) < (en : Int) := by omega
                  have hb2' : ¬ (en : Int) < (b : Int) := by omega
                  go_wp2
                  all_goals
                    go_end0
                    refine ⟨rfl, M1 ++ (L2 ++ R2), ?_, by simpa [List.append_assoc] using hw2⟩
                    rw [HJ.out.1, HJ.out.2]
                    exact merged_of HM1.out HM2.out HC.out
                · have hb1' : ¬ (md : Int) < (en : Int) := by omega
                  go_wp2
                  all_goals
                    go_end0
                    refine ⟨rfl, M1 ++ (L2 ++ R2), ?_, by simpa [List.append_assoc] using hw2⟩
                    rw [HJ.out.1, HJ.out.2]
                    exact merged_of HM1.out HM2.out HC.out
            · have ha1' : ¬ (a : Int) < (s : Int) := by omega
              have HX2 : Hid ((X ++ M1).length = md) := by have h1 := HX.out; have h2 := HM1.out.1.length_eq; have h3 := HLn.out; show _ = _; simp at h2 ⊢; omega
              by_cases hB2 : md < en ∧ en < b
              · obtain ⟨hb1, hb2⟩ := hB2
                have hb1' : (md : Int) < (en : Int) := by omega
                have hb2' : (en : Int) < (b : Int) := by omega
                go_wp2_with fail
                all_goals
                 refine (ih (X ++ M1) L2 R2 Y md en b _ (by have h3 := HLn.out; have h4 := HN0.out; have h5 := HM.out; have h6 := HB.out; omega) (by have h3 := HLn.out; omega) (by have h3 := HLn.out; omega) HX2.out (by have h3 := HLn.out; omega) (by have h3 := HLn.out; omega) (by have h1 := HT.out; have h2 := HM1.out.1.length_eq; simp at h1 h2 ⊢; omega) hbig (by simpa [List.append_assoc] using hw2) (HK1.out.sub fun z hz => by simpa [HM1.out.1.mem_iff, or_assoc, or_comm, or_left_comm] using hz) hsL2 hsR2 hx2).mono ?_
                 rintro e w3 ⟨rfl, M2, hM2, hw3⟩
                 go_wp2
                 go_end0
                 refine ⟨rfl, M1 ++ M2, ?_, by simpa [List.append_assoc] using hw3⟩
                 rw [HJ.out.1, HJ.out.2]
                 exact merged_of HM1.out hM2 HC.out
              · have hB3 : L2 = [] ∨ R2 = [] := by
                  have h3 := HLn.out
                  by_cases hq : L2 = []
                  · exact Or.inl hq
                  · have : 0 < L2.length := List.length_pos_iff.2 hq
                    exact Or.inr (List.eq_nil_of_length_eq_zero (by omega))
                have HM2 : Hid (Merged key pos L2 R2 (L2 ++ R2)) := by
                  show Merged _ _ _ _ _
                  rcases hB3 with h0 | h0
                  · rw [h0]; exact merged_nil_left hsR2
                  · rw [h0, List.append_nil]; exact merged_nil_right hsL2
                clear hB3
                by_cases hb1 : md < en
                · have hb1' : (md : Int) < (en : Int) := by omega
                  have hb2' : ¬ (en : Int) < (b : Int) := by omega
                  go_wp2
                  all_goals
                    go_end0
                    refine ⟨rfl, M1 ++ (L2 ++ R2), ?_, by simpa [List.append_assoc] using hw2⟩
                    rw [HJ.out.1, HJ.out.2]
                    exact merged_of HM1.out HM2.out HC.out
                · have hb1' : ¬ (md : Int) < (en : Int) := by omega
                  go_wp2
                  all_goals
                    go_end0
                    refine ⟨rfl, M1 ++ (L2 ++ R2), ?_, by simpa [List.append_assoc] using hw2⟩
                    rw [HJ.out.1, HJ.out.2]
                    exact merged_of HM1.out HM2.out HC.out
        · have hrt : L2 = [] ∨ R1 = [] := by
            have h3 := HLn.out
            by_cases hq : L2 = []
            · exact Or.inl hq
            · have : 0 < L2.length := List.length_pos_iff.2 hq
              exact Or.inr (List.eq_nil_of_length_eq_zero (by omega))
          have hw1 : SW w0 g rest (X ++ L1 ++ R1 ++ (L2 ++ R2 ++ Y)) wr := by
            rcases hrt with h0 | h0
            · rw [h0] at hw0 ⊢; simpa [List.append_assoc] using hw0
            · rw [h0] at hw0 ⊢; simpa [List.append_assoc] using hw0
          clear hrt hw0
          by_cases hr1 : s < m
          · have hr1' : (s : Int) < (m : Int) := by omega
            have hr2' : ¬ (m : Int) < (en : Int) := by omega
            by_cases hB : a < s ∧ s < md
            · obtain ⟨ha1, ha2⟩ := hB
              have ha1' : (a : Int) < (s : Int) := by omega
              have ha2' : (s : Int) < (md : Int) := by omega
              go_wp2_with fail
              refine (ih X L1 R1 (L2 ++ R2 ++ Y) a s md _ (by have h3 := HLn.out; have h4 := HN0.out; have h5 := HM.out; have h6 := HB.out; omega) (by have h3 := HLn.out; omega) (by have h3 := HLn.out; omega) HX.out (by have h3 := HLn.out; omega) (by have h3 := HLn.out; omega) HT.out hbig hw1 HK1.out hsL1 hsR1 hx1).mono ?_
              rintro e w2 ⟨rfl, M1, hM1, hw2⟩
              have HM1 : Hid (Merged key pos L1 R1 M1) := hM1
              clear hM1
              have HX2 : Hid ((X ++ M1).length = md) := by have h1 := HX.out; have h2 := HM1.out.1.length_eq; have h3 := HLn.out; show _ = _; simp at h2 ⊢; omega
              by_cases hB2 : md < en ∧ en < b
              · obtain ⟨hb1, hb2⟩ := hB2
                have hb1' : (md : Int) < (en : Int) := by omega
                have hb2' : (en : Int) < (b : Int) := by omega
                go_wp2_with fail
                all_goals
                 refine (ih (X ++ M1) L2 R2 Y md en b _ (by have h3 := HLn.out; have h4 := HN0.out; have h5 := HM.out; have h6 := HB.out; omega) (by have h3 := HLn.out; omega) (by have h3 := HLn.out; omega) HX2.out (by have h3 := HLn.out; omega) (by have h3 := HLn.out; omega) (by have h1 := HT.out; have h2 := HM1.out.1.length_eq; simp at h1 h2 ⊢; omega) hbig (by simpa [List.append_assoc] using hw2) (HK1.out.sub fun z hz => by simpa [HM1.out.1.mem_iff, or_assoc, or_comm, or_left_comm] using hz) hsL2 hsR2 hx2).mono ?_
                 rintro e w3 ⟨rfl, M2, hM2, hw3⟩
                 go_wp2
                 go_end0
                 refine ⟨rfl, M1 ++ M2, ?_, by simpa [List.append_assoc] using hw3⟩
                 rw [HJ.out.1, HJ.out.2]
                 exact merged_of HM1.out hM2 HC.out
              · have hB3 : L2 = [] ∨ R2 = [] := by
                  have h3 := HLn.out
                  by_cases hq : L2 = []
                  · exact Or.inl hq
                  · have : 0 < L2.length := List.length_pos_iff.2 hq
                    exact Or.inr (List.eq_nil_of_length_eq_zero (by omega))
                have HM2 : Hid (Merged key pos L2 R2 (L2 ++ R2)) := by
                  show Merged _ _ _ _ _
                  rcases hB3 with h0 | h0
                  · rw [h0]; exact merged_nil_left hsR2
                  · rw [h0, List.append_nil]; exact merged_nil_right hsL2
                clear hB3
                by_cases hb1 : md < en
                · have hb1' : (md : Int) < (en : Int) := by omega
                  have hb2' : ¬ (en : Int) < (b : Int) := by omega
                  go_wp2
                  all_goals
                    go_end0
                    refine ⟨rfl, M1 ++ (L2 ++ R2), ?_, by simpa [List.append_assoc] using hw2⟩
                    rw [HJ.out.1, HJ.out.2]
                    exact merged_of HM1.out HM2.out HC.out
                · have hb1' : ¬ (md : Int) < (en : Int) := by omega
                  go_wp2
                  all_goals
                    go_end0
                    refine ⟨rfl, M1 ++ (L2 ++ R2), ?_, by simpa [List.append_assoc] using hw2⟩
                    rw [HJ.out.1, HJ.out.2]
                    exact merged_of HM1.out HM2.out HC.out
            · have hB0 : L1 = [] ∨ R1 = [] := by
                have h3 := HLn.out
                by_cases hq : L1 = []
                · exact Or.inl hq
                · have : 0 < L1.length := List.length_pos_iff.2 hq
                  exact Or.inr (List.eq_nil_of_length_eq_zero (by omega))
              obtain ⟨M1, hM1e⟩ : ∃ M1, L1 ++ R1 = M1 := ⟨_, rfl⟩
              have HM1 : Hid (Merged key pos L1 R1 M1) := by
                show Merged _ _ _ _ _
                rw [← hM1e]
                rcases hB0 with h0 | h0
                · rw [h0]; exact merged_nil_left hsR1
                · rw [h0, List.append_nil]; exact merged_nil_right hsL1
              have hw2 := hw1
              rw [List.append_assoc X, hM1e] at hw2
              clear hB0 hM1e
              by_cases ha1 : a < s
              · have ha1' : (a : Int) < (s : Int) := by omega
                have ha2' : ¬ (s : Int) < (md : Int) := by omega
                have HX2 : Hid ((X ++ M1).length = md) := by have h1 := HX.out; have h2 := HM1.out.1.length_eq; have h3 := HLn.out; show _ = _; simp at h2 ⊢; omega
                by_cases hB2 : md < en ∧ en < b
                · obtain ⟨hb1, hb2⟩ := hB2
                  have hb1' : (md : Int) < (en : Int) := by omega
                  have hb2' : (en : Int) < (b : Int) := by omega
                  go_wp2_with fail
                  all_goals
                   refine (ih (X ++ M1) L2 R2 Y md en b _ (by have h3 := HLn.out; have h4 := HN0.out; have h5 := HM.out; have h6 := HB.out; omega) (by have h3 := HLn.out; omega) (by have h3 := HLn.out; omega) HX2.out (by have h3 := HLn.out; omega) (by have h3 := HLn.out; omega) (by have h1 := HT.out; have h2 := HM1.out.1.length_eq; simp at h1 h2 ⊢; omega) hbig (by simpa [List.append_assoc] using hw2) (HK1.out.sub fun z hz => by simpa [HM1.out.1.mem_iff, or_assoc, or_comm, or_left_comm] using hz) hsL2 hsR2 hx2).mono ?_
                   rintro e w3 ⟨rfl, M2, hM2, hw3⟩
                   go_wp2
                   go_end0
                   refine ⟨rfl, M1 ++ M2, ?_, by simpa [List.append_assoc] using hw3⟩
                   rw [HJ.out.1, HJ.out.2]
                   exact merged_of HM1.out hM2 HC.out
                · have hB3 : L2 = [] ∨ R2 = [] := by
                    have h3 := HLn.out
                    by_cases hq : L2 = []
                    · exact Or.inl hq
                    · have : 0 < L2.length := List.length_pos_iff.2 hq
                      exact Or.inr (List.eq_nil_of_length_eq_zero (by omega))
                  have HM2 : Hid (Merged key pos L2 R2 (L2 ++ R2)) := by
                    show Merged _ _ _ _ _
                    rcases hB3 with h0 | h0
                    · rw [h0]; exact merged_nil_left hsR2
                    · rw [h0, List.append_nil]; exact merged_nil_right hsL2
                  clear hB3
                  by_cases hb1 : md < en
                  · have hb1' : (md : Int) < (en : Int) := by omega
                    have hb2' : ¬ (en : Int) < (b : Int) := by omega
                    go_wp2
                    all_goals
                      go_end0
                      refine ⟨rfl, M1 ++ (L2 ++ R2), ?_, by simpa [List.append_assoc] using hw2⟩
                      rw [HJ.out.1, HJ.out.2]
                      exact merged_of HM1.out HM2.out HC.out
                  · have hb1' : ¬ (md : Int) < (en : Int) := by omega
                    go_wp2
                    all_goals
                      go_end0
                      refine ⟨rfl, M1 ++ (L2 ++ R2), ?_, by simpa [List.append_assoc] using hw2⟩
                      rw [HJ.out.1, HJ.out.2]
                      exact merged_of HM1.out HM2.out HC.out
              · have ha1' : ¬ (a : Int) < (s : Int) := by omega
                have HX2 : Hid ((X ++ M1).length = md) := by have h1 := HX.out; have h2 := HM1.out.1.length_eq; have h3 := HLn.out; show _ = _; simp at h2 ⊢; omega
                by_cases hB2 : md < en ∧ en < b
                · obtain ⟨hb1, hb2⟩ := hB2
                  have hb1' : (md : Int) < (en : Int) := by omega
                  have hb2' : (en : Int) < (b : Int) := by omega
                  go_wp2_with fail
                  all_goals
                   refine (ih (X ++ M1) L2 R2 Y md en b _ (by have h3 := HLn.out; have h4 := HN0.out; have h5 := HM.out; have h6 := HB.out; omega) (by have h3 := HLn.out; omega) (by have h3 := HLn.out; omega) HX2.out (by have h3 := HLn.out; omega) (by have h3 := HLn.out; omega) (by have h1 := HT.out; have h2 := HM1.out.1.length_eq; simp at h1 h2 ⊢; omega) hbig (by simpa [List.append_assoc] using hw2) (HK1.out.sub fun z hz => by simpa [HM1.out.1.mem_iff, or_assoc, or_comm, or_left_comm] using hz) hsL2 hsR2 hx2).mono ?_
                   rintro e w3 ⟨rfl, M2, hM2, hw3⟩
                   go_wp2
                   go_end0
                   refine ⟨rfl, M1 ++ M2, ?_, by simpa [List.append_assoc] using hw3⟩
                   rw [HJ.out.1, HJ.out.2]
                   exact merged_of HM1.out hM2 HC.out
                · have hB3 : L2 = [] ∨ R2 = [] := by
                    have h3 := HLn.out
                    by_cases hq : L2 = []
                    · exact Or.inl hq
                    · have : 0 < L2.length := List.length_pos_iff.2 hq
                      exact Or.inr (List.eq_nil_of_length_eq_zero (by omega))
                  have HM2 : Hid (Merged key pos L2 R2 (L2 ++ R2)) := by
                    show Merged _ _ _ _ _
                    rcases hB3 with h0 | h0
                    · rw [h0]; exact merged_nil_left hsR2
                    · rw [h0, List.append_nil]; exact merged_nil_right hsL2
                  clear hB3
                  by_cases hb1 : md < en
                  · have hb1' : (md : Int) < (en : Int) := by omega
                    have hb2' : ¬ (en : Int) < (b : Int) := by omega
                    go_wp2
                    all_goals
                      go_end0
                      refine ⟨rfl, M1 ++ (L2 ++ R2), ?_, by simpa [List.append_assoc] using hw2⟩
                      rw [HJ.out.1, HJ.out.2]
                      exact merged_of HM1.out HM2.out HC.out
                  · have hb1' : ¬ (md : Int) < (en : Int) := by omega
                    go_wp2
                    all_goals
                      go_end0
                      refine ⟨rfl, M1 ++ (L2 ++ R2), ?_, by simpa [List.append_assoc] using hw2⟩
                      rw [HJ.out.1, HJ.out.2]
                      exact merged_of HM1.out HM2.out HC.out
          · have hr1' : ¬ (s : Int) < (m : Int) := by omega
            by_cases hB : a < s ∧ s < md
            · obtain ⟨ha1, ha2⟩ := hB
              have ha1' : (a : Int) < (s : Int) := by omega
              have ha2' : (s : Int) < (md : Int) := by omega
              go_wp2_with fail
              refine (ih X L1 R1 (L2 ++ R2 ++ Y) a s md _ (by have h3 := HLn.out; have h4 := HN0.out; have h5 := HM.out; have h6 := HB.out; omega) (by have h3 := HLn.out; omega) (by have h3 := HLn.out; omega) HX.out (by have h3 := HLn.out; omega) (by have h3 := HLn.out; omega) HT.out hbig hw1 HK1.out hsL1 hsR1 hx1).mono ?_
              rintro e w2 ⟨rfl, M1, hM1, hw2⟩
              have HM1 : Hid (Merged key pos L1 R1 M1) := hM1
              clear hM1
              have HX2 : Hid ((X ++ M1).length = md) := by have h1 := HX.out; have h2 := HM1.out.1.length_eq; have h3 := HLn.out; show _ = _; simp at h2 ⊢; omega
              by_cases hB2 : md < en ∧ en < b
              · obtain ⟨hb1, hb2⟩ := hB2
                have hb1' : (md : Int) < (en : Int) := by omega
                have hb2' : (en : Int) < (b : Int) := by omega
                go_wp2_with fail
                all_goals
                 refine (ih (X ++ M1) L2 R2 Y md en b _ (by have h3 := HLn.out; have h4 := HN0.out; have h5 := HM.out; have h6 := HB.out; omega) (by have h3 := HLn.out; omega) (by have h3 := HLn.out; omega) HX2.out (by have h3 := HLn.out; omega) (by have h3 := HLn.out; omega) (by have h1 := HT.out; have h2 := HM1.out.1.length_eq; simp at h1 h2 ⊢; omega) hbig (by simpa [List.append_assoc] using hw2) (HK1.out.sub fun z hz => by simpa [HM1.out.1.mem_iff, or_assoc, or_comm, or_left_comm] using hz) hsL2 hsR2 hx2).mono ?_
                 rintro e w3 ⟨rfl, M2, hM2, hw3⟩
                 go_wp2
                 go_end0
                 refine ⟨rfl, M1 ++ M2, ?_, by simpa [List.append_assoc] using hw3⟩
                 rw [HJ.out.1, HJ.out.2]
                 exact merged_of HM1.out hM2 HC.out
              · have hB3 : L2 = [] ∨ R2 = [] := by
                  have h3 := HLn.out
                  by_cases hq : L2 = []
                  · exact Or.inl hq
                  · have : 0 < L2.length := List.length_pos_iff.2 hq
                    exact Or.inr (List.eq_nil_of_length_eq_zero (by omega))
                have HM2 : Hid (Merged key pos L2 R2 (L2 ++ R2)) := by
                  show Merged _ _ _ _ _
                  rcases hB3 with h0 | h0
                  · rw [h0]; exact merged_nil_left hsR2
                  · rw [h0, List.append_nil]; exact merged_nil_right hsL2
                clear hB3
                by_cases hb1 : md < en
                · have hb1' : (md : Int) < (en : Int) := by omega
                  have hb2' : ¬ (en : Int) < (b : Int) := by omega
                  go_wp2
                  all_goals
                    go_end0
                    refine ⟨rfl, M1 ++ (L2 ++ R2), ?_, by simpa [List.append_assoc] using hw2⟩
                    rw [HJ.out.1, HJ.out.2]
                    exact merged_of HM1.out HM2.out HC.out
                · have hb1' : ¬ (md : Int) < (en : Int) := by omega
                  go_wp2
                  all_goals
                    go_end0
                    refine ⟨rfl, M1 ++ (L2 ++ R2), ?_, by simpa [List.append_assoc] using hw2⟩
                    rw [HJ.out.1, HJ.out.2]
                    exact merged_of HM1.out HM2.out HC.out
            · have hB0 : L1 = [] ∨ R1 = [] := by
                have h3 := HLn.out
                by_cases hq : L1 = []
                · exact Or.inl hq
                · have : 0 < L1.length := List.length_pos_iff.2 hq
                  exact Or.inr (List.eq_nil_of_length_eq_zero (by omega))
              obtain ⟨M1, hM1e⟩ : ∃ M1, L1 ++ R1 = M1 := ⟨_, rfl⟩
              have HM1 : Hid (Merged key pos L1 R1 M1) := by
                show Merged _ _ _ _ _
                rw [← hM1e]
                rcases hB0 with h0 | h0
                · rw [h0]; exact merged_nil_left hsR1
                · rw [h0, List.append_nil]; exact merged_nil_right hsL1
              have hw2 := hw1
              rw [List.append_assoc X, hM1e] at hw2
              clear hB0 hM1e
              by_cases ha1 : a < s
              · have ha1' : (a : Int) < (s : Int) := by omega
                have ha2' : ¬ (s : Int) < (md : Int) := by omega
                have HX2 : Hid ((X ++ M1).length = md) := by have h1 := HX.out; have h2 := HM1.out.1.length_eq; have h3 := HLn.out; show _ = _; simp at h2 ⊢; omega
                by_cases hB2 : md < en ∧ en < b
                · obtain ⟨hb1, hb2⟩ := hB2
                  have hb1' : (md : Int) < (en : Int) := by omega
                  have hb2' : (en : Int) < (b : Int) := by omega
                  go_wp2_with fail
                  all_goals
                   refine (ih (X ++ M1) L2 R2 Y md en b _ (by have h3 := HLn.out; have h4 := HN0.out; have h5 := HM.out; have h6 := HB.out; omega) (by have h3 := HLn.out; omega) (by have h3 := HLn.out; omega) HX2.out (by have h3 := HLn.out; omega) (by have h3 := HLn.out; omega) (by have h1 := HT.out; have h2 := HM1.out.1.length_eq; simp at h1 h2 ⊢; omega) hbig (by simpa [List.append_assoc] using hw2) (HK1.out.sub fun z hz => by simpa [HM1.out.1.mem_iff, or_assoc, or_comm, or_left_comm] using hz) hsL2 hsR2 hx2).mono ?_
                   rintro e w3 ⟨rfl, M2, hM2, hw3⟩
                   go_wp2
                   go_end0
                   refine ⟨rfl, M1 ++ M2, ?_, by simpa [List.append_assoc] using hw3⟩
                   rw [HJ.out.1, HJ.out.2]
                   exact merged_of HM1.out hM2 HC.out
                · have hB3 : L2 = [] ∨ R2 = [] := by
                    have h3 := HLn.out
                    by_cases hq : L2 = []
                    · exact Or.inl hq
                    · have : 0 < L2.length := List.length_pos_iff.2 hq
                      exact Or.inr (List.eq_nil_of_length_eq_zero (by omega))
                  have HM2 : Hid (Merged key pos L2 R2 (L2 ++ R2)) := by
                    show Merged _ _ _ _ _
                    rcases hB3 with h0 | h0
                    · rw [h0]; exact merged_nil_left hsR2
                    · rw [h0, List.append_nil]; exact merged_nil_right hsL2
                  clear hB3
                  by_cases hb1 : md < en
                  · have hb1' : (md : Int) < (en : Int) := by omega
                    have hb2' : ¬ (en : Int) < (b : Int) := by omega
                    go_wp2
                    all_goals
                      go_end0
                      refine ⟨rfl, M1 ++ (L2 ++ R2), ?_, by simpa [List.append_assoc] using hw2⟩
                      rw [HJ.out.1, HJ.out.2]
                      exact merged_of HM1.out HM2.out HC.out
                  · have hb1' : ¬ (md : Int) < (en : Int) := by omega
                    go_wp2
                    all_goals
                      go_end0
                      refine ⟨rfl, M1 ++ (L2 ++ R2), ?_, by simpa [List.append_assoc] using hw2⟩
                      rw [HJ.out.1, HJ.out.2]
                      exact merged_of HM1.out HM2.out HC.out
              · have ha1' : ¬ (a : Int) < (s : Int) := by omega
                have HX2 : Hid ((X ++ M1).length = md) := by have h1 := HX.out; have h2 := HM1.out.1.length_eq; have h3 := HLn.out; show _ = _; simp at h2 ⊢; omega
                by_cases hB2 : md < en ∧ en < b
                · obtain ⟨hb1, hb2⟩ := hB2
                  have hb1' : (md : Int) < (en : Int) := by omega
                  have hb2' : (en : Int) < (b : Int) := by omega
                  go_wp2_with fail
                  all_goals
                   refine (ih (X ++ M1) L2 R2 Y md en b _ (by have h3 := HLn.out; have h4 := HN0.out; have h5 := HM.out; have h6 := HB.out; omega) (by have h3 := HLn.out; omega) (by have h3 := HLn.out; omega) HX2.out (by have h3 := HLn.out; omega) (by have h3 := HLn.out; omega) (by have h1 := HT.out; have h2 := HM1.out.1.length_eq; simp at h1 h2 ⊢; omega) hbig (by simpa [List.append_assoc] using hw2) (HK1.out.sub fun z hz => by simpa [HM1.out.1.mem_iff, or_assoc, or_comm, or_left_comm] using hz) hsL2 hsR2 hx2).mono ?_
                   rintro e w3 ⟨rfl, M2, hM2, hw3⟩
                   go_wp2
                   go_end0
                   refine ⟨rfl, M1 ++ M2, ?_, by simpa [List.append_assoc] using hw3⟩
                   rw [HJ.out.1, HJ.out.2]
                   exact merged_of HM1.out hM2 HC.out
                · have hB3 : L2 = [] ∨ R2 = [] := by
                    have h3 := HLn.out
                    by_cases hq : L2 = []
                    · exact Or.inl hq
                    · have : 0 < L2.length := List.length_pos_iff.2 hq
                      exact Or.inr (List.eq_nil_of_length_eq_zero (by omega))
                  have HM2 : Hid (Merged key pos L2 R2 (L2 ++ R2)) := by
                    show Merged _ _ _ _ _
                    rcases hB3 with h0 | h0
                    · rw [h0]; exact merged_nil_left hsR2
                    · rw [h0, List.append_nil]; exact merged_nil_right hsL2
                  clear hB3
                  by_cases hb1 : md < en
                  · have hb1' : (md : Int) < (en : Int) := by omega
                    have hb2' : ¬ (en : Int) < (b : Int) := by omega
                    go_wp2
                    all_goals
                      go_end0
                      refine ⟨rfl, M1 ++ (L2 ++ R2), ?_, by simpa [List.append_assoc] using hw2⟩
                      rw [HJ.out.1, HJ.out.2]
                      exact merged_of HM1.out HM2.out HC.out
                  · have hb1' : ¬ (md : Int) < (en : Int) := by omega
                    go_wp2
                    all_goals
                      go_end0
                      refine ⟨rfl, M1 ++ (L2 ++ R2), ?_, by simpa [List.append_assoc] using hw2⟩
                      rw [HJ.out.1, HJ.out.2]
                      exact merged_of HM1.out HM2.out HC.out
end Go.Proofs.Ybulkejoc
