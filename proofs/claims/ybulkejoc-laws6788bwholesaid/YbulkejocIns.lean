/- slices.insertionSortCmpFunc at the row of rumours (34). -/
import Derived.Test.YbulkejocCmp
import Derived.BigRegion
namespace Go.Proofs.Ybulkejoc
open Go.ChangeShapes Go.WideShapes Go.ChangeAt Go.RowKit Go.Proofs.Ybulkejoc.Stab

/-- What the sort knows of the rumours: their blocks are not the row's, and 'sent' is 'key'. -/
def Keys (w0 : World) (g : Nat) (key : Nat → Int) (d : List Nat) : Prop := ∀ k ∈ d, k ≠ g ∧ w0.cell? ⟨k, 4, none⟩ = some (.int .i64 (key k))

theorem SW.key {w0 wr : World} {g : Nat} {rest : List Value} {d : List Nat} {key : Nat → Int} (h : SW w0 g rest d wr) (hk : Keys w0 g key d) {k : Nat} (hm : k ∈ d) : wr.cell? ⟨k, 4, none⟩ = some (.int .i64 (key k)) :=
  (h.cell_other (hk k hm).1 4).trans (hk k hm).2

theorem Keys.sub {w0 : World} {g : Nat} {key : Nat → Int} {d d' : List Nat} (h : Keys w0 g key d) (hs : ∀ z ∈ d', z ∈ d) : Keys w0 g key d' := fun z hz => h z (hs z hz)
theorem Keys.perm {w0 : World} {g : Nat} {key : Nat → Int} {d d' : List Nat} (h : Keys w0 g key d) (hp : d'.Perm d) : Keys w0 g key d' := h.sub fun _ hz => hp.mem_iff.1 hz

theorem SW.at0 {w0 wr : World} {g : Nat} {rest : List Value} {A B : List Nat} {x : Nat} (h : SW w0 g rest (A ++ x :: B) wr) : wr.cell? ⟨g, A.length, none⟩ = some (.pointer (some ⟨x, 0, none⟩)) := by
  have := h.cell (i := A.length) (by simp)
  simpa using this
theorem SW.at1 {w0 wr : World} {g : Nat} {rest : List Value} {A B : List Nat} {x y : Nat} (h : SW w0 g rest (A ++ y :: x :: B) wr) : wr.cell? ⟨g, A.length + 1, none⟩ = some (.pointer (some ⟨x, 0, none⟩)) := by
  have := h.cell (i := A.length + 1) (by simp)
  simpa using this

theorem swap_mid (A B : List Nat) (x y : Nat) : ((A ++ y :: x :: B).set (A.length + 1) y).set A.length x = A ++ x :: y :: B := by
  simp

theorem SW.swap {w0 wr : World} {g : Nat} {rest : List Value} {A B : List Nat} {x y : Nat} (h : SW w0 g rest (A ++ y :: x :: B) wr) :
    SW w0 g rest (A ++ x :: y :: B) ((wr.setCell ⟨g, A.length + 1, none⟩ (.pointer (some ⟨y, 0, none⟩))).setCell ⟨g, A.length, none⟩ (.pointer (some ⟨x, 0, none⟩))) := by
  have := (h.set (i := A.length + 1) (by simp) y).set (i := A.length) (by simp) x
  rwa [swap_mid] at this

/-- Where x has come to rest. -/
theorem rest_sorted {key : Nat → Int} {pos : Nat → Nat} {P1 P2 : List Nat} {x : Nat} (hs : (P1 ++ P2).Pairwise (lt key pos)) (hup : ∀ y ∈ P2, lt key pos x y) (hlow : ∀ y ∈ P1, lt key pos y x) : (P1 ++ x :: P2).Pairwise (lt key pos) := by
  rw [List.pairwise_append] at hs ⊢
  refine ⟨hs.1, List.pairwise_cons.2 ⟨hup, hs.2.1⟩, fun u hu v hv => ?_⟩
  rcases List.mem_cons.1 hv with rfl | hv
  · exact hlow u hu
  · exact hs.2.2 u hu v hv
theorem below_last {key : Nat → Int} {pos : Nat → Nat} {Q R : List Nat} {x y : Nat} (hs : (Q ++ [y] ++ R).Pairwise (lt key pos)) (h : lt key pos y x) : ∀ z ∈ Q ++ [y], lt key pos z x := fun z hz => by
  rcases List.mem_append.1 hz with hz | hz
  · have h1 := (List.pairwise_append.1 (List.pairwise_append.1 hs).1).2.2 z hz y (by simp)
    exact lt_trans h1 h
  · rw [List.mem_singleton.1 hz]; exact h
theorem rest_perm {S P P1 P2 D : List Nat} {x k : Nat} (hP : P.Perm (S.take k)) (hj : P = P1 ++ P2) (hd : S.drop k = x :: D) : (P1 ++ x :: P2).Perm (S.take (k + 1)) ∧ S.drop (k + 1) = D := by
  have hk : k < S.length := by
    by_cases h : k < S.length
    · exact h
    · rw [List.drop_eq_nil_of_le (by omega)] at hd; cases hd
  have h2 := List.drop_eq_getElem_cons hk
  rw [h2] at hd
  injection hd with e1 e2
  refine ⟨?_, e2⟩
  rw [List.take_succ_eq_append_getElem hk, e1]
  refine List.perm_middle.trans ?_
  rw [← hj]
  exact (List.Perm.cons x hP).trans (List.perm_append_comm (l₁ := [x]) (l₂ := S.take k))

set_option maxHeartbeats 1000000 in
theorem isort_any (w0 : World) (g : Nat) (rest : List Value) (key : Nat → Int) (pos : Nat → Nat) (X S Y : List Nat) (a b : Nat) (HA : Hid (X.length = a)) (HB : Hid (X.length + S.length = b)) (w : World) (n cap : Nat) (hn : (X ++ S ++ Y).length ≤ n) (hbig : n ≤ 1000000)
    (h : SW w0 g rest (X ++ S ++ Y) w) (hk : Keys w0 g key (X ++ S ++ Y)) (hp : S.Pairwise (fun x y => pos x < pos y)) :
    Calls Yba.prog 34 #[.slice (some ⟨g, 0, none⟩) n cap, .int .i64 (a : Int), .int .i64 (b : Int), .func (.func 26) #[] #[]] w fun e w' =>
      e = .returned (.tuple #[]) ∧ ∃ S', S'.Perm S ∧ S'.Pairwise (lt key pos) ∧ SW w0 g rest (X ++ S' ++ Y) w' := by
  have hlen : X.length + S.length + Y.length ≤ n := by simpa [Nat.add_assoc] using hn
  have hab : a ≤ b := by have := HA.out; have := HB.out; omega
  have hbn : b ≤ n := by have := HB.out; omega
  clear hn hlen
  go_enter Yba.func34, Yba.ntmps34
  go_wp2
  go_loopw [8] (fun i wr => ∃ (k : Nat) (P : List Nat), 1 ≤ k ∧ (k ≤ S.length ∨ k = 1) ∧ i = .int .i64 ((a + k : Nat) : Int) ∧ P.Perm (S.take k) ∧ P.Pairwise (lt key pos) ∧ SW w0 g rest (X ++ P ++ S.drop k ++ Y) wr) (fun i _ => b - (intOf i).toNat)
  case atStart =>
    refine ⟨1, S.take 1, by omega, Or.inr rfl, by go_num, List.Perm.refl _, ?_, ?_⟩
    · cases S <;> simp
    · rw [List.append_assoc X, List.take_append_drop]
      exact h
  case round =>
    obtain ⟨k, P, hk1, hkS, rfl, hP, hs, hw⟩ := hrel
    by_cases hlt : a + k < b
    · have hlt' : (a : Int) + (k : Int) < (b : Int) := by omega
      have hkl : k < S.length := by have := HA.out; have := HB.out; omega
      have hdrop : S.drop k = S[k] :: S.drop (k + 1) := List.drop_eq_getElem_cons hkl
      obtain ⟨x, hx⟩ : ∃ x, S[k] = x := ⟨_, rfl⟩
      obtain ⟨D, hD⟩ : ∃ D, S.drop (k + 1) = D := ⟨_, rfl⟩
      have hlow : ∀ y ∈ P, pos y < pos x := fun y hy => by
        have hy' := hP.mem_iff.1 hy
        obtain ⟨i, hi, rfl⟩ := List.mem_iff_getElem.1 hy'
        simp only [List.length_take] at hi
        rw [List.getElem_take, ← hx]
        exact List.pairwise_iff_getElem.1 hp i k (by omega) hkl (by omega)
      have hw' : SW w0 g rest ((X ++ P) ++ x :: ([] ++ D ++ Y)) wr := by
        rw [hdrop, hx, hD] at hw
        simpa [List.append_assoc] using hw
      have hPl : P.length = k := by rw [hP.length_eq, List.length_take]; omega
      have HJ : Hid (X.length + P.length = a + k) := by have := HA.out; show _ = _; omega
      have HH : Hid (S.drop k = x :: D ∧ P.length = k) := by rw [hdrop, hx, hD]; exact ⟨rfl, hPl⟩
      have hkx : Keys w0 g key (X ++ (P ++ x :: D) ++ Y) := hk.perm (by
        have e : S = S.take k ++ x :: D := by rw [← hx, ← hD, ← hdrop, List.take_append_drop]
        conv => rhs; rw [e]
        exact ((hP.append_right _).append_left _).append_right _)
      clear hw hdrop hx hD hPl
      obtain ⟨wo, rfl⟩ : ∃ wo : World, wo = wr := ⟨_, rfl⟩
      go_wp2
      go_loopw [9] (fun j wr => ∃ (P1 P2 : List Nat) (J : Nat), Hid (X.length + P1.length = J) ∧ j = .int .i64 (J : Int) ∧ Hid (P = P1 ++ P2) ∧ (∀ y ∈ P2, lt key pos x y) ∧ SW w0 g rest ((X ++ P1) ++ x :: (P2 ++ D ++ Y)) wr) (fun j _ => (intOf j).toNat)
      case atStart => exact ⟨P, [], a + k, HJ, by go_num, show _ = _ by simp, by simp, hw'⟩
      case round =>
        obtain ⟨P1, P2, J, HJ1, rfl, HP, hup, hwr⟩ := hrel
        have hJ : a ≤ J := by have := HA.out; have := HJ1.out; omega
        have hJb : J < b := by
          have := HP.out; have := HH.out.2; have := HJ1.out; have := HA.out; have := HB.out
          have : P.length = P1.length + P2.length := by rw [HP.out]; simp
          omega
        by_cases h0 : a < J
        · have hne : P1 ≠ [] := by
            intro e
            have h1 := HJ1.out; have h2 := HA.out
            rw [e] at h1
            simp at h1
            omega
          obtain ⟨Q, y, rfl⟩ : ∃ Q y, P1 = Q ++ [y] := ⟨P1.dropLast, P1.getLast hne, (List.dropLast_concat_getLast hne).symm⟩
          obtain ⟨K, rfl⟩ : ∃ K, J = K + 1 := ⟨J - 1, by omega⟩
          have HK : Hid ((X ++ Q).length = K) := by have := HJ1.out; simp at this; show _ = _; simp; omega
          have hwr2 : SW w0 g rest ((X ++ Q) ++ y :: x :: (P2 ++ D ++ Y)) wr := by simpa [List.append_assoc] using hwr
          have hc1 := hwr2.at1
          have hc2 := hwr2.at0
          rw [HK.out] at hc1 hc2
          have hf1 := hwr2.frozen (K + 1)
          have hf2 := hwr2.frozen K
          have hmem : ∀ z ∈ (X ++ Q) ++ y :: x :: (P2 ++ D ++ Y), z ∈ X ++ (P ++ x :: D) ++ Y := fun z hz => by
            have := HP.out
            subst this
            simp only [List.mem_append, List.mem_cons, List.not_mem_nil, or_false] at hz ⊢
            rcases hz with (h | h) | h | h | (h | h) | h <;> simp [h]
          have hkx1 := hwr2.key (hkx.sub hmem) (k := x) (by simp)
          have hky1 := hwr2.key (hkx.sub hmem) (k := y) (by simp)
          have hyx : pos y < pos x := hlow y (by rw [HP.out]; simp)
          have hlt3 : (K : Int) + 1 < (n : Int) := by omega
          have hg0 : (a : Int) < (K : Int) + 1 := by omega
          clear hwr hmem
          by_cases hc : key x < key y
          · have hd : cmpI (key x) (key y) < 0 := (cmpI_neg _ _).2 hc
            go_wp2
            go_quiet ((go_at_call 26; exact Calls.quiet_of (less_any _ _ _ _ _ (by assumption) (by assumption))))
            go_wp2
            go_region
            go_wp2
            go_roundw
            case rel =>
              refine ⟨Q, y :: P2, K, by have := HK.out; simp at this; exact this, by go_num, by have := HP.out; show _ = _; rw [this]; simp, ?_, ?_⟩
              · intro z hz
                rcases List.mem_cons.1 hz with rfl | hz
                · exact Or.inl hc
                · exact hup z hz
              · have h3 := (hwr2.drewN (nq + 1)).swap
                rw [HK.out] at h3
                simpa [List.append_assoc] using h3
            case measure => simp [intOf]
          · have hd : ¬ cmpI (key x) (key y) < 0 := fun h => hc ((cmpI_neg _ _).1 h)
            go_wp2
            go_quiet ((go_at_call 26; exact Calls.quiet_of (less_any _ _ _ _ _ (by assumption) (by assumption))))
            go_wp2
            go_roundw
            case rel =>
              obtain ⟨q1, q2⟩ := rest_perm hP HP.out HH.out.1
              have hs2 : (Q ++ [y] ++ P2).Pairwise (lt key pos) := by rw [← HP.out]; exact hs
              refine ⟨k + 1, Q ++ [y] ++ x :: P2, by omega, Or.inl (by omega), by go_num, q1, rest_sorted hs2 hup (below_last hs2 ?_), ?_⟩
              · unfold lt
                omega
              · rw [q2]
                have := hwr2.drewN nq
                simpa [List.append_assoc] using this
            case measure => simp [intOf]; omega
        · have hg0 : decide ((a : Int) < (J : Int)) = false := by simp; omega
          go_wp2
          have hP1 : P1 = [] := by
            have h1 := HJ1.out; have h2 := HA.out
            exact List.eq_nil_of_length_eq_zero (by omega)
          go_quiet (fail)
          go_wp2
          go_roundw
          case rel =>
            obtain ⟨q1, q2⟩ := rest_perm hP HP.out HH.out.1
            have hs2 : (P1 ++ P2).Pairwise (lt key pos) := by rw [← HP.out]; exact hs
            refine ⟨k + 1, P1 ++ x :: P2, by omega, Or.inl (by omega), by go_num, q1, rest_sorted hs2 hup (by rw [hP1]; simp), ?_⟩
            rw [q2]
            have := hwr.drewN nq
            simpa [List.append_assoc] using this
          case measure => simp [intOf]; omega
    · go_wp2
      go_end0
      have hk2 : S.length ≤ k := by have := HA.out; have := HB.out; omega
      rw [List.take_of_length_le hk2] at hP
      rw [List.drop_eq_nil_of_le hk2, List.append_nil] at hw
      exact ⟨rfl, P, hP, hs, hw⟩
end Go.Proofs.Ybulkejoc
