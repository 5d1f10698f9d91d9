/- Plain mathematics: a stable sort by a key. No Go in sight. -/
namespace Go.Proofs.Ybulkejoc.Stab

/-- By the key; among equal keys by the place. -/
def lt (key : Nat → Int) (pos : Nat → Nat) (x y : Nat) : Prop := key x < key y ∨ (key x = key y ∧ pos x < pos y)

variable {key : Nat → Int} {pos : Nat → Nat}

theorem lt_irrefl (x : Nat) : ¬ lt key pos x x := by unfold lt; omega
theorem lt_trans {x y z : Nat} (h : lt key pos x y) (k : lt key pos y z) : lt key pos x z := by unfold lt at *; omega
theorem lt_asymm {x y : Nat} (h : lt key pos x y) : ¬ lt key pos y x := by unfold lt at *; omega

/-- Two rearrangements of one another that both rise are one. -/
theorem uniq : ∀ {l1 l2 : List Nat}, l1.Perm l2 → l1.Pairwise (lt key pos) → l2.Pairwise (lt key pos) → l1 = l2
  | [], l2, hp, _, _ => by simpa using hp.symm.eq_nil.symm
  | a :: t1, [], hp, _, _ => by have := hp.length_eq; simp at this
  | a :: t1, b :: t2, hp, h1, h2 => by
    have hab : a = b := by
      by_cases e : a = b
      · exact e
      have ha : a ∈ t2 := by
        have : a ∈ b :: t2 := hp.mem_iff.1 (by simp)
        rcases List.mem_cons.1 this with h | h
        · exact absurd h e
        · exact h
      have hb : b ∈ t1 := by
        have : b ∈ a :: t1 := hp.mem_iff.2 (by simp)
        rcases List.mem_cons.1 this with h | h
        · exact absurd h.symm e
        · exact h
      exact absurd ((List.pairwise_cons.1 h2).1 a ha) (lt_asymm ((List.pairwise_cons.1 h1).1 b hb))
    subst hab
    rw [uniq ((List.perm_cons a).1 hp) (List.pairwise_cons.1 h1).2 (List.pairwise_cons.1 h2).2]

/-- The cut that symMerge finds parts the smaller ones from the greater ones. -/
theorem cut {L R : List Nat} (hL : L.Pairwise (lt key pos)) (hR : R.Pairwise (lt key pos)) (hx : ∀ x ∈ L, ∀ y ∈ R, pos x < pos y) {s t : Nat} (hs : s ≤ L.length) (ht : t ≤ R.length)
    (c1 : ∀ (h : 0 < s) (k : t < R.length), ¬ key R[t] < key (L[s - 1]'(by omega))) (c2 : ∀ (h : s < L.length) (k : 0 < t), key (R[t - 1]'(by omega)) < key L[s]) :
    ∀ x ∈ L.take s ++ R.take t, ∀ y ∈ L.drop s ++ R.drop t, lt key pos x y := by
  have gL : ∀ i j (hi : i < L.length) (hj : j < L.length), i < j → lt key pos L[i] L[j] := fun i j hi hj h => List.pairwise_iff_getElem.1 hL i j hi hj h
  have gR : ∀ i j (hi : i < R.length) (hj : j < R.length), i < j → lt key pos R[i] R[j] := fun i j hi hj h => List.pairwise_iff_getElem.1 hR i j hi hj h
  have kL : ∀ i j (hi : i < L.length) (hj : j < L.length), i ≤ j → key L[i] ≤ key L[j] := fun i j hi hj h => by
    by_cases e : i = j
    · subst e; exact Int.le_refl _
    · have := gL i j hi hj (by omega); unfold lt at this; omega
  have kR : ∀ i j (hi : i < R.length) (hj : j < R.length), i ≤ j → key R[i] ≤ key R[j] := fun i j hi hj h => by
    by_cases e : i = j
    · subst e; exact Int.le_refl _
    · have := gR i j hi hj (by omega); unfold lt at this; omega
  intro x hxm y hym
  rcases List.mem_append.1 hxm with hxm | hxm <;> rcases List.mem_append.1 hym with hym | hym
  · obtain ⟨i, hi, rfl⟩ := List.mem_iff_getElem.1 hxm
    obtain ⟨j, hj, rfl⟩ := List.mem_iff_getElem.1 hym
    simp only [List.length_take, List.length_drop] at hi hj
    simp only [List.getElem_take, List.getElem_drop]
    exact gL _ _ _ _ (by omega)
  · obtain ⟨i, hi, rfl⟩ := List.mem_iff_getElem.1 hxm
    obtain ⟨j, hj, rfl⟩ := List.mem_iff_getElem.1 hym
    simp only [List.length_take, List.length_drop] at hi hj
    simp only [List.getElem_take, List.getElem_drop]
    have h1 := c1 (by omega) (by omega)
    have h2 := kL i (s - 1) (by omega) (by omega) (by omega)
    have h3 := kR t (t + j) (by omega) (by omega) (by omega)
    have h4 := hx L[i] (List.getElem_mem _) (R[t + j]'(by omega)) (List.getElem_mem _)
    unfold lt
    omega
  · obtain ⟨i, hi, rfl⟩ := List.mem_iff_getElem.1 hxm
    obtain ⟨j, hj, rfl⟩ := List.mem_iff_getElem.1 hym
    simp only [List.length_take, List.length_drop] at hi hj
    simp only [List.getElem_take, List.getElem_drop]
    have h1 := c2 (by omega) (by omega)
    have h2 := kR i (t - 1) (by omega) (by omega) (by omega)
    have h3 := kL s (s + j) (by omega) (by omega) (by omega)
    left
    omega
  · obtain ⟨i, hi, rfl⟩ := List.mem_iff_getElem.1 hxm
    obtain ⟨j, hj, rfl⟩ := List.mem_iff_getElem.1 hym
    simp only [List.length_take, List.length_drop] at hi hj
    simp only [List.getElem_take, List.getElem_drop]
    exact gR _ _ _ _ (by omega)

/-- Ways in which two rows merge: 'M' is L and R rearranged, rising. -/
def Merged (key : Nat → Int) (pos : Nat → Nat) (L R M : List Nat) : Prop := M.Perm (L ++ R) ∧ M.Pairwise (lt key pos)

theorem merged_of {L1 R1 L2 R2 M1 M2 : List Nat} (h1 : Merged key pos L1 R1 M1) (h2 : Merged key pos L2 R2 M2) (hc : ∀ x ∈ L1 ++ R1, ∀ y ∈ L2 ++ R2, lt key pos x y) : Merged key pos (L1 ++ L2) (R1 ++ R2) (M1 ++ M2) := by
  refine ⟨?_, List.pairwise_append.2 ⟨h1.2, h2.2, fun x hx y hy => hc x (h1.1.mem_iff.1 hx) y (h2.1.mem_iff.1 hy)⟩⟩
  refine (h1.1.append h2.1).trans ?_
  rw [List.append_assoc, List.append_assoc]
  refine List.Perm.append_left L1 ?_
  rw [← List.append_assoc, ← List.append_assoc]
  exact List.Perm.append_right R2 List.perm_append_comm

theorem merged_nil_left {R : List Nat} (h : R.Pairwise (lt key pos)) : Merged key pos [] R R := ⟨List.Perm.refl _, h⟩
theorem merged_nil_right {L : List Nat} (h : L.Pairwise (lt key pos)) : Merged key pos L [] L := ⟨by simp, h⟩

/-- One element on the left goes behind the first t of R. -/
theorem insert_left {x : Nat} {R : List Nat} (hR : R.Pairwise (lt key pos)) (hx : ∀ y ∈ R, pos x < pos y) {t : Nat} (ht : t ≤ R.length)
    (c1 : ∀ (k : t < R.length), ¬ key R[t] < key x) (c2 : ∀ (k : 0 < t), key (R[t - 1]'(by omega)) < key x) : Merged key pos [x] R (R.take t ++ x :: R.drop t) := by
  have hL : [x].Pairwise (lt key pos) := List.pairwise_singleton _ _
  have hx' : ∀ u ∈ [x], ∀ y ∈ R, pos u < pos y := fun u hu y hy => by
    rw [List.mem_singleton.1 hu]; exact hx y hy
  have a0 := cut (s := 0) (t := t) hL hR hx' (by simp) ht (fun h => absurd h (by omega)) (fun _ k => by simpa using c2 k)
  have a1 := cut (s := 1) (t := t) hL hR hx' (by simp) ht (fun _ k => by simpa using c1 k) (fun h => absurd h (by simp))
  refine ⟨?_, List.pairwise_append.2 ⟨hR.sublist (List.take_sublist _ _), List.pairwise_cons.2 ⟨fun y hy => a1 x (by simp) y (by simpa using hy), ?_⟩, fun u hu y hy => ?_⟩⟩
  · refine List.perm_middle.trans ?_
    rw [List.take_append_drop]
    exact List.Perm.refl _
  · exact hR.sublist (List.drop_sublist _ _)
  · exact a0 u (by simpa using hu) y (by simpa using hy)

/-- One element on the right goes behind the first s of L. -/
theorem insert_right {y : Nat} {L : List Nat} (hL : L.Pairwise (lt key pos)) (hx : ∀ x ∈ L, pos x < pos y) {s : Nat} (hs : s ≤ L.length)
    (c1 : ∀ (h : 0 < s), ¬ key y < key (L[s - 1]'(by omega))) (c2 : ∀ (k : s < L.length), key y < key L[s]) : Merged key pos L [y] (L.take s ++ y :: L.drop s) := by
  have hR : [y].Pairwise (lt key pos) := List.pairwise_singleton _ _
  have hx' : ∀ u ∈ L, ∀ v ∈ [y], pos u < pos v := fun u hu v hv => by
    rw [List.mem_singleton.1 hv]; exact hx u hu
  have a0 := cut (s := s) (t := 0) hL hR hx' hs (by simp) (fun h _ => by simpa using c1 h) (fun _ k => absurd k (by omega))
  have a1 := cut (s := s) (t := 1) hL hR hx' hs (by simp) (fun _ k => absurd k (by simp)) (fun h _ => by simpa using c2 h)
  refine ⟨?_, List.pairwise_append.2 ⟨hL.sublist (List.take_sublist _ _), List.pairwise_cons.2 ⟨fun v hv => a1 y (by simp) v (by simpa using hv), hL.sublist (List.drop_sublist _ _)⟩, fun u hu v hv => ?_⟩⟩
  · refine List.perm_middle.trans ?_
    rw [List.take_append_drop]
    exact (List.perm_append_comm (l₁ := [y]) (l₂ := L))
  · exact a0 u (by simpa using hu) v (by simpa [or_comm] using hv)
end Go.Proofs.Ybulkejoc.Stab
