/- The law's own model on plain values, and that it goes as Leave's blocks do. No Go in sight. -/
import Derived.Test.YbulkejocPlain
namespace Go.Proofs.Ybulkejoc
open Go

def insV (x : Mb × Int) : List (Mb × Int) → List (Mb × Int)
  | [] => [x]
  | y :: l => if x.2 < y.2 then x :: y :: l else y :: insV x l
def isortV (M : List (Mb × Int)) : List (Mb × Int) := M.foldl (fun acc x => insV x acc) []

theorem insV_map (mem : Nat → Mb) (key : Nat → Int) (x : Nat) : ∀ l : List Nat, insV (mem x, key x) (l.map fun k => (mem k, key k)) = (insK key x l).map fun k => (mem k, key k)
  | [] => rfl
  | y :: l => by
    simp only [List.map_cons, insV, insK]
    split
    · simp
    · simp [insV_map mem key x l]
theorem isortV_aux (mem : Nat → Mb) (key : Nat → Int) : ∀ (d acc : List Nat), (d.map fun k => (mem k, key k)).foldl (fun acc x => insV x acc) (acc.map fun k => (mem k, key k)) = (d.foldl (fun acc x => insK key x acc) acc).map fun k => (mem k, key k)
  | [], acc => rfl
  | x :: d, acc => by
    simp only [List.map_cons, List.foldl_cons]
    rw [insV_map, isortV_aux mem key d]
theorem isortV_map (mem : Nat → Mb) (key : Nat → Int) (d : List Nat) : isortV (d.map fun k => (mem k, key k)) = (isort key d).map fun k => (mem k, key k) := isortV_aux mem key d []

/-- Weakly rising. -/
def Up (l : List (Mb × Int)) : Prop := l.Pairwise fun a b => a.2 ≤ b.2
theorem insV_mem (x : Mb × Int) : ∀ (l : List (Mb × Int)) (z : Mb × Int), z ∈ insV x l → z = x ∨ z ∈ l
  | [], z, h => by simpa [insV] using h
  | y :: l, z, h => by
    unfold insV at h
    split at h
    · simpa using h
    · rcases List.mem_cons.1 h with rfl | h
      · exact Or.inr (by simp)
      · rcases insV_mem x l z h with h | h
        · exact Or.inl h
        · exact Or.inr (by simp [h])
theorem insV_up (x : Mb × Int) : ∀ l : List (Mb × Int), Up l → Up (insV x l)
  | [], _ => by simp [insV, Up]
  | y :: l, h => by
    have h1 := List.pairwise_cons.1 h
    unfold insV
    split
    · next hlt =>
      refine List.pairwise_cons.2 ⟨fun z hz => ?_, h⟩
      rcases List.mem_cons.1 hz with rfl | hz
      · omega
      · have := h1.1 z hz; omega
    · next hlt =>
      refine List.pairwise_cons.2 ⟨fun z hz => ?_, insV_up x l h1.2⟩
      rcases insV_mem x l z hz with rfl | hz
      · omega
      · exact h1.1 z hz
theorem insV_len (x : Mb × Int) : ∀ l : List (Mb × Int), (insV x l).length = l.length + 1
  | [] => rfl
  | y :: l => by
    unfold insV
    split
    · simp
    · simp [insV_len x l]
theorem isortV_snoc (M : List (Mb × Int)) (x : Mb × Int) : isortV (M ++ [x]) = insV x (isortV M) := by simp [isortV]
theorem foldV_up : ∀ (M acc : List (Mb × Int)), Up acc → Up (M.foldl (fun acc x => insV x acc) acc)
  | [], _, h => h
  | x :: M, acc, h => foldV_up M (insV x acc) (insV_up x acc h)
theorem isortV_up (M : List (Mb × Int)) : Up (isortV M) := foldV_up M [] List.Pairwise.nil
theorem foldV_len : ∀ (M acc : List (Mb × Int)), (M.foldl (fun acc x => insV x acc) acc).length = acc.length + M.length
  | [], acc => rfl
  | x :: M, acc => by
    simp only [List.foldl_cons, List.length_cons]
    rw [foldV_len M (insV x acc), insV_len]
    omega
theorem isortV_len (M : List (Mb × Int)) : (isortV M).length = M.length := by simpa [isortV] using foldV_len M []

/-- Where the law's inner loop stops, the element lies where it belongs. -/
theorem insV_at (x : Mb × Int) : ∀ (P : List (Mb × Int)) (k : Nat), Up P → k ≤ P.length → (∀ y ∈ P.drop k, x.2 < y.2) → (0 < k → ∀ hk : k - 1 < P.length, P[k - 1].2 ≤ x.2) → insV x P = P.take k ++ [x] ++ P.drop k
  | [], k, _, hk, _, _ => by
    have : k = 0 := by simpa using hk
    subst this
    rfl
  | y :: l, 0, _, _, h1, _ => by
    have := h1 y (by simp)
    simp [insV, this]
  | y :: l, k + 1, hu, hk, h1, h2 => by
    have hp := List.pairwise_cons.1 hu
    have h3 := h2 (by omega) (by simp only [List.length_cons] at hk ⊢; omega)
    have hy : ¬ x.2 < y.2 := by
      simp only [Nat.add_sub_cancel] at h3
      by_cases e : k = 0
      · subst e
        simp only [List.getElem_cons_zero] at h3
        omega
      · obtain ⟨m, rfl⟩ : ∃ m, k = m + 1 := ⟨k - 1, by omega⟩
        simp only [List.getElem_cons_succ] at h3
        have := hp.1 _ (List.getElem_mem (l := l) (n := m) (by simp only [List.length_cons] at hk; omega))
        omega
    simp only [insV, if_neg hy, List.take_succ_cons, List.drop_succ_cons, List.cons_append]
    rw [insV_at x l k hp.2 (by simpa using hk) (by simpa using h1) ?_]
    intro hk0 hkl
    obtain ⟨m, rfl⟩ : ∃ m, k = m + 1 := ⟨k - 1, by omega⟩
    simpa using h3

/-- The law's packing. -/
structure Pv where
  room : Int
  news : List Mb
  kept : List (Mb × Int)
def Pv.fits (p : Pv) (r : Mb × Int) : Bool := decide (recF r.1 ≤ p.room) && !hasF p.news r.1.addr
def Pv.step (lim : Int) (p : Pv) (r : Mb × Int) : Pv :=
  if p.fits r then ⟨p.room - recF r.1, p.news ++ [r.1], if r.2 + 1 < lim then p.kept ++ [(r.1, r.2 + 1)] else p.kept⟩
  else ⟨p.room, p.news, if r.2 < lim then p.kept ++ [r] else p.kept⟩
def Pv.run (lim room : Int) (M : List (Mb × Int)) : Pv := M.foldl (Pv.step lim) ⟨room, [], []⟩
theorem Pv.run_snoc (lim room : Int) (M : List (Mb × Int)) (r : Mb × Int) : Pv.run lim room (M ++ [r]) = Pv.step lim (Pv.run lim room M) r := by simp [Pv.run]

/-- Both packings go alike. -/
theorem Pv.run_map (mem : Nat → Mb) (key : Nat → Int) (lim room : Int) (d : List Nat) (hd : d.Nodup) :
    Pv.run lim room (d.map fun k => (mem k, key k)) = ⟨(Pk.run mem key lim room d).room, (Pk.run mem key lim room d).ns.map mem, (Pk.run mem key lim room d).kept.map fun k => (mem k, bump key (Pk.run mem key lim room d).ns k)⟩ := by
  have aux : ∀ (n : Nat) (d : List Nat), d.length = n → d.Nodup → Pv.run lim room (d.map fun k => (mem k, key k)) = ⟨(Pk.run mem key lim room d).room, (Pk.run mem key lim room d).ns.map mem, (Pk.run mem key lim room d).kept.map fun k => (mem k, bump key (Pk.run mem key lim room d).ns k)⟩ := by
    intro n
    induction n with
    | zero =>
      intro d h0 _
      rw [List.eq_nil_of_length_eq_zero h0]
      rfl
    | succ n ih =>
      intro d h0 hd
      have hne : d ≠ [] := by intro e; rw [e] at h0; simp at h0
      obtain ⟨d', k, rfl⟩ : ∃ d' k, d = d' ++ [k] := ⟨d.dropLast, d.getLast hne, (List.dropLast_concat_getLast hne).symm⟩
      have hd' := (List.nodup_append.1 hd)
      have hk : k ∉ d' := fun h => hd'.2.2 k h k (by simp) rfl
      have ih' := ih d' (by simpa using h0) hd'.1
      rw [List.map_append, List.map_cons, List.map_nil, Pv.run_snoc, ih', Pk.run_snoc]
      obtain ⟨p, hp⟩ : ∃ p, Pk.run mem key lim room d' = p := ⟨_, rfl⟩
      have hns : k ∉ p.ns := fun h => hk ((Pk.run_ns mem key lim room d').subset (by rw [hp]; exact h))
      have hkp : k ∉ p.kept := fun h => hk ((Pk.run_kept mem key lim room d').subset (by rw [hp]; exact h))
      rw [hp]
      have hbk : ∀ j ∈ p.kept, bump key (p.ns ++ [k]) j = bump key p.ns j := by
        intro j hj
        have : j ≠ k := fun e => hkp (e ▸ hj)
        unfold bump
        simp [this]
      have hmap : (p.kept.map fun j => (mem j, bump key (p.ns ++ [k]) j)) = p.kept.map fun j => (mem j, bump key p.ns j) := List.map_congr_left fun j hj => by rw [hbk j hj]
      have hkk : bump key (p.ns ++ [k]) k = key k + 1 := by simp [bump]
      have hkk' : bump key p.ns k = key k := by simp [bump, hns]
      have hfit : Pv.fits ⟨p.room, p.ns.map mem, p.kept.map fun j => (mem j, bump key p.ns j)⟩ (mem k, key k) = p.fits mem k := rfl
      unfold Pv.step Pk.step
      rw [hfit]
      split
      · dsimp only
        split <;> simp [hmap, hkk]
      · dsimp only
        split <;> simp [hkk']
  exact aux _ d rfl hd
end Go.Proofs.Ybulkejoc
