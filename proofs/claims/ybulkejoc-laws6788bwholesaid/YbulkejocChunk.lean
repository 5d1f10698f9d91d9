/- Plain mathematics: rows cut into chunks, merged two by two. -/
import Derived.Test.YbulkejocStab
namespace Go.Proofs.Ybulkejoc.Stab
variable {key : Nat → Int} {pos : Nat → Nat}

/-- All of C lies ahead of all of D. -/
def Ahead (pos : Nat → Nat) (C D : List Nat) : Prop := ∀ x ∈ C, ∀ y ∈ D, pos x < pos y

theorem ord_merge {A B : List (List Nat)} {C1 C2 M : List Nat} (h : (A ++ C1 :: C2 :: B).Pairwise (Ahead pos)) (hm : ∀ z, z ∈ M ↔ z ∈ C1 ∨ z ∈ C2) : (A ++ M :: B).Pairwise (Ahead pos) := by
  rw [List.pairwise_append, List.pairwise_cons, List.pairwise_cons] at h
  obtain ⟨hA, ⟨h1, h2, hB⟩, hx⟩ := h
  rw [List.pairwise_append, List.pairwise_cons]
  refine ⟨hA, ⟨fun D hD x hxM y hy => ?_, hB⟩, fun C hC D hD => ?_⟩
  · rcases (hm x).1 hxM with k | k
    · exact h1 D (by simp [hD]) x k y hy
    · exact h2 D hD x k y hy
  · rcases List.mem_cons.1 hD with rfl | hD
    · intro x hxC y hy
      rcases (hm y).1 hy with k | k
      · exact hx C hC C1 (by simp) x hxC y k
      · exact hx C hC C2 (by simp) x hxC y k
    · exact hx C hC D (by simp [hD])

theorem ahead_two {A B : List (List Nat)} {C1 C2 : List Nat} (h : (A ++ C1 :: C2 :: B).Pairwise (Ahead pos)) : Ahead pos C1 C2 :=
  (List.pairwise_cons.1 (List.pairwise_append.1 h).2.1).1 C2 (by simp)

theorem flatten_len {bs : Nat} : ∀ {Cs : List (List Nat)}, (∀ C ∈ Cs, C.length = bs) → Cs.flatten.length = Cs.length * bs
  | [], _ => by simp
  | C :: Cs, h => by
    rw [List.flatten_cons, List.length_append, flatten_len (fun D hD => h D (by simp [hD])), h C (by simp), List.length_cons, Nat.add_mul, Nat.one_mul, Nat.add_comm]

/-- The row in chunks: Ds (done, each of 2 * bs), Cs (each of bs), the tail T. -/
structure Ch (key : Nat → Int) (pos : Nat → Nat) (bs : Nat) (Ds Cs : List (List Nat)) (T : List Nat) : Prop where
  dlen : ∀ C ∈ Ds, C.length = 2 * bs
  clen : ∀ C ∈ Cs, C.length = bs
  dsrt : ∀ C ∈ Ds, C.Pairwise (lt key pos)
  csrt : ∀ C ∈ Cs, C.Pairwise (lt key pos)
  tsrt : T.Pairwise (lt key pos)
  ord : (Ds ++ (Cs ++ [T])).Pairwise (Ahead pos)

theorem Ch.merge {bs : Nat} {Ds Cs : List (List Nat)} {T C1 C2 M : List Nat} (h : Ch key pos bs Ds (C1 :: C2 :: Cs) T) (hm : Merged key pos C1 C2 M) : Ch key pos bs (Ds ++ [M]) Cs T := by
  refine ⟨fun C hC => ?_, fun C hC => h.clen C (by simp [hC]), fun C hC => ?_, fun C hC => h.csrt C (by simp [hC]), h.tsrt, ?_⟩
  · rcases List.mem_append.1 hC with hC | hC
    · exact h.dlen C hC
    · rw [List.mem_singleton.1 hC, hm.1.length_eq, List.length_append, h.clen C1 (by simp), h.clen C2 (by simp)]; omega
  · rcases List.mem_append.1 hC with hC | hC
    · exact h.dsrt C hC
    · rw [List.mem_singleton.1 hC]; exact hm.2
  · have := ord_merge (A := Ds) (B := Cs ++ [T]) (by simpa using h.ord) (fun z => by rw [hm.1.mem_iff]; simp : ∀ z, z ∈ M ↔ z ∈ C1 ∨ z ∈ C2)
    simpa using this

/-- The tail takes the last chunk. -/
theorem Ch.mergeTail {bs : Nat} {Ds : List (List Nat)} {T C1 M : List Nat} (h : Ch key pos bs Ds [C1] T) (hm : Merged key pos C1 T M) : Ch key pos bs Ds [] M := by
  refine ⟨h.dlen, fun C hC => (by cases hC), h.dsrt, fun C hC => (by cases hC), hm.2, ?_⟩
  have := ord_merge (A := Ds) (B := []) (by simpa using h.ord) (fun z => by rw [hm.1.mem_iff]; simp : ∀ z, z ∈ M ↔ z ∈ C1 ∨ z ∈ T)
  simpa using this

theorem Ch.next {bs : Nat} {Ds : List (List Nat)} {T : List Nat} (h : Ch key pos bs Ds [] T) : Ch key pos (2 * bs) [] Ds T :=
  ⟨fun C hC => (by cases hC), h.dlen, fun C hC => (by cases hC), h.dsrt, h.tsrt, by simpa using h.ord⟩

theorem Ch.end {bs : Nat} {Cs : List (List Nat)} {T : List Nat} (h : Ch key pos bs [] Cs T) (hn : (Cs.flatten ++ T).length ≤ bs) (hbs : 0 < bs) : (Cs.flatten ++ T).Pairwise (lt key pos) := by
  rw [List.length_append, flatten_len h.clen] at hn
  match Cs, h, hn with
  | [], h, _ => simpa using h.tsrt
  | [C], h, hn =>
    have hT : T = [] := List.eq_nil_of_length_eq_zero (by simp at hn; omega)
    rw [hT]
    simpa using h.csrt C (by simp)
  | C :: D :: Cs, h, hn =>
    exfalso
    simp only [List.length_cons] at hn
    have : (Cs.length + 1 + 1) * bs = Cs.length * bs + bs + bs := by rw [Nat.add_mul, Nat.add_mul]; omega
    omega
end Go.Proofs.Ybulkejoc.Stab
