/- The plain text of Leave: the insertion sort, one send, all sends; what the memory holds between two sends. No Go text is walked here. -/
import Derived.Test.YbulkejocSend
import Derived.Test.YbulkejocMap
namespace Go.Proofs.Ybulkejoc
open Go.ChangeShapes Go.WideShapes Go.ChangeAt Go.RowKit

def insK (key : Nat → Int) (x : Nat) : List Nat → List Nat
  | [] => [x]
  | y :: l => if key x < key y then x :: y :: l else y :: insK key x l
def isort (key : Nat → Int) (d : List Nat) : List Nat := d.foldl (fun acc x => insK key x acc) []

theorem insK_perm (key : Nat → Int) (x : Nat) : ∀ l : List Nat, (insK key x l).Perm (x :: l)
  | [] => List.Perm.refl _
  | y :: l => by
    unfold insK
    split
    · exact List.Perm.refl _
    · exact ((insK_perm key x l).cons y).trans (List.Perm.swap x y l)
theorem insK_sorted (key : Nat → Int) (pos : Nat → Nat) (x : Nat) : ∀ l : List Nat, l.Pairwise (Stab.lt key pos) → (∀ y ∈ l, pos y < pos x) → (insK key x l).Pairwise (Stab.lt key pos)
  | [], _, _ => by simp [insK]
  | y :: l, h, hp => by
    have h1 := List.pairwise_cons.1 h
    unfold insK
    split
    · next hlt =>
      refine List.pairwise_cons.2 ⟨fun z hz => ?_, h⟩
      rcases List.mem_cons.1 hz with rfl | hz
      · exact Or.inl hlt
      · have := h1.1 z hz
        unfold Stab.lt at this ⊢
        omega
    · next hlt =>
      refine List.pairwise_cons.2 ⟨fun z hz => ?_, insK_sorted key pos x l h1.2 (fun z hz => hp z (by simp [hz]))⟩
      rcases List.mem_cons.1 ((insK_perm key x l).mem_iff.1 hz) with rfl | hz
      · have := hp y (by simp)
        unfold Stab.lt
        omega
      · exact h1.1 z hz
theorem isort_aux (key : Nat → Int) (pos : Nat → Nat) : ∀ (d acc : List Nat), acc.Pairwise (Stab.lt key pos) → d.Pairwise (fun x y => pos x < pos y) → (∀ x ∈ acc, ∀ y ∈ d, pos x < pos y) →
    (d.foldl (fun acc x => insK key x acc) acc).Perm (acc ++ d) ∧ (d.foldl (fun acc x => insK key x acc) acc).Pairwise (Stab.lt key pos)
  | [], acc, h, _, _ => by simpa using h
  | x :: d, acc, h, hp, hx => by
    have h1 := List.pairwise_cons.1 hp
    have hi := insK_perm key x acc
    have := isort_aux key pos d (insK key x acc) (insK_sorted key pos x acc h (fun y hy => hx y hy x (by simp))) h1.2 (fun y hy z hz => by
      rcases List.mem_cons.1 (hi.mem_iff.1 hy) with rfl | hy
      · exact h1.1 z hz
      · exact hx y hy z (by simp [hz]))
    refine ⟨this.1.trans ?_, this.2⟩
    exact (hi.append_right d).trans (List.perm_middle.symm)
theorem isort_perm (key : Nat → Int) {pos : Nat → Nat} {d : List Nat} (hp : d.Pairwise (fun x y => pos x < pos y)) : (isort key d).Perm d := by simpa [isort] using (isort_aux key pos d [] List.Pairwise.nil hp (by simp)).1
theorem isort_sorted (key : Nat → Int) {pos : Nat → Nat} {d : List Nat} (hp : d.Pairwise (fun x y => pos x < pos y)) : (isort key d).Pairwise (Stab.lt key pos) := (isort_aux key pos d [] List.Pairwise.nil hp (by simp)).2
/-- The place of a block in a list without repeats. -/
theorem idx_rising {d : List Nat} (h : d.Nodup) : d.Pairwise (fun x y => d.idxOf x < d.idxOf y) := by
  rw [List.pairwise_iff_getElem]
  intro i j hi hj hij
  rw [h.idxOf_getElem i hi, h.idxOf_getElem j hj]
  exact hij
theorem isort_eq (key : Nat → Int) {d d1 : List Nat} (h : d.Nodup) (h1 : d1.Perm d) (h2 : d1.Pairwise (Stab.lt key (fun x => d.idxOf x))) : d1 = isort key d :=
  Stab.uniq (h1.trans (isort_perm key (idx_rising h)).symm) h2 (isort_sorted key (idx_rising h))

/-- The rumours (their blocks, how often each was told) and the packets made. -/
structure Ls where
  d : List Nat
  key : Nat → Int
  out : List (ByteArray × List Mb)

def Ls.pk (mem : Nat → Mb) (me : Mb) (nm : Nat) (s : Ls) : Pk := packF mem s.key me nm (isort s.key s.d)
def Ls.send (mem : Nat → Mb) (me : Mb) (nm : Nat) (s : Ls) (a : ByteArray) : Ls :=
  ⟨(s.pk mem me nm).kept, bump s.key (s.pk mem me nm).ns, s.out ++ [(a, (s.pk mem me nm).ns.map mem)]⟩
def Ls.run (mem : Nat → Mb) (me : Mb) (nm : Nat) (emem : Nat → Mb) (s : Ls) (l : List (ByteArray × Nat)) : Ls :=
  l.foldl (fun s x => if (emem x.2).st ≤ 1 then s.send mem me nm x.1 else s) s
theorem Ls.run_snoc (mem : Nat → Mb) (me : Mb) (nm : Nat) (emem : Nat → Mb) (s : Ls) (l : List (ByteArray × Nat)) (x : ByteArray × Nat) : Ls.run mem me nm emem s (l ++ [x]) = if (emem x.2).st ≤ 1 then (Ls.run mem me nm emem s l).send mem me nm x.1 else Ls.run mem me nm emem s l := by
  simp [Ls.run]

/-- The packets' cells; vs: the slices of their news. -/
def ocells (me : Mb) : List (ByteArray × List Mb) → List Value → List Value
  | x :: out, v :: vs => pcells me x.1 v ++ ocells me out vs
  | _, _ => []
theorem ocells_snoc (me : Mb) (x : ByteArray × List Mb) (v : Value) : ∀ (out : List (ByteArray × List Mb)) (vs : List Value), vs.length = out.length → ocells me (out ++ [x]) (vs ++ [v]) = ocells me out vs ++ pcells me x.1 v
  | [], [], _ => by simp [ocells]
  | y :: out, u :: vs, h => by
    simp only [List.cons_append, ocells, List.append_assoc]
    rw [ocells_snoc me x v out vs (by simpa using h)]
  | [], _ :: _, h => by simp at h
  | _ :: _, [], h => by simp at h

/-- The cells that Leave's loop may write. -/
def LvC (nb g : Nat) (d0 : List Nat) (b o : Nat) : Prop := (b = nb ∧ (o = 24 ∨ o = 28)) ∨ b = g ∨ (b ∈ d0 ∧ o = 4)

/-- The memory between two sends; w0: the world where the loop began. -/
structure LvAt (w0 : World) (nb mp : Nat) (es : Array MapEntry) (clock : Nat) (me : Mb) (g : Nat) (d0 : List Nat) (mem : Nat → Mb) (N : Nat) (s : Ls) (W : World) : Prop where
  nd : NdIn W nb mp es clock me s.d mem s.key
  sub : ∀ k ∈ s.d, k ∈ d0
  len : s.d.length ≤ d0.length
  row : ∃ rv, W.cell? ⟨nb, 24, none⟩ = some rv ∧ RowIs W rv nb g s.d
  out : ∃ (vo : Value) (vs : List Value), W.cell? ⟨nb, 28, none⟩ = some vo ∧ vs.length = s.out.length ∧ W.ownsRow w0.heap.size 67 9 vo s.out.length (ocells me s.out vs) ∧ (∀ i (hi : i < s.out.length) (hv : i < vs.length), (W.ownsRow w0.heap.size 29 4 vs[i] s.out[i].2.length (mcells s.out[i].2))) ∧ (s.out = [] → vo = .slice none 0 0)
  told : ∀ k ∈ s.d, s.key k ≤ 15 + (N : Int)
  many : s.out.length ≤ N
  fr : Fr (LvC nb g d0) w0 W

variable {w0 W W' : World} {nb mp : Nat} {es : Array MapEntry} {clock : Nat} {me : Mb} {g : Nat} {d0 : List Nat} {mem : Nat → Mb} {N : Nat} {s : Ls}

theorem LvAt.mono (h : LvAt w0 nb mp es clock me g d0 mem N s W) {N' : Nat} (hN : N ≤ N') : LvAt w0 nb mp es clock me g d0 mem N' s W :=
  ⟨h.nd, h.sub, h.len, h.row, h.out, fun k hk => by have := h.told k hk; omega, by have := h.many; omega, h.fr⟩

/-- One send. -/
theorem LvAt.send (h : LvAt w0 nb mp es clock me g d0 mem N s W) (hN : N ≤ 10000) (hng : nb ≠ g) (hnB : nb < w0.heap.size) (hgB : g < w0.heap.size) (hdB : ∀ k ∈ d0, k < w0.heap.size) (hgd : g ∉ d0) (hmg : mp ≠ g) (hmB : mp < w0.heap.size) {a : ByteArray} {vo : Value} {vs : List Value}
    (hvl : vs.length = s.out.length) (hvo : W.ownsRow w0.heap.size 67 9 vo s.out.length (ocells me s.out vs)) (hvs : ∀ i (hi : i < s.out.length) (hv : i < vs.length), W.ownsRow w0.heap.size 29 4 vs[i] s.out[i].2.length (mcells s.out[i].2))
    (hr : SendRes W w0.heap.size nb g s.d mem s.key me a vo s.out.length (ocells me s.out vs) (s.pk mem me es.size).ns (s.pk mem me es.size).kept W') : LvAt w0 nb mp es clock me g d0 mem (N + 1) (s.send mem me es.size a) W' := by
  have hks : (s.pk mem me es.size).kept.Sublist (isort s.key s.d) := Pk.run_kept _ _ _ _ _
  have hip := isort_perm s.key (idx_rising h.nd.nodup)
  have hksub : ∀ k ∈ (s.pk mem me es.size).kept, k ∈ s.d := fun k hk => hip.mem_iff.1 (hks.subset hk)
  have hWs := h.fr.size
  have hF := hr.fr
  have hcC : ∀ b o, b < w0.heap.size → SendC nb g s.d vo b o → LvC nb g d0 b o := by
    rintro b o hb (h1 | h1 | ⟨h1, h2⟩ | h1)
    · exact Or.inl h1
    · exact Or.inr (Or.inl h1)
    · exact Or.inr (Or.inr ⟨h.sub b h1, h2⟩)
    · have := (ownsRow_lt hvo h1).1; omega
  have hD : ∀ b, b < w0.heap.size → vo.ownBlock ≠ some b := fun b hb e => by have := (ownsRow_lt hvo e).1; omega
  have hnC : ∀ o, o ≠ 24 → o ≠ 28 → ¬ SendC nb g s.d vo nb o := by
    rintro o h24 h28 (⟨_, h1⟩ | h1 | ⟨h1, _⟩ | h1)
    · omega
    · exact hng h1
    · exact h.nd.nd h1
    · exact hD nb hnB h1
  have hdC : ∀ k ∈ s.d, ∀ o, o ≠ 4 → ¬ SendC nb g s.d vo k o := by
    rintro k hk o ho (⟨h1, _⟩ | h1 | ⟨_, h1⟩ | h1)
    · exact h.nd.nd (h1 ▸ hk)
    · exact hgd (h1 ▸ h.sub k hk)
    · exact ho h1
    · exact hD k (hdB k (h.sub k hk)) h1
  have hnlt := h.nd.nlt
  have hsz := hF.size
  refine ⟨?_, fun k hk => h.sub k (hksub k hk), ?_, hr.row, ?_, ?_, ?_, ?_⟩
  · refine ⟨(hF.cell nb 11 hnlt (hnC 11 (by omega) (by omega))).trans h.nd.s0, (hF.cell nb 12 hnlt (hnC 12 (by omega) (by omega))).trans h.nd.s1, (hF.cell nb 13 hnlt (hnC 13 (by omega) (by omega))).trans h.nd.s2, (hF.cell nb 14 hnlt (hnC 14 (by omega) (by omega))).trans h.nd.s3, h.nd.ok, (hF.cell nb 15 hnlt (hnC 15 (by omega) (by omega))).trans h.nd.map, ?_, h.nd.few, ?_, ?_, fun hk => h.nd.nd (hksub _ hk), (hF.frozen nb 24 hnlt (hD nb hnB)).trans h.nd.fn, (hF.frozen nb 28 hnlt (hD nb hnB)).trans h.nd.fo, by omega⟩
    · rw [hF.block mp (lt_of_heap h.nd.obj) ?_]
      · exact h.nd.obj
      · rintro o (⟨h1, _⟩ | h1 | ⟨h1, _⟩ | h1)
        · exact h.nd.mpn h1
        · exact hmg h1
        · exact h.nd.mpd h1
        · exact hD mp hmB h1
    · intro k hk
      have hkd := hksub k hk
      have r := h.nd.rum k hkd
      have hb := h.told k hkd
      have hc := hdC k hkd
      refine ⟨by have := r.lt; omega, (hF.cell k 0 r.lt (hc 0 (by omega))).trans r.a, (hF.cell k 1 r.lt (hc 1 (by omega))).trans r.t, (hF.cell k 2 r.lt (hc 2 (by omega))).trans r.s', (hF.cell k 3 r.lt (hc 3 (by omega))).trans r.i, hr.sent k hkd, (hF.frozen k 4 r.lt (hD k (hdB k (h.sub k hkd)))).trans r.fz, r.ok, ?_, ?_⟩
      all_goals
        have := r.lo
        simp only [Ls.send, bump]
        split <;> omega
    · exact hks.nodup ((hip.nodup_iff).2 h.nd.nodup)
  · have h1 := hks.length_le
    have h2 := hip.length_eq
    have h3 := h.len
    show (s.pk mem me es.size).kept.length ≤ _
    omega
  · obtain ⟨v, vo', h1, h2, h3⟩ := hr.out
    refine ⟨vo', vs ++ [v], h1, by simp [Ls.send, hvl], ?_, ?_, fun e => by simp [Ls.send] at e⟩
    · show W'.ownsRow _ _ _ _ (s.out ++ [(a, (s.pk mem me es.size).ns.map mem)]).length (ocells me (s.out ++ [(a, (s.pk mem me es.size).ns.map mem)]) (vs ++ [v]))
      rw [ocells_snoc _ _ _ _ _ hvl]
      simpa using h2
    · intro i hi hv
      simp only [Ls.send, List.length_append, List.length_cons, List.length_nil] at hi
      by_cases e : i < s.out.length
      · have := hvs i e (by omega)
        simp only [Ls.send, List.getElem_append_left e]
        rw [List.getElem_append_left (by omega)]
        refine ownsRow_block this fun b hb => hF.block b (ownsRow_lt this hb).2 ?_
        have hb1 := ownsRow_lt this hb
        rintro o (⟨h1, _⟩ | h1 | ⟨h1, _⟩ | h1)
        · omega
        · omega
        · have := hdB b (h.sub b h1); omega
        · -- the news' row and the packets' row are of different types
          rcases this.2 with ⟨e1, _⟩ | ⟨g1, cap1, cur1, e1, _, t1, _⟩
          · rw [e1] at hb; simp [Value.ownBlock] at hb
          · rcases hvo.2 with ⟨e2, _⟩ | ⟨g2, cap2, cur2, e2, _, t2, _⟩
            · rw [e2] at h1; simp [Value.ownBlock] at h1
            · rw [e1] at hb; rw [e2] at h1
              simp only [Value.ownBlock, Option.some.injEq] at hb h1
              subst hb h1
              rw [t1] at t2
              injection t2 with t3
              injection t3 with _ t4
              cases t4
      · have hi' : i = s.out.length := by omega
        subst hi'
        simp only [Ls.send, List.getElem_append_right (Nat.le_refl _), Nat.sub_self, List.getElem_cons_zero]
        rw [List.getElem_append_right (by omega)]
        simp only [hvl, Nat.sub_self, List.getElem_cons_zero, List.length_map]
        exact ownsRow_base h3 hWs
  · intro k hk
    have hb := h.told k (hksub k hk)
    simp only [Ls.send, bump]
    split <;> omega
  · have := h.many
    simp only [Ls.send, List.length_append, List.length_cons, List.length_nil]
    omega
  · exact ⟨hF.os.trans h.fr.os, hF.tape.trans h.fr.tape, hF.output.trans h.fr.output, by omega, fun k hk hn => (hF.block k (by omega) (fun o hc => hn o (hcC k o hk hc))).trans (h.fr.block k hk hn), fun k o hk hn => (hF.cell k o (by omega) (fun hc => hn (hcC k o hk hc))).trans (h.fr.cell k o hk hn), fun k o hk => (hF.frozen k o (by omega) (hD k hk)).trans (h.fr.frozen k o hk)⟩
end Go.Proofs.Ybulkejoc
