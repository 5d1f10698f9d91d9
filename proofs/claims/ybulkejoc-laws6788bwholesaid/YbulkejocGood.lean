/- One packet of the law's model: what holds of the lists, and what the memory holds. No Go text is walked here. -/
import Derived.Test.YbulkejocPart
namespace Go.Proofs.Ybulkejoc
open Go.ChangeShapes Go.WideShapes Go.ChangeAt Go.RowKit

structure Ls.Good (d0 : List Nat) (N : Nat) (s : Ls) : Prop where
  nodup : s.d.Nodup
  sub : ∀ k ∈ s.d, k ∈ d0
  len : s.d.length ≤ d0.length
  lo : ∀ k ∈ s.d, 0 ≤ s.key k
  told : ∀ k ∈ s.d, s.key k ≤ 15 + (N : Int)
  many : s.out.length ≤ N

theorem Ls.Good.mono {d0 : List Nat} {N N' : Nat} {s : Ls} (h : s.Good d0 N) (hN : N ≤ N') : s.Good d0 N' := ⟨h.nodup, h.sub, h.len, h.lo, fun k hk => by have := h.told k hk; omega, by have := h.many; omega⟩
theorem Ls.Good.send {d0 : List Nat} {N : Nat} {s : Ls} (h : s.Good d0 N) (mem : Nat → Mb) (me : Mb) (nm : Nat) (a : ByteArray) : (s.send mem me nm a).Good d0 (N + 1) := by
  have hks : (s.pk mem me nm).kept.Sublist (isort s.key s.d) := Pk.run_kept _ _ _ _ _
  have hip := isort_perm s.key (idx_rising h.nodup)
  have hksub : ∀ k ∈ (s.pk mem me nm).kept, k ∈ s.d := fun k hk => hip.mem_iff.1 (hks.subset hk)
  refine ⟨hks.nodup ((hip.nodup_iff).2 h.nodup), fun k hk => h.sub k (hksub k hk), ?_, ?_, ?_, ?_⟩
  · have h1 := hks.length_le
    have h2 := hip.length_eq
    have h3 := h.len
    show (s.pk mem me nm).kept.length ≤ _
    omega
  · intro k hk
    have := h.lo k (hksub k hk)
    simp only [Ls.send, bump]
    split <;> omega
  · intro k hk
    have := h.told k (hksub k hk)
    simp only [Ls.send, bump]
    split <;> omega
  · have := h.many
    simp only [Ls.send, List.length_append, List.length_cons, List.length_nil]
    omega
theorem Ls.Good.run {d0 : List Nat} {s : Ls} (mem : Nat → Mb) (me : Mb) (nm : Nat) (emem : Nat → Mb) (h : s.Good d0 0) : ∀ (l : List (ByteArray × Nat)), (Ls.run mem me nm emem s l).Good d0 l.length := by
  intro l
  obtain ⟨n, hn⟩ : ∃ n, l.length = n := ⟨_, rfl⟩
  induction n generalizing l with
  | zero => rw [List.eq_nil_of_length_eq_zero hn]; exact h
  | succ n ih =>
    have hne : l ≠ [] := by intro e; rw [e] at hn; simp at hn
    obtain ⟨l', x, rfl⟩ : ∃ l' x, l = l' ++ [x] := ⟨l.dropLast, l.getLast hne, (List.dropLast_concat_getLast hne).symm⟩
    have hl : l'.length = n := by simpa using hn
    rw [Ls.run_snoc]
    have h1 := ih l' hl
    rw [List.length_append]
    split
    · exact h1.send mem me nm x.1
    · exact h1.mono (by simp)

/-- The model's row, sorted and packed, is the rumours' row, sorted and packed. -/
theorem Ls.pv {d0 : List Nat} {N : Nat} {s : Ls} (h : s.Good d0 N) (mem : Nat → Mb) (me : Mb) (nm : Nat) :
    isortV (s.d.map fun k => (mem k, s.key k)) = (isort s.key s.d).map (fun k => (mem k, s.key k)) ∧
    Pv.run (limF nm) (roomF me) (isortV (s.d.map fun k => (mem k, s.key k))) = ⟨(s.pk mem me nm).room, (s.pk mem me nm).ns.map mem, (s.pk mem me nm).kept.map fun k => (mem k, bump s.key (s.pk mem me nm).ns k)⟩ := by
  refine ⟨isortV_map _ _ _, ?_⟩
  rw [isortV_map, Pv.run_map]
  · rfl
  · exact ((isort_perm s.key (idx_rising h.nodup)).nodup_iff).2 h.nodup

/-- One packet more. -/
theorem WantAt.send {W wa w w1 w2 : World} {me : Mb} {use : Bool} {sb : Nat} {vm : Value} {mem : Nat → Mb} {s : Ls} {v29 v37 v38 v48 v49 : Value} (h : WantAt W wa me use sb vm mem s v29 v37 v38 w) (hm : s.out.length ≤ 1000) (hWa : W.heap.size ≤ wa.heap.size)
    (k1 : Kept (fun b => v29.ownBlock = some b) w w1) (k2 : Kept (fun _ => False) w1 w2) (nm : Nat) (a : ByteArray)
    (o48 : w2.ownsRow w1.heap.size 29 4 v48 ((s.pk mem (gone me) nm).ns.map mem).length (mcells ((s.pk mem (gone me) nm).ns.map mem)))
    (o49 : w2.ownsRow w1.heap.size 56 5 v49 ((s.pk mem (gone me) nm).kept.map fun k => (mem k, bump s.key (s.pk mem (gone me) nm).ns k)).length (rcells ((s.pk mem (gone me) nm).kept.map fun k => (mem k, bump s.key (s.pk mem (gone me) nm).ns k)))) :
    w2.heap[sb]? = some (.cells #[.string me.addr, .int .u64 me.tok, .int .u8 3, .int .u64 me.inc] 29 (0, 0)) ∧
    ∃ g cap w3, (Builtin.append_ #[68, 68] 68 #[v37, .slice (some ⟨w2.heap.size, 0, none⟩) 1 1]).run Yba.prog (w2.alloc (.cells #[.string a, .int .u8 6, .int .u64 0, .string me.addr, .int .u64 me.tok, .int .u8 3, .int .u64 me.inc, .string ByteArray.empty, v48] 67)) = .ok (.slice (some ⟨g, 0, none⟩) (s.out.length + 1) cap) w3 ∧
      WantAt W wa me use sb vm mem (s.send mem (gone me) nm a) v49 (.slice (some ⟨g, 0, none⟩) (s.out.length + 1) cap) v38 w3 := by
  obtain ⟨vs, p1, p2, p3, p4⟩ := h.want
  have hz := h.kept.size
  have hz1 := k1.size
  have hz2 := k2.size
  have hs1 : w1.heap[sb]? = some (.cells #[.string me.addr, .int .u64 me.tok, .int .u8 3, .int .u64 me.inc] 29 (0, 0)) := (k1.block sb (lt_of_heap h.self) (obj_own_ne h.self h.model (by decide))).trans h.self
  have hs2 := (k2.block sb (lt_of_heap hs1) (fun e => e)).trans hs1
  have t2 : ∀ {B e z n : Nat} {v : Value} {xs : List Value}, w.ownsRow B e z v n xs → e ≠ 56 → w2.ownsRow B e z v n xs := fun ho he => own_kept (own_kept ho k1 (fun b hb => own_ne ho h.model he hb)) k2 (fun _ _ e => e)
  have q2 := t2 p2 (by decide)
  have hv1 : v48.oneCell' = true := by
    rcases o48.2 with ⟨rfl, _⟩ | ⟨_, _, _, rfl, _⟩ <;> rfl
  obtain ⟨g, cap, w3, hr, ho, hk⟩ := append_one (t := 68) Yba.underlying68 info67 rfl (by omega) q2 (by omega) #[.string a, .int .u8 6, .int .u64 0, .string me.addr, .int .u64 me.tok, .int .u8 3, .int .u64 me.inc, .string ByteArray.empty, v48] rfl (by
    intro u hu
    simp only [List.mem_cons, List.not_mem_nil, or_false] at hu
    rcases hu with rfl | rfl | rfl | rfl | rfl | rfl | rfl | rfl | rfl <;> first | rfl | exact hv1) (by omega) (by omega)
  refine ⟨hs2, g, cap, w3, hr, ?_⟩
  have t3 : ∀ {B e z n : Nat} {v : Value} {xs : List Value}, w2.ownsRow B e z v n xs → e ≠ 67 → w3.ownsRow B e z v n xs := fun ho' he => own_kept ho' hk (fun b hb => own_ne ho' q2 he hb)
  refine ⟨?_, (hk.block sb (lt_of_heap hs2) (obj_own_ne hs2 q2 (by decide))).trans hs2, t3 (t2 h.log (by decide)) (by decide), ?_, ?_, ?_⟩
  · refine ((h.kept.trans k1 ?_).trans k2 (fun _ _ e => e.elim)).trans hk ?_
    · intro b hb hv
      rcases h.mblk b hv with hv | hv
      · exact Or.inr hv
      · omega
    · intro b hb hv
      have := (ownsRow_lt q2 hv).1
      omega
  · have := ownsRow_base (t3 o49 (by decide)) (by omega : W.heap.size ≤ w1.heap.size)
    simpa [Ls.send] using this
  · intro b hb
    have := (ownsRow_lt o49 hb).1
    exact Or.inr (by omega)
  · refine ⟨vs ++ [v48], by simp [Ls.send, p1], ?_, ?_, fun e => by simp [Ls.send] at e⟩
    · show w3.ownsRow _ _ _ _ (s.out ++ [(a, (s.pk mem (gone me) nm).ns.map mem)]).length (ocells (gone me) (s.out ++ [(a, (s.pk mem (gone me) nm).ns.map mem)]) (vs ++ [v48]))
      rw [ocells_snoc _ _ _ _ _ p1]
      simpa [pcells, gone] using ho
    · intro i hi hv
      simp only [Ls.send, List.length_append, List.length_cons, List.length_nil] at hi
      by_cases e : i < s.out.length
      · have := p3 i e (by omega)
        simp only [Ls.send, List.getElem_append_left e]
        rw [List.getElem_append_left (by omega)]
        exact t3 (t2 this (by decide)) (by decide)
      · have hi' : i = s.out.length := by omega
        subst hi'
        simp only [Ls.send, List.getElem_append_right (Nat.le_refl _), Nat.sub_self, List.getElem_cons_zero]
        rw [List.getElem_append_right (by omega)]
        simp only [p1, Nat.sub_self, List.getElem_cons_zero]
        exact ownsRow_base (t3 o48 (by decide)) (by omega)
end Go.Proofs.Ybulkejoc
