/- The law's own model: what its memory holds. No Go text is walked here. -/
import Derived.Test.YbulkejocPre
import Derived.Test.YbulkejocSwap
namespace Go.Proofs.Ybulkejoc
open Go.ChangeShapes Go.WideShapes Go.ChangeAt Go.RowKit

/-- What the law's own model leaves. -/
structure WantEnd (Wa : World) (me : Mb) (use : Bool) (sb pb : Nat) (s : Ls) (mem : Nat → Mb) (vm v29 v37 v38 v39 : Value) (w : World) : Prop where
  kept : Kept (fun b => b = sb ∨ vm.ownBlock = some b) Wa w
  self : w.heap[sb]? = some (.cells #[.string me.addr, .int .u64 me.tok, .int .u8 3, .int .u64 me.inc] 29 (0, 0))
  probe : v39 = .pointer (if me.st = 3 then some ⟨pb, 0, none⟩ else none)
  log : MsAt w v38 (if use && decide (me.st ≠ 3) then [gone me] else [])
  model : w.ownsRow 0 56 5 v29 s.d.length (rcells (s.d.map fun k => (mem k, s.key k)))
  want : ∃ vs : List Value, vs.length = s.out.length ∧ w.ownsRow 0 67 9 v37 s.out.length (ocells (gone me) s.out vs) ∧ (∀ i (hi : i < s.out.length) (hv : i < vs.length), w.ownsRow 0 29 4 vs[i] s.out[i].2.length (mcells s.out[i].2)) ∧ (s.out = [] → v37 = .slice none 0 0)

theorem model_eq {R : List (Nat × Mb × Int)} {f : Nat → Mb × Int} (hf : ∀ p ∈ R, f p.1 = p.2) : (R.map (·.1)).map (fun k => ((f k).1, (f k).2)) = R.map (·.2) := by
  rw [List.map_map]
  exact List.map_congr_left fun p hp => by simp [hf p hp]

/-- The node had left: the law's model does nothing. -/
theorem want_left {W wa : World} {me : Mb} {use : Bool} {sb lg mp pb nb : Nat} {L : List (Nat × Mb)} {R : List (Nat × Mb × Int)} {f : Nat → Mb × Int} {emem : Nat → Mb} {va vr vm got : Value} {now : Int} (hf : ∀ p ∈ R, f p.1 = p.2) (hst : me.st = 3)
    (h : Aft W me use sb lg mp pb nb L (lvF (fun k => (f k).1) emem me L (R.map (·.1)) (fun k => (f k).2)) (fun k => (f k).1) (R.map (·.2)) va vr vm got now wa) :
    WantEnd wa me use sb pb (lvF (fun k => (f k).1) emem me L (R.map (·.1)) (fun k => (f k).2)) (fun k => (f k).1) vm vm (.slice none 0 0) (.slice none 0 0) (.pointer (some ⟨pb, 0, none⟩)) wa := by
  have hs : lvF (fun k => (f k).1) emem me L (R.map (·.1)) (fun k => (f k).2) = ⟨R.map (·.1), fun k => (f k).2, []⟩ := if_pos hst
  rw [hs]
  refine ⟨Kept.refl _ _, ?_, by rw [if_pos hst], ?_, ?_, ⟨[], rfl, by simpa [ocells] using World.ownsRow_nil wa 0 67 9, fun i hi => by simp at hi, fun _ => rfl⟩⟩
  · have := h.self
    rw [hst] at this
    exact this
  · simp only [hst]
    simpa [MsAt, mcells] using World.ownsRow_nil wa 0 29 4
  · have := ownsRow_base h.model (Nat.zero_le _)
    rw [model_eq hf]
    simpa using this

/-- The law's model between two packets. -/
structure WantAt (W wa : World) (me : Mb) (use : Bool) (sb : Nat) (vm : Value) (mem : Nat → Mb) (s : Ls) (v29 v37 v38 : Value) (w : World) : Prop where
  kept : Kept (fun b => b = sb ∨ vm.ownBlock = some b) wa w
  self : w.heap[sb]? = some (.cells #[.string me.addr, .int .u64 me.tok, .int .u8 3, .int .u64 me.inc] 29 (0, 0))
  log : w.ownsRow wa.heap.size 29 4 v38 (if use then 1 else 0) (if use then (gone me).cells else [])
  model : w.ownsRow W.heap.size 56 5 v29 s.d.length (rcells (s.d.map fun k => (mem k, s.key k)))
  mblk : ∀ b, v29.ownBlock = some b → vm.ownBlock = some b ∨ wa.heap.size ≤ b
  want : ∃ vs : List Value, vs.length = s.out.length ∧ w.ownsRow wa.heap.size 67 9 v37 s.out.length (ocells (gone me) s.out vs) ∧ (∀ i (hi : i < s.out.length) (hv : i < vs.length), w.ownsRow wa.heap.size 29 4 vs[i] s.out[i].2.length (mcells s.out[i].2)) ∧ (s.out = [] → v37 = .slice none 0 0)

/-- The store 'self.State = Left', and the log that the law itself keeps. -/
theorem self_store {wa : World} {me : Mb} {sb : Nat} {st : Nat} (h : wa.heap[sb]? = some (.cells #[.string me.addr, .int .u64 me.tok, .int .u8 st, .int .u64 me.inc] 29 (0, 0))) :
    (wa.setCell ⟨sb, 2, none⟩ (.int .u8 3)).heap[sb]? = some (.cells #[.string me.addr, .int .u64 me.tok, .int .u8 3, .int .u64 me.inc] 29 (0, 0)) ∧ Kept (fun b => b = sb) wa (wa.setCell ⟨sb, 2, none⟩ (.int .u8 3)) := by
  refine ⟨?_, Kept.setCell (S := fun b => b = sb) (Kept.refl _ _) (fun _ => rfl) _⟩
  rw [heap_setCell_same h]
  rfl

/-- Where the law's model begins. -/
theorem want_start {W wa wc w5 : World} {me : Mb} {use : Bool} {sb lg mp pb nb : Nat} {L : List (Nat × Mb)} {R : List (Nat × Mb × Int)} {f : Nat → Mb × Int} {s : Ls} {va vr vm got v38 : Value} {now : Int} (hf : ∀ p ∈ R, f p.1 = p.2)
    (h : Aft W me use sb lg mp pb nb L s (fun k => (f k).1) (R.map (·.2)) va vr vm got now wa)
    (hw : wc.ownsRow wa.heap.size 29 4 v38 (if use then 1 else 0) (if use then (gone me).cells else []) ∧ Kept (fun b => b = sb) wa wc ∧ wc.heap[sb]? = some (.cells #[.string me.addr, .int .u64 me.tok, .int .u8 3, .int .u64 me.inc] 29 (0, 0))) (hB : Below wc.heap.size wc w5) :
    WantAt W wa me use sb vm (fun k => (f k).1) ⟨R.map (·.1), fun k => (f k).2, []⟩ vm (.slice none 0 0) v38 w5 := by
  obtain ⟨h1, h2, h3⟩ := hw
  have k5 : Kept (fun b => b = sb) wc w5 := Kept.of_below hB (Nat.le_refl _)
  have k0 : Kept (fun _ => False) wc w5 := Kept.of_below hB (Nat.le_refl _)
  refine ⟨(h2.trans k5 (fun _ _ e => e)).mono (fun _ e => Or.inl e), (hB.block sb (lt_of_heap h3)).trans h3, own_kept h1 k0 (fun _ _ e => e), ?_, fun b hb => Or.inl hb, ⟨[], rfl, by simpa [ocells] using World.ownsRow_nil w5 wa.heap.size 67 9, fun i hi => by simp at hi, fun _ => rfl⟩⟩
  have := own_kept (own_kept h.model h2 (fun b hb e => h.sbw.2 (e ▸ hb))) k0 (fun _ _ e => e)
  show w5.ownsRow W.heap.size 56 5 vm (R.map (·.1)).length (rcells ((R.map (·.1)).map fun k => ((f k).1, (f k).2)))
  rw [model_eq hf]
  simpa using this

/-- Where it ends. -/
theorem want_end {W wa w : World} {me : Mb} {use : Bool} {sb pb : Nat} {s : Ls} {mem : Nat → Mb} {vm v29 v37 v38 : Value} (hst : me.st ≠ 3) (h : WantAt W wa me use sb vm mem s v29 v37 v38 w) : WantEnd wa me use sb pb s mem vm v29 v37 v38 (.pointer none) w := by
  obtain ⟨vs, h1, h2, h3, h4⟩ := h.want
  refine ⟨h.kept, h.self, by rw [if_neg hst], ?_, ownsRow_base h.model (Nat.zero_le _), ⟨vs, h1, ownsRow_base h2 (Nat.zero_le _), fun i hi hv => ownsRow_base (h3 i hi hv) (Nat.zero_le _), h4⟩⟩
  have := ownsRow_base h.log (Nat.zero_le _)
  cases use
  · simpa [MsAt, mcells] using this
  · simpa [MsAt, mcells, hst] using this
end Go.Proofs.Ybulkejoc
