/- piggyback: the append onto what is kept, in place; the clearing of the tail. -/
import Derived.Test.YbulkejocPigW
import Derived.Test.YbulkejocEq
namespace Go.Proofs.Ybulkejoc
open Go.ChangeShapes Go.WideShapes Go.ChangeAt Go.RowKit
variable {w : World} {nb mb g : Nat} {rest : List Value} {d : List Nat} {mem : Nat → Mb} {key : Nat → Int} {ns kept : List Nat} {wr W W' : World} {rb k : Nat} {v : Value}

theorem info52 : (Yba.prog.info? 52).map (fun i => (i.zero, i.size, i.bytes)) = some (some (.pointer none), 1, 8) := by kernel_rfl

theorem PigMid.run_keep (h : PigMid w nb mb g rest d mem key rb k v ns kept W) (st : PigSt w nb mb g d mem key) {j : Nat} (hj : d[j]? = some k) {q cap : Nat} (hq : kept.length = q) (hqj : q ≤ j) (hcap : d.length + rest.length = cap) :
    ∃ W', (Builtin.append_ #[48, 48] 48 #[.slice (some ⟨g, 0, none⟩) q cap, .slice (some ⟨W.heap.size, 0, none⟩) 1 1]).run Yba.prog (W.alloc (.cells #[.pointer (some ⟨k, 0, none⟩)] 52)) = .ok (.slice (some ⟨g, 0, none⟩) (q + 1) cap) W' ∧ PigMid w nb mb g rest d mem key rb k v ns (kept ++ [k]) W' := by
  subst hq
  obtain ⟨i0, hi, hz0, hz1, hz2⟩ := info_parts info52
  have hlt := (List.getElem?_eq_some_iff.1 hj).1
  have hB : Below W.heap.size W (W.alloc (.cells #[.pointer (some ⟨k, 0, none⟩)] 52)) := (Below.refl _ _).alloc (Nat.le_refl _) _
  have hX := h.below st hB
  have hm := h.keep st hj hqj hB
  have hr := run_append_room (P := Yba.prog) (W.alloc (.cells #[.pointer (some ⟨k, 0, none⟩)] 52)) 48 48 52 i0 Yba.underlying48 hi g kept.length cap _ hX.row ⟨W.heap.size, 0, none⟩ 1 1 [ptr k] (by rw [hz1]; rfl) (by
    intro i u hu
    match i, hu with
    | 0, hu => simp at hu; subst hu; simp [Addr.add, ptr]) (by intro u hu; simp at hu; subst hu; rfl) (by omega) (by rw [hz1]; simp; omega)
  refine ⟨_, hr, ?_⟩
  rw [hz1, Nat.mul_one]
  exact hm

theorem PigAt.run_clear (h : PigAt w nb mb g rest d mem key ns kept wr) {q m : Nat} (hq : kept.length = q) (hm : 0 < m) (hqm : q + m = d.length) (c : Nat) (ty : TypeId) :
    (Builtin.clear_ #[48] ty #[.slice (some ⟨g, q, none⟩) m c]).run Yba.prog wr = .ok (.tuple #[]) (wr.setCells g q (List.replicate m (.pointer none))) := by
  subst hq
  refine Lib.run_clear_slice wr 48 52 ty (.pointer none) Yba.underlying48 (fun w => Yba.zeroValue52 w) rfl rfl g kept.length m c hm (fun j hj => ?_) (fun j _ => frozen_of_block h.row _)
  rw [cell_of_block h.row]
  simp
  omega
theorem run_clear_none (a : Option Addr) (c : Nat) (ty : TypeId) (W : World) : (Builtin.clear_ #[48] ty #[.slice a 0 c]).run Yba.prog W = .ok (.tuple #[]) W := by
  cases a <;> simp [Builtin.clear_, run_underlying Yba.underlying48]
end Go.Proofs.Ybulkejoc
