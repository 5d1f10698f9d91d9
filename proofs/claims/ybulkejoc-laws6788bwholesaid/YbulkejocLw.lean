/- The law's first three blocks. No Go text is walked here. -/
import Derived.Test.YbulkejocPre
namespace Go.Proofs.Ybulkejoc
open Go.ChangeShapes Go.WideShapes Go.ChangeAt Go.RowKit

theorem lw_of (W : World) (me : Mb) (use : Bool) : Lw W me use W.heap.size (W.heap.size + 1) (W.heap.size + 1 + 1) (((W.alloc (.cells #[.string me.addr, .int .u64 me.tok, .int .u8 me.st, .int .u64 me.inc] 29)).alloc (.cells #[.slice none 0 0] 30)).alloc (.cells #[.string me.addr, .int .u64 me.tok, .int .u64 me.inc, .int .i64 0, .int .i64 0, .int .i64 0, .int .i64 0, .pointer none, chF use (W.heap.size + 1), .nilFunc, .nilFunc] 38)) := by
  refine ⟨(((Below.refl _ _).alloc (Nat.le_refl _) _).alloc (by simp) _).alloc (by simp; omega) _, Nat.le_refl _, by omega, by omega, by omega, by omega, by omega, ?_, ?_, ?_⟩
  · rw [heap_alloc_old _ _ (by simp; omega), heap_alloc_old _ _ (by simp), heap_alloc_new]
  · rw [heap_alloc_old _ _ (by simp)]
    have := heap_alloc_new (W.alloc (.cells #[.string me.addr, .int .u64 me.tok, .int .u8 me.st, .int .u64 me.inc] 29)) (.cells #[.slice none 0 0] 30)
    simpa using this
  · have := heap_alloc_new ((W.alloc (.cells #[.string me.addr, .int .u64 me.tok, .int .u8 me.st, .int .u64 me.inc] 29)).alloc (.cells #[.slice none 0 0] 30)) (.cells #[.string me.addr, .int .u64 me.tok, .int .u64 me.inc, .int .i64 0, .int .i64 0, .int .i64 0, .int .i64 0, .pointer none, chF use (W.heap.size + 1), .nilFunc, .nilFunc] 38)
    simpa using this
end Go.Proofs.Ybulkejoc
