/- Lists on the road of the law's insertion sort. No Go in sight. -/
import Derived.Test.YbulkejocModel
namespace Go.Proofs.Ybulkejoc

variable {α : Type}
/-- The list while x goes down through P. -/
def mid (P : List α) (k : Nat) (x : α) (T : List α) : List α := P.take k ++ x :: (P.drop k ++ T)
theorem mid_len (P : List α) (k : Nat) (x : α) (T : List α) : (mid P k x T).length = P.length + 1 + T.length := by
  simp [mid]
  omega
theorem mid_at (P : List α) (k : Nat) (hk : k ≤ P.length) (x : α) (T : List α) : (mid P k x T)[k]? = some x := by
  rw [mid, List.getElem?_append_right (by simp; omega)]
  simp [Nat.min_eq_left hk]
theorem mid_below (P : List α) (k : Nat) (hk : k < P.length) (x : α) (T : List α) : (mid P (k + 1) x T)[k]? = some P[k] := by
  rw [mid, List.getElem?_append_left (by simp; omega), List.getElem?_take, if_pos (by omega), List.getElem?_eq_getElem hk]
theorem mid_swap (P : List α) (k : Nat) (hk : k < P.length) (x : α) (T : List α) : ((mid P (k + 1) x T).set (k + 1) P[k]).set k x = mid P k x T := by
  apply List.ext_getElem?
  intro i
  have hl : (P.take k).length = k := by simp; omega
  have hl1 : (P.take (k + 1)).length = k + 1 := by simp; omega
  simp only [List.getElem?_set, List.length_set, mid_len]
  by_cases e1 : k = i
  · subst e1
    rw [if_pos rfl, if_pos (by omega), mid_at P k (by omega)]
  · rw [if_neg e1]
    by_cases e2 : k + 1 = i
    · subst e2
      rw [if_pos rfl, if_pos (by omega), mid, List.getElem?_append_right (by omega), hl, show k + 1 - k = 1 by omega]
      rw [List.getElem?_cons_succ, List.getElem?_append_left (by simp; omega), List.getElem?_drop, Nat.add_zero, List.getElem?_eq_getElem hk]
    · rw [if_neg e2, mid, mid]
      by_cases e3 : i < k
      · rw [List.getElem?_append_left (by omega), List.getElem?_append_left (by omega), List.getElem?_take, List.getElem?_take, if_pos (by omega), if_pos e3]
      · rw [List.getElem?_append_right (by omega), List.getElem?_append_right (by omega), hl, hl1]
        obtain ⟨m, rfl⟩ : ∃ m, i = k + 2 + m := ⟨i - (k + 2), by omega⟩
        rw [show k + 2 + m - (k + 1) = m + 1 by omega, show k + 2 + m - k = m + 2 by omega, List.getElem?_cons_succ, List.getElem?_cons_succ]
        by_cases e4 : m < P.length - (k + 1)
        · rw [List.getElem?_append_left (by simp; omega), List.getElem?_append_left (by simp; omega), List.getElem?_drop, List.getElem?_drop]
          congr 1
          omega
        · rw [List.getElem?_append_right (by simp; omega), List.getElem?_append_right (by simp; omega)]
          congr 1
          simp
          omega
theorem mid_full (P : List α) (x : α) (T : List α) : mid P P.length x T = P ++ x :: T := by simp [mid]
/-- Where the inner loop stops. -/
theorem mid_done {P : List (Mb × Int)} (hu : Up P) {k : Nat} (hk : k ≤ P.length) {x : Mb × Int} (h1 : ∀ y ∈ P.drop k, x.2 < y.2) (h2 : 0 < k → ∀ h : k - 1 < P.length, P[k - 1].2 ≤ x.2) (T : List (Mb × Int)) : mid P k x T = insV x P ++ T := by
  rw [insV_at x P k hu hk h1 h2]
  simp [mid]
end Go.Proofs.Ybulkejoc
