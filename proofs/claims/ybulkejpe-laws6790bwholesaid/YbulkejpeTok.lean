/- The contracts of 'tokenCode' (7) and of the law's own model 'zzs6790bmodel' (8): both compute 'codeF'. -/
import Derived.Test.YbulkejpeProg
import Derived.WalkKit
import Derived.WalkLawsBesides
import Derived.WalkSpells
import Derived.ProofKit
import Derived.Handy
namespace Go.Proofs.Ybulkejpe
open Go.ChangeShapes Go.WideShapes Go.ChangeAt Go.RowKit Go.IntWalk

def codeF (ep r te tc : Int) : Int := if te = 0 ∧ tc = 0 then 0 else if te ≠ ep then 1 else if wrap64 (tc - r) ≤ 0 then 2 else wrap64 (2 + wrap64 (tc - r))

theorem ret_int {k : IntKind} {a b : Int} (h : a = b) : Ending.returned (.int k a) = .returned (.int k b) := by rw [h]
theorem code_none {ep r te tc : Int} (h1 : te = 0) (h2 : tc = 0) : 0 = codeF ep r te tc := by simp [codeF, h1, h2]
theorem code_other {ep r te tc : Int} (h1 : ¬ (te = 0 ∧ tc = 0)) (h2 : (te != ep) = true) : 1 = codeF ep r te tc := by
  have : te ≠ ep := by simpa using h2
  rw [codeF, if_neg h1, if_pos this]
theorem code_low {ep r te tc : Int} (h1 : ¬ (te = 0 ∧ tc = 0)) (h2 : (te != ep) = false) (h3 : wrap64 (tc - r) ≤ 0) : 2 = codeF ep r te tc := by
  have : ¬ te ≠ ep := by simpa using h2
  rw [codeF, if_neg h1, if_neg this, if_pos h3]
theorem code_high {ep r te tc : Int} (h1 : ¬ (te = 0 ∧ tc = 0)) (h2 : (te != ep) = false) (h3 : 0 < wrap64 (tc - r)) : wrap64 (2 + wrap64 (tc - r)) = codeF ep r te tc := by
  have : ¬ te ≠ ep := by simpa using h2
  rw [codeF, if_neg h1, if_neg this, if_neg (by omega)]

theorem code_low2 {ep r te tc : Int} (h1 : ¬ (te = 0 ∧ tc = 0)) (h2 : (te != ep) = false) (h3 : wrap64 (tc - r) ≤ 0) : wrap64 2 = codeF ep r te tc := by
  rw [show wrap64 2 = 2 from wrap64_in 2 (by omega)]; exact code_low h1 h2 h3

theorem tok_any (lv : Int) (a : Option Addr) (n m : Nat) (r c ep te tc : Int) (w : World) :
    Calls Yba.prog 7 #[.agg #[.int .i64 lv, .slice a n m, .int .i64 r, .int .i64 c, .int .i64 ep], .agg #[.int .i64 te, .int .i64 tc]] w fun e w' => e = .returned (.int .i64 (codeF ep r te tc)) ∧ Below w.heap.size w w' := by
  go_enter Yba.func7, Yba.ntmps7
  go_wp2
  all_goals go_ret
  · exact ⟨ret_int (code_none ‹_› ‹_›), by go_grown⟩
  · have h0 : te = 0 := by assumption
    subst h0
    exact ⟨ret_int (code_other (by omega) ‹_›), by go_grown⟩
  · have h0 : te = 0 := by assumption
    subst h0
    exact ⟨ret_int (code_high (by omega) ‹_› ‹_›), by go_grown⟩
  · have h0 : te = 0 := by assumption
    subst h0
    exact ⟨ret_int (code_low2 (by omega) ‹_› ‹_›), by go_grown⟩
  · exact ⟨ret_int (code_other (by omega) ‹_›), by go_grown⟩
  · exact ⟨ret_int (code_high (by omega) ‹_› ‹_›), by go_grown⟩
  · exact ⟨ret_int (code_low2 (by omega) ‹_› ‹_›), by go_grown⟩
theorem model_any (r ep te tc : Int) (w : World) :
    Calls Yba.prog 8 #[.int .i64 ep, .int .i64 r, .int .i64 te, .int .i64 tc] w fun e w' => e = .returned (.int .i64 (codeF ep r te tc)) ∧ w' = w := by
  go_enter Yba.func8, Yba.ntmps8
  go_wp2
  all_goals go_ret
  · have h1 : (tc == 0) = true := by assumption
    exact ⟨ret_int (code_none ‹_› (by simpa using h1)), rfl⟩
  · have h0 : te = 0 := by assumption
    have h1 : (tc == 0) = false := by assumption
    have h1 : ¬ tc = 0 := by simpa using h1
    subst h0
    exact ⟨ret_int (code_other (by omega) ‹_›), rfl⟩
  · have h0 : te = 0 := by assumption
    have h1 : (tc == 0) = false := by assumption
    have h1 : ¬ tc = 0 := by simpa using h1
    subst h0
    exact ⟨ret_int (code_low (by omega) ‹_› ‹_›), rfl⟩
  · have h0 : te = 0 := by assumption
    have h1 : (tc == 0) = false := by assumption
    have h1 : ¬ tc = 0 := by simpa using h1
    subst h0
    exact ⟨ret_int (code_high (by omega) ‹_› ‹_›), rfl⟩
  · exact ⟨ret_int (code_other (by omega) ‹_›), rfl⟩
  · exact ⟨ret_int (code_low (by omega) ‹_› ‹_›), rfl⟩
  · exact ⟨ret_int (code_high (by omega) ‹_› ‹_›), rfl⟩
end Go.Proofs.Ybulkejpe
