/- A region that draws its order, whose LAST operation z (a store) writes a cell that an earlier load reads: the condition S is asked behind every operation but z. -/
import Derived.Deep.RegionHeld
namespace Go.Proofs.YbulkejpeDoor
open Go

section
variable {P : Program} {ops : Array Oper} {Q : Exit → Act → World → Prop} {md : Region.Mode} {S : World → Prop} {z : Nat}

def wpAnyZ (P : Program) (md : Region.Mode) (ops : Array Oper) (Q : Exit → Act → World → Prop) (S : World → Prop) (z : Nat) : Nat → Array Bool → Act → World → Prop
  | 0, listed, a, w => Region.ready md ops listed = [] ∧ Q .normal a w
  | fuel + 1, listed, a, w =>
    (Region.ready md ops listed = [] → Q .normal a w) ∧
    ∀ i ∈ Region.ready md ops listed, wpOp P ops Q i (fun a' w' => (i ≠ z → S w') ∧ wpAnyZ P md ops Q S z fuel (listed.setIfInBounds i true) a' w') a w

theorem wpAny_of_Z : ∀ (fuel : Nat) (listed : Array Bool) (a : Act) (w : World), wpAnyZ P md ops Q S z fuel listed a w → wpAny P md ops Q fuel listed a w
  | 0, _, _, _, h => h
  | fuel + 1, _, _, _, h => ⟨h.1, fun i hi => wpOp_mono (fun a' w' h' => wpAny_of_Z fuel _ a' w' h'.2) (h.2 i hi)⟩

/-- A chain of operations that have not come up: each but i waits for one of them. -/
def Chain (md : Region.Mode) (ops : Array Oper) (listed : Array Bool) (i : Nat) (C : List Nat) : Prop :=
  ∀ c ∈ C, listed.getD c true = false ∧ (c ≠ i → ∃ oc, ops[c]? = some oc ∧ ∃ e ∈ oc.after, Region.binds md e = true ∧ e.on ∈ C)

theorem Chain.off {listed : Array Bool} {i j : Nat} {C : List Nat} (h : Chain md ops listed i C) (hj : j ∈ Region.ready md ops listed) (hne : j ≠ i) : j ∉ C := by
  intro hc
  obtain ⟨oc, ho, e, he, hb, hon⟩ := (h j hc).2 hne
  obtain ⟨_, o, ho', hall⟩ := mem_ready.1 hj
  rw [ho] at ho'
  cases ho'
  have h1 := hall e he hb
  have h2 := (h _ hon).1
  rcases Nat.lt_or_ge e.on listed.size with h' | h'
  · simp [h'] at h1 h2
    rw [h1] at h2
    cases h2
  · simp [Array.getElem?_eq_none h'] at h1

theorem Chain.set {listed : Array Bool} {i j : Nat} {C : List Nat} (h : Chain md ops listed i C) (hj : j ∉ C) : Chain md ops (listed.setIfInBounds j true) i C := by
  intro c hc
  refine ⟨?_, (h c hc).2⟩
  have hne : j ≠ c := fun e => hj (by rw [e]; exact hc)
  rw [getD_set_ne true hne]
  exact (h c hc).1

theorem wpAnyZ_first {i : Nat} {oi : Oper} {v : Value} {C : List Nat} (hz : z ∈ C) (hi : ops[i]? = some oi) (hsel : ∀ (j : Nat) (o : Oper) cs b, ops[j]? = some o → o.op ≠ .select cs b)
    (hQ : ∀ c a w, Q (.panic c) (a.put oi.dst v) w → Q (.panic c) a w) :
    ∀ (fuel : Nat) (listed : Array Bool) (a : Act) (w : World), Chain md ops listed i C →
      (∀ j oj, ops[j]? = some oj → j ≠ i → listed.getD j true = false → (∀ e ∈ oj.after, Region.binds md e = true → e.on ≠ i) → oi.apart ops oj = true) →
      i ∈ Region.ready md ops listed → YieldsIf P ops S oi v a → S w →
      wpAnyZ P md ops Q S z fuel (listed.setIfInBounds i true) (a.put oi.dst v) w → wpAnyZ P md ops Q S z (fuel + 1) listed a w := by
  intro fuel
  induction fuel with
  | zero =>
    intro listed a w _ _ hr hy hS H
    refine ⟨fun h => (by rw [h] at hr; cases hr), fun j hj => ?_⟩
    by_cases hji : j = i
    · subst hji; exact hy.wpOp hi hS ⟨fun _ => hS, H⟩
    · have := ready_mono hj hji
      rw [H.1] at this
      cases this
  | succ fuel ih =>
    intro listed a w hC hfree hr hy hS H
    refine ⟨fun h => (by rw [h] at hr; cases hr), fun j hj => ?_⟩
    by_cases hji : j = i
    · subst hji; exact hy.wpOp hi hS ⟨fun _ => hS, H⟩
    · have hjC := hC.off hj hji
      have hjz : j ≠ z := fun e => hjC (e ▸ hz)
      have h1 := H.2 j (ready_mono hj hji)
      obtain ⟨hjun, oj, hoj, hall⟩ := mem_ready.1 hj
      have hnot : ∀ e ∈ oj.after, Region.binds md e = true → e.on ≠ i := fun e he hb heq => by
        have h1 := hall e he hb
        have h0 := (mem_ready.1 hr).1
        rw [heq] at h1
        rcases Nat.lt_or_ge i listed.size with h' | h'
        · simp [h'] at h0 h1; rw [h0] at h1; cases h1
        · simp [Array.getElem?_eq_none h'] at h1
      have h2 := wpOp_putIf hoj (hfree j oj hoj hji hjun hnot) (fun cs b => hsel i oi cs b hi) (fun cs b => hsel j oj cs b hoj) hQ hy h1
      have hfree' : ∀ k ok, ops[k]? = some ok → k ≠ i → (listed.setIfInBounds j true).getD k true = false →
          (∀ e ∈ ok.after, Region.binds md e = true → e.on ≠ i) → oi.apart ops ok = true := fun k ok hk hki hun hno => by
        refine hfree k ok hk hki ?_ hno
        by_cases hjk : j = k
        · subst hjk; exact hjun
        · rw [getD_set_ne true hjk] at hun; exact hun
      refine wpOp_mono (fun a' w' h3 => ⟨h3.2.1, ih (listed.setIfInBounds j true) a' w' (hC.set hjC) hfree' (ready_mono hr (Ne.symm hji)) h3.1 (h3.2.1 hjz) ?_⟩) h2
      rw [Array.setIfInBounds_comm _ _ hji]
      exact h3.2.2

def chainB (md : Region.Mode) (ops : Array Oper) (listed : Array Bool) (i : Nat) (C : List Nat) : Bool :=
  C.all fun c => !listed.getD c true && (c == i || match ops[c]? with | some o => o.after.any (fun e => Region.binds md e && C.contains e.on) | none => false)
theorem chain_of {listed : Array Bool} {i : Nat} {C : List Nat} (h : chainB md ops listed i C = true) : Chain md ops listed i C := by
  intro c hc
  have h1 := List.all_eq_true.1 h c hc
  simp only [Bool.and_eq_true, Bool.or_eq_true, beq_iff_eq, Bool.not_eq_true'] at h1
  refine ⟨h1.1, fun hne => ?_⟩
  rcases h1.2 with h2 | h2
  · exact absurd h2 hne
  · cases ho : ops[c]? with
    | none => rw [ho] at h2; cases h2
    | some o =>
      rw [ho] at h2
      obtain ⟨e, he, hb⟩ := Array.any_eq_true'.1 h2
      simp only [Bool.and_eq_true, List.contains_iff_mem] at hb
      exact ⟨o, rfl, e, he, hb.1, hb.2⟩

theorem wpAnyZ_take {i : Nat} (C : List Nat) {oi : Oper} {v : Value} {fuel : Nat} {listed : Array Bool} {a : Act} {w : World} (hi : ops[i]? = some oi) (hz : C.contains z = true) (hc : chainB md ops listed i C = true)
    (hs : Region.noSelect ops = true) (hf : Region.free md ops listed i = true) (hr : (Region.ready md ops listed).contains i = true)
    (hQ : ∀ c a w, Q (.panic c) (a.put oi.dst v) w → Q (.panic c) a w) (hy : YieldsIf P ops S oi v a) (hS : S w)
    (h : wpAnyZ P md ops Q S z fuel (listed.setIfInBounds i true) (a.put oi.dst v) w) : wpAnyZ P md ops Q S z (fuel + 1) listed a w :=
  wpAnyZ_first (by simpa using hz) hi (Region.noSelect_spec hs) hQ fuel listed a w (chain_of hc) (Region.free_spec hi hf) (by simpa using hr) hy hS h

/-- One operation alone may come up; it is not the last. -/
theorem wpAnyZ_one {i : Nat} {o : Oper} {fuel : Nat} {listed : Array Bool} {a : Act} {w : World} (hr : Region.ready md ops listed = [i]) (ho : ops[i]? = some o)
    (h : ∀ K' : Act → World → Prop, Shut (∀ a w, (i ≠ z → S w) → wpAnyZ P md ops Q S z fuel (listed.setIfInBounds i true) a w → K' a w) → if Region.wanted o (yielded ops a.tmps) = true then Oper.wp P o a w K' Q else K' (a.put o.dst undef) w) :
    wpAnyZ P md ops Q S z (fuel + 1) listed a w := by
  refine ⟨fun h0 => (by rw [hr] at h0; cases h0), ?_⟩
  rw [hr]
  intro j hj
  simp only [List.mem_singleton] at hj
  subst hj
  exact wpOp_step ho (fun K' hK => h K' (fun a w hS hW => hK a w ⟨hS, hW⟩))

theorem wpAnyZ_done {listed : Array Bool} {a : Act} {w : World} (hr : Region.ready md ops listed = []) (h : Q .normal a w) :
    ∀ fuel, wpAnyZ P md ops Q S z fuel listed a w
  | 0 => ⟨hr, h⟩
  | _ + 1 => ⟨fun _ => h, by rw [hr]; simp⟩

theorem wp_region_Z {id : Nat} {a : Act} {w : World} (S : World → Prop) (z : Nat) (hm : P.follows .mixedOrders = true)
    (h : wpAnyZ P .any ops Q S z ops.size (Array.replicate ops.size false) a w.drew) : (Code.region id ops true).wp P Q a w :=
  wp_region_any hm (wpAny_of_Z _ _ _ _ h)

/-- The operation number n of a list. -/
def nth : List Oper → Nat → Option Oper
  | o :: _, 0 => some o
  | _ :: l, n + 1 => nth l n
  | [], _ => none
theorem nth_eq : ∀ (l : List Oper) (n : Nat), nth l n = l[n]?
  | [], n => by cases n <;> rfl
  | o :: l, 0 => by simp [nth]
  | o :: l, n + 1 => by simp [nth, nth_eq l n]

/-- Operation number i is taken first. -/
theorem zTake (i : Nat) (C : List Nat) {oi : Oper} {v : Value} {fuel : Nat} {listed : Array Bool} {a : Act} {w : World} (hi : nth ops.toList i = some oi) (hz : C.contains z = true) (hc : chainB md ops listed i C = true)
    (hs : Region.noSelect ops = true) (hf : Region.free md ops listed i = true) (hr : (Region.ready md ops listed).contains i = true)
    (hQ : ∀ c a w, Q (.panic c) (a.put oi.dst v) w → Q (.panic c) a w) (hy : YieldsIf P ops S oi v a) (hS : S w)
    (h : wpAnyZ P md ops Q S z fuel (listed.setIfInBounds i true) (a.put oi.dst v) w) : wpAnyZ P md ops Q S z (fuel + 1) listed a w :=
  wpAnyZ_take C (by rw [nth_eq] at hi; simpa using hi) hz hc hs hf hr hQ hy hS h

/-- Operation number i alone may come up. -/
theorem zOne (i : Nat) {o : Oper} {fuel : Nat} {listed : Array Bool} {a : Act} {w : World} (hr : Region.ready md ops listed = [i]) (ho : nth ops.toList i = some o)
    (h : ∀ K' : Act → World → Prop, Shut (∀ a w, (i ≠ z → S w) → wpAnyZ P md ops Q S z fuel (listed.setIfInBounds i true) a w → K' a w) → if Region.wanted o (yielded ops a.tmps) = true then Oper.wp P o a w K' Q else K' (a.put o.dst undef) w) :
    wpAnyZ P md ops Q S z (fuel + 1) listed a w := wpAnyZ_one hr (by rw [nth_eq] at ho; simpa using ho) h
end
end Go.Proofs.YbulkejpeDoor
