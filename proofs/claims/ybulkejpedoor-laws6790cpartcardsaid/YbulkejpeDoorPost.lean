/- For a law: what the call leaves where below the heap's old size nothing has turned: arguments and named variables read as they did, unopened. -/
import Derived.ProofKit
import Derived.OpenVars
import Derived.OpenShut
import Derived.ShutString
namespace Go.Proofs.YbulkejpeDoor
open Go Go.RowKit Go.WideElems Go.ChangeShapes Go.WideShapes

/-- One closed fact: each type can be read and is a row of the table. -/
def typesRowed (P : Program) (ts : List TypeId) : Bool := ts.all fun t => P.readableRec t && decide (t < P.types.size)

theorem below_trodAll {H : Type} {enc : TypeId × Value → H} {P : Program} (hl : laidOutB P = true) {W W' : World} (hb : Below W.heap.size W W') :
    ∀ {ts : List TypeId} {vs : List Value} {ds : List (DataW H)} {ps : List MemPlace}, typesRowed P ts = true → (∀ x ∈ ps, x.block < W.heap.size) → DataW.TrodAll enc P W 0 (fun _ => true) true ts vs ds ps →
      DataW.TrodAll enc P W' 0 (fun b => decide (b < W.heap.size)) true ts vs ds ps
  | [], _, _, _, _, _, h => by
    obtain ⟨rfl, rfl, rfl⟩ := trodAll_nil h
    exact trodAll_mk0
  | t :: ts, vs, ds, ps, hv, hlt, h => by
    obtain ⟨v, vs', d, ds', p, q, rfl, rfl, rfl, h1, hs⟩ := trodAll_cons h
    simp only [typesRowed, List.all_cons, Bool.and_eq_true, decide_eq_true_eq] at hv
    refine trodAll_cons_mk (Below.trod hl hv.1.1 hv.1.2 h1 hb fun x hx => hlt x (List.mem_append_left _ hx)) (below_trodAll hl hb (by simpa [typesRowed] using hv.2) (fun x hx => hlt x (List.mem_append_right _ hx)) hs)

theorem law_post {H : Type} {enc : TypeId × Value → H} {P : Program} {f : Func} {s : ChangeSpec} {apart : Bool} {W W' : World} {args : Array Value} {ds gs : List (DataW H)} {before : List MemPlace} {t : TypeId}
    (hl : laidOutB P = true) (hW : DataW.Whole enc P f.params.toList s.vars apart W args.toList ds gs before) (hb : Below W.heap.size W W')
    (hp : typesRowed P f.params.toList = true) (hv : varsRowed P s.vars = true) (hr : f.resultTypes = #[t]) (ht : P.underlying t = some .bool)
    (he : s.fn H (ds ++ gs) = { results := [.lit (.bool true)], args := ds, vars := gs }) :
    s.post enc P f apart true false false W args (.bool true) W' := by
  have hlt := hW.lt
  obtain ⟨p, q, hA, hV, rfl, hfz, hnd⟩ := id hW
  refine ⟨ds, gs, _, [], p, q, hW, ?_, ?_, ?_, hb.frame _, fun h => by cases h⟩
  · rw [he, hr]
    exact trodAll_mk1 (shut_bool ht true)
  · rw [he]
    exact below_trodAll hl hb hp (fun x hx => hlt x (List.mem_append_left _ hx)) hA
  · rw [he]
    exact Below.trodVars hl hb hv hV
end Go.Proofs.YbulkejpeDoor
