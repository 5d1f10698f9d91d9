/- A builtin's step by its run's equation: append, clear. No Go text. -/
import Derived.WalkKit
import Derived.ProofKit
import Derived.Handy
namespace Go.Proofs.Ybulkejoc
open Go Go.RowKit

theorem wpList_append_eq {P : Program} {ops : Array Oper} {rest : List Oper} {o : Oper} {a : Act} {w : World} {Q : Exit → Act → World → Prop} (hgd : o.guard = none) (s x : Operand) (t : TypeId)
    (ho : o.op = .call { callee := .builtin .append, args := #[s, x], argTypes := #[t, t] }) (v u v' : Value) (w' : World) (hs : a.eval s = v) (hx : a.eval x = u)
    (hr : (Builtin.append_ #[t, t] o.type #[v, u]).run P w = .ok v' w') (h : wpList P ops Q rest (a.put o.dst v') w') : wpList P ops Q (o :: rest) a w :=
  wpList_plain hgd fun _ hK => by
    unfold Oper.wp execOp
    simp only [ho, resolve, invoke, builtin, Sem.run_bind, Sem.run_pure, Result.andThen_ok, List.map_toArray, List.map_cons, List.map_nil, hs, hx, hr]
    exact hK _ _ h
theorem wpList_clear_eq {P : Program} {ops : Array Oper} {rest : List Oper} {o : Oper} {a : Act} {w : World} {Q : Exit → Act → World → Prop} (hgd : o.guard = none) (s : Operand) (t : TypeId)
    (ho : o.op = .call { callee := .builtin .clear, args := #[s], argTypes := #[t] }) (v v' : Value) (w' : World) (hs : a.eval s = v)
    (hr : (Builtin.clear_ #[t] o.type #[v]).run P w = .ok v' w') (h : wpList P ops Q rest (a.put o.dst v') w') : wpList P ops Q (o :: rest) a w :=
  wpList_plain hgd fun _ hK => by
    unfold Oper.wp execOp
    simp only [ho, resolve, invoke, builtin, Sem.run_bind, Sem.run_pure, Result.andThen_ok, List.map_toArray, List.map_cons, List.map_nil, hs, hr]
    exact hK _ _ h
end Go.Proofs.Ybulkejoc
