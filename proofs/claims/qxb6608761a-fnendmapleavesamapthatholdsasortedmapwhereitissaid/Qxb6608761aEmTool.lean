import Derived.Test.Qxb6608761aEmRead
import Derived.OwnWalk
import Derived.Deep.RegionLaw
namespace Go.Proofs.Qxb6608761a
open Go.RowKit

variable {P : Program} {w w' : World} {ops : Array Oper} {rest : List Oper} {o : Oper} {a : Act} {Q : Exit → Act → World → Prop} {K : Act → World → Prop} {E : Prop}

/-- A builtin append whose run is known. -/
theorem wpList_append_run (hgd : o.guard = none) (s x : Operand) (t u : TypeId) (ho : o.op = .call { callee := .builtin .append, args := #[s, x], argTypes := #[t, u] }) (v xv v' : Value) (hs : a.eval s = v) (hx : a.eval x = xv)
    (hr : (Builtin.append_ #[t, u] o.type #[v, xv]).run P w = .ok v' w') (h : wpList P ops Q rest (a.put o.dst v') w') : wpList P ops Q (o :: rest) a w := by
  refine wpList_plain hgd fun K hK => ?_
  unfold Oper.wp execOp
  simp only [ho, resolve, invoke, builtin, Sem.run_bind, Sem.run_pure, Result.andThen_ok, List.map_toArray, List.map_cons, List.map_nil, hs, hx, hr]
  exact hK _ _ h
theorem step_append_run (hgd : o.guard = none) (s x : Operand) (t u : TypeId) (ho : o.op = .call { callee := .builtin .append, args := #[s, x], argTypes := #[t, u] }) (v xv v' : Value) (hs : a.eval s = v) (hx : a.eval x = xv)
    (hr : (Builtin.append_ #[t, u] o.type #[v, xv]).run P w = .ok v' w') (h : K (a.put o.dst v') w') : if Region.wanted o (yielded ops a.tmps) = true then Oper.wp P o a w K Q else E := by
  have hw : Region.wanted o (yielded ops a.tmps) = true := by simp [Region.wanted, hgd]
  rw [if_pos hw]
  unfold Oper.wp execOp
  simp only [ho, resolve, invoke, builtin, Sem.run_bind, Sem.run_pure, Result.andThen_ok, List.map_toArray, List.map_cons, List.map_nil, hs, hx, hr]
  exact h
theorem wpList_copy_run (hgd : o.guard = none) (s x : Operand) (t u : TypeId) (ho : o.op = .call { callee := .builtin .copy, args := #[s, x], argTypes := #[t, u] }) (v xv v' : Value) (hs : a.eval s = v) (hx : a.eval x = xv)
    (hr : (Builtin.copy_ #[t, u] o.type #[v, xv]).run P w = .ok v' w') (h : wpList P ops Q rest (a.put o.dst v') w') : wpList P ops Q (o :: rest) a w := by
  refine wpList_plain hgd fun K hK => ?_
  unfold Oper.wp execOp
  simp only [ho, resolve, invoke, builtin, Sem.run_bind, Sem.run_pure, Result.andThen_ok, List.map_toArray, List.map_cons, List.map_nil, hs, hx, hr]
  exact hK _ _ h
theorem step_copy_run (hgd : o.guard = none) (s x : Operand) (t u : TypeId) (ho : o.op = .call { callee := .builtin .copy, args := #[s, x], argTypes := #[t, u] }) (v xv v' : Value) (hs : a.eval s = v) (hx : a.eval x = xv)
    (hr : (Builtin.copy_ #[t, u] o.type #[v, xv]).run P w = .ok v' w') (h : K (a.put o.dst v') w') : if Region.wanted o (yielded ops a.tmps) = true then Oper.wp P o a w K Q else E := by
  have hw : Region.wanted o (yielded ops a.tmps) = true := by simp [Region.wanted, hgd]
  rw [if_pos hw]
  unfold Oper.wp execOp
  simp only [ho, resolve, invoke, builtin, Sem.run_bind, Sem.run_pure, Result.andThen_ok, List.map_toArray, List.map_cons, List.map_nil, hs, hx, hr]
  exact h
end Go.Proofs.Qxb6608761a
