/-
  LAWS AT ONE OPERATION, from an equation on its run: append, clear, copy, delete, a map's update.
-/
import Derived.Test.Qxb6630565aE
namespace Go.Proofs.Qxb6630565a
open Go.ChangeShapes Go.WideShapes Go.ChangeAt Go.RowKit

section
variable {P : Program} {w : World}

theorem wp_append2 {o : Oper} {a : Act} {K : Act → World → Prop} {Q : Exit → Act → World → Prop} (s x : Operand) (t1 t2 : TypeId) (ho : o.op = .call { callee := .builtin .append, args := #[s, x], argTypes := #[t1, t2] })
    (v xv r : Value) (w' : World) (hs : a.eval s = v) (hx : a.eval x = xv) (hr : (Builtin.append_ #[t1, t2] o.type #[v, xv]).run P w = .ok r w') (h : K (a.put o.dst r) w') : o.wp P a w K Q := by
  unfold Oper.wp execOp
  simp only [ho, resolve, invoke, builtin, Sem.run_bind, Sem.run_pure, Result.andThen_ok, List.map_toArray, List.map_cons, List.map_nil, hs, hx, hr]
  exact h
theorem wp_copy2 {o : Oper} {a : Act} {K : Act → World → Prop} {Q : Exit → Act → World → Prop} (s x : Operand) (t1 t2 : TypeId) (ho : o.op = .call { callee := .builtin .copy, args := #[s, x], argTypes := #[t1, t2] })
    (v xv r : Value) (w' : World) (hs : a.eval s = v) (hx : a.eval x = xv) (hr : (Builtin.copy_ #[t1, t2] o.type #[v, xv]).run P w = .ok r w') (h : K (a.put o.dst r) w') : o.wp P a w K Q := by
  unfold Oper.wp execOp
  simp only [ho, resolve, invoke, builtin, Sem.run_bind, Sem.run_pure, Result.andThen_ok, List.map_toArray, List.map_cons, List.map_nil, hs, hx, hr]
  exact h
theorem wp_delete2 {o : Oper} {a : Act} {K : Act → World → Prop} {Q : Exit → Act → World → Prop} (s x : Operand) (t1 t2 : TypeId) (ho : o.op = .call { callee := .builtin .delete, args := #[s, x], argTypes := #[t1, t2] })
    (v xv r : Value) (w' : World) (hs : a.eval s = v) (hx : a.eval x = xv) (hr : (Builtin.delete_ #[t1, t2] o.type #[v, xv]).run P w = .ok r w') (h : K (a.put o.dst r) w') : o.wp P a w K Q := by
  unfold Oper.wp execOp
  simp only [ho, resolve, invoke, builtin, Sem.run_bind, Sem.run_pure, Result.andThen_ok, List.map_toArray, List.map_cons, List.map_nil, hs, hx, hr]
  exact h
theorem wp_clear1 {o : Oper} {a : Act} {K : Act → World → Prop} {Q : Exit → Act → World → Prop} (s : Operand) (t1 : TypeId) (ho : o.op = .call { callee := .builtin .clear, args := #[s], argTypes := #[t1] })
    (v r : Value) (w' : World) (hs : a.eval s = v) (hr : (Builtin.clear_ #[t1] o.type #[v]).run P w = .ok r w') (h : K (a.put o.dst r) w') : o.wp P a w K Q := by
  unfold Oper.wp execOp
  simp only [ho, resolve, invoke, builtin, Sem.run_bind, Sem.run_pure, Result.andThen_ok, List.map_toArray, List.map_cons, List.map_nil, hs, hr]
  exact h
theorem wp_mapUpdate3 {o : Oper} {a : Act} {K : Act → World → Prop} {Q : Exit → Act → World → Prop} (m k x : Operand) (t : TypeId) (ho : o.op = .mapUpdate t m k x) (mv kv xv : Value) (w' : World) (hm : a.eval m = mv) (hk : a.eval k = kv) (hx : a.eval x = xv)
    (hr : (Instr.mapUpdate t mv kv xv).run P w = .ok () w') (h : K (a.put o.dst (.tuple #[])) w') : o.wp P a w K Q := by
  unfold Oper.wp execOp
  simp only [ho, Sem.run_bind, hm, hk, hx, hr]
  exact h

theorem step_of {ops : Array Oper} {o : Oper} {a : Act} {K : Act → World → Prop} {Q : Exit → Act → World → Prop} {E : Prop} (hgd : o.guard = none) (h : o.wp P a w K Q) : if Region.wanted o (yielded ops a.tmps) = true then Oper.wp P o a w K Q else E := by
  have hw : Region.wanted o (yielded ops a.tmps) = true := by simp [Region.wanted, hgd]
  rw [if_pos hw]
  exact h
end
end Go.Proofs.Qxb6630565a
