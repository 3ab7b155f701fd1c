/-
  LAWS OF OUR OWN: an error that is nil, compared with nil.
-/
import Derived.Test.YbulkbiokCompact
import Derived.WideLaws
namespace Go.Proofs.Ybulkbiok
open Go Go.RowKit
theorem nil_eql (w : World) : (binOp .eql 27 .nilIface .nilIface).run Yba.prog w = .ok (.bool true) w := run_eql_nil_nil w 27 (by simp [Program.methodsAt, Yba.underlying27])
theorem nil_neq (w : World) : (binOp .neq 27 .nilIface .nilIface).run Yba.prog w = .ok (.bool false) w := run_neq_nil_nil w 27 (by simp [Program.methodsAt, Yba.underlying27])
theorem wpList_eql_nil {ops : Array Oper} {rest : List Oper} {op : Oper} {a : Act} {w : World} {Q : Exit → Act → World → Prop} (hw : Region.wanted op (yielded ops a.tmps) = true) (x : Operand) (ho : op.op = .binOp .eql 27 x (.const .nilIface) 27)
    (hx : a.eval x = .nilIface) (h : wpList Yba.prog ops Q rest (a.put op.dst (.bool true)) w) : wpList Yba.prog ops Q (op :: rest) a w := by
  refine wpList_step fun K hK => ?_
  rw [if_pos hw]
  have h1 : (eqGuard .eql 27 x (.const .nilIface) .nilIface .nilIface).run Yba.prog w = .ok () w := by simp [eqGuard]
  unfold Oper.wp execOp
  have hc : a.eval (.const .nilIface) = .nilIface := rfl
  simp only [ho, hx, hc, Sem.run_bind, h1, nil_eql, Result.andThen_ok, Sem.run_pure]
  exact hK _ _ h
theorem wpList_neq_nil {ops : Array Oper} {rest : List Oper} {op : Oper} {a : Act} {w : World} {Q : Exit → Act → World → Prop} (hw : Region.wanted op (yielded ops a.tmps) = true) (x : Operand) (ho : op.op = .binOp .neq 27 x (.const .nilIface) 27)
    (hx : a.eval x = .nilIface) (h : wpList Yba.prog ops Q rest (a.put op.dst (.bool false)) w) : wpList Yba.prog ops Q (op :: rest) a w := by
  refine wpList_step fun K hK => ?_
  rw [if_pos hw]
  have h1 : (eqGuard .neq 27 x (.const .nilIface) .nilIface .nilIface).run Yba.prog w = .ok () w := by simp [eqGuard]
  unfold Oper.wp execOp
  have hc : a.eval (.const .nilIface) = .nilIface := rfl
  simp only [ho, hx, hc, Sem.run_bind, h1, nil_neq, Result.andThen_ok, Sem.run_pure]
  exact hK _ _ h
end Go.Proofs.Ybulkbiok
