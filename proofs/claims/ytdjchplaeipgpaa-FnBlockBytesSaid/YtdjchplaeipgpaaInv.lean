/-
  A writer behind an interface value: its Write, called by name.
-/
import Derived.Test.YtdjchplaeipgpaaBuf
namespace Go.Proofs.Ytdjchplaeipgpaa.Buf
open Go.RowKit Go.Proofs.YtdjchplaeipgpaaW.PrintWords Go.Proofs.YtdjchplaeipgpaaW.PrintLast Go.Proofs.Ytdjchplaeipgpaa.Reg
set_option linter.unusedSimpArgs false
set_option linter.unusedVariables false

/-- The writer as an interface value. -/
def Wr (b : Nat) : Value := .iface 64 (.pointer (some ⟨b, 0, none⟩))
theorem call_write (b : Nat) (v : Value) (w : World) : (callMethod (.iface 64 (.pointer (some ⟨b, 0, none⟩))) "Write" #[v]).run Try.prog w = .ok (.enter 87 #[.pointer (some ⟨b, 0, none⟩), v]) w := by kernel_rfl
set_option maxRecDepth 100000 in
theorem exec_write {o : Oper} {ev : Operand → Value} {w : World} {b : Nat} {v : Value} (r x : Operand) (ts : Array TypeId) (ho : o.op = .call { callee := .invoke r "Write", args := #[x], argTypes := ts }) (hr : ev r = Wr b) (hx : ev x = v) :
    (execOp ev o).run Try.prog w = .ok (.enter 87 #[.pointer (some ⟨b, 0, none⟩), v]) w := by
  have h := call_write b v w
  unfold execOp
  have hr' : ev r = .iface 64 (.pointer (some ⟨b, 0, none⟩)) := hr
  simp [ho, resolve, invoke, hr', hx, h]
set_option maxRecDepth 100000 in
theorem exec_nilW {o : Oper} {ev : Operand → Value} (w : World) {b : Nat} (x : Operand) (ho : o.op = .nilCheck x) (hx : ev x = .func (.method "Write") #[Wr b] #[]) :
    (execOp ev o).run Try.prog w = .ok (.value (.func (.method "Write") #[Wr b] #[])) w := by
  unfold execOp
  simp only [ho, hx, Wr]
  kernel_rfl
section
variable {P : Program} {ops : Array Oper} {Q : Exit → Act → World → Prop}
theorem gate_invoke {rest : List Oper} {o : Oper} {a : Act} {w : World} {r : Operand} {xs : Array Operand} {ts : Array TypeId} {n : String} (_ho : o.op = .call { callee := .invoke r n, args := xs, argTypes := ts }) (h : wpList P ops Q (o :: rest) a w) : wpList P ops Q (o :: rest) a w := h
/-- A call of Write in a plain region. -/
theorem writes_L {rest : List Oper} {o : Oper} {a : Act} {w : World} {b : Nat} {v : Value} (hg : o.guard = none) (r x : Operand) (ts : Array TypeId) (ho : o.op = .call { callee := .invoke r "Write", args := #[x], argTypes := ts }) (hr : a.eval r = Wr b) (hx : a.eval x = v)
    (h : Calls Try.prog 87 #[.pointer (some ⟨b, 0, none⟩), v] w fun e w' => ∃ u, e = .returned u ∧ wpList Try.prog ops Q rest (a.put o.dst u) w') : wpList Try.prog ops Q (o :: rest) a w := by
  refine wpList_plain hg fun K hK => ?_
  unfold Oper.wp
  rw [exec_write r x ts ho hr hx, Oper.upon_enter]
  refine h.mono fun e w'' hh => ?_
  obtain ⟨u, rfl, hk⟩ := hh
  exact hK _ _ hk
end
end Go.Proofs.Ytdjchplaeipgpaa.Buf
