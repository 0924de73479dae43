/-
  Words for regions that are walked operation by operation: loads of many cells, builds by a closed equation. No function of the program stands in this text.
-/
import Derived.Test.YtciocjaelmnhiaaDoorWWords
import Derived.Test.YtciocjaelmnhiaaDoorWLast
import Derived.Test.YtciocjaelmnhiaaDoorWMore
import Derived.Lib.Hide
import Derived.Deep.MidRow
import Derived.Laws.Tables
namespace Go.Proofs.YtciocjaelmnhiaaDoor.Reg
open Go.RowKit Go.Proofs.YtciocjaelmnhiaaDoorW.PrintWords Go.Proofs.YtciocjaelmnhiaaDoorW.PrintLast
set_option linter.unusedVariables false

/-- Cells lie at an address. -/
def Lies (w : World) (ad : Addr) (cs : List Value) : Prop := ∀ j v, cs[j]? = some v → w.cell? (ad.add j) = some v
theorem Lies.below {w w1 : World} {ad : Addr} {cs : List Value} (h : Lies w ad cs) (hb : Below w.heap.size w w1) : Lies w1 ad cs := fun j v hj => pw_cell_below hb (h j v hj)
theorem Lies.of_blk {w : World} {g t : Nat} {cs : Array Value} {f : Nat × Nat} (h : w.heap[g]? = some (.cells cs t f)) (o n : Nat) (l : List Value) (hl : ∀ j, j < n → l[j]? = cs[o + j]?) (hn : l.length = n) : Lies w ⟨g, o, none⟩ l := by
  intro j v hj
  have hlt : j < n := by have := (List.getElem?_eq_some_iff.1 hj).1; omega
  rw [Addr.add_mid, cell_of_row _ _ _ _ _ _ h, ← hl j hlt, hj]
theorem exec_load_list {P : Program} {o : Oper} {ev : Operand → Value} {w : World} (ty : TypeId) (x : Operand) (ho : o.op = .load ty x) (ad : Addr) (hx : ev x = .pointer (some ad)) (cs : List Value) (d : TypeDesc) (hc : Lies w ad cs)
    (hu : P.underlying ty = some d) (hd : d.isRow = true) (hi : (P.info? ty).map (·.size) = some cs.length) : (execOp ev o).run P w = .ok (.value (.agg cs.toArray)) w := by
  have hl := run_loadCells_list (P := P) w ad cs hc
  obtain ⟨inf, hq, hs⟩ := Option.map_eq_some_iff.1 hi
  have hagg : (isAgg ty).run P w = .ok true w := by
    unfold isAgg
    rw [Sem.run_bind, run_underlying hu w]
    cases d <;> simp_all
  unfold execOp
  simp [ho, hx, Instr.loadAt, Instr.sureAddr, loadVar, Sem.run_bind, hagg, sizeOf, typeInfo, hq, hs, hl]
theorem exec_made {P : Program} {o : Oper} {ev : Operand → Value} (w : World) (t : TypeId) (parts : Array (Nat × Operand)) (ho : o.op = .build t parts)
    (vs : List (Nat × Value)) (hx : (parts.map fun (i, x) => (i, ev x)).toList = vs) (cells : Array Value) (hb : P.built t vs = some cells) : (execOp ev o).run P w = .ok (.value (.agg cells)) w := by
  unfold execOp
  have hx' : (parts.map fun (i, x) => (i, ev x)) = vs.toArray := by rw [← hx]
  have := run_build (P := P) w t vs.toArray cells hb
  simp only [ho, hx', Sem.run_bind, this, Result.andThen_ok]
  rfl
end Go.Proofs.YtciocjaelmnhiaaDoor.Reg
