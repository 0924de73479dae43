/-
  A new tokenizer; the kinds of faults.
-/
import Derived.Test.YtmebcbmnfnlihaaTokStep
import Derived.Test.YtmebcbmnfnlihaaWFour
namespace Go.Proofs.Ytmebcbmnfnlihaa.Tok
open Go.RowKit Go.Proofs.YtmebcbmnfnlihaaW.PrintWords Go.Proofs.YtmebcbmnfnlihaaW.PrintLast

set_option maxHeartbeats 8000000 in
set_option maxRecDepth 100000 in
theorem make_calls (A : Option Addr) (n c : Nat) (w : World) :
    Calls Try.prog 58 #[.int .u16 0, .slice A n c] w fun e w' =>
      e = .returned (.agg #[.slice A n c, .int .u16 0, .int .i32 0, .int .i32 (-1), .pointer none, .slice none 0 0, .nilIface]) ∧ Below w.heap.size w w' := by
  have hu78 := Try.underlying78
  have HB := Aside0.mk (Below.refl w.heap.size w)
  go_enter Try.func58, Try.ntmps58
  go_wp2
  refine bodyPost_ret (results_cell_row rfl _ _ w.heap.size 78 (cellsT A n c 0 (-1) (.pointer none) (.slice none 0 0) .nilIface) (0, 0) _ rfl (blk_new _ _) Try.underlying78 rfl (by kernel_rfl)) rfl ?_
  exact ⟨rfl, below_alloc (Below.refl _ _) _⟩
set_option maxRecDepth 100000 in
theorem kindOf_nil (w : World) : Calls Try.prog 49 #[.nilIface] w fun e w' => e = .returned (.int .i64 0) ∧ w = w' := by
  have q62 : ∀ w : World, (binOp .eql 62 .nilIface .nilIface).run Try.prog w = .ok (.bool true) w := fun w => run_eql_nil_nil _ _ (by kernel_rfl)
  go_enter Try.func49, Try.ntmps49
  go_wp2
  go_ret
  exact ⟨rfl, rfl⟩
set_option maxHeartbeats 8000000 in
set_option maxRecDepth 100000 in
theorem kindOf_err (s : ByteArray) (w : World) : Calls Try.prog 49 #[.iface 97 (.agg #[.int .i64 27, .string s])] w fun e w' => e = .returned (.int .i64 28) ∧ Below w.heap.size w w' := by
  have hu := Try.underlying97
  have qA : ∀ w : World, (Instr.typeAssert (.iface 97 (.agg #[.int .i64 27, .string s])) 62 97 true).run Try.prog w = .ok (.tuple #[.agg #[.int .i64 27, .string s], .bool true]) w := fun w => by kernel_rfl
  go_enter Try.func49, Try.ntmps49
  go_wp2
  go_ret
  exact ⟨rfl, below_alloc (Below.refl _ _) _⟩
end Go.Proofs.Ytmebcbmnfnlihaa.Tok
