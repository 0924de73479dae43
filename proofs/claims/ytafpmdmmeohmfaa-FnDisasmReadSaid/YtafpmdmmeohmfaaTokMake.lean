/-
  A new tokenizer; the kinds of faults.
-/
import Derived.Test.YtafpmdmmeohmfaaTokStep
import Derived.Test.YtafpmdmmeohmfaaWFour
namespace Go.Proofs.Ytafpmdmmeohmfaa.Tok
open Go.RowKit Go.Proofs.YtafpmdmmeohmfaaW.PrintWords Go.Proofs.YtafpmdmmeohmfaaW.PrintLast

set_option maxHeartbeats 8000000 in
set_option maxRecDepth 100000 in
theorem make_calls (A : Option Addr) (n c : Nat) (w : World) :
    Calls Try.prog 34 #[.int .u16 0, .slice A n c] w fun e w' =>
      e = .returned (.agg #[.slice A n c, .int .u16 0, .int .i32 0, .int .i32 (-1), .pointer none, .slice none 0 0, .nilIface]) ∧ Below w.heap.size w w' := by
  have hu78 := Try.underlying64
  have HB := Aside0.mk (Below.refl w.heap.size w)
  go_enter Try.func34, Try.ntmps34
  go_wp2
  refine bodyPost_ret (results_cell_row rfl _ _ w.heap.size 64 (cellsT A n c 0 (-1) (.pointer none) (.slice none 0 0) .nilIface) (0, 0) _ rfl (blk_new _ _) Try.underlying64 rfl (by kernel_rfl)) rfl ?_
  exact ⟨rfl, below_alloc (Below.refl _ _) _⟩
set_option maxRecDepth 100000 in
theorem kindOf_nil (w : World) : Calls Try.prog 18 #[.nilIface] w fun e w' => e = .returned (.int .i64 0) ∧ w = w' := by
  have q62 : ∀ w : World, (binOp .eql 42 .nilIface .nilIface).run Try.prog w = .ok (.bool true) w := fun w => run_eql_nil_nil _ _ (by kernel_rfl)
  go_enter Try.func18, Try.ntmps18
  go_wp2
  go_ret
  exact ⟨rfl, rfl⟩
set_option maxHeartbeats 8000000 in
set_option maxRecDepth 100000 in
theorem kindOf_err (s : ByteArray) (w : World) : Calls Try.prog 18 #[.iface 77 (.agg #[.int .i64 27, .string s])] w fun e w' => e = .returned (.int .i64 28) ∧ Below w.heap.size w w' := by
  have hu := Try.underlying77
  have qA : ∀ w : World, (Instr.typeAssert (.iface 77 (.agg #[.int .i64 27, .string s])) 42 77 true).run Try.prog w = .ok (.tuple #[.agg #[.int .i64 27, .string s], .bool true]) w := fun w => by kernel_rfl
  go_enter Try.func18, Try.ntmps18
  go_wp2
  go_ret
  exact ⟨rfl, below_alloc (Below.refl _ _) _⟩
end Go.Proofs.Ytafpmdmmeohmfaa.Tok
