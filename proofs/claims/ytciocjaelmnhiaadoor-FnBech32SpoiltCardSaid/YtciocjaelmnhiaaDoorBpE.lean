/-
  The law of Bech32Spoilt, for the row.
-/
import Derived.Test.YtciocjaelmnhiaaDoorBpD
import Derived.Test.YtciocjaelmnhiaaDoorBpG
namespace Go.Proofs.YtciocjaelmnhiaaDoor.Bp
open Go.RowKit Go.Proofs.YtciocjaelmnhiaaDoorW.PrintWords Go.Proofs.YtciocjaelmnhiaaDoorW.PrintLast Go.Proofs.YtciocjaelmnhiaaDoorW.PrintMore Go.Proofs.YtciocjaelmnhiaaDoor.Reg
set_option linter.unusedSimpArgs false
set_option linter.unusedVariables false

theorem spoilt_row (h : ByteArray) (A : Option Addr) (len cap : Nat) (z : List Int) (m : Bool) (a b x y : Int) (w : World) (_ : h.size ≤ 140737488351232) (hr : Arg .u8 w A len cap z) (_ : len * 1 ≤ 140737488351232) (_ : (Lit.int .i64 a).wf = true) (_ : (Lit.int .i64 b).wf = true) (hx : (Lit.int .u8 x).wf = true) (hy : (Lit.int .u8 y).wf = true) (hg : GenB w.heap.size w) :
    Calls Tryd.prog 3 #[.string h, .slice A len cap, .bool m, .int .i64 a, .int .i64 b, .int .u8 x, .int .u8 y] w fun e w' => e = .returned (.bool true) ∧ Below w.heap.size w w' := by
  obtain ⟨l, rfl, hl, hlc, hlv⟩ := arg_row hr
  exact spoilt_law h A cap l m a b x y w hg hl hlc hlv (wf_u8 hx) (wf_u8 hy)
end Go.Proofs.YtciocjaelmnhiaaDoor.Bp
