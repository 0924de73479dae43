-- PRINTED BY print.sh 35421559b90ae4d0a3588c463048766b98c2df88dd9212a6774a882060cdf62d: not written by this session
import Derived.Test.YthmhojgjkfinlaaProg
import Derived.Below
import Derived.Deep.Draws
import Derived.Deep.AppendLies
import Derived.Maps.AppendAt
import Derived.OwnWalk
import Derived.Laws.BytesArg
import Derived.Laws.MakeOwn
import Derived.Laws.OwnMore
import Derived.Deep.OwnRows
import Derived.Tactics
import Derived.Lib.ConvBytes
import Derived.Laws.Slices
import Derived.WalkKit
import Derived.KernelRfl
import Derived.RowKit3
import Derived.Deep.LoopGhost
import Derived.Deep.QuietTactic
import Derived.BigQuiet
import Derived.WideLaws
import Derived.Deep.DeepCutAuto
import Derived.Deep.CutBlock
import Derived.Deep.RegionHeld3
import Derived.Laws.Rows
import Derived.Lib.AppendStr
import Derived.ArgAppend
import Derived.Laws.IdiomCopy
import Derived.OrdersHeld
import Derived.Laws.BitsLemmas
import Derived.RowKit
import Derived.Test.YthmhojgjkfinlaaWWords
import Derived.Test.YthmhojgjkfinlaaWLast
import Derived.Test.YthmhojgjkfinlaaWTab
import Derived.Test.YthmhojgjkfinlaaWFour
import Derived.Test.YthmhojgjkfinlaaWQPut
import Derived.Test.YthmhojgjkfinlaaWApart
import Derived.Test.YthmhojgjkfinlaaWArr
import Derived.Test.YthmhojgjkfinlaaWZeros
import Derived.Test.YthmhojgjkfinlaaWFoot
import Derived.Test.YthmhojgjkfinlaaWKept
import Derived.Test.YthmhojgjkfinlaaWShare
import Derived.Test.YthmhojgjkfinlaaWN
import Derived.Test.YthmhojgjkfinlaaWFootNe
import Derived.Test.YthmhojgjkfinlaaWAt
import Derived.Test.YthmhojgjkfinlaaWEqStruct
import Derived.Test.YthmhojgjkfinlaaWRepsOne
import Derived.Test.YthmhojgjkfinlaaWInv
import Derived.Test.YthmhojgjkfinlaaWInvWords
import Derived.Test.YthmhojgjkfinlaaWGuard
import Derived.Test.YthmhojgjkfinlaaWNEv
import Derived.Test.YthmhojgjkfinlaaWMore
namespace Go.Proofs.Ythmhojgjkfinlaa.PFnMedianTime
open Go.RowKit Go.Proofs.YthmhojgjkfinlaaW.PrintWords Go.Proofs.YthmhojgjkfinlaaW.PrintLast Go.Proofs.YthmhojgjkfinlaaW.PrintMore
attribute [local go_sem] max2_int min2_int max_two min_two max_three min_three max_four min_four   -- for this text's walks alone
set_option linter.unusedVariables false
set_option linter.unusedSimpArgs false



def errW : Option Int → Value
  | none => .nilIface
  | some c => .iface 0 (.int .i64 c)
theorem errW_none : errW none = .nilIface := rfl
theorem errW_some (c : Int) : errW (some c) = .iface 0 (.int .i64 c) := rfl

theorem info2 : (Try.prog.info? 2).map (fun i => (i.zero, i.size, i.bytes)) = some (some (.int .i64 0), 1, 8) := by kernel_rfl
-- the values' own types

end Go.Proofs.Ythmhojgjkfinlaa.PFnMedianTime
