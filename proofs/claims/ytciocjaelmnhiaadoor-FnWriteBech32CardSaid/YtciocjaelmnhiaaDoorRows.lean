/-
  NARROWER THAN 'FOR EVERY INPUT', by the rows' own cells (each row's printed sentence says how): FnBech32Spoilt: laid · FnWriteBech32: laid.
  DERIVED. THE GIVEN ROWS OF THIS SEAT. 2 by the template 'for every input the law returns true; each argument reads behind the call as it read before'; 0 by the template 'total and deterministic' (their statements: YtciocjaelmnhiaaDoorTotals.lean).
  GIVEN WITH THE SEED: the statements are not yours to turn. If you find one false, say at which input.
  Laid BY PROGRAM, IN A SANDBOX (cutbox-rows.mjs): the forced cells as the released guide's own fill.sh prints them over the translation ab7d1a4b3e29ea0d… (all of the seat's roots in one cut). By AI agents, Wed Nov 11 2026. No macro, syntax, notation, axiom, sorry.
-/
import Derived.Test.YtciocjaelmnhiaaDoorChecked
import GoSem.Claim
import GoSem.ClaimJoined
import GoSem.ClaimMapViews
import Derived.JoinedTies
import Derived.KernelRfl
namespace Go.Proofs.YtciocjaelmnhiaaDoor
/- THE CELL 'sum', in the pinned program and in every row, IS THE sha256 OF THE DUMP (.gsa) THAT YtciocjaelmnhiaaDoorProg.lean LOADS. Nothing in Lean hashes anything: it is a label: what it is worth is what the hold of that sum in a sandbox is worth. -/
noncomputable def Tryd.pinned : Pinned := { name := "ytciocjaelmnhiaadoor", sum := "ab7d1a4b3e29ea0d4d557391f70beff884c247ff6e3bb310a206260c51addee5", checked := Tryd.checked }
namespace Rows
def none {H : Type} : Left H := { results := [], args := [] }

/- WHAT THE LISTED PACKAGE-LEVEL VARIABLES READ AS WHEN THE CALL BEGINS. Each datum BY PROGRAM (the guide's laid-datum.mjs) off the statement by which the dump's own 'gosem.cut.vars' lays the variable. In a bare row this is a premise. The card (YtciocjaelmnhiaaDoorCards.lean) ties it to the program's text. -/
def laid_pub_mintmark_pub_btcdaddress_bech32_gen {H : Type} : DataW H := .slice [.lit (.int .i64 996825010), .lit (.int .i64 642813549), .lit (.int .i64 513874426), .lit (.int .i64 1027748829), .lit (.int .i64 705979059)] []

/-- 'laws.FnBech32Spoilt': WHATEVER THE INPUT: true; the input reads as it did. -/
def fnBech32SpoiltSpec : ChangeSpec := { name := "fnBech32Spoilt", fn := fun _ => fun
  | [d1, d2, d3, d4, d5, d6, d7] => { results := [.lit (.bool true)], args := [d1, d2, d3, d4, d5, d6, d7] }
  | _ => none }
def fnBech32SpoiltRow : OpenClaim := { program := "ytciocjaelmnhiaadoor", sum := "ab7d1a4b3e29ea0d4d557391f70beff884c247ff6e3bb310a206260c51addee5", func := "pub-mintmark/laws.FnBech32Spoilt", spec := "fnBech32Spoilt", inPlace := ["internal/abi.NoEscape", "internal/bytealg.MakeNoZero", "internal/bytealg.IndexByteString"], named := ["pub-mintmark/pub/btcdaddress/bech32.gen"], apart := false, laid := [("pub-mintmark/pub/btcdaddress/bech32.gen", laid_pub_mintmark_pub_btcdaddress_bech32_gen)] }
def FnBech32SpoiltSaid : Prop := fnBech32SpoiltRow.holds Tryd.pinned (OpenSpec.ofChange fnBech32SpoiltSpec)

/-- ITS FALSE NEIGHBOUR: 'it returns false'. Refute it at one input. -/
def fnBech32SpoiltWrong : ChangeSpec := { name := "fnBech32Spoilt", fn := fun _ => fun
  | [d1, d2, d3, d4, d5, d6, d7] => { results := [.lit (.bool false)], args := [d1, d2, d3, d4, d5, d6, d7] }
  | _ => none }
def FnBech32SpoiltWrongFalsely : Prop := fnBech32SpoiltRow.holds Tryd.pinned (OpenSpec.ofChange fnBech32SpoiltWrong)

/-- 'laws.FnWriteBech32': WHATEVER THE INPUT: true; the input reads as it did. -/
def fnWriteBech32Spec : ChangeSpec := { name := "fnWriteBech32", fn := fun _ => fun
  | [d1, d2, d3] => { results := [.lit (.bool true)], args := [d1, d2, d3] }
  | _ => none }
def fnWriteBech32Row : OpenClaim := { program := "ytciocjaelmnhiaadoor", sum := "ab7d1a4b3e29ea0d4d557391f70beff884c247ff6e3bb310a206260c51addee5", func := "pub-mintmark/laws.FnWriteBech32", spec := "fnWriteBech32", inPlace := ["internal/abi.NoEscape", "internal/bytealg.MakeNoZero", "internal/bytealg.IndexByteString"], named := ["pub-mintmark/pub/btcdaddress/bech32.gen"], apart := false, laid := [("pub-mintmark/pub/btcdaddress/bech32.gen", laid_pub_mintmark_pub_btcdaddress_bech32_gen)] }
def FnWriteBech32Said : Prop := fnWriteBech32Row.holds Tryd.pinned (OpenSpec.ofChange fnWriteBech32Spec)

/-- ITS FALSE NEIGHBOUR: 'it returns false'. Refute it at one input. -/
def fnWriteBech32Wrong : ChangeSpec := { name := "fnWriteBech32", fn := fun _ => fun
  | [d1, d2, d3] => { results := [.lit (.bool false)], args := [d1, d2, d3] }
  | _ => none }
def FnWriteBech32WrongFalsely : Prop := fnWriteBech32Row.holds Tryd.pinned (OpenSpec.ofChange fnWriteBech32Wrong)

/- THE SECOND FORM. 'bulk': how many values and letters a reading holds, each counted each time it is reached (what is shared counts as often as it is met; a slice's spare places count too). A statement '..UptoSaid' is the law's where the arguments, and the package variables that the reading takes, are together of bulk at most 1048576: NARROWER than '..Said'. Prove '..Said' where nothing that the law and all that it calls make is longer than what came in: it says more and counts as full. Else prove '..UptoSaid'. A law counts once. -/
mutual
def uptoBulk {H : Type} : DataW H → Nat
  | .lit (.string bytes) => bytes.length + 1
  | .lit _ => 1
  | .nil => 1
  | .ptr d => uptoBulk d + 1
  | .slice elems spare => uptoBulkAll elems + uptoBulkAll spare + 1
  | .agg parts => uptoBulkAll parts + 1
  | .iface _ d => uptoBulk d + 1
  | .map entries => uptoBulkEntries entries + 1
  | .held _ => 1
def uptoBulkAll {H : Type} : List (DataW H) → Nat
  | [] => 0
  | d :: r => uptoBulk d + uptoBulkAll r
def uptoBulkEntries {H : Type} : List (Lit × DataW H) → Nat
  | [] => 0
  | x :: r => uptoBulkEntry x + uptoBulkEntries r
def uptoBulkEntry {H : Type} : Lit × DataW H → Nat
  | (.string bytes, d) => bytes.length + uptoBulk d + 1
  | (_, d) => uptoBulk d + 1
 end
def uptoSmall : (H : Type) → List (DataW H) → Bool := fun _ ds => decide (uptoBulkAll ds ≤ 1048576)
def OpenSpec.upto (s : _root_.Go.ChangeSpec) : _root_.Go.OpenSpec := { _root_.Go.OpenSpec.ofChange s with cond := some uptoSmall }

/-- 'laws.FnBech32Spoilt', WHERE WHAT IT READS IS OF BULK AT MOST 1048576: true; the input reads as it did. -/
def fnBech32SpoiltUptoRow : OpenClaim := { program := "ytciocjaelmnhiaadoor", sum := "ab7d1a4b3e29ea0d4d557391f70beff884c247ff6e3bb310a206260c51addee5", func := "pub-mintmark/laws.FnBech32Spoilt", spec := "fnBech32Spoilt", inPlace := ["internal/abi.NoEscape", "internal/bytealg.MakeNoZero", "internal/bytealg.IndexByteString"], named := ["pub-mintmark/pub/btcdaddress/bech32.gen"], apart := false, laid := [("pub-mintmark/pub/btcdaddress/bech32.gen", laid_pub_mintmark_pub_btcdaddress_bech32_gen)], narrowed := true }
def FnBech32SpoiltUptoSaid : Prop := fnBech32SpoiltUptoRow.holds Tryd.pinned (OpenSpec.upto fnBech32SpoiltSpec)

/-- 'laws.FnWriteBech32', WHERE WHAT IT READS IS OF BULK AT MOST 1048576: true; the input reads as it did. -/
def fnWriteBech32UptoRow : OpenClaim := { program := "ytciocjaelmnhiaadoor", sum := "ab7d1a4b3e29ea0d4d557391f70beff884c247ff6e3bb310a206260c51addee5", func := "pub-mintmark/laws.FnWriteBech32", spec := "fnWriteBech32", inPlace := ["internal/abi.NoEscape", "internal/bytealg.MakeNoZero", "internal/bytealg.IndexByteString"], named := ["pub-mintmark/pub/btcdaddress/bech32.gen"], apart := false, laid := [("pub-mintmark/pub/btcdaddress/bech32.gen", laid_pub_mintmark_pub_btcdaddress_bech32_gen)], narrowed := true }
def FnWriteBech32UptoSaid : Prop := fnWriteBech32UptoRow.holds Tryd.pinned (OpenSpec.upto fnWriteBech32Spec)

end Rows
end Go.Proofs.YtciocjaelmnhiaaDoor
