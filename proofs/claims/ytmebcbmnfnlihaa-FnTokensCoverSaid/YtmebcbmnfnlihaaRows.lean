/-
  No cell of these rows narrows 'for every input' (looked for: loops, veiled, ifaces, maps, wideKeys, modest, calm, conditions, laid).
  DERIVED. THE GIVEN ROWS OF THIS SEAT. 8 by the template 'for every input the law returns true; each argument reads behind the call as it read before'; 0 by the template 'total and deterministic' (their statements: YtmebcbmnfnlihaaTotals.lean).
  GIVEN WITH THE SEED: the statements are not yours to turn. If you find one false, say at which input.
  Laid BY PROGRAM, IN A SANDBOX (cutbox-rows.mjs): the forced cells as the released guide's own fill.sh prints them over the translation bc81a492962b3fca… (all of the seat's roots in one cut). By AI agents, Wed Nov 11 2026. No macro, syntax, notation, axiom, sorry.
-/
import Derived.Test.YtmebcbmnfnlihaaChecked
import GoSem.Claim
import GoSem.ClaimJoined
import GoSem.ClaimMapViews
import Derived.JoinedTies
import Derived.KernelRfl
namespace Go.Proofs.Ytmebcbmnfnlihaa
/- THE CELL 'sum', in the pinned program and in every row, IS THE sha256 OF THE DUMP (.gsa) THAT YtmebcbmnfnlihaaProg.lean LOADS. Nothing in Lean hashes anything: it is a label: what it is worth is what the hold of that sum in a sandbox is worth. -/
noncomputable def Try.pinned : Pinned := { name := "ytmebcbmnfnlihaa", sum := "bc81a492962b3fcabdebfd93e045b75b22df5269ed95ce808d383cbcc6fbbe55", checked := Try.checked }
namespace Rows
def none {H : Type} : Left H := { results := [], args := [] }

/-- 'laws.FnForms': WHATEVER THE INPUT: true; the input reads as it did. -/
def fnFormsSpec : ChangeSpec := { name := "fnForms", fn := fun _ => fun
  | [d] => { results := [.lit (.bool true)], args := [d] }
  | _ => none }
def fnFormsRow : OpenClaim := { program := "ytmebcbmnfnlihaa", sum := "bc81a492962b3fcabdebfd93e045b75b22df5269ed95ce808d383cbcc6fbbe55", func := "pub-mintmark/laws.FnForms", spec := "fnForms", apart := false }
def FnFormsSaid : Prop := fnFormsRow.holds Try.pinned (OpenSpec.ofChange fnFormsSpec)

/-- ITS FALSE NEIGHBOUR: 'it returns false'. Refute it at one input. -/
def fnFormsWrong : ChangeSpec := { name := "fnForms", fn := fun _ => fun
  | [d] => { results := [.lit (.bool false)], args := [d] }
  | _ => none }
def FnFormsWrongFalsely : Prop := fnFormsRow.holds Try.pinned (OpenSpec.ofChange fnFormsWrong)

/-- 'laws.FnNumberBytes': WHATEVER THE INPUT: true; the input reads as it did. -/
def fnNumberBytesSpec : ChangeSpec := { name := "fnNumberBytes", fn := fun _ => fun
  | [d] => { results := [.lit (.bool true)], args := [d] }
  | _ => none }
def fnNumberBytesRow : OpenClaim := { program := "ytmebcbmnfnlihaa", sum := "bc81a492962b3fcabdebfd93e045b75b22df5269ed95ce808d383cbcc6fbbe55", func := "pub-mintmark/laws.FnNumberBytes", spec := "fnNumberBytes", apart := false }
def FnNumberBytesSaid : Prop := fnNumberBytesRow.holds Try.pinned (OpenSpec.ofChange fnNumberBytesSpec)

/-- ITS FALSE NEIGHBOUR: 'it returns false'. Refute it at one input. -/
def fnNumberBytesWrong : ChangeSpec := { name := "fnNumberBytes", fn := fun _ => fun
  | [d] => { results := [.lit (.bool false)], args := [d] }
  | _ => none }
def FnNumberBytesWrongFalsely : Prop := fnNumberBytesRow.holds Try.pinned (OpenSpec.ofChange fnNumberBytesWrong)

/-- 'laws.FnBuild': WHATEVER THE INPUT: true; the input reads as it did. -/
def fnBuildSpec : ChangeSpec := { name := "fnBuild", fn := fun _ => fun
  | [d] => { results := [.lit (.bool true)], args := [d] }
  | _ => none }
def fnBuildRow : OpenClaim := { program := "ytmebcbmnfnlihaa", sum := "bc81a492962b3fcabdebfd93e045b75b22df5269ed95ce808d383cbcc6fbbe55", func := "pub-mintmark/laws.FnBuild", spec := "fnBuild", unfollowed := true, recurses := true, named := ["encoding/binary.LittleEndian"], apart := false }
def FnBuildSaid : Prop := fnBuildRow.holds Try.pinned (OpenSpec.ofChange fnBuildSpec)

/-- ITS FALSE NEIGHBOUR: 'it returns false'. Refute it at one input. -/
def fnBuildWrong : ChangeSpec := { name := "fnBuild", fn := fun _ => fun
  | [d] => { results := [.lit (.bool false)], args := [d] }
  | _ => none }
def FnBuildWrongFalsely : Prop := fnBuildRow.holds Try.pinned (OpenSpec.ofChange fnBuildWrong)

/-- 'laws.FnTokensCover': WHATEVER THE INPUT: true; the input reads as it did. -/
def fnTokensCoverSpec : ChangeSpec := { name := "fnTokensCover", fn := fun _ => fun
  | [d] => { results := [.lit (.bool true)], args := [d] }
  | _ => none }
def fnTokensCoverRow : OpenClaim := { program := "ytmebcbmnfnlihaa", sum := "bc81a492962b3fcabdebfd93e045b75b22df5269ed95ce808d383cbcc6fbbe55", func := "pub-mintmark/laws.FnTokensCover", spec := "fnTokensCover", named := ["encoding/binary.LittleEndian"], apart := false }
def FnTokensCoverSaid : Prop := fnTokensCoverRow.holds Try.pinned (OpenSpec.ofChange fnTokensCoverSpec)

/-- ITS FALSE NEIGHBOUR: 'it returns false'. Refute it at one input. -/
def fnTokensCoverWrong : ChangeSpec := { name := "fnTokensCover", fn := fun _ => fun
  | [d] => { results := [.lit (.bool false)], args := [d] }
  | _ => none }
def FnTokensCoverWrongFalsely : Prop := fnTokensCoverRow.holds Try.pinned (OpenSpec.ofChange fnTokensCoverWrong)

/-- 'laws.FnSigOps': WHATEVER THE INPUT: true; the input reads as it did. -/
def fnSigOpsSpec : ChangeSpec := { name := "fnSigOps", fn := fun _ => fun
  | [d] => { results := [.lit (.bool true)], args := [d] }
  | _ => none }
def fnSigOpsRow : OpenClaim := { program := "ytmebcbmnfnlihaa", sum := "bc81a492962b3fcabdebfd93e045b75b22df5269ed95ce808d383cbcc6fbbe55", func := "pub-mintmark/laws.FnSigOps", spec := "fnSigOps", named := ["encoding/binary.LittleEndian"], apart := false }
def FnSigOpsSaid : Prop := fnSigOpsRow.holds Try.pinned (OpenSpec.ofChange fnSigOpsSpec)

/-- ITS FALSE NEIGHBOUR: 'it returns false'. Refute it at one input. -/
def fnSigOpsWrong : ChangeSpec := { name := "fnSigOps", fn := fun _ => fun
  | [d] => { results := [.lit (.bool false)], args := [d] }
  | _ => none }
def FnSigOpsWrongFalsely : Prop := fnSigOpsRow.holds Try.pinned (OpenSpec.ofChange fnSigOpsWrong)

/-- 'laws.FnSigOpsSum': WHATEVER THE INPUT: true; the input reads as it did. -/
def fnSigOpsSumSpec : ChangeSpec := { name := "fnSigOpsSum", fn := fun _ => fun
  | [d1, d2] => { results := [.lit (.bool true)], args := [d1, d2] }
  | _ => none }
def fnSigOpsSumRow : OpenClaim := { program := "ytmebcbmnfnlihaa", sum := "bc81a492962b3fcabdebfd93e045b75b22df5269ed95ce808d383cbcc6fbbe55", func := "pub-mintmark/laws.FnSigOpsSum", spec := "fnSigOpsSum", named := ["encoding/binary.LittleEndian"], apart := false }
def FnSigOpsSumSaid : Prop := fnSigOpsSumRow.holds Try.pinned (OpenSpec.ofChange fnSigOpsSumSpec)

/-- ITS FALSE NEIGHBOUR: 'it returns false'. Refute it at one input. -/
def fnSigOpsSumWrong : ChangeSpec := { name := "fnSigOpsSum", fn := fun _ => fun
  | [d1, d2] => { results := [.lit (.bool false)], args := [d1, d2] }
  | _ => none }
def FnSigOpsSumWrongFalsely : Prop := fnSigOpsSumRow.holds Try.pinned (OpenSpec.ofChange fnSigOpsSumWrong)

/-- 'laws.FnDisasmRead': WHATEVER THE INPUT: true; the input reads as it did. -/
def fnDisasmReadSpec : ChangeSpec := { name := "fnDisasmRead", fn := fun _ => fun
  | [d] => { results := [.lit (.bool true)], args := [d] }
  | _ => none }
def fnDisasmReadRow : OpenClaim := { program := "ytmebcbmnfnlihaa", sum := "bc81a492962b3fcabdebfd93e045b75b22df5269ed95ce808d383cbcc6fbbe55", func := "pub-mintmark/laws.FnDisasmRead", spec := "fnDisasmRead", inPlace := ["internal/abi.NoEscape"], named := ["encoding/binary.LittleEndian"], apart := false }
def FnDisasmReadSaid : Prop := fnDisasmReadRow.holds Try.pinned (OpenSpec.ofChange fnDisasmReadSpec)

/-- ITS FALSE NEIGHBOUR: 'it returns false'. Refute it at one input. -/
def fnDisasmReadWrong : ChangeSpec := { name := "fnDisasmRead", fn := fun _ => fun
  | [d] => { results := [.lit (.bool false)], args := [d] }
  | _ => none }
def FnDisasmReadWrongFalsely : Prop := fnDisasmReadRow.holds Try.pinned (OpenSpec.ofChange fnDisasmReadWrong)

/-- 'laws.FnClass': WHATEVER THE INPUT: true; the input reads as it did. -/
def fnClassSpec : ChangeSpec := { name := "fnClass", fn := fun _ => fun
  | [d] => { results := [.lit (.bool true)], args := [d] }
  | _ => none }
def fnClassRow : OpenClaim := { program := "ytmebcbmnfnlihaa", sum := "bc81a492962b3fcabdebfd93e045b75b22df5269ed95ce808d383cbcc6fbbe55", func := "pub-mintmark/laws.FnClass", spec := "fnClass", named := ["encoding/binary.LittleEndian"], apart := false }
def FnClassSaid : Prop := fnClassRow.holds Try.pinned (OpenSpec.ofChange fnClassSpec)

/-- ITS FALSE NEIGHBOUR: 'it returns false'. Refute it at one input. -/
def fnClassWrong : ChangeSpec := { name := "fnClass", fn := fun _ => fun
  | [d] => { results := [.lit (.bool false)], args := [d] }
  | _ => none }
def FnClassWrongFalsely : Prop := fnClassRow.holds Try.pinned (OpenSpec.ofChange fnClassWrong)

/- THE SECOND FORM. 'bulk': how many values and letters a reading holds, each counted each time it is reached (what is shared counts as often as it is met; a slice's spare places count too). A statement '..UptoSaid' is the law's where the arguments, and the package variables that the reading takes, are together of bulk at most 1048576: NARROWER than '..Said'. Prove '..Said' where nothing that the law and all that it calls make is longer than what came in: it says more and counts as full. Else prove '..UptoSaid'. A law counts once. -/
mutual
def uptoBulk {H : Type} : DataW H → Nat
  | .lit (.string bytes) => bytes.length + 1
  | .lit _ => 1
  | .nil => 1
  | .ptr d => uptoBulk d + 1
  | .slice elems spare => uptoBulkAll elems + uptoBulkAll spare + 1
  | .agg parts => uptoBulkAll parts + 1
  | .iface _ d => uptoBulk d + 1
  | .map entries => uptoBulkEntries entries + 1
  | .held _ => 1
def uptoBulkAll {H : Type} : List (DataW H) → Nat
  | [] => 0
  | d :: r => uptoBulk d + uptoBulkAll r
def uptoBulkEntries {H : Type} : List (Lit × DataW H) → Nat
  | [] => 0
  | x :: r => uptoBulkEntry x + uptoBulkEntries r
def uptoBulkEntry {H : Type} : Lit × DataW H → Nat
  | (.string bytes, d) => bytes.length + uptoBulk d + 1
  | (_, d) => uptoBulk d + 1
 end
def uptoSmall : (H : Type) → List (DataW H) → Bool := fun _ ds => decide (uptoBulkAll ds ≤ 1048576)
def OpenSpec.upto (s : _root_.Go.ChangeSpec) : _root_.Go.OpenSpec := { _root_.Go.OpenSpec.ofChange s with cond := some uptoSmall }

/-- 'laws.FnForms', WHERE WHAT IT READS IS OF BULK AT MOST 1048576: true; the input reads as it did. -/
def fnFormsUptoRow : OpenClaim := { program := "ytmebcbmnfnlihaa", sum := "bc81a492962b3fcabdebfd93e045b75b22df5269ed95ce808d383cbcc6fbbe55", func := "pub-mintmark/laws.FnForms", spec := "fnForms", apart := false, narrowed := true }
def FnFormsUptoSaid : Prop := fnFormsUptoRow.holds Try.pinned (OpenSpec.upto fnFormsSpec)

/-- 'laws.FnNumberBytes', WHERE WHAT IT READS IS OF BULK AT MOST 1048576: true; the input reads as it did. -/
def fnNumberBytesUptoRow : OpenClaim := { program := "ytmebcbmnfnlihaa", sum := "bc81a492962b3fcabdebfd93e045b75b22df5269ed95ce808d383cbcc6fbbe55", func := "pub-mintmark/laws.FnNumberBytes", spec := "fnNumberBytes", apart := false, narrowed := true }
def FnNumberBytesUptoSaid : Prop := fnNumberBytesUptoRow.holds Try.pinned (OpenSpec.upto fnNumberBytesSpec)

/-- 'laws.FnBuild', WHERE WHAT IT READS IS OF BULK AT MOST 1048576: true; the input reads as it did. -/
def fnBuildUptoRow : OpenClaim := { program := "ytmebcbmnfnlihaa", sum := "bc81a492962b3fcabdebfd93e045b75b22df5269ed95ce808d383cbcc6fbbe55", func := "pub-mintmark/laws.FnBuild", spec := "fnBuild", unfollowed := true, recurses := true, named := ["encoding/binary.LittleEndian"], apart := false, narrowed := true }
def FnBuildUptoSaid : Prop := fnBuildUptoRow.holds Try.pinned (OpenSpec.upto fnBuildSpec)

/-- 'laws.FnTokensCover', WHERE WHAT IT READS IS OF BULK AT MOST 1048576: true; the input reads as it did. -/
def fnTokensCoverUptoRow : OpenClaim := { program := "ytmebcbmnfnlihaa", sum := "bc81a492962b3fcabdebfd93e045b75b22df5269ed95ce808d383cbcc6fbbe55", func := "pub-mintmark/laws.FnTokensCover", spec := "fnTokensCover", named := ["encoding/binary.LittleEndian"], apart := false, narrowed := true }
def FnTokensCoverUptoSaid : Prop := fnTokensCoverUptoRow.holds Try.pinned (OpenSpec.upto fnTokensCoverSpec)

/-- 'laws.FnSigOps', WHERE WHAT IT READS IS OF BULK AT MOST 1048576: true; the input reads as it did. -/
def fnSigOpsUptoRow : OpenClaim := { program := "ytmebcbmnfnlihaa", sum := "bc81a492962b3fcabdebfd93e045b75b22df5269ed95ce808d383cbcc6fbbe55", func := "pub-mintmark/laws.FnSigOps", spec := "fnSigOps", named := ["encoding/binary.LittleEndian"], apart := false, narrowed := true }
def FnSigOpsUptoSaid : Prop := fnSigOpsUptoRow.holds Try.pinned (OpenSpec.upto fnSigOpsSpec)

/-- 'laws.FnSigOpsSum', WHERE WHAT IT READS IS OF BULK AT MOST 1048576: true; the input reads as it did. -/
def fnSigOpsSumUptoRow : OpenClaim := { program := "ytmebcbmnfnlihaa", sum := "bc81a492962b3fcabdebfd93e045b75b22df5269ed95ce808d383cbcc6fbbe55", func := "pub-mintmark/laws.FnSigOpsSum", spec := "fnSigOpsSum", named := ["encoding/binary.LittleEndian"], apart := false, narrowed := true }
def FnSigOpsSumUptoSaid : Prop := fnSigOpsSumUptoRow.holds Try.pinned (OpenSpec.upto fnSigOpsSumSpec)

/-- 'laws.FnDisasmRead', WHERE WHAT IT READS IS OF BULK AT MOST 1048576: true; the input reads as it did. -/
def fnDisasmReadUptoRow : OpenClaim := { program := "ytmebcbmnfnlihaa", sum := "bc81a492962b3fcabdebfd93e045b75b22df5269ed95ce808d383cbcc6fbbe55", func := "pub-mintmark/laws.FnDisasmRead", spec := "fnDisasmRead", inPlace := ["internal/abi.NoEscape"], named := ["encoding/binary.LittleEndian"], apart := false, narrowed := true }
def FnDisasmReadUptoSaid : Prop := fnDisasmReadUptoRow.holds Try.pinned (OpenSpec.upto fnDisasmReadSpec)

/-- 'laws.FnClass', WHERE WHAT IT READS IS OF BULK AT MOST 1048576: true; the input reads as it did. -/
def fnClassUptoRow : OpenClaim := { program := "ytmebcbmnfnlihaa", sum := "bc81a492962b3fcabdebfd93e045b75b22df5269ed95ce808d383cbcc6fbbe55", func := "pub-mintmark/laws.FnClass", spec := "fnClass", named := ["encoding/binary.LittleEndian"], apart := false, narrowed := true }
def FnClassUptoSaid : Prop := fnClassUptoRow.holds Try.pinned (OpenSpec.upto fnClassSpec)

end Rows
end Go.Proofs.Ytmebcbmnfnlihaa
