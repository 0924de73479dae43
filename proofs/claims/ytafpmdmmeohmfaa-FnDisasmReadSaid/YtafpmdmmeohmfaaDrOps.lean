/-
  The opcodes' words; what opcode, unhex, Push, Least and same compute. The tables are printed by wip/gen/drops.py.
-/
import Derived.Test.YtafpmdmmeohmfaaDrFun
import Derived.Test.YtafpmdmmeohmfaaDrRaw
import Derived.Lib.HexFns
namespace Go.Proofs.Ytafpmdmmeohmfaa.Dr
open Go.RowKit Go.Proofs.YtafpmdmmeohmfaaW.PrintWords Go.Proofs.YtafpmdmmeohmfaaW.PrintLast Go.Proofs.YtafpmdmmeohmfaaW.PrintMore Go.Proofs.Ytafpmdmmeohmfaa.PFnDisasmRead Go.Proofs.Ytafpmdmmeohmfaa.Tok
open Go.Lib (Hx.encode Hx.digit Hx.encode_length Hx.encode_cons)
set_option linter.unusedSimpArgs false
set_option linter.unusedVariables false

theorem mono_le {α : Type} {f : Nat → Option α} (h : ∀ k, LeO (f k) (f (k + 1))) {a b : Nat} {r : α} (ha : f a = some r) (hab : a ≤ b) : f b = some r := by
  obtain ⟨d, rfl⟩ := Nat.exists_eq_add_of_le hab
  clear hab
  induction d with
  | zero => exact ha
  | succ d ih => exact h (a + d) r ih
/-- The names of the opcodes from 97 on. -/
def wsS : List (List UInt8) := [
  [78, 79, 80],
  [86, 69, 82],
  [73, 70],
  [78, 79, 84, 73, 70],
  [86, 69, 82, 73, 70],
  [86, 69, 82, 78, 79, 84, 73, 70],
  [69, 76, 83, 69],
  [69, 78, 68, 73, 70],
  [86, 69, 82, 73, 70, 89],
  [82, 69, 84, 85, 82, 78],
  [84, 79, 65, 76, 84, 83, 84, 65, 67, 75],
  [70, 82, 79, 77, 65, 76, 84, 83, 84, 65, 67, 75],
  [50, 68, 82, 79, 80],
  [50, 68, 85, 80],
  [51, 68, 85, 80],
  [50, 79, 86, 69, 82],
  [50, 82, 79, 84],
  [50, 83, 87, 65, 80],
  [73, 70, 68, 85, 80],
  [68, 69, 80, 84, 72],
  [68, 82, 79, 80],
  [68, 85, 80],
  [78, 73, 80],
  [79, 86, 69, 82],
  [80, 73, 67, 75],
  [82, 79, 76, 76],
  [82, 79, 84],
  [83, 87, 65, 80],
  [84, 85, 67, 75],
  [67, 65, 84],
  [83, 85, 66, 83, 84, 82],
  [76, 69, 70, 84],
  [82, 73, 71, 72, 84],
  [83, 73, 90, 69],
  [73, 78, 86, 69, 82, 84],
  [65, 78, 68],
  [79, 82],
  [88, 79, 82],
  [69, 81, 85, 65, 76],
  [69, 81, 85, 65, 76, 86, 69, 82, 73, 70, 89],
  [82, 69, 83, 69, 82, 86, 69, 68, 49],
  [82, 69, 83, 69, 82, 86, 69, 68, 50],
  [49, 65, 68, 68],
  [49, 83, 85, 66],
  [50, 77, 85, 76],
  [50, 68, 73, 86],
  [78, 69, 71, 65, 84, 69],
  [65, 66, 83],
  [78, 79, 84],
  [48, 78, 79, 84, 69, 81, 85, 65, 76],
  [65, 68, 68],
  [83, 85, 66],
  [77, 85, 76],
  [68, 73, 86],
  [77, 79, 68],
  [76, 83, 72, 73, 70, 84],
  [82, 83, 72, 73, 70, 84],
  [66, 79, 79, 76, 65, 78, 68],
  [66, 79, 79, 76, 79, 82],
  [78, 85, 77, 69, 81, 85, 65, 76],
  [78, 85, 77, 69, 81, 85, 65, 76, 86, 69, 82, 73, 70, 89],
  [78, 85, 77, 78, 79, 84, 69, 81, 85, 65, 76],
  [76, 69, 83, 83, 84, 72, 65, 78],
  [71, 82, 69, 65, 84, 69, 82, 84, 72, 65, 78],
  [76, 69, 83, 83, 84, 72, 65, 78, 79, 82, 69, 81, 85, 65, 76],
  [71, 82, 69, 65, 84, 69, 82, 84, 72, 65, 78, 79, 82, 69, 81, 85, 65, 76],
  [77, 73, 78],
  [77, 65, 88],
  [87, 73, 84, 72, 73, 78],
  [82, 73, 80, 69, 77, 68, 49, 54, 48],
  [83, 72, 65, 49],
  [83, 72, 65, 50, 53, 54],
  [72, 65, 83, 72, 49, 54, 48],
  [72, 65, 83, 72, 50, 53, 54],
  [67, 79, 68, 69, 83, 69, 80, 65, 82, 65, 84, 79, 82],
  [67, 72, 69, 67, 75, 83, 73, 71],
  [67, 72, 69, 67, 75, 83, 73, 71, 86, 69, 82, 73, 70, 89],
  [67, 72, 69, 67, 75, 77, 85, 76, 84, 73, 83, 73, 71],
  [67, 72, 69, 67, 75, 77, 85, 76, 84, 73, 83, 73, 71, 86, 69, 82, 73, 70, 89],
  [78, 79, 80, 49],
  [67, 72, 69, 67, 75, 76, 79, 67, 75, 84, 73, 77, 69, 86, 69, 82, 73, 70, 89],
  [67, 72, 69, 67, 75, 83, 69, 81, 85, 69, 78, 67, 69, 86, 69, 82, 73, 70, 89],
  [78, 79, 80, 52],
  [78, 79, 80, 53],
  [78, 79, 80, 54],
  [78, 79, 80, 55],
  [78, 79, 80, 56],
  [78, 79, 80, 57],
  [78, 79, 80, 49, 48],
  [67, 72, 69, 67, 75, 83, 73, 71, 65, 68, 68]]
/-- Each opcode's word, as the law looks it up; the empty one: there is none. -/
def tabS : List (List UInt8) := [
  [48],
  [],
  [],
  [],
  [],
  [],
  [],
  [],
  [],
  [],
  [],
  [],
  [],
  [],
  [],
  [],
  [],
  [],
  [],
  [],
  [],
  [],
  [],
  [],
  [],
  [],
  [],
  [],
  [],
  [],
  [],
  [],
  [],
  [],
  [],
  [],
  [],
  [],
  [],
  [],
  [],
  [],
  [],
  [],
  [],
  [],
  [],
  [],
  [],
  [],
  [],
  [],
  [],
  [],
  [],
  [],
  [],
  [],
  [],
  [],
  [],
  [],
  [],
  [],
  [],
  [],
  [],
  [],
  [],
  [],
  [],
  [],
  [],
  [],
  [],
  [],
  [],
  [],
  [],
  [79, 80, 95, 49, 78, 69, 71, 65, 84, 69],
  [79, 80, 95, 82, 69, 83, 69, 82, 86, 69, 68],
  [49],
  [50],
  [51],
  [52],
  [53],
  [54],
  [55],
  [56],
  [57],
  [49, 48],
  [49, 49],
  [49, 50],
  [49, 51],
  [49, 52],
  [49, 53],
  [49, 54],
  [79, 80, 95, 78, 79, 80],
  [79, 80, 95, 86, 69, 82],
  [79, 80, 95, 73, 70],
  [79, 80, 95, 78, 79, 84, 73, 70],
  [79, 80, 95, 86, 69, 82, 73, 70],
  [79, 80, 95, 86, 69, 82, 78, 79, 84, 73, 70],
  [79, 80, 95, 69, 76, 83, 69],
  [79, 80, 95, 69, 78, 68, 73, 70],
  [79, 80, 95, 86, 69, 82, 73, 70, 89],
  [79, 80, 95, 82, 69, 84, 85, 82, 78],
  [79, 80, 95, 84, 79, 65, 76, 84, 83, 84, 65, 67, 75],
  [79, 80, 95, 70, 82, 79, 77, 65, 76, 84, 83, 84, 65, 67, 75],
  [79, 80, 95, 50, 68, 82, 79, 80],
  [79, 80, 95, 50, 68, 85, 80],
  [79, 80, 95, 51, 68, 85, 80],
  [79, 80, 95, 50, 79, 86, 69, 82],
  [79, 80, 95, 50, 82, 79, 84],
  [79, 80, 95, 50, 83, 87, 65, 80],
  [79, 80, 95, 73, 70, 68, 85, 80],
  [79, 80, 95, 68, 69, 80, 84, 72],
  [79, 80, 95, 68, 82, 79, 80],
  [79, 80, 95, 68, 85, 80],
  [79, 80, 95, 78, 73, 80],
  [79, 80, 95, 79, 86, 69, 82],
  [79, 80, 95, 80, 73, 67, 75],
  [79, 80, 95, 82, 79, 76, 76],
  [79, 80, 95, 82, 79, 84],
  [79, 80, 95, 83, 87, 65, 80],
  [79, 80, 95, 84, 85, 67, 75],
  [79, 80, 95, 67, 65, 84],
  [79, 80, 95, 83, 85, 66, 83, 84, 82],
  [79, 80, 95, 76, 69, 70, 84],
  [79, 80, 95, 82, 73, 71, 72, 84],
  [79, 80, 95, 83, 73, 90, 69],
  [79, 80, 95, 73, 78, 86, 69, 82, 84],
  [79, 80, 95, 65, 78, 68],
  [79, 80, 95, 79, 82],
  [79, 80, 95, 88, 79, 82],
  [79, 80, 95, 69, 81, 85, 65, 76],
  [79, 80, 95, 69, 81, 85, 65, 76, 86, 69, 82, 73, 70, 89],
  [79, 80, 95, 82, 69, 83, 69, 82, 86, 69, 68, 49],
  [79, 80, 95, 82, 69, 83, 69, 82, 86, 69, 68, 50],
  [79, 80, 95, 49, 65, 68, 68],
  [79, 80, 95, 49, 83, 85, 66],
  [79, 80, 95, 50, 77, 85, 76],
  [79, 80, 95, 50, 68, 73, 86],
  [79, 80, 95, 78, 69, 71, 65, 84, 69],
  [79, 80, 95, 65, 66, 83],
  [79, 80, 95, 78, 79, 84],
  [79, 80, 95, 48, 78, 79, 84, 69, 81, 85, 65, 76],
  [79, 80, 95, 65, 68, 68],
  [79, 80, 95, 83, 85, 66],
  [79, 80, 95, 77, 85, 76],
  [79, 80, 95, 68, 73, 86],
  [79, 80, 95, 77, 79, 68],
  [79, 80, 95, 76, 83, 72, 73, 70, 84],
  [79, 80, 95, 82, 83, 72, 73, 70, 84],
  [79, 80, 95, 66, 79, 79, 76, 65, 78, 68],
  [79, 80, 95, 66, 79, 79, 76, 79, 82],
  [79, 80, 95, 78, 85, 77, 69, 81, 85, 65, 76],
  [79, 80, 95, 78, 85, 77, 69, 81, 85, 65, 76, 86, 69, 82, 73, 70, 89],
  [79, 80, 95, 78, 85, 77, 78, 79, 84, 69, 81, 85, 65, 76],
  [79, 80, 95, 76, 69, 83, 83, 84, 72, 65, 78],
  [79, 80, 95, 71, 82, 69, 65, 84, 69, 82, 84, 72, 65, 78],
  [79, 80, 95, 76, 69, 83, 83, 84, 72, 65, 78, 79, 82, 69, 81, 85, 65, 76],
  [79, 80, 95, 71, 82, 69, 65, 84, 69, 82, 84, 72, 65, 78, 79, 82, 69, 81, 85, 65, 76],
  [79, 80, 95, 77, 73, 78],
  [79, 80, 95, 77, 65, 88],
  [79, 80, 95, 87, 73, 84, 72, 73, 78],
  [79, 80, 95, 82, 73, 80, 69, 77, 68, 49, 54, 48],
  [79, 80, 95, 83, 72, 65, 49],
  [79, 80, 95, 83, 72, 65, 50, 53, 54],
  [79, 80, 95, 72, 65, 83, 72, 49, 54, 48],
  [79, 80, 95, 72, 65, 83, 72, 50, 53, 54],
  [79, 80, 95, 67, 79, 68, 69, 83, 69, 80, 65, 82, 65, 84, 79, 82],
  [79, 80, 95, 67, 72, 69, 67, 75, 83, 73, 71],
  [79, 80, 95, 67, 72, 69, 67, 75, 83, 73, 71, 86, 69, 82, 73, 70, 89],
  [79, 80, 95, 67, 72, 69, 67, 75, 77, 85, 76, 84, 73, 83, 73, 71],
  [79, 80, 95, 67, 72, 69, 67, 75, 77, 85, 76, 84, 73, 83, 73, 71, 86, 69, 82, 73, 70, 89],
  [79, 80, 95, 78, 79, 80, 49],
  [79, 80, 95, 67, 72, 69, 67, 75, 76, 79, 67, 75, 84, 73, 77, 69, 86, 69, 82, 73, 70, 89],
  [79, 80, 95, 67, 72, 69, 67, 75, 83, 69, 81, 85, 69, 78, 67, 69, 86, 69, 82, 73, 70, 89],
  [79, 80, 95, 78, 79, 80, 52],
  [79, 80, 95, 78, 79, 80, 53],
  [79, 80, 95, 78, 79, 80, 54],
  [79, 80, 95, 78, 79, 80, 55],
  [79, 80, 95, 78, 79, 80, 56],
  [79, 80, 95, 78, 79, 80, 57],
  [79, 80, 95, 78, 79, 80, 49, 48],
  [79, 80, 95, 67, 72, 69, 67, 75, 83, 73, 71, 65, 68, 68],
  [79, 80, 95, 85, 78, 75, 78, 79, 87, 78, 49, 56, 55],
  [79, 80, 95, 85, 78, 75, 78, 79, 87, 78, 49, 56, 56],
  [79, 80, 95, 85, 78, 75, 78, 79, 87, 78, 49, 56, 57],
  [79, 80, 95, 85, 78, 75, 78, 79, 87, 78, 49, 57, 48],
  [79, 80, 95, 85, 78, 75, 78, 79, 87, 78, 49, 57, 49],
  [79, 80, 95, 85, 78, 75, 78, 79, 87, 78, 49, 57, 50],
  [79, 80, 95, 85, 78, 75, 78, 79, 87, 78, 49, 57, 51],
  [79, 80, 95, 85, 78, 75, 78, 79, 87, 78, 49, 57, 52],
  [79, 80, 95, 85, 78, 75, 78, 79, 87, 78, 49, 57, 53],
  [79, 80, 95, 85, 78, 75, 78, 79, 87, 78, 49, 57, 54],
  [79, 80, 95, 85, 78, 75, 78, 79, 87, 78, 49, 57, 55],
  [79, 80, 95, 85, 78, 75, 78, 79, 87, 78, 49, 57, 56],
  [79, 80, 95, 85, 78, 75, 78, 79, 87, 78, 49, 57, 57],
  [79, 80, 95, 85, 78, 75, 78, 79, 87, 78, 50, 48, 48],
  [79, 80, 95, 85, 78, 75, 78, 79, 87, 78, 50, 48, 49],
  [79, 80, 95, 85, 78, 75, 78, 79, 87, 78, 50, 48, 50],
  [79, 80, 95, 85, 78, 75, 78, 79, 87, 78, 50, 48, 51],
  [79, 80, 95, 85, 78, 75, 78, 79, 87, 78, 50, 48, 52],
  [79, 80, 95, 85, 78, 75, 78, 79, 87, 78, 50, 48, 53],
  [79, 80, 95, 85, 78, 75, 78, 79, 87, 78, 50, 48, 54],
  [79, 80, 95, 85, 78, 75, 78, 79, 87, 78, 50, 48, 55],
  [79, 80, 95, 85, 78, 75, 78, 79, 87, 78, 50, 48, 56],
  [79, 80, 95, 85, 78, 75, 78, 79, 87, 78, 50, 48, 57],
  [79, 80, 95, 85, 78, 75, 78, 79, 87, 78, 50, 49, 48],
  [79, 80, 95, 85, 78, 75, 78, 79, 87, 78, 50, 49, 49],
  [79, 80, 95, 85, 78, 75, 78, 79, 87, 78, 50, 49, 50],
  [79, 80, 95, 85, 78, 75, 78, 79, 87, 78, 50, 49, 51],
  [79, 80, 95, 85, 78, 75, 78, 79, 87, 78, 50, 49, 52],
  [79, 80, 95, 85, 78, 75, 78, 79, 87, 78, 50, 49, 53],
  [79, 80, 95, 85, 78, 75, 78, 79, 87, 78, 50, 49, 54],
  [79, 80, 95, 85, 78, 75, 78, 79, 87, 78, 50, 49, 55],
  [79, 80, 95, 85, 78, 75, 78, 79, 87, 78, 50, 49, 56],
  [79, 80, 95, 85, 78, 75, 78, 79, 87, 78, 50, 49, 57],
  [79, 80, 95, 85, 78, 75, 78, 79, 87, 78, 50, 50, 48],
  [79, 80, 95, 85, 78, 75, 78, 79, 87, 78, 50, 50, 49],
  [79, 80, 95, 85, 78, 75, 78, 79, 87, 78, 50, 50, 50],
  [79, 80, 95, 85, 78, 75, 78, 79, 87, 78, 50, 50, 51],
  [79, 80, 95, 85, 78, 75, 78, 79, 87, 78, 50, 50, 52],
  [79, 80, 95, 85, 78, 75, 78, 79, 87, 78, 50, 50, 53],
  [79, 80, 95, 85, 78, 75, 78, 79, 87, 78, 50, 50, 54],
  [79, 80, 95, 85, 78, 75, 78, 79, 87, 78, 50, 50, 55],
  [79, 80, 95, 85, 78, 75, 78, 79, 87, 78, 50, 50, 56],
  [79, 80, 95, 85, 78, 75, 78, 79, 87, 78, 50, 50, 57],
  [79, 80, 95, 85, 78, 75, 78, 79, 87, 78, 50, 51, 48],
  [79, 80, 95, 85, 78, 75, 78, 79, 87, 78, 50, 51, 49],
  [79, 80, 95, 85, 78, 75, 78, 79, 87, 78, 50, 51, 50],
  [79, 80, 95, 85, 78, 75, 78, 79, 87, 78, 50, 51, 51],
  [79, 80, 95, 85, 78, 75, 78, 79, 87, 78, 50, 51, 52],
  [79, 80, 95, 85, 78, 75, 78, 79, 87, 78, 50, 51, 53],
  [79, 80, 95, 85, 78, 75, 78, 79, 87, 78, 50, 51, 54],
  [79, 80, 95, 85, 78, 75, 78, 79, 87, 78, 50, 51, 55],
  [79, 80, 95, 85, 78, 75, 78, 79, 87, 78, 50, 51, 56],
  [79, 80, 95, 85, 78, 75, 78, 79, 87, 78, 50, 51, 57],
  [79, 80, 95, 85, 78, 75, 78, 79, 87, 78, 50, 52, 48],
  [79, 80, 95, 85, 78, 75, 78, 79, 87, 78, 50, 52, 49],
  [79, 80, 95, 85, 78, 75, 78, 79, 87, 78, 50, 52, 50],
  [79, 80, 95, 85, 78, 75, 78, 79, 87, 78, 50, 52, 51],
  [79, 80, 95, 85, 78, 75, 78, 79, 87, 78, 50, 52, 52],
  [79, 80, 95, 85, 78, 75, 78, 79, 87, 78, 50, 52, 53],
  [79, 80, 95, 85, 78, 75, 78, 79, 87, 78, 50, 52, 54],
  [79, 80, 95, 85, 78, 75, 78, 79, 87, 78, 50, 52, 55],
  [79, 80, 95, 85, 78, 75, 78, 79, 87, 78, 50, 52, 56],
  [79, 80, 95, 85, 78, 75, 78, 79, 87, 78, 50, 52, 57],
  [79, 80, 95, 83, 77, 65, 76, 76, 73, 78, 84, 69, 71, 69, 82],
  [79, 80, 95, 80, 85, 66, 75, 69, 89, 83],
  [79, 80, 95, 85, 78, 75, 78, 79, 87, 78, 50, 53, 50],
  [79, 80, 95, 80, 85, 66, 75, 69, 89, 72, 65, 83, 72],
  [79, 80, 95, 80, 85, 66, 75, 69, 89],
  [79, 80, 95, 73, 78, 86, 65, 76, 73, 68, 79, 80, 67, 79, 68, 69]]
def wordS (op : Nat) : List UInt8 := tabS.getD op []
theorem nms_list : nmsB.data.toList = [] ++ blanked wsS := by decide +kernel
theorem ws_noB : ∀ t ∈ wsS, NoB t := by
  have h : wsS.all (fun t => t.all fun x => x.toNat != 32) = true := by decide +kernel
  intro t ht x hx e
  have h1 := List.all_eq_true.1 (List.all_eq_true.1 h t ht) x hx
  simp [e] at h1
theorem tab_size : tabS.length = 256 := by decide +kernel
theorem ws_size : wsS.length = 90 := by decide +kernel
theorem tab_words : (List.range 90).all (fun i => decide (wordS (97 + i) = 79 :: 80 :: 95 :: wsS.getD i [])) = true := by decide +kernel
theorem tab_names : (List.range 256).all (fun j => decide (j < 79) || decide (81 ≤ j ∧ j ≤ 186) || decide ((spec_Name.f 10 (j : Int)).map (·.data.toList) = some (wordS j))) = true := by decide +kernel
theorem tab_small : (List.range 256).all (fun j => match spec_Small.f (j : Int) with
    | some (n, true) => decide ((laws_decimal.f n).map (·.data.toList) = some (wordS j))
    | some (_, false) => decide (j ≠ 0 ∧ ¬ (81 ≤ j ∧ j ≤ 96)) && (decide (78 < j) || decide (wordS j = []))
    | none => false) = true := by decide +kernel
theorem part_name (i : Nat) (h : i < 90) : spec_part.f (blanked wsS).length nmsB (i : Int) = some ⟨(wsS.getD i []).toArray⟩ := by
  have h1 : i < wsS.length := by rw [ws_size]; exact h
  have := part_l0 nmsB (by rw [size_list, nms_list]; decide +kernel) 0 wsS i [] h1 nms_list ws_noB (by omega)
  rw [Nat.zero_add] at this
  rw [spec_part.f]
  refine this.trans ?_
  simp [h1]
theorem nms_len : (blanked wsS).length ≤ 1000 := by decide +kernel
/-- An opcode's name. -/
theorem name_f (j : Nat) (h1 : 78 < j) (h2 : j < 256) (h3 : ¬ (81 ≤ j ∧ j ≤ 96)) (k : Nat) (hk : 1000 ≤ k) : ∃ d, spec_Name.f k (j : Int) = some d ∧ d.data.toList = wordS j := by
  by_cases h : 97 ≤ j ∧ j ≤ 186
  · obtain ⟨i, rfl⟩ : ∃ i, j = 97 + i := ⟨j - 97, by omega⟩
    have hi : i < 90 := by omega
    have hp := mono_le (fun k => spec_part.mono nmsB (i : Int) k) (part_name i hi) (Nat.le_trans nms_len hk)
    have hw : wordS (97 + i) = 79 :: 80 :: 95 :: wsS.getD i [] := by
      have := List.all_eq_true.1 tab_words i (List.mem_range.2 hi)
      exact of_decide_eq_true this
    have hlen : (wsS.getD i []).length ≤ 1000 := by
      have hb : wsS.all (fun t => decide (t.length ≤ 1000)) = true := by decide +kernel
      have : wsS.getD i [] ∈ wsS := by
        rw [List.getD_eq_getElem?_getD, List.getElem?_eq_getElem (by rw [ws_size]; exact hi)]
        exact List.getElem_mem _
      exact of_decide_eq_true (List.all_eq_true.1 hb _ this)
    refine ⟨(⟨#[79, 80, 95]⟩ : ByteArray) ++ ⟨(wsS.getD i []).toArray⟩, ?_, ?_⟩
    · rw [spec_Name.f, if_neg (by omega), if_neg (by omega), if_neg (by omega), if_neg (by omega), if_neg (by omega), if_neg (by omega), if_pos (by omega),
        show wrap64 (((97 + i : Nat) : Int) - 97) = (i : Int) by rw [wrap64_id (by omega) (by omega)]; omega, hp, Option.bind_some, if_pos (by rw [size_list]; simp only; omega)]
    · rw [hw]
      simp
  · have := List.all_eq_true.1 tab_names j (List.mem_range.2 h2)
    rw [Bool.or_eq_true, Bool.or_eq_true, decide_eq_true_eq, decide_eq_true_eq, decide_eq_true_eq] at this
    rcases this with (h4 | h4) | h4
    · omega
    · omega
    · cases e : spec_Name.f 10 (j : Int) with
      | none => rw [e] at h4; cases h4
      | some d =>
        rw [e, Option.map_some] at h4
        injection h4 with h4
        exact ⟨d, mono_le (fun k => spec_Name.mono (j : Int) k) e (by omega), h4⟩
/-- One round of opcode. -/
theorem opcode_step (s : ByteArray) (hs : s.data.toList ≠ []) (j k : Nat) (hj : j < 256) (hk : 1000 ≤ k) :
    laws_opcode.l0 (k + 1) s (j : Int) = if s.data.toList = wordS j then some ((j : Int), true) else laws_opcode.l0 k s ((j + 1 : Nat) : Int) := by
  have hw : wrap64 ((j : Int) + 1) = ((j + 1 : Nat) : Int) := wrap_succ (by omega)
  have hsm := List.all_eq_true.1 tab_small j (List.mem_range.2 hj)
  rw [laws_opcode.l0, if_pos (by omega), hw]
  cases e : spec_Small.f (j : Int) with
  | none => rw [e] at hsm; cases hsm
  | some p =>
    obtain ⟨n, b⟩ := p
    rw [e] at hsm
    cases b with
    | true =>
      simp only [decide_eq_true_eq] at hsm
      rw [Option.bind_some, if_pos rfl]
      cases e2 : laws_decimal.f n with
      | none => rw [e2] at hsm; cases hsm
      | some d =>
        rw [e2, Option.map_some] at hsm
        injection hsm with hsm
        rw [Option.bind_some, ByteArray.toList_eq, ByteArray.toList_eq, hsm]
    | false =>
      simp only [Bool.and_eq_true, Bool.or_eq_true, decide_eq_true_eq] at hsm
      rw [Option.bind_some, if_neg (by intro h; cases h)]
      by_cases h78 : 78 < j
      · obtain ⟨d, hd, hdl⟩ := name_f j h78 hj hsm.1.2 k hk
        rw [if_pos (by omega), hd, Option.bind_some, ByteArray.toList_eq, ByteArray.toList_eq, hdl]
      · have hn : wordS j = [] := hsm.2.resolve_left h78
        rw [if_neg (by omega), hn, if_neg hs]
theorem opcode_found (s : ByteArray) (hs : s.data.toList ≠ []) (op : Nat) (hop : op < 256) (he : s.data.toList = wordS op) (hd : ∀ j, j < op → s.data.toList ≠ wordS j) :
    ∀ (m j : Nat), j + m = op → laws_opcode.l0 (1001 + m) s (j : Int) = some ((op : Int), true)
  | 0, j, h => by
    have : j = op := by omega
    subst this
    rw [show 1001 + 0 = 1000 + 1 by rfl, opcode_step s hs j 1000 hop (by omega), if_pos he]
  | m + 1, j, h => by
    rw [show 1001 + (m + 1) = (1001 + m) + 1 by rfl, opcode_step s hs j (1001 + m) (by omega) (by omega), if_neg (hd j (by omega))]
    exact opcode_found s hs op hop he hd m (j + 1) (by omega)
theorem opcode_none (s : ByteArray) (hs : s.data.toList ≠ []) (hd : ∀ j, j < 256 → s.data.toList ≠ wordS j) :
    ∀ (m j : Nat), j + m = 256 → laws_opcode.l0 (1001 + m) s (j : Int) = some (0, false)
  | 0, j, h => by
    have : j = 256 := by omega
    subst this
    rw [laws_opcode.l0, if_neg (by decide)]
  | m + 1, j, h => by
    rw [show 1001 + (m + 1) = (1001 + m) + 1 by rfl, opcode_step s hs j (1001 + m) (by omega) (by omega), if_neg (hd j (by omega))]
    exact opcode_none s hs hd m (j + 1) (by omega)
/-- An opcode that pushes no bytes of its own. -/
def Single (op : Nat) : Prop := op < 256 ∧ (op = 0 ∨ 78 < op)
/-- Its word in a disassembly. -/
def wordI (op : Nat) : List UInt8 := if op = 79 then [45, 49] else wordS op
theorem tab_apart : tabS.Pairwise fun a b => b ≠ [] → a ≠ b := by decide +kernel
theorem wordS_at {j : Nat} (h : j < 256) : wordS j = tabS[j]'(by rw [tab_size]; exact h) := by
  unfold wordS
  simp [tab_size, h]
theorem wordS_apart {j op : Nat} (h : j < op) (hop : op < 256) (hn : wordS op ≠ []) : wordS j ≠ wordS op := by
  have := List.pairwise_iff_getElem.1 tab_apart j op (by rw [tab_size]; omega) (by rw [tab_size]; exact hop) h
  rw [wordS_at hop] at hn ⊢
  rw [wordS_at (by omega)]
  exact this hn
theorem tab_form : (List.range 256).all (fun j => (decide (1 ≤ j ∧ j ≤ 78) || decide (wordS j ≠ [])) && decide (wordS j ≠ [45, 49]) && (wordS j).all (fun x => x.toNat != 32) && decide ((wordS j).length ≤ 2 ∨ (wordS j).head? = some 79)) = true := by decide +kernel
theorem form {j : Nat} (h : j < 256) : (¬ (1 ≤ j ∧ j ≤ 78) → wordS j ≠ []) ∧ wordS j ≠ [45, 49] ∧ NoB (wordS j) ∧ ((wordS j).length ≤ 2 ∨ (wordS j).head? = some 79) := by
  have := List.all_eq_true.1 tab_form j (List.mem_range.2 h)
  simp only [Bool.and_eq_true, Bool.or_eq_true, decide_eq_true_eq] at this
  refine ⟨fun h1 => this.1.1.1.resolve_left h1, this.1.1.2, fun x hx e => ?_, this.2⟩
  have h1 := List.all_eq_true.1 this.1.2 x hx
  simp [e] at h1
theorem wordI_form {op : Nat} (h : Single op) : NoB (wordI op) ∧ wordI op ≠ [] := by
  unfold wordI
  by_cases e : op = 79
  · rw [if_pos e]
    refine ⟨?_, by decide⟩
    intro x hx
    simp at hx
    rcases hx with rfl | rfl <;> decide
  · rw [if_neg e]
    have := form h.1
    exact ⟨this.2.2.1, this.1 (by rcases h.2 with h | h <;> omega)⟩
/-- An opcode's word is told. -/
theorem opcode_word {op : Nat} (h : Single op) : ∃ k, laws_opcode.f k ⟨(wordI op).toArray⟩ = some ((op : Int), true) := by
  by_cases e : op = 79
  · subst e
    refine ⟨0, ?_⟩
    rw [laws_opcode.f, if_pos (by rw [ByteArray.toList_eq]; rfl)]
    rfl
  · have hf := form h.1
    have hne := hf.1 (by rcases h.2 with h | h <;> omega)
    have hw : wordI op = wordS op := if_neg e
    refine ⟨1001 + op, ?_⟩
    rw [laws_opcode.f, if_neg (by rw [ByteArray.toList_eq, hw]; exact hf.2.1)]
    exact opcode_found _ (by rw [hw]; exact hne) op h.1 (by rw [hw]) (fun j hj => by rw [hw]; exact Ne.symm (wordS_apart hj h.1 hne)) op 0 (by omega)

/-! ### hex digits -/
theorem dig_ok : ∀ n : Fin 16, (Hx.digit n.val).toNat ≠ 32 ∧ (Hx.digit n.val).toNat ≠ 79 ∧ laws_digit.f 2 ((Hx.digit n.val).toNat : Int) = some ((n.val : Int), true) := by decide +kernel
theorem enc_ok (l : List UInt8) : ∀ x ∈ Hx.encode l, x.toNat ≠ 32 ∧ x.toNat ≠ 79 := by
  intro x hx
  unfold Hx.encode at hx
  obtain ⟨b, _, hb⟩ := List.mem_flatMap.1 hx
  have h1 := dig_ok ⟨b.toNat / 16, by have := b.toNat_lt; omega⟩
  have h2 := dig_ok ⟨b.toNat % 16, by omega⟩
  simp only [List.mem_cons, List.not_mem_nil, or_false] at hb
  rcases hb with rfl | rfl
  · exact ⟨h1.1, h1.2.1⟩
  · exact ⟨h2.1, h2.2.1⟩
theorem opcode_hex (l : List UInt8) (h : 2 ≤ l.length) : ∃ k, laws_opcode.f k ⟨(Hx.encode l).toArray⟩ = some (0, false) := by
  have hl := Hx.encode_length l
  have hne : Hx.encode l ≠ [] := by
    intro e
    rw [e] at hl
    simp at hl
    omega
  refine ⟨1257, ?_⟩
  rw [laws_opcode.f, if_neg (by rw [ByteArray.toList_eq]; intro e; have := congrArg List.length e; simp only [hl] at this; simp at this; omega)]
  refine opcode_none ⟨(Hx.encode l).toArray⟩ hne (fun j hj e => ?_) 256 0 rfl
  have e' : Hx.encode l = wordS j := e
  rcases (form hj).2.2.2 with h1 | h1
  · rw [← e', hl] at h1
    omega
  · rw [← e'] at h1
    cases hx : Hx.encode l with
    | nil => exact hne hx
    | cons x r =>
      rw [hx] at h1
      injection h1 with h1
      have := (enc_ok l x (by rw [hx]; exact List.mem_cons_self)).2
      rw [h1] at this
      exact this rfl
theorem byte_parts (x : Int) (h : 0 ≤ x ∧ x < 256) : (16 * (((UInt8.ofNat x.toNat).toNat / 16 : Nat) : Int) + (((UInt8.ofNat x.toNat).toNat % 16 : Nat) : Int)) % 256 = x := by
  rw [Lib.Hx.byte_toNat x h.1 h.2]
  omega
theorem unhex_l0 (s : ByteArray) (hs : s.size < 100000) : ∀ (d : List Int) (a : List UInt8) (out : List Int) (k : Nat), s.data.toList = a ++ Hx.encode (Lib.bytesOf d) → Tok.Bytes d → out.length + d.length < 100000 → s.size % 2 = 0 →
    laws_unhex.l0 (k + d.length + 3) s out (a.length : Int) = some (out ++ d, true)
  | [], a, out, k, h, hb, hn, h2 => by
    have hl : s.size = a.length := by rw [size_list, h]; simp [Lib.bytesOf, Hx.encode]
    rw [laws_unhex.l0, wrap_succ (by omega), if_neg (by omega), List.append_nil, show (((s.size : Int) % 2) == 0) = true by rw [beq_iff_eq]; omega]
  | x :: d, a, out, k, h, hb, hn, h2 => by
    have hx := hb x List.mem_cons_self
    have e : Lib.bytesOf (x :: d) = UInt8.ofNat x.toNat :: Lib.bytesOf d := rfl
    rw [e, Hx.encode_cons] at h
    have hl : s.size = a.length + 2 + (Hx.encode (Lib.bytesOf d)).length := by rw [size_list, h]; simp; omega
    have h3 : s.data.toList = (a ++ [Hx.digit ((UInt8.ofNat x.toNat).toNat / 16)]) ++ Hx.digit ((UInt8.ofNat x.toNat).toNat % 16) :: Hx.encode (Lib.bytesOf d) := by rw [h]; simp
    have b1 := bt_mid h
    have b2 := bt_mid h3
    rw [List.length_append, List.length_cons, List.length_nil] at b2
    have d1 := (dig_ok ⟨(UInt8.ofNat x.toNat).toNat / 16, by have := (UInt8.ofNat x.toNat).toNat_lt; omega⟩).2.2
    have d2 := (dig_ok ⟨(UInt8.ofNat x.toNat).toNat % 16, by omega⟩).2.2
    have d1 := mono_le (fun k => laws_digit.mono _ k) d1 (show 2 ≤ k + d.length + 3 by omega)
    have d2 := mono_le (fun k => laws_digit.mono _ k) d2 (show 2 ≤ k + d.length + 3 by omega)
    have ih := unhex_l0 s hs d (a ++ [Hx.digit ((UInt8.ofNat x.toNat).toNat / 16), Hx.digit ((UInt8.ofNat x.toNat).toNat % 16)]) (out ++ [x]) k (by rw [h]; simp) (fun y hy => hb y (List.mem_cons_of_mem _ hy)) (by simp at hn ⊢; omega) h2
    rw [List.length_append, List.length_cons, List.length_cons, List.length_nil] at ih
    rw [show k + (x :: d).length + 3 = (k + d.length + 3) + 1 by simp; omega, laws_unhex.l0, wrap_succ (by omega), if_pos (by omega), if_pos (by omega), if_pos (by omega), b1, d1, Option.bind_some, if_pos (by omega), b2, d2, Option.bind_some, if_pos rfl, if_pos rfl, if_pos (by simp at hn; omega),
      show wrap64 ((a.length : Int) + 2) = ((a.length + (0 + 1 + 1) : Nat) : Int) by rw [wrap64_id (by omega) (by omega)]; push_cast; rfl]
    simp only
    rw [byte_parts x hx, ih, List.append_assoc]
    rfl
/-- A push's digits are read again. -/
theorem unhex_f (d : List Int) (hb : Tok.Bytes d) (hn : d.length < 20000) : ∃ k, laws_unhex.f k ⟨(Hx.encode (Lib.bytesOf d)).toArray⟩ = some (d, true) := by
  have hl : (Lib.bytesOf d).length = d.length := Lib.bytesOf_length d
  have hsz : (⟨(Hx.encode (Lib.bytesOf d)).toArray⟩ : ByteArray).size = 2 * d.length := by rw [size_list]; exact (Hx.encode_length _).trans (by rw [hl])
  exact ⟨_, unhex_l0 ⟨(Hx.encode (Lib.bytesOf d)).toArray⟩ (by omega) d [] [] 0 rfl hb (by simp; omega) (by omega)⟩

/-! ### Least, Push -/
/-- The shortest push of two bytes or more. -/
def leastOf (n : Nat) : Int := if n < 76 then n else if n ≤ 255 then 76 else if n ≤ 65535 then 77 else 78
theorem least_f (d : List Int) (h : 2 ≤ d.length) : spec_Least.f 2 d = some (leastOf d.length) := by
  unfold leastOf
  rw [spec_Least.f, if_neg (by omega), if_neg (by omega), spec_Least.j0, if_neg (by decide), if_neg (by omega), spec_Least.j1, if_neg (by decide)]
  by_cases h1 : d.length < 76
  · rw [if_pos (by omega), if_pos h1]
  · rw [if_neg (by omega), if_neg h1]
    by_cases h2 : d.length ≤ 255
    · rw [if_pos (by omega), if_pos h2]
    · rw [if_neg (by omega), if_neg h2]
      by_cases h3 : d.length ≤ 65535
      · rw [if_pos (by omega), if_pos h3]
      · rw [if_neg (by omega), if_neg h3]
theorem leB_length (w n : Nat) : (leB w n).length = w := by
  induction w generalizing n with
  | zero => rfl
  | succ w ih => simp [leB, ih]
theorem push_l0 (d : List Int) (op : Int) (h76 : 76 ≤ op) (h78 : op ≤ 78) (W : Nat) (hW : W ≤ 4) (hs : shl .i64 1 (wrap64 (op - 76)) = (W : Int)) (hd : d.length < 100000) : ∀ (m : Nat) (out : List Int) (n i k : Nat), i + m = W → out.length + m < 100000 →
    spec_Push.l0 (k + m + 1) d op out (n : Int) (i : Int) = some (out ++ (leB m n ++ d))
  | 0, out, n, i, k, h, hn => by
    rw [spec_Push.l0, if_pos (by omega), if_pos (by rw [wrap64_id (by omega) (by omega)]; omega), hs, if_neg (by omega), if_pos (by omega)]
    rfl
  | m + 1, out, n, i, k, h, hn => by
    have ih := push_l0 d op h76 h78 W hW hs hd m (out ++ [((n % 256 : Nat) : Int)]) (n / 256) (i + 1) k (by omega) (by simp; omega)
    rw [show k + (m + 1) + 1 = (k + m + 1) + 1 by omega, spec_Push.l0, if_pos (by omega), if_pos (by rw [wrap64_id (by omega) (by omega)]; omega), hs, if_pos (by omega), if_pos (by omega), wrap_succ (by omega),
      show (n : Int) % 256 = ((n % 256 : Nat) : Int) by omega, show (n : Int) / 256 = ((n / 256 : Nat) : Int) by omega, ih, List.append_assoc]
    rfl
theorem push_f (d : List Int) (at_ : Nat) (h : 2 ≤ d.length) (hn : d.length < 100000) : ∃ k, spec_Push.f k d = some (raw ⟨leastOf d.length, d, at_⟩) := by
  refine ⟨20, ?_⟩
  have hl := mono_le (fun k => spec_Least.mono d k) (least_f d h) (show 2 ≤ 20 by omega)
  have hr : 2 ≤ leastOf d.length ∧ leastOf d.length ≤ 78 := by
    unfold leastOf
    split
    · omega
    · split
      · omega
      · split <;> omega
  rw [spec_Push.f, hl, Option.bind_some, Option.bind_some, if_neg (by omega), spec_Push.j0, if_neg (by simp; omega)]
  have hm : leastOf d.length % 256 = leastOf d.length := by omega
  rw [hm]
  unfold raw
  by_cases h76 : 76 ≤ leastOf d.length
  · obtain ⟨W, hW, hs, hw⟩ : ∃ W : Nat, W ≤ 4 ∧ shl .i64 1 (wrap64 (leastOf d.length - 76)) = (W : Int) ∧ wid (leastOf d.length) = W := by
      have : leastOf d.length = 76 ∨ leastOf d.length = 77 ∨ leastOf d.length = 78 := by omega
      rcases this with e | e | e <;> rw [e]
      · exact ⟨1, by omega, by decide +kernel, by decide⟩
      · exact ⟨2, by omega, by decide +kernel, by decide⟩
      · exact ⟨4, by omega, by decide +kernel, by decide⟩
    have := push_l0 d (leastOf d.length) h76 hr.2 W hW hs hn W [leastOf d.length] d.length 0 (18 - W) (by omega) (by simp; omega)
    rw [show 18 - W + W + 1 = 19 by omega] at this
    rw [hw]
    exact this
  · have hw : wid (leastOf d.length) = 0 := by unfold wid; rw [if_neg (by omega), if_neg (by omega), if_neg (by omega)]
    rw [spec_Push.l0, if_neg (by omega), if_pos (by simp; omega), hw]
    rfl

/-! ### same -/
theorem same_l0 (l : List Int) (hl : l.length < 4611686018427387904) : ∀ (m i : Nat), i + m = l.length → laws_same.l0 (m + 1) l l (i : Int) = some true
  | 0, i, h => by rw [laws_same.l0, if_neg (by omega)]
  | m + 1, i, h => by
    rw [laws_same.l0, if_pos (by omega), if_pos (by omega), if_pos (by omega), if_pos rfl, wrap_succ (by omega)]
    exact same_l0 l hl m (i + 1) (by omega)
theorem same_f (l : List Int) (hl : l.length < 4611686018427387904) : ∃ k, laws_same.f k l l = some true := by
  refine ⟨l.length + 1, ?_⟩
  rw [laws_same.f, if_pos rfl]
  exact same_l0 l hl l.length 0 (by omega)
end Go.Proofs.Ytafpmdmmeohmfaa.Dr
