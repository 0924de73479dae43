/-
  strings.Builder: WriteByte, WriteString.
-/
import Derived.Shelf.Strings.BuilderK
import Derived.Test.YtafpmdmmeohmfaaShelf
namespace Go.Proofs
open Go.Shelf
def Ytafpmdmmeohmfaa.bsh : Go.Shelf.Ren := ⟨fun | 166 => 41 | 167 => 38 | 240 => 56 | 276 => 68 | n => n, fun | 0 => 0 | 3 => 3 | 4 => 4 | 5 => 5 | 9 => 9 | 20 => 20 | 37 => 22 | 70 => 58 | 72 => 60 | 75 => 42 | 80 => 74 | 164 => 101 | n => n, fun | n => n⟩
theorem Ytafpmdmmeohmfaa.bsh166 : Go.Proofs.Lays.n166 Try.prog Ytafpmdmmeohmfaa.bsh := {
  mixed := by kernel_rfl
  f166 := Try.func41.trans (congrArg some (by kernel_rfl))
  f240 := Try.func56.trans (congrArg some (by kernel_rfl))
  f276 := Try.func68.trans (congrArg some (by kernel_rfl))
  t0 := Try.underlying0
  a0 := Try.isAgg0
  z0 := Try.sizeOf0
  v0 := Try.zeroValue0
  t3 := Try.underlying3
  a3 := Try.isAgg3
  z3 := Try.sizeOf3
  v3 := Try.zeroValue3
  t4 := Try.underlying4
  a4 := Try.isAgg4
  z4 := Try.sizeOf4
  v4 := Try.zeroValue4
  t9 := Try.underlying9
  a9 := Try.isAgg9
  z9 := Try.sizeOf9
  v9 := Try.zeroValue9
  t20 := Try.underlying20
  a20 := Try.isAgg20
  z20 := Try.sizeOf20
  v20 := Try.zeroValue20
  t37 := Try.underlying22
  a37 := Try.isAgg22
  z37 := Try.sizeOf22
  v37 := Try.zeroValue22
  t70 := Try.underlying58
  a70 := Try.isAgg58
  z70 := Try.sizeOf58
  v70 := Try.zeroValue58
  t72 := Try.underlying60
  a72 := Try.isAgg60
  z72 := Try.sizeOf60
  v72 := Try.zeroValue60
  t75 := Try.underlying42
  a75 := Try.isAgg42
  z75 := Try.sizeOf42
  v75 := Try.zeroValue42
  t164 := Try.underlying101
  a164 := Try.isAgg101
  z164 := Try.sizeOf101
  v164 := Try.zeroValue101 }
theorem Ytafpmdmmeohmfaa.bsh167 : Go.Proofs.Lays.n167 Try.prog Ytafpmdmmeohmfaa.bsh := {
  mixed := by kernel_rfl
  f167 := Try.func38.trans (congrArg some (by kernel_rfl))
  f240 := Try.func56.trans (congrArg some (by kernel_rfl))
  f276 := Try.func68.trans (congrArg some (by kernel_rfl))
  t0 := Try.underlying0
  a0 := Try.isAgg0
  z0 := Try.sizeOf0
  v0 := Try.zeroValue0
  t4 := Try.underlying4
  a4 := Try.isAgg4
  z4 := Try.sizeOf4
  v4 := Try.zeroValue4
  t5 := Try.underlying5
  a5 := Try.isAgg5
  z5 := Try.sizeOf5
  v5 := Try.zeroValue5
  t9 := Try.underlying9
  a9 := Try.isAgg9
  z9 := Try.sizeOf9
  v9 := Try.zeroValue9
  t20 := Try.underlying20
  a20 := Try.isAgg20
  z20 := Try.sizeOf20
  v20 := Try.zeroValue20
  t37 := Try.underlying22
  a37 := Try.isAgg22
  z37 := Try.sizeOf22
  v37 := Try.zeroValue22
  t70 := Try.underlying58
  a70 := Try.isAgg58
  z70 := Try.sizeOf58
  v70 := Try.zeroValue58
  t72 := Try.underlying60
  a72 := Try.isAgg60
  z72 := Try.sizeOf60
  v72 := Try.zeroValue60
  t75 := Try.underlying42
  a75 := Try.isAgg42
  z75 := Try.sizeOf42
  v75 := Try.zeroValue42
  t164 := Try.underlying101
  a164 := Try.isAgg101
  z164 := Try.sizeOf101
  v164 := Try.zeroValue101 }
theorem Ytafpmdmmeohmfaa.bshX : Builder.Extra Try.prog Ytafpmdmmeohmfaa.bsh := {
  sizeBuilder := by kernel_rfl
  liesBuilder := by kernel_rfl
  t5 := Try.underlying5
  a5 := Try.isAgg5
  z5 := Try.sizeOf5
  v5 := Try.zeroValue5
  infoByte := by kernel_rfl
  cellsByte := by kernel_rfl
  sizeByte := by kernel_rfl
  neB5 := by decide }
open Go.RowKit in
/-- A builder's writers leave every block of no bytes but its own. -/
theorem Ytafpmdmmeohmfaa.writeByte (B b : Nat) (bs : List Value) (c : Int) (w : World) (h : Lib.IsBuilderF 60 5 B b bs w) (hlen : bs.length + 1 ≤ 140737488355328) (hBw : B ≤ w.heap.size) :
    Calls Try.prog 38 #[.pointer (some ⟨b, 0, none⟩), .int .u8 c] w fun e w' => e = .returned .nilIface ∧ Lib.IsBuilderF 60 5 B b (bs ++ [.int .u8 c]) w' ∧ Below B w w' ∧ Lib.OthersKept 5 (some b) w w' :=
  (Any.Builder_WriteByte_k Ytafpmdmmeohmfaa.bsh167 Ytafpmdmmeohmfaa.bshX B b bs c w h hlen hBw).mono fun _ _ h => ⟨h.1, Or.inr h.2.1, h.2.2.1, h.2.2.2⟩
open Go.RowKit in
theorem Ytafpmdmmeohmfaa.writeString (B b : Nat) (bs : List Value) (s : ByteArray) (w : World) (h : Lib.IsBuilderF 60 5 B b bs w) (hlen : bs.length + s.size ≤ 140737488355328) (hBw : B ≤ w.heap.size) :
    Calls Try.prog 41 #[.pointer (some ⟨b, 0, none⟩), .string s] w fun e w' => (∃ u, e = .returned u) ∧ Lib.IsBuilderF 60 5 B b (bs ++ Lib.strCells s) w' ∧ Below B w w' ∧ Lib.OthersKept 5 (some b) w w' :=
  (Any.Builder_WriteString_k Ytafpmdmmeohmfaa.bsh166 Ytafpmdmmeohmfaa.bshX B b bs s w h hlen hBw).mono fun _ _ h => ⟨⟨_, h.1⟩, Or.inr h.2.1, h.2.2.1, h.2.2.2⟩
end Go.Proofs
