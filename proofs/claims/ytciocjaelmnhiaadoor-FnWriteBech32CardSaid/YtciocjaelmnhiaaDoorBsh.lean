/-
  strings.Builder: WriteByte, WriteString.
-/
import Derived.Shelf.Strings.BuilderK
import Derived.Test.YtciocjaelmnhiaaDoorShelf
namespace Go.Proofs
open Go.Shelf
def YtciocjaelmnhiaaDoor.bsh : Go.Shelf.Ren := ⟨fun | 166 => 24 | 167 => 25 | 240 => 31 | 276 => 38 | n => n, fun | 0 => 0 | 3 => 3 | 4 => 4 | 5 => 5 | 9 => 9 | 20 => 20 | 37 => 22 | 70 => 51 | 72 => 53 | 75 => 37 | 80 => 60 | 164 => 78 | n => n, fun | n => n⟩
theorem YtciocjaelmnhiaaDoor.bsh166 : Go.Proofs.Lays.n166 Tryd.prog YtciocjaelmnhiaaDoor.bsh := {
  mixed := by kernel_rfl
  f166 := Tryd.func24.trans (congrArg some (by kernel_rfl))
  f240 := Tryd.func31.trans (congrArg some (by kernel_rfl))
  f276 := Tryd.func38.trans (congrArg some (by kernel_rfl))
  t0 := Tryd.underlying0
  a0 := Tryd.isAgg0
  z0 := Tryd.sizeOf0
  v0 := Tryd.zeroValue0
  t3 := Tryd.underlying3
  a3 := Tryd.isAgg3
  z3 := Tryd.sizeOf3
  v3 := Tryd.zeroValue3
  t4 := Tryd.underlying4
  a4 := Tryd.isAgg4
  z4 := Tryd.sizeOf4
  v4 := Tryd.zeroValue4
  t9 := Tryd.underlying9
  a9 := Tryd.isAgg9
  z9 := Tryd.sizeOf9
  v9 := Tryd.zeroValue9
  t20 := Tryd.underlying20
  a20 := Tryd.isAgg20
  z20 := Tryd.sizeOf20
  v20 := Tryd.zeroValue20
  t37 := Tryd.underlying22
  a37 := Tryd.isAgg22
  z37 := Tryd.sizeOf22
  v37 := Tryd.zeroValue22
  t70 := Tryd.underlying51
  a70 := Tryd.isAgg51
  z70 := Tryd.sizeOf51
  v70 := Tryd.zeroValue51
  t72 := Tryd.underlying53
  a72 := Tryd.isAgg53
  z72 := Tryd.sizeOf53
  v72 := Tryd.zeroValue53
  t75 := Tryd.underlying37
  a75 := Tryd.isAgg37
  z75 := Tryd.sizeOf37
  v75 := Tryd.zeroValue37
  t164 := Tryd.underlying78
  a164 := Tryd.isAgg78
  z164 := Tryd.sizeOf78
  v164 := Tryd.zeroValue78 }
theorem YtciocjaelmnhiaaDoor.bsh167 : Go.Proofs.Lays.n167 Tryd.prog YtciocjaelmnhiaaDoor.bsh := {
  mixed := by kernel_rfl
  f167 := Tryd.func25.trans (congrArg some (by kernel_rfl))
  f240 := Tryd.func31.trans (congrArg some (by kernel_rfl))
  f276 := Tryd.func38.trans (congrArg some (by kernel_rfl))
  t0 := Tryd.underlying0
  a0 := Tryd.isAgg0
  z0 := Tryd.sizeOf0
  v0 := Tryd.zeroValue0
  t4 := Tryd.underlying4
  a4 := Tryd.isAgg4
  z4 := Tryd.sizeOf4
  v4 := Tryd.zeroValue4
  t5 := Tryd.underlying5
  a5 := Tryd.isAgg5
  z5 := Tryd.sizeOf5
  v5 := Tryd.zeroValue5
  t9 := Tryd.underlying9
  a9 := Tryd.isAgg9
  z9 := Tryd.sizeOf9
  v9 := Tryd.zeroValue9
  t20 := Tryd.underlying20
  a20 := Tryd.isAgg20
  z20 := Tryd.sizeOf20
  v20 := Tryd.zeroValue20
  t37 := Tryd.underlying22
  a37 := Tryd.isAgg22
  z37 := Tryd.sizeOf22
  v37 := Tryd.zeroValue22
  t70 := Tryd.underlying51
  a70 := Tryd.isAgg51
  z70 := Tryd.sizeOf51
  v70 := Tryd.zeroValue51
  t72 := Tryd.underlying53
  a72 := Tryd.isAgg53
  z72 := Tryd.sizeOf53
  v72 := Tryd.zeroValue53
  t75 := Tryd.underlying37
  a75 := Tryd.isAgg37
  z75 := Tryd.sizeOf37
  v75 := Tryd.zeroValue37
  t164 := Tryd.underlying78
  a164 := Tryd.isAgg78
  z164 := Tryd.sizeOf78
  v164 := Tryd.zeroValue78 }
theorem YtciocjaelmnhiaaDoor.bshX : Builder.Extra Tryd.prog YtciocjaelmnhiaaDoor.bsh := {
  sizeBuilder := by kernel_rfl
  liesBuilder := by kernel_rfl
  t5 := Tryd.underlying5
  a5 := Tryd.isAgg5
  z5 := Tryd.sizeOf5
  v5 := Tryd.zeroValue5
  infoByte := by kernel_rfl
  cellsByte := by kernel_rfl
  sizeByte := by kernel_rfl
  neB5 := by decide }
open Go.RowKit in
theorem YtciocjaelmnhiaaDoor.writeByte (B b : Nat) (bs : List Value) (c : Int) (w : World) (h : Lib.IsBuilderF 53 5 B b bs w) (hlen : bs.length + 1 ≤ 140737488355328) (hBw : B ≤ w.heap.size) :
    Calls Tryd.prog 25 #[.pointer (some ⟨b, 0, none⟩), .int .u8 c] w fun e w' => e = .returned .nilIface ∧ Lib.IsBuilderF 53 5 B b (bs ++ [.int .u8 c]) w' ∧ Below B w w' :=
  (Any.Builder_WriteByte_k YtciocjaelmnhiaaDoor.bsh167 YtciocjaelmnhiaaDoor.bshX B b bs c w h hlen hBw).mono fun _ _ h => ⟨h.1, Or.inr h.2.1, h.2.2.1⟩
open Go.RowKit in
theorem YtciocjaelmnhiaaDoor.writeString (B b : Nat) (bs : List Value) (s : ByteArray) (w : World) (h : Lib.IsBuilderF 53 5 B b bs w) (hlen : bs.length + s.size ≤ 140737488355328) (hBw : B ≤ w.heap.size) :
    Calls Tryd.prog 24 #[.pointer (some ⟨b, 0, none⟩), .string s] w fun e w' => (∃ u, e = .returned u) ∧ Lib.IsBuilderF 53 5 B b (bs ++ Lib.strCells s) w' ∧ Below B w w' :=
  (Any.Builder_WriteString_k YtciocjaelmnhiaaDoor.bsh166 YtciocjaelmnhiaaDoor.bshX B b bs s w h hlen hBw).mono fun _ _ h => ⟨⟨_, h.1⟩, Or.inr h.2.1, h.2.2.1⟩
open Go.RowKit in
theorem YtciocjaelmnhiaaDoor.string (B b : Nat) (l : List UInt8) (w : World) (h : Lib.IsBuilderF 53 5 B b (Lib.byteCells l) w) (h0 : l ≠ []) :
    Calls Tryd.prog 27 #[.pointer (some ⟨b, 0, none⟩)] w fun e w' => e = .returned (.string ⟨l.toArray⟩) ∧ Lib.IsBuilderF 53 5 B b (Lib.byteCells l) w' ∧ Below B w w' :=
  (Any.Builder_String_k Tryd.lays169 Tryd.Builder_Extra_169 B b l w h h0).mono fun _ _ h => ⟨h.1, h.2.1, h.2.2.1⟩
open Go.RowKit in
theorem YtciocjaelmnhiaaDoor.grow (B b n : Nat) (w : World) (hB : B ≤ b) (hbk : w.heap[b]? = some (.cells #[.pointer none, .slice none 0 0] 53 (0, 0))) (hBw : B ≤ w.heap.size) (hn : n ≤ 281474976710656) :
    Calls Tryd.prog 23 #[.pointer (some ⟨b, 0, none⟩), .int .i64 n] w fun e w' => (∃ u, e = .returned u) ∧ Lib.IsBuilderF 53 5 B b (Lib.byteCells []) w' ∧ Below B w w' :=
  (Tryd.Builder_Grow_fresh B b n w hB hbk hBw hn).mono fun _ _ h => ⟨⟨_, h.1⟩, Or.inr (Lib.BuilderAtF.of h.2.1), h.2.2⟩
end Go.Proofs
