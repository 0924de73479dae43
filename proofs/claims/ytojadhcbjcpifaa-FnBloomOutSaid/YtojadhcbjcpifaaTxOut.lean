/-
  Outputs' names: a hash and an index, by value. impl.outPoint.
-/
import Derived.Test.YtojadhcbjcpifaaProg
import Derived.WalkKit
import Derived.KernelRfl
import Derived.Outline
import Derived.BigQuiet
import Derived.WalkSpells
import Derived.Deep.DeepMust
import Derived.Deep.MidRow
import Derived.Laws.CopyOwn
import Derived.Lib.Hide
import Derived.Test.YtojadhcbjcpifaaWWords
import Derived.Test.YtojadhcbjcpifaaWArr
import Derived.Test.YtojadhcbjcpifaaWLast
import Derived.Test.YtojadhcbjcpifaaWMore
import Derived.Test.YtojadhcbjcpifaaWNEv
import Derived.Test.YtojadhcbjcpifaaWGuard
namespace Go.Proofs.Ytojadhcbjcpifaa.Tx
open Go.RowKit Go.Proofs.YtojadhcbjcpifaaW.PrintWords Go.Proofs.YtojadhcbjcpifaaW.PrintLast
set_option linter.unusedSimpArgs false
set_option linter.unusedVariables false

/-- A hash's cells. -/
def hv (h : List Int) : List Value := h.map (Value.int .u8)
/-- An output's name: its cells. -/
def opc (h : List Int) (i : Int) : List Value := hv h ++ [.int .u32 i]
theorem hv_len (h : List Int) : (hv h).length = h.length := by simp [hv]
theorem opc_len (h : List Int) (i : Int) : (opc h i).length = h.length + 1 := by simp [opc, hv]
theorem list32 (h : List Int) (hl : h.length = 32) : ∃ a0 a1 a2 a3 a4 a5 a6 a7 a8 a9 a10 a11 a12 a13 a14 a15 a16 a17 a18 a19 a20 a21 a22 a23 a24 a25 a26 a27 a28 a29 a30 a31, h = [a0, a1, a2, a3, a4, a5, a6, a7, a8, a9, a10, a11, a12, a13, a14, a15, a16, a17, a18, a19, a20, a21, a22, a23, a24, a25, a26, a27, a28, a29, a30, a31] := by
  match h, hl with
  | [a0, a1, a2, a3, a4, a5, a6, a7, a8, a9, a10, a11, a12, a13, a14, a15, a16, a17, a18, a19, a20, a21, a22, a23, a24, a25, a26, a27, a28, a29, a30, a31], _ => exact ⟨a0, a1, a2, a3, a4, a5, a6, a7, a8, a9, a10, a11, a12, a13, a14, a15, a16, a17, a18, a19, a20, a21, a22, a23, a24, a25, a26, a27, a28, a29, a30, a31, rfl⟩
theorem hv_one (h : List Int) : ∀ v ∈ hv h, v.oneCell' = true := by
  intro v hv_
  obtain ⟨x, _, rfl⟩ := List.mem_map.1 hv_
  rfl
theorem opc_one (h : List Int) (i : Int) : ∀ v ∈ opc h i, v.oneCell' = true := by
  intro v hv_
  rcases List.mem_append.1 hv_ with h1 | h1
  · exact hv_one h v h1
  · rw [List.mem_singleton.1 h1]; rfl
theorem wpList_made {P : Program} {ops : Array Oper} {rest : List Oper} {o : Oper} {a : Act} {w : World} {Q : Exit → Act → World → Prop} (hg : o.guard = none) (t : TypeId) (parts : Array (Nat × Operand)) (ho : o.op = .build t parts)
    (vs : List (Nat × Value)) (hx : (parts.map fun (i, x) => (i, a.eval x)).toList = vs) (cells : Array Value) (hb : P.built t vs = some cells)
    (h : wpList P ops Q rest (a.put o.dst (.agg cells)) w) : wpList P ops Q (o :: rest) a w := by
  refine wpList_build hg t parts ho ?_ ?_
  · rw [hx, hb]; rfl
  · rw [hx, hb]; exact h
theorem built_op (h : List Int) (i : Int) (hl : h.length = 32) : Try.prog.built 46 [(0, .agg (hv h).toArray), (1, .int .u32 i)] = some (opc h i).toArray := by
  obtain ⟨a0, a1, a2, a3, a4, a5, a6, a7, a8, a9, a10, a11, a12, a13, a14, a15, a16, a17, a18, a19, a20, a21, a22, a23, a24, a25, a26, a27, a28, a29, a30, a31, rfl⟩ := list32 h hl
  kernel_rfl
set_option maxHeartbeats 8000000 in
set_option maxRecDepth 100000 in
theorem outPoint_calls (h : List Int) (i : Int) (w : World) (hl : h.length = 32) :
    Calls Try.prog 19 #[.agg (opc h i).toArray] w fun e w' => e = .returned (.agg (opc h i).toArray) ∧ Below w.heap.size w w' := by
  obtain ⟨cs, hcs⟩ : ∃ cs, (opc h i).toArray = cs := ⟨_, rfl⟩
  have hbd := built_op h i hl
  rw [hcs] at hbd ⊢
  have HCS := Lib.hid hcs
  have HL := Lib.hid hl
  clear hcs hl
  have hcs32 : ∀ (ob : Obj), ((w.alloc (.cells cs 30)).alloc ob).rangeAt w.heap.size 0 (hv h) := by
    intro ob
    refine World.rangeAt_alloc ?_ ob
    have hb : (w.alloc (.cells cs 30)).heap[w.heap.size]? = some (.cells cs 30 (0, 0)) := heap_alloc_new w _
    have := World.rangeAt_of_block hb 0 32
    have e : (cs.extract 0 (0 + 32)).toList = hv h := by
      rw [← HCS.out]
      have := HL.out
      simp [opc, hv_len, List.take_append, HL.out, hv]
    rwa [e] at this
  have hci : ∀ (ob : Obj), ((w.alloc (.cells cs 30)).alloc ob).cell? ⟨w.heap.size, 32, none⟩ = some (.int .u32 i) := by
    intro ob
    rw [World.cell?_alloc_lt _ _ _ (by rw [World.size_alloc]; exact Nat.lt_succ_self _), cell_of_row _ _ _ _ _ _ (heap_alloc_new w _), ← HCS.out]
    simp [opc, hv_len, List.getElem?_append, HL.out, hv]
  have h2b : ∀ (ob : Obj) (c2 : Array Value), ((w.alloc ob).alloc (.cells c2 46)).heap[w.heap.size + 1]? = some (.cells c2 46 (0, 0)) := by
    intro ob c2
    rw [show w.heap.size + 1 = (w.alloc ob).heap.size from by simp]; exact heap_alloc_new _ _
  have hcz : cs.size = 33 := by rw [← HCS.out]; simp [opc_len, HL.out]
  have hone : cs.all (·.oneCell') = true := by rw [← HCS.out]; exact all_oneCell_toArray (opc_one h i)
  have H32 := Lib.hid hcs32
  have HCZ := Lib.hid hcz
  have HONE := Lib.hid hone
  have H2B := Lib.hid h2b
  have HBD := Lib.hid hbd
  clear hcs32 hcz hone h2b hbd
  go_enter Try.func19, Try.ntmps19
  go_wp2_with (first | refine wpList_load_mid rfl 28 (.tmp 3) rfl w.heap.size 0 rfl (hv h) _ (H32.out _) Try.underlying28 rfl (by rw [hv_len, HL.out]; rfl) ?_ | (refine wpList_made rfl 46 #[(0, .tmp 4), (1, .tmp 6)] rfl ?aV ?aX ?aC ?aB ?_; go_must (case aB => exact HBD.out); go_must (case aX => simp [Act.eval])) | (refine wpList_store_row rfl 46 (.tmp 2) (.tmp 7) rfl (w.heap.size + 1) cs rfl rfl 46 _ (H2B.out _ _) ?aS ?aL HONE.out ?_; go_must (case aS => rw [HCZ.out]; rfl); go_must (case aL => rw [HCZ.out]; rfl)))
  refine bodyPost_ret (results_cell_row (by rfl) _ _ (w.heap.size + 1) 46 cs (0, 0) _ (by rfl) (setRow_heap _ _ _ _ _ _ (H2B.out _ _)) Try.underlying46 (by rfl) (by rw [HCZ.out]; rfl)) (by rfl) (And.intro rfl ?_)
  refine below_setRow ?_ (Nat.le_succ _) _
  repeat apply below_alloc
  exact Below.refl _ _
end Go.Proofs.Ytojadhcbjcpifaa.Tx
