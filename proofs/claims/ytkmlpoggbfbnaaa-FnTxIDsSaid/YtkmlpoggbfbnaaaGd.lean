/-
  Outputs' names: a hash and an index, by value. impl.outPoint.
  Transactions' inputs: 36 cells each; a reading for rows of them, and the walks over them that only look.
  Rows of inputs and transactions that fit: zzFits3, zzFits2.
  A kind for pointers to boxes; wire's inputs and outputs behind pointers.
  How long a transaction is, roughly: txSize ends.
-/
import Derived.Test.YtkmlpoggbfbnaaaProg
import Derived.WalkKit
import Derived.KernelRfl
import Derived.Outline
import Derived.BigQuiet
import Derived.WalkSpells
import Derived.Deep.DeepMust
import Derived.Deep.MidRow
import Derived.Laws.CopyOwn
import Derived.Lib.Hide
import Derived.Test.YtkmlpoggbfbnaaaWWords
import Derived.Test.YtkmlpoggbfbnaaaWArr
import Derived.Test.YtkmlpoggbfbnaaaWLast
import Derived.Test.YtkmlpoggbfbnaaaWMore
import Derived.Test.YtkmlpoggbfbnaaaWNEv
import Derived.Test.YtkmlpoggbfbnaaaWGuard
import Derived.Test.YtkmlpoggbfbnaaaPFnTxIDsx
import Derived.Test.YtkmlpoggbfbnaaaGa
import Derived.Deep.QuietTactic
namespace Go.Proofs.Ytkmlpoggbfbnaaa.Tx
open Go.RowKit Go.Proofs.YtkmlpoggbfbnaaaW.PrintWords Go.Proofs.YtkmlpoggbfbnaaaW.PrintLast
set_option linter.unusedSimpArgs false
set_option linter.unusedVariables false

/-- A hash's cells. -/
def hv (h : List Int) : List Value := h.map (Value.int .u8)
/-- An output's name: its cells. -/
def opc (h : List Int) (i : Int) : List Value := hv h ++ [.int .u32 i]
theorem hv_len (h : List Int) : (hv h).length = h.length := by simp [hv]
theorem opc_len (h : List Int) (i : Int) : (opc h i).length = h.length + 1 := by simp [opc, hv]
theorem list32 (h : List Int) (hl : h.length = 32) : ∃ a0 a1 a2 a3 a4 a5 a6 a7 a8 a9 a10 a11 a12 a13 a14 a15 a16 a17 a18 a19 a20 a21 a22 a23 a24 a25 a26 a27 a28 a29 a30 a31, h = [a0, a1, a2, a3, a4, a5, a6, a7, a8, a9, a10, a11, a12, a13, a14, a15, a16, a17, a18, a19, a20, a21, a22, a23, a24, a25, a26, a27, a28, a29, a30, a31] := by
  match h, hl with
  | [a0, a1, a2, a3, a4, a5, a6, a7, a8, a9, a10, a11, a12, a13, a14, a15, a16, a17, a18, a19, a20, a21, a22, a23, a24, a25, a26, a27, a28, a29, a30, a31], _ => exact ⟨a0, a1, a2, a3, a4, a5, a6, a7, a8, a9, a10, a11, a12, a13, a14, a15, a16, a17, a18, a19, a20, a21, a22, a23, a24, a25, a26, a27, a28, a29, a30, a31, rfl⟩
theorem hv_one (h : List Int) : ∀ v ∈ hv h, v.oneCell' = true := by
  intro v hv_
  obtain ⟨x, _, rfl⟩ := List.mem_map.1 hv_
  rfl
theorem opc_one (h : List Int) (i : Int) : ∀ v ∈ opc h i, v.oneCell' = true := by
  intro v hv_
  rcases List.mem_append.1 hv_ with h1 | h1
  · exact hv_one h v h1
  · rw [List.mem_singleton.1 h1]; rfl
theorem wpList_made {P : Program} {ops : Array Oper} {rest : List Oper} {o : Oper} {a : Act} {w : World} {Q : Exit → Act → World → Prop} (hg : o.guard = none) (t : TypeId) (parts : Array (Nat × Operand)) (ho : o.op = .build t parts)
    (vs : List (Nat × Value)) (hx : (parts.map fun (i, x) => (i, a.eval x)).toList = vs) (cells : Array Value) (hb : P.built t vs = some cells)
    (h : wpList P ops Q rest (a.put o.dst (.agg cells)) w) : wpList P ops Q (o :: rest) a w := by
  refine wpList_build hg t parts ho ?_ ?_
  · rw [hx, hb]; rfl
  · rw [hx, hb]; exact h
theorem built_op (h : List Int) (i : Int) (hl : h.length = 32) : Try.prog.built 64 [(0, .agg (hv h).toArray), (1, .int .u32 i)] = some (opc h i).toArray := by
  obtain ⟨a0, a1, a2, a3, a4, a5, a6, a7, a8, a9, a10, a11, a12, a13, a14, a15, a16, a17, a18, a19, a20, a21, a22, a23, a24, a25, a26, a27, a28, a29, a30, a31, rfl⟩ := list32 h hl
  kernel_rfl
set_option maxHeartbeats 8000000 in
set_option maxRecDepth 100000 in
theorem outPoint_calls (h : List Int) (i : Int) (w : World) (hl : h.length = 32) :
    Calls Try.prog 26 #[.agg (opc h i).toArray] w fun e w' => e = .returned (.agg (opc h i).toArray) ∧ Below w.heap.size w w' := by
  obtain ⟨cs, hcs⟩ : ∃ cs, (opc h i).toArray = cs := ⟨_, rfl⟩
  have hbd := built_op h i hl
  rw [hcs] at hbd ⊢
  have HCS := Lib.hid hcs
  have HL := Lib.hid hl
  clear hcs hl
  have hcs32 : ∀ (ob : Obj), ((w.alloc (.cells cs 39)).alloc ob).rangeAt w.heap.size 0 (hv h) := by
    intro ob
    refine World.rangeAt_alloc ?_ ob
    have hb : (w.alloc (.cells cs 39)).heap[w.heap.size]? = some (.cells cs 39 (0, 0)) := heap_alloc_new w _
    have := World.rangeAt_of_block hb 0 32
    have e : (cs.extract 0 (0 + 32)).toList = hv h := by
      rw [← HCS.out]
      have := HL.out
      simp [opc, hv_len, List.take_append, HL.out, hv]
    rwa [e] at this
  have hci : ∀ (ob : Obj), ((w.alloc (.cells cs 39)).alloc ob).cell? ⟨w.heap.size, 32, none⟩ = some (.int .u32 i) := by
    intro ob
    rw [World.cell?_alloc_lt _ _ _ (by rw [World.size_alloc]; exact Nat.lt_succ_self _), cell_of_row _ _ _ _ _ _ (heap_alloc_new w _), ← HCS.out]
    simp [opc, hv_len, List.getElem?_append, HL.out, hv]
  have h2b : ∀ (ob : Obj) (c2 : Array Value), ((w.alloc ob).alloc (.cells c2 64)).heap[w.heap.size + 1]? = some (.cells c2 64 (0, 0)) := by
    intro ob c2
    rw [show w.heap.size + 1 = (w.alloc ob).heap.size from by simp]; exact heap_alloc_new _ _
  have hcz : cs.size = 33 := by rw [← HCS.out]; simp [opc_len, HL.out]
  have hone : cs.all (·.oneCell') = true := by rw [← HCS.out]; exact all_oneCell_toArray (opc_one h i)
  have H32 := Lib.hid hcs32
  have HCZ := Lib.hid hcz
  have HONE := Lib.hid hone
  have H2B := Lib.hid h2b
  have HBD := Lib.hid hbd
  clear hcs32 hcz hone h2b hbd
  go_enter Try.func26, Try.ntmps26
  go_wp2_with (first | refine wpList_load_mid rfl 29 (.tmp 3) rfl w.heap.size 0 rfl (hv h) _ (H32.out _) Try.underlying29 rfl (by rw [hv_len, HL.out]; rfl) ?_ | (refine wpList_made rfl 64 #[(0, .tmp 4), (1, .tmp 6)] rfl ?aV ?aX ?aC ?aB ?_; go_must (case aB => exact HBD.out); go_must (case aX => simp [Act.eval])) | (refine wpList_store_row rfl 64 (.tmp 2) (.tmp 7) rfl (w.heap.size + 1) cs rfl rfl 64 _ (H2B.out _ _) ?aS ?aL HONE.out ?_; go_must (case aS => rw [HCZ.out]; rfl); go_must (case aL => rw [HCZ.out]; rfl)))
  refine bodyPost_ret (results_cell_row (by rfl) _ _ (w.heap.size + 1) 64 cs (0, 0) _ (by rfl) (setRow_heap _ _ _ _ _ _ (H2B.out _ _)) Try.underlying64 (by rfl) (by rw [HCZ.out]; rfl)) (by rfl) (And.intro rfl ?_)
  refine below_setRow ?_ (Nat.le_succ _) _
  repeat apply below_alloc
  exact Below.refl _ _
end Go.Proofs.Ytkmlpoggbfbnaaa.Tx
namespace Go.Proofs.Ytkmlpoggbfbnaaa.Tx
open Go.RowKit Go.Proofs.YtkmlpoggbfbnaaaW.PrintWords Go.Proofs.YtkmlpoggbfbnaaaW.PrintLast
set_option linter.unusedSimpArgs false
set_option linter.unusedVariables false

/-- An input: its output's name (a hash and an index), a script, a witness, a sequence. -/
structure TI where
  h : List Int
  i : Int
  s : List Int
  w : List (List Int)
  q : Int
def zTI : TI := ⟨[], 0, [], [], 0⟩
def kTI : Kd TI := Kd.iso (Kd.pair (Kd.arr 32 (Kd.int .u8) (by decide)) (Kd.pair (Kd.int .u32) (Kd.pair (Kd.slice 5 (Kd.int .u8)) (Kd.pair (Kd.slice 40 (Kd.slice 5 (Kd.int .u8))) (Kd.int .u32))))) (fun x : TI => (x.h, x.i, x.s, x.w, x.q))
/-- An input's cells. -/
def tic (x : TI) (A1 : Option Addr) (c1 : Nat) (A2 : Option Addr) (c2 : Nat) : List Value := opc x.h x.i ++ [.slice A1 x.s.length c1, .slice A2 x.w.length c2, .int .u32 x.q]
theorem kTI_open {w : World} {x : TI} {cs : List Value} (h : kTI.K w x cs) : ∃ A1 c1 A2 c2, x.h.length = 32 ∧ cs = tic x A1 c1 A2 c2 ∧ x.s.length ≤ c1 ∧ (Kd.int .u8).C w A1 x.s.length x.s ∧ x.w.length ≤ c2 ∧ (Kd.slice 5 (Kd.int .u8)).C w A2 x.w.length x.w := by
  obtain ⟨c0, r0, rfl, h0, c3, r3, rfl, h3, c4, r4, rfl, h4, c5, r5, rfl, h5, h6⟩ := h
  obtain ⟨hl, rfl⟩ := Kd.arr_cells h0
  obtain ⟨A1, k1, rfl, l1, g1⟩ := h4
  obtain ⟨A2, k2, rfl, l2, g2⟩ := h5
  cases h3
  cases h6
  exact ⟨A1, k1, A2, k2, hl, by simp [tic, opc, hv, encs], l1, g1, l2, g2⟩
theorem tic_len (x : TI) (A1 : Option Addr) (c1 : Nat) (A2 : Option Addr) (c2 : Nat) (hl : x.h.length = 32) : (tic x A1 c1 A2 c2).length = 36 := by simp [tic, opc_len, hl]
theorem tic_one (x : TI) (A1 : Option Addr) (c1 : Nat) (A2 : Option Addr) (c2 : Nat) : ∀ v ∈ tic x A1 c1 A2 c2, v.oneCell' = true := by
  intro v hv_
  rcases List.mem_append.1 hv_ with h1 | h1
  · exact opc_one _ _ v h1
  · simp only [List.mem_cons, List.not_mem_nil, or_false] at h1
    rcases h1 with rfl | rfl | rfl <;> rfl
theorem tic_33 (x : TI) (A1 : Option Addr) (c1 : Nat) (A2 : Option Addr) (c2 : Nat) (hl : x.h.length = 32) : (tic x A1 c1 A2 c2)[33]? = some (.slice A1 x.s.length c1) := by
  simp [tic, List.getElem?_append, opc_len, hl]
theorem tic_34 (x : TI) (A1 : Option Addr) (c1 : Nat) (A2 : Option Addr) (c2 : Nat) (hl : x.h.length = 32) : (tic x A1 c1 A2 c2)[34]? = some (.slice A2 x.w.length c2) := by
  simp [tic, List.getElem?_append, opc_len, hl]
theorem tic_35 (x : TI) (A1 : Option Addr) (c1 : Nat) (A2 : Option Addr) (c2 : Nat) (hl : x.h.length = 32) : (tic x A1 c1 A2 c2)[35]? = some (.int .u32 x.q) := by
  simp [tic, List.getElem?_append, opc_len, hl]
theorem tic_32 (x : TI) (A1 : Option Addr) (c1 : Nat) (A2 : Option Addr) (c2 : Nat) (hl : x.h.length = 32) : (tic x A1 c1 A2 c2)[32]? = some (.int .u32 x.i) := by
  simp [tic, List.getElem?_append, opc_len, hl, opc, hv_len]
def rdT (l : List TI) (i : Int) : TI := l.getD i.toNat zTI
/-- An input in a row of inputs. -/
theorem kTI_at {w : World} {A : Option Addr} {n : Nat} {xs : List TI} (h : Kd.C kTI w A n xs) (i : Int) (h0 : 0 ≤ i) (h1 : i < n) : ∃ ad A1 c1 A2 c2, A = some ad ∧ (rdT xs i).h.length = 32 ∧
    (∀ j u, (tic (rdT xs i) A1 c1 A2 c2)[j]? = some u → w.cell? (ad.add (i.toNat * 36 + j)) = some u) ∧ (rdT xs i).s.length ≤ c1 ∧ (Kd.int .u8).C w A1 (rdT xs i).s.length (rdT xs i).s ∧ (rdT xs i).w.length ≤ c2 ∧ (Kd.slice 5 (Kd.int .u8)).C w A2 (rdT xs i).w.length (rdT xs i).w := by
  obtain ⟨ad, c, e, _, hK, hc⟩ := Kd.C_get h zTI i h0 h1
  obtain ⟨A1, c1, A2, c2, hl, rfl, l1, g1, l2, g2⟩ := kTI_open hK
  exact ⟨ad, A1, c1, A2, c2, e, hl, hc, l1, g1, l2, g2⟩

/-- Many cells are read at once, wherever they lie. -/
theorem run_loadAt_list {P : Program} (w : World) (ad : Addr) (ty : TypeId) (cs : List Value) (d : TypeDesc) (hc : ∀ j v, cs[j]? = some v → w.cell? (ad.add j) = some v)
    (hu : P.underlying ty = some d) (hd : d.isRow = true) (hi : (P.info? ty).map (·.size) = some cs.length) :
    (Instr.loadAt ty (.pointer (some ad))).run P w = .ok (.agg cs.toArray) w := by
  have hl := run_loadCells_list (P := P) w ad cs hc
  obtain ⟨inf, hq, hs⟩ := Option.map_eq_some_iff.1 hi
  have hagg : (isAgg ty).run P w = .ok true w := by
    unfold isAgg
    rw [Sem.run_bind, run_underlying hu w]
    cases d <;> simp_all
  simp [Instr.loadAt, Instr.sureAddr, loadVar, Sem.run_bind, hagg, sizeOf, typeInfo, hq, hs, hl]
theorem wpList_load_list {P : Program} {ops : Array Oper} {rest : List Oper} {op : Oper} {a : Act} {w : World} {Q : Exit → Act → World → Prop} (hgd : op.guard = none) (ty : TypeId) (x : Operand) (ho : op.op = .load ty x)
    (ad : Addr) (hx : a.eval x = .pointer (some ad)) (cs : List Value) (d : TypeDesc) (hc : ∀ j v, cs[j]? = some v → w.cell? (ad.add j) = some v)
    (hu : P.underlying ty = some d) (hd : d.isRow = true) (hi : (P.info? ty).map (·.size) = some cs.length)
    (h : wpList P ops Q rest (a.put op.dst (.agg cs.toArray)) w) : wpList P ops Q (op :: rest) a w :=
  wpList_plain hgd fun _ hK => by
    unfold Oper.wp execOp
    simp only [ho, hx, Sem.run_bind, Sem.run_pure, Result.andThen_ok, run_loadAt_list w ad ty cs d hc hu hd hi]
    exact hK _ _ h
/-- The cells of a box that was made just now. -/
theorem box_cell (w : World) (cs : List Value) (t : TypeId) (j : Nat) (v : Value) (h : cs[j]? = some v) : (w.alloc (.cells cs.toArray t)).cell? ⟨w.heap.size, j, none⟩ = some v := by
  rw [cell_of_row _ _ _ _ _ _ (heap_alloc_new w _)]
  simpa using h

theorem wrap64_id {x : Int} (h0 : -9223372036854775808 ≤ x) (h1 : x ≤ 9223372036854775807) : wrap64 x = x := by unfold wrap64; omega
def fit5 (l : List (List Int)) : Bool := decide (l.length ≤ 2147483647) && l.all (fun s => decide (s.length ≤ 2147483647))
theorem fit5_loop (l : List (List Int)) (hl : l.length ≤ 2147483647) : ∀ d i, i + d = l.length → PFnTxIDs.laws_zzFits5.l0 (d + 1) l (l.length : Int) (i : Int) = some ((l.drop i).all (fun s => decide (s.length ≤ 2147483647)))
  | 0, i, h => by
    rw [PFnTxIDs.laws_zzFits5.l0, if_neg (by omega), List.drop_of_length_le (by omega)]; rfl
  | d + 1, i, h => by
    have hi : i < l.length := by omega
    have hw : wrap64 ((i : Int) + 1) = ((i + 1 : Nat) : Int) := by rw [wrap64_id (by omega) (by omega)]; omega
    have hr : PFnTxIDs.rd_L1 l (i : Int) = l[i] := by simp [PFnTxIDs.rd_L1, hi]
    have ih := fit5_loop l hl d (i + 1) (by omega)
    rw [PFnTxIDs.laws_zzFits5.l0, if_pos (by omega), if_pos (by omega), if_pos (by omega), hr, hw, ih, List.drop_eq_getElem_cons hi, List.all_cons]
    by_cases c : (l[i].length : Int) > 2147483647
    · rw [if_pos c, decide_eq_false (by omega)]; rfl
    · rw [if_neg c, decide_eq_true (by omega)]; rfl
theorem fit5_eq (l : List (List Int)) : PFnTxIDs.laws_zzFits5.f (l.length + 1) l = some (fit5 l) := by
  unfold PFnTxIDs.laws_zzFits5.f fit5
  by_cases c : (l.length : Int) > 2147483647
  · rw [if_pos c, decide_eq_false (by omega)]; rfl
  · rw [if_neg c, decide_eq_true (by omega)]
    have := fit5_loop l (by omega) l.length 0 (by omega)
    simpa using this

/-- An input fits. -/
def fit4 (x : TI) : Bool := decide (x.s.length ≤ 2147483647) && fit5 x.w
set_option maxHeartbeats 8000000 in
set_option maxRecDepth 100000 in
theorem fit4_calls (x : TI) (A1 : Option Addr) (c1 : Nat) (A2 : Option Addr) (c2 : Nat) (w : World) (hl : x.h.length = 32) (l1 : x.s.length ≤ c1) (l2 : x.w.length ≤ c2) (g2 : (Kd.slice 5 (Kd.int .u8)).C w A2 x.w.length x.w) :
    Calls Try.prog 24 #[.agg (tic x A1 c1 A2 c2).toArray] w fun e w' => e = .returned (.bool (fit4 x)) ∧ Below w.heap.size w w' := by
  have h33 := box_cell w _ 43 33 _ (tic_33 x A1 c1 A2 c2 hl)
  have h34 := box_cell w _ 43 34 _ (tic_34 x A1 c1 A2 c2 hl)
  have G2 := Lib.hid g2
  have L2 := Lib.hid l2
  obtain ⟨b, hb⟩ : ∃ b, fit5 x.w = b := ⟨_, rfl⟩
  have H5 := Lib.hid (show PFnTxIDs.laws_zzFits5.f (x.w.length + 1) x.w = some b from by rw [fit5_eq, hb])
  obtain ⟨cs, hcs⟩ : ∃ cs, (tic x A1 c1 A2 c2).toArray = cs := ⟨_, rfl⟩
  rw [hcs] at h33 h34 ⊢
  have e4 : fit4 x = (decide (x.s.length ≤ 2147483647) && b) := by rw [fit4, hb]
  rw [e4]
  clear hcs e4 hb l1 l2 g2 hl
  by_cases c : x.s.length ≤ 2147483647
  · have cb : decide ((2147483647 : Int) < (x.s.length : Int)) = false := decide_eq_false (by omega)
    have cb1 : decide (2147483647 < x.s.length) = false := decide_eq_false (by omega)
    rw [decide_eq_true c, Bool.true_and]
    clear c
    cases b
    · go_enter Try.func24, Try.ntmps24
      go_wp2_with (go_at_call 41; refine (PFnTxIDs.laws_zzFits5.calls (x.w.length + 1) A2 c2 x.w false (w.alloc (Obj.cells cs 43)) (Kd.C_below G2.out (below_alloc (Below.refl _ _) _)) L2.out H5.out).mono ?_; rintro e w1 ⟨rfl, ⟨m1, rfl⟩⟩)
      go_ret
      exact ⟨rfl, pw_below_drewN (below_alloc (Below.refl _ _) _) _⟩
    · go_enter Try.func24, Try.ntmps24
      go_wp2_with (go_at_call 41; refine (PFnTxIDs.laws_zzFits5.calls (x.w.length + 1) A2 c2 x.w true (w.alloc (Obj.cells cs 43)) (Kd.C_below G2.out (below_alloc (Below.refl _ _) _)) L2.out H5.out).mono ?_; rintro e w1 ⟨rfl, ⟨m1, rfl⟩⟩)
      go_ret
      exact ⟨rfl, pw_below_drewN (below_alloc (Below.refl _ _) _) _⟩
  · have cb : decide ((2147483647 : Int) < (x.s.length : Int)) = true := decide_eq_true (by omega)
    have cb1 : decide (2147483647 < x.s.length) = true := decide_eq_true (by omega)
    rw [decide_eq_false c, Bool.false_and]
    clear c
    go_enter Try.func24, Try.ntmps24
    go_wp2
    go_ret
    exact ⟨rfl, below_alloc (Below.refl _ _) _⟩
end Go.Proofs.Ytkmlpoggbfbnaaa.Tx
namespace Go.Proofs.Ytkmlpoggbfbnaaa.Tx
open Go.RowKit Go.Proofs.YtkmlpoggbfbnaaaW.PrintWords Go.Proofs.YtkmlpoggbfbnaaaW.PrintLast
set_option linter.unusedSimpArgs false
set_option linter.unusedVariables false

def fit3 (l : List TI) : Bool := decide (l.length ≤ 2147483647) && l.all fit4
/-- The input at a place, as the walks over a row of inputs need it in a later world. -/
theorem at_step {w : World} {A : Option Addr} {n : Nat} {xs : List TI} (h : Kd.C kTI w A n xs) (i : Int) (h0 : 0 ≤ i) (h1 : i < n) : ∃ (ad : Addr) (cs : Array Value) (A1 : Option Addr) (c1 : Nat) (A2 : Option Addr) (c2 : Nat), A = some ad ∧ cs.size = 36 ∧ cs.all (·.oneCell') = true ∧
    (tic (rdT xs i) A1 c1 A2 c2).toArray = cs ∧ (rdT xs i).h.length = 32 ∧ (rdT xs i).s.length ≤ c1 ∧ (rdT xs i).w.length ≤ c2 ∧ (Kd.int .u8).C w A1 (rdT xs i).s.length (rdT xs i).s ∧ (Kd.slice 5 (Kd.int .u8)).C w A2 (rdT xs i).w.length (rdT xs i).w ∧
    (∀ W, Below w.heap.size w W → ∀ j u, cs.toList[j]? = some u → W.cell? ((ad.add (i.toNat * 36)).add j) = some u) := by
  obtain ⟨ad, A1, c1, A2, c2, e, hl, hc, l1, g1, l2, g2⟩ := kTI_at h i h0 h1
  refine ⟨ad, _, A1, c1, A2, c2, e, by simpa using tic_len (rdT xs i) A1 c1 A2 c2 hl, all_oneCell_toArray (tic_one _ _ _ _ _), rfl, hl, l1, l2, g1, g2, ?_⟩
  intro W hB j u hj
  have hj' : (tic (rdT xs i) A1 c1 A2 c2)[j]? = some u := by simpa using hj
  have := hc j u hj'
  rw [show (ad.add (i.toNat * 36)).add j = ad.add (i.toNat * 36 + j) from add_add _ _ _]
  exact (hB.cell (World.block_lt_of_cell? w _ this)).trans this
theorem box_list (w : World) (cs : Array Value) (t : TypeId) (g : Nat) (h : w.heap[g]? = some (.cells cs t (0, 0))) : ∀ j v, cs.toList[j]? = some v → w.cell? ((⟨g, 0, none⟩ : Addr).add j) = some v := by
  intro j v hj
  rw [Addr.add_mid, Nat.zero_add, cell_of_row _ _ _ _ _ _ h]
  simpa using hj
set_option maxHeartbeats 8000000 in
set_option maxRecDepth 100000 in
theorem fit3_calls (l : List TI) (A : Option Addr) (c : Nat) (w : World) (hc : l.length ≤ c) (hA : Kd.C kTI w A l.length l) :
    Calls Try.prog 13 #[.slice A l.length c] w fun e w' => e = .returned (.bool (fit3 l)) ∧ Below w.heap.size w w' := by
  obtain ⟨N, hN⟩ : ∃ N : Int, (l.length : Int) = N := ⟨_, rfl⟩
  by_cases c0 : N > 2147483647
  · have cb : decide ((2147483647 : Int) < (l.length : Int)) = true := decide_eq_true (by omega)
    have cb1 : decide (2147483647 < l.length) = true := decide_eq_true (by omega)
    rw [fit3, decide_eq_false (by omega), Bool.false_and]
    clear c0 hN
    go_enter Try.func13, Try.ntmps13
    go_wp2
    go_ret
    exact ⟨rfl, Below.refl _ _⟩
  · have cb : decide ((2147483647 : Int) < (l.length : Int)) = false := decide_eq_false (by omega)
    have cb1 : decide (2147483647 < l.length) = false := decide_eq_false (by omega)
    obtain ⟨b, hb⟩ : ∃ b, l.all fit4 = b := ⟨_, rfl⟩
    rw [fit3, decide_eq_true (by omega), Bool.true_and, hb]
    have HBD := Lib.hid (show (l.length : Int) ≤ 2147483647 by omega)
    have H0 := Lib.hid (show (l.drop 0).all fit4 = b from hb)
    have HA := Lib.hid hA
    clear c0 hN hb hA hc
    go_enter Try.func13, Try.ntmps13
    go_wp2
    go_loopg [10] (l.length + 1) (fun kq v10 w' => ∃ (i : Nat) (xi : Int), v10 = .int .i64 xi ∧ Hid (xi = (i : Int)) ∧ Hid (i + kq = l.length + 1) ∧ Hid ((l.drop i).all fit4 = b) ∧ Hid (Below w.heap.size w w'))
    case atStart => exact ⟨0, 0, rfl, Lib.hid rfl, Lib.hid (Nat.zero_add _), H0, Lib.hid (Below.refl _ _)⟩
    case round =>
      clear H0 cb cb1
      obtain ⟨i, xi, rfl, HI, HK, HD, HB⟩ := hrel
      by_cases ci : i < l.length
      · have p0 : 0 ≤ xi := by rw [HI.out]; omega
        have q0 : xi < (l.length : Int) := by rw [HI.out]; omega
        obtain ⟨ad, cs, A1, c1, A2, c2, rfl, hz, h1, hcs, hl, l1, l2, g1, g2, hce⟩ := at_step HA.out xi p0 q0
        have hw1 : wrap64 (xi + 1) = xi + 1 := by have := HBD.out; exact wrap64_id (by omega) (by omega)
        obtain ⟨x, hx⟩ : ∃ x, rdT l xi = x := ⟨_, rfl⟩
        rw [hx] at hcs hl l1 l2 g1 g2
        have hxi : x = l[i] := by rw [← hx, HI.out, rdT]; simp [ci]
        have hd : (fit4 x && (l.drop (i + 1)).all fit4) = b := by
          have := HD.out
          rw [List.drop_eq_getElem_cons ci, List.all_cons, ← hxi] at this; exact this
        obtain ⟨k1, rfl⟩ : ∃ k1, gk = k1 + 1 := ⟨gk - 1, by have := HK.out; omega⟩
        have HX := Lib.hid (show ∀ W', Below w.heap.size w W' → Calls Try.prog 24 #[.agg cs] W' fun e w' => e = .returned (.bool (fit4 x)) ∧ Below W'.heap.size W' w' from fun W' hW => hcs ▸ fit4_calls x A1 c1 A2 c2 W' hl l1 l2 (Kd.C_below g2 hW))
        have HCE := Lib.hid hce
        have HZ := Lib.hid hz
        have H1 := Lib.hid h1
        have pp := eq_true p0
        have qq := eq_true q0
        have qb : decide (xi < (l.length : Int)) = true := decide_eq_true q0
        obtain ⟨r, hr⟩ : ∃ r, fit4 x = r := ⟨_, rfl⟩
        rw [hr] at hd
        have HR := Lib.hid hr
        have HD1 := Lib.hid hd
        have CI := Lib.hid ci
        clear hce hz h1 p0 q0 hx hxi hd hcs hl l1 l2 g1 g2 HD hr ci
        cases r
        · go_wp2_with (first | (refine wpList_load_list rfl 43 (.tmp 12) rfl (ad.add (xi.toNat * 36)) rfl cs.toList _ (HCE.out _ HB.out) Try.underlying43 rfl ?aI ?_; go_must (case aI => rw [Array.length_toList, HZ.out]; rfl); go_must (simp only [Array.toArray_toList])) | (refine wpList_store_row rfl 43 (.tmp 4) (.tmp 13) rfl _ cs rfl rfl 43 _ (heap_alloc_new _ _) ?aS ?aL H1.out ?_; go_must (case aS => rw [HZ.out]; rfl); go_must (case aL => rw [HZ.out]; rfl)) | (refine wpList_load_list rfl 43 (.tmp 4) rfl ⟨_, 0, none⟩ rfl cs.toList _ (box_list _ cs 43 _ (setRow_heap _ _ _ _ _ _ (heap_alloc_new _ _))) Try.underlying43 rfl ?aI ?_; go_must (case aI => rw [Array.length_toList, HZ.out]; rfl); go_must (simp only [Array.toArray_toList])) | (go_at_call 24; refine (HX.out _ (below_setRow (below_alloc HB.out _) HB.out.size _)).mono ?_; rw [HR.out]; rintro e w3 ⟨rfl, hB3⟩; have HB3 := Lib.hid (below_step (below_setRow (below_alloc HB.out _) HB.out.size _) hB3); clear hB3))
          have hbf : b = false := by rw [← HD1.out]; rfl
          subst hbf
          go_ret
          exact ⟨rfl, HB3.out⟩
        · go_wp2_with (first | (refine wpList_load_list rfl 43 (.tmp 12) rfl (ad.add (xi.toNat * 36)) rfl cs.toList _ (HCE.out _ HB.out) Try.underlying43 rfl ?aI ?_; go_must (case aI => rw [Array.length_toList, HZ.out]; rfl); go_must (simp only [Array.toArray_toList])) | (refine wpList_store_row rfl 43 (.tmp 4) (.tmp 13) rfl _ cs rfl rfl 43 _ (heap_alloc_new _ _) ?aS ?aL H1.out ?_; go_must (case aS => rw [HZ.out]; rfl); go_must (case aL => rw [HZ.out]; rfl)) | (refine wpList_load_list rfl 43 (.tmp 4) rfl ⟨_, 0, none⟩ rfl cs.toList _ (box_list _ cs 43 _ (setRow_heap _ _ _ _ _ _ (heap_alloc_new _ _))) Try.underlying43 rfl ?aI ?_; go_must (case aI => rw [Array.length_toList, HZ.out]; rfl); go_must (simp only [Array.toArray_toList])) | (go_at_call 24; refine (HX.out _ (below_setRow (below_alloc HB.out _) HB.out.size _)).mono ?_; rw [HR.out]; rintro e w3 ⟨rfl, hB3⟩; have HB3 := Lib.hid (below_step (below_setRow (below_alloc HB.out _) HB.out.size _) hB3); clear hB3))
          go_roundg k1
          case measure => exact Nat.lt_succ_self _
          case rel => exact ⟨i + 1, xi + 1, (by first | rfl | (simp [hw1]; done)), Lib.hid (by rw [HI.out]; omega), Lib.hid (by have := HK.out; omega), Lib.hid (by rw [← HD1.out]; rfl), HB3⟩
      · have qb : decide (xi < (l.length : Int)) = false := decide_eq_false (by rw [HI.out]; omega)
        have : b = true := by rw [← HD.out, List.drop_of_length_le (by omega)]; rfl
        subst this
        clear ci HD HI HK
        go_wp2
        go_ret
        exact ⟨rfl, HB.out⟩

/-- A transaction. -/
structure TX where
  v : Int
  ins : List TI
  outs : List PFnTxIDs.S45
  k : Int
/-- A transaction's cells. -/
def txc (x : TX) (A1 : Option Addr) (c1 : Nat) (A2 : Option Addr) (c2 : Nat) : Array Value := #[.int .i32 x.v, .slice A1 x.ins.length c1, .slice A2 x.outs.length c2, .int .u32 x.k]
/-- A transaction that lies in a world. -/
structure TxIn (w : World) (x : TX) (A1 : Option Addr) (c1 : Nat) (A2 : Option Addr) (c2 : Nat) : Prop where
  l1 : x.ins.length ≤ c1
  l2 : x.outs.length ≤ c2
  g1 : Kd.C kTI w A1 x.ins.length x.ins
  g2 : Kd.C PFnTxIDs.k45 w A2 x.outs.length x.outs
theorem TxIn.below {w w1 : World} {x : TX} {A1 : Option Addr} {c1 : Nat} {A2 : Option Addr} {c2 : Nat} (h : TxIn w x A1 c1 A2 c2) (hb : Below w.heap.size w w1) : TxIn w1 x A1 c1 A2 c2 :=
  ⟨h.l1, h.l2, Kd.C_below h.g1 hb, Kd.C_below h.g2 hb⟩
def fit6 (l : List PFnTxIDs.S45) : Bool := decide (l.length ≤ 2147483647) && l.all (fun s => decide (s.f1.length ≤ 2147483647))
theorem fit6_loop (l : List PFnTxIDs.S45) (hl : l.length ≤ 2147483647) : ∀ d i, i + d = l.length → PFnTxIDs.laws_zzFits6.l0 (d + 1) l (l.length : Int) (i : Int) = some ((l.drop i).all (fun s => decide (s.f1.length ≤ 2147483647)))
  | 0, i, h => by
    rw [PFnTxIDs.laws_zzFits6.l0, if_neg (by omega), List.drop_of_length_le (by omega)]; rfl
  | d + 1, i, h => by
    have hi : i < l.length := by omega
    have hw : wrap64 ((i : Int) + 1) = ((i + 1 : Nat) : Int) := by rw [wrap64_id (by omega) (by omega)]; omega
    have hr : PFnTxIDs.rd_T45 l (i : Int) = l[i] := by simp [PFnTxIDs.rd_T45, hi]
    have ih := fit6_loop l hl d (i + 1) (by omega)
    rw [PFnTxIDs.laws_zzFits6.l0, if_pos (by omega), if_pos (by omega), if_pos (by omega), hr, hw, ih, List.drop_eq_getElem_cons hi, List.all_cons, PFnTxIDs.laws_zzFits7.f]
    by_cases c : (l[i].f1.length : Int) > 2147483647
    · rw [if_pos c, decide_eq_false (by omega)]; rfl
    · rw [if_neg c, decide_eq_true (by omega)]; rfl
theorem fit6_eq (l : List PFnTxIDs.S45) : PFnTxIDs.laws_zzFits6.f (l.length + 1) l = some (fit6 l) := by
  unfold PFnTxIDs.laws_zzFits6.f fit6
  by_cases c : (l.length : Int) > 2147483647
  · rw [if_pos c, decide_eq_false (by omega)]; rfl
  · rw [if_neg c, decide_eq_true (by omega)]
    have := fit6_loop l (by omega) l.length 0 (by omega)
    simpa using this
def fit2 (x : TX) : Bool := fit3 x.ins && fit6 x.outs
set_option maxHeartbeats 8000000 in
set_option maxRecDepth 100000 in
theorem fit2_calls (x : TX) (A1 : Option Addr) (c1 : Nat) (A2 : Option Addr) (c2 : Nat) (w : World) (h : TxIn w x A1 c1 A2 c2) :
    Calls Try.prog 4 #[.agg (txc x A1 c1 A2 c2)] w fun e w' => e = .returned (.bool (fit2 x)) ∧ Below w.heap.size w w' := by
  have H := Lib.hid h
  obtain ⟨b, hb⟩ : ∃ b, fit3 x.ins = b := ⟨_, rfl⟩
  obtain ⟨d, hd⟩ : ∃ d, fit6 x.outs = d := ⟨_, rfl⟩
  rw [fit2, hb, hd]
  have H3 := Lib.hid (show ∀ W, Below w.heap.size w W → Calls Try.prog 13 #[.slice A1 x.ins.length c1] W fun e w' => e = .returned (.bool b) ∧ Below W.heap.size W w' from fun W hW => hb ▸ fit3_calls x.ins A1 c1 W h.l1 (Kd.C_below h.g1 hW))
  have H6 := Lib.hid (show ∀ W, Below w.heap.size w W → Calls Try.prog 14 #[.slice A2 x.outs.length c2] W fun e w' => e = .returned (.bool d) ∧ Below W.heap.size W w' from fun W hW => PFnTxIDs.laws_zzFits6.calls (x.outs.length + 1) A2 c2 x.outs d W (Kd.C_below h.g2 hW) h.l2 (by rw [fit6_eq, hd]))
  obtain ⟨cs, hcs⟩ : ∃ cs, txc x A1 c1 A2 c2 = cs := ⟨_, rfl⟩
  have hb1 : ∀ W W' : World, Below (W.alloc (.cells cs 26)).heap.size (W.alloc (.cells cs 26)) W' → W'.cell? ⟨W.heap.size, 1, none⟩ = some (.slice A1 x.ins.length c1) ∧ W'.cell? ⟨W.heap.size, 2, none⟩ = some (.slice A2 x.outs.length c2) := by
    intro W W' hB
    have k1 : (W.alloc (.cells cs 26)).cell? ⟨W.heap.size, 1, none⟩ = some (.slice A1 x.ins.length c1) := by rw [cell_of_row _ _ _ _ _ _ (heap_alloc_new W _), ← hcs]; rfl
    have k2 : (W.alloc (.cells cs 26)).cell? ⟨W.heap.size, 2, none⟩ = some (.slice A2 x.outs.length c2) := by rw [cell_of_row _ _ _ _ _ _ (heap_alloc_new W _), ← hcs]; rfl
    exact ⟨(hB.cell (World.block_lt_of_cell? _ _ k1)).trans k1, (hB.cell (World.block_lt_of_cell? _ _ k2)).trans k2⟩
  rw [hcs]
  have h1 := (hb1 w _ (Below.refl _ _)).1
  have HB1 := Lib.hid hb1
  clear h hb hd hcs hb1
  cases b <;> cases d
  all_goals
    go_enter Try.func4, Try.ntmps4
    go_wp2_with (first | (go_at_call 13; refine (H3.out _ (below_alloc (Below.refl _ _) _)).mono ?_; rintro e w1 ⟨rfl, hB⟩; have h2 := (HB1.out w _ hB).2; have HB := Lib.hid (below_step (below_alloc (Below.refl _ _) _) hB); clear hB) | (go_at_call 14; refine (H6.out _ HB.out).mono ?_; rintro e w2 ⟨rfl, hB⟩; have n0_ := Lib.hid (below_step HB.out hB); clear HB hB; have HB := n0_; clear n0_))
    go_ret
    exact ⟨rfl, HB.out⟩
end Go.Proofs.Ytkmlpoggbfbnaaa.Tx
namespace Go.Proofs.Ytkmlpoggbfbnaaa.Tx
open Go.RowKit Go.Proofs.YtkmlpoggbfbnaaaW.PrintWords Go.Proofs.YtkmlpoggbfbnaaaW.PrintLast
set_option linter.unusedSimpArgs false
set_option linter.unusedVariables false

/-- A pointer to a box (type T) that holds an x. -/
def ptr {α : Type} (T : Nat) (d : Kd α) : Kd α where
  sz := 1
  E := T :: d.E
  K := fun w x cs => ∃ (g : Nat) (c : Array Value), cs = [.pointer (some ⟨g, 0, none⟩)] ∧ w.heap[g]? = some (.cells c T (0, 0)) ∧ d.K w x c.toList
  M := fun w base ok x cs => ∃ (g : Nat) (c : Array Value), cs = [.pointer (some ⟨g, 0, none⟩)] ∧ base ≤ g ∧ ok g ∧ w.heap[g]? = some (.cells c T (0, 0)) ∧ d.M w base (fun k => ok k ∧ k ≠ g) x c.toList
  K_len := by
    rintro w x cs ⟨g, c, rfl, _⟩
    rfl
  K_one := by
    rintro w x cs ⟨g, c, rfl, _⟩ u hu
    rw [List.mem_singleton.1 hu]
    rfl
  K_below := by
    rintro w w1 x cs hb ⟨g, c, rfl, hg, hd⟩
    exact ⟨g, c, rfl, (hb.block g (blk_lt hg)).trans hg, d.K_below hb hd⟩
  K_of_M := by
    rintro w base ok x cs ⟨g, c, rfl, _, _, hg, hd⟩
    exact ⟨g, c, rfl, hg, d.K_of_M hd⟩
  M_mono := by
    rintro w base ok ok' x cs hok ⟨g, c, rfl, hb, ho, hg, hd⟩
    exact ⟨g, c, rfl, hb, hok g ho, hg, d.M_mono (fun k hk => ⟨hok k hk.1, hk.2⟩) hd⟩
  M_bound := by
    rintro w base ok x cs ⟨g, c, rfl, hb, ho, hg, hd⟩
    refine ⟨g, c, rfl, hb, ⟨ho, hb, blk_lt hg, T, List.mem_cons_self, c, hg⟩, hg, d.M_mono (fun k hk => ?_) (d.M_bound hd)⟩
    obtain ⟨⟨h1, h2⟩, h3, h4, q, hq, hc⟩ := hk
    exact ⟨⟨h1, h3, h4, q, List.mem_cons_of_mem _ hq, hc⟩, h2⟩
  M_move := by
    rintro w w1 base ok x cs hm ⟨g, c, rfl, hb, ho, hg, hd⟩
    exact ⟨g, c, rfl, hb, ho, (hm g ho).trans hg, d.M_move (fun k hk => hm k hk.1) hd⟩
  M_lower := by
    rintro w base base' ok x cs hl ⟨g, c, rfl, hb, ho, hg, hd⟩
    exact ⟨g, c, rfl, Nat.le_trans hl hb, ho, hg, d.M_lower hl hd⟩
/-- An input that was made: its cells. -/
theorem kTI_mkM (w : World) (base : Nat) (ok : Nat → Prop) (x : TI) {v1 v2 : Value} (hl : x.h.length = 32) (g1 : (Kd.int .u8).R 5 w base ok v1 x.s) (g2 : (Kd.slice 5 (Kd.int .u8)).R 40 w base ok v2 x.w) :
    kTI.M w base ok x (opc x.h x.i ++ [v1, v2, .int .u32 x.q]) :=
  ⟨hv x.h, [.int .u32 x.i, v1, v2, .int .u32 x.q], by simp [opc], Kd.arr_of_cells hl, [.int .u32 x.i], [v1, v2, .int .u32 x.q], rfl, rfl, [v1], [v2, .int .u32 x.q], rfl, ⟨v1, rfl, g1⟩, [v2], [.int .u32 x.q], rfl, ⟨v2, rfl, g2⟩, rfl⟩
/-- wire's inputs and outputs. -/
def kPI : Kd TI := ptr 70 kTI
def kPO : Kd PFnTxIDs.S45 := ptr 73 PFnTxIDs.k45
/-- A transaction of wire's lies in block g. -/
structure Wx (w : World) (base g : Nat) (x : TX) (v1 v2 : Value) : Prop where
  lo : base ≤ g
  blk : w.heap[g]? = some (.cells #[.int .i32 x.v, v1, v2, .int .u32 x.k] 61 (0, 0))
  ins : kPI.R 62 w base (fun k => k ≠ g) v1 x.ins
  outs : kPO.R 71 w base (fun k => k ≠ g) v2 x.outs
end Go.Proofs.Ytkmlpoggbfbnaaa.Tx
namespace Go.Proofs.Ytkmlpoggbfbnaaa.Tx
open Go.RowKit Go.Proofs.YtkmlpoggbfbnaaaW.PrintWords Go.Proofs.YtkmlpoggbfbnaaaW.PrintLast
set_option linter.unusedSimpArgs false
set_option linter.unusedVariables false

def mo (a b : Int) : Int := (PFnTxIDs.laws_more.f a b).getD 0
theorem mo_eq (a b : Int) : PFnTxIDs.laws_more.f a b = some (mo a b) := by
  unfold mo PFnTxIDs.laws_more.f
  split
  · rfl
  · split
    · rfl
    · split <;> rfl
theorem more_q (a b : Int) (W : World) : Calls Try.prog 15 #[.int .i64 a, .int .i64 b] W fun e w' => e = .returned (.int .i64 (mo a b)) ∧ ∃ m, w' = W.drewN m :=
  (PFnTxIDs.laws_more.calls a b _ W (mo_eq a b)).mono fun _ _ h => ⟨h.1, h.2.out⟩
theorem mo_le {a b : Int} {s t : Nat} (h : 0 ≤ a ∧ (a ≤ 100000 → (s : Int) ≤ a)) (hb : (t : Int) ≤ b) : 0 ≤ mo a b ∧ (mo a b ≤ 100000 → ((s + t : Nat) : Int) ≤ mo a b) := by
  have e : mo a b = if a > 100000 then 100001 else if b > 100000 then 100001 else if wrap64 (a + b) > 100000 then 100001 else wrap64 (a + b) := by
    unfold mo PFnTxIDs.laws_more.f
    split
    · rfl
    · split
      · rfl
      · split <;> rfl
  rw [e]
  by_cases c1 : a > 100000
  · rw [if_pos c1]; omega
  · rw [if_neg c1]
    by_cases c2 : b > 100000
    · rw [if_pos c2]; omega
    · rw [if_neg c2]
      have hw : wrap64 (a + b) = a + b := wrap64_id (by omega) (by omega)
      have := h.2 (by omega)
      rw [hw]
      by_cases c3 : a + b > 100000
      · rw [if_pos c3]; omega
      · rw [if_neg c3]; omega
/-- How long an input is, an output, a transaction. -/
def inSz (y : TI) : Nat := 50 + y.s.length + (y.w.map fun u => 9 + u.length).sum
def outSz (y : PFnTxIDs.S45) : Nat := 17 + y.f1.length
def txSz (x : TX) : Nat := 10 + (x.ins.map inSz).sum + (x.outs.map outSz).sum
theorem sum_take {α : Type} (f : α → Nat) (xs : List α) (z : α) (i : Nat) (h : i < xs.length) : ((xs.take (i + 1)).map f).sum = ((xs.take i).map f).sum + f (xs.getD i z) := by
  rw [List.take_add_one, List.getElem?_eq_getElem h, List.getD_eq_getElem?_getD, List.getElem?_eq_getElem h]
  simp only [Option.toList_some, List.map_append, List.sum_append, List.map_cons, List.map_nil, List.sum_cons, List.sum_nil, Nat.add_zero, Option.getD_some]
/-- The slices of an input in a row, for a later world. -/
theorem at_look {w : World} {A : Option Addr} {n : Nat} {xs : List TI} (h : Kd.C kTI w A n xs) (i : Int) (h0 : 0 ≤ i) (h1 : i < n) : ∃ (ad : Addr) (A1 : Option Addr) (c1 : Nat) (A2 : Option Addr) (c2 : Nat), A = some ad ∧
    (rdT xs i).s.length ≤ c1 ∧ (rdT xs i).w.length ≤ c2 ∧ (Kd.int .u8).C w A1 (rdT xs i).s.length (rdT xs i).s ∧ (Kd.slice 5 (Kd.int .u8)).C w A2 (rdT xs i).w.length (rdT xs i).w ∧
    (∀ W, Below w.heap.size w W → W.cell? ⟨(ad.add (i.toNat * 36)).block, (ad.add (i.toNat * 36)).off + 33, none⟩ = some (.slice A1 (rdT xs i).s.length c1)) ∧
    (∀ W, Below w.heap.size w W → W.cell? ⟨(ad.add (i.toNat * 36)).block, (ad.add (i.toNat * 36)).off + 34, none⟩ = some (.slice A2 (rdT xs i).w.length c2)) := by
  obtain ⟨ad, A1, c1, A2, c2, e, hl, hc, l1, g1, l2, g2⟩ := kTI_at h i h0 h1
  refine ⟨ad, A1, c1, A2, c2, e, l1, l2, g1, g2, ?_, ?_⟩
  · intro W hB
    have := hc 33 _ (tic_33 _ _ _ _ _ hl)
    rw [add_field _ _ 33 (by omega)] at this
    exact (hB.cell (World.block_lt_of_cell? w _ this)).trans this
  · intro W hB
    have := hc 34 _ (tic_34 _ _ _ _ _ hl)
    rw [add_field _ _ 34 (by omega)] at this
    exact (hB.cell (World.block_lt_of_cell? w _ this)).trans this
set_option maxHeartbeats 8000000 in
set_option maxRecDepth 100000 in
theorem sizeB_calls (x : TX) (A1 : Option Addr) (c1 : Nat) (A2 : Option Addr) (c2 : Nat) (w : World) (h : TxIn w x A1 c1 A2 c2) (hf : fit2 x = true) :
    Calls Try.prog 5 #[.agg (txc x A1 c1 A2 c2)] w fun e w' => (∃ n, e = .returned (.int .i64 n) ∧ (n ≤ 100000 → (txSz x : Int) ≤ n)) ∧ Below w.heap.size w w' := by
  have hf3 : (x.ins.length : Int) ≤ 2147483647 ∧ (∀ y ∈ x.ins, y.w.length ≤ 2147483647) := by
    simp only [fit2, fit3, fit4, fit5, Bool.and_eq_true, decide_eq_true_eq, List.all_eq_true] at hf
    exact ⟨by have := hf.1.1; omega, fun y hy => (hf.1.2 y hy).2.1⟩
  have hf6 : (x.outs.length : Int) ≤ 2147483647 := by
    simp only [fit2, fit6, Bool.and_eq_true, decide_eq_true_eq] at hf
    have := hf.2.1; omega
  obtain ⟨cs, hcs⟩ : ∃ cs, txc x A1 c1 A2 c2 = cs := ⟨_, rfl⟩
  have k1 : (w.alloc (.cells cs 26)).cell? ⟨w.heap.size, 1, none⟩ = some (.slice A1 x.ins.length c1) := by rw [cell_of_row _ _ _ _ _ _ (heap_alloc_new w _), ← hcs]; rfl
  have k2 : (w.alloc (.cells cs 26)).cell? ⟨w.heap.size, 2, none⟩ = some (.slice A2 x.outs.length c2) := by rw [cell_of_row _ _ _ _ _ _ (heap_alloc_new w _), ← hcs]; rfl
  obtain ⟨W0, hW0⟩ : ∃ W0, w.alloc (.cells cs 26) = W0 := ⟨_, rfl⟩
  have hB0 : Below w.heap.size w W0 := hW0 ▸ below_alloc (Below.refl _ _) _
  rw [hW0] at k1 k2
  have K1 := Lib.hid k1
  have K2 := Lib.hid k2
  have HB0 := Lib.hid hB0
  have H := Lib.hid (h.below hB0)
  have F3 := Lib.hid hf3
  have F6 := Lib.hid hf6
  rw [hcs]
  have hall : (w.alloc (.cells cs 26)) = W0 := hW0
  clear h hf hf3 hf6 hcs k1 k2 hB0 hW0
  go_enter Try.func5, Try.ntmps5
  go_wp2
  try rw [hall]
  go_loopg [3, 4] (x.ins.length + 1) (fun kq v3 v4 w' => ∃ (i : Nat) (xi n : Int), v3 = .int .i64 n ∧ v4 = .int .i64 xi ∧ Hid (xi = (i : Int)) ∧ Hid (i + kq = x.ins.length + 1) ∧ Hid (Below W0.heap.size W0 w') ∧ Hid (0 ≤ n ∧ (n ≤ 100000 → ((10 + ((x.ins.take i).map inSz).sum : Nat) : Int) ≤ n)))
  case atStart => exact ⟨0, 0, 10, rfl, rfl, Lib.hid rfl, Lib.hid (Nat.zero_add _), Lib.hid (Below.refl _ _), Lib.hid (by simp)⟩
  case round =>
    clear hall
    obtain ⟨i, xi, n, rfl, rfl, HI, HK, HB, HS⟩ := hrel
    have c1_ := (HB.out.cell (World.block_lt_of_cell? W0 _ K1.out)).trans K1.out
    by_cases ci : i < x.ins.length ∧ n ≤ 100000
    · have p0 : 0 ≤ xi := by rw [HI.out]; omega
      have q0 : xi < (x.ins.length : Int) := by rw [HI.out]; omega
      obtain ⟨ad, B1, d1, B2, d2, rfl, l1, l2, g1, g2, hc1, hc2⟩ := at_look H.out.g1 xi p0 q0
      have hw1 : wrap64 (xi + 1) = xi + 1 := by have := F3.out.1; exact wrap64_id (by omega) (by omega)
      have hlw : (rdT x.ins xi).w.length ≤ 2147483647 := by
        refine F3.out.2 _ ?_
        rw [rdT, List.getD_eq_getElem?_getD, List.getElem?_eq_getElem (show xi.toNat < x.ins.length by omega)]
        exact List.getElem_mem _
      have hst := sum_take inSz x.ins zTI i ci.1
      rw [show x.ins.getD i zTI = rdT x.ins xi from by rw [rdT, HI.out]; rfl] at hst
      obtain ⟨y, hy⟩ : ∃ y, rdT x.ins xi = y := ⟨_, rfl⟩
      rw [hy] at l1 l2 g1 g2 hc1 hc2 hlw hst
      have HST := Lib.hid hst
      obtain ⟨k1, rfl⟩ : ∃ k1, gk = k1 + 1 := ⟨gk - 1, by have := HK.out; omega⟩
      have hx1 := hc1 _ HB.out
      have hx2 := hc2 _ HB.out
      have pp := eq_true p0
      have qq := eq_true q0
      have qb : decide (xi < (x.ins.length : Int)) = true := decide_eq_true q0
      have nb : decide (n ≤ 100000) = true := decide_eq_true ci.2
      have CI := Lib.hid ci
      have G2 := Lib.hid g2
      have HLW := Lib.hid hlw
      have HC2 := Lib.hid hc2
      have HS2 := Lib.hid (mo_le (t := y.s.length) (mo_le (t := 50) HS.out (b := 50) (by decide)) (b := (y.s.length : Int)) (Int.le_refl _))
      clear p0 q0 hy l1 l2 g1 g2 hc1 hc2 hlw ci hst
      go_wp2
      go_quiet ((go_at_call 15; exact Calls.quiet_of (more_q _ _ _)))
      go_wp2
      go_loopg [3, 5] (y.w.length + 1) (fun kq v3 v5 w' => ∃ (j : Nat) (xj n : Int), v3 = .int .i64 n ∧ v5 = .int .i64 xj ∧ Hid (xj = (j : Int)) ∧ Hid (j + kq = y.w.length + 1) ∧ Hid (Below W0.heap.size W0 w') ∧ Hid (0 ≤ n ∧ (n ≤ 100000 → ((10 + ((x.ins.take i).map inSz).sum + 50 + y.s.length + ((y.w.take j).map fun u => 9 + u.length).sum : Nat) : Int) ≤ n)))
      case atStart => exact ⟨0, 0, _, rfl, rfl, Lib.hid rfl, Lib.hid (Nat.zero_add _), Lib.hid (by repeat (first | exact HB.out | apply pw_below_drewN)), Lib.hid (by simpa using HS2.out)⟩
      case round =>
        clear hx1 hx2 c1_ HB nb CI HS2 HS
        obtain ⟨j, xj, n1, rfl, rfl, HJ, HK2, HB, HS⟩ := hrel
        have c1_ := (HB.out.cell (World.block_lt_of_cell? W0 _ K1.out)).trans K1.out
        have hx2 := HC2.out _ HB.out
        by_cases cj : j < y.w.length ∧ n1 ≤ 100000
        · have pj0 : 0 ≤ xj := by rw [HJ.out]; omega
          have qj0 : xj < (y.w.length : Int) := by rw [HJ.out]; omega
          have hsj := sum_take (fun u : List Int => 9 + u.length) y.w ([] : List Int) j cj.1
          rw [show y.w.getD j [] = PFnTxIDs.rd_L1 y.w xj from by rw [PFnTxIDs.rd_L1, HJ.out]; rfl] at hsj
          have HSJ := Lib.hid hsj
          have HS2 := Lib.hid (mo_le (t := (PFnTxIDs.rd_L1 y.w xj).length) (mo_le (t := 9) HS.out (b := 9) (by decide)) (b := ((PFnTxIDs.rd_L1 y.w xj).length : Int)) (Int.le_refl _))
          clear hsj
          obtain ⟨ad2, B3, d3, rfl, hc3, l3, g3⟩ := PFnTxIDs.at_L1 G2.out xj pj0 qj0
          have hw2 : wrap64 (xj + 1) = xj + 1 := by have := HLW.out; exact wrap64_id (by omega) (by omega)
          obtain ⟨k2, rfl⟩ : ∃ k2, gk = k2 + 1 := ⟨gk - 1, by have := HK2.out; omega⟩
          have hx3 := (HB.out.cell (World.block_lt_of_cell? W0 _ hc3)).trans hc3
          have pjj := eq_true pj0
          have qjj := eq_true qj0
          have qjb : decide (xj < (y.w.length : Int)) = true := decide_eq_true qj0
          have njb : decide (n1 ≤ 100000) = true := decide_eq_true cj.2
          have CJ := Lib.hid cj
          clear pj0 qj0 hc3 l3 g3 cj
          go_wp2
          go_quiet ((go_at_call 15; exact Calls.quiet_of (more_q _ _ _)))
          go_wp2
          go_roundg k2
          case measure => exact Nat.lt_succ_self _
          case rel => exact ⟨j + 1, xj + 1, _, rfl, (by first | rfl | (simp [hw2]; done)), Lib.hid (by rw [HJ.out]; omega), Lib.hid (by have := HK2.out; omega), Lib.hid (by repeat (first | exact HB.out | apply pw_below_drewN)), Lib.hid (by rw [HSJ.out]; refine ⟨HS2.out.1, fun hn => ?_⟩; have := HS2.out.2 hn; omega)⟩
        · have hcj : decide (xj < (y.w.length : Int)) = false ∨ (decide (xj < (y.w.length : Int)) = true ∧ decide (n1 ≤ 100000) = false) := by
            by_cases c : j < y.w.length
            · exact Or.inr ⟨decide_eq_true (by rw [HJ.out]; omega), decide_eq_false (fun hn => cj ⟨c, hn⟩)⟩
            · exact Or.inl (decide_eq_false (by rw [HJ.out]; omega))
          have HS3 := Lib.hid (show 0 ≤ n1 ∧ (n1 ≤ 100000 → ((10 + ((x.ins.take (i + 1)).map inSz).sum : Nat) : Int) ≤ n1) from by
            refine ⟨HS.out.1, fun hn => ?_⟩
            have h1 := HS.out.2 hn
            have h2 : ¬ j < y.w.length := fun h => cj ⟨h, hn⟩
            rw [List.take_of_length_le (show y.w.length ≤ j by omega)] at h1
            rw [HST.out, inSz]
            omega)
          have pj0 := eq_true (show 0 ≤ xj by rw [HJ.out]; omega)
          clear cj HK2 HJ
          rcases hcj with c3 | ⟨c3, c4⟩
          all_goals
            go_wp2
            go_roundg k1
            case measure => exact Nat.lt_succ_self _
            case rel => exact ⟨i + 1, xi + 1, _, rfl, (by first | rfl | (simp [hw1]; done)), Lib.hid (by rw [HI.out]; omega), Lib.hid (by have := HK.out; omega), Lib.hid (by repeat (first | exact HB.out | apply pw_below_drewN)), HS3⟩
    · have hci : decide (xi < (x.ins.length : Int)) = false ∨ (decide (xi < (x.ins.length : Int)) = true ∧ decide (n ≤ 100000) = false) := by
        by_cases c : i < x.ins.length
        · exact Or.inr ⟨decide_eq_true (by rw [HI.out]; omega), decide_eq_false (fun hn => ci ⟨c, hn⟩)⟩
        · exact Or.inl (decide_eq_false (by rw [HI.out]; omega))
      have H1 := Lib.hid HB.out
      have HS3 := Lib.hid (show 0 ≤ n ∧ (n ≤ 100000 → ((10 + (x.ins.map inSz).sum : Nat) : Int) ≤ n) from by
        refine ⟨HS.out.1, fun hn => ?_⟩
        have h1 := HS.out.2 hn
        have h2 : ¬ i < x.ins.length := fun h => ci ⟨h, hn⟩
        rwa [List.take_of_length_le (by omega)] at h1)
      clear ci HK HI c1_ HB
      have c1_ := (H1.out.cell (World.block_lt_of_cell? W0 _ K1.out)).trans K1.out
      have c2_ := (H1.out.cell (World.block_lt_of_cell? W0 _ K2.out)).trans K2.out
      rcases hci with c3 | ⟨c3, c4⟩
      all_goals
        go_wp2
        go_loopg [3, 6] (x.outs.length + 1) (fun kq v3 v6 w' => ∃ (i : Nat) (xi n : Int), v3 = .int .i64 n ∧ v6 = .int .i64 xi ∧ Hid (xi = (i : Int)) ∧ Hid (i + kq = x.outs.length + 1) ∧ Hid (Below W0.heap.size W0 w') ∧ Hid (0 ≤ n ∧ (n ≤ 100000 → ((10 + (x.ins.map inSz).sum + ((x.outs.take i).map outSz).sum : Nat) : Int) ≤ n)))
        case atStart => exact ⟨0, 0, _, rfl, rfl, Lib.hid rfl, Lib.hid (Nat.zero_add _), Lib.hid (by repeat (first | exact H1.out | apply pw_below_drewN)), Lib.hid (by simpa using HS3.out)⟩
        case round =>
          clear c1_ c2_ c3 H1 HS3 HS
          obtain ⟨i, xi, n, rfl, rfl, HI, HK, HB, HS⟩ := hrel
          have c2_ := (HB.out.cell (World.block_lt_of_cell? W0 _ K2.out)).trans K2.out
          by_cases ci : i < x.outs.length ∧ n ≤ 100000
          · have p0 : 0 ≤ xi := by rw [HI.out]; omega
            have q0 : xi < (x.outs.length : Int) := by rw [HI.out]; omega
            have hst := sum_take outSz x.outs PFnTxIDs.z45 i ci.1
            rw [show x.outs.getD i PFnTxIDs.z45 = PFnTxIDs.rd_T45 x.outs xi from by rw [PFnTxIDs.rd_T45, HI.out]; rfl] at hst
            have HST := Lib.hid hst
            have HS2 := Lib.hid (mo_le (t := (PFnTxIDs.rd_T45 x.outs xi).f1.length) (mo_le (t := 17) HS.out (b := 17) (by decide)) (b := ((PFnTxIDs.rd_T45 x.outs xi).f1.length : Int)) (Int.le_refl _))
            clear hst
            obtain ⟨ad, B1, d1, rfl, hc0, hc1, l1, g1⟩ := PFnTxIDs.at_T45 H.out.g2 xi p0 q0
            have hw1 : wrap64 (xi + 1) = xi + 1 := by have := F6.out; exact wrap64_id (by omega) (by omega)
            obtain ⟨k1, rfl⟩ : ∃ k1, gk = k1 + 1 := ⟨gk - 1, by have := HK.out; omega⟩
            have hx1 := (HB.out.cell (World.block_lt_of_cell? W0 _ hc1)).trans hc1
            have pp := eq_true p0
            have qq := eq_true q0
            have qb : decide (xi < (x.outs.length : Int)) = true := decide_eq_true q0
            have nb : decide (n ≤ 100000) = true := decide_eq_true ci.2
            have CI := Lib.hid ci
            clear p0 q0 l1 g1 hc0 hc1 ci
            go_wp2
            go_quiet ((go_at_call 15; exact Calls.quiet_of (more_q _ _ _)))
            go_wp2
            go_roundg k1
            case measure => exact Nat.lt_succ_self _
            case rel => exact ⟨i + 1, xi + 1, _, rfl, (by first | rfl | (simp [hw1]; done)), Lib.hid (by rw [HI.out]; omega), Lib.hid (by have := HK.out; omega), Lib.hid (by repeat (first | exact HB.out | apply pw_below_drewN)), Lib.hid (by rw [HST.out, outSz]; refine ⟨HS2.out.1, fun hn => ?_⟩; have := HS2.out.2 hn; omega)⟩
          · have hci : decide (xi < (x.outs.length : Int)) = false ∨ (decide (xi < (x.outs.length : Int)) = true ∧ decide (n ≤ 100000) = false) := by
              by_cases c : i < x.outs.length
              · exact Or.inr ⟨decide_eq_true (by rw [HI.out]; omega), decide_eq_false (fun hn => ci ⟨c, hn⟩)⟩
              · exact Or.inl (decide_eq_false (by rw [HI.out]; omega))
            have HS3 := Lib.hid (show n ≤ 100000 → (txSz x : Int) ≤ n from fun hn => by
              have h1 := HS.out.2 hn
              have h2 : ¬ i < x.outs.length := fun h => ci ⟨h, hn⟩
              rwa [List.take_of_length_le (by omega)] at h1)
            clear ci HK HI
            rcases hci with c3 | ⟨c3, c4⟩
            all_goals
              go_wp2
              go_ret
              exact ⟨⟨_, rfl, HS3.out⟩, below_step HB0.out HB.out⟩
end Go.Proofs.Ytkmlpoggbfbnaaa.Tx
