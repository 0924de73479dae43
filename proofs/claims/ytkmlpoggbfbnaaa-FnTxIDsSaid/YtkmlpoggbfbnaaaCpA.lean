/-
  For copies of transactions: rows that are made and filled; hashes that are set.
-/
import Derived.Test.YtkmlpoggbfbnaaaTxF
import Derived.Test.YtkmlpoggbfbnaaaTxOf
import Derived.Test.YtkmlpoggbfbnaaaGa
import Derived.Deep.DeepMust
import Derived.Deep.DeepCutAuto
import Derived.Laws.CopyRow
import Derived.Laws.IdiomCopy
namespace Go.Proofs.Ytkmlpoggbfbnaaa.Wire
open Go.RowKit Go.Proofs.YtkmlpoggbfbnaaaW.PrintWords Go.Proofs.YtkmlpoggbfbnaaaW.PrintLast Go.Proofs.Ytkmlpoggbfbnaaa.Reg Go.Proofs.Ytkmlpoggbfbnaaa.Buf Go.Proofs.Ytkmlpoggbfbnaaa.Tx
set_option linter.unusedSimpArgs false
set_option linter.unusedVariables false

/-- A row of bytes that was made and filled. -/
theorem filled_R {W : World} {g lo : Nat} {l : List Int} (h : W.heap[g]? = some (.cells (nums .u8 l).toArray 5 (0, 0))) (hlo : lo ≤ g) (hl : l.length ≤ 2147483647) :
    (Kd.int .u8).R 5 W lo (fun k => k = g) (.slice (some ⟨g, 0, none⟩) l.length l.length) l := by
  refine ⟨fun k hk => by simpa [Value.ownBlock, eq_comm] using hk, nums .u8 l, ⟨by rw [nums_length]; exact (Nat.mul_one _).symm, .inr ⟨g, l.length, _, rfl, hlo, h, Nat.le_refl _, ?_, by rw [List.size_toArray, nums_length]; exact (Nat.mul_one _).symm, ?_⟩⟩, ?_⟩
  · unfold maxLen; omega
  · rw [show l.length * (Kd.int .u8).sz = l.length from Nat.mul_one _]
    exact List.take_of_length_le (by simp [nums])
  · refine ⟨by rw [nums_length]; exact (Nat.mul_one _).symm, fun j p hj => ?_⟩
    have hjl := (List.getElem?_eq_some_iff.1 hj).1
    have hp := (List.getElem?_eq_some_iff.1 hj).2
    show ((nums .u8 l).drop (j * 1)).take 1 = [Value.int .u8 p]
    rw [Nat.mul_one, nums, ← List.map_drop, ← List.map_take, List.drop_eq_getElem_cons hjl, List.take_succ_cons, List.take_zero, hp]
    rfl
theorem info_by : (Try.prog.info? 5).map (fun i => (i.zero, i.size, i.bytes)) = some (some (.int .u8 0), 1, 1) := by kernel_rfl
theorem mkn_run (n : Nat) (h : n ≤ 2147483647) (W : World) : (Instr.makeSlice 40 (.int .i64 (n : Int)) (.int .i64 (n : Int))).run Try.prog W = .ok (.slice (some ⟨W.heap.size, 0, none⟩) n n) (W.alloc (.cells (madeCells #[.int .u8 0] n) 5)) := by
  obtain ⟨i0, hi, z1, z2, z3⟩ := info_parts info_by
  have h := run_make (P := Try.prog) W 40 5 i0 (.int .u8 0) Try.underlying40 hi z1 .i64 .i64 (n : Int) n (by omega) (by omega) (by rw [z3]; omega) (by omega)
  rw [z2] at h
  simpa [Value.cells] using h
/-- A made row is filled whole. -/
theorem copy_all (W : World) (A : Option Addr) (c : Nat) (r : List Int) (hC : Kd.C (Kd.int .u8) W A r.length r) (hr : 0 < r.length) (hz : r.length ≤ 2147483647) :
    ∃ W6, (∀ ty, (Builtin.copy_ #[40, 40] ty #[.slice (some ⟨W.heap.size, 0, none⟩) r.length r.length, .slice A r.length c]).run Try.prog (W.alloc (.cells (madeCells #[.int .u8 0] r.length) 5)) = .ok (goInt r.length) W6) ∧ W6.heap[W.heap.size]? = some (.cells (nums .u8 r).toArray 5 (0, 0)) ∧ Below W.heap.size W W6 := by
  obtain ⟨ad, rfl, hL⟩ := KC_cells hC hr
  have hmz : (madeCells #[Value.int .u8 0] r.length).size = r.length := by simp [size_madeCells]
  have hbl : Below W.heap.size W (W.alloc (.cells (madeCells #[.int .u8 0] r.length) 5)) := below_alloc (Below.refl _ _) _
  have hg := heap_alloc_new W (.cells (madeCells #[.int .u8 0] r.length) 5)
  have hL2 : Lies (W.alloc (.cells (madeCells #[.int .u8 0] r.length) 5)) ad (nums .u8 r) := fun j v hj => pw_cell_below hbl (hL j v hj)
  have hcp := fun ty => run_copy_row (P := Try.prog) (W.alloc (.cells (madeCells #[.int .u8 0] r.length) 5)) 40 40 ty 5 W.heap.size 0 r.length r.length ad r.length c (madeCells #[.int .u8 0] r.length) 5 (nums .u8 r) Try.underlying40 (by kernel_rfl) hg (by rw [nums_length]; exact (Nat.min_self _).symm) hL2 (by rw [nums_length, hmz]; omega) (Go.Proofs.Ytkmlpoggbfbnaaa.Sh.nums_one r)
  rw [nums_length] at hcp
  refine ⟨_, hcp, ?_, below_setRow hbl (Nat.le_refl _) _⟩
  rw [setRow_heap _ _ _ _ _ _ hg]
  simp [List.drop_eq_nil_of_le, hmz]
theorem copy_none_ (W : World) (A : Option Addr) (c : Nat) (D : Option Addr) (d2 : Nat) (ty : TypeId) :
    (Builtin.copy_ #[40, 40] ty #[.slice D 0 d2, .slice A 0 c]).run Try.prog W = .ok (goInt 0) W :=
  run_copy_none _ _ _ _ 5 _ _ _ _ _ _ Try.underlying40 (by kernel_rfl) (by rfl)
theorem copy_any (W : World) (A : Option Addr) (c : Nat) (r : List Int) (hC : Kd.C (Kd.int .u8) W A r.length r) (hz : r.length ≤ 2147483647) :
    ∃ W6, (∀ ty, (Builtin.copy_ #[40, 40] ty #[.slice (some ⟨W.heap.size, 0, none⟩) r.length r.length, .slice A r.length c]).run Try.prog (W.alloc (.cells (madeCells #[.int .u8 0] r.length) 5)) = .ok (goInt r.length) W6) ∧ W6.heap[W.heap.size]? = some (.cells (nums .u8 r).toArray 5 (0, 0)) ∧ Below W.heap.size W W6 := by
  by_cases h : 0 < r.length
  · exact copy_all W A c r hC h hz
  · obtain rfl : r = [] := List.eq_nil_of_length_eq_zero (by omega)
    exact ⟨_, fun ty => copy_none_ _ _ _ _ _ _, (heap_alloc_new W _).trans (by simp [madeCells, nums]), below_alloc (Below.refl _ _) _⟩
/-- A row of pointers with room and nothing in it. -/
theorem room_R {α : Type} {d : Kd α} {T : Nat} {W : World} {g lo cap : Nat} {cur : Array Value} (h : W.heap[g]? = some (.cells cur T (0, 0))) (hlo : lo ≤ g) (hc : cur.size = cap * d.sz) (hl : cap ≤ 2147483647) :
    d.R T W lo (fun k => k = g) (.slice (some ⟨g, 0, none⟩) 0 cap) [] := by
  refine ⟨fun k hk => by simpa [Value.ownBlock, eq_comm] using hk, [], ⟨by simp, .inr ⟨g, cap, cur, rfl, hlo, h, Nat.zero_le _, ?_, hc, by simp⟩⟩, Reps.none _ _⟩
  unfold maxLen; omega
/-- On the way: the transaction M that is being made. -/
structure Wc (w0 w : World) (M : Nat) (x : TX) (v1 v2 : Value) (l1 : List TI) (l2 : List PFnTxIDs.S45) : Prop where
  B : Below w0.heap.size w0 w
  blk : w.heap[M]? = some (.cells #[.int .i32 x.v, v1, v2, .int .u32 x.k] 61 (0, 0))
  ins : kPI.R 62 w w0.heap.size (fun k => k ≠ M) v1 l1
  outs : kPO.R 71 w w0.heap.size (fun k => k ≠ M) v2 l2
section
variable {w0 w W w1 : World} {M : Nat} {x : TX} {v1 v1' v2 v2' : Value} {l1 l1' : List TI} {l2 l2' : List PFnTxIDs.S45}
theorem Wc.below (h : Wc w0 w M x v1 v2 l1 l2) (hb : Below w.heap.size w w1) : Wc w0 w1 M x v1 v2 l1 l2 :=
  ⟨below_then h.B h.B.size hb, (hb.block _ (blk_lt h.blk)).trans h.blk, Kd.R_below h.ins hb, Kd.R_below h.outs hb⟩
theorem Wc.ne (h : Wc w0 w M x v1 v2 l1 l2) : some M ≠ v1.ownBlock ∧ some M ≠ v2.ownBlock := ⟨fun e => (h.ins.1 _ e.symm) rfl, fun e => (h.outs.1 _ e.symm) rfl⟩
theorem Wc.push1 (h : Wc w0 w M x v1 v2 l1 l2) (hR : kPI.R 62 w1 w0.heap.size (fun k => k ≠ M) v1' l1') (hB : Below w0.heap.size w0 w1) (hg : w.grownBy w1 v1.ownBlock) (hM : w0.heap.size ≤ M) : Wc w0 (w1.setCell ⟨M, 1, none⟩ v1') M x v1' v2 l1' l2 :=
  ⟨below_set hB hM, blk_put (blk_grown h.blk hg h.ne.1) 1 v1' rfl, Kd.R_far hR (fun k hk => hk) v1', Kd.R_far (Kd.R_over' h.outs (Kd.R_typed h.ins) (by decide) hg) (fun k hk => hk) v1'⟩
theorem Wc.push2 (h : Wc w0 w M x v1 v2 l1 l2) (hR : kPO.R 71 w1 w0.heap.size (fun k => k ≠ M) v2' l2') (hB : Below w0.heap.size w0 w1) (hg : w.grownBy w1 v2.ownBlock) (hM : w0.heap.size ≤ M) : Wc w0 (w1.setCell ⟨M, 2, none⟩ v2') M x v1 v2' l1 l2' :=
  ⟨below_set hB hM, blk_put (blk_grown h.blk hg h.ne.2) 2 v2' rfl, Kd.R_far (Kd.R_over' h.ins (Kd.R_typed h.outs) (by decide) hg) (fun k hk => hk) v2', Kd.R_far hR (fun k hk => hk) v2'⟩
end
/-- The first places of a row of rows are filled. -/
def Pre (W : World) (lo gw : Nat) (ws : List (List Int)) (i : Nat) : Prop :=
  ∃ rc : Array Value, rc.size = ws.length ∧ W.heap[gw]? = some (.cells rc 40 (0, 0)) ∧ ∀ j, j < i → j < ws.length → ∃ v, rc[j]? = some v ∧ (Kd.int .u8).R 5 W lo (fun k => lo ≤ k ∧ k ≠ gw) v (ws.getD j [])
theorem Pre.below {W W1 : World} {lo gw i : Nat} {ws : List (List Int)} (h : Pre W lo gw ws i) (hb : Below W.heap.size W W1) : Pre W1 lo gw ws i := by
  obtain ⟨rc, h1, h2, h3⟩ := h
  refine ⟨rc, h1, blk_below h2 hb, fun j hj hl => ?_⟩
  obtain ⟨v, h4, h5⟩ := h3 j hj hl
  exact ⟨v, h4, Kd.R_below h5 hb⟩
theorem Pre.put {W : World} {lo gw i : Nat} {ws : List (List Int)} {v : Value} (h : Pre W lo gw ws i) (hi : i < ws.length) (hv : (Kd.int .u8).R 5 W lo (fun k => lo ≤ k ∧ k ≠ gw) v (ws.getD i [])) : Pre (W.setCell ⟨gw, i, none⟩ v) lo gw ws (i + 1) := by
  obtain ⟨rc, h1, h2, h3⟩ := h
  refine ⟨rc.setIfInBounds i v, by simpa using h1, blk_put h2 i v rfl, fun j hj hl => ?_⟩
  by_cases e : j = i
  · subst e
    exact ⟨v, by simp [h1, hi], Kd.R_far hv (fun k hk => hk.2) v⟩
  · obtain ⟨u, h4, h5⟩ := h3 j (by omega) hl
    exact ⟨u, by rw [Array.getElem?_setIfInBounds_ne (Ne.symm e)]; exact h4, Kd.R_far h5 (fun k hk => hk.2) v⟩
theorem Pre.row {W : World} {lo gw : Nat} {ws : List (List Int)} (h : Pre W lo gw ws ws.length) (hlo : lo ≤ gw) (hl : ws.length ≤ 2147483647) :
    (Kd.slice 5 (Kd.int .u8)).R 40 W lo (fun k => lo ≤ k) (.slice (some ⟨gw, 0, none⟩) ws.length ws.length) ws := by
  obtain ⟨rc, h1, h2, h3⟩ := h
  refine ⟨fun k hk => ?_, rc.toList, ⟨by simpa [Kd.slice] using h1, .inr ⟨gw, ws.length, rc, rfl, hlo, h2, Nat.le_refl _, by unfold maxLen; omega, by simpa [Kd.slice] using h1, ?_⟩⟩, ?_⟩
  · have : gw = k := by simpa [Value.ownBlock] using hk
    omega
  · rw [show ws.length * (Kd.slice 5 (Kd.int .u8)).sz = ws.length from Nat.mul_one _]
    exact List.take_of_length_le (by simp [h1])
  · refine ⟨by simpa [Kd.slice] using h1, fun j p hj => ?_⟩
    have hjl := (List.getElem?_eq_some_iff.1 hj).1
    obtain ⟨v, h4, h5⟩ := h3 j hjl hjl
    have hp : ws.getD j [] = p := by rw [List.getD_eq_getElem?_getD, hj]; rfl
    rw [hp] at h5
    have hr : j < rc.toList.length := by simpa [h1] using hjl
    refine ⟨v, ?_, Kd.R_mono h5 (fun k hk => ⟨hk.1, fun e => hk.2 (by simpa [Value.ownBlock] using e)⟩)⟩
    show (rc.toList.drop (j * 1)).take 1 = [v]
    rw [Nat.mul_one, List.drop_eq_getElem_cons hr, List.take_succ_cons, List.take_zero]
    have := (Array.getElem?_eq_some_iff.1 h4).2
    simpa using this
set_option maxHeartbeats 4000000 in
set_option maxRecDepth 100000 in
theorem setBytes_calls (gN gO tN : Nat) (cN : Array Value) (h : List Int) (w : World) (hN : w.heap[gN]? = some (.cells cN tN (0, 0))) (hO : Lies w ⟨gO, 0, none⟩ (nums .u8 h)) (hl : h.length = 32) (hz : 32 ≤ cN.size) :
    Calls Try.prog 40 #[.pointer (some ⟨gN, 0, none⟩), .slice (some ⟨gO, 0, none⟩) 32 32] w fun e w' => (∃ u, e = .returned u) ∧ w' = w.setRow gN (nums .u8 h ++ cN.toList.drop 32).toArray := by
  have hcp := run_copy_row (P := Try.prog) w 40 40 3 5 gN 0 32 32 ⟨gO, 0, none⟩ 32 32 cN tN (nums .u8 h) Try.underlying40 (by kernel_rfl) hN (by rw [nums_length, hl]; rfl) hO (by rw [nums_length, hl]; omega) (Go.Proofs.Ytkmlpoggbfbnaaa.Sh.nums_one h)
  rw [nums_length, hl] at hcp
  clear hN hO hl hz
  go_enter Try.func40, Try.ntmps40
  go_wp2
  go_ret
  exact ⟨⟨_, rfl⟩, by simp⟩
end Go.Proofs.Ytkmlpoggbfbnaaa.Wire
