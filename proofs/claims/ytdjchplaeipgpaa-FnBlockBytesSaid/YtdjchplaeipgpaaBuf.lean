/-
  bytes.Buffer as a writer: what it holds, in which row, and that a write turns no other block.
-/
import Derived.Test.YtdjchplaeipgpaaReg
import Derived.Test.YtdjchplaeipgpaaShelf
import Derived.WalkSpells
import Derived.BigQuiet
import Derived.Deep.DeepMust
import Derived.Laws.CopyRow
import Derived.Laws.IdiomCopy
import Derived.Lib.BufferWrite
import Derived.Lib.BufferOwn
import Derived.Lib.BufferSrc
namespace Go.Proofs.Ytdjchplaeipgpaa.Buf
open Go.RowKit Go.Proofs.YtdjchplaeipgpaaW.PrintWords Go.Proofs.YtdjchplaeipgpaaW.PrintLast Go.Proofs.Ytdjchplaeipgpaa.Reg
set_option linter.unusedSimpArgs false
set_option linter.unusedVariables false

abbrev TB : Nat := 58
theorem fz {w : World} {b t : Nat} {cs : Array Value} (h : w.heap[b]? = some (.cells cs t (0, 0))) (i : Nat) : w.frozen? ⟨b, i, none⟩ = false := blk_frozen h i
/-- Behind a grow: the new row, the place, what else stands. -/
structure Grew (w w' : World) (b l n : Nat) (lr : Int) (old : List Value) : Prop where
  got : ∃ cap cur, w'.heap[b]? = some (.cells #[.slice (some ⟨w.heap.size, 0, none⟩) (l + n) cap, .int .i64 0, .int .i8 lr] 58 (0, 0)) ∧ w'.heap[w.heap.size]? = some (.cells cur 5 (0, 0)) ∧ cur.size = cap ∧ cur.toList.take l = old ∧ l + n ≤ cap ∧ cap ≤ maxLen
  fr : w.grownBy w' (some b)

set_option maxHeartbeats 4000000 in
theorem len_calls (b : Nat) (ao : Option Addr) (l cap : Nat) (lr : Int) (w : World) (h : w.heap[b]? = some (.cells #[.slice ao l cap, .int .i64 0, .int .i8 lr] 58 (0, 0))) (hl : l ≤ 9223372036854775807) :
    Calls Try.prog 90 #[.pointer (some ⟨b, 0, none⟩)] w fun e w' => e = .returned (.int .i64 l) ∧ Drawn0 w w' := by
  have c0 : w.cell? ⟨b, 0, none⟩ = some (.slice ao l cap) := (blk_cell h 0).trans rfl
  have c1 : w.cell? ⟨b, 1, none⟩ = some (.int .i64 0) := (blk_cell h 1).trans rfl
  clear h
  go_enter Try.func90, Try.ntmps90
  go_wp2
  go_quiet (fail)
  go_wp2
  go_ret
  exact ⟨by first | rfl | (simp; done), ⟨_, rfl⟩⟩

theorem info_u8 : (Try.prog.info? 5).map (fun i => (i.zero, i.size, i.bytes)) = some (some (.int .u8 0), 1, 1) := by kernel_rfl
theorem u8_size : (Try.prog.info? 5).map (·.size) = some 1 := by
  obtain ⟨i0, hi, -, hz1, -⟩ := info_parts info_u8
  rw [hi]; simp [hz1]
theorem make64 (n : Nat) (hn : n ≤ 64) : ∃ M : Array Value, M.size = 64 ∧ ∀ W : World, (Instr.makeSlice 30 (.int .i64 (n : Int)) (.int .i64 64)).run Try.prog W = .ok (.slice (some ⟨W.heap.size, 0, none⟩) n 64) (W.alloc (.cells M 5)) := by
  obtain ⟨i0, hi, hz0, hz1, hz2⟩ := info_parts info_u8
  refine ⟨madeCells (Value.int .u8 0).cells ((64 : Int).toNat * i0.size), by rw [size_madeCells, hz1]; rfl, fun W => ?_⟩
  have h := run_makeSlice (P := Try.prog) W 30 5 i0 (.int .u8 0) Try.underlying30 hi hz0 .i64 .i64 (n : Int) 64 (by omega) (by omega) (by rw [hz1]; decide) (by rw [hz2]; decide) (by decide)
  simpa using h
theorem grown_drewN (w : World) (k : Nat) (b : Nat) : w.grownBy (w.drewN k) (some b) := ⟨rfl, rfl, rfl, Nat.le_refl _, fun _ _ _ => rfl⟩
theorem grown_set {w w1 : World} {b : Nat} (h : w.grownBy w1 (some b)) (j : Nat) (v : Value) : w.grownBy (w1.setCell ⟨b, j, none⟩ v) (some b) :=
  ⟨h.os, h.tape, h.output, by simpa [World.setCell] using h.size, fun i hi hne => (Below.heap_setCell w1 _ v i (fun e => hne (by rw [e]))).trans (h.block i hi hne)⟩
theorem grown_below {w w1 w2 : World} {b : Nat} (h : w.grownBy w1 (some b)) (k : Below w1.heap.size w1 w2) : w.grownBy w2 (some b) :=
  ⟨k.os.trans h.os, k.tape.trans h.tape, k.output.trans h.output, Nat.le_trans h.size k.size, fun i hi hne => (k.block i (Nat.lt_of_lt_of_le hi h.size)).trans (h.block i hi hne)⟩
theorem grew_mk {w w1 : World} {b l n cap : Nat} {lr : Int} {old : List Value} {cur cs : Array Value} {g : Nat} (hb : b < w.heap.size) (hg : g = w.heap.size) (hbk : w1.heap[b]? = some (.cells cs 58 (0, 0))) (hcs : ∃ v, cs = #[v, .int .i64 0, .int .i8 lr]) (hN : w1.heap[g]? = some (.cells cur 5 (0, 0))) (hz : cur.size = cap) (ht : cur.toList.take l = old) (h1 : l + n ≤ cap) (h2 : cap ≤ maxLen) (hf : w.grownBy w1 (some b)) :
    Grew w (w1.setCell ⟨b, 0, none⟩ (.slice (some ⟨g, 0, none⟩) (l + n) cap)) b l n lr old := by
  subst hg
  obtain ⟨v, rfl⟩ := hcs
  exact ⟨⟨cap, cur, blk_put hbk 0 _ rfl, blk_far hN (p := ⟨b, 0, none⟩) (Nat.ne_of_gt hb) _, hz, ht, h1, h2⟩, grown_set hf 0 _⟩
set_option maxHeartbeats 8000000 in
set_option maxRecDepth 100000 in
theorem grow_small (b n : Nat) (lr : Int) (w : World) (hbk : w.heap[b]? = some (.cells #[.slice none 0 0, .int .i64 0, .int .i8 lr] 58 (0, 0))) (hn : 1 ≤ n) (h64 : n ≤ 64) :
    Calls Try.prog 89 #[.pointer (some ⟨b, 0, none⟩), .int .i64 n] w fun e w' => e = .returned (.int .i64 0) ∧ Grew w w' b 0 n lr [] := by
  have HBK := Lib.hid hbk
  have hcell : ∀ k, (w.drewN k).cell? ⟨b, 0, none⟩ = some (.slice none 0 0) ∧ (w.drewN k).cell? ⟨b, 1, none⟩ = some (.int .i64 0) ∧ ∀ o, ((w.drewN k).alloc o).cell? ⟨b, 0, none⟩ = some (.slice none 0 0) ∧ ((w.drewN k).alloc o).frozen? ⟨b, 0, none⟩ = false := fun k => ⟨(blk_cell (blk_drewN hbk k) 0).trans rfl, (blk_cell (blk_drewN hbk k) 1).trans rfl, fun o => ⟨(blk_cell (blk_alloc (blk_drewN hbk k) o) 0).trans rfl, fz (blk_alloc (blk_drewN hbk k) o) 0⟩⟩
  obtain ⟨M, hM, hmk⟩ := make64 n h64
  have hnil : ∀ W, (binOp .eql 30 (.slice none 0 0) (.slice none 0 0)).run Try.prog W = .ok (.bool true) W := fun W => Lib.run_eql_slice_nil_nil W _ _ Try.underlying30
  have q1 : decide ((n : Int) ≤ 64) = true := decide_eq_true (by omega)
  have q1' : decide (n ≤ 64) = true := decide_eq_true h64
  have HN := Lib.hid hn
  have HC := Lib.hid hcell
  have HM := Lib.hid hM
  have H64 := Lib.hid h64
  clear hbk hn h64 hcell hM
  go_enter Try.func89, Try.ntmps89
  go_wp2_with (first | (go_at_call 90; refine (len_calls b none 0 0 lr _ HBK.out (by omega)).mono ?_; rintro e w1 ⟨rfl, ⟨k, rfl⟩⟩; obtain ⟨z0, z1, z2⟩ := HC.out k; have z3 := fun o => (z2 o).1; have z4 := fun o => (z2 o).2; clear z2) | (go_at_call 88; refine (Try.Buffer_tryGrow_none b none 0 0 n _ z0 (Nat.le_refl _) (by unfold maxLen; omega) (by have := HN.out; omega)).mono ?_; rintro e w2 ⟨rfl, hw2⟩; subst hw2))
  go_ret
  have h64 := H64.out
  refine ⟨rfl, ?_⟩
  have := grew_mk (w := w) (w1 := (w.drewN k).alloc (.cells M 5)) (b := b) (l := 0) (n := n) (cap := 64) (lr := lr) (old := []) (cur := M) (g := w.heap.size) (blk_lt HBK.out) rfl (blk_alloc (blk_drewN HBK.out k) _) ⟨_, rfl⟩ (heap_alloc_new (w.drewN k) _) HM.out (by simp) (by omega) (by unfold maxLen; omega) (grown_below (grown_drewN w k b) (below_alloc (Below.refl _ _) _))
  rw [Nat.zero_add] at this
  exact this

set_option maxHeartbeats 8000000 in
set_option maxRecDepth 100000 in
theorem grow_big (b n : Nat) (lr : Int) (w : World) (hbk : w.heap[b]? = some (.cells #[.slice (none) 0 0, .int .i64 0, .int .i8 lr] 58 (0, 0))) (hrm : 64 < n) (hlim : n ≤ 140737488355328) :
    Calls Try.prog 89 #[.pointer (some ⟨b, 0, none⟩), .int .i64 n] w fun e w' => e = .returned (.int .i64 0) ∧ Grew w w' b 0 n lr ([]) := by
  have HBK := Lib.hid hbk
  have HLIM := Lib.hid hlim
  have HRM := Lib.hid hrm
  have hcell : ∀ k, (w.drewN k).cell? ⟨b, 0, none⟩ = some (.slice (none) 0 0) ∧ (w.drewN k).cell? ⟨b, 1, none⟩ = some (.int .i64 0) := fun k => ⟨(blk_cell (blk_drewN hbk k) 0).trans rfl, (blk_cell (blk_drewN hbk k) 1).trans rfl⟩
  have hwn : IntKind.i64.wrap (n : Int) = n := by rw [IntKind.wrap_i64]; omega
  have hw0 : IntKind.i64.wrap (0 + (n : Int)) = n := by rw [IntKind.wrap_i64]; omega
  have q1 : decide ((n : Int) ≤ 64) = false := decide_eq_false (by omega)
  have q1' : decide (n ≤ 64) = false := decide_eq_false (by omega)
  have hnn : (n : Int) ≤ 140737488355328 := by omega
  have hn1 : (64 : Int) < n := by omega
  have hnil : ∀ W, (binOp .eql 30 (.slice none 0 0) (.slice none 0 0)).run Try.prog W = .ok (.bool true) W := fun W => Lib.run_eql_slice_nil_nil W _ _ Try.underlying30
  have HC := Lib.hid hcell
  clear hbk hcell hlim hrm 
  go_enter Try.func89, Try.ntmps89
  go_wp2_with (first | (go_at_call 90; refine (len_calls b (none) 0 0 lr _ HBK.out (by first | omega | (have := HLIM.out; omega))).mono ?_; rintro e w1 ⟨rfl, ⟨k, rfl⟩⟩; obtain ⟨z0, z1⟩ := HC.out k) | (go_at_call 88; refine (Try.Buffer_tryGrow_none b (none) 0 0 n _ z0 (Nat.le_refl _) (by unfold maxLen; omega) (by have := HRM.out; omega)).mono ?_; rintro e w2 ⟨rfl, hw2⟩; subst hw2))
  clear z0 z1
  refine start_ (n := 20) (S := fun w' => w'.cell? ⟨b, 0, none⟩ = some (.slice (none) 0 0) ∧ w'.cell? ⟨b, 1, none⟩ = some (.int .i64 0)) (ds := [19]) #[false, false, false, false, false, false, false, false, false, false, false, false, false, false, false, false, false, false, false, false] (by kernel_rfl) rfl rfl ⟨((blk_cell (blk_drew (blk_drewN HBK.out k)) 0).trans rfl), ((blk_cell (blk_drew (blk_drewN HBK.out k)) 1).trans rfl)⟩ (fun hHeld => ?_)
  refine pure_ (i := 0) (N := some 76) (v := ?_) (a' := ?_) #[true, false, false, false, false, false, false, false, false, false, false, false, false, false, false, false, false, false, false, false] rfl rfl (by kernel_rfl) (fun _ _ _ h => h) (Or.inl ⟨by rfl, ?_⟩) ?_ ?_
  rotate_left
  · intro w'
    go_simp
    with_reducible rfl
  rotate_left
  · simp only [Act.put, List.setIfInBounds_toArray, List.set_cons_zero, List.set_cons_succ, i64_w, i32_w]
    rfl
  refine pure_ (i := 1) (N := some 77) (v := ?_) (a' := ?_) #[true, true, false, false, false, false, false, false, false, false, false, false, false, false, false, false, false, false, false, false] rfl rfl (by kernel_rfl) (fun _ _ _ h => h) (Or.inl ⟨by rfl, ?_⟩) ?_ ?_
  rotate_left
  · intro w'
    go_simp
    with_reducible rfl
  rotate_left
  · simp only [Act.put, List.setIfInBounds_toArray, List.set_cons_zero, List.set_cons_succ, i64_w, i32_w]
    rfl
  refine pure_ (i := 2) (N := some 78) (v := ?_) (a' := ?_) #[true, true, true, false, false, false, false, false, false, false, false, false, false, false, false, false, false, false, false, false] rfl rfl (by kernel_rfl) (fun _ _ _ h => h) (Or.inl ⟨by rfl, ?_⟩) ?_ ?_
  rotate_left
  · intro w'
    go_simp
    with_reducible rfl
  rotate_left
  · simp only [Act.put, List.setIfInBounds_toArray, List.set_cons_zero, List.set_cons_succ, i64_w, i32_w]
    rfl
  refine pure_ (i := 3) (N := some 79) (v := ?_) (a' := ?_) #[true, true, true, true, false, false, false, false, false, false, false, false, false, false, false, false, false, false, false, false] rfl rfl (by kernel_rfl) (fun _ _ _ h => h) (Or.inl ⟨by rfl, ?_⟩) ?_ ?_
  rotate_left
  · intro w'
    go_simp
    with_reducible rfl
  rotate_left
  · simp only [Act.put, List.setIfInBounds_toArray, List.set_cons_zero, List.set_cons_succ, i64_w, i32_w]
    rfl
  refine pure_ (i := 5) (N := some 81) (v := ?_) (a' := ?_) #[true, true, true, true, false, true, false, false, false, false, false, false, false, false, false, false, false, false, false, false] rfl rfl (by kernel_rfl) (fun _ _ _ h => h) (Or.inl ⟨by rfl, ?_⟩) ?_ ?_
  rotate_left
  · intro w'
    go_simp
    with_reducible rfl
  rotate_left
  · simp only [Act.put, List.setIfInBounds_toArray, List.set_cons_zero, List.set_cons_succ, i64_w, i32_w]
    rfl
  refine pure_ (i := 6) (N := some 82) (v := ?_) (a' := ?_) #[true, true, true, true, false, true, true, false, false, false, false, false, false, false, false, false, false, false, false, false] rfl rfl (by kernel_rfl) (fun _ _ _ h => h) (Or.inl ⟨by rfl, ?_⟩) ?_ ?_
  rotate_left
  · intro w'
    go_simp
    with_reducible rfl
  rotate_left
  · simp only [Act.put, List.setIfInBounds_toArray, List.set_cons_zero, List.set_cons_succ, i64_w, i32_w]
    rfl
  refine pure_ (i := 7) (N := some 83) (v := ?_) (a' := ?_) #[true, true, true, true, false, true, true, true, false, false, false, false, false, false, false, false, false, false, false, false] rfl rfl (by kernel_rfl) (fun _ _ _ h => h) (Or.inl ⟨by rfl, ?_⟩) ?_ ?_
  rotate_left
  · intro w'
    go_simp
    with_reducible rfl
  rotate_left
  · simp only [Act.put, List.setIfInBounds_toArray, List.set_cons_zero, List.set_cons_succ, i64_w, i32_w]
    rfl
  refine pure_ (i := 10) (N := some 86) (v := ?_) (a' := ?_) #[true, true, true, true, false, true, true, true, false, false, true, false, false, false, false, false, false, false, false, false] rfl rfl (by kernel_rfl) (fun _ _ _ h => h) (Or.inl ⟨by rfl, ?_⟩) ?_ ?_
  rotate_left
  · intro w'
    go_simp
    with_reducible rfl
  rotate_left
  · simp only [Act.put, List.setIfInBounds_toArray, List.set_cons_zero, List.set_cons_succ, i64_w, i32_w]
    rfl
  refine pure_ (i := 11) (N := some 87) (v := ?_) (a' := ?_) #[true, true, true, true, false, true, true, true, false, false, true, true, false, false, false, false, false, false, false, false] rfl rfl (by kernel_rfl) (fun _ _ _ h => h) (Or.inl ⟨by rfl, ?_⟩) ?_ ?_
  rotate_left
  · intro w'
    go_simp
    with_reducible rfl
  rotate_left
  · simp only [Act.put, List.setIfInBounds_toArray, List.set_cons_zero, List.set_cons_succ, i64_w, i32_w]
    rfl
  refine pure_ (i := 12) (N := some 88) (v := ?_) (a' := ?_) #[true, true, true, true, false, true, true, true, false, false, true, true, true, false, false, false, false, false, false, false] rfl rfl (by kernel_rfl) (fun _ _ _ h => h) (Or.inl ⟨by rfl, ?_⟩) ?_ ?_
  rotate_left
  · intro w'
    go_simp
    with_reducible rfl
  rotate_left
  · simp only [Act.put, List.setIfInBounds_toArray, List.set_cons_zero, List.set_cons_succ, i64_w, i32_w]
    rfl
  refine pure_ (i := 14) (N := some 90) (v := ?_) (a' := ?_) #[true, true, true, true, false, true, true, true, false, false, true, true, true, false, true, false, false, false, false, false] rfl rfl (by kernel_rfl) (fun _ _ _ h => h) (Or.inl ⟨by rfl, ?_⟩) ?_ ?_
  rotate_left
  · intro w'
    go_simp
    with_reducible rfl
  rotate_left
  · simp only [Act.put, List.setIfInBounds_toArray, List.set_cons_zero, List.set_cons_succ, i64_w, i32_w]
    rfl
  refine take_ (i := 4) (N := some 80) (v := ?_) (a' := ?_) #[true, true, true, true, true, true, true, true, false, false, true, true, true, false, true, false, false, false, false, false] rfl rfl (by kernel_rfl) (fun _ _ _ h => h) (Or.inl ⟨by rfl, ?_⟩) hHeld ?_ ?_
  rotate_left
  · rintro w' ⟨s0, s1⟩
    go_simp
    with_reducible rfl
  rotate_left
  · simp only [Act.put, List.setIfInBounds_toArray, List.set_cons_zero, List.set_cons_succ, i64_w, i32_w]
    rfl
  refine take_ (i := 8) (N := some 84) (v := ?_) (a' := ?_) #[true, true, true, true, true, true, true, true, true, false, true, true, true, false, true, false, false, false, false, false] rfl rfl (by kernel_rfl) (fun _ _ _ h => h) (Or.inl ⟨by rfl, ?_⟩) hHeld ?_ ?_
  rotate_left
  · rintro w' ⟨s0, s1⟩
    go_simp
    with_reducible rfl
  rotate_left
  · simp only [Act.put, List.setIfInBounds_toArray, List.set_cons_zero, List.set_cons_succ, i64_w, i32_w]
    rfl
  refine pure_ (i := 9) (N := some 85) (v := ?_) (a' := ?_) #[true, true, true, true, true, true, true, true, true, true, true, true, true, false, true, false, false, false, false, false] rfl rfl (by kernel_rfl) (fun _ _ _ h => h) (Or.inl ⟨by rfl, ?_⟩) ?_ ?_
  rotate_left
  · intro w'
    go_simp
    with_reducible rfl
  rotate_left
  · simp only [Act.put, List.setIfInBounds_toArray, List.set_cons_zero, List.set_cons_succ, i64_w, i32_w]
    rfl
  refine take_ (i := 13) (N := some 89) (v := ?_) (a' := ?_) #[true, true, true, true, true, true, true, true, true, true, true, true, true, true, true, false, false, false, false, false] rfl rfl (by kernel_rfl) (fun _ _ _ h => h) (Or.inl ⟨by rfl, ?_⟩) hHeld ?_ ?_
  rotate_left
  · rintro w' ⟨s0, s1⟩
    go_simp
    with_reducible rfl
  rotate_left
  · simp only [Act.put, List.setIfInBounds_toArray, List.set_cons_zero, List.set_cons_succ, i64_w, i32_w]
    rfl
  refine pure_ (i := 15) (N := some 91) (v := ?_) (a' := ?_) #[true, true, true, true, true, true, true, true, true, true, true, true, true, true, true, true, false, false, false, false] rfl rfl (by kernel_rfl) (fun _ _ _ h => h) (Or.inl ⟨by rfl, ?_⟩) ?_ ?_
  rotate_left
  · intro w'
    go_simp
    with_reducible rfl
  rotate_left
  · simp only [Act.put, List.setIfInBounds_toArray, List.set_cons_zero, List.set_cons_succ, i64_w, i32_w]
    rfl
  refine one_ (i := 16) (N := some 92) #[true, true, true, true, true, true, true, true, true, true, true, true, true, true, true, true, true, false, false, false] rfl rfl (by kernel_rfl) (by decide) (fun K hK => ?_)
  refine goes_ Try.func91 (by kernel_rfl) rfl #[.slice (none) 0 0, .int .i64 n] (by rfl) rfl rfl (by simp only [List.map_toArray, List.map_cons, List.map_nil]; rfl) ?_
  with_reducible refine (Try.bytes_growSlice_nil n _ (by have := HRM.out; omega) HLIM.out).mono ?_
  rintro e w3 ⟨cap2, cells, rfl, hN, hcz, hc1, hc2, hB⟩
  refine ⟨_, rfl, ?_⟩
  have htk : cells.toList.take 0 = [] := rfl; rw [show n ≤ cap2 ↔ 0 + n ≤ cap2 from by rw [Nat.zero_add]] at hc1
  have hbk2 := blk_below (blk_drew (blk_drewN HBK.out k)) hB
  have z0_ : w3.cell? ⟨b, 0, none⟩ = some (.slice (none) 0 0) := (blk_cell hbk2 0).trans rfl
  have zf_ := fz hbk2 0; have zf1_ := fz hbk2 1; have z1_ : w3.cell? ⟨b, 1, none⟩ = some (.int .i64 0) := (blk_cell hbk2 1).trans rfl; have ic1 : (0 : Int) + n ≤ cap2 := by have := hc1; omega
  have ic3 : (n : Int) ≤ cap2 := by have := hc1; omega
  have ic2 : (cap2 : Int) ≤ 9223372036854775807 := by have := hc2; unfold maxLen at this; omega
  have HBK2 := Lib.hid hbk2; have HE := Lib.hid (And.intro hN (And.intro hcz (And.intro htk (And.intro hc1 (And.intro hc2 hB))))); clear hbk2 hN hcz htk hc1 hc2 hB
  refine hK.out _ _ ⟨((blk_cell HBK2.out 0).trans rfl), ((blk_cell HBK2.out 1).trans rfl)⟩ (fun hHeld => ?_)
  clear hK K
  refine norm_ (a' := ?_) ?_ ?_
  rotate_left
  · show Act.put _ (some 92) _ = _
    simp only [Act.put, List.setIfInBounds_toArray, List.set_cons_zero, List.set_cons_succ, i64_w, i32_w]
    rfl
  refine pure_ (i := 17) (N := some 93) (v := ?_) (a' := ?_) #[true, true, true, true, true, true, true, true, true, true, true, true, true, true, true, true, true, true, false, false] rfl rfl (by kernel_rfl) (fun _ _ _ h => h) (Or.inl ⟨by rfl, ?_⟩) ?_ ?_
  rotate_left
  · intro w'
    go_simp
    with_reducible rfl
  rotate_left
  · simp only [Act.put, List.setIfInBounds_toArray, List.set_cons_zero, List.set_cons_succ, i64_w, i32_w]
    rfl
  refine pure_ (i := 18) (N := some 94) (v := ?_) (a' := ?_) #[true, true, true, true, true, true, true, true, true, true, true, true, true, true, true, true, true, true, true, false] rfl rfl (by kernel_rfl) (fun _ _ _ h => h) (Or.inl ⟨by rfl, ?_⟩) ?_ ?_
  rotate_left
  · intro w'
    go_simp
    with_reducible rfl
  rotate_left
  · simp only [Act.put, List.setIfInBounds_toArray, List.set_cons_zero, List.set_cons_succ, i64_w, i32_w]
    rfl
  refine last_ (i := 19) (N := none) #[true, true, true, true, true, true, true, true, true, true, true, true, true, true, true, true, true, true, true, true] rfl rfl (by kernel_rfl) (by decide) (fun K hK => ?_)
  refine skip_ (w1 := ?_) (by rfl) rfl ?_ ?_
  rotate_left
  · go_simp
    rfl
  refine hK.out _ _ ?_
  clear hK K
  refine done_ (by kernel_rfl) ?_
  go_wp2
  go_ret
  have hbk2 := HBK2.out
  obtain ⟨hN, hcz, htk, hc1, hc2, hB⟩ := HE.out
  refine ⟨by first | rfl | (simp; done), ?_⟩
  have hfin := grew_mk (lr := lr) (l := 0) (n := n) (blk_lt HBK.out) rfl (blk_put (blk_put hbk2 0 (.slice (some ⟨w.heap.size, 0, none⟩) 0 cap2) rfl) 1 (.int .i64 0) rfl) ⟨_, rfl⟩ ((blk_far (blk_far hN (p := ⟨b, 0, none⟩) (Nat.ne_of_gt (blk_lt HBK.out)) _) (p := ⟨b, 1, none⟩) (Nat.ne_of_gt (blk_lt HBK.out)) _)) hcz htk hc1 hc2 (grown_set (grown_set (grown_below (w := w) (w1 := (w.drewN k).drew) ⟨rfl, rfl, rfl, Nat.le_refl _, fun _ _ _ => rfl⟩ hB) 0 _) 1 _)
  rw [Nat.zero_add] at hfin
  exact hfin

set_option maxHeartbeats 8000000 in
set_option maxRecDepth 100000 in
theorem grow_row (g l cap : Nat) (cur : Array Value) (b n : Nat) (lr : Int) (w : World) (hbk : w.heap[b]? = some (.cells #[.slice (some ⟨g, 0, none⟩) l cap, .int .i64 0, .int .i8 lr] 58 (0, 0))) (hg : w.heap[g]? = some (.cells cur 5 (0, 0))) (hgb : g ≠ b) (hcs : cur.size = cap) (hlc : l ≤ cap) (h1 : ∀ v ∈ cur.toList.take l, v.oneCell' = true) (hn1 : 1 ≤ n) (hrm : cap - l < n) (hlim : l + n ≤ 140737488355328) :
    Calls Try.prog 89 #[.pointer (some ⟨b, 0, none⟩), .int .i64 n] w fun e w' => e = .returned (.int .i64 l) ∧ Grew w w' b l n lr (cur.toList.take l) := by
  have HBK := Lib.hid hbk
  have HLIM := Lib.hid hlim
  have HRM := Lib.hid hrm
  have HG := Lib.hid hg
  have HGB := Lib.hid hgb
  have HCS := Lib.hid hcs
  have HLC := Lib.hid hlc
  have HCM := Lib.hid (show cap ≤ maxLen by unfold maxLen; omega)
  have H1 := Lib.hid h1
  have HN := Lib.hid hn1
  have hcell : ∀ k, (w.drewN k).cell? ⟨b, 0, none⟩ = some (.slice (some ⟨g, 0, none⟩) l cap) ∧ (w.drewN k).cell? ⟨b, 1, none⟩ = some (.int .i64 0) := fun k => ⟨(blk_cell (blk_drewN hbk k) 0).trans rfl, (blk_cell (blk_drewN hbk k) 1).trans rfl⟩
  have hwn : IntKind.i64.wrap (n : Int) = n := by rw [IntKind.wrap_i64]; omega
  have hw0 : IntKind.i64.wrap (0 + (n : Int)) = n := by rw [IntKind.wrap_i64]; omega
  have hl1 : (l : Int) ≤ cap := by omega
  have hl2 : (cap : Int) ≤ 140737488355328 := by omega
  have hrn : (cap : Int) - l < n := by omega
  have hnn : (n : Int) ≤ 140737488355328 := by omega
  have hln : (l : Int) + n ≤ 140737488355328 := by omega
  have hnil : ∀ W, (binOp .eql 30 (.slice (some ⟨g, 0, none⟩) l cap) (.slice none 0 0)).run Try.prog W = .ok (.bool false) W := fun W => Lib.run_eql_slice_nil W _ _ _ _ _ _ _ Try.underlying30
  have HC := Lib.hid hcell
  clear hbk hcell hlim hrm hg hgb hcs hlc h1 hn1
  obtain ⟨bz, hbz⟩ : ∃ bz, ((l : Int) == 0) = bz := ⟨_, rfl⟩
  cases bz
  all_goals
    go_enter Try.func89, Try.ntmps89
    go_wp2_with (first | (go_at_call 90; refine (len_calls b (some ⟨g, 0, none⟩) l cap lr _ HBK.out (by first | omega | (have := HLIM.out; omega))).mono ?_; rintro e w1 ⟨rfl, ⟨k, rfl⟩⟩; obtain ⟨z0, z1⟩ := HC.out k) | (go_at_call 88; refine (Try.Buffer_tryGrow_none b (some ⟨g, 0, none⟩) l cap n _ z0 HLC.out HCM.out (by have := HRM.out; omega)).mono ?_; rintro e w2 ⟨rfl, hw2⟩; subst hw2))
    clear z0 z1
    refine start_ (n := 20) (S := fun w' => w'.cell? ⟨b, 0, none⟩ = some (.slice (some ⟨g, 0, none⟩) l cap) ∧ w'.cell? ⟨b, 1, none⟩ = some (.int .i64 0)) (ds := [19]) #[false, false, false, false, false, false, false, false, false, false, false, false, false, false, false, false, false, false, false, false] (by kernel_rfl) rfl rfl ⟨((blk_cell (blk_drew (blk_drewN HBK.out k)) 0).trans rfl), ((blk_cell (blk_drew (blk_drewN HBK.out k)) 1).trans rfl)⟩ (fun hHeld => ?_)
    refine pure_ (i := 0) (N := some 76) (v := ?_) (a' := ?_) #[true, false, false, false, false, false, false, false, false, false, false, false, false, false, false, false, false, false, false, false] rfl rfl (by kernel_rfl) (fun _ _ _ h => h) (Or.inl ⟨by rfl, ?_⟩) ?_ ?_
    rotate_left
    · intro w'
      go_simp
      with_reducible rfl
    rotate_left
    · simp only [Act.put, List.setIfInBounds_toArray, List.set_cons_zero, List.set_cons_succ, i64_w, i32_w]
      rfl
    refine pure_ (i := 1) (N := some 77) (v := ?_) (a' := ?_) #[true, true, false, false, false, false, false, false, false, false, false, false, false, false, false, false, false, false, false, false] rfl rfl (by kernel_rfl) (fun _ _ _ h => h) (Or.inl ⟨by rfl, ?_⟩) ?_ ?_
    rotate_left
    · intro w'
      go_simp
      with_reducible rfl
    rotate_left
    · simp only [Act.put, List.setIfInBounds_toArray, List.set_cons_zero, List.set_cons_succ, i64_w, i32_w]
      rfl
    refine pure_ (i := 2) (N := some 78) (v := ?_) (a' := ?_) #[true, true, true, false, false, false, false, false, false, false, false, false, false, false, false, false, false, false, false, false] rfl rfl (by kernel_rfl) (fun _ _ _ h => h) (Or.inl ⟨by rfl, ?_⟩) ?_ ?_
    rotate_left
    · intro w'
      go_simp
      with_reducible rfl
    rotate_left
    · simp only [Act.put, List.setIfInBounds_toArray, List.set_cons_zero, List.set_cons_succ, i64_w, i32_w]
      rfl
    refine pure_ (i := 3) (N := some 79) (v := ?_) (a' := ?_) #[true, true, true, true, false, false, false, false, false, false, false, false, false, false, false, false, false, false, false, false] rfl rfl (by kernel_rfl) (fun _ _ _ h => h) (Or.inl ⟨by rfl, ?_⟩) ?_ ?_
    rotate_left
    · intro w'
      go_simp
      with_reducible rfl
    rotate_left
    · simp only [Act.put, List.setIfInBounds_toArray, List.set_cons_zero, List.set_cons_succ, i64_w, i32_w]
      rfl
    refine pure_ (i := 5) (N := some 81) (v := ?_) (a' := ?_) #[true, true, true, true, false, true, false, false, false, false, false, false, false, false, false, false, false, false, false, false] rfl rfl (by kernel_rfl) (fun _ _ _ h => h) (Or.inl ⟨by rfl, ?_⟩) ?_ ?_
    rotate_left
    · intro w'
      go_simp
      with_reducible rfl
    rotate_left
    · simp only [Act.put, List.setIfInBounds_toArray, List.set_cons_zero, List.set_cons_succ, i64_w, i32_w]
      rfl
    refine pure_ (i := 6) (N := some 82) (v := ?_) (a' := ?_) #[true, true, true, true, false, true, true, false, false, false, false, false, false, false, false, false, false, false, false, false] rfl rfl (by kernel_rfl) (fun _ _ _ h => h) (Or.inl ⟨by rfl, ?_⟩) ?_ ?_
    rotate_left
    · intro w'
      go_simp
      with_reducible rfl
    rotate_left
    · simp only [Act.put, List.setIfInBounds_toArray, List.set_cons_zero, List.set_cons_succ, i64_w, i32_w]
      rfl
    refine pure_ (i := 7) (N := some 83) (v := ?_) (a' := ?_) #[true, true, true, true, false, true, true, true, false, false, false, false, false, false, false, false, false, false, false, false] rfl rfl (by kernel_rfl) (fun _ _ _ h => h) (Or.inl ⟨by rfl, ?_⟩) ?_ ?_
    rotate_left
    · intro w'
      go_simp
      with_reducible rfl
    rotate_left
    · simp only [Act.put, List.setIfInBounds_toArray, List.set_cons_zero, List.set_cons_succ, i64_w, i32_w]
      rfl
    refine pure_ (i := 10) (N := some 86) (v := ?_) (a' := ?_) #[true, true, true, true, false, true, true, true, false, false, true, false, false, false, false, false, false, false, false, false] rfl rfl (by kernel_rfl) (fun _ _ _ h => h) (Or.inl ⟨by rfl, ?_⟩) ?_ ?_
    rotate_left
    · intro w'
      go_simp
      with_reducible rfl
    rotate_left
    · simp only [Act.put, List.setIfInBounds_toArray, List.set_cons_zero, List.set_cons_succ, i64_w, i32_w]
      rfl
    refine pure_ (i := 11) (N := some 87) (v := ?_) (a' := ?_) #[true, true, true, true, false, true, true, true, false, false, true, true, false, false, false, false, false, false, false, false] rfl rfl (by kernel_rfl) (fun _ _ _ h => h) (Or.inl ⟨by rfl, ?_⟩) ?_ ?_
    rotate_left
    · intro w'
      go_simp
      with_reducible rfl
    rotate_left
    · simp only [Act.put, List.setIfInBounds_toArray, List.set_cons_zero, List.set_cons_succ, i64_w, i32_w]
      rfl
    refine pure_ (i := 12) (N := some 88) (v := ?_) (a' := ?_) #[true, true, true, true, false, true, true, true, false, false, true, true, true, false, false, false, false, false, false, false] rfl rfl (by kernel_rfl) (fun _ _ _ h => h) (Or.inl ⟨by rfl, ?_⟩) ?_ ?_
    rotate_left
    · intro w'
      go_simp
      with_reducible rfl
    rotate_left
    · simp only [Act.put, List.setIfInBounds_toArray, List.set_cons_zero, List.set_cons_succ, i64_w, i32_w]
      rfl
    refine pure_ (i := 14) (N := some 90) (v := ?_) (a' := ?_) #[true, true, true, true, false, true, true, true, false, false, true, true, true, false, true, false, false, false, false, false] rfl rfl (by kernel_rfl) (fun _ _ _ h => h) (Or.inl ⟨by rfl, ?_⟩) ?_ ?_
    rotate_left
    · intro w'
      go_simp
      with_reducible rfl
    rotate_left
    · simp only [Act.put, List.setIfInBounds_toArray, List.set_cons_zero, List.set_cons_succ, i64_w, i32_w]
      rfl
    refine take_ (i := 4) (N := some 80) (v := ?_) (a' := ?_) #[true, true, true, true, true, true, true, true, false, false, true, true, true, false, true, false, false, false, false, false] rfl rfl (by kernel_rfl) (fun _ _ _ h => h) (Or.inl ⟨by rfl, ?_⟩) hHeld ?_ ?_
    rotate_left
    · rintro w' ⟨s0, s1⟩
      go_simp
      with_reducible rfl
    rotate_left
    · simp only [Act.put, List.setIfInBounds_toArray, List.set_cons_zero, List.set_cons_succ, i64_w, i32_w]
      rfl
    refine take_ (i := 8) (N := some 84) (v := ?_) (a' := ?_) #[true, true, true, true, true, true, true, true, true, false, true, true, true, false, true, false, false, false, false, false] rfl rfl (by kernel_rfl) (fun _ _ _ h => h) (Or.inl ⟨by rfl, ?_⟩) hHeld ?_ ?_
    rotate_left
    · rintro w' ⟨s0, s1⟩
      go_simp
      with_reducible rfl
    rotate_left
    · simp only [Act.put, List.setIfInBounds_toArray, List.set_cons_zero, List.set_cons_succ, i64_w, i32_w]
      rfl
    refine pure_ (i := 9) (N := some 85) (v := ?_) (a' := ?_) #[true, true, true, true, true, true, true, true, true, true, true, true, true, false, true, false, false, false, false, false] rfl rfl (by kernel_rfl) (fun _ _ _ h => h) (Or.inl ⟨by rfl, ?_⟩) ?_ ?_
    rotate_left
    · intro w'
      go_simp
      with_reducible rfl
    rotate_left
    · simp only [Act.put, List.setIfInBounds_toArray, List.set_cons_zero, List.set_cons_succ, i64_w, i32_w]
      rfl
    refine take_ (i := 13) (N := some 89) (v := ?_) (a' := ?_) #[true, true, true, true, true, true, true, true, true, true, true, true, true, true, true, false, false, false, false, false] rfl rfl (by kernel_rfl) (fun _ _ _ h => h) (Or.inl ⟨by rfl, ?_⟩) hHeld ?_ ?_
    rotate_left
    · rintro w' ⟨s0, s1⟩
      go_simp
      with_reducible rfl
    rotate_left
    · simp only [Act.put, List.setIfInBounds_toArray, List.set_cons_zero, List.set_cons_succ, i64_w, i32_w]
      rfl
    refine pure_ (i := 15) (N := some 91) (v := ?_) (a' := ?_) #[true, true, true, true, true, true, true, true, true, true, true, true, true, true, true, true, false, false, false, false] rfl rfl (by kernel_rfl) (fun _ _ _ h => h) (Or.inl ⟨by rfl, ?_⟩) ?_ ?_
    rotate_left
    · intro w'
      go_simp
      with_reducible rfl
    rotate_left
    · simp only [Act.put, List.setIfInBounds_toArray, List.set_cons_zero, List.set_cons_succ, i64_w, i32_w]
      rfl
    refine one_ (i := 16) (N := some 92) #[true, true, true, true, true, true, true, true, true, true, true, true, true, true, true, true, true, false, false, false] rfl rfl (by kernel_rfl) (by decide) (fun K hK => ?_)
    refine goes_ Try.func91 (by kernel_rfl) rfl #[.slice (some ⟨g, 0, none⟩) l cap, .int .i64 n] (by rfl) rfl rfl (by simp only [List.map_toArray, List.map_cons, List.map_nil]; rfl) ?_
    with_reducible refine (Try.bytes_growSlice_row g l cap n cur _ (blk_drew (blk_drewN HG.out k)) HCS.out HLC.out HN.out HLIM.out (by have := HRM.out; have := HLIM.out; omega) H1.out).mono ?_
    rintro e w3 ⟨cap2, cells, rfl, hN, hcz, htk, hc1, hc2, hB⟩
    refine ⟨_, rfl, ?_⟩
    have hbk2 := blk_below (blk_drew (blk_drewN HBK.out k)) hB
    have z0_ : w3.cell? ⟨b, 0, none⟩ = some (.slice (some ⟨g, 0, none⟩) l cap) := (blk_cell hbk2 0).trans rfl
    have zf_ := fz hbk2 0; have zf1_ := fz hbk2 1; have z1_ : w3.cell? ⟨b, 1, none⟩ = some (.int .i64 0) := (blk_cell hbk2 1).trans rfl; have ic1 : (l : Int) + n ≤ cap2 := by have := hc1; omega
    have ic3 : (n : Int) ≤ cap2 := by have := hc1; omega
    have ic2 : (cap2 : Int) ≤ 9223372036854775807 := by have := hc2; unfold maxLen at this; omega
    have HBK2 := Lib.hid hbk2; have HE := Lib.hid (And.intro hN (And.intro hcz (And.intro htk (And.intro hc1 (And.intro hc2 hB))))); clear hbk2 hN hcz htk hc1 hc2 hB
    refine hK.out _ _ ⟨((blk_cell HBK2.out 0).trans rfl), ((blk_cell HBK2.out 1).trans rfl)⟩ (fun hHeld => ?_)
    clear hK K
    refine norm_ (a' := ?_) ?_ ?_
    rotate_left
    · show Act.put _ (some 92) _ = _
      simp only [Act.put, List.setIfInBounds_toArray, List.set_cons_zero, List.set_cons_succ, i64_w, i32_w]
      rfl
    refine pure_ (i := 17) (N := some 93) (v := ?_) (a' := ?_) #[true, true, true, true, true, true, true, true, true, true, true, true, true, true, true, true, true, true, false, false] rfl rfl (by kernel_rfl) (fun _ _ _ h => h) (Or.inl ⟨by rfl, ?_⟩) ?_ ?_
    rotate_left
    · intro w'
      go_simp
      with_reducible rfl
    rotate_left
    · simp only [Act.put, List.setIfInBounds_toArray, List.set_cons_zero, List.set_cons_succ, i64_w, i32_w]
      rfl
    refine pure_ (i := 18) (N := some 94) (v := ?_) (a' := ?_) #[true, true, true, true, true, true, true, true, true, true, true, true, true, true, true, true, true, true, true, false] rfl rfl (by kernel_rfl) (fun _ _ _ h => h) (Or.inl ⟨by rfl, ?_⟩) ?_ ?_
    rotate_left
    · intro w'
      go_simp
      with_reducible rfl
    rotate_left
    · simp only [Act.put, List.setIfInBounds_toArray, List.set_cons_zero, List.set_cons_succ, i64_w, i32_w]
      rfl
    refine last_ (i := 19) (N := none) #[true, true, true, true, true, true, true, true, true, true, true, true, true, true, true, true, true, true, true, true] rfl rfl (by kernel_rfl) (by decide) (fun K hK => ?_)
    refine skip_ (w1 := ?_) (by rfl) rfl ?_ ?_
    rotate_left
    · go_simp
      rfl
    refine hK.out _ _ ?_
    clear hK K
    refine done_ (by kernel_rfl) ?_
    go_wp2
    go_ret
    have hbk2 := HBK2.out
    obtain ⟨hN, hcz, htk, hc1, hc2, hB⟩ := HE.out
    refine ⟨by first | rfl | (simp; done), ?_⟩
    have hfin := grew_mk (lr := lr) (l := l) (n := n) (blk_lt HBK.out) rfl (blk_put (blk_put hbk2 0 (.slice (some ⟨w.heap.size, 0, none⟩) l cap2) rfl) 1 (.int .i64 0) rfl) ⟨_, rfl⟩ ((blk_far (blk_far hN (p := ⟨b, 0, none⟩) (Nat.ne_of_gt (blk_lt HBK.out)) _) (p := ⟨b, 1, none⟩) (Nat.ne_of_gt (blk_lt HBK.out)) _)) hcz htk hc1 hc2 (grown_set (grown_set (grown_below (w := w) (w1 := (w.drewN k).drew) ⟨rfl, rfl, rfl, Nat.le_refl _, fun _ _ _ => rfl⟩ hB) 0 _) 1 _)
    exact hfin


/-- Block b is a writer that holds l; v is its row. -/
structure Bf (B b : Nat) (v : Value) (l : List Int) (w : World) : Prop where
  lo : B ≤ b
  blk : ∃ lr, w.heap[b]? = some (.cells #[v, .int .i64 0, .int .i8 lr] 58 (0, 0))
  row : w.ownsRow B 5 1 v l.length (nums .u8 l)
  ne : v.ownBlock ≠ some b
/-- What a write turns. -/
structure Wrote (B b : Nat) (v v' : Value) (w w' : World) : Prop where
  B : Below B w w'
  fr : ∀ k, k < w.heap.size → k ≠ b → some k ≠ v.ownBlock → w'.heap[k]? = w.heap[k]?
  at_ : v'.ownBlock = v.ownBlock ∨ ∃ g, v'.ownBlock = some g ∧ w.heap.size ≤ g
theorem Bf.lt {B b : Nat} {v : Value} {l : List Int} {w : World} (h : Bf B b v l w) : b < w.heap.size := by obtain ⟨_, hb⟩ := h.blk; exact blk_lt hb
theorem Bf.cases {B b : Nat} {v : Value} {l : List Int} {w : World} (h : Bf B b v l w) : (v = .slice none 0 0 ∧ l = []) ∨
    ∃ g cap cur, v = .slice (some ⟨g, 0, none⟩) l.length cap ∧ B ≤ g ∧ w.heap[g]? = some (.cells cur 5 (0, 0)) ∧ l.length ≤ cap ∧ cap ≤ maxLen ∧ cur.size = cap ∧ cur.toList.take l.length = nums .u8 l ∧ g ≠ b := by
  rcases h.row.2 with ⟨rfl, h0⟩ | ⟨g, cap, cur, rfl, hB, hg, h1, h2, h3, h4⟩
  · exact .inl ⟨rfl, List.eq_nil_of_length_eq_zero h0⟩
  · exact .inr ⟨g, cap, cur, rfl, hB, hg, h1, h2, by simpa using h3, by simpa using h4, fun e => h.ne (by rw [← e]; rfl)⟩
theorem nums_one (d : List Int) : ∀ v ∈ nums .u8 d, v.oneCell' = true := by
  intro v hv
  obtain ⟨x, _, rfl⟩ := List.mem_map.1 hv
  rfl
theorem wrote_end {B b g cap : Nat} {lr : Int} {v : Value} {l d : List Int} {w W : World} {cur : Array Value} (hlo : B ≤ b) (hBg : B ≤ g)
    (hbk : W.heap[b]? = some (.cells #[.slice (some ⟨g, 0, none⟩) (l.length + d.length) cap, .int .i64 0, .int .i8 lr] 58 (0, 0))) (hg : W.heap[g]? = some (.cells cur 5 (0, 0))) (hz : cur.size = cap)
    (ht : cur.toList.take l.length = nums .u8 l) (hc : l.length + d.length ≤ cap) (hm : cap ≤ maxLen) (hgb : g ≠ b) (hBel : Below B w W) (hfr : ∀ k, k < w.heap.size → k ≠ b → W.heap[k]? = w.heap[k]?) (hat : v.ownBlock = some g ∨ w.heap.size ≤ g) :
    Bf B b (.slice (some ⟨g, 0, none⟩) (l.length + d.length) cap) (l ++ d) (W.setRow g (cur.toList.take l.length ++ nums .u8 d ++ cur.toList.drop (l.length + (nums .u8 d).length)).toArray) ∧
    Wrote B b v (.slice (some ⟨g, 0, none⟩) (l.length + d.length) cap) w (W.setRow g (cur.toList.take l.length ++ nums .u8 d ++ cur.toList.drop (l.length + (nums .u8 d).length)).toArray) := by
  have hsz : (cur.toList.take l.length ++ nums .u8 d ++ cur.toList.drop (l.length + (nums .u8 d).length)).length = cap := by
    simp only [List.length_append, List.length_take, List.length_drop, Array.length_toList, nums_length]; omega
  refine ⟨⟨hlo, ⟨lr, ?_⟩, ?_, by simpa [Value.ownBlock] using hgb⟩, ⟨?_, ?_, ?_⟩⟩
  · rw [setRow_other _ _ _ _ (Ne.symm hgb)]; exact hbk
  · refine ⟨by simp [nums_length], .inr ⟨g, cap, _, by rw [List.length_append], hBg, setRow_heap W g cur _ _ _ hg, by rw [List.length_append]; exact hc, hm, by rw [List.size_toArray, hsz, Nat.mul_one], ?_⟩⟩
    simp only [Nat.mul_one]
    rw [ht, ← nums_append, List.take_append_of_le_length (by rw [nums_length]; exact Nat.le_refl _), List.take_of_length_le (by rw [nums_length]; exact Nat.le_refl _)]
  · exact (Lib.written_end (news := nums .u8 d) (l := l.length) hlo (by rw [nums_length]; exact hbk) hBg hg hm hz hgb (by rw [nums_length]; exact hc)).2 |> hBel.trans
  · intro k hk hkb hkv
    have hkg : k ≠ g := by
      rcases hat with h | h
      · exact fun e => hkv (by rw [h, e])
      · omega
    rw [setRow_other _ _ _ _ hkg]; exact hfr k hk hkb
  · rcases hat with h | h
    · exact .inl h.symm
    · exact .inr ⟨g, rfl, h⟩
theorem fr_set {w : World} {b : Nat} (j : Nat) (v : Value) {W : World} (h : ∀ k, k < w.heap.size → k ≠ b → W.heap[k]? = w.heap[k]?) : ∀ k, k < w.heap.size → k ≠ b → (W.setCell ⟨b, j, none⟩ v).heap[k]? = w.heap[k]? :=
  fun k hk hkb => (Below.heap_setCell W _ v k hkb).trans (h k hk hkb)
theorem size_set (w : World) (p : Addr) (v : Value) : (w.setCell p v).heap.size = w.heap.size := by simp [World.setCell]

set_option maxHeartbeats 8000000 in
set_option maxRecDepth 100000 in
theorem write_zero (B b : Nat) (v : Value) (l : List Int) (w : World) (h : Bf B b v l w) (A : Option Addr) (c : Nat) :
    Calls Try.prog 87 #[.pointer (some ⟨b, 0, none⟩), .slice A 0 c] w fun e w' => e = .returned (.tuple #[.int .i64 0, .nilIface]) ∧ Bf B b v l w' ∧ Wrote B b v v w w' := by
  obtain ⟨lr, hbk⟩ := h.blk
  have c2 : w.cell? ⟨b, 2, none⟩ = some (.int .i8 lr) := (blk_cell hbk 2).trans rfl
  have f2 := fz hbk 2
  have hce : ∀ (d : Option Addr) (n m : Nat) (W : World), (Builtin.copy_ #[30, 30] 3 #[.slice d n m, .slice A 0 c]).run Try.prog W = .ok (goInt 0) W := fun d n m W => run_copy_none W _ _ _ 5 d A n m 0 c Try.underlying30 u8_size (by simp)
  have hend : ∀ ao n cap, v = .slice ao n cap → n = l.length → Bf B b v l ((w.setCell ⟨b, 2, none⟩ (.int .i8 0)).setCell ⟨b, 0, none⟩ (.slice ao n cap)) ∧ Wrote B b v v w ((w.setCell ⟨b, 2, none⟩ (.int .i8 0)).setCell ⟨b, 0, none⟩ (.slice ao n cap)) := by
    rintro ao n cap rfl rfl
    refine ⟨⟨h.lo, ⟨0, blk_put (blk_put hbk 2 (.int .i8 0) rfl) 0 _ rfl⟩, own_setCell (own_setCell h.row (fun e => h.ne e.symm) _) (fun e => h.ne e.symm) _, h.ne⟩, ⟨((Below.refl _ _).setCell h.lo _).setCell h.lo _, fun k hk hkb _ => fr_set 0 _ (fr_set 2 _ (fun _ _ _ => rfl)) k hk hkb, .inl rfl⟩⟩
  have HEND := Lib.hid hend
  rcases h.cases with ⟨rfl, rfl⟩ | ⟨g, cap, cur, rfl, hBg, hg, hlc, hcm, hcs, htk, hgb⟩
  · have z0 : (w.setCell ⟨b, 2, none⟩ (.int .i8 0)).cell? ⟨b, 0, none⟩ = some (.slice none 0 0) := (blk_cell (blk_put hbk 2 (.int .i8 0) rfl) 0).trans rfl
    have zf := fz (blk_put hbk 2 (.int .i8 0) rfl) 0
    have zn : ((w.setCell ⟨b, 2, none⟩ (.int .i8 0)).setCell ⟨b, 0, none⟩ (.slice none 0 0)).cell? ⟨b, 0, none⟩ = some (.slice none 0 0) := (blk_cell (blk_put (blk_put hbk 2 (.int .i8 0) rfl) 0 (.slice none 0 0) rfl) 0).trans rfl
    clear h hbk hend
    go_enter Try.func87, Try.ntmps87
    go_wp2_with (go_at_call 88; refine (Try.Buffer_tryGrow_room b none 0 0 0 _ z0 zf (Nat.le_refl _) (by unfold maxLen; omega) (by omega)).mono ?_; rintro e w2 ⟨rfl, rfl⟩)
    go_ret2
    exact ⟨rfl, HEND.out none 0 0 rfl rfl⟩
  · have z0 : (w.setCell ⟨b, 2, none⟩ (.int .i8 0)).cell? ⟨b, 0, none⟩ = some (.slice (some ⟨g, 0, none⟩) l.length cap) := (blk_cell (blk_put hbk 2 (.int .i8 0) rfl) 0).trans rfl
    have zf := fz (blk_put hbk 2 (.int .i8 0) rfl) 0
    have zn : ((w.setCell ⟨b, 2, none⟩ (.int .i8 0)).setCell ⟨b, 0, none⟩ (.slice (some ⟨g, 0, none⟩) l.length cap)).cell? ⟨b, 0, none⟩ = some (.slice (some ⟨g, 0, none⟩) l.length cap) := (blk_cell (blk_put (blk_put hbk 2 (.int .i8 0) rfl) 0 _ rfl) 0).trans rfl
    have hl1 : (l.length : Int) ≤ cap := by omega
    have hl2 : (cap : Int) ≤ 9223372036854775807 := by unfold maxLen at hcm; omega
    have HLC := Lib.hid hlc
    have HCM := Lib.hid hcm
    clear h hbk hend hlc hcm htk hcs hg hgb hBg
    by_cases hcl : cap = l.length
    all_goals
      first | subst hcl | skip
      go_enter Try.func87, Try.ntmps87
      go_wp2_with (go_at_call 88; refine (Try.Buffer_tryGrow_room b (some ⟨g, 0, none⟩) l.length _ 0 _ z0 zf HLC.out HCM.out (by omega)).mono ?_; rintro e w2 ⟨rfl, rfl⟩)
      go_ret2
      exact ⟨rfl, HEND.out _ _ _ rfl rfl⟩

theorem KC_cells {w : World} {A : Option Addr} {d : List Int} (h : Kd.C (Kd.int .u8) w A d.length d) (hd : 0 < d.length) : ∃ a, A = some a ∧ Lies w a (nums .u8 d) := by
  obtain ⟨_, _, h3⟩ := h
  obtain ⟨a, rfl, hc⟩ := h3 hd
  refine ⟨a, rfl, fun j v hj => ?_⟩
  have hjl : j < d.length := by have := (List.getElem?_eq_some_iff.1 hj).1; rwa [nums_length] at this
  obtain ⟨c, hcl, hK, hcc⟩ := hc j d[j] (List.getElem?_eq_getElem hjl)
  have hK' : c = [.int .u8 d[j]] := hK
  subst hK'
  have := hcc 0 (.int .u8 d[j]) rfl
  have hv : v = .int .u8 d[j] := by
    have : (nums .u8 d)[j]? = some (.int .u8 d[j]) := by simp [nums, hjl]
    rw [this] at hj; exact (Option.some.inj hj).symm
  rw [hv]
  rwa [show j * (Kd.int .u8).sz + 0 = j from Nat.mul_one _] at this
/-- The last piece of Write: the copy into the row. -/
theorem copy_run {W : World} {g l n cap : Nat} {a : Addr} {c : Nat} {d : List Int} {cur : Array Value} (hg : W.heap[g]? = some (.cells cur 5 (0, 0))) (hl : Lies W a (nums .u8 d)) (hn : d.length = n) (hz : cur.size = cap) (hc : l + n ≤ cap) :
    (Builtin.copy_ #[30, 30] 3 #[.slice (some ⟨g, l, none⟩) n (cap - l), .slice (some a) n c]).run Try.prog W = .ok (goInt n) (W.setRow g (cur.toList.take l ++ nums .u8 d ++ cur.toList.drop (l + (nums .u8 d).length)).toArray) := by
  have h := run_copy_row (P := Try.prog) W 30 30 3 5 g l n (cap - l) a n c cur 5 (nums .u8 d) Try.underlying30 u8_size hg (by rw [nums_length, hn]; exact (Nat.min_self n).symm) hl (by rw [nums_length, hn, hz]; exact hc) (nums_one d)
  rw [h, nums_length, hn]
/-- Behind a grow: what the copy does. -/
theorem grew_end {B b m n : Nat} {v : Value} {l d : List Int} {w w3 : World} {a : Addr} {c : Nat} {old : List Value}
    (hgen : ∀ (W : World) (g cap : Nat) (lr2 : Int) (cur : Array Value), B ≤ g → W.heap[b]? = some (.cells #[.slice (some ⟨g, 0, none⟩) (m + n) cap, .int .i64 0, .int .i8 lr2] 58 (0, 0)) → W.heap[g]? = some (.cells cur 5 (0, 0)) → cur.size = cap → cur.toList.take m = nums .u8 l → m + n ≤ cap → cap ≤ maxLen → g ≠ b → Below B w W → (∀ k, k < w.heap.size → k ≠ b → W.heap[k]? = w.heap[k]?) → (v.ownBlock = some g ∨ w.heap.size ≤ g) →
      ∃ R : Array Value, (Builtin.copy_ #[30, 30] 3 #[.slice (some ⟨g, m, none⟩) n (cap - m), .slice (some a) n c]).run Try.prog W = .ok (goInt n) (W.setRow g R) ∧ ∃ v', Bf B b v' (l ++ d) (W.setRow g R) ∧ Wrote B b v v' w (W.setRow g R))
    (hBw : B ≤ w.heap.size) (hbs : b < w.heap.size) (hbel : Below B w (w.setCell ⟨b, 2, none⟩ (.int .i8 0))) (hfr : ∀ k, k < w.heap.size → k ≠ b → (w.setCell ⟨b, 2, none⟩ (.int .i8 0)).heap[k]? = w.heap[k]?) (hlo : B ≤ b) (hn : 0 < n)
    (hG : Grew (w.setCell ⟨b, 2, none⟩ (.int .i8 0)) w3 b m n 0 old) (hold : old = nums .u8 l) :
    ∃ (cap : Nat) (R : Array Value), w3.heap[b]? = some (.cells #[.slice (some ⟨w.heap.size, 0, none⟩) (m + n) cap, .int .i64 0, .int .i8 0] 58 (0, 0)) ∧ ¬ cap = m ∧
      (Builtin.copy_ #[30, 30] 3 #[.slice (some ⟨w.heap.size, m, none⟩) n (cap - m), .slice (some a) n c]).run Try.prog w3 = .ok (goInt n) (w3.setRow w.heap.size R) ∧ (∃ v', Bf B b v' (l ++ d) (w3.setRow w.heap.size R) ∧ Wrote B b v v' w (w3.setRow w.heap.size R)) ∧ (m : Int) + n ≤ cap ∧ (cap : Int) ≤ 9223372036854775807 := by
  obtain ⟨⟨cap, cur, h1, h2, h3, h4, h5, h6⟩, hf⟩ := hG
  rw [size_set] at h1 h2
  have hB3 : Below B w w3 := pw_below_grown hbel (some b) (by rw [size_set]; exact hBw) hf (fun k hk => by cases hk; exact hlo)
  obtain ⟨R, hcp, hend⟩ := hgen w3 w.heap.size cap 0 cur hBw h1 h2 h3 (h4.trans hold) h5 h6 (Nat.ne_of_gt hbs) hB3 (fun k hk hkb => (hf.block k (by rw [size_set]; exact hk) (fun e => hkb (Option.some.inj e))).trans (hfr k hk hkb)) (.inr (Nat.le_refl _))
  exact ⟨cap, R, h1, by omega, hcp, hend, by omega, by unfold maxLen at h6; omega⟩
set_option maxHeartbeats 8000000 in
set_option maxRecDepth 100000 in
theorem write_more (B b : Nat) (v : Value) (l : List Int) (w : World) (h : Bf B b v l w) (a : Addr) (c : Nat) (d : List Int) (hd : 0 < d.length) (hC : Lies w a (nums .u8 d)) (hab : a.block ≠ b) (hBw : B ≤ w.heap.size) (hlim : l.length + d.length ≤ 140737488355328) :
    Calls Try.prog 87 #[.pointer (some ⟨b, 0, none⟩), .slice (some a) d.length c] w fun e w' => e = .returned (.tuple #[.int .i64 d.length, .nilIface]) ∧ ∃ v', Bf B b v' (l ++ d) w' ∧ Wrote B b v v' w w' := by
  obtain ⟨lr, hbk⟩ := h.blk
  have c2 : w.cell? ⟨b, 2, none⟩ = some (.int .i8 lr) := (blk_cell hbk 2).trans rfl
  have f2 := fz hbk 2
  have hb2 : ∀ v0 x y, w.heap[b]? = some (.cells #[v0, x, y] 58 (0, 0)) → (w.setCell ⟨b, 2, none⟩ (.int .i8 0)).heap[b]? = some (.cells #[v0, x, .int .i8 0] 58 (0, 0)) := fun v0 x y h => blk_put h 2 _ rfl
  have hbk0 := hb2 _ _ _ hbk
  have hbel : Below B w (w.setCell ⟨b, 2, none⟩ (.int .i8 0)) := (Below.refl _ _).setCell h.lo _
  have hfr0 : ∀ k, k < w.heap.size → k ≠ b → (w.setCell ⟨b, 2, none⟩ (.int .i8 0)).heap[k]? = w.heap[k]? := fr_set 2 _ (fun _ _ _ => rfl)
  obtain ⟨n, hn⟩ : ∃ n, d.length = n := ⟨_, rfl⟩
  obtain ⟨m, hm⟩ : ∃ m, l.length = m := ⟨_, rfl⟩
  have hgen : ∀ (W : World) (g cap : Nat) (lr2 : Int) (cur : Array Value), B ≤ g → W.heap[b]? = some (.cells #[.slice (some ⟨g, 0, none⟩) (m + n) cap, .int .i64 0, .int .i8 lr2] 58 (0, 0)) → W.heap[g]? = some (.cells cur 5 (0, 0)) → cur.size = cap → cur.toList.take m = nums .u8 l → m + n ≤ cap → cap ≤ maxLen → g ≠ b → Below B w W → (∀ k, k < w.heap.size → k ≠ b → W.heap[k]? = w.heap[k]?) → (v.ownBlock = some g ∨ w.heap.size ≤ g) →
      ∃ R : Array Value, (Builtin.copy_ #[30, 30] 3 #[.slice (some ⟨g, m, none⟩) n (cap - m), .slice (some a) n c]).run Try.prog W = .ok (goInt n) (W.setRow g R) ∧ ∃ v', Bf B b v' (l ++ d) (W.setRow g R) ∧ Wrote B b v v' w (W.setRow g R) := by
    intro W g cap lr2 cur hBg hbk hg hz ht hc hcm hgb hBel hfr hat
    subst hn hm
    refine ⟨_, copy_run hg ?_ rfl hz hc, _, wrote_end h.lo hBg hbk hg hz ht hc hcm hgb hBel hfr hat⟩
    intro j u hj
    have h1 := hC j u hj
    have hlt := World.block_lt_of_cell? w _ h1
    rw [Lib.block_add] at hlt
    have h2 := hfr a.block hlt hab
    exact (World.cell?_of_block (a := a.add j) (show W.heap[(a.add j).block]? = w.heap[(a.add j).block]? by rw [Lib.block_add]; exact h2)).trans h1
  rw [hn] at hd hlim ⊢
  rw [hm] at hlim
  have HLO := Lib.hid h.lo
  have HGEN := Lib.hid hgen
  have HD := Lib.hid hd
  have HLIM := Lib.hid hlim
  have HFR := Lib.hid hfr0
  have HBEL := Lib.hid hbel
  have HB0 := Lib.hid hbk0
  have hnp : (0 : Int) < n := by omega
  have hcases := h.cases
  rw [hm] at hcases
  clear hgen hfr0 hbel
  rcases hcases with ⟨rfl, rfl⟩ | ⟨g, cap, cur, rfl, hBg, hg, hlc, hcm, hcs, htk, hgb⟩
  · have z0 : (w.setCell ⟨b, 2, none⟩ (.int .i8 0)).cell? ⟨b, 0, none⟩ = some (.slice none 0 0) := (blk_cell hbk0 0).trans rfl
    have HBW := Lib.hid hBw
    have HBS := Lib.hid h.lt
    have hm0 : m = 0 := by rw [← hm]; rfl
    subst hm0
    have hG : Calls Try.prog 89 #[.pointer (some ⟨b, 0, none⟩), .int .i64 n] (w.setCell ⟨b, 2, none⟩ (.int .i8 0)) fun e w' => e = .returned (.int .i64 0) ∧ Grew (w.setCell ⟨b, 2, none⟩ (.int .i8 0)) w' b 0 n 0 [] := by
      by_cases h64 : n ≤ 64
      · exact grow_small b n 0 _ hbk0 hd h64
      · exact grow_big b n 0 _ hbk0 (by omega) (by omega)
    have HG := Lib.hid hG
    have hpre : ∀ w3, Grew (w.setCell ⟨b, 2, none⟩ (.int .i8 0)) w3 b 0 n 0 [] → ∃ (cap : Nat) (R : Array Value), w3.cell? ⟨b, 0, none⟩ = some (.slice (some ⟨w.heap.size, 0, none⟩) n cap) ∧
        (Builtin.copy_ #[30, 30] 3 #[.slice (some ⟨w.heap.size, 0, none⟩) n cap, .slice (some a) n c]).run Try.prog w3 = .ok (goInt n) (w3.setRow w.heap.size R) ∧ (∃ v', Bf B b v' ([] ++ d) (w3.setRow w.heap.size R) ∧ Wrote B b (.slice none 0 0) v' w (w3.setRow w.heap.size R)) ∧ (n : Int) ≤ cap ∧ (cap : Int) ≤ 9223372036854775807 ∧ ¬ cap = 0 := by
      intro w3 hGr
      obtain ⟨cap, R, hbk3, hne, hcp, hend, hr1, hr2⟩ := grew_end HGEN.out HBW.out HBS.out HBEL.out HFR.out HLO.out HD.out hGr rfl
      rw [Nat.zero_add] at hbk3
      rw [Nat.sub_zero] at hcp
      exact ⟨cap, R, (blk_cell hbk3 0).trans rfl, hcp, hend, by have := hr1; omega, hr2, hne⟩
    have HPRE := Lib.hid hpre
    clear h hbk hbk0 hn hm hd hlim hb2 hab hC hG hBw hpre
    go_enter Try.func87, Try.ntmps87
    go_wp2_with (first | (go_at_call 88; refine (Try.Buffer_tryGrow_none b none 0 0 n _ z0 (Nat.le_refl _) (by unfold maxLen; omega) (by have := HD.out; omega)).mono ?_; rintro e w2 ⟨rfl, hw2⟩; subst hw2) | (go_at_call 89; refine HG.out.mono ?_; rintro e w3 ⟨rfl, hGr⟩; obtain ⟨cap, R, zn, hcp, hend, hr3, hr2, hne⟩ := HPRE.out w3 hGr; have HEND := Lib.hid hend; clear hend hGr))
    go_ret2
    exact ⟨rfl, HEND.out⟩
  · have hg0 : (w.setCell ⟨b, 2, none⟩ (.int .i8 0)).heap[g]? = some (.cells cur 5 (0, 0)) := blk_far hg (p := ⟨b, 2, none⟩) hgb _
    have z0 : (w.setCell ⟨b, 2, none⟩ (.int .i8 0)).cell? ⟨b, 0, none⟩ = some (.slice (some ⟨g, 0, none⟩) m cap) := (blk_cell hbk0 0).trans rfl
    have zf := fz hbk0 0
    have hl2 : (cap : Int) ≤ 9223372036854775807 := by unfold maxLen at hcm; omega
    have HLC := Lib.hid hlc
    have HCM := Lib.hid hcm
    by_cases hroom : n ≤ cap - m
    · have hg1 : ((w.setCell ⟨b, 2, none⟩ (.int .i8 0)).setCell ⟨b, 0, none⟩ (.slice (some ⟨g, 0, none⟩) (m + n) cap)).heap[g]? = some (.cells cur 5 (0, 0)) := blk_far hg0 (p := ⟨b, 0, none⟩) hgb _
      have hb1 := blk_put hbk0 0 (.slice (some ⟨g, 0, none⟩) (m + n) cap) rfl
      have zn : ((w.setCell ⟨b, 2, none⟩ (.int .i8 0)).setCell ⟨b, 0, none⟩ (.slice (some ⟨g, 0, none⟩) (m + n) cap)).cell? ⟨b, 0, none⟩ = some (.slice (some ⟨g, 0, none⟩) (m + n) cap) := (blk_cell hb1 0).trans rfl
      obtain ⟨R, hcp, hend⟩ := HGEN.out _ g cap _ cur hBg hb1 hg1 hcs htk (by omega) hcm hgb (HBEL.out.setCell HLO.out _) (fr_set 0 _ HFR.out) (.inl rfl)
      have HEND := Lib.hid hend
      have HR := Lib.hid hroom
      have hne : ¬ cap = m := by omega
      have hr1 : (m : Int) + n ≤ cap := by omega
      have hr2 : (m : Int) ≤ m + n := by omega
      clear h hbk hend hlc hcm htk hcs hg hgb hBg hb1 hg0 hg1 hbk0 hn hm hd hlim hroom hb2 hab hC
      go_enter Try.func87, Try.ntmps87
      go_wp2_with (go_at_call 88; refine (Try.Buffer_tryGrow_room b (some ⟨g, 0, none⟩) m cap n _ z0 zf HLC.out HCM.out HR.out).mono ?_; rintro e w2 ⟨rfl, rfl⟩)
      go_ret2
      exact ⟨rfl, HEND.out⟩
    · have HBW := Lib.hid hBw
      have HBS := Lib.hid h.lt
      have hG := grow_row g m cap cur b n 0 _ hbk0 hg0 hgb hcs hlc (by rw [htk]; exact nums_one l) hd (by omega) hlim
      rw [htk] at hG
      have HG := Lib.hid hG
      have HRM := Lib.hid hroom
      clear h hbk hlc hcm htk hcs hg hgb hBg hg0 hbk0 hn hm hd hlim hroom hb2 hab hC hG hBw
      go_enter Try.func87, Try.ntmps87
      go_wp2_with (first | (go_at_call 88; refine (Try.Buffer_tryGrow_none b (some ⟨g, 0, none⟩) m cap n _ z0 HLC.out HCM.out (by have := HRM.out; omega)).mono ?_; rintro e w2 ⟨rfl, hw2⟩; subst hw2) | (go_at_call 89; refine HG.out.mono ?_; rintro e w3 ⟨rfl, hGr⟩; obtain ⟨cap2, R, hbk3, hne, hcp, hend, hr1, hr2⟩ := grew_end HGEN.out HBW.out HBS.out HBEL.out HFR.out HLO.out HD.out hGr rfl; have zn : w3.cell? ⟨b, 0, none⟩ = some (.slice (some ⟨w.heap.size, 0, none⟩) (m + n) cap2) := (blk_cell hbk3 0).trans rfl; have HEND := Lib.hid hend; clear hend hGr hbk3))
      go_ret2
      exact ⟨rfl, HEND.out⟩
theorem write_calls (B b : Nat) (v : Value) (l : List Int) (w : World) (h : Bf B b v l w) (A : Option Addr) (c : Nat) (d : List Int) (hC : Kd.C (Kd.int .u8) w A d.length d) (hab : ∀ a, A = some a → 0 < d.length → a.block ≠ b) (hBw : B ≤ w.heap.size) (hlim : l.length + d.length ≤ 140737488355328) :
    Calls Try.prog 87 #[.pointer (some ⟨b, 0, none⟩), .slice A d.length c] w fun e w' => e = .returned (.tuple #[.int .i64 d.length, .nilIface]) ∧ ∃ v', Bf B b v' (l ++ d) w' ∧ Wrote B b v v' w w' := by
  by_cases hd : 0 < d.length
  · obtain ⟨a, rfl, hL⟩ := KC_cells hC hd
    exact write_more B b v l w h a c d hd hL (hab a rfl hd) hBw hlim
  · obtain rfl : d = [] := List.eq_nil_of_length_eq_zero (by omega)
    exact (write_zero B b v l w h A c).mono fun e w' ⟨h1, h2, h3⟩ => ⟨h1, v, by rw [List.append_nil]; exact h2, h3⟩
end Go.Proofs.Ytdjchplaeipgpaa.Buf
