/-
  btcutil's filter: an output's name as bytes; addOutPoint, matchesOutPoint.
-/
import Derived.Test.YtojadhcbjcpifaaBlFadd
import Derived.Laws.CopyRow
namespace Go.Proofs.Ytojadhcbjcpifaa.Bl
open Go.RowKit Go.Proofs.YtojadhcbjcpifaaW.PrintWords Go.Proofs.YtojadhcbjcpifaaW.PrintLast Go.Proofs.Ytojadhcbjcpifaa.Reg Go.Proofs.Ytojadhcbjcpifaa.By Go.Proofs.Ytojadhcbjcpifaa.Tx Go.Proofs.Ytojadhcbjcpifaa.Mur Go.Proofs.Ytojadhcbjcpifaa.Tok
set_option linter.unusedSimpArgs false
set_option linter.unusedVariables false

set_option maxHeartbeats 8000000 in
set_option maxRecDepth 100000 in
/-- PutUint32 at place 32 of an array. -/
theorem put32_calls (D T m c : Nat) (x : Int) (cs : Array Value) (w : World) (h : w.heap[D]? = some (.cells cs T (0, 0))) (hz : cs.size = 36) (hx : 0 ≤ x ∧ x < 4294967296) (hm : m = 4) :
    Calls Try.prog 36 #[.agg #[], .slice (some ⟨D, 32, none⟩) m c, .int .u32 x] w fun e w' => e = .returned (.tuple #[]) ∧ w'.heap[D]? = some (.cells ((((cs.setIfInBounds 32 (.int .u8 (x % 256))).setIfInBounds 33 (.int .u8 (x / 256 % 256))).setIfInBounds 34 (.int .u8 (x / 65536 % 256))).setIfInBounds 35 (.int .u8 (x / 16777216))) T (0, 0)) ∧ KeepBut w w' D none ∧ Below D w w' := by
  subst hm
  have h1 : (w.alloc (.cells #[] 57)).heap[D]? = some (.cells cs T (0, 0)) := blk_below h (below_alloc (Below.refl _ _) _)
  have s0 := blk_set h1 32 (.int .u8 (x % 256))
  have s1 := blk_set s0 33 (.int .u8 (x / 256 % 256))
  have s2 := blk_set s1 34 (.int .u8 (x / 65536 % 256))
  have s3 := blk_set s2 35 (.int .u8 (x / 16777216))
  have c35 := blk_cell h1 35
  have c32 := blk_cell h1 32
  have c33 := blk_cell s0 33
  have c34 := blk_cell s1 34
  have c35' := blk_cell s2 35
  have f32 := blk_frozen h1 32
  have f33 := blk_frozen s0 33
  have f34 := blk_frozen s1 34
  have f35 := blk_frozen s2 35
  go_enter Try.func36, Try.ntmps36
  go_wp2
  first | go_end0 | refine bodyPost_ret (results_none rfl _ _ _) rfl ?_
  refine ⟨rfl, s3, ((((keep_alloc (KeepBut.refl _ _ _) _).set_ _ _).set_ _ _).set_ _ _).set_ _ _, (((((Below.refl D w).alloc (Nat.le_of_lt (blk_lt h)) _).setCell (Nat.le_refl _) _).setCell (Nat.le_refl _) _).setCell (Nat.le_refl _) _).setCell (Nat.le_refl _) _⟩
theorem below_low {B N : Nat} {w w1 : World} (hB : B ≤ N) (h : Below N w w1) : Below B w w1 := ⟨h.os, h.tape, h.output, h.size, fun k hk => h.block k (Nat.lt_of_lt_of_le hk hB)⟩
/-- The name's bytes in an array of 36. -/
def ob (h : List Int) (i : Int) : List Int := h ++ le 4 i
theorem ob_len {h : List Int} (hl : h.length = 32) (i : Int) : (ob h i).length = 36 := by simp [ob, le_len, hl]
theorem ob_bytes {h : List Int} (hb : Bytes h) (i : Int) : Bytes (ob h i) := by
  intro y hy
  rcases List.mem_append.1 hy with h1 | h1
  · exact hb y h1
  · simp only [le, List.mem_cons, List.not_mem_nil, or_false] at h1
    rcases h1 with rfl | rfl | rfl | rfl <;> omega
/-- The empty array. -/
def z36 : Array Value := #[.int .u8 0, .int .u8 0, .int .u8 0, .int .u8 0, .int .u8 0, .int .u8 0, .int .u8 0, .int .u8 0, .int .u8 0, .int .u8 0, .int .u8 0, .int .u8 0, .int .u8 0, .int .u8 0, .int .u8 0, .int .u8 0, .int .u8 0, .int .u8 0, .int .u8 0, .int .u8 0, .int .u8 0, .int .u8 0, .int .u8 0, .int .u8 0, .int .u8 0, .int .u8 0, .int .u8 0, .int .u8 0, .int .u8 0, .int .u8 0, .int .u8 0, .int .u8 0, .int .u8 0, .int .u8 0, .int .u8 0, .int .u8 0]
theorem buf_eq (h : List Int) (hl : h.length = 32) (a b c d : Value) : (((((z36.toList.take 0 ++ hv h ++ z36.toList.drop (0 + (hv h).length)).toArray.setIfInBounds 32 a).setIfInBounds 33 b).setIfInBounds 34 c).setIfInBounds 35 d).toList = hv h ++ [a, b, c, d] := by
  obtain ⟨a0, a1, a2, a3, a4, a5, a6, a7, a8, a9, a10, a11, a12, a13, a14, a15, a16, a17, a18, a19, a20, a21, a22, a23, a24, a25, a26, a27, a28, a29, a30, a31, rfl⟩ := list32 h hl
  rfl
theorem buf_size (h : List Int) (hl : h.length = 32) : (z36.toList.take 0 ++ hv h ++ z36.toList.drop (0 + (hv h).length)).toArray.size = 36 := by
  obtain ⟨a0, a1, a2, a3, a4, a5, a6, a7, a8, a9, a10, a11, a12, a13, a14, a15, a16, a17, a18, a19, a20, a21, a22, a23, a24, a25, a26, a27, a28, a29, a30, a31, rfl⟩ := list32 h hl
  rfl
/-- An array of bytes, read as a row. -/
theorem C_blk {w : World} {D T : Nat} {cs : Array Value} {l : List Int} (hb : w.heap[D]? = some (.cells cs T (0, 0))) (hc : cs.toList = l.map (Value.int .u8)) (hl : l.length ≤ 1000) : Kd.C (Kd.int .u8) w (some ⟨D, 0, none⟩) l.length l := by
  refine Kd.C_of_reads (d := (0 : Int)) (h1 := fun _ => rfl) ⟨rfl, by omega, fun hn => ⟨_, rfl, fun j hj => ?_⟩⟩
  rw [Addr.add_mid, Nat.zero_add, blk_cell hb j, ← Array.getElem?_toList, hc]
  simp [hj]
theorem ob_cells (h : List Int) (i : Int) (hi : 0 ≤ i ∧ i < 4294967296) : hv h ++ [.int .u8 (i % 256), .int .u8 (i / 256 % 256), .int .u8 (i / 65536 % 256), .int .u8 (i / 16777216)] = (ob h i).map (Value.int .u8) := by
  have e1 : i / 256 / 256 % 256 = i / 65536 % 256 := by omega
  have e2 : i / 256 / 256 / 256 % 256 = i / 16777216 := by omega
  simp [ob, hv, le, e1, e2]
/-- The copy of the hash into the array. -/
theorem hash_copy (h : List Int) (i : Int) (hl : h.length = 32) (P D T : Nat) (W : World) (hP : W.heap[P]? = some (.cells (opc h i).toArray 46 (0, 0))) (hD : W.heap[D]? = some (.cells z36 T (0, 0))) :
    (Builtin.copy_ #[23, 23] 3 #[.slice (some ⟨D, 0, none⟩) 36 36, .slice (some ⟨P, 0, none⟩) 32 32]).run Try.prog W = .ok (goInt 32) (W.setRow D (z36.toList.take 0 ++ hv h ++ z36.toList.drop (0 + (hv h).length)).toArray) := by
  have h1 := run_copy_row (P := Try.prog) W 23 23 3 5 D 0 36 36 ⟨P, 0, none⟩ 32 32 z36 T (hv h) Try.underlying23 (by kernel_rfl) hD (by rw [hv_len, hl]; rfl) (fun j v hj => by
    have hjl : j < h.length := by have := (List.getElem?_eq_some_iff.1 hj).1; rwa [hv_len] at this
    rw [Addr.add_mid, Nat.zero_add, blk_cell hP j]
    rw [← hj]
    simp [opc, List.getElem?_append, hv_len, hjl]) (by rw [hv_len, hl]; decide) (hv_one h)
  rw [h1, hv_len, hl]
  rfl
set_option maxHeartbeats 8000000 in
set_option maxRecDepth 100000 in
theorem faddOut_calls (base F M g n c K : Nat) (l : List Int) (t st : Int) (P : Nat) (h : List Int) (i : Int) (w : World) (hbase : base ≤ w.heap.size) (hF : Flt base F M g n c l (K : Int) t st w) (hP : w.heap[P]? = some (.cells (opc h i).toArray 46 (0, 0))) (hl : h.length = 32) (hb : Bytes h) (hi : 0 ≤ i ∧ i < 4294967296) (hn : 1 ≤ n ∧ n ≤ 2000) (hk : 1 ≤ K ∧ K ≤ 50) (ht : 0 ≤ t ∧ t < 4294967296) :
    Calls Try.prog 30 #[.pointer (some ⟨F, 0, none⟩), .pointer (some ⟨P, 0, none⟩)] w fun e w' => e = .returned (.tuple #[]) ∧ Flt base F M g n c (addB n t (ob h i) l K) (K : Int) t st w' ∧ Below base w w' := by
  have hcp := hash_copy h i hl P w.heap.size 74 (w.alloc (.cells z36 74)).drew (blk_below hP (below_drew (below_alloc (Below.refl _ _) _))) (blk_drew (heap_alloc_new w _))
  have hsz := buf_size h hl
  have heq := buf_eq h hl
  obtain ⟨C1, hC1⟩ : ∃ C1, (z36.toList.take 0 ++ hv h ++ z36.toList.drop (0 + (hv h).length)).toArray = C1 := ⟨_, rfl⟩
  rw [hC1] at hcp hsz heq
  obtain ⟨W0, hW0⟩ : ∃ W0, w.alloc (.cells z36 74) = W0 := ⟨_, rfl⟩
  have hall := hW0
  unfold z36 at hall
  have hD0 : W0.heap[w.heap.size]? = some (.cells z36 74 (0, 0)) := hW0 ▸ heap_alloc_new w _
  have hB0 : Below w.heap.size w W0 := hW0 ▸ below_alloc (Below.refl _ _) _
  rw [hW0] at hcp
  have FADD := Lib.hid (show ∀ W, Below w.heap.size w W → W.heap[w.heap.size]? = some (.cells ((((C1.setIfInBounds 32 (.int .u8 (i % 256))).setIfInBounds 33 (.int .u8 (i / 256 % 256))).setIfInBounds 34 (.int .u8 (i / 65536 % 256))).setIfInBounds 35 (.int .u8 (i / 16777216))) 74 (0, 0)) → Calls Try.prog 37 #[.pointer (some ⟨F, 0, none⟩), .slice (some ⟨w.heap.size, 0, none⟩) 36 36] W fun e w' => e = .returned (.tuple #[]) ∧ Flt base F M g n c (addB n t (ob h i) l K) (K : Int) t st w' ∧ Below base W w' from fun W hW hD => by
    have hC := C_blk (l := ob h i) hD ((heq _ _ _ _).trans (ob_cells h i hi)) (by rw [ob_len hl]; decide)
    have h2 := fadd_calls base F M g n c K l t st (some ⟨w.heap.size, 0, none⟩) 36 (ob h i) W (Nat.le_trans hbase hW.size) (hF.below hW) hC (fun ad e _ => by cases e; exact Nat.ne_of_gt hF.lg) (by rw [ob_len hl]; exact Nat.le_refl _) (ob_bytes hb i) (by rw [ob_len hl]; decide) hn hk ht
    rwa [ob_len hl] at h2)
  have HCP := Lib.hid hcp
  have hD1 : (W0.drew.setRow w.heap.size C1).heap[w.heap.size]? = some (.cells C1 74 (0, 0)) := setRow_heap _ _ _ _ _ _ (blk_drew hD0)
  have hB1 : Below w.heap.size w (W0.drew.setRow w.heap.size C1) := below_setRow (below_drew hB0) (Nat.le_refl _) _
  obtain ⟨W1, hW1⟩ : ∃ W1, W0.drew.setRow w.heap.size C1 = W1 := ⟨_, rfl⟩
  rw [hW1] at hcp hD1 hB1
  have HB1 := Lib.hid hB1
  have HD1 := Lib.hid hD1
  go_enter Try.func30, Try.ntmps30
  go_wp2
  try rw [hall]
  clear hall hW0
  refine start_ (n := 6) (S := fun w' => True) (ds := []) #[false, false, false, false, false, false] (by kernel_rfl) rfl rfl trivial (fun hHeld => ?_)
  refine pure_ (i := 0) (N := some 5) (v := ?_) (a' := ?_) #[true, false, false, false, false, false] rfl rfl (by kernel_rfl) (fun _ _ _ h => h) (Or.inl ⟨by rfl, ?_⟩) ?_ ?_
  rotate_left
  · intro w'
    go_simp
    with_reducible rfl
  rotate_left
  · simp only [Act.put, List.setIfInBounds_toArray, List.set_cons_zero, List.set_cons_succ, i64_w, i32_w]
    rfl
  refine pure_ (i := 1) (N := some 6) (v := ?_) (a' := ?_) #[true, true, false, false, false, false] rfl rfl (by kernel_rfl) (fun _ _ _ h => h) (Or.inl ⟨by rfl, ?_⟩) ?_ ?_
  rotate_left
  · intro w'
    go_simp
    with_reducible rfl
  rotate_left
  · simp only [Act.put, List.setIfInBounds_toArray, List.set_cons_zero, List.set_cons_succ, i64_w, i32_w]
    rfl
  refine pure_ (i := 2) (N := some 7) (v := ?_) (a' := ?_) #[true, true, true, false, false, false] rfl rfl (by kernel_rfl) (fun _ _ _ h => h) (Or.inl ⟨by rfl, ?_⟩) ?_ ?_
  rotate_left
  · intro w'
    go_simp
    with_reducible rfl
  rotate_left
  · simp only [Act.put, List.setIfInBounds_toArray, List.set_cons_zero, List.set_cons_succ, i64_w, i32_w]
    rfl
  refine pure_ (i := 3) (N := some 8) (v := ?_) (a' := ?_) #[true, true, true, true, false, false] rfl rfl (by kernel_rfl) (fun _ _ _ h => h) (Or.inl ⟨by rfl, ?_⟩) ?_ ?_
  rotate_left
  · intro w'
    go_simp
    with_reducible rfl
  rotate_left
  · simp only [Act.put, List.setIfInBounds_toArray, List.set_cons_zero, List.set_cons_succ, i64_w, i32_w]
    rfl
  refine pure_ (i := 4) (N := some 9) (v := ?_) (a' := ?_) #[true, true, true, true, true, false] rfl rfl (by kernel_rfl) (fun _ _ _ h => h) (Or.inl ⟨by rfl, ?_⟩) ?_ ?_
  rotate_left
  · intro w'
    go_simp
    with_reducible rfl
  rotate_left
  · simp only [Act.put, List.setIfInBounds_toArray, List.set_cons_zero, List.set_cons_succ, i64_w, i32_w]
    rfl
  refine one_ (i := 5) (N := some 10) #[true, true, true, true, true, true] rfl rfl (by kernel_rfl) (by decide) (fun K hK => ?_)
  refine value_ (w1 := ?_) (v := ?_) (by rfl) rfl ?_ ?_
  rotate_left 2
  · go_simp
    constructor
    · rfl
    · rfl
  refine hK.out _ _ trivial (fun hHeld => ?_)
  clear hK K
  refine norm_ (a' := ?_) ?_ ?_
  rotate_left
  · show Act.put _ (some 10) _ = _
    simp only [Act.put, List.setIfInBounds_toArray, List.set_cons_zero, List.set_cons_succ, i64_w, i32_w]
    rfl
  refine done_ (by kernel_rfl) ?_
  go_wp2
  have HP2 := Lib.hid (show W1.cell? ⟨P, 32, none⟩ = some (.int .u32 i) by
    rw [blk_cell (blk_below hP HB1.out) 32]
    simp [opc, List.getElem?_append, hv_len, hl])
  have HPUT := Lib.hid (put32_calls w.heap.size 74 4 4 i C1 W1.drew (blk_drew HD1.out) hsz hi rfl)
  clear hcp hsz heq hC1 hF hP hb hi hn hk ht hB0 hD0 hB1 hD1 hW1
  refine start_ (n := 7) (S := fun w' => w'.cell? ⟨P, 32, none⟩ = some (.int .u32 i)) (ds := [6]) #[false, false, false, false, false, false, false] (by kernel_rfl) rfl rfl (HP2.out) (fun hHeld => ?_)
  refine pure_ (i := 1) (N := some 12) (v := ?_) (a' := ?_) #[false, true, false, false, false, false, false] rfl rfl (by kernel_rfl) (fun _ _ _ h => h) (Or.inl ⟨by rfl, ?_⟩) ?_ ?_
  rotate_left
  · intro w'
    go_simp
    with_reducible rfl
  rotate_left
  · simp only [Act.put, List.setIfInBounds_toArray, List.set_cons_zero, List.set_cons_succ, i64_w, i32_w]
    rfl
  refine pure_ (i := 2) (N := some 13) (v := ?_) (a' := ?_) #[false, true, true, false, false, false, false] rfl rfl (by kernel_rfl) (fun _ _ _ h => h) (Or.inl ⟨by rfl, ?_⟩) ?_ ?_
  rotate_left
  · intro w'
    go_simp
    with_reducible rfl
  rotate_left
  · simp only [Act.put, List.setIfInBounds_toArray, List.set_cons_zero, List.set_cons_succ, i64_w, i32_w]
    rfl
  refine pure_ (i := 3) (N := some 14) (v := ?_) (a' := ?_) #[false, true, true, true, false, false, false] rfl rfl (by kernel_rfl) (fun _ _ _ h => h) (Or.inl ⟨by rfl, ?_⟩) ?_ ?_
  rotate_left
  · intro w'
    go_simp
    with_reducible rfl
  rotate_left
  · simp only [Act.put, List.setIfInBounds_toArray, List.set_cons_zero, List.set_cons_succ, i64_w, i32_w]
    rfl
  refine pure_ (i := 4) (N := some 15) (v := ?_) (a' := ?_) #[false, true, true, true, true, false, false] rfl rfl (by kernel_rfl) (fun _ _ _ h => h) (Or.inl ⟨by rfl, ?_⟩) ?_ ?_
  rotate_left
  · intro w'
    go_simp
    with_reducible rfl
  rotate_left
  · simp only [Act.put, List.setIfInBounds_toArray, List.set_cons_zero, List.set_cons_succ, i64_w, i32_w]
    rfl
  refine take_ (i := 0) (N := some 11) (v := ?_) (a' := ?_) #[true, true, true, true, true, false, false] rfl rfl (by kernel_rfl) (fun _ _ _ h => h) (Or.inl ⟨by rfl, ?_⟩) hHeld ?_ ?_
  rotate_left
  · intro w' s0
    go_simp
    with_reducible rfl
  rotate_left
  · simp only [Act.put, List.setIfInBounds_toArray, List.set_cons_zero, List.set_cons_succ, i64_w, i32_w]
    rfl
  refine take_ (i := 5) (N := some 16) (v := ?_) (a' := ?_) #[true, true, true, true, true, true, false] rfl rfl (by kernel_rfl) (fun _ _ _ h => h) (Or.inl ⟨by rfl, ?_⟩) hHeld ?_ ?_
  rotate_left
  · intro w' s0
    go_simp
    with_reducible rfl
  rotate_left
  · simp only [Act.put, List.setIfInBounds_toArray, List.set_cons_zero, List.set_cons_succ, i64_w, i32_w]
    rfl
  refine last_ (i := 6) (N := some 17) #[true, true, true, true, true, true, true] rfl rfl (by kernel_rfl) (by decide) (fun K hK => ?_)
  refine goes_ Try.func36 (by kernel_rfl) rfl #[.agg #[], .slice (some ⟨w.heap.size, 32, none⟩) 4 4, .int .u32 i] (by rfl) rfl rfl (by simp only [List.map_toArray, List.map_cons, List.map_nil]; rfl) ?_
  with_reducible refine (HPUT.out).mono ?_
  rintro e w3 ⟨rfl, hD3, hK3, hB3⟩
  refine ⟨_, rfl, ?_⟩
  have D3 := Lib.hid hD3; have K3 := Lib.hid hK3; have B3 := Lib.hid hB3; clear hD3 hK3 hB3
  refine hK.out _ _ ?_
  clear hK K
  refine norm_ (a' := ?_) ?_ ?_
  rotate_left
  · show Act.put _ (some 17) _ = _
    simp only [Act.put, List.setIfInBounds_toArray, List.set_cons_zero, List.set_cons_succ, i64_w, i32_w]
    rfl
  refine done_ (by kernel_rfl) ?_
  have B4 := Lib.hid ((below_drew HB1.out).trans B3.out)
  go_wp2_with (go_at_call 37; go_must ((with_reducible refine (FADD.out _ B4.out D3.out).mono ?_); rintro e w4 ⟨rfl, hF4, hB4⟩; have HF4 := Lib.hid hF4; have HB4 := Lib.hid hB4; clear hF4 hB4))
  first | go_end0 | refine bodyPost_ret (results_none rfl _ _ _) rfl ?_
  exact ⟨rfl, HF4.out, (below_low hbase B4.out).trans HB4.out⟩
set_option maxHeartbeats 8000000 in
set_option maxRecDepth 100000 in
theorem fhasOut_calls (base F M g n c K : Nat) (l : List Int) (t st : Int) (P : Nat) (h : List Int) (i : Int) (w : World) (hF : Flt base F M g n c l (K : Int) t st w) (hP : w.heap[P]? = some (.cells (opc h i).toArray 46 (0, 0))) (hl : h.length = 32) (hb : Bytes h) (hi : 0 ≤ i ∧ i < 4294967296) (hn : 1 ≤ n ∧ n ≤ 2000) (hk : 1 ≤ K ∧ K ≤ 50) (ht : 0 ≤ t ∧ t < 4294967296) (hBy : Bytes l) :
    Calls Try.prog 33 #[.pointer (some ⟨F, 0, none⟩), .pointer (some ⟨P, 0, none⟩)] w fun e w' => e = .returned (.bool (hasB n t (ob h i) l K)) ∧ Below w.heap.size w w' := by
  have hcp := hash_copy h i hl P w.heap.size 74 (w.alloc (.cells z36 74)).drew (blk_below hP (below_drew (below_alloc (Below.refl _ _) _))) (blk_drew (heap_alloc_new w _))
  have hsz := buf_size h hl
  have heq := buf_eq h hl
  obtain ⟨C1, hC1⟩ : ∃ C1, (z36.toList.take 0 ++ hv h ++ z36.toList.drop (0 + (hv h).length)).toArray = C1 := ⟨_, rfl⟩
  rw [hC1] at hcp hsz heq
  obtain ⟨W0, hW0⟩ : ∃ W0, w.alloc (.cells z36 74) = W0 := ⟨_, rfl⟩
  have hall := hW0
  unfold z36 at hall
  have hD0 : W0.heap[w.heap.size]? = some (.cells z36 74 (0, 0)) := hW0 ▸ heap_alloc_new w _
  have hB0 : Below w.heap.size w W0 := hW0 ▸ below_alloc (Below.refl _ _) _
  rw [hW0] at hcp
  have FADD := Lib.hid (show ∀ W, Below w.heap.size w W → W.heap[w.heap.size]? = some (.cells ((((C1.setIfInBounds 32 (.int .u8 (i % 256))).setIfInBounds 33 (.int .u8 (i / 256 % 256))).setIfInBounds 34 (.int .u8 (i / 65536 % 256))).setIfInBounds 35 (.int .u8 (i / 16777216))) 74 (0, 0)) → Calls Try.prog 39 #[.pointer (some ⟨F, 0, none⟩), .slice (some ⟨w.heap.size, 0, none⟩) 36 36] W fun e w' => e = .returned (.bool (hasB n t (ob h i) l K)) ∧ Below W.heap.size W w' from fun W hW hD => by
    have hC := C_blk (l := ob h i) hD ((heq _ _ _ _).trans (ob_cells h i hi)) (by rw [ob_len hl]; decide)
    have h2 := matches_calls base F M g n c K l t st (some ⟨w.heap.size, 0, none⟩) 36 (ob h i) W (hF.below hW) hC (by rw [ob_len hl]; exact Nat.le_refl _) (ob_bytes hb i) (by rw [ob_len hl]; decide) hn hk ht hBy
    rwa [ob_len hl] at h2)
  have HCP := Lib.hid hcp
  have hD1 : (W0.drew.setRow w.heap.size C1).heap[w.heap.size]? = some (.cells C1 74 (0, 0)) := setRow_heap _ _ _ _ _ _ (blk_drew hD0)
  have hB1 : Below w.heap.size w (W0.drew.setRow w.heap.size C1) := below_setRow (below_drew hB0) (Nat.le_refl _) _
  obtain ⟨W1, hW1⟩ : ∃ W1, W0.drew.setRow w.heap.size C1 = W1 := ⟨_, rfl⟩
  rw [hW1] at hcp hD1 hB1
  have HB1 := Lib.hid hB1
  have HD1 := Lib.hid hD1
  go_enter Try.func33, Try.ntmps33
  go_wp2
  try rw [hall]
  clear hall hW0
  refine start_ (n := 6) (S := fun w' => True) (ds := []) #[false, false, false, false, false, false] (by kernel_rfl) rfl rfl trivial (fun hHeld => ?_)
  refine pure_ (i := 0) (N := some 6) (v := ?_) (a' := ?_) #[true, false, false, false, false, false] rfl rfl (by kernel_rfl) (fun _ _ _ h => h) (Or.inl ⟨by rfl, ?_⟩) ?_ ?_
  rotate_left
  · intro w'
    go_simp
    with_reducible rfl
  rotate_left
  · simp only [Act.put, List.setIfInBounds_toArray, List.set_cons_zero, List.set_cons_succ, i64_w, i32_w]
    rfl
  refine pure_ (i := 1) (N := some 7) (v := ?_) (a' := ?_) #[true, true, false, false, false, false] rfl rfl (by kernel_rfl) (fun _ _ _ h => h) (Or.inl ⟨by rfl, ?_⟩) ?_ ?_
  rotate_left
  · intro w'
    go_simp
    with_reducible rfl
  rotate_left
  · simp only [Act.put, List.setIfInBounds_toArray, List.set_cons_zero, List.set_cons_succ, i64_w, i32_w]
    rfl
  refine pure_ (i := 2) (N := some 8) (v := ?_) (a' := ?_) #[true, true, true, false, false, false] rfl rfl (by kernel_rfl) (fun _ _ _ h => h) (Or.inl ⟨by rfl, ?_⟩) ?_ ?_
  rotate_left
  · intro w'
    go_simp
    with_reducible rfl
  rotate_left
  · simp only [Act.put, List.setIfInBounds_toArray, List.set_cons_zero, List.set_cons_succ, i64_w, i32_w]
    rfl
  refine pure_ (i := 3) (N := some 9) (v := ?_) (a' := ?_) #[true, true, true, true, false, false] rfl rfl (by kernel_rfl) (fun _ _ _ h => h) (Or.inl ⟨by rfl, ?_⟩) ?_ ?_
  rotate_left
  · intro w'
    go_simp
    with_reducible rfl
  rotate_left
  · simp only [Act.put, List.setIfInBounds_toArray, List.set_cons_zero, List.set_cons_succ, i64_w, i32_w]
    rfl
  refine pure_ (i := 4) (N := some 10) (v := ?_) (a' := ?_) #[true, true, true, true, true, false] rfl rfl (by kernel_rfl) (fun _ _ _ h => h) (Or.inl ⟨by rfl, ?_⟩) ?_ ?_
  rotate_left
  · intro w'
    go_simp
    with_reducible rfl
  rotate_left
  · simp only [Act.put, List.setIfInBounds_toArray, List.set_cons_zero, List.set_cons_succ, i64_w, i32_w]
    rfl
  refine one_ (i := 5) (N := some 11) #[true, true, true, true, true, true] rfl rfl (by kernel_rfl) (by decide) (fun K hK => ?_)
  refine value_ (w1 := ?_) (v := ?_) (by rfl) rfl ?_ ?_
  rotate_left 2
  · go_simp
    constructor
    · rfl
    · rfl
  refine hK.out _ _ trivial (fun hHeld => ?_)
  clear hK K
  refine norm_ (a' := ?_) ?_ ?_
  rotate_left
  · show Act.put _ (some 11) _ = _
    simp only [Act.put, List.setIfInBounds_toArray, List.set_cons_zero, List.set_cons_succ, i64_w, i32_w]
    rfl
  refine done_ (by kernel_rfl) ?_
  go_wp2
  have HP2 := Lib.hid (show W1.cell? ⟨P, 32, none⟩ = some (.int .u32 i) by
    rw [blk_cell (blk_below hP HB1.out) 32]
    simp [opc, List.getElem?_append, hv_len, hl])
  have HPUT := Lib.hid (put32_calls w.heap.size 74 4 4 i C1 W1.drew (blk_drew HD1.out) hsz hi rfl)
  clear hcp hsz heq hC1 hF hP hb hi hn hk ht hB0 hD0 hB1 hD1 hW1
  refine start_ (n := 7) (S := fun w' => w'.cell? ⟨P, 32, none⟩ = some (.int .u32 i)) (ds := [6]) #[false, false, false, false, false, false, false] (by kernel_rfl) rfl rfl (HP2.out) (fun hHeld => ?_)
  refine pure_ (i := 1) (N := some 13) (v := ?_) (a' := ?_) #[false, true, false, false, false, false, false] rfl rfl (by kernel_rfl) (fun _ _ _ h => h) (Or.inl ⟨by rfl, ?_⟩) ?_ ?_
  rotate_left
  · intro w'
    go_simp
    with_reducible rfl
  rotate_left
  · simp only [Act.put, List.setIfInBounds_toArray, List.set_cons_zero, List.set_cons_succ, i64_w, i32_w]
    rfl
  refine pure_ (i := 2) (N := some 14) (v := ?_) (a' := ?_) #[false, true, true, false, false, false, false] rfl rfl (by kernel_rfl) (fun _ _ _ h => h) (Or.inl ⟨by rfl, ?_⟩) ?_ ?_
  rotate_left
  · intro w'
    go_simp
    with_reducible rfl
  rotate_left
  · simp only [Act.put, List.setIfInBounds_toArray, List.set_cons_zero, List.set_cons_succ, i64_w, i32_w]
    rfl
  refine pure_ (i := 3) (N := some 15) (v := ?_) (a' := ?_) #[false, true, true, true, false, false, false] rfl rfl (by kernel_rfl) (fun _ _ _ h => h) (Or.inl ⟨by rfl, ?_⟩) ?_ ?_
  rotate_left
  · intro w'
    go_simp
    with_reducible rfl
  rotate_left
  · simp only [Act.put, List.setIfInBounds_toArray, List.set_cons_zero, List.set_cons_succ, i64_w, i32_w]
    rfl
  refine pure_ (i := 4) (N := some 16) (v := ?_) (a' := ?_) #[false, true, true, true, true, false, false] rfl rfl (by kernel_rfl) (fun _ _ _ h => h) (Or.inl ⟨by rfl, ?_⟩) ?_ ?_
  rotate_left
  · intro w'
    go_simp
    with_reducible rfl
  rotate_left
  · simp only [Act.put, List.setIfInBounds_toArray, List.set_cons_zero, List.set_cons_succ, i64_w, i32_w]
    rfl
  refine take_ (i := 0) (N := some 12) (v := ?_) (a' := ?_) #[true, true, true, true, true, false, false] rfl rfl (by kernel_rfl) (fun _ _ _ h => h) (Or.inl ⟨by rfl, ?_⟩) hHeld ?_ ?_
  rotate_left
  · intro w' s0
    go_simp
    with_reducible rfl
  rotate_left
  · simp only [Act.put, List.setIfInBounds_toArray, List.set_cons_zero, List.set_cons_succ, i64_w, i32_w]
    rfl
  refine take_ (i := 5) (N := some 17) (v := ?_) (a' := ?_) #[true, true, true, true, true, true, false] rfl rfl (by kernel_rfl) (fun _ _ _ h => h) (Or.inl ⟨by rfl, ?_⟩) hHeld ?_ ?_
  rotate_left
  · intro w' s0
    go_simp
    with_reducible rfl
  rotate_left
  · simp only [Act.put, List.setIfInBounds_toArray, List.set_cons_zero, List.set_cons_succ, i64_w, i32_w]
    rfl
  refine last_ (i := 6) (N := some 18) #[true, true, true, true, true, true, true] rfl rfl (by kernel_rfl) (by decide) (fun K hK => ?_)
  refine goes_ Try.func36 (by kernel_rfl) rfl #[.agg #[], .slice (some ⟨w.heap.size, 32, none⟩) 4 4, .int .u32 i] (by rfl) rfl rfl (by simp only [List.map_toArray, List.map_cons, List.map_nil]; rfl) ?_
  with_reducible refine (HPUT.out).mono ?_
  rintro e w3 ⟨rfl, hD3, hK3, hB3⟩
  refine ⟨_, rfl, ?_⟩
  have D3 := Lib.hid hD3; have K3 := Lib.hid hK3; have B3 := Lib.hid hB3; clear hD3 hK3 hB3
  refine hK.out _ _ ?_
  clear hK K
  refine norm_ (a' := ?_) ?_ ?_
  rotate_left
  · show Act.put _ (some 18) _ = _
    simp only [Act.put, List.setIfInBounds_toArray, List.set_cons_zero, List.set_cons_succ, i64_w, i32_w]
    rfl
  refine done_ (by kernel_rfl) ?_
  have B4 := Lib.hid ((below_drew HB1.out).trans B3.out)
  go_wp2_with (go_at_call 39; go_must ((with_reducible refine (FADD.out _ B4.out D3.out).mono ?_); rintro e w4 ⟨rfl, hB4⟩; have HB4 := Lib.hid hB4; clear hB4))
  go_ret
  exact ⟨rfl, below_step B4.out HB4.out⟩
end Go.Proofs.Ytojadhcbjcpifaa.Bl
