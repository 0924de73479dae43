/-
  btcutil's filter: how it is made of plain data, and read back.
-/
import Derived.Test.YtojadhcbjcpifaaBlLock
namespace Go.Proofs.Ytojadhcbjcpifaa.Bl
open Go.RowKit Go.Proofs.YtojadhcbjcpifaaW.PrintWords Go.Proofs.YtojadhcbjcpifaaW.PrintLast Go.Proofs.Ytojadhcbjcpifaa.Reg Go.Proofs.Ytojadhcbjcpifaa.By Go.Proofs.Ytojadhcbjcpifaa.Tx Go.Proofs.Ytojadhcbjcpifaa.Mur Go.Proofs.Ytojadhcbjcpifaa.Tok
set_option linter.unusedSimpArgs false
set_option linter.unusedVariables false

set_option maxHeartbeats 8000000 in
set_option maxRecDepth 100000 in
theorem norm_calls (base F M g n c : Nat) (l : List Int) (k t : Int) (w : World) (hn : 1 ≤ n) (hF : Flt base F M g n c l k t 0 w) :
    Calls Try.prog 34 #[.pointer (some ⟨F, 0, none⟩)] w fun e w' => e = .returned (.tuple #[]) ∧ Below w.heap.size w w' := by
  have z2 : w.cell? ⟨F, 2, none⟩ = some (.pointer (some ⟨M, 0, none⟩)) := (blk_cell hF.fb 2).trans rfl
  have m0 : w.cell? ⟨M, 0, none⟩ = some (.slice (some ⟨g, 0, none⟩) n c) := (blk_cell hF.mb 0).trans rfl
  have hn0 : ((n : Int) = 0) = False := eq_false (by omega)
  have hn1 : (n = 0) = False := eq_false (by omega)
  have hn2 : ((n : Int) == 0) = false := by rw [beq_eq_false_iff_ne]; omega
  clear hF
  go_enter Try.func34, Try.ntmps34
  go_wp2
  first | go_end0 | refine bodyPost_ret (results_none rfl _ _ _) rfl ?_
  exact ⟨rfl, by repeat (first | exact Below.refl _ _ | apply below_drew)⟩
theorem built_flt (M : Nat) : Try.prog.built 71 [(1, .pointer (some ⟨M, 0, none⟩))] = some #[.int .i32 0, .int .u32 0, .pointer (some ⟨M, 0, none⟩)] := by kernel_rfl
set_option maxHeartbeats 8000000 in
set_option maxRecDepth 100000 in
theorem load_calls (base M g n c : Nat) (l : List Int) (k t : Int) (w : World) (hn : 1 ≤ n) (hbase : base ≤ w.heap.size) (hM : base ≤ M) (hm : w.heap[M]? = some (.cells #[.slice (some ⟨g, 0, none⟩) n c, .int .u32 k, .int .u32 t, .int .u8 0] 64 (0, 0)))
    (hr : Kd.R (Kd.int .u8) 5 w base (fun _ => True) (.slice (some ⟨g, 0, none⟩) n c) l) :
    Calls Try.prog 27 #[.pointer (some ⟨M, 0, none⟩)] w fun e w' => ∃ F, e = .returned (.pointer (some ⟨F, 0, none⟩)) ∧ Flt base F M g n c l k t 0 w' ∧ Below w.heap.size w w' := by
  obtain ⟨W0, hW0⟩ : ∃ W0, w.alloc (.cells #[.int .i32 0, .int .u32 0, .pointer (some ⟨M, 0, none⟩)] 71) = W0 := ⟨_, rfl⟩
  have hB0 : Below w.heap.size w W0 := hW0 ▸ below_alloc (Below.refl _ _) _
  have hfb : W0.heap[w.heap.size]? = some (.cells #[.int .i32 0, .int .u32 0, .pointer (some ⟨M, 0, none⟩)] 71 (0, 0)) := hW0 ▸ heap_alloc_new w _
  have HF := Lib.hid (show Flt base w.heap.size M g n c l k t 0 W0 from ⟨hfb, blk_below hm hB0, Kd.R_below hr hB0, hbase, hM⟩)
  have HN := Lib.hid (norm_calls _ _ _ _ _ _ _ _ _ _ hn HF.out)
  have HBD := Lib.hid (built_flt M)
  have HB0 := Lib.hid hB0
  have hall := hW0
  clear hm hr hfb hB0 hW0
  go_enter Try.func27, Try.ntmps27
  go_wp2_with (first
    | (go_at_call 34; go_must ((with_reducible refine HN.out.mono ?_); rintro e w2 ⟨rfl, hB2⟩; have HB2 := Lib.hid hB2; clear hB2)))
  go_ret
  exact ⟨_, rfl, HF.out.below HB2.out, below_step HB0.out HB2.out⟩
theorem copied_eq (l : List Int) (h : l.length ≤ 2000) : PFnBloomOut.impl_copied.f l = some l := by
  unfold PFnBloomOut.impl_copied.f
  show (if ([] : List Int).length + l.length < 140737488355328 then some ([] ++ l) else none) = some l
  rw [if_pos (by simp; omega), List.nil_append]
set_option maxHeartbeats 8000000 in
set_option maxRecDepth 100000 in
theorem filterOf_calls (A : Option Addr) (c : Nat) (l : List Int) (k t : Int) (w : World) (hA : Kd.C (Kd.int .u8) w A l.length l) (hc : l.length ≤ c) (hn : 1 ≤ l.length ∧ l.length ≤ 2000) :
    Calls Try.prog 18 #[.agg #[.slice A l.length c, .int .u32 k, .int .u32 t], .int .u8 0] w fun e w' => ∃ F M g c', e = .returned (.pointer (some ⟨F, 0, none⟩)) ∧ Flt w.heap.size F M g l.length c' l k t 0 w' ∧ Below w.heap.size w w' := by
  obtain ⟨W0, hW0⟩ : ∃ W0, w.alloc (.cells #[.slice A l.length c, .int .u32 k, .int .u32 t] 27) = W0 := ⟨_, rfl⟩
  have hB0 : Below w.heap.size w W0 := hW0 ▸ below_alloc (Below.refl _ _) _
  have hblk : W0.heap[w.heap.size]? = some (.cells #[.slice A l.length c, .int .u32 k, .int .u32 t] 27 (0, 0)) := hW0 ▸ heap_alloc_new w _
  have HC := Lib.hid (show ∀ W, Below W0.heap.size W0 W → W.cell? ⟨w.heap.size, 0, none⟩ = some (.slice A l.length c) ∧ W.cell? ⟨w.heap.size, 1, none⟩ = some (.int .u32 k) ∧ W.cell? ⟨w.heap.size, 2, none⟩ = some (.int .u32 t) from fun W hW =>
    ⟨(blk_cell (blk_below hblk hW) 0).trans rfl, (blk_cell (blk_below hblk hW) 1).trans rfl, (blk_cell (blk_below hblk hW) 2).trans rfl⟩)
  have HA := Lib.hid (Kd.C_below hA hB0)
  have HCC := Lib.hid hc
  have HN := Lib.hid hn
  have HB0 := Lib.hid hB0
  have hall := hW0
  have HB := Lib.hid (below_drew (Below.refl W0.heap.size W0))
  clear hA hc hn hB0 hblk hW0
  go_enter Try.func18, Try.ntmps18
  go_wp2
  clear hall
  refine start_ (n := 12) (S := fun w' => w'.cell? ⟨w.heap.size, 0, none⟩ = some (.slice A l.length c) ∧ w'.cell? ⟨w.heap.size, 1, none⟩ = some (.int .u32 k) ∧ w'.cell? ⟨w.heap.size, 2, none⟩ = some (.int .u32 t)) (ds := []) #[false, false, false, false, false, false, false, false, false, false, false, false] (by kernel_rfl) rfl rfl ⟨(HC.out _ HB.out).1, (HC.out _ HB.out).2.1, (HC.out _ HB.out).2.2⟩ (fun hHeld => ?_)
  refine pure_ (i := 0) (N := some 5) (v := ?_) (a' := ?_) #[true, false, false, false, false, false, false, false, false, false, false, false] rfl rfl (by kernel_rfl) (fun _ _ _ h => h) (Or.inl ⟨by rfl, ?_⟩) ?_ ?_
  rotate_left
  · intro w'
    go_simp
    with_reducible rfl
  rotate_left
  · simp only [Act.put, List.setIfInBounds_toArray, List.set_cons_zero, List.set_cons_succ, i64_w, i32_w]
    rfl
  refine pure_ (i := 3) (N := some 8) (v := ?_) (a' := ?_) #[true, false, false, true, false, false, false, false, false, false, false, false] rfl rfl (by kernel_rfl) (fun _ _ _ h => h) (Or.inl ⟨by rfl, ?_⟩) ?_ ?_
  rotate_left
  · intro w'
    go_simp
    with_reducible rfl
  rotate_left
  · simp only [Act.put, List.setIfInBounds_toArray, List.set_cons_zero, List.set_cons_succ, i64_w, i32_w]
    rfl
  refine pure_ (i := 5) (N := some 10) (v := ?_) (a' := ?_) #[true, false, false, true, false, true, false, false, false, false, false, false] rfl rfl (by kernel_rfl) (fun _ _ _ h => h) (Or.inl ⟨by rfl, ?_⟩) ?_ ?_
  rotate_left
  · intro w'
    go_simp
    with_reducible rfl
  rotate_left
  · simp only [Act.put, List.setIfInBounds_toArray, List.set_cons_zero, List.set_cons_succ, i64_w, i32_w]
    rfl
  refine pure_ (i := 7) (N := some 12) (v := ?_) (a' := ?_) #[true, false, false, true, false, true, false, true, false, false, false, false] rfl rfl (by kernel_rfl) (fun _ _ _ h => h) (Or.inl ⟨by rfl, ?_⟩) ?_ ?_
  rotate_left
  · intro w'
    go_simp
    with_reducible rfl
  rotate_left
  · simp only [Act.put, List.setIfInBounds_toArray, List.set_cons_zero, List.set_cons_succ, i64_w, i32_w]
    rfl
  refine take_ (i := 1) (N := some 6) (v := ?_) (a' := ?_) #[true, true, false, true, false, true, false, true, false, false, false, false] rfl rfl (by kernel_rfl) (fun _ _ _ h => h) (Or.inl ⟨by rfl, ?_⟩) hHeld ?_ ?_
  rotate_left
  · rintro w' ⟨s0, s1, s2⟩
    go_simp
    with_reducible rfl
  rotate_left
  · simp only [Act.put, List.setIfInBounds_toArray, List.set_cons_zero, List.set_cons_succ, i64_w, i32_w]
    rfl
  refine take_ (i := 4) (N := some 9) (v := ?_) (a' := ?_) #[true, true, false, true, true, true, false, true, false, false, false, false] rfl rfl (by kernel_rfl) (fun _ _ _ h => h) (Or.inl ⟨by rfl, ?_⟩) hHeld ?_ ?_
  rotate_left
  · rintro w' ⟨s0, s1, s2⟩
    go_simp
    with_reducible rfl
  rotate_left
  · simp only [Act.put, List.setIfInBounds_toArray, List.set_cons_zero, List.set_cons_succ, i64_w, i32_w]
    rfl
  refine take_ (i := 6) (N := some 11) (v := ?_) (a' := ?_) #[true, true, false, true, true, true, true, true, false, false, false, false] rfl rfl (by kernel_rfl) (fun _ _ _ h => h) (Or.inl ⟨by rfl, ?_⟩) hHeld ?_ ?_
  rotate_left
  · rintro w' ⟨s0, s1, s2⟩
    go_simp
    with_reducible rfl
  rotate_left
  · simp only [Act.put, List.setIfInBounds_toArray, List.set_cons_zero, List.set_cons_succ, i64_w, i32_w]
    rfl
  refine one_ (i := 2) (N := some 7) #[true, true, true, true, true, true, true, true, false, false, false, false] rfl rfl (by kernel_rfl) (by decide) (fun K hK => ?_)
  refine goes_ Try.func28 (by kernel_rfl) rfl #[.slice A l.length c] (by rfl) rfl rfl (by simp only [List.map_toArray, List.map_cons, List.map_nil]; rfl) ?_
  with_reducible refine (PFnBloomOut.impl_copied.calls A c l l _ (Kd.C_below HA.out HB.out) HCC.out (copied_eq l HN.out.2)).mono ?_
  rintro e w3 ⟨v_, rfl, hr, hb⟩
  refine ⟨_, rfl, ?_⟩
  obtain ⟨g, c', rfl, hg1, hg2, hg3⟩ := Kd.R_form hr HN.out.1; have HR := Lib.hid (Kd.R_lower hr (Nat.le_trans HB0.out.size HB.out.size)); have n0_ := Lib.hid (below_step HB.out hb); clear HB hr hb hg1 hg2 hg3; have HB := n0_; clear n0_
  refine hK.out _ _ ⟨(HC.out _ HB.out).1, (HC.out _ HB.out).2.1, (HC.out _ HB.out).2.2⟩ (fun hHeld => ?_)
  clear hK K
  refine norm_ (a' := ?_) ?_ ?_
  rotate_left
  · show Act.put _ (some 7) _ = _
    simp only [Act.put, List.setIfInBounds_toArray, List.set_cons_zero, List.set_cons_succ, i64_w, i32_w]
    rfl
  refine pure_ (i := 8) (N := some 13) (v := ?_) (a' := ?_) #[true, true, true, true, true, true, true, true, true, false, false, false] rfl rfl (by kernel_rfl) (fun _ _ _ h => h) (Or.inl ⟨by rfl, ?_⟩) ?_ ?_
  rotate_left
  · intro w'
    go_simp
    with_reducible rfl
  rotate_left
  · simp only [Act.put, List.setIfInBounds_toArray, List.set_cons_zero, List.set_cons_succ, i64_w, i32_w]
    rfl
  refine one_ (i := 9) (N := some 14) #[true, true, true, true, true, true, true, true, true, true, false, false] rfl rfl (by kernel_rfl) (by decide) (fun K hK => ?_)
  refine value_ (w1 := ?_) (v := ?_) (by rfl) rfl ?_ ?_
  rotate_left 2
  · go_simp
    constructor
    · rfl
    · rfl
  refine hK.out _ _ ⟨(HC.out _ (below_alloc HB.out _)).1, (HC.out _ (below_alloc HB.out _)).2.1, (HC.out _ (below_alloc HB.out _)).2.2⟩ (fun hHeld => ?_)
  clear hK K
  refine norm_ (a' := ?_) ?_ ?_
  rotate_left
  · show Act.put _ (some 14) _ = _
    simp only [Act.put, List.setIfInBounds_toArray, List.set_cons_zero, List.set_cons_succ, i64_w, i32_w]
    rfl
  refine one_ (i := 10) (N := some 15) #[true, true, true, true, true, true, true, true, true, true, true, false] rfl rfl (by kernel_rfl) (by decide) (fun K hK => ?_)
  refine goes_ Try.func27 (by kernel_rfl) rfl #[.pointer (some ⟨_, 0, none⟩)] (by rfl) rfl rfl (by simp only [List.map_toArray, List.map_cons, List.map_nil]; rfl) ?_
  with_reducible refine (load_calls w.heap.size _ g l.length c' l k t _ HN.out.1 (Nat.le_trans (Nat.le_trans HB0.out.size HB.out.size) (by simp)) (Nat.le_trans HB0.out.size HB.out.size) (heap_alloc_new _ _) (Kd.R_below HR.out (below_alloc (Below.refl _ _) _))).mono ?_
  rintro e w4 ⟨F, rfl, hF, hB4⟩
  refine ⟨_, rfl, ?_⟩
  have HF := Lib.hid hF; have n0_ := Lib.hid (below_step (below_alloc HB.out _) hB4); clear HB hF hB4; have HB := n0_; clear n0_
  refine hK.out _ _ ⟨(HC.out _ HB.out).1, (HC.out _ HB.out).2.1, (HC.out _ HB.out).2.2⟩ (fun hHeld => ?_)
  clear hK K
  refine norm_ (a' := ?_) ?_ ?_
  rotate_left
  · show Act.put _ (some 15) _ = _
    simp only [Act.put, List.setIfInBounds_toArray, List.set_cons_zero, List.set_cons_succ, i64_w, i32_w]
    rfl
  refine pure_ (i := 11) (N := some 4) (v := ?_) (a' := ?_) #[true, true, true, true, true, true, true, true, true, true, true, true] rfl rfl (by kernel_rfl) (fun _ _ _ h => h) (Or.inl ⟨by rfl, ?_⟩) ?_ ?_
  rotate_left
  · intro w'
    go_simp
    with_reducible rfl
  rotate_left
  · simp only [Act.put, List.setIfInBounds_toArray, List.set_cons_zero, List.set_cons_succ, i64_w, i32_w]
    rfl
  refine done_ (by kernel_rfl) ?_
  go_wp2
  go_ret
  exact ⟨_, _, _, _, rfl, HF.out, below_step HB0.out HB.out⟩
set_option maxHeartbeats 8000000 in
set_option maxRecDepth 100000 in
theorem ofFilter_calls (base F M g n c : Nat) (l : List Int) (k t : Int) (w : World) (hbase : base ≤ w.heap.size) (hF : Flt base F M g n c l k t 0 w) (hn : 1 ≤ n ∧ n ≤ 2000) :
    Calls Try.prog 21 #[.pointer (some ⟨F, 0, none⟩)] w fun e w' => ∃ g' c', e = .returned (.agg #[.slice (some ⟨g', 0, none⟩) n c', .int .u32 k, .int .u32 t]) ∧ Kd.R (Kd.int .u8) 5 w' base (fun _ => True) (.slice (some ⟨g', 0, none⟩) n c') l ∧ Below base w w' := by
  obtain ⟨W0, hW0⟩ : ∃ W0, w.alloc (.cells #[.slice none 0 0, .int .u32 0, .int .u32 0] 27) = W0 := ⟨_, rfl⟩
  have hB0 : Below w.heap.size w W0 := hW0 ▸ below_alloc (Below.refl _ _) _
  have hblk : W0.heap[w.heap.size]? = some (.cells #[.slice none 0 0, .int .u32 0, .int .u32 0] 27 (0, 0)) := hW0 ▸ heap_alloc_new w _
  have hFw : F < w.heap.size := blk_lt hF.fb
  have HM := Lib.hid (msg_calls base F M g n c l k t W0 (hF.below hB0))
  have HBK := Lib.hid hblk
  have HFW := Lib.hid hFw
  have HN := Lib.hid hn
  have HBS := Lib.hid hbase
  have HB0 := Lib.hid hB0
  have hall := hW0
  clear hF hbase hn hB0 hblk hW0 hFw
  go_enter Try.func21, Try.ntmps21
  go_wp2_with (go_at_call 32; go_must ((with_reducible refine HM.out.mono ?_); rintro e w1 ⟨rfl, hF1, hB1, hK1⟩; have HF1 := Lib.hid hF1; have HB1 := Lib.hid ((below_low HBS.out HB0.out).trans hB1); have HBK1 := Lib.hid (hK1.blk HBK.out (Nat.ne_of_gt HFW.out) (by simp)); have HS1 := Lib.hid (Nat.le_trans HB0.out.size hK1.1); clear hF1 hB1 hK1))
  clear hall
  have e_ := Lib.hid HF1.out.len
  have HX := Lib.hid (below_drew (Below.refl w1.heap.size w1))
  have HC := Lib.hid (show ∀ W, Below w1.heap.size w1 W → W.cell? ⟨M, 0, none⟩ = some (.slice (some ⟨g, 0, none⟩) n c) ∧ W.cell? ⟨M, 1, none⟩ = some (.int .u32 k) ∧ W.cell? ⟨M, 2, none⟩ = some (.int .u32 t) from fun W hW =>
    ⟨(blk_cell (blk_below HF1.out.mb hW) 0).trans rfl, (blk_cell (blk_below HF1.out.mb hW) 1).trans rfl, (blk_cell (blk_below HF1.out.mb hW) 2).trans rfl⟩)
  have HRD := Lib.hid (Kd.R_reads' HF1.out.row)
  have HCPY := Lib.hid (show ∀ W, Below w1.heap.size w1 W → Calls Try.prog 28 #[.slice (some ⟨g, 0, none⟩) n c] W fun e w' => ∃ v_ : Value, e = .returned v_ ∧ Kd.R (Kd.int .u8) 5 w' W.heap.size (fun _ => True) v_ l ∧ Below W.heap.size W w' from fun W hW => by
    have := PFnBloomOut.impl_copied.calls (some ⟨g, 0, none⟩) c l l W (Kd.C_below HRD.out.2.2 hW) (by rw [e_.out]; exact HRD.out.2.1) (copied_eq l (by rw [e_.out]; exact HN.out.2))
    rwa [e_.out] at this)
  refine start_ (n := 15) (S := fun w' => w'.cell? ⟨M, 0, none⟩ = some (.slice (some ⟨g, 0, none⟩) n c) ∧ w'.cell? ⟨M, 1, none⟩ = some (.int .u32 k) ∧ w'.cell? ⟨M, 2, none⟩ = some (.int .u32 t)) (ds := [14]) #[false, false, false, false, false, false, false, false, false, false, false, false, false, false, false] (by kernel_rfl) rfl rfl ⟨(HC.out _ HX.out).1, (HC.out _ HX.out).2.1, (HC.out _ HX.out).2.2⟩ (fun hHeld => ?_)
  refine pure_ (i := 0) (N := some 6) (v := ?_) (a' := ?_) #[true, false, false, false, false, false, false, false, false, false, false, false, false, false, false] rfl rfl (by kernel_rfl) (fun _ _ _ h => h) (Or.inl ⟨by rfl, ?_⟩) ?_ ?_
  rotate_left
  · intro w'
    go_simp
    with_reducible rfl
  rotate_left
  · simp only [Act.put, List.setIfInBounds_toArray, List.set_cons_zero, List.set_cons_succ, i64_w, i32_w]
    rfl
  refine pure_ (i := 1) (N := some 7) (v := ?_) (a' := ?_) #[true, true, false, false, false, false, false, false, false, false, false, false, false, false, false] rfl rfl (by kernel_rfl) (fun _ _ _ h => h) (Or.inl ⟨by rfl, ?_⟩) ?_ ?_
  rotate_left
  · intro w'
    go_simp
    with_reducible rfl
  rotate_left
  · simp only [Act.put, List.setIfInBounds_toArray, List.set_cons_zero, List.set_cons_succ, i64_w, i32_w]
    rfl
  refine pure_ (i := 2) (N := some 8) (v := ?_) (a' := ?_) #[true, true, true, false, false, false, false, false, false, false, false, false, false, false, false] rfl rfl (by kernel_rfl) (fun _ _ _ h => h) (Or.inl ⟨by rfl, ?_⟩) ?_ ?_
  rotate_left
  · intro w'
    go_simp
    with_reducible rfl
  rotate_left
  · simp only [Act.put, List.setIfInBounds_toArray, List.set_cons_zero, List.set_cons_succ, i64_w, i32_w]
    rfl
  refine pure_ (i := 5) (N := some 11) (v := ?_) (a' := ?_) #[true, true, true, false, false, true, false, false, false, false, false, false, false, false, false] rfl rfl (by kernel_rfl) (fun _ _ _ h => h) (Or.inl ⟨by rfl, ?_⟩) ?_ ?_
  rotate_left
  · intro w'
    go_simp
    with_reducible rfl
  rotate_left
  · simp only [Act.put, List.setIfInBounds_toArray, List.set_cons_zero, List.set_cons_succ, i64_w, i32_w]
    rfl
  refine pure_ (i := 6) (N := some 12) (v := ?_) (a' := ?_) #[true, true, true, false, false, true, true, false, false, false, false, false, false, false, false] rfl rfl (by kernel_rfl) (fun _ _ _ h => h) (Or.inl ⟨by rfl, ?_⟩) ?_ ?_
  rotate_left
  · intro w'
    go_simp
    with_reducible rfl
  rotate_left
  · simp only [Act.put, List.setIfInBounds_toArray, List.set_cons_zero, List.set_cons_succ, i64_w, i32_w]
    rfl
  refine pure_ (i := 7) (N := some 13) (v := ?_) (a' := ?_) #[true, true, true, false, false, true, true, true, false, false, false, false, false, false, false] rfl rfl (by kernel_rfl) (fun _ _ _ h => h) (Or.inl ⟨by rfl, ?_⟩) ?_ ?_
  rotate_left
  · intro w'
    go_simp
    with_reducible rfl
  rotate_left
  · simp only [Act.put, List.setIfInBounds_toArray, List.set_cons_zero, List.set_cons_succ, i64_w, i32_w]
    rfl
  refine pure_ (i := 9) (N := some 15) (v := ?_) (a' := ?_) #[true, true, true, false, false, true, true, true, false, true, false, false, false, false, false] rfl rfl (by kernel_rfl) (fun _ _ _ h => h) (Or.inl ⟨by rfl, ?_⟩) ?_ ?_
  rotate_left
  · intro w'
    go_simp
    with_reducible rfl
  rotate_left
  · simp only [Act.put, List.setIfInBounds_toArray, List.set_cons_zero, List.set_cons_succ, i64_w, i32_w]
    rfl
  refine pure_ (i := 10) (N := some 16) (v := ?_) (a' := ?_) #[true, true, true, false, false, true, true, true, false, true, true, false, false, false, false] rfl rfl (by kernel_rfl) (fun _ _ _ h => h) (Or.inl ⟨by rfl, ?_⟩) ?_ ?_
  rotate_left
  · intro w'
    go_simp
    with_reducible rfl
  rotate_left
  · simp only [Act.put, List.setIfInBounds_toArray, List.set_cons_zero, List.set_cons_succ, i64_w, i32_w]
    rfl
  refine pure_ (i := 11) (N := some 17) (v := ?_) (a' := ?_) #[true, true, true, false, false, true, true, true, false, true, true, true, false, false, false] rfl rfl (by kernel_rfl) (fun _ _ _ h => h) (Or.inl ⟨by rfl, ?_⟩) ?_ ?_
  rotate_left
  · intro w'
    go_simp
    with_reducible rfl
  rotate_left
  · simp only [Act.put, List.setIfInBounds_toArray, List.set_cons_zero, List.set_cons_succ, i64_w, i32_w]
    rfl
  refine take_ (i := 3) (N := some 9) (v := ?_) (a' := ?_) #[true, true, true, true, false, true, true, true, false, true, true, true, false, false, false] rfl rfl (by kernel_rfl) (fun _ _ _ h => h) (Or.inl ⟨by rfl, ?_⟩) hHeld ?_ ?_
  rotate_left
  · rintro w' ⟨s0, s1, s2⟩
    go_simp
    with_reducible rfl
  rotate_left
  · simp only [Act.put, List.setIfInBounds_toArray, List.set_cons_zero, List.set_cons_succ, i64_w, i32_w]
    rfl
  refine take_ (i := 8) (N := some 14) (v := ?_) (a' := ?_) #[true, true, true, true, false, true, true, true, true, true, true, true, false, false, false] rfl rfl (by kernel_rfl) (fun _ _ _ h => h) (Or.inl ⟨by rfl, ?_⟩) hHeld ?_ ?_
  rotate_left
  · rintro w' ⟨s0, s1, s2⟩
    go_simp
    with_reducible rfl
  rotate_left
  · simp only [Act.put, List.setIfInBounds_toArray, List.set_cons_zero, List.set_cons_succ, i64_w, i32_w]
    rfl
  refine take_ (i := 12) (N := some 18) (v := ?_) (a' := ?_) #[true, true, true, true, false, true, true, true, true, true, true, true, true, false, false] rfl rfl (by kernel_rfl) (fun _ _ _ h => h) (Or.inl ⟨by rfl, ?_⟩) hHeld ?_ ?_
  rotate_left
  · rintro w' ⟨s0, s1, s2⟩
    go_simp
    with_reducible rfl
  rotate_left
  · simp only [Act.put, List.setIfInBounds_toArray, List.set_cons_zero, List.set_cons_succ, i64_w, i32_w]
    rfl
  refine one_ (i := 4) (N := some 10) #[true, true, true, true, true, true, true, true, true, true, true, true, true, false, false] rfl rfl (by kernel_rfl) (by decide) (fun K hK => ?_)
  refine goes_ Try.func28 (by kernel_rfl) rfl #[.slice (some ⟨g, 0, none⟩) n c] (by rfl) rfl rfl (by simp only [List.map_toArray, List.map_cons, List.map_nil]; rfl) ?_
  with_reducible refine (HCPY.out _ HX.out).mono ?_
  rintro e w3 ⟨v_, rfl, hr, hb⟩
  refine ⟨_, rfl, ?_⟩
  obtain ⟨g', c', rfl, hg1, hg2, hg3⟩ := Kd.R_form hr (by have := HN.out; have := e_.out; omega); have hr2 := hr; rw [e_.out] at hr2 ⊢; have HR := Lib.hid hr2; have n0_ := Lib.hid (below_step HX.out hb); clear HX hr hr2 hb hg1 hg2 hg3; have HX := n0_; clear n0_; have hb3 := blk_below HBK1.out HX.out; have rs0 := (blk_cell hb3 0).trans rfl; have rs1 := (blk_cell hb3 1).trans rfl; have rs2 := (blk_cell hb3 2).trans rfl; have fs0 := blk_frozen hb3 0; have fs1 := blk_frozen hb3 1; have fs2 := blk_frozen hb3 2
  refine hK.out _ _ ⟨(HC.out _ HX.out).1, (HC.out _ HX.out).2.1, (HC.out _ HX.out).2.2⟩ (fun hHeld => ?_)
  clear hK K
  refine norm_ (a' := ?_) ?_ ?_
  rotate_left
  · show Act.put _ (some 10) _ = _
    simp only [Act.put, List.setIfInBounds_toArray, List.set_cons_zero, List.set_cons_succ, i64_w, i32_w]
    rfl
  refine pure_ (i := 13) (N := some 19) (v := ?_) (a' := ?_) #[true, true, true, true, true, true, true, true, true, true, true, true, true, true, false] rfl rfl (by kernel_rfl) (fun _ _ _ h => h) (Or.inl ⟨by rfl, ?_⟩) ?_ ?_
  rotate_left
  · intro w'
    go_simp
    with_reducible rfl
  rotate_left
  · simp only [Act.put, List.setIfInBounds_toArray, List.set_cons_zero, List.set_cons_succ, i64_w, i32_w]
    rfl
  refine last_ (i := 14) (N := none) #[true, true, true, true, true, true, true, true, true, true, true, true, true, true, true] rfl rfl (by kernel_rfl) (by decide) (fun K hK => ?_)
  refine skip_ (w1 := ?_) (by rfl) rfl ?_ ?_
  rotate_left
  · go_simp
    rfl
  refine hK.out _ _ ?_
  clear hK K
  refine done_ (by kernel_rfl) ?_
  go_wp2
  have hrow := Kd.R_set (Kd.R_set (Kd.R_set HR.out hb3 (by decide) 0 (.slice (some ⟨g', 0, none⟩) n c')) (blk_set hb3 0 _) (by decide) 1 (.int .u32 k)) (blk_set (blk_set hb3 0 _) 1 _) (by decide) 2 (.int .u32 t)
  have hlow : base ≤ w.heap.size := HBS.out
  have hsz : base ≤ w1.heap.size := Nat.le_trans HBS.out HS1.out
  have hbel := (((below_then HB1.out hsz HX.out).setCell (p := ⟨w.heap.size, 0, none⟩) hlow (.slice (some ⟨g', 0, none⟩) n c')).setCell (p := ⟨w.heap.size, 1, none⟩) hlow (.int .u32 k)).setCell (p := ⟨w.heap.size, 2, none⟩) hlow (.int .u32 t)
  have hres : (((w3.setCell ⟨w.heap.size, 0, none⟩ (.slice (some ⟨g', 0, none⟩) n c')).setCell ⟨w.heap.size, 1, none⟩ (.int .u32 k)).setCell ⟨w.heap.size, 2, none⟩ (.int .u32 t)).heap[w.heap.size]? = some (.cells #[.slice (some ⟨g', 0, none⟩) n c', .int .u32 k, .int .u32 t] 27 (0, 0)) := blk_set (blk_set (blk_set hb3 0 _) 1 _) 2 _
  refine bodyPost_ret (results_cell_row (by rfl) _ _ w.heap.size 27 #[.slice (some ⟨g', 0, none⟩) n c', .int .u32 k, .int .u32 t] (0, 0) _ (by rfl) hres Try.underlying27 (by rfl) (by kernel_rfl)) (by rfl) ⟨g', c', rfl, Kd.R_lower hrow hsz, hbel⟩
end Go.Proofs.Ytojadhcbjcpifaa.Bl
