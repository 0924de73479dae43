/-
  The law of BloomOut: its walk over the functions' contracts.
-/
import Derived.Test.YtojadhcbjcpifaaBlImpl
import Derived.Test.YtojadhcbjcpifaaOpen
namespace Go.Proofs.Ytojadhcbjcpifaa.Bl
open Go.RowKit Go.Proofs.YtojadhcbjcpifaaW.PrintWords Go.Proofs.YtojadhcbjcpifaaW.PrintLast Go.Proofs.Ytojadhcbjcpifaa.Reg Go.Proofs.Ytojadhcbjcpifaa.By Go.Proofs.Ytojadhcbjcpifaa.Tx Go.Proofs.Ytojadhcbjcpifaa.Mur Go.Proofs.Ytojadhcbjcpifaa.Tok
set_option linter.unusedSimpArgs false
set_option linter.unusedVariables false

theorem blk_lies {w : World} {g t : Nat} {cs : Array Value} (h : w.heap[g]? = some (.cells cs t (0, 0))) : Lies w ⟨g, 0, none⟩ cs.toList := box_list w cs t g h
/-- What the walk of the law needs of the functions that it calls. -/
structure Parts (A : Option Addr) (n c : Nat) (k t : Int) (cs1 cs2 : Array Value) (b1 b2 L' : List Int) (r : Bool) (w : World) : Prop where
  z1 : cs1.size = 33
  z2 : cs2.size = 33
  fit : ∀ W, Below w.heap.size w W → Calls Try.prog 7 #[.agg #[.slice A n c, .int .u32 k, .int .u32 t]] W fun e w' => e = .returned (.bool true) ∧ Below W.heap.size W w'
  blm : ∀ W, Below w.heap.size w W → Calls Try.prog 8 #[.agg #[.slice A n c, .int .u32 k, .int .u32 t]] W fun e w' => e = .returned (.bool true) ∧ Below W.heap.size W w'
  add : ∀ W, Below w.heap.size w W → Calls Try.prog 9 #[.agg #[.slice A n c, .int .u32 k, .int .u32 t], .agg cs1] W fun e w' => ∃ g' c', e = .returned (.agg #[.slice (some ⟨g', 0, none⟩) n c', .int .u32 k, .int .u32 t]) ∧ Own W w' (.slice (some ⟨g', 0, none⟩) n c') L'
  ob1 : ∀ W, Calls Try.prog 12 #[.agg cs1] W fun e w' => ∃ v, e = .returned v ∧ Own W w' v b1
  ob2 : ∀ W, Calls Try.prog 12 #[.agg cs2] W fun e w' => ∃ v, e = .returned v ∧ Own W w' v b2
  sadd : ∀ W B cb, Below w.heap.size w W → Kd.C (Kd.int .u8) W B b1.length b1 → Calls Try.prog 11 #[.agg #[.slice A n c, .int .u32 k, .int .u32 t], .slice B b1.length cb] W fun e w' => ∃ g' c', e = .returned (.agg #[.slice (some ⟨g', 0, none⟩) n c', .int .u32 k, .int .u32 t]) ∧ Own W w' (.slice (some ⟨g', 0, none⟩) n c') L'
  same : ∀ W A0 c0 A1 c1, Kd.C (Kd.int .u8) W A0 n L' → n ≤ c0 → Kd.C (Kd.int .u8) W A1 n L' → n ≤ c1 → Calls Try.prog 10 #[.agg #[.slice A0 n c0, .int .u32 k, .int .u32 t], .agg #[.slice A1 n c1, .int .u32 k, .int .u32 t]] W fun e w' => e = .returned (.bool true) ∧ Below W.heap.size W w'
  has1 : ∀ W A0 c0, Kd.C (Kd.int .u8) W A0 n L' → n ≤ c0 → Calls Try.prog 13 #[.agg #[.slice A0 n c0, .int .u32 k, .int .u32 t], .agg cs1] W fun e w' => e = .returned (.bool true) ∧ Below W.heap.size W w'
  has2 : ∀ W A0 c0, Kd.C (Kd.int .u8) W A0 n L' → n ≤ c0 → Calls Try.prog 13 #[.agg #[.slice A0 n c0, .int .u32 k, .int .u32 t], .agg cs2] W fun e w' => e = .returned (.bool r) ∧ Below W.heap.size W w'
  shas : ∀ W A0 c0 B cb, Kd.C (Kd.int .u8) W A0 n L' → Kd.C (Kd.int .u8) W B b2.length b2 → Calls Try.prog 14 #[.agg #[.slice A0 n c0, .int .u32 k, .int .u32 t], .slice B b2.length cb] W fun e w' => e = .returned (.bool r) ∧ Below W.heap.size W w'
set_option maxHeartbeats 16000000 in
set_option maxRecDepth 100000 in
theorem law_main (A : Option Addr) (n c : Nat) (k t : Int) (cs1 cs2 : Array Value) (b1 b2 L' : List Int) (r : Bool) (w : World) (h : Parts A n c k t cs1 cs2 b1 b2 L' r w) :
    Calls Try.prog 4 #[.agg #[.slice A n c, .int .u32 k, .int .u32 t], .agg cs1, .agg cs2] w fun e w' => e = .returned (.bool true) ∧ Below w.heap.size w w' := by
  have H := Lib.hid h
  clear h
  have HBW := Lib.hid (show Below w.heap.size w (((w.alloc (.cells #[.slice A n c, .int .u32 k, .int .u32 t] 27)).alloc (.cells cs1 30)).alloc (.cells cs2 30)) from below_alloc (below_alloc (below_alloc (Below.refl _ _) _) _) _)
  have HC := Lib.hid (show ∀ W, Below (((w.alloc (.cells #[.slice A n c, .int .u32 k, .int .u32 t] 27)).alloc (.cells cs1 30)).alloc (.cells cs2 30)).heap.size (((w.alloc (.cells #[.slice A n c, .int .u32 k, .int .u32 t] 27)).alloc (.cells cs1 30)).alloc (.cells cs2 30)) W → W.heap[w.heap.size]? = some (.cells #[.slice A n c, .int .u32 k, .int .u32 t] 27 (0, 0)) ∧ W.heap[w.heap.size + 1]? = some (.cells cs1 30 (0, 0)) ∧ W.heap[w.heap.size + 2]? = some (.cells cs2 30 (0, 0)) from fun W hW =>
    ⟨blk_below (blk_below (heap_alloc_new w _) (below_alloc (below_alloc (Below.refl _ _) _) _)) hW, by have := blk_below (blk_below (heap_alloc_new (w.alloc (.cells #[.slice A n c, .int .u32 k, .int .u32 t] 27)) (.cells cs1 30)) (below_alloc (Below.refl _ _) (.cells cs2 30))) hW; simpa using this, by have := blk_below (heap_alloc_new ((w.alloc (.cells #[.slice A n c, .int .u32 k, .int .u32 t] 27)).alloc (.cells cs1 30)) (.cells cs2 30)) hW; simpa using this⟩)
  have HB := Lib.hid (Below.refl (((w.alloc (.cells #[.slice A n c, .int .u32 k, .int .u32 t] 27)).alloc (.cells cs1 30)).alloc (.cells cs2 30)).heap.size (((w.alloc (.cells #[.slice A n c, .int .u32 k, .int .u32 t] 27)).alloc (.cells cs1 30)).alloc (.cells cs2 30)))
  have hh_ := HC.out _ HB.out; have z0 := (blk_cell hh_.1 0).trans rfl; have z1 := (blk_cell hh_.1 1).trans rfl; have z2 := (blk_cell hh_.1 2).trans rfl; clear hh_
  go_enter Try.func4, Try.ntmps4
  go_wp2_with (first
    | (go_at_call 7; go_must ((with_reducible refine (H.out.fit _ (below_step HBW.out HB.out)).mono ?_); rintro e w1 ⟨rfl, hB⟩; clear z0 z1 z2; have n0_ := Lib.hid (below_step HB.out hB); clear HB hB; have HB := n0_; clear n0_; have hh_ := HC.out _ HB.out; have z0 := (blk_cell hh_.1 0).trans rfl; have z1 := (blk_cell hh_.1 1).trans rfl; have z2 := (blk_cell hh_.1 2).trans rfl; clear hh_))
    | (go_at_call 8; go_must ((with_reducible refine (H.out.blm _ (below_step HBW.out HB.out)).mono ?_); rintro e w2 ⟨rfl, hB⟩; clear z0 z1 z2; have n0_ := Lib.hid (below_step HB.out hB); clear HB hB; have HB := n0_; clear n0_; have hh_ := HC.out _ HB.out; have z0 := (blk_cell hh_.1 0).trans rfl; have z1 := (blk_cell hh_.1 1).trans rfl; have z2 := (blk_cell hh_.1 2).trans rfl; clear hh_))
    | (refine wpList_load_list rfl 30 (.tmp 4) rfl ⟨_, 0, none⟩ rfl cs1.toList _ (box_list _ cs1 30 _ (HC.out _ HB.out).2.1) Try.underlying30 rfl ?aI ?_; go_must (case aI => rw [Array.length_toList, H.out.z1]; rfl); go_must (simp only [Array.toArray_toList]))
    | (go_at_call 9; go_must ((with_reducible refine (H.out.add _ (below_step HBW.out HB.out)).mono ?_); rintro e w3 ⟨g', c', rfl, hO⟩; clear z0 z1 z2; have HR3 := Lib.hid hO.1; have n0_ := Lib.hid (below_step HB.out hO.2); clear HB hO; have HB := n0_; clear n0_)))
  have hG := heap_alloc_new w3 (.cells #[.slice (some ⟨g', 0, none⟩) n c', .int .u32 k, .int .u32 t] 27)
  have hR6 := Kd.R_below HR3.out (below_alloc (Below.refl _ _) (.cells #[.slice (some ⟨g', 0, none⟩) n c', .int .u32 k, .int .u32 t] 27))
  have hB6 := below_alloc (Below.refl w3.heap.size w3) (.cells #[.slice (some ⟨g', 0, none⟩) n c', .int .u32 k, .int .u32 t] 27)
  generalize hW6 : w3.alloc (.cells #[.slice (some ⟨g', 0, none⟩) n c', .int .u32 k, .int .u32 t] 27) = W6 at hG hR6 hB6 ⊢
  have HR6 := Lib.hid (Kd.R_reads' hR6)
  have HB6 := Lib.hid (below_step HB.out hB6)
  have HC6 := Lib.hid (show ∀ W, Below W6.heap.size W6 W → W.cell? ⟨w.heap.size, 0, none⟩ = some (.slice A n c) ∧ W.cell? ⟨w.heap.size, 1, none⟩ = some (.int .u32 k) ∧ W.cell? ⟨w.heap.size, 2, none⟩ = some (.int .u32 t) ∧ W.cell? ⟨w3.heap.size, 0, none⟩ = some (.slice (some ⟨g', 0, none⟩) n c') ∧ W.cell? ⟨w3.heap.size, 1, none⟩ = some (.int .u32 k) ∧ W.cell? ⟨w3.heap.size, 2, none⟩ = some (.int .u32 t) ∧ Lies W ⟨w.heap.size + 1, 0, none⟩ cs1.toList ∧ Lies W ⟨w.heap.size + 1 + 1, 0, none⟩ cs2.toList from fun W hW =>
    have a := HC.out _ (below_step HB6.out hW)
    have b := blk_below hG hW
    ⟨(blk_cell a.1 0).trans rfl, (blk_cell a.1 1).trans rfl, (blk_cell a.1 2).trans rfl, (blk_cell b 0).trans rfl, (blk_cell b 1).trans rfl, (blk_cell b 2).trans rfl, blk_lies a.2.1, blk_lies a.2.2⟩)
  clear hG hR6 hB6 hW6 HR3 HB
  have HR6C := Lib.hid (show Kd.C (Kd.int .u8) W6 (some ⟨g', 0, none⟩) n L' from by have h1 := HR6.out.1; have h2 := HR6.out.2.2; rwa [← h1] at h2)
  have HX := Lib.hid (below_drew (Below.refl W6.heap.size W6))
  refine start_ (n := 22) (S := fun w' => w'.cell? ⟨w.heap.size, 0, none⟩ = some (.slice A n c) ∧ w'.cell? ⟨w.heap.size, 1, none⟩ = some (.int .u32 k) ∧ w'.cell? ⟨w.heap.size, 2, none⟩ = some (.int .u32 t) ∧ w'.cell? ⟨w3.heap.size, 0, none⟩ = some (.slice (some ⟨g', 0, none⟩) n c') ∧ w'.cell? ⟨w3.heap.size, 1, none⟩ = some (.int .u32 k) ∧ w'.cell? ⟨w3.heap.size, 2, none⟩ = some (.int .u32 t) ∧ Lies w' ⟨w.heap.size + 1, 0, none⟩ cs1.toList ∧ Lies w' ⟨w.heap.size + 1 + 1, 0, none⟩ cs2.toList) (ds := []) #[false, false, false, false, false, false, false, false, false, false, false, false, false, false, false, false, false, false, false, false, false, false] (by kernel_rfl) rfl rfl ⟨(HC6.out _ HX.out).1, (HC6.out _ HX.out).2.1, (HC6.out _ HX.out).2.2.1, (HC6.out _ HX.out).2.2.2.1, (HC6.out _ HX.out).2.2.2.2.1, (HC6.out _ HX.out).2.2.2.2.2.1, (HC6.out _ HX.out).2.2.2.2.2.2.1, (HC6.out _ HX.out).2.2.2.2.2.2.2⟩ (fun hHeld => ?_)
  refine take_ (i := 0) (N := some 17) (v := ?_) (a' := ?_) #[true, false, false, false, false, false, false, false, false, false, false, false, false, false, false, false, false, false, false, false, false, false] rfl rfl (by kernel_rfl) (fun _ _ _ h => h) (Or.inl ⟨by rfl, ?_⟩) hHeld ?_ ?_
  rotate_left
  · rintro w' ⟨s0, s1, s2, s3, s4, s5, s6, s7⟩
    go_simp
    with_reducible rfl
  rotate_left
  · simp only [Act.put, List.setIfInBounds_toArray, List.set_cons_zero, List.set_cons_succ, i64_w, i32_w]
    rfl
  refine take_ (i := 1) (N := some 18) (v := ?_) (a' := ?_) #[true, true, false, false, false, false, false, false, false, false, false, false, false, false, false, false, false, false, false, false, false, false] rfl rfl (by kernel_rfl) (fun _ _ _ h => h) (Or.inl ⟨by rfl, ?_⟩) hHeld ?_ ?_
  rotate_left
  · rintro w' ⟨s0, s1, s2, s3, s4, s5, s6, s7⟩
    go_simp
    with_reducible rfl
  rotate_left
  · simp only [Act.put, List.setIfInBounds_toArray, List.set_cons_zero, List.set_cons_succ, i64_w, i32_w]
    rfl
  refine take_ (i := 2) (N := some 19) (v := ?_) (a' := ?_) #[true, true, true, false, false, false, false, false, false, false, false, false, false, false, false, false, false, false, false, false, false, false] rfl rfl (by kernel_rfl) (fun _ _ _ h => h) (Or.inl ⟨by rfl, ?_⟩) hHeld ?_ ?_
  rotate_left
  · rintro w' ⟨s0, s1, s2, s3, s4, s5, s6, s7⟩
    refine (exec_load_list 30 (.tmp 4) (by rfl) ⟨w.heap.size + 1, 0, none⟩ (by rfl) cs1.toList _ s6 Try.underlying30 rfl (by rw [Array.length_toList, H.out.z1]; rfl)).trans ?_
    with_reducible rfl
  rotate_left
  · simp only [Act.put, List.setIfInBounds_toArray, List.set_cons_zero, List.set_cons_succ, i64_w, i32_w]
    rfl
  refine one_ (i := 3) (N := some 20) #[true, true, true, true, false, false, false, false, false, false, false, false, false, false, false, false, false, false, false, false, false, false] rfl rfl (by kernel_rfl) (by decide) (fun K hK => ?_)
  refine goes_ Try.func12 (by kernel_rfl) rfl #[.agg cs1] (by rfl) rfl rfl (by simp only [List.map_toArray, List.map_cons, List.map_nil]; rfl) ?_
  with_reducible refine (H.out.ob1 _).mono ?_
  rintro e w7 ⟨v, rfl, hO⟩
  refine ⟨_, rfl, ?_⟩
  obtain ⟨B1, d1, rfl, hl, hC⟩ := Kd.R_reads hO.1
  have hB := hO.2
  have C1 := Lib.hid hC; clear hC hl hO
  have n0_ := Lib.hid (below_step HX.out hB); clear HX hB; have HX := n0_; clear n0_
  refine hK.out _ _ ⟨(HC6.out _ HX.out).1, (HC6.out _ HX.out).2.1, (HC6.out _ HX.out).2.2.1, (HC6.out _ HX.out).2.2.2.1, (HC6.out _ HX.out).2.2.2.2.1, (HC6.out _ HX.out).2.2.2.2.2.1, (HC6.out _ HX.out).2.2.2.2.2.2.1, (HC6.out _ HX.out).2.2.2.2.2.2.2⟩ (fun hHeld => ?_)
  clear hK K
  refine norm_ (a' := ?_) ?_ ?_
  rotate_left
  · show Act.put _ (some 20) _ = _
    simp only [Act.put, List.setIfInBounds_toArray, List.set_cons_zero, List.set_cons_succ, i64_w, i32_w]
    rfl
  refine one_ (i := 4) (N := some 21) #[true, true, true, true, true, false, false, false, false, false, false, false, false, false, false, false, false, false, false, false, false, false] rfl rfl (by kernel_rfl) (by decide) (fun K hK => ?_)
  refine goes_ Try.func11 (by kernel_rfl) rfl #[.agg #[.slice A n c, .int .u32 k, .int .u32 t], .slice B1 b1.length d1] (by rfl) rfl rfl (by simp only [List.map_toArray, List.map_cons, List.map_nil]; rfl) ?_
  with_reducible refine (H.out.sadd _ B1 d1 (below_step HBW.out (below_step HB6.out HX.out)) C1.out).mono ?_
  rintro e w8 ⟨g2, c2, rfl, hO⟩
  refine ⟨_, rfl, ?_⟩
  have hB := hO.2
  have C2 := Lib.hid (Kd.R_reads' hO.1); have C2C := Lib.hid (show Kd.C (Kd.int .u8) w8 (some ⟨g2, 0, none⟩) n L' from by have h1 := C2.out.1; have h2 := C2.out.2.2; rwa [← h1] at h2); clear hO
  have n0_ := Lib.hid (below_step HX.out hB); clear HX hB; have HX := n0_; clear n0_
  refine hK.out _ _ ⟨(HC6.out _ HX.out).1, (HC6.out _ HX.out).2.1, (HC6.out _ HX.out).2.2.1, (HC6.out _ HX.out).2.2.2.1, (HC6.out _ HX.out).2.2.2.2.1, (HC6.out _ HX.out).2.2.2.2.2.1, (HC6.out _ HX.out).2.2.2.2.2.2.1, (HC6.out _ HX.out).2.2.2.2.2.2.2⟩ (fun hHeld => ?_)
  clear hK K
  refine norm_ (a' := ?_) ?_ ?_
  rotate_left
  · show Act.put _ (some 21) _ = _
    simp only [Act.put, List.setIfInBounds_toArray, List.set_cons_zero, List.set_cons_succ, i64_w, i32_w]
    rfl
  refine one_ (i := 5) (N := some 22) #[true, true, true, true, true, true, false, false, false, false, false, false, false, false, false, false, false, false, false, false, false, false] rfl rfl (by kernel_rfl) (by decide) (fun K hK => ?_)
  refine goes_ Try.func10 (by kernel_rfl) rfl #[.agg #[.slice (some ⟨g', 0, none⟩) n c', .int .u32 k, .int .u32 t], .agg #[.slice (some ⟨g2, 0, none⟩) n c2, .int .u32 k, .int .u32 t]] (by rfl) rfl rfl (by simp only [List.map_toArray, List.map_cons, List.map_nil]; rfl) ?_
  with_reducible refine (H.out.same _ (some ⟨g', 0, none⟩) c' (some ⟨g2, 0, none⟩) c2 (Kd.C_below HR6C.out HX.out) HR6.out.2.1 C2C.out C2.out.2.1).mono ?_
  rintro e w9 ⟨rfl, hB⟩
  refine ⟨_, rfl, ?_⟩
  have n0_ := Lib.hid (below_step HX.out hB); clear HX hB; have HX := n0_; clear n0_
  refine hK.out _ _ ⟨(HC6.out _ HX.out).1, (HC6.out _ HX.out).2.1, (HC6.out _ HX.out).2.2.1, (HC6.out _ HX.out).2.2.2.1, (HC6.out _ HX.out).2.2.2.2.1, (HC6.out _ HX.out).2.2.2.2.2.1, (HC6.out _ HX.out).2.2.2.2.2.2.1, (HC6.out _ HX.out).2.2.2.2.2.2.2⟩ (fun hHeld => ?_)
  clear hK K
  refine norm_ (a' := ?_) ?_ ?_
  rotate_left
  · show Act.put _ (some 22) _ = _
    simp only [Act.put, List.setIfInBounds_toArray, List.set_cons_zero, List.set_cons_succ, i64_w, i32_w]
    rfl
  refine pure_ (i := 6) (N := some 23) (v := ?_) (a' := ?_) #[true, true, true, true, true, true, true, false, false, false, false, false, false, false, false, false, false, false, false, false, false, false] rfl rfl (by kernel_rfl) (fun _ _ _ h => h) (Or.inl ⟨by rfl, ?_⟩) ?_ ?_
  rotate_left
  · intro w'
    go_simp
    with_reducible rfl
  rotate_left
  · simp only [Act.put, List.setIfInBounds_toArray, List.set_cons_zero, List.set_cons_succ, i64_w, i32_w]
    rfl
  refine take_ (i := 7) (N := some 24) (v := ?_) (a' := ?_) #[true, true, true, true, true, true, true, true, false, false, false, false, false, false, false, false, false, false, false, false, false, false] rfl rfl (by kernel_rfl) (fun _ _ _ h => h) (Or.inl ⟨by rfl, ?_⟩) hHeld ?_ ?_
  rotate_left
  · rintro w' ⟨s0, s1, s2, s3, s4, s5, s6, s7⟩
    go_simp
    with_reducible rfl
  rotate_left
  · simp only [Act.put, List.setIfInBounds_toArray, List.set_cons_zero, List.set_cons_succ, i64_w, i32_w]
    rfl
  refine take_ (i := 8) (N := some 25) (v := ?_) (a' := ?_) #[true, true, true, true, true, true, true, true, true, false, false, false, false, false, false, false, false, false, false, false, false, false] rfl rfl (by kernel_rfl) (fun _ _ _ h => h) (Or.inl ⟨by rfl, ?_⟩) hHeld ?_ ?_
  rotate_left
  · rintro w' ⟨s0, s1, s2, s3, s4, s5, s6, s7⟩
    refine (exec_load_list 30 (.tmp 4) (by rfl) ⟨w.heap.size + 1, 0, none⟩ (by rfl) cs1.toList _ s6 Try.underlying30 rfl (by rw [Array.length_toList, H.out.z1]; rfl)).trans ?_
    with_reducible rfl
  rotate_left
  · simp only [Act.put, List.setIfInBounds_toArray, List.set_cons_zero, List.set_cons_succ, i64_w, i32_w]
    rfl
  refine one_ (i := 9) (N := some 26) #[true, true, true, true, true, true, true, true, true, true, false, false, false, false, false, false, false, false, false, false, false, false] rfl rfl (by kernel_rfl) (by decide) (fun K hK => ?_)
  refine goes_ Try.func13 (by kernel_rfl) rfl #[.agg #[.slice (some ⟨g', 0, none⟩) n c', .int .u32 k, .int .u32 t], .agg cs1] (by rfl) rfl rfl (by simp only [List.map_toArray, List.map_cons, List.map_nil]; rfl) ?_
  with_reducible refine (H.out.has1 _ (some ⟨g', 0, none⟩) c' (Kd.C_below HR6C.out HX.out) HR6.out.2.1).mono ?_
  rintro e w10 ⟨rfl, hB⟩
  refine ⟨_, rfl, ?_⟩
  have n0_ := Lib.hid (below_step HX.out hB); clear HX hB; have HX := n0_; clear n0_
  refine hK.out _ _ ⟨(HC6.out _ HX.out).1, (HC6.out _ HX.out).2.1, (HC6.out _ HX.out).2.2.1, (HC6.out _ HX.out).2.2.2.1, (HC6.out _ HX.out).2.2.2.2.1, (HC6.out _ HX.out).2.2.2.2.2.1, (HC6.out _ HX.out).2.2.2.2.2.2.1, (HC6.out _ HX.out).2.2.2.2.2.2.2⟩ (fun hHeld => ?_)
  clear hK K
  refine norm_ (a' := ?_) ?_ ?_
  rotate_left
  · show Act.put _ (some 26) _ = _
    simp only [Act.put, List.setIfInBounds_toArray, List.set_cons_zero, List.set_cons_succ, i64_w, i32_w]
    rfl
  refine pure_ (i := 10) (N := some 27) (v := ?_) (a' := ?_) #[true, true, true, true, true, true, true, true, true, true, true, false, false, false, false, false, false, false, false, false, false, false] rfl rfl (by kernel_rfl) (fun _ _ _ h => h) (Or.inl ⟨by rfl, ?_⟩) ?_ ?_
  rotate_left
  · intro w'
    go_simp
    with_reducible rfl
  rotate_left
  · simp only [Act.put, List.setIfInBounds_toArray, List.set_cons_zero, List.set_cons_succ, i64_w, i32_w]
    rfl
  refine pure_ (i := 11) (N := some 28) (v := ?_) (a' := ?_) #[true, true, true, true, true, true, true, true, true, true, true, true, false, false, false, false, false, false, false, false, false, false] rfl rfl (by kernel_rfl) (fun _ _ _ h => h) (Or.inl ⟨by rfl, ?_⟩) ?_ ?_
  rotate_left
  · intro w'
    go_simp
    with_reducible rfl
  rotate_left
  · simp only [Act.put, List.setIfInBounds_toArray, List.set_cons_zero, List.set_cons_succ, i64_w, i32_w]
    rfl
  refine take_ (i := 12) (N := some 29) (v := ?_) (a' := ?_) #[true, true, true, true, true, true, true, true, true, true, true, true, true, false, false, false, false, false, false, false, false, false] rfl rfl (by kernel_rfl) (fun _ _ _ h => h) (Or.inl ⟨by rfl, ?_⟩) hHeld ?_ ?_
  rotate_left
  · rintro w' ⟨s0, s1, s2, s3, s4, s5, s6, s7⟩
    go_simp
    with_reducible rfl
  rotate_left
  · simp only [Act.put, List.setIfInBounds_toArray, List.set_cons_zero, List.set_cons_succ, i64_w, i32_w]
    rfl
  refine take_ (i := 13) (N := some 30) (v := ?_) (a' := ?_) #[true, true, true, true, true, true, true, true, true, true, true, true, true, true, false, false, false, false, false, false, false, false] rfl rfl (by kernel_rfl) (fun _ _ _ h => h) (Or.inl ⟨by rfl, ?_⟩) hHeld ?_ ?_
  rotate_left
  · rintro w' ⟨s0, s1, s2, s3, s4, s5, s6, s7⟩
    refine (exec_load_list 30 (.tmp 5) (by rfl) ⟨w.heap.size + 1 + 1, 0, none⟩ (by rfl) cs2.toList _ s7 Try.underlying30 rfl (by rw [Array.length_toList, H.out.z2]; rfl)).trans ?_
    with_reducible rfl
  rotate_left
  · simp only [Act.put, List.setIfInBounds_toArray, List.set_cons_zero, List.set_cons_succ, i64_w, i32_w]
    rfl
  refine take_ (i := 15) (N := some 32) (v := ?_) (a' := ?_) #[true, true, true, true, true, true, true, true, true, true, true, true, true, true, false, true, false, false, false, false, false, false] rfl rfl (by kernel_rfl) (fun _ _ _ h => h) (Or.inl ⟨by rfl, ?_⟩) hHeld ?_ ?_
  rotate_left
  · rintro w' ⟨s0, s1, s2, s3, s4, s5, s6, s7⟩
    go_simp
    with_reducible rfl
  rotate_left
  · simp only [Act.put, List.setIfInBounds_toArray, List.set_cons_zero, List.set_cons_succ, i64_w, i32_w]
    rfl
  refine take_ (i := 16) (N := some 33) (v := ?_) (a' := ?_) #[true, true, true, true, true, true, true, true, true, true, true, true, true, true, false, true, true, false, false, false, false, false] rfl rfl (by kernel_rfl) (fun _ _ _ h => h) (Or.inl ⟨by rfl, ?_⟩) hHeld ?_ ?_
  rotate_left
  · rintro w' ⟨s0, s1, s2, s3, s4, s5, s6, s7⟩
    refine (exec_load_list 30 (.tmp 5) (by rfl) ⟨w.heap.size + 1 + 1, 0, none⟩ (by rfl) cs2.toList _ s7 Try.underlying30 rfl (by rw [Array.length_toList, H.out.z2]; rfl)).trans ?_
    with_reducible rfl
  rotate_left
  · simp only [Act.put, List.setIfInBounds_toArray, List.set_cons_zero, List.set_cons_succ, i64_w, i32_w]
    rfl
  refine one_ (i := 14) (N := some 31) #[true, true, true, true, true, true, true, true, true, true, true, true, true, true, true, true, true, false, false, false, false, false] rfl rfl (by kernel_rfl) (by decide) (fun K hK => ?_)
  refine goes_ Try.func13 (by kernel_rfl) rfl #[.agg #[.slice (some ⟨g', 0, none⟩) n c', .int .u32 k, .int .u32 t], .agg cs2] (by rfl) rfl rfl (by simp only [List.map_toArray, List.map_cons, List.map_nil]; rfl) ?_
  with_reducible refine (H.out.has2 _ (some ⟨g', 0, none⟩) c' (Kd.C_below HR6C.out HX.out) HR6.out.2.1).mono ?_
  rintro e w11 ⟨rfl, hB⟩
  refine ⟨_, rfl, ?_⟩
  have n0_ := Lib.hid (below_step HX.out hB); clear HX hB; have HX := n0_; clear n0_
  refine hK.out _ _ ⟨(HC6.out _ HX.out).1, (HC6.out _ HX.out).2.1, (HC6.out _ HX.out).2.2.1, (HC6.out _ HX.out).2.2.2.1, (HC6.out _ HX.out).2.2.2.2.1, (HC6.out _ HX.out).2.2.2.2.2.1, (HC6.out _ HX.out).2.2.2.2.2.2.1, (HC6.out _ HX.out).2.2.2.2.2.2.2⟩ (fun hHeld => ?_)
  clear hK K
  refine norm_ (a' := ?_) ?_ ?_
  rotate_left
  · show Act.put _ (some 31) _ = _
    simp only [Act.put, List.setIfInBounds_toArray, List.set_cons_zero, List.set_cons_succ, i64_w, i32_w]
    rfl
  refine one_ (i := 17) (N := some 34) #[true, true, true, true, true, true, true, true, true, true, true, true, true, true, true, true, true, true, false, false, false, false] rfl rfl (by kernel_rfl) (by decide) (fun K hK => ?_)
  refine goes_ Try.func12 (by kernel_rfl) rfl #[.agg cs2] (by rfl) rfl rfl (by simp only [List.map_toArray, List.map_cons, List.map_nil]; rfl) ?_
  with_reducible refine (H.out.ob2 _).mono ?_
  rintro e w12 ⟨v, rfl, hO⟩
  refine ⟨_, rfl, ?_⟩
  obtain ⟨B3, d3, rfl, hl, hC⟩ := Kd.R_reads hO.1
  have hB := hO.2
  have C3 := Lib.hid hC; clear hC hl hO
  have n0_ := Lib.hid (below_step HX.out hB); clear HX hB; have HX := n0_; clear n0_
  refine hK.out _ _ ⟨(HC6.out _ HX.out).1, (HC6.out _ HX.out).2.1, (HC6.out _ HX.out).2.2.1, (HC6.out _ HX.out).2.2.2.1, (HC6.out _ HX.out).2.2.2.2.1, (HC6.out _ HX.out).2.2.2.2.2.1, (HC6.out _ HX.out).2.2.2.2.2.2.1, (HC6.out _ HX.out).2.2.2.2.2.2.2⟩ (fun hHeld => ?_)
  clear hK K
  refine norm_ (a' := ?_) ?_ ?_
  rotate_left
  · show Act.put _ (some 34) _ = _
    simp only [Act.put, List.setIfInBounds_toArray, List.set_cons_zero, List.set_cons_succ, i64_w, i32_w]
    rfl
  refine one_ (i := 18) (N := some 35) #[true, true, true, true, true, true, true, true, true, true, true, true, true, true, true, true, true, true, true, false, false, false] rfl rfl (by kernel_rfl) (by decide) (fun K hK => ?_)
  refine goes_ Try.func14 (by kernel_rfl) rfl #[.agg #[.slice (some ⟨g', 0, none⟩) n c', .int .u32 k, .int .u32 t], .slice B3 b2.length d3] (by rfl) rfl rfl (by simp only [List.map_toArray, List.map_cons, List.map_nil]; rfl) ?_
  with_reducible refine (H.out.shas _ (some ⟨g', 0, none⟩) c' B3 d3 (Kd.C_below HR6C.out HX.out) C3.out).mono ?_
  rintro e w13 ⟨rfl, hB⟩
  refine ⟨_, rfl, ?_⟩
  have n0_ := Lib.hid (below_step HX.out hB); clear HX hB; have HX := n0_; clear n0_
  refine hK.out _ _ ⟨(HC6.out _ HX.out).1, (HC6.out _ HX.out).2.1, (HC6.out _ HX.out).2.2.1, (HC6.out _ HX.out).2.2.2.1, (HC6.out _ HX.out).2.2.2.2.1, (HC6.out _ HX.out).2.2.2.2.2.1, (HC6.out _ HX.out).2.2.2.2.2.2.1, (HC6.out _ HX.out).2.2.2.2.2.2.2⟩ (fun hHeld => ?_)
  clear hK K
  refine norm_ (a' := ?_) ?_ ?_
  rotate_left
  · show Act.put _ (some 35) _ = _
    simp only [Act.put, List.setIfInBounds_toArray, List.set_cons_zero, List.set_cons_succ, i64_w, i32_w]
    rfl
  refine pure_ (i := 19) (N := some 36) (v := ?_) (a' := ?_) #[true, true, true, true, true, true, true, true, true, true, true, true, true, true, true, true, true, true, true, true, false, false] rfl rfl (by kernel_rfl) (fun _ _ _ h => h) (Or.inl ⟨by rfl, ?_⟩) ?_ ?_
  rotate_left
  · intro w'
    go_simp
    with_reducible rfl
  rotate_left
  · simp only [Act.put, List.setIfInBounds_toArray, List.set_cons_zero, List.set_cons_succ, i64_w, i32_w]
    rfl
  refine pure_ (i := 20) (N := some 37) (v := ?_) (a' := ?_) #[true, true, true, true, true, true, true, true, true, true, true, true, true, true, true, true, true, true, true, true, true, false] rfl rfl (by kernel_rfl) (fun _ _ _ h => h) (Or.inl ⟨by rfl, ?_⟩) ?_ ?_
  rotate_left
  · intro w'
    go_simp
    with_reducible rfl
  rotate_left
  · simp only [Act.put, List.setIfInBounds_toArray, List.set_cons_zero, List.set_cons_succ, i64_w, i32_w]
    rfl
  refine pure_ (i := 21) (N := some 6) (v := ?_) (a' := ?_) #[true, true, true, true, true, true, true, true, true, true, true, true, true, true, true, true, true, true, true, true, true, true] rfl rfl (by kernel_rfl) (fun _ _ _ h => h) (Or.inl ⟨by rfl, ?_⟩) ?_ ?_
  rotate_left
  · intro w'
    go_simp
    with_reducible rfl
  rotate_left
  · simp only [Act.put, List.setIfInBounds_toArray, List.set_cons_zero, List.set_cons_succ, i64_w, i32_w]
    rfl
  refine done_ (by kernel_rfl) ?_
  go_wp2
  go_ret
  exact ⟨rfl, below_step HBW.out (below_step HB6.out HX.out)⟩
set_option maxHeartbeats 16000000 in
set_option maxRecDepth 100000 in
theorem law_early (A : Option Addr) (n c : Nat) (k t : Int) (cs1 cs2 : Array Value) (f1 : Bool) (w : World)
    (h1 : ∀ W, Below w.heap.size w W → Calls Try.prog 7 #[.agg #[.slice A n c, .int .u32 k, .int .u32 t]] W fun e w' => e = .returned (.bool f1) ∧ Below W.heap.size W w')
    (h2 : f1 = true → ∀ W, Below w.heap.size w W → Calls Try.prog 8 #[.agg #[.slice A n c, .int .u32 k, .int .u32 t]] W fun e w' => e = .returned (.bool false) ∧ Below W.heap.size W w') :
    Calls Try.prog 4 #[.agg #[.slice A n c, .int .u32 k, .int .u32 t], .agg cs1, .agg cs2] w fun e w' => e = .returned (.bool true) ∧ Below w.heap.size w w' := by
  have H1 := Lib.hid h1
  have H2 := Lib.hid h2
  clear h1 h2
  have HBW := Lib.hid (show Below w.heap.size w (((w.alloc (.cells #[.slice A n c, .int .u32 k, .int .u32 t] 27)).alloc (.cells cs1 30)).alloc (.cells cs2 30)) from below_alloc (below_alloc (below_alloc (Below.refl _ _) _) _) _)
  have HC := Lib.hid (show ∀ W, Below (((w.alloc (.cells #[.slice A n c, .int .u32 k, .int .u32 t] 27)).alloc (.cells cs1 30)).alloc (.cells cs2 30)).heap.size (((w.alloc (.cells #[.slice A n c, .int .u32 k, .int .u32 t] 27)).alloc (.cells cs1 30)).alloc (.cells cs2 30)) W → W.heap[w.heap.size]? = some (.cells #[.slice A n c, .int .u32 k, .int .u32 t] 27 (0, 0)) from fun W hW =>
    blk_below (blk_below (heap_alloc_new w _) (below_alloc (below_alloc (Below.refl _ _) _) _)) hW)
  have HB := Lib.hid (Below.refl (((w.alloc (.cells #[.slice A n c, .int .u32 k, .int .u32 t] 27)).alloc (.cells cs1 30)).alloc (.cells cs2 30)).heap.size (((w.alloc (.cells #[.slice A n c, .int .u32 k, .int .u32 t] 27)).alloc (.cells cs1 30)).alloc (.cells cs2 30)))
  cases f1
  · have hh_ := HC.out _ HB.out; have z0 := (blk_cell hh_ 0).trans rfl; have z1 := (blk_cell hh_ 1).trans rfl; have z2 := (blk_cell hh_ 2).trans rfl; clear hh_
    go_enter Try.func4, Try.ntmps4
    go_wp2_with (first
      | (go_at_call 7; go_must ((with_reducible refine (H1.out _ (below_step HBW.out HB.out)).mono ?_); rintro e w1 ⟨rfl, hB⟩; clear z0 z1 z2; have n0_ := Lib.hid (below_step HB.out hB); clear HB hB; have HB := n0_; clear n0_; have hh_ := HC.out _ HB.out; have z0 := (blk_cell hh_ 0).trans rfl; have z1 := (blk_cell hh_ 1).trans rfl; have z2 := (blk_cell hh_ 2).trans rfl; clear hh_)))
    go_ret
    exact ⟨rfl, below_step HBW.out HB.out⟩
  · have hh_ := HC.out _ HB.out; have z0 := (blk_cell hh_ 0).trans rfl; have z1 := (blk_cell hh_ 1).trans rfl; have z2 := (blk_cell hh_ 2).trans rfl; clear hh_
    go_enter Try.func4, Try.ntmps4
    go_wp2_with (first
      | (go_at_call 7; go_must ((with_reducible refine (H1.out _ (below_step HBW.out HB.out)).mono ?_); rintro e w1 ⟨rfl, hB⟩; clear z0 z1 z2; have n0_ := Lib.hid (below_step HB.out hB); clear HB hB; have HB := n0_; clear n0_; have hh_ := HC.out _ HB.out; have z0 := (blk_cell hh_ 0).trans rfl; have z1 := (blk_cell hh_ 1).trans rfl; have z2 := (blk_cell hh_ 2).trans rfl; clear hh_))
      | (go_at_call 8; go_must ((with_reducible refine (H2.out (by trivial) _ (below_step HBW.out HB.out)).mono ?_); rintro e w2 ⟨rfl, hB⟩; clear z0 z1 z2; have n0_ := Lib.hid (below_step HB.out hB); clear HB hB; have HB := n0_; clear n0_; have hh_ := HC.out _ HB.out; have z0 := (blk_cell hh_ 0).trans rfl; have z1 := (blk_cell hh_ 1).trans rfl; have z2 := (blk_cell hh_ 2).trans rfl; clear hh_)))
    go_ret
    exact ⟨rfl, below_step HBW.out HB.out⟩
theorem law_walk (A : Option Addr) (c : Nat) (l : List Int) (k t : Int) (h1 : List Int) (i1 : Int) (h2 : List Int) (i2 : Int) (w : World) (hA : Kd.C (Kd.int .u8) w A l.length l) (hc : l.length ≤ c) (hB : Bytes l) (hk : 0 ≤ k) (ht : 0 ≤ t ∧ t < 4294967296)
    (hl1 : h1.length = 32) (hb1 : Bytes h1) (hi1 : 0 ≤ i1 ∧ i1 < 4294967296) (hl2 : h2.length = 32) (hb2 : Bytes h2) (hi2 : 0 ≤ i2 ∧ i2 < 4294967296) :
    Calls Try.prog 4 #[.agg #[.slice A l.length c, .int .u32 k, .int .u32 t], .agg (opc h1 i1).toArray, .agg (opc h2 i2).toArray] w fun e w' => e = .returned (.bool true) ∧ Below w.heap.size w w' := by
  by_cases c1 : (l.length : Int) > 2147483647
  · exact law_early A l.length c k t _ _ false w (fun W hW => PFnBloomOut.laws_zzFits14.calls A c l k t false W (Kd.C_below hA hW) hc (by unfold PFnBloomOut.laws_zzFits14.f; rw [if_pos c1])) (fun h => by cases h)
  have hfit : ∀ W, Below w.heap.size w W → Calls Try.prog 7 #[.agg #[.slice A l.length c, .int .u32 k, .int .u32 t]] W fun e w' => e = .returned (.bool true) ∧ Below W.heap.size W w' :=
    fun W hW => PFnBloomOut.laws_zzFits14.calls A c l k t true W (Kd.C_below hA hW) hc (by unfold PFnBloomOut.laws_zzFits14.f; rw [if_neg c1])
  by_cases c2 : (1 ≤ l.length ∧ l.length ≤ 2000) ∧ 1 ≤ k ∧ k ≤ 50
  · obtain ⟨K, rfl⟩ := Int.eq_ofNat_of_zero_le hk
    obtain ⟨hn, hk1, hk2⟩ := c2
    have hK : 1 ≤ K ∧ K ≤ 50 := by omega
    have o1 := ob_bytes hb1 i1
    have o2 := ob_bytes hb2 i2
    have e1 := ob_len hl1 i1
    have e2 := ob_len hl2 i2
    have hL := addB_len l.length t (ob h1 i1) l K
    have hLB := addB_bytes hB l.length t (ob h1 i1) K
    have hself : hasB l.length t (ob h1 i1) (addB l.length t (ob h1 i1) l K) K = true := hasB_true (has_add hB hn.1 t (ob h1 i1) K)
    obtain ⟨L', hL'⟩ : ∃ L', addB l.length t (ob h1 i1) l K = L' := ⟨_, rfl⟩
    rw [hL'] at hL hLB hself
    have hn' : 1 ≤ L'.length ∧ L'.length ≤ 2000 := by rw [hL]; exact hn
    refine law_main A l.length c (K : Int) t _ _ (ob h1 i1) (ob h2 i2) L' (hasB l.length t (ob h2 i2) L' K) w ⟨by simp [opc_len, hl1], by simp [opc_len, hl2], hfit, ?_, ?_, ?_, ?_, ?_, ?_, ?_, ?_, ?_⟩
    · exact fun W hW => PFnBloomOut.laws_bloom.calls A c l K t true W (Kd.C_below hA hW) hc (by unfold PFnBloomOut.laws_bloom.f; rw [if_pos (by omega), if_pos (by omega), if_pos (by omega), decide_eq_true (by omega)])
    · exact fun W hW => hL' ▸ implAdd_calls A c l K t h1 i1 W (Kd.C_below hA hW) hc hn hK ht hl1 hb1 hi1
    · exact fun W => opb_calls h1 i1 W hl1 hi1
    · exact fun W => opb_calls h2 i2 W hl2 hi2
    · exact fun W B cb hW hC => hL' ▸ add_calls A l c K t B cb (ob h1 i1) W (Kd.C_below hA hW) hB hC o1 (by rw [e1]; decide) hn hK ht
    · intro W A0 c0 A1 c1 g0 l0 g1 l1
      rw [← hL] at g0 l0 g1 l1 ⊢
      exact PFnBloomOut.laws_sameBloom.calls (L'.length + 1) A0 c0 L' K t A1 c1 L' K t true W g0 l0 g1 l1 (by
        unfold PFnBloomOut.laws_sameBloom.f
        rw [same_eq L' (by omega)]
        simp)
    · intro W A0 c0 g0 l0
      rw [← hL] at g0 l0 ⊢
      have := implHas_calls A0 c0 L' K t h1 i1 W g0 l0 hn' hK ht hl1 hb1 hi1 hLB
      rwa [show hasB L'.length t (ob h1 i1) L' K = true from by rw [hL]; exact hself] at this
    · intro W A0 c0 g0 l0
      rw [← hL] at g0 l0 ⊢
      exact implHas_calls A0 c0 L' K t h2 i2 W g0 l0 hn' hK ht hl2 hb2 hi2 hLB
    · intro W A0 c0 B cb g0 gB
      rw [← hL] at g0 ⊢
      exact has_calls A0 L' c0 K t B cb (ob h2 i2) W g0 hLB gB o2 (by rw [e2]; decide) hn' hK ht
  · refine law_early A l.length c k t _ _ true w hfit (fun _ W hW => PFnBloomOut.laws_bloom.calls A c l k t false W (Kd.C_below hA hW) hc ?_)
    unfold PFnBloomOut.laws_bloom.f
    split
    · split
      · split
        · rw [decide_eq_false (by omega)]
        · rfl
      · rfl
    · rfl
/-- Plain data as a filter, as an output's name. -/
def kBL : Kd (List Int × Int × Int) := Kd.iso (Kd.pair (Kd.slice 5 (Kd.int .u8)) (Kd.pair (Kd.int .u32) (Kd.int .u32))) (fun x : List Int × Int × Int => x)
def GoodBL (x : List Int × Int × Int) : Prop := (∀ y ∈ x.1, (Lit.int .u8 y).wf = true) ∧ (Lit.int .u32 x.2.1).wf = true ∧ (Lit.int .u32 x.2.2).wf = true
theorem opens_bl : Open.Opens Try.prog 27 kBL GoodBL :=
  Open.opens_struct (g := fun y => y) (fun _ => rfl) (Open.opensF_cons (Open.opens_slice (Open.opens_int Try.underlying5 (by kernel_rfl)) Try.underlying23 (by kernel_rfl)) rfl (Open.opensF_cons (Open.opens_int Try.underlying22 (by kernel_rfl)) rfl (Open.opensF_one (Open.opens_int Try.underlying22 (by kernel_rfl)) rfl))) Try.underlying27 (by kernel_rfl)
def kOP : Kd (List Int × Int) := Kd.iso (Kd.pair (Kd.arr 32 (Kd.int .u8) (by decide)) (Kd.int .u32)) (fun x : List Int × Int => x)
def GoodOP (x : List Int × Int) : Prop := (∀ y ∈ x.1, (Lit.int .u8 y).wf = true) ∧ (Lit.int .u32 x.2).wf = true
theorem opens_op : Open.Opens Try.prog 30 kOP GoodOP :=
  Open.opens_struct (g := fun y => y) (fun _ => rfl) (Open.opensF_cons (Open.opens_array (Open.opens_int Try.underlying5 (by kernel_rfl)) Try.underlying28 (by kernel_rfl)) rfl (Open.opensF_one (Open.opens_int Try.underlying22 (by kernel_rfl)) rfl)) Try.underlying30 (by kernel_rfl)
theorem kBL_open {w : World} {x : List Int × Int × Int} {cs : Array Value} (h : kBL.K w x cs.toList) : ∃ A c, cs = #[.slice A x.1.length c, .int .u32 x.2.1, .int .u32 x.2.2] ∧ x.1.length ≤ c ∧ Kd.C (Kd.int .u8) w A x.1.length x.1 := by
  obtain ⟨_, _, e, ⟨A, c, rfl, hl, hC⟩, _, _, rfl, rfl, rfl⟩ := h
  refine ⟨A, c, ?_, hl, hC⟩
  rw [← Array.toArray_toList (xs := cs), e]
  rfl
theorem kOP_open {w : World} {x : List Int × Int} {cs : Array Value} (h : kOP.K w x cs.toList) : cs = (opc x.1 x.2).toArray ∧ x.1.length = 32 := by
  obtain ⟨_, _, e, ha, rfl⟩ := h
  obtain ⟨hl, rfl⟩ := Kd.arr_cells ha
  refine ⟨?_, hl⟩
  rw [← Array.toArray_toList (xs := cs), e]
  rfl
theorem bytes_of {l : List Int} (h : ∀ y ∈ l, (Lit.int .u8 y).wf = true) : Bytes l := fun y hy => by
  have := h y hy
  simp [Lit.wf, IntKind.min, IntKind.max, IntKind.bits, IntKind.signed] at this
  omega
theorem u32_of {x : Int} (h : (Lit.int .u32 x).wf = true) : 0 ≤ x ∧ x < 4294967296 := by
  simp [Lit.wf, IntKind.min, IntKind.max, IntKind.bits, IntKind.signed] at h
  omega
/-- The law, for the row. -/
theorem row_walk (cs0 : Array Value) (z0 : List Int × Int × Int) (cs1 : Array Value) (z1 : List Int × Int) (cs2 : Array Value) (z2 : List Int × Int) (W : World) (h0 : kBL.K W z0 cs0.toList ∧ GoodBL z0) (h1 : kOP.K W z1 cs1.toList ∧ GoodOP z1) (h2 : kOP.K W z2 cs2.toList ∧ GoodOP z2) :
    Calls Try.prog 4 #[.agg cs0, .agg cs1, .agg cs2] W fun e w' => e = .returned (.bool true) ∧ Below W.heap.size W w' := by
  obtain ⟨A, c, rfl, hc, hC⟩ := kBL_open h0.1
  obtain ⟨rfl, l1⟩ := kOP_open h1.1
  obtain ⟨rfl, l2⟩ := kOP_open h2.1
  exact law_walk A c z0.1 z0.2.1 z0.2.2 z1.1 z1.2 z2.1 z2.2 W hC hc (bytes_of h0.2.1) (u32_of h0.2.2.1).1 (u32_of h0.2.2.2) l1 (bytes_of h1.2.1) (u32_of h1.2.2) l2 (bytes_of h2.2.1) (u32_of h2.2.2)
end Go.Proofs.Ytojadhcbjcpifaa.Bl
