/-
  spec.OutPointBytes, spec.bit.
-/
import Derived.Test.YtojadhcbjcpifaaBy
import Derived.Test.YtojadhcbjcpifaaTxOut
import Derived.Test.YtojadhcbjcpifaaMurSpec
namespace Go.Proofs.Ytojadhcbjcpifaa.Bl
open Go.RowKit Go.Proofs.YtojadhcbjcpifaaW.PrintWords Go.Proofs.YtojadhcbjcpifaaW.PrintLast Go.Proofs.Ytojadhcbjcpifaa.Reg Go.Proofs.Ytojadhcbjcpifaa.By Go.Proofs.Ytojadhcbjcpifaa.Tx
set_option linter.unusedSimpArgs false
set_option linter.unusedVariables false

set_option maxHeartbeats 8000000 in
set_option maxRecDepth 100000 in
theorem opb_calls (h : List Int) (i : Int) (w : World) (hl : h.length = 32) (hi : 0 ≤ i ∧ i < 4294967296) :
    Calls Try.prog 12 #[.agg (opc h i).toArray] w fun e w' => ∃ v, e = .returned v ∧ Own w w' v (h ++ le 4 i) := by
  have hcell : ∀ (W : World), Below (w.alloc (.cells (opc h i).toArray 30)).heap.size (w.alloc (.cells (opc h i).toArray 30)) W → ∀ j v, (opc h i)[j]? = some v → W.cell? ⟨w.heap.size, j, none⟩ = some v := by
    intro W hW j v hj
    rw [blk_cell (blk_below (heap_alloc_new w _) hW) j]
    simpa using hj
  have hhash : ∀ (W : World), Below (w.alloc (.cells (opc h i).toArray 30)).heap.size (w.alloc (.cells (opc h i).toArray 30)) W → Kd.C (Kd.int .u8) W (some ⟨w.heap.size, 0, none⟩) h.length h := fun W hW => by
    refine Kd.C_of_reads (d := (0 : Int)) (h1 := fun _ => rfl) ⟨rfl, by omega, fun hn => ⟨_, rfl, fun j hj => ?_⟩⟩
    rw [Addr.add_mid, Nat.zero_add]
    refine hcell W hW j _ ?_
    rw [opc, List.getElem?_append_left (by rw [hv_len]; exact hj)]
    simp [hv, List.getD, hj]
  have h32 : ∀ (W : World), Below (w.alloc (.cells (opc h i).toArray 30)).heap.size (w.alloc (.cells (opc h i).toArray 30)) W → W.cell? ⟨w.heap.size, 32, none⟩ = some (.int .u32 i) := fun W hW => hcell W hW 32 _ (by simp [opc, hv_len, List.getElem?_append, hl])
  obtain ⟨cs, hcs⟩ : ∃ cs, (opc h i).toArray = cs := ⟨_, rfl⟩
  rw [hcs] at hhash h32 ⊢
  obtain ⟨d, hd⟩ : ∃ d, le 4 i = d := ⟨_, rfl⟩
  have KI := Lib.hid (hd ▸ little_eq 4 9 (by omega) (by omega) i hi.1 (by have := hi.2; omega))
  have ZD := Lib.hid (show d.length = 4 by rw [← hd, le_len])
  have HH := Lib.hid hhash
  have H32 := Lib.hid h32
  have HL := Lib.hid hl
  have hw1 : IntKind.u64.wrap i = i := u64_id hi.1 (by have := hi.2; omega)
  have hw2 : i % 18446744073709551616 = i := by have := hi; omega
  have W0 := Lib.hid (show Below w.heap.size w (w.alloc (.cells cs 30)) from below_alloc (Below.refl _ _) _)
  rw [hd]
  clear hcell hhash h32 hcs hd hl hi
  have HB := Lib.hid (below_drew (Below.refl (w.alloc (.cells cs 30)).heap.size (w.alloc (.cells cs 30))))
  go_enter Try.func12, Try.ntmps12
  go_wp2
  refine start_ (n := 10) (S := fun w' => w'.cell? ⟨w.heap.size, 32, none⟩ = some (.int .u32 i)) (ds := []) #[false, false, false, false, false, false, false, false, false, false] (by kernel_rfl) rfl rfl ((H32.out _ HB.out)) (fun hHeld => ?_)
  refine pure_ (i := 1) (N := some 4) (v := ?_) (a' := ?_) #[false, true, false, false, false, false, false, false, false, false] rfl rfl (by kernel_rfl) (fun _ _ _ h => h) (Or.inl ⟨by rfl, ?_⟩) ?_ ?_
  rotate_left
  · intro w'
    go_simp
    with_reducible rfl
  rotate_left
  · simp only [Act.put, List.setIfInBounds_toArray, List.set_cons_zero, List.set_cons_succ, i64_w, i32_w]
    rfl
  refine pure_ (i := 2) (N := some 5) (v := ?_) (a' := ?_) #[false, true, true, false, false, false, false, false, false, false] rfl rfl (by kernel_rfl) (fun _ _ _ h => h) (Or.inl ⟨by rfl, ?_⟩) ?_ ?_
  rotate_left
  · intro w'
    go_simp
    with_reducible rfl
  rotate_left
  · simp only [Act.put, List.setIfInBounds_toArray, List.set_cons_zero, List.set_cons_succ, i64_w, i32_w]
    rfl
  refine pure_ (i := 4) (N := some 7) (v := ?_) (a' := ?_) #[false, true, true, false, true, false, false, false, false, false] rfl rfl (by kernel_rfl) (fun _ _ _ h => h) (Or.inl ⟨by rfl, ?_⟩) ?_ ?_
  rotate_left
  · intro w'
    go_simp
    with_reducible rfl
  rotate_left
  · simp only [Act.put, List.setIfInBounds_toArray, List.set_cons_zero, List.set_cons_succ, i64_w, i32_w]
    rfl
  refine take_ (i := 5) (N := some 8) (v := ?_) (a' := ?_) #[false, true, true, false, true, true, false, false, false, false] rfl rfl (by kernel_rfl) (fun _ _ _ h => h) (Or.inl ⟨by rfl, ?_⟩) hHeld ?_ ?_
  rotate_left
  · intro w' s0
    go_simp
    with_reducible rfl
  rotate_left
  · simp only [Act.put, List.setIfInBounds_toArray, List.set_cons_zero, List.set_cons_succ, i64_w, i32_w]
    rfl
  refine pure_ (i := 6) (N := some 9) (v := ?_) (a' := ?_) #[false, true, true, false, true, true, true, false, false, false] rfl rfl (by kernel_rfl) (fun _ _ _ h => h) (Or.inl ⟨by rfl, ?_⟩) ?_ ?_
  rotate_left
  · intro w'
    go_simp
    with_reducible rfl
  rotate_left
  · simp only [Act.put, List.setIfInBounds_toArray, List.set_cons_zero, List.set_cons_succ, i64_w, i32_w]
    rfl
  refine one_ (i := 0) (N := some 3) #[true, true, true, false, true, true, true, false, false, false] rfl rfl (by kernel_rfl) (by decide) (fun K hK => ?_)
  refine Kd.R_lit_step (Kd.int .u8) _ 5 (by rfl) (N := 3) rfl (xs := ([] : List Int)) (inner := []) (ok := fun _ => True) (okp := fun _ => True) ?hr (Reps.none _ _) (fun _ hk => hk) trivial (Below.refl _ _) (Nat.le_refl _) (by simp) ?_
  case hr => first | (go_simp; done) | (go_simp; rfl)
  intro v_ w_ h_ hb_ hg_ hnew_
  have HO := Lib.hid (show Own (w.alloc (.cells cs 30)) w_ v_ [] from Own.of HB.out h_ (by simp) hb_); clear h_ hb_ hg_ hnew_ HB
  refine hK.out _ _ ((H32.out _ HO.out.2)) (fun hHeld => ?_)
  clear hK K
  refine norm_ (a' := ?_) ?_ ?_
  rotate_left
  · show Act.put _ (some 3) _ = _
    simp only [Act.put, List.setIfInBounds_toArray, List.set_cons_zero, List.set_cons_succ, i64_w, i32_w]
    rfl
  refine one_ (i := 3) (N := some 6) #[true, true, true, true, true, true, true, false, false, false] rfl rfl (by kernel_rfl) (by decide) (fun K hK => ?_)
  refine app_step (w0 := (w.alloc (.cells cs 30))) (by rfl) (.tmp 3) (.tmp 5) rfl (by rfl) (by rfl) HO.out (HH.out _ HO.out.2) HL.out (by have := HL.out; simp; omega) ?_
  intro v2_ w2_ ho_ _
  have n0_ := Lib.hid ho_; clear HO ho_; have HO := n0_; clear n0_
  refine hK.out _ _ ((H32.out _ HO.out.2)) (fun hHeld => ?_)
  clear hK K
  refine norm_ (a' := ?_) ?_ ?_
  rotate_left
  · show Act.put _ (some 6) _ = _
    simp only [Act.put, List.setIfInBounds_toArray, List.set_cons_zero, List.set_cons_succ, i64_w, i32_w]
    rfl
  refine one_ (i := 7) (N := some 10) #[true, true, true, true, true, true, true, true, false, false] rfl rfl (by kernel_rfl) (by decide) (fun K hK => ?_)
  refine goes_ Try.func24 (by kernel_rfl) rfl #[.int .u64 i, .int .i64 4] (by rfl) rfl rfl (by simp only [List.map_toArray, List.map_cons, List.map_nil]; rfl) ?_
  with_reducible refine (PFnBloomOut.spec_little.calls 9 i 4 _ _ KI.out).mono ?_
  rintro e w3 ⟨u, rfl, hr, hb⟩
  refine ⟨_, rfl, ?_⟩
  obtain ⟨ho_, A9, c9, rfl, hC⟩ := made_C HO.out hr hb; have n0_ := Lib.hid ho_; have HCx := Lib.hid hC; clear HO hr hb ho_ hC; have HO := n0_; clear n0_
  refine hK.out _ _ ((H32.out _ HO.out.2)) (fun hHeld => ?_)
  clear hK K
  refine norm_ (a' := ?_) ?_ ?_
  rotate_left
  · show Act.put _ (some 10) _ = _
    simp only [Act.put, List.setIfInBounds_toArray, List.set_cons_zero, List.set_cons_succ, i64_w, i32_w]
    rfl
  refine one_ (i := 8) (N := some 11) #[true, true, true, true, true, true, true, true, true, false] rfl rfl (by kernel_rfl) (by decide) (fun K hK => ?_)
  refine app_step (w0 := (w.alloc (.cells cs 30))) (by rfl) (.tmp 6) (.tmp 10) rfl (by rfl) (by rfl) HO.out HCx.out rfl (by have := HL.out; have := ZD.out; simp; omega) ?_
  intro v4_ w4_ ho_ _
  have n0_ := Lib.hid ho_; clear HO ho_; have HO := n0_; clear n0_
  refine hK.out _ _ ((H32.out _ HO.out.2)) (fun hHeld => ?_)
  clear hK K
  refine norm_ (a' := ?_) ?_ ?_
  rotate_left
  · show Act.put _ (some 11) _ = _
    simp only [Act.put, List.setIfInBounds_toArray, List.set_cons_zero, List.set_cons_succ, i64_w, i32_w]
    rfl
  refine pure_ (i := 9) (N := some 2) (v := ?_) (a' := ?_) #[true, true, true, true, true, true, true, true, true, true] rfl rfl (by kernel_rfl) (fun _ _ _ h => h) (Or.inl ⟨by rfl, ?_⟩) ?_ ?_
  rotate_left
  · intro w'
    go_simp
    with_reducible rfl
  rotate_left
  · simp only [Act.put, List.setIfInBounds_toArray, List.set_cons_zero, List.set_cons_succ, i64_w, i32_w]
    rfl
  refine done_ (by kernel_rfl) ?_
  go_wp2
  go_ret
  exact ⟨_, rfl, Own.of W0.out (by have := HO.out.1; simpa using this) W0.out.size HO.out.2⟩
end Go.Proofs.Ytojadhcbjcpifaa.Bl
