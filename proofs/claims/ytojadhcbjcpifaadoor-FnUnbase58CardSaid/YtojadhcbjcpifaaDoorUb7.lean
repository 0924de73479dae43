/-
  big.Int: Mul.
-/
import Derived.Test.YtojadhcbjcpifaaDoorUb6
namespace Go.Proofs.YtojadhcbjcpifaaDoor.Ub
open Go.RowKit Go.Proofs.YtojadhcbjcpifaaDoorW.PrintWords Go.Proofs.YtojadhcbjcpifaaDoorW.PrintLast Go.Proofs.YtojadhcbjcpifaaDoorW.PrintMore Go.Proofs.YtojadhcbjcpifaaDoor.Reg
set_option linter.unusedSimpArgs false
set_option linter.unusedVariables false

theorem _root_.And.false0 {g : Nat} {l : List Int} {w W : World} (h : Big (fun k => w.heap.size ≤ k) W g l ∧ One g w W) (hg : g < w.heap.size) : Big (fun k => w.heap.size ≤ k) (W.setCell ⟨g, 0, none⟩ (.bool false)) g l ∧ One g w (W.setCell ⟨g, 0, none⟩ (.bool false)) := by
  obtain ⟨⟨A, c, h1, h2, h3⟩, h4, h5⟩ := h
  exact ⟨⟨A, c, blk_set h1 0 _, h2, Kd.F_far (p := ⟨g, 0, none⟩) h3 (fun k hk => by show k ≠ g; omega) _⟩, h4.set_ 0 _, h5.setCell (p := ⟨g, 0, none⟩) (Nat.le_refl _) _⟩
set_option maxHeartbeats 8000000 in
set_option maxRecDepth 100000 in
theorem mul_calls (Q Q' : Nat → Prop) (g r : Nat) (lx ly : List Int) (w : World) (hx : Big Q w g lx) (hy : Big Q' w r ly) (hgr : g ≠ r) (hdx : Dg 4294967296 lx) (hdy : Dg 4294967296 ly) (hlx : lx.length ≤ 2000) (hly : ly.length ≤ 2000) :
    Calls Tryd.prog 21 #[.pointer (some ⟨g, 0, none⟩), .pointer (some ⟨g, 0, none⟩), .pointer (some ⟨r, 0, none⟩)] w (Set g (lv 4294967296 lx * lv 4294967296 ly) (lx.length + ly.length) w) := by
  obtain ⟨l, hf, hN, hlv, hll⟩ := mul_f lx ly _ hdx hdy hlx hly (Nat.le_refl _)
  obtain ⟨k, hk⟩ : ∃ k, lx.length * (ly.length + 2) + lx.length + ly.length + 2 = k := ⟨_, rfl⟩
  rw [hk] at hf
  have hwl := hx.lt
  obtain ⟨A1, c1, hbx, hcx, hFx⟩ := hx
  obtain ⟨A2, c2, hby, hcy, hFy⟩ := hy
  have HO := Lib.hid (fun (w' : World) (hx : Big (fun k => w.heap.size ≤ k) w' g l ∧ One g w w') => show Set g (lv 4294967296 lx * lv 4294967296 ly) (lx.length + ly.length) w (.returned (.pointer (some ⟨g, 0, none⟩))) w' from ⟨rfl, ⟨l, hN, hlv, hll, hx.1⟩, hx.2⟩)
  have HC := Lib.hid (show ∀ W, Below w.heap.size w W → W.cell? ⟨g, 1, none⟩ = some (.slice A1 lx.length c1) ∧ W.cell? ⟨r, 1, none⟩ = some (.slice A2 ly.length c2) ∧ W.cell? ⟨g, 0, none⟩ = some (.bool false) ∧ W.cell? ⟨r, 0, none⟩ = some (.bool false) from fun W hW =>
    ⟨(blk_cell (blk_below hbx hW) 1).trans rfl, (blk_cell (blk_below hby hW) 1).trans rfl, (blk_cell (blk_below hbx hW) 0).trans rfl, (blk_cell (blk_below hby hW) 0).trans rfl⟩)
  have HM := Lib.hid (fun W (hW : Below w.heap.size w W) => PFnUnbase58.smallbig_nat_mul.calls k A1 c1 lx A2 c2 ly l W (Kd.F_now (Kd.F_below hFx hW)) hcx (Kd.F_now (Kd.F_below hFy hW)) hcy hf)
  have HBK := Lib.hid hbx
  have HGR := Lib.hid hgr
  have HGL := Lib.hid hwl
  have hgr2 : ¬ r = g := fun e => hgr e.symm
  obtain ⟨n1, hn1⟩ : ∃ n, lx.length = n := ⟨_, rfl⟩
  obtain ⟨n2, hn2⟩ : ∃ n, ly.length = n := ⟨_, rfl⟩
  rw [hn1] at HM HC HO
  rw [hn2] at HM HC HO
  rw [hn1, hn2]
  obtain ⟨V, hV⟩ : ∃ V, lv 4294967296 lx * lv 4294967296 ly = V := ⟨_, rfl⟩
  rw [hV] at HO ⊢
  have HX := Lib.hid (below_drew (Below.refl w.heap.size w))
  clear hf hN hlv hll hk hwl hbx hcx hFx hby hcy hFy hgr hdx hdy hlx hly hn1 hn2 hV
  go_enter Tryd.func21, Tryd.ntmps21
  go_wp2
  refine start_ (n := 26) (S := fun w' => w'.cell? ⟨g, 1, none⟩ = some (.slice A1 n1 c1) ∧ w'.cell? ⟨r, 1, none⟩ = some (.slice A2 n2 c2) ∧ w'.cell? ⟨g, 0, none⟩ = some (.bool false) ∧ w'.cell? ⟨r, 0, none⟩ = some (.bool false)) (ds := [22, 25]) #[false, false, false, false, false, false, false, false, false, false, false, false, false, false, false, false, false, false, false, false, false, false, false, false, false, false] (by kernel_rfl) rfl rfl ⟨(HC.out _ HX.out).1, (HC.out _ HX.out).2.1, (HC.out _ HX.out).2.2.1, (HC.out _ HX.out).2.2.2⟩ (fun hHeld => ?_)
  refine pure_ (i := 0) (N := some 7) (v := ?_) (a' := ?_) #[true, false, false, false, false, false, false, false, false, false, false, false, false, false, false, false, false, false, false, false, false, false, false, false, false, false] rfl rfl (by kernel_rfl) (fun _ _ _ h => h) (Or.inl ⟨by rfl, ?_⟩) ?_ ?_
  rotate_left
  · intro w'
    go_simp
    with_reducible rfl
  rotate_left
  · simp only [Act.put, List.setIfInBounds_toArray, List.set_cons_zero, List.set_cons_succ, i64_w, i32_w]
    rfl
  refine pure_ (i := 1) (N := some 8) (v := ?_) (a' := ?_) #[true, true, false, false, false, false, false, false, false, false, false, false, false, false, false, false, false, false, false, false, false, false, false, false, false, false] rfl rfl (by kernel_rfl) (fun _ _ _ h => h) (Or.inl ⟨by rfl, ?_⟩) ?_ ?_
  rotate_left
  · intro w'
    go_simp
    with_reducible rfl
  rotate_left
  · simp only [Act.put, List.setIfInBounds_toArray, List.set_cons_zero, List.set_cons_succ, i64_w, i32_w]
    rfl
  refine pure_ (i := 2) (N := some 9) (v := ?_) (a' := ?_) #[true, true, true, false, false, false, false, false, false, false, false, false, false, false, false, false, false, false, false, false, false, false, false, false, false, false] rfl rfl (by kernel_rfl) (fun _ _ _ h => h) (Or.inl ⟨by rfl, ?_⟩) ?_ ?_
  rotate_left
  · intro w'
    go_simp
    with_reducible rfl
  rotate_left
  · simp only [Act.put, List.setIfInBounds_toArray, List.set_cons_zero, List.set_cons_succ, i64_w, i32_w]
    rfl
  refine pure_ (i := 3) (N := some 10) (v := ?_) (a' := ?_) #[true, true, true, true, false, false, false, false, false, false, false, false, false, false, false, false, false, false, false, false, false, false, false, false, false, false] rfl rfl (by kernel_rfl) (fun _ _ _ h => h) (Or.inl ⟨by rfl, ?_⟩) ?_ ?_
  rotate_left
  · intro w'
    go_simp
    with_reducible rfl
  rotate_left
  · simp only [Act.put, List.setIfInBounds_toArray, List.set_cons_zero, List.set_cons_succ, i64_w, i32_w]
    rfl
  refine pure_ (i := 4) (N := some 11) (v := ?_) (a' := ?_) #[true, true, true, true, true, false, false, false, false, false, false, false, false, false, false, false, false, false, false, false, false, false, false, false, false, false] rfl rfl (by kernel_rfl) (fun _ _ _ h => h) (Or.inl ⟨by rfl, ?_⟩) ?_ ?_
  rotate_left
  · intro w'
    go_simp
    with_reducible rfl
  rotate_left
  · simp only [Act.put, List.setIfInBounds_toArray, List.set_cons_zero, List.set_cons_succ, i64_w, i32_w]
    rfl
  refine pure_ (i := 6) (N := some 13) (v := ?_) (a' := ?_) #[true, true, true, true, true, false, true, false, false, false, false, false, false, false, false, false, false, false, false, false, false, false, false, false, false, false] rfl rfl (by kernel_rfl) (fun _ _ _ h => h) (Or.inl ⟨by rfl, ?_⟩) ?_ ?_
  rotate_left
  · intro w'
    go_simp
    with_reducible rfl
  rotate_left
  · simp only [Act.put, List.setIfInBounds_toArray, List.set_cons_zero, List.set_cons_succ, i64_w, i32_w]
    rfl
  refine pure_ (i := 7) (N := some 14) (v := ?_) (a' := ?_) #[true, true, true, true, true, false, true, true, false, false, false, false, false, false, false, false, false, false, false, false, false, false, false, false, false, false] rfl rfl (by kernel_rfl) (fun _ _ _ h => h) (Or.inl ⟨by rfl, ?_⟩) ?_ ?_
  rotate_left
  · intro w'
    go_simp
    with_reducible rfl
  rotate_left
  · simp only [Act.put, List.setIfInBounds_toArray, List.set_cons_zero, List.set_cons_succ, i64_w, i32_w]
    rfl
  refine pure_ (i := 8) (N := some 15) (v := ?_) (a' := ?_) #[true, true, true, true, true, false, true, true, true, false, false, false, false, false, false, false, false, false, false, false, false, false, false, false, false, false] rfl rfl (by kernel_rfl) (fun _ _ _ h => h) (Or.inl ⟨by rfl, ?_⟩) ?_ ?_
  rotate_left
  · intro w'
    go_simp
    with_reducible rfl
  rotate_left
  · simp only [Act.put, List.setIfInBounds_toArray, List.set_cons_zero, List.set_cons_succ, i64_w, i32_w]
    rfl
  refine pure_ (i := 11) (N := some 18) (v := ?_) (a' := ?_) #[true, true, true, true, true, false, true, true, true, false, false, true, false, false, false, false, false, false, false, false, false, false, false, false, false, false] rfl rfl (by kernel_rfl) (fun _ _ _ h => h) (Or.inl ⟨by rfl, ?_⟩) ?_ ?_
  rotate_left
  · intro w'
    go_simp
    with_reducible rfl
  rotate_left
  · simp only [Act.put, List.setIfInBounds_toArray, List.set_cons_zero, List.set_cons_succ, i64_w, i32_w]
    rfl
  refine pure_ (i := 12) (N := some 19) (v := ?_) (a' := ?_) #[true, true, true, true, true, false, true, true, true, false, false, true, true, false, false, false, false, false, false, false, false, false, false, false, false, false] rfl rfl (by kernel_rfl) (fun _ _ _ h => h) (Or.inl ⟨by rfl, ?_⟩) ?_ ?_
  rotate_left
  · intro w'
    go_simp
    with_reducible rfl
  rotate_left
  · simp only [Act.put, List.setIfInBounds_toArray, List.set_cons_zero, List.set_cons_succ, i64_w, i32_w]
    rfl
  refine pure_ (i := 13) (N := some 20) (v := ?_) (a' := ?_) #[true, true, true, true, true, false, true, true, true, false, false, true, true, true, false, false, false, false, false, false, false, false, false, false, false, false] rfl rfl (by kernel_rfl) (fun _ _ _ h => h) (Or.inl ⟨by rfl, ?_⟩) ?_ ?_
  rotate_left
  · intro w'
    go_simp
    with_reducible rfl
  rotate_left
  · simp only [Act.put, List.setIfInBounds_toArray, List.set_cons_zero, List.set_cons_succ, i64_w, i32_w]
    rfl
  refine pure_ (i := 15) (N := some 22) (v := ?_) (a' := ?_) #[true, true, true, true, true, false, true, true, true, false, false, true, true, true, false, true, false, false, false, false, false, false, false, false, false, false] rfl rfl (by kernel_rfl) (fun _ _ _ h => h) (Or.inl ⟨by rfl, ?_⟩) ?_ ?_
  rotate_left
  · intro w'
    go_simp
    with_reducible rfl
  rotate_left
  · simp only [Act.put, List.setIfInBounds_toArray, List.set_cons_zero, List.set_cons_succ, i64_w, i32_w]
    rfl
  refine pure_ (i := 16) (N := some 23) (v := ?_) (a' := ?_) #[true, true, true, true, true, false, true, true, true, false, false, true, true, true, false, true, true, false, false, false, false, false, false, false, false, false] rfl rfl (by kernel_rfl) (fun _ _ _ h => h) (Or.inl ⟨by rfl, ?_⟩) ?_ ?_
  rotate_left
  · intro w'
    go_simp
    with_reducible rfl
  rotate_left
  · simp only [Act.put, List.setIfInBounds_toArray, List.set_cons_zero, List.set_cons_succ, i64_w, i32_w]
    rfl
  refine pure_ (i := 17) (N := some 24) (v := ?_) (a' := ?_) #[true, true, true, true, true, false, true, true, true, false, false, true, true, true, false, true, true, true, false, false, false, false, false, false, false, false] rfl rfl (by kernel_rfl) (fun _ _ _ h => h) (Or.inl ⟨by rfl, ?_⟩) ?_ ?_
  rotate_left
  · intro w'
    go_simp
    with_reducible rfl
  rotate_left
  · simp only [Act.put, List.setIfInBounds_toArray, List.set_cons_zero, List.set_cons_succ, i64_w, i32_w]
    rfl
  refine take_ (i := 5) (N := some 12) (v := ?_) (a' := ?_) #[true, true, true, true, true, true, true, true, true, false, false, true, true, true, false, true, true, true, false, false, false, false, false, false, false, false] rfl rfl (by kernel_rfl) (fun _ _ _ h => h) (Or.inl ⟨by rfl, ?_⟩) hHeld ?_ ?_
  rotate_left
  · rintro w' ⟨s0, s1, s2, s3⟩
    go_simp
    with_reducible rfl
  rotate_left
  · simp only [Act.put, List.setIfInBounds_toArray, List.set_cons_zero, List.set_cons_succ, i64_w, i32_w]
    rfl
  refine take_ (i := 9) (N := some 16) (v := ?_) (a' := ?_) #[true, true, true, true, true, true, true, true, true, true, false, true, true, true, false, true, true, true, false, false, false, false, false, false, false, false] rfl rfl (by kernel_rfl) (fun _ _ _ h => h) (Or.inl ⟨by rfl, ?_⟩) hHeld ?_ ?_
  rotate_left
  · rintro w' ⟨s0, s1, s2, s3⟩
    go_simp
    with_reducible rfl
  rotate_left
  · simp only [Act.put, List.setIfInBounds_toArray, List.set_cons_zero, List.set_cons_succ, i64_w, i32_w]
    rfl
  refine take_ (i := 14) (N := some 21) (v := ?_) (a' := ?_) #[true, true, true, true, true, true, true, true, true, true, false, true, true, true, true, true, true, true, false, false, false, false, false, false, false, false] rfl rfl (by kernel_rfl) (fun _ _ _ h => h) (Or.inl ⟨by rfl, ?_⟩) hHeld ?_ ?_
  rotate_left
  · rintro w' ⟨s0, s1, s2, s3⟩
    go_simp
    with_reducible rfl
  rotate_left
  · simp only [Act.put, List.setIfInBounds_toArray, List.set_cons_zero, List.set_cons_succ, i64_w, i32_w]
    rfl
  refine take_ (i := 18) (N := some 25) (v := ?_) (a' := ?_) #[true, true, true, true, true, true, true, true, true, true, false, true, true, true, true, true, true, true, true, false, false, false, false, false, false, false] rfl rfl (by kernel_rfl) (fun _ _ _ h => h) (Or.inl ⟨by rfl, ?_⟩) hHeld ?_ ?_
  rotate_left
  · rintro w' ⟨s0, s1, s2, s3⟩
    go_simp
    with_reducible rfl
  rotate_left
  · simp only [Act.put, List.setIfInBounds_toArray, List.set_cons_zero, List.set_cons_succ, i64_w, i32_w]
    rfl
  refine pure_ (i := 19) (N := some 26) (v := ?_) (a' := ?_) #[true, true, true, true, true, true, true, true, true, true, false, true, true, true, true, true, true, true, true, true, false, false, false, false, false, false] rfl rfl (by kernel_rfl) (fun _ _ _ h => h) (Or.inl ⟨by rfl, ?_⟩) ?_ ?_
  rotate_left
  · intro w'
    go_simp
    with_reducible rfl
  rotate_left
  · simp only [Act.put, List.setIfInBounds_toArray, List.set_cons_zero, List.set_cons_succ, i64_w, i32_w]
    rfl
  refine one_ (i := 10) (N := some 17) #[true, true, true, true, true, true, true, true, true, true, true, true, true, true, true, true, true, true, true, true, false, false, false, false, false, false] rfl rfl (by kernel_rfl) (by decide) (fun K hK => ?_)
  refine goes_ Tryd.func29 (by kernel_rfl) rfl #[.slice A1 n1 c1, .slice A2 n2 c2] (by rfl) rfl rfl (by simp only [List.map_toArray, List.map_cons, List.map_nil]; rfl) ?_
  with_reducible refine (HM.out _ HX.out).mono ?_
  rintro e w1 ⟨x, rfl, hV, hb⟩
  refine ⟨_, rfl, ?_⟩
  obtain ⟨A, c, rfl⟩ := Kd.V_slice hV; have n0_ := Lib.hid (below_step HX.out hb); have hV2 := Kd.V_lower hV (Nat.zero_le _); have HV := Lib.hid (Kd.V_mono (ok' := fun k_ => w.heap.size ≤ k_) hV (fun k_ hk_ => Nat.le_trans HX.out.size hk_)); clear HX hV hV2 hb; have HX := n0_; clear n0_; have hb3 := blk_below HBK.out HX.out; have HS := Lib.hid (set_two (x := .bool false) HGL.out hb3 HX.out HV.out); have z0 := (blk_cell hb3 0).trans rfl; have z1 := (blk_cell hb3 1).trans rfl; have f0 := blk_frozen hb3 0; have f1 := blk_frozen hb3 1; have C2 := Lib.hid (show (w1.setCell ⟨g, 1, none⟩ (.slice A l.length c)).cell? ⟨g, 0, none⟩ = some (.bool false) from (blk_cell (blk_set hb3 1 _) 0).trans rfl)
  refine hK.out _ _ ⟨(HC.out _ HX.out).1, (HC.out _ HX.out).2.1, (HC.out _ HX.out).2.2.1, (HC.out _ HX.out).2.2.2⟩ (fun hHeld => ?_)
  clear hK K
  refine norm_ (a' := ?_) ?_ ?_
  rotate_left
  · show Act.put _ (some 17) _ = _
    simp only [Act.put, List.setIfInBounds_toArray, List.set_cons_zero, List.set_cons_succ, i64_w, i32_w]
    rfl
  refine pure_ (i := 20) (N := some 27) (v := ?_) (a' := ?_) #[true, true, true, true, true, true, true, true, true, true, true, true, true, true, true, true, true, true, true, true, true, false, false, false, false, false] rfl rfl (by kernel_rfl) (fun _ _ _ h => h) (Or.inl ⟨by rfl, ?_⟩) ?_ ?_
  rotate_left
  · intro w'
    go_simp
    with_reducible rfl
  rotate_left
  · simp only [Act.put, List.setIfInBounds_toArray, List.set_cons_zero, List.set_cons_succ, i64_w, i32_w]
    rfl
  refine pure_ (i := 21) (N := some 28) (v := ?_) (a' := ?_) #[true, true, true, true, true, true, true, true, true, true, true, true, true, true, true, true, true, true, true, true, true, true, false, false, false, false] rfl rfl (by kernel_rfl) (fun _ _ _ h => h) (Or.inl ⟨by rfl, ?_⟩) ?_ ?_
  rotate_left
  · intro w'
    go_simp
    with_reducible rfl
  rotate_left
  · simp only [Act.put, List.setIfInBounds_toArray, List.set_cons_zero, List.set_cons_succ, i64_w, i32_w]
    rfl
  refine last_ (i := 22) (N := none) #[true, true, true, true, true, true, true, true, true, true, true, true, true, true, true, true, true, true, true, true, true, true, true, false, false, false] rfl rfl (by kernel_rfl) (by decide) (fun K hK => ?_)
  refine skip_ (w1 := ?_) (by rfl) rfl ?_ ?_
  rotate_left
  · go_simp
    rfl
  refine hK.out _ _ ?_
  clear hK K
  refine pure_ (i := 23) (N := some 29) (v := ?_) (a' := ?_) #[true, true, true, true, true, true, true, true, true, true, true, true, true, true, true, true, true, true, true, true, true, true, true, true, false, false] rfl rfl (by kernel_rfl) (fun _ _ _ h => h) (Or.inl ⟨by rfl, ?_⟩) ?_ ?_
  rotate_left
  · intro w'
    go_simp
    with_reducible rfl
  rotate_left
  · simp only [Act.put, List.setIfInBounds_toArray, List.set_cons_zero, List.set_cons_succ, i64_w, i32_w]
    rfl
  refine pure_ (i := 24) (N := some 30) (v := ?_) (a' := ?_) #[true, true, true, true, true, true, true, true, true, true, true, true, true, true, true, true, true, true, true, true, true, true, true, true, true, false] rfl rfl (by kernel_rfl) (fun _ _ _ h => h) (Or.inl ⟨by rfl, ?_⟩) ?_ ?_
  rotate_left
  · intro w'
    go_simp
    with_reducible rfl
  rotate_left
  · simp only [Act.put, List.setIfInBounds_toArray, List.set_cons_zero, List.set_cons_succ, i64_w, i32_w]
    rfl
  refine last_ (i := 25) (N := none) #[true, true, true, true, true, true, true, true, true, true, true, true, true, true, true, true, true, true, true, true, true, true, true, true, true, true] rfl rfl (by kernel_rfl) (by decide) (fun K hK => ?_)
  have c2_ := C2.out
  refine skip_ (w1 := ?_) (by rfl) rfl ?_ ?_
  rotate_left
  · go_simp
    rfl
  refine hK.out _ _ ?_
  clear hK K
  refine done_ (by kernel_rfl) ?_
  have y1 : ((w1.setCell ⟨g, 1, none⟩ (.slice A l.length c)).setCell ⟨g, 0, none⟩ (.bool false)).cell? ⟨g, 1, none⟩ = some (.slice A l.length c) := (blk_cell (blk_set (blk_set hb3 1 _) 0 _) 1).trans rfl
  have y0 : ((w1.setCell ⟨g, 1, none⟩ (.slice A l.length c)).setCell ⟨g, 0, none⟩ (.bool false)).cell? ⟨g, 0, none⟩ = some (.bool false) := (blk_cell (blk_set (blk_set hb3 1 _) 0 _) 0).trans rfl
  have g0 := blk_frozen (blk_set (blk_set hb3 1 (.slice A l.length c)) 0 (.bool false)) 0
  generalize ((w1.setCell ⟨g, 1, none⟩ (.slice A l.length c)).setCell ⟨g, 0, none⟩ (.bool false)) = W5 at HS y1 y0 g0 ⊢
  clear z0 z1 f0 f1 C2 hb3
  rcases Nat.eq_zero_or_pos l.length with hz | hz
  · have hd : decide ((0 : Int) < (l.length : Int)) = false := decide_eq_false (by omega)
    have hd2 : (0 < l.length) = False := eq_false (by omega)
    clear hz
    go_wp2
    go_ret
    exact HO.out _ (HS.out.false0 HGL.out)
  · have hd : decide ((0 : Int) < (l.length : Int)) = true := decide_eq_true (by omega)
    have hd2 : (0 < l.length) = True := eq_true (by omega)
    clear hz
    go_wp2
    go_ret
    exact HO.out _ (HS.out.false0 HGL.out)
end Go.Proofs.YtojadhcbjcpifaaDoor.Ub
