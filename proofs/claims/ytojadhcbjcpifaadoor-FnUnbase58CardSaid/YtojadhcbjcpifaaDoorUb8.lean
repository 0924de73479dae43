/-
  big.Int: Add.
-/
import Derived.Test.YtojadhcbjcpifaaDoorUb7
namespace Go.Proofs.YtojadhcbjcpifaaDoor.Ub
open Go.RowKit Go.Proofs.YtojadhcbjcpifaaDoorW.PrintWords Go.Proofs.YtojadhcbjcpifaaDoorW.PrintLast Go.Proofs.YtojadhcbjcpifaaDoorW.PrintMore Go.Proofs.YtojadhcbjcpifaaDoor.Reg
set_option linter.unusedSimpArgs false
set_option linter.unusedVariables false

theorem cmp_l (x y : List Int) (hl : x.length = y.length) (hn : x.length ≤ 100000) : ∀ (m k : Nat), m ≤ x.length → m < k → ∃ c, PFnUnbase58.smallbig_nat_cmp.l0 k x y ((m : Int) - 1) = some c
  | m, 0, _, h => absurd h (by omega)
  | 0, k + 1, _, _ => ⟨0, by rw [PFnUnbase58.smallbig_nat_cmp.l0, if_neg (by omega)]⟩
  | m + 1, k + 1, hm, hk => by
    rw [show ((m + 1 : Nat) : Int) - 1 = (m : Int) by push_cast; omega, PFnUnbase58.smallbig_nat_cmp.l0, if_pos (by omega), if_pos (by omega), if_pos (by omega), if_pos (by omega)]
    by_cases h1 : rd x (m : Int) = rd y (m : Int)
    · rw [if_pos h1, wrap64_id (x := (m : Int) - 1) (by omega) (by omega)]
      exact cmp_l x y hl hn m k (by omega) (by omega)
    · rw [if_neg h1]
      split
      · exact ⟨_, rfl⟩
      · exact ⟨_, rfl⟩
theorem cmp_f (x y : List Int) (hn : x.length ≤ 100000) : ∃ c, PFnUnbase58.smallbig_nat_cmp.f (x.length + 1) x y = some c := by
  unfold PFnUnbase58.smallbig_nat_cmp.f
  by_cases h : (x.length : Int) = (y.length : Int)
  · rw [if_pos h, wrap64_id (x := (x.length : Int) - 1) (by omega) (by omega)]
    exact cmp_l x y (by omega) hn x.length _ (Nat.le_refl _) (by omega)
  · rw [if_neg h]
    split
    · exact ⟨_, rfl⟩
    · exact ⟨_, rfl⟩
set_option maxHeartbeats 4000000 in
theorem add_l (x y : List Int) (hx : Dg 4294967296 x) (hy : Dg 4294967296 y) (hxl : x.length ≤ 10000) (hyx : y.length ≤ x.length) : ∀ (m k i : Nat) (z : List Int) (c : Int), m + i = x.length → m + x.length + 2 < k → Dg 4294967296 z → z.length = x.length + 1 → (∀ q, i ≤ q → z.getD q 0 = 0) → (0 ≤ c ∧ c ≤ 1) →
    lv 4294967296 z + c * 4294967296 ^ i = lv 4294967296 (x.take i) + lv 4294967296 (y.take i) →
    ∃ r, add_l0 k x y z c i = some r ∧ Nrm 4294967296 r ∧ lv 4294967296 r = lv 4294967296 x + lv 4294967296 y ∧ r.length ≤ x.length + 1
  | m, 0, _, _, _, _, h, _, _, _, _, _ => absurd h (by omega)
  | 0, k + 1, i, z, c, hm, hk, hz, hl, h0, hc, hv => by
    obtain rfl : i = x.length := by omega
    have hi : x.length < z.length := by omega
    obtain ⟨r, h1, h2, h3, h4⟩ := norm_f k (z.set x.length c) (by simp; omega) (by simp; omega) (hz.set _ (by omega))
    refine ⟨r, ?_, h2, ?_, by simp at h4; omega⟩
    · rw [add_l0, if_neg (by omega), if_pos (by omega), Int.toNat_natCast, Int.emod_eq_of_lt (by omega) (by omega)]
      exact h1
    · rw [h3, lv_set _ _ _ _ hi, h0 _ (Nat.le_refl _), Int.sub_zero, hv, List.take_length, List.take_of_length_le hyx]
  | m + 1, k + 1, i, z, c, hm, hk, hz, hl, h0, hc, hv => by
    have hi : i < x.length := by omega
    have hiz : i < z.length := by omega
    have hxi := hx.at (by decide) i
    have htx := lv_take 4294967296 x i hi
    have hw : wrap64 ((i : Int) + 1) = ((i + 1 : Nat) : Int) := by push_cast; exact wrap64_id (by omega) (by omega)
    have hz0 := h0 i (Nat.le_refl _)
    obtain ⟨P, hP⟩ : ∃ P : Int, 4294967296 ^ i = P := ⟨_, rfl⟩
    rw [hP] at htx hv
    have HV := Lib.hid hv
    have HTX := Lib.hid htx
    have HZ0 := Lib.hid hz0
    have HPP := Lib.hid hP
    clear hv htx hz0 hP
    have go : ∀ t : Int, 0 ≤ t → t < 8589934592 → lv 4294967296 z + t * P = lv 4294967296 (x.take (i + 1)) + lv 4294967296 (y.take (i + 1)) →
        ∃ r, add_l0 k x y (z.set i (t % 4294967296)) (t / 4294967296) ((i + 1 : Nat) : Int) = some r ∧ Nrm 4294967296 r ∧ lv 4294967296 r = lv 4294967296 x + lv 4294967296 y ∧ r.length ≤ x.length + 1 := fun t ht0 ht1 ht => by
      have HT := Lib.hid ht
      clear ht
      refine add_l x y hx hy hxl hyx m k (i + 1) _ _ (by omega) (by omega) (hz.set _ (by omega)) (by simpa using hl) (fun q hq => by rw [getD_set_ne _ _ _ _ (by omega)]; exact h0 q (by omega)) (by omega) ?_
      have ht := HT.out
      rw [lv_set _ _ _ _ hiz, HZ0.out, Int.pow_succ, HPP.out, ← ht]
      have hdm := Int.emod_add_mul_ediv t 4294967296
      grind
    rw [add_l0, if_pos (by omega), if_pos (by omega)]
    by_cases hy2 : i < y.length
    · have hyi := hy.at (by decide) i
      have hty := lv_take 4294967296 y i hy2
      rw [HPP.out] at hty
      have := go (c + x.getD i 0 + y.getD i 0) (by clear hty; omega) (by clear hty; omega) (by rw [HTX.out, hty]; have hv := HV.out; grind)
      clear hty
      rw [if_pos (by omega), if_pos (by omega), rd_nat, rd_nat, u64_id (x := x.getD i 0) (by omega) (by omega), u64_id (x := c + x.getD i 0) (by omega) (by omega), u64_id (x := y.getD i 0) (by omega) (by omega), u64_id (x := c + x.getD i 0 + y.getD i 0) (by omega) (by omega), Int.toNat_natCast, hw]
      exact this
    · have hty : lv 4294967296 (y.take (i + 1)) = lv 4294967296 (y.take i) := by rw [List.take_of_length_le (by omega), List.take_of_length_le (by omega)]
      have := go (c + x.getD i 0) (by clear hty; omega) (by clear hty; omega) (by rw [HTX.out, hty]; have hv := HV.out; grind)
      clear hty
      rw [if_neg (by omega), if_pos (by omega), rd_nat, u64_id (x := x.getD i 0) (by omega) (by omega), u64_id (x := c + x.getD i 0) (by omega) (by omega), Int.toNat_natCast, hw]
      exact this
theorem add_ok (x y : List Int) (hx : Dg 4294967296 x) (hy : Dg 4294967296 y) (hxl : x.length ≤ 10000) (hyx : y.length ≤ x.length) :
    ∃ r, add_f (2 * x.length + 3) x y = some r ∧ Nrm 4294967296 r ∧ lv 4294967296 r = lv 4294967296 x + lv 4294967296 y ∧ r.length ≤ x.length + 1 := by
  unfold add_f
  rw [show wrap64 ((x.length : Int) + 1) = ((x.length + 1 : Nat) : Int) by push_cast; exact wrap64_id (by omega) (by omega), if_pos (by omega), Int.toNat_natCast, if_pos (by omega)]
  exact add_l x y hx hy hxl hyx x.length _ 0 _ 0 (by omega) (by omega) (Dg.rep (by decide) _) (by simp) (fun q _ => by
    rw [List.getD_eq_getElem?_getD, List.getElem?_replicate]; split <;> rfl) ⟨by decide, by decide⟩ (by rw [lv_rep]; simp [lv])
/-- nat.add: the sum's digits. -/
theorem nadd_calls (A0 : Option Addr) (c0 : Nat) (l0 : List Int) (A1 : Option Addr) (c1 : Nat) (l1 : List Int) (hd0 : Dg 4294967296 l0) (hd1 : Dg 4294967296 l1) (hl0 : l0.length ≤ 2000) (hl1 : l1.length ≤ 2000) : ∃ r, Nrm 4294967296 r ∧ lv 4294967296 r = lv 4294967296 l0 + lv 4294967296 l1 ∧ r.length ≤ max l0.length l1.length + 1 ∧
    ∀ (w : World) (hr0 : Kd.C (Kd.int .u32) w A0 l0.length l0) (hc0 : l0.length ≤ c0) (hr1 : Kd.C (Kd.int .u32) w A1 l1.length l1) (hc1 : l1.length ≤ c1),
    Calls Tryd.prog 39 #[.slice A0 l0.length c0, .slice A1 l1.length c1] w fun e w' => ∃ v0_ : Value, e = .returned (v0_) ∧ Kd.V (Kd.int .u32) 66 w' w.heap.size (fun k_ => (w.heap.size ≤ k_)) v0_ r ∧ Below w.heap.size w w' := by
  by_cases h : (l0.length : Int) < (l1.length : Int)
  · obtain ⟨r, h1, h2, h3, h4⟩ := add_ok l1 l0 hd1 hd0 (by omega) (by omega)
    exact ⟨r, h2, h3.trans (Int.add_comm _ _), by omega, fun w hr0 hc0 hr1 hc1 => add_walk1 _ A0 c0 l0 A1 c1 l1 r w hr0 hc0 hr1 hc1 h h1⟩
  · obtain ⟨r, h1, h2, h3, h4⟩ := add_ok l0 l1 hd0 hd1 (by omega) (by omega)
    exact ⟨r, h2, h3, by omega, fun w hr0 hc0 hr1 hc1 => add_walk0 _ A0 c0 l0 A1 c1 l1 r w hr0 hc0 hr1 hc1 h h1⟩
set_option maxHeartbeats 8000000 in
set_option maxRecDepth 100000 in
theorem sum_calls (Q Q' : Nat → Prop) (g : Nat) (A2 : Option Addr) (c2 : Nat) (lx ly : List Int) (w : World) (hx : Big Q w g lx) (hFy : Kd.F (Kd.int .u32) w Q' A2 ly.length ly) (hcy : ly.length ≤ c2) (hdx : Dg 4294967296 lx) (hdy : Dg 4294967296 ly) (hlx : lx.length ≤ 2000) (hly : ly.length ≤ 2000) :
    Calls Tryd.prog 31 #[.pointer (some ⟨g, 0, none⟩), .pointer (some ⟨g, 0, none⟩), .slice A2 ly.length c2, .bool false] w (Set g (lv 4294967296 lx + lv 4294967296 ly) (max lx.length ly.length + 1) w) := by
  have hwl := hx.lt
  obtain ⟨A1, c1, hbx, hcx, hFx⟩ := hx
  obtain ⟨l, hN, hlv, hll, hadd⟩ := nadd_calls A1 c1 lx A2 c2 ly hdx hdy hlx hly
  obtain ⟨cc, hcc⟩ := cmp_f lx ly (by omega)
  have HO := Lib.hid (fun (w' : World) (hx : Big (fun k => w.heap.size ≤ k) w' g l ∧ One g w w') => show Set g (lv 4294967296 lx + lv 4294967296 ly) (max lx.length ly.length + 1) w (.returned (.pointer (some ⟨g, 0, none⟩))) w' from ⟨rfl, ⟨l, hN, hlv, hll, hx.1⟩, hx.2⟩)
  have HC := Lib.hid (show ∀ W, Below w.heap.size w W → W.cell? ⟨g, 1, none⟩ = some (.slice A1 lx.length c1) ∧ W.cell? ⟨g, 0, none⟩ = some (.bool false) from fun W hW =>
    ⟨(blk_cell (blk_below hbx hW) 1).trans rfl, (blk_cell (blk_below hbx hW) 0).trans rfl⟩)
  have HP := Lib.hid (fun W (hW : Below w.heap.size w W) => PFnUnbase58.smallbig_nat_cmp.calls _ A1 c1 lx A2 c2 ly cc W (Kd.F_now (Kd.F_below hFx hW)) hcx (Kd.F_now (Kd.F_below hFy hW)) hcy hcc)
  have HM := Lib.hid (fun W (hW : Below w.heap.size w W) => hadd W (Kd.F_now (Kd.F_below hFx hW)) hcx (Kd.F_now (Kd.F_below hFy hW)) hcy)
  have HBK := Lib.hid hbx
  have HGL := Lib.hid hwl
  obtain ⟨n1, hn1⟩ : ∃ n, lx.length = n := ⟨_, rfl⟩
  obtain ⟨n2, hn2⟩ : ∃ n, ly.length = n := ⟨_, rfl⟩
  rw [hn1] at HM HC HO HP
  rw [hn2] at HM HO HP
  rw [hn1, hn2]
  obtain ⟨V, hV⟩ : ∃ V, lv 4294967296 lx + lv 4294967296 ly = V := ⟨_, rfl⟩
  rw [hV] at HO ⊢
  have HX := Lib.hid (Below.refl w.heap.size w)
  have z0 := (HC.out _ HX.out).2
  have z1 := (HC.out _ HX.out).1
  clear hadd hcc hN hlv hll hwl hbx hcx hFx hcy hFy hdx hdy hlx hly hn1 hn2 hV
  go_enter Tryd.func31, Tryd.ntmps31
  go_wp2_with (go_at_call 38; go_must ((with_reducible refine (HP.out _ HX.out).mono ?_); rintro e w1 ⟨rfl, ⟨m1, rfl⟩⟩; have n0_ := Lib.hid (pw_below_drewN HX.out m1); clear HX; have HX := n0_; clear n0_ z0 z1; have z0 := (HC.out _ HX.out).2; have z1 := (HC.out _ HX.out).1))
  have n0_ := Lib.hid (below_drew HX.out)
  clear HX
  have HX := n0_
  clear n0_ z0 z1
  refine start_ (n := 18) (S := fun w' => w'.cell? ⟨g, 1, none⟩ = some (.slice A1 n1 c1) ∧ w'.cell? ⟨g, 0, none⟩ = some (.bool false)) (ds := [14, 17]) #[false, false, false, false, false, false, false, false, false, false, false, false, false, false, false, false, false, false] (by kernel_rfl) rfl rfl ⟨(HC.out _ HX.out).1, (HC.out _ HX.out).2⟩ (fun hHeld => ?_)
  refine pure_ (i := 0) (N := some 36) (v := ?_) (a' := ?_) #[true, false, false, false, false, false, false, false, false, false, false, false, false, false, false, false, false, false] rfl rfl (by kernel_rfl) (fun _ _ _ h => h) (Or.inl ⟨by rfl, ?_⟩) ?_ ?_
  rotate_left
  · intro w'
    go_simp
    with_reducible rfl
  rotate_left
  · simp only [Act.put, List.setIfInBounds_toArray, List.set_cons_zero, List.set_cons_succ, i64_w, i32_w]
    rfl
  refine pure_ (i := 1) (N := some 37) (v := ?_) (a' := ?_) #[true, true, false, false, false, false, false, false, false, false, false, false, false, false, false, false, false, false] rfl rfl (by kernel_rfl) (fun _ _ _ h => h) (Or.inl ⟨by rfl, ?_⟩) ?_ ?_
  rotate_left
  · intro w'
    go_simp
    with_reducible rfl
  rotate_left
  · simp only [Act.put, List.setIfInBounds_toArray, List.set_cons_zero, List.set_cons_succ, i64_w, i32_w]
    rfl
  refine pure_ (i := 2) (N := some 38) (v := ?_) (a' := ?_) #[true, true, true, false, false, false, false, false, false, false, false, false, false, false, false, false, false, false] rfl rfl (by kernel_rfl) (fun _ _ _ h => h) (Or.inl ⟨by rfl, ?_⟩) ?_ ?_
  rotate_left
  · intro w'
    go_simp
    with_reducible rfl
  rotate_left
  · simp only [Act.put, List.setIfInBounds_toArray, List.set_cons_zero, List.set_cons_succ, i64_w, i32_w]
    rfl
  refine pure_ (i := 3) (N := some 39) (v := ?_) (a' := ?_) #[true, true, true, true, false, false, false, false, false, false, false, false, false, false, false, false, false, false] rfl rfl (by kernel_rfl) (fun _ _ _ h => h) (Or.inl ⟨by rfl, ?_⟩) ?_ ?_
  rotate_left
  · intro w'
    go_simp
    with_reducible rfl
  rotate_left
  · simp only [Act.put, List.setIfInBounds_toArray, List.set_cons_zero, List.set_cons_succ, i64_w, i32_w]
    rfl
  refine pure_ (i := 4) (N := some 40) (v := ?_) (a' := ?_) #[true, true, true, true, true, false, false, false, false, false, false, false, false, false, false, false, false, false] rfl rfl (by kernel_rfl) (fun _ _ _ h => h) (Or.inl ⟨by rfl, ?_⟩) ?_ ?_
  rotate_left
  · intro w'
    go_simp
    with_reducible rfl
  rotate_left
  · simp only [Act.put, List.setIfInBounds_toArray, List.set_cons_zero, List.set_cons_succ, i64_w, i32_w]
    rfl
  refine pure_ (i := 6) (N := some 42) (v := ?_) (a' := ?_) #[true, true, true, true, true, false, true, false, false, false, false, false, false, false, false, false, false, false] rfl rfl (by kernel_rfl) (fun _ _ _ h => h) (Or.inl ⟨by rfl, ?_⟩) ?_ ?_
  rotate_left
  · intro w'
    go_simp
    with_reducible rfl
  rotate_left
  · simp only [Act.put, List.setIfInBounds_toArray, List.set_cons_zero, List.set_cons_succ, i64_w, i32_w]
    rfl
  refine pure_ (i := 8) (N := some 44) (v := ?_) (a' := ?_) #[true, true, true, true, true, false, true, false, true, false, false, false, false, false, false, false, false, false] rfl rfl (by kernel_rfl) (fun _ _ _ h => h) (Or.inl ⟨by rfl, ?_⟩) ?_ ?_
  rotate_left
  · intro w'
    go_simp
    with_reducible rfl
  rotate_left
  · simp only [Act.put, List.setIfInBounds_toArray, List.set_cons_zero, List.set_cons_succ, i64_w, i32_w]
    rfl
  refine pure_ (i := 9) (N := some 45) (v := ?_) (a' := ?_) #[true, true, true, true, true, false, true, false, true, true, false, false, false, false, false, false, false, false] rfl rfl (by kernel_rfl) (fun _ _ _ h => h) (Or.inl ⟨by rfl, ?_⟩) ?_ ?_
  rotate_left
  · intro w'
    go_simp
    with_reducible rfl
  rotate_left
  · simp only [Act.put, List.setIfInBounds_toArray, List.set_cons_zero, List.set_cons_succ, i64_w, i32_w]
    rfl
  refine pure_ (i := 10) (N := some 46) (v := ?_) (a' := ?_) #[true, true, true, true, true, false, true, false, true, true, true, false, false, false, false, false, false, false] rfl rfl (by kernel_rfl) (fun _ _ _ h => h) (Or.inl ⟨by rfl, ?_⟩) ?_ ?_
  rotate_left
  · intro w'
    go_simp
    with_reducible rfl
  rotate_left
  · simp only [Act.put, List.setIfInBounds_toArray, List.set_cons_zero, List.set_cons_succ, i64_w, i32_w]
    rfl
  refine take_ (i := 5) (N := some 41) (v := ?_) (a' := ?_) #[true, true, true, true, true, true, true, false, true, true, true, false, false, false, false, false, false, false] rfl rfl (by kernel_rfl) (fun _ _ _ h => h) (Or.inl ⟨by rfl, ?_⟩) hHeld ?_ ?_
  rotate_left
  · rintro w' ⟨s0, s1⟩
    go_simp
    with_reducible rfl
  rotate_left
  · simp only [Act.put, List.setIfInBounds_toArray, List.set_cons_zero, List.set_cons_succ, i64_w, i32_w]
    rfl
  refine take_ (i := 11) (N := some 47) (v := ?_) (a' := ?_) #[true, true, true, true, true, true, true, false, true, true, true, true, false, false, false, false, false, false] rfl rfl (by kernel_rfl) (fun _ _ _ h => h) (Or.inl ⟨by rfl, ?_⟩) hHeld ?_ ?_
  rotate_left
  · rintro w' ⟨s0, s1⟩
    go_simp
    with_reducible rfl
  rotate_left
  · simp only [Act.put, List.setIfInBounds_toArray, List.set_cons_zero, List.set_cons_succ, i64_w, i32_w]
    rfl
  refine one_ (i := 7) (N := some 43) #[true, true, true, true, true, true, true, true, true, true, true, true, false, false, false, false, false, false] rfl rfl (by kernel_rfl) (by decide) (fun K hK => ?_)
  refine goes_ Tryd.func39 (by kernel_rfl) rfl #[.slice A1 n1 c1, .slice A2 n2 c2] (by rfl) rfl rfl (by simp only [List.map_toArray, List.map_cons, List.map_nil]; rfl) ?_
  with_reducible refine (HM.out _ HX.out).mono ?_
  rintro e w1 ⟨x, rfl, hV, hb⟩
  refine ⟨_, rfl, ?_⟩
  obtain ⟨A, c, rfl⟩ := Kd.V_slice hV; have n0_ := Lib.hid (below_step HX.out hb); have HV := Lib.hid (Kd.V_mono (ok' := fun k_ => w.heap.size ≤ k_) hV (fun k_ hk_ => Nat.le_trans HX.out.size hk_)); clear HX hV hb; have HX := n0_; clear n0_; have hb3 := blk_below HBK.out HX.out; have HS := Lib.hid (set_two (x := .bool false) HGL.out hb3 HX.out HV.out); have z0 := (blk_cell hb3 0).trans rfl; have z1 := (blk_cell hb3 1).trans rfl; have f0 := blk_frozen hb3 0; have f1 := blk_frozen hb3 1; have C2 := Lib.hid (show (w1.setCell ⟨g, 1, none⟩ (.slice A l.length c)).cell? ⟨g, 0, none⟩ = some (.bool false) from (blk_cell (blk_set hb3 1 _) 0).trans rfl)
  refine hK.out _ _ ⟨(HC.out _ HX.out).1, (HC.out _ HX.out).2⟩ (fun hHeld => ?_)
  clear hK K
  refine norm_ (a' := ?_) ?_ ?_
  rotate_left
  · show Act.put _ (some 43) _ = _
    simp only [Act.put, List.setIfInBounds_toArray, List.set_cons_zero, List.set_cons_succ, i64_w, i32_w]
    rfl
  refine pure_ (i := 12) (N := some 48) (v := ?_) (a' := ?_) #[true, true, true, true, true, true, true, true, true, true, true, true, true, false, false, false, false, false] rfl rfl (by kernel_rfl) (fun _ _ _ h => h) (Or.inl ⟨by rfl, ?_⟩) ?_ ?_
  rotate_left
  · intro w'
    go_simp
    with_reducible rfl
  rotate_left
  · simp only [Act.put, List.setIfInBounds_toArray, List.set_cons_zero, List.set_cons_succ, i64_w, i32_w]
    rfl
  refine pure_ (i := 13) (N := some 49) (v := ?_) (a' := ?_) #[true, true, true, true, true, true, true, true, true, true, true, true, true, true, false, false, false, false] rfl rfl (by kernel_rfl) (fun _ _ _ h => h) (Or.inl ⟨by rfl, ?_⟩) ?_ ?_
  rotate_left
  · intro w'
    go_simp
    with_reducible rfl
  rotate_left
  · simp only [Act.put, List.setIfInBounds_toArray, List.set_cons_zero, List.set_cons_succ, i64_w, i32_w]
    rfl
  refine last_ (i := 14) (N := none) #[true, true, true, true, true, true, true, true, true, true, true, true, true, true, true, false, false, false] rfl rfl (by kernel_rfl) (by decide) (fun K hK => ?_)
  refine skip_ (w1 := ?_) (by rfl) rfl ?_ ?_
  rotate_left
  · go_simp
    rfl
  refine hK.out _ _ ?_
  clear hK K
  refine pure_ (i := 15) (N := some 50) (v := ?_) (a' := ?_) #[true, true, true, true, true, true, true, true, true, true, true, true, true, true, true, true, false, false] rfl rfl (by kernel_rfl) (fun _ _ _ h => h) (Or.inl ⟨by rfl, ?_⟩) ?_ ?_
  rotate_left
  · intro w'
    go_simp
    with_reducible rfl
  rotate_left
  · simp only [Act.put, List.setIfInBounds_toArray, List.set_cons_zero, List.set_cons_succ, i64_w, i32_w]
    rfl
  refine pure_ (i := 16) (N := some 51) (v := ?_) (a' := ?_) #[true, true, true, true, true, true, true, true, true, true, true, true, true, true, true, true, true, false] rfl rfl (by kernel_rfl) (fun _ _ _ h => h) (Or.inl ⟨by rfl, ?_⟩) ?_ ?_
  rotate_left
  · intro w'
    go_simp
    with_reducible rfl
  rotate_left
  · simp only [Act.put, List.setIfInBounds_toArray, List.set_cons_zero, List.set_cons_succ, i64_w, i32_w]
    rfl
  refine last_ (i := 17) (N := none) #[true, true, true, true, true, true, true, true, true, true, true, true, true, true, true, true, true, true] rfl rfl (by kernel_rfl) (by decide) (fun K hK => ?_)
  have c2_ := C2.out
  refine skip_ (w1 := ?_) (by rfl) rfl ?_ ?_
  rotate_left
  · go_simp
    rfl
  refine hK.out _ _ ?_
  clear hK K
  refine done_ (by kernel_rfl) ?_
  have y1 : ((w1.setCell ⟨g, 1, none⟩ (.slice A l.length c)).setCell ⟨g, 0, none⟩ (.bool false)).cell? ⟨g, 1, none⟩ = some (.slice A l.length c) := (blk_cell (blk_set (blk_set hb3 1 _) 0 _) 1).trans rfl
  have y0 : ((w1.setCell ⟨g, 1, none⟩ (.slice A l.length c)).setCell ⟨g, 0, none⟩ (.bool false)).cell? ⟨g, 0, none⟩ = some (.bool false) := (blk_cell (blk_set (blk_set hb3 1 _) 0 _) 0).trans rfl
  have g0 := blk_frozen (blk_set (blk_set hb3 1 (.slice A l.length c)) 0 (.bool false)) 0
  generalize ((w1.setCell ⟨g, 1, none⟩ (.slice A l.length c)).setCell ⟨g, 0, none⟩ (.bool false)) = W5 at HS y1 y0 g0 ⊢
  clear z0 z1 f0 f1 C2 hb3
  rcases Nat.eq_zero_or_pos l.length with hz | hz
  · have hd : decide ((0 : Int) < (l.length : Int)) = false := decide_eq_false (by omega)
    have hd2 : (0 < l.length) = False := eq_false (by omega)
    clear hz
    go_wp2
    go_ret
    exact HO.out _ (HS.out.false0 HGL.out)
  · have hd : decide ((0 : Int) < (l.length : Int)) = true := decide_eq_true (by omega)
    have hd2 : (0 < l.length) = True := eq_true (by omega)
    clear hz
    go_wp2
    go_ret
    exact HO.out _ (HS.out.false0 HGL.out)
set_option maxHeartbeats 8000000 in
set_option maxRecDepth 100000 in
theorem iadd_calls (Q Q' : Nat → Prop) (g r : Nat) (lx ly : List Int) (w : World) (hx : Big Q w g lx) (hy : Big Q' w r ly) (hgr : g ≠ r) (hdx : Dg 4294967296 lx) (hdy : Dg 4294967296 ly) (hlx : lx.length ≤ 2000) (hly : ly.length ≤ 2000) :
    Calls Tryd.prog 24 #[.pointer (some ⟨g, 0, none⟩), .pointer (some ⟨g, 0, none⟩), .pointer (some ⟨r, 0, none⟩)] w (Set g (lv 4294967296 lx + lv 4294967296 ly) (max lx.length ly.length + 1) w) := by
  have hwl := hx.lt
  obtain ⟨A2, c2, hby, hcy, hFy⟩ := hy
  have HSUM := Lib.hid (fun (W : World) (hW : Below w.heap.size w W) => sum_calls Q Q' g A2 c2 lx ly W (hx.below hW) (Kd.F_below hFy hW) hcy hdx hdy hlx hly)
  have HC := Lib.hid (show ∀ W, Below w.heap.size w W → W.cell? ⟨r, 1, none⟩ = some (.slice A2 ly.length c2) ∧ W.cell? ⟨r, 0, none⟩ = some (.bool false) from fun W hW =>
    ⟨(blk_cell (blk_below hby hW) 1).trans rfl, (blk_cell (blk_below hby hW) 0).trans rfl⟩)
  have HGL := Lib.hid hwl
  have HC2 := Lib.hid (show ∀ W, One g w W → W.cell? ⟨r, 1, none⟩ = some (.slice A2 ly.length c2) ∧ W.cell? ⟨r, 0, none⟩ = some (.bool false) from fun W hW =>
    ⟨(blk_cell (hW.1.blk hby hgr.symm (by simp)) 1).trans rfl, (blk_cell (hW.1.blk hby hgr.symm (by simp)) 0).trans rfl⟩)
  obtain ⟨n1, hn1⟩ : ∃ n, lx.length = n := ⟨_, rfl⟩
  obtain ⟨n2, hn2⟩ : ∃ n, ly.length = n := ⟨_, rfl⟩
  rw [hn1, hn2] at HSUM
  rw [hn2] at HC HC2
  rw [hn1, hn2]
  obtain ⟨V, hV⟩ : ∃ V, lv 4294967296 lx + lv 4294967296 ly = V := ⟨_, rfl⟩
  rw [hV] at HSUM ⊢
  have HX := Lib.hid (below_drew (Below.refl w.heap.size w))
  clear hgr hwl hx hby hcy hFy hdx hdy hlx hly hn1 hn2 hV
  go_enter Tryd.func24, Tryd.ntmps24
  go_wp2
  refine start_ (n := 12) (S := fun w' => w'.cell? ⟨r, 1, none⟩ = some (.slice A2 n2 c2) ∧ w'.cell? ⟨r, 0, none⟩ = some (.bool false)) (ds := []) #[false, false, false, false, false, false, false, false, false, false, false, false] (by kernel_rfl) rfl rfl ⟨(HC.out _ HX.out).1, (HC.out _ HX.out).2⟩ (fun hHeld => ?_)
  refine pure_ (i := 0) (N := some 7) (v := ?_) (a' := ?_) #[true, false, false, false, false, false, false, false, false, false, false, false] rfl rfl (by kernel_rfl) (fun _ _ _ h => h) (Or.inl ⟨by rfl, ?_⟩) ?_ ?_
  rotate_left
  · intro w'
    go_simp
    with_reducible rfl
  rotate_left
  · simp only [Act.put, List.setIfInBounds_toArray, List.set_cons_zero, List.set_cons_succ, i64_w, i32_w]
    rfl
  refine pure_ (i := 1) (N := some 8) (v := ?_) (a' := ?_) #[true, true, false, false, false, false, false, false, false, false, false, false] rfl rfl (by kernel_rfl) (fun _ _ _ h => h) (Or.inl ⟨by rfl, ?_⟩) ?_ ?_
  rotate_left
  · intro w'
    go_simp
    with_reducible rfl
  rotate_left
  · simp only [Act.put, List.setIfInBounds_toArray, List.set_cons_zero, List.set_cons_succ, i64_w, i32_w]
    rfl
  refine pure_ (i := 2) (N := some 9) (v := ?_) (a' := ?_) #[true, true, true, false, false, false, false, false, false, false, false, false] rfl rfl (by kernel_rfl) (fun _ _ _ h => h) (Or.inl ⟨by rfl, ?_⟩) ?_ ?_
  rotate_left
  · intro w'
    go_simp
    with_reducible rfl
  rotate_left
  · simp only [Act.put, List.setIfInBounds_toArray, List.set_cons_zero, List.set_cons_succ, i64_w, i32_w]
    rfl
  refine pure_ (i := 3) (N := some 10) (v := ?_) (a' := ?_) #[true, true, true, true, false, false, false, false, false, false, false, false] rfl rfl (by kernel_rfl) (fun _ _ _ h => h) (Or.inl ⟨by rfl, ?_⟩) ?_ ?_
  rotate_left
  · intro w'
    go_simp
    with_reducible rfl
  rotate_left
  · simp only [Act.put, List.setIfInBounds_toArray, List.set_cons_zero, List.set_cons_succ, i64_w, i32_w]
    rfl
  refine pure_ (i := 4) (N := some 11) (v := ?_) (a' := ?_) #[true, true, true, true, true, false, false, false, false, false, false, false] rfl rfl (by kernel_rfl) (fun _ _ _ h => h) (Or.inl ⟨by rfl, ?_⟩) ?_ ?_
  rotate_left
  · intro w'
    go_simp
    with_reducible rfl
  rotate_left
  · simp only [Act.put, List.setIfInBounds_toArray, List.set_cons_zero, List.set_cons_succ, i64_w, i32_w]
    rfl
  refine pure_ (i := 6) (N := some 13) (v := ?_) (a' := ?_) #[true, true, true, true, true, false, true, false, false, false, false, false] rfl rfl (by kernel_rfl) (fun _ _ _ h => h) (Or.inl ⟨by rfl, ?_⟩) ?_ ?_
  rotate_left
  · intro w'
    go_simp
    with_reducible rfl
  rotate_left
  · simp only [Act.put, List.setIfInBounds_toArray, List.set_cons_zero, List.set_cons_succ, i64_w, i32_w]
    rfl
  refine pure_ (i := 7) (N := some 14) (v := ?_) (a' := ?_) #[true, true, true, true, true, false, true, true, false, false, false, false] rfl rfl (by kernel_rfl) (fun _ _ _ h => h) (Or.inl ⟨by rfl, ?_⟩) ?_ ?_
  rotate_left
  · intro w'
    go_simp
    with_reducible rfl
  rotate_left
  · simp only [Act.put, List.setIfInBounds_toArray, List.set_cons_zero, List.set_cons_succ, i64_w, i32_w]
    rfl
  refine pure_ (i := 8) (N := some 15) (v := ?_) (a' := ?_) #[true, true, true, true, true, false, true, true, true, false, false, false] rfl rfl (by kernel_rfl) (fun _ _ _ h => h) (Or.inl ⟨by rfl, ?_⟩) ?_ ?_
  rotate_left
  · intro w'
    go_simp
    with_reducible rfl
  rotate_left
  · simp only [Act.put, List.setIfInBounds_toArray, List.set_cons_zero, List.set_cons_succ, i64_w, i32_w]
    rfl
  refine take_ (i := 5) (N := some 12) (v := ?_) (a' := ?_) #[true, true, true, true, true, true, true, true, true, false, false, false] rfl rfl (by kernel_rfl) (fun _ _ _ h => h) (Or.inl ⟨by rfl, ?_⟩) hHeld ?_ ?_
  rotate_left
  · rintro w' ⟨s0, s1⟩
    go_simp
    with_reducible rfl
  rotate_left
  · simp only [Act.put, List.setIfInBounds_toArray, List.set_cons_zero, List.set_cons_succ, i64_w, i32_w]
    rfl
  refine take_ (i := 9) (N := some 16) (v := ?_) (a' := ?_) #[true, true, true, true, true, true, true, true, true, true, false, false] rfl rfl (by kernel_rfl) (fun _ _ _ h => h) (Or.inl ⟨by rfl, ?_⟩) hHeld ?_ ?_
  rotate_left
  · rintro w' ⟨s0, s1⟩
    go_simp
    with_reducible rfl
  rotate_left
  · simp only [Act.put, List.setIfInBounds_toArray, List.set_cons_zero, List.set_cons_succ, i64_w, i32_w]
    rfl
  refine one_ (i := 10) (N := some 17) #[true, true, true, true, true, true, true, true, true, true, true, false] rfl rfl (by kernel_rfl) (by decide) (fun K hK => ?_)
  refine goes_ Tryd.func31 (by kernel_rfl) rfl #[.pointer (some ⟨g, 0, none⟩), .pointer (some ⟨g, 0, none⟩), .slice A2 n2 c2, .bool false] (by rfl) rfl rfl (by simp only [List.map_toArray, List.map_cons, List.map_nil]; rfl) ?_
  with_reducible refine (HSUM.out _ HX.out).mono ?_
  rintro e w1 ⟨rfl, hL, hO⟩
  refine ⟨_, rfl, ?_⟩
  have HL := Lib.hid hL; have HO := Lib.hid (One.of_below HX.out hO HGL.out); have HZ := Lib.hid HX.out.size; clear hL hO
  refine hK.out _ _ ⟨(HC2.out _ HO.out).1, (HC2.out _ HO.out).2⟩ (fun hHeld => ?_)
  clear hK K
  refine norm_ (a' := ?_) ?_ ?_
  rotate_left
  · show Act.put _ (some 17) _ = _
    simp only [Act.put, List.setIfInBounds_toArray, List.set_cons_zero, List.set_cons_succ, i64_w, i32_w]
    rfl
  refine pure_ (i := 11) (N := some 6) (v := ?_) (a' := ?_) #[true, true, true, true, true, true, true, true, true, true, true, true] rfl rfl (by kernel_rfl) (fun _ _ _ h => h) (Or.inl ⟨by rfl, ?_⟩) ?_ ?_
  rotate_left
  · intro w'
    go_simp
    with_reducible rfl
  rotate_left
  · simp only [Act.put, List.setIfInBounds_toArray, List.set_cons_zero, List.set_cons_succ, i64_w, i32_w]
    rfl
  refine done_ (by kernel_rfl) ?_
  go_wp2
  go_ret
  obtain ⟨l, h1, h2, h3, h4⟩ := HL.out
  exact ⟨rfl, ⟨l, h1, h2, h3, h4.mono fun k hk => Nat.le_trans HZ.out hk⟩, HO.out⟩
end Go.Proofs.YtojadhcbjcpifaaDoor.Ub
