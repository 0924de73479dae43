-- PRINTED BY print.sh 35421559b90ae4d0a3588c463048766b98c2df88dd9212a6774a882060cdf62d: not written by this session
import Derived.Test.YtojadhcbjcpifaaDoorPFnUnbase58x0
import Derived.Test.YtojadhcbjcpifaaDoorPFnUnbase58x2
namespace Go.Proofs.YtojadhcbjcpifaaDoor.PFnUnbase58
open Go.RowKit Go.Proofs.YtojadhcbjcpifaaDoorW.PrintWords Go.Proofs.YtojadhcbjcpifaaDoorW.PrintLast Go.Proofs.YtojadhcbjcpifaaDoorW.PrintMore
attribute [local go_sem] max2_int min2_int max_two min_two max_three min_three max_four min_four   -- for this text's walks alone
set_option linter.unusedVariables false
set_option linter.unusedSimpArgs false

/-! ### smallbig_nat_sub: function 40 -/
def smallbig_nat_sub.l0 : Nat → List Int → List Int → List Int → Int → Int → Int → Option (List Int)
  | 0, _, _, _, _, _, _ => none
  | k + 1, x0, x1, x5, x6, x13, x14 => if x14 < x13 then (if 0 ≤ x14 then (if x14 < (x0.length : Int) then (if x14 < (x1.length : Int) then (if x14 < (x5.length : Int) then (smallbig_nat_sub.l0 k x0 x1 (x5.set (x14 : Int).toNat ((IntKind.u64.wrap ((IntKind.u64.wrap ((IntKind.u64.wrap (rd x0 x14)) - x6)) - (IntKind.u64.wrap (rd x1 x14)))) % 4294967296)) ((IntKind.u64.wrap ((IntKind.u64.wrap ((IntKind.u64.wrap (rd x0 x14)) - x6)) - (IntKind.u64.wrap (rd x1 x14)))) / 9223372036854775808) x13 (wrap64 (x14 + 1))) else (none)) else (if x14 < (x5.length : Int) then (smallbig_nat_sub.l0 k x0 x1 (x5.set (x14 : Int).toNat ((IntKind.u64.wrap ((IntKind.u64.wrap (rd x0 x14)) - x6)) % 4294967296)) ((IntKind.u64.wrap ((IntKind.u64.wrap (rd x0 x14)) - x6)) / 9223372036854775808) x13 (wrap64 (x14 + 1))) else (none))) else (none)) else (none)) else ((smallbig_nat_norm.f k x5).bind fun t196 => (some t196))
def smallbig_nat_sub.f (k : Nat) (l0 : List Int) (l1 : List Int) : Option (List Int) := if 0 ≤ (l0.length : Int) then (if ((l0.length : Int) : Int).toNat ≤ 70368744177664 then (smallbig_nat_sub.l0 k l0 l1 (List.replicate ((l0.length : Int) : Int).toNat 0) 0 (l0.length : Int) 0) else (none)) else (none)
theorem smallbig_nat_sub.mono_l : ∀ k, (∀ y0 y1 y2 y3 y4 y5, LeO (smallbig_nat_sub.l0 k y0 y1 y2 y3 y4 y5) (smallbig_nat_sub.l0 (k + 1) y0 y1 y2 y3 y4 y5))
  | 0 => fun _ _ _ _ _ _ r h => by simp [smallbig_nat_sub.l0] at h
  | k + 1 => by
    have ih0 := smallbig_nat_sub.mono_l k
    · intro y0 y1 y2 y3 y4 y5
      unfold smallbig_nat_sub.l0
      repeat' first
      | (with_reducible exact ih0 _ _ _ _ _ _)
      | (with_reducible exact smallbig_nat_norm.mono _ _)
      | (with_reducible exact LeO.refl _)
      | (with_reducible exact LeO.none _)
      | (with_reducible refine LeO.ite ?_ ?_)
      | (with_reducible refine LeO.bind ?_ (fun _ => ?_))
      | exact ih0 _ _ _ _ _ _
      | exact smallbig_nat_norm.mono _ _
      | exact LeO.none _
      | refine LeO.ite ?_ ?_
      | refine LeO.bind ?_ (fun _ => ?_)
theorem smallbig_nat_sub.mono : ∀ a0 a1 k, LeO (smallbig_nat_sub.f k a0 a1) (smallbig_nat_sub.f (k + 1) a0 a1) := by
  intro a0 a1 k
  have ih0 := smallbig_nat_sub.mono_l k
  unfold smallbig_nat_sub.f
  repeat' first
      | (with_reducible exact ih0 _ _ _ _ _ _)
      | (with_reducible exact smallbig_nat_norm.mono _ _)
      | (with_reducible exact LeO.refl _)
      | (with_reducible exact LeO.none _)
      | (with_reducible refine LeO.ite ?_ ?_)
      | (with_reducible refine LeO.bind ?_ (fun _ => ?_))
      | exact ih0 _ _ _ _ _ _
      | exact smallbig_nat_norm.mono _ _
      | exact LeO.none _
      | refine LeO.ite ?_ ?_
      | refine LeO.bind ?_ (fun _ => ?_)
set_option maxHeartbeats 8000000 in
set_option maxRecDepth 100000 in
theorem smallbig_nat_sub.calls (k : Nat) (A0 : Option Addr) (c0 : Nat) (l0 : List Int) (A1 : Option Addr) (c1 : Nat) (l1 : List Int) (r : List Int) (w : World) (hr0 : Kd.C (Kd.int .u32) w A0 l0.length l0) (hc0 : l0.length ≤ c0) (hr1 : Kd.C (Kd.int .u32) w A1 l1.length l1) (hc1 : l1.length ≤ c1) (h : smallbig_nat_sub.f k l0 l1 = some r) :
    Calls Tryd.prog 40 #[.slice A0 l0.length c0, .slice A1 l1.length c1] w fun e w' => ∃ v0_ : Value, e = .returned (v0_) ∧ Kd.V (Kd.int .u32) 66 w' w.heap.size (fun k_ => (w.heap.size ≤ k_)) v0_ r ∧ Below w.heap.size w w' := by
  have HR0 := Aside0.mk hr0
  have HC0 := Aside0.mk hc0
  clear hr0 hc0
  have HR1 := Aside0.mk hr1
  have HC1 := Aside0.mk hc1
  clear hr1 hc1
  have HB := Aside0.mk (Below.refl w.heap.size w)
  have H : (if 0 ≤ (l0.length : Int) then (if ((l0.length : Int) : Int).toNat ≤ 70368744177664 then (smallbig_nat_sub.l0 k l0 l1 (List.replicate ((l0.length : Int) : Int).toNat 0) 0 (l0.length : Int) 0) else (none)) else (none)) = some r := h
  clear h
  by_cases c3 : 0 ≤ (l0.length : Int)
  · rw [if_pos c3] at H
    have c3b0 := eq_true c3
    have c3b1 : decide (0 ≤ (l0.length : Int)) = true := decide_eq_true c3
    clear c3
    by_cases c4 : ((l0.length : Int) : Int).toNat ≤ 70368744177664
    · rw [if_pos c4] at H
      have c4b0 := eq_true c4
      have c4b1 : decide (((l0.length : Int) : Int).toNat ≤ 70368744177664) = true := decide_eq_true c4
      clear c4
      obtain ⟨y189, hy189⟩ : ∃ y_ : List Int, y_ = (List.replicate ((l0.length : Int) : Int).toNat 0) := ⟨_, rfl⟩
      replace H : (smallbig_nat_sub.l0 k l0 l1 y189 0 (l0.length : Int) 0) = some r := by first | (rw [hy189]; with_reducible exact H) | (have H2_ := (Option.bind_some _ _).symm.trans H; rw [hy189]; with_reducible exact H2_) | (have H2_ := (Option.bind_some _ _).symm.trans H; with_reducible exact H2_) | with_reducible exact H | (rw [hy189]; exact H) | exact H
      have Ny189 := Aside0.mk hy189
      clear hy189
      have H' := Aside0.mk H
      clear H
      go_enter Tryd.func40, Tryd.ntmps40
      go_wp2_with (first | ((with_reducible refine gate_dst (N := 11) rfl ?_); refine Kd.R_make (Kd.int .u32) _ 66 rfl (N := 11) rfl 49 _ _ rfl (l0.length : Int) rfl rfl Tryd.underlying49 (.int .u32 0) 4 info66 rfl (by decide) (by omega) 0 (ok := fun _ => True) (okp := fun _ => True) rfl (fun _ hk => hk) trivial (of_decide_eq_true (by first | (with_reducible assumption) | assumption)) (Nat.le_trans (Nat.mul_le_mul_right _ (of_decide_eq_true (by first | (with_reducible assumption) | assumption) : (l0.length : Int).toNat ≤ 70368744177664)) (by omega)) (Below.refl _ _) (Nat.le_refl _) ?_; intro v190 w5 ho6 hb hg_ hnew_; clear hg_ hnew_; (first | rw [← Ny189.out] at ho6 | (simp only [Int.reduceToNat] at ho6; rw [← Ny189.out] at ho6)); have n0_ := Aside0.mk (Kd.R_lower (Kd.R_newM (M := fun k_ => (w.heap.size ≤ k_)) ho6 (below_size (by repeat (first | (with_reducible first | exact HB.out | apply below_alloc | apply pw_below_drewN | apply below_drew1) | exact HB.out))) (fun k_ h_ => h_)) (below_size (by repeat (first | (with_reducible first | exact HB.out | apply below_alloc | apply pw_below_drewN | apply below_drew1) | exact HB.out)))); have n1_ := Aside0.mk (below_step (by repeat (first | (with_reducible first | exact HB.out | apply below_alloc | apply pw_below_drewN | apply below_drew1) | exact HB.out)) hb); clear HB; have HO191 := n0_; have HB := n1_; clear n0_ n1_; clear hb ho6))
      go_loopg [6, 14] k (fun kq v6 v14 w' => ∃ (x5_1 : List Int) (x6_1 : Int) (x14_1 : Int), v6 = .int .u64 x6_1 ∧ v14 = .int .i64 x14_1 ∧ Aside0 (smallbig_nat_sub.l0 kq l0 l1 x5_1 x6_1 (l0.length : Int) x14_1 = some r) ∧ Aside0 (kq ≤ k) ∧ Aside0 (Kd.R (Kd.int .u32) 66 w' w.heap.size (fun k_ => (w.heap.size ≤ k_)) v190 x5_1) ∧ Aside0 (Below w.heap.size w w'))
      case atStart => exact ⟨(y189), (0), (0), (by first | rfl | (simp; done) | (simp [*]; done)), (by first | rfl | (simp; done) | (simp [*]; done)), H', ⟨Nat.le_refl _⟩, ⟨by (with_reducible repeat (first | apply Kd.R_alloc | apply Kd.R_drewN | apply Kd.R_drew)); exact Kd.R_mono HO191.out (fun _ hk => hk.1)⟩, ⟨by repeat (first | (with_reducible first | exact HB.out | apply below_alloc | apply pw_below_drewN | apply below_drew1) | exact HB.out)⟩⟩
      case round =>
        clear H'
        try clear c1
        try clear p2
        try clear c3
        try clear c3b0
        try clear c3b1
        try clear c4
        try clear c4b0
        try clear c4b1
        obtain ⟨x5_1, x6_1, x14_1, rfl, rfl, HA, HK1, HO_5, HB⟩ := hrel
        cases gk with
        | zero => exact absurd HA.out (by simp [smallbig_nat_sub.l0])
        | succ k1 =>
          have H := HA.out
          clear HA
          simp only [smallbig_nat_sub.l0] at H
          by_cases c7 : x14_1 < (l0.length : Int)
          · rw [if_pos c7] at H
            have c7b0 : decide (x14_1 < (l0.length : Int)) = true := decide_eq_true c7
            clear c7
            by_cases c8 : 0 ≤ x14_1
            · rw [if_pos c8] at H
              have c8b0 : decide (0 ≤ x14_1) = true := decide_eq_true c8
              clear c8
              by_cases c9 : x14_1 < (l0.length : Int)
              · rw [if_pos c9] at H
                have c9b0 : decide (x14_1 < (l0.length : Int)) = true := decide_eq_true c9
                clear c9
                by_cases c10 : x14_1 < (l1.length : Int)
                · rw [if_pos c10] at H
                  have c10b0 : decide (x14_1 < (l1.length : Int)) = true := decide_eq_true c10
                  clear c10
                  by_cases c11 : x14_1 < (x5_1.length : Int)
                  · rw [if_pos c11] at H
                    have c11b0 : decide (x14_1 < (x5_1.length : Int)) = true := decide_eq_true c11
                    clear c11
                    obtain ⟨y194, hy194⟩ : ∃ y_ : List Int, y_ = (x5_1.set (x14_1 : Int).toNat ((IntKind.u64.wrap ((IntKind.u64.wrap ((IntKind.u64.wrap (rd l0 x14_1)) - x6_1)) - (IntKind.u64.wrap (rd l1 x14_1)))) % 4294967296)) := ⟨_, rfl⟩
                    replace H : (smallbig_nat_sub.l0 k1 l0 l1 y194 ((IntKind.u64.wrap ((IntKind.u64.wrap ((IntKind.u64.wrap (rd l0 x14_1)) - x6_1)) - (IntKind.u64.wrap (rd l1 x14_1)))) / 9223372036854775808) (l0.length : Int) (wrap64 (x14_1 + 1))) = some r := by first | (rw [hy194]; with_reducible exact H) | (have H2_ := (Option.bind_some _ _).symm.trans H; rw [hy194]; with_reducible exact H2_) | (have H2_ := (Option.bind_some _ _).symm.trans H; with_reducible exact H2_) | with_reducible exact H | (rw [hy194]; exact H) | exact H
                    have Ny194 := Aside0.mk hy194
                    clear hy194
                    have H' := Aside0.mk H
                    clear H
                    have p192 : 0 ≤ (x14_1 : Int) := of_decide_eq_true (by first | (with_reducible assumption) | assumption)
                    have q192 : x14_1 < (l0.length : Int) := of_decide_eq_true (by first | (with_reducible assumption) | assumption)
                    obtain ⟨ad192, e192, hx192_0⟩ := Kd.at_int HR0.out x14_1 p192 q192
                    cases e192
                    replace hx192_0 := (HB.out.cell (World.block_lt_of_cell? w _ hx192_0)).trans hx192_0
                    replace p192 := eq_true p192
                    replace q192 := eq_true q192
                    have p193 : 0 ≤ (x14_1 : Int) := of_decide_eq_true (by first | (with_reducible assumption) | assumption)
                    have q193 : x14_1 < (l1.length : Int) := of_decide_eq_true (by first | (with_reducible assumption) | assumption)
                    obtain ⟨ad193, e193, hx193_0⟩ := Kd.at_int HR1.out x14_1 p193 q193
                    cases e193
                    replace hx193_0 := (HB.out.cell (World.block_lt_of_cell? w _ hx193_0)).trans hx193_0
                    replace p193 := eq_true p193
                    replace q193 := eq_true q193
                    have p12 : 0 ≤ (x14_1 : Int) := of_decide_eq_true (by first | (with_reducible assumption) | assumption)
                    have q12 : (x14_1 : Int) < ((x5_1.length : Int) : Int) := of_decide_eq_true (by first | (with_reducible assumption) | assumption)
                    obtain ⟨go12, co12, eo12, gb12, gl12, cl12, HG12⟩ := Kd.R_form HO_5.out (by omega)
                    (first | cases eo12 | (injection eo12 with ea_ en_ ec_; (first | subst ea_ | (injection ea_ with ea_; subst ea_)); subst ec_; clear en_))
                    have GB12 := Aside0.mk gb12
                    have GG12 := Aside0.mk HG12
                    clear gb12 gl12 HG12
                    obtain ⟨hx12_0, hf12_0⟩ := Kd.R_celln 0 HO_5.out (x14_1 : Int) p12 q12
                    replace p12 := eq_true p12
                    replace q12 := eq_true q12
                    have HP13 := Kd.R_putg HO_5.out (x14_1 : Int) ((IntKind.u64.wrap ((IntKind.u64.wrap ((IntKind.u64.wrap (rd l0 x14_1)) - x6_1)) - (IntKind.u64.wrap (rd l1 x14_1)))) % 4294967296)
                    go_wp2_with (first | ((with_reducible refine gate_store (t := 66) (p := 39) rfl ?_); refine store_event (t := 66) (p := 39) (v := ?vo_w14) (w1 := (wr.setCell ⟨go12, (x14_1 : Int).toNat, none⟩ (.int .u32 ((IntKind.u64.wrap ((IntKind.u64.wrap ((IntKind.u64.wrap (rd l0 x14_1)) - x6_1)) - (IntKind.u64.wrap (rd l1 x14_1)))) % 4294967296)))) ?hg ?ho ?hn ?hr ?_; (case ho => rfl); (case hg => rfl); (case hn => rfl); (case hr => first | (go_simp; done) | (go_simp; rfl)); intro w14 hw; have hg : wr.grownBy w14 (some go12) := (by rw [hw]; exact HP13.2); have hp_ : Kd.R (Kd.int .u32) 66 w14 w.heap.size (fun k_ => (w.heap.size ≤ k_)) (.slice (some ⟨go12, 0, none⟩) x5_1.length co12) y194 := (by rw [hw, Ny194.out]; exact HP13.1); clear HP13; have n0_ := Aside0.mk (hp_); have n1_ := Aside0.mk ((by rw [hw]; exact below_set (HB.out) GB12.out : Below w.heap.size w w14)); clear HO_5; clear HB; have HO_5 := n0_; have HB := n1_; clear n0_ n1_; clear hg hw hp_))
                    go_roundg k1
                    case measure => have := HK1.out; omega
                    case rel => exact ⟨(y194), ((IntKind.u64.wrap ((IntKind.u64.wrap ((IntKind.u64.wrap (rd l0 x14_1)) - x6_1)) - (IntKind.u64.wrap (rd l1 x14_1)))) / 9223372036854775808), (wrap64 (x14_1 + 1)), (by first | rfl | (simp; done) | (simp [*]; done)), (by first | rfl | (simp; done) | (simp [*]; done)), H', ⟨by have := HK1.out; omega⟩, ⟨by (with_reducible repeat (first | apply Kd.R_alloc | apply Kd.R_drewN | apply Kd.R_drew)); exact HO_5.out⟩, ⟨by repeat (first | (with_reducible first | exact HB.out | apply below_alloc | apply pw_below_drewN | apply below_drew1) | exact HB.out)⟩⟩
                  · rw [if_neg c11] at H
                    exact absurd H (by simp)
                · rw [if_neg c10] at H
                  have c10b0 : decide (x14_1 < (l1.length : Int)) = false := decide_eq_false c10
                  clear c10
                  by_cases c15 : x14_1 < (x5_1.length : Int)
                  · rw [if_pos c15] at H
                    have c15b0 : decide (x14_1 < (x5_1.length : Int)) = true := decide_eq_true c15
                    clear c15
                    obtain ⟨y195, hy195⟩ : ∃ y_ : List Int, y_ = (x5_1.set (x14_1 : Int).toNat ((IntKind.u64.wrap ((IntKind.u64.wrap (rd l0 x14_1)) - x6_1)) % 4294967296)) := ⟨_, rfl⟩
                    replace H : (smallbig_nat_sub.l0 k1 l0 l1 y195 ((IntKind.u64.wrap ((IntKind.u64.wrap (rd l0 x14_1)) - x6_1)) / 9223372036854775808) (l0.length : Int) (wrap64 (x14_1 + 1))) = some r := by first | (rw [hy195]; with_reducible exact H) | (have H2_ := (Option.bind_some _ _).symm.trans H; rw [hy195]; with_reducible exact H2_) | (have H2_ := (Option.bind_some _ _).symm.trans H; with_reducible exact H2_) | with_reducible exact H | (rw [hy195]; exact H) | exact H
                    have Ny195 := Aside0.mk hy195
                    clear hy195
                    have H' := Aside0.mk H
                    clear H
                    have p192 : 0 ≤ (x14_1 : Int) := of_decide_eq_true (by first | (with_reducible assumption) | assumption)
                    have q192 : x14_1 < (l0.length : Int) := of_decide_eq_true (by first | (with_reducible assumption) | assumption)
                    obtain ⟨ad192, e192, hx192_0⟩ := Kd.at_int HR0.out x14_1 p192 q192
                    cases e192
                    replace hx192_0 := (HB.out.cell (World.block_lt_of_cell? w _ hx192_0)).trans hx192_0
                    replace p192 := eq_true p192
                    replace q192 := eq_true q192
                    have p16 : 0 ≤ (x14_1 : Int) := of_decide_eq_true (by first | (with_reducible assumption) | assumption)
                    have q16 : (x14_1 : Int) < ((x5_1.length : Int) : Int) := of_decide_eq_true (by first | (with_reducible assumption) | assumption)
                    obtain ⟨go16, co16, eo16, gb16, gl16, cl16, HG16⟩ := Kd.R_form HO_5.out (by omega)
                    (first | cases eo16 | (injection eo16 with ea_ en_ ec_; (first | subst ea_ | (injection ea_ with ea_; subst ea_)); subst ec_; clear en_))
                    have GB16 := Aside0.mk gb16
                    have GG16 := Aside0.mk HG16
                    clear gb16 gl16 HG16
                    obtain ⟨hx16_0, hf16_0⟩ := Kd.R_celln 0 HO_5.out (x14_1 : Int) p16 q16
                    replace p16 := eq_true p16
                    replace q16 := eq_true q16
                    have HP17 := Kd.R_putg HO_5.out (x14_1 : Int) ((IntKind.u64.wrap ((IntKind.u64.wrap (rd l0 x14_1)) - x6_1)) % 4294967296)
                    go_wp2_with (first | ((with_reducible refine gate_store (t := 66) (p := 39) rfl ?_); refine store_event (t := 66) (p := 39) (v := ?vo_w18) (w1 := (wr.setCell ⟨go16, (x14_1 : Int).toNat, none⟩ (.int .u32 ((IntKind.u64.wrap ((IntKind.u64.wrap (rd l0 x14_1)) - x6_1)) % 4294967296)))) ?hg ?ho ?hn ?hr ?_; (case ho => rfl); (case hg => rfl); (case hn => rfl); (case hr => first | (go_simp; done) | (go_simp; rfl)); intro w18 hw; have hg : wr.grownBy w18 (some go16) := (by rw [hw]; exact HP17.2); have hp_ : Kd.R (Kd.int .u32) 66 w18 w.heap.size (fun k_ => (w.heap.size ≤ k_)) (.slice (some ⟨go16, 0, none⟩) x5_1.length co16) y195 := (by rw [hw, Ny195.out]; exact HP17.1); clear HP17; have n0_ := Aside0.mk (hp_); have n1_ := Aside0.mk ((by rw [hw]; exact below_set (HB.out) GB16.out : Below w.heap.size w w18)); clear HO_5; clear HB; have HO_5 := n0_; have HB := n1_; clear n0_ n1_; clear hg hw hp_))
                    go_roundg k1
                    case measure => have := HK1.out; omega
                    case rel => exact ⟨(y195), ((IntKind.u64.wrap ((IntKind.u64.wrap (rd l0 x14_1)) - x6_1)) / 9223372036854775808), (wrap64 (x14_1 + 1)), (by first | rfl | (simp; done) | (simp [*]; done)), (by first | rfl | (simp; done) | (simp [*]; done)), H', ⟨by have := HK1.out; omega⟩, ⟨by (with_reducible repeat (first | apply Kd.R_alloc | apply Kd.R_drewN | apply Kd.R_drew)); exact HO_5.out⟩, ⟨by repeat (first | (with_reducible first | exact HB.out | apply below_alloc | apply pw_below_drewN | apply below_drew1) | exact HB.out)⟩⟩
                  · rw [if_neg c15] at H
                    exact absurd H (by simp)
              · rw [if_neg c9] at H
                exact absurd H (by simp)
            · rw [if_neg c8] at H
              exact absurd H (by simp)
          · rw [if_neg c7] at H
            have c7b0 : decide (x14_1 < (l0.length : Int)) = false := decide_eq_false c7
            clear c7
            replace H := Option.bind_eq_some_iff.mp H
            obtain ⟨t196, A190, H⟩ := H
            replace H : (some t196) = some r := H
            have A19 := Aside0.mk A190
            clear A190
            obtain rfl := Option.some.inj H
            obtain ⟨Ao20, co20, eo20⟩ := Kd.R_slice HO_5.out
            subst eo20
            go_wp2_with (first | ((with_reducible refine gate_callee (f := 37) rfl ?_); refine goesL_ (some 44) rfl rfl Tryd.func37 (by kernel_rfl) rfl #[.slice Ao20 x5_1.length co20] rfl (by (try simp only [List.map_toArray, List.map_cons, List.map_nil]); first | done | rfl | (simp only [List.length_drop, List.length_take]; rfl)) ?_; (with_reducible refine (smallbig_nat_norm.calls k1 (fun k_ => some k_ = (.slice Ao20 x5_1.length co20 : Value).ownBlock) _ _ x5_1 t196 _ ?side1 A19.out).mono ?_); (case side1 => exact Kd.R_V (Kd.R_tight rfl (HO_5.out))); rintro e w21 ⟨v197, rfl, ho0, hb⟩; refine ⟨_, rfl, ?_⟩; have n0_ := Aside0.mk (Kd.R_below (by (with_reducible repeat (first | apply Kd.R_alloc | apply Kd.R_drewN | apply Kd.R_drew)); exact HO_5.out) hb); have n1_ := Aside0.mk (Kd.V_lower (Kd.V_mono (ok' := fun k_ => (w.heap.size ≤ k_)) ho0 (fun k_ hk_ => Or.elim hk_ (fun hs_ => ((HO_5.out).1 k_ hs_.symm)) (fun hn_ => (Nat.le_trans (below_size (by repeat (first | (with_reducible first | exact HB.out | apply below_alloc | apply pw_below_drewN | apply below_drew1) | exact HB.out))) hn_)))) (below_size (by repeat (first | (with_reducible first | exact HB.out | apply below_alloc | apply pw_below_drewN | apply below_drew1) | exact HB.out)))); have n2_ := Aside0.mk (below_step (by repeat (first | (with_reducible first | exact HB.out | apply below_alloc | apply pw_below_drewN | apply below_drew1) | exact HB.out)) hb); clear HO_5; clear HB; have HO_5 := n0_; have HO198 := n1_; have HB := n2_; clear n0_ n1_ n2_; (try clear hb); (try clear hb2); (try clear hk); (try clear hi); (try clear ho0)))
            go_ret
            exact ⟨_, by first | rfl | (simp [errW_none, errW_some] <;> rfl) | (simp [*, errW_none, errW_some] <;> rfl), by (with_reducible repeat (first | apply Kd.V_alloc | apply Kd.V_drewN | apply Kd.V_drew)); exact HO198.out, by repeat (first | (with_reducible first | exact HB.out | apply below_alloc | apply pw_below_drewN | apply below_drew1) | exact HB.out)⟩
    · rw [if_neg c4] at H
      exact absurd H (by simp)
  · rw [if_neg c3] at H
    exact absurd H (by simp)

-- NOT PRINTED: function 31 (smallbig_Int_sum)

-- NOT PRINTED: function 24 (smallbig_Int_Add)

/-! ### smallbig_nat_bitLen: function 33 -/
def smallbig_nat_bitLen.l0 : Nat → Int → Int → Option (Int)
  | 0, _, _ => none
  | k + 1, x3, x4 => if x4 = 0 then (some x3) else (smallbig_nat_bitLen.l0 k (wrap64 (x3 + 1)) (x4 / 2))
def smallbig_nat_bitLen.f (k : Nat) (l0 : List Int) : Option (Int) := if (l0.length : Int) = 0 then (some 0) else (if 0 ≤ (wrap64 ((l0.length : Int) - 1)) then (if (wrap64 ((l0.length : Int) - 1)) < (l0.length : Int) then (smallbig_nat_bitLen.l0 k (wrap64 (32 * (wrap64 ((l0.length : Int) - 1)))) (rd l0 (wrap64 ((l0.length : Int) - 1)))) else (none)) else (none))
theorem smallbig_nat_bitLen.mono_l : ∀ k, (∀ y0 y1, LeO (smallbig_nat_bitLen.l0 k y0 y1) (smallbig_nat_bitLen.l0 (k + 1) y0 y1))
  | 0 => fun _ _ r h => by simp [smallbig_nat_bitLen.l0] at h
  | k + 1 => by
    have ih0 := smallbig_nat_bitLen.mono_l k
    · intro y0 y1
      unfold smallbig_nat_bitLen.l0
      repeat' first
      | (with_reducible exact ih0 _ _)
      | (with_reducible exact LeO.refl _)
      | (with_reducible exact LeO.none _)
      | (with_reducible refine LeO.ite ?_ ?_)
      | (with_reducible refine LeO.bind ?_ (fun _ => ?_))
      | exact ih0 _ _
      | exact LeO.none _
      | refine LeO.ite ?_ ?_
      | refine LeO.bind ?_ (fun _ => ?_)
theorem smallbig_nat_bitLen.mono : ∀ a0 k, LeO (smallbig_nat_bitLen.f k a0) (smallbig_nat_bitLen.f (k + 1) a0) := by
  intro a0 k
  have ih0 := smallbig_nat_bitLen.mono_l k
  unfold smallbig_nat_bitLen.f
  repeat' first
      | (with_reducible exact ih0 _ _)
      | (with_reducible exact LeO.refl _)
      | (with_reducible exact LeO.none _)
      | (with_reducible refine LeO.ite ?_ ?_)
      | (with_reducible refine LeO.bind ?_ (fun _ => ?_))
      | exact ih0 _ _
      | exact LeO.none _
      | refine LeO.ite ?_ ?_
      | refine LeO.bind ?_ (fun _ => ?_)
set_option maxHeartbeats 8000000 in
set_option maxRecDepth 100000 in
theorem smallbig_nat_bitLen.calls (k : Nat) (A0 : Option Addr) (c0 : Nat) (l0 : List Int) (r : Int) (w : World) (hr0 : Kd.C (Kd.int .u32) w A0 l0.length l0) (hc0 : l0.length ≤ c0) (h : smallbig_nat_bitLen.f k l0 = some r) :
    Calls Tryd.prog 33 #[.slice A0 l0.length c0] w fun e w' => e = .returned (.int .i64 r) ∧ Drawn0 w w' := by
  have HR0 := Aside0.mk hr0
  have HC0 := Aside0.mk hc0
  clear hr0 hc0
  have H : (if (l0.length : Int) = 0 then (some 0) else (if 0 ≤ (wrap64 ((l0.length : Int) - 1)) then (if (wrap64 ((l0.length : Int) - 1)) < (l0.length : Int) then (smallbig_nat_bitLen.l0 k (wrap64 (32 * (wrap64 ((l0.length : Int) - 1)))) (rd l0 (wrap64 ((l0.length : Int) - 1)))) else (none)) else (none))) = some r := h
  clear h
  by_cases c2 : (l0.length : Int) = 0
  · rw [if_pos c2] at H
    have c2b0 : ((l0.length : Int) == 0) = true := beq_iff_eq.mpr c2
    have c2b1 : ((l0.length : Int) != 0) = false := bne_eq_false_iff_eq.mpr c2
    clear c2
    obtain rfl := Option.some.inj H
    go_enter Tryd.func33, Tryd.ntmps33
    go_wp2
    go_ret
    exact ⟨by first | rfl | (simp; done) | (simp [*]; done), by repeat (first | exact Drawn0.refl _ | apply Drawn0.step)⟩
  · rw [if_neg c2] at H
    have c2b0 : ((l0.length : Int) == 0) = false := beq_eq_false_iff_ne.mpr c2
    have c2b1 : ((l0.length : Int) != 0) = true := bne_iff_ne.mpr c2
    have c2b2 : ¬ (l0 = []) := fun h_ => c2 (by rw [h_]; rfl)
    obtain ⟨ji3, hji3⟩ : ∃ j_ : Int, (wrap64 ((l0.length : Int) - 1)) = j_ := ⟨_, rfl⟩
    replace H : (if 0 ≤ (ji3) then (if (ji3) < (l0.length : Int) then (smallbig_nat_bitLen.l0 k (wrap64 (32 * (ji3))) (rd l0 (ji3))) else (none)) else (none)) = some r := by first | (rw [hji3] at H; exact H) | (simp only [hji3] at H ⊢; exact H)
    have hji3w : (IntKind.i64.wrap ((l0.length : Int) - 1)) = ji3 := (i64_w _).trans hji3
    by_cases c4 : 0 ≤ (ji3)
    · rw [if_pos c4] at H
      have c4b0 : decide (0 ≤ (ji3)) = true := decide_eq_true c4
      clear c4
      by_cases c5 : (ji3) < (l0.length : Int)
      · rw [if_pos c5] at H
        have c5b0 : decide ((ji3) < (l0.length : Int)) = true := decide_eq_true c5
        clear c5
        have H' := Aside0.mk H
        clear H
        have p199 : 0 ≤ ((ji3) : Int) := of_decide_eq_true (by first | (with_reducible assumption) | assumption)
        have q199 : (ji3) < (l0.length : Int) := of_decide_eq_true (by first | (with_reducible assumption) | assumption)
        obtain ⟨ad199, e199, hx199_0⟩ := Kd.at_int HR0.out (ji3) p199 q199
        cases e199
        replace p199 := eq_true p199
        replace q199 := eq_true q199
        go_enter Tryd.func33, Tryd.ntmps33
        go_wp2
        go_loopg [3, 4] k (fun kq v3 v4 w' => ∃ (x3_1 : Int) (x4_1 : Int), v3 = .int .i64 x3_1 ∧ v4 = .int .u32 x4_1 ∧ Aside0 (smallbig_nat_bitLen.l0 kq x3_1 x4_1 = some r) ∧ Aside0 (kq ≤ k) ∧ Drawn0 w w')
        case atStart => exact ⟨(wrap64 (32 * (ji3))), (rd l0 (ji3)), (by first | rfl | (simp; done) | (simp only [← hji3] <;> (first | rfl | simp)) | (simp [*]; done)), (by first | rfl | (simp; done) | (simp only [← hji3] <;> (first | rfl | simp)) | (simp [*]; done)), H', ⟨Nat.le_refl _⟩, by repeat (first | exact Drawn0.refl _ | apply Drawn0.step)⟩
        case round =>
          clear H'
          try clear p1
          try clear q1
          try clear hx1
          try clear c2
          try clear c2b0
          try clear c2b1
          try clear c2b2
          try clear p2
          try clear c3
          try clear c4
          try clear c4b0
          try clear c5
          try clear c5b0
          try clear hx199_0
          try clear p199
          try clear q199
          obtain ⟨x3_1, x4_1, rfl, rfl, HA, HK1, ⟨m1, rfl⟩⟩ := hrel
          cases gk with
          | zero => exact absurd HA.out (by simp [smallbig_nat_bitLen.l0])
          | succ k1 =>
            have H := HA.out
            clear HA
            simp only [smallbig_nat_bitLen.l0] at H
            by_cases c6 : x4_1 = 0
            · rw [if_pos c6] at H
              have c6b0 : (x4_1 == 0) = true := beq_iff_eq.mpr c6
              have c6b1 : (x4_1 != 0) = false := bne_eq_false_iff_eq.mpr c6
              clear c6
              obtain rfl := Option.some.inj H
              go_wp2
              go_ret
              exact ⟨by first | rfl | (simp; done) | (simp only [← hji3] <;> (first | rfl | simp)) | (simp [*]; done), by repeat (first | exact Drawn0.refl _ | apply Drawn0.step)⟩
            · rw [if_neg c6] at H
              have c6b0 : (x4_1 == 0) = false := beq_eq_false_iff_ne.mpr c6
              have c6b1 : (x4_1 != 0) = true := bne_iff_ne.mpr c6
              have H' := Aside0.mk H
              clear H
              go_wp2
              go_roundg k1
              case measure => have := HK1.out; omega
              case rel => exact ⟨(wrap64 (x3_1 + 1)), (x4_1 / 2), (by first | rfl | (simp; done) | (simp [*]; done)), (by first | rfl | (simp; done) | (simp [*]; done)), H', ⟨by have := HK1.out; omega⟩, by repeat (first | exact Drawn0.refl _ | apply Drawn0.step)⟩
      · rw [if_neg c5] at H
        exact absurd H (by simp)
    · rw [if_neg c4] at H
      exact absurd H (by simp)

-- NOT PRINTED: function 32 (smallbig_Int_FillBytes)

-- NOT PRINTED: function 25 (smallbig_Int_Bytes)

-- NOT PRINTED: function 15 (base58_Decode)

-- NOT PRINTED: function 6 (impl_Unbase58)

/-! ### laws_same: function 7 -/
def laws_same.l0 : Nat → List Int → List Int → Int → Option (Bool)
  | 0, _, _, _ => none
  | k + 1, x0, x1, x5 => if x5 < (x0.length : Int) then (if 0 ≤ x5 then (if x5 < (x1.length : Int) then (if (rd x0 x5) = (rd x1 x5) then (laws_same.l0 k x0 x1 (wrap64 (x5 + 1))) else (some false)) else (none)) else (none)) else (some true)
def laws_same.f (k : Nat) (l0 : List Int) (l1 : List Int) : Option (Bool) := if (l0.length : Int) = (l1.length : Int) then (laws_same.l0 k l0 l1 0) else (some false)
theorem laws_same.mono_l : ∀ k, (∀ y0 y1 y2, LeO (laws_same.l0 k y0 y1 y2) (laws_same.l0 (k + 1) y0 y1 y2))
  | 0 => fun _ _ _ r h => by simp [laws_same.l0] at h
  | k + 1 => by
    have ih0 := laws_same.mono_l k
    · intro y0 y1 y2
      unfold laws_same.l0
      repeat' first
      | (with_reducible exact ih0 _ _ _)
      | (with_reducible exact LeO.refl _)
      | (with_reducible exact LeO.none _)
      | (with_reducible refine LeO.ite ?_ ?_)
      | (with_reducible refine LeO.bind ?_ (fun _ => ?_))
      | exact ih0 _ _ _
      | exact LeO.none _
      | refine LeO.ite ?_ ?_
      | refine LeO.bind ?_ (fun _ => ?_)
theorem laws_same.mono : ∀ a0 a1 k, LeO (laws_same.f k a0 a1) (laws_same.f (k + 1) a0 a1) := by
  intro a0 a1 k
  have ih0 := laws_same.mono_l k
  unfold laws_same.f
  repeat' first
      | (with_reducible exact ih0 _ _ _)
      | (with_reducible exact LeO.refl _)
      | (with_reducible exact LeO.none _)
      | (with_reducible refine LeO.ite ?_ ?_)
      | (with_reducible refine LeO.bind ?_ (fun _ => ?_))
      | exact ih0 _ _ _
      | exact LeO.none _
      | refine LeO.ite ?_ ?_
      | refine LeO.bind ?_ (fun _ => ?_)
set_option maxHeartbeats 8000000 in
set_option maxRecDepth 100000 in
theorem laws_same.calls (k : Nat) (A0 : Option Addr) (c0 : Nat) (l0 : List Int) (A1 : Option Addr) (c1 : Nat) (l1 : List Int) (r : Bool) (w : World) (hr0 : Kd.C (Kd.int .u8) w A0 l0.length l0) (hc0 : l0.length ≤ c0) (hr1 : Kd.C (Kd.int .u8) w A1 l1.length l1) (hc1 : l1.length ≤ c1) (h : laws_same.f k l0 l1 = some r) :
    Calls Tryd.prog 7 #[.slice A0 l0.length c0, .slice A1 l1.length c1] w fun e w' => e = .returned (.bool r) ∧ Drawn0 w w' := by
  have HR0 := Aside0.mk hr0
  have HC0 := Aside0.mk hc0
  clear hr0 hc0
  have HR1 := Aside0.mk hr1
  have HC1 := Aside0.mk hc1
  clear hr1 hc1
  have H : (if (l0.length : Int) = (l1.length : Int) then (laws_same.l0 k l0 l1 0) else (some false)) = some r := h
  clear h
  by_cases c3 : (l0.length : Int) = (l1.length : Int)
  · rw [if_pos c3] at H
    have c3b0 : ((l0.length : Int) == (l1.length : Int)) = true := beq_iff_eq.mpr c3
    have c3b1 : ((l0.length : Int) != (l1.length : Int)) = false := bne_eq_false_iff_eq.mpr c3
    have c3b2 : (l0.length == l1.length) = true := by first | simpa using c3 | (simp at c3 ⊢; omega)
    clear c3
    have H' := Aside0.mk H
    clear H
    go_enter Tryd.func7, Tryd.ntmps7
    go_wp2
    repeat (go_quiet (fail); try go_wp2)
    go_loopg [5] k (fun kq v5 w' => ∃ (x5_1 : Int), v5 = .int .i64 x5_1 ∧ Aside0 (laws_same.l0 kq l0 l1 x5_1 = some r) ∧ Aside0 (kq ≤ k) ∧ Drawn0 w w')
    case atStart => exact ⟨(0), (by first | rfl | (simp; done) | (simp [*]; done)), H', ⟨Nat.le_refl _⟩, by repeat (first | exact Drawn0.refl _ | apply Drawn0.step)⟩
    case round =>
      clear H'
      try clear c1
      try clear p2
      try clear c3
      try clear c3b0
      try clear c3b1
      try clear c3b2
      obtain ⟨x5_1, rfl, HA, HK1, ⟨m1, rfl⟩⟩ := hrel
      cases gk with
      | zero => exact absurd HA.out (by simp [laws_same.l0])
      | succ k1 =>
        have H := HA.out
        clear HA
        simp only [laws_same.l0] at H
        by_cases c4 : x5_1 < (l0.length : Int)
        · rw [if_pos c4] at H
          have c4b0 : decide (x5_1 < (l0.length : Int)) = true := decide_eq_true c4
          clear c4
          by_cases c5 : 0 ≤ x5_1
          · rw [if_pos c5] at H
            have c5b0 : decide (0 ≤ x5_1) = true := decide_eq_true c5
            clear c5
            by_cases c6 : x5_1 < (l1.length : Int)
            · rw [if_pos c6] at H
              have c6b0 : decide (x5_1 < (l1.length : Int)) = true := decide_eq_true c6
              clear c6
              by_cases c7 : (rd l0 x5_1) = (rd l1 x5_1)
              · rw [if_pos c7] at H
                have c7b0 : ((rd l0 x5_1) == (rd l1 x5_1)) = true := beq_iff_eq.mpr c7
                have c7b1 : ((rd l0 x5_1) != (rd l1 x5_1)) = false := bne_eq_false_iff_eq.mpr c7
                clear c7
                have H' := Aside0.mk H
                clear H
                have p205 : 0 ≤ (x5_1 : Int) := of_decide_eq_true (by first | (with_reducible assumption) | assumption)
                have q205 : x5_1 < (l0.length : Int) := of_decide_eq_true (by first | (with_reducible assumption) | assumption)
                obtain ⟨ad205, e205, hx205_0⟩ := Kd.at_int HR0.out x5_1 p205 q205
                cases e205
                replace p205 := eq_true p205
                replace q205 := eq_true q205
                have p206 : 0 ≤ (x5_1 : Int) := of_decide_eq_true (by first | (with_reducible assumption) | assumption)
                have q206 : x5_1 < (l1.length : Int) := of_decide_eq_true (by first | (with_reducible assumption) | assumption)
                obtain ⟨ad206, e206, hx206_0⟩ := Kd.at_int HR1.out x5_1 p206 q206
                cases e206
                replace p206 := eq_true p206
                replace q206 := eq_true q206
                go_wp2
                repeat (go_quiet (fail); try go_wp2)
                go_roundg k1
                case measure => have := HK1.out; omega
                case rel => exact ⟨(wrap64 (x5_1 + 1)), (by first | rfl | (simp; done) | (simp [*]; done)), H', ⟨by have := HK1.out; omega⟩, by repeat (first | exact Drawn0.refl _ | apply Drawn0.step)⟩
              · rw [if_neg c7] at H
                have c7b0 : ((rd l0 x5_1) == (rd l1 x5_1)) = false := beq_eq_false_iff_ne.mpr c7
                have c7b1 : ((rd l0 x5_1) != (rd l1 x5_1)) = true := bne_iff_ne.mpr c7
                obtain rfl := Option.some.inj H
                have p205 : 0 ≤ (x5_1 : Int) := of_decide_eq_true (by first | (with_reducible assumption) | assumption)
                have q205 : x5_1 < (l0.length : Int) := of_decide_eq_true (by first | (with_reducible assumption) | assumption)
                obtain ⟨ad205, e205, hx205_0⟩ := Kd.at_int HR0.out x5_1 p205 q205
                cases e205
                replace p205 := eq_true p205
                replace q205 := eq_true q205
                have p206 : 0 ≤ (x5_1 : Int) := of_decide_eq_true (by first | (with_reducible assumption) | assumption)
                have q206 : x5_1 < (l1.length : Int) := of_decide_eq_true (by first | (with_reducible assumption) | assumption)
                obtain ⟨ad206, e206, hx206_0⟩ := Kd.at_int HR1.out x5_1 p206 q206
                cases e206
                replace p206 := eq_true p206
                replace q206 := eq_true q206
                go_wp2
                repeat (go_quiet (fail); try go_wp2)
                go_ret
                exact ⟨by first | rfl | (simp; done) | (simp [*]; done), by repeat (first | exact Drawn0.refl _ | apply Drawn0.step)⟩
            · rw [if_neg c6] at H
              exact absurd H (by simp)
          · rw [if_neg c5] at H
            exact absurd H (by simp)
        · rw [if_neg c4] at H
          have c4b0 : decide (x5_1 < (l0.length : Int)) = false := decide_eq_false c4
          clear c4
          obtain rfl := Option.some.inj H
          go_wp2
          repeat (go_quiet (fail); try go_wp2)
          go_ret
          exact ⟨by first | rfl | (simp; done) | (simp [*]; done), by repeat (first | exact Drawn0.refl _ | apply Drawn0.step)⟩
  · rw [if_neg c3] at H
    have c3b0 : ((l0.length : Int) == (l1.length : Int)) = false := beq_eq_false_iff_ne.mpr c3
    have c3b1 : ((l0.length : Int) != (l1.length : Int)) = true := bne_iff_ne.mpr c3
    have c3b2 : (l0.length == l1.length) = false := by first | simpa using c3 | (simp at c3 ⊢; omega)
    obtain rfl := Option.some.inj H
    go_enter Tryd.func7, Tryd.ntmps7
    go_wp2
    repeat (go_quiet (fail); try go_wp2)
    go_ret
    exact ⟨by first | rfl | (simp; done) | (simp [*]; done), by repeat (first | exact Drawn0.refl _ | apply Drawn0.step)⟩

-- NOT PRINTED: function 3 (laws_FnUnbase58)

end Go.Proofs.YtojadhcbjcpifaaDoor.PFnUnbase58
