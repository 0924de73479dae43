/-
  nat.add: the pure function in the printed texts' own form; its walk; its value.
-/
import Derived.Test.YtojadhcbjcpifaaDoorUb1
import Derived.Deep.DeepMust
namespace Go.Proofs.YtojadhcbjcpifaaDoor.Ub
open Go.RowKit Go.Proofs.YtojadhcbjcpifaaDoorW.PrintWords Go.Proofs.YtojadhcbjcpifaaDoorW.PrintLast Go.Proofs.YtojadhcbjcpifaaDoorW.PrintMore
set_option linter.unusedSimpArgs false
set_option linter.unusedVariables false

/-- The round of nat.add. -/
def add_l0 : Nat → List Int → List Int → List Int → Int → Int → Option (List Int)
  | 0, _, _, _, _, _ => none
  | k + 1, x0, x1, x5, x6, x14 => if x14 < (x0.length : Int) then (if 0 ≤ x14 then (if x14 < (x1.length : Int) then (if x14 < (x5.length : Int) then (add_l0 k x0 x1 (x5.set (x14 : Int).toNat ((IntKind.u64.wrap ((IntKind.u64.wrap (x6 + (IntKind.u64.wrap (rd x0 x14)))) + (IntKind.u64.wrap (rd x1 x14)))) % 4294967296)) ((IntKind.u64.wrap ((IntKind.u64.wrap (x6 + (IntKind.u64.wrap (rd x0 x14)))) + (IntKind.u64.wrap (rd x1 x14)))) / 4294967296) (wrap64 (x14 + 1))) else none) else (if x14 < (x5.length : Int) then (add_l0 k x0 x1 (x5.set (x14 : Int).toNat ((IntKind.u64.wrap (x6 + (IntKind.u64.wrap (rd x0 x14)))) % 4294967296)) ((IntKind.u64.wrap (x6 + (IntKind.u64.wrap (rd x0 x14)))) / 4294967296) (wrap64 (x14 + 1))) else none)) else none) else (if (x0.length : Int) < (x5.length : Int) then (PFnUnbase58.smallbig_nat_norm.f k (x5.set (x0.length : Int).toNat (x6 % 4294967296))) else none)
def add_f (k : Nat) (l0 l1 : List Int) : Option (List Int) := if 0 ≤ (wrap64 ((l0.length : Int) + 1)) then (if (wrap64 ((l0.length : Int) + 1)).toNat ≤ 70368744177664 then (add_l0 k l0 l1 (List.replicate (wrap64 ((l0.length : Int) + 1)).toNat 0) 0 0) else none) else none
set_option maxHeartbeats 8000000 in
set_option maxRecDepth 100000 in
theorem add_walk0 (k : Nat) (A0 : Option Addr) (c0 : Nat) (l0 : List Int) (A1 : Option Addr) (c1 : Nat) (l1 : List Int) (r : List Int) (w : World) (hr0 : Kd.C (Kd.int .u32) w A0 l0.length l0) (hc0 : l0.length ≤ c0) (hr1 : Kd.C (Kd.int .u32) w A1 l1.length l1) (hc1 : l1.length ≤ c1) (hlt : ¬ ((l0.length : Int) < (l1.length : Int))) (h : add_f k l0 l1 = some r) :
    Calls Tryd.prog 39 #[.slice A0 l0.length c0, .slice A1 l1.length c1] w fun e w' => ∃ v0_ : Value, e = .returned (v0_) ∧ Kd.V (Kd.int .u32) 66 w' w.heap.size (fun k_ => (w.heap.size ≤ k_)) v0_ r ∧ Below w.heap.size w w' := by
  have HR0 := Aside0.mk hr0
  have HC0 := Aside0.mk hc0
  clear hr0 hc0
  have HR1 := Aside0.mk hr1
  have HC1 := Aside0.mk hc1
  clear hr1 hc1
  have HB := Aside0.mk (Below.refl w.heap.size w)
  have HLT := Aside0.mk hlt
  have hltb : decide ((l0.length : Int) < (l1.length : Int)) = false := decide_eq_false hlt
  have hltn : (l0.length < l1.length) = False := eq_false (by omega)
  clear hlt
  unfold add_f at h
  obtain ⟨ji3, hji3⟩ : ∃ j_ : Int, (wrap64 ((l0.length : Int) + 1)) = j_ := ⟨_, rfl⟩
  rw [hji3] at h
  have hji3w : (IntKind.i64.wrap ((l0.length : Int) + 1)) = ji3 := (i64_w _).trans hji3
  by_cases c4 : 0 ≤ (ji3)
  · rw [if_pos c4] at h
    have c4b0 := eq_true c4
    have c4b1 : decide (0 ≤ (ji3)) = true := decide_eq_true c4
    clear c4
    by_cases c5 : (ji3 : Int).toNat ≤ 70368744177664
    · rw [if_pos c5] at h
      have c5b0 := eq_true c5
      have c5b1 : decide ((ji3 : Int).toNat ≤ 70368744177664) = true := decide_eq_true c5
      clear c5
      obtain ⟨y174, hy174⟩ : ∃ y_ : List Int, y_ = (List.replicate (ji3 : Int).toNat 0) := ⟨_, rfl⟩
      rw [← hy174] at h
      have Ny174 := Aside0.mk hy174
      clear hy174
      have H' := Aside0.mk h
      clear h
      go_enter Tryd.func39, Tryd.ntmps39
      go_wp2_with (first | ((with_reducible refine gate_dst (N := 18) rfl ?_); refine Kd.R_make (Kd.int .u32) _ 66 rfl (N := 18) rfl 49 _ _ rfl ji3 rfl rfl Tryd.underlying49 (.int .u32 0) 4 PFnUnbase58.info66 rfl (by decide) (by omega) 0 (ok := fun _ => True) (okp := fun _ => True) rfl (fun _ hk => hk) trivial (of_decide_eq_true (by first | (with_reducible assumption) | assumption)) (Nat.le_trans (Nat.mul_le_mul_right _ (of_decide_eq_true (by first | (with_reducible assumption) | assumption) : ji3.toNat ≤ 70368744177664)) (by omega)) (Below.refl _ _) (Nat.le_refl _) ?_; intro v190 w5 ho6 hb hg_ hnew_; clear hg_ hnew_; (first | rw [← Ny174.out] at ho6 | (simp only [Int.reduceToNat] at ho6; rw [← Ny174.out] at ho6)); have n0_ := Aside0.mk (Kd.R_lower (Kd.R_newM (M := fun k_ => (w.heap.size ≤ k_)) ho6 (below_size (by repeat (first | (with_reducible first | exact HB.out | apply below_alloc | apply pw_below_drewN | apply below_drew1) | exact HB.out))) (fun k_ h_ => h_)) (below_size (by repeat (first | (with_reducible first | exact HB.out | apply below_alloc | apply pw_below_drewN | apply below_drew1) | exact HB.out)))); have n1_ := Aside0.mk (below_step (by repeat (first | (with_reducible first | exact HB.out | apply below_alloc | apply pw_below_drewN | apply below_drew1) | exact HB.out)) hb); clear HB; have HO191 := n0_; have HB := n1_; clear n0_ n1_; clear hb ho6))
      go_loopg [6, 21] k (fun kq v6 v21 w' => ∃ (x5_1 : List Int) (x6_1 : Int) (x14_1 : Int), v6 = .int .u64 x6_1 ∧ v21 = .int .i64 x14_1 ∧ Aside0 (add_l0 kq l0 l1 x5_1 x6_1 x14_1 = some r) ∧ Aside0 (kq ≤ k) ∧ Aside0 (Kd.R (Kd.int .u32) 66 w' w.heap.size (fun k_ => (w.heap.size ≤ k_)) v190 x5_1) ∧ Aside0 (Below w.heap.size w w'))
      case atStart => exact ⟨(y174), (0), (0), (by first | rfl | (simp; done) | (simp [*]; done)), (by first | rfl | (simp; done) | (simp [*]; done)), H', ⟨Nat.le_refl _⟩, ⟨by (with_reducible repeat (first | apply Kd.R_alloc | apply Kd.R_drewN | apply Kd.R_drew)); exact Kd.R_mono HO191.out (fun _ hk => hk.1)⟩, ⟨by repeat (first | (with_reducible first | exact HB.out | apply below_alloc | apply pw_below_drewN | apply below_drew1) | exact HB.out)⟩⟩
      case round =>
        clear H'
        try clear c4b0
        try clear c4b1
        try clear c5b0
        try clear c5b1
        obtain ⟨x5_1, x6_1, x14_1, rfl, rfl, HA, HK1, HO_5, HB⟩ := hrel
        cases gk with
        | zero => exact absurd HA.out (by simp [add_l0])
        | succ k1 =>
          have H := HA.out
          clear HA
          simp only [add_l0] at H
          by_cases c7 : x14_1 < (l0.length : Int)
          · rw [if_pos c7] at H
            have c7b0 : decide (x14_1 < (l0.length : Int)) = true := decide_eq_true c7
            clear c7
            by_cases c8 : 0 ≤ x14_1
            · rw [if_pos c8] at H
              have c8b0 : decide (0 ≤ x14_1) = true := decide_eq_true c8
              clear c8
              by_cases c10 : x14_1 < (l1.length : Int)
              · rw [if_pos c10] at H
                have c10b0 : decide (x14_1 < (l1.length : Int)) = true := decide_eq_true c10
                clear c10
                by_cases c11 : x14_1 < (x5_1.length : Int)
                · rw [if_pos c11] at H
                  have c11b0 : decide (x14_1 < (x5_1.length : Int)) = true := decide_eq_true c11
                  clear c11
                  obtain ⟨y194, hy194⟩ : ∃ y_ : List Int, y_ = (x5_1.set (x14_1 : Int).toNat ((IntKind.u64.wrap ((IntKind.u64.wrap (x6_1 + (IntKind.u64.wrap (rd l0 x14_1)))) + (IntKind.u64.wrap (rd l1 x14_1)))) % 4294967296)) := ⟨_, rfl⟩
                  rw [← hy194] at H
                  have Ny194 := Aside0.mk hy194
                  clear hy194
                  have H' := Aside0.mk H
                  clear H
                  have p192 : 0 ≤ (x14_1 : Int) := of_decide_eq_true (by first | (with_reducible assumption) | assumption)
                  have q192 : x14_1 < (l0.length : Int) := of_decide_eq_true (by first | (with_reducible assumption) | assumption)
                  obtain ⟨ad192, e192, hx192_0⟩ := Kd.at_int HR0.out x14_1 p192 q192
                  cases e192
                  replace hx192_0 := (HB.out.cell (World.block_lt_of_cell? w _ hx192_0)).trans hx192_0
                  replace p192 := eq_true p192
                  replace q192 := eq_true q192
                  have p193 : 0 ≤ (x14_1 : Int) := of_decide_eq_true (by first | (with_reducible assumption) | assumption)
                  have q193 : x14_1 < (l1.length : Int) := of_decide_eq_true (by first | (with_reducible assumption) | assumption)
                  obtain ⟨ad193, e193, hx193_0⟩ := Kd.at_int HR1.out x14_1 p193 q193
                  cases e193
                  replace hx193_0 := (HB.out.cell (World.block_lt_of_cell? w _ hx193_0)).trans hx193_0
                  replace p193 := eq_true p193
                  replace q193 := eq_true q193
                  have p12 : 0 ≤ (x14_1 : Int) := of_decide_eq_true (by first | (with_reducible assumption) | assumption)
                  have q12 : (x14_1 : Int) < ((x5_1.length : Int) : Int) := of_decide_eq_true (by first | (with_reducible assumption) | assumption)
                  obtain ⟨go12, co12, eo12, gb12, gl12, cl12, HG12⟩ := Kd.R_form HO_5.out (by omega)
                  (first | cases eo12 | (injection eo12 with ea_ en_ ec_; (first | subst ea_ | (injection ea_ with ea_; subst ea_)); subst ec_; clear en_))
                  have GB12 := Aside0.mk gb12
                  have GG12 := Aside0.mk HG12
                  clear gb12 gl12 HG12
                  obtain ⟨hx12_0, hf12_0⟩ := Kd.R_celln 0 HO_5.out (x14_1 : Int) p12 q12
                  replace p12 := eq_true p12
                  replace q12 := eq_true q12
                  have HP13 := Kd.R_putg HO_5.out (x14_1 : Int) ((IntKind.u64.wrap ((IntKind.u64.wrap (x6_1 + (IntKind.u64.wrap (rd l0 x14_1)))) + (IntKind.u64.wrap (rd l1 x14_1)))) % 4294967296)
                  go_wp2_with (first | ((with_reducible refine gate_store (t := 66) (p := 46) rfl ?_); refine store_event (t := 66) (p := 46) (v := ?vo_w14) (w1 := (wr.setCell ⟨go12, (x14_1 : Int).toNat, none⟩ (.int .u32 ((IntKind.u64.wrap ((IntKind.u64.wrap (x6_1 + (IntKind.u64.wrap (rd l0 x14_1)))) + (IntKind.u64.wrap (rd l1 x14_1)))) % 4294967296)))) ?hg ?ho ?hn ?hr ?_; (case ho => rfl); (case hg => rfl); (case hn => rfl); (case hr => first | (go_simp; done) | (go_simp; rfl)); intro w14 hw; have hg : wr.grownBy w14 (some go12) := (by rw [hw]; exact HP13.2); have hp_ : Kd.R (Kd.int .u32) 66 w14 w.heap.size (fun k_ => (w.heap.size ≤ k_)) (.slice (some ⟨go12, 0, none⟩) x5_1.length co12) y194 := (by rw [hw, Ny194.out]; exact HP13.1); clear HP13; have n0_ := Aside0.mk (hp_); have n1_ := Aside0.mk ((by rw [hw]; exact below_set (HB.out) GB12.out : Below w.heap.size w w14)); clear HO_5; clear HB; have HO_5 := n0_; have HB := n1_; clear n0_ n1_; clear hg hw hp_))
                  go_roundg k1
                  case measure => have := HK1.out; omega
                  case rel => exact ⟨(y194), ((IntKind.u64.wrap ((IntKind.u64.wrap (x6_1 + (IntKind.u64.wrap (rd l0 x14_1)))) + (IntKind.u64.wrap (rd l1 x14_1)))) / 4294967296), (wrap64 (x14_1 + 1)), (by first | rfl | (simp; done) | (simp [*]; done)), (by first | rfl | (simp; done) | (simp [*]; done)), H', ⟨by have := HK1.out; omega⟩, ⟨by (with_reducible repeat (first | apply Kd.R_alloc | apply Kd.R_drewN | apply Kd.R_drew)); exact HO_5.out⟩, ⟨by repeat (first | (with_reducible first | exact HB.out | apply below_alloc | apply pw_below_drewN | apply below_drew1) | exact HB.out)⟩⟩
                · rw [if_neg c11] at H
                  exact absurd H (by simp)
              · rw [if_neg c10] at H
                have c10b0 : decide (x14_1 < (l1.length : Int)) = false := decide_eq_false c10
                clear c10
                by_cases c11 : x14_1 < (x5_1.length : Int)
                · rw [if_pos c11] at H
                  have c11b0 : decide (x14_1 < (x5_1.length : Int)) = true := decide_eq_true c11
                  clear c11
                  obtain ⟨y194, hy194⟩ : ∃ y_ : List Int, y_ = (x5_1.set (x14_1 : Int).toNat ((IntKind.u64.wrap (x6_1 + (IntKind.u64.wrap (rd l0 x14_1)))) % 4294967296)) := ⟨_, rfl⟩
                  rw [← hy194] at H
                  have Ny194 := Aside0.mk hy194
                  clear hy194
                  have H' := Aside0.mk H
                  clear H
                  have p192 : 0 ≤ (x14_1 : Int) := of_decide_eq_true (by first | (with_reducible assumption) | assumption)
                  have q192 : x14_1 < (l0.length : Int) := of_decide_eq_true (by first | (with_reducible assumption) | assumption)
                  obtain ⟨ad192, e192, hx192_0⟩ := Kd.at_int HR0.out x14_1 p192 q192
                  cases e192
                  replace hx192_0 := (HB.out.cell (World.block_lt_of_cell? w _ hx192_0)).trans hx192_0
                  replace p192 := eq_true p192
                  replace q192 := eq_true q192
                  have p12 : 0 ≤ (x14_1 : Int) := of_decide_eq_true (by first | (with_reducible assumption) | assumption)
                  have q12 : (x14_1 : Int) < ((x5_1.length : Int) : Int) := of_decide_eq_true (by first | (with_reducible assumption) | assumption)
                  obtain ⟨go12, co12, eo12, gb12, gl12, cl12, HG12⟩ := Kd.R_form HO_5.out (by omega)
                  (first | cases eo12 | (injection eo12 with ea_ en_ ec_; (first | subst ea_ | (injection ea_ with ea_; subst ea_)); subst ec_; clear en_))
                  have GB12 := Aside0.mk gb12
                  have GG12 := Aside0.mk HG12
                  clear gb12 gl12 HG12
                  obtain ⟨hx12_0, hf12_0⟩ := Kd.R_celln 0 HO_5.out (x14_1 : Int) p12 q12
                  replace p12 := eq_true p12
                  replace q12 := eq_true q12
                  have HP13 := Kd.R_putg HO_5.out (x14_1 : Int) ((IntKind.u64.wrap (x6_1 + (IntKind.u64.wrap (rd l0 x14_1)))) % 4294967296)
                  go_wp2_with (first | ((with_reducible refine gate_store (t := 66) (p := 46) rfl ?_); refine store_event (t := 66) (p := 46) (v := ?vo_w14) (w1 := (wr.setCell ⟨go12, (x14_1 : Int).toNat, none⟩ (.int .u32 ((IntKind.u64.wrap (x6_1 + (IntKind.u64.wrap (rd l0 x14_1)))) % 4294967296)))) ?hg ?ho ?hn ?hr ?_; (case ho => rfl); (case hg => rfl); (case hn => rfl); (case hr => first | (go_simp; done) | (go_simp; rfl)); intro w14 hw; have hg : wr.grownBy w14 (some go12) := (by rw [hw]; exact HP13.2); have hp_ : Kd.R (Kd.int .u32) 66 w14 w.heap.size (fun k_ => (w.heap.size ≤ k_)) (.slice (some ⟨go12, 0, none⟩) x5_1.length co12) y194 := (by rw [hw, Ny194.out]; exact HP13.1); clear HP13; have n0_ := Aside0.mk (hp_); have n1_ := Aside0.mk ((by rw [hw]; exact below_set (HB.out) GB12.out : Below w.heap.size w w14)); clear HO_5; clear HB; have HO_5 := n0_; have HB := n1_; clear n0_ n1_; clear hg hw hp_))
                  go_roundg k1
                  case measure => have := HK1.out; omega
                  case rel => exact ⟨(y194), ((IntKind.u64.wrap (x6_1 + (IntKind.u64.wrap (rd l0 x14_1)))) / 4294967296), (wrap64 (x14_1 + 1)), (by first | rfl | (simp; done) | (simp [*]; done)), (by first | rfl | (simp; done) | (simp [*]; done)), H', ⟨by have := HK1.out; omega⟩, ⟨by (with_reducible repeat (first | apply Kd.R_alloc | apply Kd.R_drewN | apply Kd.R_drew)); exact HO_5.out⟩, ⟨by repeat (first | (with_reducible first | exact HB.out | apply below_alloc | apply pw_below_drewN | apply below_drew1) | exact HB.out)⟩⟩
                · rw [if_neg c11] at H
                  exact absurd H (by simp)
            · rw [if_neg c8] at H
              exact absurd H (by simp)
          · rw [if_neg c7] at H
            have c7b0 : decide (x14_1 < (l0.length : Int)) = false := decide_eq_false c7
            clear c7
            by_cases c11 : (l0.length : Int) < (x5_1.length : Int)
            · rw [if_pos c11] at H
              have c11b0 : decide ((l0.length : Int) < (x5_1.length : Int)) = true := decide_eq_true c11
              clear c11
              obtain ⟨y194, hy194⟩ : ∃ y_ : List Int, y_ = (x5_1.set (l0.length : Int).toNat (x6_1 % 4294967296)) := ⟨_, rfl⟩
              rw [← hy194] at H
              have hyl : y194.length = x5_1.length := by rw [hy194, List.length_set]
              have Ny194 := Aside0.mk hy194
              clear hy194
              have A19 := Aside0.mk H
              clear H
              have p12 : 0 ≤ (l0.length : Int) := Int.natCast_nonneg _
              have q12 : (l0.length : Int) < ((x5_1.length : Int) : Int) := of_decide_eq_true (by first | (with_reducible assumption) | assumption)
              obtain ⟨go12, co12, eo12, gb12, gl12, cl12, HG12⟩ := Kd.R_form HO_5.out (by omega)
              (first | cases eo12 | (injection eo12 with ea_ en_ ec_; (first | subst ea_ | (injection ea_ with ea_; subst ea_)); subst ec_; clear en_))
              have GB12 := Aside0.mk gb12
              have GG12 := Aside0.mk HG12
              clear gb12 gl12 HG12
              obtain ⟨hx12_0, hf12_0⟩ := Kd.R_celln 0 HO_5.out (l0.length : Int) p12 q12
              rw [Int.toNat_natCast] at hx12_0
              try rw [Int.toNat_natCast] at hf12_0
              replace p12 := eq_true p12
              replace q12 := eq_true q12
              have HP13 := Kd.R_putg HO_5.out (l0.length : Int) (x6_1 % 4294967296)
              have HYL := Aside0.mk hyl
              clear hyl
              go_wp2_with (first
                | ((with_reducible refine gate_store (t := 66) (p := 55) rfl ?_); go_must (refine store_event (t := 66) (p := 55) (v := ?vo_w15) (w1 := (wr.setCell ⟨go12, l0.length, none⟩ (.int .u32 (x6_1 % 4294967296)))) ?hg ?ho ?hn ?hr ?_); go_must (case ho => rfl); go_must (case hg => rfl); go_must (case hn => rfl); go_must (case hr => first | (go_simp; done) | (go_simp; rfl)); intro w14 hw; go_must (have hg : wr.grownBy w14 (some go12) := (by rw [hw]; exact HP13.2)); go_must (have hp_ : Kd.R (Kd.int .u32) 66 w14 w.heap.size (fun k_ => (w.heap.size ≤ k_)) (.slice (some ⟨go12, 0, none⟩) x5_1.length co12) y194 := (by rw [hw, Ny194.out]; exact HP13.1)); clear HP13; have n0_ := Aside0.mk (hp_); go_must (have n1_ := Aside0.mk ((by rw [hw]; exact below_set (HB.out) GB12.out : Below w.heap.size w w14))); clear HO_5; clear HB; have HO_5 := n0_; have HB := n1_; clear n0_ n1_; clear hg hw hp_)
                | ((with_reducible refine gate_callee (f := 37) rfl ?_); go_must (rw [← HYL.out] at HO_5; refine goesL_ (some 57) rfl rfl Tryd.func37 (by kernel_rfl) rfl #[.slice (some ⟨go12, 0, none⟩) y194.length co12] rfl (by rw [HYL.out]; (try simp only [List.map_toArray, List.map_cons, List.map_nil]); first | done | rfl) ?_); (with_reducible refine (PFnUnbase58.smallbig_nat_norm.calls k1 (fun k_ => some k_ = (.slice (some ⟨go12, 0, none⟩) y194.length co12 : Value).ownBlock) _ _ y194 r _ ?side1 A19.out).mono ?_); (case side1 => exact Kd.R_V (Kd.R_tight rfl (HO_5.out))); rintro e w21 ⟨v197, rfl, ho0, hb⟩; refine ⟨_, rfl, ?_⟩; have n1_ := Aside0.mk (Kd.V_lower (Kd.V_mono (ok' := fun k_ => (w.heap.size ≤ k_)) ho0 (fun k_ hk_ => Or.elim hk_ (fun hs_ => ((HO_5.out).1 k_ hs_.symm)) (fun hn_ => (Nat.le_trans (below_size (by repeat (first | (with_reducible first | exact HB.out | apply below_alloc | apply pw_below_drewN | apply below_drew1) | exact HB.out))) hn_)))) (below_size (by repeat (first | (with_reducible first | exact HB.out | apply below_alloc | apply pw_below_drewN | apply below_drew1) | exact HB.out)))); have n2_ := Aside0.mk (below_step (by repeat (first | (with_reducible first | exact HB.out | apply below_alloc | apply pw_below_drewN | apply below_drew1) | exact HB.out)) hb); clear HO_5; clear HB; have HO198 := n1_; have HB := n2_; clear n1_ n2_; (try clear hb); (try clear ho0)))
              go_ret
              exact ⟨_, by first | rfl | (simp; done), by (with_reducible repeat (first | apply Kd.V_alloc | apply Kd.V_drewN | apply Kd.V_drew)); exact HO198.out, by repeat (first | (with_reducible first | exact HB.out | apply below_alloc | apply pw_below_drewN | apply below_drew1) | exact HB.out)⟩
            · rw [if_neg c11] at H
              exact absurd H (by simp)
    · rw [if_neg c5] at h
      exact absurd h (by simp)
  · rw [if_neg c4] at h
    exact absurd h (by simp)
set_option maxHeartbeats 8000000 in
set_option maxRecDepth 100000 in
theorem add_walk1 (k : Nat) (A0 : Option Addr) (c0 : Nat) (l0 : List Int) (A1 : Option Addr) (c1 : Nat) (l1 : List Int) (r : List Int) (w : World) (hr0 : Kd.C (Kd.int .u32) w A0 l0.length l0) (hc0 : l0.length ≤ c0) (hr1 : Kd.C (Kd.int .u32) w A1 l1.length l1) (hc1 : l1.length ≤ c1) (hlt : ((l0.length : Int) < (l1.length : Int))) (h : add_f k l1 l0 = some r) :
    Calls Tryd.prog 39 #[.slice A0 l0.length c0, .slice A1 l1.length c1] w fun e w' => ∃ v0_ : Value, e = .returned (v0_) ∧ Kd.V (Kd.int .u32) 66 w' w.heap.size (fun k_ => (w.heap.size ≤ k_)) v0_ r ∧ Below w.heap.size w w' := by
  have HR0 := Aside0.mk hr0
  have HC0 := Aside0.mk hc0
  clear hr0 hc0
  have HR1 := Aside0.mk hr1
  have HC1 := Aside0.mk hc1
  clear hr1 hc1
  have HB := Aside0.mk (Below.refl w.heap.size w)
  have HLT := Aside0.mk hlt
  have hltb : decide ((l0.length : Int) < (l1.length : Int)) = true := decide_eq_true hlt
  have hltn : (l0.length < l1.length) = True := eq_true (by omega)
  clear hlt
  unfold add_f at h
  obtain ⟨ji3, hji3⟩ : ∃ j_ : Int, (wrap64 ((l1.length : Int) + 1)) = j_ := ⟨_, rfl⟩
  rw [hji3] at h
  have hji3w : (IntKind.i64.wrap ((l1.length : Int) + 1)) = ji3 := (i64_w _).trans hji3
  by_cases c4 : 0 ≤ (ji3)
  · rw [if_pos c4] at h
    have c4b0 := eq_true c4
    have c4b1 : decide (0 ≤ (ji3)) = true := decide_eq_true c4
    clear c4
    by_cases c5 : (ji3 : Int).toNat ≤ 70368744177664
    · rw [if_pos c5] at h
      have c5b0 := eq_true c5
      have c5b1 : decide ((ji3 : Int).toNat ≤ 70368744177664) = true := decide_eq_true c5
      clear c5
      obtain ⟨y174, hy174⟩ : ∃ y_ : List Int, y_ = (List.replicate (ji3 : Int).toNat 0) := ⟨_, rfl⟩
      rw [← hy174] at h
      have Ny174 := Aside0.mk hy174
      clear hy174
      have H' := Aside0.mk h
      clear h
      go_enter Tryd.func39, Tryd.ntmps39
      go_wp2_with (first | ((with_reducible refine gate_dst (N := 18) rfl ?_); refine Kd.R_make (Kd.int .u32) _ 66 rfl (N := 18) rfl 49 _ _ rfl ji3 rfl rfl Tryd.underlying49 (.int .u32 0) 4 PFnUnbase58.info66 rfl (by decide) (by omega) 0 (ok := fun _ => True) (okp := fun _ => True) rfl (fun _ hk => hk) trivial (of_decide_eq_true (by first | (with_reducible assumption) | assumption)) (Nat.le_trans (Nat.mul_le_mul_right _ (of_decide_eq_true (by first | (with_reducible assumption) | assumption) : ji3.toNat ≤ 70368744177664)) (by omega)) (Below.refl _ _) (Nat.le_refl _) ?_; intro v190 w5 ho6 hb hg_ hnew_; clear hg_ hnew_; (first | rw [← Ny174.out] at ho6 | (simp only [Int.reduceToNat] at ho6; rw [← Ny174.out] at ho6)); have n0_ := Aside0.mk (Kd.R_lower (Kd.R_newM (M := fun k_ => (w.heap.size ≤ k_)) ho6 (below_size (by repeat (first | (with_reducible first | exact HB.out | apply below_alloc | apply pw_below_drewN | apply below_drew1) | exact HB.out))) (fun k_ h_ => h_)) (below_size (by repeat (first | (with_reducible first | exact HB.out | apply below_alloc | apply pw_below_drewN | apply below_drew1) | exact HB.out)))); have n1_ := Aside0.mk (below_step (by repeat (first | (with_reducible first | exact HB.out | apply below_alloc | apply pw_below_drewN | apply below_drew1) | exact HB.out)) hb); clear HB; have HO191 := n0_; have HB := n1_; clear n0_ n1_; clear hb ho6))
      go_loopg [6, 21] k (fun kq v6 v21 w' => ∃ (x5_1 : List Int) (x6_1 : Int) (x14_1 : Int), v6 = .int .u64 x6_1 ∧ v21 = .int .i64 x14_1 ∧ Aside0 (add_l0 kq l1 l0 x5_1 x6_1 x14_1 = some r) ∧ Aside0 (kq ≤ k) ∧ Aside0 (Kd.R (Kd.int .u32) 66 w' w.heap.size (fun k_ => (w.heap.size ≤ k_)) v190 x5_1) ∧ Aside0 (Below w.heap.size w w'))
      case atStart => exact ⟨(y174), (0), (0), (by first | rfl | (simp; done) | (simp [*]; done)), (by first | rfl | (simp; done) | (simp [*]; done)), H', ⟨Nat.le_refl _⟩, ⟨by (with_reducible repeat (first | apply Kd.R_alloc | apply Kd.R_drewN | apply Kd.R_drew)); exact Kd.R_mono HO191.out (fun _ hk => hk.1)⟩, ⟨by repeat (first | (with_reducible first | exact HB.out | apply below_alloc | apply pw_below_drewN | apply below_drew1) | exact HB.out)⟩⟩
      case round =>
        clear H'
        try clear c4b0
        try clear c4b1
        try clear c5b0
        try clear c5b1
        obtain ⟨x5_1, x6_1, x14_1, rfl, rfl, HA, HK1, HO_5, HB⟩ := hrel
        cases gk with
        | zero => exact absurd HA.out (by simp [add_l0])
        | succ k1 =>
          have H := HA.out
          clear HA
          simp only [add_l0] at H
          by_cases c7 : x14_1 < (l1.length : Int)
          · rw [if_pos c7] at H
            have c7b0 : decide (x14_1 < (l1.length : Int)) = true := decide_eq_true c7
            clear c7
            by_cases c8 : 0 ≤ x14_1
            · rw [if_pos c8] at H
              have c8b0 : decide (0 ≤ x14_1) = true := decide_eq_true c8
              clear c8
              by_cases c10 : x14_1 < (l0.length : Int)
              · rw [if_pos c10] at H
                have c10b0 : decide (x14_1 < (l0.length : Int)) = true := decide_eq_true c10
                clear c10
                by_cases c11 : x14_1 < (x5_1.length : Int)
                · rw [if_pos c11] at H
                  have c11b0 : decide (x14_1 < (x5_1.length : Int)) = true := decide_eq_true c11
                  clear c11
                  obtain ⟨y194, hy194⟩ : ∃ y_ : List Int, y_ = (x5_1.set (x14_1 : Int).toNat ((IntKind.u64.wrap ((IntKind.u64.wrap (x6_1 + (IntKind.u64.wrap (rd l1 x14_1)))) + (IntKind.u64.wrap (rd l0 x14_1)))) % 4294967296)) := ⟨_, rfl⟩
                  rw [← hy194] at H
                  have Ny194 := Aside0.mk hy194
                  clear hy194
                  have H' := Aside0.mk H
                  clear H
                  have p192 : 0 ≤ (x14_1 : Int) := of_decide_eq_true (by first | (with_reducible assumption) | assumption)
                  have q192 : x14_1 < (l1.length : Int) := of_decide_eq_true (by first | (with_reducible assumption) | assumption)
                  obtain ⟨ad192, e192, hx192_0⟩ := Kd.at_int HR1.out x14_1 p192 q192
                  cases e192
                  replace hx192_0 := (HB.out.cell (World.block_lt_of_cell? w _ hx192_0)).trans hx192_0
                  replace p192 := eq_true p192
                  replace q192 := eq_true q192
                  have p193 : 0 ≤ (x14_1 : Int) := of_decide_eq_true (by first | (with_reducible assumption) | assumption)
                  have q193 : x14_1 < (l0.length : Int) := of_decide_eq_true (by first | (with_reducible assumption) | assumption)
                  obtain ⟨ad193, e193, hx193_0⟩ := Kd.at_int HR0.out x14_1 p193 q193
                  cases e193
                  replace hx193_0 := (HB.out.cell (World.block_lt_of_cell? w _ hx193_0)).trans hx193_0
                  replace p193 := eq_true p193
                  replace q193 := eq_true q193
                  have p12 : 0 ≤ (x14_1 : Int) := of_decide_eq_true (by first | (with_reducible assumption) | assumption)
                  have q12 : (x14_1 : Int) < ((x5_1.length : Int) : Int) := of_decide_eq_true (by first | (with_reducible assumption) | assumption)
                  obtain ⟨go12, co12, eo12, gb12, gl12, cl12, HG12⟩ := Kd.R_form HO_5.out (by omega)
                  (first | cases eo12 | (injection eo12 with ea_ en_ ec_; (first | subst ea_ | (injection ea_ with ea_; subst ea_)); subst ec_; clear en_))
                  have GB12 := Aside0.mk gb12
                  have GG12 := Aside0.mk HG12
                  clear gb12 gl12 HG12
                  obtain ⟨hx12_0, hf12_0⟩ := Kd.R_celln 0 HO_5.out (x14_1 : Int) p12 q12
                  replace p12 := eq_true p12
                  replace q12 := eq_true q12
                  have HP13 := Kd.R_putg HO_5.out (x14_1 : Int) ((IntKind.u64.wrap ((IntKind.u64.wrap (x6_1 + (IntKind.u64.wrap (rd l1 x14_1)))) + (IntKind.u64.wrap (rd l0 x14_1)))) % 4294967296)
                  go_wp2_with (first | ((with_reducible refine gate_store (t := 66) (p := 46) rfl ?_); refine store_event (t := 66) (p := 46) (v := ?vo_w14) (w1 := (wr.setCell ⟨go12, (x14_1 : Int).toNat, none⟩ (.int .u32 ((IntKind.u64.wrap ((IntKind.u64.wrap (x6_1 + (IntKind.u64.wrap (rd l1 x14_1)))) + (IntKind.u64.wrap (rd l0 x14_1)))) % 4294967296)))) ?hg ?ho ?hn ?hr ?_; (case ho => rfl); (case hg => rfl); (case hn => rfl); (case hr => first | (go_simp; done) | (go_simp; rfl)); intro w14 hw; have hg : wr.grownBy w14 (some go12) := (by rw [hw]; exact HP13.2); have hp_ : Kd.R (Kd.int .u32) 66 w14 w.heap.size (fun k_ => (w.heap.size ≤ k_)) (.slice (some ⟨go12, 0, none⟩) x5_1.length co12) y194 := (by rw [hw, Ny194.out]; exact HP13.1); clear HP13; have n0_ := Aside0.mk (hp_); have n1_ := Aside0.mk ((by rw [hw]; exact below_set (HB.out) GB12.out : Below w.heap.size w w14)); clear HO_5; clear HB; have HO_5 := n0_; have HB := n1_; clear n0_ n1_; clear hg hw hp_))
                  go_roundg k1
                  case measure => have := HK1.out; omega
                  case rel => exact ⟨(y194), ((IntKind.u64.wrap ((IntKind.u64.wrap (x6_1 + (IntKind.u64.wrap (rd l1 x14_1)))) + (IntKind.u64.wrap (rd l0 x14_1)))) / 4294967296), (wrap64 (x14_1 + 1)), (by first | rfl | (simp; done) | (simp [*]; done)), (by first | rfl | (simp; done) | (simp [*]; done)), H', ⟨by have := HK1.out; omega⟩, ⟨by (with_reducible repeat (first | apply Kd.R_alloc | apply Kd.R_drewN | apply Kd.R_drew)); exact HO_5.out⟩, ⟨by repeat (first | (with_reducible first | exact HB.out | apply below_alloc | apply pw_below_drewN | apply below_drew1) | exact HB.out)⟩⟩
                · rw [if_neg c11] at H
                  exact absurd H (by simp)
              · rw [if_neg c10] at H
                have c10b0 : decide (x14_1 < (l0.length : Int)) = false := decide_eq_false c10
                clear c10
                by_cases c11 : x14_1 < (x5_1.length : Int)
                · rw [if_pos c11] at H
                  have c11b0 : decide (x14_1 < (x5_1.length : Int)) = true := decide_eq_true c11
                  clear c11
                  obtain ⟨y194, hy194⟩ : ∃ y_ : List Int, y_ = (x5_1.set (x14_1 : Int).toNat ((IntKind.u64.wrap (x6_1 + (IntKind.u64.wrap (rd l1 x14_1)))) % 4294967296)) := ⟨_, rfl⟩
                  rw [← hy194] at H
                  have Ny194 := Aside0.mk hy194
                  clear hy194
                  have H' := Aside0.mk H
                  clear H
                  have p192 : 0 ≤ (x14_1 : Int) := of_decide_eq_true (by first | (with_reducible assumption) | assumption)
                  have q192 : x14_1 < (l1.length : Int) := of_decide_eq_true (by first | (with_reducible assumption) | assumption)
                  obtain ⟨ad192, e192, hx192_0⟩ := Kd.at_int HR1.out x14_1 p192 q192
                  cases e192
                  replace hx192_0 := (HB.out.cell (World.block_lt_of_cell? w _ hx192_0)).trans hx192_0
                  replace p192 := eq_true p192
                  replace q192 := eq_true q192
                  have p12 : 0 ≤ (x14_1 : Int) := of_decide_eq_true (by first | (with_reducible assumption) | assumption)
                  have q12 : (x14_1 : Int) < ((x5_1.length : Int) : Int) := of_decide_eq_true (by first | (with_reducible assumption) | assumption)
                  obtain ⟨go12, co12, eo12, gb12, gl12, cl12, HG12⟩ := Kd.R_form HO_5.out (by omega)
                  (first | cases eo12 | (injection eo12 with ea_ en_ ec_; (first | subst ea_ | (injection ea_ with ea_; subst ea_)); subst ec_; clear en_))
                  have GB12 := Aside0.mk gb12
                  have GG12 := Aside0.mk HG12
                  clear gb12 gl12 HG12
                  obtain ⟨hx12_0, hf12_0⟩ := Kd.R_celln 0 HO_5.out (x14_1 : Int) p12 q12
                  replace p12 := eq_true p12
                  replace q12 := eq_true q12
                  have HP13 := Kd.R_putg HO_5.out (x14_1 : Int) ((IntKind.u64.wrap (x6_1 + (IntKind.u64.wrap (rd l1 x14_1)))) % 4294967296)
                  go_wp2_with (first | ((with_reducible refine gate_store (t := 66) (p := 46) rfl ?_); refine store_event (t := 66) (p := 46) (v := ?vo_w14) (w1 := (wr.setCell ⟨go12, (x14_1 : Int).toNat, none⟩ (.int .u32 ((IntKind.u64.wrap (x6_1 + (IntKind.u64.wrap (rd l1 x14_1)))) % 4294967296)))) ?hg ?ho ?hn ?hr ?_; (case ho => rfl); (case hg => rfl); (case hn => rfl); (case hr => first | (go_simp; done) | (go_simp; rfl)); intro w14 hw; have hg : wr.grownBy w14 (some go12) := (by rw [hw]; exact HP13.2); have hp_ : Kd.R (Kd.int .u32) 66 w14 w.heap.size (fun k_ => (w.heap.size ≤ k_)) (.slice (some ⟨go12, 0, none⟩) x5_1.length co12) y194 := (by rw [hw, Ny194.out]; exact HP13.1); clear HP13; have n0_ := Aside0.mk (hp_); have n1_ := Aside0.mk ((by rw [hw]; exact below_set (HB.out) GB12.out : Below w.heap.size w w14)); clear HO_5; clear HB; have HO_5 := n0_; have HB := n1_; clear n0_ n1_; clear hg hw hp_))
                  go_roundg k1
                  case measure => have := HK1.out; omega
                  case rel => exact ⟨(y194), ((IntKind.u64.wrap (x6_1 + (IntKind.u64.wrap (rd l1 x14_1)))) / 4294967296), (wrap64 (x14_1 + 1)), (by first | rfl | (simp; done) | (simp [*]; done)), (by first | rfl | (simp; done) | (simp [*]; done)), H', ⟨by have := HK1.out; omega⟩, ⟨by (with_reducible repeat (first | apply Kd.R_alloc | apply Kd.R_drewN | apply Kd.R_drew)); exact HO_5.out⟩, ⟨by repeat (first | (with_reducible first | exact HB.out | apply below_alloc | apply pw_below_drewN | apply below_drew1) | exact HB.out)⟩⟩
                · rw [if_neg c11] at H
                  exact absurd H (by simp)
            · rw [if_neg c8] at H
              exact absurd H (by simp)
          · rw [if_neg c7] at H
            have c7b0 : decide (x14_1 < (l1.length : Int)) = false := decide_eq_false c7
            clear c7
            by_cases c11 : (l1.length : Int) < (x5_1.length : Int)
            · rw [if_pos c11] at H
              have c11b0 : decide ((l1.length : Int) < (x5_1.length : Int)) = true := decide_eq_true c11
              clear c11
              obtain ⟨y194, hy194⟩ : ∃ y_ : List Int, y_ = (x5_1.set (l1.length : Int).toNat (x6_1 % 4294967296)) := ⟨_, rfl⟩
              rw [← hy194] at H
              have hyl : y194.length = x5_1.length := by rw [hy194, List.length_set]
              have Ny194 := Aside0.mk hy194
              clear hy194
              have A19 := Aside0.mk H
              clear H
              have p12 : 0 ≤ (l1.length : Int) := Int.natCast_nonneg _
              have q12 : (l1.length : Int) < ((x5_1.length : Int) : Int) := of_decide_eq_true (by first | (with_reducible assumption) | assumption)
              obtain ⟨go12, co12, eo12, gb12, gl12, cl12, HG12⟩ := Kd.R_form HO_5.out (by omega)
              (first | cases eo12 | (injection eo12 with ea_ en_ ec_; (first | subst ea_ | (injection ea_ with ea_; subst ea_)); subst ec_; clear en_))
              have GB12 := Aside0.mk gb12
              have GG12 := Aside0.mk HG12
              clear gb12 gl12 HG12
              obtain ⟨hx12_0, hf12_0⟩ := Kd.R_celln 0 HO_5.out (l1.length : Int) p12 q12
              rw [Int.toNat_natCast] at hx12_0
              try rw [Int.toNat_natCast] at hf12_0
              replace p12 := eq_true p12
              replace q12 := eq_true q12
              have HP13 := Kd.R_putg HO_5.out (l1.length : Int) (x6_1 % 4294967296)
              have HYL := Aside0.mk hyl
              clear hyl
              go_wp2_with (first
                | ((with_reducible refine gate_store (t := 66) (p := 55) rfl ?_); go_must (refine store_event (t := 66) (p := 55) (v := ?vo_w15) (w1 := (wr.setCell ⟨go12, l1.length, none⟩ (.int .u32 (x6_1 % 4294967296)))) ?hg ?ho ?hn ?hr ?_); go_must (case ho => rfl); go_must (case hg => rfl); go_must (case hn => rfl); go_must (case hr => first | (go_simp; done) | (go_simp; rfl)); intro w14 hw; go_must (have hg : wr.grownBy w14 (some go12) := (by rw [hw]; exact HP13.2)); go_must (have hp_ : Kd.R (Kd.int .u32) 66 w14 w.heap.size (fun k_ => (w.heap.size ≤ k_)) (.slice (some ⟨go12, 0, none⟩) x5_1.length co12) y194 := (by rw [hw, Ny194.out]; exact HP13.1)); clear HP13; have n0_ := Aside0.mk (hp_); go_must (have n1_ := Aside0.mk ((by rw [hw]; exact below_set (HB.out) GB12.out : Below w.heap.size w w14))); clear HO_5; clear HB; have HO_5 := n0_; have HB := n1_; clear n0_ n1_; clear hg hw hp_)
                | ((with_reducible refine gate_callee (f := 37) rfl ?_); go_must (rw [← HYL.out] at HO_5; refine goesL_ (some 57) rfl rfl Tryd.func37 (by kernel_rfl) rfl #[.slice (some ⟨go12, 0, none⟩) y194.length co12] rfl (by rw [HYL.out]; (try simp only [List.map_toArray, List.map_cons, List.map_nil]); first | done | rfl) ?_); (with_reducible refine (PFnUnbase58.smallbig_nat_norm.calls k1 (fun k_ => some k_ = (.slice (some ⟨go12, 0, none⟩) y194.length co12 : Value).ownBlock) _ _ y194 r _ ?side1 A19.out).mono ?_); (case side1 => exact Kd.R_V (Kd.R_tight rfl (HO_5.out))); rintro e w21 ⟨v197, rfl, ho0, hb⟩; refine ⟨_, rfl, ?_⟩; have n1_ := Aside0.mk (Kd.V_lower (Kd.V_mono (ok' := fun k_ => (w.heap.size ≤ k_)) ho0 (fun k_ hk_ => Or.elim hk_ (fun hs_ => ((HO_5.out).1 k_ hs_.symm)) (fun hn_ => (Nat.le_trans (below_size (by repeat (first | (with_reducible first | exact HB.out | apply below_alloc | apply pw_below_drewN | apply below_drew1) | exact HB.out))) hn_)))) (below_size (by repeat (first | (with_reducible first | exact HB.out | apply below_alloc | apply pw_below_drewN | apply below_drew1) | exact HB.out)))); have n2_ := Aside0.mk (below_step (by repeat (first | (with_reducible first | exact HB.out | apply below_alloc | apply pw_below_drewN | apply below_drew1) | exact HB.out)) hb); clear HO_5; clear HB; have HO198 := n1_; have HB := n2_; clear n1_ n2_; (try clear hb); (try clear ho0)))
              go_ret
              exact ⟨_, by first | rfl | (simp; done), by (with_reducible repeat (first | apply Kd.V_alloc | apply Kd.V_drewN | apply Kd.V_drew)); exact HO198.out, by repeat (first | (with_reducible first | exact HB.out | apply below_alloc | apply pw_below_drewN | apply below_drew1) | exact HB.out)⟩
            · rw [if_neg c11] at H
              exact absurd H (by simp)
    · rw [if_neg c5] at h
      exact absurd h (by simp)
  · rw [if_neg c4] at h
    exact absurd h (by simp)
end Go.Proofs.YtojadhcbjcpifaaDoor.Ub
