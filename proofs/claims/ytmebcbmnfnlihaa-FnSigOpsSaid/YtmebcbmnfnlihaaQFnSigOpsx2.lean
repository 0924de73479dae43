import Derived.Test.YtmebcbmnfnlihaaPFnSigOpsx0
import Derived.Test.YtmebcbmnfnlihaaQFnSigOpsx1
namespace Go.Proofs.Ytmebcbmnfnlihaa.PFnSigOps
open Go.RowKit Go.Proofs.YtmebcbmnfnlihaaW.PrintWords Go.Proofs.YtmebcbmnfnlihaaW.PrintLast Go.Proofs.YtmebcbmnfnlihaaW.PrintMore
attribute [local go_sem] max2_int min2_int max_two min_two max_three min_three max_four min_four   -- for this text's walks alone
set_option linter.unusedVariables false
set_option linter.unusedSimpArgs false

/-! ### spec_SigOps: function 28 -/
mutual
noncomputable def spec_SigOps.l0 : Nat → Bool → List (S49) → Int → Int → Option (Int)
  | 0, _, _, _, _ => none
  | k + 1, x1, x5, x7, x8 => if x8 < (x5.length : Int) then (if 0 ≤ x8 then (if ((rd_T49 x5 x8).f0) = 172 then (spec_SigOps.j1 k x1 x5 x7 x8 ((rd_T49 x5 x8).f0) (((rd_T49 x5 x8).f0) == 172)) else (spec_SigOps.j1 k x1 x5 x7 x8 ((rd_T49 x5 x8).f0) (((rd_T49 x5 x8).f0) == 173))) else (none)) else (some x7)
noncomputable def spec_SigOps.j1 : Nat → Bool → List (S49) → Int → Int → Int → Bool → Option (Int)
  | 0, _, _, _, _, _, _ => none
  | k + 1, x1, x5, x7, x8, x25, x26 => if x26 = true then (spec_SigOps.l0 k x1 x5 (wrap64 (x7 + 1)) (wrap64 (x8 + 1))) else (if x25 = 174 then (spec_SigOps.j2 k x1 x5 x7 x8 (x25 == 174)) else (spec_SigOps.j2 k x1 x5 x7 x8 (x25 == 175)))
noncomputable def spec_SigOps.j2 : Nat → Bool → List (S49) → Int → Int → Bool → Option (Int)
  | 0, _, _, _, _, _ => none
  | k + 1, x1, x5, x7, x8, x31 => if x31 = true then (if x1 = true then (if x8 > 0 then (if 0 ≤ (wrap64 (x8 - 1)) then (if (wrap64 (x8 - 1)) < (x5.length : Int) then (if ((rd_T49 x5 (wrap64 (x8 - 1))).f0) ≥ 81 then (if ((rd_T49 x5 (wrap64 (x8 - 1))).f0) ≤ 96 then (spec_SigOps.l0 k x1 x5 (wrap64 (x7 + (wrap64 ((wrap64 (((rd_T49 x5 (wrap64 (x8 - 1))).f0) - 81)) + 1)))) (wrap64 (x8 + 1))) else (spec_SigOps.l0 k x1 x5 (wrap64 (x7 + 20)) (wrap64 (x8 + 1)))) else (spec_SigOps.l0 k x1 x5 (wrap64 (x7 + 20)) (wrap64 (x8 + 1)))) else (none)) else (none)) else (spec_SigOps.l0 k x1 x5 (wrap64 (x7 + 20)) (wrap64 (x8 + 1)))) else (spec_SigOps.l0 k x1 x5 (wrap64 (x7 + 20)) (wrap64 (x8 + 1)))) else (spec_SigOps.l0 k x1 x5 x7 (wrap64 (x8 + 1)))
end
noncomputable def spec_SigOps.f (k : Nat) (l0 : List Int) (a1 : Bool) : Option (Int) := (spec_Tokens.f k l0).bind fun bt135 => (spec_SigOps.l0 k a1 bt135.1 0 0)
theorem spec_SigOps.mono_l : ∀ k, (∀ y0 y1 y2 y3, LeO (spec_SigOps.l0 k y0 y1 y2 y3) (spec_SigOps.l0 (k + 1) y0 y1 y2 y3)) ∧ (∀ y0 y1 y2 y3 y4 y5, LeO (spec_SigOps.j1 k y0 y1 y2 y3 y4 y5) (spec_SigOps.j1 (k + 1) y0 y1 y2 y3 y4 y5)) ∧ (∀ y0 y1 y2 y3 y4, LeO (spec_SigOps.j2 k y0 y1 y2 y3 y4) (spec_SigOps.j2 (k + 1) y0 y1 y2 y3 y4))
  | 0 => ⟨fun _ _ _ _ r h => by simp [spec_SigOps.l0] at h, fun _ _ _ _ _ _ r h => by simp [spec_SigOps.j1] at h, fun _ _ _ _ _ r h => by simp [spec_SigOps.j2] at h⟩
  | k + 1 => by
    obtain ⟨ih0, ih1, ih2⟩ := spec_SigOps.mono_l k
    refine ⟨?_, ?_, ?_⟩
    · intro y0 y1 y2 y3
      unfold spec_SigOps.l0
      repeat' first
      | (with_reducible exact ih0 _ _ _ _)
      | (with_reducible exact ih1 _ _ _ _ _ _)
      | (with_reducible exact ih2 _ _ _ _ _)
      | (with_reducible exact spec_Tokens.mono _ _)
      | (with_reducible exact LeO.refl _)
      | (with_reducible exact LeO.none _)
      | (with_reducible refine LeO.ite ?_ ?_)
      | (with_reducible refine LeO.bind ?_ (fun _ => ?_))
      | exact ih0 _ _ _ _
      | exact ih1 _ _ _ _ _ _
      | exact ih2 _ _ _ _ _
      | exact spec_Tokens.mono _ _
      | exact LeO.none _
      | refine LeO.ite ?_ ?_
      | refine LeO.bind ?_ (fun _ => ?_)
    · intro y0 y1 y2 y3 y4 y5
      unfold spec_SigOps.j1
      repeat' first
      | (with_reducible exact ih0 _ _ _ _)
      | (with_reducible exact ih1 _ _ _ _ _ _)
      | (with_reducible exact ih2 _ _ _ _ _)
      | (with_reducible exact spec_Tokens.mono _ _)
      | (with_reducible exact LeO.refl _)
      | (with_reducible exact LeO.none _)
      | (with_reducible refine LeO.ite ?_ ?_)
      | (with_reducible refine LeO.bind ?_ (fun _ => ?_))
      | exact ih0 _ _ _ _
      | exact ih1 _ _ _ _ _ _
      | exact ih2 _ _ _ _ _
      | exact spec_Tokens.mono _ _
      | exact LeO.none _
      | refine LeO.ite ?_ ?_
      | refine LeO.bind ?_ (fun _ => ?_)
    · intro y0 y1 y2 y3 y4
      unfold spec_SigOps.j2
      repeat' first
      | (with_reducible exact ih0 _ _ _ _)
      | (with_reducible exact ih1 _ _ _ _ _ _)
      | (with_reducible exact ih2 _ _ _ _ _)
      | (with_reducible exact spec_Tokens.mono _ _)
      | (with_reducible exact LeO.refl _)
      | (with_reducible exact LeO.none _)
      | (with_reducible refine LeO.ite ?_ ?_)
      | (with_reducible refine LeO.bind ?_ (fun _ => ?_))
      | exact ih0 _ _ _ _
      | exact ih1 _ _ _ _ _ _
      | exact ih2 _ _ _ _ _
      | exact spec_Tokens.mono _ _
      | exact LeO.none _
      | refine LeO.ite ?_ ?_
      | refine LeO.bind ?_ (fun _ => ?_)
theorem spec_SigOps.mono : ∀ a0 a1 k, LeO (spec_SigOps.f k a0 a1) (spec_SigOps.f (k + 1) a0 a1) := by
  intro a0 a1 k
  obtain ⟨ih0, ih1, ih2⟩ := spec_SigOps.mono_l k
  unfold spec_SigOps.f
  repeat' first
      | (with_reducible exact ih0 _ _ _ _)
      | (with_reducible exact ih1 _ _ _ _ _ _)
      | (with_reducible exact ih2 _ _ _ _ _)
      | (with_reducible exact spec_Tokens.mono _ _)
      | (with_reducible exact LeO.refl _)
      | (with_reducible exact LeO.none _)
      | (with_reducible refine LeO.ite ?_ ?_)
      | (with_reducible refine LeO.bind ?_ (fun _ => ?_))
      | exact ih0 _ _ _ _
      | exact ih1 _ _ _ _ _ _
      | exact ih2 _ _ _ _ _
      | exact spec_Tokens.mono _ _
      | exact LeO.none _
      | refine LeO.ite ?_ ?_
      | refine LeO.bind ?_ (fun _ => ?_)
set_option maxHeartbeats 8000000 in
set_option maxRecDepth 100000 in
theorem spec_SigOps.calls (k : Nat) (A0 : Option Addr) (c0 : Nat) (l0 : List Int) (a1 : Bool) (r : Int) (w : World) (hr0 : Kd.C (Kd.int .u8) w A0 l0.length l0) (hc0 : l0.length ≤ c0) (h : spec_SigOps.f k l0 a1 = some r) :
    Calls Try.prog 28 #[.slice A0 l0.length c0, .bool a1] w fun e w' => e = .returned (.int .i64 r) ∧ Below w.heap.size w w' := by
  have HR0 := Aside0.mk hr0
  have HC0 := Aside0.mk hc0
  clear hr0 hc0
  have HB := Aside0.mk (Below.refl w.heap.size w)
  have H : ((spec_Tokens.f k l0).bind fun bt135 => (spec_SigOps.l0 k a1 bt135.1 0 0)) = some r := h
  clear h
  replace H := Option.bind_eq_some_iff.mp H
  obtain ⟨⟨t135, t138⟩, A30, H⟩ := H
  replace H : (spec_SigOps.l0 k a1 t135 0 0) = some r := H
  have A3 := Aside0.mk A30
  clear A30
  have H' := Aside0.mk H
  clear H
  go_enter Try.func28, Try.ntmps28
  go_wp2_with (first | ((with_reducible refine gate_callee (f := 31) rfl ?_); refine goesL_ (some 12) rfl rfl Try.func31 (by kernel_rfl) rfl #[.slice A0 l0.length c0] rfl (by (try simp only [List.map_toArray, List.map_cons, List.map_nil]); first | done | rfl | (simp only [List.length_drop, List.length_take]; rfl)) ?_; (with_reducible refine (spec_Tokens.calls k (fun k_ => k_ < w.heap.size) _ _ l0 t135 t138 _ ?side1 A3.out).mono ?_); (case side1 => exact Kd.V_mk HC0.out (Kd.F_below (Kd.C_F (Kd.heap_int .u8) HR0.out) (by repeat (first | (with_reducible first | exact HB.out | apply below_alloc | apply pw_below_drewN | apply below_drew1) | exact HB.out)))); rintro e w4 ⟨v136, rfl, ho0, hb⟩; refine ⟨_, rfl, ?_⟩; have n0_ := Aside0.mk (Kd.N_lower (Kd.N_mono (ok' := fun k_ => True) ho0 (fun k_ hk_ => trivial)) (below_size (by repeat (first | (with_reducible first | exact HB.out | apply below_alloc | apply pw_below_drewN | apply below_drew1) | exact HB.out)))); have n1_ := Aside0.mk (below_step (by repeat (first | (with_reducible first | exact HB.out | apply below_alloc | apply pw_below_drewN | apply below_drew1) | exact HB.out)) hb); clear HB; have HO137 := n0_; have HB := n1_; clear n0_ n1_; (try clear hb); (try clear hb2); (try clear hk); (try clear hi); (try clear ho0)))
  go_loopg [7, 8] k (fun kq v7 v8 w' => ∃ (x7_1 : Int) (x8_1 : Int), v7 = .int .i64 x7_1 ∧ v8 = .int .i64 x8_1 ∧ Aside0 (spec_SigOps.l0 kq a1 t135 x7_1 x8_1 = some r) ∧ Aside0 (kq ≤ k) ∧ Aside0 (Kd.N k49 49 w' w.heap.size (fun _ => True) v136 t135) ∧ Aside0 (Below w.heap.size w w'))
  case atStart => exact ⟨(0), (0), (by first | rfl | (simp; done) | (simp [*]; done)), (by first | rfl | (simp; done) | (simp [*]; done)), H', ⟨Nat.le_refl _⟩, ⟨by (with_reducible repeat (first | apply Kd.N_alloc | apply Kd.N_drewN | apply Kd.N_drew)); exact HO137.out⟩, ⟨by repeat (first | (with_reducible first | exact HB.out | apply below_alloc | apply pw_below_drewN | apply below_drew1) | exact HB.out)⟩⟩
  case round =>
    clear H'
    try clear c2
    try clear p2
    try clear c3
    obtain ⟨x7_1, x8_1, rfl, rfl, HA, HK1, HO_5, HB⟩ := hrel
    cases gk with
    | zero => exact absurd HA.out (by simp [spec_SigOps.l0])
    | succ k1 =>
      have H := HA.out
      clear HA
      simp only [spec_SigOps.l0] at H
      by_cases c5 : x8_1 < (t135.length : Int)
      · rw [if_pos c5] at H
        have c5b0 : decide (x8_1 < (t135.length : Int)) = true := decide_eq_true c5
        clear c5
        by_cases c6 : 0 ≤ x8_1
        · rw [if_pos c6] at H
          have c6b0 : decide (0 ≤ x8_1) = true := decide_eq_true c6
          clear c6
          have HC7 := Aside0.mk H
          clear H
          obtain ⟨Ao8, co8, eo8⟩ := Kd.N_slice HO_5.out
          subst eo8
          have p139 : 0 ≤ (x8_1 : Int) := of_decide_eq_true (by first | (with_reducible assumption) | assumption)
          have q139 : x8_1 < (t135.length : Int) := of_decide_eq_true (by first | (with_reducible assumption) | assumption)
          obtain ⟨ad139, A139_1, c139_1, e139, hx139_0, hx139_1, hx139_2, hl139_1, hi139_1⟩ := at_T49 (Kd.N_reads' HO_5.out).2.2 x8_1 p139 q139
          cases e139
          obtain ⟨ce139, hce139, hMe139, hcc139⟩ := Kd.N_get HO_5.out z49 x8_1 p139 (by first | exact q139 | exact of_decide_eq_true (by first | (with_reducible assumption) | assumption) | (have e_ := (Kd.N_reads' HO_5.out).1; omega))
          obtain ⟨ua139_1, uc139_1, rfl, ul139_1, ge139_1⟩ := k49_openF hMe139
          have hv139_1 := hcc139 1 _ rfl
          rw [add_field _ _ 1 (by omega)] at hv139_1
          replace hv139_1 := Option.some.inj (hv139_1.symm.trans hx139_1)
          injection hv139_1 with hva_ hvn_ hvc_
          rw [hva_] at ge139_1
          rw [hvc_] at ul139_1
          have HL139_1 := Aside0.mk (show Kd.V (Kd.int .u8) 5 _ w.heap.size _ _ ((rd_T49 t135 x8_1).f1) from Kd.V_mk ul139_1 ge139_1)
          clear hva_ hvn_ hvc_ ge139_1 ul139_1
          clear hcc139 hce139
          have HR139_1 := Aside0.mk hi139_1
          have HC139_1 := Aside0.mk hl139_1
          clear hi139_1 hl139_1
          replace p139 := eq_true p139
          replace q139 := eq_true q139
          go_upto_if 26 with (fail)
          go_cut [26] (fun v26 wc => ∃ (kq : Nat) (x26_6 : Bool), v26 = .bool x26_6 ∧ Aside0 (spec_SigOps.j1 kq a1 t135 x7_1 x8_1 ((rd_T49 t135 x8_1).f0) x26_6 = some r) ∧ Aside0 (kq ≤ k1) ∧ Aside0 (Kd.N k49 49 wc w.heap.size (fun _ => True) (.slice (some ad139) t135.length co8) t135) ∧ Aside0 (Kd.C (Kd.int .u8) wc A139_1 ((rd_T49 t135 x8_1).f1).length ((rd_T49 t135 x8_1).f1)) ∧ Aside0 (Below w.heap.size w wc))
          case first =>
            have H := HC7.out
            clear HC7
            by_cases c9 : ((rd_T49 t135 x8_1).f0) = 172
            · rw [if_pos c9] at H
              have c9b0 : (((rd_T49 t135 x8_1).f0) == 172) = true := beq_iff_eq.mpr c9
              have c9b1 : (((rd_T49 t135 x8_1).f0) != 172) = false := bne_eq_false_iff_eq.mpr c9
              clear c9
              (first | rw [c9b0] | (simp only [i64_w, i32_w]; rw [c9b0]) | skip)
              have H' := Aside0.mk H
              clear H
              go_wp2
              go_meet
              case rel => exact ⟨_, ((((rd_T49 t135 x8_1).f0) == 172)), (by first | rfl | (simp; done) | (simp [*]; done)), H', ⟨by have := HK1.out; first | omega | exact Nat.le_refl _⟩, ⟨by (with_reducible repeat (first | apply Kd.N_alloc | apply Kd.N_drewN | apply Kd.N_drew)); exact HO_5.out⟩, ⟨by repeat (first | (with_reducible exact HR139_1.out) | (with_reducible refine Kd.C_alloc ?_ _) | (with_reducible refine Kd.C_drewN ?_ _) | (with_reducible refine Kd.C_drew ?_) | exact HR139_1.out)⟩, ⟨by repeat (first | (with_reducible first | exact HB.out | apply below_alloc | apply pw_below_drewN | apply below_drew1) | exact HB.out)⟩⟩
            · rw [if_neg c9] at H
              have c9b0 : (((rd_T49 t135 x8_1).f0) == 172) = false := beq_eq_false_iff_ne.mpr c9
              have c9b1 : (((rd_T49 t135 x8_1).f0) != 172) = true := bne_iff_ne.mpr c9
              (first | rw [c9b0] | (simp only [i64_w, i32_w]; rw [c9b0]) | skip)
              have H' := Aside0.mk H
              clear H
              go_wp2
              go_meet
              case rel => exact ⟨_, ((((rd_T49 t135 x8_1).f0) == 173)), (by first | rfl | (simp; done) | (simp [*]; done)), H', ⟨by have := HK1.out; first | omega | exact Nat.le_refl _⟩, ⟨by (with_reducible repeat (first | apply Kd.N_alloc | apply Kd.N_drewN | apply Kd.N_drew)); exact HO_5.out⟩, ⟨by repeat (first | (with_reducible exact HR139_1.out) | (with_reducible refine Kd.C_alloc ?_ _) | (with_reducible refine Kd.C_drewN ?_ _) | (with_reducible refine Kd.C_drew ?_) | exact HR139_1.out)⟩, ⟨by repeat (first | (with_reducible first | exact HB.out | apply below_alloc | apply pw_below_drewN | apply below_drew1) | exact HB.out)⟩⟩
          case rest =>
            clear HC7
            try clear c1
            try clear p1
            try clear q1
            try clear hx1
            try clear c2
            try clear p2
            try clear c3
            try clear c5
            try clear c5b0
            try clear c6
            try clear c6b0
            try clear c9
            try clear c9b0
            try clear c9b1
            try clear hx139_0
            try clear hx139_1
            try clear hx139_2
            try clear p139
            try clear p2
            try clear q139
            obtain ⟨kq, x26_6, rfl, HA, HJ6, HO_5, HR139_1, HB⟩ := hcut
            cases kq with
            | zero => exact absurd HA.out (by simp [spec_SigOps.j1])
            | succ kj6 =>
              have H := HA.out
              clear HA
              simp only [spec_SigOps.j1] at H
              by_cases c10 : x26_6 = true
              · subst c10
                have H1 : (spec_SigOps.l0 kj6 a1 t135 (wrap64 (x7_1 + 1)) (wrap64 (x8_1 + 1))) = some r := by rw [if_pos rfl] at H; exact H
                clear H
                have H := H1
                clear H1
                have H' := Aside0.mk H
                clear H
                go_wp2
                go_roundg kj6
                case measure => have := HK1.out; have := HJ6.out; omega
                case rel => exact ⟨(wrap64 (x7_1 + 1)), (wrap64 (x8_1 + 1)), (by first | rfl | (simp; done) | (simp [*]; done)), (by first | rfl | (simp; done) | (simp [*]; done)), H', ⟨by have := HK1.out; have := HJ6.out; omega⟩, ⟨by (with_reducible repeat (first | apply Kd.N_alloc | apply Kd.N_drewN | apply Kd.N_drew)); exact HO_5.out⟩, ⟨by repeat (first | (with_reducible first | exact HB.out | apply below_alloc | apply pw_below_drewN | apply below_drew1) | exact HB.out)⟩⟩
              · replace c10 := Bool.eq_false_iff.mpr c10
                subst c10
                have H1 : (if ((rd_T49 t135 x8_1).f0) = 174 then (spec_SigOps.j2 kj6 a1 t135 x7_1 x8_1 (((rd_T49 t135 x8_1).f0) == 174)) else (spec_SigOps.j2 kj6 a1 t135 x7_1 x8_1 (((rd_T49 t135 x8_1).f0) == 175))) = some r := by rw [if_neg (show ¬ (false = true) by decide)] at H; exact H
                clear H
                have H := H1
                clear H1
                have HC11 := Aside0.mk H
                clear H
                go_upto_if 31 with (fail)
                go_cut [31] (fun v31 wc => ∃ (kq : Nat) (x31_10 : Bool), v31 = .bool x31_10 ∧ Aside0 (spec_SigOps.j2 kq a1 t135 x7_1 x8_1 x31_10 = some r) ∧ Aside0 (kq ≤ kj6) ∧ Aside0 (Kd.N k49 49 wc w.heap.size (fun _ => True) (.slice (some ad139) t135.length co8) t135) ∧ Aside0 (Kd.C (Kd.int .u8) wc A139_1 ((rd_T49 t135 x8_1).f1).length ((rd_T49 t135 x8_1).f1)) ∧ Aside0 (Below w.heap.size w wc))
                case first =>
                  have H := HC11.out
                  clear HC11
                  by_cases c12 : ((rd_T49 t135 x8_1).f0) = 174
                  · rw [if_pos c12] at H
                    have c12b0 : (((rd_T49 t135 x8_1).f0) == 174) = true := beq_iff_eq.mpr c12
                    have c12b1 : (((rd_T49 t135 x8_1).f0) != 174) = false := bne_eq_false_iff_eq.mpr c12
                    clear c12
                    (first | rw [c12b0] | (simp only [i64_w, i32_w]; rw [c12b0]) | skip)
                    have H' := Aside0.mk H
                    clear H
                    go_wp2
                    go_meet
                    case rel => exact ⟨_, ((((rd_T49 t135 x8_1).f0) == 174)), (by first | rfl | (simp; done) | (simp [*]; done)), H', ⟨by have := HK1.out; have := HJ6.out; first | omega | exact Nat.le_refl _⟩, ⟨by (with_reducible repeat (first | apply Kd.N_alloc | apply Kd.N_drewN | apply Kd.N_drew)); exact HO_5.out⟩, ⟨by repeat (first | (with_reducible exact HR139_1.out) | (with_reducible refine Kd.C_alloc ?_ _) | (with_reducible refine Kd.C_drewN ?_ _) | (with_reducible refine Kd.C_drew ?_) | exact HR139_1.out)⟩, ⟨by repeat (first | (with_reducible first | exact HB.out | apply below_alloc | apply pw_below_drewN | apply below_drew1) | exact HB.out)⟩⟩
                  · rw [if_neg c12] at H
                    have c12b0 : (((rd_T49 t135 x8_1).f0) == 174) = false := beq_eq_false_iff_ne.mpr c12
                    have c12b1 : (((rd_T49 t135 x8_1).f0) != 174) = true := bne_iff_ne.mpr c12
                    (first | rw [c12b0] | (simp only [i64_w, i32_w]; rw [c12b0]) | skip)
                    have H' := Aside0.mk H
                    clear H
                    go_wp2
                    go_meet
                    case rel => exact ⟨_, ((((rd_T49 t135 x8_1).f0) == 175)), (by first | rfl | (simp; done) | (simp [*]; done)), H', ⟨by have := HK1.out; have := HJ6.out; first | omega | exact Nat.le_refl _⟩, ⟨by (with_reducible repeat (first | apply Kd.N_alloc | apply Kd.N_drewN | apply Kd.N_drew)); exact HO_5.out⟩, ⟨by repeat (first | (with_reducible exact HR139_1.out) | (with_reducible refine Kd.C_alloc ?_ _) | (with_reducible refine Kd.C_drewN ?_ _) | (with_reducible refine Kd.C_drew ?_) | exact HR139_1.out)⟩, ⟨by repeat (first | (with_reducible first | exact HB.out | apply below_alloc | apply pw_below_drewN | apply below_drew1) | exact HB.out)⟩⟩
                case rest =>
                  clear HC11
                  try clear c1
                  try clear p1
                  try clear q1
                  try clear hx1
                  try clear c2
                  try clear p2
                  try clear c3
                  try clear c5
                  try clear c5b0
                  try clear c6
                  try clear c6b0
                  try clear p6
                  try clear c9
                  try clear c9b0
                  try clear c9b1
                  try clear c10
                  try clear c12
                  try clear c12b0
                  try clear c12b1
                  try clear hx139_0
                  try clear hx139_1
                  try clear hx139_2
                  try clear p1
                  try clear p139
                  try clear p2
                  try clear q1
                  try clear q139
                  obtain ⟨kq, x31_10, rfl, HA, HJ10, HO_5, HR139_1, HB⟩ := hcut
                  cases kq with
                  | zero => exact absurd HA.out (by simp [spec_SigOps.j2])
                  | succ kj10 =>
                    have H := HA.out
                    clear HA
                    simp only [spec_SigOps.j2] at H
                    by_cases c13 : x31_10 = true
                    · subst c13
                      have H1 : (if a1 = true then (if x8_1 > 0 then (if 0 ≤ (wrap64 (x8_1 - 1)) then (if (wrap64 (x8_1 - 1)) < (t135.length : Int) then (if ((rd_T49 t135 (wrap64 (x8_1 - 1))).f0) ≥ 81 then (if ((rd_T49 t135 (wrap64 (x8_1 - 1))).f0) ≤ 96 then (spec_SigOps.l0 kj10 a1 t135 (wrap64 (x7_1 + (wrap64 ((wrap64 (((rd_T49 t135 (wrap64 (x8_1 - 1))).f0) - 81)) + 1)))) (wrap64 (x8_1 + 1))) else (spec_SigOps.l0 kj10 a1 t135 (wrap64 (x7_1 + 20)) (wrap64 (x8_1 + 1)))) else (spec_SigOps.l0 kj10 a1 t135 (wrap64 (x7_1 + 20)) (wrap64 (x8_1 + 1)))) else (none)) else (none)) else (spec_SigOps.l0 kj10 a1 t135 (wrap64 (x7_1 + 20)) (wrap64 (x8_1 + 1)))) else (spec_SigOps.l0 kj10 a1 t135 (wrap64 (x7_1 + 20)) (wrap64 (x8_1 + 1)))) = some r := by rw [if_pos rfl] at H; exact H
                      clear H
                      have H := H1
                      clear H1
                      by_cases c14 : a1 = true
                      · subst c14
                        have H1 : (if x8_1 > 0 then (if 0 ≤ (wrap64 (x8_1 - 1)) then (if (wrap64 (x8_1 - 1)) < (t135.length : Int) then (if ((rd_T49 t135 (wrap64 (x8_1 - 1))).f0) ≥ 81 then (if ((rd_T49 t135 (wrap64 (x8_1 - 1))).f0) ≤ 96 then (spec_SigOps.l0 kj10 true t135 (wrap64 (x7_1 + (wrap64 ((wrap64 (((rd_T49 t135 (wrap64 (x8_1 - 1))).f0) - 81)) + 1)))) (wrap64 (x8_1 + 1))) else (spec_SigOps.l0 kj10 true t135 (wrap64 (x7_1 + 20)) (wrap64 (x8_1 + 1)))) else (spec_SigOps.l0 kj10 true t135 (wrap64 (x7_1 + 20)) (wrap64 (x8_1 + 1)))) else (none)) else (none)) else (spec_SigOps.l0 kj10 true t135 (wrap64 (x7_1 + 20)) (wrap64 (x8_1 + 1)))) = some r := by rw [if_pos rfl] at H; exact H
                        clear H
                        have H := H1
                        clear H1
                        by_cases c15 : x8_1 > 0
                        · rw [if_pos c15] at H
                          have c15b0 : decide (0 < x8_1) = true := decide_eq_true c15
                          clear c15
                          obtain ⟨ji16, hji16⟩ : ∃ j_ : Int, (wrap64 (x8_1 - 1)) = j_ := ⟨_, rfl⟩
                          replace H : (if 0 ≤ (ji16) then (if (ji16) < (t135.length : Int) then (if ((rd_T49 t135 (ji16)).f0) ≥ 81 then (if ((rd_T49 t135 (ji16)).f0) ≤ 96 then (spec_SigOps.l0 kj10 true t135 (wrap64 (x7_1 + (wrap64 ((wrap64 (((rd_T49 t135 (ji16)).f0) - 81)) + 1)))) (wrap64 (x8_1 + 1))) else (spec_SigOps.l0 kj10 true t135 (wrap64 (x7_1 + 20)) (wrap64 (x8_1 + 1)))) else (spec_SigOps.l0 kj10 true t135 (wrap64 (x7_1 + 20)) (wrap64 (x8_1 + 1)))) else (none)) else (none)) = some r := by first | (rw [hji16] at H; exact H) | (simp only [hji16] at H ⊢; exact H)
                          have hji16w : (IntKind.i64.wrap (x8_1 - 1)) = ji16 := (i64_w _).trans hji16
                          by_cases c17 : 0 ≤ (ji16)
                          · rw [if_pos c17] at H
                            have c17b0 : decide (0 ≤ (ji16)) = true := decide_eq_true c17
                            clear c17
                            by_cases c18 : (ji16) < (t135.length : Int)
                            · rw [if_pos c18] at H
                              have c18b0 : decide ((ji16) < (t135.length : Int)) = true := decide_eq_true c18
                              clear c18
                              by_cases c19 : ((rd_T49 t135 (ji16)).f0) ≥ 81
                              · rw [if_pos c19] at H
                                have c19b0 : decide (81 ≤ ((rd_T49 t135 (ji16)).f0)) = true := decide_eq_true c19
                                clear c19
                                by_cases c20 : ((rd_T49 t135 (ji16)).f0) ≤ 96
                                · rw [if_pos c20] at H
                                  have c20b0 : decide (((rd_T49 t135 (ji16)).f0) ≤ 96) = true := decide_eq_true c20
                                  clear c20
                                  have H' := Aside0.mk H
                                  clear H
                                  have p140 : 0 ≤ ((ji16) : Int) := of_decide_eq_true (by first | (with_reducible assumption) | assumption)
                                  have q140 : (ji16) < (t135.length : Int) := of_decide_eq_true (by first | (with_reducible assumption) | assumption)
                                  obtain ⟨ad140, A140_1, c140_1, e140, hx140_0, hx140_1, hx140_2, hl140_1, hi140_1⟩ := at_T49 (Kd.N_reads' HO_5.out).2.2 (ji16) p140 q140
                                  obtain rfl : ad139 = ad140 := (by injection e140)
                                  obtain ⟨ce140, hce140, hMe140, hcc140⟩ := Kd.N_get HO_5.out z49 (ji16) p140 (by first | exact q140 | exact of_decide_eq_true (by first | (with_reducible assumption) | assumption) | (have e_ := (Kd.N_reads' HO_5.out).1; omega))
                                  obtain ⟨ua140_1, uc140_1, rfl, ul140_1, ge140_1⟩ := k49_openF hMe140
                                  have hv140_1 := hcc140 1 _ rfl
                                  rw [add_field _ _ 1 (by omega)] at hv140_1
                                  replace hv140_1 := Option.some.inj (hv140_1.symm.trans hx140_1)
                                  injection hv140_1 with hva_ hvn_ hvc_
                                  rw [hva_] at ge140_1
                                  rw [hvc_] at ul140_1
                                  have HL140_1 := Aside0.mk (show Kd.V (Kd.int .u8) 5 _ w.heap.size _ _ ((rd_T49 t135 (ji16)).f1) from Kd.V_mk ul140_1 ge140_1)
                                  clear hva_ hvn_ hvc_ ge140_1 ul140_1
                                  clear hcc140 hce140
                                  have HR140_1 := Aside0.mk hi140_1
                                  have HC140_1 := Aside0.mk hl140_1
                                  clear hi140_1 hl140_1
                                  replace p140 := eq_true p140
                                  replace q140 := eq_true q140
                                  have p141 : 0 ≤ ((ji16) : Int) := of_decide_eq_true (by first | (with_reducible assumption) | assumption)
                                  have q141 : (ji16) < (t135.length : Int) := of_decide_eq_true (by first | (with_reducible assumption) | assumption)
                                  obtain ⟨ad141, A141_1, c141_1, e141, hx141_0, hx141_1, hx141_2, hl141_1, hi141_1⟩ := at_T49 (Kd.N_reads' HO_5.out).2.2 (ji16) p141 q141
                                  obtain rfl : ad139 = ad141 := (by injection e141)
                                  obtain ⟨ce141, hce141, hMe141, hcc141⟩ := Kd.N_get HO_5.out z49 (ji16) p141 (by first | exact q141 | exact of_decide_eq_true (by first | (with_reducible assumption) | assumption) | (have e_ := (Kd.N_reads' HO_5.out).1; omega))
                                  obtain ⟨ua141_1, uc141_1, rfl, ul141_1, ge141_1⟩ := k49_openF hMe141
                                  have hv141_1 := hcc141 1 _ rfl
                                  rw [add_field _ _ 1 (by omega)] at hv141_1
                                  replace hv141_1 := Option.some.inj (hv141_1.symm.trans hx141_1)
                                  injection hv141_1 with hva_ hvn_ hvc_
                                  rw [hva_] at ge141_1
                                  rw [hvc_] at ul141_1
                                  have HL141_1 := Aside0.mk (show Kd.V (Kd.int .u8) 5 _ w.heap.size _ _ ((rd_T49 t135 (ji16)).f1) from Kd.V_mk ul141_1 ge141_1)
                                  clear hva_ hvn_ hvc_ ge141_1 ul141_1
                                  clear hcc141 hce141
                                  have HR141_1 := Aside0.mk hi141_1
                                  have HC141_1 := Aside0.mk hl141_1
                                  clear hi141_1 hl141_1
                                  replace p141 := eq_true p141
                                  replace q141 := eq_true q141
                                  have ea_ := Option.some.inj (hx140_1.symm.trans hx141_1)
                                  injection ea_ with ea_ en_ ec_
                                  subst ea_
                                  subst ec_
                                  clear en_
                                  have p142 : 0 ≤ ((ji16) : Int) := of_decide_eq_true (by first | (with_reducible assumption) | assumption)
                                  have q142 : (ji16) < (t135.length : Int) := of_decide_eq_true (by first | (with_reducible assumption) | assumption)
                                  obtain ⟨ad142, A142_1, c142_1, e142, hx142_0, hx142_1, hx142_2, hl142_1, hi142_1⟩ := at_T49 (Kd.N_reads' HO_5.out).2.2 (ji16) p142 q142
                                  obtain rfl : ad139 = ad142 := (by injection e142)
                                  obtain ⟨ce142, hce142, hMe142, hcc142⟩ := Kd.N_get HO_5.out z49 (ji16) p142 (by first | exact q142 | exact of_decide_eq_true (by first | (with_reducible assumption) | assumption) | (have e_ := (Kd.N_reads' HO_5.out).1; omega))
                                  obtain ⟨ua142_1, uc142_1, rfl, ul142_1, ge142_1⟩ := k49_openF hMe142
                                  have hv142_1 := hcc142 1 _ rfl
                                  rw [add_field _ _ 1 (by omega)] at hv142_1
                                  replace hv142_1 := Option.some.inj (hv142_1.symm.trans hx142_1)
                                  injection hv142_1 with hva_ hvn_ hvc_
                                  rw [hva_] at ge142_1
                                  rw [hvc_] at ul142_1
                                  have HL142_1 := Aside0.mk (show Kd.V (Kd.int .u8) 5 _ w.heap.size _ _ ((rd_T49 t135 (ji16)).f1) from Kd.V_mk ul142_1 ge142_1)
                                  clear hva_ hvn_ hvc_ ge142_1 ul142_1
                                  clear hcc142 hce142
                                  have HR142_1 := Aside0.mk hi142_1
                                  have HC142_1 := Aside0.mk hl142_1
                                  clear hi142_1 hl142_1
                                  replace p142 := eq_true p142
                                  replace q142 := eq_true q142
                                  have ea_ := Option.some.inj (hx140_1.symm.trans hx142_1)
                                  injection ea_ with ea_ en_ ec_
                                  subst ea_
                                  subst ec_
                                  clear en_
                                  go_wp2
                                  go_roundg kj10
                                  case measure => have := HK1.out; have := HJ6.out; have := HJ10.out; omega
                                  case rel => exact ⟨(wrap64 (x7_1 + (wrap64 ((wrap64 (((rd_T49 t135 (ji16)).f0) - 81)) + 1)))), (wrap64 (x8_1 + 1)), (by first | rfl | (simp; done) | (simp only [← hji16] <;> (first | rfl | simp)) | (simp [*]; done)), (by first | rfl | (simp; done) | (simp [*]; done)), H', ⟨by have := HK1.out; have := HJ6.out; have := HJ10.out; omega⟩, ⟨by (with_reducible repeat (first | apply Kd.N_alloc | apply Kd.N_drewN | apply Kd.N_drew)); exact HO_5.out⟩, ⟨by repeat (first | (with_reducible first | exact HB.out | apply below_alloc | apply pw_below_drewN | apply below_drew1) | exact HB.out)⟩⟩
                                · rw [if_neg c20] at H
                                  have c20b0 : decide (((rd_T49 t135 (ji16)).f0) ≤ 96) = false := decide_eq_false c20
                                  clear c20
                                  have H' := Aside0.mk H
                                  clear H
                                  have p140 : 0 ≤ ((ji16) : Int) := of_decide_eq_true (by first | (with_reducible assumption) | assumption)
                                  have q140 : (ji16) < (t135.length : Int) := of_decide_eq_true (by first | (with_reducible assumption) | assumption)
                                  obtain ⟨ad140, A140_1, c140_1, e140, hx140_0, hx140_1, hx140_2, hl140_1, hi140_1⟩ := at_T49 (Kd.N_reads' HO_5.out).2.2 (ji16) p140 q140
                                  obtain rfl : ad139 = ad140 := (by injection e140)
                                  obtain ⟨ce140, hce140, hMe140, hcc140⟩ := Kd.N_get HO_5.out z49 (ji16) p140 (by first | exact q140 | exact of_decide_eq_true (by first | (with_reducible assumption) | assumption) | (have e_ := (Kd.N_reads' HO_5.out).1; omega))
                                  obtain ⟨ua140_1, uc140_1, rfl, ul140_1, ge140_1⟩ := k49_openF hMe140
                                  have hv140_1 := hcc140 1 _ rfl
                                  rw [add_field _ _ 1 (by omega)] at hv140_1
                                  replace hv140_1 := Option.some.inj (hv140_1.symm.trans hx140_1)
                                  injection hv140_1 with hva_ hvn_ hvc_
                                  rw [hva_] at ge140_1
                                  rw [hvc_] at ul140_1
                                  have HL140_1 := Aside0.mk (show Kd.V (Kd.int .u8) 5 _ w.heap.size _ _ ((rd_T49 t135 (ji16)).f1) from Kd.V_mk ul140_1 ge140_1)
                                  clear hva_ hvn_ hvc_ ge140_1 ul140_1
                                  clear hcc140 hce140
                                  have HR140_1 := Aside0.mk hi140_1
                                  have HC140_1 := Aside0.mk hl140_1
                                  clear hi140_1 hl140_1
                                  replace p140 := eq_true p140
                                  replace q140 := eq_true q140
                                  have p141 : 0 ≤ ((ji16) : Int) := of_decide_eq_true (by first | (with_reducible assumption) | assumption)
                                  have q141 : (ji16) < (t135.length : Int) := of_decide_eq_true (by first | (with_reducible assumption) | assumption)
                                  obtain ⟨ad141, A141_1, c141_1, e141, hx141_0, hx141_1, hx141_2, hl141_1, hi141_1⟩ := at_T49 (Kd.N_reads' HO_5.out).2.2 (ji16) p141 q141
                                  obtain rfl : ad139 = ad141 := (by injection e141)
                                  obtain ⟨ce141, hce141, hMe141, hcc141⟩ := Kd.N_get HO_5.out z49 (ji16) p141 (by first | exact q141 | exact of_decide_eq_true (by first | (with_reducible assumption) | assumption) | (have e_ := (Kd.N_reads' HO_5.out).1; omega))
                                  obtain ⟨ua141_1, uc141_1, rfl, ul141_1, ge141_1⟩ := k49_openF hMe141
                                  have hv141_1 := hcc141 1 _ rfl
                                  rw [add_field _ _ 1 (by omega)] at hv141_1
                                  replace hv141_1 := Option.some.inj (hv141_1.symm.trans hx141_1)
                                  injection hv141_1 with hva_ hvn_ hvc_
                                  rw [hva_] at ge141_1
                                  rw [hvc_] at ul141_1
                                  have HL141_1 := Aside0.mk (show Kd.V (Kd.int .u8) 5 _ w.heap.size _ _ ((rd_T49 t135 (ji16)).f1) from Kd.V_mk ul141_1 ge141_1)
                                  clear hva_ hvn_ hvc_ ge141_1 ul141_1
                                  clear hcc141 hce141
                                  have HR141_1 := Aside0.mk hi141_1
                                  have HC141_1 := Aside0.mk hl141_1
                                  clear hi141_1 hl141_1
                                  replace p141 := eq_true p141
                                  replace q141 := eq_true q141
                                  have ea_ := Option.some.inj (hx140_1.symm.trans hx141_1)
                                  injection ea_ with ea_ en_ ec_
                                  subst ea_
                                  subst ec_
                                  clear en_
                                  go_wp2
                                  go_roundg kj10
                                  case measure => have := HK1.out; have := HJ6.out; have := HJ10.out; omega
                                  case rel => exact ⟨(wrap64 (x7_1 + 20)), (wrap64 (x8_1 + 1)), (by first | rfl | (simp; done) | (simp [*]; done)), (by first | rfl | (simp; done) | (simp [*]; done)), H', ⟨by have := HK1.out; have := HJ6.out; have := HJ10.out; omega⟩, ⟨by (with_reducible repeat (first | apply Kd.N_alloc | apply Kd.N_drewN | apply Kd.N_drew)); exact HO_5.out⟩, ⟨by repeat (first | (with_reducible first | exact HB.out | apply below_alloc | apply pw_below_drewN | apply below_drew1) | exact HB.out)⟩⟩
                              · rw [if_neg c19] at H
                                have c19b0 : decide (81 ≤ ((rd_T49 t135 (ji16)).f0)) = false := decide_eq_false c19
                                clear c19
                                have H' := Aside0.mk H
                                clear H
                                have p140 : 0 ≤ ((ji16) : Int) := of_decide_eq_true (by first | (with_reducible assumption) | assumption)
                                have q140 : (ji16) < (t135.length : Int) := of_decide_eq_true (by first | (with_reducible assumption) | assumption)
                                obtain ⟨ad140, A140_1, c140_1, e140, hx140_0, hx140_1, hx140_2, hl140_1, hi140_1⟩ := at_T49 (Kd.N_reads' HO_5.out).2.2 (ji16) p140 q140
                                obtain rfl : ad139 = ad140 := (by injection e140)
                                obtain ⟨ce140, hce140, hMe140, hcc140⟩ := Kd.N_get HO_5.out z49 (ji16) p140 (by first | exact q140 | exact of_decide_eq_true (by first | (with_reducible assumption) | assumption) | (have e_ := (Kd.N_reads' HO_5.out).1; omega))
                                obtain ⟨ua140_1, uc140_1, rfl, ul140_1, ge140_1⟩ := k49_openF hMe140
                                have hv140_1 := hcc140 1 _ rfl
                                rw [add_field _ _ 1 (by omega)] at hv140_1
                                replace hv140_1 := Option.some.inj (hv140_1.symm.trans hx140_1)
                                injection hv140_1 with hva_ hvn_ hvc_
                                rw [hva_] at ge140_1
                                rw [hvc_] at ul140_1
                                have HL140_1 := Aside0.mk (show Kd.V (Kd.int .u8) 5 _ w.heap.size _ _ ((rd_T49 t135 (ji16)).f1) from Kd.V_mk ul140_1 ge140_1)
                                clear hva_ hvn_ hvc_ ge140_1 ul140_1
                                clear hcc140 hce140
                                have HR140_1 := Aside0.mk hi140_1
                                have HC140_1 := Aside0.mk hl140_1
                                clear hi140_1 hl140_1
                                replace p140 := eq_true p140
                                replace q140 := eq_true q140
                                go_wp2
                                go_roundg kj10
                                case measure => have := HK1.out; have := HJ6.out; have := HJ10.out; omega
                                case rel => exact ⟨(wrap64 (x7_1 + 20)), (wrap64 (x8_1 + 1)), (by first | rfl | (simp; done) | (simp [*]; done)), (by first | rfl | (simp; done) | (simp [*]; done)), H', ⟨by have := HK1.out; have := HJ6.out; have := HJ10.out; omega⟩, ⟨by (with_reducible repeat (first | apply Kd.N_alloc | apply Kd.N_drewN | apply Kd.N_drew)); exact HO_5.out⟩, ⟨by repeat (first | (with_reducible first | exact HB.out | apply below_alloc | apply pw_below_drewN | apply below_drew1) | exact HB.out)⟩⟩
                            · rw [if_neg c18] at H
                              exact absurd H (by simp)
                          · rw [if_neg c17] at H
                            exact absurd H (by simp)
                        · rw [if_neg c15] at H
                          have c15b0 : decide (0 < x8_1) = false := decide_eq_false c15
                          clear c15
                          have H' := Aside0.mk H
                          clear H
                          go_wp2
                          go_roundg kj10
                          case measure => have := HK1.out; have := HJ6.out; have := HJ10.out; omega
                          case rel => exact ⟨(wrap64 (x7_1 + 20)), (wrap64 (x8_1 + 1)), (by first | rfl | (simp; done) | (simp [*]; done)), (by first | rfl | (simp; done) | (simp [*]; done)), H', ⟨by have := HK1.out; have := HJ6.out; have := HJ10.out; omega⟩, ⟨by (with_reducible repeat (first | apply Kd.N_alloc | apply Kd.N_drewN | apply Kd.N_drew)); exact HO_5.out⟩, ⟨by repeat (first | (with_reducible first | exact HB.out | apply below_alloc | apply pw_below_drewN | apply below_drew1) | exact HB.out)⟩⟩
                      · replace c14 := Bool.eq_false_iff.mpr c14
                        subst c14
                        have H1 : (spec_SigOps.l0 kj10 false t135 (wrap64 (x7_1 + 20)) (wrap64 (x8_1 + 1))) = some r := by rw [if_neg (show ¬ (false = true) by decide)] at H; exact H
                        clear H
                        have H := H1
                        clear H1
                        have H' := Aside0.mk H
                        clear H
                        go_wp2
                        go_roundg kj10
                        case measure => have := HK1.out; have := HJ6.out; have := HJ10.out; omega
                        case rel => exact ⟨(wrap64 (x7_1 + 20)), (wrap64 (x8_1 + 1)), (by first | rfl | (simp; done) | (simp [*]; done)), (by first | rfl | (simp; done) | (simp [*]; done)), H', ⟨by have := HK1.out; have := HJ6.out; have := HJ10.out; omega⟩, ⟨by (with_reducible repeat (first | apply Kd.N_alloc | apply Kd.N_drewN | apply Kd.N_drew)); exact HO_5.out⟩, ⟨by repeat (first | (with_reducible first | exact HB.out | apply below_alloc | apply pw_below_drewN | apply below_drew1) | exact HB.out)⟩⟩
                    · replace c13 := Bool.eq_false_iff.mpr c13
                      subst c13
                      have H1 : (spec_SigOps.l0 kj10 a1 t135 x7_1 (wrap64 (x8_1 + 1))) = some r := by rw [if_neg (show ¬ (false = true) by decide)] at H; exact H
                      clear H
                      have H := H1
                      clear H1
                      have H' := Aside0.mk H
                      clear H
                      go_wp2
                      go_roundg kj10
                      case measure => have := HK1.out; have := HJ6.out; have := HJ10.out; omega
                      case rel => exact ⟨(x7_1), (wrap64 (x8_1 + 1)), (by first | rfl | (simp; done) | (simp [*]; done)), (by first | rfl | (simp; done) | (simp [*]; done)), H', ⟨by have := HK1.out; have := HJ6.out; have := HJ10.out; omega⟩, ⟨by (with_reducible repeat (first | apply Kd.N_alloc | apply Kd.N_drewN | apply Kd.N_drew)); exact HO_5.out⟩, ⟨by repeat (first | (with_reducible first | exact HB.out | apply below_alloc | apply pw_below_drewN | apply below_drew1) | exact HB.out)⟩⟩
        · rw [if_neg c6] at H
          exact absurd H (by simp)
      · rw [if_neg c5] at H
        have c5b0 : decide (x8_1 < (t135.length : Int)) = false := decide_eq_false c5
        clear c5
        obtain rfl := Option.some.inj H
        obtain ⟨Ao21, co21, eo21⟩ := Kd.N_slice HO_5.out
        subst eo21
        go_wp2
        go_ret
        exact ⟨by first | rfl | (simp [errW_none, errW_some] <;> rfl) | (simp [*, errW_none, errW_some] <;> rfl), by repeat (first | (with_reducible first | exact HB.out | apply below_alloc | apply pw_below_drewN | apply below_drew1) | exact HB.out)⟩

-- NOT PRINTED: function 7 (laws_FnSigOps)

end Go.Proofs.Ytmebcbmnfnlihaa.PFnSigOps
