import Derived.Test.YtafpmdmmeohmfaaPFnClassx0
import Derived.Test.YtafpmdmmeohmfaaQFnClassx1
namespace Go.Proofs.Ytafpmdmmeohmfaa.PFnClass
open Go.RowKit Go.Proofs.YtafpmdmmeohmfaaW.PrintWords Go.Proofs.YtafpmdmmeohmfaaW.PrintLast Go.Proofs.YtafpmdmmeohmfaaW.PrintMore
attribute [local go_sem] max2_int min2_int max_two min_two max_three min_three max_four min_four   -- for this text's walks alone
set_option linter.unusedVariables false
set_option linter.unusedSimpArgs false

/-! ### laws_hybrid: function 13 -/
noncomputable def laws_hybrid.l0 : Nat → List (S27) → Int → Option (Bool)
  | 0, _, _ => none
  | k + 1, x3, x5 => if x5 < (x3.length : Int) then (if 0 ≤ x5 then (if (((rd_T27 x3 x5).f1).length : Int) = 65 then (if 0 < (((rd_T27 x3 x5).f1).length : Int) then (if (rd ((rd_T27 x3 x5).f1) 0) = 6 then (some true) else (if (rd ((rd_T27 x3 x5).f1) 0) = 7 then (some true) else (laws_hybrid.l0 k x3 (wrap64 (x5 + 1))))) else (none)) else (laws_hybrid.l0 k x3 (wrap64 (x5 + 1)))) else (none)) else (some false)
noncomputable def laws_hybrid.f (k : Nat) (l0 : List Int) : Option (Bool) := (spec_Tokens.f k l0).bind fun bt134 => (laws_hybrid.l0 k bt134.1 0)
theorem laws_hybrid.mono_l : ∀ k, (∀ y0 y1, LeO (laws_hybrid.l0 k y0 y1) (laws_hybrid.l0 (k + 1) y0 y1))
  | 0 => fun _ _ r h => by simp [laws_hybrid.l0] at h
  | k + 1 => by
    have ih0 := laws_hybrid.mono_l k
    · intro y0 y1
      unfold laws_hybrid.l0
      repeat' first
      | (with_reducible exact ih0 _ _)
      | (with_reducible exact spec_Tokens.mono _ _)
      | (with_reducible exact LeO.refl _)
      | (with_reducible exact LeO.none _)
      | (with_reducible refine LeO.ite ?_ ?_)
      | (with_reducible refine LeO.bind ?_ (fun _ => ?_))
      | exact ih0 _ _
      | exact spec_Tokens.mono _ _
      | exact LeO.none _
      | refine LeO.ite ?_ ?_
      | refine LeO.bind ?_ (fun _ => ?_)
theorem laws_hybrid.mono : ∀ a0 k, LeO (laws_hybrid.f k a0) (laws_hybrid.f (k + 1) a0) := by
  intro a0 k
  have ih0 := laws_hybrid.mono_l k
  unfold laws_hybrid.f
  repeat' first
      | (with_reducible exact ih0 _ _)
      | (with_reducible exact spec_Tokens.mono _ _)
      | (with_reducible exact LeO.refl _)
      | (with_reducible exact LeO.none _)
      | (with_reducible refine LeO.ite ?_ ?_)
      | (with_reducible refine LeO.bind ?_ (fun _ => ?_))
      | exact ih0 _ _
      | exact spec_Tokens.mono _ _
      | exact LeO.none _
      | refine LeO.ite ?_ ?_
      | refine LeO.bind ?_ (fun _ => ?_)
set_option maxHeartbeats 8000000 in
set_option maxRecDepth 100000 in
theorem laws_hybrid.calls (k : Nat) (A0 : Option Addr) (c0 : Nat) (l0 : List Int) (r : Bool) (w : World) (hr0 : Kd.C (Kd.int .u8) w A0 l0.length l0) (hc0 : l0.length ≤ c0) (h : laws_hybrid.f k l0 = some r) :
    Calls Try.prog 13 #[.slice A0 l0.length c0] w fun e w' => e = .returned (.bool r) ∧ Below w.heap.size w w' := by
  have HR0 := Aside0.mk hr0
  have HC0 := Aside0.mk hc0
  clear hr0 hc0
  have HB := Aside0.mk (Below.refl w.heap.size w)
  have H : ((spec_Tokens.f k l0).bind fun bt134 => (laws_hybrid.l0 k bt134.1 0)) = some r := h
  clear h
  replace H := Option.bind_eq_some_iff.mp H
  obtain ⟨⟨t134, t137⟩, A20, H⟩ := H
  replace H : (laws_hybrid.l0 k t134 0) = some r := H
  have A2 := Aside0.mk A20
  clear A20
  have H' := Aside0.mk H
  clear H
  go_enter Try.func13, Try.ntmps13
  go_wp2_with (first | ((with_reducible refine gate_callee (f := 5) rfl ?_); refine goesL_ (some 9) rfl rfl Try.func5 (by kernel_rfl) rfl #[.slice A0 l0.length c0] rfl (by (try simp only [List.map_toArray, List.map_cons, List.map_nil]); first | done | rfl | (simp only [List.length_drop, List.length_take]; rfl)) ?_; (with_reducible refine (spec_Tokens.calls k (fun k_ => k_ < w.heap.size) _ _ l0 t134 t137 _ ?side1 A2.out).mono ?_); (case side1 => exact Kd.V_mk HC0.out (Kd.F_below (Kd.C_F (Kd.heap_int .u8) HR0.out) (by repeat (first | (with_reducible first | exact HB.out | apply below_alloc | apply pw_below_drewN | apply below_drew1) | exact HB.out)))); rintro e w3 ⟨v135, rfl, ho0, hb⟩; refine ⟨_, rfl, ?_⟩; have n0_ := Aside0.mk (Kd.N_lower (Kd.N_mono (ok' := fun k_ => True) ho0 (fun k_ hk_ => trivial)) (below_size (by repeat (first | (with_reducible first | exact HB.out | apply below_alloc | apply pw_below_drewN | apply below_drew1) | exact HB.out)))); have n1_ := Aside0.mk (below_step (by repeat (first | (with_reducible first | exact HB.out | apply below_alloc | apply pw_below_drewN | apply below_drew1) | exact HB.out)) hb); clear HB; have HO136 := n0_; have HB := n1_; clear n0_ n1_; (try clear hb); (try clear hb2); (try clear hk); (try clear hi); (try clear ho0)))
  go_loopg [5] k (fun kq v5 w' => ∃ (x5_1 : Int), v5 = .int .i64 x5_1 ∧ Aside0 (laws_hybrid.l0 kq t134 x5_1 = some r) ∧ Aside0 (kq ≤ k) ∧ Aside0 (Kd.N k27 27 w' w.heap.size (fun _ => True) v135 t134) ∧ Aside0 (Below w.heap.size w w'))
  case atStart => exact ⟨(0), (by first | rfl | (simp; done) | (simp [*]; done)), H', ⟨Nat.le_refl _⟩, ⟨by (with_reducible repeat (first | apply Kd.N_alloc | apply Kd.N_drewN | apply Kd.N_drew)); exact HO136.out⟩, ⟨by repeat (first | (with_reducible first | exact HB.out | apply below_alloc | apply pw_below_drewN | apply below_drew1) | exact HB.out)⟩⟩
  case round =>
    clear H'
    try clear c1
    try clear p2
    obtain ⟨x5_1, rfl, HA, HK1, HO_3, HB⟩ := hrel
    cases gk with
    | zero => exact absurd HA.out (by simp [laws_hybrid.l0])
    | succ k1 =>
      have H := HA.out
      clear HA
      simp only [laws_hybrid.l0] at H
      by_cases c4 : x5_1 < (t134.length : Int)
      · rw [if_pos c4] at H
        have c4b0 : decide (x5_1 < (t134.length : Int)) = true := decide_eq_true c4
        clear c4
        by_cases c5 : 0 ≤ x5_1
        · rw [if_pos c5] at H
          have c5b0 : decide (0 ≤ x5_1) = true := decide_eq_true c5
          clear c5
          by_cases c6 : (((rd_T27 t134 x5_1).f1).length : Int) = 65
          · rw [if_pos c6] at H
            have c6b0 : ((((rd_T27 t134 x5_1).f1).length : Int) == 65) = true := beq_iff_eq.mpr c6
            have c6b1 : ((((rd_T27 t134 x5_1).f1).length : Int) != 65) = false := bne_eq_false_iff_eq.mpr c6
            clear c6
            by_cases c7 : 0 < (((rd_T27 t134 x5_1).f1).length : Int)
            · rw [if_pos c7] at H
              have c7b0 : decide (0 < (((rd_T27 t134 x5_1).f1).length : Int)) = true := decide_eq_true c7
              have c7b1 : decide (0 < ((rd_T27 t134 x5_1).f1).length) = true := decide_eq_true (by omega)
              clear c7
              by_cases c8 : (rd ((rd_T27 t134 x5_1).f1) 0) = 6
              · rw [if_pos c8] at H
                have c8b0 : ((rd ((rd_T27 t134 x5_1).f1) 0) == 6) = true := beq_iff_eq.mpr c8
                have c8b1 : ((rd ((rd_T27 t134 x5_1).f1) 0) != 6) = false := bne_eq_false_iff_eq.mpr c8
                clear c8
                obtain rfl := Option.some.inj H
                obtain ⟨Ao9, co9, eo9⟩ := Kd.N_slice HO_3.out
                subst eo9
                have p138 : 0 ≤ (x5_1 : Int) := of_decide_eq_true (by first | (with_reducible assumption) | assumption)
                have q138 : x5_1 < (t134.length : Int) := of_decide_eq_true (by first | (with_reducible assumption) | assumption)
                obtain ⟨ad138, A138_1, c138_1, e138, hx138_0, hx138_1, hx138_2, hl138_1, hi138_1⟩ := at_T27 (Kd.N_reads' HO_3.out).2.2 x5_1 p138 q138
                cases e138
                obtain ⟨ce138, hce138, hMe138, hcc138⟩ := Kd.N_get HO_3.out z27 x5_1 p138 (by first | exact q138 | exact of_decide_eq_true (by first | (with_reducible assumption) | assumption) | (have e_ := (Kd.N_reads' HO_3.out).1; omega))
                obtain ⟨ua138_1, uc138_1, rfl, ul138_1, ge138_1⟩ := k27_openF hMe138
                have hv138_1 := hcc138 1 _ rfl
                rw [add_field _ _ 1 (by omega)] at hv138_1
                replace hv138_1 := Option.some.inj (hv138_1.symm.trans hx138_1)
                injection hv138_1 with hva_ hvn_ hvc_
                rw [hva_] at ge138_1
                rw [hvc_] at ul138_1
                have HL138_1 := Aside0.mk (show Kd.V (Kd.int .u8) 5 _ w.heap.size _ _ ((rd_T27 t134 x5_1).f1) from Kd.V_mk ul138_1 ge138_1)
                clear hva_ hvn_ hvc_ ge138_1 ul138_1
                clear hcc138 hce138
                have HR138_1 := Aside0.mk hi138_1
                have HC138_1 := Aside0.mk hl138_1
                clear hi138_1 hl138_1
                replace p138 := eq_true p138
                replace q138 := eq_true q138
                have p139 : 0 ≤ (0 : Int) := (by omega)
                have q139 : 0 < (((rd_T27 t134 x5_1).f1).length : Int) := of_decide_eq_true (by first | (with_reducible assumption) | assumption)
                obtain ⟨ad139, e139, hx139_0⟩ := Kd.at_int (by repeat (first | (with_reducible exact HR138_1.out) | (with_reducible refine Kd.C_alloc ?_ _) | (with_reducible refine Kd.C_drewN ?_ _) | (with_reducible refine Kd.C_drew ?_) | exact HR138_1.out)) 0 p139 q139
                cases e139
                have qi139 : (0 < ((rd_T27 t134 x5_1).f1).length) = True := eq_true (by omega)
                (try rw [show ((0 : Int)).toNat = 0 from rfl] at hx139_0)
                (try rw [Addr.add_zero'] at hx139_0)
                replace p139 := eq_true p139
                replace q139 := eq_true q139
                go_wp2
                go_ret
                exact ⟨by first | rfl | (simp [errW_none, errW_some] <;> rfl) | (simp [*, errW_none, errW_some] <;> rfl), by repeat (first | (with_reducible first | exact HB.out | apply below_alloc | apply pw_below_drewN | apply below_drew1) | exact HB.out)⟩
              · rw [if_neg c8] at H
                have c8b0 : ((rd ((rd_T27 t134 x5_1).f1) 0) == 6) = false := beq_eq_false_iff_ne.mpr c8
                have c8b1 : ((rd ((rd_T27 t134 x5_1).f1) 0) != 6) = true := bne_iff_ne.mpr c8
                by_cases c10 : (rd ((rd_T27 t134 x5_1).f1) 0) = 7
                · rw [if_pos c10] at H
                  have c10b0 : ((rd ((rd_T27 t134 x5_1).f1) 0) == 7) = true := beq_iff_eq.mpr c10
                  have c10b1 : ((rd ((rd_T27 t134 x5_1).f1) 0) != 7) = false := bne_eq_false_iff_eq.mpr c10
                  clear c10
                  obtain rfl := Option.some.inj H
                  obtain ⟨Ao11, co11, eo11⟩ := Kd.N_slice HO_3.out
                  subst eo11
                  have p138 : 0 ≤ (x5_1 : Int) := of_decide_eq_true (by first | (with_reducible assumption) | assumption)
                  have q138 : x5_1 < (t134.length : Int) := of_decide_eq_true (by first | (with_reducible assumption) | assumption)
                  obtain ⟨ad138, A138_1, c138_1, e138, hx138_0, hx138_1, hx138_2, hl138_1, hi138_1⟩ := at_T27 (Kd.N_reads' HO_3.out).2.2 x5_1 p138 q138
                  cases e138
                  obtain ⟨ce138, hce138, hMe138, hcc138⟩ := Kd.N_get HO_3.out z27 x5_1 p138 (by first | exact q138 | exact of_decide_eq_true (by first | (with_reducible assumption) | assumption) | (have e_ := (Kd.N_reads' HO_3.out).1; omega))
                  obtain ⟨ua138_1, uc138_1, rfl, ul138_1, ge138_1⟩ := k27_openF hMe138
                  have hv138_1 := hcc138 1 _ rfl
                  rw [add_field _ _ 1 (by omega)] at hv138_1
                  replace hv138_1 := Option.some.inj (hv138_1.symm.trans hx138_1)
                  injection hv138_1 with hva_ hvn_ hvc_
                  rw [hva_] at ge138_1
                  rw [hvc_] at ul138_1
                  have HL138_1 := Aside0.mk (show Kd.V (Kd.int .u8) 5 _ w.heap.size _ _ ((rd_T27 t134 x5_1).f1) from Kd.V_mk ul138_1 ge138_1)
                  clear hva_ hvn_ hvc_ ge138_1 ul138_1
                  clear hcc138 hce138
                  have HR138_1 := Aside0.mk hi138_1
                  have HC138_1 := Aside0.mk hl138_1
                  clear hi138_1 hl138_1
                  replace p138 := eq_true p138
                  replace q138 := eq_true q138
                  have p139 : 0 ≤ (0 : Int) := (by omega)
                  have q139 : 0 < (((rd_T27 t134 x5_1).f1).length : Int) := of_decide_eq_true (by first | (with_reducible assumption) | assumption)
                  obtain ⟨ad139, e139, hx139_0⟩ := Kd.at_int (by repeat (first | (with_reducible exact HR138_1.out) | (with_reducible refine Kd.C_alloc ?_ _) | (with_reducible refine Kd.C_drewN ?_ _) | (with_reducible refine Kd.C_drew ?_) | exact HR138_1.out)) 0 p139 q139
                  cases e139
                  have qi139 : (0 < ((rd_T27 t134 x5_1).f1).length) = True := eq_true (by omega)
                  (try rw [show ((0 : Int)).toNat = 0 from rfl] at hx139_0)
                  (try rw [Addr.add_zero'] at hx139_0)
                  replace p139 := eq_true p139
                  replace q139 := eq_true q139
                  have p140 : 0 ≤ (0 : Int) := (by omega)
                  have q140 : 0 < (((rd_T27 t134 x5_1).f1).length : Int) := of_decide_eq_true (by first | (with_reducible assumption) | assumption)
                  obtain ⟨ad140, e140, hx140_0⟩ := Kd.at_int (by repeat (first | (with_reducible exact HR138_1.out) | (with_reducible refine Kd.C_alloc ?_ _) | (with_reducible refine Kd.C_drewN ?_ _) | (with_reducible refine Kd.C_drew ?_) | exact HR138_1.out)) 0 p140 q140
                  obtain rfl : ad139 = ad140 := (by injection e140)
                  have qi140 : (0 < ((rd_T27 t134 x5_1).f1).length) = True := eq_true (by omega)
                  (try rw [show ((0 : Int)).toNat = 0 from rfl] at hx140_0)
                  (try rw [Addr.add_zero'] at hx140_0)
                  replace p140 := eq_true p140
                  replace q140 := eq_true q140
                  go_wp2
                  go_ret
                  exact ⟨by first | rfl | (simp [errW_none, errW_some] <;> rfl) | (simp [*, errW_none, errW_some] <;> rfl), by repeat (first | (with_reducible first | exact HB.out | apply below_alloc | apply pw_below_drewN | apply below_drew1) | exact HB.out)⟩
                · rw [if_neg c10] at H
                  have c10b0 : ((rd ((rd_T27 t134 x5_1).f1) 0) == 7) = false := beq_eq_false_iff_ne.mpr c10
                  have c10b1 : ((rd ((rd_T27 t134 x5_1).f1) 0) != 7) = true := bne_iff_ne.mpr c10
                  have H' := Aside0.mk H
                  clear H
                  obtain ⟨Ao12, co12, eo12⟩ := Kd.N_slice HO_3.out
                  subst eo12
                  have p138 : 0 ≤ (x5_1 : Int) := of_decide_eq_true (by first | (with_reducible assumption) | assumption)
                  have q138 : x5_1 < (t134.length : Int) := of_decide_eq_true (by first | (with_reducible assumption) | assumption)
                  obtain ⟨ad138, A138_1, c138_1, e138, hx138_0, hx138_1, hx138_2, hl138_1, hi138_1⟩ := at_T27 (Kd.N_reads' HO_3.out).2.2 x5_1 p138 q138
                  cases e138
                  obtain ⟨ce138, hce138, hMe138, hcc138⟩ := Kd.N_get HO_3.out z27 x5_1 p138 (by first | exact q138 | exact of_decide_eq_true (by first | (with_reducible assumption) | assumption) | (have e_ := (Kd.N_reads' HO_3.out).1; omega))
                  obtain ⟨ua138_1, uc138_1, rfl, ul138_1, ge138_1⟩ := k27_openF hMe138
                  have hv138_1 := hcc138 1 _ rfl
                  rw [add_field _ _ 1 (by omega)] at hv138_1
                  replace hv138_1 := Option.some.inj (hv138_1.symm.trans hx138_1)
                  injection hv138_1 with hva_ hvn_ hvc_
                  rw [hva_] at ge138_1
                  rw [hvc_] at ul138_1
                  have HL138_1 := Aside0.mk (show Kd.V (Kd.int .u8) 5 _ w.heap.size _ _ ((rd_T27 t134 x5_1).f1) from Kd.V_mk ul138_1 ge138_1)
                  clear hva_ hvn_ hvc_ ge138_1 ul138_1
                  clear hcc138 hce138
                  have HR138_1 := Aside0.mk hi138_1
                  have HC138_1 := Aside0.mk hl138_1
                  clear hi138_1 hl138_1
                  replace p138 := eq_true p138
                  replace q138 := eq_true q138
                  have p139 : 0 ≤ (0 : Int) := (by omega)
                  have q139 : 0 < (((rd_T27 t134 x5_1).f1).length : Int) := of_decide_eq_true (by first | (with_reducible assumption) | assumption)
                  obtain ⟨ad139, e139, hx139_0⟩ := Kd.at_int (by repeat (first | (with_reducible exact HR138_1.out) | (with_reducible refine Kd.C_alloc ?_ _) | (with_reducible refine Kd.C_drewN ?_ _) | (with_reducible refine Kd.C_drew ?_) | exact HR138_1.out)) 0 p139 q139
                  cases e139
                  have qi139 : (0 < ((rd_T27 t134 x5_1).f1).length) = True := eq_true (by omega)
                  (try rw [show ((0 : Int)).toNat = 0 from rfl] at hx139_0)
                  (try rw [Addr.add_zero'] at hx139_0)
                  replace p139 := eq_true p139
                  replace q139 := eq_true q139
                  have p140 : 0 ≤ (0 : Int) := (by omega)
                  have q140 : 0 < (((rd_T27 t134 x5_1).f1).length : Int) := of_decide_eq_true (by first | (with_reducible assumption) | assumption)
                  obtain ⟨ad140, e140, hx140_0⟩ := Kd.at_int (by repeat (first | (with_reducible exact HR138_1.out) | (with_reducible refine Kd.C_alloc ?_ _) | (with_reducible refine Kd.C_drewN ?_ _) | (with_reducible refine Kd.C_drew ?_) | exact HR138_1.out)) 0 p140 q140
                  obtain rfl : ad139 = ad140 := (by injection e140)
                  have qi140 : (0 < ((rd_T27 t134 x5_1).f1).length) = True := eq_true (by omega)
                  (try rw [show ((0 : Int)).toNat = 0 from rfl] at hx140_0)
                  (try rw [Addr.add_zero'] at hx140_0)
                  replace p140 := eq_true p140
                  replace q140 := eq_true q140
                  go_wp2
                  go_roundg k1
                  case measure => have := HK1.out; omega
                  case rel => exact ⟨(wrap64 (x5_1 + 1)), (by first | rfl | (simp; done) | (simp [*]; done)), H', ⟨by have := HK1.out; omega⟩, ⟨by (with_reducible repeat (first | apply Kd.N_alloc | apply Kd.N_drewN | apply Kd.N_drew)); exact HO_3.out⟩, ⟨by repeat (first | (with_reducible first | exact HB.out | apply below_alloc | apply pw_below_drewN | apply below_drew1) | exact HB.out)⟩⟩
            · rw [if_neg c7] at H
              exact absurd H (by simp)
          · rw [if_neg c6] at H
            have c6b0 : ((((rd_T27 t134 x5_1).f1).length : Int) == 65) = false := beq_eq_false_iff_ne.mpr c6
            have c6b1 : ((((rd_T27 t134 x5_1).f1).length : Int) != 65) = true := bne_iff_ne.mpr c6
            have H' := Aside0.mk H
            clear H
            obtain ⟨Ao13, co13, eo13⟩ := Kd.N_slice HO_3.out
            subst eo13
            have p138 : 0 ≤ (x5_1 : Int) := of_decide_eq_true (by first | (with_reducible assumption) | assumption)
            have q138 : x5_1 < (t134.length : Int) := of_decide_eq_true (by first | (with_reducible assumption) | assumption)
            obtain ⟨ad138, A138_1, c138_1, e138, hx138_0, hx138_1, hx138_2, hl138_1, hi138_1⟩ := at_T27 (Kd.N_reads' HO_3.out).2.2 x5_1 p138 q138
            cases e138
            obtain ⟨ce138, hce138, hMe138, hcc138⟩ := Kd.N_get HO_3.out z27 x5_1 p138 (by first | exact q138 | exact of_decide_eq_true (by first | (with_reducible assumption) | assumption) | (have e_ := (Kd.N_reads' HO_3.out).1; omega))
            obtain ⟨ua138_1, uc138_1, rfl, ul138_1, ge138_1⟩ := k27_openF hMe138
            have hv138_1 := hcc138 1 _ rfl
            rw [add_field _ _ 1 (by omega)] at hv138_1
            replace hv138_1 := Option.some.inj (hv138_1.symm.trans hx138_1)
            injection hv138_1 with hva_ hvn_ hvc_
            rw [hva_] at ge138_1
            rw [hvc_] at ul138_1
            have HL138_1 := Aside0.mk (show Kd.V (Kd.int .u8) 5 _ w.heap.size _ _ ((rd_T27 t134 x5_1).f1) from Kd.V_mk ul138_1 ge138_1)
            clear hva_ hvn_ hvc_ ge138_1 ul138_1
            clear hcc138 hce138
            have HR138_1 := Aside0.mk hi138_1
            have HC138_1 := Aside0.mk hl138_1
            clear hi138_1 hl138_1
            replace p138 := eq_true p138
            replace q138 := eq_true q138
            go_wp2
            go_roundg k1
            case measure => have := HK1.out; omega
            case rel => exact ⟨(wrap64 (x5_1 + 1)), (by first | rfl | (simp; done) | (simp [*]; done)), H', ⟨by have := HK1.out; omega⟩, ⟨by (with_reducible repeat (first | apply Kd.N_alloc | apply Kd.N_drewN | apply Kd.N_drew)); exact HO_3.out⟩, ⟨by repeat (first | (with_reducible first | exact HB.out | apply below_alloc | apply pw_below_drewN | apply below_drew1) | exact HB.out)⟩⟩
        · rw [if_neg c5] at H
          exact absurd H (by simp)
      · rw [if_neg c4] at H
        have c4b0 : decide (x5_1 < (t134.length : Int)) = false := decide_eq_false c4
        clear c4
        obtain rfl := Option.some.inj H
        obtain ⟨Ao14, co14, eo14⟩ := Kd.N_slice HO_3.out
        subst eo14
        go_wp2
        go_ret
        exact ⟨by first | rfl | (simp [errW_none, errW_some] <;> rfl) | (simp [*, errW_none, errW_some] <;> rfl), by repeat (first | (with_reducible first | exact HB.out | apply below_alloc | apply pw_below_drewN | apply below_drew1) | exact HB.out)⟩

/-! ### spec_Small: function 19 -/
noncomputable def spec_Small.f (a0 : Int) : Option (Int × Bool) := if a0 = 0 then (some (0, true)) else (if a0 ≥ 81 then (if a0 ≤ 96 then (some (wrap64 ((wrap64 (a0 - 81)) + 1), true)) else (some (0, false))) else (some (0, false)))
set_option maxHeartbeats 8000000 in
set_option maxRecDepth 100000 in
theorem spec_Small.calls (a0 : Int) (r1 : Int) (r2 : Bool) (w : World) (h : spec_Small.f a0 = some (r1, r2)) :
    Calls Try.prog 19 #[.int .i64 a0] w fun e w' => e = .returned (.tuple #[.int .i64 r1, .bool r2]) ∧ Drawn0 w w' := by
  have H : (if a0 = 0 then (some (0, true)) else (if a0 ≥ 81 then (if a0 ≤ 96 then (some (wrap64 ((wrap64 (a0 - 81)) + 1), true)) else (some (0, false))) else (some (0, false)))) = some (r1, r2) := h
  clear h
  by_cases c2 : a0 = 0
  · rw [if_pos c2] at H
    have c2b0 : (a0 == 0) = true := beq_iff_eq.mpr c2
    have c2b1 : (a0 != 0) = false := bne_eq_false_iff_eq.mpr c2
    clear c2
    simp only [Option.some.injEq, Prod.mk.injEq] at H
    obtain ⟨rfl, rfl⟩ := H
    go_enter Try.func19, Try.ntmps19
    go_wp2
    go_ret2
    exact ⟨by first | rfl | (simp; done) | (simp [*]; done), by repeat (first | exact Drawn0.refl _ | apply Drawn0.step)⟩
  · rw [if_neg c2] at H
    have c2b0 : (a0 == 0) = false := beq_eq_false_iff_ne.mpr c2
    have c2b1 : (a0 != 0) = true := bne_iff_ne.mpr c2
    by_cases c3 : a0 ≥ 81
    · rw [if_pos c3] at H
      have c3b0 : decide (81 ≤ a0) = true := decide_eq_true c3
      clear c3
      by_cases c4 : a0 ≤ 96
      · rw [if_pos c4] at H
        have c4b0 : decide (a0 ≤ 96) = true := decide_eq_true c4
        clear c4
        simp only [Option.some.injEq, Prod.mk.injEq] at H
        obtain ⟨rfl, rfl⟩ := H
        go_enter Try.func19, Try.ntmps19
        go_wp2
        go_ret2
        exact ⟨by first | rfl | (simp; done) | (simp [*]; done), by repeat (first | exact Drawn0.refl _ | apply Drawn0.step)⟩
      · rw [if_neg c4] at H
        have c4b0 : decide (a0 ≤ 96) = false := decide_eq_false c4
        clear c4
        simp only [Option.some.injEq, Prod.mk.injEq] at H
        obtain ⟨rfl, rfl⟩ := H
        go_enter Try.func19, Try.ntmps19
        go_wp2
        go_ret2
        exact ⟨by first | rfl | (simp; done) | (simp [*]; done), by repeat (first | exact Drawn0.refl _ | apply Drawn0.step)⟩
    · rw [if_neg c3] at H
      have c3b0 : decide (81 ≤ a0) = false := decide_eq_false c3
      clear c3
      simp only [Option.some.injEq, Prod.mk.injEq] at H
      obtain ⟨rfl, rfl⟩ := H
      go_enter Try.func19, Try.ntmps19
      go_wp2
      go_ret2
      exact ⟨by first | rfl | (simp; done) | (simp [*]; done), by repeat (first | exact Drawn0.refl _ | apply Drawn0.step)⟩

end Go.Proofs.Ytafpmdmmeohmfaa.PFnClass
