import Derived.Test.YtafpmdmmeohmfaaPFnClassx0
import Derived.Test.YtafpmdmmeohmfaaQFnClassx1
import Derived.Test.YtafpmdmmeohmfaaQFnClassx2
namespace Go.Proofs.Ytafpmdmmeohmfaa.PFnClass
open Go.RowKit Go.Proofs.YtafpmdmmeohmfaaW.PrintWords Go.Proofs.YtafpmdmmeohmfaaW.PrintLast Go.Proofs.YtafpmdmmeohmfaaW.PrintMore
attribute [local go_sem] max2_int min2_int max_two min_two max_three min_three max_four min_four   -- for this text's walks alone
set_option linter.unusedVariables false
set_option linter.unusedSimpArgs false

/-! ### spec_Many: function 23 -/
mutual
noncomputable def spec_Many.j0 : Nat → List (S27) → Int → Bool → Option (Int × Int × Bool)
  | 0, _, _, _ => none
  | k + 1, x5, x7, x34 => if x34 = true then (some (0, 0, false)) else (if 0 < (x5.length : Int) then ((spec_Small.f ((rd_T27 x5 0).f0)).bind fun bt147 => (if 0 ≤ (wrap64 (x7 - 2)) then (if (wrap64 (x7 - 2)) < (x5.length : Int) then ((spec_Small.f ((rd_T27 x5 (wrap64 (x7 - 2))).f0)).bind fun bt150 => (if bt147.2 = true then (if bt150.2 = true then (spec_Many.j1 k bt150.1 bt147.1 x5 x7 (bt150.1 != (wrap64 (x7 - 3)))) else (spec_Many.j1 k bt150.1 bt147.1 x5 x7 true)) else (spec_Many.j1 k bt150.1 bt147.1 x5 x7 true))) else (none)) else (none))) else (none))
noncomputable def spec_Many.j1 : Nat → Int → Int → List (S27) → Int → Bool → Option (Int × Int × Bool)
  | 0, _, _, _, _, _ => none
  | k + 1, x2, x3, x5, x7, x64 => if x64 = true then (some (0, 0, false)) else (spec_Many.l0 k x2 x3 x5 x7 1)
noncomputable def spec_Many.l0 : Nat → Int → Int → List (S27) → Int → Int → Option (Int × Int × Bool)
  | 0, _, _, _, _, _ => none
  | k + 1, x2, x3, x5, x7, x10 => if x10 < (wrap64 (x7 - 2)) then (if 0 ≤ x10 then (if x10 < (x5.length : Int) then ((spec_Small.f ((rd_T27 x5 x10).f0)).bind fun bt153 => (if bt153.2 = true then (some (0, 0, false)) else (spec_Many.l0 k x2 x3 x5 x7 (wrap64 (x10 + 1))))) else (none)) else (none)) else (some (x2, x3, true))
end
noncomputable def spec_Many.f (k : Nat) (l0 : List Int) : Option (Int × Int × Bool) := (spec_Tokens.f k l0).bind fun bt141 => (if bt141.2 ≥ 0 then (spec_Many.j0 k bt141.1 (bt141.1.length : Int) true) else (if (bt141.1.length : Int) < 3 then (spec_Many.j0 k bt141.1 (bt141.1.length : Int) true) else (if 0 ≤ (wrap64 ((bt141.1.length : Int) - 1)) then (if (wrap64 ((bt141.1.length : Int) - 1)) < (bt141.1.length : Int) then (spec_Many.j0 k bt141.1 (bt141.1.length : Int) (((rd_T27 bt141.1 (wrap64 ((bt141.1.length : Int) - 1))).f0) != 174)) else (none)) else (none))))
theorem spec_Many.mono_l : ∀ k, (∀ y0 y1 y2, LeO (spec_Many.j0 k y0 y1 y2) (spec_Many.j0 (k + 1) y0 y1 y2)) ∧ (∀ y0 y1 y2 y3 y4, LeO (spec_Many.j1 k y0 y1 y2 y3 y4) (spec_Many.j1 (k + 1) y0 y1 y2 y3 y4)) ∧ (∀ y0 y1 y2 y3 y4, LeO (spec_Many.l0 k y0 y1 y2 y3 y4) (spec_Many.l0 (k + 1) y0 y1 y2 y3 y4))
  | 0 => ⟨fun _ _ _ r h => by simp [spec_Many.j0] at h, fun _ _ _ _ _ r h => by simp [spec_Many.j1] at h, fun _ _ _ _ _ r h => by simp [spec_Many.l0] at h⟩
  | k + 1 => by
    obtain ⟨ih0, ih1, ih2⟩ := spec_Many.mono_l k
    refine ⟨?_, ?_, ?_⟩
    · intro y0 y1 y2
      unfold spec_Many.j0
      repeat' first
      | (with_reducible exact ih0 _ _ _)
      | (with_reducible exact ih1 _ _ _ _ _)
      | (with_reducible exact ih2 _ _ _ _ _)
      | (with_reducible exact spec_Tokens.mono _ _)
      | (with_reducible exact LeO.refl _)
      | (with_reducible exact LeO.none _)
      | (with_reducible refine LeO.ite ?_ ?_)
      | (with_reducible refine LeO.bind ?_ (fun _ => ?_))
      | exact ih0 _ _ _
      | exact ih1 _ _ _ _ _
      | exact ih2 _ _ _ _ _
      | exact spec_Tokens.mono _ _
      | exact LeO.none _
      | refine LeO.ite ?_ ?_
      | refine LeO.bind ?_ (fun _ => ?_)
    · intro y0 y1 y2 y3 y4
      unfold spec_Many.j1
      repeat' first
      | (with_reducible exact ih0 _ _ _)
      | (with_reducible exact ih1 _ _ _ _ _)
      | (with_reducible exact ih2 _ _ _ _ _)
      | (with_reducible exact spec_Tokens.mono _ _)
      | (with_reducible exact LeO.refl _)
      | (with_reducible exact LeO.none _)
      | (with_reducible refine LeO.ite ?_ ?_)
      | (with_reducible refine LeO.bind ?_ (fun _ => ?_))
      | exact ih0 _ _ _
      | exact ih1 _ _ _ _ _
      | exact ih2 _ _ _ _ _
      | exact spec_Tokens.mono _ _
      | exact LeO.none _
      | refine LeO.ite ?_ ?_
      | refine LeO.bind ?_ (fun _ => ?_)
    · intro y0 y1 y2 y3 y4
      unfold spec_Many.l0
      repeat' first
      | (with_reducible exact ih0 _ _ _)
      | (with_reducible exact ih1 _ _ _ _ _)
      | (with_reducible exact ih2 _ _ _ _ _)
      | (with_reducible exact spec_Tokens.mono _ _)
      | (with_reducible exact LeO.refl _)
      | (with_reducible exact LeO.none _)
      | (with_reducible refine LeO.ite ?_ ?_)
      | (with_reducible refine LeO.bind ?_ (fun _ => ?_))
      | exact ih0 _ _ _
      | exact ih1 _ _ _ _ _
      | exact ih2 _ _ _ _ _
      | exact spec_Tokens.mono _ _
      | exact LeO.none _
      | refine LeO.ite ?_ ?_
      | refine LeO.bind ?_ (fun _ => ?_)
theorem spec_Many.mono : ∀ a0 k, LeO (spec_Many.f k a0) (spec_Many.f (k + 1) a0) := by
  intro a0 k
  obtain ⟨ih0, ih1, ih2⟩ := spec_Many.mono_l k
  unfold spec_Many.f
  repeat' first
      | (with_reducible exact ih0 _ _ _)
      | (with_reducible exact ih1 _ _ _ _ _)
      | (with_reducible exact ih2 _ _ _ _ _)
      | (with_reducible exact spec_Tokens.mono _ _)
      | (with_reducible exact LeO.refl _)
      | (with_reducible exact LeO.none _)
      | (with_reducible refine LeO.ite ?_ ?_)
      | (with_reducible refine LeO.bind ?_ (fun _ => ?_))
      | exact ih0 _ _ _
      | exact ih1 _ _ _ _ _
      | exact ih2 _ _ _ _ _
      | exact spec_Tokens.mono _ _
      | exact LeO.none _
      | refine LeO.ite ?_ ?_
      | refine LeO.bind ?_ (fun _ => ?_)
set_option maxHeartbeats 8000000 in
set_option maxRecDepth 100000 in
theorem spec_Many.calls (k : Nat) (A0 : Option Addr) (c0 : Nat) (l0 : List Int) (r1 : Int) (r2 : Int) (r3 : Bool) (w : World) (hr0 : Kd.C (Kd.int .u8) w A0 l0.length l0) (hc0 : l0.length ≤ c0) (h : spec_Many.f k l0 = some (r1, r2, r3)) :
    Calls Try.prog 23 #[.slice A0 l0.length c0] w fun e w' => e = .returned (.tuple #[.int .i64 r1, .int .i64 r2, .bool r3]) ∧ Below w.heap.size w w' := by
  have HR0 := Aside0.mk hr0
  have HC0 := Aside0.mk hc0
  clear hr0 hc0
  have HB := Aside0.mk (Below.refl w.heap.size w)
  have H : ((spec_Tokens.f k l0).bind fun bt141 => (if bt141.2 ≥ 0 then (spec_Many.j0 k bt141.1 (bt141.1.length : Int) true) else (if (bt141.1.length : Int) < 3 then (spec_Many.j0 k bt141.1 (bt141.1.length : Int) true) else (if 0 ≤ (wrap64 ((bt141.1.length : Int) - 1)) then (if (wrap64 ((bt141.1.length : Int) - 1)) < (bt141.1.length : Int) then (spec_Many.j0 k bt141.1 (bt141.1.length : Int) (((rd_T27 bt141.1 (wrap64 ((bt141.1.length : Int) - 1))).f0) != 174)) else (none)) else (none))))) = some (r1, r2, r3) := h
  clear h
  replace H := Option.bind_eq_some_iff.mp H
  obtain ⟨⟨t141, t144⟩, A20, H⟩ := H
  replace H : (if t144 ≥ 0 then (spec_Many.j0 k t141 (t141.length : Int) true) else (if (t141.length : Int) < 3 then (spec_Many.j0 k t141 (t141.length : Int) true) else (if 0 ≤ (wrap64 ((t141.length : Int) - 1)) then (if (wrap64 ((t141.length : Int) - 1)) < (t141.length : Int) then (spec_Many.j0 k t141 (t141.length : Int) (((rd_T27 t141 (wrap64 ((t141.length : Int) - 1))).f0) != 174)) else (none)) else (none)))) = some (r1, r2, r3) := H
  have A2 := Aside0.mk A20
  clear A20
  have HC3 := Aside0.mk H
  clear H
  go_enter Try.func23, Try.ntmps23
  go_upto_region 3 with (first | ((with_reducible refine gate_callee (f := 5) rfl ?_); refine goesL_ (some 15) rfl rfl Try.func5 (by kernel_rfl) rfl #[.slice A0 l0.length c0] rfl (by (try simp only [List.map_toArray, List.map_cons, List.map_nil]); first | done | rfl | (simp only [List.length_drop, List.length_take]; rfl)) ?_; (with_reducible refine (spec_Tokens.calls k (fun k_ => k_ < w.heap.size) _ _ l0 t141 t144 _ ?side1 A2.out).mono ?_); (case side1 => exact Kd.V_mk HC0.out (Kd.F_below (Kd.C_F (Kd.heap_int .u8) HR0.out) (by repeat (first | (with_reducible first | exact HB.out | apply below_alloc | apply pw_below_drewN | apply below_drew1) | exact HB.out)))); rintro e w4 ⟨v142, rfl, ho0, hb⟩; refine ⟨_, rfl, ?_⟩; have n0_ := Aside0.mk (Kd.N_lower (Kd.N_mono (ok' := fun k_ => True) ho0 (fun k_ hk_ => trivial)) (below_size (by repeat (first | (with_reducible first | exact HB.out | apply below_alloc | apply pw_below_drewN | apply below_drew1) | exact HB.out)))); have n1_ := Aside0.mk (below_step (by repeat (first | (with_reducible first | exact HB.out | apply below_alloc | apply pw_below_drewN | apply below_drew1) | exact HB.out)) hb); clear HB; have HO143 := n0_; have HB := n1_; clear n0_ n1_; (try clear hb); (try clear hb2); (try clear hk); (try clear hi); (try clear ho0); obtain ⟨Ao5, co5, eo5⟩ := Kd.N_slice HO143.out; subst eo5))
  (try simp only [Act.put, List.setIfInBounds_toArray, List.set_cons_zero, List.set_cons_succ])
  go_cut [34] (fun v34 wc => ∃ (kq : Nat) (x34_2 : Bool), v34 = .bool x34_2 ∧ Aside0 (spec_Many.j0 kq t141 (t141.length : Int) x34_2 = some (r1, r2, r3)) ∧ Aside0 (kq ≤ k) ∧ Aside0 (Kd.N k27 27 wc w.heap.size (fun _ => True) (.slice Ao5 t141.length co5) t141) ∧ Aside0 (Below w.heap.size w wc))
  case first =>
    have H := HC3.out
    clear HC3
    by_cases c6 : t144 ≥ 0
    · rw [if_pos c6] at H
      have c6b0 : decide (0 ≤ t144) = true := decide_eq_true c6
      clear c6
      (first | rw [c6b0] | (simp only [i64_w, i32_w]; rw [c6b0]) | skip)
      have H' := Aside0.mk H
      clear H
      go_wp2
      go_meet
      case rel => exact ⟨_, (true), (by first | rfl | (simp; done) | (simp [*]; done)), H', ⟨by first | omega | exact Nat.le_refl _⟩, ⟨by (with_reducible repeat (first | apply Kd.N_alloc | apply Kd.N_drewN | apply Kd.N_drew)); exact HO143.out⟩, ⟨by repeat (first | (with_reducible first | exact HB.out | apply below_alloc | apply pw_below_drewN | apply below_drew1) | exact HB.out)⟩⟩
    · rw [if_neg c6] at H
      have c6b0 : decide (0 ≤ t144) = false := decide_eq_false c6
      clear c6
      (first | rw [c6b0] | (simp only [i64_w, i32_w]; rw [c6b0]) | skip)
      by_cases c7 : (t141.length : Int) < 3
      · rw [if_pos c7] at H
        have c7b0 : decide ((t141.length : Int) < 3) = true := decide_eq_true c7
        have c7b1 : decide (t141.length < 3) = true := decide_eq_true (by omega)
        clear c7
        have H' := Aside0.mk H
        clear H
        go_wp2
        go_meet
        case rel => exact ⟨_, (true), (by first | rfl | (simp; done) | (simp [*]; done)), H', ⟨by first | omega | exact Nat.le_refl _⟩, ⟨by (with_reducible repeat (first | apply Kd.N_alloc | apply Kd.N_drewN | apply Kd.N_drew)); exact HO143.out⟩, ⟨by repeat (first | (with_reducible first | exact HB.out | apply below_alloc | apply pw_below_drewN | apply below_drew1) | exact HB.out)⟩⟩
      · rw [if_neg c7] at H
        have c7b0 : decide ((t141.length : Int) < 3) = false := decide_eq_false c7
        have c7b1 : decide (t141.length < 3) = false := decide_eq_false (by omega)
        clear c7
        obtain ⟨ji8, hji8⟩ : ∃ j_ : Int, (wrap64 ((t141.length : Int) - 1)) = j_ := ⟨_, rfl⟩
        replace H : (if 0 ≤ (ji8) then (if (ji8) < (t141.length : Int) then (spec_Many.j0 k t141 (t141.length : Int) (((rd_T27 t141 (ji8)).f0) != 174)) else (none)) else (none)) = some (r1, r2, r3) := by first | (rw [hji8] at H; exact H) | (simp only [hji8] at H ⊢; exact H)
        have hji8w : (IntKind.i64.wrap ((t141.length : Int) - 1)) = ji8 := (i64_w _).trans hji8
        by_cases c9 : 0 ≤ (ji8)
        · rw [if_pos c9] at H
          have c9b0 : decide (0 ≤ (ji8)) = true := decide_eq_true c9
          clear c9
          by_cases c10 : (ji8) < (t141.length : Int)
          · rw [if_pos c10] at H
            have c10b0 : decide ((ji8) < (t141.length : Int)) = true := decide_eq_true c10
            clear c10
            have H' := Aside0.mk H
            clear H
            have p145 : 0 ≤ ((ji8) : Int) := of_decide_eq_true (by first | (with_reducible assumption) | assumption)
            have q145 : (ji8) < (t141.length : Int) := of_decide_eq_true (by first | (with_reducible assumption) | assumption)
            obtain ⟨ad145, A145_1, c145_1, e145, hx145_0, hx145_1, hx145_2, hl145_1, hi145_1⟩ := at_T27 (Kd.N_reads' HO143.out).2.2 (ji8) p145 q145
            cases e145
            obtain ⟨ce145, hce145, hMe145, hcc145⟩ := Kd.N_get HO143.out z27 (ji8) p145 (by first | exact q145 | exact of_decide_eq_true (by first | (with_reducible assumption) | assumption) | (have e_ := (Kd.N_reads' HO143.out).1; omega))
            obtain ⟨ua145_1, uc145_1, rfl, ul145_1, ge145_1⟩ := k27_openF hMe145
            have hv145_1 := hcc145 1 _ rfl
            rw [add_field _ _ 1 (by omega)] at hv145_1
            replace hv145_1 := Option.some.inj (hv145_1.symm.trans hx145_1)
            injection hv145_1 with hva_ hvn_ hvc_
            rw [hva_] at ge145_1
            rw [hvc_] at ul145_1
            have HL145_1 := Aside0.mk (show Kd.V (Kd.int .u8) 5 _ w.heap.size _ _ ((rd_T27 t141 (ji8)).f1) from Kd.V_mk ul145_1 ge145_1)
            clear hva_ hvn_ hvc_ ge145_1 ul145_1
            clear hcc145 hce145
            have HR145_1 := Aside0.mk hi145_1
            have HC145_1 := Aside0.mk hl145_1
            clear hi145_1 hl145_1
            replace p145 := eq_true p145
            replace q145 := eq_true q145
            go_wp2
            go_meet
            case rel => exact ⟨_, ((((rd_T27 t141 (ji8)).f0) != 174)), (by first | rfl | (simp; done) | (simp only [← hji8] <;> (first | rfl | simp)) | (simp [*]; done)), H', ⟨by first | omega | exact Nat.le_refl _⟩, ⟨by (with_reducible repeat (first | apply Kd.N_alloc | apply Kd.N_drewN | apply Kd.N_drew)); exact HO143.out⟩, ⟨by repeat (first | (with_reducible first | exact HB.out | apply below_alloc | apply pw_below_drewN | apply below_drew1) | exact HB.out)⟩⟩
          · rw [if_neg c10] at H
            exact absurd H (by simp)
        · rw [if_neg c9] at H
          exact absurd H (by simp)
  case rest =>
    clear HC3
    try clear c1
    try clear p1
    try clear q1
    try clear hx1
    try clear c2
    try clear p2
    try clear c5
    try clear c6
    try clear c6b0
    try clear p6
    try clear c7
    try clear c7b0
    try clear c7b1
    try clear c9
    try clear c9b0
    try clear c10
    try clear c10b0
    try clear hx145_0
    try clear hx145_1
    try clear hx145_2
    try clear p145
    try clear q145
    obtain ⟨kq, x34_2, rfl, HA, HJ2, HO_5, HB⟩ := hcut
    cases kq with
    | zero => exact absurd HA.out (by simp [spec_Many.j0])
    | succ kj2 =>
      have H := HA.out
      clear HA
      simp only [spec_Many.j0] at H
      by_cases c11 : x34_2 = true
      · subst c11
        have H1 : (some (0, 0, false)) = some (r1, r2, r3) := by rw [if_pos rfl] at H; exact H
        clear H
        have H := H1
        clear H1
        simp only [Option.some.injEq, Prod.mk.injEq] at H
        obtain ⟨rfl, rfl, rfl⟩ := H
        go_wp2
        go_ret3
        exact ⟨by first | rfl | (simp [errW_none, errW_some] <;> rfl) | (simp [*, errW_none, errW_some] <;> rfl), by repeat (first | (with_reducible first | exact HB.out | apply below_alloc | apply pw_below_drewN | apply below_drew1) | exact HB.out)⟩
      · replace c11 := Bool.eq_false_iff.mpr c11
        subst c11
        have H1 : (if 0 < (t141.length : Int) then ((spec_Small.f ((rd_T27 t141 0).f0)).bind fun bt147 => (if 0 ≤ (wrap64 ((t141.length : Int) - 2)) then (if (wrap64 ((t141.length : Int) - 2)) < (t141.length : Int) then ((spec_Small.f ((rd_T27 t141 (wrap64 ((t141.length : Int) - 2))).f0)).bind fun bt150 => (if bt147.2 = true then (if bt150.2 = true then (spec_Many.j1 kj2 bt150.1 bt147.1 t141 (t141.length : Int) (bt150.1 != (wrap64 ((t141.length : Int) - 3)))) else (spec_Many.j1 kj2 bt150.1 bt147.1 t141 (t141.length : Int) true)) else (spec_Many.j1 kj2 bt150.1 bt147.1 t141 (t141.length : Int) true))) else (none)) else (none))) else (none)) = some (r1, r2, r3) := by rw [if_neg (show ¬ (false = true) by decide)] at H; exact H
        clear H
        have H := H1
        clear H1
        by_cases c12 : 0 < (t141.length : Int)
        · rw [if_pos c12] at H
          have c12b0 : decide (0 < (t141.length : Int)) = true := decide_eq_true c12
          have c12b1 : decide (0 < t141.length) = true := decide_eq_true (by omega)
          clear c12
          replace H := Option.bind_eq_some_iff.mp H
          obtain ⟨⟨t147, t148⟩, A130, H⟩ := H
          replace H : (if 0 ≤ (wrap64 ((t141.length : Int) - 2)) then (if (wrap64 ((t141.length : Int) - 2)) < (t141.length : Int) then ((spec_Small.f ((rd_T27 t141 (wrap64 ((t141.length : Int) - 2))).f0)).bind fun bt150 => (if t148 = true then (if bt150.2 = true then (spec_Many.j1 kj2 bt150.1 t147 t141 (t141.length : Int) (bt150.1 != (wrap64 ((t141.length : Int) - 3)))) else (spec_Many.j1 kj2 bt150.1 t147 t141 (t141.length : Int) true)) else (spec_Many.j1 kj2 bt150.1 t147 t141 (t141.length : Int) true))) else (none)) else (none)) = some (r1, r2, r3) := H
          have A13 := Aside0.mk A130
          clear A130
          obtain ⟨ji14, hji14⟩ : ∃ j_ : Int, (wrap64 ((t141.length : Int) - 2)) = j_ := ⟨_, rfl⟩
          replace H : (if 0 ≤ (ji14) then (if (ji14) < (t141.length : Int) then ((spec_Small.f ((rd_T27 t141 (ji14)).f0)).bind fun bt150 => (if t148 = true then (if bt150.2 = true then (spec_Many.j1 kj2 bt150.1 t147 t141 (t141.length : Int) (bt150.1 != (wrap64 ((t141.length : Int) - 3)))) else (spec_Many.j1 kj2 bt150.1 t147 t141 (t141.length : Int) true)) else (spec_Many.j1 kj2 bt150.1 t147 t141 (t141.length : Int) true))) else (none)) else (none)) = some (r1, r2, r3) := by first | (rw [hji14] at H; exact H) | (simp only [hji14] at H ⊢; exact H)
          (try rw [hji14] at A13)
          have hji14w : (IntKind.i64.wrap ((t141.length : Int) - 2)) = ji14 := (i64_w _).trans hji14
          by_cases c15 : 0 ≤ (ji14)
          · rw [if_pos c15] at H
            have c15b0 : decide (0 ≤ (ji14)) = true := decide_eq_true c15
            clear c15
            by_cases c16 : (ji14) < (t141.length : Int)
            · rw [if_pos c16] at H
              have c16b0 : decide ((ji14) < (t141.length : Int)) = true := decide_eq_true c16
              clear c16
              replace H := Option.bind_eq_some_iff.mp H
              obtain ⟨⟨t150, t151⟩, A170, H⟩ := H
              replace H : (if t148 = true then (if t151 = true then (spec_Many.j1 kj2 t150 t147 t141 (t141.length : Int) (t150 != (wrap64 ((t141.length : Int) - 3)))) else (spec_Many.j1 kj2 t150 t147 t141 (t141.length : Int) true)) else (spec_Many.j1 kj2 t150 t147 t141 (t141.length : Int) true)) = some (r1, r2, r3) := H
              have A17 := Aside0.mk A170
              clear A170
              have HC18 := Aside0.mk H
              clear H
              have p146 : 0 ≤ (0 : Int) := (by omega)
              have q146 : 0 < (t141.length : Int) := of_decide_eq_true (by first | (with_reducible assumption) | assumption)
              obtain ⟨ad146, A146_1, c146_1, e146, hx146_0, hx146_1, hx146_2, hl146_1, hi146_1⟩ := at_T27 (Kd.N_reads' HO_5.out).2.2 0 p146 q146
              cases e146
              obtain ⟨ce146, hce146, hMe146, hcc146⟩ := Kd.N_get HO_5.out z27 0 p146 (by first | exact q146 | exact of_decide_eq_true (by first | (with_reducible assumption) | assumption) | (have e_ := (Kd.N_reads' HO_5.out).1; omega))
              obtain ⟨ua146_1, uc146_1, rfl, ul146_1, ge146_1⟩ := k27_openF hMe146
              have hv146_1 := hcc146 1 _ rfl
              rw [add_field _ _ 1 (by omega)] at hv146_1
              replace hv146_1 := Option.some.inj (hv146_1.symm.trans hx146_1)
              injection hv146_1 with hva_ hvn_ hvc_
              rw [hva_] at ge146_1
              rw [hvc_] at ul146_1
              have HL146_1 := Aside0.mk (show Kd.V (Kd.int .u8) 5 _ w.heap.size _ _ ((rd_T27 t141 0).f1) from Kd.V_mk ul146_1 ge146_1)
              clear hva_ hvn_ hvc_ ge146_1 ul146_1
              clear hcc146 hce146
              have qi146 : (0 < t141.length) = True := eq_true (by omega)
              (try rw [show ((0 : Int)).toNat = 0 from rfl] at hx146_0)
              (try rw [show 0 * 3 = 0 from rfl] at hx146_0)
              (try rw [Addr.add_zero'] at hx146_0)
              (try rw [show ((0 : Int)).toNat = 0 from rfl] at hx146_1)
              (try rw [show 0 * 3 = 0 from rfl] at hx146_1)
              (try rw [Addr.add_zero'] at hx146_1)
              (try rw [show ((0 : Int)).toNat = 0 from rfl] at hx146_2)
              (try rw [show 0 * 3 = 0 from rfl] at hx146_2)
              (try rw [Addr.add_zero'] at hx146_2)
              have HR146_1 := Aside0.mk hi146_1
              have HC146_1 := Aside0.mk hl146_1
              clear hi146_1 hl146_1
              replace p146 := eq_true p146
              replace q146 := eq_true q146
              go_upto_region 7 with (first | ((with_reducible refine gate_callee (f := 19) rfl ?_); refine goesL_ (some 40) rfl rfl Try.func19 (by kernel_rfl) rfl #[.int .i64 ((rd_T27 t141 0).f0)] rfl (by (try simp only [List.map_toArray, List.map_cons, List.map_nil]); first | done | rfl | (simp only [List.length_drop, List.length_take]; rfl)) ?_; (with_reducible refine (spec_Small.calls ((rd_T27 t141 0).f0) t147 t148 _ A13.out).mono ?_); rintro e w' ⟨rfl, ⟨nd, rfl⟩⟩; refine ⟨_, rfl, ?_⟩; have p149 : 0 ≤ ((ji14) : Int) := of_decide_eq_true (by first | (with_reducible assumption) | assumption); have q149 : (ji14) < (t141.length : Int) := of_decide_eq_true (by first | (with_reducible assumption) | assumption); obtain ⟨ad149, A149_1, c149_1, e149, hx149_0, hx149_1, hx149_2, hl149_1, hi149_1⟩ := at_T27 (Kd.N_reads' HO_5.out).2.2 (ji14) p149 q149; obtain rfl : ad146 = ad149 := (by injection e149); obtain ⟨ce149, hce149, hMe149, hcc149⟩ := Kd.N_get HO_5.out z27 (ji14) p149 (by first | exact q149 | exact of_decide_eq_true (by first | (with_reducible assumption) | assumption) | (have e_ := (Kd.N_reads' HO_5.out).1; omega)); obtain ⟨ua149_1, uc149_1, rfl, ul149_1, ge149_1⟩ := k27_openF hMe149; have hv149_1 := hcc149 1 _ rfl; rw [add_field _ _ 1 (by omega)] at hv149_1; replace hv149_1 := Option.some.inj (hv149_1.symm.trans hx149_1); injection hv149_1 with hva_ hvn_ hvc_; rw [hva_] at ge149_1; rw [hvc_] at ul149_1; have HL149_1 := Aside0.mk (show Kd.V (Kd.int .u8) 5 _ w.heap.size _ _ ((rd_T27 t141 (ji14)).f1) from Kd.V_mk ul149_1 ge149_1); clear hva_ hvn_ hvc_ ge149_1 ul149_1; clear hcc149 hce149; have HR149_1 := Aside0.mk hi149_1; have HC149_1 := Aside0.mk hl149_1; clear hi149_1 hl149_1; replace p149 := eq_true p149; replace q149 := eq_true q149) | ((with_reducible refine gate_callee (f := 19) rfl ?_); refine goesL_ (some 50) rfl rfl Try.func19 (by kernel_rfl) rfl #[.int .i64 ((rd_T27 t141 (ji14)).f0)] rfl (by (try simp only [List.map_toArray, List.map_cons, List.map_nil]); first | done | (simp only [hji14]; rfl) | rfl | (simp only [List.length_drop, List.length_take]; rfl)) ?_; (with_reducible refine (spec_Small.calls ((rd_T27 t141 (ji14)).f0) t150 t151 _ A17.out).mono ?_); rintro e w' ⟨rfl, ⟨nd, rfl⟩⟩; refine ⟨_, rfl, ?_⟩))
              (try simp only [Act.put, List.setIfInBounds_toArray, List.set_cons_zero, List.set_cons_succ])
              go_cut [64] (fun v64 wc => ∃ (kq : Nat) (x64_17 : Bool), v64 = .bool x64_17 ∧ Aside0 (spec_Many.j1 kq t150 t147 t141 (t141.length : Int) x64_17 = some (r1, r2, r3)) ∧ Aside0 (kq ≤ kj2) ∧ Aside0 (Kd.N k27 27 wc w.heap.size (fun _ => True) (.slice (some ad146) t141.length co5) t141) ∧ Aside0 (Kd.C (Kd.int .u8) wc A146_1 ((rd_T27 t141 0).f1).length ((rd_T27 t141 0).f1)) ∧ Aside0 (Kd.C (Kd.int .u8) wc A149_1 ((rd_T27 t141 (ji14)).f1).length ((rd_T27 t141 (ji14)).f1)) ∧ Aside0 (Below w.heap.size w wc))
              case first =>
                have H := HC18.out
                clear HC18
                by_cases c19 : t148 = true
                · subst c19
                  have H1 : (if t151 = true then (spec_Many.j1 kj2 t150 t147 t141 (t141.length : Int) (t150 != (wrap64 ((t141.length : Int) - 3)))) else (spec_Many.j1 kj2 t150 t147 t141 (t141.length : Int) true)) = some (r1, r2, r3) := by rw [if_pos rfl] at H; exact H
                  clear H
                  have H := H1
                  clear H1
                  by_cases c20 : t151 = true
                  · subst c20
                    have H1 : (spec_Many.j1 kj2 t150 t147 t141 (t141.length : Int) (t150 != (wrap64 ((t141.length : Int) - 3)))) = some (r1, r2, r3) := by rw [if_pos rfl] at H; exact H
                    clear H
                    have H := H1
                    clear H1
                    have H' := Aside0.mk H
                    clear H
                    go_wp2
                    go_meet
                    case rel => exact ⟨_, ((t150 != (wrap64 ((t141.length : Int) - 3)))), (by first | rfl | (simp; done) | (simp [*]; done)), H', ⟨by have := HJ2.out; first | omega | exact Nat.le_refl _⟩, ⟨by (with_reducible repeat (first | apply Kd.N_alloc | apply Kd.N_drewN | apply Kd.N_drew)); exact HO_5.out⟩, ⟨by repeat (first | (with_reducible exact HR146_1.out) | (with_reducible refine Kd.C_alloc ?_ _) | (with_reducible refine Kd.C_drewN ?_ _) | (with_reducible refine Kd.C_drew ?_) | exact HR146_1.out)⟩, ⟨by repeat (first | (with_reducible exact HR149_1.out) | (with_reducible refine Kd.C_alloc ?_ _) | (with_reducible refine Kd.C_drewN ?_ _) | (with_reducible refine Kd.C_drew ?_) | exact HR149_1.out)⟩, ⟨by repeat (first | (with_reducible first | exact HB.out | apply below_alloc | apply pw_below_drewN | apply below_drew1) | exact HB.out)⟩⟩
                  · replace c20 := Bool.eq_false_iff.mpr c20
                    subst c20
                    have H1 : (spec_Many.j1 kj2 t150 t147 t141 (t141.length : Int) true) = some (r1, r2, r3) := by rw [if_neg (show ¬ (false = true) by decide)] at H; exact H
                    clear H
                    have H := H1
                    clear H1
                    have H' := Aside0.mk H
                    clear H
                    go_wp2
                    go_meet
                    case rel => exact ⟨_, (true), (by first | rfl | (simp; done) | (simp [*]; done)), H', ⟨by have := HJ2.out; first | omega | exact Nat.le_refl _⟩, ⟨by (with_reducible repeat (first | apply Kd.N_alloc | apply Kd.N_drewN | apply Kd.N_drew)); exact HO_5.out⟩, ⟨by repeat (first | (with_reducible exact HR146_1.out) | (with_reducible refine Kd.C_alloc ?_ _) | (with_reducible refine Kd.C_drewN ?_ _) | (with_reducible refine Kd.C_drew ?_) | exact HR146_1.out)⟩, ⟨by repeat (first | (with_reducible exact HR149_1.out) | (with_reducible refine Kd.C_alloc ?_ _) | (with_reducible refine Kd.C_drewN ?_ _) | (with_reducible refine Kd.C_drew ?_) | exact HR149_1.out)⟩, ⟨by repeat (first | (with_reducible first | exact HB.out | apply below_alloc | apply pw_below_drewN | apply below_drew1) | exact HB.out)⟩⟩
                · replace c19 := Bool.eq_false_iff.mpr c19
                  subst c19
                  have H1 : (spec_Many.j1 kj2 t150 t147 t141 (t141.length : Int) true) = some (r1, r2, r3) := by rw [if_neg (show ¬ (false = true) by decide)] at H; exact H
                  clear H
                  have H := H1
                  clear H1
                  have H' := Aside0.mk H
                  clear H
                  go_wp2
                  go_meet
                  case rel => exact ⟨_, (true), (by first | rfl | (simp; done) | (simp [*]; done)), H', ⟨by have := HJ2.out; first | omega | exact Nat.le_refl _⟩, ⟨by (with_reducible repeat (first | apply Kd.N_alloc | apply Kd.N_drewN | apply Kd.N_drew)); exact HO_5.out⟩, ⟨by repeat (first | (with_reducible exact HR146_1.out) | (with_reducible refine Kd.C_alloc ?_ _) | (with_reducible refine Kd.C_drewN ?_ _) | (with_reducible refine Kd.C_drew ?_) | exact HR146_1.out)⟩, ⟨by repeat (first | (with_reducible exact HR149_1.out) | (with_reducible refine Kd.C_alloc ?_ _) | (with_reducible refine Kd.C_drewN ?_ _) | (with_reducible refine Kd.C_drew ?_) | exact HR149_1.out)⟩, ⟨by repeat (first | (with_reducible first | exact HB.out | apply below_alloc | apply pw_below_drewN | apply below_drew1) | exact HB.out)⟩⟩
              case rest =>
                clear HC18
                try clear c1
                try clear p1
                try clear q1
                try clear hx1
                try clear qi1
                try clear c2
                try clear p2
                try clear c5
                try clear c6
                try clear c6b0
                try clear p6
                try clear c7
                try clear c7b0
                try clear c7b1
                try clear c9
                try clear c9b0
                try clear c10
                try clear c10b0
                try clear c11
                try clear c12
                try clear c12b0
                try clear c12b1
                try clear c14
                try clear p14
                try clear q14
                try clear hx14
                try clear qi14
                try clear c15
                try clear c15b0
                try clear c16
                try clear c16b0
                try clear c19
                try clear c20
                try clear hx145_0
                try clear hx145_1
                try clear hx145_2
                try clear hx146_0
                try clear hx146_1
                try clear hx146_2
                try clear hx149_0
                try clear hx149_1
                try clear hx149_2
                try clear p1
                try clear p145
                try clear p146
                try clear p149
                try clear p2
                try clear p6
                try clear q1
                try clear q145
                try clear q146
                try clear q149
                obtain ⟨kq, x64_17, rfl, HA, HJ17, HO_5, HR146_1, HR149_1, HB⟩ := hcut
                cases kq with
                | zero => exact absurd HA.out (by simp [spec_Many.j1])
                | succ kj17 =>
                  have H := HA.out
                  clear HA
                  simp only [spec_Many.j1] at H
                  by_cases c21 : x64_17 = true
                  · subst c21
                    have H1 : (some (0, 0, false)) = some (r1, r2, r3) := by rw [if_pos rfl] at H; exact H
                    clear H
                    have H := H1
                    clear H1
                    simp only [Option.some.injEq, Prod.mk.injEq] at H
                    obtain ⟨rfl, rfl, rfl⟩ := H
                    go_wp2
                    go_ret3
                    exact ⟨by first | rfl | (simp [errW_none, errW_some] <;> rfl) | (simp only [← hji14]; first | rfl | (simp [errW_none, errW_some] <;> rfl)) | (simp [*, errW_none, errW_some] <;> rfl), by repeat (first | (with_reducible first | exact HB.out | apply below_alloc | apply pw_below_drewN | apply below_drew1) | exact HB.out)⟩
                  · replace c21 := Bool.eq_false_iff.mpr c21
                    subst c21
                    have H1 : (spec_Many.l0 kj17 t150 t147 t141 (t141.length : Int) 1) = some (r1, r2, r3) := by rw [if_neg (show ¬ (false = true) by decide)] at H; exact H
                    clear H
                    have H := H1
                    clear H1
                    have H' := Aside0.mk H
                    clear H
                    go_wp2
                    go_loopg [2, 3, 10] kj17 (fun kq v2 v3 v10 w' => ∃ (x2_3 : Int) (x3_3 : Int) (x10_3 : Int), v2 = .int .i64 x2_3 ∧ v3 = .int .i64 x3_3 ∧ v10 = .int .i64 x10_3 ∧ Aside0 (spec_Many.l0 kq x2_3 x3_3 t141 (t141.length : Int) x10_3 = some (r1, r2, r3)) ∧ Aside0 (kq ≤ kj17) ∧ Aside0 (Kd.N k27 27 w' w.heap.size (fun _ => True) (.slice (some ad146) t141.length co5) t141) ∧ Aside0 (Kd.C (Kd.int .u8) w' A146_1 ((rd_T27 t141 0).f1).length ((rd_T27 t141 0).f1)) ∧ Aside0 (Kd.C (Kd.int .u8) w' A149_1 ((rd_T27 t141 (ji14)).f1).length ((rd_T27 t141 (ji14)).f1)) ∧ Aside0 (Below w.heap.size w w'))
                    case atStart => exact ⟨(t150), (t147), (1), (by first | rfl | (simp; done) | (simp [*]; done)), (by first | rfl | (simp; done) | (simp [*]; done)), (by first | rfl | (simp; done) | (simp [*]; done)), H', ⟨Nat.le_refl _⟩, ⟨by (with_reducible repeat (first | apply Kd.N_alloc | apply Kd.N_drewN | apply Kd.N_drew)); exact HO_5.out⟩, ⟨by repeat (first | (with_reducible exact HR146_1.out) | (with_reducible refine Kd.C_alloc ?_ _) | (with_reducible refine Kd.C_drewN ?_ _) | (with_reducible refine Kd.C_drew ?_) | exact HR146_1.out)⟩, ⟨by repeat (first | (with_reducible exact HR149_1.out) | (with_reducible refine Kd.C_alloc ?_ _) | (with_reducible refine Kd.C_drewN ?_ _) | (with_reducible refine Kd.C_drew ?_) | exact HR149_1.out)⟩, ⟨by repeat (first | (with_reducible first | exact HB.out | apply below_alloc | apply pw_below_drewN | apply below_drew1) | exact HB.out)⟩⟩
                    case round =>
                      clear H'
                      try clear c1
                      try clear p1
                      try clear q1
                      try clear hx1
                      try clear qi1
                      try clear c2
                      try clear p2
                      try clear c5
                      try clear c6
                      try clear c6b0
                      try clear p6
                      try clear c7
                      try clear c7b0
                      try clear c7b1
                      try clear c9
                      try clear c9b0
                      try clear c10
                      try clear c10b0
                      try clear c11
                      try clear c12
                      try clear c12b0
                      try clear c12b1
                      try clear c14
                      try clear p14
                      try clear q14
                      try clear hx14
                      try clear qi14
                      try clear c15
                      try clear c15b0
                      try clear c16
                      try clear c16b0
                      try clear c19
                      try clear c20
                      try clear c21
                      try clear hx145_0
                      try clear hx145_1
                      try clear hx145_2
                      try clear hx146_0
                      try clear hx146_1
                      try clear hx146_2
                      try clear hx149_0
                      try clear hx149_1
                      try clear hx149_2
                      try clear p1
                      try clear p14
                      try clear p145
                      try clear p146
                      try clear p149
                      try clear p2
                      try clear p6
                      try clear q1
                      try clear q14
                      try clear q145
                      try clear q146
                      try clear q149
                      obtain ⟨x2_3, x3_3, x10_3, rfl, rfl, rfl, HA, HK3, HO_5, HR146_1, HR149_1, HB⟩ := hrel
                      cases gk with
                      | zero => exact absurd HA.out (by simp [spec_Many.l0])
                      | succ k3 =>
                        have H := HA.out
                        clear HA
                        simp only [spec_Many.l0] at H
                        by_cases c22 : x10_3 < (wrap64 ((t141.length : Int) - 2))
                        · rw [if_pos c22] at H
                          have c22b0 : decide (x10_3 < (wrap64 ((t141.length : Int) - 2))) = true := decide_eq_true c22
                          have c22j := c22b0
                          rw [hji14] at c22j
                          clear c22
                          by_cases c23 : 0 ≤ x10_3
                          · rw [if_pos c23] at H
                            have c23b0 : decide (0 ≤ x10_3) = true := decide_eq_true c23
                            clear c23
                            by_cases c24 : x10_3 < (t141.length : Int)
                            · rw [if_pos c24] at H
                              have c24b0 : decide (x10_3 < (t141.length : Int)) = true := decide_eq_true c24
                              clear c24
                              replace H := Option.bind_eq_some_iff.mp H
                              obtain ⟨⟨t153, t154⟩, A250, H⟩ := H
                              replace H : (if t154 = true then (some (0, 0, false)) else (spec_Many.l0 k3 x2_3 x3_3 t141 (t141.length : Int) (wrap64 (x10_3 + 1)))) = some (r1, r2, r3) := H
                              have A25 := Aside0.mk A250
                              clear A250
                              by_cases c26 : t154 = true
                              · subst c26
                                have H1 : (some (0, 0, false)) = some (r1, r2, r3) := by rw [if_pos rfl] at H; exact H
                                clear H
                                have H := H1
                                clear H1
                                simp only [Option.some.injEq, Prod.mk.injEq] at H
                                obtain ⟨rfl, rfl, rfl⟩ := H
                                have p152 : 0 ≤ (x10_3 : Int) := of_decide_eq_true (by first | (with_reducible assumption) | assumption)
                                have q152 : x10_3 < (t141.length : Int) := of_decide_eq_true (by first | (with_reducible assumption) | assumption)
                                obtain ⟨ad152, A152_1, c152_1, e152, hx152_0, hx152_1, hx152_2, hl152_1, hi152_1⟩ := at_T27 (Kd.N_reads' HO_5.out).2.2 x10_3 p152 q152
                                obtain rfl : ad146 = ad152 := (by injection e152)
                                obtain ⟨ce152, hce152, hMe152, hcc152⟩ := Kd.N_get HO_5.out z27 x10_3 p152 (by first | exact q152 | exact of_decide_eq_true (by first | (with_reducible assumption) | assumption) | (have e_ := (Kd.N_reads' HO_5.out).1; omega))
                                obtain ⟨ua152_1, uc152_1, rfl, ul152_1, ge152_1⟩ := k27_openF hMe152
                                have hv152_1 := hcc152 1 _ rfl
                                rw [add_field _ _ 1 (by omega)] at hv152_1
                                replace hv152_1 := Option.some.inj (hv152_1.symm.trans hx152_1)
                                injection hv152_1 with hva_ hvn_ hvc_
                                rw [hva_] at ge152_1
                                rw [hvc_] at ul152_1
                                have HL152_1 := Aside0.mk (show Kd.V (Kd.int .u8) 5 _ w.heap.size _ _ ((rd_T27 t141 x10_3).f1) from Kd.V_mk ul152_1 ge152_1)
                                clear hva_ hvn_ hvc_ ge152_1 ul152_1
                                clear hcc152 hce152
                                have HR152_1 := Aside0.mk hi152_1
                                have HC152_1 := Aside0.mk hl152_1
                                clear hi152_1 hl152_1
                                replace p152 := eq_true p152
                                replace q152 := eq_true q152
                                go_wp2_with (first | ((with_reducible refine gate_callee (f := 19) rfl ?_); refine goesL_ (some 77) rfl rfl Try.func19 (by kernel_rfl) rfl #[.int .i64 ((rd_T27 t141 x10_3).f0)] rfl (by (try simp only [List.map_toArray, List.map_cons, List.map_nil]); first | done | rfl | (simp only [List.length_drop, List.length_take]; rfl)) ?_; (with_reducible refine (spec_Small.calls ((rd_T27 t141 x10_3).f0) t153 true _ A25.out).mono ?_); rintro e w' ⟨rfl, ⟨nd, rfl⟩⟩; refine ⟨_, rfl, ?_⟩))
                                go_ret3
                                exact ⟨by first | rfl | (simp [errW_none, errW_some] <;> rfl) | (simp only [← hji14]; first | rfl | (simp [errW_none, errW_some] <;> rfl)) | (simp [*, errW_none, errW_some] <;> rfl), by repeat (first | (with_reducible first | exact HB.out | apply below_alloc | apply pw_below_drewN | apply below_drew1) | exact HB.out)⟩
                              · replace c26 := Bool.eq_false_iff.mpr c26
                                subst c26
                                have H1 : (spec_Many.l0 k3 x2_3 x3_3 t141 (t141.length : Int) (wrap64 (x10_3 + 1))) = some (r1, r2, r3) := by rw [if_neg (show ¬ (false = true) by decide)] at H; exact H
                                clear H
                                have H := H1
                                clear H1
                                have H' := Aside0.mk H
                                clear H
                                have p152 : 0 ≤ (x10_3 : Int) := of_decide_eq_true (by first | (with_reducible assumption) | assumption)
                                have q152 : x10_3 < (t141.length : Int) := of_decide_eq_true (by first | (with_reducible assumption) | assumption)
                                obtain ⟨ad152, A152_1, c152_1, e152, hx152_0, hx152_1, hx152_2, hl152_1, hi152_1⟩ := at_T27 (Kd.N_reads' HO_5.out).2.2 x10_3 p152 q152
                                obtain rfl : ad146 = ad152 := (by injection e152)
                                obtain ⟨ce152, hce152, hMe152, hcc152⟩ := Kd.N_get HO_5.out z27 x10_3 p152 (by first | exact q152 | exact of_decide_eq_true (by first | (with_reducible assumption) | assumption) | (have e_ := (Kd.N_reads' HO_5.out).1; omega))
                                obtain ⟨ua152_1, uc152_1, rfl, ul152_1, ge152_1⟩ := k27_openF hMe152
                                have hv152_1 := hcc152 1 _ rfl
                                rw [add_field _ _ 1 (by omega)] at hv152_1
                                replace hv152_1 := Option.some.inj (hv152_1.symm.trans hx152_1)
                                injection hv152_1 with hva_ hvn_ hvc_
                                rw [hva_] at ge152_1
                                rw [hvc_] at ul152_1
                                have HL152_1 := Aside0.mk (show Kd.V (Kd.int .u8) 5 _ w.heap.size _ _ ((rd_T27 t141 x10_3).f1) from Kd.V_mk ul152_1 ge152_1)
                                clear hva_ hvn_ hvc_ ge152_1 ul152_1
                                clear hcc152 hce152
                                have HR152_1 := Aside0.mk hi152_1
                                have HC152_1 := Aside0.mk hl152_1
                                clear hi152_1 hl152_1
                                replace p152 := eq_true p152
                                replace q152 := eq_true q152
                                go_wp2_with (first | ((with_reducible refine gate_callee (f := 19) rfl ?_); refine goesL_ (some 77) rfl rfl Try.func19 (by kernel_rfl) rfl #[.int .i64 ((rd_T27 t141 x10_3).f0)] rfl (by (try simp only [List.map_toArray, List.map_cons, List.map_nil]); first | done | rfl | (simp only [List.length_drop, List.length_take]; rfl)) ?_; (with_reducible refine (spec_Small.calls ((rd_T27 t141 x10_3).f0) t153 false _ A25.out).mono ?_); rintro e w' ⟨rfl, ⟨nd, rfl⟩⟩; refine ⟨_, rfl, ?_⟩))
                                go_roundg k3
                                case measure => have := HJ2.out; have := HJ17.out; have := HK3.out; omega
                                case rel => exact ⟨(x2_3), (x3_3), (wrap64 (x10_3 + 1)), (by first | rfl | (simp; done) | (simp [*]; done)), (by first | rfl | (simp; done) | (simp [*]; done)), (by first | rfl | (simp; done) | (simp [*]; done)), H', ⟨by have := HJ2.out; have := HJ17.out; have := HK3.out; omega⟩, ⟨by (with_reducible repeat (first | apply Kd.N_alloc | apply Kd.N_drewN | apply Kd.N_drew)); exact HO_5.out⟩, ⟨by repeat (first | (with_reducible exact HR146_1.out) | (with_reducible refine Kd.C_alloc ?_ _) | (with_reducible refine Kd.C_drewN ?_ _) | (with_reducible refine Kd.C_drew ?_) | exact HR146_1.out)⟩, ⟨by repeat (first | (with_reducible exact HR149_1.out) | (with_reducible refine Kd.C_alloc ?_ _) | (with_reducible refine Kd.C_drewN ?_ _) | (with_reducible refine Kd.C_drew ?_) | exact HR149_1.out)⟩, ⟨by repeat (first | (with_reducible first | exact HB.out | apply below_alloc | apply pw_below_drewN | apply below_drew1) | exact HB.out)⟩⟩
                            · rw [if_neg c24] at H
                              exact absurd H (by simp)
                          · rw [if_neg c23] at H
                            exact absurd H (by simp)
                        · rw [if_neg c22] at H
                          have c22b0 : decide (x10_3 < (wrap64 ((t141.length : Int) - 2))) = false := decide_eq_false c22
                          have c22j := c22b0
                          rw [hji14] at c22j
                          clear c22
                          simp only [Option.some.injEq, Prod.mk.injEq] at H
                          obtain ⟨rfl, rfl, rfl⟩ := H
                          go_wp2
                          go_ret3
                          exact ⟨by first | rfl | (simp [errW_none, errW_some] <;> rfl) | (simp only [← hji14]; first | rfl | (simp [errW_none, errW_some] <;> rfl)) | (simp [*, errW_none, errW_some] <;> rfl), by repeat (first | (with_reducible first | exact HB.out | apply below_alloc | apply pw_below_drewN | apply below_drew1) | exact HB.out)⟩
            · rw [if_neg c16] at H
              exact absurd H (by simp)
          · rw [if_neg c15] at H
            exact absurd H (by simp)
        · rw [if_neg c12] at H
          exact absurd H (by simp)

end Go.Proofs.Ytafpmdmmeohmfaa.PFnClass
