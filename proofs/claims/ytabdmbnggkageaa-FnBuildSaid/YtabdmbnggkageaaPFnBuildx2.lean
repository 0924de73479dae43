-- PRINTED BY print.sh 35421559b90ae4d0a3588c463048766b98c2df88dd9212a6774a882060cdf62d: not written by this session
import Derived.Test.YtabdmbnggkageaaPFnBuildx0
namespace Go.Proofs.Ytabdmbnggkageaa.PFnBuild
open Go.RowKit Go.Proofs.YtabdmbnggkageaaW.PrintWords Go.Proofs.YtabdmbnggkageaaW.PrintLast Go.Proofs.YtabdmbnggkageaaW.PrintMore
attribute [local go_sem] max2_int min2_int max_two min_two max_three min_three max_four min_four   -- for this text's walks alone
set_option linter.unusedVariables false
set_option linter.unusedSimpArgs false

/-! ### spec_Least: function 16 -/
mutual
def spec_Least.j0 : Nat → List Int → Int → Bool → Option (Int)
  | 0, _, _, _ => none
  | k + 1, x0, x3, x9 => if x9 = true then (if 0 < (x0.length : Int) then (some (wrap64 (80 + (wrap64 (rd x0 0))))) else (none)) else (if x3 = 1 then (if 0 < (x0.length : Int) then (spec_Least.j1 k x3 ((rd x0 0) == 129)) else (none)) else (spec_Least.j1 k x3 false))
def spec_Least.j1 : Nat → Int → Bool → Option (Int)
  | 0, _, _ => none
  | k + 1, x3, x29 => if x29 = true then (some 79) else (if x3 < 76 then (some x3) else (if x3 ≤ 255 then (some 76) else (if x3 ≤ 65535 then (some 77) else (some 78))))
end
def spec_Least.f (k : Nat) (l0 : List Int) : Option (Int) := if (l0.length : Int) = 0 then (some 0) else (if (l0.length : Int) = 1 then (if 0 < (l0.length : Int) then (if (rd l0 0) ≥ 1 then (spec_Least.j0 k l0 (l0.length : Int) (decide ((rd l0 0) ≤ 16))) else (spec_Least.j0 k l0 (l0.length : Int) false)) else (none)) else (spec_Least.j0 k l0 (l0.length : Int) false))
theorem spec_Least.mono_l : ∀ k, (∀ y0 y1 y2, LeO (spec_Least.j0 k y0 y1 y2) (spec_Least.j0 (k + 1) y0 y1 y2)) ∧ (∀ y0 y1, LeO (spec_Least.j1 k y0 y1) (spec_Least.j1 (k + 1) y0 y1))
  | 0 => ⟨fun _ _ _ r h => by simp [spec_Least.j0] at h, fun _ _ r h => by simp [spec_Least.j1] at h⟩
  | k + 1 => by
    obtain ⟨ih0, ih1⟩ := spec_Least.mono_l k
    refine ⟨?_, ?_⟩
    · intro y0 y1 y2
      unfold spec_Least.j0
      repeat' first
      | (with_reducible exact ih0 _ _ _)
      | (with_reducible exact ih1 _ _)
      | (with_reducible exact LeO.refl _)
      | (with_reducible exact LeO.none _)
      | (with_reducible refine LeO.ite ?_ ?_)
      | (with_reducible refine LeO.bind ?_ (fun _ => ?_))
      | exact ih0 _ _ _
      | exact ih1 _ _
      | exact LeO.none _
      | refine LeO.ite ?_ ?_
      | refine LeO.bind ?_ (fun _ => ?_)
    · intro y0 y1
      unfold spec_Least.j1
      repeat' first
      | (with_reducible exact ih0 _ _ _)
      | (with_reducible exact ih1 _ _)
      | (with_reducible exact LeO.refl _)
      | (with_reducible exact LeO.none _)
      | (with_reducible refine LeO.ite ?_ ?_)
      | (with_reducible refine LeO.bind ?_ (fun _ => ?_))
      | exact ih0 _ _ _
      | exact ih1 _ _
      | exact LeO.none _
      | refine LeO.ite ?_ ?_
      | refine LeO.bind ?_ (fun _ => ?_)
theorem spec_Least.mono : ∀ a0 k, LeO (spec_Least.f k a0) (spec_Least.f (k + 1) a0) := by
  intro a0 k
  obtain ⟨ih0, ih1⟩ := spec_Least.mono_l k
  unfold spec_Least.f
  repeat' first
      | (with_reducible exact ih0 _ _ _)
      | (with_reducible exact ih1 _ _)
      | (with_reducible exact LeO.refl _)
      | (with_reducible exact LeO.none _)
      | (with_reducible refine LeO.ite ?_ ?_)
      | (with_reducible refine LeO.bind ?_ (fun _ => ?_))
      | exact ih0 _ _ _
      | exact ih1 _ _
      | exact LeO.none _
      | refine LeO.ite ?_ ?_
      | refine LeO.bind ?_ (fun _ => ?_)
set_option maxHeartbeats 8000000 in
set_option maxRecDepth 100000 in
theorem spec_Least.calls (k : Nat) (A0 : Option Addr) (c0 : Nat) (l0 : List Int) (r : Int) (w : World) (hr0 : Kd.C (Kd.int .u8) w A0 l0.length l0) (hc0 : l0.length ≤ c0) (h : spec_Least.f k l0 = some r) :
    Calls Try.prog 16 #[.slice A0 l0.length c0] w fun e w' => e = .returned (.int .i64 r) ∧ Drawn0 w w' := by
  have HR0 := Aside0.mk hr0
  have HC0 := Aside0.mk hc0
  clear hr0 hc0
  have H : (if (l0.length : Int) = 0 then (some 0) else (if (l0.length : Int) = 1 then (if 0 < (l0.length : Int) then (if (rd l0 0) ≥ 1 then (spec_Least.j0 k l0 (l0.length : Int) (decide ((rd l0 0) ≤ 16))) else (spec_Least.j0 k l0 (l0.length : Int) false)) else (none)) else (spec_Least.j0 k l0 (l0.length : Int) false))) = some r := h
  clear h
  by_cases c2 : (l0.length : Int) = 0
  · rw [if_pos c2] at H
    have c2b0 : ((l0.length : Int) == 0) = true := beq_iff_eq.mpr c2
    have c2b1 : ((l0.length : Int) != 0) = false := bne_eq_false_iff_eq.mpr c2
    clear c2
    obtain rfl := Option.some.inj H
    go_enter Try.func16, Try.ntmps16
    go_wp2
    go_ret
    exact ⟨by first | rfl | (simp; done) | (simp [*]; done), by repeat (first | exact Drawn0.refl _ | apply Drawn0.step)⟩
  · rw [if_neg c2] at H
    have c2b0 : ((l0.length : Int) == 0) = false := beq_eq_false_iff_ne.mpr c2
    have c2b1 : ((l0.length : Int) != 0) = true := bne_iff_ne.mpr c2
    have c2b2 : ¬ (l0 = []) := fun h_ => c2 (by rw [h_]; rfl)
    have HC3 := Aside0.mk H
    clear H
    go_enter Try.func16, Try.ntmps16
    go_upto_region 4 with (fail)
    go_cut [9] (fun v9 wc => ∃ (kq : Nat) (x9_2 : Bool), v9 = .bool x9_2 ∧ Aside0 (spec_Least.j0 kq l0 (l0.length : Int) x9_2 = some r) ∧ Aside0 (kq ≤ k) ∧ Drawn0 w wc)
    case first =>
      have H := HC3.out
      clear HC3
      by_cases c4 : (l0.length : Int) = 1
      · rw [if_pos c4] at H
        have c4b0 : ((l0.length : Int) == 1) = true := beq_iff_eq.mpr c4
        have c4b1 : ((l0.length : Int) != 1) = false := bne_eq_false_iff_eq.mpr c4
        clear c4
        (first | rw [c4b0] | (simp only [i64_w, i32_w]; rw [c4b0]) | skip)
        by_cases c5 : 0 < (l0.length : Int)
        · rw [if_pos c5] at H
          have c5b0 : decide (0 < (l0.length : Int)) = true := decide_eq_true c5
          have c5b1 : decide (0 < l0.length) = true := decide_eq_true (by omega)
          clear c5
          by_cases c6 : (rd l0 0) ≥ 1
          · rw [if_pos c6] at H
            have c6b0 : decide (1 ≤ (rd l0 0)) = true := decide_eq_true c6
            clear c6
            have H' := Aside0.mk H
            clear H
            have p119 : 0 ≤ (0 : Int) := (by omega)
            have q119 : 0 < (l0.length : Int) := of_decide_eq_true (by first | (with_reducible assumption) | assumption)
            obtain ⟨ad119, e119, hx119_0⟩ := Kd.at_int HR0.out 0 p119 q119
            cases e119
            have qi119 : (0 < l0.length) = True := eq_true (by omega)
            (try rw [show ((0 : Int)).toNat = 0 from rfl] at hx119_0)
            (try rw [Addr.add_zero'] at hx119_0)
            replace p119 := eq_true p119
            replace q119 := eq_true q119
            have p120 : 0 ≤ (0 : Int) := (by omega)
            have q120 : 0 < (l0.length : Int) := of_decide_eq_true (by first | (with_reducible assumption) | assumption)
            obtain ⟨ad120, e120, hx120_0⟩ := Kd.at_int HR0.out 0 p120 q120
            obtain rfl : ad119 = ad120 := (by injection e120)
            have qi120 : (0 < l0.length) = True := eq_true (by omega)
            (try rw [show ((0 : Int)).toNat = 0 from rfl] at hx120_0)
            (try rw [Addr.add_zero'] at hx120_0)
            replace p120 := eq_true p120
            replace q120 := eq_true q120
            go_wp2
            go_meet
            case rel => exact ⟨_, (decide ((rd l0 0) ≤ 16)), (by first | rfl | (simp; done) | (simp [*]; done)), H', ⟨by first | omega | exact Nat.le_refl _⟩, by repeat (first | exact Drawn0.refl _ | apply Drawn0.step)⟩
          · rw [if_neg c6] at H
            have c6b0 : decide (1 ≤ (rd l0 0)) = false := decide_eq_false c6
            clear c6
            have H' := Aside0.mk H
            clear H
            have p119 : 0 ≤ (0 : Int) := (by omega)
            have q119 : 0 < (l0.length : Int) := of_decide_eq_true (by first | (with_reducible assumption) | assumption)
            obtain ⟨ad119, e119, hx119_0⟩ := Kd.at_int HR0.out 0 p119 q119
            cases e119
            have qi119 : (0 < l0.length) = True := eq_true (by omega)
            (try rw [show ((0 : Int)).toNat = 0 from rfl] at hx119_0)
            (try rw [Addr.add_zero'] at hx119_0)
            replace p119 := eq_true p119
            replace q119 := eq_true q119
            go_wp2
            go_meet
            case rel => exact ⟨_, (false), (by first | rfl | (simp; done) | (simp [*]; done)), H', ⟨by first | omega | exact Nat.le_refl _⟩, by repeat (first | exact Drawn0.refl _ | apply Drawn0.step)⟩
        · rw [if_neg c5] at H
          exact absurd H (by simp)
      · rw [if_neg c4] at H
        have c4b0 : ((l0.length : Int) == 1) = false := beq_eq_false_iff_ne.mpr c4
        have c4b1 : ((l0.length : Int) != 1) = true := bne_iff_ne.mpr c4
        (first | rw [c4b0] | (simp only [i64_w, i32_w]; rw [c4b0]) | skip)
        have H' := Aside0.mk H
        clear H
        go_wp2
        go_meet
        case rel => exact ⟨_, (false), (by first | rfl | (simp; done) | (simp [*]; done)), H', ⟨by first | omega | exact Nat.le_refl _⟩, by repeat (first | exact Drawn0.refl _ | apply Drawn0.step)⟩
    case rest =>
      clear HC3
      try clear c1
      try clear p1
      try clear q1
      try clear hx1
      try clear qi1
      try clear c2
      try clear c2b0
      try clear c2b1
      try clear c2b2
      try clear p2
      try clear c4
      try clear c4b0
      try clear c4b1
      try clear c5
      try clear c5b0
      try clear c5b1
      try clear c6
      try clear c6b0
      try clear hx119_0
      try clear hx120_0
      try clear p119
      try clear p120
      try clear q119
      try clear q120
      obtain ⟨kq, x9_2, rfl, HA, HJ2, ⟨mc2, rfl⟩⟩ := hcut
      cases kq with
      | zero => exact absurd HA.out (by simp [spec_Least.j0])
      | succ kj2 =>
        have H := HA.out
        clear HA
        simp only [spec_Least.j0] at H
        by_cases c7 : x9_2 = true
        · subst c7
          have H1 : (if 0 < (l0.length : Int) then (some (wrap64 (80 + (wrap64 (rd l0 0))))) else (none)) = some r := by rw [if_pos rfl] at H; exact H
          clear H
          have H := H1
          clear H1
          by_cases c8 : 0 < (l0.length : Int)
          · rw [if_pos c8] at H
            have c8b0 : decide (0 < (l0.length : Int)) = true := decide_eq_true c8
            have c8b1 : decide (0 < l0.length) = true := decide_eq_true (by omega)
            clear c8
            obtain rfl := Option.some.inj H
            have p121 : 0 ≤ (0 : Int) := (by omega)
            have q121 : 0 < (l0.length : Int) := of_decide_eq_true (by first | (with_reducible assumption) | assumption)
            obtain ⟨ad121, e121, hx121_0⟩ := Kd.at_int HR0.out 0 p121 q121
            cases e121
            have qi121 : (0 < l0.length) = True := eq_true (by omega)
            (try rw [show ((0 : Int)).toNat = 0 from rfl] at hx121_0)
            (try rw [Addr.add_zero'] at hx121_0)
            replace p121 := eq_true p121
            replace q121 := eq_true q121
            go_wp2
            go_ret
            exact ⟨by first | rfl | (simp; done) | (simp [*]; done), by repeat (first | exact Drawn0.refl _ | apply Drawn0.step)⟩
          · rw [if_neg c8] at H
            exact absurd H (by simp)
        · replace c7 := Bool.eq_false_iff.mpr c7
          subst c7
          have H1 : (if (l0.length : Int) = 1 then (if 0 < (l0.length : Int) then (spec_Least.j1 kj2 (l0.length : Int) ((rd l0 0) == 129)) else (none)) else (spec_Least.j1 kj2 (l0.length : Int) false)) = some r := by rw [if_neg (show ¬ (false = true) by decide)] at H; exact H
          clear H
          have H := H1
          clear H1
          have HC9 := Aside0.mk H
          clear H
          go_upto_region 6 with (fail)
          go_cut [29] (fun v29 wc => ∃ (kq : Nat) (x29_8 : Bool), v29 = .bool x29_8 ∧ Aside0 (spec_Least.j1 kq (l0.length : Int) x29_8 = some r) ∧ Aside0 (kq ≤ kj2) ∧ Drawn0 w wc)
          case first =>
            have H := HC9.out
            clear HC9
            by_cases c10 : (l0.length : Int) = 1
            · rw [if_pos c10] at H
              have c10b0 : ((l0.length : Int) == 1) = true := beq_iff_eq.mpr c10
              have c10b1 : ((l0.length : Int) != 1) = false := bne_eq_false_iff_eq.mpr c10
              clear c10
              (first | rw [c10b0] | (simp only [i64_w, i32_w]; rw [c10b0]) | skip)
              by_cases c11 : 0 < (l0.length : Int)
              · rw [if_pos c11] at H
                have c11b0 : decide (0 < (l0.length : Int)) = true := decide_eq_true c11
                have c11b1 : decide (0 < l0.length) = true := decide_eq_true (by omega)
                clear c11
                have H' := Aside0.mk H
                clear H
                have p122 : 0 ≤ (0 : Int) := (by omega)
                have q122 : 0 < (l0.length : Int) := of_decide_eq_true (by first | (with_reducible assumption) | assumption)
                obtain ⟨ad122, e122, hx122_0⟩ := Kd.at_int HR0.out 0 p122 q122
                cases e122
                have qi122 : (0 < l0.length) = True := eq_true (by omega)
                (try rw [show ((0 : Int)).toNat = 0 from rfl] at hx122_0)
                (try rw [Addr.add_zero'] at hx122_0)
                replace p122 := eq_true p122
                replace q122 := eq_true q122
                go_wp2
                go_meet
                case rel => exact ⟨_, (((rd l0 0) == 129)), (by first | rfl | (simp; done) | (simp [*]; done)), H', ⟨by have := HJ2.out; first | omega | exact Nat.le_refl _⟩, by repeat (first | exact Drawn0.refl _ | apply Drawn0.step)⟩
              · rw [if_neg c11] at H
                exact absurd H (by simp)
            · rw [if_neg c10] at H
              have c10b0 : ((l0.length : Int) == 1) = false := beq_eq_false_iff_ne.mpr c10
              have c10b1 : ((l0.length : Int) != 1) = true := bne_iff_ne.mpr c10
              (first | rw [c10b0] | (simp only [i64_w, i32_w]; rw [c10b0]) | skip)
              have H' := Aside0.mk H
              clear H
              go_wp2
              go_meet
              case rel => exact ⟨_, (false), (by first | rfl | (simp; done) | (simp [*]; done)), H', ⟨by have := HJ2.out; first | omega | exact Nat.le_refl _⟩, by repeat (first | exact Drawn0.refl _ | apply Drawn0.step)⟩
          case rest =>
            clear HC9
            try clear c1
            try clear p1
            try clear q1
            try clear hx1
            try clear qi1
            try clear c2
            try clear c2b0
            try clear c2b1
            try clear c2b2
            try clear p2
            try clear c4
            try clear c4b0
            try clear c4b1
            try clear c5
            try clear c5b0
            try clear c5b1
            try clear c6
            try clear c6b0
            try clear p6
            try clear c7
            try clear c8
            try clear c8b0
            try clear c8b1
            try clear c10
            try clear c10b0
            try clear c10b1
            try clear c11
            try clear c11b0
            try clear c11b1
            try clear p11
            try clear q11
            try clear hx11
            try clear qi11
            try clear hx119_0
            try clear hx120_0
            try clear hx121_0
            try clear hx122_0
            try clear p1
            try clear p119
            try clear p120
            try clear p121
            try clear p122
            try clear p2
            try clear q1
            try clear q119
            try clear q120
            try clear q121
            try clear q122
            obtain ⟨kq, x29_8, rfl, HA, HJ8, ⟨mc8, rfl⟩⟩ := hcut
            cases kq with
            | zero => exact absurd HA.out (by simp [spec_Least.j1])
            | succ kj8 =>
              have H := HA.out
              clear HA
              simp only [spec_Least.j1] at H
              by_cases c12 : x29_8 = true
              · subst c12
                have H1 : (some 79) = some r := by rw [if_pos rfl] at H; exact H
                clear H
                have H := H1
                clear H1
                obtain rfl := Option.some.inj H
                go_wp2
                go_ret
                exact ⟨by first | rfl | (simp; done) | (simp [*]; done), by repeat (first | exact Drawn0.refl _ | apply Drawn0.step)⟩
              · replace c12 := Bool.eq_false_iff.mpr c12
                subst c12
                have H1 : (if (l0.length : Int) < 76 then (some (l0.length : Int)) else (if (l0.length : Int) ≤ 255 then (some 76) else (if (l0.length : Int) ≤ 65535 then (some 77) else (some 78)))) = some r := by rw [if_neg (show ¬ (false = true) by decide)] at H; exact H
                clear H
                have H := H1
                clear H1
                by_cases c13 : (l0.length : Int) < 76
                · rw [if_pos c13] at H
                  have c13b0 : decide ((l0.length : Int) < 76) = true := decide_eq_true c13
                  have c13b1 : decide (l0.length < 76) = true := decide_eq_true (by omega)
                  clear c13
                  obtain rfl := Option.some.inj H
                  go_wp2
                  go_ret
                  exact ⟨by first | rfl | (simp; done) | (simp [*]; done), by repeat (first | exact Drawn0.refl _ | apply Drawn0.step)⟩
                · rw [if_neg c13] at H
                  have c13b0 : decide ((l0.length : Int) < 76) = false := decide_eq_false c13
                  have c13b1 : decide (l0.length < 76) = false := decide_eq_false (by omega)
                  clear c13
                  by_cases c14 : (l0.length : Int) ≤ 255
                  · rw [if_pos c14] at H
                    have c14b0 : decide ((l0.length : Int) ≤ 255) = true := decide_eq_true c14
                    have c14b1 : decide (l0.length ≤ 255) = true := decide_eq_true (by omega)
                    clear c14
                    obtain rfl := Option.some.inj H
                    go_wp2
                    go_ret
                    exact ⟨by first | rfl | (simp; done) | (simp [*]; done), by repeat (first | exact Drawn0.refl _ | apply Drawn0.step)⟩
                  · rw [if_neg c14] at H
                    have c14b0 : decide ((l0.length : Int) ≤ 255) = false := decide_eq_false c14
                    have c14b1 : decide (l0.length ≤ 255) = false := decide_eq_false (by omega)
                    clear c14
                    by_cases c15 : (l0.length : Int) ≤ 65535
                    · rw [if_pos c15] at H
                      have c15b0 : decide ((l0.length : Int) ≤ 65535) = true := decide_eq_true c15
                      have c15b1 : decide (l0.length ≤ 65535) = true := decide_eq_true (by omega)
                      clear c15
                      obtain rfl := Option.some.inj H
                      go_wp2
                      go_ret
                      exact ⟨by first | rfl | (simp; done) | (simp [*]; done), by repeat (first | exact Drawn0.refl _ | apply Drawn0.step)⟩
                    · rw [if_neg c15] at H
                      have c15b0 : decide ((l0.length : Int) ≤ 65535) = false := decide_eq_false c15
                      have c15b1 : decide (l0.length ≤ 65535) = false := decide_eq_false (by omega)
                      clear c15
                      obtain rfl := Option.some.inj H
                      go_wp2
                      go_ret
                      exact ⟨by first | rfl | (simp; done) | (simp [*]; done), by repeat (first | exact Drawn0.refl _ | apply Drawn0.step)⟩

/-! ### spec_Push: function 13 -/
mutual
def spec_Push.j0 : Nat → List Int → Int → List Int → Bool → Option (List Int)
  | 0, _, _, _, _ => none
  | k + 1, x0, x3, x4, x17 => if x17 = true then (some x4) else (spec_Push.l0 k x0 x3 x4 (x0.length : Int) 0)
def spec_Push.l0 : Nat → List Int → Int → List Int → Int → Int → Option (List Int)
  | 0, _, _, _, _, _ => none
  | k + 1, x0, x3, x4, x5, x6 => if x3 ≥ 76 then (if 0 ≤ (wrap64 (x3 - 76)) then (if x6 < (shl .i64 1 (wrap64 (x3 - 76))) then (if x4.length < 140737488355328 then (spec_Push.l0 k x0 x3 (x4 ++ [(x5) % 256]) (x5 / 256) (wrap64 (x6 + 1))) else (none)) else (if x4.length + x0.length < 140737488355328 then (some (x4 ++ x0)) else (none))) else (none)) else (if x4.length + x0.length < 140737488355328 then (some (x4 ++ x0)) else (none))
end
def spec_Push.f (k : Nat) (l0 : List Int) : Option (List Int) := (spec_Least.f k l0).bind fun t123 => ((some (([(t123) % 256] : List Int) : List Int)).bind fun y124 => (if t123 = 0 then (spec_Push.j0 k l0 t123 y124 true) else (spec_Push.j0 k l0 t123 y124 (decide (t123 ≥ 79)))))
theorem spec_Push.mono_l : ∀ k, (∀ y0 y1 y2 y3, LeO (spec_Push.j0 k y0 y1 y2 y3) (spec_Push.j0 (k + 1) y0 y1 y2 y3)) ∧ (∀ y0 y1 y2 y3 y4, LeO (spec_Push.l0 k y0 y1 y2 y3 y4) (spec_Push.l0 (k + 1) y0 y1 y2 y3 y4))
  | 0 => ⟨fun _ _ _ _ r h => by simp [spec_Push.j0] at h, fun _ _ _ _ _ r h => by simp [spec_Push.l0] at h⟩
  | k + 1 => by
    obtain ⟨ih0, ih1⟩ := spec_Push.mono_l k
    refine ⟨?_, ?_⟩
    · intro y0 y1 y2 y3
      unfold spec_Push.j0
      repeat' first
      | (with_reducible exact ih0 _ _ _ _)
      | (with_reducible exact ih1 _ _ _ _ _)
      | (with_reducible exact spec_Least.mono _ _)
      | (with_reducible exact LeO.refl _)
      | (with_reducible exact LeO.none _)
      | (with_reducible refine LeO.ite ?_ ?_)
      | (with_reducible refine LeO.bind ?_ (fun _ => ?_))
      | exact ih0 _ _ _ _
      | exact ih1 _ _ _ _ _
      | exact spec_Least.mono _ _
      | exact LeO.none _
      | refine LeO.ite ?_ ?_
      | refine LeO.bind ?_ (fun _ => ?_)
    · intro y0 y1 y2 y3 y4
      unfold spec_Push.l0
      repeat' first
      | (with_reducible exact ih0 _ _ _ _)
      | (with_reducible exact ih1 _ _ _ _ _)
      | (with_reducible exact spec_Least.mono _ _)
      | (with_reducible exact LeO.refl _)
      | (with_reducible exact LeO.none _)
      | (with_reducible refine LeO.ite ?_ ?_)
      | (with_reducible refine LeO.bind ?_ (fun _ => ?_))
      | exact ih0 _ _ _ _
      | exact ih1 _ _ _ _ _
      | exact spec_Least.mono _ _
      | exact LeO.none _
      | refine LeO.ite ?_ ?_
      | refine LeO.bind ?_ (fun _ => ?_)
theorem spec_Push.mono : ∀ a0 k, LeO (spec_Push.f k a0) (spec_Push.f (k + 1) a0) := by
  intro a0 k
  obtain ⟨ih0, ih1⟩ := spec_Push.mono_l k
  unfold spec_Push.f
  repeat' first
      | (with_reducible exact ih0 _ _ _ _)
      | (with_reducible exact ih1 _ _ _ _ _)
      | (with_reducible exact spec_Least.mono _ _)
      | (with_reducible exact LeO.refl _)
      | (with_reducible exact LeO.none _)
      | (with_reducible refine LeO.ite ?_ ?_)
      | (with_reducible refine LeO.bind ?_ (fun _ => ?_))
      | exact ih0 _ _ _ _
      | exact ih1 _ _ _ _ _
      | exact spec_Least.mono _ _
      | exact LeO.none _
      | refine LeO.ite ?_ ?_
      | refine LeO.bind ?_ (fun _ => ?_)
set_option maxHeartbeats 8000000 in
set_option maxRecDepth 100000 in
theorem spec_Push.calls (k : Nat) (A0 : Option Addr) (c0 : Nat) (l0 : List Int) (r : List Int) (w : World) (hr0 : Kd.C (Kd.int .u8) w A0 l0.length l0) (hc0 : l0.length ≤ c0) (h : spec_Push.f k l0 = some r) :
    Calls Try.prog 13 #[.slice A0 l0.length c0] w fun e w' => ∃ v0_ : Value, e = .returned (v0_) ∧ Kd.R (Kd.int .u8) 5 w' w.heap.size (fun _ => True) v0_ r ∧ Below w.heap.size w w' := by
  have HR0 := Aside0.mk hr0
  have HC0 := Aside0.mk hc0
  clear hr0 hc0
  have HB := Aside0.mk (Below.refl w.heap.size w)
  have H : ((spec_Least.f k l0).bind fun t123 => ((some (([(t123) % 256] : List Int) : List Int)).bind fun y124 => (if t123 = 0 then (spec_Push.j0 k l0 t123 y124 true) else (spec_Push.j0 k l0 t123 y124 (decide (t123 ≥ 79)))))) = some r := h
  clear h
  replace H := Option.bind_eq_some_iff.mp H
  obtain ⟨t123, A20, H⟩ := H
  replace H : ((some (([(t123) % 256] : List Int) : List Int)).bind fun y124 => (if t123 = 0 then (spec_Push.j0 k l0 t123 y124 true) else (spec_Push.j0 k l0 t123 y124 (decide (t123 ≥ 79))))) = some r := H
  have A2 := Aside0.mk A20
  clear A20
  obtain ⟨y124, hy124⟩ : ∃ y_ : List Int, y_ = (([(t123) % 256] : List Int)) := ⟨_, rfl⟩
  replace H : (if t123 = 0 then (spec_Push.j0 k l0 t123 y124 true) else (spec_Push.j0 k l0 t123 y124 (decide (t123 ≥ 79)))) = some r := by first | (rw [hy124]; with_reducible exact H) | (have H2_ := (Option.bind_some _ _).symm.trans H; rw [hy124]; with_reducible exact H2_) | (have H2_ := (Option.bind_some _ _).symm.trans H; with_reducible exact H2_) | with_reducible exact H | (rw [hy124]; exact H) | exact H
  have Ny124 := Aside0.mk hy124
  clear hy124
  have HC3 := Aside0.mk H
  clear H
  go_enter Try.func13, Try.ntmps13
  go_upto_region 3 with (first | ((with_reducible refine gate_callee (f := 16) rfl ?_); refine goesL_ (some 8) rfl rfl Try.func16 (by kernel_rfl) rfl #[.slice A0 l0.length c0] rfl (by (try simp only [List.map_toArray, List.map_cons, List.map_nil]); first | done | rfl | (simp only [List.length_drop, List.length_take]; rfl)) ?_; (with_reducible refine (spec_Least.calls k _ _ l0 t123 _ ?side1 ?side2 A2.out).mono ?_); (case side1 => repeat (first | exact HR0.out | (with_reducible refine Kd.C_alloc ?_ _) | (with_reducible refine Kd.C_drewN ?_ _) | (with_reducible refine Kd.C_drew ?_))); (case side2 => exact HC0.out); rintro e w' ⟨rfl, ⟨nd, rfl⟩⟩; refine ⟨_, rfl, ?_⟩) | ((with_reducible refine gate_dst (N := 11) rfl ?_); refine Kd.R_lit (Kd.int .u8) _ 5 ?hg (N := 11) ?hd (xs := ([(t123) % 256] : List Int)) (inner := [.int .u8 ((t123) % 256)]) (ok := fun _ => True) (okp := fun _ => True) ?hr ?hp (fun _ hk => hk) trivial (Below.refl _ _) (Nat.le_refl _) (by simp) ?_; (case hd => rfl); (case hg => rfl); (case hr => first | (go_simp; done) | (go_simp; rfl)); (case hp => exact (Reps.one (show Kd.M (Kd.int .u8) _ _ _ ((t123) % 256) [.int .u8 ((t123) % 256)] from rfl) (Reps.none _ _))); intro v125 w4 ho5 hb hg_ hnew_; clear hg_ hnew_; (first | rw [← Ny124.out] at ho5 | (simp only [Int.reduceToNat] at ho5; rw [← Ny124.out] at ho5)); have n0_ := Aside0.mk (Kd.R_lower ho5 (below_size (by repeat (first | (with_reducible first | exact HB.out | apply below_alloc | apply pw_below_drewN | apply below_drew1) | exact HB.out)))); have n1_ := Aside0.mk (below_step (by repeat (first | (with_reducible first | exact HB.out | apply below_alloc | apply pw_below_drewN | apply below_drew1) | exact HB.out)) hb); clear HB; have HO126 := n0_; have HB := n1_; clear n0_ n1_; clear hb ho5))
  (try simp only [Act.put, List.setIfInBounds_toArray, List.set_cons_zero, List.set_cons_succ])
  go_cut [17] (fun v17 wc => ∃ (kq : Nat) (x17_2 : Bool), v17 = .bool x17_2 ∧ Aside0 (spec_Push.j0 kq l0 t123 y124 x17_2 = some r) ∧ Aside0 (kq ≤ k) ∧ Aside0 (Kd.R (Kd.int .u8) 5 wc w.heap.size (fun _ => True) v125 y124) ∧ Aside0 (Below w.heap.size w wc))
  case first =>
    have H := HC3.out
    clear HC3
    by_cases c6 : t123 = 0
    · rw [if_pos c6] at H
      have c6b0 : (t123 == 0) = true := beq_iff_eq.mpr c6
      have c6b1 : (t123 != 0) = false := bne_eq_false_iff_eq.mpr c6
      clear c6
      (first | rw [c6b0] | (simp only [i64_w, i32_w]; rw [c6b0]) | skip)
      have H' := Aside0.mk H
      clear H
      go_wp2
      go_meet
      case rel => exact ⟨_, (true), (by first | rfl | (simp; done) | (simp [*]; done)), H', ⟨by first | omega | exact Nat.le_refl _⟩, ⟨by (with_reducible repeat (first | apply Kd.R_alloc | apply Kd.R_drewN | apply Kd.R_drew)); exact HO126.out⟩, ⟨by repeat (first | (with_reducible first | exact HB.out | apply below_alloc | apply pw_below_drewN | apply below_drew1) | exact HB.out)⟩⟩
    · rw [if_neg c6] at H
      have c6b0 : (t123 == 0) = false := beq_eq_false_iff_ne.mpr c6
      have c6b1 : (t123 != 0) = true := bne_iff_ne.mpr c6
      (first | rw [c6b0] | (simp only [i64_w, i32_w]; rw [c6b0]) | skip)
      have H' := Aside0.mk H
      clear H
      go_wp2
      go_meet
      case rel => exact ⟨_, (decide (t123 ≥ 79)), (by first | rfl | (simp; done) | (simp [*]; done)), H', ⟨by first | omega | exact Nat.le_refl _⟩, ⟨by (with_reducible repeat (first | apply Kd.R_alloc | apply Kd.R_drewN | apply Kd.R_drew)); exact HO126.out⟩, ⟨by repeat (first | (with_reducible first | exact HB.out | apply below_alloc | apply pw_below_drewN | apply below_drew1) | exact HB.out)⟩⟩
  case rest =>
    clear HC3
    try clear c1
    try clear p2
    try clear c6
    try clear c6b0
    try clear c6b1
    obtain ⟨kq, x17_2, rfl, HA, HJ2, HO_4, HB⟩ := hcut
    cases kq with
    | zero => exact absurd HA.out (by simp [spec_Push.j0])
    | succ kj2 =>
      have H := HA.out
      clear HA
      simp only [spec_Push.j0] at H
      by_cases c7 : x17_2 = true
      · subst c7
        have H1 : (some y124) = some r := by rw [if_pos rfl] at H; exact H
        clear H
        have H := H1
        clear H1
        obtain rfl := Option.some.inj H
        go_wp2
        go_ret
        exact ⟨_, by first | rfl | (simp [errW_none, errW_some] <;> rfl) | (simp [*, errW_none, errW_some] <;> rfl), by (with_reducible repeat (first | apply Kd.R_alloc | apply Kd.R_drewN | apply Kd.R_drew)); exact HO_4.out, by repeat (first | (with_reducible first | exact HB.out | apply below_alloc | apply pw_below_drewN | apply below_drew1) | exact HB.out)⟩
      · replace c7 := Bool.eq_false_iff.mpr c7
        subst c7
        have H1 : (spec_Push.l0 kj2 l0 t123 y124 (l0.length : Int) 0) = some r := by rw [if_neg (show ¬ (false = true) by decide)] at H; exact H
        clear H
        have H := H1
        clear H1
        have H' := Aside0.mk H
        clear H
        go_wp2
        go_loopg [4, 5, 6] kj2 (fun kq v4 v5 v6 w' => ∃ (x4_2 : List Int) (x5_2 : Int) (x6_2 : Int), v5 = .int .i64 x5_2 ∧ v6 = .int .i64 x6_2 ∧ Aside0 (spec_Push.l0 kq l0 t123 x4_2 x5_2 x6_2 = some r) ∧ Aside0 (kq ≤ kj2) ∧ Aside0 (Kd.R (Kd.int .u8) 5 w' w.heap.size (fun _ => True) v4 x4_2) ∧ Aside0 (Below w.heap.size w w'))
        case atStart => exact ⟨(y124), ((l0.length : Int)), (0), (by first | rfl | (simp; done) | (simp [*]; done)), (by first | rfl | (simp; done) | (simp [*]; done)), H', ⟨Nat.le_refl _⟩, ⟨by (with_reducible repeat (first | apply Kd.R_alloc | apply Kd.R_drewN | apply Kd.R_drew)); exact HO_4.out⟩, ⟨by repeat (first | (with_reducible first | exact HB.out | apply below_alloc | apply pw_below_drewN | apply below_drew1) | exact HB.out)⟩⟩
        case round =>
          clear H'
          try clear c1
          try clear p2
          try clear c6
          try clear c6b0
          try clear c6b1
          try clear c7
          try clear p2
          obtain ⟨x4_2, x5_2, x6_2, rfl, rfl, HA, HK2, HO_4, HB⟩ := hrel
          cases gk with
          | zero => exact absurd HA.out (by simp [spec_Push.l0])
          | succ k2 =>
            have H := HA.out
            clear HA
            simp only [spec_Push.l0] at H
            by_cases c8 : t123 ≥ 76
            · rw [if_pos c8] at H
              have c8b0 : decide (76 ≤ t123) = true := decide_eq_true c8
              clear c8
              obtain ⟨ji9, hji9⟩ : ∃ j_ : Int, (wrap64 (t123 - 76)) = j_ := ⟨_, rfl⟩
              replace H : (if 0 ≤ (ji9) then (if x6_2 < (shl .i64 1 (ji9)) then (if x4_2.length < 140737488355328 then (spec_Push.l0 k2 l0 t123 (x4_2 ++ [(x5_2) % 256]) (x5_2 / 256) (wrap64 (x6_2 + 1))) else (none)) else (if x4_2.length + l0.length < 140737488355328 then (some (x4_2 ++ l0)) else (none))) else (none)) = some r := by first | (rw [hji9] at H; exact H) | (simp only [hji9] at H ⊢; exact H)
              have hji9w : (IntKind.i64.wrap (t123 - 76)) = ji9 := (i64_w _).trans hji9
              by_cases c10 : 0 ≤ (ji9)
              · rw [if_pos c10] at H
                have c10b0 := eq_true c10
                have c10b1 : decide (0 ≤ (ji9)) = true := decide_eq_true c10
                clear c10
                obtain ⟨ji11, hji11⟩ : ∃ j_ : Int, (shl .i64 1 (ji9)) = j_ := ⟨_, rfl⟩
                replace H : (if x6_2 < (ji11) then (if x4_2.length < 140737488355328 then (spec_Push.l0 k2 l0 t123 (x4_2 ++ [(x5_2) % 256]) (x5_2 / 256) (wrap64 (x6_2 + 1))) else (none)) else (if x4_2.length + l0.length < 140737488355328 then (some (x4_2 ++ l0)) else (none))) = some r := by first | (rw [hji11] at H; exact H) | (simp only [hji11] at H ⊢; exact H)
                have hji11_ : (IntKind.i64.wrap (1 * 2 ^ min (ji9).toNat 64)) = ji11 := hji11
                have hji11z : (ji9) ≤ 64 → (IntKind.i64.wrap (1 * 2 ^ (ji9).toNat)) = ji11 := shl_small hji11
                have hji11u : (IntKind.i64.wrap (2 ^ min (ji9).toNat 64)) = ji11 := by have h_ := hji11_; rw [Int.one_mul] at h_; exact h_
                have hji11v : (ji9) ≤ 64 → (IntKind.i64.wrap (2 ^ (ji9).toNat)) = ji11 := fun hle_ => by have h_ := hji11z hle_; rw [Int.one_mul] at h_; exact h_
                have hji11y : (wrap64 (1 * 2 ^ min (ji9).toNat 64)) = ji11 := (i64_w _).symm.trans hji11_
                have hji11x : (ji9) ≤ 64 → (wrap64 (1 * 2 ^ (ji9).toNat)) = ji11 := fun h_ => (i64_w _).symm.trans (hji11z h_)
                by_cases c12 : x6_2 < (ji11)
                · rw [if_pos c12] at H
                  have c12b0 : decide (x6_2 < (ji11)) = true := decide_eq_true c12
                  clear c12
                  by_cases c13 : x4_2.length < 140737488355328
                  · rw [if_pos c13] at H
                    have LMc13 := Aside0.mk c13
                    clear c13
                    obtain ⟨y127, hy127⟩ : ∃ y_ : List Int, y_ = (x4_2 ++ [(x5_2) % 256]) := ⟨_, rfl⟩
                    replace H : (spec_Push.l0 k2 l0 t123 y127 (x5_2 / 256) (wrap64 (x6_2 + 1))) = some r := by first | (rw [hy127]; with_reducible exact H) | (have H2_ := (Option.bind_some _ _).symm.trans H; rw [hy127]; with_reducible exact H2_) | (have H2_ := (Option.bind_some _ _).symm.trans H; with_reducible exact H2_) | with_reducible exact H | (rw [hy127]; exact H) | exact H
                    have Ny127 := Aside0.mk hy127
                    clear hy127
                    have H' := Aside0.mk H
                    clear H
                    go_wp2_with (first | ((with_reducible refine gate_builtin (b := .append) (xs := #[.tmp 32, .tmp 35]) rfl ?_); at_builtin; refine Kd.R_append (Kd.int .u8) (w0 := w) w.heap.size rfl (.tmp 32) (.tmp 35) 22 5 (.int .u8 0) 1 rfl Try.underlying22 info5 rfl (by decide) (by omega) u4 x4_2 ((x5_2) % 256) [.int .u8 ((x5_2) % 256)] (fun _ => True) (fun _ => False) rfl rfl ?aP (fun _ hk => hk.elim) ?aF ?aO ?aB ?aS ?aL ?_; (case aP => exact rfl); (case aB => exact (by repeat (first | (with_reducible first | exact HB.out | apply below_alloc | apply pw_below_drewN | apply below_drew1) | exact HB.out))); (case aF => exact (fun _ _ => trivial)); (case aO => exact (by (with_reducible repeat (first | apply Kd.R_alloc | apply Kd.R_drewN | apply Kd.R_drew)); exact HO_4.out)); (case aS => exact (below_size (by repeat (first | (with_reducible first | exact HB.out | apply below_alloc | apply pw_below_drewN | apply below_drew1) | exact HB.out)))); (case aL => have := LMc13.out; omega); intro v128 w14 ho hb hg hat; rw [← Ny127.out] at ho; have n0_ := Aside0.mk (hb); have n1_ := Aside0.mk (ho); clear HB; clear HO_4; have HB := n0_; have HO129 := n1_; clear n0_ n1_; clear ho hb hg hat))
                    go_roundg k2
                    case measure => have := HJ2.out; have := HK2.out; omega
                    case rel => exact ⟨(y127), (x5_2 / 256), (wrap64 (x6_2 + 1)), (by first | rfl | (simp; done) | (simp [*]; done)), (by first | rfl | (simp; done) | (simp [*]; done)), H', ⟨by have := HJ2.out; have := HK2.out; omega⟩, ⟨by (with_reducible repeat (first | apply Kd.R_alloc | apply Kd.R_drewN | apply Kd.R_drew)); exact HO129.out⟩, ⟨by repeat (first | (with_reducible first | exact HB.out | apply below_alloc | apply pw_below_drewN | apply below_drew1) | exact HB.out)⟩⟩
                  · rw [if_neg c13] at H
                    exact absurd H (by simp)
                · rw [if_neg c12] at H
                  have c12b0 : decide (x6_2 < (ji11)) = false := decide_eq_false c12
                  clear c12
                  by_cases c15 : x4_2.length + l0.length < 140737488355328
                  · rw [if_pos c15] at H
                    have LMc15 := Aside0.mk c15
                    clear c15
                    obtain ⟨y130, hy130⟩ : ∃ y_ : List Int, y_ = (x4_2 ++ l0) := ⟨_, rfl⟩
                    replace H : (some y130) = some r := by first | (rw [hy130]; with_reducible exact H) | (have H2_ := (Option.bind_some _ _).symm.trans H; rw [hy130]; with_reducible exact H2_) | (have H2_ := (Option.bind_some _ _).symm.trans H; with_reducible exact H2_) | with_reducible exact H | (rw [hy130]; exact H) | exact H
                    have Ny130 := Aside0.mk hy130
                    clear hy130
                    obtain rfl := Option.some.inj H
                    go_wp2_with (first | ((with_reducible refine gate_builtin (b := .append) (xs := #[.tmp 39, .tmp 40]) rfl ?_); at_builtin; refine Kd.R_append_rows (Kd.int .u8) (w0 := w) w.heap.size rfl (.tmp 39) (.tmp 40) 22 5 (.int .u8 0) 1 rfl Try.underlying22 info5 rfl (by decide) (by omega) u4 x4_2 l0 _ _ _ (fun _ => True) (fun _ => False) rfl rfl ?aO ?aR (fun _ _ h => h) (fun _ h => h.elim) ?aF ?aB ?aS ?aL ?_; (case aR => repeat (first | exact (Kd.C_below HR0.out HB.out) | (with_reducible refine Kd.C_alloc ?_ _) | (with_reducible refine Kd.C_drewN ?_ _) | (with_reducible refine Kd.C_drew ?_))); (case aB => exact (by repeat (first | (with_reducible first | exact HB.out | apply below_alloc | apply pw_below_drewN | apply below_drew1) | exact HB.out))); (case aF => exact (fun _ _ => trivial)); (case aO => exact (by (with_reducible repeat (first | apply Kd.R_alloc | apply Kd.R_drewN | apply Kd.R_drew)); exact HO_4.out)); (case aS => exact (below_size (by repeat (first | (with_reducible first | exact HB.out | apply below_alloc | apply pw_below_drewN | apply below_drew1) | exact HB.out)))); (case aL => have := LMc15.out; omega); intro v131 w16 ho hb hg hat; rw [← Ny130.out] at ho; have n0_ := Aside0.mk (hb); have n1_ := Aside0.mk (ho); clear HB; clear HO_4; have HB := n0_; have HO132 := n1_; clear n0_ n1_; clear ho hb hg hat))
                    go_ret
                    exact ⟨_, by first | rfl | (simp [errW_none, errW_some] <;> rfl) | (simp only [← hji9, ← hji11]; first | rfl | (simp [errW_none, errW_some] <;> rfl)) | (simp [*, errW_none, errW_some] <;> rfl), by (with_reducible repeat (first | apply Kd.R_alloc | apply Kd.R_drewN | apply Kd.R_drew)); exact HO132.out, by repeat (first | (with_reducible first | exact HB.out | apply below_alloc | apply pw_below_drewN | apply below_drew1) | exact HB.out)⟩
                  · rw [if_neg c15] at H
                    exact absurd H (by simp)
              · rw [if_neg c10] at H
                exact absurd H (by simp)
            · rw [if_neg c8] at H
              have c8b0 : decide (76 ≤ t123) = false := decide_eq_false c8
              clear c8
              by_cases c17 : x4_2.length + l0.length < 140737488355328
              · rw [if_pos c17] at H
                have LMc17 := Aside0.mk c17
                clear c17
                obtain ⟨y133, hy133⟩ : ∃ y_ : List Int, y_ = (x4_2 ++ l0) := ⟨_, rfl⟩
                replace H : (some y133) = some r := by first | (rw [hy133]; with_reducible exact H) | (have H2_ := (Option.bind_some _ _).symm.trans H; rw [hy133]; with_reducible exact H2_) | (have H2_ := (Option.bind_some _ _).symm.trans H; with_reducible exact H2_) | with_reducible exact H | (rw [hy133]; exact H) | exact H
                have Ny133 := Aside0.mk hy133
                clear hy133
                obtain rfl := Option.some.inj H
                go_wp2_with (first | ((with_reducible refine gate_builtin (b := .append) (xs := #[.tmp 39, .tmp 40]) rfl ?_); at_builtin; refine Kd.R_append_rows (Kd.int .u8) (w0 := w) w.heap.size rfl (.tmp 39) (.tmp 40) 22 5 (.int .u8 0) 1 rfl Try.underlying22 info5 rfl (by decide) (by omega) u4 x4_2 l0 _ _ _ (fun _ => True) (fun _ => False) rfl rfl ?aO ?aR (fun _ _ h => h) (fun _ h => h.elim) ?aF ?aB ?aS ?aL ?_; (case aR => repeat (first | exact (Kd.C_below HR0.out HB.out) | (with_reducible refine Kd.C_alloc ?_ _) | (with_reducible refine Kd.C_drewN ?_ _) | (with_reducible refine Kd.C_drew ?_))); (case aB => exact (by repeat (first | (with_reducible first | exact HB.out | apply below_alloc | apply pw_below_drewN | apply below_drew1) | exact HB.out))); (case aF => exact (fun _ _ => trivial)); (case aO => exact (by (with_reducible repeat (first | apply Kd.R_alloc | apply Kd.R_drewN | apply Kd.R_drew)); exact HO_4.out)); (case aS => exact (below_size (by repeat (first | (with_reducible first | exact HB.out | apply below_alloc | apply pw_below_drewN | apply below_drew1) | exact HB.out)))); (case aL => have := LMc17.out; omega); intro v134 w18 ho hb hg hat; rw [← Ny133.out] at ho; have n0_ := Aside0.mk (hb); have n1_ := Aside0.mk (ho); clear HB; clear HO_4; have HB := n0_; have HO135 := n1_; clear n0_ n1_; clear ho hb hg hat))
                go_ret
                exact ⟨_, by first | rfl | (simp [errW_none, errW_some] <;> rfl) | (simp [*, errW_none, errW_some] <;> rfl), by (with_reducible repeat (first | apply Kd.R_alloc | apply Kd.R_drewN | apply Kd.R_drew)); exact HO135.out, by repeat (first | (with_reducible first | exact HB.out | apply below_alloc | apply pw_below_drewN | apply below_drew1) | exact HB.out)⟩
              · rw [if_neg c17] at H
                exact absurd H (by simp)

/-! ### impl_copied: function 24 -/
def impl_copied.f (l0 : List Int) : Option (List Int) := (some (([] : List Int) : List Int)).bind fun y136 => (if y136.length + l0.length < 140737488355328 then (some (y136 ++ l0)) else (none))
set_option maxHeartbeats 8000000 in
set_option maxRecDepth 100000 in
theorem impl_copied.calls (A0 : Option Addr) (c0 : Nat) (l0 : List Int) (r : List Int) (w : World) (hr0 : Kd.C (Kd.int .u8) w A0 l0.length l0) (hc0 : l0.length ≤ c0) (h : impl_copied.f l0 = some r) :
    Calls Try.prog 24 #[.slice A0 l0.length c0] w fun e w' => ∃ v0_ : Value, e = .returned (v0_) ∧ Kd.R (Kd.int .u8) 5 w' w.heap.size (fun _ => True) v0_ r ∧ Below w.heap.size w w' := by
  have HR0 := Aside0.mk hr0
  have HC0 := Aside0.mk hc0
  clear hr0 hc0
  have HB := Aside0.mk (Below.refl w.heap.size w)
  have H : ((some (([] : List Int) : List Int)).bind fun y136 => (if y136.length + l0.length < 140737488355328 then (some (y136 ++ l0)) else (none))) = some r := h
  clear h
  obtain ⟨y136, hy136⟩ : ∃ y_ : List Int, y_ = (([] : List Int)) := ⟨_, rfl⟩
  replace H : (if y136.length + l0.length < 140737488355328 then (some (y136 ++ l0)) else (none)) = some r := by first | (rw [hy136]; with_reducible exact H) | (have H2_ := (Option.bind_some _ _).symm.trans H; rw [hy136]; with_reducible exact H2_) | (have H2_ := (Option.bind_some _ _).symm.trans H; with_reducible exact H2_) | with_reducible exact H | (rw [hy136]; exact H) | exact H
  have Ny136 := Aside0.mk hy136
  clear hy136
  by_cases c2 : y136.length + l0.length < 140737488355328
  · rw [if_pos c2] at H
    have LMc2 := Aside0.mk c2
    clear c2
    obtain ⟨y139, hy139⟩ : ∃ y_ : List Int, y_ = (y136 ++ l0) := ⟨_, rfl⟩
    replace H : (some y139) = some r := by first | (rw [hy139]; with_reducible exact H) | (have H2_ := (Option.bind_some _ _).symm.trans H; rw [hy139]; with_reducible exact H2_) | (have H2_ := (Option.bind_some _ _).symm.trans H; with_reducible exact H2_) | with_reducible exact H | (rw [hy139]; exact H) | exact H
    have Ny139 := Aside0.mk hy139
    clear hy139
    obtain rfl := Option.some.inj H
    go_enter Try.func24, Try.ntmps24
    go_wp2_with (first | ((with_reducible refine gate_dst (N := 3) rfl ?_); refine Kd.R_lit (Kd.int .u8) _ 5 ?hg (N := 3) ?hd (xs := ([] : List Int)) (inner := []) (ok := fun _ => True) (okp := fun _ => True) ?hr ?hp (fun _ hk => hk) trivial (Below.refl _ _) (Nat.le_refl _) (by simp) ?_; (case hd => rfl); (case hg => rfl); (case hr => first | (go_simp; done) | (go_simp; rfl)); (case hp => exact (Reps.none _ _)); intro v137 w3 ho4 hb hg_ hnew_; clear hg_ hnew_; (first | rw [← Ny136.out] at ho4 | (simp only [Int.reduceToNat] at ho4; rw [← Ny136.out] at ho4)); have n0_ := Aside0.mk (Kd.R_lower ho4 (below_size (by repeat (first | (with_reducible first | exact HB.out | apply below_alloc | apply pw_below_drewN | apply below_drew1) | exact HB.out)))); have n1_ := Aside0.mk (below_step (by repeat (first | (with_reducible first | exact HB.out | apply below_alloc | apply pw_below_drewN | apply below_drew1) | exact HB.out)) hb); clear HB; have HO138 := n0_; have HB := n1_; clear n0_ n1_; clear hb ho4) | ((with_reducible refine gate_builtin (b := .append) (xs := #[.tmp 3, .tmp 4]) rfl ?_); at_builtin; refine Kd.R_append_rows (Kd.int .u8) (w0 := w) w.heap.size rfl (.tmp 3) (.tmp 4) 22 5 (.int .u8 0) 1 rfl Try.underlying22 info5 rfl (by decide) (by omega) v137 y136 l0 _ _ _ (fun _ => True) (fun _ => False) rfl rfl ?aO ?aR (fun _ _ h => h) (fun _ h => h.elim) ?aF ?aB ?aS ?aL ?_; (case aR => repeat (first | exact (Kd.C_below HR0.out HB.out) | (with_reducible refine Kd.C_alloc ?_ _) | (with_reducible refine Kd.C_drewN ?_ _) | (with_reducible refine Kd.C_drew ?_))); (case aB => exact (by repeat (first | (with_reducible first | exact HB.out | apply below_alloc | apply pw_below_drewN | apply below_drew1) | exact HB.out))); (case aF => exact (fun _ _ => trivial)); (case aO => exact (by (with_reducible repeat (first | apply Kd.R_alloc | apply Kd.R_drewN | apply Kd.R_drew)); exact HO138.out)); (case aS => exact (below_size (by repeat (first | (with_reducible first | exact HB.out | apply below_alloc | apply pw_below_drewN | apply below_drew1) | exact HB.out)))); (case aL => have := LMc2.out; omega); intro v140 w5 ho hb hg hat; rw [← Ny139.out] at ho; have n0_ := Aside0.mk (hb); have n1_ := Aside0.mk (ho); clear HB; clear HO138; have HB := n0_; have HO141 := n1_; clear n0_ n1_; clear ho hb hg hat))
    go_ret
    exact ⟨_, by first | rfl | (simp [errW_none, errW_some] <;> rfl) | (simp [*, errW_none, errW_some] <;> rfl), by (with_reducible repeat (first | apply Kd.R_alloc | apply Kd.R_drewN | apply Kd.R_drew)); exact HO141.out, by repeat (first | (with_reducible first | exact HB.out | apply below_alloc | apply pw_below_drewN | apply below_drew1) | exact HB.out)⟩
  · rw [if_neg c2] at H
    exact absurd H (by simp)

/-- A state of type 93 at block g of W; what its slices lead to came in by w0. -/
def IsS93 (w0 W : World) (g : Nat) (f0 : Int) : Prop := W.heap[g]? = some (.cells #[.int .i64 f0] 93 (0, 0)) ∧ w0.heap.size ≤ g
theorem IsS93.grown {w0 W : World} {g : Nat} {f0 : Int} {W1 : World} {row : Option Nat} (h : IsS93 w0 W g f0) (hw : W.grownBy W1 row) (hne : some g ≠ row) : IsS93 w0 W1 g f0 := by
  obtain ⟨hb, hg⟩ := h
  exact ⟨blk_grown hb hw hne, hg⟩
theorem IsS93.own_neN {w0 W : World} {g : Nat} {f0 : Int} {α : Type} {d : Kd α} {e : Nat} {base : Nat} {ok : Nat → Prop} {v : Value} {xs : List α} (h : IsS93 w0 W g f0) (ho : Kd.N d e W base ok v xs) (ht : e ≠ 93) : some g ≠ v.ownBlock := by
  obtain ⟨hb, hg⟩ := h
  exact Kd.N_ne ho hb ht
theorem IsS93.fresh {w0 W : World} {g : Nat} {f0 : Int} (h : IsS93 w0 W g f0) : ∀ k, W.heap.size ≤ k → k ≠ g := by
  obtain ⟨hb, hg⟩ := h
  exact Kd.freshB hb
theorem IsS93.kept {w0 W : World} {g : Nat} {f0 : Int} {W1 : World} {S : Nat → Prop} (h : IsS93 w0 W g f0) (hk : Kept W W1 S) (hne : ¬ S g) : IsS93 w0 W1 g f0 := by
  obtain ⟨hb, hg⟩ := h
  exact ⟨blk_kept hb hk hne, hg⟩
theorem IsS93.below {w0 W : World} {g : Nat} {f0 : Int} {W1 : World} (h : IsS93 w0 W g f0) (hw : Below W.heap.size W W1) : IsS93 w0 W1 g f0 := h.grown (grown_of_below hw none) (by simp)
theorem IsS93.alloc {w0 W : World} {g : Nat} {f0 : Int} (h : IsS93 w0 W g f0) (o : Obj) : IsS93 w0 (W.alloc o) g f0 := h.below (below_alloc (Below.refl _ _) o)
theorem IsS93.drewN {w0 W : World} {g : Nat} {f0 : Int} (h : IsS93 w0 W g f0) (m : Nat) : IsS93 w0 (W.drewN m) g f0 := h
theorem IsS93.drew {w0 W : World} {g : Nat} {f0 : Int} (h : IsS93 w0 W g f0) : IsS93 w0 W.drew g f0 := h
theorem IsS93.at_ {w0 W : World} {g : Nat} {f0 : Int} {w' : World} {m : Nat} (hq : W.drewN m = w') (h : IsS93 w0 W g f0) : IsS93 w0 w' g f0 := by subst hq; exact IsS93.drewN h m
theorem IsS93.apart {w0 W : World} {g : Nat} {f0 : Int} {α : Type} {d : Kd α} {e : Nat} {base : Nat} {ok : Nat → Prop} {v : Value} {xs : List α} (h : IsS93 w0 W g f0) (ho : d.R e W base ok v xs) (ht : ∀ q, q ∈ e :: d.E → q ≠ 93) : d.R e W base (fun k => ok k ∧ k ≠ g) v xs := by
  obtain ⟨hb, hg⟩ := h
  exact Kd.R_types ho hb ht
theorem IsS93.own_ne {w0 W : World} {g : Nat} {f0 : Int} {α : Type} {d : Kd α} {e : Nat} {base : Nat} {ok : Nat → Prop} {v : Value} {xs : List α} (h : IsS93 w0 W g f0) (ho : d.R e W base ok v xs) (ht : e ≠ 93) : some g ≠ v.ownBlock := by
  obtain ⟨hb, hg⟩ := h
  exact Kd.R_ne ho hb ht
theorem IsS93.apartQ {w0 W : World} {g : Nat} {f0 : Int} {α : Type} {d : Kd α} {e : Nat} {base : Nat} {ok : Nat → Prop} {v : Value} {xs : List α} (h : IsS93 w0 W g f0) (ho : d.Q e W base ok v xs) (ht : ∀ q, q ∈ e :: d.E → q ≠ 93) : d.Q e W base (fun k => ok k ∧ k ≠ g) v xs := by
  obtain ⟨hb, hg⟩ := h
  exact Kd.Q_types ho hb ht
theorem IsS93.own_neQ {w0 W : World} {g : Nat} {f0 : Int} {α : Type} {d : Kd α} {e : Nat} {base : Nat} {ok : Nat → Prop} {v : Value} {xs : List α} (h : IsS93 w0 W g f0) (ho : d.Q e W base ok v xs) (ht : e ≠ 93) : some g ≠ v.ownBlock := by
  obtain ⟨hb, hg⟩ := h
  exact Kd.Q_ne ho hb ht
theorem IsS93.apartS {w0 W : World} {g : Nat} {f0 : Int} {α : Type} {d : Kd α} {e : Nat} {base : Nat} {ok : Nat → Prop} {v : Value} {xs : List α} (h : IsS93 w0 W g f0) (ho : d.S e W base ok v xs) (ht : ∀ q, q ∈ e :: d.E → q ≠ 93) : d.S e W base (fun k => ok k ∧ k ≠ g) v xs := by
  obtain ⟨hb, hg⟩ := h
  exact Kd.S_types ho hb ht
theorem IsS93.own_neS {w0 W : World} {g : Nat} {f0 : Int} {α : Type} {d : Kd α} {e : Nat} {base : Nat} {ok : Nat → Prop} {v : Value} {xs : List α} (h : IsS93 w0 W g f0) (ho : d.S e W base ok v xs) (ht : e ≠ 93) : some g ≠ v.ownBlock := by
  obtain ⟨hb, hg⟩ := h
  exact Kd.S_ne ho hb ht
theorem IsS93.lt {w0 W : World} {g : Nat} {f0 : Int} (h : IsS93 w0 W g f0) : g < W.heap.size := by
  obtain ⟨hb, hg⟩ := h
  exact blk_lt hb
theorem IsS93.ge {w0 W : World} {g : Nat} {f0 : Int} (h : IsS93 w0 W g f0) : w0.heap.size ≤ g := by
  obtain ⟨hb, hg⟩ := h
  exact hg
theorem IsS93.ne_blk {w0 W : World} {g : Nat} {f0 : Int} {a : Nat} {cs : Array Value} {t : TypeId} {fr : Nat × Nat} (h : IsS93 w0 W g f0) (hb2 : W.heap[a]? = some (.cells cs t fr)) (ht : t ≠ 93) : g ≠ a := by
  obtain ⟨hb, hg⟩ := h
  rintro rfl
  rw [hb] at hb2
  injection hb2 with hb2
  injection hb2 with _ ht2
  exact ht ht2.symm
theorem IsS93.far {w0 W : World} {g : Nat} {f0 : Int} {p : Addr} (h : IsS93 w0 W g f0) (hne : g ≠ p.block) (u : Value) : IsS93 w0 (W.setCell p u) g f0 := by
  obtain ⟨hb, hg⟩ := h
  exact ⟨blk_far hb hne u, hg⟩
theorem cellS93_0 {W : World} {g : Nat} {f0 : Int} (h : W.heap[g]? = some (.cells #[.int .i64 f0] 93 (0, 0))) : W.cell? ⟨g, 0, none⟩ = some (.int .i64 f0) := (blk_cell h 0).trans rfl
theorem IsS93.set_0 {w0 W : World} {g : Nat} {f0 : Int} (h : IsS93 w0 W g f0) (x : Int) : IsS93 w0 (W.setCell ⟨g, 0, none⟩ (.int .i64 x)) g x := by
  obtain ⟨hb, hg⟩ := h
  exact ⟨by simpa using blk_set hb 0 (.int .i64 x), hg⟩
theorem IsS93.new (w0 W : World) (f0 : Int) (hB : Below w0.heap.size w0 W) : IsS93 w0 (W.alloc (.cells #[.int .i64 f0] 93)) W.heap.size f0 := ⟨by simpa using heap_alloc_new W _, hB.size⟩

/-! ### btcdtxscript_defaultScriptBuilderConfig: function 56 -/
def btcdtxscript_defaultScriptBuilderConfig.f  : Option (Int) := some 500
set_option maxHeartbeats 8000000 in
set_option maxRecDepth 100000 in
theorem btcdtxscript_defaultScriptBuilderConfig.calls  (r : Int) (w0 w : World) (hB : Below w0.heap.size w0 w) (h : btcdtxscript_defaultScriptBuilderConfig.f  = some r) :
    Calls Try.prog 56 #[] w fun e w' => ∃ g_ : Nat, e = .returned (.pointer (some ⟨g_, 0, none⟩)) ∧ IsS93 w0 w' g_ r ∧ Below w0.heap.size w0 w' ∧ Below w.heap.size w w' := by
  have hu93 := Try.underlying93
  have HBW := Aside0.mk (Below.refl w.heap.size w)
  have HW0 := Aside0.mk hB.size
  have HB := Aside0.mk hB
  clear hB
  have H : (some 500) = some r := h
  clear h
  obtain rfl := Option.some.inj H
  go_enter Try.func56, Try.ntmps56
  go_wp2_with (first | ((with_reducible refine gate_dst (N := 2) rfl ?_); refine box_event ?hg (N := 2) ?hd (cs := #[.int .i64 500]) (t := 93) ?hr ?_; (case hd => rfl); (case hg => rfl); (case hr => first | (go_simp; done) | (go_simp; rfl)); intro gb142 hg w1 hbox hb; have n0_ := Aside0.mk (below_step HBW.out hb); have n1_ := Aside0.mk (below_step (by repeat (first | (with_reducible first | exact HB.out | apply below_alloc | apply pw_below_drewN | apply below_drew1) | exact HB.out)) hb); have n2_ := Aside0.mk (hbox); have n3_ := Aside0.mk ((by rw [hg]; exact (below_size (by repeat (first | (with_reducible first | exact HBW.out | apply below_alloc | apply pw_below_drewN | apply below_drew1) | exact HBW.out))) : w.heap.size ≤ gb142)); have n4_ := Aside0.mk ((Nat.le_trans HW0.out (by rw [hg]; exact (below_size (by repeat (first | (with_reducible first | exact HBW.out | apply below_alloc | apply pw_below_drewN | apply below_drew1) | exact HBW.out))) : w.heap.size ≤ gb142) : w0.heap.size ≤ gb142)); clear HBW; clear HB; have HBW := n0_; have HB := n1_; have BK142 := n2_; have GW142 := n3_; have GE142 := n4_; clear n0_ n1_ n2_ n3_ n4_; clear hb hbox hg))
  go_ret
  exact ⟨_, rfl, (show IsS93 w0 _ gb142 500 from ⟨by (with_reducible repeat (first | refine blk_drewN ?_ _ | refine blk_drew ?_ | refine blk_alloc ?_ _)); exact BK142.out, GE142.out⟩), by repeat (first | (with_reducible first | exact HB.out | apply below_alloc | apply pw_below_drewN | apply below_drew1 | refine below_set ?_ GE142.out) | exact HB.out), by repeat (first | (with_reducible first | exact HBW.out | apply below_alloc | apply pw_below_drewN | apply below_drew1 | refine below_set ?_ GW142.out) | exact HBW.out)⟩

-- NOT PRINTED: function 29 (btcdtxscript_NewScriptBuilder)

-- NOT PRINTED: function 30 (btcdtxscript_ScriptBuilder_AddOp)

end Go.Proofs.Ytabdmbnggkageaa.PFnBuild
