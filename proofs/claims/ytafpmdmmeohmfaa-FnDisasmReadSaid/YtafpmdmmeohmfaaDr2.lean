/-
  Functions of the law of DisasmRead.
-/
import Derived.Test.YtafpmdmmeohmfaaPFnDisasmReadx0
namespace Go.Proofs.Ytafpmdmmeohmfaa.PFnDisasmRead
open Go.RowKit Go.Proofs.YtafpmdmmeohmfaaW.PrintWords Go.Proofs.YtafpmdmmeohmfaaW.PrintLast Go.Proofs.YtafpmdmmeohmfaaW.PrintMore
attribute [local go_sem] max2_int min2_int max_two min_two max_three min_three max_four min_four   -- for this text's walks alone
set_option linter.unusedVariables false
set_option linter.unusedSimpArgs false

/-! ### spec_Least: function 6 -/
mutual
def spec_Least.j0 : Nat → List Int → Int → Bool → Option (Int)
  | 0, _, _, _ => none
  | k + 1, x0, x3, x9 => if x9 = true then (if 0 < (x0.length : Int) then (some (wrap64 (80 + (wrap64 (rd x0 0))))) else (none)) else (if x3 = 1 then (if 0 < (x0.length : Int) then (spec_Least.j1 k x3 ((rd x0 0) == 129)) else (none)) else (spec_Least.j1 k x3 false))
def spec_Least.j1 : Nat → Int → Bool → Option (Int)
  | 0, _, _ => none
  | k + 1, x3, x29 => if x29 = true then (some 79) else (if x3 < 76 then (some x3) else (if x3 ≤ 255 then (some 76) else (if x3 ≤ 65535 then (some 77) else (some 78))))
end
def spec_Least.f (k : Nat) (l0 : List Int) : Option (Int) := if (l0.length : Int) = 0 then (some 0) else (if (l0.length : Int) = 1 then (if 0 < (l0.length : Int) then (if (rd l0 0) ≥ 1 then (spec_Least.j0 k l0 (l0.length : Int) (decide ((rd l0 0) ≤ 16))) else (spec_Least.j0 k l0 (l0.length : Int) false)) else (none)) else (spec_Least.j0 k l0 (l0.length : Int) false))
theorem spec_Least.mono_l : ∀ k, (∀ y0 y1 y2, LeO (spec_Least.j0 k y0 y1 y2) (spec_Least.j0 (k + 1) y0 y1 y2)) ∧ (∀ y0 y1, LeO (spec_Least.j1 k y0 y1) (spec_Least.j1 (k + 1) y0 y1))
  | 0 => ⟨fun _ _ _ r h => by simp [spec_Least.j0] at h, fun _ _ r h => by simp [spec_Least.j1] at h⟩
  | k + 1 => by
    obtain ⟨ih0, ih1⟩ := spec_Least.mono_l k
    refine ⟨?_, ?_⟩
    · intro y0 y1 y2
      unfold spec_Least.j0
      repeat' first
      | (with_reducible exact ih0 _ _ _)
      | (with_reducible exact ih1 _ _)
      | (with_reducible exact LeO.refl _)
      | (with_reducible exact LeO.none _)
      | (with_reducible refine LeO.ite ?_ ?_)
      | (with_reducible refine LeO.bind ?_ (fun _ => ?_))
      | exact ih0 _ _ _
      | exact ih1 _ _
      | exact LeO.none _
      | refine LeO.ite ?_ ?_
      | refine LeO.bind ?_ (fun _ => ?_)
    · intro y0 y1
      unfold spec_Least.j1
      repeat' first
      | (with_reducible exact ih0 _ _ _)
      | (with_reducible exact ih1 _ _)
      | (with_reducible exact LeO.refl _)
      | (with_reducible exact LeO.none _)
      | (with_reducible refine LeO.ite ?_ ?_)
      | (with_reducible refine LeO.bind ?_ (fun _ => ?_))
      | exact ih0 _ _ _
      | exact ih1 _ _
      | exact LeO.none _
      | refine LeO.ite ?_ ?_
      | refine LeO.bind ?_ (fun _ => ?_)
theorem spec_Least.mono : ∀ a0 k, LeO (spec_Least.f k a0) (spec_Least.f (k + 1) a0) := by
  intro a0 k
  obtain ⟨ih0, ih1⟩ := spec_Least.mono_l k
  unfold spec_Least.f
  repeat' first
      | (with_reducible exact ih0 _ _ _)
      | (with_reducible exact ih1 _ _)
      | (with_reducible exact LeO.refl _)
      | (with_reducible exact LeO.none _)
      | (with_reducible refine LeO.ite ?_ ?_)
      | (with_reducible refine LeO.bind ?_ (fun _ => ?_))
      | exact ih0 _ _ _
      | exact ih1 _ _
      | exact LeO.none _
      | refine LeO.ite ?_ ?_
      | refine LeO.bind ?_ (fun _ => ?_)
set_option maxHeartbeats 8000000 in
set_option maxRecDepth 100000 in
theorem spec_Least.calls (k : Nat) (A0 : Option Addr) (c0 : Nat) (l0 : List Int) (r : Int) (w : World) (hr0 : Kd.C (Kd.int .u8) w A0 l0.length l0) (hc0 : l0.length ≤ c0) (h : spec_Least.f k l0 = some r) :
    Calls Try.prog 6 #[.slice A0 l0.length c0] w fun e w' => e = .returned (.int .i64 r) ∧ Drawn0 w w' := by
  have HR0 := Aside0.mk hr0
  have HC0 := Aside0.mk hc0
  clear hr0 hc0
  have H : (if (l0.length : Int) = 0 then (some 0) else (if (l0.length : Int) = 1 then (if 0 < (l0.length : Int) then (if (rd l0 0) ≥ 1 then (spec_Least.j0 k l0 (l0.length : Int) (decide ((rd l0 0) ≤ 16))) else (spec_Least.j0 k l0 (l0.length : Int) false)) else (none)) else (spec_Least.j0 k l0 (l0.length : Int) false))) = some r := h
  clear h
  by_cases c2 : (l0.length : Int) = 0
  · rw [if_pos c2] at H
    have c2b0 : ((l0.length : Int) == 0) = true := beq_iff_eq.mpr c2
    have c2b1 : ((l0.length : Int) != 0) = false := bne_eq_false_iff_eq.mpr c2
    clear c2
    obtain rfl := Option.some.inj H
    go_enter Try.func6, Try.ntmps6
    go_wp2
    go_ret
    exact ⟨by first | rfl | (simp; done) | (simp [*]; done), by repeat (first | exact Drawn0.refl _ | apply Drawn0.step)⟩
  · rw [if_neg c2] at H
    have c2b0 : ((l0.length : Int) == 0) = false := beq_eq_false_iff_ne.mpr c2
    have c2b1 : ((l0.length : Int) != 0) = true := bne_iff_ne.mpr c2
    have c2b2 : ¬ (l0 = []) := fun h_ => c2 (by rw [h_]; rfl)
    have HC3 := Aside0.mk H
    clear H
    go_enter Try.func6, Try.ntmps6
    go_upto_region 4 with (fail)
    go_cut [9] (fun v9 wc => ∃ (kq : Nat) (x9_2 : Bool), v9 = .bool x9_2 ∧ Aside0 (spec_Least.j0 kq l0 (l0.length : Int) x9_2 = some r) ∧ Aside0 (kq ≤ k) ∧ Drawn0 w wc)
    case first =>
      have H := HC3.out
      clear HC3
      by_cases c4 : (l0.length : Int) = 1
      · rw [if_pos c4] at H
        have c4b0 : ((l0.length : Int) == 1) = true := beq_iff_eq.mpr c4
        have c4b1 : ((l0.length : Int) != 1) = false := bne_eq_false_iff_eq.mpr c4
        clear c4
        (first | rw [c4b0] | (simp only [i64_w, i32_w]; rw [c4b0]) | skip)
        by_cases c5 : 0 < (l0.length : Int)
        · rw [if_pos c5] at H
          have c5b0 : decide (0 < (l0.length : Int)) = true := decide_eq_true c5
          have c5b1 : decide (0 < l0.length) = true := decide_eq_true (by omega)
          clear c5
          by_cases c6 : (rd l0 0) ≥ 1
          · rw [if_pos c6] at H
            have c6b0 : decide (1 ≤ (rd l0 0)) = true := decide_eq_true c6
            clear c6
            have H' := Aside0.mk H
            clear H
            have p134 : 0 ≤ (0 : Int) := (by omega)
            have q134 : 0 < (l0.length : Int) := of_decide_eq_true (by first | (with_reducible assumption) | assumption)
            obtain ⟨ad134, e134, hx134_0⟩ := Kd.at_int HR0.out 0 p134 q134
            cases e134
            have qi134 : (0 < l0.length) = True := eq_true (by omega)
            (try rw [show ((0 : Int)).toNat = 0 from rfl] at hx134_0)
            (try rw [Addr.add_zero'] at hx134_0)
            replace p134 := eq_true p134
            replace q134 := eq_true q134
            have p135 : 0 ≤ (0 : Int) := (by omega)
            have q135 : 0 < (l0.length : Int) := of_decide_eq_true (by first | (with_reducible assumption) | assumption)
            obtain ⟨ad135, e135, hx135_0⟩ := Kd.at_int HR0.out 0 p135 q135
            obtain rfl : ad134 = ad135 := (by injection e135)
            have qi135 : (0 < l0.length) = True := eq_true (by omega)
            (try rw [show ((0 : Int)).toNat = 0 from rfl] at hx135_0)
            (try rw [Addr.add_zero'] at hx135_0)
            replace p135 := eq_true p135
            replace q135 := eq_true q135
            go_wp2
            go_meet
            case rel => exact ⟨_, (decide ((rd l0 0) ≤ 16)), (by first | rfl | (simp; done) | (simp [*]; done)), H', ⟨by first | omega | exact Nat.le_refl _⟩, by repeat (first | exact Drawn0.refl _ | apply Drawn0.step)⟩
          · rw [if_neg c6] at H
            have c6b0 : decide (1 ≤ (rd l0 0)) = false := decide_eq_false c6
            clear c6
            have H' := Aside0.mk H
            clear H
            have p134 : 0 ≤ (0 : Int) := (by omega)
            have q134 : 0 < (l0.length : Int) := of_decide_eq_true (by first | (with_reducible assumption) | assumption)
            obtain ⟨ad134, e134, hx134_0⟩ := Kd.at_int HR0.out 0 p134 q134
            cases e134
            have qi134 : (0 < l0.length) = True := eq_true (by omega)
            (try rw [show ((0 : Int)).toNat = 0 from rfl] at hx134_0)
            (try rw [Addr.add_zero'] at hx134_0)
            replace p134 := eq_true p134
            replace q134 := eq_true q134
            go_wp2
            go_meet
            case rel => exact ⟨_, (false), (by first | rfl | (simp; done) | (simp [*]; done)), H', ⟨by first | omega | exact Nat.le_refl _⟩, by repeat (first | exact Drawn0.refl _ | apply Drawn0.step)⟩
        · rw [if_neg c5] at H
          exact absurd H (by simp)
      · rw [if_neg c4] at H
        have c4b0 : ((l0.length : Int) == 1) = false := beq_eq_false_iff_ne.mpr c4
        have c4b1 : ((l0.length : Int) != 1) = true := bne_iff_ne.mpr c4
        (first | rw [c4b0] | (simp only [i64_w, i32_w]; rw [c4b0]) | skip)
        have H' := Aside0.mk H
        clear H
        go_wp2
        go_meet
        case rel => exact ⟨_, (false), (by first | rfl | (simp; done) | (simp [*]; done)), H', ⟨by first | omega | exact Nat.le_refl _⟩, by repeat (first | exact Drawn0.refl _ | apply Drawn0.step)⟩
    case rest =>
      clear HC3
      try clear p1
      try clear q1
      try clear hx1
      try clear qi1
      try clear c2
      try clear c2b0
      try clear c2b1
      try clear c2b2
      try clear p2
      try clear c4
      try clear c4b0
      try clear c4b1
      try clear c5
      try clear c5b0
      try clear c5b1
      try clear c6
      try clear c6b0
      try clear hx134_0
      try clear hx135_0
      try clear p134
      try clear p135
      try clear q134
      try clear q135
      obtain ⟨kq, x9_2, rfl, HA, HJ2, ⟨mc2, rfl⟩⟩ := hcut
      cases kq with
      | zero => exact absurd HA.out (by simp [spec_Least.j0])
      | succ kj2 =>
        have H := HA.out
        clear HA
        simp only [spec_Least.j0] at H
        by_cases c7 : x9_2 = true
        · subst c7
          have H1 : (if 0 < (l0.length : Int) then (some (wrap64 (80 + (wrap64 (rd l0 0))))) else (none)) = some r := by rw [if_pos rfl] at H; exact H
          clear H
          have H := H1
          clear H1
          by_cases c8 : 0 < (l0.length : Int)
          · rw [if_pos c8] at H
            have c8b0 : decide (0 < (l0.length : Int)) = true := decide_eq_true c8
            have c8b1 : decide (0 < l0.length) = true := decide_eq_true (by omega)
            clear c8
            obtain rfl := Option.some.inj H
            have p136 : 0 ≤ (0 : Int) := (by omega)
            have q136 : 0 < (l0.length : Int) := of_decide_eq_true (by first | (with_reducible assumption) | assumption)
            obtain ⟨ad136, e136, hx136_0⟩ := Kd.at_int HR0.out 0 p136 q136
            cases e136
            have qi136 : (0 < l0.length) = True := eq_true (by omega)
            (try rw [show ((0 : Int)).toNat = 0 from rfl] at hx136_0)
            (try rw [Addr.add_zero'] at hx136_0)
            replace p136 := eq_true p136
            replace q136 := eq_true q136
            go_wp2
            go_ret
            exact ⟨by first | rfl | (simp; done) | (simp [*]; done), by repeat (first | exact Drawn0.refl _ | apply Drawn0.step)⟩
          · rw [if_neg c8] at H
            exact absurd H (by simp)
        · replace c7 := Bool.eq_false_iff.mpr c7
          subst c7
          have H1 : (if (l0.length : Int) = 1 then (if 0 < (l0.length : Int) then (spec_Least.j1 kj2 (l0.length : Int) ((rd l0 0) == 129)) else (none)) else (spec_Least.j1 kj2 (l0.length : Int) false)) = some r := by rw [if_neg (show ¬ (false = true) by decide)] at H; exact H
          clear H
          have H := H1
          clear H1
          have HC9 := Aside0.mk H
          clear H
          go_upto_region 6 with (fail)
          go_cut [29] (fun v29 wc => ∃ (kq : Nat) (x29_8 : Bool), v29 = .bool x29_8 ∧ Aside0 (spec_Least.j1 kq (l0.length : Int) x29_8 = some r) ∧ Aside0 (kq ≤ kj2) ∧ Drawn0 w wc)
          case first =>
            have H := HC9.out
            clear HC9
            by_cases c10 : (l0.length : Int) = 1
            · rw [if_pos c10] at H
              have c10b0 : ((l0.length : Int) == 1) = true := beq_iff_eq.mpr c10
              have c10b1 : ((l0.length : Int) != 1) = false := bne_eq_false_iff_eq.mpr c10
              clear c10
              (first | rw [c10b0] | (simp only [i64_w, i32_w]; rw [c10b0]) | skip)
              by_cases c11 : 0 < (l0.length : Int)
              · rw [if_pos c11] at H
                have c11b0 : decide (0 < (l0.length : Int)) = true := decide_eq_true c11
                have c11b1 : decide (0 < l0.length) = true := decide_eq_true (by omega)
                clear c11
                have H' := Aside0.mk H
                clear H
                have p137 : 0 ≤ (0 : Int) := (by omega)
                have q137 : 0 < (l0.length : Int) := of_decide_eq_true (by first | (with_reducible assumption) | assumption)
                obtain ⟨ad137, e137, hx137_0⟩ := Kd.at_int HR0.out 0 p137 q137
                cases e137
                have qi137 : (0 < l0.length) = True := eq_true (by omega)
                (try rw [show ((0 : Int)).toNat = 0 from rfl] at hx137_0)
                (try rw [Addr.add_zero'] at hx137_0)
                replace p137 := eq_true p137
                replace q137 := eq_true q137
                go_wp2
                go_meet
                case rel => exact ⟨_, (((rd l0 0) == 129)), (by first | rfl | (simp; done) | (simp [*]; done)), H', ⟨by have := HJ2.out; first | omega | exact Nat.le_refl _⟩, by repeat (first | exact Drawn0.refl _ | apply Drawn0.step)⟩
              · rw [if_neg c11] at H
                exact absurd H (by simp)
            · rw [if_neg c10] at H
              have c10b0 : ((l0.length : Int) == 1) = false := beq_eq_false_iff_ne.mpr c10
              have c10b1 : ((l0.length : Int) != 1) = true := bne_iff_ne.mpr c10
              (first | rw [c10b0] | (simp only [i64_w, i32_w]; rw [c10b0]) | skip)
              have H' := Aside0.mk H
              clear H
              go_wp2
              go_meet
              case rel => exact ⟨_, (false), (by first | rfl | (simp; done) | (simp [*]; done)), H', ⟨by have := HJ2.out; first | omega | exact Nat.le_refl _⟩, by repeat (first | exact Drawn0.refl _ | apply Drawn0.step)⟩
          case rest =>
            clear HC9
            try clear c1
            try clear p1
            try clear q1
            try clear hx1
            try clear qi1
            try clear c2
            try clear c2b0
            try clear c2b1
            try clear c2b2
            try clear p2
            try clear c4
            try clear c4b0
            try clear c4b1
            try clear c5
            try clear c5b0
            try clear c5b1
            try clear c6
            try clear c6b0
            try clear p6
            try clear c7
            try clear c8
            try clear c8b0
            try clear c8b1
            try clear c10
            try clear c10b0
            try clear c10b1
            try clear c11
            try clear c11b0
            try clear c11b1
            try clear hx134_0
            try clear hx135_0
            try clear hx136_0
            try clear hx137_0
            try clear p1
            try clear p134
            try clear p135
            try clear p136
            try clear p137
            try clear p2
            try clear q1
            try clear q134
            try clear q135
            try clear q136
            try clear q137
            obtain ⟨kq, x29_8, rfl, HA, HJ8, ⟨mc8, rfl⟩⟩ := hcut
            cases kq with
            | zero => exact absurd HA.out (by simp [spec_Least.j1])
            | succ kj8 =>
              have H := HA.out
              clear HA
              simp only [spec_Least.j1] at H
              by_cases c12 : x29_8 = true
              · subst c12
                have H1 : (some 79) = some r := by rw [if_pos rfl] at H; exact H
                clear H
                have H := H1
                clear H1
                obtain rfl := Option.some.inj H
                go_wp2
                go_ret
                exact ⟨by first | rfl | (simp; done) | (simp [*]; done), by repeat (first | exact Drawn0.refl _ | apply Drawn0.step)⟩
              · replace c12 := Bool.eq_false_iff.mpr c12
                subst c12
                have H1 : (if (l0.length : Int) < 76 then (some (l0.length : Int)) else (if (l0.length : Int) ≤ 255 then (some 76) else (if (l0.length : Int) ≤ 65535 then (some 77) else (some 78)))) = some r := by rw [if_neg (show ¬ (false = true) by decide)] at H; exact H
                clear H
                have H := H1
                clear H1
                by_cases c13 : (l0.length : Int) < 76
                · rw [if_pos c13] at H
                  have c13b0 : decide ((l0.length : Int) < 76) = true := decide_eq_true c13
                  have c13b1 : decide (l0.length < 76) = true := decide_eq_true (by omega)
                  clear c13
                  obtain rfl := Option.some.inj H
                  go_wp2
                  go_ret
                  exact ⟨by first | rfl | (simp; done) | (simp [*]; done), by repeat (first | exact Drawn0.refl _ | apply Drawn0.step)⟩
                · rw [if_neg c13] at H
                  have c13b0 : decide ((l0.length : Int) < 76) = false := decide_eq_false c13
                  have c13b1 : decide (l0.length < 76) = false := decide_eq_false (by omega)
                  clear c13
                  by_cases c14 : (l0.length : Int) ≤ 255
                  · rw [if_pos c14] at H
                    have c14b0 : decide ((l0.length : Int) ≤ 255) = true := decide_eq_true c14
                    have c14b1 : decide (l0.length ≤ 255) = true := decide_eq_true (by omega)
                    clear c14
                    obtain rfl := Option.some.inj H
                    go_wp2
                    go_ret
                    exact ⟨by first | rfl | (simp; done) | (simp [*]; done), by repeat (first | exact Drawn0.refl _ | apply Drawn0.step)⟩
                  · rw [if_neg c14] at H
                    have c14b0 : decide ((l0.length : Int) ≤ 255) = false := decide_eq_false c14
                    have c14b1 : decide (l0.length ≤ 255) = false := decide_eq_false (by omega)
                    clear c14
                    by_cases c15 : (l0.length : Int) ≤ 65535
                    · rw [if_pos c15] at H
                      have c15b0 : decide ((l0.length : Int) ≤ 65535) = true := decide_eq_true c15
                      have c15b1 : decide (l0.length ≤ 65535) = true := decide_eq_true (by omega)
                      clear c15
                      obtain rfl := Option.some.inj H
                      go_wp2
                      go_ret
                      exact ⟨by first | rfl | (simp; done) | (simp [*]; done), by repeat (first | exact Drawn0.refl _ | apply Drawn0.step)⟩
                    · rw [if_neg c15] at H
                      have c15b0 : decide ((l0.length : Int) ≤ 65535) = false := decide_eq_false c15
                      have c15b1 : decide (l0.length ≤ 65535) = false := decide_eq_false (by omega)
                      clear c15
                      obtain rfl := Option.some.inj H
                      go_wp2
                      go_ret
                      exact ⟨by first | rfl | (simp; done) | (simp [*]; done), by repeat (first | exact Drawn0.refl _ | apply Drawn0.step)⟩

/-! ### btcdtxscript_opcodeOnelineRepls: function 54 -/
def btcdtxscript_opcodeOnelineRepls.f (a0 : ByteArray) : Option (ByteArray × Bool) := if a0.toList = ([79, 80, 95, 49, 78, 69, 71, 65, 84, 69] : List UInt8) then (some ((⟨#[45, 49]⟩ : ByteArray), true)) else (if a0.toList = ([79, 80, 95, 48] : List UInt8) then (some ((⟨#[48]⟩ : ByteArray), true)) else (if a0.toList = ([79, 80, 95, 49] : List UInt8) then (some ((⟨#[49]⟩ : ByteArray), true)) else (if a0.toList = ([79, 80, 95, 50] : List UInt8) then (some ((⟨#[50]⟩ : ByteArray), true)) else (if a0.toList = ([79, 80, 95, 51] : List UInt8) then (some ((⟨#[51]⟩ : ByteArray), true)) else (if a0.toList = ([79, 80, 95, 52] : List UInt8) then (some ((⟨#[52]⟩ : ByteArray), true)) else (if a0.toList = ([79, 80, 95, 53] : List UInt8) then (some ((⟨#[53]⟩ : ByteArray), true)) else (if a0.toList = ([79, 80, 95, 54] : List UInt8) then (some ((⟨#[54]⟩ : ByteArray), true)) else (if a0.toList = ([79, 80, 95, 55] : List UInt8) then (some ((⟨#[55]⟩ : ByteArray), true)) else (if a0.toList = ([79, 80, 95, 56] : List UInt8) then (some ((⟨#[56]⟩ : ByteArray), true)) else (if a0.toList = ([79, 80, 95, 57] : List UInt8) then (some ((⟨#[57]⟩ : ByteArray), true)) else (if a0.toList = ([79, 80, 95, 49, 48] : List UInt8) then (some ((⟨#[49, 48]⟩ : ByteArray), true)) else (if a0.toList = ([79, 80, 95, 49, 49] : List UInt8) then (some ((⟨#[49, 49]⟩ : ByteArray), true)) else (if a0.toList = ([79, 80, 95, 49, 50] : List UInt8) then (some ((⟨#[49, 50]⟩ : ByteArray), true)) else (if a0.toList = ([79, 80, 95, 49, 51] : List UInt8) then (some ((⟨#[49, 51]⟩ : ByteArray), true)) else (if a0.toList = ([79, 80, 95, 49, 52] : List UInt8) then (some ((⟨#[49, 52]⟩ : ByteArray), true)) else (if a0.toList = ([79, 80, 95, 49, 53] : List UInt8) then (some ((⟨#[49, 53]⟩ : ByteArray), true)) else (if a0.toList = ([79, 80, 95, 49, 54] : List UInt8) then (some ((⟨#[49, 54]⟩ : ByteArray), true)) else (some ((⟨#[]⟩ : ByteArray), false)))))))))))))))))))
set_option maxHeartbeats 8000000 in
set_option maxRecDepth 100000 in
theorem btcdtxscript_opcodeOnelineRepls.calls (a0 : ByteArray) (r1 : ByteArray) (r2 : Bool) (w : World) (h : btcdtxscript_opcodeOnelineRepls.f a0 = some (r1, r2)) :
    Calls Try.prog 54 #[.string a0] w fun e w' => e = .returned (.tuple #[.string r1, .bool r2]) ∧ Drawn0 w w' := by
  have H : (if a0.toList = ([79, 80, 95, 49, 78, 69, 71, 65, 84, 69] : List UInt8) then (some ((⟨#[45, 49]⟩ : ByteArray), true)) else (if a0.toList = ([79, 80, 95, 48] : List UInt8) then (some ((⟨#[48]⟩ : ByteArray), true)) else (if a0.toList = ([79, 80, 95, 49] : List UInt8) then (some ((⟨#[49]⟩ : ByteArray), true)) else (if a0.toList = ([79, 80, 95, 50] : List UInt8) then (some ((⟨#[50]⟩ : ByteArray), true)) else (if a0.toList = ([79, 80, 95, 51] : List UInt8) then (some ((⟨#[51]⟩ : ByteArray), true)) else (if a0.toList = ([79, 80, 95, 52] : List UInt8) then (some ((⟨#[52]⟩ : ByteArray), true)) else (if a0.toList = ([79, 80, 95, 53] : List UInt8) then (some ((⟨#[53]⟩ : ByteArray), true)) else (if a0.toList = ([79, 80, 95, 54] : List UInt8) then (some ((⟨#[54]⟩ : ByteArray), true)) else (if a0.toList = ([79, 80, 95, 55] : List UInt8) then (some ((⟨#[55]⟩ : ByteArray), true)) else (if a0.toList = ([79, 80, 95, 56] : List UInt8) then (some ((⟨#[56]⟩ : ByteArray), true)) else (if a0.toList = ([79, 80, 95, 57] : List UInt8) then (some ((⟨#[57]⟩ : ByteArray), true)) else (if a0.toList = ([79, 80, 95, 49, 48] : List UInt8) then (some ((⟨#[49, 48]⟩ : ByteArray), true)) else (if a0.toList = ([79, 80, 95, 49, 49] : List UInt8) then (some ((⟨#[49, 49]⟩ : ByteArray), true)) else (if a0.toList = ([79, 80, 95, 49, 50] : List UInt8) then (some ((⟨#[49, 50]⟩ : ByteArray), true)) else (if a0.toList = ([79, 80, 95, 49, 51] : List UInt8) then (some ((⟨#[49, 51]⟩ : ByteArray), true)) else (if a0.toList = ([79, 80, 95, 49, 52] : List UInt8) then (some ((⟨#[49, 52]⟩ : ByteArray), true)) else (if a0.toList = ([79, 80, 95, 49, 53] : List UInt8) then (some ((⟨#[49, 53]⟩ : ByteArray), true)) else (if a0.toList = ([79, 80, 95, 49, 54] : List UInt8) then (some ((⟨#[49, 54]⟩ : ByteArray), true)) else (some ((⟨#[]⟩ : ByteArray), false)))))))))))))))))))) = some (r1, r2) := h
  clear h
  by_cases c2 : a0.toList = ([79, 80, 95, 49, 78, 69, 71, 65, 84, 69] : List UInt8)
  · rw [if_pos c2] at H
    have c2b0 : (a0.toList == ([79, 80, 95, 49, 78, 69, 71, 65, 84, 69] : List UInt8)) = true := beq_iff_eq.mpr c2
    have c2b1 : (a0.toList != ([79, 80, 95, 49, 78, 69, 71, 65, 84, 69] : List UInt8)) = false := bne_eq_false_iff_eq.mpr c2
    clear c2
    simp only [Option.some.injEq, Prod.mk.injEq] at H
    obtain ⟨rfl, rfl⟩ := H
    go_enter Try.func54, Try.ntmps54
    go_wp2
    go_ret2
    exact ⟨by first | rfl | (simp; done) | (simp [*]; done), by repeat (first | exact Drawn0.refl _ | apply Drawn0.step)⟩
  · rw [if_neg c2] at H
    have c2b0 : (a0.toList == ([79, 80, 95, 49, 78, 69, 71, 65, 84, 69] : List UInt8)) = false := beq_eq_false_iff_ne.mpr c2
    have c2b1 : (a0.toList != ([79, 80, 95, 49, 78, 69, 71, 65, 84, 69] : List UInt8)) = true := bne_iff_ne.mpr c2
    by_cases c3 : a0.toList = ([79, 80, 95, 48] : List UInt8)
    · rw [if_pos c3] at H
      have c3b0 : (a0.toList == ([79, 80, 95, 48] : List UInt8)) = true := beq_iff_eq.mpr c3
      have c3b1 : (a0.toList != ([79, 80, 95, 48] : List UInt8)) = false := bne_eq_false_iff_eq.mpr c3
      clear c3
      simp only [Option.some.injEq, Prod.mk.injEq] at H
      obtain ⟨rfl, rfl⟩ := H
      go_enter Try.func54, Try.ntmps54
      go_wp2
      go_ret2
      exact ⟨by first | rfl | (simp; done) | (simp [*]; done), by repeat (first | exact Drawn0.refl _ | apply Drawn0.step)⟩
    · rw [if_neg c3] at H
      have c3b0 : (a0.toList == ([79, 80, 95, 48] : List UInt8)) = false := beq_eq_false_iff_ne.mpr c3
      have c3b1 : (a0.toList != ([79, 80, 95, 48] : List UInt8)) = true := bne_iff_ne.mpr c3
      by_cases c4 : a0.toList = ([79, 80, 95, 49] : List UInt8)
      · rw [if_pos c4] at H
        have c4b0 : (a0.toList == ([79, 80, 95, 49] : List UInt8)) = true := beq_iff_eq.mpr c4
        have c4b1 : (a0.toList != ([79, 80, 95, 49] : List UInt8)) = false := bne_eq_false_iff_eq.mpr c4
        clear c4
        simp only [Option.some.injEq, Prod.mk.injEq] at H
        obtain ⟨rfl, rfl⟩ := H
        go_enter Try.func54, Try.ntmps54
        go_wp2
        go_ret2
        exact ⟨by first | rfl | (simp; done) | (simp [*]; done), by repeat (first | exact Drawn0.refl _ | apply Drawn0.step)⟩
      · rw [if_neg c4] at H
        have c4b0 : (a0.toList == ([79, 80, 95, 49] : List UInt8)) = false := beq_eq_false_iff_ne.mpr c4
        have c4b1 : (a0.toList != ([79, 80, 95, 49] : List UInt8)) = true := bne_iff_ne.mpr c4
        by_cases c5 : a0.toList = ([79, 80, 95, 50] : List UInt8)
        · rw [if_pos c5] at H
          have c5b0 : (a0.toList == ([79, 80, 95, 50] : List UInt8)) = true := beq_iff_eq.mpr c5
          have c5b1 : (a0.toList != ([79, 80, 95, 50] : List UInt8)) = false := bne_eq_false_iff_eq.mpr c5
          clear c5
          simp only [Option.some.injEq, Prod.mk.injEq] at H
          obtain ⟨rfl, rfl⟩ := H
          go_enter Try.func54, Try.ntmps54
          go_wp2
          go_ret2
          exact ⟨by first | rfl | (simp; done) | (simp [*]; done), by repeat (first | exact Drawn0.refl _ | apply Drawn0.step)⟩
        · rw [if_neg c5] at H
          have c5b0 : (a0.toList == ([79, 80, 95, 50] : List UInt8)) = false := beq_eq_false_iff_ne.mpr c5
          have c5b1 : (a0.toList != ([79, 80, 95, 50] : List UInt8)) = true := bne_iff_ne.mpr c5
          by_cases c6 : a0.toList = ([79, 80, 95, 51] : List UInt8)
          · rw [if_pos c6] at H
            have c6b0 : (a0.toList == ([79, 80, 95, 51] : List UInt8)) = true := beq_iff_eq.mpr c6
            have c6b1 : (a0.toList != ([79, 80, 95, 51] : List UInt8)) = false := bne_eq_false_iff_eq.mpr c6
            clear c6
            simp only [Option.some.injEq, Prod.mk.injEq] at H
            obtain ⟨rfl, rfl⟩ := H
            go_enter Try.func54, Try.ntmps54
            go_wp2
            go_ret2
            exact ⟨by first | rfl | (simp; done) | (simp [*]; done), by repeat (first | exact Drawn0.refl _ | apply Drawn0.step)⟩
          · rw [if_neg c6] at H
            have c6b0 : (a0.toList == ([79, 80, 95, 51] : List UInt8)) = false := beq_eq_false_iff_ne.mpr c6
            have c6b1 : (a0.toList != ([79, 80, 95, 51] : List UInt8)) = true := bne_iff_ne.mpr c6
            by_cases c7 : a0.toList = ([79, 80, 95, 52] : List UInt8)
            · rw [if_pos c7] at H
              have c7b0 : (a0.toList == ([79, 80, 95, 52] : List UInt8)) = true := beq_iff_eq.mpr c7
              have c7b1 : (a0.toList != ([79, 80, 95, 52] : List UInt8)) = false := bne_eq_false_iff_eq.mpr c7
              clear c7
              simp only [Option.some.injEq, Prod.mk.injEq] at H
              obtain ⟨rfl, rfl⟩ := H
              go_enter Try.func54, Try.ntmps54
              go_wp2
              go_ret2
              exact ⟨by first | rfl | (simp; done) | (simp [*]; done), by repeat (first | exact Drawn0.refl _ | apply Drawn0.step)⟩
            · rw [if_neg c7] at H
              have c7b0 : (a0.toList == ([79, 80, 95, 52] : List UInt8)) = false := beq_eq_false_iff_ne.mpr c7
              have c7b1 : (a0.toList != ([79, 80, 95, 52] : List UInt8)) = true := bne_iff_ne.mpr c7
              by_cases c8 : a0.toList = ([79, 80, 95, 53] : List UInt8)
              · rw [if_pos c8] at H
                have c8b0 : (a0.toList == ([79, 80, 95, 53] : List UInt8)) = true := beq_iff_eq.mpr c8
                have c8b1 : (a0.toList != ([79, 80, 95, 53] : List UInt8)) = false := bne_eq_false_iff_eq.mpr c8
                clear c8
                simp only [Option.some.injEq, Prod.mk.injEq] at H
                obtain ⟨rfl, rfl⟩ := H
                go_enter Try.func54, Try.ntmps54
                go_wp2
                go_ret2
                exact ⟨by first | rfl | (simp; done) | (simp [*]; done), by repeat (first | exact Drawn0.refl _ | apply Drawn0.step)⟩
              · rw [if_neg c8] at H
                have c8b0 : (a0.toList == ([79, 80, 95, 53] : List UInt8)) = false := beq_eq_false_iff_ne.mpr c8
                have c8b1 : (a0.toList != ([79, 80, 95, 53] : List UInt8)) = true := bne_iff_ne.mpr c8
                by_cases c9 : a0.toList = ([79, 80, 95, 54] : List UInt8)
                · rw [if_pos c9] at H
                  have c9b0 : (a0.toList == ([79, 80, 95, 54] : List UInt8)) = true := beq_iff_eq.mpr c9
                  have c9b1 : (a0.toList != ([79, 80, 95, 54] : List UInt8)) = false := bne_eq_false_iff_eq.mpr c9
                  clear c9
                  simp only [Option.some.injEq, Prod.mk.injEq] at H
                  obtain ⟨rfl, rfl⟩ := H
                  go_enter Try.func54, Try.ntmps54
                  go_wp2
                  go_ret2
                  exact ⟨by first | rfl | (simp; done) | (simp [*]; done), by repeat (first | exact Drawn0.refl _ | apply Drawn0.step)⟩
                · rw [if_neg c9] at H
                  have c9b0 : (a0.toList == ([79, 80, 95, 54] : List UInt8)) = false := beq_eq_false_iff_ne.mpr c9
                  have c9b1 : (a0.toList != ([79, 80, 95, 54] : List UInt8)) = true := bne_iff_ne.mpr c9
                  by_cases c10 : a0.toList = ([79, 80, 95, 55] : List UInt8)
                  · rw [if_pos c10] at H
                    have c10b0 : (a0.toList == ([79, 80, 95, 55] : List UInt8)) = true := beq_iff_eq.mpr c10
                    have c10b1 : (a0.toList != ([79, 80, 95, 55] : List UInt8)) = false := bne_eq_false_iff_eq.mpr c10
                    clear c10
                    simp only [Option.some.injEq, Prod.mk.injEq] at H
                    obtain ⟨rfl, rfl⟩ := H
                    go_enter Try.func54, Try.ntmps54
                    go_wp2
                    go_ret2
                    exact ⟨by first | rfl | (simp; done) | (simp [*]; done), by repeat (first | exact Drawn0.refl _ | apply Drawn0.step)⟩
                  · rw [if_neg c10] at H
                    have c10b0 : (a0.toList == ([79, 80, 95, 55] : List UInt8)) = false := beq_eq_false_iff_ne.mpr c10
                    have c10b1 : (a0.toList != ([79, 80, 95, 55] : List UInt8)) = true := bne_iff_ne.mpr c10
                    by_cases c11 : a0.toList = ([79, 80, 95, 56] : List UInt8)
                    · rw [if_pos c11] at H
                      have c11b0 : (a0.toList == ([79, 80, 95, 56] : List UInt8)) = true := beq_iff_eq.mpr c11
                      have c11b1 : (a0.toList != ([79, 80, 95, 56] : List UInt8)) = false := bne_eq_false_iff_eq.mpr c11
                      clear c11
                      simp only [Option.some.injEq, Prod.mk.injEq] at H
                      obtain ⟨rfl, rfl⟩ := H
                      go_enter Try.func54, Try.ntmps54
                      go_wp2
                      go_ret2
                      exact ⟨by first | rfl | (simp; done) | (simp [*]; done), by repeat (first | exact Drawn0.refl _ | apply Drawn0.step)⟩
                    · rw [if_neg c11] at H
                      have c11b0 : (a0.toList == ([79, 80, 95, 56] : List UInt8)) = false := beq_eq_false_iff_ne.mpr c11
                      have c11b1 : (a0.toList != ([79, 80, 95, 56] : List UInt8)) = true := bne_iff_ne.mpr c11
                      by_cases c12 : a0.toList = ([79, 80, 95, 57] : List UInt8)
                      · rw [if_pos c12] at H
                        have c12b0 : (a0.toList == ([79, 80, 95, 57] : List UInt8)) = true := beq_iff_eq.mpr c12
                        have c12b1 : (a0.toList != ([79, 80, 95, 57] : List UInt8)) = false := bne_eq_false_iff_eq.mpr c12
                        clear c12
                        simp only [Option.some.injEq, Prod.mk.injEq] at H
                        obtain ⟨rfl, rfl⟩ := H
                        go_enter Try.func54, Try.ntmps54
                        go_wp2
                        go_ret2
                        exact ⟨by first | rfl | (simp; done) | (simp [*]; done), by repeat (first | exact Drawn0.refl _ | apply Drawn0.step)⟩
                      · rw [if_neg c12] at H
                        have c12b0 : (a0.toList == ([79, 80, 95, 57] : List UInt8)) = false := beq_eq_false_iff_ne.mpr c12
                        have c12b1 : (a0.toList != ([79, 80, 95, 57] : List UInt8)) = true := bne_iff_ne.mpr c12
                        by_cases c13 : a0.toList = ([79, 80, 95, 49, 48] : List UInt8)
                        · rw [if_pos c13] at H
                          have c13b0 : (a0.toList == ([79, 80, 95, 49, 48] : List UInt8)) = true := beq_iff_eq.mpr c13
                          have c13b1 : (a0.toList != ([79, 80, 95, 49, 48] : List UInt8)) = false := bne_eq_false_iff_eq.mpr c13
                          clear c13
                          simp only [Option.some.injEq, Prod.mk.injEq] at H
                          obtain ⟨rfl, rfl⟩ := H
                          go_enter Try.func54, Try.ntmps54
                          go_wp2
                          go_ret2
                          exact ⟨by first | rfl | (simp; done) | (simp [*]; done), by repeat (first | exact Drawn0.refl _ | apply Drawn0.step)⟩
                        · rw [if_neg c13] at H
                          have c13b0 : (a0.toList == ([79, 80, 95, 49, 48] : List UInt8)) = false := beq_eq_false_iff_ne.mpr c13
                          have c13b1 : (a0.toList != ([79, 80, 95, 49, 48] : List UInt8)) = true := bne_iff_ne.mpr c13
                          by_cases c14 : a0.toList = ([79, 80, 95, 49, 49] : List UInt8)
                          · rw [if_pos c14] at H
                            have c14b0 : (a0.toList == ([79, 80, 95, 49, 49] : List UInt8)) = true := beq_iff_eq.mpr c14
                            have c14b1 : (a0.toList != ([79, 80, 95, 49, 49] : List UInt8)) = false := bne_eq_false_iff_eq.mpr c14
                            clear c14
                            simp only [Option.some.injEq, Prod.mk.injEq] at H
                            obtain ⟨rfl, rfl⟩ := H
                            go_enter Try.func54, Try.ntmps54
                            go_wp2
                            go_ret2
                            exact ⟨by first | rfl | (simp; done) | (simp [*]; done), by repeat (first | exact Drawn0.refl _ | apply Drawn0.step)⟩
                          · rw [if_neg c14] at H
                            have c14b0 : (a0.toList == ([79, 80, 95, 49, 49] : List UInt8)) = false := beq_eq_false_iff_ne.mpr c14
                            have c14b1 : (a0.toList != ([79, 80, 95, 49, 49] : List UInt8)) = true := bne_iff_ne.mpr c14
                            by_cases c15 : a0.toList = ([79, 80, 95, 49, 50] : List UInt8)
                            · rw [if_pos c15] at H
                              have c15b0 : (a0.toList == ([79, 80, 95, 49, 50] : List UInt8)) = true := beq_iff_eq.mpr c15
                              have c15b1 : (a0.toList != ([79, 80, 95, 49, 50] : List UInt8)) = false := bne_eq_false_iff_eq.mpr c15
                              clear c15
                              simp only [Option.some.injEq, Prod.mk.injEq] at H
                              obtain ⟨rfl, rfl⟩ := H
                              go_enter Try.func54, Try.ntmps54
                              go_wp2
                              go_ret2
                              exact ⟨by first | rfl | (simp; done) | (simp [*]; done), by repeat (first | exact Drawn0.refl _ | apply Drawn0.step)⟩
                            · rw [if_neg c15] at H
                              have c15b0 : (a0.toList == ([79, 80, 95, 49, 50] : List UInt8)) = false := beq_eq_false_iff_ne.mpr c15
                              have c15b1 : (a0.toList != ([79, 80, 95, 49, 50] : List UInt8)) = true := bne_iff_ne.mpr c15
                              by_cases c16 : a0.toList = ([79, 80, 95, 49, 51] : List UInt8)
                              · rw [if_pos c16] at H
                                have c16b0 : (a0.toList == ([79, 80, 95, 49, 51] : List UInt8)) = true := beq_iff_eq.mpr c16
                                have c16b1 : (a0.toList != ([79, 80, 95, 49, 51] : List UInt8)) = false := bne_eq_false_iff_eq.mpr c16
                                clear c16
                                simp only [Option.some.injEq, Prod.mk.injEq] at H
                                obtain ⟨rfl, rfl⟩ := H
                                go_enter Try.func54, Try.ntmps54
                                go_wp2
                                go_ret2
                                exact ⟨by first | rfl | (simp; done) | (simp [*]; done), by repeat (first | exact Drawn0.refl _ | apply Drawn0.step)⟩
                              · rw [if_neg c16] at H
                                have c16b0 : (a0.toList == ([79, 80, 95, 49, 51] : List UInt8)) = false := beq_eq_false_iff_ne.mpr c16
                                have c16b1 : (a0.toList != ([79, 80, 95, 49, 51] : List UInt8)) = true := bne_iff_ne.mpr c16
                                by_cases c17 : a0.toList = ([79, 80, 95, 49, 52] : List UInt8)
                                · rw [if_pos c17] at H
                                  have c17b0 : (a0.toList == ([79, 80, 95, 49, 52] : List UInt8)) = true := beq_iff_eq.mpr c17
                                  have c17b1 : (a0.toList != ([79, 80, 95, 49, 52] : List UInt8)) = false := bne_eq_false_iff_eq.mpr c17
                                  clear c17
                                  simp only [Option.some.injEq, Prod.mk.injEq] at H
                                  obtain ⟨rfl, rfl⟩ := H
                                  go_enter Try.func54, Try.ntmps54
                                  go_wp2
                                  go_ret2
                                  exact ⟨by first | rfl | (simp; done) | (simp [*]; done), by repeat (first | exact Drawn0.refl _ | apply Drawn0.step)⟩
                                · rw [if_neg c17] at H
                                  have c17b0 : (a0.toList == ([79, 80, 95, 49, 52] : List UInt8)) = false := beq_eq_false_iff_ne.mpr c17
                                  have c17b1 : (a0.toList != ([79, 80, 95, 49, 52] : List UInt8)) = true := bne_iff_ne.mpr c17
                                  by_cases c18 : a0.toList = ([79, 80, 95, 49, 53] : List UInt8)
                                  · rw [if_pos c18] at H
                                    have c18b0 : (a0.toList == ([79, 80, 95, 49, 53] : List UInt8)) = true := beq_iff_eq.mpr c18
                                    have c18b1 : (a0.toList != ([79, 80, 95, 49, 53] : List UInt8)) = false := bne_eq_false_iff_eq.mpr c18
                                    clear c18
                                    simp only [Option.some.injEq, Prod.mk.injEq] at H
                                    obtain ⟨rfl, rfl⟩ := H
                                    go_enter Try.func54, Try.ntmps54
                                    go_wp2
                                    go_ret2
                                    exact ⟨by first | rfl | (simp; done) | (simp [*]; done), by repeat (first | exact Drawn0.refl _ | apply Drawn0.step)⟩
                                  · rw [if_neg c18] at H
                                    have c18b0 : (a0.toList == ([79, 80, 95, 49, 53] : List UInt8)) = false := beq_eq_false_iff_ne.mpr c18
                                    have c18b1 : (a0.toList != ([79, 80, 95, 49, 53] : List UInt8)) = true := bne_iff_ne.mpr c18
                                    by_cases c19 : a0.toList = ([79, 80, 95, 49, 54] : List UInt8)
                                    · rw [if_pos c19] at H
                                      have c19b0 : (a0.toList == ([79, 80, 95, 49, 54] : List UInt8)) = true := beq_iff_eq.mpr c19
                                      have c19b1 : (a0.toList != ([79, 80, 95, 49, 54] : List UInt8)) = false := bne_eq_false_iff_eq.mpr c19
                                      clear c19
                                      simp only [Option.some.injEq, Prod.mk.injEq] at H
                                      obtain ⟨rfl, rfl⟩ := H
                                      go_enter Try.func54, Try.ntmps54
                                      go_wp2
                                      go_ret2
                                      exact ⟨by first | rfl | (simp; done) | (simp [*]; done), by repeat (first | exact Drawn0.refl _ | apply Drawn0.step)⟩
                                    · rw [if_neg c19] at H
                                      have c19b0 : (a0.toList == ([79, 80, 95, 49, 54] : List UInt8)) = false := beq_eq_false_iff_ne.mpr c19
                                      have c19b1 : (a0.toList != ([79, 80, 95, 49, 54] : List UInt8)) = true := bne_iff_ne.mpr c19
                                      simp only [Option.some.injEq, Prod.mk.injEq] at H
                                      obtain ⟨rfl, rfl⟩ := H
                                      go_enter Try.func54, Try.ntmps54
                                      go_wp2
                                      go_ret2
                                      exact ⟨by first | rfl | (simp; done) | (simp [*]; done), by repeat (first | exact Drawn0.refl _ | apply Drawn0.step)⟩

/-! ### hex_EncodedLen: function 66 -/
def hex_EncodedLen.f (a0 : Int) : Option (Int) := some (wrap64 (a0 * 2))
set_option maxHeartbeats 8000000 in
set_option maxRecDepth 100000 in
theorem hex_EncodedLen.calls (a0 : Int) (r : Int) (w : World) (h : hex_EncodedLen.f a0 = some r) :
    Calls Try.prog 66 #[.int .i64 a0] w fun e w' => e = .returned (.int .i64 r) ∧ Drawn0 w w' := by
  have H : (some (wrap64 (a0 * 2))) = some r := h
  clear h
  obtain rfl := Option.some.inj H
  go_enter Try.func66, Try.ntmps66
  go_wp2
  go_ret
  exact ⟨by first | rfl | (simp; done) | (simp [*]; done), by repeat (first | exact Drawn0.refl _ | apply Drawn0.step)⟩

/-! ### hex_Encode: function 67 -/
def hex_Encode.l0 : Nat → List Int → List Int → Int → List Int → Int → Int → Option (Int × List Int)
  | 0, _, _, _, _, _, _ => none
  | k + 1, x0, x1, x5, x8, x9, x10 => if x10 < x9 then (if 0 ≤ x10 then (if x10 < (x8.length : Int) then (if 0 ≤ ((rd x8 x10) / 16) then (if ((rd x8 x10) / 16) < 16 then (if 0 ≤ x5 then (if x5 < (x0.length : Int) then (if 0 ≤ (Go.bits .and .u8 (rd x8 x10) 15) then (if (Go.bits .and .u8 (rd x8 x10) 15) < 16 then (if 0 ≤ (wrap64 (x5 + 1)) then (if (wrap64 (x5 + 1)) < (x0.length : Int) then (hex_Encode.l0 k ((x0.set (x5 : Int).toNat (bt (⟨#[48, 49, 50, 51, 52, 53, 54, 55, 56, 57, 97, 98, 99, 100, 101, 102]⟩ : ByteArray) ((rd x8 x10) / 16))).set ((wrap64 (x5 + 1)) : Int).toNat (bt (⟨#[48, 49, 50, 51, 52, 53, 54, 55, 56, 57, 97, 98, 99, 100, 101, 102]⟩ : ByteArray) (Go.bits .and .u8 (rd x8 x10) 15))) x1 (wrap64 (x5 + 2)) x8 x9 (wrap64 (x10 + 1))) else (none)) else (none)) else (none)) else (none)) else (none)) else (none)) else (none)) else (none)) else (none)) else (none)) else (some (wrap64 ((x1.length : Int) * 2), x0))
def hex_Encode.f (k : Nat) (l0 : List Int) (l1 : List Int) : Option (Int × List Int) := hex_Encode.l0 k l0 l1 0 l1 (l1.length : Int) 0
theorem hex_Encode.mono_l : ∀ k, (∀ y0 y1 y2 y3 y4 y5, LeO (hex_Encode.l0 k y0 y1 y2 y3 y4 y5) (hex_Encode.l0 (k + 1) y0 y1 y2 y3 y4 y5))
  | 0 => fun _ _ _ _ _ _ r h => by simp [hex_Encode.l0] at h
  | k + 1 => by
    have ih0 := hex_Encode.mono_l k
    · intro y0 y1 y2 y3 y4 y5
      unfold hex_Encode.l0
      repeat' first
      | (with_reducible exact ih0 _ _ _ _ _ _)
      | (with_reducible exact LeO.refl _)
      | (with_reducible exact LeO.none _)
      | (with_reducible refine LeO.ite ?_ ?_)
      | (with_reducible refine LeO.bind ?_ (fun _ => ?_))
      | exact ih0 _ _ _ _ _ _
      | exact LeO.none _
      | refine LeO.ite ?_ ?_
      | refine LeO.bind ?_ (fun _ => ?_)
theorem hex_Encode.mono : ∀ a0 a1 k, LeO (hex_Encode.f k a0 a1) (hex_Encode.f (k + 1) a0 a1) := by
  intro a0 a1 k
  have ih0 := hex_Encode.mono_l k
  unfold hex_Encode.f
  repeat' first
      | (with_reducible exact ih0 _ _ _ _ _ _)
      | (with_reducible exact LeO.refl _)
      | (with_reducible exact LeO.none _)
      | (with_reducible refine LeO.ite ?_ ?_)
      | (with_reducible refine LeO.bind ?_ (fun _ => ?_))
      | exact ih0 _ _ _ _ _ _
      | exact LeO.none _
      | refine LeO.ite ?_ ?_
      | refine LeO.bind ?_ (fun _ => ?_)
set_option maxHeartbeats 8000000 in
set_option maxRecDepth 100000 in
theorem hex_Encode.calls (k : Nat) (P0_ : Nat → Prop) (u9000_ : Value) (l0 : List Int) (A1 : Option Addr) (c1 : Nat) (l1 : List Int) (r1 : Int) (r2 : List Int) (w0 w : World) (hB : Below w0.heap.size w0 w) (ho0 : Kd.R (Kd.int .u8) 5 w w0.heap.size P0_ u9000_ l0) (hr1 : ∀ W_, Kept w W_ (fun k_ => P0_ k_) → Kd.C (Kd.int .u8) W_ A1 l1.length l1) (hc1 : l1.length ≤ c1) (h : hex_Encode.f k l0 l1 = some (r1, r2)) :
    Calls Try.prog 67 #[u9000_, .slice A1 l1.length c1] w fun e w' => e = .returned (.int .i64 r1) ∧ Kd.R (Kd.int .u8) 5 w' w0.heap.size (fun k_ => (P0_ k_ ∨ w.heap.size ≤ k_)) u9000_ r2 ∧ Below w0.heap.size w0 w' ∧ Kept w w' (fun k_ => P0_ k_) := by
  have HO0 := Aside0.mk (show Kd.R (Kd.int .u8) 5 w w0.heap.size (fun k_ => (P0_ k_ ∨ w.heap.size ≤ k_)) u9000_ l0 from Kd.R_mono ho0 (fun k_ hk => (.inl hk)))
  have HR1 := Aside0.mk hr1
  have HC1 := Aside0.mk hc1
  clear hr1 hc1
  have HK := Aside0.mk (Kept.refl w (fun k_ => P0_ k_))
  have HW0 := Aside0.mk hB.size
  have HB := Aside0.mk hB
  clear hB
  have H : (hex_Encode.l0 k l0 l1 0 l1 (l1.length : Int) 0) = some (r1, r2) := h
  clear h
  have H' := Aside0.mk H
  clear H
  go_enter Try.func67, Try.ntmps67
  go_wp2
  go_loopg [5, 10] k (fun kq v5 v10 w' => ∃ (x0_1 : List Int) (x5_1 : Int) (x10_1 : Int), v5 = .int .i64 x5_1 ∧ v10 = .int .i64 x10_1 ∧ Aside0 (hex_Encode.l0 kq x0_1 l1 x5_1 l1 (l1.length : Int) x10_1 = some (r1, r2)) ∧ Aside0 (kq ≤ k) ∧ Aside0 (Kd.R (Kd.int .u8) 5 w' w0.heap.size (fun k_ => (P0_ k_ ∨ w.heap.size ≤ k_)) u9000_ x0_1) ∧ Aside0 (Kept w w' (fun k_ => P0_ k_)) ∧ Aside0 (Below w0.heap.size w0 w'))
  case atStart => exact ⟨(l0), (0), (0), (by first | rfl | (simp; done) | (simp [*]; done)), (by first | rfl | (simp; done) | (simp [*]; done)), H', ⟨Nat.le_refl _⟩, ⟨by (with_reducible repeat (first | apply Kd.R_alloc | apply Kd.R_drewN | apply Kd.R_drew)); exact HO0.out⟩, ⟨by repeat (first | (with_reducible first | exact HK.out | apply Kept.alloc | apply Kept.drewN | apply Kept.drew) | exact HK.out)⟩, ⟨by repeat (first | (with_reducible first | exact HB.out | apply below_alloc | apply pw_below_drewN | apply below_drew1) | exact HB.out)⟩⟩
  case round =>
    clear H'
    try clear c1
    try clear p2
    obtain ⟨x0_1, x5_1, x10_1, rfl, rfl, HA, HK1, HO_0, HK, HB⟩ := hrel
    cases gk with
    | zero => exact absurd HA.out (by simp [hex_Encode.l0])
    | succ k1 =>
      have H := HA.out
      clear HA
      simp only [hex_Encode.l0] at H
      by_cases c3 : x10_1 < (l1.length : Int)
      · rw [if_pos c3] at H
        have c3b0 : decide (x10_1 < (l1.length : Int)) = true := decide_eq_true c3
        clear c3
        by_cases c4 : 0 ≤ x10_1
        · rw [if_pos c4] at H
          have c4b0 : decide (0 ≤ x10_1) = true := decide_eq_true c4
          clear c4
          by_cases c5 : x10_1 < (l1.length : Int)
          · rw [if_pos c5] at H
            have c5b0 : decide (x10_1 < (l1.length : Int)) = true := decide_eq_true c5
            clear c5
            obtain ⟨ji6, hji6⟩ : ∃ j_ : Int, ((rd l1 x10_1) / 16) = j_ := ⟨_, rfl⟩
            replace H : (if 0 ≤ (ji6) then (if (ji6) < 16 then (if 0 ≤ x5_1 then (if x5_1 < (x0_1.length : Int) then (if 0 ≤ (Go.bits .and .u8 (rd l1 x10_1) 15) then (if (Go.bits .and .u8 (rd l1 x10_1) 15) < 16 then (if 0 ≤ (wrap64 (x5_1 + 1)) then (if (wrap64 (x5_1 + 1)) < (x0_1.length : Int) then (hex_Encode.l0 k1 ((x0_1.set (x5_1 : Int).toNat (bt (⟨#[48, 49, 50, 51, 52, 53, 54, 55, 56, 57, 97, 98, 99, 100, 101, 102]⟩ : ByteArray) (ji6))).set ((wrap64 (x5_1 + 1)) : Int).toNat (bt (⟨#[48, 49, 50, 51, 52, 53, 54, 55, 56, 57, 97, 98, 99, 100, 101, 102]⟩ : ByteArray) (Go.bits .and .u8 (rd l1 x10_1) 15))) l1 (wrap64 (x5_1 + 2)) l1 (l1.length : Int) (wrap64 (x10_1 + 1))) else (none)) else (none)) else (none)) else (none)) else (none)) else (none)) else (none)) else (none)) = some (r1, r2) := by first | (rw [hji6] at H; exact H) | (simp only [hji6] at H ⊢; exact H)
            by_cases c7 : 0 ≤ (ji6)
            · rw [if_pos c7] at H
              have c7b0 : decide (0 ≤ (ji6)) = true := decide_eq_true c7
              clear c7
              by_cases c8 : (ji6) < 16
              · rw [if_pos c8] at H
                have c8b0 : decide ((ji6) < 16) = true := decide_eq_true c8
                clear c8
                by_cases c10 : 0 ≤ x5_1
                · rw [if_pos c10] at H
                  have c10b0 : decide (0 ≤ x5_1) = true := decide_eq_true c10
                  clear c10
                  by_cases c11 : x5_1 < (x0_1.length : Int)
                  · rw [if_pos c11] at H
                    have c11b0 : decide (x5_1 < (x0_1.length : Int)) = true := decide_eq_true c11
                    clear c11
                    obtain ⟨y140, hy140⟩ : ∃ y_ : List Int, y_ = (x0_1.set (x5_1 : Int).toNat (bt (⟨#[48, 49, 50, 51, 52, 53, 54, 55, 56, 57, 97, 98, 99, 100, 101, 102]⟩ : ByteArray) (ji6))) := ⟨_, rfl⟩
                    replace H : (if 0 ≤ (Go.bits .and .u8 (rd l1 x10_1) 15) then (if (Go.bits .and .u8 (rd l1 x10_1) 15) < 16 then (if 0 ≤ (wrap64 (x5_1 + 1)) then (if (wrap64 (x5_1 + 1)) < (x0_1.length : Int) then (hex_Encode.l0 k1 (y140.set ((wrap64 (x5_1 + 1)) : Int).toNat (bt (⟨#[48, 49, 50, 51, 52, 53, 54, 55, 56, 57, 97, 98, 99, 100, 101, 102]⟩ : ByteArray) (Go.bits .and .u8 (rd l1 x10_1) 15))) l1 (wrap64 (x5_1 + 2)) l1 (l1.length : Int) (wrap64 (x10_1 + 1))) else (none)) else (none)) else (none)) else (none)) = some (r1, r2) := by first | (rw [hy140]; with_reducible exact H) | (have H2_ := (Option.bind_some _ _).symm.trans H; rw [hy140]; with_reducible exact H2_) | (have H2_ := (Option.bind_some _ _).symm.trans H; with_reducible exact H2_) | with_reducible exact H | (rw [hy140]; exact H) | exact H
                    have Ny140 := Aside0.mk hy140
                    clear hy140
                    by_cases c13 : 0 ≤ (Go.bits .and .u8 (rd l1 x10_1) 15)
                    · rw [if_pos c13] at H
                      have c13b0 : decide (0 ≤ (Go.bits .and .u8 (rd l1 x10_1) 15)) = true := decide_eq_true c13
                      clear c13
                      by_cases c14 : (Go.bits .and .u8 (rd l1 x10_1) 15) < 16
                      · rw [if_pos c14] at H
                        have c14b0 : decide ((Go.bits .and .u8 (rd l1 x10_1) 15) < 16) = true := decide_eq_true c14
                        clear c14
                        obtain ⟨ji16, hji16⟩ : ∃ j_ : Int, (wrap64 (x5_1 + 1)) = j_ := ⟨_, rfl⟩
                        replace H : (if 0 ≤ (ji16) then (if (ji16) < (x0_1.length : Int) then (hex_Encode.l0 k1 (y140.set ((ji16) : Int).toNat (bt (⟨#[48, 49, 50, 51, 52, 53, 54, 55, 56, 57, 97, 98, 99, 100, 101, 102]⟩ : ByteArray) (Go.bits .and .u8 (rd l1 x10_1) 15))) l1 (wrap64 (x5_1 + 2)) l1 (l1.length : Int) (wrap64 (x10_1 + 1))) else (none)) else (none)) = some (r1, r2) := by first | (rw [hji16] at H; exact H) | (simp only [hji16] at H ⊢; exact H)
                        have hji16w : (IntKind.i64.wrap (x5_1 + 1)) = ji16 := (i64_w _).trans hji16
                        by_cases c17 : 0 ≤ (ji16)
                        · rw [if_pos c17] at H
                          have c17b0 : decide (0 ≤ (ji16)) = true := decide_eq_true c17
                          clear c17
                          by_cases c18 : (ji16) < (x0_1.length : Int)
                          · rw [if_pos c18] at H
                            have c18b0 : decide ((ji16) < (x0_1.length : Int)) = true := decide_eq_true c18
                            clear c18
                            obtain ⟨y141, hy141⟩ : ∃ y_ : List Int, y_ = (y140.set ((ji16) : Int).toNat (bt (⟨#[48, 49, 50, 51, 52, 53, 54, 55, 56, 57, 97, 98, 99, 100, 101, 102]⟩ : ByteArray) (Go.bits .and .u8 (rd l1 x10_1) 15))) := ⟨_, rfl⟩
                            replace H : (hex_Encode.l0 k1 y141 l1 (wrap64 (x5_1 + 2)) l1 (l1.length : Int) (wrap64 (x10_1 + 1))) = some (r1, r2) := by first | (rw [hy141]; with_reducible exact H) | (have H2_ := (Option.bind_some _ _).symm.trans H; rw [hy141]; with_reducible exact H2_) | (have H2_ := (Option.bind_some _ _).symm.trans H; with_reducible exact H2_) | with_reducible exact H | (rw [hy141]; exact H) | exact H
                            have Ny141 := Aside0.mk hy141
                            clear hy141
                            have H' := Aside0.mk H
                            clear H
                            have p139 : 0 ≤ (x10_1 : Int) := of_decide_eq_true (by first | (with_reducible assumption) | assumption)
                            have q139 : x10_1 < (l1.length : Int) := of_decide_eq_true (by first | (with_reducible assumption) | assumption)
                            obtain ⟨ad139, e139, hx139_0⟩ := Kd.at_int (Kd.C_kept_now HR1.out HK.out) x10_1 p139 q139
                            cases e139
                            replace p139 := eq_true p139
                            replace q139 := eq_true q139
                            have p9 : 0 ≤ ((ji6) : Int) := of_decide_eq_true (by first | (with_reducible assumption) | assumption)
                            have q9 : (ji6) < (16 : Int) := of_decide_eq_true (by first | (with_reducible assumption) | assumption)
                            have hx9 := bt_at (⟨#[48, 49, 50, 51, 52, 53, 54, 55, 56, 57, 97, 98, 99, 100, 101, 102]⟩ : ByteArray) (ji6)
                            replace p9 := eq_true p9
                            replace q9 := eq_true q9
                            have p12 : 0 ≤ (x5_1 : Int) := of_decide_eq_true (by first | (with_reducible assumption) | assumption)
                            have q12 : (x5_1 : Int) < ((x0_1.length : Int) : Int) := of_decide_eq_true (by first | (with_reducible assumption) | assumption)
                            obtain ⟨go12, co12, eo12, gb12, gl12, cl12, HG12⟩ := Kd.R_form HO_0.out (by omega)
                            (first | cases eo12 | (injection eo12 with ea_ en_ ec_; (first | subst ea_ | (injection ea_ with ea_; subst ea_)); subst ec_; clear en_))
                            have GB12 := Aside0.mk gb12
                            have GG12 := Aside0.mk HG12
                            clear gb12 gl12 HG12
                            have HMgo12 := Aside0.mk (show (P0_ go12 ∨ w.heap.size ≤ go12) from (HO_0.out.1 _ rfl))
                            obtain ⟨hx12_0, hf12_0⟩ := Kd.R_celln 0 HO_0.out (x5_1 : Int) p12 q12
                            replace p12 := eq_true p12
                            replace q12 := eq_true q12
                            have HP20 := Kd.R_putg HO_0.out (x5_1 : Int) (bt (⟨#[48, 49, 50, 51, 52, 53, 54, 55, 56, 57, 97, 98, 99, 100, 101, 102]⟩ : ByteArray) (ji6))
                            go_wp2_with (first | ((with_reducible refine gate_store (t := 5) (p := 19) rfl ?_); refine store_event (t := 5) (p := 19) (v := ?vo_w21) (w1 := (wr.setCell ⟨go12, (x5_1 : Int).toNat, none⟩ (.int .u8 (bt (⟨#[48, 49, 50, 51, 52, 53, 54, 55, 56, 57, 97, 98, 99, 100, 101, 102]⟩ : ByteArray) (ji6))))) ?hg ?ho ?hn ?hr ?_; (case ho => rfl); (case hg => rfl); (case hn => rfl); (case hr => first | (go_simp; done) | (go_simp; rfl)); intro w21 hw; have hg : wr.grownBy w21 (some go12) := (by rw [hw]; exact HP20.2); have hp_ : Kd.R (Kd.int .u8) 5 w21 w0.heap.size (fun k_ => (P0_ k_ ∨ w.heap.size ≤ k_)) (.slice (some ⟨go12, 0, none⟩) x0_1.length co12) y140 := (by rw [hw, Ny140.out]; exact HP20.1); clear HP20; have n0_ := Aside0.mk (hp_); have n1_ := Aside0.mk ((by rw [hw]; exact below_set (HB.out) GB12.out : Below w0.heap.size w0 w21)); have n2_ := Aside0.mk (Kept.of_grown (S := (fun k_ => P0_ k_)) hg (by repeat (first | (with_reducible first | exact HK.out | apply Kept.alloc | apply Kept.drewN | apply Kept.drew) | exact HK.out)) (fun k_ e_ => (HO_0.out.1 k_ e_))); clear HO_0; clear HB; clear HK; have HO_0 := n0_; have HB := n1_; have HK := n2_; clear n0_ n1_ n2_; clear hg hw hp_; have p15 : 0 ≤ ((Go.bits .and .u8 (rd l1 x10_1) 15) : Int) := of_decide_eq_true (by first | (with_reducible assumption) | assumption); have q15 : (Go.bits .and .u8 (rd l1 x10_1) 15) < (16 : Int) := of_decide_eq_true (by first | (with_reducible assumption) | assumption); have hx15 := bt_at (⟨#[48, 49, 50, 51, 52, 53, 54, 55, 56, 57, 97, 98, 99, 100, 101, 102]⟩ : ByteArray) (Go.bits .and .u8 (rd l1 x10_1) 15); replace p15 := eq_true p15; replace q15 := eq_true q15; have p19 : 0 ≤ ((ji16) : Int) := of_decide_eq_true (by first | (with_reducible assumption) | assumption); have q19 : ((ji16) : Int) < ((x0_1.length : Int) : Int) := of_decide_eq_true (by first | (with_reducible assumption) | assumption); obtain ⟨hx19_0, hf19_0⟩ := Kd.R_celln 0 HO_0.out ((ji16) : Int) p19 q19; replace p19 := eq_true p19; replace q19 := eq_true q19; obtain ⟨hy22_, hz22_⟩ := Kd.R_celln 0 HO_0.out ((ji16) : Int) (of_decide_eq_true (by first | (with_reducible assumption) | assumption)) (of_decide_eq_true (by first | (with_reducible assumption) | assumption)); have HP22 := Kd.R_putg HO_0.out ((ji16) : Int) (bt (⟨#[48, 49, 50, 51, 52, 53, 54, 55, 56, 57, 97, 98, 99, 100, 101, 102]⟩ : ByteArray) (Go.bits .and .u8 (rd l1 x10_1) 15))) | ((with_reducible refine gate_store (t := 5) (p := 26) rfl ?_); refine store_event (t := 5) (p := 26) (v := ?vo_w23) (w1 := (w21.setCell ⟨go12, ((ji16) : Int).toNat, none⟩ (.int .u8 (bt (⟨#[48, 49, 50, 51, 52, 53, 54, 55, 56, 57, 97, 98, 99, 100, 101, 102]⟩ : ByteArray) (Go.bits .and .u8 (rd l1 x10_1) 15))))) ?hg ?ho ?hn ?hr ?_; (case ho => rfl); (case hg => rfl); (case hn => rfl); (case hr => first | (go_simp; done) | (go_simp; rfl)); intro w23 hw; have hg : w21.grownBy w23 (some go12) := (by rw [hw]; exact HP22.2); have hp_ : Kd.R (Kd.int .u8) 5 w23 w0.heap.size (fun k_ => (P0_ k_ ∨ w.heap.size ≤ k_)) (.slice (some ⟨go12, 0, none⟩) x0_1.length co12) y141 := (by rw [hw, Ny141.out]; exact HP22.1); clear HP22; have n0_ := Aside0.mk (hp_); have n1_ := Aside0.mk ((by rw [hw]; exact below_set (HB.out) GB12.out : Below w0.heap.size w0 w23)); have n2_ := Aside0.mk (Kept.of_grown (S := (fun k_ => P0_ k_)) hg (by repeat (first | (with_reducible first | exact HK.out | apply Kept.alloc | apply Kept.drewN | apply Kept.drew) | exact HK.out)) (fun k_ e_ => (HO_0.out.1 k_ e_))); clear HO_0; clear HB; clear HK; have HO_0 := n0_; have HB := n1_; have HK := n2_; clear n0_ n1_ n2_; clear hg hw hp_))
                            go_roundg k1
                            case measure => have := HK1.out; omega
                            case rel => exact ⟨(y141), (wrap64 (x5_1 + 2)), (wrap64 (x10_1 + 1)), (by first | rfl | (simp; done) | (simp [*]; done)), (by first | rfl | (simp; done) | (simp [*]; done)), H', ⟨by have := HK1.out; omega⟩, ⟨by (with_reducible repeat (first | apply Kd.R_alloc | apply Kd.R_drewN | apply Kd.R_drew)); exact HO_0.out⟩, ⟨by repeat (first | (with_reducible first | exact HK.out | apply Kept.alloc | apply Kept.drewN | apply Kept.drew) | exact HK.out)⟩, ⟨by repeat (first | (with_reducible first | exact HB.out | apply below_alloc | apply pw_below_drewN | apply below_drew1) | exact HB.out)⟩⟩
                          · rw [if_neg c18] at H
                            exact absurd H (by simp)
                        · rw [if_neg c17] at H
                          exact absurd H (by simp)
                      · rw [if_neg c14] at H
                        exact absurd H (by simp)
                    · rw [if_neg c13] at H
                      exact absurd H (by simp)
                  · rw [if_neg c11] at H
                    exact absurd H (by simp)
                · rw [if_neg c10] at H
                  exact absurd H (by simp)
              · rw [if_neg c8] at H
                exact absurd H (by simp)
            · rw [if_neg c7] at H
              exact absurd H (by simp)
          · rw [if_neg c5] at H
            exact absurd H (by simp)
        · rw [if_neg c4] at H
          exact absurd H (by simp)
      · rw [if_neg c3] at H
        have c3b0 : decide (x10_1 < (l1.length : Int)) = false := decide_eq_false c3
        clear c3
        simp only [Option.some.injEq, Prod.mk.injEq] at H
        obtain ⟨rfl, rfl⟩ := H
        go_wp2
        go_ret
        exact ⟨by first | rfl | (simp [errW_none, errW_some] <;> rfl) | (simp [*, errW_none, errW_some] <;> rfl), by (with_reducible repeat (first | apply Kd.R_alloc | apply Kd.R_drewN | apply Kd.R_drew)); exact HO_0.out, by repeat (first | (with_reducible first | exact HB.out | apply below_alloc | apply pw_below_drewN | apply below_drew1) | exact HB.out), by repeat (first | (with_reducible first | exact HK.out | apply Kept.alloc | apply Kept.drewN | apply Kept.drew) | exact HK.out)⟩

end Go.Proofs.Ytafpmdmmeohmfaa.PFnDisasmRead
