-- PRINTED BY print.sh 35421559b90ae4d0a3588c463048766b98c2df88dd9212a6774a882060cdf62d: not written by this session
import Derived.Test.YtabdmbnggkageaaPFnBuildx0
namespace Go.Proofs.Ytabdmbnggkageaa.PFnBuild
open Go.RowKit Go.Proofs.YtabdmbnggkageaaW.PrintWords Go.Proofs.YtabdmbnggkageaaW.PrintLast Go.Proofs.YtabdmbnggkageaaW.PrintMore
attribute [local go_sem] max2_int min2_int max_two min_two max_three min_three max_four min_four   -- for this text's walks alone
set_option linter.unusedVariables false
set_option linter.unusedSimpArgs false

/-! ### btcdtxscript_canonicalDataSize: function 57 -/
mutual
def btcdtxscript_canonicalDataSize.j1 : Nat → Int → Option (Int)
  | 0, _ => none
  | k + 1, x3 => if x3 < 76 then (some (wrap64 (1 + x3))) else (if x3 ≤ 255 then (some (wrap64 (2 + x3))) else (if x3 ≤ 65535 then (some (wrap64 (3 + x3))) else (some (wrap64 (5 + x3)))))
def btcdtxscript_canonicalDataSize.j0 : Nat → List Int → Int → Bool → Option (Int)
  | 0, _, _, _ => none
  | k + 1, x0, x3, x15 => if x15 = true then (some 1) else (if x3 = 1 then (if 0 < (x0.length : Int) then (if (rd x0 0) = 129 then (some 1) else (btcdtxscript_canonicalDataSize.j1 k x3)) else (none)) else (btcdtxscript_canonicalDataSize.j1 k x3))
end
def btcdtxscript_canonicalDataSize.f (k : Nat) (l0 : List Int) : Option (Int) := if (l0.length : Int) = 0 then (some 1) else (if (l0.length : Int) = 1 then (if 0 < (l0.length : Int) then (btcdtxscript_canonicalDataSize.j0 k l0 (l0.length : Int) (decide ((rd l0 0) ≤ 16))) else (none)) else (btcdtxscript_canonicalDataSize.j0 k l0 (l0.length : Int) false))
theorem btcdtxscript_canonicalDataSize.mono_l : ∀ k, (∀ y0, LeO (btcdtxscript_canonicalDataSize.j1 k y0) (btcdtxscript_canonicalDataSize.j1 (k + 1) y0)) ∧ (∀ y0 y1 y2, LeO (btcdtxscript_canonicalDataSize.j0 k y0 y1 y2) (btcdtxscript_canonicalDataSize.j0 (k + 1) y0 y1 y2))
  | 0 => ⟨fun _ r h => by simp [btcdtxscript_canonicalDataSize.j1] at h, fun _ _ _ r h => by simp [btcdtxscript_canonicalDataSize.j0] at h⟩
  | k + 1 => by
    obtain ⟨ih0, ih1⟩ := btcdtxscript_canonicalDataSize.mono_l k
    refine ⟨?_, ?_⟩
    · intro y0
      unfold btcdtxscript_canonicalDataSize.j1
      repeat' first
      | (with_reducible exact ih0 _)
      | (with_reducible exact ih1 _ _ _)
      | (with_reducible exact LeO.refl _)
      | (with_reducible exact LeO.none _)
      | (with_reducible refine LeO.ite ?_ ?_)
      | (with_reducible refine LeO.bind ?_ (fun _ => ?_))
      | exact ih0 _
      | exact ih1 _ _ _
      | exact LeO.none _
      | refine LeO.ite ?_ ?_
      | refine LeO.bind ?_ (fun _ => ?_)
    · intro y0 y1 y2
      unfold btcdtxscript_canonicalDataSize.j0
      repeat' first
      | (with_reducible exact ih0 _)
      | (with_reducible exact ih1 _ _ _)
      | (with_reducible exact LeO.refl _)
      | (with_reducible exact LeO.none _)
      | (with_reducible refine LeO.ite ?_ ?_)
      | (with_reducible refine LeO.bind ?_ (fun _ => ?_))
      | exact ih0 _
      | exact ih1 _ _ _
      | exact LeO.none _
      | refine LeO.ite ?_ ?_
      | refine LeO.bind ?_ (fun _ => ?_)
theorem btcdtxscript_canonicalDataSize.mono : ∀ a0 k, LeO (btcdtxscript_canonicalDataSize.f k a0) (btcdtxscript_canonicalDataSize.f (k + 1) a0) := by
  intro a0 k
  obtain ⟨ih0, ih1⟩ := btcdtxscript_canonicalDataSize.mono_l k
  unfold btcdtxscript_canonicalDataSize.f
  repeat' first
      | (with_reducible exact ih0 _)
      | (with_reducible exact ih1 _ _ _)
      | (with_reducible exact LeO.refl _)
      | (with_reducible exact LeO.none _)
      | (with_reducible refine LeO.ite ?_ ?_)
      | (with_reducible refine LeO.bind ?_ (fun _ => ?_))
      | exact ih0 _
      | exact ih1 _ _ _
      | exact LeO.none _
      | refine LeO.ite ?_ ?_
      | refine LeO.bind ?_ (fun _ => ?_)
set_option maxHeartbeats 8000000 in
set_option maxRecDepth 100000 in
theorem btcdtxscript_canonicalDataSize.calls (k : Nat) (A0 : Option Addr) (c0 : Nat) (l0 : List Int) (r : Int) (w : World) (hr0 : Kd.C (Kd.int .u8) w A0 l0.length l0) (hc0 : l0.length ≤ c0) (h : btcdtxscript_canonicalDataSize.f k l0 = some r) :
    Calls Try.prog 57 #[.slice A0 l0.length c0] w fun e w' => e = .returned (.int .i64 r) ∧ Drawn0 w w' := by
  have HR0 := Aside0.mk hr0
  have HC0 := Aside0.mk hc0
  clear hr0 hc0
  have H : (if (l0.length : Int) = 0 then (some 1) else (if (l0.length : Int) = 1 then (if 0 < (l0.length : Int) then (btcdtxscript_canonicalDataSize.j0 k l0 (l0.length : Int) (decide ((rd l0 0) ≤ 16))) else (none)) else (btcdtxscript_canonicalDataSize.j0 k l0 (l0.length : Int) false))) = some r := h
  clear h
  have HC2 := Aside0.mk H
  clear H
  go_enter Try.func57, Try.ntmps57
  go_upto_if 7 with (fail)
  go_cut [] (fun wc => ∃ (kq : Nat), Aside0 (btcdtxscript_canonicalDataSize.j1 kq (l0.length : Int) = some r) ∧ Aside0 (kq ≤ k) ∧ Drawn0 w wc)
  case first =>
    have H := HC2.out
    clear HC2
    by_cases c3 : (l0.length : Int) = 0
    · rw [if_pos c3] at H
      have c3b0 : ((l0.length : Int) == 0) = true := beq_iff_eq.mpr c3
      have c3b1 : ((l0.length : Int) != 0) = false := bne_eq_false_iff_eq.mpr c3
      clear c3
      (first | rw [c3b0] | (simp only [i64_w, i32_w]; rw [c3b0]) | skip)
      obtain rfl := Option.some.inj H
      go_wp2
      go_ret
      exact ⟨by first | rfl | (simp; done) | (simp [*]; done), by repeat (first | exact Drawn0.refl _ | apply Drawn0.step)⟩
    · rw [if_neg c3] at H
      have c3b0 : ((l0.length : Int) == 0) = false := beq_eq_false_iff_ne.mpr c3
      have c3b1 : ((l0.length : Int) != 0) = true := bne_iff_ne.mpr c3
      have c3b2 : ¬ (l0 = []) := fun h_ => c3 (by rw [h_]; rfl)
      (first | rw [c3b0] | (simp only [i64_w, i32_w]; rw [c3b0]) | skip)
      have HC4 := Aside0.mk H
      clear H
      go_upto_region 4 with (fail)
      go_cut [15] (fun v15 wc => ∃ (kq : Nat) (x15_3 : Bool), v15 = .bool x15_3 ∧ Aside0 (btcdtxscript_canonicalDataSize.j0 kq l0 (l0.length : Int) x15_3 = some r) ∧ Aside0 (kq ≤ k) ∧ Drawn0 w wc)
      case first =>
        have H := HC4.out
        clear HC4
        by_cases c5 : (l0.length : Int) = 1
        · rw [if_pos c5] at H
          have c5b0 : ((l0.length : Int) == 1) = true := beq_iff_eq.mpr c5
          have c5b1 : ((l0.length : Int) != 1) = false := bne_eq_false_iff_eq.mpr c5
          clear c5
          (first | rw [c5b0] | (simp only [i64_w, i32_w]; rw [c5b0]) | skip)
          by_cases c6 : 0 < (l0.length : Int)
          · rw [if_pos c6] at H
            have c6b0 : decide (0 < (l0.length : Int)) = true := decide_eq_true c6
            have c6b1 : decide (0 < l0.length) = true := decide_eq_true (by omega)
            clear c6
            have H' := Aside0.mk H
            clear H
            have p143 : 0 ≤ (0 : Int) := (by omega)
            have q143 : 0 < (l0.length : Int) := of_decide_eq_true (by first | (with_reducible assumption) | assumption)
            obtain ⟨ad143, e143, hx143_0⟩ := Kd.at_int HR0.out 0 p143 q143
            cases e143
            have qi143 : (0 < l0.length) = True := eq_true (by omega)
            (try rw [show ((0 : Int)).toNat = 0 from rfl] at hx143_0)
            (try rw [Addr.add_zero'] at hx143_0)
            replace p143 := eq_true p143
            replace q143 := eq_true q143
            go_wp2
            go_meet
            case rel => exact ⟨_, (decide ((rd l0 0) ≤ 16)), (by first | rfl | (simp; done) | (simp [*]; done)), H', ⟨by first | omega | exact Nat.le_refl _⟩, by repeat (first | exact Drawn0.refl _ | apply Drawn0.step)⟩
          · rw [if_neg c6] at H
            exact absurd H (by simp)
        · rw [if_neg c5] at H
          have c5b0 : ((l0.length : Int) == 1) = false := beq_eq_false_iff_ne.mpr c5
          have c5b1 : ((l0.length : Int) != 1) = true := bne_iff_ne.mpr c5
          (first | rw [c5b0] | (simp only [i64_w, i32_w]; rw [c5b0]) | skip)
          have H' := Aside0.mk H
          clear H
          go_wp2
          go_meet
          case rel => exact ⟨_, (false), (by first | rfl | (simp; done) | (simp [*]; done)), H', ⟨by first | omega | exact Nat.le_refl _⟩, by repeat (first | exact Drawn0.refl _ | apply Drawn0.step)⟩
      case rest =>
        clear HC4
        try clear p1
        try clear q1
        try clear hx1
        try clear qi1
        try clear p2
        try clear c3
        try clear c3b0
        try clear c3b1
        try clear c3b2
        try clear c5
        try clear c5b0
        try clear c5b1
        try clear c6
        try clear c6b0
        try clear c6b1
        try clear hx143_0
        try clear p143
        try clear q143
        obtain ⟨kq, x15_3, rfl, HA, HJ3, ⟨mc3, rfl⟩⟩ := hcut
        cases kq with
        | zero => exact absurd HA.out (by simp [btcdtxscript_canonicalDataSize.j0])
        | succ kj3 =>
          have H := HA.out
          clear HA
          simp only [btcdtxscript_canonicalDataSize.j0] at H
          by_cases c7 : x15_3 = true
          · subst c7
            have H1 : (some 1) = some r := by rw [if_pos rfl] at H; exact H
            clear H
            have H := H1
            clear H1
            obtain rfl := Option.some.inj H
            go_wp2
            go_ret
            exact ⟨by first | rfl | (simp; done) | (simp [*]; done), by repeat (first | exact Drawn0.refl _ | apply Drawn0.step)⟩
          · replace c7 := Bool.eq_false_iff.mpr c7
            subst c7
            have H1 : (if (l0.length : Int) = 1 then (if 0 < (l0.length : Int) then (if (rd l0 0) = 129 then (some 1) else (btcdtxscript_canonicalDataSize.j1 kj3 (l0.length : Int))) else (none)) else (btcdtxscript_canonicalDataSize.j1 kj3 (l0.length : Int))) = some r := by rw [if_neg (show ¬ (false = true) by decide)] at H; exact H
            clear H
            have H := H1
            clear H1
            by_cases c8 : (l0.length : Int) = 1
            · rw [if_pos c8] at H
              have c8b0 : ((l0.length : Int) == 1) = true := beq_iff_eq.mpr c8
              have c8b1 : ((l0.length : Int) != 1) = false := bne_eq_false_iff_eq.mpr c8
              clear c8
              by_cases c9 : 0 < (l0.length : Int)
              · rw [if_pos c9] at H
                have c9b0 : decide (0 < (l0.length : Int)) = true := decide_eq_true c9
                have c9b1 : decide (0 < l0.length) = true := decide_eq_true (by omega)
                clear c9
                by_cases c10 : (rd l0 0) = 129
                · rw [if_pos c10] at H
                  have c10b0 : ((rd l0 0) == 129) = true := beq_iff_eq.mpr c10
                  have c10b1 : ((rd l0 0) != 129) = false := bne_eq_false_iff_eq.mpr c10
                  clear c10
                  obtain rfl := Option.some.inj H
                  have p144 : 0 ≤ (0 : Int) := (by omega)
                  have q144 : 0 < (l0.length : Int) := of_decide_eq_true (by first | (with_reducible assumption) | assumption)
                  obtain ⟨ad144, e144, hx144_0⟩ := Kd.at_int HR0.out 0 p144 q144
                  cases e144
                  have qi144 : (0 < l0.length) = True := eq_true (by omega)
                  (try rw [show ((0 : Int)).toNat = 0 from rfl] at hx144_0)
                  (try rw [Addr.add_zero'] at hx144_0)
                  replace p144 := eq_true p144
                  replace q144 := eq_true q144
                  go_wp2
                  go_ret
                  exact ⟨by first | rfl | (simp; done) | (simp [*]; done), by repeat (first | exact Drawn0.refl _ | apply Drawn0.step)⟩
                · rw [if_neg c10] at H
                  have c10b0 : ((rd l0 0) == 129) = false := beq_eq_false_iff_ne.mpr c10
                  have c10b1 : ((rd l0 0) != 129) = true := bne_iff_ne.mpr c10
                  have H' := Aside0.mk H
                  clear H
                  have p144 : 0 ≤ (0 : Int) := (by omega)
                  have q144 : 0 < (l0.length : Int) := of_decide_eq_true (by first | (with_reducible assumption) | assumption)
                  obtain ⟨ad144, e144, hx144_0⟩ := Kd.at_int HR0.out 0 p144 q144
                  cases e144
                  have qi144 : (0 < l0.length) = True := eq_true (by omega)
                  (try rw [show ((0 : Int)).toNat = 0 from rfl] at hx144_0)
                  (try rw [Addr.add_zero'] at hx144_0)
                  replace p144 := eq_true p144
                  replace q144 := eq_true q144
                  go_wp2
                  go_meet
                  case rel => exact ⟨_, H', ⟨by have := HJ3.out; first | omega | exact Nat.le_refl _⟩, by repeat (first | exact Drawn0.refl _ | apply Drawn0.step)⟩
              · rw [if_neg c9] at H
                exact absurd H (by simp)
            · rw [if_neg c8] at H
              have c8b0 : ((l0.length : Int) == 1) = false := beq_eq_false_iff_ne.mpr c8
              have c8b1 : ((l0.length : Int) != 1) = true := bne_iff_ne.mpr c8
              have H' := Aside0.mk H
              clear H
              go_wp2
              go_meet
              case rel => exact ⟨_, H', ⟨by have := HJ3.out; first | omega | exact Nat.le_refl _⟩, by repeat (first | exact Drawn0.refl _ | apply Drawn0.step)⟩
  case rest =>
    clear HC2
    try clear c1
    try clear p1
    try clear q1
    try clear hx1
    try clear qi1
    try clear p2
    try clear c3
    try clear c3b0
    try clear c3b1
    try clear c3b2
    try clear c5
    try clear c5b0
    try clear c5b1
    try clear c6
    try clear c6b0
    try clear c6b1
    try clear c7
    try clear c8
    try clear c8b0
    try clear c8b1
    try clear c9
    try clear c9b0
    try clear c9b1
    try clear c10
    try clear c10b0
    try clear c10b1
    try clear hx143_0
    try clear hx144_0
    try clear p1
    try clear p143
    try clear p144
    try clear p2
    try clear q1
    try clear q143
    try clear q144
    obtain ⟨kq, HA, HJ1, ⟨mc1, rfl⟩⟩ := hcut
    cases kq with
    | zero => exact absurd HA.out (by simp [btcdtxscript_canonicalDataSize.j1])
    | succ kj1 =>
      have H := HA.out
      clear HA
      simp only [btcdtxscript_canonicalDataSize.j1] at H
      by_cases c11 : (l0.length : Int) < 76
      · rw [if_pos c11] at H
        have c11b0 : decide ((l0.length : Int) < 76) = true := decide_eq_true c11
        have c11b1 : decide (l0.length < 76) = true := decide_eq_true (by omega)
        clear c11
        obtain rfl := Option.some.inj H
        go_wp2
        go_ret
        exact ⟨by first | rfl | (simp; done) | (simp [*]; done), by repeat (first | exact Drawn0.refl _ | apply Drawn0.step)⟩
      · rw [if_neg c11] at H
        have c11b0 : decide ((l0.length : Int) < 76) = false := decide_eq_false c11
        have c11b1 : decide (l0.length < 76) = false := decide_eq_false (by omega)
        clear c11
        by_cases c12 : (l0.length : Int) ≤ 255
        · rw [if_pos c12] at H
          have c12b0 : decide ((l0.length : Int) ≤ 255) = true := decide_eq_true c12
          have c12b1 : decide (l0.length ≤ 255) = true := decide_eq_true (by omega)
          clear c12
          obtain rfl := Option.some.inj H
          go_wp2
          go_ret
          exact ⟨by first | rfl | (simp; done) | (simp [*]; done), by repeat (first | exact Drawn0.refl _ | apply Drawn0.step)⟩
        · rw [if_neg c12] at H
          have c12b0 : decide ((l0.length : Int) ≤ 255) = false := decide_eq_false c12
          have c12b1 : decide (l0.length ≤ 255) = false := decide_eq_false (by omega)
          clear c12
          by_cases c13 : (l0.length : Int) ≤ 65535
          · rw [if_pos c13] at H
            have c13b0 : decide ((l0.length : Int) ≤ 65535) = true := decide_eq_true c13
            have c13b1 : decide (l0.length ≤ 65535) = true := decide_eq_true (by omega)
            clear c13
            obtain rfl := Option.some.inj H
            go_wp2
            go_ret
            exact ⟨by first | rfl | (simp; done) | (simp [*]; done), by repeat (first | exact Drawn0.refl _ | apply Drawn0.step)⟩
          · rw [if_neg c13] at H
            have c13b0 : decide ((l0.length : Int) ≤ 65535) = false := decide_eq_false c13
            have c13b1 : decide (l0.length ≤ 65535) = false := decide_eq_false (by omega)
            clear c13
            obtain rfl := Option.some.inj H
            go_wp2
            go_ret
            exact ⟨by first | rfl | (simp; done) | (simp [*]; done), by repeat (first | exact Drawn0.refl _ | apply Drawn0.step)⟩

-- NOT PRINTED: function 74 (binary_littleEndian_PutUint16)

-- NOT PRINTED: function 75 (binary_littleEndian_PutUint32)

-- NOT PRINTED: function 58 (btcdtxscript_ScriptBuilder_addData)

-- NOT PRINTED: function 31 (btcdtxscript_ScriptBuilder_AddData)

-- NOT PRINTED: function 53 (btcdtxscript_scriptNum_Bytes)

-- NOT PRINTED: function 32 (btcdtxscript_ScriptBuilder_AddInt64)

-- NOT PRINTED: function 33 (btcdtxscript_ScriptBuilder_AddOps)

-- NOT PRINTED: function 34 (btcdtxscript_ScriptBuilder_Reset)

-- NOT PRINTED: function 35 (btcdtxscript_ScriptBuilder_Script)

-- NOT PRINTED: function 14 (impl_Build)

-- NOT PRINTED: function 4 (laws_FnBuild)

end Go.Proofs.Ytabdmbnggkageaa.PFnBuild
