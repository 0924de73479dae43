-- PRINTED BY print.sh 35421559b90ae4d0a3588c463048766b98c2df88dd9212a6774a882060cdf62d: not written by this session
import Derived.Test.YtnjpaldgnhhmjaaPFnRelativeLockx0
namespace Go.Proofs.Ytnjpaldgnhhmjaa.PFnRelativeLock
open Go.RowKit Go.Proofs.YtnjpaldgnhhmjaaW.PrintWords Go.Proofs.YtnjpaldgnhhmjaaW.PrintLast Go.Proofs.YtnjpaldgnhhmjaaW.PrintMore
attribute [local go_sem] max2_int min2_int max_two min_two max_three min_three max_four min_four   -- for this text's walks alone
set_option linter.unusedVariables false
set_option linter.unusedSimpArgs false

/-! ### blockchain_LockTimeToSequence: function 18 -/
def blockchain_LockTimeToSequence.f (a0 : Bool) (a1 : Int) : Option (Int) := if a0 = true then (some (Go.bits .or .u32 4194304 (a1 / 512))) else (some a1)
set_option maxHeartbeats 8000000 in
set_option maxRecDepth 100000 in
theorem blockchain_LockTimeToSequence.calls (a0 : Bool) (a1 : Int) (r : Int) (w : World) (h : blockchain_LockTimeToSequence.f a0 a1 = some r) :
    Calls Try.prog 18 #[.bool a0, .int .u32 a1] w fun e w' => e = .returned (.int .u32 r) ∧ Drawn0 w w' := by
  have H : (if a0 = true then (some (Go.bits .or .u32 4194304 (a1 / 512))) else (some a1)) = some r := h
  clear h
  by_cases c3 : a0 = true
  · subst c3
    have H1 : (some (Go.bits .or .u32 4194304 (a1 / 512))) = some r := by rw [if_pos rfl] at H; exact H
    clear H
    have H := H1
    clear H1
    obtain rfl := Option.some.inj H
    go_enter Try.func18, Try.ntmps18
    go_wp2
    go_ret
    exact ⟨by first | rfl | (simp; done) | (simp [*]; done), by repeat (first | exact Drawn0.refl _ | apply Drawn0.step)⟩
  · replace c3 := Bool.eq_false_iff.mpr c3
    subst c3
    have H1 : (some a1) = some r := by rw [if_neg (show ¬ (false = true) by decide)] at H; exact H
    clear H
    have H := H1
    clear H1
    obtain rfl := Option.some.inj H
    go_enter Try.func18, Try.ntmps18
    go_wp2
    go_ret
    exact ⟨by first | rfl | (simp; done) | (simp [*]; done), by repeat (first | exact Drawn0.refl _ | apply Drawn0.step)⟩

/-! ### impl_RelativeLock: function 6 -/
def impl_RelativeLock.f (a0 : Bool) (a1 : Int) : Option (Int) := (blockchain_LockTimeToSequence.f a0 a1).bind fun t101 => (some t101)
set_option maxHeartbeats 8000000 in
set_option maxRecDepth 100000 in
theorem impl_RelativeLock.calls (a0 : Bool) (a1 : Int) (r : Int) (w : World) (h : impl_RelativeLock.f a0 a1 = some r) :
    Calls Try.prog 6 #[.bool a0, .int .u32 a1] w fun e w' => e = .returned (.int .u32 r) ∧ Drawn0 w w' := by
  have H : ((blockchain_LockTimeToSequence.f a0 a1).bind fun t101 => (some t101)) = some r := h
  clear h
  replace H := Option.bind_eq_some_iff.mp H
  obtain ⟨t101, A30, H⟩ := H
  replace H : (some t101) = some r := H
  have A3 := Aside0.mk A30
  clear A30
  obtain rfl := Option.some.inj H
  go_enter Try.func6, Try.ntmps6
  go_wp2_with (first | ((with_reducible refine gate_callee (f := 18) rfl ?_); refine goesL_ (some 7) rfl rfl Try.func18 (by kernel_rfl) rfl #[.bool a0, .int .u32 a1] rfl (by (try simp only [List.map_toArray, List.map_cons, List.map_nil]); first | done | rfl | (simp only [List.length_drop, List.length_take]; rfl)) ?_; (with_reducible refine (blockchain_LockTimeToSequence.calls a0 a1 t101 _ A3.out).mono ?_); rintro e w' ⟨rfl, ⟨nd, rfl⟩⟩; refine ⟨_, rfl, ?_⟩))
  go_ret
  exact ⟨by first | rfl | (simp; done) | (simp [*]; done), by repeat (first | exact Drawn0.refl _ | apply Drawn0.step)⟩

/-! ### spec_RelativeLock: function 7 -/
def spec_RelativeLock.f (a0 : Bool) (a1 : Int) : Option (Int) := if a0 = true then (some (Go.bits .or .u32 4194304 ((Int.tdiv a1 512) % 4294967296))) else (some a1)
set_option maxHeartbeats 8000000 in
set_option maxRecDepth 100000 in
theorem spec_RelativeLock.calls (a0 : Bool) (a1 : Int) (r : Int) (w : World) (h : spec_RelativeLock.f a0 a1 = some r) :
    Calls Try.prog 7 #[.bool a0, .int .u32 a1] w fun e w' => e = .returned (.int .u32 r) ∧ Drawn0 w w' := by
  have H : (if a0 = true then (some (Go.bits .or .u32 4194304 ((Int.tdiv a1 512) % 4294967296))) else (some a1)) = some r := h
  clear h
  by_cases c3 : a0 = true
  · subst c3
    have H1 : (some (Go.bits .or .u32 4194304 ((Int.tdiv a1 512) % 4294967296))) = some r := by rw [if_pos rfl] at H; exact H
    clear H
    have H := H1
    clear H1
    obtain rfl := Option.some.inj H
    go_enter Try.func7, Try.ntmps7
    go_wp2
    go_ret
    exact ⟨by first | rfl | (simp; done) | (simp [*]; done), by repeat (first | exact Drawn0.refl _ | apply Drawn0.step)⟩
  · replace c3 := Bool.eq_false_iff.mpr c3
    subst c3
    have H1 : (some a1) = some r := by rw [if_neg (show ¬ (false = true) by decide)] at H; exact H
    clear H
    have H := H1
    clear H1
    obtain rfl := Option.some.inj H
    go_enter Try.func7, Try.ntmps7
    go_wp2
    go_ret
    exact ⟨by first | rfl | (simp; done) | (simp [*]; done), by repeat (first | exact Drawn0.refl _ | apply Drawn0.step)⟩

/-! ### laws_FnRelativeLock: function 3 -/
def laws_FnRelativeLock.j0 : Nat → Bool → Int → Bool → Option (Bool)
  | 0, _, _, _ => none
  | k + 1, x0, x1, x14 => if x14 = true then (some true) else ((impl_RelativeLock.f x0 x1).bind fun t102 => ((spec_RelativeLock.f x0 x1).bind fun t103 => (some (t102 == t103))))
def laws_FnRelativeLock.f (k : Nat) (a0 : Bool) (a1 : Int) : Option (Bool) := if a1 ≥ 33554432 then (laws_FnRelativeLock.j0 k a0 a1 true) else (if a0 = true then (laws_FnRelativeLock.j0 k a0 a1 false) else (laws_FnRelativeLock.j0 k a0 a1 (decide (a1 ≥ 65536))))
theorem laws_FnRelativeLock.mono_l : ∀ k, (∀ y0 y1 y2, LeO (laws_FnRelativeLock.j0 k y0 y1 y2) (laws_FnRelativeLock.j0 (k + 1) y0 y1 y2))
  | 0 => fun _ _ _ r h => by simp [laws_FnRelativeLock.j0] at h
  | k + 1 => by
    have ih0 := laws_FnRelativeLock.mono_l k
    · intro y0 y1 y2
      unfold laws_FnRelativeLock.j0
      repeat' first
      | (with_reducible exact ih0 _ _ _)
      | (with_reducible exact LeO.refl _)
      | (with_reducible exact LeO.none _)
      | (with_reducible refine LeO.ite ?_ ?_)
      | (with_reducible refine LeO.bind ?_ (fun _ => ?_))
      | exact ih0 _ _ _
      | exact LeO.none _
      | refine LeO.ite ?_ ?_
      | refine LeO.bind ?_ (fun _ => ?_)
theorem laws_FnRelativeLock.mono : ∀ a0 a1 k, LeO (laws_FnRelativeLock.f k a0 a1) (laws_FnRelativeLock.f (k + 1) a0 a1) := by
  intro a0 a1 k
  have ih0 := laws_FnRelativeLock.mono_l k
  unfold laws_FnRelativeLock.f
  repeat' first
      | (with_reducible exact ih0 _ _ _)
      | (with_reducible exact LeO.refl _)
      | (with_reducible exact LeO.none _)
      | (with_reducible refine LeO.ite ?_ ?_)
      | (with_reducible refine LeO.bind ?_ (fun _ => ?_))
      | exact ih0 _ _ _
      | exact LeO.none _
      | refine LeO.ite ?_ ?_
      | refine LeO.bind ?_ (fun _ => ?_)
set_option maxHeartbeats 8000000 in
set_option maxRecDepth 100000 in
theorem laws_FnRelativeLock.calls (k : Nat) (a0 : Bool) (a1 : Int) (r : Bool) (w : World) (h : laws_FnRelativeLock.f k a0 a1 = some r) :
    Calls Try.prog 3 #[.bool a0, .int .u32 a1] w fun e w' => e = .returned (.bool r) ∧ Drawn0 w w' := by
  have H : (if a1 ≥ 33554432 then (laws_FnRelativeLock.j0 k a0 a1 true) else (if a0 = true then (laws_FnRelativeLock.j0 k a0 a1 false) else (laws_FnRelativeLock.j0 k a0 a1 (decide (a1 ≥ 65536))))) = some r := h
  clear h
  have HC3 := Aside0.mk H
  clear H
  go_enter Try.func3, Try.ntmps3
  go_upto_region 1 with (fail)
  go_cut [14] (fun v14 wc => ∃ (kq : Nat) (x14_2 : Bool), v14 = .bool x14_2 ∧ Aside0 (laws_FnRelativeLock.j0 kq a0 a1 x14_2 = some r) ∧ Aside0 (kq ≤ k) ∧ Drawn0 w wc)
  case first =>
    have H := HC3.out
    clear HC3
    by_cases c4 : a1 ≥ 33554432
    · rw [if_pos c4] at H
      have c4b0 : decide (33554432 ≤ a1) = true := decide_eq_true c4
      clear c4
      (first | rw [c4b0] | (simp only [i64_w, i32_w]; rw [c4b0]) | skip)
      have H' := Aside0.mk H
      clear H
      go_wp2
      go_meet
      case rel => exact ⟨_, (true), (by first | rfl | (simp; done) | (simp [*]; done)), H', ⟨by first | omega | exact Nat.le_refl _⟩, by repeat (first | exact Drawn0.refl _ | apply Drawn0.step)⟩
    · rw [if_neg c4] at H
      have c4b0 : decide (33554432 ≤ a1) = false := decide_eq_false c4
      clear c4
      (first | rw [c4b0] | (simp only [i64_w, i32_w]; rw [c4b0]) | skip)
      by_cases c5 : a0 = true
      · subst c5
        have H1 : (laws_FnRelativeLock.j0 k true a1 false) = some r := by rw [if_pos rfl] at H; exact H
        clear H
        have H := H1
        clear H1
        have H' := Aside0.mk H
        clear H
        go_wp2
        go_meet
        case rel => exact ⟨_, (false), (by first | rfl | (simp; done) | (simp [*]; done)), H', ⟨by first | omega | exact Nat.le_refl _⟩, by repeat (first | exact Drawn0.refl _ | apply Drawn0.step)⟩
      · replace c5 := Bool.eq_false_iff.mpr c5
        subst c5
        have H1 : (laws_FnRelativeLock.j0 k false a1 (decide (a1 ≥ 65536))) = some r := by rw [if_neg (show ¬ (false = true) by decide)] at H; exact H
        clear H
        have H := H1
        clear H1
        have H' := Aside0.mk H
        clear H
        go_wp2
        go_meet
        case rel => exact ⟨_, (decide (a1 ≥ 65536)), (by first | rfl | (simp; done) | (simp [*]; done)), H', ⟨by first | omega | exact Nat.le_refl _⟩, by repeat (first | exact Drawn0.refl _ | apply Drawn0.step)⟩
  case rest =>
    clear HC3
    try clear p2
    try clear c3
    try clear c4
    try clear c4b0
    try clear c5
    obtain ⟨kq, x14_2, rfl, HA, HJ2, ⟨mc2, rfl⟩⟩ := hcut
    cases kq with
    | zero => exact absurd HA.out (by simp [laws_FnRelativeLock.j0])
    | succ kj2 =>
      have H := HA.out
      clear HA
      simp only [laws_FnRelativeLock.j0] at H
      by_cases c6 : x14_2 = true
      · subst c6
        have H1 : (some true) = some r := by rw [if_pos rfl] at H; exact H
        clear H
        have H := H1
        clear H1
        obtain rfl := Option.some.inj H
        go_wp2
        go_ret
        exact ⟨by first | rfl | (simp; done) | (simp [*]; done), by repeat (first | exact Drawn0.refl _ | apply Drawn0.step)⟩
      · replace c6 := Bool.eq_false_iff.mpr c6
        subst c6
        have H1 : ((impl_RelativeLock.f a0 a1).bind fun t102 => ((spec_RelativeLock.f a0 a1).bind fun t103 => (some (t102 == t103)))) = some r := by rw [if_neg (show ¬ (false = true) by decide)] at H; exact H
        clear H
        have H := H1
        clear H1
        replace H := Option.bind_eq_some_iff.mp H
        obtain ⟨t102, A70, H⟩ := H
        replace H : ((spec_RelativeLock.f a0 a1).bind fun t103 => (some (t102 == t103))) = some r := H
        have A7 := Aside0.mk A70
        clear A70
        replace H := Option.bind_eq_some_iff.mp H
        obtain ⟨t103, A80, H⟩ := H
        replace H : (some (t102 == t103)) = some r := H
        have A8 := Aside0.mk A80
        clear A80
        obtain rfl := Option.some.inj H
        go_wp2_with (first | ((with_reducible refine gate_callee (f := 6) rfl ?_); refine goesL_ (some 17) rfl rfl Try.func6 (by kernel_rfl) rfl #[.bool a0, .int .u32 a1] rfl (by (try simp only [List.map_toArray, List.map_cons, List.map_nil]); first | done | rfl | (simp only [List.length_drop, List.length_take]; rfl)) ?_; (with_reducible refine (impl_RelativeLock.calls a0 a1 t102 _ A7.out).mono ?_); rintro e w' ⟨rfl, ⟨nd, rfl⟩⟩; refine ⟨_, rfl, ?_⟩) | ((with_reducible refine gate_callee (f := 7) rfl ?_); refine goesL_ (some 20) rfl rfl Try.func7 (by kernel_rfl) rfl #[.bool a0, .int .u32 a1] rfl (by (try simp only [List.map_toArray, List.map_cons, List.map_nil]); first | done | rfl | (simp only [List.length_drop, List.length_take]; rfl)) ?_; (with_reducible refine (spec_RelativeLock.calls a0 a1 t103 _ A8.out).mono ?_); rintro e w' ⟨rfl, ⟨nd, rfl⟩⟩; refine ⟨_, rfl, ?_⟩))
        go_ret
        exact ⟨by first | rfl | (simp; done) | (simp [*]; done), by repeat (first | exact Drawn0.refl _ | apply Drawn0.step)⟩

/-- THE ONE PURE STATEMENT of laws_FnRelativeLock: yours. -/
def laws_FnRelativeLock.Pure : Prop := ∀ (a0 : Bool) (a1 : Int), (Lit.int .u32 a1).wf = true → ∃ k, laws_FnRelativeLock.f k a0 a1 = some true
theorem laws_FnRelativeLock.walk (P : laws_FnRelativeLock.Pure) (a0 : Bool) (a1 : Int) (w : World) (w1 : (Lit.int .u32 a1).wf = true) :
    Calls Try.prog 3 #[.bool a0, .int .u32 a1] w fun e w' => e = .returned (.bool true) ∧ Below w.heap.size w w' := by
  obtain ⟨k, h⟩ := P a0 a1 w1
  refine (laws_FnRelativeLock.calls k a0 a1 true w h).mono ?_
  rintro e w' ⟨rfl, hd⟩
  exact ⟨rfl, hd.below⟩

end Go.Proofs.Ytnjpaldgnhhmjaa.PFnRelativeLock
