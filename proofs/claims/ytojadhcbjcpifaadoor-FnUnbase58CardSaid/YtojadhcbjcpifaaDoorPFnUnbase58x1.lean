-- PRINTED BY print.sh 35421559b90ae4d0a3588c463048766b98c2df88dd9212a6774a882060cdf62d: not written by this session
import Derived.Test.YtojadhcbjcpifaaDoorPFnUnbase58x0
namespace Go.Proofs.YtojadhcbjcpifaaDoor.PFnUnbase58
open Go.RowKit Go.Proofs.YtojadhcbjcpifaaDoorW.PrintWords Go.Proofs.YtojadhcbjcpifaaDoorW.PrintLast Go.Proofs.YtojadhcbjcpifaaDoorW.PrintMore
attribute [local go_sem] max2_int min2_int max_two min_two max_three min_three max_four min_four   -- for this text's walks alone
set_option linter.unusedVariables false
set_option linter.unusedSimpArgs false

/-! ### spec_place: function 11 -/
def spec_place.l0 : Nat → ByteArray → Int → Int → Option (Int)
  | 0, _, _, _ => none
  | k + 1, x0, x1, x5 => if x5 < (x0.size : Int) then (if 0 ≤ x5 then (if (bt x0 x5) = x1 then (some x5) else (spec_place.l0 k x0 x1 (wrap64 (x5 + 1)))) else (none)) else (some (-1))
def spec_place.f (k : Nat) (a0 : ByteArray) (a1 : Int) : Option (Int) := spec_place.l0 k a0 a1 0
theorem spec_place.mono_l : ∀ k, (∀ y0 y1 y2, LeO (spec_place.l0 k y0 y1 y2) (spec_place.l0 (k + 1) y0 y1 y2))
  | 0 => fun _ _ _ r h => by simp [spec_place.l0] at h
  | k + 1 => by
    have ih0 := spec_place.mono_l k
    · intro y0 y1 y2
      unfold spec_place.l0
      repeat' first
      | (with_reducible exact ih0 _ _ _)
      | (with_reducible exact LeO.refl _)
      | (with_reducible exact LeO.none _)
      | (with_reducible refine LeO.ite ?_ ?_)
      | (with_reducible refine LeO.bind ?_ (fun _ => ?_))
      | exact ih0 _ _ _
      | exact LeO.none _
      | refine LeO.ite ?_ ?_
      | refine LeO.bind ?_ (fun _ => ?_)
theorem spec_place.mono : ∀ a0 a1 k, LeO (spec_place.f k a0 a1) (spec_place.f (k + 1) a0 a1) := by
  intro a0 a1 k
  have ih0 := spec_place.mono_l k
  unfold spec_place.f
  repeat' first
      | (with_reducible exact ih0 _ _ _)
      | (with_reducible exact LeO.refl _)
      | (with_reducible exact LeO.none _)
      | (with_reducible refine LeO.ite ?_ ?_)
      | (with_reducible refine LeO.bind ?_ (fun _ => ?_))
      | exact ih0 _ _ _
      | exact LeO.none _
      | refine LeO.ite ?_ ?_
      | refine LeO.bind ?_ (fun _ => ?_)
set_option maxHeartbeats 8000000 in
set_option maxRecDepth 100000 in
theorem spec_place.calls (k : Nat) (a0 : ByteArray) (a1 : Int) (r : Int) (w : World) (h : spec_place.f k a0 a1 = some r) :
    Calls Tryd.prog 11 #[.string a0, .int .u8 a1] w fun e w' => e = .returned (.int .i64 r) ∧ Drawn0 w w' := by
  have H : (spec_place.l0 k a0 a1 0) = some r := h
  clear h
  have H' := Aside0.mk H
  clear H
  go_enter Tryd.func11, Tryd.ntmps11
  go_wp2
  go_loopg [5] k (fun kq v5 w' => ∃ (x5_1 : Int), v5 = .int .i64 x5_1 ∧ Aside0 (spec_place.l0 kq a0 a1 x5_1 = some r) ∧ Aside0 (kq ≤ k) ∧ Drawn0 w w')
  case atStart => exact ⟨(0), (by first | rfl | (simp; done) | (simp [*]; done)), H', ⟨Nat.le_refl _⟩, by repeat (first | exact Drawn0.refl _ | apply Drawn0.step)⟩
  case round =>
    clear H'
    try clear c1
    try clear p2
    obtain ⟨x5_1, rfl, HA, HK1, ⟨m1, rfl⟩⟩ := hrel
    cases gk with
    | zero => exact absurd HA.out (by simp [spec_place.l0])
    | succ k1 =>
      have H := HA.out
      clear HA
      simp only [spec_place.l0] at H
      by_cases c3 : x5_1 < (a0.size : Int)
      · rw [if_pos c3] at H
        have c3b0 : decide (x5_1 < (a0.size : Int)) = true := decide_eq_true c3
        clear c3
        by_cases c4 : 0 ≤ x5_1
        · rw [if_pos c4] at H
          have c4b0 : decide (0 ≤ x5_1) = true := decide_eq_true c4
          clear c4
          by_cases c6 : (bt a0 x5_1) = a1
          · rw [if_pos c6] at H
            have c6b0 : ((bt a0 x5_1) == a1) = true := beq_iff_eq.mpr c6
            have c6b1 : ((bt a0 x5_1) != a1) = false := bne_eq_false_iff_eq.mpr c6
            clear c6
            obtain rfl := Option.some.inj H
            have p5 : 0 ≤ (x5_1 : Int) := of_decide_eq_true (by first | (with_reducible assumption) | assumption)
            have q5 : x5_1 < (a0.size : Int) := of_decide_eq_true (by first | (with_reducible assumption) | assumption)
            have hx5 := bt_at a0 x5_1
            replace p5 := eq_true p5
            replace q5 := eq_true q5
            go_wp2
            go_ret
            exact ⟨by first | rfl | (simp; done) | (simp [*]; done), by repeat (first | exact Drawn0.refl _ | apply Drawn0.step)⟩
          · rw [if_neg c6] at H
            have c6b0 : ((bt a0 x5_1) == a1) = false := beq_eq_false_iff_ne.mpr c6
            have c6b1 : ((bt a0 x5_1) != a1) = true := bne_iff_ne.mpr c6
            have H' := Aside0.mk H
            clear H
            have p5 : 0 ≤ (x5_1 : Int) := of_decide_eq_true (by first | (with_reducible assumption) | assumption)
            have q5 : x5_1 < (a0.size : Int) := of_decide_eq_true (by first | (with_reducible assumption) | assumption)
            have hx5 := bt_at a0 x5_1
            replace p5 := eq_true p5
            replace q5 := eq_true q5
            go_wp2
            go_roundg k1
            case measure => have := HK1.out; omega
            case rel => exact ⟨(wrap64 (x5_1 + 1)), (by first | rfl | (simp; done) | (simp [*]; done)), H', ⟨by have := HK1.out; omega⟩, by repeat (first | exact Drawn0.refl _ | apply Drawn0.step)⟩
        · rw [if_neg c4] at H
          exact absurd H (by simp)
      · rw [if_neg c3] at H
        have c3b0 : decide (x5_1 < (a0.size : Int)) = false := decide_eq_false c3
        clear c3
        obtain rfl := Option.some.inj H
        go_wp2
        go_ret
        exact ⟨by first | rfl | (simp; done) | (simp [*]; done), by repeat (first | exact Drawn0.refl _ | apply Drawn0.step)⟩

/-! ### spec_trim: function 19 -/
def spec_trim.l0 : Nat → List Int → Int → Option (List Int)
  | 0, _, _ => none
  | k + 1, x0, x3 => if x3 < (x0.length : Int) then (if 0 ≤ x3 then (if (rd x0 x3) = 0 then (spec_trim.l0 k x0 (wrap64 (x3 + 1))) else ((some (([] : List Int) : List Int)).bind fun y102 => (if x3 ≤ (x0.length : Int) then (if y102.length + (x0.drop (x3 : Int).toNat).length < 140737488355328 then (some (y102 ++ (x0.drop (x3 : Int).toNat))) else (none)) else (none)))) else (none)) else ((some (([] : List Int) : List Int)).bind fun y109 => (if 0 ≤ x3 then (if x3 ≤ (x0.length : Int) then (if y109.length + (x0.drop (x3 : Int).toNat).length < 140737488355328 then (some (y109 ++ (x0.drop (x3 : Int).toNat))) else (none)) else (none)) else (none)))
def spec_trim.f (k : Nat) (l0 : List Int) : Option (List Int) := spec_trim.l0 k l0 0
theorem spec_trim.mono_l : ∀ k, (∀ y0 y1, LeO (spec_trim.l0 k y0 y1) (spec_trim.l0 (k + 1) y0 y1))
  | 0 => fun _ _ r h => by simp [spec_trim.l0] at h
  | k + 1 => by
    have ih0 := spec_trim.mono_l k
    · intro y0 y1
      unfold spec_trim.l0
      repeat' first
      | (with_reducible exact ih0 _ _)
      | (with_reducible exact LeO.refl _)
      | (with_reducible exact LeO.none _)
      | (with_reducible refine LeO.ite ?_ ?_)
      | (with_reducible refine LeO.bind ?_ (fun _ => ?_))
      | exact ih0 _ _
      | exact LeO.none _
      | refine LeO.ite ?_ ?_
      | refine LeO.bind ?_ (fun _ => ?_)
theorem spec_trim.mono : ∀ a0 k, LeO (spec_trim.f k a0) (spec_trim.f (k + 1) a0) := by
  intro a0 k
  have ih0 := spec_trim.mono_l k
  unfold spec_trim.f
  repeat' first
      | (with_reducible exact ih0 _ _)
      | (with_reducible exact LeO.refl _)
      | (with_reducible exact LeO.none _)
      | (with_reducible refine LeO.ite ?_ ?_)
      | (with_reducible refine LeO.bind ?_ (fun _ => ?_))
      | exact ih0 _ _
      | exact LeO.none _
      | refine LeO.ite ?_ ?_
      | refine LeO.bind ?_ (fun _ => ?_)
set_option maxHeartbeats 8000000 in
set_option maxRecDepth 100000 in
theorem spec_trim.calls (k : Nat) (A0 : Option Addr) (c0 : Nat) (l0 : List Int) (r : List Int) (w : World) (hr0 : Kd.C (Kd.int .u8) w A0 l0.length l0) (hc0 : l0.length ≤ c0) (h : spec_trim.f k l0 = some r) :
    Calls Tryd.prog 19 #[.slice A0 l0.length c0] w fun e w' => ∃ v0_ : Value, e = .returned (v0_) ∧ Kd.R (Kd.int .u8) 5 w' w.heap.size (fun _ => True) v0_ r ∧ Below w.heap.size w w' := by
  have HR0 := Aside0.mk hr0
  have HC0 := Aside0.mk hc0
  clear hr0 hc0
  have HB := Aside0.mk (Below.refl w.heap.size w)
  have H : (spec_trim.l0 k l0 0) = some r := h
  clear h
  have H' := Aside0.mk H
  clear H
  go_enter Tryd.func19, Tryd.ntmps19
  go_wp2
  go_loopg [3] k (fun kq v3 w' => ∃ (x3_1 : Int), v3 = .int .i64 x3_1 ∧ Aside0 (spec_trim.l0 kq l0 x3_1 = some r) ∧ Aside0 (kq ≤ k) ∧ Aside0 (Below w.heap.size w w'))
  case atStart => exact ⟨(0), (by first | rfl | (simp; done) | (simp [*]; done)), H', ⟨Nat.le_refl _⟩, ⟨by repeat (first | (with_reducible first | exact HB.out | apply below_alloc | apply pw_below_drewN | apply below_drew1) | exact HB.out)⟩⟩
  case round =>
    clear H'
    try clear c1
    obtain ⟨x3_1, rfl, HA, HK1, HB⟩ := hrel
    cases gk with
    | zero => exact absurd HA.out (by simp [spec_trim.l0])
    | succ k1 =>
      have H := HA.out
      clear HA
      simp only [spec_trim.l0] at H
      by_cases c2 : x3_1 < (l0.length : Int)
      · rw [if_pos c2] at H
        have c2b0 : decide (x3_1 < (l0.length : Int)) = true := decide_eq_true c2
        clear c2
        by_cases c3 : 0 ≤ x3_1
        · rw [if_pos c3] at H
          have c3b0 : decide (0 ≤ x3_1) = true := decide_eq_true c3
          clear c3
          by_cases c4 : (rd l0 x3_1) = 0
          · rw [if_pos c4] at H
            have c4b0 : ((rd l0 x3_1) == 0) = true := beq_iff_eq.mpr c4
            have c4b1 : ((rd l0 x3_1) != 0) = false := bne_eq_false_iff_eq.mpr c4
            clear c4
            have H' := Aside0.mk H
            clear H
            have p101 : 0 ≤ (x3_1 : Int) := of_decide_eq_true (by first | (with_reducible assumption) | assumption)
            have q101 : x3_1 < (l0.length : Int) := of_decide_eq_true (by first | (with_reducible assumption) | assumption)
            obtain ⟨ad101, e101, hx101_0⟩ := Kd.at_int HR0.out x3_1 p101 q101
            cases e101
            replace hx101_0 := (HB.out.cell (World.block_lt_of_cell? w _ hx101_0)).trans hx101_0
            replace p101 := eq_true p101
            replace q101 := eq_true q101
            go_wp2
            go_roundg k1
            case measure => have := HK1.out; omega
            case rel => exact ⟨(wrap64 (x3_1 + 1)), (by first | rfl | (simp; done) | (simp [*]; done)), H', ⟨by have := HK1.out; omega⟩, ⟨by repeat (first | (with_reducible first | exact HB.out | apply below_alloc | apply pw_below_drewN | apply below_drew1) | exact HB.out)⟩⟩
          · rw [if_neg c4] at H
            have c4b0 : ((rd l0 x3_1) == 0) = false := beq_eq_false_iff_ne.mpr c4
            have c4b1 : ((rd l0 x3_1) != 0) = true := bne_iff_ne.mpr c4
            obtain ⟨y102, hy102⟩ : ∃ y_ : List Int, y_ = (([] : List Int)) := ⟨_, rfl⟩
            replace H : (if x3_1 ≤ (l0.length : Int) then (if y102.length + (l0.drop (x3_1 : Int).toNat).length < 140737488355328 then (some (y102 ++ (l0.drop (x3_1 : Int).toNat))) else (none)) else (none)) = some r := by first | (rw [hy102]; with_reducible exact H) | (have H2_ := (Option.bind_some _ _).symm.trans H; rw [hy102]; with_reducible exact H2_) | (have H2_ := (Option.bind_some _ _).symm.trans H; with_reducible exact H2_) | with_reducible exact H | (rw [hy102]; exact H) | exact H
            have Ny102 := Aside0.mk hy102
            clear hy102
            have c5b0 := eq_true (of_decide_eq_true (by first | (with_reducible assumption) | assumption) : 0 ≤ x3_1)
            by_cases c6 : x3_1 ≤ (l0.length : Int)
            · rw [if_pos c6] at H
              have c6b0 := eq_true c6
              have c6b1 : decide (x3_1 ≤ (l0.length : Int)) = true := decide_eq_true c6
              clear c6
              by_cases c7 : y102.length + (l0.drop (x3_1 : Int).toNat).length < 140737488355328
              · rw [if_pos c7] at H
                have LMc7 := Aside0.mk c7
                clear c7
                obtain ⟨y106, hy106⟩ : ∃ y_ : List Int, y_ = (y102 ++ (l0.drop (x3_1 : Int).toNat)) := ⟨_, rfl⟩
                replace H : (some y106) = some r := by first | (rw [hy106]; with_reducible exact H) | (have H2_ := (Option.bind_some _ _).symm.trans H; rw [hy106]; with_reducible exact H2_) | (have H2_ := (Option.bind_some _ _).symm.trans H; with_reducible exact H2_) | with_reducible exact H | (rw [hy106]; exact H) | exact H
                have Ny106 := Aside0.mk hy106
                clear hy106
                obtain rfl := Option.some.inj H
                have p101 : 0 ≤ (x3_1 : Int) := of_decide_eq_true (by first | (with_reducible assumption) | assumption)
                have q101 : x3_1 < (l0.length : Int) := of_decide_eq_true (by first | (with_reducible assumption) | assumption)
                obtain ⟨ad101, e101, hx101_0⟩ := Kd.at_int HR0.out x3_1 p101 q101
                cases e101
                replace hx101_0 := (HB.out.cell (World.block_lt_of_cell? w _ hx101_0)).trans hx101_0
                replace p101 := eq_true p101
                replace q101 := eq_true q101
                go_wp2_with (first | ((with_reducible refine gate_dst (N := 17) rfl ?_); refine Kd.R_lit (Kd.int .u8) _ 5 ?hg (N := 17) ?hd (xs := ([] : List Int)) (inner := []) (ok := fun _ => True) (okp := fun _ => True) ?hr ?hp (fun _ hk => hk) trivial (Below.refl _ _) (Nat.le_refl _) (by simp) ?_; (case hd => rfl); (case hg => rfl); (case hr => first | (go_simp; done) | (go_simp; rfl)); (case hp => exact (Reps.none _ _)); intro v103 w8 ho9 hb hg_ hnew_; clear hg_ hnew_; (first | rw [← Ny102.out] at ho9 | (simp only [Int.reduceToNat] at ho9; rw [← Ny102.out] at ho9)); have n0_ := Aside0.mk (Kd.R_lower ho9 (below_size (by repeat (first | (with_reducible first | exact HB.out | apply below_alloc | apply pw_below_drewN | apply below_drew1) | exact HB.out)))); have n1_ := Aside0.mk (below_step (by repeat (first | (with_reducible first | exact HB.out | apply below_alloc | apply pw_below_drewN | apply below_drew1) | exact HB.out)) hb); clear HB; have HO104 := n0_; have HB := n1_; clear n0_ n1_; clear hb ho9; obtain ⟨i010, hi010, _, hsz10, _⟩ := info_parts info5; obtain ⟨A10, hcut10, hA10, hC10⟩ := print_drop_of (P := Tryd.prog) (Value.int .u8) 0 22 5 .i64 Tryd.underlying22 hi010 hsz10 (some ad101) c0 l0 x3_1 (of_decide_eq_true (by first | (with_reducible assumption) | assumption)) (of_decide_eq_true (by first | (with_reducible assumption) | assumption)) HC0.out; have HR105 := Aside0.mk (Kd.C_of_reads (h1 := fun _ => rfl) (hA10 _ (Kd.reads_of_C HR0.out))); have HC105 := Aside0.mk hC10; clear hA10 hC10 hi010 hsz10) | ((with_reducible refine gate_builtin (b := .append) (xs := #[.tmp 17, .tmp 20]) rfl ?_); at_builtin; refine Kd.R_append_rows (Kd.int .u8) (w0 := w) w.heap.size rfl (.tmp 17) (.tmp 20) 22 5 (.int .u8 0) 1 rfl Tryd.underlying22 info5 rfl (by decide) (by omega) v103 y102 (l0.drop (x3_1 : Int).toNat) _ _ _ (fun _ => True) (fun _ => False) rfl rfl ?aO ?aR (fun _ _ h => h) (fun _ h => h.elim) ?aF ?aB ?aS ?aL ?_; (case aR => first | (rw [← show (l0.drop (x3_1 : Int).toNat).length = (l0.length - x3_1.toNat) from List.length_drop]; repeat (first | exact (Kd.C_below HR105.out HB.out) | (with_reducible refine Kd.C_alloc ?_ _) | (with_reducible refine Kd.C_drewN ?_ _) | (with_reducible refine Kd.C_drew ?_))) | (repeat (first | exact (Kd.C_below HR105.out HB.out) | (with_reducible refine Kd.C_alloc ?_ _) | (with_reducible refine Kd.C_drewN ?_ _) | (with_reducible refine Kd.C_drew ?_)))); (case aB => exact (by repeat (first | (with_reducible first | exact HB.out | apply below_alloc | apply pw_below_drewN | apply below_drew1) | exact HB.out))); (case aF => exact (fun _ _ => trivial)); (case aO => exact (by (with_reducible repeat (first | apply Kd.R_alloc | apply Kd.R_drewN | apply Kd.R_drew)); exact HO104.out)); (case aS => exact (below_size (by repeat (first | (with_reducible first | exact HB.out | apply below_alloc | apply pw_below_drewN | apply below_drew1) | exact HB.out)))); (case aL => have := LMc7.out; have hlx_ := (show (l0.drop (x3_1 : Int).toNat).length = (l0.length - x3_1.toNat) from List.length_drop); omega); intro v107 w11 ho hb hg hat; rw [← Ny106.out] at ho; have n0_ := Aside0.mk (hb); have n1_ := Aside0.mk (ho); clear HB; clear HO104; have HB := n0_; have HO108 := n1_; clear n0_ n1_; clear ho hb hg hat))
                go_ret
                exact ⟨_, by first | rfl | (simp [errW_none, errW_some] <;> rfl) | (simp [*, errW_none, errW_some] <;> rfl), by (with_reducible repeat (first | apply Kd.R_alloc | apply Kd.R_drewN | apply Kd.R_drew)); exact HO108.out, by repeat (first | (with_reducible first | exact HB.out | apply below_alloc | apply pw_below_drewN | apply below_drew1) | exact HB.out)⟩
              · rw [if_neg c7] at H
                exact absurd H (by simp)
            · rw [if_neg c6] at H
              exact absurd H (by simp)
        · rw [if_neg c3] at H
          exact absurd H (by simp)
      · rw [if_neg c2] at H
        have c2b0 : decide (x3_1 < (l0.length : Int)) = false := decide_eq_false c2
        clear c2
        obtain ⟨y109, hy109⟩ : ∃ y_ : List Int, y_ = (([] : List Int)) := ⟨_, rfl⟩
        replace H : (if 0 ≤ x3_1 then (if x3_1 ≤ (l0.length : Int) then (if y109.length + (l0.drop (x3_1 : Int).toNat).length < 140737488355328 then (some (y109 ++ (l0.drop (x3_1 : Int).toNat))) else (none)) else (none)) else (none)) = some r := by first | (rw [hy109]; with_reducible exact H) | (have H2_ := (Option.bind_some _ _).symm.trans H; rw [hy109]; with_reducible exact H2_) | (have H2_ := (Option.bind_some _ _).symm.trans H; with_reducible exact H2_) | with_reducible exact H | (rw [hy109]; exact H) | exact H
        have Ny109 := Aside0.mk hy109
        clear hy109
        by_cases c12 : 0 ≤ x3_1
        · rw [if_pos c12] at H
          have c12b0 := eq_true c12
          have c12b1 : decide (0 ≤ x3_1) = true := decide_eq_true c12
          clear c12
          by_cases c13 : x3_1 ≤ (l0.length : Int)
          · rw [if_pos c13] at H
            have c13b0 := eq_true c13
            have c13b1 : decide (x3_1 ≤ (l0.length : Int)) = true := decide_eq_true c13
            clear c13
            by_cases c14 : y109.length + (l0.drop (x3_1 : Int).toNat).length < 140737488355328
            · rw [if_pos c14] at H
              have LMc14 := Aside0.mk c14
              clear c14
              obtain ⟨y113, hy113⟩ : ∃ y_ : List Int, y_ = (y109 ++ (l0.drop (x3_1 : Int).toNat)) := ⟨_, rfl⟩
              replace H : (some y113) = some r := by first | (rw [hy113]; with_reducible exact H) | (have H2_ := (Option.bind_some _ _).symm.trans H; rw [hy113]; with_reducible exact H2_) | (have H2_ := (Option.bind_some _ _).symm.trans H; with_reducible exact H2_) | with_reducible exact H | (rw [hy113]; exact H) | exact H
              have Ny113 := Aside0.mk hy113
              clear hy113
              obtain rfl := Option.some.inj H
              go_wp2_with (first | ((with_reducible refine gate_dst (N := 17) rfl ?_); refine Kd.R_lit (Kd.int .u8) _ 5 ?hg (N := 17) ?hd (xs := ([] : List Int)) (inner := []) (ok := fun _ => True) (okp := fun _ => True) ?hr ?hp (fun _ hk => hk) trivial (Below.refl _ _) (Nat.le_refl _) (by simp) ?_; (case hd => rfl); (case hg => rfl); (case hr => first | (go_simp; done) | (go_simp; rfl)); (case hp => exact (Reps.none _ _)); intro v110 w15 ho16 hb hg_ hnew_; clear hg_ hnew_; (first | rw [← Ny109.out] at ho16 | (simp only [Int.reduceToNat] at ho16; rw [← Ny109.out] at ho16)); have n0_ := Aside0.mk (Kd.R_lower ho16 (below_size (by repeat (first | (with_reducible first | exact HB.out | apply below_alloc | apply pw_below_drewN | apply below_drew1) | exact HB.out)))); have n1_ := Aside0.mk (below_step (by repeat (first | (with_reducible first | exact HB.out | apply below_alloc | apply pw_below_drewN | apply below_drew1) | exact HB.out)) hb); clear HB; have HO111 := n0_; have HB := n1_; clear n0_ n1_; clear hb ho16; obtain ⟨i017, hi017, _, hsz17, _⟩ := info_parts info5; obtain ⟨A17, hcut17, hA17, hC17⟩ := print_drop_of (P := Tryd.prog) (Value.int .u8) 0 22 5 .i64 Tryd.underlying22 hi017 hsz17 A0 c0 l0 x3_1 (of_decide_eq_true (by first | (with_reducible assumption) | assumption)) (of_decide_eq_true (by first | (with_reducible assumption) | assumption)) HC0.out; have HR112 := Aside0.mk (Kd.C_of_reads (h1 := fun _ => rfl) (hA17 _ (Kd.reads_of_C HR0.out))); have HC112 := Aside0.mk hC17; clear hA17 hC17 hi017 hsz17) | ((with_reducible refine gate_builtin (b := .append) (xs := #[.tmp 17, .tmp 20]) rfl ?_); at_builtin; refine Kd.R_append_rows (Kd.int .u8) (w0 := w) w.heap.size rfl (.tmp 17) (.tmp 20) 22 5 (.int .u8 0) 1 rfl Tryd.underlying22 info5 rfl (by decide) (by omega) v110 y109 (l0.drop (x3_1 : Int).toNat) _ _ _ (fun _ => True) (fun _ => False) rfl rfl ?aO ?aR (fun _ _ h => h) (fun _ h => h.elim) ?aF ?aB ?aS ?aL ?_; (case aR => first | (rw [← show (l0.drop (x3_1 : Int).toNat).length = (l0.length - x3_1.toNat) from List.length_drop]; repeat (first | exact (Kd.C_below HR112.out HB.out) | (with_reducible refine Kd.C_alloc ?_ _) | (with_reducible refine Kd.C_drewN ?_ _) | (with_reducible refine Kd.C_drew ?_))) | (repeat (first | exact (Kd.C_below HR112.out HB.out) | (with_reducible refine Kd.C_alloc ?_ _) | (with_reducible refine Kd.C_drewN ?_ _) | (with_reducible refine Kd.C_drew ?_)))); (case aB => exact (by repeat (first | (with_reducible first | exact HB.out | apply below_alloc | apply pw_below_drewN | apply below_drew1) | exact HB.out))); (case aF => exact (fun _ _ => trivial)); (case aO => exact (by (with_reducible repeat (first | apply Kd.R_alloc | apply Kd.R_drewN | apply Kd.R_drew)); exact HO111.out)); (case aS => exact (below_size (by repeat (first | (with_reducible first | exact HB.out | apply below_alloc | apply pw_below_drewN | apply below_drew1) | exact HB.out)))); (case aL => have := LMc14.out; have hlx_ := (show (l0.drop (x3_1 : Int).toNat).length = (l0.length - x3_1.toNat) from List.length_drop); omega); intro v114 w18 ho hb hg hat; rw [← Ny113.out] at ho; have n0_ := Aside0.mk (hb); have n1_ := Aside0.mk (ho); clear HB; clear HO111; have HB := n0_; have HO115 := n1_; clear n0_ n1_; clear ho hb hg hat))
              go_ret
              exact ⟨_, by first | rfl | (simp [errW_none, errW_some] <;> rfl) | (simp [*, errW_none, errW_some] <;> rfl), by (with_reducible repeat (first | apply Kd.R_alloc | apply Kd.R_drewN | apply Kd.R_drew)); exact HO115.out, by repeat (first | (with_reducible first | exact HB.out | apply below_alloc | apply pw_below_drewN | apply below_drew1) | exact HB.out)⟩
            · rw [if_neg c14] at H
              exact absurd H (by simp)
          · rw [if_neg c13] at H
            exact absurd H (by simp)
        · rw [if_neg c12] at H
          exact absurd H (by simp)

/-! ### spec_plusSmall: function 12 -/
def spec_plusSmall.l0 : Nat → List Int → Int → Int → Option (List Int)
  | 0, _, _, _ => none
  | k + 1, x5, x6, x7 => if x7 ≥ 0 then (if 0 ≤ x7 then (if x7 < (x5.length : Int) then (spec_plusSmall.l0 k (x5.set (x7 : Int).toNat ((Int.tmod (wrap64 (x6 + (wrap64 (rd x5 x7)))) 256) % 256)) (wrap64 (Int.tdiv (wrap64 (x6 + (wrap64 (rd x5 x7)))) 256)) (wrap64 (x7 - 1))) else (none)) else (none)) else ((spec_trim.f k x5).bind fun t124 => (some t124))
def spec_plusSmall.f (k : Nat) (l0 : List Int) (a1 : Int) : Option (List Int) := (some (([0] : List Int) : List Int)).bind fun y116 => (if y116.length + l0.length < 140737488355328 then ((some (y116 ++ l0 : List Int)).bind fun y119 => (spec_plusSmall.l0 k y119 (wrap64 (a1)) (wrap64 ((y119.length : Int) - 1)))) else (none))
theorem spec_plusSmall.mono_l : ∀ k, (∀ y0 y1 y2, LeO (spec_plusSmall.l0 k y0 y1 y2) (spec_plusSmall.l0 (k + 1) y0 y1 y2))
  | 0 => fun _ _ _ r h => by simp [spec_plusSmall.l0] at h
  | k + 1 => by
    have ih0 := spec_plusSmall.mono_l k
    · intro y0 y1 y2
      unfold spec_plusSmall.l0
      repeat' first
      | (with_reducible exact ih0 _ _ _)
      | (with_reducible exact spec_trim.mono _ _)
      | (with_reducible exact LeO.refl _)
      | (with_reducible exact LeO.none _)
      | (with_reducible refine LeO.ite ?_ ?_)
      | (with_reducible refine LeO.bind ?_ (fun _ => ?_))
      | exact ih0 _ _ _
      | exact spec_trim.mono _ _
      | exact LeO.none _
      | refine LeO.ite ?_ ?_
      | refine LeO.bind ?_ (fun _ => ?_)
theorem spec_plusSmall.mono : ∀ a0 a1 k, LeO (spec_plusSmall.f k a0 a1) (spec_plusSmall.f (k + 1) a0 a1) := by
  intro a0 a1 k
  have ih0 := spec_plusSmall.mono_l k
  unfold spec_plusSmall.f
  repeat' first
      | (with_reducible exact ih0 _ _ _)
      | (with_reducible exact spec_trim.mono _ _)
      | (with_reducible exact LeO.refl _)
      | (with_reducible exact LeO.none _)
      | (with_reducible refine LeO.ite ?_ ?_)
      | (with_reducible refine LeO.bind ?_ (fun _ => ?_))
      | exact ih0 _ _ _
      | exact spec_trim.mono _ _
      | exact LeO.none _
      | refine LeO.ite ?_ ?_
      | refine LeO.bind ?_ (fun _ => ?_)
set_option maxHeartbeats 8000000 in
set_option maxRecDepth 100000 in
theorem spec_plusSmall.calls (k : Nat) (A0 : Option Addr) (c0 : Nat) (l0 : List Int) (a1 : Int) (r : List Int) (w : World) (hr0 : Kd.C (Kd.int .u8) w A0 l0.length l0) (hc0 : l0.length ≤ c0) (h : spec_plusSmall.f k l0 a1 = some r) :
    Calls Tryd.prog 12 #[.slice A0 l0.length c0, .int .u8 a1] w fun e w' => ∃ v0_ : Value, e = .returned (v0_) ∧ Kd.R (Kd.int .u8) 5 w' w.heap.size (fun _ => True) v0_ r ∧ Below w.heap.size w w' := by
  have HR0 := Aside0.mk hr0
  have HC0 := Aside0.mk hc0
  clear hr0 hc0
  have HB := Aside0.mk (Below.refl w.heap.size w)
  have H : ((some (([0] : List Int) : List Int)).bind fun y116 => (if y116.length + l0.length < 140737488355328 then ((some (y116 ++ l0 : List Int)).bind fun y119 => (spec_plusSmall.l0 k y119 (wrap64 (a1)) (wrap64 ((y119.length : Int) - 1)))) else (none))) = some r := h
  clear h
  obtain ⟨y116, hy116⟩ : ∃ y_ : List Int, y_ = (([0] : List Int)) := ⟨_, rfl⟩
  replace H : (if y116.length + l0.length < 140737488355328 then ((some (y116 ++ l0 : List Int)).bind fun y119 => (spec_plusSmall.l0 k y119 (wrap64 (a1)) (wrap64 ((y119.length : Int) - 1)))) else (none)) = some r := by first | (rw [hy116]; with_reducible exact H) | (have H2_ := (Option.bind_some _ _).symm.trans H; rw [hy116]; with_reducible exact H2_) | (have H2_ := (Option.bind_some _ _).symm.trans H; with_reducible exact H2_) | with_reducible exact H | (rw [hy116]; exact H) | exact H
  have Ny116 := Aside0.mk hy116
  clear hy116
  by_cases c3 : y116.length + l0.length < 140737488355328
  · rw [if_pos c3] at H
    have LMc3 := Aside0.mk c3
    clear c3
    obtain ⟨y119, hy119⟩ : ∃ y_ : List Int, y_ = (y116 ++ l0) := ⟨_, rfl⟩
    replace H : (spec_plusSmall.l0 k y119 (wrap64 (a1)) (wrap64 ((y119.length : Int) - 1))) = some r := by first | (rw [hy119]; with_reducible exact H) | (have H2_ := (Option.bind_some _ _).symm.trans H; rw [hy119]; with_reducible exact H2_) | (have H2_ := (Option.bind_some _ _).symm.trans H; with_reducible exact H2_) | with_reducible exact H | (rw [hy119]; exact H) | exact H
    have Ny119 := Aside0.mk hy119
    clear hy119
    have H' := Aside0.mk H
    clear H
    go_enter Tryd.func12, Tryd.ntmps12
    go_wp2_with (first | ((with_reducible refine gate_dst (N := 8) rfl ?_); refine Kd.R_lit (Kd.int .u8) _ 5 ?hg (N := 8) ?hd (xs := ([0] : List Int)) (inner := [.int .u8 0]) (ok := fun _ => True) (okp := fun _ => True) ?hr ?hp (fun _ hk => hk) trivial (Below.refl _ _) (Nat.le_refl _) (by simp) ?_; (case hd => rfl); (case hg => rfl); (case hr => first | (go_simp; done) | (go_simp; rfl)); (case hp => exact (Reps.one (show Kd.M (Kd.int .u8) _ _ _ 0 [.int .u8 0] from rfl) (Reps.none _ _))); intro v117 w4 ho5 hb hg_ hnew_; clear hg_ hnew_; (first | rw [← Ny116.out] at ho5 | (simp only [Int.reduceToNat] at ho5; rw [← Ny116.out] at ho5)); have n0_ := Aside0.mk (Kd.R_lower ho5 (below_size (by repeat (first | (with_reducible first | exact HB.out | apply below_alloc | apply pw_below_drewN | apply below_drew1) | exact HB.out)))); have n1_ := Aside0.mk (below_step (by repeat (first | (with_reducible first | exact HB.out | apply below_alloc | apply pw_below_drewN | apply below_drew1) | exact HB.out)) hb); clear HB; have HO118 := n0_; have HB := n1_; clear n0_ n1_; clear hb ho5) | ((with_reducible refine gate_builtin (b := .append) (xs := #[.tmp 8, .tmp 9]) rfl ?_); at_builtin; refine Kd.R_append_rows (Kd.int .u8) (w0 := w) w.heap.size rfl (.tmp 8) (.tmp 9) 22 5 (.int .u8 0) 1 rfl Tryd.underlying22 info5 rfl (by decide) (by omega) v117 y116 l0 _ _ _ (fun _ => True) (fun _ => False) rfl rfl ?aO ?aR (fun _ _ h => h) (fun _ h => h.elim) ?aF ?aB ?aS ?aL ?_; (case aR => repeat (first | exact (Kd.C_below HR0.out HB.out) | (with_reducible refine Kd.C_alloc ?_ _) | (with_reducible refine Kd.C_drewN ?_ _) | (with_reducible refine Kd.C_drew ?_))); (case aB => exact (by repeat (first | (with_reducible first | exact HB.out | apply below_alloc | apply pw_below_drewN | apply below_drew1) | exact HB.out))); (case aF => exact (fun _ _ => trivial)); (case aO => exact (by (with_reducible repeat (first | apply Kd.R_alloc | apply Kd.R_drewN | apply Kd.R_drew)); exact HO118.out)); (case aS => exact (below_size (by repeat (first | (with_reducible first | exact HB.out | apply below_alloc | apply pw_below_drewN | apply below_drew1) | exact HB.out)))); (case aL => have := LMc3.out; omega); intro v120 w6 ho hb hg hat; rw [← Ny119.out] at ho; have n0_ := Aside0.mk (hb); have n1_ := Aside0.mk (ho); clear HB; clear HO118; have HB := n0_; have HO121 := n1_; clear n0_ n1_; clear ho hb hg hat; obtain ⟨Ao7, co7, eo7⟩ := Kd.R_slice HO121.out; subst eo7))
    go_loopg [6, 7] k (fun kq v6 v7 w' => ∃ (x5_1 : List Int) (x6_1 : Int) (x7_1 : Int), v6 = .int .i64 x6_1 ∧ v7 = .int .i64 x7_1 ∧ Aside0 (spec_plusSmall.l0 kq x5_1 x6_1 x7_1 = some r) ∧ Aside0 (kq ≤ k) ∧ Aside0 (Kd.R (Kd.int .u8) 5 w' w.heap.size (fun _ => True) (.slice Ao7 y119.length co7) x5_1) ∧ Aside0 (Below w.heap.size w w'))
    case atStart => exact ⟨(y119), (wrap64 (a1)), (wrap64 ((y119.length : Int) - 1)), (by first | rfl | (simp; done) | (simp [*]; done)), (by first | rfl | (simp; done) | (simp [*]; done)), H', ⟨Nat.le_refl _⟩, ⟨by (with_reducible repeat (first | apply Kd.R_alloc | apply Kd.R_drewN | apply Kd.R_drew)); exact HO121.out⟩, ⟨by repeat (first | (with_reducible first | exact HB.out | apply below_alloc | apply pw_below_drewN | apply below_drew1) | exact HB.out)⟩⟩
    case round =>
      clear H'
      try clear c1
      try clear p2
      try clear c3
      try clear p6
      obtain ⟨x5_1, x6_1, x7_1, rfl, rfl, HA, HK1, HO_5, HB⟩ := hrel
      have hl5_1 := (Kd.R_reads' HO_5.out).1
      rw [hl5_1] at HO_5
      (try simp only [hl5_1])
      cases gk with
      | zero => exact absurd HA.out (by simp [spec_plusSmall.l0])
      | succ k1 =>
        have H := HA.out
        clear HA
        simp only [spec_plusSmall.l0] at H
        by_cases c8 : x7_1 ≥ 0
        · rw [if_pos c8] at H
          have c8b0 : decide (0 ≤ x7_1) = true := decide_eq_true c8
          clear c8
          by_cases c9 : 0 ≤ x7_1
          · rw [if_pos c9] at H
            have c9b0 : decide (0 ≤ x7_1) = true := decide_eq_true c9
            clear c9
            by_cases c10 : x7_1 < (x5_1.length : Int)
            · rw [if_pos c10] at H
              have c10b0 : decide (x7_1 < (x5_1.length : Int)) = true := decide_eq_true c10
              clear c10
              obtain ⟨y123, hy123⟩ : ∃ y_ : List Int, y_ = (x5_1.set (x7_1 : Int).toNat ((Int.tmod (wrap64 (x6_1 + (wrap64 (rd x5_1 x7_1)))) 256) % 256)) := ⟨_, rfl⟩
              replace H : (spec_plusSmall.l0 k1 y123 (wrap64 (Int.tdiv (wrap64 (x6_1 + (wrap64 (rd x5_1 x7_1)))) 256)) (wrap64 (x7_1 - 1))) = some r := by first | (rw [hy123]; with_reducible exact H) | (have H2_ := (Option.bind_some _ _).symm.trans H; rw [hy123]; with_reducible exact H2_) | (have H2_ := (Option.bind_some _ _).symm.trans H; with_reducible exact H2_) | with_reducible exact H | (rw [hy123]; exact H) | exact H
              have Ny123 := Aside0.mk hy123
              clear hy123
              have H' := Aside0.mk H
              clear H
              have p122 : 0 ≤ (x7_1 : Int) := of_decide_eq_true (by first | (with_reducible assumption) | assumption)
              have q122 : x7_1 < (x5_1.length : Int) := of_decide_eq_true (by first | (with_reducible assumption) | assumption)
              obtain ⟨ad122, e122, hx122_0⟩ := Kd.at_int (Kd.R_reads' HO_5.out).2.2 x7_1 p122 q122
              cases e122
              replace p122 := eq_true p122
              replace q122 := eq_true q122
              have p11 : 0 ≤ (x7_1 : Int) := of_decide_eq_true (by first | (with_reducible assumption) | assumption)
              have q11 : (x7_1 : Int) < ((x5_1.length : Int) : Int) := of_decide_eq_true (by first | (with_reducible assumption) | assumption)
              obtain ⟨go11, co11, eo11, gb11, gl11, cl11, HG11⟩ := Kd.R_form HO_5.out (by omega)
              (first | cases eo11 | (injection eo11 with ea_ en_ ec_; (first | subst ea_ | (injection ea_ with ea_; subst ea_)); subst ec_; clear en_))
              have GB11 := Aside0.mk gb11
              have GG11 := Aside0.mk HG11
              clear gb11 gl11 HG11
              (first | simp only [add_plain] at hx122_0 | skip)
              obtain ⟨hx11_0, hf11_0⟩ := Kd.R_celln 0 HO_5.out (x7_1 : Int) p11 q11
              replace p11 := eq_true p11
              replace q11 := eq_true q11
              have HP12 := Kd.R_putg HO_5.out (x7_1 : Int) ((Int.tmod (wrap64 (x6_1 + (wrap64 (rd x5_1 x7_1)))) 256) % 256)
              go_wp2_with (first | ((with_reducible refine gate_store (t := 5) (p := 32) rfl ?_); refine store_event (t := 5) (p := 32) (v := ?vo_w13) (w1 := (wr.setCell ⟨go11, (x7_1 : Int).toNat, none⟩ (.int .u8 ((Int.tmod (wrap64 (x6_1 + (wrap64 (rd x5_1 x7_1)))) 256) % 256)))) ?hg ?ho ?hn ?hr ?_; (case ho => rfl); (case hg => rfl); (case hn => rfl); (case hr => first | (go_simp; done) | (go_simp; rfl)); intro w13 hw; have hg : wr.grownBy w13 (some go11) := (by rw [hw]; exact HP12.2); have hp_ : Kd.R (Kd.int .u8) 5 w13 w.heap.size (fun _ => True) (.slice (some ⟨go11, 0, none⟩) x5_1.length co7) y123 := (by rw [hw, Ny123.out]; exact HP12.1); clear HP12; have n0_ := Aside0.mk (hp_); have n1_ := Aside0.mk ((by rw [hw]; exact below_set (HB.out) GB11.out : Below w.heap.size w w13)); clear HO_5; clear HB; have HO_5 := n0_; have HB := n1_; clear n0_ n1_; clear hg hw hp_))
              (try simp only [← hl5_1])
              go_roundg k1
              case measure => have := HK1.out; omega
              case rel => exact ⟨(y123), (wrap64 (Int.tdiv (wrap64 (x6_1 + (wrap64 (rd x5_1 x7_1)))) 256)), (wrap64 (x7_1 - 1)), (by first | rfl | (simp; done) | (simp [*]; done)), (by first | rfl | (simp; done) | (simp [*]; done)), H', ⟨by have := HK1.out; omega⟩, ⟨by (try simp only [hl5_1]); (with_reducible repeat (first | apply Kd.R_alloc | apply Kd.R_drewN | apply Kd.R_drew)); exact HO_5.out⟩, ⟨by repeat (first | (with_reducible first | exact HB.out | apply below_alloc | apply pw_below_drewN | apply below_drew1) | exact HB.out)⟩⟩
            · rw [if_neg c10] at H
              exact absurd H (by simp)
          · rw [if_neg c9] at H
            exact absurd H (by simp)
        · rw [if_neg c8] at H
          have c8b0 : decide (0 ≤ x7_1) = false := decide_eq_false c8
          clear c8
          replace H := Option.bind_eq_some_iff.mp H
          obtain ⟨t124, A140, H⟩ := H
          replace H : (some t124) = some r := H
          have A14 := Aside0.mk A140
          clear A140
          obtain rfl := Option.some.inj H
          go_wp2_with (first | ((with_reducible refine gate_callee (f := 19) rfl ?_); refine goesL_ (some 36) rfl rfl Tryd.func19 (by kernel_rfl) rfl #[.slice Ao7 x5_1.length co7] rfl (by (try simp only [List.map_toArray, List.map_cons, List.map_nil]); first | done | rfl | (simp only [List.length_drop, List.length_take]; rfl)) ?_; (with_reducible refine (spec_trim.calls k1 _ _ x5_1 t124 _ ?side1 ?side2 A14.out).mono ?_); (case side1 => repeat (first | exact (Kd.R_reads' HO_5.out).2.2 | (with_reducible refine Kd.C_alloc ?_ _) | (with_reducible refine Kd.C_drewN ?_ _) | (with_reducible refine Kd.C_drew ?_))); (case side2 => exact (Kd.R_reads' HO_5.out).2.1); rintro e w15 ⟨v125, rfl, ho0, hb⟩; refine ⟨_, rfl, ?_⟩; have n0_ := Aside0.mk (Kd.R_elder' (by (with_reducible repeat (first | apply Kd.R_alloc | apply Kd.R_drewN | apply Kd.R_drew)); exact HO_5.out) (Kd.R_base ho0) hb); have n1_ := Aside0.mk (Kd.R_lower (Kd.R_new' ho0 (Kd.R_lt (by (with_reducible repeat (first | apply Kd.R_alloc | apply Kd.R_drewN | apply Kd.R_drew)); exact HO_5.out))) (below_size (by repeat (first | (with_reducible first | exact HB.out | apply below_alloc | apply pw_below_drewN | apply below_drew1) | exact HB.out)))); have n2_ := Aside0.mk (below_step (by repeat (first | (with_reducible first | exact HB.out | apply below_alloc | apply pw_below_drewN | apply below_drew1) | exact HB.out)) hb); clear HO_5; clear HB; have HO_5 := n0_; have HO126 := n1_; have HB := n2_; clear n0_ n1_ n2_; (try clear hb); (try clear hb2); (try clear hk); (try clear hi); (try clear ho0)))
          go_ret
          exact ⟨_, by first | rfl | (simp [errW_none, errW_some] <;> rfl) | (simp [*, errW_none, errW_some] <;> rfl), by (with_reducible repeat (first | apply Kd.R_alloc | apply Kd.R_drewN | apply Kd.R_drew)); exact Kd.R_mono HO126.out (fun _ hk => trivial), by repeat (first | (with_reducible first | exact HB.out | apply below_alloc | apply pw_below_drewN | apply below_drew1) | exact HB.out)⟩
  · rw [if_neg c3] at H
    exact absurd H (by simp)

/-! ### spec_timesSmall: function 13 -/
def spec_timesSmall.l0 : Nat → List Int → Int → List Int → Int → Int → Option (List Int)
  | 0, _, _, _, _, _ => none
  | k + 1, x0, x1, x5, x6, x7 => if x7 ≥ 0 then (if (wrap64 (x7 - 8)) ≥ 0 then (if 0 ≤ (wrap64 (x7 - 8)) then (if (wrap64 (x7 - 8)) < (x0.length : Int) then (if 0 ≤ x7 then (if x7 < (x5.length : Int) then (spec_timesSmall.l0 k x0 x1 (x5.set (x7 : Int).toNat ((Int.tmod (IntKind.u64.wrap (x6 + (IntKind.u64.wrap ((IntKind.u64.wrap (rd x0 (wrap64 (x7 - 8)))) * x1)))) 256) % 256)) (IntKind.u64.wrap (Int.tdiv (IntKind.u64.wrap (x6 + (IntKind.u64.wrap ((IntKind.u64.wrap (rd x0 (wrap64 (x7 - 8)))) * x1)))) 256)) (wrap64 (x7 - 1))) else (none)) else (none)) else (none)) else (none)) else (if 0 ≤ x7 then (if x7 < (x5.length : Int) then (spec_timesSmall.l0 k x0 x1 (x5.set (x7 : Int).toNat ((Int.tmod x6 256) % 256)) (IntKind.u64.wrap (Int.tdiv x6 256)) (wrap64 (x7 - 1))) else (none)) else (none))) else ((spec_trim.f k x5).bind fun t133 => (some t133))
def spec_timesSmall.f (k : Nat) (l0 : List Int) (a1 : Int) : Option (List Int) := if 0 ≤ (wrap64 ((l0.length : Int) + 8)) then (if (wrap64 ((l0.length : Int) + 8) : Int).toNat ≤ 281474976710656 then ((some (List.replicate (wrap64 ((l0.length : Int) + 8) : Int).toNat 0 : List Int)).bind fun y127 => (spec_timesSmall.l0 k l0 a1 y127 0 (wrap64 ((y127.length : Int) - 1)))) else (none)) else (none)
theorem spec_timesSmall.mono_l : ∀ k, (∀ y0 y1 y2 y3 y4, LeO (spec_timesSmall.l0 k y0 y1 y2 y3 y4) (spec_timesSmall.l0 (k + 1) y0 y1 y2 y3 y4))
  | 0 => fun _ _ _ _ _ r h => by simp [spec_timesSmall.l0] at h
  | k + 1 => by
    have ih0 := spec_timesSmall.mono_l k
    · intro y0 y1 y2 y3 y4
      unfold spec_timesSmall.l0
      repeat' first
      | (with_reducible exact ih0 _ _ _ _ _)
      | (with_reducible exact spec_trim.mono _ _)
      | (with_reducible exact LeO.refl _)
      | (with_reducible exact LeO.none _)
      | (with_reducible refine LeO.ite ?_ ?_)
      | (with_reducible refine LeO.bind ?_ (fun _ => ?_))
      | exact ih0 _ _ _ _ _
      | exact spec_trim.mono _ _
      | exact LeO.none _
      | refine LeO.ite ?_ ?_
      | refine LeO.bind ?_ (fun _ => ?_)
theorem spec_timesSmall.mono : ∀ a0 a1 k, LeO (spec_timesSmall.f k a0 a1) (spec_timesSmall.f (k + 1) a0 a1) := by
  intro a0 a1 k
  have ih0 := spec_timesSmall.mono_l k
  unfold spec_timesSmall.f
  repeat' first
      | (with_reducible exact ih0 _ _ _ _ _)
      | (with_reducible exact spec_trim.mono _ _)
      | (with_reducible exact LeO.refl _)
      | (with_reducible exact LeO.none _)
      | (with_reducible refine LeO.ite ?_ ?_)
      | (with_reducible refine LeO.bind ?_ (fun _ => ?_))
      | exact ih0 _ _ _ _ _
      | exact spec_trim.mono _ _
      | exact LeO.none _
      | refine LeO.ite ?_ ?_
      | refine LeO.bind ?_ (fun _ => ?_)
set_option maxHeartbeats 8000000 in
set_option maxRecDepth 100000 in
theorem spec_timesSmall.calls (k : Nat) (A0 : Option Addr) (c0 : Nat) (l0 : List Int) (a1 : Int) (r : List Int) (w : World) (hr0 : Kd.C (Kd.int .u8) w A0 l0.length l0) (hc0 : l0.length ≤ c0) (h : spec_timesSmall.f k l0 a1 = some r) :
    Calls Tryd.prog 13 #[.slice A0 l0.length c0, .int .u64 a1] w fun e w' => ∃ v0_ : Value, e = .returned (v0_) ∧ Kd.R (Kd.int .u8) 5 w' w.heap.size (fun _ => True) v0_ r ∧ Below w.heap.size w w' := by
  have HR0 := Aside0.mk hr0
  have HC0 := Aside0.mk hc0
  clear hr0 hc0
  have HB := Aside0.mk (Below.refl w.heap.size w)
  have H : (if 0 ≤ (wrap64 ((l0.length : Int) + 8)) then (if (wrap64 ((l0.length : Int) + 8) : Int).toNat ≤ 281474976710656 then ((some (List.replicate (wrap64 ((l0.length : Int) + 8) : Int).toNat 0 : List Int)).bind fun y127 => (spec_timesSmall.l0 k l0 a1 y127 0 (wrap64 ((y127.length : Int) - 1)))) else (none)) else (none)) = some r := h
  clear h
  obtain ⟨ji3, hji3⟩ : ∃ j_ : Int, (wrap64 ((l0.length : Int) + 8)) = j_ := ⟨_, rfl⟩
  replace H : (if 0 ≤ (ji3) then (if (ji3 : Int).toNat ≤ 281474976710656 then ((some (List.replicate (ji3 : Int).toNat 0 : List Int)).bind fun y127 => (spec_timesSmall.l0 k l0 a1 y127 0 (wrap64 ((y127.length : Int) - 1)))) else (none)) else (none)) = some r := by first | (rw [hji3] at H; exact H) | (simp only [hji3] at H ⊢; exact H)
  have hji3w : (IntKind.i64.wrap ((l0.length : Int) + 8)) = ji3 := (i64_w _).trans hji3
  by_cases c4 : 0 ≤ (ji3)
  · rw [if_pos c4] at H
    have c4b0 := eq_true c4
    have c4b1 : decide (0 ≤ (ji3)) = true := decide_eq_true c4
    clear c4
    by_cases c5 : (ji3 : Int).toNat ≤ 281474976710656
    · rw [if_pos c5] at H
      have c5b0 := eq_true c5
      have c5b1 : decide ((ji3 : Int).toNat ≤ 281474976710656) = true := decide_eq_true c5
      clear c5
      obtain ⟨y127, hy127⟩ : ∃ y_ : List Int, y_ = (List.replicate (ji3 : Int).toNat 0) := ⟨_, rfl⟩
      replace H : (spec_timesSmall.l0 k l0 a1 y127 0 (wrap64 ((y127.length : Int) - 1))) = some r := by first | (rw [hy127]; with_reducible exact H) | (have H2_ := (Option.bind_some _ _).symm.trans H; rw [hy127]; with_reducible exact H2_) | (have H2_ := (Option.bind_some _ _).symm.trans H; with_reducible exact H2_) | with_reducible exact H | (rw [hy127]; exact H) | exact H
      have Ny127 := Aside0.mk hy127
      clear hy127
      have H' := Aside0.mk H
      clear H
      go_enter Tryd.func13, Tryd.ntmps13
      go_wp2_with (first | ((with_reducible refine gate_dst (N := 12) rfl ?_); refine Kd.R_make (Kd.int .u8) _ 5 rfl (N := 12) rfl 22 _ _ rfl ji3 rfl rfl Tryd.underlying22 (.int .u8 0) 1 info5 rfl (by decide) (by omega) 0 (ok := fun _ => True) (okp := fun _ => True) rfl (fun _ hk => hk) trivial (of_decide_eq_true (by first | (with_reducible assumption) | assumption)) (Nat.le_trans (Nat.mul_le_mul_right _ (of_decide_eq_true (by first | (with_reducible assumption) | assumption) : ji3.toNat ≤ 281474976710656)) (by omega)) (Below.refl _ _) (Nat.le_refl _) ?_; intro v128 w6 ho7 hb hg_ hnew_; clear hg_ hnew_; (first | rw [← Ny127.out] at ho7 | (simp only [Int.reduceToNat] at ho7; rw [← Ny127.out] at ho7)); have n0_ := Aside0.mk (Kd.R_lower ho7 (below_size (by repeat (first | (with_reducible first | exact HB.out | apply below_alloc | apply pw_below_drewN | apply below_drew1) | exact HB.out)))); have n1_ := Aside0.mk (below_step (by repeat (first | (with_reducible first | exact HB.out | apply below_alloc | apply pw_below_drewN | apply below_drew1) | exact HB.out)) hb); clear HB; have HO129 := n0_; have HB := n1_; clear n0_ n1_; clear hb ho7; obtain ⟨Ao8, co8, eo8⟩ := Kd.R_slice HO129.out; subst eo8))
      go_loopg [6, 7] k (fun kq v6 v7 w' => ∃ (x5_1 : List Int) (x6_1 : Int) (x7_1 : Int), v6 = .int .u64 x6_1 ∧ v7 = .int .i64 x7_1 ∧ Aside0 (spec_timesSmall.l0 kq l0 a1 x5_1 x6_1 x7_1 = some r) ∧ Aside0 (kq ≤ k) ∧ Aside0 (Kd.R (Kd.int .u8) 5 w' w.heap.size (fun _ => True) (.slice Ao8 y127.length co8) x5_1) ∧ Aside0 (Below w.heap.size w w'))
      case atStart => exact ⟨(y127), (0), (wrap64 ((y127.length : Int) - 1)), (by first | rfl | (simp; done) | (simp [*]; done)), (by first | rfl | (simp; done) | (simp [*]; done)), H', ⟨Nat.le_refl _⟩, ⟨by (with_reducible repeat (first | apply Kd.R_alloc | apply Kd.R_drewN | apply Kd.R_drew)); exact HO129.out⟩, ⟨by repeat (first | (with_reducible first | exact HB.out | apply below_alloc | apply pw_below_drewN | apply below_drew1) | exact HB.out)⟩⟩
      case round =>
        clear H'
        try clear c1
        try clear p2
        try clear c4
        try clear c4b0
        try clear c4b1
        try clear c5
        try clear c5b0
        try clear c5b1
        try clear p6
        obtain ⟨x5_1, x6_1, x7_1, rfl, rfl, HA, HK1, HO_5, HB⟩ := hrel
        have hl5_1 := (Kd.R_reads' HO_5.out).1
        rw [hl5_1] at HO_5
        (try simp only [hl5_1])
        cases gk with
        | zero => exact absurd HA.out (by simp [spec_timesSmall.l0])
        | succ k1 =>
          have H := HA.out
          clear HA
          simp only [spec_timesSmall.l0] at H
          by_cases c9 : x7_1 ≥ 0
          · rw [if_pos c9] at H
            have c9b0 : decide (0 ≤ x7_1) = true := decide_eq_true c9
            clear c9
            by_cases c10 : (wrap64 (x7_1 - 8)) ≥ 0
            · rw [if_pos c10] at H
              have c10b0 : decide (0 ≤ (wrap64 (x7_1 - 8))) = true := decide_eq_true c10
              clear c10
              obtain ⟨ji11, hji11⟩ : ∃ j_ : Int, (wrap64 (x7_1 - 8)) = j_ := ⟨_, rfl⟩
              replace H : (if 0 ≤ (ji11) then (if (ji11) < (l0.length : Int) then (if 0 ≤ x7_1 then (if x7_1 < (x5_1.length : Int) then (spec_timesSmall.l0 k1 l0 a1 (x5_1.set (x7_1 : Int).toNat ((Int.tmod (IntKind.u64.wrap (x6_1 + (IntKind.u64.wrap ((IntKind.u64.wrap (rd l0 (ji11))) * a1)))) 256) % 256)) (IntKind.u64.wrap (Int.tdiv (IntKind.u64.wrap (x6_1 + (IntKind.u64.wrap ((IntKind.u64.wrap (rd l0 (ji11))) * a1)))) 256)) (wrap64 (x7_1 - 1))) else (none)) else (none)) else (none)) else (none)) = some r := by first | (rw [hji11] at H; exact H) | (simp only [hji11] at H ⊢; exact H)
              (try rw [hji11] at c10b0)
              have hji11w : (IntKind.i64.wrap (x7_1 - 8)) = ji11 := (i64_w _).trans hji11
              by_cases c12 : 0 ≤ (ji11)
              · rw [if_pos c12] at H
                have c12b0 : decide (0 ≤ (ji11)) = true := decide_eq_true c12
                clear c12
                by_cases c13 : (ji11) < (l0.length : Int)
                · rw [if_pos c13] at H
                  have c13b0 : decide ((ji11) < (l0.length : Int)) = true := decide_eq_true c13
                  clear c13
                  by_cases c14 : 0 ≤ x7_1
                  · rw [if_pos c14] at H
                    have c14b0 : decide (0 ≤ x7_1) = true := decide_eq_true c14
                    clear c14
                    by_cases c15 : x7_1 < (x5_1.length : Int)
                    · rw [if_pos c15] at H
                      have c15b0 : decide (x7_1 < (x5_1.length : Int)) = true := decide_eq_true c15
                      clear c15
                      obtain ⟨y131, hy131⟩ : ∃ y_ : List Int, y_ = (x5_1.set (x7_1 : Int).toNat ((Int.tmod (IntKind.u64.wrap (x6_1 + (IntKind.u64.wrap ((IntKind.u64.wrap (rd l0 (ji11))) * a1)))) 256) % 256)) := ⟨_, rfl⟩
                      replace H : (spec_timesSmall.l0 k1 l0 a1 y131 (IntKind.u64.wrap (Int.tdiv (IntKind.u64.wrap (x6_1 + (IntKind.u64.wrap ((IntKind.u64.wrap (rd l0 (ji11))) * a1)))) 256)) (wrap64 (x7_1 - 1))) = some r := by first | (rw [hy131]; with_reducible exact H) | (have H2_ := (Option.bind_some _ _).symm.trans H; rw [hy131]; with_reducible exact H2_) | (have H2_ := (Option.bind_some _ _).symm.trans H; with_reducible exact H2_) | with_reducible exact H | (rw [hy131]; exact H) | exact H
                      have Ny131 := Aside0.mk hy131
                      clear hy131
                      have H' := Aside0.mk H
                      clear H
                      have p130 : 0 ≤ ((ji11) : Int) := of_decide_eq_true (by first | (with_reducible assumption) | assumption)
                      have q130 : (ji11) < (l0.length : Int) := of_decide_eq_true (by first | (with_reducible assumption) | assumption)
                      obtain ⟨ad130, e130, hx130_0⟩ := Kd.at_int HR0.out (ji11) p130 q130
                      cases e130
                      replace hx130_0 := (HB.out.cell (World.block_lt_of_cell? w _ hx130_0)).trans hx130_0
                      replace p130 := eq_true p130
                      replace q130 := eq_true q130
                      have p16 : 0 ≤ (x7_1 : Int) := of_decide_eq_true (by first | (with_reducible assumption) | assumption)
                      have q16 : (x7_1 : Int) < ((x5_1.length : Int) : Int) := of_decide_eq_true (by first | (with_reducible assumption) | assumption)
                      obtain ⟨go16, co16, eo16, gb16, gl16, cl16, HG16⟩ := Kd.R_form HO_5.out (by omega)
                      (first | cases eo16 | (injection eo16 with ea_ en_ ec_; (first | subst ea_ | (injection ea_ with ea_; subst ea_)); subst ec_; clear en_))
                      have GB16 := Aside0.mk gb16
                      have GG16 := Aside0.mk HG16
                      clear gb16 gl16 HG16
                      obtain ⟨hx16_0, hf16_0⟩ := Kd.R_celln 0 HO_5.out (x7_1 : Int) p16 q16
                      replace p16 := eq_true p16
                      replace q16 := eq_true q16
                      have HP17 := Kd.R_putg HO_5.out (x7_1 : Int) ((Int.tmod (IntKind.u64.wrap (x6_1 + (IntKind.u64.wrap ((IntKind.u64.wrap (rd l0 (ji11))) * a1)))) 256) % 256)
                      go_wp2_with (first | ((with_reducible refine gate_store (t := 5) (p := 38) rfl ?_); refine store_event (t := 5) (p := 38) (v := ?vo_w18) (w1 := (wr.setCell ⟨go16, (x7_1 : Int).toNat, none⟩ (.int .u8 ((Int.tmod (IntKind.u64.wrap (x6_1 + (IntKind.u64.wrap ((IntKind.u64.wrap (rd l0 (ji11))) * a1)))) 256) % 256)))) ?hg ?ho ?hn ?hr ?_; (case ho => rfl); (case hg => rfl); (case hn => rfl); (case hr => first | (go_simp; done) | (go_simp; rfl)); intro w18 hw; have hg : wr.grownBy w18 (some go16) := (by rw [hw]; exact HP17.2); have hp_ : Kd.R (Kd.int .u8) 5 w18 w.heap.size (fun _ => True) (.slice (some ⟨go16, 0, none⟩) x5_1.length co8) y131 := (by rw [hw, Ny131.out]; exact HP17.1); clear HP17; have n0_ := Aside0.mk (hp_); have n1_ := Aside0.mk ((by rw [hw]; exact below_set (HB.out) GB16.out : Below w.heap.size w w18)); clear HO_5; clear HB; have HO_5 := n0_; have HB := n1_; clear n0_ n1_; clear hg hw hp_))
                      (try simp only [← hl5_1])
                      go_roundg k1
                      case measure => have := HK1.out; omega
                      case rel => exact ⟨(y131), (IntKind.u64.wrap (Int.tdiv (IntKind.u64.wrap (x6_1 + (IntKind.u64.wrap ((IntKind.u64.wrap (rd l0 (ji11))) * a1)))) 256)), (wrap64 (x7_1 - 1)), (by first | rfl | (simp; done) | (simp only [← hji11] <;> (first | rfl | simp)) | (simp [*]; done)), (by first | rfl | (simp; done) | (simp [*]; done)), H', ⟨by have := HK1.out; omega⟩, ⟨by (try simp only [hl5_1]); (with_reducible repeat (first | apply Kd.R_alloc | apply Kd.R_drewN | apply Kd.R_drew)); exact HO_5.out⟩, ⟨by repeat (first | (with_reducible first | exact HB.out | apply below_alloc | apply pw_below_drewN | apply below_drew1) | exact HB.out)⟩⟩
                    · rw [if_neg c15] at H
                      exact absurd H (by simp)
                  · rw [if_neg c14] at H
                    exact absurd H (by simp)
                · rw [if_neg c13] at H
                  exact absurd H (by simp)
              · rw [if_neg c12] at H
                exact absurd H (by simp)
            · rw [if_neg c10] at H
              have c10b0 : decide (0 ≤ (wrap64 (x7_1 - 8))) = false := decide_eq_false c10
              clear c10
              by_cases c19 : 0 ≤ x7_1
              · rw [if_pos c19] at H
                have c19b0 : decide (0 ≤ x7_1) = true := decide_eq_true c19
                clear c19
                by_cases c20 : x7_1 < (x5_1.length : Int)
                · rw [if_pos c20] at H
                  have c20b0 : decide (x7_1 < (x5_1.length : Int)) = true := decide_eq_true c20
                  clear c20
                  obtain ⟨y132, hy132⟩ : ∃ y_ : List Int, y_ = (x5_1.set (x7_1 : Int).toNat ((Int.tmod x6_1 256) % 256)) := ⟨_, rfl⟩
                  replace H : (spec_timesSmall.l0 k1 l0 a1 y132 (IntKind.u64.wrap (Int.tdiv x6_1 256)) (wrap64 (x7_1 - 1))) = some r := by first | (rw [hy132]; with_reducible exact H) | (have H2_ := (Option.bind_some _ _).symm.trans H; rw [hy132]; with_reducible exact H2_) | (have H2_ := (Option.bind_some _ _).symm.trans H; with_reducible exact H2_) | with_reducible exact H | (rw [hy132]; exact H) | exact H
                  have Ny132 := Aside0.mk hy132
                  clear hy132
                  have H' := Aside0.mk H
                  clear H
                  have p21 : 0 ≤ (x7_1 : Int) := of_decide_eq_true (by first | (with_reducible assumption) | assumption)
                  have q21 : (x7_1 : Int) < ((x5_1.length : Int) : Int) := of_decide_eq_true (by first | (with_reducible assumption) | assumption)
                  obtain ⟨go21, co21, eo21, gb21, gl21, cl21, HG21⟩ := Kd.R_form HO_5.out (by omega)
                  (first | cases eo21 | (injection eo21 with ea_ en_ ec_; (first | subst ea_ | (injection ea_ with ea_; subst ea_)); subst ec_; clear en_))
                  have GB21 := Aside0.mk gb21
                  have GG21 := Aside0.mk HG21
                  clear gb21 gl21 HG21
                  obtain ⟨hx21_0, hf21_0⟩ := Kd.R_celln 0 HO_5.out (x7_1 : Int) p21 q21
                  replace p21 := eq_true p21
                  replace q21 := eq_true q21
                  have HP22 := Kd.R_putg HO_5.out (x7_1 : Int) ((Int.tmod x6_1 256) % 256)
                  go_wp2_with (first | ((with_reducible refine gate_store (t := 5) (p := 38) rfl ?_); refine store_event (t := 5) (p := 38) (v := ?vo_w23) (w1 := (wr.setCell ⟨go21, (x7_1 : Int).toNat, none⟩ (.int .u8 ((Int.tmod x6_1 256) % 256)))) ?hg ?ho ?hn ?hr ?_; (case ho => rfl); (case hg => rfl); (case hn => rfl); (case hr => first | (go_simp; done) | (go_simp; rfl)); intro w23 hw; have hg : wr.grownBy w23 (some go21) := (by rw [hw]; exact HP22.2); have hp_ : Kd.R (Kd.int .u8) 5 w23 w.heap.size (fun _ => True) (.slice (some ⟨go21, 0, none⟩) x5_1.length co8) y132 := (by rw [hw, Ny132.out]; exact HP22.1); clear HP22; have n0_ := Aside0.mk (hp_); have n1_ := Aside0.mk ((by rw [hw]; exact below_set (HB.out) GB21.out : Below w.heap.size w w23)); clear HO_5; clear HB; have HO_5 := n0_; have HB := n1_; clear n0_ n1_; clear hg hw hp_))
                  (try simp only [← hl5_1])
                  go_roundg k1
                  case measure => have := HK1.out; omega
                  case rel => exact ⟨(y132), (IntKind.u64.wrap (Int.tdiv x6_1 256)), (wrap64 (x7_1 - 1)), (by first | rfl | (simp; done) | (simp [*]; done)), (by first | rfl | (simp; done) | (simp [*]; done)), H', ⟨by have := HK1.out; omega⟩, ⟨by (try simp only [hl5_1]); (with_reducible repeat (first | apply Kd.R_alloc | apply Kd.R_drewN | apply Kd.R_drew)); exact HO_5.out⟩, ⟨by repeat (first | (with_reducible first | exact HB.out | apply below_alloc | apply pw_below_drewN | apply below_drew1) | exact HB.out)⟩⟩
                · rw [if_neg c20] at H
                  exact absurd H (by simp)
              · rw [if_neg c19] at H
                exact absurd H (by simp)
          · rw [if_neg c9] at H
            have c9b0 : decide (0 ≤ x7_1) = false := decide_eq_false c9
            clear c9
            replace H := Option.bind_eq_some_iff.mp H
            obtain ⟨t133, A240, H⟩ := H
            replace H : (some t133) = some r := H
            have A24 := Aside0.mk A240
            clear A240
            obtain rfl := Option.some.inj H
            go_wp2_with (first | ((with_reducible refine gate_callee (f := 19) rfl ?_); refine goesL_ (some 42) rfl rfl Tryd.func19 (by kernel_rfl) rfl #[.slice Ao8 x5_1.length co8] rfl (by (try simp only [List.map_toArray, List.map_cons, List.map_nil]); first | done | rfl | (simp only [List.length_drop, List.length_take]; rfl)) ?_; (with_reducible refine (spec_trim.calls k1 _ _ x5_1 t133 _ ?side1 ?side2 A24.out).mono ?_); (case side1 => repeat (first | exact (Kd.R_reads' HO_5.out).2.2 | (with_reducible refine Kd.C_alloc ?_ _) | (with_reducible refine Kd.C_drewN ?_ _) | (with_reducible refine Kd.C_drew ?_))); (case side2 => exact (Kd.R_reads' HO_5.out).2.1); rintro e w25 ⟨v134, rfl, ho0, hb⟩; refine ⟨_, rfl, ?_⟩; have n0_ := Aside0.mk (Kd.R_elder' (by (with_reducible repeat (first | apply Kd.R_alloc | apply Kd.R_drewN | apply Kd.R_drew)); exact HO_5.out) (Kd.R_base ho0) hb); have n1_ := Aside0.mk (Kd.R_lower (Kd.R_new' ho0 (Kd.R_lt (by (with_reducible repeat (first | apply Kd.R_alloc | apply Kd.R_drewN | apply Kd.R_drew)); exact HO_5.out))) (below_size (by repeat (first | (with_reducible first | exact HB.out | apply below_alloc | apply pw_below_drewN | apply below_drew1) | exact HB.out)))); have n2_ := Aside0.mk (below_step (by repeat (first | (with_reducible first | exact HB.out | apply below_alloc | apply pw_below_drewN | apply below_drew1) | exact HB.out)) hb); clear HO_5; clear HB; have HO_5 := n0_; have HO135 := n1_; have HB := n2_; clear n0_ n1_ n2_; (try clear hb); (try clear hb2); (try clear hk); (try clear hi); (try clear ho0)))
            go_ret
            exact ⟨_, by first | rfl | (simp [errW_none, errW_some] <;> rfl) | (simp only [← hji3]; first | rfl | (simp [errW_none, errW_some] <;> rfl)) | (simp [*, errW_none, errW_some] <;> rfl), by (with_reducible repeat (first | apply Kd.R_alloc | apply Kd.R_drewN | apply Kd.R_drew)); exact Kd.R_mono HO135.out (fun _ hk => trivial), by repeat (first | (with_reducible first | exact HB.out | apply below_alloc | apply pw_below_drewN | apply below_drew1) | exact HB.out)⟩
    · rw [if_neg c5] at H
      exact absurd H (by simp)
  · rw [if_neg c4] at H
    exact absurd H (by simp)

/-! ### spec_Unbase58: function 5 -/
mutual
def spec_Unbase58.l0 : Nat → ByteArray → List Int → Int → Bool → Int → Option (List Int × Bool)
  | 0, _, _, _, _, _ => none
  | k + 1, x0, x4, x5, x6, x7 => if x7 < (x0.size : Int) then (if 0 ≤ x7 then ((spec_place.f k (⟨#[49, 50, 51, 52, 53, 54, 55, 56, 57, 65, 66, 67, 68, 69, 70, 71, 72, 74, 75, 76, 77, 78, 80, 81, 82, 83, 84, 85, 86, 87, 88, 89, 90, 97, 98, 99, 100, 101, 102, 103, 104, 105, 106, 107, 109, 110, 111, 112, 113, 114, 115, 116, 117, 118, 119, 120, 121, 122]⟩ : ByteArray) (bt x0 x7)).bind fun t142 => (if t142 < 0 then (some (([] : List Int), false)) else (if x6 = true then (spec_Unbase58.j1 k x0 x4 x5 (t142 == 0) x7 t142) else (spec_Unbase58.j1 k x0 x4 x5 false x7 t142)))) else (none)) else (if 0 ≤ x5 then (if (x5 : Int).toNat ≤ 281474976710656 then ((some (List.replicate (x5 : Int).toNat 0 : List Int)).bind fun y136 => (if y136.length + x4.length < 140737488355328 then (some ((y136 ++ x4), true)) else (none))) else (none)) else (none))
def spec_Unbase58.j1 : Nat → ByteArray → List Int → Int → Bool → Int → Int → Option (List Int × Bool)
  | 0, _, _, _, _, _, _ => none
  | k + 1, x0, x4, x5, x6, x7, x8 => if x6 = true then ((spec_timesSmall.f k x4 58).bind fun t143 => ((spec_plusSmall.f k t143 ((x8) % 256)).bind fun t146 => (spec_Unbase58.l0 k x0 t146 (wrap64 (x5 + 1)) x6 (wrap64 (x7 + 1))))) else ((spec_timesSmall.f k x4 58).bind fun t149 => ((spec_plusSmall.f k t149 ((x8) % 256)).bind fun t152 => (spec_Unbase58.l0 k x0 t152 x5 x6 (wrap64 (x7 + 1)))))
end
def spec_Unbase58.f (k : Nat) (a0 : ByteArray) : Option (List Int × Bool) := spec_Unbase58.l0 k a0 ([] : List Int) 0 true 0
theorem spec_Unbase58.mono_l : ∀ k, (∀ y0 y1 y2 y3 y4, LeO (spec_Unbase58.l0 k y0 y1 y2 y3 y4) (spec_Unbase58.l0 (k + 1) y0 y1 y2 y3 y4)) ∧ (∀ y0 y1 y2 y3 y4 y5, LeO (spec_Unbase58.j1 k y0 y1 y2 y3 y4 y5) (spec_Unbase58.j1 (k + 1) y0 y1 y2 y3 y4 y5))
  | 0 => ⟨fun _ _ _ _ _ r h => by simp [spec_Unbase58.l0] at h, fun _ _ _ _ _ _ r h => by simp [spec_Unbase58.j1] at h⟩
  | k + 1 => by
    obtain ⟨ih0, ih1⟩ := spec_Unbase58.mono_l k
    refine ⟨?_, ?_⟩
    · intro y0 y1 y2 y3 y4
      unfold spec_Unbase58.l0
      repeat' first
      | (with_reducible exact ih0 _ _ _ _ _)
      | (with_reducible exact ih1 _ _ _ _ _ _)
      | (with_reducible exact spec_place.mono _ _ _)
      | (with_reducible exact spec_plusSmall.mono _ _ _)
      | (with_reducible exact spec_timesSmall.mono _ _ _)
      | (with_reducible exact LeO.refl _)
      | (with_reducible exact LeO.none _)
      | (with_reducible refine LeO.ite ?_ ?_)
      | (with_reducible refine LeO.bind ?_ (fun _ => ?_))
      | exact ih0 _ _ _ _ _
      | exact ih1 _ _ _ _ _ _
      | exact spec_place.mono _ _ _
      | exact spec_plusSmall.mono _ _ _
      | exact spec_timesSmall.mono _ _ _
      | exact LeO.none _
      | refine LeO.ite ?_ ?_
      | refine LeO.bind ?_ (fun _ => ?_)
    · intro y0 y1 y2 y3 y4 y5
      unfold spec_Unbase58.j1
      repeat' first
      | (with_reducible exact ih0 _ _ _ _ _)
      | (with_reducible exact ih1 _ _ _ _ _ _)
      | (with_reducible exact spec_place.mono _ _ _)
      | (with_reducible exact spec_plusSmall.mono _ _ _)
      | (with_reducible exact spec_timesSmall.mono _ _ _)
      | (with_reducible exact LeO.refl _)
      | (with_reducible exact LeO.none _)
      | (with_reducible refine LeO.ite ?_ ?_)
      | (with_reducible refine LeO.bind ?_ (fun _ => ?_))
      | exact ih0 _ _ _ _ _
      | exact ih1 _ _ _ _ _ _
      | exact spec_place.mono _ _ _
      | exact spec_plusSmall.mono _ _ _
      | exact spec_timesSmall.mono _ _ _
      | exact LeO.none _
      | refine LeO.ite ?_ ?_
      | refine LeO.bind ?_ (fun _ => ?_)
theorem spec_Unbase58.mono : ∀ a0 k, LeO (spec_Unbase58.f k a0) (spec_Unbase58.f (k + 1) a0) := by
  intro a0 k
  obtain ⟨ih0, ih1⟩ := spec_Unbase58.mono_l k
  unfold spec_Unbase58.f
  repeat' first
      | (with_reducible exact ih0 _ _ _ _ _)
      | (with_reducible exact ih1 _ _ _ _ _ _)
      | (with_reducible exact spec_place.mono _ _ _)
      | (with_reducible exact spec_plusSmall.mono _ _ _)
      | (with_reducible exact spec_timesSmall.mono _ _ _)
      | (with_reducible exact LeO.refl _)
      | (with_reducible exact LeO.none _)
      | (with_reducible refine LeO.ite ?_ ?_)
      | (with_reducible refine LeO.bind ?_ (fun _ => ?_))
      | exact ih0 _ _ _ _ _
      | exact ih1 _ _ _ _ _ _
      | exact spec_place.mono _ _ _
      | exact spec_plusSmall.mono _ _ _
      | exact spec_timesSmall.mono _ _ _
      | exact LeO.none _
      | refine LeO.ite ?_ ?_
      | refine LeO.bind ?_ (fun _ => ?_)
set_option maxHeartbeats 8000000 in
set_option maxRecDepth 100000 in
theorem spec_Unbase58.calls (k : Nat) (a0 : ByteArray) (r1 : List Int) (r2 : Bool) (w : World) (h : spec_Unbase58.f k a0 = some (r1, r2)) :
    Calls Tryd.prog 5 #[.string a0] w fun e w' => ∃ v0_ : Value, e = .returned (.tuple #[v0_, .bool r2]) ∧ Kd.R (Kd.int .u8) 5 w' w.heap.size (fun _ => True) v0_ r1 ∧ Below w.heap.size w w' := by
  have HB := Aside0.mk (Below.refl w.heap.size w)
  have H : (spec_Unbase58.l0 k a0 ([] : List Int) 0 true 0) = some (r1, r2) := h
  clear h
  have H' := Aside0.mk H
  clear H
  go_enter Tryd.func5, Tryd.ntmps5
  go_wp2
  go_loopg [4, 5, 6, 7] k (fun kq v4 v5 v6 v7 w' => ∃ (x4_1 : List Int) (x5_1 : Int) (x6_1 : Bool) (x7_1 : Int), v5 = .int .i64 x5_1 ∧ v6 = .bool x6_1 ∧ v7 = .int .i64 x7_1 ∧ Aside0 (spec_Unbase58.l0 kq a0 x4_1 x5_1 x6_1 x7_1 = some (r1, r2)) ∧ Aside0 (kq ≤ k) ∧ Aside0 (Kd.R (Kd.int .u8) 5 w' w.heap.size (fun _ => True) v4 x4_1) ∧ Aside0 (Below w.heap.size w w'))
  case atStart => exact ⟨(([] : List Int)), (0), (true), (0), (by first | rfl | (simp; done) | (simp [*]; done)), (by first | rfl | (simp; done) | (simp [*]; done)), (by first | rfl | (simp; done) | (simp [*]; done)), H', ⟨Nat.le_refl _⟩, ⟨by first | exact Kd.R_nil _ _ _ _ _ | exact Kd.N_nil _ _ _ _ _ | exact Kd.V_nil _ _ _ _ _ | exact Kd.Q_nil _ _ _ _ _ | exact Kd.S_nil _ _ _ _ _⟩, ⟨by repeat (first | (with_reducible first | exact HB.out | apply below_alloc | apply pw_below_drewN | apply below_drew1) | exact HB.out)⟩⟩
  case round =>
    clear H'
    obtain ⟨x4_1, x5_1, x6_1, x7_1, rfl, rfl, rfl, HA, HK1, HO_4, HB⟩ := hrel
    cases gk with
    | zero => exact absurd HA.out (by simp [spec_Unbase58.l0])
    | succ k1 =>
      have H := HA.out
      clear HA
      simp only [spec_Unbase58.l0] at H
      by_cases c2 : x7_1 < (a0.size : Int)
      · rw [if_pos c2] at H
        have c2b0 : decide (x7_1 < (a0.size : Int)) = true := decide_eq_true c2
        clear c2
        by_cases c3 : 0 ≤ x7_1
        · rw [if_pos c3] at H
          have c3b0 : decide (0 ≤ x7_1) = true := decide_eq_true c3
          clear c3
          replace H := Option.bind_eq_some_iff.mp H
          obtain ⟨t142, A50, H⟩ := H
          replace H : (if t142 < 0 then (some (([] : List Int), false)) else (if x6_1 = true then (spec_Unbase58.j1 k1 a0 x4_1 x5_1 (t142 == 0) x7_1 t142) else (spec_Unbase58.j1 k1 a0 x4_1 x5_1 false x7_1 t142))) = some (r1, r2) := H
          have A5 := Aside0.mk A50
          clear A50
          by_cases c6 : t142 < 0
          · rw [if_pos c6] at H
            have c6b0 : decide (t142 < 0) = true := decide_eq_true c6
            clear c6
            simp only [Option.some.injEq, Prod.mk.injEq] at H
            obtain ⟨rfl, rfl⟩ := H
            have p4 : 0 ≤ (x7_1 : Int) := of_decide_eq_true (by first | (with_reducible assumption) | assumption)
            have q4 : x7_1 < (a0.size : Int) := of_decide_eq_true (by first | (with_reducible assumption) | assumption)
            have hx4 := bt_at a0 x7_1
            replace p4 := eq_true p4
            replace q4 := eq_true q4
            go_wp2_with (first | ((with_reducible refine gate_callee (f := 11) rfl ?_); refine goesL_ (some 18) rfl rfl Tryd.func11 (by kernel_rfl) rfl #[.string (⟨#[49, 50, 51, 52, 53, 54, 55, 56, 57, 65, 66, 67, 68, 69, 70, 71, 72, 74, 75, 76, 77, 78, 80, 81, 82, 83, 84, 85, 86, 87, 88, 89, 90, 97, 98, 99, 100, 101, 102, 103, 104, 105, 106, 107, 109, 110, 111, 112, 113, 114, 115, 116, 117, 118, 119, 120, 121, 122]⟩ : ByteArray), .int .u8 (bt a0 x7_1)] rfl (by (try simp only [List.map_toArray, List.map_cons, List.map_nil]); first | done | rfl | (simp only [List.length_drop, List.length_take]; rfl)) ?_; (with_reducible refine (spec_place.calls k1 (⟨#[49, 50, 51, 52, 53, 54, 55, 56, 57, 65, 66, 67, 68, 69, 70, 71, 72, 74, 75, 76, 77, 78, 80, 81, 82, 83, 84, 85, 86, 87, 88, 89, 90, 97, 98, 99, 100, 101, 102, 103, 104, 105, 106, 107, 109, 110, 111, 112, 113, 114, 115, 116, 117, 118, 119, 120, 121, 122]⟩ : ByteArray) (bt a0 x7_1) t142 _ A5.out).mono ?_); rintro e w' ⟨rfl, ⟨nd, rfl⟩⟩; refine ⟨_, rfl, ?_⟩))
            go_ret2
            exact ⟨_, by first | rfl | (simp [errW_none, errW_some] <;> rfl) | (simp [*, errW_none, errW_some] <;> rfl), by first | exact Kd.R_nil _ _ _ _ _ | exact Kd.N_nil _ _ _ _ _ | exact Kd.V_nil _ _ _ _ _ | exact Kd.Q_nil _ _ _ _ _ | exact Kd.S_nil _ _ _ _ _, by repeat (first | (with_reducible first | exact HB.out | apply below_alloc | apply pw_below_drewN | apply below_drew1) | exact HB.out)⟩
          · rw [if_neg c6] at H
            have c6b0 : decide (t142 < 0) = false := decide_eq_false c6
            clear c6
            have HC7 := Aside0.mk H
            clear H
            have p4 : 0 ≤ (x7_1 : Int) := of_decide_eq_true (by first | (with_reducible assumption) | assumption)
            have q4 : x7_1 < (a0.size : Int) := of_decide_eq_true (by first | (with_reducible assumption) | assumption)
            have hx4 := bt_at a0 x7_1
            replace p4 := eq_true p4
            replace q4 := eq_true q4
            go_upto_region 9 with (first | ((with_reducible refine gate_callee (f := 11) rfl ?_); refine goesL_ (some 18) rfl rfl Tryd.func11 (by kernel_rfl) rfl #[.string (⟨#[49, 50, 51, 52, 53, 54, 55, 56, 57, 65, 66, 67, 68, 69, 70, 71, 72, 74, 75, 76, 77, 78, 80, 81, 82, 83, 84, 85, 86, 87, 88, 89, 90, 97, 98, 99, 100, 101, 102, 103, 104, 105, 106, 107, 109, 110, 111, 112, 113, 114, 115, 116, 117, 118, 119, 120, 121, 122]⟩ : ByteArray), .int .u8 (bt a0 x7_1)] rfl (by (try simp only [List.map_toArray, List.map_cons, List.map_nil]); first | done | rfl | (simp only [List.length_drop, List.length_take]; rfl)) ?_; (with_reducible refine (spec_place.calls k1 (⟨#[49, 50, 51, 52, 53, 54, 55, 56, 57, 65, 66, 67, 68, 69, 70, 71, 72, 74, 75, 76, 77, 78, 80, 81, 82, 83, 84, 85, 86, 87, 88, 89, 90, 97, 98, 99, 100, 101, 102, 103, 104, 105, 106, 107, 109, 110, 111, 112, 113, 114, 115, 116, 117, 118, 119, 120, 121, 122]⟩ : ByteArray) (bt a0 x7_1) t142 _ A5.out).mono ?_); rintro e w' ⟨rfl, ⟨nd, rfl⟩⟩; refine ⟨_, rfl, ?_⟩))
            (try simp only [Act.put, List.setIfInBounds_toArray, List.set_cons_zero, List.set_cons_succ])
            go_cut [6] (fun v6 wc => ∃ (kq : Nat) (x6_6 : Bool), v6 = .bool x6_6 ∧ Aside0 (spec_Unbase58.j1 kq a0 x4_1 x5_1 x6_6 x7_1 t142 = some (r1, r2)) ∧ Aside0 (kq ≤ k1) ∧ Aside0 (Kd.R (Kd.int .u8) 5 wc w.heap.size (fun _ => True) u4 x4_1) ∧ Aside0 (Below w.heap.size w wc))
            case first =>
              have H := HC7.out
              clear HC7
              by_cases c8 : x6_1 = true
              · subst c8
                have H1 : (spec_Unbase58.j1 k1 a0 x4_1 x5_1 (t142 == 0) x7_1 t142) = some (r1, r2) := by rw [if_pos rfl] at H; exact H
                clear H
                have H := H1
                clear H1
                have H' := Aside0.mk H
                clear H
                go_wp2
                go_meet
                case rel => exact ⟨_, ((t142 == 0)), (by first | rfl | (simp; done) | (simp [*]; done)), H', ⟨by have := HK1.out; first | omega | exact Nat.le_refl _⟩, ⟨by (with_reducible repeat (first | apply Kd.R_alloc | apply Kd.R_drewN | apply Kd.R_drew)); exact HO_4.out⟩, ⟨by repeat (first | (with_reducible first | exact HB.out | apply below_alloc | apply pw_below_drewN | apply below_drew1) | exact HB.out)⟩⟩
              · replace c8 := Bool.eq_false_iff.mpr c8
                subst c8
                have H1 : (spec_Unbase58.j1 k1 a0 x4_1 x5_1 false x7_1 t142) = some (r1, r2) := by rw [if_neg (show ¬ (false = true) by decide)] at H; exact H
                clear H
                have H := H1
                clear H1
                have H' := Aside0.mk H
                clear H
                go_wp2
                go_meet
                case rel => exact ⟨_, (false), (by first | rfl | (simp; done) | (simp [*]; done)), H', ⟨by have := HK1.out; first | omega | exact Nat.le_refl _⟩, ⟨by (with_reducible repeat (first | apply Kd.R_alloc | apply Kd.R_drewN | apply Kd.R_drew)); exact HO_4.out⟩, ⟨by repeat (first | (with_reducible first | exact HB.out | apply below_alloc | apply pw_below_drewN | apply below_drew1) | exact HB.out)⟩⟩
            case rest =>
              clear HC7
              try clear c1
              try clear c2
              try clear c2b0
              try clear p2
              try clear c3
              try clear c3b0
              try clear p4
              try clear q4
              try clear hx4
              try clear c5
              try clear c6
              try clear c6b0
              try clear c8
              try clear p4
              try clear q4
              obtain ⟨kq, x6_6, rfl, HA, HJ6, HO_4, HB⟩ := hcut
              cases kq with
              | zero => exact absurd HA.out (by simp [spec_Unbase58.j1])
              | succ kj6 =>
                have H := HA.out
                clear HA
                simp only [spec_Unbase58.j1] at H
                by_cases c9 : x6_6 = true
                · subst c9
                  have H1 : ((spec_timesSmall.f kj6 x4_1 58).bind fun t143 => ((spec_plusSmall.f kj6 t143 ((t142) % 256)).bind fun t146 => (spec_Unbase58.l0 kj6 a0 t146 (wrap64 (x5_1 + 1)) true (wrap64 (x7_1 + 1))))) = some (r1, r2) := by rw [if_pos rfl] at H; exact H
                  clear H
                  have H := H1
                  clear H1
                  replace H := Option.bind_eq_some_iff.mp H
                  obtain ⟨t143, A100, H⟩ := H
                  replace H : ((spec_plusSmall.f kj6 t143 ((t142) % 256)).bind fun t146 => (spec_Unbase58.l0 kj6 a0 t146 (wrap64 (x5_1 + 1)) true (wrap64 (x7_1 + 1)))) = some (r1, r2) := H
                  have A10 := Aside0.mk A100
                  clear A100
                  replace H := Option.bind_eq_some_iff.mp H
                  obtain ⟨t146, A110, H⟩ := H
                  replace H : (spec_Unbase58.l0 kj6 a0 t146 (wrap64 (x5_1 + 1)) true (wrap64 (x7_1 + 1))) = some (r1, r2) := H
                  have A11 := Aside0.mk A110
                  clear A110
                  have H' := Aside0.mk H
                  clear H
                  obtain ⟨Ao12, co12, eo12⟩ := Kd.R_slice HO_4.out
                  subst eo12
                  go_wp2_with (first | ((with_reducible refine gate_callee (f := 13) rfl ?_); refine goesL_ (some 30) rfl rfl Tryd.func13 (by kernel_rfl) rfl #[.slice Ao12 x4_1.length co12, .int .u64 58] rfl (by (try simp only [List.map_toArray, List.map_cons, List.map_nil]); first | done | rfl | (simp only [List.length_drop, List.length_take]; rfl)) ?_; (with_reducible refine (spec_timesSmall.calls kj6 _ _ x4_1 58 t143 _ ?side1 ?side2 A10.out).mono ?_); (case side1 => repeat (first | exact (Kd.R_reads' HO_4.out).2.2 | (with_reducible refine Kd.C_alloc ?_ _) | (with_reducible refine Kd.C_drewN ?_ _) | (with_reducible refine Kd.C_drew ?_))); (case side2 => exact (Kd.R_reads' HO_4.out).2.1); rintro e w13 ⟨v144, rfl, ho0, hb⟩; refine ⟨_, rfl, ?_⟩; have n0_ := Aside0.mk (Kd.R_elder' (by (with_reducible repeat (first | apply Kd.R_alloc | apply Kd.R_drewN | apply Kd.R_drew)); exact HO_4.out) (Kd.R_base ho0) hb); have n1_ := Aside0.mk (Kd.R_lower (Kd.R_new' ho0 (Kd.R_lt (by (with_reducible repeat (first | apply Kd.R_alloc | apply Kd.R_drewN | apply Kd.R_drew)); exact HO_4.out))) (below_size (by repeat (first | (with_reducible first | exact HB.out | apply below_alloc | apply pw_below_drewN | apply below_drew1) | exact HB.out)))); have n2_ := Aside0.mk (below_step (by repeat (first | (with_reducible first | exact HB.out | apply below_alloc | apply pw_below_drewN | apply below_drew1) | exact HB.out)) hb); clear HO_4; clear HB; have HO_4 := n0_; have HO145 := n1_; have HB := n2_; clear n0_ n1_ n2_; (try clear hb); (try clear hb2); (try clear hk); (try clear hi); (try clear ho0); obtain ⟨Ao14, co14, eo14⟩ := Kd.R_slice HO145.out; subst eo14) | ((with_reducible refine gate_callee (f := 12) rfl ?_); refine goesL_ (some 33) rfl rfl Tryd.func12 (by kernel_rfl) rfl #[.slice Ao14 t143.length co14, .int .u8 ((t142) % 256)] rfl (by (try simp only [List.map_toArray, List.map_cons, List.map_nil]); first | done | rfl | (simp only [List.length_drop, List.length_take]; rfl)) ?_; (with_reducible refine (spec_plusSmall.calls kj6 _ _ t143 ((t142) % 256) t146 _ ?side1 ?side2 A11.out).mono ?_); (case side1 => repeat (first | exact (Kd.R_reads' HO145.out).2.2 | (with_reducible refine Kd.C_alloc ?_ _) | (with_reducible refine Kd.C_drewN ?_ _) | (with_reducible refine Kd.C_drew ?_))); (case side2 => exact (Kd.R_reads' HO145.out).2.1); rintro e w15 ⟨v147, rfl, ho0, hb⟩; refine ⟨_, rfl, ?_⟩; have n0_ := Aside0.mk (Kd.R_elder' (by (with_reducible repeat (first | apply Kd.R_alloc | apply Kd.R_drewN | apply Kd.R_drew)); exact HO_4.out) (Kd.R_base ho0) hb); have n1_ := Aside0.mk (Kd.R_elder' (by (with_reducible repeat (first | apply Kd.R_alloc | apply Kd.R_drewN | apply Kd.R_drew)); exact HO145.out) (Kd.R_base ho0) hb); have n2_ := Aside0.mk (Kd.R_lower (Kd.R_new' (Kd.R_new' ho0 (Kd.R_lt (by (with_reducible repeat (first | apply Kd.R_alloc | apply Kd.R_drewN | apply Kd.R_drew)); exact HO_4.out))) (Kd.R_lt (by (with_reducible repeat (first | apply Kd.R_alloc | apply Kd.R_drewN | apply Kd.R_drew)); exact HO145.out))) (below_size (by repeat (first | (with_reducible first | exact HB.out | apply below_alloc | apply pw_below_drewN | apply below_drew1) | exact HB.out)))); have n3_ := Aside0.mk (below_step (by repeat (first | (with_reducible first | exact HB.out | apply below_alloc | apply pw_below_drewN | apply below_drew1) | exact HB.out)) hb); clear HO_4; clear HO145; clear HB; have HO_4 := n0_; have HO145 := n1_; have HO148 := n2_; have HB := n3_; clear n0_ n1_ n2_ n3_; (try clear hb); (try clear hb2); (try clear hk); (try clear hi); (try clear ho0)))
                  go_roundg kj6
                  case measure => have := HK1.out; have := HJ6.out; omega
                  case rel => exact ⟨(t146), (wrap64 (x5_1 + 1)), (true), (wrap64 (x7_1 + 1)), (by first | rfl | (simp; done) | (simp [*]; done)), (by first | rfl | (simp; done) | (simp [*]; done)), (by first | rfl | (simp; done) | (simp [*]; done)), H', ⟨by have := HK1.out; have := HJ6.out; omega⟩, ⟨by (with_reducible repeat (first | apply Kd.R_alloc | apply Kd.R_drewN | apply Kd.R_drew)); exact Kd.R_mono HO148.out (fun _ hk => trivial)⟩, ⟨by repeat (first | (with_reducible first | exact HB.out | apply below_alloc | apply pw_below_drewN | apply below_drew1) | exact HB.out)⟩⟩
                · replace c9 := Bool.eq_false_iff.mpr c9
                  subst c9
                  have H1 : ((spec_timesSmall.f kj6 x4_1 58).bind fun t149 => ((spec_plusSmall.f kj6 t149 ((t142) % 256)).bind fun t152 => (spec_Unbase58.l0 kj6 a0 t152 x5_1 false (wrap64 (x7_1 + 1))))) = some (r1, r2) := by rw [if_neg (show ¬ (false = true) by decide)] at H; exact H
                  clear H
                  have H := H1
                  clear H1
                  replace H := Option.bind_eq_some_iff.mp H
                  obtain ⟨t149, A160, H⟩ := H
                  replace H : ((spec_plusSmall.f kj6 t149 ((t142) % 256)).bind fun t152 => (spec_Unbase58.l0 kj6 a0 t152 x5_1 false (wrap64 (x7_1 + 1)))) = some (r1, r2) := H
                  have A16 := Aside0.mk A160
                  clear A160
                  replace H := Option.bind_eq_some_iff.mp H
                  obtain ⟨t152, A170, H⟩ := H
                  replace H : (spec_Unbase58.l0 kj6 a0 t152 x5_1 false (wrap64 (x7_1 + 1))) = some (r1, r2) := H
                  have A17 := Aside0.mk A170
                  clear A170
                  have H' := Aside0.mk H
                  clear H
                  obtain ⟨Ao18, co18, eo18⟩ := Kd.R_slice HO_4.out
                  subst eo18
                  go_wp2_with (first | ((with_reducible refine gate_callee (f := 13) rfl ?_); refine goesL_ (some 30) rfl rfl Tryd.func13 (by kernel_rfl) rfl #[.slice Ao18 x4_1.length co18, .int .u64 58] rfl (by (try simp only [List.map_toArray, List.map_cons, List.map_nil]); first | done | rfl | (simp only [List.length_drop, List.length_take]; rfl)) ?_; (with_reducible refine (spec_timesSmall.calls kj6 _ _ x4_1 58 t149 _ ?side1 ?side2 A16.out).mono ?_); (case side1 => repeat (first | exact (Kd.R_reads' HO_4.out).2.2 | (with_reducible refine Kd.C_alloc ?_ _) | (with_reducible refine Kd.C_drewN ?_ _) | (with_reducible refine Kd.C_drew ?_))); (case side2 => exact (Kd.R_reads' HO_4.out).2.1); rintro e w19 ⟨v150, rfl, ho0, hb⟩; refine ⟨_, rfl, ?_⟩; have n0_ := Aside0.mk (Kd.R_elder' (by (with_reducible repeat (first | apply Kd.R_alloc | apply Kd.R_drewN | apply Kd.R_drew)); exact HO_4.out) (Kd.R_base ho0) hb); have n1_ := Aside0.mk (Kd.R_lower (Kd.R_new' ho0 (Kd.R_lt (by (with_reducible repeat (first | apply Kd.R_alloc | apply Kd.R_drewN | apply Kd.R_drew)); exact HO_4.out))) (below_size (by repeat (first | (with_reducible first | exact HB.out | apply below_alloc | apply pw_below_drewN | apply below_drew1) | exact HB.out)))); have n2_ := Aside0.mk (below_step (by repeat (first | (with_reducible first | exact HB.out | apply below_alloc | apply pw_below_drewN | apply below_drew1) | exact HB.out)) hb); clear HO_4; clear HB; have HO_4 := n0_; have HO151 := n1_; have HB := n2_; clear n0_ n1_ n2_; (try clear hb); (try clear hb2); (try clear hk); (try clear hi); (try clear ho0); obtain ⟨Ao20, co20, eo20⟩ := Kd.R_slice HO151.out; subst eo20) | ((with_reducible refine gate_callee (f := 12) rfl ?_); refine goesL_ (some 33) rfl rfl Tryd.func12 (by kernel_rfl) rfl #[.slice Ao20 t149.length co20, .int .u8 ((t142) % 256)] rfl (by (try simp only [List.map_toArray, List.map_cons, List.map_nil]); first | done | rfl | (simp only [List.length_drop, List.length_take]; rfl)) ?_; (with_reducible refine (spec_plusSmall.calls kj6 _ _ t149 ((t142) % 256) t152 _ ?side1 ?side2 A17.out).mono ?_); (case side1 => repeat (first | exact (Kd.R_reads' HO151.out).2.2 | (with_reducible refine Kd.C_alloc ?_ _) | (with_reducible refine Kd.C_drewN ?_ _) | (with_reducible refine Kd.C_drew ?_))); (case side2 => exact (Kd.R_reads' HO151.out).2.1); rintro e w21 ⟨v153, rfl, ho0, hb⟩; refine ⟨_, rfl, ?_⟩; have n0_ := Aside0.mk (Kd.R_elder' (by (with_reducible repeat (first | apply Kd.R_alloc | apply Kd.R_drewN | apply Kd.R_drew)); exact HO_4.out) (Kd.R_base ho0) hb); have n1_ := Aside0.mk (Kd.R_elder' (by (with_reducible repeat (first | apply Kd.R_alloc | apply Kd.R_drewN | apply Kd.R_drew)); exact HO151.out) (Kd.R_base ho0) hb); have n2_ := Aside0.mk (Kd.R_lower (Kd.R_new' (Kd.R_new' ho0 (Kd.R_lt (by (with_reducible repeat (first | apply Kd.R_alloc | apply Kd.R_drewN | apply Kd.R_drew)); exact HO_4.out))) (Kd.R_lt (by (with_reducible repeat (first | apply Kd.R_alloc | apply Kd.R_drewN | apply Kd.R_drew)); exact HO151.out))) (below_size (by repeat (first | (with_reducible first | exact HB.out | apply below_alloc | apply pw_below_drewN | apply below_drew1) | exact HB.out)))); have n3_ := Aside0.mk (below_step (by repeat (first | (with_reducible first | exact HB.out | apply below_alloc | apply pw_below_drewN | apply below_drew1) | exact HB.out)) hb); clear HO_4; clear HO151; clear HB; have HO_4 := n0_; have HO151 := n1_; have HO154 := n2_; have HB := n3_; clear n0_ n1_ n2_ n3_; (try clear hb); (try clear hb2); (try clear hk); (try clear hi); (try clear ho0)))
                  go_roundg kj6
                  case measure => have := HK1.out; have := HJ6.out; omega
                  case rel => exact ⟨(t152), (x5_1), (false), (wrap64 (x7_1 + 1)), (by first | rfl | (simp; done) | (simp [*]; done)), (by first | rfl | (simp; done) | (simp [*]; done)), (by first | rfl | (simp; done) | (simp [*]; done)), H', ⟨by have := HK1.out; have := HJ6.out; omega⟩, ⟨by (with_reducible repeat (first | apply Kd.R_alloc | apply Kd.R_drewN | apply Kd.R_drew)); exact Kd.R_mono HO154.out (fun _ hk => trivial)⟩, ⟨by repeat (first | (with_reducible first | exact HB.out | apply below_alloc | apply pw_below_drewN | apply below_drew1) | exact HB.out)⟩⟩
        · rw [if_neg c3] at H
          exact absurd H (by simp)
      · rw [if_neg c2] at H
        have c2b0 : decide (x7_1 < (a0.size : Int)) = false := decide_eq_false c2
        clear c2
        by_cases c22 : 0 ≤ x5_1
        · rw [if_pos c22] at H
          have c22b0 := eq_true c22
          have c22b1 : decide (0 ≤ x5_1) = true := decide_eq_true c22
          clear c22
          by_cases c23 : (x5_1 : Int).toNat ≤ 281474976710656
          · rw [if_pos c23] at H
            have c23b0 := eq_true c23
            have c23b1 : decide ((x5_1 : Int).toNat ≤ 281474976710656) = true := decide_eq_true c23
            clear c23
            obtain ⟨y136, hy136⟩ : ∃ y_ : List Int, y_ = (List.replicate (x5_1 : Int).toNat 0) := ⟨_, rfl⟩
            replace H : (if y136.length + x4_1.length < 140737488355328 then (some ((y136 ++ x4_1), true)) else (none)) = some (r1, r2) := by first | (rw [hy136]; with_reducible exact H) | (have H2_ := (Option.bind_some _ _).symm.trans H; rw [hy136]; with_reducible exact H2_) | (have H2_ := (Option.bind_some _ _).symm.trans H; with_reducible exact H2_) | with_reducible exact H | (rw [hy136]; exact H) | exact H
            have Ny136 := Aside0.mk hy136
            clear hy136
            by_cases c24 : y136.length + x4_1.length < 140737488355328
            · rw [if_pos c24] at H
              have LMc24 := Aside0.mk c24
              clear c24
              obtain ⟨y139, hy139⟩ : ∃ y_ : List Int, y_ = (y136 ++ x4_1) := ⟨_, rfl⟩
              replace H : (some (y139, true)) = some (r1, r2) := by first | (rw [hy139]; with_reducible exact H) | (have H2_ := (Option.bind_some _ _).symm.trans H; rw [hy139]; with_reducible exact H2_) | (have H2_ := (Option.bind_some _ _).symm.trans H; with_reducible exact H2_) | with_reducible exact H | (rw [hy139]; exact H) | exact H
              have Ny139 := Aside0.mk hy139
              clear hy139
              simp only [Option.some.injEq, Prod.mk.injEq] at H
              obtain ⟨rfl, rfl⟩ := H
              go_wp2_with (first | ((with_reducible refine gate_dst (N := 35) rfl ?_); refine Kd.R_make (Kd.int .u8) _ 5 rfl (N := 35) rfl 22 _ _ rfl x5_1 rfl rfl Tryd.underlying22 (.int .u8 0) 1 info5 rfl (by decide) (by omega) 0 (ok := fun _ => True) (okp := fun _ => True) rfl (fun _ hk => hk) trivial (of_decide_eq_true (by first | (with_reducible assumption) | assumption)) (Nat.le_trans (Nat.mul_le_mul_right _ (of_decide_eq_true (by first | (with_reducible assumption) | assumption) : x5_1.toNat ≤ 281474976710656)) (by omega)) (Below.refl _ _) (Nat.le_refl _) ?_; intro v137 w25 ho26 hb hg_ hnew_; clear hg_ hnew_; (first | rw [← Ny136.out] at ho26 | (simp only [Int.reduceToNat] at ho26; rw [← Ny136.out] at ho26)); have n0_ := Aside0.mk (Kd.R_elder' (by (with_reducible repeat (first | apply Kd.R_alloc | apply Kd.R_drewN | apply Kd.R_drew)); exact HO_4.out) (Kd.R_base ho26) hb); have n1_ := Aside0.mk (Kd.R_lower (Kd.R_new' ho26 (Kd.R_lt (by (with_reducible repeat (first | apply Kd.R_alloc | apply Kd.R_drewN | apply Kd.R_drew)); exact HO_4.out))) (below_size (by repeat (first | (with_reducible first | exact HB.out | apply below_alloc | apply pw_below_drewN | apply below_drew1) | exact HB.out)))); have n2_ := Aside0.mk (below_step (by repeat (first | (with_reducible first | exact HB.out | apply below_alloc | apply pw_below_drewN | apply below_drew1) | exact HB.out)) hb); clear HO_4; clear HB; have HO_4 := n0_; have HO138 := n1_; have HB := n2_; clear n0_ n1_ n2_; clear hb ho26; obtain ⟨Ao28, co28, eo28⟩ := Kd.R_slice HO_4.out; subst eo28) | ((with_reducible refine gate_builtin (b := .append) (xs := #[.tmp 35, .tmp 36]) rfl ?_); at_builtin; refine Kd.R_append_rows (Kd.int .u8) (w0 := w) w.heap.size rfl (.tmp 35) (.tmp 36) 22 5 (.int .u8 0) 1 rfl Tryd.underlying22 info5 rfl (by decide) (by omega) v137 y136 x4_1 _ _ _ (fun k_ => some k_ ≠ (.slice Ao28 x4_1.length co28 : Value).ownBlock) (fun _ => False) rfl rfl ?aO ?aR (fun _ _ h => h) (fun _ h => h.elim) ?aF ?aB ?aS ?aL ?_; (case aR => repeat (first | exact (Kd.R_reads' HO_4.out).2.2 | (with_reducible refine Kd.C_alloc ?_ _) | (with_reducible refine Kd.C_drewN ?_ _) | (with_reducible refine Kd.C_drew ?_))); (case aB => exact (by repeat (first | (with_reducible first | exact HB.out | apply below_alloc | apply pw_below_drewN | apply below_drew1) | exact HB.out))); (case aF => exact (fun k_ hk => Kd.fresh' (Kd.R_lt (by (with_reducible repeat (first | apply Kd.R_alloc | apply Kd.R_drewN | apply Kd.R_drew)); exact HO_4.out)) k_ hk)); (case aO => exact (by (with_reducible repeat (first | apply Kd.R_alloc | apply Kd.R_drewN | apply Kd.R_drew)); exact Kd.R_mono HO138.out (fun _ hk => hk.2))); (case aS => exact (below_size (by repeat (first | (with_reducible first | exact HB.out | apply below_alloc | apply pw_below_drewN | apply below_drew1) | exact HB.out)))); (case aL => have := LMc24.out; omega); intro v140 w27 ho hb hg hat; rw [← Ny139.out] at ho; have n0_ := Aside0.mk (Kd.R_after (ok := (fun _ => True)) (by (with_reducible repeat (first | apply Kd.R_alloc | apply Kd.R_drewN | apply Kd.R_drew)); exact HO_4.out) hg hat); have n1_ := Aside0.mk (hb); have n2_ := Aside0.mk (ho); clear HO_4; clear HB; clear HO138; have HO_4 := n0_; have HB := n1_; have HO141 := n2_; clear n0_ n1_ n2_; clear ho hb hg hat))
              go_ret2
              exact ⟨_, by first | rfl | (simp [errW_none, errW_some] <;> rfl) | (simp [*, errW_none, errW_some] <;> rfl), by (with_reducible repeat (first | apply Kd.R_alloc | apply Kd.R_drewN | apply Kd.R_drew)); exact Kd.R_mono HO141.out (fun _ hk => trivial), by repeat (first | (with_reducible first | exact HB.out | apply below_alloc | apply pw_below_drewN | apply below_drew1) | exact HB.out)⟩
            · rw [if_neg c24] at H
              exact absurd H (by simp)
          · rw [if_neg c23] at H
            exact absurd H (by simp)
        · rw [if_neg c22] at H
          exact absurd H (by simp)

end Go.Proofs.YtojadhcbjcpifaaDoor.PFnUnbase58
