/-
  Functions of the law of DisasmRead.
-/
import Derived.Test.YtafpmdmmeohmfaaPFnDisasmReadx0
import Derived.Test.YtafpmdmmeohmfaaDr2
namespace Go.Proofs.Ytafpmdmmeohmfaa.PFnDisasmRead
open Go.RowKit Go.Proofs.YtafpmdmmeohmfaaW.PrintWords Go.Proofs.YtafpmdmmeohmfaaW.PrintLast Go.Proofs.YtafpmdmmeohmfaaW.PrintMore
attribute [local go_sem] max2_int min2_int max_two min_two max_three min_three max_four min_four   -- for this text's walks alone
set_option linter.unusedVariables false
set_option linter.unusedSimpArgs false

/-! ### hex_EncodeToString: function 55 -/
def hex_EncodeToString.f (k : Nat) (l0 : List Int) : Option (ByteArray) := (hex_EncodedLen.f (l0.length : Int)).bind fun t142 => (if 0 ≤ t142 then (if (t142 : Int).toNat ≤ 281474976710656 then ((hex_Encode.f k (List.replicate (t142 : Int).toNat 0) l0).bind fun bt146 => (some (strOfNums bt146.2))) else (none)) else (none))
theorem hex_EncodeToString.mono : ∀ a0 k, LeO (hex_EncodeToString.f k a0) (hex_EncodeToString.f (k + 1) a0) := by
  intro a0 k
  unfold hex_EncodeToString.f
  repeat' first
      | (with_reducible exact hex_Encode.mono _ _ _)
      | (with_reducible exact LeO.refl _)
      | (with_reducible exact LeO.none _)
      | (with_reducible refine LeO.ite ?_ ?_)
      | (with_reducible refine LeO.bind ?_ (fun _ => ?_))
      | exact hex_Encode.mono _ _ _
      | exact LeO.none _
      | refine LeO.ite ?_ ?_
      | refine LeO.bind ?_ (fun _ => ?_)
set_option maxHeartbeats 8000000 in
set_option maxRecDepth 100000 in
theorem hex_EncodeToString.calls (k : Nat) (A0 : Option Addr) (c0 : Nat) (l0 : List Int) (r : ByteArray) (w : World) (hr0 : Kd.C (Kd.int .u8) w A0 l0.length l0) (hc0 : l0.length ≤ c0) (h : hex_EncodeToString.f k l0 = some r) :
    Calls Try.prog 55 #[.slice A0 l0.length c0] w fun e w' => e = .returned (.string r) ∧ Below w.heap.size w w' := by
  have HR0 := Aside0.mk hr0
  have HC0 := Aside0.mk hc0
  clear hr0 hc0
  have HB := Aside0.mk (Below.refl w.heap.size w)
  have H : ((hex_EncodedLen.f (l0.length : Int)).bind fun t142 => (if 0 ≤ t142 then (if (t142 : Int).toNat ≤ 281474976710656 then ((hex_Encode.f k (List.replicate (t142 : Int).toNat 0) l0).bind fun bt146 => (some (strOfNums bt146.2))) else (none)) else (none))) = some r := h
  clear h
  replace H := Option.bind_eq_some_iff.mp H
  obtain ⟨t142, A20, H⟩ := H
  replace H : (if 0 ≤ t142 then (if (t142 : Int).toNat ≤ 281474976710656 then ((hex_Encode.f k (List.replicate (t142 : Int).toNat 0) l0).bind fun bt146 => (some (strOfNums bt146.2))) else (none)) else (none)) = some r := H
  have A2 := Aside0.mk A20
  clear A20
  by_cases c3 : 0 ≤ t142
  · rw [if_pos c3] at H
    have c3b0 := eq_true c3
    have c3b1 : decide (0 ≤ t142) = true := decide_eq_true c3
    clear c3
    by_cases c4 : (t142 : Int).toNat ≤ 281474976710656
    · rw [if_pos c4] at H
      have c4b0 := eq_true c4
      have c4b1 : decide ((t142 : Int).toNat ≤ 281474976710656) = true := decide_eq_true c4
      clear c4
      obtain ⟨y143, hy143⟩ : ∃ y_ : List Int, y_ = (List.replicate (t142 : Int).toNat 0) := ⟨_, rfl⟩
      replace H : ((hex_Encode.f k y143 l0).bind fun bt146 => (some (strOfNums bt146.2))) = some r := by first | (rw [hy143]; with_reducible exact H) | (have H2_ := (Option.bind_some _ _).symm.trans H; rw [hy143]; with_reducible exact H2_) | (have H2_ := (Option.bind_some _ _).symm.trans H; with_reducible exact H2_) | with_reducible exact H | (rw [hy143]; exact H) | exact H
      have Ny143 := Aside0.mk hy143
      clear hy143
      replace H := Option.bind_eq_some_iff.mp H
      obtain ⟨⟨t146, t147⟩, A50, H⟩ := H
      replace H : (some (strOfNums t147)) = some r := H
      have A5 := Aside0.mk A50
      clear A50
      obtain rfl := Option.some.inj H
      go_enter Try.func55, Try.ntmps55
      go_wp2_with (first | ((with_reducible refine gate_callee (f := 66) rfl ?_); refine goesL_ (some 6) rfl rfl Try.func66 (by kernel_rfl) rfl #[.int .i64 (l0.length : Int)] rfl (by (try simp only [List.map_toArray, List.map_cons, List.map_nil]); first | done | rfl | (simp only [List.length_drop, List.length_take]; rfl)) ?_; (with_reducible refine (hex_EncodedLen.calls (l0.length : Int) t142 _ A2.out).mono ?_); rintro e w' ⟨rfl, ⟨nd, rfl⟩⟩; refine ⟨_, rfl, ?_⟩) | ((with_reducible refine gate_dst (N := 7) rfl ?_); refine Kd.R_make (Kd.int .u8) _ 5 rfl (N := 7) rfl 22 _ _ rfl t142 rfl rfl Try.underlying22 (.int .u8 0) 1 info5 rfl (by decide) (by omega) 0 (ok := fun _ => True) (okp := fun _ => True) rfl (fun _ hk => hk) trivial (of_decide_eq_true (by first | (with_reducible assumption) | assumption)) (Nat.le_trans (Nat.mul_le_mul_right _ (of_decide_eq_true (by first | (with_reducible assumption) | assumption) : t142.toNat ≤ 281474976710656)) (by omega)) (Below.refl _ _) (Nat.le_refl _) ?_; intro v144 w6 ho7 hb hg_ hnew_; clear hg_ hnew_; (first | rw [← Ny143.out] at ho7 | (simp only [Int.reduceToNat] at ho7; rw [← Ny143.out] at ho7)); have n0_ := Aside0.mk (Kd.R_lower ho7 (below_size (by repeat (first | (with_reducible first | exact HB.out | apply below_alloc | apply pw_below_drewN | apply below_drew1) | exact HB.out)))); have n1_ := Aside0.mk (below_step (by repeat (first | (with_reducible first | exact HB.out | apply below_alloc | apply pw_below_drewN | apply below_drew1) | exact HB.out)) hb); clear HB; have HO145 := n0_; have HB := n1_; clear n0_ n1_; clear hb ho7; obtain ⟨Ao8, co8, eo8⟩ := Kd.R_slice HO145.out; subst eo8) | ((with_reducible refine gate_callee (f := 67) rfl ?_); refine goesL_ (some 10) rfl rfl Try.func67 (by kernel_rfl) rfl #[.slice Ao8 y143.length co8, .slice A0 l0.length c0] rfl (by (try simp only [List.map_toArray, List.map_cons, List.map_nil]); first | done | rfl | (simp only [List.length_drop, List.length_take]; rfl)) ?_; (with_reducible refine (hex_Encode.calls k (fun k_ => some k_ = (.slice Ao8 y143.length co8 : Value).ownBlock) (.slice Ao8 y143.length co8) y143 _ _ l0 t146 t147 w _ ?side1 ?side2 ?side3 ?side4 A5.out).mono ?_); (case side1 => repeat (first | (with_reducible first | exact HB.out | apply below_alloc | apply pw_below_drewN | apply below_drew1) | exact HB.out)); (case side2 => exact Kd.R_tight rfl HO145.out); (case side3 => exact Kd.C_kept_came (Kd.heap_int .u8) HR0.out (by repeat (first | (with_reducible first | exact HB.out | apply below_alloc | apply pw_below_drewN | apply below_drew1) | exact HB.out)) (fun k_ hs_ => (fun e_ => Kd.R_base HO145.out k_ e_.symm) hs_)); (case side4 => exact HC0.out); rintro e w9 ⟨rfl, hy0, hb, hkp⟩; refine ⟨_, rfl, ?_⟩; have n0_ := Aside0.mk (Kd.R_reok rfl hy0 (fun k_ e_ => HO145.out.1 k_ e_)); have n1_ := Aside0.mk (hb); clear HO145; clear HB; have HO145 := n0_; have HB := n1_; clear n0_ n1_; (try clear hb); (try clear hkp); (try clear hy0); have hcv10 := own_string (P := Try.prog) Try.underlying22 Try.underlying5 Try.underlying9 (Kd.own_of_R HO145.out)))
      go_ret
      exact ⟨by first | rfl | (simp [errW_none, errW_some] <;> rfl) | (simp [*, errW_none, errW_some] <;> rfl), by repeat (first | (with_reducible first | exact HB.out | apply below_alloc | apply pw_below_drewN | apply below_drew1) | exact HB.out)⟩
    · rw [if_neg c4] at H
      exact absurd H (by simp)
  · rw [if_neg c3] at H
    exact absurd H (by simp)










/-! ### laws_words: function 8 -/
mutual
def laws_words.l0 : Nat → ByteArray → List ByteArray → Int → Int → Option (List ByteArray)
  | 0, _, _, _, _ => none
  | k + 1, x0, x3, x4, x5 => if x5 ≤ (x0.size : Int) then (if x5 < (x0.size : Int) then (if 0 ≤ x5 then (laws_words.j1 k x0 x3 x4 x5 ((bt x0 x5) != 32)) else (none)) else (laws_words.j1 k x0 x3 x4 x5 false)) else (some x3)
def laws_words.j1 : Nat → ByteArray → List ByteArray → Int → Int → Bool → Option (List ByteArray)
  | 0, _, _, _, _, _ => none
  | k + 1, x0, x3, x4, x5, x21 => if x21 = true then (laws_words.l0 k x0 x3 x4 (wrap64 (x5 + 1))) else (if x5 > x4 then (if 0 ≤ x4 then (if x4 ≤ x5 then (if x5 ≤ (x0.size : Int) then (if x3.length < 8796093022208 then (laws_words.l0 k x0 (x3 ++ [x0.extract (x4 : Int).toNat (x5 : Int).toNat]) (wrap64 (x5 + 1)) (wrap64 (x5 + 1))) else (none)) else (none)) else (none)) else (none)) else (laws_words.l0 k x0 x3 (wrap64 (x5 + 1)) (wrap64 (x5 + 1))))
end
def laws_words.f (k : Nat) (a0 : ByteArray) : Option (List ByteArray) := laws_words.l0 k a0 ([] : List ByteArray) 0 0
theorem laws_words.mono_l : ∀ k, (∀ y0 y1 y2 y3, LeO (laws_words.l0 k y0 y1 y2 y3) (laws_words.l0 (k + 1) y0 y1 y2 y3)) ∧ (∀ y0 y1 y2 y3 y4, LeO (laws_words.j1 k y0 y1 y2 y3 y4) (laws_words.j1 (k + 1) y0 y1 y2 y3 y4))
  | 0 => ⟨fun _ _ _ _ r h => by simp [laws_words.l0] at h, fun _ _ _ _ _ r h => by simp [laws_words.j1] at h⟩
  | k + 1 => by
    obtain ⟨ih0, ih1⟩ := laws_words.mono_l k
    refine ⟨?_, ?_⟩
    · intro y0 y1 y2 y3
      unfold laws_words.l0
      repeat' first
      | (with_reducible exact ih0 _ _ _ _)
      | (with_reducible exact ih1 _ _ _ _ _)
      | (with_reducible exact LeO.refl _)
      | (with_reducible exact LeO.none _)
      | (with_reducible refine LeO.ite ?_ ?_)
      | (with_reducible refine LeO.bind ?_ (fun _ => ?_))
      | exact ih0 _ _ _ _
      | exact ih1 _ _ _ _ _
      | exact LeO.none _
      | refine LeO.ite ?_ ?_
      | refine LeO.bind ?_ (fun _ => ?_)
    · intro y0 y1 y2 y3 y4
      unfold laws_words.j1
      repeat' first
      | (with_reducible exact ih0 _ _ _ _)
      | (with_reducible exact ih1 _ _ _ _ _)
      | (with_reducible exact LeO.refl _)
      | (with_reducible exact LeO.none _)
      | (with_reducible refine LeO.ite ?_ ?_)
      | (with_reducible refine LeO.bind ?_ (fun _ => ?_))
      | exact ih0 _ _ _ _
      | exact ih1 _ _ _ _ _
      | exact LeO.none _
      | refine LeO.ite ?_ ?_
      | refine LeO.bind ?_ (fun _ => ?_)
theorem laws_words.mono : ∀ a0 k, LeO (laws_words.f k a0) (laws_words.f (k + 1) a0) := by
  intro a0 k
  obtain ⟨ih0, ih1⟩ := laws_words.mono_l k
  unfold laws_words.f
  repeat' first
      | (with_reducible exact ih0 _ _ _ _)
      | (with_reducible exact ih1 _ _ _ _ _)
      | (with_reducible exact LeO.refl _)
      | (with_reducible exact LeO.none _)
      | (with_reducible refine LeO.ite ?_ ?_)
      | (with_reducible refine LeO.bind ?_ (fun _ => ?_))
      | exact ih0 _ _ _ _
      | exact ih1 _ _ _ _ _
      | exact LeO.none _
      | refine LeO.ite ?_ ?_
      | refine LeO.bind ?_ (fun _ => ?_)
set_option maxHeartbeats 8000000 in
set_option maxRecDepth 100000 in
theorem laws_words.calls (k : Nat) (a0 : ByteArray) (r : List ByteArray) (w : World) (h : laws_words.f k a0 = some r) :
    Calls Try.prog 8 #[.string a0] w fun e w' => ∃ v0_ : Value, e = .returned (v0_) ∧ Kd.R Kd.string 9 w' w.heap.size (fun _ => True) v0_ r ∧ Below w.heap.size w w' := by
  have HB := Aside0.mk (Below.refl w.heap.size w)
  have H : (laws_words.l0 k a0 ([] : List ByteArray) 0 0) = some r := h
  clear h
  have H' := Aside0.mk H
  clear H
  go_enter Try.func8, Try.ntmps8
  go_wp2
  go_loopg [3, 4, 5] k (fun kq v3 v4 v5 w' => ∃ (x3_1 : List ByteArray) (x4_1 : Int) (x5_1 : Int), v4 = .int .i64 x4_1 ∧ v5 = .int .i64 x5_1 ∧ Aside0 (laws_words.l0 kq a0 x3_1 x4_1 x5_1 = some r) ∧ Aside0 (kq ≤ k) ∧ Aside0 (Kd.R Kd.string 9 w' w.heap.size (fun _ => True) v3 x3_1) ∧ Aside0 (Below w.heap.size w w'))
  case atStart => exact ⟨(([] : List ByteArray)), (0), (0), (by first | rfl | (simp; done) | (simp [*]; done)), (by first | rfl | (simp; done) | (simp [*]; done)), H', ⟨Nat.le_refl _⟩, ⟨by first | exact Kd.R_nil _ _ _ _ _ | exact Kd.N_nil _ _ _ _ _ | exact Kd.V_nil _ _ _ _ _ | exact Kd.Q_nil _ _ _ _ _ | exact Kd.S_nil _ _ _ _ _⟩, ⟨by repeat (first | (with_reducible first | exact HB.out | apply below_alloc | apply pw_below_drewN | apply below_drew1) | exact HB.out)⟩⟩
  case round =>
    clear H'
    obtain ⟨x3_1, x4_1, x5_1, rfl, rfl, HA, HK1, HO_3, HB⟩ := hrel
    cases gk with
    | zero => exact absurd HA.out (by simp [laws_words.l0])
    | succ k1 =>
      have H := HA.out
      clear HA
      simp only [laws_words.l0] at H
      by_cases c2 : x5_1 ≤ (a0.size : Int)
      · rw [if_pos c2] at H
        have c2b0 : decide (x5_1 ≤ (a0.size : Int)) = true := decide_eq_true c2
        clear c2
        have HC3 := Aside0.mk H
        clear H
        go_upto_region 6 with (fail)
        go_cut [21] (fun v21 wc => ∃ (kq : Nat) (x21_2 : Bool), v21 = .bool x21_2 ∧ Aside0 (laws_words.j1 kq a0 x3_1 x4_1 x5_1 x21_2 = some r) ∧ Aside0 (kq ≤ k1) ∧ Aside0 (Kd.R Kd.string 9 wc w.heap.size (fun _ => True) u3 x3_1) ∧ Aside0 (Below w.heap.size w wc))
        case first =>
          have H := HC3.out
          clear HC3
          by_cases c4 : x5_1 < (a0.size : Int)
          · rw [if_pos c4] at H
            have c4b0 : decide (x5_1 < (a0.size : Int)) = true := decide_eq_true c4
            clear c4
            (first | rw [c4b0] | (simp only [i64_w, i32_w]; rw [c4b0]) | skip)
            by_cases c5 : 0 ≤ x5_1
            · rw [if_pos c5] at H
              have c5b0 : decide (0 ≤ x5_1) = true := decide_eq_true c5
              clear c5
              have H' := Aside0.mk H
              clear H
              have p6 : 0 ≤ (x5_1 : Int) := of_decide_eq_true (by first | (with_reducible assumption) | assumption)
              have q6 : x5_1 < (a0.size : Int) := of_decide_eq_true (by first | (with_reducible assumption) | assumption)
              have hx6 := bt_at a0 x5_1
              replace p6 := eq_true p6
              replace q6 := eq_true q6
              go_wp2
              go_meet
              case rel => exact ⟨_, (((bt a0 x5_1) != 32)), (by first | rfl | (simp; done) | (simp [*]; done)), H', ⟨by have := HK1.out; first | omega | exact Nat.le_refl _⟩, ⟨by (with_reducible repeat (first | apply Kd.R_alloc | apply Kd.R_drewN | apply Kd.R_drew)); exact HO_3.out⟩, ⟨by repeat (first | (with_reducible first | exact HB.out | apply below_alloc | apply pw_below_drewN | apply below_drew1) | exact HB.out)⟩⟩
            · rw [if_neg c5] at H
              exact absurd H (by simp)
          · rw [if_neg c4] at H
            have c4b0 : decide (x5_1 < (a0.size : Int)) = false := decide_eq_false c4
            clear c4
            (first | rw [c4b0] | (simp only [i64_w, i32_w]; rw [c4b0]) | skip)
            have H' := Aside0.mk H
            clear H
            go_wp2
            go_meet
            case rel => exact ⟨_, (false), (by first | rfl | (simp; done) | (simp [*]; done)), H', ⟨by have := HK1.out; first | omega | exact Nat.le_refl _⟩, ⟨by (with_reducible repeat (first | apply Kd.R_alloc | apply Kd.R_drewN | apply Kd.R_drew)); exact HO_3.out⟩, ⟨by repeat (first | (with_reducible first | exact HB.out | apply below_alloc | apply pw_below_drewN | apply below_drew1) | exact HB.out)⟩⟩
        case rest =>
          clear HC3
          try clear c2
          try clear c2b0
          try clear p2
          try clear c4
          try clear c4b0
          try clear c5
          try clear c5b0
          try clear p6
          try clear q6
          try clear hx6
          try clear p6
          try clear q6
          obtain ⟨kq, x21_2, rfl, HA, HJ2, HO_3, HB⟩ := hcut
          cases kq with
          | zero => exact absurd HA.out (by simp [laws_words.j1])
          | succ kj2 =>
            have H := HA.out
            clear HA
            simp only [laws_words.j1] at H
            by_cases c7 : x21_2 = true
            · subst c7
              have H1 : (laws_words.l0 kj2 a0 x3_1 x4_1 (wrap64 (x5_1 + 1))) = some r := by rw [if_pos rfl] at H; exact H
              clear H
              have H := H1
              clear H1
              have H' := Aside0.mk H
              clear H
              go_wp2
              go_roundg kj2
              case measure => have := HK1.out; have := HJ2.out; omega
              case rel => exact ⟨(x3_1), (x4_1), (wrap64 (x5_1 + 1)), (by first | rfl | (simp; done) | (simp [*]; done)), (by first | rfl | (simp; done) | (simp [*]; done)), H', ⟨by have := HK1.out; have := HJ2.out; omega⟩, ⟨by (with_reducible repeat (first | apply Kd.R_alloc | apply Kd.R_drewN | apply Kd.R_drew)); exact HO_3.out⟩, ⟨by repeat (first | (with_reducible first | exact HB.out | apply below_alloc | apply pw_below_drewN | apply below_drew1) | exact HB.out)⟩⟩
            · replace c7 := Bool.eq_false_iff.mpr c7
              subst c7
              have H1 : (if x5_1 > x4_1 then (if 0 ≤ x4_1 then (if x4_1 ≤ x5_1 then (if x5_1 ≤ (a0.size : Int) then (if x3_1.length < 8796093022208 then (laws_words.l0 kj2 a0 (x3_1 ++ [a0.extract (x4_1 : Int).toNat (x5_1 : Int).toNat]) (wrap64 (x5_1 + 1)) (wrap64 (x5_1 + 1))) else (none)) else (none)) else (none)) else (none)) else (laws_words.l0 kj2 a0 x3_1 (wrap64 (x5_1 + 1)) (wrap64 (x5_1 + 1)))) = some r := by rw [if_neg (show ¬ (false = true) by decide)] at H; exact H
              clear H
              have H := H1
              clear H1
              by_cases c8 : x5_1 > x4_1
              · rw [if_pos c8] at H
                have c8b0 : decide (x4_1 < x5_1) = true := decide_eq_true c8
                clear c8
                by_cases c9 : 0 ≤ x4_1
                · rw [if_pos c9] at H
                  have c9b0 := eq_true c9
                  have c9b1 : decide (0 ≤ x4_1) = true := decide_eq_true c9
                  clear c9
                  by_cases c10 : x4_1 ≤ x5_1
                  · rw [if_pos c10] at H
                    have c10b0 := eq_true c10
                    have c10b1 : decide (x4_1 ≤ x5_1) = true := decide_eq_true c10
                    clear c10
                    by_cases c11 : x5_1 ≤ (a0.size : Int)
                    · rw [if_pos c11] at H
                      have c11b0 := eq_true c11
                      have c11b1 : decide (x5_1 ≤ (a0.size : Int)) = true := decide_eq_true c11
                      clear c11
                      by_cases c12 : x3_1.length < 8796093022208
                      · rw [if_pos c12] at H
                        have LMc12 := Aside0.mk c12
                        clear c12
                        obtain ⟨y150, hy150⟩ : ∃ y_ : List ByteArray, y_ = (x3_1 ++ [a0.extract (x4_1 : Int).toNat (x5_1 : Int).toNat]) := ⟨_, rfl⟩
                        replace H : (laws_words.l0 kj2 a0 y150 (wrap64 (x5_1 + 1)) (wrap64 (x5_1 + 1))) = some r := by first | (rw [hy150]; with_reducible exact H) | (have H2_ := (Option.bind_some _ _).symm.trans H; rw [hy150]; with_reducible exact H2_) | (have H2_ := (Option.bind_some _ _).symm.trans H; with_reducible exact H2_) | with_reducible exact H | (rw [hy150]; exact H) | exact H
                        have Ny150 := Aside0.mk hy150
                        clear hy150
                        have H' := Aside0.mk H
                        clear H
                        go_wp2_with (first | ((with_reducible refine gate_builtin (b := .append) (xs := #[.tmp 25, .tmp 30]) rfl ?_); at_builtin; refine Kd.R_append Kd.string (w0 := w) w.heap.size rfl (.tmp 25) (.tmp 30) 31 9 (.string ⟨#[]⟩) 16 rfl Try.underlying31 info9 rfl (by decide) (by omega) u3 x3_1 (a0.extract (x4_1 : Int).toNat (x5_1 : Int).toNat) [.string (a0.extract (x4_1 : Int).toNat (x5_1 : Int).toNat)] (fun _ => True) (fun _ => False) rfl rfl ?aP (fun _ hk => hk.elim) ?aF ?aO ?aB ?aS ?aL ?_; (case aP => exact rfl); (case aB => exact (by repeat (first | (with_reducible first | exact HB.out | apply below_alloc | apply pw_below_drewN | apply below_drew1) | exact HB.out))); (case aF => exact (fun _ _ => trivial)); (case aO => exact (by (with_reducible repeat (first | apply Kd.R_alloc | apply Kd.R_drewN | apply Kd.R_drew)); exact HO_3.out)); (case aS => exact (below_size (by repeat (first | (with_reducible first | exact HB.out | apply below_alloc | apply pw_below_drewN | apply below_drew1) | exact HB.out)))); (case aL => have := LMc12.out; omega); intro v151 w13 ho hb hg hat; rw [← Ny150.out] at ho; have n0_ := Aside0.mk (hb); have n1_ := Aside0.mk (ho); clear HB; clear HO_3; have HB := n0_; have HO152 := n1_; clear n0_ n1_; clear ho hb hg hat))
                        go_roundg kj2
                        case measure => have := HK1.out; have := HJ2.out; omega
                        case rel => exact ⟨(y150), (wrap64 (x5_1 + 1)), (wrap64 (x5_1 + 1)), (by first | rfl | (simp; done) | (simp [*]; done)), (by first | rfl | (simp; done) | (simp [*]; done)), H', ⟨by have := HK1.out; have := HJ2.out; omega⟩, ⟨by (with_reducible repeat (first | apply Kd.R_alloc | apply Kd.R_drewN | apply Kd.R_drew)); exact HO152.out⟩, ⟨by repeat (first | (with_reducible first | exact HB.out | apply below_alloc | apply pw_below_drewN | apply below_drew1) | exact HB.out)⟩⟩
                      · rw [if_neg c12] at H
                        exact absurd H (by simp)
                    · rw [if_neg c11] at H
                      exact absurd H (by simp)
                  · rw [if_neg c10] at H
                    exact absurd H (by simp)
                · rw [if_neg c9] at H
                  exact absurd H (by simp)
              · rw [if_neg c8] at H
                have c8b0 : decide (x4_1 < x5_1) = false := decide_eq_false c8
                clear c8
                have H' := Aside0.mk H
                clear H
                go_wp2
                go_roundg kj2
                case measure => have := HK1.out; have := HJ2.out; omega
                case rel => exact ⟨(x3_1), (wrap64 (x5_1 + 1)), (wrap64 (x5_1 + 1)), (by first | rfl | (simp; done) | (simp [*]; done)), (by first | rfl | (simp; done) | (simp [*]; done)), H', ⟨by have := HK1.out; have := HJ2.out; omega⟩, ⟨by (with_reducible repeat (first | apply Kd.R_alloc | apply Kd.R_drewN | apply Kd.R_drew)); exact HO_3.out⟩, ⟨by repeat (first | (with_reducible first | exact HB.out | apply below_alloc | apply pw_below_drewN | apply below_drew1) | exact HB.out)⟩⟩
      · rw [if_neg c2] at H
        have c2b0 : decide (x5_1 ≤ (a0.size : Int)) = false := decide_eq_false c2
        clear c2
        obtain rfl := Option.some.inj H
        go_wp2
        go_ret
        exact ⟨_, by first | rfl | (simp [errW_none, errW_some] <;> rfl) | (simp [*, errW_none, errW_some] <;> rfl), by (with_reducible repeat (first | apply Kd.R_alloc | apply Kd.R_drewN | apply Kd.R_drew)); exact HO_3.out, by repeat (first | (with_reducible first | exact HB.out | apply below_alloc | apply pw_below_drewN | apply below_drew1) | exact HB.out)⟩

/-! ### spec_Small: function 19 -/
def spec_Small.f (a0 : Int) : Option (Int × Bool) := if a0 = 0 then (some (0, true)) else (if a0 ≥ 81 then (if a0 ≤ 96 then (some (wrap64 ((wrap64 (a0 - 81)) + 1), true)) else (some (0, false))) else (some (0, false)))
set_option maxHeartbeats 8000000 in
set_option maxRecDepth 100000 in
theorem spec_Small.calls (a0 : Int) (r1 : Int) (r2 : Bool) (w : World) (h : spec_Small.f a0 = some (r1, r2)) :
    Calls Try.prog 19 #[.int .i64 a0] w fun e w' => e = .returned (.tuple #[.int .i64 r1, .bool r2]) ∧ Drawn0 w w' := by
  have H : (if a0 = 0 then (some (0, true)) else (if a0 ≥ 81 then (if a0 ≤ 96 then (some (wrap64 ((wrap64 (a0 - 81)) + 1), true)) else (some (0, false))) else (some (0, false)))) = some (r1, r2) := h
  clear h
  by_cases c2 : a0 = 0
  · rw [if_pos c2] at H
    have c2b0 : (a0 == 0) = true := beq_iff_eq.mpr c2
    have c2b1 : (a0 != 0) = false := bne_eq_false_iff_eq.mpr c2
    clear c2
    simp only [Option.some.injEq, Prod.mk.injEq] at H
    obtain ⟨rfl, rfl⟩ := H
    go_enter Try.func19, Try.ntmps19
    go_wp2
    go_ret2
    exact ⟨by first | rfl | (simp; done) | (simp [*]; done), by repeat (first | exact Drawn0.refl _ | apply Drawn0.step)⟩
  · rw [if_neg c2] at H
    have c2b0 : (a0 == 0) = false := beq_eq_false_iff_ne.mpr c2
    have c2b1 : (a0 != 0) = true := bne_iff_ne.mpr c2
    by_cases c3 : a0 ≥ 81
    · rw [if_pos c3] at H
      have c3b0 : decide (81 ≤ a0) = true := decide_eq_true c3
      clear c3
      by_cases c4 : a0 ≤ 96
      · rw [if_pos c4] at H
        have c4b0 : decide (a0 ≤ 96) = true := decide_eq_true c4
        clear c4
        simp only [Option.some.injEq, Prod.mk.injEq] at H
        obtain ⟨rfl, rfl⟩ := H
        go_enter Try.func19, Try.ntmps19
        go_wp2
        go_ret2
        exact ⟨by first | rfl | (simp; done) | (simp [*]; done), by repeat (first | exact Drawn0.refl _ | apply Drawn0.step)⟩
      · rw [if_neg c4] at H
        have c4b0 : decide (a0 ≤ 96) = false := decide_eq_false c4
        clear c4
        simp only [Option.some.injEq, Prod.mk.injEq] at H
        obtain ⟨rfl, rfl⟩ := H
        go_enter Try.func19, Try.ntmps19
        go_wp2
        go_ret2
        exact ⟨by first | rfl | (simp; done) | (simp [*]; done), by repeat (first | exact Drawn0.refl _ | apply Drawn0.step)⟩
    · rw [if_neg c3] at H
      have c3b0 : decide (81 ≤ a0) = false := decide_eq_false c3
      clear c3
      simp only [Option.some.injEq, Prod.mk.injEq] at H
      obtain ⟨rfl, rfl⟩ := H
      go_enter Try.func19, Try.ntmps19
      go_wp2
      go_ret2
      exact ⟨by first | rfl | (simp; done) | (simp [*]; done), by repeat (first | exact Drawn0.refl _ | apply Drawn0.step)⟩

/-! ### laws_decimal: function 20 -/
def laws_decimal.f (a0 : Int) : Option (ByteArray) := if a0 ≥ 10 then ((some (([(wrap64 ((wrap64 (48 + a0)) - 10)) % 256] : List Int) : List Int)).bind fun y153 => (if 1 + (strOfNums y153).size ≤ 9223372036854775807 then (some ((⟨#[49]⟩ : ByteArray) ++ (strOfNums y153))) else (none))) else (some (strOfNums (([(wrap64 (48 + a0)) % 256] : List Int))))
set_option maxHeartbeats 8000000 in
set_option maxRecDepth 100000 in
theorem laws_decimal.calls (a0 : Int) (r : ByteArray) (w : World) (h : laws_decimal.f a0 = some r) :
    Calls Try.prog 20 #[.int .i64 a0] w fun e w' => e = .returned (.string r) ∧ Below w.heap.size w w' := by
  have HB := Aside0.mk (Below.refl w.heap.size w)
  have H : (if a0 ≥ 10 then ((some (([(wrap64 ((wrap64 (48 + a0)) - 10)) % 256] : List Int) : List Int)).bind fun y153 => (if 1 + (strOfNums y153).size ≤ 9223372036854775807 then (some ((⟨#[49]⟩ : ByteArray) ++ (strOfNums y153))) else (none))) else (some (strOfNums (([(wrap64 (48 + a0)) % 256] : List Int))))) = some r := h
  clear h
  by_cases c2 : a0 ≥ 10
  · rw [if_pos c2] at H
    have c2b0 : decide (10 ≤ a0) = true := decide_eq_true c2
    clear c2
    obtain ⟨y153, hy153⟩ : ∃ y_ : List Int, y_ = (([(wrap64 ((wrap64 (48 + a0)) - 10)) % 256] : List Int)) := ⟨_, rfl⟩
    replace H : (if 1 + (strOfNums y153).size ≤ 9223372036854775807 then (some ((⟨#[49]⟩ : ByteArray) ++ (strOfNums y153))) else (none)) = some r := by first | (rw [hy153]; with_reducible exact H) | (have H2_ := (Option.bind_some _ _).symm.trans H; rw [hy153]; with_reducible exact H2_) | (have H2_ := (Option.bind_some _ _).symm.trans H; with_reducible exact H2_) | with_reducible exact H | (rw [hy153]; exact H) | exact H
    have Ny153 := Aside0.mk hy153
    clear hy153
    by_cases c3 : 1 + (strOfNums y153).size ≤ 9223372036854775807
    · rw [if_pos c3] at H
      have c3b0 := eq_true c3
      have c3b1 : decide (1 + (strOfNums y153).size ≤ 9223372036854775807) = true := decide_eq_true c3
      try have c3b2 : (9223372036854775807 < 1 + (strOfNums y153).size) = False := eq_false (Nat.not_lt.2 c3)
      obtain rfl := Option.some.inj H
      go_enter Try.func20, Try.ntmps20
      go_wp2_with (first | ((with_reducible refine gate_dst (N := 9) rfl ?_); refine Kd.R_lit (Kd.int .u8) _ 5 ?hg (N := 9) ?hd (xs := ([(wrap64 ((wrap64 (48 + a0)) - 10)) % 256] : List Int)) (inner := [.int .u8 ((wrap64 ((wrap64 (48 + a0)) - 10)) % 256)]) (ok := fun _ => True) (okp := fun _ => True) ?hr ?hp (fun _ hk => hk) trivial (Below.refl _ _) (Nat.le_refl _) (by simp) ?_; (case hd => rfl); (case hg => rfl); (case hr => first | (go_simp; done) | (go_simp; rfl)); (case hp => exact (Reps.one (show Kd.M (Kd.int .u8) _ _ _ ((wrap64 ((wrap64 (48 + a0)) - 10)) % 256) [.int .u8 ((wrap64 ((wrap64 (48 + a0)) - 10)) % 256)] from rfl) (Reps.none _ _))); intro v154 w4 ho5 hb hg_ hnew_; clear hg_ hnew_; (first | rw [← Ny153.out] at ho5 | (simp only [Int.reduceToNat] at ho5; rw [← Ny153.out] at ho5)); have n0_ := Aside0.mk (Kd.R_lower ho5 (below_size (by repeat (first | (with_reducible first | exact HB.out | apply below_alloc | apply pw_below_drewN | apply below_drew1) | exact HB.out)))); have n1_ := Aside0.mk (below_step (by repeat (first | (with_reducible first | exact HB.out | apply below_alloc | apply pw_below_drewN | apply below_drew1) | exact HB.out)) hb); clear HB; have HO155 := n0_; have HB := n1_; clear n0_ n1_; clear hb ho5; have hcv6 := own_string (P := Try.prog) Try.underlying22 Try.underlying5 Try.underlying9 (Kd.own_of_R HO155.out)))
      go_ret
      exact ⟨by first | rfl | (simp [errW_none, errW_some] <;> rfl) | (simp [*, errW_none, errW_some] <;> rfl), by repeat (first | (with_reducible first | exact HB.out | apply below_alloc | apply pw_below_drewN | apply below_drew1) | exact HB.out)⟩
    · rw [if_neg c3] at H
      exact absurd H (by simp)
  · rw [if_neg c2] at H
    have c2b0 : decide (10 ≤ a0) = false := decide_eq_false c2
    clear c2
    obtain ⟨y156, hy156⟩ : ∃ y_ : List Int, y_ = (([(wrap64 (48 + a0)) % 256] : List Int)) := ⟨_, rfl⟩
    replace H : (some (strOfNums y156)) = some r := by first | (rw [hy156]; with_reducible exact H) | (have H2_ := (Option.bind_some _ _).symm.trans H; rw [hy156]; with_reducible exact H2_) | (have H2_ := (Option.bind_some _ _).symm.trans H; with_reducible exact H2_) | with_reducible exact H | (rw [hy156]; exact H) | exact H
    have Ny156 := Aside0.mk hy156
    clear hy156
    obtain rfl := Option.some.inj H
    go_enter Try.func20, Try.ntmps20
    go_wp2_with (first | ((with_reducible refine gate_dst (N := 15) rfl ?_); refine Kd.R_lit (Kd.int .u8) _ 5 ?hg (N := 15) ?hd (xs := ([(wrap64 (48 + a0)) % 256] : List Int)) (inner := [.int .u8 ((wrap64 (48 + a0)) % 256)]) (ok := fun _ => True) (okp := fun _ => True) ?hr ?hp (fun _ hk => hk) trivial (Below.refl _ _) (Nat.le_refl _) (by simp) ?_; (case hd => rfl); (case hg => rfl); (case hr => first | (go_simp; done) | (go_simp; rfl)); (case hp => exact (Reps.one (show Kd.M (Kd.int .u8) _ _ _ ((wrap64 (48 + a0)) % 256) [.int .u8 ((wrap64 (48 + a0)) % 256)] from rfl) (Reps.none _ _))); intro v157 w7 ho8 hb hg_ hnew_; clear hg_ hnew_; (first | rw [← Ny156.out] at ho8 | (simp only [Int.reduceToNat] at ho8; rw [← Ny156.out] at ho8)); have n0_ := Aside0.mk (Kd.R_lower ho8 (below_size (by repeat (first | (with_reducible first | exact HB.out | apply below_alloc | apply pw_below_drewN | apply below_drew1) | exact HB.out)))); have n1_ := Aside0.mk (below_step (by repeat (first | (with_reducible first | exact HB.out | apply below_alloc | apply pw_below_drewN | apply below_drew1) | exact HB.out)) hb); clear HB; have HO158 := n0_; have HB := n1_; clear n0_ n1_; clear hb ho8; have hcv9 := own_string (P := Try.prog) Try.underlying22 Try.underlying5 Try.underlying9 (Kd.own_of_R HO158.out)))
    go_ret
    exact ⟨by first | rfl | (simp [errW_none, errW_some] <;> rfl) | (simp [*, errW_none, errW_some] <;> rfl), by repeat (first | (with_reducible first | exact HB.out | apply below_alloc | apply pw_below_drewN | apply below_drew1) | exact HB.out)⟩

/-! ### spec_decimal: function 43 -/
def spec_decimal.l0 : Nat → Int → ByteArray → Option (ByteArray)
  | 0, _, _ => none
  | k + 1, x0, x3 => (some (([(wrap64 (48 + (Int.tmod x0 10))) % 256] : List Int) : List Int)).bind fun y159 => (if (strOfNums y159).size + x3.size ≤ 9223372036854775807 then (if (wrap64 (Int.tdiv x0 10)) = 0 then (some ((strOfNums y159) ++ x3)) else (spec_decimal.l0 k (wrap64 (Int.tdiv x0 10)) ((strOfNums y159) ++ x3))) else (none))
def spec_decimal.f (k : Nat) (a0 : Int) : Option (ByteArray) := spec_decimal.l0 k a0 (⟨#[]⟩ : ByteArray)
theorem spec_decimal.mono_l : ∀ k, (∀ y0 y1, LeO (spec_decimal.l0 k y0 y1) (spec_decimal.l0 (k + 1) y0 y1))
  | 0 => fun _ _ r h => by simp [spec_decimal.l0] at h
  | k + 1 => by
    have ih0 := spec_decimal.mono_l k
    · intro y0 y1
      unfold spec_decimal.l0
      repeat' first
      | (with_reducible exact ih0 _ _)
      | (with_reducible exact LeO.refl _)
      | (with_reducible exact LeO.none _)
      | (with_reducible refine LeO.ite ?_ ?_)
      | (with_reducible refine LeO.bind ?_ (fun _ => ?_))
      | exact ih0 _ _
      | exact LeO.none _
      | refine LeO.ite ?_ ?_
      | refine LeO.bind ?_ (fun _ => ?_)
theorem spec_decimal.mono : ∀ a0 k, LeO (spec_decimal.f k a0) (spec_decimal.f (k + 1) a0) := by
  intro a0 k
  have ih0 := spec_decimal.mono_l k
  unfold spec_decimal.f
  repeat' first
      | (with_reducible exact ih0 _ _)
      | (with_reducible exact LeO.refl _)
      | (with_reducible exact LeO.none _)
      | (with_reducible refine LeO.ite ?_ ?_)
      | (with_reducible refine LeO.bind ?_ (fun _ => ?_))
      | exact ih0 _ _
      | exact LeO.none _
      | refine LeO.ite ?_ ?_
      | refine LeO.bind ?_ (fun _ => ?_)
set_option maxHeartbeats 8000000 in
set_option maxRecDepth 100000 in
theorem spec_decimal.calls (k : Nat) (a0 : Int) (r : ByteArray) (w : World) (h : spec_decimal.f k a0 = some r) :
    Calls Try.prog 43 #[.int .i64 a0] w fun e w' => e = .returned (.string r) ∧ Below w.heap.size w w' := by
  have HB := Aside0.mk (Below.refl w.heap.size w)
  have H : (spec_decimal.l0 k a0 (⟨#[]⟩ : ByteArray)) = some r := h
  clear h
  have H' := Aside0.mk H
  clear H
  go_enter Try.func43, Try.ntmps43
  go_wp2
  go_loopg [0, 3] k (fun kq v0 v3 w' => ∃ (x0_1 : Int) (x3_1 : ByteArray), v0 = .int .i64 x0_1 ∧ v3 = .string x3_1 ∧ Aside0 (spec_decimal.l0 kq x0_1 x3_1 = some r) ∧ Aside0 (kq ≤ k) ∧ Aside0 (Below w.heap.size w w'))
  case atStart => exact ⟨(a0), ((⟨#[]⟩ : ByteArray)), (by first | rfl | (simp; done) | (simp [*]; done)), (by first | rfl | (simp; done) | (simp [*]; done)), H', ⟨Nat.le_refl _⟩, ⟨by repeat (first | (with_reducible first | exact HB.out | apply below_alloc | apply pw_below_drewN | apply below_drew1) | exact HB.out)⟩⟩
  case round =>
    clear H'
    obtain ⟨x0_1, x3_1, rfl, rfl, HA, HK1, HB⟩ := hrel
    cases gk with
    | zero => exact absurd HA.out (by simp [spec_decimal.l0])
    | succ k1 =>
      have H := HA.out
      clear HA
      simp only [spec_decimal.l0] at H
      obtain ⟨y159, hy159⟩ : ∃ y_ : List Int, y_ = (([(wrap64 (48 + (Int.tmod x0_1 10))) % 256] : List Int)) := ⟨_, rfl⟩
      replace H : (if (strOfNums y159).size + x3_1.size ≤ 9223372036854775807 then (if (wrap64 (Int.tdiv x0_1 10)) = 0 then (some ((strOfNums y159) ++ x3_1)) else (spec_decimal.l0 k1 (wrap64 (Int.tdiv x0_1 10)) ((strOfNums y159) ++ x3_1))) else (none)) = some r := by first | (rw [hy159]; with_reducible exact H) | (have H2_ := (Option.bind_some _ _).symm.trans H; rw [hy159]; with_reducible exact H2_) | (have H2_ := (Option.bind_some _ _).symm.trans H; with_reducible exact H2_) | with_reducible exact H | (rw [hy159]; exact H) | exact H
      have Ny159 := Aside0.mk hy159
      clear hy159
      by_cases c2 : (strOfNums y159).size + x3_1.size ≤ 9223372036854775807
      · rw [if_pos c2] at H
        have c2b0 := eq_true c2
        have c2b1 : decide ((strOfNums y159).size + x3_1.size ≤ 9223372036854775807) = true := decide_eq_true c2
        try have c2b2 : (9223372036854775807 < (strOfNums y159).size + x3_1.size) = False := eq_false (Nat.not_lt.2 c2)
        by_cases c3 : (wrap64 (Int.tdiv x0_1 10)) = 0
        · rw [if_pos c3] at H
          have c3b0 : ((wrap64 (Int.tdiv x0_1 10)) == 0) = true := beq_iff_eq.mpr c3
          have c3b1 : ((wrap64 (Int.tdiv x0_1 10)) != 0) = false := bne_eq_false_iff_eq.mpr c3
          clear c3
          obtain rfl := Option.some.inj H
          go_wp2_with (first | ((with_reducible refine gate_dst (N := 8) rfl ?_); refine Kd.R_lit (Kd.int .u8) _ 5 ?hg (N := 8) ?hd (xs := ([(wrap64 (48 + (Int.tmod x0_1 10))) % 256] : List Int)) (inner := [.int .u8 ((wrap64 (48 + (Int.tmod x0_1 10))) % 256)]) (ok := fun _ => True) (okp := fun _ => True) ?hr ?hp (fun _ hk => hk) trivial (Below.refl _ _) (Nat.le_refl _) (by simp) ?_; (case hd => rfl); (case hg => rfl); (case hr => first | (go_simp; done) | (go_simp; rfl)); (case hp => exact (Reps.one (show Kd.M (Kd.int .u8) _ _ _ ((wrap64 (48 + (Int.tmod x0_1 10))) % 256) [.int .u8 ((wrap64 (48 + (Int.tmod x0_1 10))) % 256)] from rfl) (Reps.none _ _))); intro v160 w4 ho5 hb hg_ hnew_; clear hg_ hnew_; (first | rw [← Ny159.out] at ho5 | (simp only [Int.reduceToNat] at ho5; rw [← Ny159.out] at ho5)); have n0_ := Aside0.mk (Kd.R_lower ho5 (below_size (by repeat (first | (with_reducible first | exact HB.out | apply below_alloc | apply pw_below_drewN | apply below_drew1) | exact HB.out)))); have n1_ := Aside0.mk (below_step (by repeat (first | (with_reducible first | exact HB.out | apply below_alloc | apply pw_below_drewN | apply below_drew1) | exact HB.out)) hb); clear HB; have HO161 := n0_; have HB := n1_; clear n0_ n1_; clear hb ho5; have hcv6 := own_string (P := Try.prog) Try.underlying22 Try.underlying5 Try.underlying9 (Kd.own_of_R HO161.out)))
          go_ret
          exact ⟨by first | rfl | (simp [errW_none, errW_some] <;> rfl) | (simp [*, errW_none, errW_some] <;> rfl), by repeat (first | (with_reducible first | exact HB.out | apply below_alloc | apply pw_below_drewN | apply below_drew1) | exact HB.out)⟩
        · rw [if_neg c3] at H
          have c3b0 : ((wrap64 (Int.tdiv x0_1 10)) == 0) = false := beq_eq_false_iff_ne.mpr c3
          have c3b1 : ((wrap64 (Int.tdiv x0_1 10)) != 0) = true := bne_iff_ne.mpr c3
          have H' := Aside0.mk H
          clear H
          go_wp2_with (first | ((with_reducible refine gate_dst (N := 8) rfl ?_); refine Kd.R_lit (Kd.int .u8) _ 5 ?hg (N := 8) ?hd (xs := ([(wrap64 (48 + (Int.tmod x0_1 10))) % 256] : List Int)) (inner := [.int .u8 ((wrap64 (48 + (Int.tmod x0_1 10))) % 256)]) (ok := fun _ => True) (okp := fun _ => True) ?hr ?hp (fun _ hk => hk) trivial (Below.refl _ _) (Nat.le_refl _) (by simp) ?_; (case hd => rfl); (case hg => rfl); (case hr => first | (go_simp; done) | (go_simp; rfl)); (case hp => exact (Reps.one (show Kd.M (Kd.int .u8) _ _ _ ((wrap64 (48 + (Int.tmod x0_1 10))) % 256) [.int .u8 ((wrap64 (48 + (Int.tmod x0_1 10))) % 256)] from rfl) (Reps.none _ _))); intro v160 w7 ho8 hb hg_ hnew_; clear hg_ hnew_; (first | rw [← Ny159.out] at ho8 | (simp only [Int.reduceToNat] at ho8; rw [← Ny159.out] at ho8)); have n0_ := Aside0.mk (Kd.R_lower ho8 (below_size (by repeat (first | (with_reducible first | exact HB.out | apply below_alloc | apply pw_below_drewN | apply below_drew1) | exact HB.out)))); have n1_ := Aside0.mk (below_step (by repeat (first | (with_reducible first | exact HB.out | apply below_alloc | apply pw_below_drewN | apply below_drew1) | exact HB.out)) hb); clear HB; have HO161 := n0_; have HB := n1_; clear n0_ n1_; clear hb ho8; have hcv9 := own_string (P := Try.prog) Try.underlying22 Try.underlying5 Try.underlying9 (Kd.own_of_R HO161.out)))
          go_roundg k1
          case measure => have := HK1.out; omega
          case rel => exact ⟨(wrap64 (Int.tdiv x0_1 10)), ((strOfNums y159) ++ x3_1), (by first | rfl | (simp; done) | (simp [*]; done)), (by first | rfl | (simp; done) | (simp [*]; done)), H', ⟨by have := HK1.out; omega⟩, ⟨by repeat (first | (with_reducible first | exact HB.out | apply below_alloc | apply pw_below_drewN | apply below_drew1) | exact HB.out)⟩⟩
      · rw [if_neg c2] at H
        exact absurd H (by simp)

/-! ### spec_part: function 44 -/
def spec_part.l0 : Nat → ByteArray → Int → Int → Int → Option (ByteArray)
  | 0, _, _, _, _ => none
  | k + 1, x0, x1, x5, x6 => if x6 < (x0.size : Int) then (if 0 ≤ x6 then (if (bt x0 x6) = 32 then (if x1 = 0 then (if 0 ≤ x5 then (if x5 ≤ x6 then (if x6 ≤ (x0.size : Int) then (some (x0.extract (x5 : Int).toNat (x6 : Int).toNat)) else (none)) else (none)) else (none)) else (spec_part.l0 k x0 (wrap64 (x1 - 1)) (wrap64 (x6 + 1)) (wrap64 (x6 + 1)))) else (spec_part.l0 k x0 x1 x5 (wrap64 (x6 + 1)))) else (none)) else (some (⟨#[]⟩ : ByteArray))
def spec_part.f (k : Nat) (a0 : ByteArray) (a1 : Int) : Option (ByteArray) := spec_part.l0 k a0 a1 0 0
theorem spec_part.mono_l : ∀ k, (∀ y0 y1 y2 y3, LeO (spec_part.l0 k y0 y1 y2 y3) (spec_part.l0 (k + 1) y0 y1 y2 y3))
  | 0 => fun _ _ _ _ r h => by simp [spec_part.l0] at h
  | k + 1 => by
    have ih0 := spec_part.mono_l k
    · intro y0 y1 y2 y3
      unfold spec_part.l0
      repeat' first
      | (with_reducible exact ih0 _ _ _ _)
      | (with_reducible exact LeO.refl _)
      | (with_reducible exact LeO.none _)
      | (with_reducible refine LeO.ite ?_ ?_)
      | (with_reducible refine LeO.bind ?_ (fun _ => ?_))
      | exact ih0 _ _ _ _
      | exact LeO.none _
      | refine LeO.ite ?_ ?_
      | refine LeO.bind ?_ (fun _ => ?_)
theorem spec_part.mono : ∀ a0 a1 k, LeO (spec_part.f k a0 a1) (spec_part.f (k + 1) a0 a1) := by
  intro a0 a1 k
  have ih0 := spec_part.mono_l k
  unfold spec_part.f
  repeat' first
      | (with_reducible exact ih0 _ _ _ _)
      | (with_reducible exact LeO.refl _)
      | (with_reducible exact LeO.none _)
      | (with_reducible refine LeO.ite ?_ ?_)
      | (with_reducible refine LeO.bind ?_ (fun _ => ?_))
      | exact ih0 _ _ _ _
      | exact LeO.none _
      | refine LeO.ite ?_ ?_
      | refine LeO.bind ?_ (fun _ => ?_)
set_option maxHeartbeats 8000000 in
set_option maxRecDepth 100000 in
theorem spec_part.calls (k : Nat) (a0 : ByteArray) (a1 : Int) (r : ByteArray) (w : World) (h : spec_part.f k a0 a1 = some r) :
    Calls Try.prog 44 #[.string a0, .int .i64 a1] w fun e w' => e = .returned (.string r) ∧ Drawn0 w w' := by
  have H : (spec_part.l0 k a0 a1 0 0) = some r := h
  clear h
  have H' := Aside0.mk H
  clear H
  go_enter Try.func44, Try.ntmps44
  go_wp2
  go_loopg [1, 5, 6] k (fun kq v1 v5 v6 w' => ∃ (x1_1 : Int) (x5_1 : Int) (x6_1 : Int), v1 = .int .i64 x1_1 ∧ v5 = .int .i64 x5_1 ∧ v6 = .int .i64 x6_1 ∧ Aside0 (spec_part.l0 kq a0 x1_1 x5_1 x6_1 = some r) ∧ Aside0 (kq ≤ k) ∧ Drawn0 w w')
  case atStart => exact ⟨(a1), (0), (0), (by first | rfl | (simp; done) | (simp [*]; done)), (by first | rfl | (simp; done) | (simp [*]; done)), (by first | rfl | (simp; done) | (simp [*]; done)), H', ⟨Nat.le_refl _⟩, by repeat (first | exact Drawn0.refl _ | apply Drawn0.step)⟩
  case round =>
    clear H'
    try clear p2
    obtain ⟨x1_1, x5_1, x6_1, rfl, rfl, rfl, HA, HK1, ⟨m1, rfl⟩⟩ := hrel
    cases gk with
    | zero => exact absurd HA.out (by simp [spec_part.l0])
    | succ k1 =>
      have H := HA.out
      clear HA
      simp only [spec_part.l0] at H
      by_cases c3 : x6_1 < (a0.size : Int)
      · rw [if_pos c3] at H
        have c3b0 : decide (x6_1 < (a0.size : Int)) = true := decide_eq_true c3
        clear c3
        by_cases c4 : 0 ≤ x6_1
        · rw [if_pos c4] at H
          have c4b0 : decide (0 ≤ x6_1) = true := decide_eq_true c4
          clear c4
          by_cases c6 : (bt a0 x6_1) = 32
          · rw [if_pos c6] at H
            have c6b0 : ((bt a0 x6_1) == 32) = true := beq_iff_eq.mpr c6
            have c6b1 : ((bt a0 x6_1) != 32) = false := bne_eq_false_iff_eq.mpr c6
            clear c6
            by_cases c7 : x1_1 = 0
            · rw [if_pos c7] at H
              have c7b0 : (x1_1 == 0) = true := beq_iff_eq.mpr c7
              have c7b1 : (x1_1 != 0) = false := bne_eq_false_iff_eq.mpr c7
              clear c7
              by_cases c8 : 0 ≤ x5_1
              · rw [if_pos c8] at H
                have c8b0 := eq_true c8
                have c8b1 : decide (0 ≤ x5_1) = true := decide_eq_true c8
                clear c8
                by_cases c9 : x5_1 ≤ x6_1
                · rw [if_pos c9] at H
                  have c9b0 := eq_true c9
                  have c9b1 : decide (x5_1 ≤ x6_1) = true := decide_eq_true c9
                  clear c9
                  by_cases c10 : x6_1 ≤ (a0.size : Int)
                  · rw [if_pos c10] at H
                    have c10b0 := eq_true c10
                    have c10b1 : decide (x6_1 ≤ (a0.size : Int)) = true := decide_eq_true c10
                    clear c10
                    obtain rfl := Option.some.inj H
                    have p5 : 0 ≤ (x6_1 : Int) := of_decide_eq_true (by first | (with_reducible assumption) | assumption)
                    have q5 : x6_1 < (a0.size : Int) := of_decide_eq_true (by first | (with_reducible assumption) | assumption)
                    have hx5 := bt_at a0 x6_1
                    replace p5 := eq_true p5
                    replace q5 := eq_true q5
                    go_wp2
                    go_ret
                    exact ⟨by first | rfl | (simp; done) | (simp [*]; done), by repeat (first | exact Drawn0.refl _ | apply Drawn0.step)⟩
                  · rw [if_neg c10] at H
                    exact absurd H (by simp)
                · rw [if_neg c9] at H
                  exact absurd H (by simp)
              · rw [if_neg c8] at H
                exact absurd H (by simp)
            · rw [if_neg c7] at H
              have c7b0 : (x1_1 == 0) = false := beq_eq_false_iff_ne.mpr c7
              have c7b1 : (x1_1 != 0) = true := bne_iff_ne.mpr c7
              have H' := Aside0.mk H
              clear H
              have p5 : 0 ≤ (x6_1 : Int) := of_decide_eq_true (by first | (with_reducible assumption) | assumption)
              have q5 : x6_1 < (a0.size : Int) := of_decide_eq_true (by first | (with_reducible assumption) | assumption)
              have hx5 := bt_at a0 x6_1
              replace p5 := eq_true p5
              replace q5 := eq_true q5
              go_wp2
              go_roundg k1
              case measure => have := HK1.out; omega
              case rel => exact ⟨(wrap64 (x1_1 - 1)), (wrap64 (x6_1 + 1)), (wrap64 (x6_1 + 1)), (by first | rfl | (simp; done) | (simp [*]; done)), (by first | rfl | (simp; done) | (simp [*]; done)), (by first | rfl | (simp; done) | (simp [*]; done)), H', ⟨by have := HK1.out; omega⟩, by repeat (first | exact Drawn0.refl _ | apply Drawn0.step)⟩
          · rw [if_neg c6] at H
            have c6b0 : ((bt a0 x6_1) == 32) = false := beq_eq_false_iff_ne.mpr c6
            have c6b1 : ((bt a0 x6_1) != 32) = true := bne_iff_ne.mpr c6
            have H' := Aside0.mk H
            clear H
            have p5 : 0 ≤ (x6_1 : Int) := of_decide_eq_true (by first | (with_reducible assumption) | assumption)
            have q5 : x6_1 < (a0.size : Int) := of_decide_eq_true (by first | (with_reducible assumption) | assumption)
            have hx5 := bt_at a0 x6_1
            replace p5 := eq_true p5
            replace q5 := eq_true q5
            go_wp2
            go_roundg k1
            case measure => have := HK1.out; omega
            case rel => exact ⟨(x1_1), (x5_1), (wrap64 (x6_1 + 1)), (by first | rfl | (simp; done) | (simp [*]; done)), (by first | rfl | (simp; done) | (simp [*]; done)), (by first | rfl | (simp; done) | (simp [*]; done)), H', ⟨by have := HK1.out; omega⟩, by repeat (first | exact Drawn0.refl _ | apply Drawn0.step)⟩
        · rw [if_neg c4] at H
          exact absurd H (by simp)
      · rw [if_neg c3] at H
        have c3b0 : decide (x6_1 < (a0.size : Int)) = false := decide_eq_false c3
        clear c3
        obtain rfl := Option.some.inj H
        go_wp2
        go_ret
        exact ⟨by first | rfl | (simp; done) | (simp [*]; done), by repeat (first | exact Drawn0.refl _ | apply Drawn0.step)⟩

/-- The names, as the program has them. -/
abbrev nmsB : ByteArray := ⟨([78, 79, 80, 32, 86, 69, 82, 32, 73, 70, 32, 78, 79, 84, 73, 70, 32, 86, 69, 82, 73, 70, 32, 86, 69, 82, 78, 79, 84, 73, 70, 32, 69, 76, 83, 69, 32, 69, 78, 68, 73, 70, 32, 86, 69, 82, 73, 70, 89, 32, 82, 69, 84, 85, 82, 78, 32, 84, 79, 65, 76, 84, 83, 84, 65, 67, 75, 32, 70, 82, 79, 77, 65, 76, 84, 83, 84, 65, 67, 75, 32, 50, 68, 82, 79, 80, 32, 50, 68, 85, 80, 32, 51, 68, 85, 80, 32, 50, 79, 86, 69, 82, 32, 50, 82, 79, 84, 32, 50, 83, 87, 65, 80, 32, 73, 70, 68, 85, 80, 32, 68, 69, 80, 84, 72, 32, 68, 82, 79, 80, 32, 68, 85, 80, 32, 78, 73, 80, 32, 79, 86, 69, 82, 32, 80, 73, 67, 75, 32, 82, 79, 76, 76, 32, 82, 79, 84, 32, 83, 87, 65, 80, 32, 84, 85, 67, 75, 32, 67, 65, 84, 32, 83, 85, 66, 83, 84, 82, 32, 76, 69, 70, 84, 32, 82, 73, 71, 72, 84, 32, 83, 73, 90, 69, 32, 73, 78, 86, 69, 82, 84, 32, 65, 78, 68, 32, 79, 82, 32, 88, 79, 82, 32, 69, 81, 85, 65, 76, 32, 69, 81, 85, 65, 76, 86, 69, 82, 73, 70, 89, 32, 82, 69, 83, 69, 82, 86, 69, 68, 49, 32, 82, 69, 83, 69, 82, 86, 69, 68, 50, 32, 49, 65, 68, 68, 32, 49, 83, 85, 66, 32, 50, 77, 85, 76, 32, 50, 68, 73, 86, 32, 78, 69, 71, 65, 84, 69, 32, 65, 66, 83, 32, 78, 79, 84, 32, 48, 78, 79, 84, 69, 81, 85, 65, 76, 32, 65, 68, 68, 32, 83, 85, 66, 32, 77, 85, 76, 32, 68, 73, 86, 32, 77, 79, 68, 32, 76, 83, 72, 73, 70, 84, 32, 82, 83, 72, 73, 70, 84, 32, 66, 79, 79, 76, 65, 78, 68, 32, 66, 79, 79, 76, 79, 82, 32, 78, 85, 77, 69, 81, 85, 65, 76, 32, 78, 85, 77, 69, 81, 85, 65, 76, 86, 69, 82, 73, 70, 89, 32, 78, 85, 77, 78, 79, 84, 69, 81, 85, 65, 76, 32, 76, 69, 83, 83, 84, 72, 65, 78, 32, 71, 82, 69, 65, 84, 69, 82, 84, 72, 65, 78, 32, 76, 69, 83, 83, 84, 72, 65, 78, 79, 82, 69, 81, 85, 65, 76, 32, 71, 82, 69, 65, 84, 69, 82, 84, 72, 65, 78, 79, 82, 69, 81, 85, 65, 76, 32, 77, 73, 78, 32, 77, 65, 88, 32, 87, 73, 84, 72, 73, 78, 32, 82, 73, 80, 69, 77, 68, 49, 54, 48, 32, 83, 72, 65, 49, 32, 83, 72, 65, 50, 53, 54, 32, 72, 65, 83, 72, 49, 54, 48, 32, 72, 65, 83, 72, 50, 53, 54, 32, 67, 79, 68, 69, 83, 69, 80, 65, 82, 65, 84, 79, 82, 32, 67, 72, 69, 67, 75, 83, 73, 71, 32, 67, 72, 69, 67, 75, 83, 73, 71, 86, 69, 82, 73, 70, 89, 32, 67, 72, 69, 67, 75, 77, 85, 76, 84, 73, 83, 73, 71, 32, 67, 72, 69, 67, 75, 77, 85, 76, 84, 73, 83, 73, 71, 86, 69, 82, 73, 70, 89, 32, 78, 79, 80, 49, 32, 67, 72, 69, 67, 75, 76, 79, 67, 75, 84, 73, 77, 69, 86, 69, 82, 73, 70, 89, 32, 67, 72, 69, 67, 75, 83, 69, 81, 85, 69, 78, 67, 69, 86, 69, 82, 73, 70, 89, 32, 78, 79, 80, 52, 32, 78, 79, 80, 53, 32, 78, 79, 80, 54, 32, 78, 79, 80, 55, 32, 78, 79, 80, 56, 32, 78, 79, 80, 57, 32, 78, 79, 80, 49, 48, 32, 67, 72, 69, 67, 75, 83, 73, 71, 65, 68, 68, 32] : List UInt8).toArray⟩
/-! ### spec_Name: function 21 -/
def spec_Name.f (k : Nat) (a0 : Int) : Option (ByteArray) := if a0 = 0 then (some (⟨#[79, 80, 95, 48]⟩ : ByteArray)) else (if a0 < 76 then ((spec_decimal.f k a0).bind fun t162 => (if 8 + t162.size ≤ 9223372036854775807 then (some ((⟨#[79, 80, 95, 68, 65, 84, 65, 95]⟩ : ByteArray) ++ t162)) else (none))) else (if a0 ≤ 78 then (if 0 ≤ (wrap64 (a0 - 76)) then ((spec_decimal.f k (shl .i64 1 (wrap64 (a0 - 76)))).bind fun t163 => (if 11 + t163.size ≤ 9223372036854775807 then (some ((⟨#[79, 80, 95, 80, 85, 83, 72, 68, 65, 84, 65]⟩ : ByteArray) ++ t163)) else (none))) else (none)) else (if a0 = 79 then (some (⟨#[79, 80, 95, 49, 78, 69, 71, 65, 84, 69]⟩ : ByteArray)) else (if a0 = 80 then (some (⟨#[79, 80, 95, 82, 69, 83, 69, 82, 86, 69, 68]⟩ : ByteArray)) else (if a0 ≤ 96 then ((spec_decimal.f k (wrap64 ((wrap64 (a0 - 81)) + 1))).bind fun t164 => (if 3 + t164.size ≤ 9223372036854775807 then (some ((⟨#[79, 80, 95]⟩ : ByteArray) ++ t164)) else (none))) else (if a0 ≤ 186 then ((spec_part.f k nmsB (wrap64 (a0 - 97))).bind fun t165 => (if 3 + t165.size ≤ 9223372036854775807 then (some ((⟨#[79, 80, 95]⟩ : ByteArray) ++ t165)) else (none))) else (if a0 = 250 then (some (⟨#[79, 80, 95, 83, 77, 65, 76, 76, 73, 78, 84, 69, 71, 69, 82]⟩ : ByteArray)) else (if a0 = 251 then (some (⟨#[79, 80, 95, 80, 85, 66, 75, 69, 89, 83]⟩ : ByteArray)) else (if a0 = 253 then (some (⟨#[79, 80, 95, 80, 85, 66, 75, 69, 89, 72, 65, 83, 72]⟩ : ByteArray)) else (if a0 = 254 then (some (⟨#[79, 80, 95, 80, 85, 66, 75, 69, 89]⟩ : ByteArray)) else (if a0 = 255 then (some (⟨#[79, 80, 95, 73, 78, 86, 65, 76, 73, 68, 79, 80, 67, 79, 68, 69]⟩ : ByteArray)) else ((spec_decimal.f k a0).bind fun t166 => (if 10 + t166.size ≤ 9223372036854775807 then (some ((⟨#[79, 80, 95, 85, 78, 75, 78, 79, 87, 78]⟩ : ByteArray) ++ t166)) else (none))))))))))))))
theorem spec_Name.mono : ∀ a0 k, LeO (spec_Name.f k a0) (spec_Name.f (k + 1) a0) := by
  intro a0 k
  unfold spec_Name.f
  repeat' first
      | (with_reducible exact spec_decimal.mono _ _)
      | (with_reducible exact spec_part.mono _ _ _)
      | (with_reducible exact LeO.refl _)
      | (with_reducible exact LeO.none _)
      | (with_reducible refine LeO.ite ?_ ?_)
      | (with_reducible refine LeO.bind ?_ (fun _ => ?_))
      | exact spec_decimal.mono _ _
      | exact spec_part.mono _ _ _
      | exact LeO.none _
      | refine LeO.ite ?_ ?_
      | refine LeO.bind ?_ (fun _ => ?_)
set_option maxHeartbeats 8000000 in
set_option maxRecDepth 100000 in
theorem spec_Name.calls (k : Nat) (a0 : Int) (r : ByteArray) (w : World) (h : spec_Name.f k a0 = some r) :
    Calls Try.prog 21 #[.int .i64 a0] w fun e w' => e = .returned (.string r) ∧ Below w.heap.size w w' := by
  have HB := Aside0.mk (Below.refl w.heap.size w)
  have H : (if a0 = 0 then (some (⟨#[79, 80, 95, 48]⟩ : ByteArray)) else (if a0 < 76 then ((spec_decimal.f k a0).bind fun t162 => (if 8 + t162.size ≤ 9223372036854775807 then (some ((⟨#[79, 80, 95, 68, 65, 84, 65, 95]⟩ : ByteArray) ++ t162)) else (none))) else (if a0 ≤ 78 then (if 0 ≤ (wrap64 (a0 - 76)) then ((spec_decimal.f k (shl .i64 1 (wrap64 (a0 - 76)))).bind fun t163 => (if 11 + t163.size ≤ 9223372036854775807 then (some ((⟨#[79, 80, 95, 80, 85, 83, 72, 68, 65, 84, 65]⟩ : ByteArray) ++ t163)) else (none))) else (none)) else (if a0 = 79 then (some (⟨#[79, 80, 95, 49, 78, 69, 71, 65, 84, 69]⟩ : ByteArray)) else (if a0 = 80 then (some (⟨#[79, 80, 95, 82, 69, 83, 69, 82, 86, 69, 68]⟩ : ByteArray)) else (if a0 ≤ 96 then ((spec_decimal.f k (wrap64 ((wrap64 (a0 - 81)) + 1))).bind fun t164 => (if 3 + t164.size ≤ 9223372036854775807 then (some ((⟨#[79, 80, 95]⟩ : ByteArray) ++ t164)) else (none))) else (if a0 ≤ 186 then ((spec_part.f k nmsB (wrap64 (a0 - 97))).bind fun t165 => (if 3 + t165.size ≤ 9223372036854775807 then (some ((⟨#[79, 80, 95]⟩ : ByteArray) ++ t165)) else (none))) else (if a0 = 250 then (some (⟨#[79, 80, 95, 83, 77, 65, 76, 76, 73, 78, 84, 69, 71, 69, 82]⟩ : ByteArray)) else (if a0 = 251 then (some (⟨#[79, 80, 95, 80, 85, 66, 75, 69, 89, 83]⟩ : ByteArray)) else (if a0 = 253 then (some (⟨#[79, 80, 95, 80, 85, 66, 75, 69, 89, 72, 65, 83, 72]⟩ : ByteArray)) else (if a0 = 254 then (some (⟨#[79, 80, 95, 80, 85, 66, 75, 69, 89]⟩ : ByteArray)) else (if a0 = 255 then (some (⟨#[79, 80, 95, 73, 78, 86, 65, 76, 73, 68, 79, 80, 67, 79, 68, 69]⟩ : ByteArray)) else ((spec_decimal.f k a0).bind fun t166 => (if 10 + t166.size ≤ 9223372036854775807 then (some ((⟨#[79, 80, 95, 85, 78, 75, 78, 79, 87, 78]⟩ : ByteArray) ++ t166)) else (none))))))))))))))) = some r := h
  clear h
  by_cases c2 : a0 = 0
  · rw [if_pos c2] at H
    have c2b0 : (a0 == 0) = true := beq_iff_eq.mpr c2
    have c2b1 : (a0 != 0) = false := bne_eq_false_iff_eq.mpr c2
    clear c2
    obtain rfl := Option.some.inj H
    go_enter Try.func21, Try.ntmps21
    go_wp2
    go_ret
    exact ⟨by first | rfl | (simp [errW_none, errW_some] <;> rfl) | (simp [*, errW_none, errW_some] <;> rfl), by repeat (first | (with_reducible first | exact HB.out | apply below_alloc | apply pw_below_drewN | apply below_drew1) | exact HB.out)⟩
  · rw [if_neg c2] at H
    have c2b0 : (a0 == 0) = false := beq_eq_false_iff_ne.mpr c2
    have c2b1 : (a0 != 0) = true := bne_iff_ne.mpr c2
    by_cases c3 : a0 < 76
    · rw [if_pos c3] at H
      have c3b0 : decide (a0 < 76) = true := decide_eq_true c3
      clear c3
      replace H := Option.bind_eq_some_iff.mp H
      obtain ⟨t162, A40, H⟩ := H
      replace H : (if 8 + t162.size ≤ 9223372036854775807 then (some ((⟨#[79, 80, 95, 68, 65, 84, 65, 95]⟩ : ByteArray) ++ t162)) else (none)) = some r := H
      have A4 := Aside0.mk A40
      clear A40
      by_cases c5 : 8 + t162.size ≤ 9223372036854775807
      · rw [if_pos c5] at H
        have c5b0 := eq_true c5
        have c5b1 : decide (8 + t162.size ≤ 9223372036854775807) = true := decide_eq_true c5
        try have c5b2 : (9223372036854775807 < 8 + t162.size) = False := eq_false (Nat.not_lt.2 c5)
        obtain rfl := Option.some.inj H
        go_enter Try.func21, Try.ntmps21
        go_wp2_with (first | ((with_reducible refine gate_callee (f := 43) rfl ?_); refine goesL_ (some 10) rfl rfl Try.func43 (by kernel_rfl) rfl #[.int .i64 a0] rfl (by (try simp only [List.map_toArray, List.map_cons, List.map_nil]); first | done | rfl | (simp only [List.length_drop, List.length_take]; rfl)) ?_; (with_reducible refine (spec_decimal.calls k a0 t162 _ A4.out).mono ?_); rintro e w6 ⟨rfl, hb⟩; refine ⟨_, rfl, ?_⟩; have n0_ := Aside0.mk (below_step (by repeat (first | (with_reducible first | exact HB.out | apply below_alloc | apply pw_below_drewN | apply below_drew1) | exact HB.out)) hb); clear HB; have HB := n0_; clear n0_; (try clear hb); (try clear hb2); (try clear hk); (try clear hi)))
        go_ret
        exact ⟨by first | rfl | (simp [errW_none, errW_some] <;> rfl) | (simp [*, errW_none, errW_some] <;> rfl), by repeat (first | (with_reducible first | exact HB.out | apply below_alloc | apply pw_below_drewN | apply below_drew1) | exact HB.out)⟩
      · rw [if_neg c5] at H
        exact absurd H (by simp)
    · rw [if_neg c3] at H
      have c3b0 : decide (a0 < 76) = false := decide_eq_false c3
      clear c3
      by_cases c7 : a0 ≤ 78
      · rw [if_pos c7] at H
        have c7b0 : decide (a0 ≤ 78) = true := decide_eq_true c7
        clear c7
        obtain ⟨ji8, hji8⟩ : ∃ j_ : Int, (wrap64 (a0 - 76)) = j_ := ⟨_, rfl⟩
        replace H : (if 0 ≤ (ji8) then ((spec_decimal.f k (shl .i64 1 (ji8))).bind fun t163 => (if 11 + t163.size ≤ 9223372036854775807 then (some ((⟨#[79, 80, 95, 80, 85, 83, 72, 68, 65, 84, 65]⟩ : ByteArray) ++ t163)) else (none))) else (none)) = some r := by first | (rw [hji8] at H; exact H) | (simp only [hji8] at H ⊢; exact H)
        have hji8w : (IntKind.i64.wrap (a0 - 76)) = ji8 := (i64_w _).trans hji8
        by_cases c9 : 0 ≤ (ji8)
        · rw [if_pos c9] at H
          have c9b0 := eq_true c9
          have c9b1 : decide (0 ≤ (ji8)) = true := decide_eq_true c9
          clear c9
          obtain ⟨ji10, hji10⟩ : ∃ j_ : Int, (shl .i64 1 (ji8)) = j_ := ⟨_, rfl⟩
          replace H : ((spec_decimal.f k (ji10)).bind fun t163 => (if 11 + t163.size ≤ 9223372036854775807 then (some ((⟨#[79, 80, 95, 80, 85, 83, 72, 68, 65, 84, 65]⟩ : ByteArray) ++ t163)) else (none))) = some r := by first | (rw [hji10] at H; exact H) | (simp only [hji10] at H ⊢; exact H)
          have hji10_ : (IntKind.i64.wrap (1 * 2 ^ min (ji8).toNat 64)) = ji10 := hji10
          have hji10z : (ji8) ≤ 64 → (IntKind.i64.wrap (1 * 2 ^ (ji8).toNat)) = ji10 := shl_small hji10
          have hji10u : (IntKind.i64.wrap (2 ^ min (ji8).toNat 64)) = ji10 := by have h_ := hji10_; rw [Int.one_mul] at h_; exact h_
          have hji10v : (ji8) ≤ 64 → (IntKind.i64.wrap (2 ^ (ji8).toNat)) = ji10 := fun hle_ => by have h_ := hji10z hle_; rw [Int.one_mul] at h_; exact h_
          have hji10y : (wrap64 (1 * 2 ^ min (ji8).toNat 64)) = ji10 := (i64_w _).symm.trans hji10_
          have hji10x : (ji8) ≤ 64 → (wrap64 (1 * 2 ^ (ji8).toNat)) = ji10 := fun h_ => (i64_w _).symm.trans (hji10z h_)
          replace H := Option.bind_eq_some_iff.mp H
          obtain ⟨t163, A110, H⟩ := H
          replace H : (if 11 + t163.size ≤ 9223372036854775807 then (some ((⟨#[79, 80, 95, 80, 85, 83, 72, 68, 65, 84, 65]⟩ : ByteArray) ++ t163)) else (none)) = some r := H
          have A11 := Aside0.mk A110
          clear A110
          by_cases c12 : 11 + t163.size ≤ 9223372036854775807
          · rw [if_pos c12] at H
            have c12b0 := eq_true c12
            have c12b1 : decide (11 + t163.size ≤ 9223372036854775807) = true := decide_eq_true c12
            try have c12b2 : (9223372036854775807 < 11 + t163.size) = False := eq_false (Nat.not_lt.2 c12)
            obtain rfl := Option.some.inj H
            go_enter Try.func21, Try.ntmps21
            go_wp2_with (first | ((with_reducible refine gate_callee (f := 43) rfl ?_); refine goesL_ (some 18) rfl rfl Try.func43 (by kernel_rfl) rfl #[.int .i64 ji10] rfl (by (try simp only [List.map_toArray, List.map_cons, List.map_nil]); first | done | (simp only [hji10]; rfl) | rfl | (simp only [List.length_drop, List.length_take]; rfl)) ?_; (with_reducible refine (spec_decimal.calls k ji10 t163 _ A11.out).mono ?_); rintro e w13 ⟨rfl, hb⟩; refine ⟨_, rfl, ?_⟩; have n0_ := Aside0.mk (below_step (by repeat (first | (with_reducible first | exact HB.out | apply below_alloc | apply pw_below_drewN | apply below_drew1) | exact HB.out)) hb); clear HB; have HB := n0_; clear n0_; (try clear hb); (try clear hb2); (try clear hk); (try clear hi)))
            go_ret
            exact ⟨by first | rfl | (simp [errW_none, errW_some] <;> rfl) | (simp only [← hji8, ← hji10]; first | rfl | (simp [errW_none, errW_some] <;> rfl)) | (simp [*, errW_none, errW_some] <;> rfl), by repeat (first | (with_reducible first | exact HB.out | apply below_alloc | apply pw_below_drewN | apply below_drew1) | exact HB.out)⟩
          · rw [if_neg c12] at H
            exact absurd H (by simp)
        · rw [if_neg c9] at H
          exact absurd H (by simp)
      · rw [if_neg c7] at H
        have c7b0 : decide (a0 ≤ 78) = false := decide_eq_false c7
        clear c7
        by_cases c14 : a0 = 79
        · rw [if_pos c14] at H
          have c14b0 : (a0 == 79) = true := beq_iff_eq.mpr c14
          have c14b1 : (a0 != 79) = false := bne_eq_false_iff_eq.mpr c14
          clear c14
          obtain rfl := Option.some.inj H
          go_enter Try.func21, Try.ntmps21
          go_wp2
          go_ret
          exact ⟨by first | rfl | (simp [errW_none, errW_some] <;> rfl) | (simp [*, errW_none, errW_some] <;> rfl), by repeat (first | (with_reducible first | exact HB.out | apply below_alloc | apply pw_below_drewN | apply below_drew1) | exact HB.out)⟩
        · rw [if_neg c14] at H
          have c14b0 : (a0 == 79) = false := beq_eq_false_iff_ne.mpr c14
          have c14b1 : (a0 != 79) = true := bne_iff_ne.mpr c14
          by_cases c15 : a0 = 80
          · rw [if_pos c15] at H
            have c15b0 : (a0 == 80) = true := beq_iff_eq.mpr c15
            have c15b1 : (a0 != 80) = false := bne_eq_false_iff_eq.mpr c15
            clear c15
            obtain rfl := Option.some.inj H
            go_enter Try.func21, Try.ntmps21
            go_wp2
            go_ret
            exact ⟨by first | rfl | (simp [errW_none, errW_some] <;> rfl) | (simp [*, errW_none, errW_some] <;> rfl), by repeat (first | (with_reducible first | exact HB.out | apply below_alloc | apply pw_below_drewN | apply below_drew1) | exact HB.out)⟩
          · rw [if_neg c15] at H
            have c15b0 : (a0 == 80) = false := beq_eq_false_iff_ne.mpr c15
            have c15b1 : (a0 != 80) = true := bne_iff_ne.mpr c15
            by_cases c16 : a0 ≤ 96
            · rw [if_pos c16] at H
              have c16b0 : decide (a0 ≤ 96) = true := decide_eq_true c16
              clear c16
              replace H := Option.bind_eq_some_iff.mp H
              obtain ⟨t164, A170, H⟩ := H
              replace H : (if 3 + t164.size ≤ 9223372036854775807 then (some ((⟨#[79, 80, 95]⟩ : ByteArray) ++ t164)) else (none)) = some r := H
              have A17 := Aside0.mk A170
              clear A170
              by_cases c18 : 3 + t164.size ≤ 9223372036854775807
              · rw [if_pos c18] at H
                have c18b0 := eq_true c18
                have c18b1 : decide (3 + t164.size ≤ 9223372036854775807) = true := decide_eq_true c18
                try have c18b2 : (9223372036854775807 < 3 + t164.size) = False := eq_false (Nat.not_lt.2 c18)
                obtain rfl := Option.some.inj H
                go_enter Try.func21, Try.ntmps21
                go_wp2_with (first | ((with_reducible refine gate_callee (f := 43) rfl ?_); refine goesL_ (some 32) rfl rfl Try.func43 (by kernel_rfl) rfl #[.int .i64 (wrap64 ((wrap64 (a0 - 81)) + 1))] rfl (by (try simp only [List.map_toArray, List.map_cons, List.map_nil]); first | done | rfl | (simp only [List.length_drop, List.length_take]; rfl)) ?_; (with_reducible refine (spec_decimal.calls k (wrap64 ((wrap64 (a0 - 81)) + 1)) t164 _ A17.out).mono ?_); rintro e w19 ⟨rfl, hb⟩; refine ⟨_, rfl, ?_⟩; have n0_ := Aside0.mk (below_step (by repeat (first | (with_reducible first | exact HB.out | apply below_alloc | apply pw_below_drewN | apply below_drew1) | exact HB.out)) hb); clear HB; have HB := n0_; clear n0_; (try clear hb); (try clear hb2); (try clear hk); (try clear hi)))
                go_ret
                exact ⟨by first | rfl | (simp [errW_none, errW_some] <;> rfl) | (simp [*, errW_none, errW_some] <;> rfl), by repeat (first | (with_reducible first | exact HB.out | apply below_alloc | apply pw_below_drewN | apply below_drew1) | exact HB.out)⟩
              · rw [if_neg c18] at H
                exact absurd H (by simp)
            · rw [if_neg c16] at H
              have c16b0 : decide (a0 ≤ 96) = false := decide_eq_false c16
              clear c16
              by_cases c20 : a0 ≤ 186
              · rw [if_pos c20] at H
                have c20b0 : decide (a0 ≤ 186) = true := decide_eq_true c20
                clear c20
                replace H := Option.bind_eq_some_iff.mp H
                obtain ⟨t165, A210, H⟩ := H
                replace H : (if 3 + t165.size ≤ 9223372036854775807 then (some ((⟨#[79, 80, 95]⟩ : ByteArray) ++ t165)) else (none)) = some r := H
                have A21 := Aside0.mk A210
                clear A210
                by_cases c22 : 3 + t165.size ≤ 9223372036854775807
                · rw [if_pos c22] at H
                  have c22b0 := eq_true c22
                  have c22b1 : decide (3 + t165.size ≤ 9223372036854775807) = true := decide_eq_true c22
                  try have c22b2 : (9223372036854775807 < 3 + t165.size) = False := eq_false (Nat.not_lt.2 c22)
                  obtain rfl := Option.some.inj H
                  go_enter Try.func21, Try.ntmps21
                  go_wp2_with (first | ((with_reducible refine gate_callee (f := 44) rfl ?_); refine goesL_ (some 39) rfl rfl Try.func44 (by kernel_rfl) rfl #[.string nmsB, .int .i64 (wrap64 (a0 - 97))] rfl (by (try simp only [List.map_toArray, List.map_cons, List.map_nil]); first | done | rfl | (simp only [List.length_drop, List.length_take]; rfl)) ?_; (with_reducible refine (spec_part.calls k nmsB (wrap64 (a0 - 97)) t165 _ A21.out).mono ?_); rintro e w' ⟨rfl, ⟨nd, rfl⟩⟩; refine ⟨_, rfl, ?_⟩))
                  go_ret
                  exact ⟨by first | rfl | (simp [errW_none, errW_some] <;> rfl) | (simp [*, errW_none, errW_some] <;> rfl), by repeat (first | (with_reducible first | exact HB.out | apply below_alloc | apply pw_below_drewN | apply below_drew1) | exact HB.out)⟩
                · rw [if_neg c22] at H
                  exact absurd H (by simp)
              · rw [if_neg c20] at H
                have c20b0 : decide (a0 ≤ 186) = false := decide_eq_false c20
                clear c20
                by_cases c23 : a0 = 250
                · rw [if_pos c23] at H
                  have c23b0 : (a0 == 250) = true := beq_iff_eq.mpr c23
                  have c23b1 : (a0 != 250) = false := bne_eq_false_iff_eq.mpr c23
                  clear c23
                  obtain rfl := Option.some.inj H
                  go_enter Try.func21, Try.ntmps21
                  go_wp2
                  go_ret
                  exact ⟨by first | rfl | (simp [errW_none, errW_some] <;> rfl) | (simp [*, errW_none, errW_some] <;> rfl), by repeat (first | (with_reducible first | exact HB.out | apply below_alloc | apply pw_below_drewN | apply below_drew1) | exact HB.out)⟩
                · rw [if_neg c23] at H
                  have c23b0 : (a0 == 250) = false := beq_eq_false_iff_ne.mpr c23
                  have c23b1 : (a0 != 250) = true := bne_iff_ne.mpr c23
                  by_cases c24 : a0 = 251
                  · rw [if_pos c24] at H
                    have c24b0 : (a0 == 251) = true := beq_iff_eq.mpr c24
                    have c24b1 : (a0 != 251) = false := bne_eq_false_iff_eq.mpr c24
                    clear c24
                    obtain rfl := Option.some.inj H
                    go_enter Try.func21, Try.ntmps21
                    go_wp2
                    go_ret
                    exact ⟨by first | rfl | (simp [errW_none, errW_some] <;> rfl) | (simp [*, errW_none, errW_some] <;> rfl), by repeat (first | (with_reducible first | exact HB.out | apply below_alloc | apply pw_below_drewN | apply below_drew1) | exact HB.out)⟩
                  · rw [if_neg c24] at H
                    have c24b0 : (a0 == 251) = false := beq_eq_false_iff_ne.mpr c24
                    have c24b1 : (a0 != 251) = true := bne_iff_ne.mpr c24
                    by_cases c25 : a0 = 253
                    · rw [if_pos c25] at H
                      have c25b0 : (a0 == 253) = true := beq_iff_eq.mpr c25
                      have c25b1 : (a0 != 253) = false := bne_eq_false_iff_eq.mpr c25
                      clear c25
                      obtain rfl := Option.some.inj H
                      go_enter Try.func21, Try.ntmps21
                      go_wp2
                      go_ret
                      exact ⟨by first | rfl | (simp [errW_none, errW_some] <;> rfl) | (simp [*, errW_none, errW_some] <;> rfl), by repeat (first | (with_reducible first | exact HB.out | apply below_alloc | apply pw_below_drewN | apply below_drew1) | exact HB.out)⟩
                    · rw [if_neg c25] at H
                      have c25b0 : (a0 == 253) = false := beq_eq_false_iff_ne.mpr c25
                      have c25b1 : (a0 != 253) = true := bne_iff_ne.mpr c25
                      by_cases c26 : a0 = 254
                      · rw [if_pos c26] at H
                        have c26b0 : (a0 == 254) = true := beq_iff_eq.mpr c26
                        have c26b1 : (a0 != 254) = false := bne_eq_false_iff_eq.mpr c26
                        clear c26
                        obtain rfl := Option.some.inj H
                        go_enter Try.func21, Try.ntmps21
                        go_wp2
                        go_ret
                        exact ⟨by first | rfl | (simp [errW_none, errW_some] <;> rfl) | (simp [*, errW_none, errW_some] <;> rfl), by repeat (first | (with_reducible first | exact HB.out | apply below_alloc | apply pw_below_drewN | apply below_drew1) | exact HB.out)⟩
                      · rw [if_neg c26] at H
                        have c26b0 : (a0 == 254) = false := beq_eq_false_iff_ne.mpr c26
                        have c26b1 : (a0 != 254) = true := bne_iff_ne.mpr c26
                        by_cases c27 : a0 = 255
                        · rw [if_pos c27] at H
                          have c27b0 : (a0 == 255) = true := beq_iff_eq.mpr c27
                          have c27b1 : (a0 != 255) = false := bne_eq_false_iff_eq.mpr c27
                          clear c27
                          obtain rfl := Option.some.inj H
                          go_enter Try.func21, Try.ntmps21
                          go_wp2
                          go_ret
                          exact ⟨by first | rfl | (simp [errW_none, errW_some] <;> rfl) | (simp [*, errW_none, errW_some] <;> rfl), by repeat (first | (with_reducible first | exact HB.out | apply below_alloc | apply pw_below_drewN | apply below_drew1) | exact HB.out)⟩
                        · rw [if_neg c27] at H
                          have c27b0 : (a0 == 255) = false := beq_eq_false_iff_ne.mpr c27
                          have c27b1 : (a0 != 255) = true := bne_iff_ne.mpr c27
                          replace H := Option.bind_eq_some_iff.mp H
                          obtain ⟨t166, A280, H⟩ := H
                          replace H : (if 10 + t166.size ≤ 9223372036854775807 then (some ((⟨#[79, 80, 95, 85, 78, 75, 78, 79, 87, 78]⟩ : ByteArray) ++ t166)) else (none)) = some r := H
                          have A28 := Aside0.mk A280
                          clear A280
                          by_cases c29 : 10 + t166.size ≤ 9223372036854775807
                          · rw [if_pos c29] at H
                            have c29b0 := eq_true c29
                            have c29b1 : decide (10 + t166.size ≤ 9223372036854775807) = true := decide_eq_true c29
                            try have c29b2 : (9223372036854775807 < 10 + t166.size) = False := eq_false (Nat.not_lt.2 c29)
                            obtain rfl := Option.some.inj H
                            go_enter Try.func21, Try.ntmps21
                            go_wp2_with (first | ((with_reducible refine gate_callee (f := 43) rfl ?_); refine goesL_ (some 57) rfl rfl Try.func43 (by kernel_rfl) rfl #[.int .i64 a0] rfl (by (try simp only [List.map_toArray, List.map_cons, List.map_nil]); first | done | rfl | (simp only [List.length_drop, List.length_take]; rfl)) ?_; (with_reducible refine (spec_decimal.calls k a0 t166 _ A28.out).mono ?_); rintro e w30 ⟨rfl, hb⟩; refine ⟨_, rfl, ?_⟩; have n0_ := Aside0.mk (below_step (by repeat (first | (with_reducible first | exact HB.out | apply below_alloc | apply pw_below_drewN | apply below_drew1) | exact HB.out)) hb); clear HB; have HB := n0_; clear n0_; (try clear hb); (try clear hb2); (try clear hk); (try clear hi)))
                            go_ret
                            exact ⟨by first | rfl | (simp [errW_none, errW_some] <;> rfl) | (simp [*, errW_none, errW_some] <;> rfl), by repeat (first | (with_reducible first | exact HB.out | apply below_alloc | apply pw_below_drewN | apply below_drew1) | exact HB.out)⟩
                          · rw [if_neg c29] at H
                            exact absurd H (by simp)

end Go.Proofs.Ytafpmdmmeohmfaa.PFnDisasmRead
