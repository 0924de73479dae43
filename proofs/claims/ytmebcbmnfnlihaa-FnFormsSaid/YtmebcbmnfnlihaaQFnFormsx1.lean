import Derived.Test.YtmebcbmnfnlihaaPFnFormsx0
import Derived.Test.YtmebcbmnfnlihaaTokSpec
namespace Go.Proofs.Ytmebcbmnfnlihaa.PFnForms
open Go.RowKit Go.Proofs.YtmebcbmnfnlihaaW.PrintWords Go.Proofs.YtmebcbmnfnlihaaW.PrintLast Go.Proofs.YtmebcbmnfnlihaaW.PrintMore
attribute [local go_sem] max2_int min2_int max_two min_two max_three min_three max_four min_four   -- for this text's walks alone
set_option linter.unusedVariables false
set_option linter.unusedSimpArgs false


/-! ### spec_Tokens: over the own contract -/
noncomputable def toS (t : Tok.T) : S49 := ⟨t.op, t.data, (t.at_ : Int)⟩
open Classical in
noncomputable def spec_Tokens.f (_k : Nat) (l0 : List Int) : Option ((List (S49)) × Int) := if Tok.Bytes l0 ∧ l0.length ≤ 2147483647 then some ((Tok.tokens l0).1.map toS, (Tok.tokens l0).2) else none
theorem spec_Tokens.mono : ∀ a0 k, LeO (spec_Tokens.f k a0) (spec_Tokens.f (k + 1) a0) := fun _ _ => LeO.refl _
theorem N_toS {e : Nat} {w : World} {base : Nat} {ok : Nat → Prop} {v : Value} {xs : List Tok.T} (h : Kd.N Tok.kT e w base ok v xs) : Kd.N k49 e w base ok v (xs.map toS) := by
  obtain ⟨h0, rows, hl, hR, hf⟩ := h
  refine ⟨h0, rows, by simpa using hl, hR, fun j x c hx hc => ?_⟩
  rw [List.getElem?_map] at hx
  cases hj : xs[j]? with
  | none => rw [hj] at hx; cases hx
  | some y =>
    rw [hj] at hx
    injection hx with hx
    subst hx
    exact hf j y c hj hc
theorem spec_Tokens.calls (k : Nat) (P0_ : Nat → Prop) (A0 : Option Addr) (c0 : Nat) (l0 : List Int) (r1 : List (S49)) (r2 : Int) (w : World) (hs0 : Kd.V (Kd.int .u8) 5 w w.heap.size (fun k_ => P0_ k_) (.slice A0 l0.length c0) l0) (h : spec_Tokens.f k l0 = some (r1, r2)) :
    Calls Try.prog 31 #[.slice A0 l0.length c0] w fun e w' => ∃ v0_ : Value, e = .returned (.tuple #[v0_, .int .i64 r2]) ∧ Kd.N k49 49 w' w.heap.size (fun k_ => (P0_ k_ ∨ w.heap.size ≤ k_)) v0_ r1 ∧ Below w.heap.size w w' := by
  unfold spec_Tokens.f at h
  split at h
  · rename_i hb
    simp only [Option.some.injEq, Prod.mk.injEq] at h
    obtain ⟨rfl, rfl⟩ := h
    refine (Tok.specTokens_calls P0_ A0 c0 l0 _ _ w hs0 hb.1 hb.2 rfl).mono ?_
    rintro e w' ⟨v, rfl, hn, hw⟩
    exact ⟨v, rfl, N_toS hn, hw⟩
  · cases h
/-! ### spec_Small: function 40 -/
noncomputable def spec_Small.f (a0 : Int) : Option (Int × Bool) := if a0 = 0 then (some (0, true)) else (if a0 ≥ 81 then (if a0 ≤ 96 then (some (wrap64 ((wrap64 (a0 - 81)) + 1), true)) else (some (0, false))) else (some (0, false)))
set_option maxHeartbeats 8000000 in
set_option maxRecDepth 100000 in
theorem spec_Small.calls (a0 : Int) (r1 : Int) (r2 : Bool) (w : World) (h : spec_Small.f a0 = some (r1, r2)) :
    Calls Try.prog 40 #[.int .i64 a0] w fun e w' => e = .returned (.tuple #[.int .i64 r1, .bool r2]) ∧ Drawn0 w w' := by
  have H : (if a0 = 0 then (some (0, true)) else (if a0 ≥ 81 then (if a0 ≤ 96 then (some (wrap64 ((wrap64 (a0 - 81)) + 1), true)) else (some (0, false))) else (some (0, false)))) = some (r1, r2) := h
  clear h
  by_cases c2 : a0 = 0
  · rw [if_pos c2] at H
    have c2b0 : (a0 == 0) = true := beq_iff_eq.mpr c2
    have c2b1 : (a0 != 0) = false := bne_eq_false_iff_eq.mpr c2
    clear c2
    simp only [Option.some.injEq, Prod.mk.injEq] at H
    obtain ⟨rfl, rfl⟩ := H
    go_enter Try.func40, Try.ntmps40
    go_wp2
    go_ret2
    exact ⟨by first | rfl | (simp; done) | (simp [*]; done), by repeat (first | exact Drawn0.refl _ | apply Drawn0.step)⟩
  · rw [if_neg c2] at H
    have c2b0 : (a0 == 0) = false := beq_eq_false_iff_ne.mpr c2
    have c2b1 : (a0 != 0) = true := bne_iff_ne.mpr c2
    by_cases c3 : a0 ≥ 81
    · rw [if_pos c3] at H
      have c3b0 : decide (81 ≤ a0) = true := decide_eq_true c3
      clear c3
      by_cases c4 : a0 ≤ 96
      · rw [if_pos c4] at H
        have c4b0 : decide (a0 ≤ 96) = true := decide_eq_true c4
        clear c4
        simp only [Option.some.injEq, Prod.mk.injEq] at H
        obtain ⟨rfl, rfl⟩ := H
        go_enter Try.func40, Try.ntmps40
        go_wp2
        go_ret2
        exact ⟨by first | rfl | (simp; done) | (simp [*]; done), by repeat (first | exact Drawn0.refl _ | apply Drawn0.step)⟩
      · rw [if_neg c4] at H
        have c4b0 : decide (a0 ≤ 96) = false := decide_eq_false c4
        clear c4
        simp only [Option.some.injEq, Prod.mk.injEq] at H
        obtain ⟨rfl, rfl⟩ := H
        go_enter Try.func40, Try.ntmps40
        go_wp2
        go_ret2
        exact ⟨by first | rfl | (simp; done) | (simp [*]; done), by repeat (first | exact Drawn0.refl _ | apply Drawn0.step)⟩
    · rw [if_neg c3] at H
      have c3b0 : decide (81 ≤ a0) = false := decide_eq_false c3
      clear c3
      simp only [Option.some.injEq, Prod.mk.injEq] at H
      obtain ⟨rfl, rfl⟩ := H
      go_enter Try.func40, Try.ntmps40
      go_wp2
      go_ret2
      exact ⟨by first | rfl | (simp; done) | (simp [*]; done), by repeat (first | exact Drawn0.refl _ | apply Drawn0.step)⟩

end Go.Proofs.Ytmebcbmnfnlihaa.PFnForms
