/-
  What spec.Program answers, by the bytes alone.
-/
import Derived.Test.YtmebcbmnfnlihaaQFnFormsx2
import Derived.Test.YtmebcbmnfnlihaaTokCut
import Derived.Test.YtmebcbmnfnlihaaForms
namespace Go.Proofs.Ytmebcbmnfnlihaa.PFnForms
open Go.RowKit Go.Proofs.YtmebcbmnfnlihaaW.PrintWords Go.Proofs.YtmebcbmnfnlihaaW.PrintLast Go.Proofs.YtmebcbmnfnlihaaW.PrintMore

theorem rd_eq (l : List Int) (i : Nat) : rd l (i : Int) = l.getD i 0 := rfl

theorem small_f (a : Int) (h0 : 0 ≤ a) (h1 : a < 256) : spec_Small.f a = some (if a = 0 then (0, true) else if 81 ≤ a ∧ a ≤ 96 then (a - 80, true) else (0, false)) := by
  unfold spec_Small.f
  by_cases e0 : a = 0
  · rw [if_pos e0, if_pos e0]
  · rw [if_neg e0, if_neg e0]
    by_cases e1 : a ≥ 81
    · rw [if_pos e1]
      by_cases e2 : a ≤ 96
      · rw [if_pos e2, if_pos ⟨e1, e2⟩, Tok.wrap64_id (x := a - 81) (by omega) (by omega), Tok.wrap64_id (by omega) (by omega)]
        congr 2
        omega
      · rw [if_neg e2, if_neg (by omega)]
    · rw [if_neg e1, if_neg (by omega)]

theorem program_f (k : Nat) (l : List Int) (hb : Tok.Bytes l) (hl : l.length ≤ 2147483647) : ∃ v p is, spec_Program.f k l = some (v, p, is) ∧
    (is = true → 4 ≤ l.length ∧ l.length ≤ 42 ∧ p.length = l.length - 2 ∧ rd l 1 = p.length ∧ ((rd l 0 = 0 ∧ v = 0) ∨ (81 ≤ rd l 0 ∧ rd l 0 ≤ 96 ∧ v = rd l 0 - 80))) ∧
    (is = false → ¬ (4 ≤ l.length ∧ l.length ≤ 42 ∧ rd l 1 = (l.length : Int) - 2 ∧ (rd l 0 = 0 ∨ (81 ≤ rd l 0 ∧ rd l 0 ≤ 96)))) := by
  have hc := Tok.tokens_cut l
  have hr := hc.bad_range
  have e0 : rd l 0 = l.getD 0 0 := rfl
  have e1 : rd l 1 = l.getD 1 0 := rfl
  have hd0 := hb.getD 0
  have hd1 := hb.getD 1
  -- such bytes have two tokens
  have key : 4 ≤ l.length → l.length ≤ 42 → rd l 1 = (l.length : Int) - 2 → (rd l 0 = 0 ∨ (81 ≤ rd l 0 ∧ rd l 0 ≤ 96)) →
      Tok.tokens l = ([⟨l.getD 0 0, [], 0⟩, ⟨l.getD 1 0, l.drop 2, 1⟩], -1) := fun h1 h2 h3 h4 =>
    Tok.cut_tokens (Tok.two_cut (by omega) (by omega) (by omega) (by omega))
  have e : spec_Tokens.f k l = some ((Tok.tokens l).1.map toS, (Tok.tokens l).2) := if_pos ⟨hb, hl⟩
  unfold spec_Program.f
  rw [e, Option.bind_some]
  simp only []
  generalize hq : (Tok.tokens l).1 = ts at *
  generalize hq2 : (Tok.tokens l).2 = b at *
  have no : ∀ P : Prop, ((Tok.tokens l).1.length ≠ 2 → ¬ P) → True := fun _ _ => trivial
  by_cases c1 : b ≥ 0
  · rw [if_pos c1]
    refine ⟨_, _, _, rfl, (fun h => by cases h), fun _ ⟨h1, h2, h3, h4⟩ => ?_⟩
    rw [key h1 h2 h3 h4] at hq2
    simp only at hq2
    omega
  · rw [if_neg c1]
    by_cases c2 : ((ts.map toS).length : Int) = 2
    · rw [if_pos c2]
      rw [List.length_map] at c2
      match ts, c2 with
      | [t0, t1], _ =>
        obtain rfl : b = -1 := by omega
        by_cases c3 : (l.length : Int) < 4
        · rw [if_pos c3]
          exact ⟨_, _, _, rfl, (fun h => by cases h), fun _ h => by omega⟩
        · rw [if_neg c3]
          by_cases c4 : (l.length : Int) > 42
          · rw [if_pos c4]
            exact ⟨_, _, _, rfl, (fun h => by cases h), fun _ h => by omega⟩
          · rw [if_neg c4, if_pos (by simp)]
            have f0 : (rd_T49 ([t0, t1].map toS) 0).f0 = t0.op := rfl
            have f1 : (rd_T49 ([t0, t1].map toS) 1).f0 = t1.op := rfl
            have f2 : (rd_T49 ([t0, t1].map toS) 1).f1 = t1.data := rfl
            rw [f0, f1, f2]
            have kk : 4 ≤ l.length → l.length ≤ 42 → rd l 1 = (l.length : Int) - 2 → (rd l 0 = 0 ∨ (81 ≤ rd l 0 ∧ rd l 0 ≤ 96)) → t0.op = rd l 0 ∧ t1.op = rd l 1 := by
              intro h1 h2 h3 h4
              rw [key h1 h2 h3 h4] at hq
              injection hq with q1 q2
              injection q2 with q2 _
              rw [← q1, ← q2]
              exact ⟨rfl, rfl⟩
            by_cases c5 : t1.op < 2
            · rw [if_pos c5]
              exact ⟨_, _, _, rfl, (fun h => by cases h), fun _ ⟨h1, h2, h3, h4⟩ => by have := kk h1 h2 h3 h4; omega⟩
            · rw [if_neg c5]
              by_cases c6 : t1.op > 40
              · rw [if_pos c6]
                exact ⟨_, _, _, rfl, (fun h => by cases h), fun _ ⟨h1, h2, h3, h4⟩ => by have := kk h1 h2 h3 h4; omega⟩
              · rw [if_neg c6, if_pos (by simp)]
                have hop : t0.op = l.getD 0 0 := by cases hc; rfl
                rw [small_f _ (by omega) (by omega), Option.bind_some]
                by_cases d0 : t0.op = 0
                · rw [if_pos d0]
                  have := Tok.cut_two hc (.inl d0) (by omega) (by omega)
                  exact ⟨_, _, _, rfl, fun _ => ⟨by omega, by omega, by omega, by omega, .inl ⟨by omega, rfl⟩⟩, fun h => by cases h⟩
                · rw [if_neg d0]
                  by_cases d1 : 81 ≤ t0.op ∧ t0.op ≤ 96
                  · rw [if_pos d1]
                    have := Tok.cut_two hc (.inr (by omega)) (by omega) (by omega)
                    exact ⟨_, _, _, rfl, fun _ => ⟨by omega, by omega, by omega, by omega, .inr ⟨by omega, by omega, by show t0.op - 80 = _; omega⟩⟩, fun h => by cases h⟩
                  · rw [if_neg d1]
                    exact ⟨_, _, _, rfl, (fun h => by cases h), fun _ ⟨h1, h2, h3, h4⟩ => by have := kk h1 h2 h3 h4; omega⟩
    · rw [if_neg c2]
      refine ⟨_, _, _, rfl, (fun h => by cases h), fun _ ⟨h1, h2, h3, h4⟩ => ?_⟩
      rw [key h1 h2 h3 h4] at hq
      apply c2
      rw [← hq]
      rfl

theorem pays_f (l : List Int) : spec_PaysScript.f l = some (Forms.isIsScriptHash l) := by
  unfold spec_PaysScript.f Forms.isIsScriptHash
  by_cases h : (l.length : Int) = 23
  · rw [if_pos h, if_pos (by omega)]
    by_cases h1 : rd l 0 = 169
    · rw [if_pos h1, if_pos (by omega)]
      by_cases h2 : rd l 1 = 20
      · rw [if_pos h2, if_pos (by omega)]
        by_cases h3 : rd l 22 = 135
        · rw [beq_iff_eq.2 h3, decide_eq_true]
          exact ⟨by omega, h1, h2, h3⟩
        · rw [beq_eq_false_iff_ne.2 h3, decide_eq_false]
          exact fun hh => h3 hh.2.2.2
      · rw [if_neg h2, decide_eq_false]
        exact fun hh => h2 hh.2.2.1
    · rw [if_neg h1, decide_eq_false]
      exact fun hh => h1 hh.2.1
  · rw [if_neg h, decide_eq_false]
    exact fun hh => h (by omega)

/-- The forms of programs, by what spec.Program answers. -/
theorem forms_f (k : Nat) (l : List Int) (hb : Tok.Bytes l) (hl : l.length ≤ 2147483647) : ∃ v p is, spec_Program.f k l = some (v, p, is) ∧
    Forms.isIsWitnessPubKeyHash l = (is && v == 0 && (p.length : Int) == 20) ∧ Forms.isIsWitnessScriptHash l = (is && v == 0 && (p.length : Int) == 32) ∧
    Forms.isIsTaproot l = (is && v == 1 && (p.length : Int) == 32) ∧ (l.length = 25 → rd l 0 = 118 → is = false) ∧ (is = true → l.length = 25 → (p.length : Int) = 23) := by
  obtain ⟨v, p, is, e, h1, h2⟩ := program_f k l hb hl
  refine ⟨v, p, is, e, ?_⟩
  unfold Forms.isIsWitnessPubKeyHash Forms.isIsWitnessScriptHash Forms.isIsTaproot
  cases is with
  | false =>
    have h := h2 rfl
    refine ⟨?_, ?_, ?_, fun _ _ => rfl, (fun h => by cases h)⟩ <;> · rw [decide_eq_false]; · rfl
                                                                     · omega
  | true =>
    obtain ⟨a1, a2, a3, a4, a5⟩ := h1 rfl
    refine ⟨?_, ?_, ?_, fun _ _ => by omega, fun _ _ => by omega⟩ <;> · rw [Bool.true_and, Bool.eq_iff_iff]; simp only [decide_eq_true_eq, Bool.and_eq_true, beq_iff_eq]; omega
end Go.Proofs.Ytmebcbmnfnlihaa.PFnForms
