/-
  What the reference says of a script that holds data, and of one that pays a key. No program stands in this text.
-/
import Derived.Test.YtafpmdmmeohmfaaClMany
namespace Go.Proofs.Ytafpmdmmeohmfaa.PFnClass
open Go.RowKit Go.Proofs.YtafpmdmmeohmfaaW.PrintWords Go.Proofs.YtafpmdmmeohmfaaW.PrintLast Go.Proofs.YtafpmdmmeohmfaaW.PrintMore
open Tok (T Cut small smallV)
set_option linter.unusedVariables false
set_option linter.unusedSimpArgs false

theorem shape_tail (l : List Int) (h : 1 ≤ l.length) : Tok.shape (l.drop 1) 0 = Tok.shape l 1 := by
  have e : (l.drop 1).getD 0 0 = l.getD 1 0 := by rw [List.getD_eq_getElem?_getD, List.getElem?_drop, List.getD_eq_getElem?_getD]
  have e2 : (l.drop 1).length - (0 + 1) = l.length - (1 + 1) := by rw [List.length_drop]; omega
  have e3 : ∀ w, Tok.shapeW (l.drop 1) 0 w = Tok.shapeW l 1 w := by
    intro w
    unfold Tok.shapeW
    rw [e2, List.drop_drop]
  unfold Tok.shape
  rw [e, e2, e3, e3, e3]

def dataT (ts : List T) : Bool := match ts with
  | [a] => a.op == 106
  | [a, b] => a.op == 106 && (small b.op || (decide (b.op ≤ 78) && decide ((b.data.length : Int) ≤ 80)))
  | _ => false
theorem data_tokens (ts : List T) (ho : Ops ts) (k : Nat) (hk : 1 ≤ k) :
    ∃ a, (if ((ts.map toS).length : Int) = 0 then (spec_Data.j0 k (ts.map toS) true) else (if ((ts.map toS).length : Int) > 2 then (spec_Data.j0 k (ts.map toS) true) else (if 0 < ((ts.map toS).length : Int) then (spec_Data.j0 k (ts.map toS) (((rd_T27 (ts.map toS) 0).f0) != 106)) else (none)))) = some (a, dataT ts) := by
  obtain ⟨k, rfl⟩ : ∃ k', k = k' + 1 := ⟨k - 1, by omega⟩
  match ts, ho with
  | [], _ => exact ⟨[], rfl⟩
  | [a], ho =>
    rw [if_neg (by simp), if_neg (by simp), if_pos (by simp), show (rd_T27 ([a].map toS) 0).f0 = a.op from rfl, spec_Data.j0]
    by_cases h : a.op = 106
    · rw [h, if_neg (by decide), if_pos (by simp)]; exact ⟨[], by simp [dataT, h]⟩
    · rw [if_pos (by rw [bne_iff_ne]; exact h)]; exact ⟨[], by simp [dataT, h]⟩
  | [a, b], ho =>
    have hb := ho b (by simp)
    rw [if_neg (by simp), if_neg (by simp), if_pos (by simp), show (rd_T27 ([a, b].map toS) 0).f0 = a.op from rfl, spec_Data.j0]
    by_cases h : a.op = 106
    · rw [h, if_neg (by decide), if_neg (by simp), if_pos (by simp), show (rd_T27 ([a, b].map toS) 1).f0 = b.op from rfl, show (rd_T27 ([a, b].map toS) 1).f1 = b.data from rfl, small_f _ hb.1 hb.2, Option.bind_some]
      simp only []
      cases hs : small b.op with
      | true => exact ⟨[], by simp [dataT, h, hs]⟩
      | false =>
        rw [if_neg (by decide)]
        by_cases h7 : b.op ≤ 78
        · rw [if_pos h7]; exact ⟨_, by simp [dataT, h, hs, h7]; rfl⟩
        · rw [if_neg h7]; exact ⟨_, by simp [dataT, h, hs, h7]; rfl⟩
    · rw [if_pos (by rw [bne_iff_ne]; exact h)]; exact ⟨[], by simp [dataT, h]⟩
  | a :: b :: c :: r, _ =>
    rw [if_neg (by simp; omega), if_pos (by simp; omega)]
    exact ⟨[], rfl⟩

theorem small_op {x : Int} (h : small x = true) : x = 0 ∨ (81 ≤ x ∧ x ≤ 96) := by
  rw [small] at h
  simpa using h

theorem data_eq (l : List Int) (hb : Tok.Bytes l) (hl : l.length ≤ 100000) {ts : List T} {b : Int} (hc : Cut l 0 ts b) : (decide (b = -1) && dataT ts) = Tok.nullP l := by
  have e0 : rd l 0 = l.getD 0 0 := rfl
  rw [Tok.nullP, e0]
  cases hc with
  | done h => rw [decide_eq_false (show ¬ 1 ≤ l.length by omega)]; simp [dataT]
  | bad h h' =>
    rw [decide_eq_false (by omega), Bool.false_and]
    by_cases hx : l.getD 0 0 = 106
    · rw [Tok.shape_plain (.inr (by omega))] at h'; cases h'
    · rw [beq_eq_false_iff_ne.2 hx]; simp
  | @step _ wd cnt ts2 _ h1 h2 h3 =>
    rw [decide_eq_true (show 1 ≤ l.length by omega), Bool.true_and]
    by_cases hx : l.getD 0 0 = 106
    · rw [Tok.shape_plain (.inr (by omega))] at h2
      injection h2 with h2
      injection h2 with h2a h2b
      subst h2a h2b
      rw [hx, beq_self_eq_true, Bool.true_and]
      rw [show 0 + 1 + 0 + 0 = 1 from rfl] at h3
      rw [Tok.oneP, shape_tail l (by omega)]
      have e1 : (l.drop 1).getD 0 0 = l.getD 1 0 := by rw [List.getD_eq_getElem?_getD, List.getElem?_drop, List.getD_eq_getElem?_getD]
      rw [e1]
      cases h3 with
      | done h4 => rw [decide_eq_true (show l.length = 1 by omega), Bool.true_or]; simp [dataT]
      | bad h4 h5 => rw [h5, decide_eq_false (by omega), decide_eq_false (show ¬ l.length = 1 by omega)]; simp
      | @step _ wd cnt ts3 _ h4 h5 h6 =>
        have hf := Tok.shape_fits h5
        have hcl : ((l.drop (1 + 1 + wd)).take cnt).length = cnt := by rw [List.length_take, List.length_drop]; omega
        rw [h5, decide_eq_false (show ¬ l.length = 1 by omega), Bool.false_or, List.length_drop, decide_eq_true (show 0 < l.length - 1 by omega), Bool.true_and]
        simp only []
        have key : (small (l.getD 1 0) || (decide (l.getD 1 0 ≤ 78) && decide ((cnt : Int) ≤ 80))) = ((small (l.getD 1 0) || decide (l.getD 1 0 ≤ 78)) && decide ((cnt : Int) ≤ 80)) := by
          cases hs : small (l.getD 1 0) with
          | true =>
            obtain ⟨rfl, rfl⟩ := Tok.small_shape h5 hs
            rfl
          | false => rfl
        cases h6 with
        | done h7 =>
          rw [decide_eq_true (show ((l.length - 1 : Nat) : Int) ≤ ((0 + 1 + wd + cnt : Nat) : Int) by omega), Bool.true_and, ← key]
          show (decide ((-1 : Int) = -1) && ((106 : Int) == 106 && (small (l.getD 1 0) || (decide (l.getD 1 0 ≤ 78) && decide ((((l.drop (1 + 1 + wd)).take cnt).length : Int) ≤ 80))))) = _
          rw [hcl]
          rfl
        | bad h7 h8 =>
          rw [decide_eq_false (show ¬ ((l.length - 1 : Nat) : Int) ≤ ((0 + 1 + wd + cnt : Nat) : Int) by omega), decide_eq_false (by omega)]
          rfl
        | step h7 =>
          rw [decide_eq_false (show ¬ ((l.length - 1 : Nat) : Int) ≤ ((0 + 1 + wd + cnt : Nat) : Int) by omega), Bool.false_and]
          simp [dataT]
    · rw [beq_eq_false_iff_ne.2 hx, Bool.false_and]
      have : dataT (⟨l.getD 0 0, (l.drop (0 + 1 + wd)).take cnt, 0⟩ :: ts2) = false := by
        match ts2 with
        | [] => simpa [dataT] using hx
        | [_] => simp only [dataT, beq_eq_false_iff_ne.2 hx, Bool.false_and]
        | _ :: _ :: _ => rfl
      rw [this, Bool.and_false]
theorem data_f (l : List Int) (hb : Tok.Bytes l) (hl : l.length ≤ 100000) (k : Nat) (hk : 100010 ≤ k) : ∃ a, spec_Data.f k l = some (a, Tok.nullP l) := by
  have hc := Tok.tokens_cut l
  have hr := hc.bad_range
  have ho := cut_ops hc hb
  have he := data_eq l hb hl hc
  unfold spec_Data.f
  rw [show spec_Tokens.f k l = some ((Tok.tokens l).1.map toS, (Tok.tokens l).2) from if_pos ⟨hb, by omega⟩, Option.bind_some]
  simp only []
  rw [← he]
  generalize (Tok.tokens l).1 = ts at *
  generalize (Tok.tokens l).2 = b at *
  by_cases hb1 : b = -1
  · rw [decide_eq_true hb1, Bool.true_and, if_neg (by omega)]
    exact data_tokens ts ho k (by omega)
  · rw [decide_eq_false hb1, Bool.false_and, if_pos (by omega)]
    obtain ⟨k, rfl⟩ : ∃ k', k = k' + 1 := ⟨k - 1, by omega⟩
    exact ⟨[], rfl⟩

theorem program_f (l : List Int) (hb : Tok.Bytes l) (hl : l.length ≤ 100000) (k : Nat) : ∃ a p is, spec_Program.f k l = some (a, p, is) := by
  have hc := Tok.tokens_cut l
  have ho := cut_ops hc hb
  unfold spec_Program.f
  rw [show spec_Tokens.f k l = some ((Tok.tokens l).1.map toS, (Tok.tokens l).2) from if_pos ⟨hb, by omega⟩, Option.bind_some]
  simp only []
  generalize (Tok.tokens l).1 = ts at *
  split
  · exact ⟨_, _, _, rfl⟩
  · split
    · rename_i h2
      rw [List.length_map] at h2
      match ts, h2, ho with
      | [t0, t1], _, ho =>
        have h0 := ho t0 (by simp)
        have f0 : (rd_T27 ([t0, t1].map toS) 0).f0 = t0.op := rfl
        rw [f0, small_f _ h0.1 h0.2]
        repeat' split
        all_goals first | exact ⟨_, _, _, rfl⟩ | (rename_i h; exact absurd h (by simp))
    · exact ⟨_, _, _, rfl⟩
end Go.Proofs.Ytafpmdmmeohmfaa.PFnClass
