/-
  What the reference says of a script that pays many, and of one that holds data. No program stands in this text.
-/
import Derived.Test.YtafpmdmmeohmfaaClPure
namespace Go.Proofs.Ytafpmdmmeohmfaa.PFnClass
open Go.RowKit Go.Proofs.YtafpmdmmeohmfaaW.PrintWords Go.Proofs.YtafpmdmmeohmfaaW.PrintLast Go.Proofs.YtafpmdmmeohmfaaW.PrintMore
open Tok (T Cut shape small smallV scanM)
set_option linter.unusedVariables false
set_option linter.unusedSimpArgs false

def manyT (ts : List T) : Bool := match ts with | [] => false | t :: r => small t.op && scanT r 0

theorem many_tokens (xs : List T) (ho : Ops xs) (hx : xs.length ≤ 100000) (k : Nat) (hk : 100010 ≤ k) :
    ∃ a b, (if (xs.length : Int) < 3 then (spec_Many.j0 k (xs.map toS) (xs.length : Int) true) else (if 0 ≤ (wrap64 ((xs.length : Int) - 1)) then (if (wrap64 ((xs.length : Int) - 1)) < (xs.length : Int) then (spec_Many.j0 k (xs.map toS) (xs.length : Int) (((rd_T27 (xs.map toS) (wrap64 ((xs.length : Int) - 1))).f0) != 174)) else (none)) else (none))) = some (a, b, manyT xs) := by
  obtain ⟨k, rfl⟩ : ∃ k', k = k' + 2 := ⟨k - 2, by omega⟩
  by_cases h3 : (xs.length : Int) < 3
  · rw [if_pos h3]
    refine ⟨0, 0, ?_⟩
    have : manyT xs = false := by
      match xs, h3 with
      | [], _ => rfl
      | [t], _ => show (small t.op && scanT [] 0) = false; simp [scanT]
      | [t, u], _ => show (small t.op && scanT [u] 0) = false; simp [scanT]
      | _ :: _ :: _ :: _, h => simp only [List.length_cons] at h; omega
    rw [this]
    rfl
  · rw [if_neg h3, w64 (x := (xs.length : Int) - 1) (by omega) (by omega), if_pos (by omega), if_pos (by omega)]
    match xs, h3 with
    | [], h => simp at h
    | t0 :: ys, h =>
      have hy : 2 ≤ ys.length := by simp only [List.length_cons] at h; omega
      have hm : manyT (t0 :: ys) = (small t0.op && scanT ys 0) := rfl
      rw [hm, scan_mids ys 0 hy]
      have hlast : rd_T27 ((t0 :: ys).map toS) (((t0 :: ys).length : Int) - 1) = toS (ys.getD (ys.length - 1) ⟨0, [], 0⟩) := by
        have e : ((t0 :: ys).length : Int) - 1 = ((ys.length : Nat) : Int) := by simp only [List.length_cons]; omega
        rw [e]
        refine (rdS (ys := []) ?_).1
        rw [show ys.length = (ys.length - 1) + 1 by omega, List.drop_succ_cons, List.drop_eq_getElem_cons (by omega), List.getD_eq_getElem?_getD, List.getElem?_eq_getElem (by omega), List.drop_eq_nil_of_le (by omega)]
        rfl
      have hpen : rd_T27 ((t0 :: ys).map toS) (((t0 :: ys).length : Int) - 2) = toS (ys.getD (ys.length - 2) ⟨0, [], 0⟩) := by
        have e : ((t0 :: ys).length : Int) - 2 = ((ys.length - 1 : Nat) : Int) := by simp only [List.length_cons]; omega
        rw [e]
        refine (rdS (ys := ys.drop (ys.length - 1)) ?_).1
        rw [show ys.length - 1 = (ys.length - 2) + 1 by omega, List.drop_succ_cons, List.drop_eq_getElem_cons (by omega), List.getD_eq_getElem?_getD, List.getElem?_eq_getElem (by omega)]
        rfl
      have h0 : rd_T27 ((t0 :: ys).map toS) 0 = toS t0 := rfl
      have o0 := ho t0 (List.mem_cons_self ..)
      have op : Ops [ys.getD (ys.length - 2) ⟨0, [], 0⟩] := by
        intro t ht
        rw [List.mem_singleton] at ht
        subst ht
        rw [List.getD_eq_getElem?_getD, List.getElem?_eq_getElem (by omega)]
        exact ho _ (List.mem_cons_of_mem _ (List.getElem_mem _))
      have op := op _ (List.mem_cons_self ..)
      have hl0 := fun a b => many_l0 (t0 :: ys) ho hx a b ys 1 k rfl hy (by simp only [List.length_cons] at hx; omega)
      rw [hlast]
      generalize hlq : ys.getD (ys.length - 1) ⟨0, [], 0⟩ = lq
      rw [show (toS lq).f0 = lq.op from rfl, spec_Many.j0]
      by_cases hq : lq.op = 174
      · rw [hq, if_neg (by decide), List.length_map, if_pos (by simp only [List.length_cons]; omega), h0, show (toS t0).f0 = t0.op from rfl, small_f _ o0.1 o0.2, Option.bind_some, w64 (x := ((t0 :: ys).length : Int) - 2) (by omega) (by omega), if_pos (by omega), if_pos (by omega), hpen]
        generalize ys.getD (ys.length - 2) ⟨0, [], 0⟩ = pq at op
        rw [show (toS pq).f0 = pq.op from rfl, small_f _ op.1 op.2, Option.bind_some]
        simp only []
        have w3 : wrap64 (((t0 :: ys).length : Int) - 3) = 0 + ((ys.length : Int) - 2) := by rw [w64 (by omega) (by omega)]; simp only [List.length_cons]; omega
        rw [w3]
        cases hs0 : small t0.op with
        | false => rw [if_neg (by decide), spec_Many.j1]; exact ⟨0, 0, rfl⟩
        | true =>
          rw [if_pos rfl]
          cases hsp : small pq.op with
          | false => rw [if_neg (by decide), spec_Many.j1, if_pos rfl]; refine ⟨0, 0, ?_⟩; rw [Bool.false_and, Bool.and_false, Bool.and_false]
          | true =>
            rw [if_pos rfl, if_pos rfl, if_pos rfl, spec_Many.j1]
            by_cases hv : smallV pq.op = 0 + ((ys.length : Int) - 2)
            · rw [if_neg (by rw [hv]; simp), beq_iff_eq.2 hv]
              have := hl0 (smallV pq.op) (smallV t0.op)
              rw [show ((1 : Nat) : Int) = 1 from rfl] at this
              rw [this]
              cases mids ys with
              | true => exact ⟨_, _, rfl⟩
              | false => exact ⟨_, _, rfl⟩
            · rw [if_pos (by rw [bne_iff_ne]; exact hv), beq_eq_false_iff_ne.2 hv]
              exact ⟨0, 0, by simp⟩
      · rw [bne_iff_ne.2 hq, if_pos rfl, beq_eq_false_iff_ne.2 hq]
        exact ⟨0, 0, by simp⟩

/-- The walk's scan against the scan of the tokens. -/
theorem last_plain {l : List Int} {off wd cnt : Nat} {x : Int} (hs : Tok.shape l off = some (wd, cnt)) (hx : l.getD off 0 = x) (h : x = 174) : wd = 0 ∧ cnt = 0 := by
  subst h
  rw [Tok.shape_plain (.inr (by omega))] at hs
  injection hs with hs
  injection hs with h1 h2
  exact ⟨h1.symm, h2.symm⟩
theorem scan_eq {l : List Int} {off : Nat} {ts : List T} {b : Int} (h : Cut l off ts b) (n : Int) (hl : rd l ((l.length : Int) - 1) = 174) : scanM l.length ts n = (decide (b = -1) && scanT ts n) := by
  induction h generalizing n with
  | done => simp [scanM, scanT]
  | bad => simp [scanM, scanT]
  | @step off wd cnt ts b h1 h2 h3 ih =>
    have hg : ∀ o, o + 1 = l.length → l.getD o 0 = 174 := by
      intro o ho
      rw [← hl]
      show _ = l.getD ((l.length : Int) - 1).toNat 0
      rw [show ((l.length : Int) - 1).toNat = o by omega]
    rw [scanM]
    cases hs : small (l.getD off 0) with
    | true =>
      obtain ⟨rfl, rfl⟩ := Tok.small_shape h2 hs
      simp only []
      rw [if_pos trivial]
      cases h3 with
      | done h4 => rw [decide_eq_false (by omega)]; simp [scanT]
      | bad h4 h5 =>
        have : ¬ off + 2 = l.length := by
          intro e
          have := hg (off + 1) (by omega)
          rw [show off + 1 + 0 + 0 = off + 1 by omega] at h5
          rw [Tok.shape_plain (.inr (by omega))] at h5
          cases h5
        rw [decide_eq_false this]
        simp [scanT]
      | @step _ wd2 cnt2 ts2 _ h4 h5 h6 =>
        rw [show off + 1 + 0 + 0 = off + 1 by omega] at h4 h5 h6 ⊢
        show _ = (decide (b = -1) && if small (l.getD off 0) then smallV (l.getD off 0) == n && (ts2.isEmpty && l.getD (off + 1) 0 == 174) else _)
        rw [hs, if_pos rfl]
        by_cases e : off + 2 = l.length
        · have hx := hg (off + 1) (by omega)
          obtain ⟨rfl, rfl⟩ := last_plain h5 rfl hx
          rw [decide_eq_true e, hx]
          cases h6 with
          | done h7 => simp
          | bad h7 h8 => omega
          | step h7 => omega
        · rw [decide_eq_false e, Bool.and_false]
          by_cases hx : l.getD (off + 1) 0 = 174
          · obtain ⟨rfl, rfl⟩ := last_plain h5 rfl hx
            cases h6 with
            | done h7 => omega
            | bad h7 h8 => rw [decide_eq_false (by omega)]; rfl
            | step h7 => simp
          · rw [beq_eq_false_iff_ne.2 hx]; simp
    | false =>
      rw [if_neg (by decide), ih]
      cases h3 with
      | done => simp [scanT]
      | bad => simp [scanT]
      | @step _ wd2 cnt2 ts2 _ h4 h5 h6 =>
        show _ = (_ && if small (l.getD off 0) then _ else _)
        rw [hs, if_neg (by decide)]
theorem scan_last {l : List Int} {off : Nat} {ts : List T} {b : Int} (h : Cut l off ts b) (n : Int) (hb : b = -1) (hs : scanT ts n = true) : rd l ((l.length : Int) - 1) = 174 := by
  induction h generalizing n with
  | done => simp [scanT] at hs
  | bad => simp [scanT] at hs
  | @step off wd cnt ts b h1 h2 h3 ih =>
    cases h3 with
    | done => simp [scanT] at hs
    | bad => simp [scanT] at hs
    | @step _ wd2 cnt2 ts2 _ h4 h5 h6 =>
      rw [scanT] at hs
      split at hs
      · simp only [Bool.and_eq_true, beq_iff_eq, List.isEmpty_iff] at hs
        obtain ⟨-, rfl, hx⟩ := hs
        obtain ⟨rfl, rfl⟩ := last_plain h5 rfl hx
        generalize ho : off + 1 + wd + cnt = o at *
        have : l.length = o + 1 := by
          cases h6 with
          | done h7 => omega
          | bad h7 h8 => omega
        show l.getD ((l.length : Int) - 1).toNat 0 = 174
        rw [show ((l.length : Int) - 1).toNat = o by omega]
        exact hx
      · exact ih (n + 1) hb hs
theorem cut_ops {l : List Int} {off : Nat} {ts : List T} {b : Int} (h : Cut l off ts b) (hb : Tok.Bytes l) : Ops ts := by
  induction h with
  | done => intro t ht; simp at ht
  | bad => intro t ht; simp at ht
  | step h1 h2 h3 ih =>
    intro t ht
    rcases List.mem_cons.1 ht with rfl | ht
    · exact hb.getD _
    · exact ih t ht
def firstM (n : Nat) : List T → Bool
  | [] => false
  | t :: ts => small t.op && scanM n ts 0
theorem many_f (l : List Int) (hb : Tok.Bytes l) (hl : l.length ≤ 100000) (k : Nat) (hk : 100010 ≤ k) : ∃ a b, spec_Many.f k l = some (a, b, Tok.multiP l) := by
  have hc := Tok.tokens_cut l
  have hr := hc.bad_range
  have hlen := hc.len2
  have ho := cut_ops hc hb
  unfold spec_Many.f
  rw [show spec_Tokens.f k l = some ((Tok.tokens l).1.map toS, (Tok.tokens l).2) from if_pos ⟨hb, by omega⟩, Option.bind_some]
  simp only []
  have hm : Tok.multiP l = (decide (3 ≤ l.length) && (rd l ((l.length : Int) - 1) == 174) && firstM l.length (Tok.tokens l).1) := rfl
  rw [hm]
  generalize (Tok.tokens l).1 = ts at *
  generalize (Tok.tokens l).2 = b at *
  clear hm
  have key : (decide (3 ≤ l.length) && (rd l ((l.length : Int) - 1) == 174) && firstM l.length ts) = (decide (b = -1) && manyT ts) := by
    have len3 : manyT ts = true → 3 ≤ l.length := by
      intro h
      match ts, h, hlen with
      | [t], h, _ => simp [manyT, scanT] at h
      | [t, u], h, _ => simp [manyT, scanT] at h
      | _ :: _ :: _ :: _, _, hlen => simp only [List.length_cons] at hlen; omega
    cases hc with
    | done => simp [manyT, firstM]
    | bad => simp [manyT, firstM]
    | @step _ wd cnt ts2 _ h1 h2 h3 =>
      show _ = (_ && (small (l.getD 0 0) && scanT ts2 0))
      have len3' : (small (l.getD 0 0) && scanT ts2 0) = true → 3 ≤ l.length := len3
      by_cases hx : rd l ((l.length : Int) - 1) = 174
      · rw [beq_iff_eq.2 hx, Bool.and_true]
        show (decide (3 ≤ l.length) && (small (l.getD 0 0) && scanM l.length ts2 0)) = _
        rw [scan_eq h3 0 hx]
        by_cases h : (small (l.getD 0 0) && scanT ts2 0) = true
        · rw [decide_eq_true (len3' h), Bool.true_and]
          cases small (l.getD 0 0) <;> cases scanT ts2 0 <;> simp
        · cases hs : small (l.getD 0 0) <;> cases ht : scanT ts2 0 <;> simp_all
      · rw [beq_eq_false_iff_ne.2 hx, Bool.and_false, Bool.false_and]
        by_cases hb1 : b = -1
        · cases ht : scanT ts2 0 with
          | true => exact absurd (scan_last h3 0 hb1 ht) hx
          | false => simp
        · rw [decide_eq_false hb1, Bool.false_and]
  rw [key]
  obtain ⟨a, c, e⟩ := many_tokens ts ho (by omega) k hk
  by_cases hb1 : b = -1
  · rw [decide_eq_true hb1, Bool.true_and, if_neg (by omega), List.length_map]
    exact ⟨a, c, e⟩
  · rw [decide_eq_false hb1, Bool.false_and, if_pos (by omega)]
    obtain ⟨k, rfl⟩ : ∃ k', k = k' + 1 := ⟨k - 1, by omega⟩
    exact ⟨0, 0, rfl⟩
end Go.Proofs.Ytafpmdmmeohmfaa.PFnClass
