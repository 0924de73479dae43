/-
  What the reference says of a script's form, against what the program's own walks tell. No program stands in this text.
-/
import Derived.Test.YtafpmdmmeohmfaaQFnClassx7
import Derived.Test.YtafpmdmmeohmfaaClType
import Derived.Test.YtafpmdmmeohmfaaTokCut
namespace Go.Proofs.Ytafpmdmmeohmfaa.PFnClass
open Go.RowKit Go.Proofs.YtafpmdmmeohmfaaW.PrintWords Go.Proofs.YtafpmdmmeohmfaaW.PrintLast Go.Proofs.YtafpmdmmeohmfaaW.PrintMore
open Tok (T Cut shape small smallV scanM)
set_option linter.unusedVariables false
set_option linter.unusedSimpArgs false

theorem w64 {x : Int} (h0 : -9223372036854775808 ≤ x) (h1 : x < 9223372036854775808) : wrap64 x = x := Tok.wrap64_id h0 (by omega)
theorem rdS {xs : List T} {i : Nat} {t : T} {ys : List T} (h : xs.drop i = t :: ys) : rd_T27 (xs.map toS) (i : Int) = toS t ∧ i < xs.length ∧ xs.drop (i + 1) = ys := by
  have hi : i < xs.length := by
    rcases Nat.lt_or_ge i xs.length with h' | h'
    · exact h'
    · rw [List.drop_eq_nil_of_le h'] at h; cases h
  have e := List.drop_eq_getElem_cons hi
  rw [h] at e
  injection e with e1 e2
  refine ⟨?_, hi, e2.symm⟩
  show (xs.map toS).getD (i : Int).toNat _ = _
  rw [Int.toNat_natCast, List.getD_eq_getElem?_getD, List.getElem?_map, List.getElem?_eq_getElem hi, ← e1]
  rfl

/-! The guard: a key of another form. -/
def hyb (ts : List T) : Bool := ts.any fun t => decide (t.data.length = 65) && (rd t.data 0 == 6 || rd t.data 0 == 7)
theorem hybrid_l0 (xs : List T) (hx : xs.length ≤ 100000) : ∀ (ys : List T) (i k : Nat), xs.drop i = ys → i ≤ xs.length → ys.length < k → laws_hybrid.l0 k (xs.map toS) i = some (hyb ys)
  | [], i, k + 1, h, hi, hk => by
    have : xs.length ≤ i := by
      have := congrArg List.length h
      rw [List.length_drop] at this
      simp at this
      omega
    rw [laws_hybrid.l0, List.length_map, if_neg (by omega)]
    rfl
  | t :: ys, i, k + 1, h, hi, hk => by
    obtain ⟨e, hlt, hd⟩ := rdS h
    have ih := hybrid_l0 xs hx ys (i + 1) k hd hlt (by simp only [List.length_cons] at hk; omega)
    rw [laws_hybrid.l0, List.length_map, if_pos (by omega), if_pos (by omega), e, w64 (by omega) (by omega)]
    have f1 : (toS t).f1 = t.data := rfl
    rw [f1]
    have hh : hyb (t :: ys) = ((decide (t.data.length = 65) && (rd t.data 0 == 6 || rd t.data 0 == 7)) || hyb ys) := rfl
    rw [hh]
    by_cases h1 : (t.data.length : Int) = 65
    · rw [if_pos h1, if_pos (by omega), decide_eq_true (show t.data.length = 65 by omega), Bool.true_and]
      by_cases h2 : rd t.data 0 = 6
      · rw [if_pos h2, h2]; rfl
      · rw [if_neg h2, beq_eq_false_iff_ne.2 h2, Bool.false_or]
        by_cases h3 : rd t.data 0 = 7
        · rw [if_pos h3, h3]; rfl
        · rw [if_neg h3, beq_eq_false_iff_ne.2 h3, Bool.false_or]
          exact ih
    · rw [if_neg h1, decide_eq_false (show ¬ t.data.length = 65 by omega), Bool.false_and, Bool.false_or]
      exact ih

/-! Many. -/
theorem small_f (a : Int) (h0 : 0 ≤ a) (h1 : a < 256) : spec_Small.f a = some (if small a then smallV a else 0, small a) := by
  unfold spec_Small.f small smallV
  by_cases e0 : a = 0
  · rw [if_pos e0, e0]; rfl
  · rw [if_neg e0, if_neg e0, beq_eq_false_iff_ne.2 e0, Bool.false_or]
    by_cases e1 : a ≥ 81
    · rw [if_pos e1, decide_eq_true (show 81 ≤ a from e1), Bool.true_and]
      by_cases e2 : a ≤ 96
      · rw [if_pos e2, decide_eq_true e2, w64 (x := a - 81) (by omega) (by omega), w64 (by omega) (by omega)]
        simp
        omega
      · rw [if_neg e2, decide_eq_false e2]; rfl
    · rw [if_neg e1, decide_eq_false (show ¬ 81 ≤ a from e1), Bool.false_and]; rfl

def mids : List T → Bool
  | a :: b :: c :: r => !small a.op && mids (b :: c :: r)
  | _ => true
/-- The scan of the tokens behind the first. -/
def scanT : List T → Int → Bool
  | a :: b :: r, n => if small a.op then smallV a.op == n && (r.isEmpty && b.op == 174) else scanT (b :: r) (n + 1)
  | _, _ => false
def Ops (ts : List T) : Prop := ∀ t ∈ ts, 0 ≤ t.op ∧ t.op < 256

theorem many_l0 (xs : List T) (ho : Ops xs) (hx : xs.length ≤ 100000) (a b : Int) : ∀ (ys : List T) (i k : Nat), xs.drop i = ys → 2 ≤ ys.length → ys.length < k →
    spec_Many.l0 k a b (xs.map toS) (xs.length : Int) i = if mids ys then some (a, b, true) else some (0, 0, false)
  | [], i, k, h, h2, hk => by simp at h2
  | [_], i, k, h, h2, hk => by simp at h2
  | [p, q], i, k + 1, h, h2, hk => by
    have hl := congrArg List.length h
    simp [List.length_drop] at hl
    rw [spec_Many.l0, w64 (by omega) (by omega), if_neg (by omega)]
    rfl
  | p :: q :: r :: ys, i, k + 1, h, h2, hk => by
    have hl := congrArg List.length h
    simp [List.length_drop] at hl
    obtain ⟨e, hlt, hd⟩ := rdS h
    have hp := ho p (List.mem_of_mem_drop (h ▸ List.mem_cons_self ..))
    have ih := many_l0 xs ho hx a b (q :: r :: ys) (i + 1) k hd (by simp) (by simp only [List.length_cons] at hk ⊢; omega)
    rw [spec_Many.l0, w64 (x := (xs.length : Int) - 2) (by omega) (by omega), if_pos (by omega), if_pos (by omega), List.length_map, if_pos (by omega), e, w64 (x := (i : Int) + 1) (by omega) (by omega)]
    rw [show (toS p).f0 = p.op from rfl, small_f _ hp.1 hp.2, Option.bind_some]
    show (if small p.op = true then some (0, 0, false) else spec_Many.l0 k a b (xs.map toS) (xs.length : Int) ((i : Int) + 1)) = if (!small p.op && mids (q :: r :: ys)) = true then _ else _
    cases small p.op with
    | true => rfl
    | false => exact ih

theorem scan_mids : ∀ (ys : List T) (n : Int), 2 ≤ ys.length → scanT ys n = (mids ys && (small (ys.getD (ys.length - 2) ⟨0, [], 0⟩).op && (smallV (ys.getD (ys.length - 2) ⟨0, [], 0⟩).op == n + (ys.length - 2) && (ys.getD (ys.length - 1) ⟨0, [], 0⟩).op == 174)))
  | [], _, h => by simp at h
  | [_], _, h => by simp at h
  | [p, q], n, _ => by
    show (if small p.op then smallV p.op == n && (true && q.op == 174) else false) = (true && (small p.op && (smallV p.op == n + (2 - 2) && q.op == 174)))
    rw [show n + (2 - 2) = n by omega]
    cases small p.op <;> simp
  | p :: q :: r :: ys, n, _ => by
    have ih := scan_mids (q :: r :: ys) (n + 1) (by simp)
    show (if small p.op then smallV p.op == n && (false && q.op == 174) else scanT (q :: r :: ys) (n + 1)) = _
    rw [ih]
    have e1 : (p :: q :: r :: ys).getD ((p :: q :: r :: ys).length - 2) ⟨0, [], 0⟩ = (q :: r :: ys).getD ((q :: r :: ys).length - 2) ⟨0, [], 0⟩ := by
      rw [show (p :: q :: r :: ys).length - 2 = ((q :: r :: ys).length - 2) + 1 by simp only [List.length_cons]; omega]
      exact List.getD_cons_succ ..
    have e2 : (p :: q :: r :: ys).getD ((p :: q :: r :: ys).length - 1) ⟨0, [], 0⟩ = (q :: r :: ys).getD ((q :: r :: ys).length - 1) ⟨0, [], 0⟩ := by
      rw [show (p :: q :: r :: ys).length - 1 = ((q :: r :: ys).length - 1) + 1 by simp only [List.length_cons]; omega]
      exact List.getD_cons_succ ..
    rw [e1, e2]
    have e3 : n + 1 + (((q :: r :: ys).length : Int) - 2) = n + (((p :: q :: r :: ys).length : Int) - 2) := by simp only [List.length_cons]; omega
    rw [e3]
    show _ = ((!small p.op && mids (q :: r :: ys)) && _)
    cases small p.op <;> simp
end Go.Proofs.Ytafpmdmmeohmfaa.PFnClass
