/-
  Numbers of scripts: their bytes, and what bytes are as a number. No program stands in this text.
-/
import Derived.Laws.BitsLemmas
import Derived.Lib.EndianBits
import Derived.Test.YtabdmbnggkageaaWWords
namespace Go.Proofs.Ytabdmbnggkageaa.Num
open Go.RowKit Go.Proofs.YtabdmbnggkageaaW.PrintWords

theorem wrap64_id {x : Int} (h0 : -9223372036854775808 ≤ x) (h1 : x < 9223372036854775808) : wrap64 x = x := by unfold wrap64; omega
/-- The digits of a number, least first, to the base 256. -/
def digs (m : Nat) : List Int := if m = 0 then [] else ((m % 256 : Nat) : Int) :: digs (m / 256)
termination_by m
decreasing_by omega
theorem digs_zero : digs 0 = [] := by rw [digs]; simp
theorem digs_pos {m : Nat} (h : m ≠ 0) : digs m = ((m % 256 : Nat) : Int) :: digs (m / 256) := by rw [digs, if_neg h]
def last (l : List Int) : Int := l.getD (l.length - 1) 0
/-- The sign is put in. -/
def signB (neg : Bool) (l : List Int) : List Int :=
  if 128 ≤ last l then l ++ [if neg then 128 else 0] else if neg then l.set (l.length - 1) (last l + 128) else l
def numB (n : Int) : List Int := if n = 0 then [] else signB (decide (n < 0)) (digs n.natAbs)
/-- The number that bytes are, least first. -/
def val : List Int → Int
  | [] => 0
  | x :: l => x + 256 * val l
def Byte (l : List Int) : Prop := ∀ x ∈ l, 0 ≤ x ∧ x < 256

theorem digs_byte : ∀ (k m : Nat), m ≤ k → Byte (digs m)
  | 0, m, h => by
    obtain rfl : m = 0 := by omega
    rw [digs_zero]; intro x hx; cases hx
  | k + 1, m, h => by
    by_cases h0 : m = 0
    · subst h0; rw [digs_zero]; intro x hx; cases hx
    · rw [digs_pos h0]
      intro x hx
      rcases List.mem_cons.1 hx with rfl | hx
      · omega
      · exact digs_byte k (m / 256) (by omega) x hx
theorem digs_val : ∀ (k m : Nat), m ≤ k → val (digs m) = m
  | 0, m, h => by
    obtain rfl : m = 0 := by omega
    rw [digs_zero]; rfl
  | k + 1, m, h => by
    by_cases h0 : m = 0
    · subst h0; rw [digs_zero]; rfl
    · rw [digs_pos h0, val, digs_val k (m / 256) (by omega)]
      omega
theorem digs_len : ∀ (k m : Nat), m < 256 ^ k → (digs m).length ≤ k
  | 0, m, h => by
    obtain rfl : m = 0 := by simpa using h
    rw [digs_zero]; simp
  | k + 1, m, h => by
    by_cases h0 : m = 0
    · subst h0; rw [digs_zero]; simp
    · rw [digs_pos h0, List.length_cons]
      have := digs_len k (m / 256) (by rw [Nat.pow_succ] at h; omega)
      omega
theorem last_cons {x : Int} {l : List Int} (h : l ≠ []) : last (x :: l) = last l := by
  cases l with
  | nil => exact absurd rfl h
  | cons y l => simp [last]
theorem digs_last : ∀ (k m : Nat), m ≤ k → m ≠ 0 → 0 < last (digs m)
  | 0, m, h, h0 => by omega
  | k + 1, m, h, h0 => by
    rw [digs_pos h0]
    by_cases h1 : m / 256 = 0
    · rw [h1, digs_zero]
      simp [last]
      omega
    · rw [last_cons (by rw [digs_pos h1]; simp)]
      exact digs_last k (m / 256) (by omega) h1
theorem digs_ne {m : Nat} (h : m ≠ 0) : digs m ≠ [] := by rw [digs_pos h]; simp

theorem val_append (l : List Int) (x : Int) : val (l ++ [x]) = val l + x * 256 ^ l.length := by
  induction l with
  | nil => simp [val]
  | cons y l ih =>
    have e : x * 256 ^ (l.length + 1) = 256 * (x * 256 ^ l.length) := by rw [Int.pow_succ, ← Int.mul_assoc, Int.mul_comm]
    simp only [List.cons_append, val, ih, List.length_cons, e]
    omega
theorem val_nonneg {l : List Int} (h : Byte l) : 0 ≤ val l := by
  induction l with
  | nil => simp [val]
  | cons x l ih =>
    have h1 := h x (by simp)
    have h2 := ih (fun y hy => h y (by simp [hy]))
    simp only [val]
    omega
theorem val_lt {l : List Int} (h : Byte l) : val l < 256 ^ l.length := by
  induction l with
  | nil => simp [val]
  | cons x l ih =>
    have h1 := h x (by simp)
    have h2 := ih (fun y hy => h y (by simp [hy]))
    simp only [val, List.length_cons, Int.pow_succ]
    omega
theorem snoc_of {l : List Int} (h : l ≠ []) : ∃ i x, l = i ++ [x] ∧ last l = x := by
  refine ⟨l.dropLast, l.getLast h, (List.dropLast_concat_getLast h).symm, ?_⟩
  rw [last, List.getLast_eq_getElem, List.getD_eq_getElem?_getD, List.getElem?_eq_getElem (by have := List.length_pos_iff.2 h; omega)]
  rfl
theorem last_snoc (i : List Int) (x : Int) : last (i ++ [x]) = x := by simp [last]
/-- A number's digits: the last one is none that could be left out. -/
theorem digs_shape {m : Nat} (h : m ≠ 0) : ∃ i x, digs m = i ++ [x] ∧ 0 < x ∧ x < 256 ∧ Byte i ∧ (m : Int) = val i + x * 256 ^ i.length := by
  obtain ⟨i, x, e, hl⟩ := snoc_of (digs_ne h)
  have h1 := digs_last m m (Nat.le_refl _) h
  have h2 := digs_byte m m (Nat.le_refl _)
  have h3 := digs_val m m (Nat.le_refl _)
  rw [hl] at h1
  rw [e] at h2 h3
  rw [val_append] at h3
  exact ⟨i, x, e, h1, (h2 x (by simp)).2, fun y hy => h2 y (by simp [hy]), h3.symm⟩
theorem signB_snoc (neg : Bool) (i : List Int) (x : Int) : signB neg (i ++ [x]) =
    if 128 ≤ x then i ++ [x] ++ [if neg then 128 else 0] else if neg then i ++ [x + 128] else i ++ [x] := by
  unfold signB
  rw [last_snoc]
  simp
/-- The number that bytes with a sign are. -/
def valS (l : List Int) : Int := if l = [] then 0 else if 128 ≤ last l then -(val l - 128 * 256 ^ (l.length - 1)) else val l
theorem valS_snoc (i : List Int) (x : Int) : valS (i ++ [x]) = if 128 ≤ x then -(val i + (x - 128) * 256 ^ i.length) else val i + x * 256 ^ i.length := by
  unfold valS
  rw [if_neg (by simp), last_snoc, val_append, List.length_append, List.length_singleton, Nat.add_sub_cancel, Int.sub_mul]
  split
  · omega
  · rfl
/-- It could not be written shorter. -/
def Short (l : List Int) : Prop := l = [] ∨ (last l ≠ 0 ∧ last l ≠ 128) ∨ (2 ≤ l.length ∧ 128 ≤ l.getD (l.length - 2) 0)

theorem numB_facts (n : Int) (h1 : -9223372036854775808 < n) (h2 : n < 9223372036854775808) :
    valS (numB n) = n ∧ Short (numB n) ∧ Byte (numB n) ∧ (numB n).length ≤ 9 := by
  unfold numB
  by_cases h0 : n = 0
  · subst h0
    simp [valS, Short, Byte]
  · rw [if_neg h0]
    obtain ⟨i, x, e, hx0, hx1, hb, hv⟩ := digs_shape (m := n.natAbs) (by omega)
    have hlen : (digs n.natAbs).length ≤ 8 := digs_len 8 _ (by simp; omega)
    rw [e] at hlen
    rw [e, signB_snoc]
    simp only [List.length_append, List.length_singleton] at hlen
    have hby : ∀ y, 0 ≤ y → y < 256 → Byte (i ++ [y]) := fun y a b z hz => by
      rcases List.mem_append.1 hz with hz | hz
      · exact hb z hz
      · rw [List.mem_singleton.1 hz]; exact ⟨a, b⟩
    by_cases hx : 128 ≤ x
    · rw [if_pos hx]
      refine ⟨?_, .inr (.inr ⟨by simp, by simp [List.getD_eq_getElem?_getD]; exact hx⟩), ?_, by simp; omega⟩
      · rw [valS_snoc, val_append]
        by_cases hn : n < 0
        · simp [hn]; omega
        · simp [hn]; omega
      · intro z hz
        rcases List.mem_append.1 hz with hz | hz
        · exact hby x (by omega) hx1 z hz
        · rw [List.mem_singleton.1 hz]; split <;> omega
    · rw [if_neg hx]
      by_cases hn : n < 0
      · simp only [hn, decide_true, if_true]
        refine ⟨?_, .inr (.inl ?_), hby _ (by omega) (by omega), by simp; omega⟩
        · rw [valS_snoc, if_pos (by omega), Int.add_sub_cancel]; omega
        · rw [last_snoc]; omega
      · simp only [hn, decide_false, Bool.false_eq_true, if_false]
        refine ⟨?_, .inr (.inl ?_), hby _ (by omega) (by omega), by simp; omega⟩
        · rw [valS_snoc, if_neg (by omega)]; omega
        · rw [last_snoc]; omega
end Go.Proofs.Ytabdmbnggkageaa.Num
