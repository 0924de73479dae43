/-
  The tokens of a script, as a relation that is easily inverted. No program stands in this text.
-/
import Derived.Test.YtafpmdmmeohmfaaTokPure
namespace Go.Proofs.Ytafpmdmmeohmfaa.Tok

/-- From a place on a script is cut into these tokens; bad: where it is not whole, or -1. -/
inductive Cut (l : List Int) : Nat → List T → Int → Prop
  | done {at_ : Nat} : l.length ≤ at_ → Cut l at_ [] (-1)
  | bad {at_ : Nat} : at_ < l.length → shape l at_ = none → Cut l at_ [] at_
  | step {at_ w c : Nat} {ts : List T} {b : Int} : at_ < l.length → shape l at_ = some (w, c) → Cut l (at_ + 1 + w + c) ts b →
      Cut l at_ (⟨l.getD at_ 0, (l.drop (at_ + 1 + w)).take c, at_⟩ :: ts) b

theorem toks_cut (l : List Int) : ∀ (n at_ : Nat) (acc : List T), l.length + 1 ≤ n + at_ → ∃ ts b, toks l n at_ acc = (acc ++ ts, b) ∧ Cut l at_ ts b
  | 0, at_, acc, h => ⟨[], -1, by simp [toks], .done (by omega)⟩
  | n + 1, at_, acc, h => by
    simp only [toks]
    by_cases h1 : at_ < l.length
    · rw [if_pos h1]
      cases hs : shape l at_ with
      | none => exact ⟨[], at_, by simp, .bad h1 hs⟩
      | some p =>
        obtain ⟨w, c⟩ := p
        obtain ⟨ts, b, e, hc⟩ := toks_cut l n (at_ + 1 + w + c) (acc ++ [⟨l.getD at_ 0, (l.drop (at_ + 1 + w)).take c, at_⟩]) (by omega)
        exact ⟨_ :: ts, b, by simp only []; rw [e]; simp, .step h1 hs hc⟩
    · rw [if_neg h1]
      exact ⟨[], -1, by simp, .done (by omega)⟩

theorem tokens_cut (l : List Int) : Cut l 0 (tokens l).1 (tokens l).2 := by
  obtain ⟨ts, b, e, h⟩ := toks_cut l (l.length + 1) 0 [] (by omega)
  unfold tokens
  rw [e]
  simpa using h

theorem Cut.unique {l : List Int} {at_ : Nat} {ts ts' : List T} {b b' : Int} (h : Cut l at_ ts b) (h' : Cut l at_ ts' b') : ts = ts' ∧ b = b' := by
  induction h generalizing ts' b' with
  | done h1 =>
    cases h' with
    | done => exact ⟨rfl, rfl⟩
    | bad h2 => omega
    | step h2 => omega
  | bad h1 h2 =>
    cases h' with
    | done => omega
    | bad => exact ⟨rfl, rfl⟩
    | step _ h4 => rw [h2] at h4; cases h4
  | step h1 h2 _ ih =>
    cases h' with
    | done => omega
    | bad _ h4 => rw [h2] at h4; cases h4
    | step _ h4 h5 =>
      rw [h2] at h4
      injection h4 with h4
      injection h4 with h6 h7
      subst h6 h7
      obtain ⟨rfl, rfl⟩ := ih h5
      exact ⟨rfl, rfl⟩
theorem cut_tokens {l : List Int} {ts : List T} {b : Int} (h : Cut l 0 ts b) : tokens l = (ts, b) := by
  obtain ⟨e1, e2⟩ := h.unique (tokens_cut l)
  rw [e1, e2]

theorem Cut.bad_range {l : List Int} {at_ : Nat} {ts : List T} {b : Int} (h : Cut l at_ ts b) : b = -1 ∨ ((at_ : Int) ≤ b ∧ b < l.length) := by
  induction h with
  | done => exact .inl rfl
  | bad => exact .inr (by omega)
  | step _ _ _ ih => rcases ih with h | h
                     · exact .inl h
                     · exact .inr (by omega)
/-- The shape of an opcode that pushes no bytes. -/
theorem shape_plain {l : List Int} {at_ : Nat} (h : l.getD at_ 0 ≤ 0 ∨ 78 < l.getD at_ 0) : shape l at_ = some (0, 0) := by
  unfold shape
  rw [if_neg (by omega), if_neg (by omega), if_neg (by omega), if_neg (by omega)]
theorem shape_push {l : List Int} {at_ : Nat} (h : 1 ≤ l.getD at_ 0) (h2 : l.getD at_ 0 < 76) : shape l at_ =
    if (l.getD at_ 0).toNat ≤ l.length - (at_ + 1) then some (0, (l.getD at_ 0).toNat) else none := by
  unfold shape
  rw [if_pos ⟨h, h2⟩]

/-- A script of two tokens, the first one without bytes, the second one a plain push: its bytes. -/
theorem cut_two {l : List Int} {t0 t1 : T} (h : Cut l 0 [t0, t1] (-1)) (h0 : t0.op = 0 ∨ 78 < t0.op) (h1 : 1 ≤ t1.op) (h2 : t1.op < 76) :
    l.getD 0 0 = t0.op ∧ l.getD 1 0 = t1.op ∧ (l.length : Int) = 2 + t1.op ∧ t1.data.length = l.length - 2 := by
  cases h with
  | step a1 a2 a3 =>
    simp only at h0
    rw [shape_plain (by omega)] at a2
    injection a2 with a2
    injection a2 with e1 e2
    subst e1 e2
    cases a3 with
    | step b1 b2 b3 =>
      simp only [Nat.zero_add, Nat.add_zero] at *
      rw [shape_push h1 h2] at b2
      split at b2
      · injection b2 with b2
        injection b2 with e1 e2
        subst e1 e2
        cases b3 with
        | done c1 =>
          refine ⟨by trivial, by trivial, by omega, ?_⟩
          simp only [List.length_take, List.length_drop]
          omega
      · cases b2
/-- .. and of such bytes there are such tokens. -/
theorem two_cut {l : List Int} (h0 : l.getD 0 0 = 0 ∨ 78 < l.getD 0 0) (h1 : 1 ≤ l.getD 1 0) (h2 : l.getD 1 0 < 76) (hl : (l.length : Int) = 2 + l.getD 1 0) :
    Cut l 0 [⟨l.getD 0 0, [], 0⟩, ⟨l.getD 1 0, l.drop 2, 1⟩] (-1) := by
  have a := Cut.step (l := l) (at_ := 0) (w := 0) (c := 0) (ts := [⟨l.getD 1 0, l.drop 2, 1⟩]) (b := -1) (by omega) (shape_plain (by omega)) ?_
  · simpa using a
  · have b := Cut.step (l := l) (at_ := 1) (w := 0) (c := (l.getD 1 0).toNat) (ts := []) (b := -1) (by omega) (by rw [shape_push h1 h2, if_pos (by omega)]) (.done (by omega))
    have e : (l.drop 2).take (l.getD 1 0).toNat = l.drop 2 := List.take_of_length_le (by rw [List.length_drop]; omega)
    simp only [Nat.add_zero, Nat.reduceAdd] at b ⊢
    rw [e] at b
    exact b

end Go.Proofs.Ytafpmdmmeohmfaa.Tok
