/-
  A script that is whole is its tokens' bytes, one behind the other. No program stands in this text.
-/
import Derived.Test.YtafpmdmmeohmfaaTokCut
namespace Go.Proofs.Ytafpmdmmeohmfaa.Tok
set_option linter.unusedSimpArgs false
set_option linter.unusedVariables false

/-- A number's lowest bytes, the least first. -/
def leB : Nat → Nat → List Int
  | 0, _ => []
  | w + 1, n => ((n % 256 : Nat) : Int) :: leB w (n / 256)
theorem leB_leV : ∀ {s : List Int} (h : Bytes s), leB s.length (leV s).toNat = s
  | [], _ => rfl
  | b :: r, h => by
    have h1 := h b List.mem_cons_self
    have hr : Bytes r := fun x hx => h x (List.mem_cons_of_mem _ hx)
    have h2 := leV_nonneg hr
    have e : leV (b :: r) = b + 256 * leV r := rfl
    have ih := leB_leV hr
    rw [e, List.length_cons]
    show ((((b + 256 * leV r).toNat % 256 : Nat) : Int)) :: leB r.length ((b + 256 * leV r).toNat / 256) = _
    rw [show (b + 256 * leV r).toNat / 256 = (leV r).toNat by omega, ih, show (((b + 256 * leV r).toNat % 256 : Nat) : Int) = b by omega]
/-- How many bytes tell how many are pushed. -/
def wid (x : Int) : Nat := if x = 76 then 1 else if x = 77 then 2 else if x = 78 then 4 else 0
/-- A token's bytes. -/
def raw (t : T) : List Int := t.op :: (leB (wid t.op) t.data.length ++ t.data)
theorem drop_cut {l : List Int} {a w c : Nat} (h : a + w + c ≤ l.length) : l.drop a = (l.drop a).take w ++ ((l.drop (a + w)).take c ++ l.drop (a + w + c)) := by
  rw [show l.drop (a + w + c) = (l.drop (a + w)).drop c by rw [List.drop_drop], List.take_append_drop, show l.drop (a + w) = (l.drop a).drop w by rw [List.drop_drop], List.take_append_drop]
theorem shapeW_le {l : List Int} (hb : Bytes l) {a w c d : Nat} (h : shapeW l a w = some (c, d)) : c = w ∧ leB w d = (l.drop (a + 1)).take w := by
  unfold shapeW at h
  split at h
  · rename_i h1
    split at h
    · injection h with h
      injection h with e1 e2
      subst e1 e2
      refine ⟨rfl, ?_⟩
      have h3 := leB_leV ((hb.drop (a + 1)).take w)
      rwa [List.length_take, List.length_drop, Nat.min_eq_left h1] at h3
    · cases h
  · cases h
theorem raw_at {l : List Int} (hb : Bytes l) {a w c : Nat} (hi : a < l.length) (h : shape l a = some (w, c)) :
    raw ⟨l.getD a 0, (l.drop (a + 1 + w)).take c, a⟩ ++ l.drop (a + 1 + w + c) = l.drop a := by
  have hf := shape_fits h
  have hl : ((l.drop (a + 1 + w)).take c).length = c := by rw [List.length_take, List.length_drop]; omega
  have hw : leB (wid (l.getD a 0)) c = (l.drop (a + 1)).take w := by
    unfold shape at h
    unfold wid
    split at h
    · rename_i h1
      rw [if_neg (by omega), if_neg (by omega), if_neg (by omega)]
      split at h
      · injection h with h; injection h with h1 h2; subst h1; rfl
      · cases h
    · split at h
      · rename_i h1; rw [if_pos h1]; obtain ⟨rfl, e⟩ := shapeW_le hb h; exact e
      · rename_i h1
        rw [if_neg h1]
        split at h
        · rename_i h2; rw [if_pos h2]; obtain ⟨rfl, e⟩ := shapeW_le hb h; exact e
        · rename_i h2
          rw [if_neg h2]
          split at h
          · rename_i h3; rw [if_pos h3]; obtain ⟨rfl, e⟩ := shapeW_le hb h; exact e
          · rename_i h3
            rw [if_neg h3]
            injection h with h; injection h with h1 h2; subst h1; rfl
  unfold raw
  simp only [hl, hw]
  rw [List.cons_append, List.append_assoc, ← drop_cut (by omega), List.drop_eq_getElem_cons hi]
  congr 1
  simp [List.getD, hi]
/-- A script that is whole from a place on is its tokens' bytes. -/
theorem Cut.raw {l : List Int} (hb : Bytes l) {a : Nat} {ts : List T} {b : Int} (h : Cut l a ts b) (e : b = -1) : (ts.map raw).flatten = l.drop a := by
  induction h with
  | done h1 => rw [List.drop_eq_nil_of_le h1]; rfl
  | bad h1 h2 => omega
  | step h1 h2 _ ih => rw [List.map_cons, List.flatten_cons, ih e]; exact raw_at hb h1 h2
end Go.Proofs.Ytafpmdmmeohmfaa.Tok
