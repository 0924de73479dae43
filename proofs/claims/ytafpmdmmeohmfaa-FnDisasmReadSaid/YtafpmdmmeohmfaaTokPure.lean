/-
  Plain words on scripts: which token begins at a place, and the tokens of a script. No program stands in this text.
-/
import Derived.Below
namespace Go.Proofs.Ytafpmdmmeohmfaa.Tok

/-- The number that bytes are, the least first. -/
def leV : List Int → Int
  | [] => 0
  | b :: r => b + 256 * leV r

/-- Bytes: each from 0 to 255. -/
def Bytes (l : List Int) : Prop := ∀ x, x ∈ l → 0 ≤ x ∧ x < 256

theorem Bytes.getD {l : List Int} (h : Bytes l) (i : Nat) : 0 ≤ l.getD i 0 ∧ l.getD i 0 < 256 := by
  rw [List.getD_eq_getElem?_getD]
  rcases Nat.lt_or_ge i l.length with hi | hi
  · rw [List.getElem?_eq_getElem hi]
    exact h _ (List.getElem_mem hi)
  · rw [List.getElem?_eq_none hi]
    simp
theorem Bytes.drop {l : List Int} (h : Bytes l) (i : Nat) : Bytes (l.drop i) := fun x hx => h x (List.mem_of_mem_drop hx)
theorem Bytes.take {l : List Int} (h : Bytes l) (i : Nat) : Bytes (l.take i) := fun x hx => h x (List.mem_of_mem_take hx)

theorem leV_nonneg {l : List Int} (h : Bytes l) : 0 ≤ leV l := by
  induction l with
  | nil => simp [leV]
  | cons b r ih =>
    have h1 := h b (List.mem_cons_self ..)
    have h2 := ih (fun x hx => h x (List.mem_cons_of_mem _ hx))
    simp only [leV]
    omega

/-- A token's push, if the opcode counts the bytes in 'w' bytes behind it. -/
def shapeW (l : List Int) (at_ w : Nat) : Option (Nat × Nat) :=
  if w ≤ l.length - (at_ + 1) then
    if (leV ((l.drop (at_ + 1)).take w)).toNat ≤ l.length - (at_ + 1) - w then some (w, (leV ((l.drop (at_ + 1)).take w)).toNat) else none
  else none

/-- How many bytes tell the length, and how many are pushed, of the token at a place; none: the script is not whole there. -/
def shape (l : List Int) (at_ : Nat) : Option (Nat × Nat) :=
  if 1 ≤ l.getD at_ 0 ∧ l.getD at_ 0 < 76 then
    if (l.getD at_ 0).toNat ≤ l.length - (at_ + 1) then some (0, (l.getD at_ 0).toNat) else none
  else if l.getD at_ 0 = 76 then shapeW l at_ 1
  else if l.getD at_ 0 = 77 then shapeW l at_ 2
  else if l.getD at_ 0 = 78 then shapeW l at_ 4
  else some (0, 0)

theorem shapeW_fits {l : List Int} {at_ w a b : Nat} (h : shapeW l at_ w = some (a, b)) : a = w ∧ a + b ≤ l.length - (at_ + 1) := by
  unfold shapeW at h
  split at h
  · split at h
    · injection h with h
      injection h with h1 h2
      omega
    · cases h
  · cases h

theorem shape_fits {l : List Int} {at_ a b : Nat} (h : shape l at_ = some (a, b)) : a + b ≤ l.length - (at_ + 1) ∧ a ≤ 4 := by
  unfold shape at h
  split at h
  · split at h
    · injection h with h
      injection h with h1 h2
      omega
    · cases h
  · split at h
    · have := shapeW_fits h; omega
    · split at h
      · have := shapeW_fits h; omega
      · split at h
        · have := shapeW_fits h; omega
        · injection h with h
          injection h with h1 h2
          omega

/-- A token: its opcode, what it pushes, where it begins. -/
structure T where
  op : Int
  data : List Int
  at_ : Nat

/-- The tokens from a place on, behind those that there are; and where the script is not whole (-1: it is). n: rounds at most. -/
def toks (l : List Int) : Nat → Nat → List T → List T × Int
  | 0, _, acc => (acc, -1)
  | n + 1, at_, acc =>
    if at_ < l.length then
      match shape l at_ with
      | none => (acc, (at_ : Int))
      | some (w, c) => toks l n (at_ + 1 + w + c) (acc ++ [⟨l.getD at_ 0, (l.drop (at_ + 1 + w)).take c, at_⟩])
    else (acc, -1)

/-- The tokens of a script. -/
def tokens (l : List Int) : List T × Int := toks l (l.length + 1) 0 []

end Go.Proofs.Ytafpmdmmeohmfaa.Tok
