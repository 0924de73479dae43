/-
  What the functions of DisasmRead's law compute, on lists of bytes.
-/
import Derived.Test.YtafpmdmmeohmfaaDr4
import Derived.Lib.SlicesS
namespace Go.Proofs.Ytafpmdmmeohmfaa.Dr
open Go.RowKit Go.Proofs.YtafpmdmmeohmfaaW.PrintWords Go.Proofs.YtafpmdmmeohmfaaW.PrintLast Go.Proofs.YtafpmdmmeohmfaaW.PrintMore Go.Proofs.Ytafpmdmmeohmfaa.PFnDisasmRead
set_option linter.unusedSimpArgs false
set_option linter.unusedVariables false

theorem wrap64_id {x : Int} (h0 : -9223372036854775808 ≤ x) (h1 : x ≤ 9223372036854775807) : wrap64 x = x := by unfold wrap64; omega
theorem size_list (s : ByteArray) : s.size = s.data.toList.length := by simp
theorem list_ext {a b : ByteArray} (h : a.data.toList = b.data.toList) : a = b := by
  cases a; cases b
  congr 1
  exact Array.toList_inj.1 h
theorem bt_list (s : ByteArray) (i : Nat) (h : i < s.data.toList.length) : bt s (i : Int) = ((s.data.toList[i]'h).toNat : Int) := by
  have hi : i < s.size := by rw [size_list]; exact h
  simp only [bt, Int.toNat_natCast, hi, dif_pos]
  rfl
theorem bt_mid {s : ByteArray} {a b : List UInt8} {x : UInt8} (h : s.data.toList = a ++ x :: b) : bt s (a.length : Int) = (x.toNat : Int) := by
  rw [bt_list s a.length (by rw [h]; simp)]
  simp [h]
theorem ext_mid {s : ByteArray} {a t b : List UInt8} (h : s.data.toList = a ++ (t ++ b)) : s.extract a.length (a.length + t.length) = ⟨t.toArray⟩ := by
  apply list_ext
  rw [ByteArray.data_extract, Array.toList_extract, h, List.extract_eq_take_drop, List.drop_left, Nat.add_sub_cancel_left, List.take_left]
theorem wrap_succ {n : Nat} (h : n < 4611686018427387904) : wrap64 ((n : Int) + 1) = ((n + 1 : Nat) : Int) := by
  rw [wrap64_id (by omega) (by omega)]
  push_cast
  rfl
/-- No blank in it. -/
def NoB (t : List UInt8) : Prop := ∀ x ∈ t, x.toNat ≠ 32
theorem NoB.tail {x : UInt8} {t : List UInt8} (h : NoB (x :: t)) : NoB t := fun y hy => h y (List.mem_cons_of_mem _ hy)
theorem NoB.head {x : UInt8} {t : List UInt8} (h : NoB (x :: t)) : ¬ (x.toNat : Int) = 32 := fun e => h x List.mem_cons_self (by omega)

/-! ### part -/
theorem part_skip (s : ByteArray) (hs : s.size < 4611686018427387904) (n from_ : Int) : ∀ (t a b : List UInt8) (k : Nat), s.data.toList = a ++ (t ++ b) → NoB t →
    spec_part.l0 (k + t.length) s n from_ (a.length : Int) = spec_part.l0 k s n from_ ((a.length + t.length : Nat) : Int)
  | [], a, b, k, _, _ => rfl
  | x :: t, a, b, k, h, hb => by
    have h' : s.data.toList = a ++ x :: (t ++ b) := h
    have hl : a.length < s.size := by rw [size_list, h']; simp
    have ih := part_skip s hs n from_ t (a ++ [x]) b k (by simp [h']) hb.tail
    rw [List.length_append, List.length_cons, List.length_nil] at ih
    rw [List.length_cons, ← Nat.add_assoc, spec_part.l0, if_pos (by omega), if_pos (by omega), if_neg (by rw [bt_mid h']; exact hb.head), wrap_succ (by omega), ih, show a.length + 1 + t.length = a.length + (t.length + 1) by omega]
/-- Words, each with a blank behind it. -/
def blanked (ws : List (List UInt8)) : List UInt8 := (ws.map (· ++ [32])).flatten
theorem part_l0 (s : ByteArray) (hs : s.size < 4611686018427387904) (k0 : Nat) : ∀ (ws : List (List UInt8)) (n : Nat) (a : List UInt8) (hn : n < ws.length), s.data.toList = a ++ blanked ws → (∀ t ∈ ws, NoB t) → n < 4611686018427387904 →
    spec_part.l0 (k0 + (blanked ws).length) s n (a.length : Int) (a.length : Int) = some ⟨(ws[n]'hn).toArray⟩
  | t :: ws, n, a, hn, h, hb, hn2 => by
    have e : blanked (t :: ws) = t ++ 32 :: blanked ws := by simp [blanked]
    rw [e] at h
    have hl : s.size = a.length + (t.length + (1 + (blanked ws).length)) := by rw [size_list, h]; simp; omega
    have h2 : s.data.toList = (a ++ t) ++ 32 :: blanked ws := by rw [h, List.append_assoc]
    rw [e, show k0 + (t ++ 32 :: blanked ws).length = (k0 + (blanked ws).length + 1) + t.length by simp; omega, part_skip s hs n _ t a (32 :: blanked ws) _ h (hb t List.mem_cons_self), ← List.length_append, spec_part.l0,
      if_pos (by rw [List.length_append]; omega), if_pos (by omega), if_pos (by rw [bt_mid h2]; rfl)]
    cases n with
    | zero =>
      rw [if_pos (by rfl), if_pos (by omega), if_pos (by rw [List.length_append]; omega), if_pos (by rw [List.length_append]; omega), Int.toNat_natCast, Int.toNat_natCast, List.length_append, ext_mid h]
      rfl
    | succ n =>
      rw [if_neg (by omega), show wrap64 (((n + 1 : Nat) : Int) - 1) = (n : Int) by rw [wrap64_id (by omega) (by omega)]; omega, wrap_succ (by rw [List.length_append]; omega)]
      have ih := part_l0 s hs k0 ws n ((a ++ t) ++ [32]) (by simpa using hn) (by rw [h2]; simp) (fun u hu => hb u (List.mem_cons_of_mem _ hu)) (by omega)
      rw [List.length_append, List.length_cons, List.length_nil] at ih
      rw [ih]
      rfl

/-! ### words -/
theorem words_skip (s : ByteArray) (hs : s.size < 4611686018427387904) (from_ : Int) (out : List ByteArray) : ∀ (t a b : List UInt8) (k : Nat), s.data.toList = a ++ (t ++ b) → NoB t →
    laws_words.l0 (k + 2 * t.length) s out from_ (a.length : Int) = laws_words.l0 k s out from_ ((a.length + t.length : Nat) : Int)
  | [], a, b, k, _, _ => rfl
  | x :: t, a, b, k, h, hb => by
    have h' : s.data.toList = a ++ x :: (t ++ b) := h
    have hl : a.length < s.size := by rw [size_list, h']; simp
    have ih := words_skip s hs from_ out t (a ++ [x]) b k (by simp [h']) hb.tail
    rw [List.length_append, List.length_cons, List.length_nil] at ih
    rw [List.length_cons, show k + 2 * (t.length + 1) = (k + 2 * t.length + 1) + 1 by omega, laws_words.l0, if_pos (by omega), if_pos (by omega), if_pos (by omega), laws_words.j1, if_pos (by rw [bt_mid h', bne_iff_ne]; exact hb.head), wrap_succ (by omega), ih, show a.length + 1 + t.length = a.length + (t.length + 1) by omega]
/-- Words with a blank between each two of them. -/
def joined : List (List UInt8) → List UInt8
  | [] => []
  | [t] => t
  | t :: u :: ws => t ++ 32 :: joined (u :: ws)
theorem words_l0 (s : ByteArray) (hs : s.size < 4611686018427387904) (k0 : Nat) : ∀ (ws : List (List UInt8)) (t : List UInt8) (a : List UInt8) (out : List ByteArray), s.data.toList = a ++ joined (t :: ws) → (∀ t' ∈ t :: ws, NoB t' ∧ t' ≠ []) → out.length + ws.length + 1 < 8796093022208 →
    laws_words.l0 (k0 + 2 * (joined (t :: ws)).length + 3) s out (a.length : Int) (a.length : Int) = some (out ++ (t :: ws).map fun t => ⟨t.toArray⟩)
  | [], t, a, out, h, hb, hn => by
    have hl : s.size = a.length + t.length := by rw [size_list, h]; simp [joined]
    have ht := List.length_pos_iff.2 (hb t List.mem_cons_self).2
    have h1 : s.data.toList = a ++ (t ++ []) := by rw [h]; simp [joined]
    simp only [joined]
    rw [show k0 + 2 * t.length + 3 = k0 + 3 + 2 * t.length by omega, words_skip s hs _ out t a [] _ h1 (hb t List.mem_cons_self).1, laws_words.l0, if_pos (by omega), if_neg (by omega), laws_words.j1, if_neg (by decide), if_pos (by omega), if_pos (by omega), if_pos (by omega), if_pos (by omega), if_pos (by simp at hn; omega),
      Int.toNat_natCast, Int.toNat_natCast, ext_mid h1, wrap_succ (by omega), laws_words.l0, if_neg (by omega)]
    rfl
  | u :: ws, t, a, out, h, hb, hn => by
    have e : joined (t :: u :: ws) = t ++ 32 :: joined (u :: ws) := rfl
    rw [e] at h
    have hl : s.size = a.length + (t.length + (1 + (joined (u :: ws)).length)) := by rw [size_list, h]; simp; omega
    have ht := List.length_pos_iff.2 (hb t List.mem_cons_self).2
    have h2 : s.data.toList = (a ++ t) ++ 32 :: joined (u :: ws) := by rw [h, List.append_assoc]
    rw [e, show k0 + 2 * (t ++ 32 :: joined (u :: ws)).length + 3 = (k0 + 2 * (joined (u :: ws)).length + 3 + 1 + 1) + 2 * t.length by simp; omega, words_skip s hs _ out t a _ _ h (hb t List.mem_cons_self).1, ← List.length_append, laws_words.l0,
      if_pos (by rw [List.length_append]; omega), if_pos (by rw [List.length_append]; omega), if_pos (by omega), laws_words.j1, if_neg (by rw [bt_mid h2]; decide), if_pos (by rw [List.length_append]; omega), if_pos (by omega), if_pos (by rw [List.length_append]; omega), if_pos (by rw [List.length_append]; omega), if_pos (by simp at hn; omega),
      Int.toNat_natCast, Int.toNat_natCast, wrap_succ (by rw [List.length_append]; omega)]
    have ih := words_l0 s hs k0 ws u ((a ++ t) ++ [32]) (out ++ [⟨t.toArray⟩]) (by rw [h2]; simp) (fun t' ht' => hb t' (List.mem_cons_of_mem _ ht')) (by simp at hn ⊢; omega)
    rw [List.length_append (bs := [32]), List.length_cons, List.length_nil] at ih
    rw [show s.extract a.length (a ++ t).length = ⟨t.toArray⟩ by rw [List.length_append]; exact ext_mid h, ih, List.append_assoc]
    rfl
theorem words_f (s : ByteArray) (hs : s.size < 4611686018427387904) (ws : List (List UInt8)) (h : s.data.toList = joined ws) (hb : ∀ t ∈ ws, NoB t ∧ t ≠ []) (hn : ws.length < 8796093022208) : ∃ k, laws_words.f k s = some (ws.map fun t => ⟨t.toArray⟩) := by
  cases ws with
  | nil =>
    refine ⟨5, ?_⟩
    have hl : s.size = 0 := by rw [size_list, h]; rfl
    rw [laws_words.f, laws_words.l0, if_pos (by omega), if_neg (by omega), laws_words.j1, if_neg (by decide), if_neg (by omega), laws_words.l0, if_neg (by rw [show wrap64 ((0 : Int) + 1) = 1 by decide +kernel]; omega)]
    rfl
  | cons t ws =>
    have := words_l0 s hs 0 ws t [] [] (by simpa using h) hb (by simp at hn ⊢; omega)
    exact ⟨_, this⟩
end Go.Proofs.Ytafpmdmmeohmfaa.Dr
