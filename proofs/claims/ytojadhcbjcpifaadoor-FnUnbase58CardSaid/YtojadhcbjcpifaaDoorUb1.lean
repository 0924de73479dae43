/-
  Digits: rows of digits, the least first (lv) or last (bv); numbers without a zero ahead are told by their value.
-/
import Derived.Test.YtojadhcbjcpifaaDoorPFnUnbase58x1
import Derived.Test.YtojadhcbjcpifaaDoorPFnUnbase58x2
import Derived.Test.YtojadhcbjcpifaaDoorPFnUnbase58x3
namespace Go.Proofs.YtojadhcbjcpifaaDoor.Ub
open Go.RowKit Go.Proofs.YtojadhcbjcpifaaDoorW.PrintWords Go.Proofs.YtojadhcbjcpifaaDoorW.PrintLast
set_option linter.unusedSimpArgs false
set_option linter.unusedVariables false

def lv (B : Int) : List Int → Int
  | [] => 0
  | d :: t => d + B * lv B t
def bv (B : Int) : List Int → Int
  | [] => 0
  | d :: t => d * B ^ t.length + bv B t
def Dg (B : Int) (l : List Int) : Prop := ∀ d ∈ l, 0 ≤ d ∧ d < B
/-- Digits, the highest (the last) not zero. -/
def Nrm (B : Int) : List Int → Prop
  | [] => True
  | d :: t => (0 ≤ d ∧ d < B) ∧ Nrm B t ∧ (t = [] → d ≠ 0)

theorem lv_app (B : Int) (a b : List Int) : lv B (a ++ b) = lv B a + B ^ a.length * lv B b := by
  induction a with
  | nil => simp [lv]
  | cons d t ih => simp only [List.cons_append, lv, ih, List.length_cons, Int.pow_succ]; grind
theorem bv_app (B : Int) (a b : List Int) : bv B (a ++ b) = bv B a * B ^ b.length + bv B b := by
  induction a with
  | nil => simp [bv]
  | cons d t ih => simp only [List.cons_append, bv, ih, List.length_append, Int.pow_add]; grind
theorem bv_rev (B : Int) (l : List Int) : bv B l = lv B l.reverse := by
  induction l with
  | nil => rfl
  | cons d t ih => rw [List.reverse_cons, lv_app, ← ih]; simp [bv, lv]; grind
theorem rd_cons_zero (d : Int) (t : List Int) : rd (d :: t) 0 = d := rfl
theorem rd_nat (l : List Int) (i : Nat) : rd l (i : Int) = l.getD i 0 := by simp [rd]
theorem lv_set (B : Int) (l : List Int) (i : Nat) (v : Int) (h : i < l.length) : lv B (l.set i v) = lv B l + (v - l.getD i 0) * B ^ i := by
  induction l generalizing i with
  | nil => cases h
  | cons d t ih =>
    cases i with
    | zero => simp [lv]; grind
    | succ i =>
      have := ih i (by simpa using h)
      simp only [List.set_cons_succ, lv, this, List.getD_cons_succ, Int.pow_succ]
      grind
theorem bv_set (B : Int) (l : List Int) (i : Nat) (v : Int) (h : i < l.length) : bv B (l.set i v) = bv B l + (v - l.getD i 0) * B ^ (l.length - 1 - i) := by
  induction l generalizing i with
  | nil => cases h
  | cons d t ih =>
    cases i with
    | zero => simp [bv]; grind
    | succ i =>
      have := ih i (by simpa using h)
      simp only [List.set_cons_succ, bv, this, List.getD_cons_succ, List.length_set, List.length_cons]
      rw [show t.length + 1 - 1 - (i + 1) = t.length - 1 - i by omega]
      grind
theorem lv_take (B : Int) (l : List Int) (i : Nat) (h : i < l.length) : lv B (l.take (i + 1)) = lv B (l.take i) + l.getD i 0 * B ^ i := by
  rw [List.take_succ_eq_append_getElem h, lv_app]
  simp [lv, Nat.min_eq_left (Nat.le_of_lt h), h]
  grind
theorem bv_drop (B : Int) (l : List Int) (i : Nat) (h : i < l.length) : bv B (l.drop i) = l.getD i 0 * B ^ (l.length - 1 - i) + bv B (l.drop (i + 1)) := by
  rw [List.drop_eq_getElem_cons h]
  simp [bv, h, show l.length - (i + 1) = l.length - 1 - i by omega]
theorem lv_rep (B : Int) (n : Nat) : lv B (List.replicate n 0) = 0 := by
  induction n with
  | zero => rfl
  | succ n ih => rw [List.replicate_succ]; simp [lv, ih]
theorem bv_rep (B : Int) (n : Nat) : bv B (List.replicate n 0) = 0 := by
  rw [bv_rev, List.reverse_replicate, lv_rep]
theorem pow_pos' {B : Int} (hB : 0 < B) (n : Nat) : 0 < B ^ n := Int.pow_pos hB
theorem lv_nn {B : Int} (hB : 0 < B) {l : List Int} (h : Dg B l) : 0 ≤ lv B l := by
  induction l with
  | nil => exact Int.le_refl _
  | cons d t ih =>
    have h1 := ih fun x hx => h x (List.mem_cons_of_mem _ hx)
    have h2 := h d List.mem_cons_self
    have := Int.mul_nonneg (Int.le_of_lt hB) h1
    simp only [lv]
    omega
theorem lv_lt {B : Int} (hB : 0 < B) {l : List Int} (h : Dg B l) : lv B l < B ^ l.length := by
  induction l with
  | nil => simp [lv]
  | cons d t ih =>
    have h1 := ih fun x hx => h x (List.mem_cons_of_mem _ hx)
    have h2 := h d List.mem_cons_self
    have := Int.mul_le_mul_of_nonneg_left (show lv B t ≤ B ^ t.length - 1 by omega) (Int.le_of_lt hB)
    rw [Int.mul_sub, Int.mul_one] at this
    simp only [lv, List.length_cons, Int.pow_succ]
    rw [Int.mul_comm (B ^ t.length) B]
    omega
theorem Dg.rev {B : Int} {l : List Int} (h : Dg B l) : Dg B l.reverse := fun d hd => h d (by simpa using hd)
theorem bv_nn {B : Int} (hB : 0 < B) {l : List Int} (h : Dg B l) : 0 ≤ bv B l := by rw [bv_rev]; exact lv_nn hB h.rev
theorem bv_lt {B : Int} (hB : 0 < B) {l : List Int} (h : Dg B l) : bv B l < B ^ l.length := by
  rw [bv_rev]; have := lv_lt hB h.rev; rwa [List.length_reverse] at this
theorem Dg.set {B : Int} {l : List Int} (h : Dg B l) (i : Nat) {v : Int} (hv : 0 ≤ v ∧ v < B) : Dg B (l.set i v) := fun d hd => by
  rcases List.mem_or_eq_of_mem_set hd with h1 | h1
  · exact h d h1
  · exact h1 ▸ hv
theorem Dg.at {B : Int} {l : List Int} (h : Dg B l) (hB : 0 < B) (i : Nat) : 0 ≤ l.getD i 0 ∧ l.getD i 0 < B := by
  by_cases hi : i < l.length
  · rw [List.getD_eq_getElem?_getD, List.getElem?_eq_getElem hi]; exact h _ (List.getElem_mem hi)
  · rw [List.getD_eq_getElem?_getD, List.getElem?_eq_none (by omega)]; exact ⟨Int.le_refl _, hB⟩
theorem Dg.rep {B : Int} (hB : 0 < B) (n : Nat) : Dg B (List.replicate n 0) := fun d hd => by
  rw [List.eq_of_mem_replicate hd]; exact ⟨Int.le_refl _, hB⟩
theorem Nrm.dg {B : Int} {l : List Int} (h : Nrm B l) : Dg B l := by
  induction l with
  | nil => intro d hd; cases hd
  | cons d t ih =>
    intro x hx
    rcases List.mem_cons.1 hx with rfl | hx
    · exact h.1
    · exact ih h.2.1 x hx
theorem Nrm.pos {B : Int} (hB : 0 < B) {l : List Int} (h : Nrm B l) (hl : l ≠ []) : 0 < lv B l := by
  induction l with
  | nil => exact absurd rfl hl
  | cons d t ih =>
    obtain ⟨h1, h2, h3⟩ := h
    simp only [lv]
    cases t with
    | nil => have := h3 rfl; simp [lv]; omega
    | cons e t =>
      have := ih h2 (by simp)
      have := Int.mul_pos hB this
      omega
theorem Nrm.eq {B : Int} (hB : 0 < B) : ∀ {a b : List Int}, Nrm B a → Nrm B b → lv B a = lv B b → a = b
  | [], [], _, _, _ => rfl
  | [], e :: b, _, hb, h => by have := hb.pos hB (by simp); rw [← h] at this; exact absurd this (by simp [lv])
  | d :: a, [], ha, _, h => by have := ha.pos hB (by simp); rw [h] at this; exact absurd this (by simp [lv])
  | d :: a, e :: b, ha, hb, h => by
    simp only [lv] at h
    have h1 : d = e := by
      have := congrArg (· % B) h
      simp only [Int.add_mul_emod_self_left] at this
      rwa [Int.emod_eq_of_lt ha.1.1 ha.1.2, Int.emod_eq_of_lt hb.1.1 hb.1.2] at this
    subst h1
    have h2 : lv B a = lv B b := Int.eq_of_mul_eq_mul_left (by omega) (Int.add_left_cancel h)
    rw [Nrm.eq hB ha.2.1 hb.2.1 h2]
theorem Nrm.cat {B : Int} {t : List Int} {d : Int} (h : Dg B t) (h0 : 0 < d) (h1 : d < B) : Nrm B (t ++ [d]) := by
  induction t with
  | nil => exact ⟨⟨by omega, h1⟩, trivial, fun _ => by omega⟩
  | cons e t ih => exact ⟨h e List.mem_cons_self, ih fun x hx => h x (List.mem_cons_of_mem _ hx), fun hh => by simp at hh⟩
theorem lv_cat (B : Int) (t : List Int) : lv B (t ++ [0]) = lv B t := by rw [lv_app]; simp [lv]
theorem wrap64_id {x : Int} (h0 : -9223372036854775808 ≤ x) (h1 : x ≤ 9223372036854775807) : wrap64 x = x := by unfold wrap64; omega
theorem u64_id {x : Int} (h0 : 0 ≤ x) (h1 : x < 18446744073709551616) : IntKind.u64.wrap x = x := by
  simp [IntKind.wrap, IntKind.bits, IntKind.signed]
  omega
/-- A row is cut to its digits up to the highest that is not zero. -/
theorem norm_f : ∀ (k : Nat) (l : List Int), l.length < k → l.length ≤ 1000000 → Dg 4294967296 l → ∃ r, PFnUnbase58.smallbig_nat_norm.f k l = some r ∧ Nrm 4294967296 r ∧ lv 4294967296 r = lv 4294967296 l ∧ r.length ≤ l.length
  | 0, l, h, _, _ => absurd h (by omega)
  | k + 1, l, hk, hl, hd => by
    rcases List.eq_nil_or_concat l with rfl | ⟨t, d, rfl⟩
    · exact ⟨[], by simp [PFnUnbase58.smallbig_nat_norm.f, PFnUnbase58.smallbig_nat_norm.l0], trivial, rfl, Nat.le_refl _⟩
    · rw [List.concat_eq_append] at hk hl hd ⊢
      rw [List.length_append] at hk hl
      simp only [List.length_cons, List.length_nil] at hk hl
      have hdd := hd d (by simp)
      have hdt : Dg 4294967296 t := fun x hx => hd x (by simp [hx])
      have hw : wrap64 (((t ++ [d]).length : Int) - 1) = (t.length : Int) := by
        rw [List.length_append]; simp only [List.length_cons, List.length_nil]; push_cast
        rw [show (t.length : Int) + 1 - 1 = t.length by omega]
        exact wrap64_id (by omega) (by omega)
      have hr : rd (t ++ [d]) (t.length : Int) = d := by rw [rd_nat]; simp
      unfold PFnUnbase58.smallbig_nat_norm.f PFnUnbase58.smallbig_nat_norm.l0
      rw [hw, hr, if_pos (by simp <;> omega), if_pos (by omega), if_pos (by simp <;> omega)]
      by_cases h0 : d = 0
      · subst h0
        obtain ⟨r, h1, h2, h3, h4⟩ := norm_f k t (by omega) (by omega) hdt
        refine ⟨r, ?_, h2, h3.trans (lv_cat _ _).symm, by simp <;> omega⟩
        rw [if_pos rfl, if_pos (by simp <;> omega), Int.toNat_natCast, List.take_left']
        · exact h1
        · rfl
      · rw [if_neg h0]
        exact ⟨_, rfl, Nrm.cat hdt (by omega) hdd.2, rfl, Nat.le_refl _⟩
end Go.Proofs.YtojadhcbjcpifaaDoor.Ub
