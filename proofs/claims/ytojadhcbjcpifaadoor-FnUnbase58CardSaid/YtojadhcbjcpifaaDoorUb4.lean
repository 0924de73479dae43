/-
  Bits and bytes of a number: bitLen, the bytes that FillBytes writes.
-/
import Derived.Test.YtojadhcbjcpifaaDoorUb1
namespace Go.Proofs.YtojadhcbjcpifaaDoor.Ub
open Go.RowKit Go.Proofs.YtojadhcbjcpifaaDoorW.PrintWords Go.Proofs.YtojadhcbjcpifaaDoorW.PrintLast
set_option linter.unusedSimpArgs false
set_option linter.unusedVariables false

theorem bits_l : ∀ (m k : Nat) (n : Nat) (d : Int), 0 ≤ d → d < 2 ^ m → m < k → n + m ≤ 1000000 → ∃ b : Nat, PFnUnbase58.smallbig_nat_bitLen.l0 k n d = some ((n + b : Nat) : Int) ∧ b ≤ m ∧ d < 2 ^ b ∧ (0 < d → 0 < b ∧ 2 ^ (b - 1) ≤ d)
  | m, 0, _, _, _, _, h, _ => absurd h (by omega)
  | 0, k + 1, n, d, h0, h1, _, _ => by
    have : d = 0 := by simp at h1; omega
    subst this
    exact ⟨0, by rw [PFnUnbase58.smallbig_nat_bitLen.l0, if_pos rfl]; rfl, Nat.le_refl _, by decide, fun h => absurd h (by decide)⟩
  | m + 1, k + 1, n, d, h0, h1, hk, hn => by
    by_cases hd : d = 0
    · subst hd
      exact ⟨0, by rw [PFnUnbase58.smallbig_nat_bitLen.l0, if_pos rfl]; rfl, Nat.zero_le _, by decide, fun h => absurd h (by decide)⟩
    · rw [Int.pow_succ] at h1
      obtain ⟨b, e1, e2, e3, e4⟩ := bits_l m k (n + 1) (d / 2) (by omega) (by omega) (by omega) (by omega)
      refine ⟨b + 1, ?_, by omega, by rw [Int.pow_succ]; omega, fun _ => ⟨by omega, ?_⟩⟩
      · rw [PFnUnbase58.smallbig_nat_bitLen.l0, if_neg hd, show wrap64 ((n : Int) + 1) = ((n + 1 : Nat) : Int) by push_cast; exact wrap64_id (by omega) (by omega), e1]
        congr 2; omega
      · rw [Nat.add_sub_cancel]
        by_cases h2 : 0 < d / 2
        · have ⟨hb, h3⟩ := e4 h2
          rw [show b = (b - 1) + 1 by omega, Int.pow_succ]
          omega
        · have : b = 0 ∨ 0 < b := by omega
          rcases this with rfl | hb
          · simp; omega
          · have h5 : d / 2 < 1 := by omega
            by_cases hz : b = 0
            · subst hz; simp; omega
            · exfalso
              have h6 : d / 2 = 0 := by omega
              rw [h6] at e1
              obtain ⟨k, rfl⟩ : ∃ k', k = k' + 1 := ⟨k - 1, by omega⟩
              rw [PFnUnbase58.smallbig_nat_bitLen.l0, if_pos rfl] at e1
              have := Option.some.inj e1
              omega
theorem pow32 (n : Nat) : (4294967296 : Int) ^ n = 2 ^ (32 * n) := by rw [Int.pow_mul]; rfl
theorem pow8 (n : Nat) : (256 : Int) ^ n = 2 ^ (8 * n) := by rw [Int.pow_mul]; rfl
theorem pow_le2 {a b : Nat} (h : a ≤ b) : (2 : Int) ^ a ≤ 2 ^ b := by
  rw [show b = a + (b - a) by omega, Int.pow_add]
  have h1 : (0 : Int) < 2 ^ a := pow_pos' (by decide) a
  have h2 : (0 : Int) < 2 ^ (b - a) := pow_pos' (by decide) (b - a)
  have := Int.mul_le_mul_of_nonneg_left (show (1 : Int) ≤ 2 ^ (b - a) by omega) (Int.le_of_lt h1)
  omega
theorem bitLen_f (l : List Int) (k : Nat) (hk : 40 ≤ k) (hl : l.length ≤ 2000) (hn : Nrm 4294967296 l) : ∃ b : Nat, PFnUnbase58.smallbig_nat_bitLen.f k l = some (b : Int) ∧ b ≤ 32 * l.length ∧ lv 4294967296 l < 2 ^ b ∧ (0 < b → 2 ^ (b - 1) ≤ lv 4294967296 l) := by
  rcases List.eq_nil_or_concat l with rfl | ⟨t, d, rfl⟩
  · exact ⟨0, by simp [PFnUnbase58.smallbig_nat_bitLen.f], Nat.le_refl _, by simp [lv], fun h => absurd h (by omega)⟩
  · rw [List.concat_eq_append] at hn hl ⊢
    rw [List.length_append] at hl
    simp only [List.length_cons, List.length_nil] at hl
    have hd := hn.dg d (by simp)
    have ht : Dg 4294967296 t := fun x hx => hn.dg x (by simp [hx])
    have hd0 : d ≠ 0 := by
      have hg : ∀ (t : List Int), Nrm 4294967296 (t ++ [d]) → d ≠ 0 := fun t => by
        induction t with
        | nil => intro h; exact h.2.2 rfl
        | cons e t ih => intro h; exact ih h.2.1
      exact hg t hn
    obtain ⟨b, e1, e2, e3, e4⟩ := bits_l 32 k (32 * t.length) d hd.1 (by have : (2 : Int) ^ 32 = 4294967296 := by decide
                                                                         omega) (by omega) (by omega)
    obtain ⟨hb, e5⟩ := e4 (by omega)
    have hv : lv 4294967296 (t ++ [d]) = lv 4294967296 t + 2 ^ (32 * t.length) * d := by rw [lv_app, pow32]; simp [lv]
    have h0 := lv_nn (B := 4294967296) (by decide) ht
    have h1 := lv_lt (B := 4294967296) (by decide) ht
    rw [pow32] at h1
    have hP : (0 : Int) < 2 ^ (32 * t.length) := pow_pos' (by decide) _
    refine ⟨32 * t.length + b, ?_, by simp; omega, ?_, fun _ => ?_⟩
    · have hw : wrap64 (((t ++ [d]).length : Int) - 1) = (t.length : Int) := by
        rw [List.length_append]; simp only [List.length_cons, List.length_nil]; push_cast
        rw [show (t.length : Int) + 1 - 1 = t.length by omega]
        exact wrap64_id (by omega) (by omega)
      have hr : rd (t ++ [d]) (t.length : Int) = d := by rw [rd_nat]; simp
      unfold PFnUnbase58.smallbig_nat_bitLen.f
      rw [hw, if_neg (by simp <;> omega), if_pos (by omega), if_pos (by simp <;> omega), hr, show wrap64 (32 * (t.length : Int)) = ((32 * t.length : Nat) : Int) by push_cast; exact wrap64_id (by omega) (by omega)]
      exact e1
    · rw [hv, Int.pow_add]
      have := Int.mul_le_mul_of_nonneg_left (show d + 1 ≤ 2 ^ b by omega) (Int.le_of_lt hP)
      rw [Int.mul_add, Int.mul_one] at this
      omega
    · rw [hv, show 32 * t.length + b - 1 = 32 * t.length + (b - 1) by omega, Int.pow_add]
      have := Int.mul_le_mul_of_nonneg_left e5 (Int.le_of_lt hP)
      omega
/-- The bytes of a number, the highest first. -/
def bb (v : Nat) : Nat → List Int
  | 0 => []
  | n + 1 => ((v / 256 ^ n % 256 : Nat) : Int) :: bb v n
theorem bb_len (v n : Nat) : (bb v n).length = n := by
  induction n with
  | zero => rfl
  | succ n ih => simp [bb, ih]
theorem bb_dg (v n : Nat) : Dg 256 (bb v n) := by
  induction n with
  | zero => intro d hd; cases hd
  | succ n ih =>
    intro d hd
    rcases List.mem_cons.1 hd with rfl | hd
    · omega
    · exact ih d hd
theorem bb_bv (v n : Nat) : bv 256 (bb v n) = ((v % 256 ^ n : Nat) : Int) := by
  induction n with
  | zero => simp [bb, bv, Nat.mod_one]
  | succ n ih =>
    rw [bb, bv, ih, bb_len, Nat.pow_succ, Nat.mod_mul, Int.natCast_add, Int.natCast_mul, Int.natCast_pow, Int.add_comm, Int.mul_comm]
    rfl
theorem bb_nrm (v n : Nat) (h : 0 < n → 256 ^ (n - 1) ≤ v) (h2 : v < 256 ^ n) : Nrm 256 (bb v n).reverse := by
  cases n with
  | zero => exact trivial
  | succ n =>
    have h1 := h (by omega)
    rw [Nat.add_sub_cancel] at h1
    have hp : 0 < 256 ^ n := Nat.pow_pos (by decide)
    have hd : 1 ≤ v / 256 ^ n := (Nat.le_div_iff_mul_le hp).2 (by omega)
    have hd2 : v / 256 ^ n < 256 := Nat.div_lt_of_lt_mul (by rw [Nat.pow_succ] at h2; exact h2)
    rw [bb, List.reverse_cons]
    exact Nrm.cat (bb_dg v n).rev (by omega) (by omega)
theorem bb_at (v n i : Nat) (h : i < n) : (bb v n).getD i 0 = ((v / 256 ^ (n - 1 - i) % 256 : Nat) : Int) := by
  induction n generalizing i with
  | zero => cases h
  | succ n ih =>
    cases i with
    | zero => rw [bb, List.getD_cons_zero, show n + 1 - 1 - 0 = n by omega]
    | succ i =>
      rw [bb, List.getD_cons_succ, ih i (by omega)]
      rw [show n + 1 - 1 - (i + 1) = n - 1 - i by omega]
/-- The digit at a place. -/
theorem lv_at (l : List Int) (h : Dg 4294967296 l) (v : Nat) (hv : lv 4294967296 l = v) (q : Nat) : l.getD q 0 = ((v / 4294967296 ^ q % 4294967296 : Nat) : Int) := by
  induction l generalizing q v with
  | nil =>
    simp only [lv] at hv
    obtain rfl : v = 0 := by omega
    simp
  | cons d t ih =>
    have hd := h d List.mem_cons_self
    have ht : Dg 4294967296 t := fun x hx => h x (List.mem_cons_of_mem _ hx)
    have h0 := lv_nn (B := 4294967296) (by decide) ht
    simp only [lv] at hv
    cases q with
    | zero => simp; omega
    | succ q =>
      rw [List.getD_cons_succ, ih ht (v / 4294967296) (by omega) q, Nat.pow_succ, Nat.mul_comm, Nat.div_div_eq_div_mul]
theorem byte_at (v q r : Nat) (h : r < 4) : v / 4294967296 ^ q % 4294967296 / 2 ^ (8 * r) % 256 = v / 256 ^ (4 * q + r) % 256 := by
  have e : (256 : Nat) ^ (4 * q + r) = 4294967296 ^ q * 2 ^ (8 * r) := by
    rw [Nat.pow_add, Nat.pow_mul, Nat.pow_mul 2 8 r]
  rw [e, ← Nat.div_div_eq_div_mul]
  obtain ⟨a, ha⟩ : ∃ a, v / 4294967296 ^ q = a := ⟨_, rfl⟩
  rw [ha]
  obtain rfl | rfl | rfl | rfl : r = 0 ∨ r = 1 ∨ r = 2 ∨ r = 3 := by omega
  · simp only [Nat.mul_zero, Nat.pow_zero, Nat.div_one]; omega
  · simp only [show 2 ^ (8 * 1) = 256 from rfl]; omega
  · simp only [show 2 ^ (8 * 2) = 65536 from rfl]; omega
  · simp only [show 2 ^ (8 * 3) = 16777216 from rfl]; omega
/-- The bytes of a number that has b bits: their row, last first, is its digits. -/
theorem bytes_ok (v b : Nat) (h1 : v < 2 ^ b) (h2 : 0 < b → 2 ^ (b - 1) ≤ v) : Nrm 256 (bb v ((b + 7) / 8)).reverse ∧ bv 256 (bb v ((b + 7) / 8)) = (v : Int) := by
  have e : ∀ n, (256 : Nat) ^ n = 2 ^ (8 * n) := fun n => by rw [Nat.pow_mul]
  have h3 : v < 256 ^ ((b + 7) / 8) := by
    rw [e]
    exact Nat.lt_of_lt_of_le h1 (Nat.pow_le_pow_right (by decide) (by omega))
  refine ⟨bb_nrm _ _ (fun hn => ?_) h3, by rw [bb_bv, Nat.mod_eq_of_lt h3]⟩
  rw [e]
  exact Nat.le_trans (Nat.pow_le_pow_right (by decide) (by omega)) (h2 (by omega))
end Go.Proofs.YtojadhcbjcpifaaDoor.Ub
