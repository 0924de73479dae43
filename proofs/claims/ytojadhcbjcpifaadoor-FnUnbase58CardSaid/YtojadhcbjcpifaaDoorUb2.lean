/-
  nat.mul: the product's digits.
-/
import Derived.Test.YtojadhcbjcpifaaDoorUb1
namespace Go.Proofs.YtojadhcbjcpifaaDoor.Ub
open Go.RowKit Go.Proofs.YtojadhcbjcpifaaDoorW.PrintWords Go.Proofs.YtojadhcbjcpifaaDoorW.PrintLast
set_option linter.unusedSimpArgs false
set_option linter.unusedVariables false

theorem getD_set_ne (l : List Int) (i q : Nat) (v : Int) (h : i ≠ q) : (l.set i v).getD q 0 = l.getD q 0 := by
  simp [List.getD_eq_getElem?_getD, List.getElem?_set, h]
theorem drop_step (B : Int) (l : List Int) (i : Nat) (h : i < l.length) : lv B (l.drop i) = l.getD i 0 + B * lv B (l.drop (i + 1)) := by
  rw [List.drop_eq_getElem_cons h]
  simp [lv, h]
set_option maxRecDepth 100000 in
theorem mul_in (x y : List Int) (i : Nat) (a : Int) (hy : Dg 4294967296 y) (ha : 0 ≤ a ∧ a < 4294967296) (hyl : y.length ≤ 2000) (hi : i ≤ 2000) : ∀ (m k0 j : Nat) (z : List Int) (c : Int), m + j = y.length → Dg 4294967296 z → (0 ≤ c ∧ c < 4294967296) → i + y.length < z.length → z.getD (i + y.length) 0 = 0 →
    ∃ z', PFnUnbase58.smallbig_nat_mul.l1 (k0 + m + 1) y z i a c x x.length i y y.length j = PFnUnbase58.smallbig_nat_mul.l0 k0 y z' x x.length ((i + 1 : Nat) : Int) ∧ z'.length = z.length ∧ Dg 4294967296 z' ∧
      lv 4294967296 z' = lv 4294967296 z + c * 4294967296 ^ (i + j) + a * lv 4294967296 (y.drop j) * 4294967296 ^ (i + j) ∧ ∀ q, i + y.length < q → z'.getD q 0 = z.getD q 0
  | 0, k0, j, z, c, hm, hz, hc, hl, h0 => by
    obtain rfl : j = y.length := by omega
    refine ⟨z.set (i + y.length) c, ?_, by simp, hz.set _ hc, ?_, fun q hq => getD_set_ne _ _ _ _ (by omega)⟩
    · rw [PFnUnbase58.smallbig_nat_mul.l1, if_neg (by omega), show wrap64 ((i : Int) + (y.length : Int)) = ((i + y.length : Nat) : Int) by push_cast; exact wrap64_id (by omega) (by omega), if_pos (by omega), if_pos (by omega), Int.toNat_natCast, Int.emod_eq_of_lt hc.1 hc.2,
        show wrap64 ((i : Int) + 1) = ((i + 1 : Nat) : Int) by push_cast; exact wrap64_id (by omega) (by omega)]
    · rw [lv_set _ _ _ _ hl, h0]
      simp [lv]
  | m + 1, k0, j, z, c, hm, hz, hc, hl, h0 => by
    have hj : j < y.length := by omega
    have hyj := hy.at (by decide) j
    have hzj := hz.at (by decide) (i + j)
    have hp0 : 0 ≤ a * y.getD j 0 := Int.mul_nonneg ha.1 hyj.1
    have hp1 : a * y.getD j 0 ≤ 4294967295 * 4294967295 := Int.mul_le_mul (by omega) (by omega) hyj.1 (by decide)
    obtain ⟨p, hp⟩ : ∃ p, a * y.getD j 0 = p := ⟨_, rfl⟩
    have hstep := drop_step 4294967296 y j hj
    rw [hp] at hp0 hp1
    have hset := fun v => lv_set 4294967296 z (i + j) v (by omega)
    have hq := fun v => getD_set_ne z (i + j) (i + y.length) v (by omega)
    have hqq := fun v q (h : i + y.length < q) => getD_set_ne z (i + j) q v (by omega)
    have ht0 : 0 ≤ c + (p + z.getD (i + j) 0) := by omega
    have ht1 : c + (p + z.getD (i + j) 0) < 18446744073709551616 := by omega
    obtain ⟨t, ht⟩ : ∃ t, c + (p + z.getD (i + j) 0) = t := ⟨_, rfl⟩
    rw [ht] at ht0 ht1
    obtain ⟨z', e1, e2, e3, e4, e5⟩ := mul_in x y i a hy ha hyl hi m k0 (j + 1) (z.set (i + j) (t % 4294967296)) (t / 4294967296) (by omega) (hz.set _ ⟨by omega, by omega⟩) ⟨by omega, by omega⟩ (by simpa using hl) (by rw [hq]; exact h0)
    refine ⟨z', ?_, by rw [e2]; simp, e3, ?_, fun q h => by rw [e5 q h, hqq _ _ h]⟩
    · rw [show k0 + (m + 1) + 1 = (k0 + m + 1) + 1 by omega, PFnUnbase58.smallbig_nat_mul.l1, if_pos (by omega), if_pos (by omega), if_pos (by omega), show wrap64 ((i : Int) + (j : Int)) = ((i + j : Nat) : Int) by push_cast; exact wrap64_id (by omega) (by omega), if_pos (by omega), if_pos (by omega), Int.toNat_natCast,
        rd_nat, rd_nat, u64_id ha.1 (by omega), u64_id hyj.1 (by omega), hp, u64_id hp0 (by omega), u64_id hzj.1 (by omega), u64_id (x := p + z.getD (i + j) 0) (by omega) (by omega), ht, u64_id ht0 ht1,
        show wrap64 ((j : Int) + 1) = ((j + 1 : Nat) : Int) by push_cast; exact wrap64_id (by omega) (by omega)]
      exact e1
    · rw [e4, hset, hstep, show i + (j + 1) = (i + j) + 1 by omega, Int.pow_succ]
      have hdm := Int.emod_add_mul_ediv t 4294967296
      have hpe : a * y.getD j 0 = p := hp
      obtain ⟨P, hP⟩ : ∃ P : Int, 4294967296 ^ (i + j) = P := ⟨_, rfl⟩
      rw [hP]
      grind
set_option maxRecDepth 100000 in
theorem mul_out (x y : List Int) (hx : Dg 4294967296 x) (hy : Dg 4294967296 y) (hxl : x.length ≤ 2000) (hyl : y.length ≤ 2000) : ∀ (m k i : Nat) (z : List Int), m + i = x.length → m * (y.length + 2) + x.length + y.length + 2 ≤ k → Dg 4294967296 z → z.length = x.length + y.length → (∀ q, i + y.length ≤ q → z.getD q 0 = 0) →
    lv 4294967296 z = lv 4294967296 (x.take i) * lv 4294967296 y →
    ∃ r, PFnUnbase58.smallbig_nat_mul.l0 k y z x x.length i = some r ∧ Nrm 4294967296 r ∧ lv 4294967296 r = lv 4294967296 x * lv 4294967296 y ∧ r.length ≤ x.length + y.length
  | 0, k, i, z, hm, hk, hz, hl, h0, hv => by
    obtain rfl : i = x.length := by omega
    obtain ⟨k, rfl⟩ : ∃ k', k = k' + 1 := ⟨k - 1, by omega⟩
    obtain ⟨r, h1, h2, h3, h4⟩ := norm_f k z (by omega) (by omega) hz
    refine ⟨r, ?_, h2, ?_, by omega⟩
    · rw [PFnUnbase58.smallbig_nat_mul.l0, if_neg (by omega), h1]; rfl
    · rw [h3, hv, List.take_length]
  | m + 1, k, i, z, hm, hk, hz, hl, h0, hv => by
    have hi : i < x.length := by omega
    have hxi := hx.at (by decide) i
    have htk := lv_take 4294967296 x i hi
    obtain ⟨k0, rfl⟩ : ∃ k0, k = (k0 + y.length + 1) + 1 := ⟨k - y.length - 2, by
      have : (m + 1) * (y.length + 2) = m * (y.length + 2) + (y.length + 2) := by rw [Nat.add_mul, Nat.one_mul]
      omega⟩
    obtain ⟨z', e1, e2, e3, e4, e5⟩ := mul_in x y i (x.getD i 0) hy hxi hyl (by omega) y.length k0 0 z 0 (by omega) hz ⟨by decide, by decide⟩ (by omega) (h0 _ (by omega))
    obtain ⟨r, h1, h2, h3, h4⟩ := mul_out x y hx hy hxl hyl m k0 (i + 1) z' (by omega) (by
      have : (m + 1) * (y.length + 2) = m * (y.length + 2) + (y.length + 2) := by rw [Nat.add_mul, Nat.one_mul]
      omega) e3 (by omega) (fun q hq => by rw [e5 q (by omega)]; exact h0 q (by omega)) (by
      rw [e4, hv, htk]
      simp only [List.drop_zero, Nat.add_zero]
      grind)
    refine ⟨r, ?_, h2, h3, h4⟩
    rw [PFnUnbase58.smallbig_nat_mul.l0, if_pos (by omega), if_pos (by omega), if_pos (by omega), rd_nat]
    exact e1.trans h1
theorem mul_f (x y : List Int) (k : Nat) (hx : Dg 4294967296 x) (hy : Dg 4294967296 y) (hxl : x.length ≤ 2000) (hyl : y.length ≤ 2000) (hk : x.length * (y.length + 2) + x.length + y.length + 2 ≤ k) :
    ∃ r, PFnUnbase58.smallbig_nat_mul.f k x y = some r ∧ Nrm 4294967296 r ∧ lv 4294967296 r = lv 4294967296 x * lv 4294967296 y ∧ r.length ≤ x.length + y.length := by
  have hw : wrap64 ((x.length : Int) + (y.length : Int)) = ((x.length + y.length : Nat) : Int) := by push_cast; exact wrap64_id (by omega) (by omega)
  unfold PFnUnbase58.smallbig_nat_mul.f
  rw [hw, if_pos (by omega), Int.toNat_natCast, if_pos (by omega)]
  exact mul_out x y hx hy hxl hyl x.length k 0 _ (by omega) (by omega) (Dg.rep (by decide) _) (by simp) (fun q _ => by
    rw [List.getD_eq_getElem?_getD, List.getElem?_replicate]; split <;> rfl) (by rw [lv_rep]; simp [lv])
end Go.Proofs.YtojadhcbjcpifaaDoor.Ub
