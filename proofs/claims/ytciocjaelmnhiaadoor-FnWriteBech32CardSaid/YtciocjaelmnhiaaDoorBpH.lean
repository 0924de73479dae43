/-
  The reference's sum and its expanded part.
-/
import Derived.Test.YtciocjaelmnhiaaDoorBpB
namespace Go.Proofs.YtciocjaelmnhiaaDoor.Bp
open Go.RowKit Go.Proofs.YtciocjaelmnhiaaDoorW.PrintWords Go.Proofs.YtciocjaelmnhiaaDoorW.PrintLast Go.Proofs.YtciocjaelmnhiaaDoorW.PrintMore Go.Proofs.YtciocjaelmnhiaaDoor.Reg
set_option linter.unusedSimpArgs false
set_option linter.unusedVariables false

theorem xor_u32 (n m : Nat) (hn : n < 4294967296) (hm : m < 4294967296) : bits .xor .u32 (n : Int) (m : Int) = ((n ^^^ m : Nat) : Int) := by
  have hn' : n % 2 ^ IntKind.u32.bits = n := Nat.mod_eq_of_lt hn
  have hm' : m % 2 ^ IntKind.u32.bits = m := Nat.mod_eq_of_lt hm
  have hx : n ^^^ m < 2 ^ 32 := Nat.xor_lt_two_pow (by omega) (by omega)
  simp only [bits, BitVec.ofInt_natCast, BitVec.toNat_xor, BitVec.toNat_ofNat, hn', hm']
  rw [IntKind.wrap_u32]
  omega
theorem and_u32 (n m k : Nat) (hm : m = 2 ^ k - 1) (hk : k ≤ 25) (hn : n < 4294967296) : bits .and .u32 (n : Int) (m : Int) = ((n % 2 ^ k : Nat) : Int) := by
  have h60 : (2 : Nat) ^ k ≤ 2 ^ 25 := Nat.pow_le_pow_right (by decide) hk
  have hn' : n % 2 ^ IntKind.u32.bits = n := Nat.mod_eq_of_lt hn
  have hm' : m % 2 ^ IntKind.u32.bits = m := Nat.mod_eq_of_lt (by simp [IntKind.bits]; omega)
  have hx : n &&& m = n % 2 ^ k := by rw [hm, Nat.and_two_pow_sub_one_eq_mod]
  have hl : n % 2 ^ k ≤ n := Nat.mod_le _ _
  simp only [bits, BitVec.ofInt_natCast, BitVec.toNat_and, BitVec.toNat_ofNat, hn', hm', hx]
  rw [IntKind.wrap_u32]
  omega
theorem bit_u32' : ∀ (t : Fin 32) (j : Fin 5), bits .and .u32 (shr .u32 ((t.val : Nat) : Int) ((j.val : Nat) : Int)) 1 = ((t.val / 2 ^ j.val % 2 : Nat) : Int) := by decide +kernel
theorem gen_rd : ∀ j : Fin 5, rd ([996825010, 642813549, 513874426, 1027748829, 705979059] : List Int) ((j.val : Nat) : Int) = ((gen.getD j.val 0 : Nat) : Int) ∧ gen.getD j.val 0 < 1073741824 := by decide
abbrev gens : List Int := [996825010, 642813549, 513874426, 1027748829, 705979059]
theorem pin_step (k : Nat) (x0 : List Int) (Y t : Nat) (x5 : Int) (j : Nat) (hj : j < 5) (ht : t < 32) (hY : Y < 1073741824) :
    PFnWriteBech32.spec_polymod.l1 (k + 1) x0 gens (Y : Int) x5 (t : Int) (j : Int) = PFnWriteBech32.spec_polymod.l1 k x0 gens ((gb t j Y : Nat) : Int) x5 (t : Int) ((j + 1 : Nat) : Int) := by
  have hb := bit_u32' ⟨t, ht⟩ ⟨j, hj⟩
  have hg := gen_rd ⟨j, hj⟩
  simp only [] at hb hg
  have hw : wrap64 ((j : Int) + 1) = ((j + 1 : Nat) : Int) := by rw [wrap64_id (by omega) (by omega)]; push_cast; rfl
  rw [PFnWriteBech32.spec_polymod.l1, if_pos (by omega), if_pos (by omega), hb, hw, hg.1]
  unfold gb
  by_cases c : t / 2 ^ j % 2 = 1
  · rw [if_pos (by omega), if_pos (by show (j : Int) < 5; omega), if_pos c, xor_u32 _ _ (by omega) (by omega)]
  · rw [if_neg (by omega), if_neg c]
theorem pin (k : Nat) (x0 : List Int) (Y t : Nat) (x5 : Int) (ht : t < 32) (hY : Y < 1073741824) : PFnWriteBech32.spec_polymod.l1 (k + 6) x0 gens (Y : Int) x5 (t : Int) 0 = PFnWriteBech32.spec_polymod.l0 k x0 gens ((gm t Y : Nat) : Int) (wrap64 (x5 + 1)) := by
  have h0 := pin_step (k + 5) x0 Y t x5 0 (by decide) ht hY
  have h1 := pin_step (k + 4) x0 (gb t 0 Y) t x5 1 (by decide) ht (gbs_lt t hY 1 (by decide))
  have h2 := pin_step (k + 3) x0 (gb t 1 (gb t 0 Y)) t x5 2 (by decide) ht (gbs_lt t hY 2 (by decide))
  have h3 := pin_step (k + 2) x0 (gb t 2 (gb t 1 (gb t 0 Y))) t x5 3 (by decide) ht (gbs_lt t hY 3 (by decide))
  have h4 := pin_step (k + 1) x0 (gb t 3 (gb t 2 (gb t 1 (gb t 0 Y)))) t x5 4 (by decide) ht (gbs_lt t hY 4 (by decide))
  refine h0.trans (h1.trans (h2.trans (h3.trans (h4.trans ?_))))
  rw [PFnWriteBech32.spec_polymod.l1, if_neg (by decide)]
  rfl
theorem pol_l (D : List Nat) (hD : ∀ v ∈ D, v < 32) (hn : D.length ≤ 100000) : ∀ (m k i c : Nat), m + i = D.length → 7 * m < k → c < 1073741824 → PFnWriteBech32.spec_polymod.l0 k (ints D) gens (c : Int) (i : Int) = some ((pm c (D.drop i) : Nat) : Int)
  | m, 0, _, _, _, h, _ => absurd h (by omega)
  | 0, k + 1, i, c, hm, hk, hc => by
    rw [PFnWriteBech32.spec_polymod.l0, if_neg (by rw [ints_len]; omega), List.drop_of_length_le (by omega)]
    rfl
  | m + 1, k + 1, i, c, hm, hk, hc => by
    have hi : i < D.length := by omega
    have hv := hD D[i] (List.getElem_mem _)
    have hr : rd (ints D) (i : Int) = (D[i] : Int) := by simp [rd, ints, hi]
    have hw : wrap64 ((i : Int) + 1) = ((i + 1 : Nat) : Int) := by rw [wrap64_id (by omega) (by omega)]; push_cast; rfl
    obtain ⟨k2, rfl⟩ : ∃ k2, k = k2 + 6 := ⟨k - 6, by omega⟩
    rw [PFnWriteBech32.spec_polymod.l0, if_pos (by rw [ints_len]; omega), if_pos (by omega), hr, List.drop_eq_getElem_cons hi]
    have ha := and_u32 c 33554431 25 (by decide) (by decide) (by omega)
    rw [show ((33554431 : Nat) : Int) = 33554431 from rfl] at ha
    rw [ha, show (((c % 2 ^ 25 : Nat) : Int) * 32) % 4294967296 = ((c % 33554432 * 32 : Nat) : Int) by omega, show ((D[i] : Nat) : Int) % 4294967296 = (D[i] : Int) by omega, xor_u32 _ _ (by omega) (by omega), show (c : Int) / 33554432 = ((c / 33554432 : Nat) : Int) by omega,
      pin k2 _ _ _ _ (by omega) (xor_lt (by omega) (by omega)), hw]
    exact pol_l D hD hn m k2 (i + 1) (stp c D[i]) (by omega) (by omega) (stp_lt hc hv)
theorem pol_f (D : List Nat) (hD : ∀ v ∈ D, v < 32) (hn : D.length ≤ 100000) : PFnWriteBech32.spec_polymod.f (7 * D.length + 1) (ints D) = some ((pm 1 D : Nat) : Int) :=
  pol_l D hD hn D.length _ 0 1 (by omega) (by omega) (by decide)
theorem ex_l1 (s : ByteArray) (hs : s.size ≤ 1000) : ∀ (m k i : Nat) (X : List Int), m + i = s.size → m < k → X.length ≤ 100000 + i → PFnWriteBech32.spec_expand.l1 k s X (i : Int) = some (X ++ ints ((lo s).drop i))
  | m, 0, _, _, _, h, _ => absurd h (by omega)
  | 0, k + 1, i, X, hm, hk, hX => by
    rw [PFnWriteBech32.spec_expand.l1, if_neg (by omega), List.drop_of_length_le (by rw [lo_len]; omega)]
    simp [ints]
  | m + 1, k + 1, i, X, hm, hk, hX => by
    have hi : i < s.size := by omega
    have hb := bt_list s i (by rw [← size_list]; exact hi)
    have hw : wrap64 ((i : Int) + 1) = ((i + 1 : Nat) : Int) := by rw [wrap64_id (by omega) (by omega)]; push_cast; rfl
    rw [PFnWriteBech32.spec_expand.l1, if_pos (by omega), if_pos (by omega), if_pos (by omega), hw, ex_l1 s hs m k (i + 1) _ (by omega) (by omega) (by simp; omega), lo_at s i hi, hb, Int.tmod_eq_emod_of_nonneg (by omega), at_list s i hi]
    simp [ints]
theorem ex_l0 (s : ByteArray) (hs : s.size ≤ 1000) : ∀ (m k i : Nat) (X : List Int), m + i = s.size → m + s.size + 1 < k → X.length ≤ i → PFnWriteBech32.spec_expand.l0 k s X (i : Int) = some (X ++ ints ((hi s).drop i ++ 0 :: lo s))
  | m, 0, _, _, _, h, _ => absurd h (by omega)
  | 0, k + 1, i, X, hm, hk, hX => by
    rw [PFnWriteBech32.spec_expand.l0, if_neg (by omega), if_pos (by omega), List.drop_of_length_le (by rw [hi_len]; omega)]
    have := ex_l1 s hs s.size k 0 (X ++ [0]) (by omega) (by omega) (by simp; omega)
    rw [show ((0 : Nat) : Int) = 0 from rfl] at this
    rw [this]
    simp [ints]
  | m + 1, k + 1, i, X, hm, hk, hX => by
    have hi' : i < s.size := by omega
    have hb := bt_list s i (by rw [← size_list]; exact hi')
    have hw : wrap64 ((i : Int) + 1) = ((i + 1 : Nat) : Int) := by rw [wrap64_id (by omega) (by omega)]; push_cast; rfl
    have hlt := (s.data.toList[i]'(by rw [← size_list]; exact hi')).toNat_lt
    rw [PFnWriteBech32.spec_expand.l0, if_pos (by omega), if_pos (by omega), if_pos (by omega), hw, ex_l0 s hs m k (i + 1) _ (by omega) (by omega) (by simp; omega), hi_at s i hi', hb, Int.tdiv_eq_ediv_of_nonneg (by omega), at_list s i hi']
    obtain ⟨b, hbb⟩ : ∃ b, (s.data.toList[i]'(by rw [← size_list]; exact hi')).toNat = b := ⟨_, rfl⟩
    rw [hbb] at hlt ⊢
    rw [show ((b : Int) / 32) % 256 = ((b / 32 : Nat) : Int) by omega]
    simp [ints]
theorem ex_f (s : ByteArray) (hs : s.size ≤ 1000) : PFnWriteBech32.spec_expand.f (2 * s.size + 2) s = some (ints (hi s ++ 0 :: lo s)) := by
  have := ex_l0 s hs s.size (2 * s.size + 2) 0 [] (by omega) (by omega) (by simp)
  unfold PFnWriteBech32.spec_expand.f
  simpa using this
end Go.Proofs.YtciocjaelmnhiaaDoor.Bp
