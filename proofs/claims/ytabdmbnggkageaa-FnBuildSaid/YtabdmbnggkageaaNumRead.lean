/-
  A script's number is read again. Printed by wip/gen/num2.py.
-/
import Derived.Test.YtabdmbnggkageaaNumBytes
import Derived.WalkSpells
namespace Go.Proofs.Ytabdmbnggkageaa.Num
open Go.RowKit Go.Proofs.YtabdmbnggkageaaW.PrintWords Go.Proofs.YtabdmbnggkageaaW.PrintLast Go.Proofs.YtabdmbnggkageaaW.PrintMore
set_option linter.unusedSimpArgs false
set_option linter.unusedVariables false

theorem and127 (x : Int) (h0 : 0 ≤ x) (h1 : x < 256) : bits .and .u8 x 127 = x % 128 :=
  bits_mask .u8 8 (by decide) wraps_u8 7 (by decide) x h0 h1

set_option maxHeartbeats 8000000 in
set_option maxRecDepth 100000 in
theorem minimal_calls (A : Option Addr) (c : Nat) (l : List Int) (w : World) (hr : Kd.C (Kd.int .u8) w A l.length l) (hc : l.length ≤ c) (hb : Byte l) (hl : l.length ≤ 100) (hs : Short l) :
    Calls Try.prog 55 #[.slice A l.length c] w fun e w' => e = .returned .nilIface ∧ Drawn0 w w' := by
  by_cases h0 : l.length = 0
  · have c0 : ((l.length : Int) == 0) = true := beq_iff_eq.2 (by omega)
    have c0' : (l.length == 0) = true := beq_iff_eq.2 h0
    clear hr hc hb hl hs h0
    go_enter Try.func55, Try.ntmps55
    go_wp2
    go_ret
    exact ⟨rfl, Drawn0.refl _⟩
  · have c0 : ((l.length : Int) == 0) = false := beq_eq_false_iff_ne.2 (by omega)
    have c0' : (l.length == 0) = false := beq_eq_false_iff_ne.2 h0
    obtain ⟨i, x, hl1, hl2⟩ := snoc_of (l := l) (by intro h; subst h; simp at h0)
    obtain ⟨j, hj⟩ : ∃ j : Int, (i.length : Int) = j := ⟨_, rfl⟩
    have hlen : l.length = i.length + 1 := by rw [hl1]; simp
    have hji : wrap64 ((l.length : Int) - 1) = j := by rw [hlen, wrap64_id (by omega) (by omega)]; omega
    have hjiw : IntKind.i64.wrap ((l.length : Int) - 1) = j := (i64_w _).trans hji
    have hx : rd l j = x := by rw [hl1, ← hj]; simp [rd, List.getD_eq_getElem?_getD]
    have hxb := hb x (by rw [hl1]; simp)
    have p1 : 0 ≤ j := by omega
    have p2 : j < (l.length : Int) := by omega
    obtain ⟨ad, e1, hc1⟩ := Kd.at_int hr j p1 p2
    cases e1
    rw [hx] at hc1
    have hand := and127 x hxb.1 hxb.2
    by_cases hx0 : x % 128 = 0
    · have h2 : 2 ≤ l.length ∧ 128 ≤ l.getD (l.length - 2) 0 := by
        rcases hs with h | h | h
        · subst h; simp at h0
        · rw [hl2] at h; omega
        · exact h
      have c1 : ((l.length : Int) == 1) = false := beq_eq_false_iff_ne.2 (by omega)
      have c1' : (l.length == 1) = false := beq_eq_false_iff_ne.2 (by omega)
      obtain ⟨j2, hj2⟩ : ∃ j : Int, (l.length : Int) - 2 = j := ⟨_, rfl⟩
      have hj2i : wrap64 ((l.length : Int) - 2) = j2 := by rw [wrap64_id (by omega) (by omega)]; omega
      have hj2w : IntKind.i64.wrap ((l.length : Int) - 2) = j2 := (i64_w _).trans hj2i
      obtain ⟨ad2, e1, hc2⟩ := Kd.at_int hr j2 (by omega) (by omega)
      cases e1
      have q1 : 0 ≤ j2 := by omega
      have q2 : j2 < (l.length : Int) := by omega
      obtain ⟨y, hy⟩ : ∃ y, rd l j2 = y := ⟨_, rfl⟩
      have hy2 : rd l j2 = l.getD (l.length - 2) 0 := by rw [rd, ← hj2]; congr 1; omega
      have hyb : 128 ≤ y ∧ y < 256 := by
        rw [← hy, hy2]
        refine ⟨h2.2, ?_⟩
        rw [List.getD_eq_getElem?_getD, List.getElem?_eq_getElem (by omega)]
        exact (hb _ (List.getElem_mem (by omega))).2
      rw [hy] at hc2
      have hand2 := and128 y (by omega) hyb.2
      rw [if_pos hyb.1] at hand2
      rw [hx0] at hand
      clear hb hl hs h0 hl1 hl2 hlen hx hxb hx0 h2 hy hy2 hyb hj hj2 hr hc
      go_enter Try.func55, Try.ntmps55
      go_wp2
      go_ret
      exact ⟨rfl, by repeat (first | exact Drawn0.refl _ | apply Drawn0.step)⟩
    · obtain ⟨y, hy⟩ : ∃ y, x % 128 = y := ⟨_, rfl⟩
      rw [hy] at hand
      have c1 : (y == 0) = false := beq_eq_false_iff_ne.2 (by omega)
      clear hb hl hs h0 hl1 hl2 hlen hx hxb hx0 hy hj hr hc
      go_enter Try.func55, Try.ntmps55
      go_wp2
      go_ret
      exact ⟨rfl, by repeat (first | exact Drawn0.refl _ | apply Drawn0.step)⟩

theorem Byte.take {l : List Int} (h : Byte l) (i : Nat) : Byte (l.take i) := fun x hx => h x (List.mem_of_mem_take hx)
theorem ofInt_wrap (a : Int) : BitVec.ofInt 64 (wrap64 a) = BitVec.ofInt 64 a := by
  apply BitVec.eq_of_toNat_eq
  rw [BitVec.toNat_ofInt, BitVec.toNat_ofInt]
  congr 1
  unfold wrap64
  omega
theorem bits_wl (op : BinOp) (a b : Int) : bits op .i64 (wrap64 a) b = bits op .i64 a b := by
  have h : BitVec.ofInt IntKind.i64.bits (wrap64 a) = BitVec.ofInt IntKind.i64.bits a := ofInt_wrap a
  simp only [bits, h]
theorem bits_wr (op : BinOp) (a b : Int) : bits op .i64 a (wrap64 b) = bits op .i64 a b := by
  have h : BitVec.ofInt IntKind.i64.bits (wrap64 b) = BitVec.ofInt IntKind.i64.bits b := ofInt_wrap b
  simp only [bits, h]
theorem or_nat (v y : Nat) (hv : v < 2 ^ 64) (hy : y < 2 ^ 64) : bits .or .i64 v y = wrap64 ((v ||| y : Nat) : Int) := by
  have hv' : v % 2 ^ IntKind.i64.bits = v := Nat.mod_eq_of_lt hv
  have hy' : y % 2 ^ IntKind.i64.bits = y := Nat.mod_eq_of_lt hy
  simp only [bits, BitVec.ofInt_natCast, BitVec.toNat_or, BitVec.toNat_ofNat, hv', hy']
  exact i64_w _
theorem or_step (v x : Int) (i : Nat) (hi : i < 8) (h0 : 0 ≤ v) (h1 : v < 256 ^ i) (hx0 : 0 ≤ x) (hx1 : x < 256) :
    bits .or .i64 (wrap64 v) (wrap64 (x * 2 ^ (8 * i))) = wrap64 (v + x * 256 ^ i) := by
  obtain ⟨v, rfl⟩ := Int.eq_ofNat_of_zero_le h0
  obtain ⟨x, rfl⟩ := Int.eq_ofNat_of_zero_le hx0
  have e : (2 : Int) ^ (8 * i) = 256 ^ i := by rw [Int.pow_mul]; rfl
  have e2 : ((x : Int) * 256 ^ i) = ((2 ^ (8 * i) * x : Nat) : Int) := by
    rw [← e, Int.natCast_mul, Int.natCast_pow, Int.mul_comm]; rfl
  have hv : v < 2 ^ (8 * i) := by
    have h2 : (v : Int) < ((2 ^ (8 * i) : Nat) : Int) := by
      rw [Int.natCast_pow]
      show (v : Int) < (2 : Int) ^ (8 * i)
      rw [e]; exact h1
    exact Int.ofNat_lt.1 h2
  have hx : x < 256 := by omega
  have hpow : 2 ^ (8 * i) ≤ 2 ^ 56 := Nat.pow_le_pow_right (by decide) (by omega)
  have hy : 2 ^ (8 * i) * x < 2 ^ 64 := by
    calc 2 ^ (8 * i) * x ≤ 2 ^ 56 * x := Nat.mul_le_mul_right _ hpow
      _ < 2 ^ 56 * 256 := Nat.mul_lt_mul_of_pos_left hx (by decide)
      _ = 2 ^ 64 := by decide
  rw [bits_wl, bits_wr, e, e2, or_nat _ _ (by omega) hy, Nat.or_comm, ← Nat.two_pow_add_eq_or_of_lt hv]
  congr 1
  omega
theorem nat_clear (v p : Nat) (hp : p ≤ 63) (h1 : 2 ^ p ≤ v) (h2 : v < 2 ^ (p + 1)) : v &&& ((2 ^ 64 - 1) ^^^ 2 ^ p) = v - 2 ^ p := by
  obtain ⟨lo, rfl⟩ : ∃ lo, v = 2 ^ p + lo := ⟨v - 2 ^ p, by omega⟩
  rw [Nat.add_sub_cancel_left]
  have hlo : lo < 2 ^ p := by rw [Nat.pow_succ] at h2; omega
  apply Nat.eq_of_testBit_eq
  intro i
  rw [Nat.testBit_and, Nat.testBit_xor, Nat.testBit_two_pow_sub_one, Nat.testBit_two_pow]
  by_cases hi : i < p
  · rw [Nat.testBit_two_pow_add_gt hi]
    have : ¬ p = i := by omega
    have h3 : i < 64 := by omega
    simp [this, h3]
  · by_cases hi2 : i = p
    · subst hi2
      have h3 : i < 64 := by omega
      simp [h3, Nat.testBit_lt_two_pow hlo]
    · have h3 : lo < 2 ^ i := Nat.lt_of_lt_of_le hlo (Nat.pow_le_pow_right (by decide) (by omega))
      have h4 : 2 ^ p + lo < 2 ^ i := Nat.lt_of_lt_of_le h2 (Nat.pow_le_pow_right (by decide) (by omega))
      rw [Nat.testBit_lt_two_pow h3, Nat.testBit_lt_two_pow h4]
      simp
theorem xor_nat (m : Nat) (hm : m < 2 ^ 64) : bits .xor .i64 (-1) m = wrap64 (((2 ^ 64 - 1) ^^^ m : Nat) : Int) := by
  have hm' : m % 2 ^ IntKind.i64.bits = m := Nat.mod_eq_of_lt hm
  have h1 : (BitVec.ofInt IntKind.i64.bits (-1)).toNat = 2 ^ 64 - 1 := by decide
  simp only [bits, BitVec.ofInt_natCast, BitVec.toNat_xor, BitVec.toNat_ofNat, hm', h1]
  exact i64_w _
theorem and_nat (v y : Nat) (hv : v < 2 ^ 64) (hy : y < 2 ^ 64) : bits .and .i64 v y = wrap64 ((v &&& y : Nat) : Int) := by
  have hv' : v % 2 ^ IntKind.i64.bits = v := Nat.mod_eq_of_lt hv
  have hy' : y % 2 ^ IntKind.i64.bits = y := Nat.mod_eq_of_lt hy
  simp only [bits, BitVec.ofInt_natCast, BitVec.toNat_and, BitVec.toNat_ofNat, hv', hy']
  exact i64_w _
/-- The sign is struck out. -/
theorem clear_sign (i x : Int) (j : Nat) (hj : j < 8) (h0 : 0 ≤ i) (h1 : i < 256 ^ j) (hx0 : 128 ≤ x) (hx1 : x < 256) :
    bits .and .i64 (wrap64 (i + x * 256 ^ j)) (bits .xor .i64 (-1) (wrap64 (128 * 2 ^ (8 * j)))) = i + (x - 128) * 256 ^ j := by
  obtain ⟨i, rfl⟩ := Int.eq_ofNat_of_zero_le h0
  obtain ⟨x, rfl⟩ := Int.eq_ofNat_of_zero_le (a := x) (by omega)
  have e : (2 : Int) ^ (8 * j) = 256 ^ j := by rw [Int.pow_mul]; rfl
  have c : ((256 : Int) ^ j) = ((256 ^ j : Nat) : Int) := by rw [Int.natCast_pow]; rfl
  have ep : (128 : Int) * 2 ^ (8 * j) = ((2 ^ (8 * j + 7) : Nat) : Int) := by
    rw [Nat.pow_add, Int.natCast_mul, Int.natCast_pow, Int.mul_comm]; rfl
  have e3 : 2 ^ (8 * j + 7) = 256 ^ j * 128 := by rw [Nat.pow_add, Nat.pow_mul]
  have e4 : 2 ^ (8 * j + 7 + 1) = 256 ^ j * 256 := by rw [Nat.pow_add, Nat.pow_add, Nat.pow_mul, Nat.mul_assoc]
  have hi : i < 256 ^ j := by rw [c] at h1; exact Int.ofNat_lt.1 h1
  have hpow : 256 ^ j ≤ 256 ^ 7 := Nat.pow_le_pow_right (by decide) (by omega)
  have hx0' : 128 ≤ x := by omega
  have hx1' : x < 256 := by omega
  obtain ⟨y, rfl⟩ : ∃ y, x = 128 + y := ⟨x - 128, by omega⟩
  have ev : ((i : Int) + ((128 + y : Nat) : Int) * 256 ^ j) = ((i + 256 ^ j * 128 + 256 ^ j * y : Nat) : Int) := by
    rw [c]
    simp only [Int.natCast_add, Int.natCast_mul, Int.add_mul, Int.mul_comm, Int.add_assoc]
  have hy : 256 ^ j * y ≤ 256 ^ j * 127 := Nat.mul_le_mul_left _ (by omega)
  have e7 : (256 : Nat) ^ 7 = 72057594037927936 := by decide
  have hlt : i + 256 ^ j * 128 + 256 ^ j * y < 256 ^ j * 256 := by omega
  have h64 : 256 ^ j * 256 ≤ 2 ^ 64 := by rw [e7] at hpow; omega
  rw [bits_wl, bits_wr, ep, xor_nat _ (by rw [e3]; omega), bits_wr, ev, and_nat _ _ (by omega) (Nat.xor_lt_two_pow (by decide) (by rw [e3]; omega)),
    nat_clear _ _ (by omega) (by rw [e3]; omega) (by rw [e4]; exact hlt)]
  have e5 : i + 256 ^ j * 128 + 256 ^ j * y - 2 ^ (8 * j + 7) = i + 256 ^ j * y := by rw [e3]; omega
  rw [e5, wrap64_id (by omega) (by rw [e7] at hpow; omega)]
  have e6 : ((128 + y : Nat) : Int) - 128 = (y : Int) := by omega
  rw [e6, c, Int.natCast_add, Int.natCast_mul, Int.mul_comm]
set_option maxHeartbeats 8000000 in
set_option maxRecDepth 100000 in
theorem make_num_calls (A : Option Addr) (c : Nat) (l : List Int) (w : World) (hr : Kd.C (Kd.int .u8) w A l.length l) (hc : l.length ≤ c) (hb : Byte l) (hl : l.length ≤ 8) (hs : Short l) (r : Int) (hv : valS l = r) (hrb : -9223372036854775808 < r ∧ r < 9223372036854775808) :
    Calls Try.prog 26 #[.slice A l.length c, .bool true, .int .i64 8] w fun e w' => e = .returned (.tuple #[.int .i64 r, .nilIface]) ∧ Below w.heap.size w w' := by
  have HRB := Lib.hid hrb
  clear hrb
  have HM := Lib.hid (fun w' (h : Below w.heap.size w w') => minimal_calls A c l w' (Kd.C_below hr h) hc hb (by omega) hs)
  have c8 : decide ((8 : Int) < (l.length : Int)) = false := decide_eq_false (by omega)
  have c8' : decide (8 < l.length) = false := decide_eq_false (by omega)
  have q1 : ∀ w : World, (binOp .neq 53 .nilIface .nilIface).run Try.prog w = .ok (.bool false) w := fun w => run_neq_nil_nil _ _ (by kernel_rfl)
  have HB0 := Lib.hid (Below.refl w.heap.size w)
  by_cases h0 : l.length = 0
  · have c0 : ((l.length : Int) == 0) = true := beq_iff_eq.2 (by omega)
    have c0' : (l.length == 0) = true := beq_iff_eq.2 h0
    have e0 : r = 0 := by rw [← hv]; rw [List.length_eq_zero_iff.1 h0]; rfl
    subst e0
    clear hr hc hb hl hs h0
    go_enter Try.func26, Try.ntmps26
    go_wp2_with (go_at_call 55; refine (HM.out _ (by first | exact HB0.out | (apply below_alloc; exact HB0.out))).mono ?_; rintro e w1 ⟨rfl, ⟨m, rfl⟩⟩)
    go_ret2
    exact ⟨rfl, pw_below_drewN HB0.out _⟩
  · have c0 : ((l.length : Int) == 0) = false := beq_eq_false_iff_ne.2 (by omega)
    have c0' : (l.length == 0) = false := beq_eq_false_iff_ne.2 h0
    have HV := Lib.hid hv
    have HL := Lib.hid hl
    have HC := Lib.hid hr
    have HBY := Lib.hid hb
    clear hr hc hb hl hs hv
    go_enter Try.func26, Try.ntmps26
    go_wp2_with (go_at_call 55; refine (HM.out _ (by first | exact HB0.out | (apply below_alloc; exact HB0.out))).mono ?_; rintro e w1 ⟨rfl, ⟨m, rfl⟩⟩)
    go_loopg [10, 31] (l.length + 1) (fun kq v10 v31 w' => ∃ (i : Nat), i ≤ l.length ∧ l.length < kq + i ∧ v31 = .int .i64 i ∧ v10 = .int .i64 (wrap64 (val (l.take i))) ∧ Drawn0 (w.drewN m) w')
    case atStart => exact ⟨0, Nat.zero_le _, by omega, rfl, by rw [List.take_zero, val, wrap64_id (by decide) (by decide)], Drawn0.refl _⟩
    case round =>
      obtain ⟨i, hi, hk, rfl, rfl, hd⟩ := hrel
      cases gk with
      | zero => omega
      | succ k =>
        by_cases hlt : i < l.length
        · obtain ⟨ad, e1, hc1⟩ := Kd.at_int (Kd.C_below HC.out ((pw_below_drewN HB0.out m).trans hd.below)) (i : Int) (by omega) (by omega)
          cases e1
          simp only [Int.toNat_natCast] at hc1
          obtain ⟨x, hx⟩ : ∃ x, rd l (i : Int) = x := ⟨_, rfl⟩
          rw [hx] at hc1
          have hx0 : 0 ≤ x ∧ x < 256 := by
            rw [← hx, rd, Int.toNat_natCast, List.getD_eq_getElem?_getD, List.getElem?_eq_getElem hlt]
            exact HBY.out _ (List.getElem_mem hlt)
          obtain ⟨hx0, hx1⟩ := hx0
          obtain ⟨a, ha⟩ : ∃ a, wrap64 (val (l.take i)) = a := ⟨_, rfl⟩
          rw [ha]
          have HA := Lib.hid ha
          have HX := Lib.hid hx
          have hi8 : i < 8 := by have := HL.out; omega
          clear ha hx
          go_wp2
          go_roundg k
          case measure => omega
          case rel =>
            refine ⟨i + 1, by omega, by omega, by first | rfl | (simp; done), ?_, ?_⟩
            · rw [← HA.out, or_step _ _ _ hi8 (val_nonneg (HBY.out.take i)) (by have := val_lt (HBY.out.take i); rwa [List.length_take, Nat.min_eq_left hi] at this) hx0 hx1]
              have e : l.take (i + 1) = l.take i ++ [x] := by
                rw [List.take_succ_eq_append_getElem hlt, ← HX.out, rd, Int.toNat_natCast, List.getD_eq_getElem?_getD, List.getElem?_eq_getElem hlt]; rfl
              rw [e, val_append, List.length_take, Nat.min_eq_left hi]
            · repeat (first | exact hd | apply Drawn0.step)
        · obtain rfl : i = l.length := by omega
          rw [List.take_length]
          obtain ⟨i, x, hl1, hl2⟩ := snoc_of (l := l) (by intro h; subst h; simp at h0)
          obtain ⟨j, hj⟩ : ∃ j : Nat, i.length = j := ⟨_, rfl⟩
          have hlen : l.length = j + 1 := by rw [hl1]; simp [hj]
          have HL8 := HL.out
          have hji : wrap64 ((l.length : Int) - 1) = (j : Int) := by rw [hlen, wrap64_id (by omega) (by omega)]; omega
          have hjiw : IntKind.i64.wrap ((l.length : Int) - 1) = (j : Int) := (i64_w _).trans hji
          have hx : rd l (j : Int) = x := by rw [hl1, ← hj]; simp [rd, List.getD_eq_getElem?_getD]
          have hxb := HBY.out x (by rw [hl1]; simp)
          have p2 : j < l.length := by omega
          obtain ⟨ad, e1, hc1⟩ := Kd.at_int (Kd.C_below HC.out ((pw_below_drewN HB0.out m).trans hd.below)) (j : Int) (by omega) (by omega)
          cases e1
          simp only [Int.toNat_natCast] at hc1
          rw [hx] at hc1
          have hand := and128 x hxb.1 hxb.2
          obtain ⟨a, ha⟩ : ∃ a, wrap64 (val l) = a := ⟨_, rfl⟩
          rw [ha]
          have hj8 : j < 8 := by omega
          have HA := Lib.hid ha
          have HL1 := Lib.hid hl1
          have HJ := Lib.hid hj
          have hv := HV.out
          rw [hl1, valS_snoc, hj] at hv
          have hval : val l = val i + x * 256 ^ j := by rw [hl1, val_append, hj]
          have hi0 : 0 ≤ val i := val_nonneg (fun y hy => HBY.out y (by rw [hl1]; simp [hy]))
          have hi1 : val i < 256 ^ j := by rw [← hj]; exact val_lt (fun y hy => HBY.out y (by rw [hl1]; simp [hy]))
          by_cases h128 : 128 ≤ x
          · rw [if_pos h128] at hand hv
            have HV2 := Lib.hid hv
            have hcl := clear_sign (val i) x j hj8 hi0 hi1 h128 hxb.2
            rw [← hval, ha] at hcl
            have HCL := Lib.hid hcl
            clear hcl hval hi0 hi1 hl1 hl2 hlen hj hx hv hxb ha HL8 hlt hk h128
            go_wp2
            go_ret2
            refine ⟨?_, ?_⟩
            · rw [HCL.out, HV2.out, wrap64_id (by have := HRB.out; omega) (by have := HRB.out; omega)]; rfl
            · exact ((pw_below_drewN HB0.out m).trans hd.below)
          · rw [if_neg h128] at hand hv
            have HV2 := Lib.hid hv
            have e : a = r := by
              rw [← ha, hval, hv]
              exact wrap64_id (by have := HRB.out; omega) (by have := HRB.out; omega)
            subst e
            clear hl1 hl2 hlen hj hx hv hxb ha HL8 hlt hk h128 hval hi0 hi1
            go_wp2
            go_ret2
            exact ⟨rfl, ((pw_below_drewN HB0.out m).trans hd.below)⟩
theorem bytes_calls (n : Int) (w : World) (h1 : -9223372036854775808 < n) (h2 : n < 9223372036854775808) :
    Calls Try.prog 53 #[.int .i64 n] w fun e w' => ∃ v, e = .returned v ∧ Kd.R (Kd.int .u8) 5 w' w.heap.size (fun _ => True) v (numB n) ∧ Below w.heap.size w w' := by
  by_cases h0 : n = 0
  · subst h0
    clear h1 h2
    have c2 : ((0 : Int) == 0) = true := rfl
    go_enter Try.func53, Try.ntmps53
    go_wp2
    go_ret
    exact ⟨_, rfl, Kd.R_nil _ _ _ _ _, Below.refl _ _⟩
  · have e : numB n = signB (decide (n < 0)) (digs n.natAbs) := by unfold numB; rw [if_neg h0]
    by_cases hn : n < 0
    · exact bytes_neg n n.natAbs w hn (by rw [wrap64_id (by omega) (by omega)]; omega) (by omega) (by omega) _ (by rw [e]; simp [hn])
    · exact bytes_pos n n.natAbs w (by omega) (by omega) (by omega) (by omega) _ (by rw [e]; simp [hn])
theorem door_calls (n : Int) (w : World) (h1 : -9223372036854775808 < n) (h2 : n < 9223372036854775808) :
    Calls Try.prog 25 #[.int .i64 n] w fun e w' => ∃ v, e = .returned v ∧ Kd.R (Kd.int .u8) 5 w' w.heap.size (fun _ => True) v (numB n) ∧ Below w.heap.size w w' := by
  have H := Lib.hid (bytes_calls n w h1 h2)
  clear h1 h2
  go_enter Try.func25, Try.ntmps25
  go_wp2_with (go_at_call 53; refine H.out.mono ?_; rintro e w1 ⟨v, rfl, hR, hB⟩; have HRR := Lib.hid hR; have HB := Lib.hid hB; clear hR hB)
  go_ret
  exact ⟨_, rfl, HRR.out, HB.out⟩
theorem copied_f (l : List Int) (h : l.length ≤ 2147483647) : PFnNumberBytes.impl_copied.f l = some l := by
  unfold PFnNumberBytes.impl_copied.f
  rw [Option.bind_some, if_pos (by simp only [List.length_nil]; omega)]
  rfl
theorem implBytes_calls (n : Int) (w : World) (h1 : -9223372036854775808 < n) (h2 : n < 9223372036854775808) :
    Calls Try.prog 7 #[.int .i64 n] w fun e w' => ∃ v, e = .returned v ∧ Kd.R (Kd.int .u8) 5 w' w.heap.size (fun _ => True) v (numB n) ∧ Below w.heap.size w w' := by
  have H := Lib.hid (door_calls n w h1 h2)
  have HL := Lib.hid (numB_facts n h1 h2).2.2.2
  clear h1 h2
  go_enter Try.func7, Try.ntmps7
  go_wp2_with (first
    | (go_at_call 25; refine H.out.mono ?_; rintro e w1 ⟨v, rfl, hR, hB⟩; obtain ⟨Ad, cd, rfl⟩ := Kd.R_slice hR; have HRR := Lib.hid hR; have HB := Lib.hid hB; clear hR hB)
    | (go_at_call 24; refine (PFnNumberBytes.impl_copied.calls Ad cd _ _ _ (Kd.R_reads' HRR.out).2.2 (Kd.R_reads' HRR.out).2.1 (copied_f _ (by have := HL.out; omega))).mono ?_; rintro e w5 ⟨v0, rfl, hr5, hB5⟩; have HR5 := Lib.hid hr5; have HB5 := Lib.hid hB5; clear hr5 hB5))
  go_ret
  exact ⟨_, rfl, Kd.R_lower HR5.out HB.out.size, below_step HB.out HB5.out⟩
set_option maxRecDepth 100000 in
theorem kindOf_nil (w : World) : Calls Try.prog 27 #[.nilIface] w fun e w' => e = .returned (.int .i64 0) ∧ w = w' := by
  have q62 : ∀ w : World, (binOp .eql 53 .nilIface .nilIface).run Try.prog w = .ok (.bool true) w := fun w => run_eql_nil_nil _ _ (by kernel_rfl)
  go_enter Try.func27, Try.ntmps27
  go_wp2
  go_ret
  exact ⟨rfl, rfl⟩
set_option maxRecDepth 100000 in
theorem implNumber_calls (A : Option Addr) (c : Nat) (l : List Int) (w : World) (hr : Kd.C (Kd.int .u8) w A l.length l) (hc : l.length ≤ c) (hb : Byte l) (hl : l.length ≤ 8) (hs : Short l) (r : Int) (hv : valS l = r) (hrb : -9223372036854775808 < r ∧ r < 9223372036854775808) :
    Calls Try.prog 10 #[.slice A l.length c, .bool true, .int .i64 8] w fun e w' => e = .returned (.tuple #[.int .i64 r, .int .i64 0]) ∧ Below w.heap.size w w' := by
  have H := Lib.hid (make_num_calls A c l w hr hc hb hl hs r hv hrb)
  clear hr hc hb hl hs hv hrb
  go_enter Try.func10, Try.ntmps10
  go_wp2_with (first
    | (go_at_call 26; refine H.out.mono ?_; rintro e w1 ⟨rfl, hB⟩; have HB := Lib.hid hB; clear hB)
    | (go_at_call 27; refine (kindOf_nil _).mono ?_; rintro e w4 ⟨rfl, rfl⟩))
  go_ret2
  exact ⟨rfl, HB.out⟩
end Go.Proofs.Ytabdmbnggkageaa.Num
