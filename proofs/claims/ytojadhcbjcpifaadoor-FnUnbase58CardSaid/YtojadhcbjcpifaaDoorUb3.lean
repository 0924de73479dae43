/-
  The reference: trim, plusSmall, timesSmall, place, Unbase58.
-/
import Derived.Test.YtojadhcbjcpifaaDoorUb1
namespace Go.Proofs.YtojadhcbjcpifaaDoor.Ub
open Go.RowKit Go.Proofs.YtojadhcbjcpifaaDoorW.PrintWords Go.Proofs.YtojadhcbjcpifaaDoorW.PrintLast
set_option linter.unusedSimpArgs false
set_option linter.unusedVariables false

/-- The digits of base58: 255 where a byte is none. -/
def tb : List Int := [255, 255, 255, 255, 255, 255, 255, 255, 255, 255, 255, 255, 255, 255, 255, 255, 255, 255, 255, 255, 255, 255, 255, 255, 255, 255, 255, 255, 255, 255, 255, 255, 255, 255, 255, 255, 255, 255, 255, 255, 255, 255, 255, 255, 255, 255, 255, 255, 255, 0, 1, 2, 3, 4, 5, 6, 7, 8, 255, 255, 255, 255, 255, 255, 255, 9, 10, 11, 12, 13, 14, 15, 16, 255, 17, 18, 19, 20, 21, 255, 22, 23, 24, 25, 26, 27, 28, 29, 30, 31, 32, 255, 255, 255, 255, 255, 255, 33, 34, 35, 36, 37, 38, 39, 40, 41, 42, 43, 255, 44, 45, 46, 47, 48, 49, 50, 51, 52, 53, 54, 55, 56, 57, 255, 255, 255, 255, 255, 255, 255, 255, 255, 255, 255, 255, 255, 255, 255, 255, 255, 255, 255, 255, 255, 255, 255, 255, 255, 255, 255, 255, 255, 255, 255, 255, 255, 255, 255, 255, 255, 255, 255, 255, 255, 255, 255, 255, 255, 255, 255, 255, 255, 255, 255, 255, 255, 255, 255, 255, 255, 255, 255, 255, 255, 255, 255, 255, 255, 255, 255, 255, 255, 255, 255, 255, 255, 255, 255, 255, 255, 255, 255, 255, 255, 255, 255, 255, 255, 255, 255, 255, 255, 255, 255, 255, 255, 255, 255, 255, 255, 255, 255, 255, 255, 255, 255, 255, 255, 255, 255, 255, 255, 255, 255, 255, 255, 255, 255, 255, 255, 255, 255, 255, 255, 255, 255, 255, 255, 255, 255, 255, 255, 255, 255, 255, 255]
abbrev abc : ByteArray := (⟨#[49, 50, 51, 52, 53, 54, 55, 56, 57, 65, 66, 67, 68, 69, 70, 71, 72, 74, 75, 76, 77, 78, 80, 81, 82, 83, 84, 85, 86, 87, 88, 89, 90, 97, 98, 99, 100, 101, 102, 103, 104, 105, 106, 107, 109, 110, 111, 112, 113, 114, 115, 116, 117, 118, 119, 120, 121, 122]⟩ : ByteArray)
def dg (b : Int) : Int := rd tb b
theorem place_60 : ∀ b : Fin 256, PFnUnbase58.spec_place.f 60 abc ((b.val : Nat) : Int) = some (if dg ((b.val : Nat) : Int) = 255 then -1 else dg ((b.val : Nat) : Int)) := by decide +kernel
theorem dg_lt' : ∀ b : Fin 256, 0 ≤ dg ((b.val : Nat) : Int) ∧ (dg ((b.val : Nat) : Int) = 255 ∨ dg ((b.val : Nat) : Int) < 58) := by decide +kernel
theorem dg_one' : ∀ b : Fin 256, dg ((b.val : Nat) : Int) = 0 ↔ ((b.val : Nat) : Int) = 49 := by decide +kernel
theorem dg_lt {b : Int} (h : 0 ≤ b ∧ b < 256) : 0 ≤ dg b ∧ (dg b = 255 ∨ dg b < 58) := by
  have := dg_lt' ⟨b.toNat, by omega⟩
  rwa [show ((b.toNat : Nat) : Int) = b by omega] at this
theorem dg_one {b : Int} (h : 0 ≤ b ∧ b < 256) : dg b = 0 ↔ b = 49 := by
  have := dg_one' ⟨b.toNat, by omega⟩
  rwa [show ((b.toNat : Nat) : Int) = b by omega] at this
theorem place_f {k : Nat} (hk : 60 ≤ k) {b : Int} (h : 0 ≤ b ∧ b < 256) : PFnUnbase58.spec_place.f k abc b = some (if dg b = 255 then -1 else dg b) := by
  have h0 := place_60 ⟨b.toNat, by omega⟩
  rw [show ((b.toNat : Nat) : Int) = b by omega] at h0
  induction k with
  | zero => omega
  | succ k ih =>
    by_cases hk2 : k + 1 = 60
    · rw [hk2]; exact h0
    · exact PFnUnbase58.spec_place.mono abc b k _ (ih (by omega))
theorem bt_lt (s : ByteArray) (i : Int) : 0 ≤ bt s i ∧ bt s i < 256 := by
  unfold bt
  split
  · have := (s[i.toNat]).toNat_lt; omega
  · omega
/-- Zeros ahead are cut. -/
def tz : List Int → List Int
  | [] => []
  | d :: t => if d = 0 then tz t else d :: t
theorem tz_bv (B : Int) (l : List Int) : bv B (tz l) = bv B l := by
  induction l with
  | nil => rfl
  | cons d t ih =>
    unfold tz
    split
    · rename_i h; rw [ih]; simp [bv, h]
    · rfl
theorem tz_len (l : List Int) : (tz l).length ≤ l.length := by
  induction l with
  | nil => exact Nat.le_refl _
  | cons d t ih => unfold tz; split <;> simp <;> omega
theorem tz_nrm {B : Int} {l : List Int} (h : Dg B l) : Nrm B (tz l).reverse := by
  induction l with
  | nil => exact trivial
  | cons d t ih =>
    have hd := h d List.mem_cons_self
    have ht : Dg B t := fun x hx => h x (List.mem_cons_of_mem _ hx)
    unfold tz
    split
    · exact ih ht
    · rw [List.reverse_cons]; exact Nrm.cat ht.rev (by omega) hd.2
theorem trim_l (l : List Int) (hl : l.length ≤ 1000000) : ∀ (m k i : Nat), m + i = l.length → m < k → PFnUnbase58.spec_trim.l0 k l i = some (tz (l.drop i))
  | m, 0, _, _, h => absurd h (by omega)
  | 0, k + 1, i, hm, _ => by
    have hd : l.drop i = [] := List.drop_of_length_le (by omega)
    rw [PFnUnbase58.spec_trim.l0, if_neg (by omega)]
    simp [tz, hd]
    omega
  | m + 1, k + 1, i, hm, hk => by
    have hi : i < l.length := by omega
    rw [PFnUnbase58.spec_trim.l0, if_pos (by omega), if_pos (by omega), rd_nat, List.drop_eq_getElem_cons hi, tz]
    have e : l.getD i 0 = l[i] := by simp [hi]
    rw [e]
    by_cases h0 : l[i] = 0
    · rw [if_pos h0, if_pos h0, show wrap64 ((i : Int) + 1) = ((i + 1 : Nat) : Int) by push_cast; exact wrap64_id (by omega) (by omega)]
      exact trim_l l hl m k (i + 1) (by omega) (by omega)
    · rw [if_neg h0, if_neg h0, ← List.drop_eq_getElem_cons hi]
      simp
      omega
theorem trim_f (l : List Int) (k : Nat) (hl : l.length ≤ 1000000) (hk : l.length < k) : PFnUnbase58.spec_trim.f k l = some (tz l) := by
  have := trim_l l hl l.length k 0 (by omega) hk
  rwa [List.drop_zero] at this
theorem plus_l : ∀ (m k : Nat) (y : List Int) (c : Int), m ≤ y.length → y.length ≤ 1000000 → m + y.length + 1 < k → Dg 256 y → (0 ≤ c ∧ c < 256) →
    ∃ r c', PFnUnbase58.spec_plusSmall.l0 k y c ((m : Int) - 1) = some r ∧ Nrm 256 r.reverse ∧ r.length ≤ y.length ∧ 0 ≤ c' ∧ bv 256 r + c' * 256 ^ y.length = bv 256 y + c * 256 ^ (y.length - m)
  | m, 0, _, _, _, _, h, _, _ => absurd h (by omega)
  | 0, k + 1, y, c, hm, hl, hk, hy, hc => by
    refine ⟨tz y, c, ?_, tz_nrm hy, tz_len y, hc.1, by rw [tz_bv]; simp⟩
    rw [PFnUnbase58.spec_plusSmall.l0, if_neg (by omega), trim_f y k hl (by omega)]; rfl
  | m + 1, k + 1, y, c, hm, hl, hk, hy, hc => by
    have hi : m < y.length := by omega
    have hd := hy.at (by decide) m
    have e : ((m + 1 : Nat) : Int) - 1 = (m : Int) := by push_cast; omega
    obtain ⟨t, ht⟩ : ∃ t, c + y.getD m 0 = t := ⟨_, rfl⟩
    obtain ⟨r, c', h1, h2, h3, h4, h5⟩ := plus_l m k (y.set m (t % 256)) (t / 256) (by simpa using by omega) (by simpa using hl) (by simpa using by omega) (hy.set _ ⟨by omega, by omega⟩) ⟨by omega, by omega⟩
    refine ⟨r, c', ?_, h2, by simpa using h3, h4, ?_⟩
    · rw [e, PFnUnbase58.spec_plusSmall.l0, if_pos (by omega), if_pos (by omega), if_pos (by omega), rd_nat, wrap64_id (x := y.getD m 0) (by omega) (by omega), wrap64_id (x := c + y.getD m 0) (by omega) (by omega), ht, Int.toNat_natCast,
        Int.tmod_eq_emod_of_nonneg (by omega), Int.tdiv_eq_ediv_of_nonneg (by omega), wrap64_id (x := t / 256) (by omega) (by omega), wrap64_id (x := (m : Int) - 1) (by omega) (by omega), Int.emod_emod_of_dvd _ (by decide)]
      exact h1
    · rw [List.length_set, bv_set _ _ _ _ hi] at h5
      rw [h5, show y.length - m = (y.length - 1 - m) + 1 by omega, show y.length - (m + 1) = y.length - 1 - m by omega, Int.pow_succ]
      have hdm := Int.emod_add_mul_ediv t 256
      obtain ⟨P, hP⟩ : ∃ P : Int, 256 ^ (y.length - 1 - m) = P := ⟨_, rfl⟩
      rw [hP]
      grind
theorem no_carry {a c V P : Int} (hP : 0 < P) (ha : 0 ≤ a) (hc : 0 ≤ c) (hV : V < P) (h : a + c * P = V) : a = V := by
  by_cases h0 : c = 0
  · subst h0; omega
  · have : 1 * P ≤ c * P := Int.mul_le_mul_of_nonneg_right (by omega) (Int.le_of_lt hP)
    omega
theorem plus_f (l : List Int) (a : Int) (k : Nat) (hl : l.length ≤ 100000) (hk : 2 * l.length + 4 < k) (hd : Dg 256 l) (ha : 0 ≤ a ∧ a < 256) :
    ∃ r, PFnUnbase58.spec_plusSmall.f k l a = some r ∧ Nrm 256 r.reverse ∧ r.length ≤ l.length + 1 ∧ bv 256 r = bv 256 l + a := by
  have hd0 : Dg 256 (0 :: l) := fun x hx => by
    rcases List.mem_cons.1 hx with rfl | hx
    · decide
    · exact hd x hx
  obtain ⟨r, c', h1, h2, h3, h4, h5⟩ := plus_l (l.length + 1) k (0 :: l) a (by simp) (by simp; omega) (by simp; omega) hd0 ha
  refine ⟨r, ?_, h2, by simpa using h3, ?_⟩
  · unfold PFnUnbase58.spec_plusSmall.f
    simp only [Option.bind_some, List.length_append, List.length_cons, List.length_nil]
    rw [if_pos (by omega), wrap64_id (x := a) (by omega) (by omega), wrap64_id (by omega) (by omega)]
    rw [show (((0 + 1 + l.length : Nat) : Int)) - 1 = ((l.length + 1 : Nat) : Int) - 1 by push_cast; omega]
    exact h1
  · have hb := bv_lt (B := 256) (by decide) hd
    have hn := bv_nn (B := 256) (by decide) hd
    have hr := bv_nn (B := 256) (by decide) (l := r) (by have := h2.dg.rev; rwa [List.reverse_reverse] at this)
    have h0 : bv 256 (0 :: l) = bv 256 l := by simp [bv]
    rw [h0] at h5
    simp only [List.length_cons, Nat.sub_self, Int.pow_zero, Int.mul_one] at h5
    refine no_carry (pow_pos' (by decide) _) hr h4 ?_ h5
    rw [Int.pow_succ]
    have := pow_pos' (B := 256) (by decide) l.length
    omega
theorem bv_take (B : Int) (l : List Int) (i : Nat) (h : i < l.length) : bv B (l.take (i + 1)) = bv B (l.take i) * B + l.getD i 0 := by
  rw [List.take_succ_eq_append_getElem h, bv_app]
  simp [bv, h, Int.pow_succ]
theorem times_l (x : List Int) (hx : Dg 256 x) (hxl : x.length ≤ 100000) : ∀ (m k : Nat) (z : List Int) (c : Int), m ≤ z.length → z.length = x.length + 8 → m + z.length + 1 < k → Dg 256 z → (∀ q, q < m → z.getD q 0 = 0) → (0 ≤ c ∧ c ≤ 58) →
    ∃ r c', PFnUnbase58.spec_timesSmall.l0 k x 58 z c ((m : Int) - 1) = some r ∧ Nrm 256 r.reverse ∧ r.length ≤ z.length ∧ 0 ≤ c' ∧ bv 256 r + c' * 256 ^ z.length = bv 256 z + c * 256 ^ (z.length - m) + 58 * bv 256 (x.take (m - 8)) * 256 ^ (z.length - m)
  | m, 0, _, _, _, _, h, _, _, _ => absurd h (by omega)
  | 0, k + 1, z, c, hm, hl, hk, hz, h0, hc => by
    refine ⟨tz z, c, ?_, tz_nrm hz, tz_len z, hc.1, by rw [tz_bv]; simp [bv]⟩
    rw [PFnUnbase58.spec_timesSmall.l0, if_neg (by omega), trim_f z k (by omega) (by omega)]; rfl
  | m + 1, k + 1, z, c, hm, hl, hk, hz, h0, hc => by
    have hi : m < z.length := by omega
    have e : ((m + 1 : Nat) : Int) - 1 = (m : Int) := by push_cast; omega
    have hzm := h0 m (by omega)
    obtain ⟨P, hP⟩ : ∃ P : Int, 256 ^ (z.length - 1 - m) = P := ⟨_, rfl⟩
    by_cases hm8 : 8 ≤ m
    · have hi8 : m - 8 < x.length := by omega
      have hd := hx.at (by decide) (m - 8)
      have htk := bv_take 256 x (m - 8) hi8
      obtain ⟨d, hdd⟩ : ∃ d, x.getD (m - 8) 0 = d := ⟨_, rfl⟩
      rw [hdd] at hd htk
      obtain ⟨t, ht⟩ : ∃ t, c + d * 58 = t := ⟨_, rfl⟩
      obtain ⟨r, c', h1, h2, h3, h4, h5⟩ := times_l x hx hxl m k (z.set m (t % 256)) (t / 256) (by simpa using by omega) (by simpa using hl) (by simpa using by omega) (hz.set _ ⟨by omega, by omega⟩) (fun q hq => by
        rw [List.getD_eq_getElem?_getD, List.getElem?_set_ne (by omega), ← List.getD_eq_getElem?_getD]; exact h0 q (by omega)) ⟨by omega, by omega⟩
      refine ⟨r, c', ?_, h2, by simpa using h3, h4, ?_⟩
      · have e8 : wrap64 ((m : Int) - 8) = ((m - 8 : Nat) : Int) := by rw [wrap64_id (by omega) (by omega)]; omega
        rw [e, PFnUnbase58.spec_timesSmall.l0, if_pos (by omega), e8, if_pos (by omega), if_pos (by omega), if_pos (by omega), if_pos (by omega), if_pos (by omega), rd_nat, hdd, u64_id (x := d) (by omega) (by omega), u64_id (x := d * 58) (by omega) (by omega), u64_id (x := c + d * 58) (by omega) (by omega), ht, Int.toNat_natCast,
          Int.tmod_eq_emod_of_nonneg (by omega), Int.tdiv_eq_ediv_of_nonneg (by omega), u64_id (x := t / 256) (by omega) (by omega), wrap64_id (x := (m : Int) - 1) (by omega) (by omega), Int.emod_emod_of_dvd _ (by decide)]
        exact h1
      · rw [List.length_set, bv_set _ _ _ _ hi, hzm] at h5
        rw [h5, show z.length - m = (z.length - 1 - m) + 1 by omega, show z.length - (m + 1) = z.length - 1 - m by omega, Int.pow_succ, show m + 1 - 8 = m - 8 + 1 by omega, htk, hP]
        have hdm := Int.emod_add_mul_ediv t 256
        obtain ⟨Q, hQ⟩ : ∃ Q : Int, bv 256 (List.take (m - 8) x) = Q := ⟨_, rfl⟩
        rw [hQ]
        grind
    · obtain ⟨r, c', h1, h2, h3, h4, h5⟩ := times_l x hx hxl m k (z.set m (c % 256)) (c / 256) (by simpa using by omega) (by simpa using hl) (by simpa using by omega) (hz.set _ ⟨by omega, by omega⟩) (fun q hq => by
        rw [List.getD_eq_getElem?_getD, List.getElem?_set_ne (by omega), ← List.getD_eq_getElem?_getD]; exact h0 q (by omega)) ⟨by omega, by omega⟩
      refine ⟨r, c', ?_, h2, by simpa using h3, h4, ?_⟩
      · rw [e, PFnUnbase58.spec_timesSmall.l0, if_pos (by omega), wrap64_id (x := (m : Int) - 8) (by omega) (by omega), if_neg (by omega), if_pos (by omega), if_pos (by omega), Int.toNat_natCast,
          Int.tmod_eq_emod_of_nonneg (by omega), Int.tdiv_eq_ediv_of_nonneg (by omega), u64_id (x := c / 256) (by omega) (by omega), wrap64_id (x := (m : Int) - 1) (by omega) (by omega), Int.emod_emod_of_dvd _ (by decide)]
        exact h1
      · rw [List.length_set, bv_set _ _ _ _ hi, hzm] at h5
        rw [h5, show z.length - m = (z.length - 1 - m) + 1 by omega, show z.length - (m + 1) = z.length - 1 - m by omega, Int.pow_succ, show m + 1 - 8 = 0 by omega, show m - 8 = 0 by omega, hP]
        have hdm := Int.emod_add_mul_ediv c 256
        simp only [List.take_zero, bv]
        grind
theorem times_f (l : List Int) (k : Nat) (hl : l.length ≤ 100000) (hk : 2 * l.length + 20 < k) (hd : Dg 256 l) :
    ∃ r, PFnUnbase58.spec_timesSmall.f k l 58 = some r ∧ Nrm 256 r.reverse ∧ r.length ≤ l.length + 8 ∧ bv 256 r = bv 256 l * 58 := by
  obtain ⟨r, c', h1, h2, h3, h4, h5⟩ := times_l l hd hl (l.length + 8) k (List.replicate (l.length + 8) 0) 0 (by simp) (by simp) (by simp; omega) (Dg.rep (by decide) _) (fun q _ => by
    rw [List.getD_eq_getElem?_getD, List.getElem?_replicate]; split <;> rfl) ⟨by decide, by decide⟩
  refine ⟨r, ?_, h2, by simpa using h3, ?_⟩
  · unfold PFnUnbase58.spec_timesSmall.f
    rw [show wrap64 ((l.length : Int) + 8) = ((l.length + 8 : Nat) : Int) by push_cast; exact wrap64_id (by omega) (by omega), if_pos (by omega), Int.toNat_natCast, if_pos (by omega)]
    simp only [Option.bind_some, List.length_replicate]
    rw [wrap64_id (by omega) (by omega)]
    exact h1
  · have hb := bv_lt (B := 256) (by decide) hd
    have hn := bv_nn (B := 256) (by decide) hd
    have hr := bv_nn (B := 256) (by decide) (l := r) (by have := h2.dg.rev; rwa [List.reverse_reverse] at this)
    simp only [List.length_replicate, Nat.sub_self, Int.pow_zero, Int.mul_one, bv_rep, Nat.add_sub_cancel, List.take_length, Int.zero_add] at h5
    have h6 : bv 256 r + c' * 256 ^ (l.length + 8) = bv 256 l * 58 := by rw [h5]; grind
    refine no_carry (pow_pos' (by decide) _) hr h4 ?_ h6
    rw [Int.pow_add]
    have := pow_pos' (B := 256) (by decide) l.length
    have h8 : (256 : Int) ^ 8 = 18446744073709551616 := by decide
    rw [h8]
    omega
/-- The digits of a text. -/
def ds (s : ByteArray) : List Int := (List.range s.size).map fun (i : Nat) => dg (bt s (i : Int))
theorem ds_len (s : ByteArray) : (ds s).length = s.size := by simp [ds]
theorem ds_at (s : ByteArray) (i : Nat) (h : i < s.size) : (ds s).drop i = dg (bt s (i : Int)) :: (ds s).drop (i + 1) := by
  rw [List.drop_eq_getElem_cons (by rw [ds_len]; exact h)]
  simp [ds]
theorem ds_end (s : ByteArray) (i : Nat) (h : s.size ≤ i) : (ds s).drop i = [] := List.drop_of_length_le (by rw [ds_len]; exact h)
/-- The number that digits stand for, behind a number. -/
def vl : Int → List Int → Int
  | v, [] => v
  | v, d :: t => vl (v * 58 + d) t
/-- How many zeros are ahead. -/
def lz : List Int → Nat
  | [] => 0
  | d :: t => if d = 0 then lz t + 1 else 0
theorem lz_le (l : List Int) : lz l ≤ l.length := by
  induction l with
  | nil => exact Nat.le_refl _
  | cons d t ih => unfold lz; split <;> simp <;> omega
/-- What the reference answers. -/
def SOut (s : ByteArray) (i : Nat) (n : List Int) (z : Nat) (ah : Bool) (o : Option (List Int × Bool)) : Prop :=
  (255 ∈ (ds s).drop i ∧ o = some ([], false)) ∨ (255 ∉ (ds s).drop i ∧ ∃ n', o = some (List.replicate (z + if ah = true then lz ((ds s).drop i) else 0) 0 ++ n', true) ∧ Nrm 256 n'.reverse ∧ bv 256 n' = vl (bv 256 n) ((ds s).drop i) ∧ n'.length ≤ 3600)
theorem j1_false (k : Nat) (s : ByteArray) (n t p : List Int) (z i d : Int) (ht : PFnUnbase58.spec_timesSmall.f k n 58 = some t) (hd : d % 256 = d) (hp : PFnUnbase58.spec_plusSmall.f k t d = some p) :
    PFnUnbase58.spec_Unbase58.j1 (k + 1) s n z false i d = PFnUnbase58.spec_Unbase58.l0 k s p z false (wrap64 (i + 1)) := by
  simp only [PFnUnbase58.spec_Unbase58.j1, Bool.false_eq_true, if_false, ht, Option.bind_some, hd, hp]
theorem j1_true (k : Nat) (s : ByteArray) (n t p : List Int) (z i d : Int) (ht : PFnUnbase58.spec_timesSmall.f k n 58 = some t) (hd : d % 256 = d) (hp : PFnUnbase58.spec_plusSmall.f k t d = some p) :
    PFnUnbase58.spec_Unbase58.j1 (k + 1) s n z true i d = PFnUnbase58.spec_Unbase58.l0 k s p (wrap64 (z + 1)) true (wrap64 (i + 1)) := by
  simp only [PFnUnbase58.spec_Unbase58.j1, if_true, ht, Option.bind_some, hd, hp]
set_option maxHeartbeats 4000000 in
theorem sp_l (s : ByteArray) (hs : s.size ≤ 400) : ∀ (m k i : Nat) (n : List Int) (z : Nat) (ah : Bool), m + i = s.size → 2 * m + 8000 ≤ k → Nrm 256 n.reverse → n.length ≤ 9 * i → z ≤ i →
    SOut s i n z ah (PFnUnbase58.spec_Unbase58.l0 k s n z ah i)
  | m, 0, _, _, _, _, _, h, _, _, _ => absurd h (by omega)
  | 0, k + 1, i, n, z, ah, hm, hk, hn, hl, hz => by
    refine .inr ?_
    rw [ds_end s i (by omega)]
    refine ⟨by simp, n, ?_, hn, rfl, by omega⟩
    rw [PFnUnbase58.spec_Unbase58.l0, if_neg (by omega), if_pos (by omega), Int.toNat_natCast, if_pos (by omega)]
    simp [lz]
    omega
  | m + 1, 1, _, _, _, _, _, h, _, _, _ => absurd h (by omega)
  | m + 1, k + 2, i, n, z, ah, hm, hk, hn, hl, hz => by
    have hi : i < s.size := by omega
    have hb := bt_lt s (i : Int)
    have hd := dg_lt hb
    unfold SOut
    rw [ds_at s i hi, PFnUnbase58.spec_Unbase58.l0, if_pos (by omega), if_pos (by omega)]
    erw [place_f (k := k + 1) (by omega) hb]
    obtain ⟨d, hdd⟩ : ∃ d, dg (bt s (i : Int)) = d := ⟨_, rfl⟩
    rw [hdd] at hd ⊢
    clear hdd hb
    by_cases h5 : d = 255
    · subst h5
      exact .inl ⟨List.mem_cons_self, by simp⟩
    · have hd2 : d < 58 := by omega
      have hdn : Dg 256 n := by have := hn.dg.rev; rwa [List.reverse_reverse] at this
      obtain ⟨t, t1, t2, t3, t4⟩ := times_f n k (by omega) (by omega) hdn
      have hdt : Dg 256 t := by have := t2.dg.rev; rwa [List.reverse_reverse] at this
      obtain ⟨p, p1, p2, p3, p4⟩ := plus_f t d k (by omega) (by omega) hdt (by omega)
      have hw : wrap64 ((i : Int) + 1) = ((i + 1 : Nat) : Int) := by push_cast; exact wrap64_id (by omega) (by omega)
      have hmem : ∀ l : List Int, (255 ∈ d :: l) ↔ (255 ∈ l) := fun l => by simp; omega
      rw [if_neg h5, Option.bind_some, if_neg (by omega), hmem]
      have hde : d % 256 = d := Int.emod_eq_of_lt (by omega) (by omega)
      have hbv : bv 256 p = bv 256 n * 58 + d := by rw [p4, t4]
      have hpl : p.length ≤ 9 * (i + 1) := by clear p4 t4 hbv; omega
      clear p4 t4
      rw [vl, ← hbv]
      clear hbv
      cases ah with
      | false =>
        have IH := sp_l s hs m k (i + 1) p z false (by omega) (by omega) p2 hpl (by omega)
        unfold SOut at IH
        rw [if_neg Bool.false_ne_true, j1_false k s n t p z i d t1 hde p1, hw]
        rw [if_neg Bool.false_ne_true] at IH ⊢
        exact IH
      | true =>
        rw [if_pos rfl]
        by_cases h0 : d = 0
        · have IH := sp_l s hs m k (i + 1) p (z + 1) true (by omega) (by omega) p2 hpl (by omega)
          unfold SOut at IH
          rw [show (d == 0) = true by simp [h0], j1_true k s n t p z i d t1 hde p1, hw, wrap64_id (x := (z : Int) + 1) (by omega) (by omega)]
          rw [show ((z + 1 : Nat) : Int) = (z : Int) + 1 by push_cast; rfl] at IH
          have hlz : lz (d :: List.drop (i + 1) (ds s)) = lz (List.drop (i + 1) (ds s)) + 1 := if_pos h0
          rw [hlz]
          rw [if_pos rfl] at IH ⊢
          rw [show z + (lz (List.drop (i + 1) (ds s)) + 1) = z + 1 + lz (List.drop (i + 1) (ds s)) by omega]
          exact IH
        · have IH := sp_l s hs m k (i + 1) p z false (by omega) (by omega) p2 hpl (by omega)
          unfold SOut at IH
          have hlz : lz (d :: List.drop (i + 1) (ds s)) = 0 := if_neg h0
          rw [show (d == 0) = false by simp [h0], j1_false k s n t p z i d t1 hde p1, hw, hlz]
          rw [if_neg Bool.false_ne_true] at IH
          rw [if_pos rfl]
          exact IH
theorem sp_f (s : ByteArray) (k : Nat) (hs : s.size ≤ 400) (hk : 9000 ≤ k) : SOut s 0 [] 0 true (PFnUnbase58.spec_Unbase58.f k s) :=
  sp_l s hs s.size k 0 [] 0 true (by omega) (by omega) trivial (Nat.zero_le _) (Nat.le_refl _)
end Go.Proofs.YtojadhcbjcpifaaDoor.Ub
