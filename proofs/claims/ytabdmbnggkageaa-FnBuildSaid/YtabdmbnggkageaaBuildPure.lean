/-
  FnBuild: what the reference's functions come to. No walk stands in this text.
-/
import Derived.Test.YtabdmbnggkageaaBuildImpl
namespace Go.Proofs.Ytabdmbnggkageaa.Bld
open Go.RowKit Go.Proofs.YtabdmbnggkageaaW.PrintWords Go.Proofs.YtabdmbnggkageaaW.PrintLast Go.Proofs.YtabdmbnggkageaaW.PrintMore Go.Proofs.Ytabdmbnggkageaa.Num
set_option linter.unusedSimpArgs false
set_option linter.unusedVariables false

theorem same_l0 (l : List Int) (hl : l.length ≤ 2147483647) : ∀ (m i : Nat), l.length = i + m → PFnBuild.laws_same.l0 (m + 1) l l i = some true
  | 0, i, h => by rw [PFnBuild.laws_same.l0, if_neg (by omega)]
  | m + 1, i, h => by
    have e : wrap64 ((i : Int) + 1) = ((i + 1 : Nat) : Int) := by rw [wrap64_id (by omega) (by omega)]; omega
    rw [PFnBuild.laws_same.l0, if_pos (by omega), if_pos (by omega), if_pos (by omega), if_pos rfl, e]
    exact same_l0 l hl m (i + 1) (by omega)
theorem same_self (l : List Int) (hl : l.length ≤ 2147483647) : PFnBuild.laws_same.f (l.length + 1) l l = some true := by
  unfold PFnBuild.laws_same.f
  rw [if_pos rfl]
  exact same_l0 l hl l.length 0 (by omega)

theorem spec_end (n : Int) (k : Nat) (l : List Int) (hne : l ≠ []) (hb : Byte l) (hl : l.length ≤ 8) :
    PFnBuild.spec_NumberBytes.l0 (k + 1) n 0 l = some (signB (decide (n < 0)) l) := by
  obtain ⟨i, x, rfl, _⟩ := snoc_of hne
  have hx := hb x (by simp)
  simp only [List.length_append, List.length_singleton] at hl
  have e1 : wrap64 (((i ++ [x]).length : Int) - 1) = (i.length : Int) := by
    rw [wrap64_id (by simp only [List.length_append, List.length_singleton]; omega) (by simp only [List.length_append, List.length_singleton]; omega)]; simp
  have e2 : rd (i ++ [x]) (i.length : Int) = x := by simp [rd, List.getD_eq_getElem?_getD]
  have e3 : wrap64 (((i ++ [x] ++ [0]).length : Int) - 1) = ((i.length + 1 : Nat) : Int) := by
    rw [wrap64_id (by simp; omega) (by simp; omega)]; simp; omega
  rw [PFnBuild.spec_NumberBytes.l0, if_neg (by decide), e1, if_pos (by omega), if_pos (by simp only [List.length_append, List.length_singleton]; omega), e2, signB_snoc]
  by_cases h : 128 ≤ x
  · rw [if_pos h, if_pos h, if_pos (by simp; omega), Option.bind_some, e3]
    by_cases hn : n < 0
    · rw [if_pos hn, if_pos (by omega), if_pos (by simp only [List.length_append, List.length_singleton]; omega)]
      have e4 : rd (i ++ [x] ++ [0]) ((i.length + 1 : Nat) : Int) = 0 := by simp [rd, List.getD_eq_getElem?_getD]
      rw [e4, Int.toNat_natCast]
      simp [hn]
    · rw [if_neg hn]
      simp [hn]
  · rw [if_neg h, if_neg h]
    by_cases hn : n < 0
    · rw [if_pos hn, Int.toNat_natCast, Int.emod_eq_of_lt (by omega) (by omega)]
      simp [hn]
    · rw [if_neg hn]
      simp [hn]
theorem spec_l0 (n : Int) : ∀ (k q : Nat) (l : List Int), (digs q).length < k → (q = 0 → l ≠ []) → Byte l → l.length + (digs q).length ≤ 8 →
    PFnBuild.spec_NumberBytes.l0 k n q l = some (signB (decide (n < 0)) (l ++ digs q))
  | 0, q, l, hk, _, _, _ => by omega
  | k + 1, q, l, hk, hz, hb, hl => by
    by_cases hq : q = 0
    · subst hq
      rw [digs_zero, List.append_nil]
      exact spec_end n k l (hz rfl) hb (by omega)
    · rw [digs_pos hq] at hk hl ⊢
      simp only [List.length_cons] at hk hl
      rw [PFnBuild.spec_NumberBytes.l0, if_pos (by omega), if_pos (by omega)]
      have e1 : (q : Int) / 256 = ((q / 256 : Nat) : Int) := by omega
      have e2 : (q : Int) % 256 = ((q % 256 : Nat) : Int) := by omega
      rw [e1, e2, spec_l0 n k (q / 256) (l ++ [((q % 256 : Nat) : Int)]) (by omega) (by simp) (fun z hz => ?_) (by simp; omega)]
      · simp
      · rcases List.mem_append.1 hz with hz | hz
        · exact hb z hz
        · rw [List.mem_singleton.1 hz]; omega
theorem spec_f (n : Int) (h1 : -9223372036854775808 < n) (h2 : n < 9223372036854775808) : PFnBuild.spec_NumberBytes.f 10 n = some (numB n) := by
  unfold PFnBuild.spec_NumberBytes.f numB
  by_cases h0 : n = 0
  · rw [if_pos h0, if_pos h0]
  · rw [if_neg h0, if_neg h0]
    have hlen : (digs n.natAbs).length ≤ 8 := digs_len 8 _ (by simp; omega)
    have e : (if n < 0 then PFnBuild.spec_NumberBytes.j0 10 n (IntKind.u64.wrap (-(IntKind.u64.wrap n))) else PFnBuild.spec_NumberBytes.j0 10 n (IntKind.u64.wrap n)) =
        PFnBuild.spec_NumberBytes.j0 10 n ((n.natAbs : Nat) : Int) := by
      by_cases hn : n < 0
      · rw [if_pos hn]
        congr 1
        simp only [IntKind.wrap_u64]
        omega
      · rw [if_neg hn]
        congr 1
        simp only [IntKind.wrap_u64]
        omega
    rw [e, PFnBuild.spec_NumberBytes.j0, spec_l0 n 9 _ [] (by omega) (by omega) (fun z hz => by cases hz) (by simpa using hlen)]
    rfl


theorem least_f (d : List Int) (hb : Byte d) (h1 : d.length ≤ 520) (h2 : d.length = 1 → 1 ≤ rd d 0) : PFnBuild.spec_Least.f 3 d =
    some (if d.length = 0 then 0 else if d.length = 1 ∧ rd d 0 ≤ 16 then 80 + rd d 0 else if d.length = 1 ∧ rd d 0 = 129 then 79 else if d.length < 76 then (d.length : Int) else if d.length ≤ 255 then 76 else 77) := by
  unfold PFnBuild.spec_Least.f
  by_cases a : d.length = 0
  · rw [if_pos (by omega), if_pos a]
  · rw [if_neg (by omega), if_neg a]
    by_cases b : d.length = 1
    · have h3 := h2 b
      have h4 : rd d 0 < 256 := by
        obtain ⟨x, rfl⟩ := List.length_eq_one_iff.1 b
        exact (hb x (by simp)).2
      rw [if_pos (by omega), if_pos (by omega), if_pos (by omega)]
      by_cases s : rd d 0 ≤ 16
      · have e1 : wrap64 (rd d 0) = rd d 0 := wrap64_id (by omega) (by omega)
        have e2 : wrap64 (80 + rd d 0) = 80 + rd d 0 := wrap64_id (by omega) (by omega)
        rw [if_pos ⟨b, s⟩, PFnBuild.spec_Least.j0, if_pos (by simpa using s), if_pos (by omega), e1, e2]
      · rw [if_neg (by omega), PFnBuild.spec_Least.j0, if_neg (by simpa using s), if_pos (by omega), if_pos (by omega), PFnBuild.spec_Least.j1]
        by_cases m : rd d 0 = 129
        · rw [if_pos (by simpa using m), if_pos ⟨b, m⟩]
        · rw [if_neg (by simpa using m), if_neg (show ¬ (d.length = 1 ∧ rd d 0 = 129) from fun h => m h.2), if_pos (show (d.length : Int) < 76 by omega), if_pos (show d.length < 76 by omega)]
    · rw [if_neg (by omega), PFnBuild.spec_Least.j0, if_neg (by simp), if_neg (by omega), PFnBuild.spec_Least.j1, if_neg (by simp)]
      rw [if_neg (show ¬ (d.length = 1 ∧ rd d 0 ≤ 16) from fun h => b h.1), if_neg (show ¬ (d.length = 1 ∧ rd d 0 = 129) from fun h => b h.1)]
      by_cases p : d.length < 76
      · rw [if_pos (show (d.length : Int) < 76 by omega), if_pos p]
      · rw [if_neg (show ¬ (d.length : Int) < 76 by omega), if_neg p]
        by_cases q : d.length ≤ 255
        · rw [if_pos (show (d.length : Int) ≤ 255 by omega), if_pos q]
        · rw [if_neg (show ¬ (d.length : Int) ≤ 255 by omega), if_neg q, if_pos (by omega)]
theorem least_mono (d : List Int) (r : Int) (h : PFnBuild.spec_Least.f 3 d = some r) : PFnBuild.spec_Least.f 6 d = some r :=
  at_rounds (g := fun k => PFnBuild.spec_Least.f k d) (fun k => PFnBuild.spec_Least.mono d k) (by decide : 3 ≤ 6) h
theorem push_f (d : List Int) (hb : Byte d) (h1 : d.length ≤ 520) (h2 : d.length = 1 → 1 ≤ rd d 0) : PFnBuild.spec_Push.f 6 d = some (pushB d) := by
  unfold PFnBuild.spec_Push.f
  rw [least_mono d _ (least_f d hb h1 h2), Option.bind_some, Option.bind_some]
  unfold pushB
  by_cases a : d.length = 0
  · simp only [if_pos a]
    rfl
  · simp only [if_neg a]
    by_cases b : d.length = 1 ∧ rd d 0 ≤ 16
    · have h3 := h2 b.1
      simp only [if_pos b]
      rw [if_neg (by omega), if_pos ⟨b.1, h3, b.2⟩, PFnBuild.spec_Push.j0, if_pos (by simp; omega), Int.emod_eq_of_lt (by omega) (by omega)]
    · simp only [if_neg b]
      have b' : ¬ (d.length = 1 ∧ 1 ≤ rd d 0 ∧ rd d 0 ≤ 16) := fun h => b ⟨h.1, h.2.2⟩
      simp only [if_neg b']
      by_cases m : d.length = 1 ∧ rd d 0 = 129
      · simp only [if_pos m]
        rfl
      · simp only [if_neg m]
        by_cases p : d.length < 76
        · simp only [if_pos p]
          rw [if_neg (by omega), PFnBuild.spec_Push.j0, if_neg (by simp; omega), PFnBuild.spec_Push.l0, if_neg (by omega), if_pos (by simp; omega), Int.emod_eq_of_lt (by omega) (by omega)]
          rfl
        · simp only [if_neg p]
          by_cases q : d.length ≤ 255
          · have s1 : shl .i64 1 (wrap64 (76 - 76)) = 1 := by decide +kernel
            have s2 : wrap64 (0 + 1) = 1 := by decide +kernel
            simp only [if_pos q]
            rw [if_neg (by omega), PFnBuild.spec_Push.j0, if_neg (by decide), PFnBuild.spec_Push.l0, if_pos (by decide), if_pos (by decide +kernel), s1, if_pos (by decide), if_pos (by simp), s2,
              PFnBuild.spec_Push.l0, if_pos (by decide), if_pos (by decide +kernel), s1, if_neg (by decide), if_pos (by simp; omega), Int.emod_eq_of_lt (a := (d.length : Int)) (by omega) (by omega)]
            rfl
          · have s1 : shl .i64 1 (wrap64 (77 - 76)) = 2 := by decide +kernel
            have s2 : wrap64 (0 + 1) = 1 := by decide +kernel
            have s3 : wrap64 (1 + 1) = 2 := by decide +kernel
            simp only [if_neg q]
            rw [if_neg (by omega), PFnBuild.spec_Push.j0, if_neg (by decide), PFnBuild.spec_Push.l0, if_pos (by decide), if_pos (by decide +kernel), s1, if_pos (by decide), if_pos (by simp), s2,
              PFnBuild.spec_Push.l0, if_pos (by decide), if_pos (by decide +kernel), s1, if_pos (by decide), if_pos (by simp), s3,
              PFnBuild.spec_Push.l0, if_pos (by decide), if_pos (by decide +kernel), s1, if_neg (by decide), if_pos (by simp; omega), Int.emod_eq_of_lt (a := (d.length : Int) / 256) (by omega) (by omega)]
            simp
theorem zero_f (d : List Int) : PFnBuild.laws_zero.f d = some (decide (d.length = 1 ∧ rd d 0 = 0)) := by
  unfold PFnBuild.laws_zero.f
  by_cases a : d.length = 1
  · rw [if_pos (by omega), if_pos (by omega)]
    by_cases b : rd d 0 = 0
    · simp [a, b]
    · simp [a, b]
  · rw [if_neg (by omega)]
    simp [a]
theorem fits_l0 (L : List PFnBuild.S31) (hl : L.length ≤ 2147483647) : ∀ (m i : Nat), L.length = i + m → ∃ r, PFnBuild.laws_zzFits18.l0 (m + 1) L L.length i = some r
  | 0, i, h => ⟨true, by rw [PFnBuild.laws_zzFits18.l0, if_neg (by omega)]⟩
  | m + 1, i, h => by
    have e : wrap64 ((i : Int) + 1) = ((i + 1 : Nat) : Int) := by rw [wrap64_id (by omega) (by omega)]; omega
    obtain ⟨r, hr⟩ := fits_l0 L hl m (i + 1) (by omega)
    rw [PFnBuild.laws_zzFits18.l0, if_pos (by omega), if_pos (by omega), if_pos (by omega), e, hr]
    have h19 : ∃ b, PFnBuild.laws_zzFits19.f (PFnBuild.rd_T31 L i).f0 (PFnBuild.rd_T31 L i).f1 (PFnBuild.rd_T31 L i).f2 = some b := by
      unfold PFnBuild.laws_zzFits19.f
      split <;> exact ⟨_, rfl⟩
    obtain ⟨b, hb⟩ := h19
    rw [hb, Option.bind_some]
    split <;> exact ⟨_, rfl⟩
theorem fits_f (L : List PFnBuild.S31) : ∃ k r, PFnBuild.laws_zzFits18.f k L = some r ∧ (r = true → L.length ≤ 2147483647) := by
  unfold PFnBuild.laws_zzFits18.f
  by_cases h : (L.length : Int) > 2147483647
  · exact ⟨0, false, by rw [if_pos h], by simp⟩
  · obtain ⟨r, hr⟩ := fits_l0 L (by omega) L.length 0 (by omega)
    exact ⟨_, r, by rw [if_neg h]; exact hr, fun _ => by omega⟩
end Go.Proofs.Ytabdmbnggkageaa.Bld
