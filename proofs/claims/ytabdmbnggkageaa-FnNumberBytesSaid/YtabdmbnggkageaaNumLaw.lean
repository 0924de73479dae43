/-
  The law of a number's bytes: its walk, over the contracts and the reference's plain function.
-/
import Derived.Test.YtabdmbnggkageaaNumRead
namespace Go.Proofs.Ytabdmbnggkageaa.Num
open Go.RowKit Go.Proofs.YtabdmbnggkageaaW.PrintWords Go.Proofs.YtabdmbnggkageaaW.PrintLast Go.Proofs.YtabdmbnggkageaaW.PrintMore
set_option linter.unusedSimpArgs false
set_option linter.unusedVariables false

theorem same_l0 (l : List Int) (hl : l.length ≤ 2147483647) : ∀ (m i : Nat), l.length = i + m → PFnNumberBytes.laws_same.l0 (m + 1) l l i = some true
  | 0, i, h => by rw [PFnNumberBytes.laws_same.l0, if_neg (by omega)]
  | m + 1, i, h => by
    have e : wrap64 ((i : Int) + 1) = ((i + 1 : Nat) : Int) := by rw [wrap64_id (by omega) (by omega)]; omega
    rw [PFnNumberBytes.laws_same.l0, if_pos (by omega), if_pos (by omega), if_pos (by omega), if_pos rfl, e]
    exact same_l0 l hl m (i + 1) (by omega)
theorem same_self (l : List Int) (hl : l.length ≤ 2147483647) : PFnNumberBytes.laws_same.f (l.length + 1) l l = some true := by
  unfold PFnNumberBytes.laws_same.f
  rw [if_pos rfl]
  exact same_l0 l hl l.length 0 (by omega)

theorem spec_end (n : Int) (k : Nat) (l : List Int) (hne : l ≠ []) (hb : Byte l) (hl : l.length ≤ 8) :
    PFnNumberBytes.spec_NumberBytes.l0 (k + 1) n 0 l = some (signB (decide (n < 0)) l) := by
  obtain ⟨i, x, rfl, _⟩ := snoc_of hne
  have hx := hb x (by simp)
  simp only [List.length_append, List.length_singleton] at hl
  have e1 : wrap64 (((i ++ [x]).length : Int) - 1) = (i.length : Int) := by
    rw [wrap64_id (by simp only [List.length_append, List.length_singleton]; omega) (by simp only [List.length_append, List.length_singleton]; omega)]; simp
  have e2 : rd (i ++ [x]) (i.length : Int) = x := by simp [rd, List.getD_eq_getElem?_getD]
  have e3 : wrap64 (((i ++ [x] ++ [0]).length : Int) - 1) = ((i.length + 1 : Nat) : Int) := by
    rw [wrap64_id (by simp; omega) (by simp; omega)]; simp; omega
  rw [PFnNumberBytes.spec_NumberBytes.l0, if_neg (by decide), e1, if_pos (by omega), if_pos (by simp only [List.length_append, List.length_singleton]; omega), e2, signB_snoc]
  by_cases h : 128 ≤ x
  · rw [if_pos h, if_pos h, if_pos (by simp; omega), Option.bind_some, e3]
    by_cases hn : n < 0
    · rw [if_pos hn, if_pos (by omega), if_pos (by simp only [List.length_append, List.length_singleton]; omega)]
      have e4 : rd (i ++ [x] ++ [0]) ((i.length + 1 : Nat) : Int) = 0 := by simp [rd, List.getD_eq_getElem?_getD]
      rw [e4, Int.toNat_natCast]
      simp [hn]
    · rw [if_neg hn]
      simp [hn]
  · rw [if_neg h, if_neg h]
    by_cases hn : n < 0
    · rw [if_pos hn, Int.toNat_natCast, Int.emod_eq_of_lt (by omega) (by omega)]
      simp [hn]
    · rw [if_neg hn]
      simp [hn]
theorem spec_l0 (n : Int) : ∀ (k q : Nat) (l : List Int), (digs q).length < k → (q = 0 → l ≠ []) → Byte l → l.length + (digs q).length ≤ 8 →
    PFnNumberBytes.spec_NumberBytes.l0 k n q l = some (signB (decide (n < 0)) (l ++ digs q))
  | 0, q, l, hk, _, _, _ => by omega
  | k + 1, q, l, hk, hz, hb, hl => by
    by_cases hq : q = 0
    · subst hq
      rw [digs_zero, List.append_nil]
      exact spec_end n k l (hz rfl) hb (by omega)
    · rw [digs_pos hq] at hk hl ⊢
      simp only [List.length_cons] at hk hl
      rw [PFnNumberBytes.spec_NumberBytes.l0, if_pos (by omega), if_pos (by omega)]
      have e1 : (q : Int) / 256 = ((q / 256 : Nat) : Int) := by omega
      have e2 : (q : Int) % 256 = ((q % 256 : Nat) : Int) := by omega
      rw [e1, e2, spec_l0 n k (q / 256) (l ++ [((q % 256 : Nat) : Int)]) (by omega) (by simp) (fun z hz => ?_) (by simp; omega)]
      · simp
      · rcases List.mem_append.1 hz with hz | hz
        · exact hb z hz
        · rw [List.mem_singleton.1 hz]; omega
theorem spec_f (n : Int) (h1 : -9223372036854775808 < n) (h2 : n < 9223372036854775808) : PFnNumberBytes.spec_NumberBytes.f 10 n = some (numB n) := by
  unfold PFnNumberBytes.spec_NumberBytes.f numB
  by_cases h0 : n = 0
  · rw [if_pos h0, if_pos h0]
  · rw [if_neg h0, if_neg h0]
    have hlen : (digs n.natAbs).length ≤ 8 := digs_len 8 _ (by simp; omega)
    have e : (if n < 0 then PFnNumberBytes.spec_NumberBytes.j0 10 n (IntKind.u64.wrap (-(IntKind.u64.wrap n))) else PFnNumberBytes.spec_NumberBytes.j0 10 n (IntKind.u64.wrap n)) =
        PFnNumberBytes.spec_NumberBytes.j0 10 n ((n.natAbs : Nat) : Int) := by
      by_cases hn : n < 0
      · rw [if_pos hn]
        congr 1
        simp only [IntKind.wrap_u64]
        omega
      · rw [if_neg hn]
        congr 1
        simp only [IntKind.wrap_u64]
        omega
    rw [e, PFnNumberBytes.spec_NumberBytes.j0, spec_l0 n 9 _ [] (by omega) (by omega) (fun z hz => by cases hz) (by simpa using hlen)]
    rfl

set_option maxHeartbeats 8000000 in
set_option maxRecDepth 100000 in
theorem law_walk (n : Int) (w : World) (h1 : -9223372036854775808 < n) (h2 : n < 9223372036854775808) (hmin : (n == -9223372036854775808) = false) :
    Calls Try.prog 3 #[.int .i64 n] w fun e w' => e = .returned (.bool true) ∧ Below w.heap.size w w' := by
  obtain ⟨hv, hs, hb, hl⟩ := numB_facts n h1 h2
  have H1 := Lib.hid (implBytes_calls n w h1 h2)
  have H2 := Lib.hid (spec_f n h1 h2)
  have HRB := Lib.hid (show -9223372036854775808 < n ∧ n < 9223372036854775808 from ⟨h1, h2⟩)
  have HV := Lib.hid hv
  have HS := Lib.hid hs
  have HY := Lib.hid hb
  have HM := Lib.hid hmin
  clear hmin h1 h2 hv hs hb
  obtain ⟨l, hle⟩ : ∃ l, numB n = l := ⟨_, rfl⟩
  rw [hle] at H1 H2 HV HS HY hl
  have HSM := Lib.hid (same_self l (by omega))
  clear hle
  have c9 : decide ((9 : Int) < (l.length : Int)) = false := decide_eq_false (by omega)
  have c9' : decide (9 < l.length) = false := decide_eq_false (by omega)
  have HL := Lib.hid hl
  clear hl
  by_cases h8 : l.length ≤ 8
  · have c8 : decide ((8 : Int) < (l.length : Int)) = false := decide_eq_false (by omega)
    have c8' : decide (8 < l.length) = false := decide_eq_false (by omega)
    have H8 := Lib.hid h8
    clear h8
    have hmin := HM.out
    go_enter Try.func3, Try.ntmps3
    go_wp2_with (first
      | (go_at_call 7; refine H1.out.mono ?_; rintro e w1 ⟨v, rfl, hR, hB⟩; obtain ⟨Ad, cd, rfl⟩ := Kd.R_slice hR; have HRR := Lib.hid hR; have HB := Lib.hid hB; clear hR hB)
      | (go_at_call 9; refine (PFnNumberBytes.spec_NumberBytes.calls 10 n l _ H2.out).mono ?_; rintro e w2 ⟨v2, rfl, hR, hB⟩; obtain ⟨Ae, ce, rfl⟩ := Kd.R_slice hR; have HR2 := Lib.hid hR; have HB2 := Lib.hid (below_step HB.out hB); have HR1 := Lib.hid (Kd.R_below HRR.out hB); clear hR hB)
      | (go_at_call 8; refine (PFnNumberBytes.laws_same.calls (l.length + 1) _ _ l _ _ l true _ (Kd.R_reads' HR1.out).2.2 (Kd.R_reads' HR1.out).2.1 (Kd.R_reads' HR2.out).2.2 (Kd.R_reads' HR2.out).2.1 HSM.out).mono ?_; rintro e w3 ⟨rfl, ⟨m, rfl⟩⟩)
      | (go_at_call 10; refine (implNumber_calls _ _ l _ (Kd.C_drewN (Kd.R_reads' HR1.out).2.2 _) (Kd.R_reads' HR1.out).2.1 HY.out H8.out HS.out n HV.out HRB.out).mono ?_; rintro e w4 ⟨rfl, hB⟩; have HB4 := Lib.hid (below_step (pw_below_drewN HB2.out m) hB); clear hB))
    go_ret
    exact ⟨by first | rfl | (simp; done), HB4.out⟩
  · have c8 : decide ((8 : Int) < (l.length : Int)) = true := decide_eq_true (by omega)
    have c8' : decide (8 < l.length) = true := decide_eq_true (by omega)
    clear h8
    have hmin := HM.out
    go_enter Try.func3, Try.ntmps3
    go_wp2_with (first
      | (go_at_call 7; refine H1.out.mono ?_; rintro e w1 ⟨v, rfl, hR, hB⟩; obtain ⟨Ad, cd, rfl⟩ := Kd.R_slice hR; have HRR := Lib.hid hR; have HB := Lib.hid hB; clear hR hB)
      | (go_at_call 9; refine (PFnNumberBytes.spec_NumberBytes.calls 10 n l _ H2.out).mono ?_; rintro e w2 ⟨v2, rfl, hR, hB⟩; obtain ⟨Ae, ce, rfl⟩ := Kd.R_slice hR; have HR2 := Lib.hid hR; have HB2 := Lib.hid (below_step HB.out hB); have HR1 := Lib.hid (Kd.R_below HRR.out hB); clear hR hB)
      | (go_at_call 8; refine (PFnNumberBytes.laws_same.calls (l.length + 1) _ _ l _ _ l true _ (Kd.R_reads' HR1.out).2.2 (Kd.R_reads' HR1.out).2.1 (Kd.R_reads' HR2.out).2.2 (Kd.R_reads' HR2.out).2.1 HSM.out).mono ?_; rintro e w3 ⟨rfl, ⟨m, rfl⟩⟩)
      | (go_at_call 10; refine (implNumber_calls _ _ l _ (Kd.C_drewN (Kd.R_reads' HR1.out).2.2 _) (Kd.R_reads' HR1.out).2.1 HY.out (by assumption) HS.out n HV.out HRB.out).mono ?_; rintro e w4 ⟨rfl, hB⟩; have HB4 := Lib.hid (below_step (pw_below_drewN HB2.out m) hB); clear hB))
    go_ret
    exact ⟨rfl, pw_below_drewN HB2.out _⟩
set_option maxRecDepth 100000 in
theorem min_walk (w : World) : Calls Try.prog 3 #[.int .i64 (-9223372036854775808)] w fun e w' => e = .returned (.bool true) ∧ Below w.heap.size w w' := by
  go_enter Try.func3, Try.ntmps3
  go_wp2_with fail
  go_ret
  exact ⟨rfl, Below.refl _ _⟩
theorem row_walk (n : Int) (w : World) (hw : (Lit.int .i64 n).wf = true) :
    Calls Try.prog 3 #[.int .i64 n] w fun e w' => e = .returned (.bool true) ∧ Below w.heap.size w w' := by
  have h : -9223372036854775808 ≤ n ∧ n ≤ 9223372036854775807 := by
    simp [Lit.wf, IntKind.min, IntKind.max, IntKind.signed, IntKind.bits] at hw
    exact hw
  by_cases h0 : n = -9223372036854775808
  · rw [h0]; exact min_walk w
  · exact law_walk n w (by omega) (by omega) (beq_eq_false_iff_ne.2 h0)
end Go.Proofs.Ytabdmbnggkageaa.Num
