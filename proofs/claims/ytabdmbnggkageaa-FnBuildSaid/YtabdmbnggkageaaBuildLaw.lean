/-
  The law of a builder's steps: its walk. Printed by wip/gen/buildlaw.py.
-/
import Derived.Test.YtabdmbnggkageaaBuildPure
namespace Go.Proofs.Ytabdmbnggkageaa.Bld
open Go.RowKit Go.Proofs.YtabdmbnggkageaaW.PrintWords Go.Proofs.YtabdmbnggkageaaW.PrintLast Go.Proofs.YtabdmbnggkageaaW.PrintMore Go.Proofs.Ytabdmbnggkageaa.Num
set_option linter.unusedSimpArgs false
set_option linter.unusedVariables false

theorem push_len (d : List Int) (h : d.length ≤ 520) : (pushB d).length ≤ 523 := by
  unfold pushB
  repeat' split
  all_goals simp only [List.length_cons, List.length_nil]
  all_goals omega
abbrev St := PFnBuild.S31

set_option maxHeartbeats 16000000 in
set_option maxRecDepth 100000 in
theorem law_walk (A : Option Addr) (c : Nat) (L : List St) (w : World) (hC : Kd.C PFnBuild.k31 w A L.length L) (hcc : L.length ≤ c) (hG : ∀ s ∈ L, Good s) :
    Calls Try.prog 4 #[.slice A L.length c] w fun e w' => e = .returned (.bool true) ∧ Below w.heap.size w w' := by
  have HC := Lib.hid hC
  have HG := Lib.hid hG
  have HCC := Lib.hid hcc
  have hu31 := Try.underlying31
  obtain ⟨kf, r, hf, hr⟩ := fits_f L
  have HF := Lib.hid hf
  cases r with
  | false =>
    clear hC hG hcc hf hr
    go_enter Try.func4, Try.ntmps4
    go_wp2_with (go_at_call 11; refine (PFnBuild.laws_zzFits18.calls kf _ _ L false _ HC.out HCC.out HF.out).mono ?_; rintro e w1 ⟨rfl, hB⟩; have HB := Lib.hid hB; clear hB)
    go_ret
    exact ⟨rfl, HB.out⟩
  | true =>
    have hlm : L.length ≤ 2147483647 := hr rfl
    by_cases h3 : L.length ≤ 300
    · have c3 : decide ((300 : Int) < (L.length : Int)) = false := decide_eq_false (by omega)
      have c3' : decide (300 < L.length) = false := decide_eq_false (by omega)
      clear hC hG hcc hf hr
      go_enter Try.func4, Try.ntmps4
      go_wp2_with (go_at_call 11; refine (PFnBuild.laws_zzFits18.calls kf _ _ L true _ HC.out HCC.out HF.out).mono ?_; rintro e w1 ⟨rfl, hB⟩; have HB := Lib.hid hB; clear hB)
      go_loopg [3, 4] (L.length + 1) (fun kq v3 v4 w' => ∃ (i : Nat) (l : List Int), i ≤ L.length ∧ L.length < kq + i ∧ v4 = .int .i64 i ∧ Hid (Kd.R (Kd.int .u8) 5 w' w.heap.size (fun _ => True) v3 l) ∧ Hid (Below w.heap.size w w') ∧ Hid (l.length ≤ 600 * i) ∧ Hid (∀ rest, allB (L.drop i) = some rest → allB L = some (l ++ rest)))
      case atStart => exact ⟨0, [], Nat.zero_le _, by omega, rfl, Lib.hid (Kd.R_nil _ _ _ _ _), HB, Lib.hid (by simp), Lib.hid (fun rest h => by rw [List.drop_zero] at h; rw [h]; rfl)⟩
      case round =>
        clear HB
        obtain ⟨i, l, hi, hk, rfl, HO, HB, HLN0, HA⟩ := hrel
        have HLN := Lib.hid (show l.length ≤ 180000 by have := HLN0.out; omega)
        cases gk with
        | zero => omega
        | succ k =>
          by_cases hlt : i < L.length
          · have hd : L.drop i = L[i] :: L.drop (i + 1) := List.drop_eq_getElem_cons hlt
            have hA3 : ∀ rest, allB (L[i] :: L.drop (i + 1)) = some rest → allB L = some (l ++ rest) := fun rest h => HA.out rest (by rw [hd]; exact h)
            obtain ⟨ad, A2, c2, e1, x0, x1, x2, hc2, hC2⟩ := PFnBuild.at_T31 HC.out (i : Int) (by omega) (by omega)
            cases e1
            simp only [PFnBuild.rd_T31, Int.toNat_natCast] at x0 x1 x2 hc2 hC2
            have hg : L.getD i PFnBuild.z31 = L[i] := by simp [List.getD_eq_getElem?_getD, hlt]
            rw [hg] at x0 x1 x2 hc2 hC2
            have hgood := HG.out L[i] (List.getElem_mem hlt)
            obtain ⟨⟨f0, f1, f2⟩, hs⟩ : ∃ s, L[i] = s := ⟨_, rfl⟩
            rw [hs] at x0 x1 x2 hc2 hC2 hgood hA3
            simp only at x0 x1 x2 hc2 hC2
            have y0 := pw_cell_below HB.out x0
            have y1 := pw_cell_below HB.out x1
            have y2 := pw_cell_below HB.out x2
            have HDC := Lib.hid (Kd.C_below hC2 HB.out)
            have HDL := Lib.hid hc2
            have HGD := Lib.hid hgood
            have HA3 := Lib.hid hA3
            have lo : -9223372036854775808 ≤ f1 ∧ f1 < 9223372036854775808 := hgood.2.1
            have HLO := Lib.hid lo
            clear x0 x1 x2 hs hg hd hgood hC2 hc2 HA hA3 lo
            by_cases k0 : f0 = 0
            · subst k0
              by_cases a1 : f1 < 0
              · have q1 : decide (f1 < 0) = true := decide_eq_true a1
                clear a1
                go_wp2
                go_ret
                exact ⟨by first | rfl | (simp; done), (by repeat (first | exact HB.out | apply below_alloc | apply pw_below_drewN | (refine below_set ?_ HB.out.size)))⟩
              · have q1 : decide (f1 < 0) = false := decide_eq_false a1
                by_cases a2 : 255 < f1
                · have q2 : decide (255 < f1) = true := decide_eq_true a2
                  clear a1 a2
                  go_wp2
                  go_ret
                  exact ⟨by first | rfl | (simp; done), (by repeat (first | exact HB.out | apply below_alloc | apply pw_below_drewN | (refine below_set ?_ HB.out.size)))⟩
                · have q2 : decide (255 < f1) = false := decide_eq_false a2
                  by_cases a3 : 1 ≤ f1 ∧ f1 ≤ 78
                  · have q3 : decide (1 ≤ f1) = true := decide_eq_true a3.1
                    have q4 : decide (f1 ≤ 78) = true := decide_eq_true a3.2
                    clear a1 a2 a3
                    go_wp2
                    go_ret
                    exact ⟨by first | rfl | (simp; done), (by repeat (first | exact HB.out | apply below_alloc | apply pw_below_drewN | (refine below_set ?_ HB.out.size)))⟩
                  · have hw8 : IntKind.u8.wrap f1 = f1 := by rw [IntKind.wrap_u8, Int.emod_eq_of_lt (by omega) (by omega)]
                    have HA2 := Lib.hid (show ∀ rest, allB (L.drop (i + 1)) = some rest → allB L = some ((l ++ [f1]) ++ rest) from fun rest h => by
                      have h1 := HA3.out (f1 :: rest) (by simp only [allB, stepB, if_true, if_pos (show 0 ≤ f1 ∧ f1 ≤ 255 ∧ ¬ (1 ≤ f1 ∧ f1 ≤ 78) from ⟨by omega, by omega, a3⟩), Option.bind_some, h]; rfl)
                      rw [h1]; simp)
                    by_cases a4 : 1 ≤ f1
                    · have q3 : decide (1 ≤ f1) = true := decide_eq_true a4
                      have q4 : decide (f1 ≤ 78) = false := decide_eq_false (by omega)
                      clear a1 a2 a3 a4
                      go_wp2_with ((with_reducible refine gate_builtin (b := .append) (xs := #[.tmp 46, .tmp 50]) rfl ?_); at_builtin; go_must (refine Kd.R_append (Kd.int .u8) (w0 := w) w.heap.size rfl (.tmp 46) (.tmp 50) 22 5 (.int .u8 0) 1 rfl Try.underlying22 info_u8 rfl (by decide) (by omega) _ l f1 _ (fun _ => True) (fun _ => False) rfl ?aX ?aP (fun _ hk => hk.elim) (fun _ _ => trivial) ?aO ?aB ?aS ?aL ?_; (case aO => exact (by first | exact HO.out | exact Kd.R_below HO.out (by repeat (first | exact Below.refl _ _ | apply below_alloc | apply pw_below_drewN | (refine below_set ?_ (Nat.le_refl _)))))); (case aX => first | rfl | (simp [Act.eval, Act.put]; done)); (case aP => exact rfl); (case aB => exact (by repeat (first | exact HB.out | apply below_alloc | apply pw_below_drewN | (refine below_set ?_ HB.out.size)))); (case aS => exact (below_size (by repeat (first | exact HB.out | apply below_alloc | apply pw_below_drewN | (refine below_set ?_ HB.out.size))))); (case aL => have := HLN.out; omega); intro v_ w_ ho hb hg hat; have n0_ := Lib.hid hb; have n1_ := Lib.hid ho; clear HB HO; have HB := n0_; have HO := n1_; clear n0_ n1_ ho hb hg hat))
                      go_roundg k
                      case measure => omega
                      case rel => exact ⟨i + 1, l ++ [f1], by omega, by omega, by first | rfl | (simp; done), HO, HB, Lib.hid (by simp only [List.length_append, List.length_singleton]; have := HLN0.out; omega), HA2⟩
                    · have q3 : decide (1 ≤ f1) = false := decide_eq_false a4
                      clear a1 a2 a3 a4
                      go_wp2_with ((with_reducible refine gate_builtin (b := .append) (xs := #[.tmp 46, .tmp 50]) rfl ?_); at_builtin; go_must (refine Kd.R_append (Kd.int .u8) (w0 := w) w.heap.size rfl (.tmp 46) (.tmp 50) 22 5 (.int .u8 0) 1 rfl Try.underlying22 info_u8 rfl (by decide) (by omega) _ l f1 _ (fun _ => True) (fun _ => False) rfl ?aX ?aP (fun _ hk => hk.elim) (fun _ _ => trivial) ?aO ?aB ?aS ?aL ?_; (case aO => exact (by first | exact HO.out | exact Kd.R_below HO.out (by repeat (first | exact Below.refl _ _ | apply below_alloc | apply pw_below_drewN | (refine below_set ?_ (Nat.le_refl _)))))); (case aX => first | rfl | (simp [Act.eval, Act.put]; done)); (case aP => exact rfl); (case aB => exact (by repeat (first | exact HB.out | apply below_alloc | apply pw_below_drewN | (refine below_set ?_ HB.out.size)))); (case aS => exact (below_size (by repeat (first | exact HB.out | apply below_alloc | apply pw_below_drewN | (refine below_set ?_ HB.out.size))))); (case aL => have := HLN.out; omega); intro v_ w_ ho hb hg hat; have n0_ := Lib.hid hb; have n1_ := Lib.hid ho; clear HB HO; have HB := n0_; have HO := n1_; clear n0_ n1_ ho hb hg hat))
                      go_roundg k
                      case measure => omega
                      case rel => exact ⟨i + 1, l ++ [f1], by omega, by omega, by first | rfl | (simp; done), HO, HB, Lib.hid (by simp only [List.length_append, List.length_singleton]; have := HLN0.out; omega), HA2⟩
            · by_cases k1 : f0 = 1
              · subst k1
                by_cases a1 : 520 < f2.length
                · have q1 : decide ((520 : Int) < (f2.length : Int)) = true := decide_eq_true (by omega)
                  have q1' : decide (520 < f2.length) = true := decide_eq_true a1
                  clear a1 k0
                  go_wp2
                  go_ret
                  exact ⟨by first | rfl | (simp; done), (by repeat (first | exact HB.out | apply below_alloc | apply pw_below_drewN | (refine below_set ?_ HB.out.size)))⟩
                · have q1 : decide ((520 : Int) < (f2.length : Int)) = false := decide_eq_false (by omega)
                  have q1' : decide (520 < f2.length) = false := decide_eq_false a1
                  by_cases a2 : f2.length = 1 ∧ rd f2 0 = 0
                  · have HZF := Lib.hid (show PFnBuild.laws_zero.f f2 = some true by rw [zero_f]; simp [a2])
                    clear a1 a2 k0
                    go_wp2_with (go_at_call 12; refine (PFnBuild.laws_zero.calls _ _ f2 true _ (Kd.C_below HDC.out (by repeat (first | exact Below.refl _ _ | apply below_alloc | apply pw_below_drewN | (refine below_set ?_ (Nat.le_refl _))))) HDL.out HZF.out).mono ?_; rintro e w2 ⟨rfl, ⟨m2, rfl⟩⟩)
                    go_ret
                    exact ⟨by first | rfl | (simp; done), (by repeat (first | exact HB.out | apply below_alloc | apply pw_below_drewN | (refine below_set ?_ HB.out.size)))⟩
                  · have HZF := Lib.hid (show PFnBuild.laws_zero.f f2 = some false by rw [zero_f]; simp only [a2, decide_false])
                    have hok : Okd f2 := ⟨by omega, fun h1 => by
                      have h2 := HGD.out.1
                      have h3 : rd f2 0 ≠ 0 := fun h => a2 ⟨h1, h⟩
                      obtain ⟨x, hx⟩ := List.length_eq_one_iff.1 h1
                      simp only at h2
                      rw [hx] at h2 h3 ⊢
                      have h4 := h2 x (by simp)
                      have e : rd [x] 0 = x := rfl
                      rw [e] at h3 ⊢
                      omega⟩
                    obtain ⟨p, hp⟩ : ∃ p, pushB f2 = p := ⟨_, rfl⟩
                    have hpf := push_f f2 HGD.out.1 hok.1 hok.2
                    have hpl := push_len f2 hok.1
                    rw [hp] at hpf hpl
                    have HPF := Lib.hid hpf
                    have HPL := Lib.hid hpl
                    have HA2 := Lib.hid (show ∀ rest, allB (L.drop (i + 1)) = some rest → allB L = some ((l ++ p) ++ rest) from fun rest h => by
                      have h1 := HA3.out (p ++ rest) (by
                        have e : stepB ⟨1, f1, f2⟩ = some p := by
                          unfold stepB
                          dsimp only
                          rw [if_neg (by decide), if_pos rfl, if_pos ⟨by simpa using a1, a2⟩, hp]
                        simp only [allB, e, Option.bind_some, h]; rfl)
                      rw [h1]; simp)
                    clear a1 a2 k0 hok hp hpf hpl
                    go_wp2_with (first | (go_at_call 12; refine (PFnBuild.laws_zero.calls _ _ f2 false _ (Kd.C_below HDC.out (by repeat (first | exact Below.refl _ _ | apply below_alloc | apply pw_below_drewN | (refine below_set ?_ (Nat.le_refl _))))) HDL.out HZF.out).mono ?_; rintro e w2 ⟨rfl, ⟨m2, rfl⟩⟩) | (go_at_call 13; refine (PFnBuild.spec_Push.calls 6 _ _ f2 p _ (by first | exact (Kd.C_below HDC.out (by repeat (first | exact Below.refl _ _ | apply below_alloc | apply pw_below_drewN | (refine below_set ?_ (Nat.le_refl _))))) | exact Kd.C_drewN (Kd.C_below HDC.out (by repeat (first | exact Below.refl _ _ | apply below_alloc | apply pw_below_drewN | (refine below_set ?_ (Nat.le_refl _))))) _) HDL.out HPF.out).mono ?_; rintro e w2 ⟨v2, rfl, hR, hB⟩; obtain ⟨Ap, cp, rfl⟩ := Kd.R_slice hR; have HSR := Lib.hid hR; have n0_ := Lib.hid (below_step (by repeat (first | exact HB.out | apply below_alloc | apply pw_below_drewN | (refine below_set ?_ HB.out.size))) hB); have n1_ := Lib.hid (Kd.R_below (by first | exact HO.out | exact Kd.R_below HO.out (by repeat (first | exact Below.refl _ _ | apply below_alloc | apply pw_below_drewN | (refine below_set ?_ (Nat.le_refl _))))) hB); clear HB HO; have HB := n0_; have HO := n1_; clear n0_ n1_ hR hB) | ((with_reducible refine gate_builtin (b := .append) (xs := #[.tmp 63, .tmp 66]) rfl ?_); at_builtin; go_must (refine Kd.R_append_rows (Kd.int .u8) (w0 := w) w.heap.size rfl (.tmp 63) (.tmp 66) 22 5 (.int .u8 0) 1 rfl Try.underlying22 info_u8 rfl (by decide) (by omega) _ l p _ _ _ (fun _ => True) (fun _ => False) rfl rfl ?aO ?aR (fun _ _ h => h) (fun _ h => h.elim) (fun _ _ => trivial) ?aB ?aS ?aL ?_; (case aO => exact HO.out); (case aR => exact (Kd.R_reads' HSR.out).2.2); (case aB => exact HB.out); (case aS => exact (below_size HB.out)); (case aL => have := HLN.out; have := HPL.out; omega); intro v_ w_ ho hb hg hat; have n0_ := Lib.hid hb; have n1_ := Lib.hid ho; clear HB HO; have HB := n0_; have HO := n1_; clear n0_ n1_ ho hb hg hat)))
                    go_roundg k
                    case measure => omega
                    case rel => exact ⟨i + 1, l ++ p, by omega, by omega, by first | rfl | (simp; done), HO, HB, Lib.hid (by simp only [List.length_append]; have := HLN0.out; have := HPL.out; omega), HA2⟩
              · by_cases k2 : f0 = 2
                · subst k2
                  by_cases a1 : f1 = -9223372036854775808
                  · have q1 : (f1 == -9223372036854775808) = true := beq_iff_eq.2 a1
                    clear a1 k0 k1
                    go_wp2
                    go_ret
                    exact ⟨by first | rfl | (simp; done), (by repeat (first | exact HB.out | apply below_alloc | apply pw_below_drewN | (refine below_set ?_ HB.out.size)))⟩
                  · have q1 : (f1 == -9223372036854775808) = false := beq_eq_false_iff_ne.2 a1
                    have b1 : -9223372036854775808 < f1 := by have := HLO.out.1; omega
                    have b2 := HLO.out.2
                    have hok := numB_okd f1 b1 b2
                    obtain ⟨nb, hnb⟩ : ∃ p, numB f1 = p := ⟨_, rfl⟩
                    have hnf := spec_f f1 b1 b2
                    have hby := (numB_facts f1 b1 b2).2.2.1
                    rw [hnb] at hnf hok hby
                    obtain ⟨p, hp⟩ : ∃ p, pushB nb = p := ⟨_, rfl⟩
                    have hpf := push_f nb hby hok.1 hok.2
                    have hpl := push_len nb hok.1
                    rw [hp] at hpf hpl
                    have HPF := Lib.hid hpf
                    have HPL := Lib.hid hpl
                    have HNB := Lib.hid hnf
                    have HA2 := Lib.hid (show ∀ rest, allB (L.drop (i + 1)) = some rest → allB L = some ((l ++ p) ++ rest) from fun rest h => by
                      have h1 := HA3.out (p ++ rest) (by
                        have e : stepB ⟨2, f1, f2⟩ = some p := by
                          unfold stepB
                          dsimp only
                          rw [if_neg (by decide), if_neg (by decide), if_pos rfl, if_pos a1, hnb, hp]
                        simp only [allB, e, Option.bind_some, h]; rfl)
                      rw [h1]; simp)
                    clear a1 k0 k1 hok hp hpf hpl hnb hnf hby b1 b2
                    go_wp2_with (first | (go_at_call 9; refine (PFnBuild.spec_NumberBytes.calls 10 f1 nb _ HNB.out).mono ?_; rintro e w2 ⟨v2, rfl, hR, hB⟩; obtain ⟨An, cn, rfl⟩ := Kd.R_slice hR; have HNR := Lib.hid hR; have n0_ := Lib.hid (below_step (by repeat (first | exact HB.out | apply below_alloc | apply pw_below_drewN | (refine below_set ?_ HB.out.size))) hB); have n1_ := Lib.hid (Kd.R_below (by first | exact HO.out | exact Kd.R_below HO.out (by repeat (first | exact Below.refl _ _ | apply below_alloc | apply pw_below_drewN | (refine below_set ?_ (Nat.le_refl _))))) hB); clear HB HO; have HB := n0_; have HO := n1_; clear n0_ n1_ hR hB) | (go_at_call 13; refine (PFnBuild.spec_Push.calls 6 _ _ nb p _ (Kd.R_reads' HNR.out).2.2 (Kd.R_reads' HNR.out).2.1 HPF.out).mono ?_; rintro e w2 ⟨v2, rfl, hR, hB⟩; obtain ⟨Ap, cp, rfl⟩ := Kd.R_slice hR; have HSR := Lib.hid hR; have n0_ := Lib.hid (below_step (by repeat (first | exact HB.out | apply below_alloc | apply pw_below_drewN | (refine below_set ?_ HB.out.size))) hB); have n1_ := Lib.hid (Kd.R_below (by first | exact HO.out | exact Kd.R_below HO.out (by repeat (first | exact Below.refl _ _ | apply below_alloc | apply pw_below_drewN | (refine below_set ?_ (Nat.le_refl _))))) hB); clear HB HO; have HB := n0_; have HO := n1_; clear n0_ n1_ hR hB) | ((with_reducible refine gate_builtin (b := .append) (xs := #[.tmp 73, .tmp 77]) rfl ?_); at_builtin; go_must (refine Kd.R_append_rows (Kd.int .u8) (w0 := w) w.heap.size rfl (.tmp 73) (.tmp 77) 22 5 (.int .u8 0) 1 rfl Try.underlying22 info_u8 rfl (by decide) (by omega) _ l p _ _ _ (fun _ => True) (fun _ => False) rfl rfl ?aO ?aR (fun _ _ h => h) (fun _ h => h.elim) (fun _ _ => trivial) ?aB ?aS ?aL ?_; (case aO => exact HO.out); (case aR => exact (Kd.R_reads' HSR.out).2.2); (case aB => exact HB.out); (case aS => exact (below_size HB.out)); (case aL => have := HLN.out; have := HPL.out; omega); intro v_ w_ ho hb hg hat; have n0_ := Lib.hid hb; have n1_ := Lib.hid ho; clear HB HO; have HB := n0_; have HO := n1_; clear n0_ n1_ ho hb hg hat)))
                    go_roundg k
                    case measure => omega
                    case rel => exact ⟨i + 1, l ++ p, by omega, by omega, by first | rfl | (simp; done), HO, HB, Lib.hid (by simp only [List.length_append]; have := HLN0.out; have := HPL.out; omega), HA2⟩
                · have q0 : (f0 == 0) = false := beq_eq_false_iff_ne.2 k0
                  have q1 : (f0 == 1) = false := beq_eq_false_iff_ne.2 k1
                  have q2 : (f0 == 2) = false := beq_eq_false_iff_ne.2 k2
                  clear k0 k1 k2
                  go_wp2
                  go_ret
                  exact ⟨by first | rfl | (simp; done), (by repeat (first | exact HB.out | apply below_alloc | apply pw_below_drewN | (refine below_set ?_ HB.out.size)))⟩
          · obtain rfl : i = L.length := by omega
            have hall := HA.out [] (by rw [List.drop_length]; rfl)
            rw [List.append_nil] at hall
            obtain ⟨Aw, cw, rfl⟩ := Kd.R_slice HO.out
            have HALL := Lib.hid hall
            by_cases ht : l.length ≤ 10000
            · have q1 : decide ((10000 : Int) < (l.length : Int)) = false := decide_eq_false (by omega)
              have q1' : decide (10000 < l.length) = false := decide_eq_false (by omega)
              have HT := Lib.hid ht
              have HSM := Lib.hid (same_self l (by omega))
              have H3 := Lib.hid h3
              clear hall ht hlt
              go_wp2_with (first
                | (go_at_call 14; refine (implBuild_calls A c L _ (Kd.C_below HC.out HB.out) HG.out H3.out l HALL.out HT.out).mono ?_; rintro e w2 ⟨v2, rfl, hR, hB⟩; obtain ⟨Ab, cb, rfl⟩ := Kd.R_slice hR; have HBR := Lib.hid hR; have n0_ := Lib.hid (below_step HB.out hB); have n1_ := Lib.hid (Kd.R_below HO.out hB); clear HB HO; have HB := n0_; have HO := n1_; clear n0_ n1_ hR hB)
                | (go_at_call 8; refine (PFnBuild.laws_same.calls (l.length + 1) _ _ l _ _ l true _ (Kd.R_reads' HBR.out).2.2 (Kd.R_reads' HBR.out).2.1 (Kd.R_reads' HO.out).2.2 (Kd.R_reads' HO.out).2.1 HSM.out).mono ?_; rintro e w3 ⟨rfl, ⟨m, rfl⟩⟩))
              go_ret
              exact ⟨by first | rfl | (simp; done), pw_below_drewN HB.out _⟩
            · have q1 : decide ((10000 : Int) < (l.length : Int)) = true := decide_eq_true (by omega)
              have q1' : decide (10000 < l.length) = true := decide_eq_true (by omega)
              clear hall ht hlt
              go_wp2
              go_ret
              exact ⟨rfl, HB.out⟩
    · have c3 : decide ((300 : Int) < (L.length : Int)) = true := decide_eq_true (by omega)
      have c3' : decide (300 < L.length) = true := decide_eq_true (by omega)
      clear hC hG hcc hf hr
      go_enter Try.func4, Try.ntmps4
      go_wp2_with (go_at_call 11; refine (PFnBuild.laws_zzFits18.calls kf _ _ L true _ HC.out HCC.out HF.out).mono ?_; rintro e w1 ⟨rfl, hB⟩; have HB := Lib.hid hB; clear hB)
      go_ret
      exact ⟨rfl, HB.out⟩
theorem wf_i64 {n : Int} (h : (Lit.int .i64 n).wf = true) : -9223372036854775808 ≤ n ∧ n < 9223372036854775808 := by
  simp [Lit.wf, IntKind.min, IntKind.max, IntKind.signed, IntKind.bits] at h
  omega
theorem wf_u8 {n : Int} (h : (Lit.int .u8 n).wf = true) : 0 ≤ n ∧ n < 256 := by
  simp [Lit.wf, IntKind.min, IntKind.max, IntKind.signed, IntKind.bits] at h
  omega
theorem opens_bytes : Open.Opens Try.prog 22 (Kd.slice 5 (Kd.int .u8)) (fun xs => ∀ x ∈ xs, (Lit.int .u8 x).wf = true) :=
  Open.opens_slice (Open.opens_int Try.underlying5 (by kernel_rfl)) Try.underlying22 (by kernel_rfl)
set_option maxRecDepth 100000 in
theorem opens_step : Open.Opens Try.prog 31 PFnBuild.k31 Good :=
  Open.opens_imp (Open.opens_struct (f := fun x : St => (x.f0, x.f1, x.f2)) (g := fun y => ⟨y.1, y.2.1, y.2.2⟩) (fun _ => rfl)
    (Open.opensF_cons (Open.opens_int Try.underlying3 (by kernel_rfl)) rfl (Open.opensF_cons (Open.opens_int Try.underlying2 (by kernel_rfl)) rfl (Open.opensF_one opens_bytes rfl)))
    Try.underlying31 (by kernel_rfl)) (fun a h => ⟨fun x hx => wf_u8 (h.2.2 x hx), wf_i64 h.2.1, wf_i64 h.1⟩)
theorem opens_steps : Open.Opens Try.prog 28 (Kd.slice 31 PFnBuild.k31) (fun xs => ∀ x ∈ xs, Good x) :=
  Open.opens_slice opens_step Try.underlying28 (by kernel_rfl)
theorem row_walk (a : Option Addr) (len cap : Nat) (L : List St) (w : World) (h : len = L.length ∧ L.length ≤ cap ∧ Kd.C PFnBuild.k31 w a L.length L ∧ ∀ x ∈ L, Good x) :
    Calls Try.prog 4 #[.slice a len cap] w fun e w' => e = .returned (.bool true) ∧ Below w.heap.size w w' := by
  obtain ⟨rfl, h1, h2, h3⟩ := h
  exact law_walk a cap L w h2 h1 h3
end Go.Proofs.Ytabdmbnggkageaa.Bld
