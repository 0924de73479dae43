/-
  impl.Build: a builder's script is that of its steps, if none of them is refused.
-/
import Derived.Test.YtabdmbnggkageaaBuilder3
import Derived.Test.YtabdmbnggkageaaPFnBuildx1
import Derived.Test.YtabdmbnggkageaaPFnBuildx2
import Derived.Test.YtabdmbnggkageaaTokPure
import Derived.Test.YtabdmbnggkageaaRow
import Derived.Test.YtabdmbnggkageaaOpen
namespace Go.Proofs.Ytabdmbnggkageaa.Bld
open Go.RowKit Go.Proofs.YtabdmbnggkageaaW.PrintWords Go.Proofs.YtabdmbnggkageaaW.PrintLast Go.Proofs.YtabdmbnggkageaaW.PrintMore Go.Proofs.Ytabdmbnggkageaa.Num Go.Proofs.Ytabdmbnggkageaa.PFnBuild
set_option linter.unusedSimpArgs false
set_option linter.unusedVariables false

/-- What a step adds; none: it is refused. -/
def stepB (s : S31) : Option (List Int) :=
  if s.f0 = 0 then if 0 ≤ s.f1 ∧ s.f1 ≤ 255 ∧ ¬ (1 ≤ s.f1 ∧ s.f1 ≤ 78) then some [s.f1] else none
  else if s.f0 = 1 then if s.f2.length ≤ 520 ∧ ¬ (s.f2.length = 1 ∧ rd s.f2 0 = 0) then some (pushB s.f2) else none
  else if s.f0 = 2 then if s.f1 ≠ -9223372036854775808 then some (pushB (numB s.f1)) else none
  else none
def allB : List S31 → Option (List Int)
  | [] => some []
  | s :: L => (stepB s).bind fun a => (allB L).map (a ++ ·)
/-- A step as it comes in. -/
def Good (s : S31) : Prop := Byte s.f2 ∧ (-9223372036854775808 ≤ s.f1 ∧ s.f1 < 9223372036854775808) ∧ (-9223372036854775808 ≤ s.f0 ∧ s.f0 < 9223372036854775808)

theorem came_dv {w wr : World} {g c : Nat} {v : Value} {l d : List Int} {A : Option Addr} (h : Bz w wr g v l) (hC : Kd.C (Kd.int .u8) w A d.length d) (hc : d.length ≤ c) : Dv wr g v A c d :=
  Kd.V_mk hc (Kd.F_mono (Kd.F_below (Kd.F_bound (Row.C_foot hC)) h.B) (fun k hk => ⟨by have := h.hg; have := hk.2; omega, fun e => by have := Kd.R_base h.R k e.symm; have := hk.2; omega⟩))
theorem copied_f (l : List Int) (h : l.length ≤ 2147483647) : impl_copied.f l = some l := by
  unfold impl_copied.f
  rw [Option.bind_some, if_pos (by simp only [List.length_nil]; omega)]
  rfl

set_option maxHeartbeats 8000000 in
set_option maxRecDepth 100000 in
theorem implBuild_calls (A : Option Addr) (c : Nat) (L : List S31) (w : World) (hC : Kd.C k31 w A L.length L) (hG : ∀ s ∈ L, Good s) (hlen : L.length ≤ 300) (tot : List Int) (hall : allB L = some tot) (ht : tot.length ≤ 10000) :
    Calls Try.prog 14 #[.slice A L.length c] w fun e w' => ∃ v', e = .returned (.tuple #[v', .bool true]) ∧ Kd.R (Kd.int .u8) 5 w' w.heap.size (fun _ => True) v' tot ∧ Below w.heap.size w w' := by
  have HC := Lib.hid hC
  have HG := Lib.hid hG
  have HLEN := Lib.hid hlen
  have HALL := Lib.hid hall
  have HT := Lib.hid ht
  have hu31 := Try.underlying31
  have hlm : L.length ≤ 9223372036854775807 := by omega
  clear hC hG hlen hall ht
  go_enter Try.func14, Try.ntmps14
  go_wp2_with (go_at_call 29; refine (new_calls _).mono ?_; rintro e w1 ⟨g, v, rfl, hz⟩; have HZ0 := Lib.hid hz; clear hz)
  go_loopg [5] (L.length + 1) (fun kq v5 w' => ∃ (i : Nat) (l rest : List Int) (v : Value), i ≤ L.length ∧ L.length < kq + i ∧ v5 = .int .i64 i ∧ Hid (allB (L.drop i) = some rest) ∧ Hid (l ++ rest = tot) ∧ Hid (Bz w w' g v l))
  case atStart => exact ⟨0, [], tot, v, Nat.zero_le _, by omega, rfl, Lib.hid (by rw [List.drop_zero]; exact HALL.out), Lib.hid rfl, HZ0⟩
  case round =>
    obtain ⟨i, l, rest, v, hi, hk, rfl, HA, HE, BZ⟩ := hrel
    cases gk with
    | zero => omega
    | succ k =>
      by_cases hlt : i < L.length
      · have hd : L.drop i = L[i] :: L.drop (i + 1) := List.drop_eq_getElem_cons hlt
        have ha := HA.out
        rw [hd] at ha
        obtain ⟨ad, A2, c2, e1, x0, x1, x2, hc2, hC2⟩ := at_T31 HC.out (i : Int) (by omega) (by omega)
        cases e1
        simp only [rd_T31, Int.toNat_natCast] at x0 x1 x2 hc2 hC2
        have hg : L.getD i z31 = L[i] := by simp [List.getD_eq_getElem?_getD, hlt]
        rw [hg] at x0 x1 x2 hc2 hC2
        have hgood := HG.out L[i] (List.getElem_mem hlt)
        obtain ⟨⟨f0, f1, f2⟩, hs⟩ : ∃ s, L[i] = s := ⟨_, rfl⟩
        rw [hs] at x0 x1 x2 hc2 hC2 ha hgood
        simp only at x0 x1 x2 hc2 hC2
        simp only [allB, Option.bind_eq_some_iff, Option.map_eq_some_iff] at ha
        obtain ⟨a, ha1, r2, ha2, rfl⟩ := ha
        have y0 := pw_cell_below BZ.out.B x0
        have y1 := pw_cell_below BZ.out.B x1
        have y2 := pw_cell_below BZ.out.B x2
        have DV := Lib.hid (came_dv BZ.out hC2 hc2)
        have HA2 := Lib.hid ha2
        have HE2 := Lib.hid (show (l ++ a) ++ r2 = tot by have := HE.out; simpa using this)
        have HLL := Lib.hid (show l.length + a.length ≤ 10000 by have h1 := congrArg List.length HE2.out; have h2 := HT.out; simp only [List.length_append] at h1; omega)
        have HGD := Lib.hid hgood
        have HST := Lib.hid ha1
        clear x0 x1 x2 hs hg hd ha1 ha2 hgood hC2 hc2 HA HE
        have hst := HST.out
        unfold stepB at hst
        simp only at hst
        by_cases k0 : f0 = 0
        · subst k0
          rw [if_pos rfl] at hst
          split at hst
          · rename_i hr
            injection hst with hst
            subst hst
            obtain ⟨b0, b1, _⟩ := hr
            have hw8 : IntKind.u8.wrap f1 = f1 := by rw [IntKind.wrap_u8, Int.emod_eq_of_lt (by omega) (by omega)]
            have HLL1 := Lib.hid (show l.length + 1 ≤ 10000 from HLL.out)
            clear HST b0 b1
            go_wp2_with (go_at_call 30; refine (addOp_calls w _ g v l _ (BZ.out.below (by repeat (first | exact Below.refl _ _ | apply below_alloc | apply pw_below_drewN | (refine below_set ?_ (Nat.le_refl _))))) HLL1.out).mono ?_; rintro e w2 ⟨rfl, v2, hz⟩; have HZ := Lib.hid hz; clear hz)
            go_roundg k
            case measure => omega
            case rel => exact ⟨i + 1, _, r2, v2, by omega, by omega, by first | rfl | (simp; done), HA2, HE2, HZ⟩
          · cases hst
        · rw [if_neg k0] at hst
          by_cases k1 : f0 = 1
          · subst k1
            rw [if_pos rfl] at hst
            split at hst
            · rename_i hr
              injection hst with hst
              subst hst
              have HOK := Lib.hid (show Okd f2 from ⟨hr.1, fun h1 => by
                have h2 := HGD.out.1
                have h3 : rd f2 0 ≠ 0 := fun h => hr.2 ⟨h1, h⟩
                obtain ⟨x, hx⟩ := List.length_eq_one_iff.1 h1
                rw [hx] at h2 h3 ⊢
                have h4 := h2 x (by simp)
                have e : rd [x] 0 = x := rfl
                rw [e] at h3 ⊢
                omega⟩)
              clear HST hr k0
              go_wp2_with (go_at_call 31; refine (add_calls w _ g v l _ _ f2 (BZ.out.below (by repeat (first | exact Below.refl _ _ | apply below_alloc | apply pw_below_drewN | (refine below_set ?_ (Nat.le_refl _))))) (DV.out.below (by repeat (first | exact Below.refl _ _ | apply below_alloc | apply pw_below_drewN | (refine below_set ?_ (Nat.le_refl _))))) HLL.out HOK.out).mono ?_; rintro e w2 ⟨rfl, v2, hz⟩; have HZ := Lib.hid hz; clear hz)
              go_roundg k
              case measure => omega
              case rel => exact ⟨i + 1, _, r2, v2, by omega, by omega, by first | rfl | (simp; done), HA2, HE2, HZ⟩
            · cases hst
          · rw [if_neg k1] at hst
            by_cases k2 : f0 = 2
            · subst k2
              rw [if_pos rfl] at hst
              split at hst
              · rename_i hr
                injection hst with hst
                subst hst
                have HN := Lib.hid (show -9223372036854775808 < f1 ∧ f1 < 9223372036854775808 from ⟨by have h := HGD.out.2.1.1; simp only at h; omega, HGD.out.2.1.2⟩)
                clear HST hr k0 k1
                go_wp2_with (go_at_call 32; refine (addInt_calls w _ g v l f1 (BZ.out.below (by repeat (first | exact Below.refl _ _ | apply below_alloc | apply pw_below_drewN | (refine below_set ?_ (Nat.le_refl _))))) HLL.out HN.out.1 HN.out.2).mono ?_; rintro e w2 ⟨rfl, v2, hz⟩; have HZ := Lib.hid hz; clear hz)
                go_roundg k
                case measure => omega
                case rel => exact ⟨i + 1, _, r2, v2, by omega, by omega, by first | rfl | (simp; done), HA2, HE2, HZ⟩
              · cases hst
            · rw [if_neg k2] at hst
              cases hst
      · obtain rfl : i = L.length := by omega
        have ha := HA.out
        rw [List.drop_length] at ha
        have e : l = tot := by
          simp only [allB, Option.some.injEq] at ha
          have := HE.out
          rw [← ha] at this
          simpa using this
        subst e
        obtain ⟨Av, cv, rfl⟩ := Kd.R_slice BZ.out.R
        have q62 : ∀ w : World, (binOp .eql 53 .nilIface .nilIface).run Try.prog w = .ok (.bool true) w := fun w => run_eql_nil_nil _ _ (by kernel_rfl)
        clear ha hlt HA HE
        go_upto_region 17 with (go_at_call 35; refine (script_calls w _ g _ l BZ.out).mono ?_; rintro e w2 ⟨rfl, ⟨m, rfl⟩⟩)
        have HBW := Lib.hid BZ.out.B
        have HRD := Lib.hid (Kd.R_reads' BZ.out.R)
        go_region_with (go_at_call 24; refine (impl_copied.calls _ _ l l _ (by repeat (first | exact HRD.out.2.2 | (with_reducible refine Kd.C_drewN ?_ _) | (with_reducible refine Kd.C_drew ?_) | exact Kd.C_drewN HRD.out.2.2 _)) HRD.out.2.1 (copied_f l (by have := HT.out; omega))).mono ?_; rintro e w5 ⟨v0, rfl, hr5, hB5⟩; have HR5 := Lib.hid hr5; have HB5 := Lib.hid hB5; clear hr5 hB5)
        all_goals go_wp2
        all_goals
          go_ret2
          exact ⟨_, rfl, Kd.R_lower HR5.out (by have := HBW.out.size; simpa using this), below_step (pw_below_drewN HBW.out _) HB5.out⟩
end Go.Proofs.Ytabdmbnggkageaa.Bld
