/-
  The walk of laws.FnForms. Printed by wip/gen/formslaw.py.
-/
import Derived.Test.YtmebcbmnfnlihaaFormsPure
import Derived.Test.YtmebcbmnfnlihaaRow
import Derived.WalkSpells
namespace Go.Proofs.Ytmebcbmnfnlihaa.PFnForms
open Go.RowKit Go.Proofs.YtmebcbmnfnlihaaW.PrintWords Go.Proofs.YtmebcbmnfnlihaaW.PrintLast Go.Proofs.YtmebcbmnfnlihaaW.PrintMore
set_option linter.unusedVariables false


set_option maxHeartbeats 4000000 in
set_option maxRecDepth 100000 in
theorem walk_far (A : Option Addr) (c : Nat) (l : List Int) (w : World) (hs : Kd.V (Kd.int .u8) 5 w w.heap.size (fun _ => True) (.slice A l.length c) l)
    (v : Int) (p : List Int) (is x0 x1 y2 y3 : Bool) (hp : spec_Program.f 0 l = some (v, p, is)) (hl : decide ((2147483647 : Int) < (l.length : Int)) = false) (hn : ((l.length : Int) == 25) = false)
    (h1 : Forms.isIsPubKeyHash l = false) (s : Bool) (h2 : Forms.isIsScriptHash l = s) (h3 : Forms.isIsWitnessPubKeyHash l = (is && x0 && y2)) (h4 : Forms.isIsWitnessScriptHash l = (is && x0 && y3)) (h5 : Forms.isIsTaproot l = (is && x1 && y3))
    (e0 : (v == 0) = x0) (e1 : (v == 1) = x1) (e2 : ((p.length : Int) == 20) = y2) (e3 : ((p.length : Int) == 32) = y3) :
    Calls Try.prog 3 #[.slice A l.length c] w fun e w' => e = .returned (.bool true) ∧ Below w.heap.size w w' := by
  have HV := Lib.hid hs
  have HP := Lib.hid hp
  have HC := Lib.hid (Kd.V_reads' hs).2.1
  have hR := Lib.hid (show ∀ w', Below w.heap.size w w' → Kd.C (Kd.int .u8) w' A l.length l from fun w' hw => Kd.C_below (Kd.V_reads' hs).2.2 hw)
  have H1 := Lib.hid h1
  have H2 := Lib.hid h2
  have H3 := Lib.hid h3
  have H4 := Lib.hid h4
  have H5 := Lib.hid h5
  have HS := Lib.hid (pays_f l |>.trans (by rw [h2]))
  clear hs hp h1 h2 h3 h4 h5
  go_enter Try.func3, Try.ntmps3
  go_wp2_with (first
    | (go_at_call 11; refine (spec_Program.calls 0 (fun _ => True) _ c l v p is _ HV.out HP.out).mono ?_; rintro e w1 ⟨v1, rfl, hv1, hB1⟩; have HR1 := Lib.hid (hR.out _ hB1); have HB1 := Lib.hid hB1; have ⟨A1, c1, hv1e⟩ := Kd.V_slice hv1; subst hv1e; clear hv1 hB1)
    | (go_at_call 12; refine (Forms.IsPubKeyHashI_calls _ _ _ l _ HR1.out HC.out _ H1.out).mono ?_; rintro e w2 ⟨rfl, rfl⟩)
    | (go_at_call 13; refine (Forms.IsScriptHashI_calls _ _ _ l _ HR1.out HC.out _ H2.out).mono ?_; rintro e w3 ⟨rfl, rfl⟩)
    | (go_at_call 14; refine (spec_PaysScript.calls _ _ l _ _ HR1.out HC.out HS.out).mono ?_; rintro e w4 ⟨rfl, d4, rfl⟩)
    | (go_at_call 15; refine (Forms.IsWitnessPubKeyHashI_calls _ _ _ l _ (Kd.C_drewN HR1.out d4) HC.out _ H3.out).mono ?_; rintro e w5 ⟨rfl, rfl⟩)
    | (go_at_call 16; refine (Forms.IsWitnessScriptHashI_calls _ _ _ l _ (Kd.C_drewN HR1.out d4) HC.out _ H4.out).mono ?_; rintro e w6 ⟨rfl, rfl⟩)
    | (go_at_call 17; refine (Forms.IsTaprootI_calls _ _ _ l _ (Kd.C_drewN HR1.out d4) HC.out _ H5.out).mono ?_; rintro e w7 ⟨rfl, rfl⟩))
  all_goals
    go_ret
    exact ⟨by first | rfl | (simp; done) | (simp_all; done), by repeat (first | exact HB1.out | apply pw_below_drewN)⟩
set_option maxHeartbeats 4000000 in
set_option maxRecDepth 100000 in
theorem walk_near (A : Option Addr) (c : Nat) (l : List Int) (w : World) (hs : Kd.V (Kd.int .u8) 5 w w.heap.size (fun _ => True) (.slice A l.length c) l)
    (v : Int) (p : List Int) (is x0 x1 y2 y3 : Bool) (hp : spec_Program.f 0 l = some (v, p, is)) (hl : decide ((2147483647 : Int) < (l.length : Int)) = false) (hn : (l.length : Int) = 25) (k0 k1 k2 k3 k4 : Bool) (g0 : (rd l 0 == 118) = k0) (g1 : (rd l 1 == 169) = k1) (g2 : (rd l 2 == 20) = k2) (g3 : (rd l 23 == 136) = k3) (g4 : (rd l 24 == 172) = k4)
    (h1 : Forms.isIsPubKeyHash l = (k0 && k1 && k2 && k3 && k4)) (s : Bool) (h2 : Forms.isIsScriptHash l = s) (h3 : Forms.isIsWitnessPubKeyHash l = (is && x0 && y2)) (h4 : Forms.isIsWitnessScriptHash l = (is && x0 && y3)) (h5 : Forms.isIsTaproot l = (is && x1 && y3))
    (e0 : (v == 0) = x0) (e1 : (v == 1) = x1) (e2 : ((p.length : Int) == 20) = y2) (e3 : ((p.length : Int) == 32) = y3) :
    Calls Try.prog 3 #[.slice A l.length c] w fun e w' => e = .returned (.bool true) ∧ Below w.heap.size w w' := by
  have HV := Lib.hid hs
  have HP := Lib.hid hp
  have HC := Lib.hid (Kd.V_reads' hs).2.1
  have hR := Lib.hid (show ∀ w', Below w.heap.size w w' → Kd.C (Kd.int .u8) w' A l.length l from fun w' hw => Kd.C_below (Kd.V_reads' hs).2.2 hw)
  have H1 := Lib.hid h1
  have H2 := Lib.hid h2
  have H3 := Lib.hid h3
  have H4 := Lib.hid h4
  have H5 := Lib.hid h5
  have HS := Lib.hid (pays_f l |>.trans (by rw [h2]))
  have HX := (Kd.V_reads' hs).2.2
  obtain ⟨ad0, e'0, z0⟩ := Kd.at_int HX 0 (by omega) (by omega)
  cases e'0
  replace z0 : w.cell? ad0 = some (.int .u8 (rd l 0)) := z0
  generalize rd l 0 = q0 at z0 g0
  have b0 : (0 : Int) < (l.length : Int) := by rw [hn]; decide
  obtain ⟨ad1, e'1, z1⟩ := Kd.at_int HX 1 (by omega) (by omega)
  cases e'1
  replace z1 : w.cell? ⟨ad0.block, ad0.off + 1, none⟩ = some (.int .u8 (rd l 1)) := z1
  generalize rd l 1 = q1 at z1 g1
  have b1 : (1 : Int) < (l.length : Int) := by rw [hn]; decide
  obtain ⟨ad2, e'2, z2⟩ := Kd.at_int HX 2 (by omega) (by omega)
  cases e'2
  replace z2 : w.cell? ⟨ad0.block, ad0.off + 2, none⟩ = some (.int .u8 (rd l 2)) := z2
  generalize rd l 2 = q2 at z2 g2
  have b2 : (2 : Int) < (l.length : Int) := by rw [hn]; decide
  obtain ⟨ad3, e'3, z3⟩ := Kd.at_int HX 23 (by omega) (by omega)
  cases e'3
  replace z3 : w.cell? ⟨ad0.block, ad0.off + 23, none⟩ = some (.int .u8 (rd l 23)) := z3
  generalize rd l 23 = q3 at z3 g3
  have b3 : (23 : Int) < (l.length : Int) := by rw [hn]; decide
  obtain ⟨ad4, e'4, z4⟩ := Kd.at_int HX 24 (by omega) (by omega)
  cases e'4
  replace z4 : w.cell? ⟨ad0.block, ad0.off + 24, none⟩ = some (.int .u8 (rd l 24)) := z4
  generalize rd l 24 = q4 at z4 g4
  have b4 : (24 : Int) < (l.length : Int) := by rw [hn]; decide
  have hnb : ((l.length : Int) == 25) = true := beq_iff_eq.2 hn
  clear hn HX
  clear hs hp h1 h2 h3 h4 h5
  go_enter Try.func3, Try.ntmps3
  go_wp2_with (first
    | (go_at_call 11; refine (spec_Program.calls 0 (fun _ => True) _ c l v p is _ HV.out HP.out).mono ?_; rintro e w1 ⟨v1, rfl, hv1, hB1⟩; have HR1 := Lib.hid (hR.out _ hB1); have HB1 := Lib.hid hB1; have ⟨A1, c1, hv1e⟩ := Kd.V_slice hv1; subst hv1e; clear hv1 hB1)
    | (go_at_call 12; refine (Forms.IsPubKeyHashI_calls _ _ _ l _ HR1.out HC.out _ H1.out).mono ?_; rintro e w2 ⟨rfl, rfl⟩)
    | (go_at_call 13; refine (Forms.IsScriptHashI_calls _ _ _ l _ HR1.out HC.out _ H2.out).mono ?_; rintro e w3 ⟨rfl, rfl⟩)
    | (go_at_call 14; refine (spec_PaysScript.calls _ _ l _ _ HR1.out HC.out HS.out).mono ?_; rintro e w4 ⟨rfl, d4, rfl⟩)
    | (go_at_call 15; refine (Forms.IsWitnessPubKeyHashI_calls _ _ _ l _ (Kd.C_drewN HR1.out d4) HC.out _ H3.out).mono ?_; rintro e w5 ⟨rfl, rfl⟩)
    | (go_at_call 16; refine (Forms.IsWitnessScriptHashI_calls _ _ _ l _ (Kd.C_drewN HR1.out d4) HC.out _ H4.out).mono ?_; rintro e w6 ⟨rfl, rfl⟩)
    | (go_at_call 17; refine (Forms.IsTaprootI_calls _ _ _ l _ (Kd.C_drewN HR1.out d4) HC.out _ H5.out).mono ?_; rintro e w7 ⟨rfl, rfl⟩))
  all_goals
    go_ret
    exact ⟨by first | rfl | (simp; done) | (simp_all; done), by repeat (first | exact HB1.out | apply pw_below_drewN)⟩

theorem law_walk (A : Option Addr) (c : Nat) (l : List Int) (w : World) (hs : Kd.V (Kd.int .u8) 5 w w.heap.size (fun _ => True) (.slice A l.length c) l) (hb : Tok.Bytes l) :
    Calls Try.prog 3 #[.slice A l.length c] w fun e w' => e = .returned (.bool true) ∧ Below w.heap.size w w' := by
  by_cases hl : l.length ≤ 2147483647
  · obtain ⟨v, p, is, e, h3, h4, h5, _, _⟩ := forms_f 0 l hb hl
    by_cases hn : (l.length : Int) = 25
    · refine walk_near A c l w hs v p is _ _ _ _ e (decide_eq_false (by omega)) hn _ _ _ _ _ rfl rfl rfl rfl rfl ?_ _ rfl h3 h4 h5 rfl rfl rfl rfl
      unfold Forms.isIsPubKeyHash
      rw [Bool.eq_iff_iff]
      simp only [decide_eq_true_eq, Bool.and_eq_true, beq_iff_eq]
      omega
    · refine walk_far A c l w hs v p is _ _ _ _ e (decide_eq_false (by omega)) (beq_eq_false_iff_ne.2 hn) ?_ _ rfl h3 h4 h5 rfl rfl rfl rfl
      unfold Forms.isIsPubKeyHash
      exact decide_eq_false (by omega)
  · have hl2 : decide ((2147483647 : Int) < (l.length : Int)) = true := decide_eq_true (by omega)
    clear hl hs
    go_enter Try.func3, Try.ntmps3
    go_wp2
    go_ret
    exact ⟨rfl, Below.refl _ _⟩


theorem row_walk (a : Option Addr) (len cap : Nat) (z : List Int) (w : World) (h : Row.Arg .u8 w a len cap z) (_ : len * 1 ≤ 140737488351232) :
    Calls Try.prog 3 #[.slice a len cap] w fun e w' => e = .returned (.bool true) ∧ Below w.heap.size w w' := by
  obtain ⟨l, rfl, hv, hb⟩ := Row.arg_V h
  exact law_walk a cap l w hv hb

end Go.Proofs.Ytmebcbmnfnlihaa.PFnForms
