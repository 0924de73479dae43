/-
  The walk of laws.FnClass.
-/
import Derived.Test.YtafpmdmmeohmfaaClForm
import Derived.Test.YtafpmdmmeohmfaaRow
namespace Go.Proofs.Ytafpmdmmeohmfaa.PFnClass
open Go.RowKit Go.Proofs.YtafpmdmmeohmfaaW.PrintWords Go.Proofs.YtafpmdmmeohmfaaW.PrintLast Go.Proofs.YtafpmdmmeohmfaaW.PrintMore
set_option linter.unusedVariables false
set_option linter.unusedSimpArgs false

set_option maxHeartbeats 4000000 in
set_option maxRecDepth 100000 in
theorem law_near (A : Option Addr) (c : Nat) (l : List Int) (w : World) (hs : Kd.V (Kd.int .u8) 5 w w.heap.size (fun _ => True) (.slice A l.length c) l) (hb : Tok.Bytes l) (hl : l.length ≤ 100000) :
    Calls Try.prog 4 #[.slice A l.length c] w fun e w' => e = .returned (.bool true) ∧ Below w.heap.size w w' := by
  obtain ⟨h, r, hh, hr, he⟩ := class_f l hb hl 100010 (Nat.le_refl _)
  have HC := Lib.hid (Kd.V_reads' hs).2.1
  have hR := Lib.hid (show ∀ w', Below w.heap.size w w' → Kd.C (Kd.int .u8) w' A l.length l from fun w' hw => Kd.C_below (Kd.V_reads' hs).2.2 hw)
  have HI := Lib.hid (fun W (hB : Below w.heap.size w W) => Forms.implClass_calls A c l W (Kd.V_below hs hB) hb (by omega) _ rfl)
  have HH := Lib.hid hh
  have HR := Lib.hid hr
  have g1 : decide ((2147483647 : Int) < (l.length : Int)) = false := decide_eq_false (by omega)
  have g2 : decide ((100000 : Int) < (l.length : Int)) = false := decide_eq_false (by omega)
  have HB0 := Lib.hid (Below.refl w.heap.size w)
  clear hs hb hl hh hr
  cases h with
  | true =>
    clear he
    go_enter Try.func4, Try.ntmps4
    go_wp2_with (go_at_call 13; (with_reducible refine (laws_hybrid.calls 100010 _ _ l _ _ (hR.out _ HB0.out) HC.out HH.out).mono ?_); rintro e w1 ⟨rfl, hB1⟩; have HB1 := Lib.hid (below_step HB0.out hB1); clear hB1)
    go_ret
    exact ⟨rfl, HB1.out⟩
  | false =>
    by_cases h10 : r = 10
    · subst h10
      clear he
      go_enter Try.func4, Try.ntmps4
      go_wp2_with (first
        | (go_at_call 13; (with_reducible refine (laws_hybrid.calls 100010 _ _ l _ _ (hR.out _ HB0.out) HC.out HH.out).mono ?_); rintro e w1 ⟨rfl, hB1⟩; have HB1 := Lib.hid (below_step HB0.out hB1); clear hB1)
        | (go_at_call 14; (with_reducible refine (laws_class.calls 100010 _ _ l _ _ (hR.out _ HB1.out) HC.out HR.out).mono ?_); rintro e w2 ⟨rfl, hB2⟩; have HB2 := Lib.hid (below_step HB1.out hB2); clear hB2))
      go_ret
      exact ⟨rfl, HB2.out⟩
    · have he' := he rfl h10
      rw [he'] at HI
      have h10b : (r == 10) = false := beq_eq_false_iff_ne.2 h10
      clear he he' h10
      go_enter Try.func4, Try.ntmps4
      go_wp2_with (first
        | (go_at_call 13; (with_reducible refine (laws_hybrid.calls 100010 _ _ l _ _ (hR.out _ HB0.out) HC.out HH.out).mono ?_); rintro e w1 ⟨rfl, hB1⟩; have HB1 := Lib.hid (below_step HB0.out hB1); clear hB1)
        | (go_at_call 15; refine (HI.out _ HB2.out).mono ?_; rintro e w3 ⟨rfl, hB3⟩; have HB3 := Lib.hid (below_step HB2.out hB3); clear hB3)
        | (go_at_call 14; (with_reducible refine (laws_class.calls 100010 _ _ l _ _ (hR.out _ HB3.out) HC.out HR.out).mono ?_); rintro e w4 ⟨rfl, hB4⟩; have HB4 := Lib.hid (below_step HB3.out hB4); clear hB4)
        | (go_at_call 14; (with_reducible refine (laws_class.calls 100010 _ _ l _ _ (hR.out _ HB1.out) HC.out HR.out).mono ?_); rintro e w2 ⟨rfl, hB2⟩; have HB2 := Lib.hid (below_step HB1.out hB2); clear hB2))
      go_ret
      exact ⟨by first | rfl | (simp; done) | (simp_all; done), HB4.out⟩

theorem law_walk (A : Option Addr) (c : Nat) (l : List Int) (w : World) (hs : Kd.V (Kd.int .u8) 5 w w.heap.size (fun _ => True) (.slice A l.length c) l) (hb : Tok.Bytes l) :
    Calls Try.prog 4 #[.slice A l.length c] w fun e w' => e = .returned (.bool true) ∧ Below w.heap.size w w' := by
  by_cases h1 : l.length ≤ 100000
  · exact law_near A c l w hs hb h1
  · by_cases h2 : l.length ≤ 2147483647
    · have g1 : decide ((2147483647 : Int) < (l.length : Int)) = false := decide_eq_false (by omega)
      have g2 : decide ((100000 : Int) < (l.length : Int)) = true := decide_eq_true (by omega)
      clear h1 h2 hs
      go_enter Try.func4, Try.ntmps4
      go_wp2
      go_ret
      exact ⟨rfl, Below.refl _ _⟩
    · have g1 : decide ((2147483647 : Int) < (l.length : Int)) = true := decide_eq_true (by omega)
      clear h1 h2 hs
      go_enter Try.func4, Try.ntmps4
      go_wp2
      go_ret
      exact ⟨rfl, Below.refl _ _⟩

theorem row_walk (a : Option Addr) (len cap : Nat) (z : List Int) (w : World) (h : Row.Arg .u8 w a len cap z) (_ : len * 1 ≤ 140737488351232) :
    Calls Try.prog 4 #[.slice a len cap] w fun e w' => e = .returned (.bool true) ∧ Below w.heap.size w w' := by
  obtain ⟨l, rfl, hv, hb⟩ := Row.arg_V h
  exact law_walk a cap l w hv hb
end Go.Proofs.Ytafpmdmmeohmfaa.PFnClass
