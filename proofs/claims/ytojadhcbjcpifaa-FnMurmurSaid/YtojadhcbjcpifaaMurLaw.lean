/-
  The law of MurmurHash3: its walk over the two functions' contracts.
-/
import Derived.Test.YtojadhcbjcpifaaMurSpec
namespace Go.Proofs.Ytojadhcbjcpifaa.Mur
open Go.RowKit Go.Proofs.YtojadhcbjcpifaaW.PrintWords Go.Proofs.YtojadhcbjcpifaaW.PrintLast Go.Proofs.YtojadhcbjcpifaaW.PrintMore Go.Proofs.Ytojadhcbjcpifaa.Tok
set_option linter.unusedSimpArgs false
set_option linter.unusedVariables false

theorem impl_calls (A : Option Addr) (c : Nat) (l : List Int) (seed : Int) (w : World) (hV : Kd.V (Kd.int .u8) 5 w w.heap.size (fun _ => True) (.slice A l.length c) l) (hb : Bytes l) (hl : l.length ≤ 100000) (hsd : 0 ≤ seed ∧ seed < 4294967296) :
    Calls Try.prog 5 #[.int .u32 seed, .slice A l.length c] w fun e w' => e = .returned (.int .u32 (murm seed l)) ∧ Below w.heap.size w w' := by
  have H := Lib.hid (hash_calls A c l seed w hV hb hl hsd)
  clear hV hb hl hsd
  obtain ⟨r, hr⟩ : ∃ r, murm seed l = r := ⟨_, rfl⟩
  rw [hr] at H ⊢
  clear hr
  go_enter Try.func5, Try.ntmps5
  go_wp2_with (go_at_call 15; refine H.out.mono ?_; rintro e w1 ⟨rfl, hB⟩; have HB := Lib.hid hB; clear hB)
  go_ret
  exact ⟨rfl, HB.out⟩
theorem law_walk (A : Option Addr) (c : Nat) (l : List Int) (seed : Int) (w : World) (hV : Kd.V (Kd.int .u8) 5 w w.heap.size (fun _ => True) (.slice A l.length c) l) (hb : Bytes l) (hsd : 0 ≤ seed ∧ seed < 4294967296) :
    Calls Try.prog 3 #[.int .u32 seed, .slice A l.length c] w fun e w' => e = .returned (.bool true) ∧ Below w.heap.size w w' := by
  by_cases hl : l.length ≤ 100000
  · have c1 : decide ((2147483647 : Int) < (l.length : Int)) = false := decide_eq_false (by omega)
    have c2 : decide ((100000 : Int) < (l.length : Int)) = false := decide_eq_false (by omega)
    have H1 := Lib.hid (impl_calls A c l seed w hV hb hl hsd)
    have H2 := Lib.hid (fun w' (h : Below w.heap.size w w') => spec_calls A c l seed w' (Kd.C_below (Kd.V_reads' hV).2.2 h) hb hl hsd)
    clear hV hb hl hsd
    obtain ⟨r, hr⟩ : ∃ r, murm seed l = r := ⟨_, rfl⟩
    rw [hr] at H1 H2
    clear hr
    go_enter Try.func3, Try.ntmps3
    go_wp2_with (first
      | (go_at_call 5; refine H1.out.mono ?_; rintro e w1 ⟨rfl, hB⟩; have HB := Lib.hid hB; clear hB)
      | (go_at_call 6; refine (H2.out _ HB.out).mono ?_; rintro e w2 ⟨rfl, ⟨m, rfl⟩⟩))
    go_ret
    exact ⟨by first | rfl | (simp; done), pw_below_drewN HB.out _⟩
  · by_cases hl3 : l.length ≤ 2147483647
    · have c1 : decide ((2147483647 : Int) < (l.length : Int)) = false := decide_eq_false (by omega)
      have c2 : decide ((100000 : Int) < (l.length : Int)) = true := decide_eq_true (by omega)
      clear hV hb hl hl3
      go_enter Try.func3, Try.ntmps3
      go_wp2
      go_ret
      exact ⟨rfl, Below.refl _ _⟩
    · have c1 : decide ((2147483647 : Int) < (l.length : Int)) = true := decide_eq_true (by omega)
      clear hV hb hl hl3
      go_enter Try.func3, Try.ntmps3
      go_wp2
      go_ret
      exact ⟨rfl, Below.refl _ _⟩
theorem row_walk (seed : Int) (a : Option Addr) (len cap : Nat) (z : List Int) (w : World) (hs : (Lit.int .u32 seed).wf = true) (h : Row.Arg .u8 w a len cap z) (_ : len * 1 ≤ 140737488351232) :
    Calls Try.prog 3 #[.int .u32 seed, .slice a len cap] w fun e w' => e = .returned (.bool true) ∧ Below w.heap.size w w' := by
  obtain ⟨l, rfl, hv, hb⟩ := Row.arg_V h
  have hs2 : 0 ≤ seed ∧ seed < 4294967296 := by
    simp [Lit.wf, IntKind.min, IntKind.max, IntKind.signed, IntKind.bits] at hs
    omega
  exact law_walk a cap l seed w hv hb hs2
end Go.Proofs.Ytojadhcbjcpifaa.Mur
