/-
  The law of ReadVarInt, for the row.
-/
import Derived.Test.YtclbkinlgjdojaaDoorRvA
import Derived.Test.YtclbkinlgjdojaaDoorRows
import Derived.Stop.LaidErr
import Derived.MakeChecks
namespace Go.Proofs.YtclbkinlgjdojaaDoor.Rv
open Go.RowKit Go.Proofs.YtclbkinlgjdojaaDoorW.PrintWords Go.Proofs.YtclbkinlgjdojaaDoorW.PrintLast Go.Proofs.YtclbkinlgjdojaaDoor.Reg Go.Proofs.YtclbkinlgjdojaaDoor.Tok
set_option linter.unusedSimpArgs false
set_option linter.unusedVariables false

set_option maxHeartbeats 4000000 in
set_option maxRecDepth 100000 in
theorem law_big (A : Option Addr) (n c : Nat) (w : World) (hn : 100000 < n) :
    Calls Tryd.prog 3 #[.slice A n c] w fun e w' => e = .returned (.bool true) ∧ Below w.heap.size w w' := by
  by_cases h : 2147483647 < n
  · have c1 : decide ((2147483647 : Int) < (n : Int)) = true := decide_eq_true (by omega)
    clear hn h
    go_enter Tryd.func3, Tryd.ntmps3
    go_wp2
    go_ret
    exact ⟨rfl, by first | exact Below.refl _ _ | exact below_drew (Below.refl _ _)⟩
  · have c1 : decide ((2147483647 : Int) < (n : Int)) = false := decide_eq_false (by omega)
    have c2 : decide ((100000 : Int) < (n : Int)) = true := decide_eq_true (by omega)
    clear hn h
    go_enter Tryd.func3, Tryd.ntmps3
    go_wp2
    go_ret
    exact ⟨rfl, by first | exact Below.refl _ _ | exact below_drew (Below.refl _ _)⟩
/-- The law, for the row. -/
theorem row_walk (A : Option Addr) (len cap : Nat) (z : List Int) (w : World) (h : Row.Arg .u8 w A len cap z) (_ : len * 1 ≤ 140737488351232) (hL : ∃ a b, Errs w a b) :
    Calls Tryd.prog 3 #[.slice A len cap] w fun e w' => e = .returned (.bool true) ∧ Below w.heap.size w w' := by
  obtain ⟨a, b, hE⟩ := hL
  obtain ⟨l, rfl, hr, hm, hw, hc⟩ := ReadsInt.ofRowC h
  by_cases hn : 100000 < l.length
  · exact law_big A l.length cap w hn
  · refine law_main A cap l a b w (Kd.C_of_reads (d := (0 : Int)) (h1 := fun _ => rfl) hr) hc (Nat.le_trans ?_ (show maxLen ≤ 9223372036854775807 by decide)) (by omega) (fun ad e hl => ?_) (fun x hx => ?_) hE
    · rcases h with ⟨_, _, rfl, _⟩ | ⟨x, _, _, hm, _⟩
      · exact Nat.zero_le _
      · exact hm
    · obtain ⟨ad2, e2, hcl⟩ := hr.2.2 (by first | exact hl | (intro h0; rw [h0] at hl; exact absurd hl (Nat.lt_irrefl _)) | (intro h0; rw [h0] at hl; cases hl))
      obtain rfl : ad = ad2 := Option.some.inj (e.symm.trans e2)
      have h1 := World.block_lt_of_cell? w _ (hcl 0 hl)
      rw [show (ad.add 0).block = ad.block from by unfold Addr.add; split <;> rfl] at h1
      exact h1
    · have h3 := hw x hx
      simp [Lit.wf, IntKind.min, IntKind.max, IntKind.signed, IntKind.bits] at h3
      omega
theorem star : "*" ++ "errors.errorString" = "*errors.errorString" := by decide
theorem rowErr (u : TypeId) (h : Tryd.prog.typeName? 3 u = some "*errors.errorString") : u = 68 :=
  typeName_ptr_named (nm := "errors.errorString") (by rw [star]; kernel_rfl) (by kernel_rfl) (by decide) u (by rw [star]; exact h)
set_option maxRecDepth 100000 in
theorem errs_laid {W : World} (hL : laidMetH Tryd.prog Rows.fnReadVarIntRow.laid W) : ∃ a b, Errs W a b := by
  rw [MakeChecks.laidMetH_plain _ _ _ (by kernel_rfl)] at hL
  have h1 := hL.tail
  have g2 : Tryd.prog.globalNamed "io.EOF" = some 2 := by kernel_rfl
  have g3 : Tryd.prog.globalNamed "io.ErrUnexpectedEOF" = some 3 := by kernel_rfl
  obtain ⟨a, sa, va, _⟩ := laid_sentinel (g := 2) (ti := 36) h1 g2 (by kernel_rfl) Tryd.underlying36 rowErr Tryd.underlying68 Tryd.underlying86 rfl rfl Tryd.underlying9 (by kernel_rfl) (by kernel_rfl)
  obtain ⟨b, sb, vb, _⟩ := laid_sentinel (g := 3) (ti := 36) h1.tail g3 (by kernel_rfl) Tryd.underlying36 rowErr Tryd.underlying68 Tryd.underlying86 rfl rfl Tryd.underlying9 (by kernel_rfl) (by kernel_rfl)
  exact ⟨a, b, ⟨by simpa using World.var?_cell g2 va 0, by simpa using World.var?_cell g3 vb 0⟩⟩
end Go.Proofs.YtclbkinlgjdojaaDoor.Rv
