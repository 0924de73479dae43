/-
  spec.IsCoinbase.
-/
import Derived.Test.YtclbkinlgjdojaaTxNone
namespace Go.Proofs.Ytclbkinlgjdojaa.Tx
open Go.RowKit Go.Proofs.YtclbkinlgjdojaaW.PrintWords Go.Proofs.YtclbkinlgjdojaaW.PrintLast
set_option linter.unusedSimpArgs false
set_option linter.unusedVariables false

/-- A coinbase. -/
def isCb (x : TX) : Bool := decide (x.ins.length = 1) && isNone (rdT x.ins 0)
set_option maxHeartbeats 8000000 in
set_option maxRecDepth 100000 in
theorem spec_calls (x : TX) (A1 : Option Addr) (c1 : Nat) (A2 : Option Addr) (c2 : Nat) (w : World) (h : TxIn w x A1 c1 A2 c2) :
    Calls Try.prog 7 #[.agg (txc x A1 c1 A2 c2)] w fun e w' => e = .returned (.bool (isCb x)) ∧ Below w.heap.size w w' := by
  obtain ⟨cs, hcs⟩ : ∃ cs, txc x A1 c1 A2 c2 = cs := ⟨_, rfl⟩
  have k1 : (w.alloc (.cells cs 26)).cell? ⟨w.heap.size, 1, none⟩ = some (.slice A1 x.ins.length c1) := by rw [cell_of_row _ _ _ _ _ _ (heap_alloc_new w _), ← hcs]; rfl
  rw [hcs]
  obtain ⟨N, hN⟩ : ∃ N, x.ins.length = N := ⟨_, rfl⟩
  by_cases c : N = 1
  · obtain ⟨ad, B1, d1, B2, d2, rfl, hl, hc, _⟩ := kTI_at h.g1 0 (Int.le_refl _) (by rw [hN, c]; decide)
    have e : isCb x = isNone (rdT x.ins 0) := by rw [isCb, hN, decide_eq_true c, Bool.true_and]
    rw [e]
    obtain ⟨y, hy⟩ : ∃ y, rdT x.ins 0 = y := ⟨_, rfl⟩
    rw [hy] at hl hc ⊢
    have hb : Below w.heap.size w (w.alloc (.cells cs 26)) := below_alloc (Below.refl _ _) _
    have hh : ∀ j v, (opc y.h y.i)[j]? = some v → (w.alloc (.cells cs 26)).cell? (ad.add j) = some v := by
      intro j v hj
      have hjl := (List.getElem?_eq_some_iff.1 hj).1
      have := hc j v (by rw [tic, List.getElem?_append_left hjl]; exact hj)
      rw [show (0 : Int).toNat * 36 + j = j from by simp] at this
      exact (hb.cell (World.block_lt_of_cell? w _ this)).trans this
    have HH := Lib.hid hh
    have HL := Lib.hid hl
    subst c
    rw [hN] at k1
    clear hcs hc hy e hh hl h hb hN
    go_enter Try.func7, Try.ntmps7
    go_wp2_with (first | ((with_reducible refine gate_dst (N := 12) rfl ?_); go_must (refine wpList_let ?aW (fun K hK => wp_load_list 34 (.tmp 11) rfl ad ?aX (opc y.h y.i) _ HH.out Try.underlying34 rfl ?aI (hK _ _ ?_)); (case aX => first | rfl | (simp [Act.eval]; done)); (case aW => first | rfl | (simp [Region.wanted, yielded]; done)); (case aI => rw [opc_len, HL.out]; rfl))) | (go_at_call 13; refine (none_calls y.h y.i _ HL.out).mono ?_; rintro e w1 ⟨rfl, hB⟩; have HB := Lib.hid (below_step (below_alloc (Below.refl _ _) _) hB); clear hB))
    go_ret
    exact ⟨rfl, HB.out⟩
  · have e : isCb x = false := by rw [isCb, hN, decide_eq_false c, Bool.false_and]
    rw [e]
    have cb : decide ((N : Int) = 1) = false := decide_eq_false (by omega)
    have cb2 : ((N : Int) == 1) = false := by rw [beq_eq_false_iff_ne]; omega
    have cb3 : decide (N = 1) = false := decide_eq_false c
    rw [hN] at k1
    clear hcs e h hN c
    go_enter Try.func7, Try.ntmps7
    go_wp2
    go_ret
    exact ⟨rfl, below_alloc (Below.refl _ _) _⟩
end Go.Proofs.Ytclbkinlgjdojaa.Tx
