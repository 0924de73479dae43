/-
  The package's IsCoinBaseTx, of a transaction behind a pointer.
-/
import Derived.Test.YtclbkinlgjdojaaTxSpec
namespace Go.Proofs.Ytclbkinlgjdojaa.Tx
open Go.RowKit Go.Proofs.YtclbkinlgjdojaaW.PrintWords Go.Proofs.YtclbkinlgjdojaaW.PrintLast
set_option linter.unusedSimpArgs false
set_option linter.unusedVariables false

set_option maxHeartbeats 8000000 in
set_option maxRecDepth 100000 in
theorem cb_calls (x : TX) (base g : Nat) (v1 v2 : Value) (w : World) (h : Wx w base g x v1 v2) :
    Calls Try.prog 11 #[.pointer (some ⟨g, 0, none⟩)] w fun e w' => e = .returned (.bool (isCb x)) ∧ Below w.heap.size w w' := by
  obtain ⟨A, c, rfl, hlc, hC⟩ := Kd.R_reads h.ins
  have k1 : w.cell? ⟨g, 1, none⟩ = some (.slice A x.ins.length c) := by rw [cell_of_row _ _ _ _ _ _ h.blk]; rfl
  obtain ⟨N, hN⟩ : ∃ N, x.ins.length = N := ⟨_, rfl⟩
  by_cases c1 : N = 1
  · obtain ⟨ad, g1, b, rfl, hp, hg1, hK⟩ := ptr_at hC zTI 0 (Int.le_refl _) (by rw [hN, c1]; decide)
    have e : isCb x = isNone (rdT x.ins 0) := by rw [isCb, hN, decide_eq_true c1, Bool.true_and]
    rw [e]
    change kTI.K w (rdT x.ins 0) b.toList at hK
    obtain ⟨y, hy⟩ : ∃ y, rdT x.ins 0 = y := ⟨_, rfl⟩
    rw [hy] at hK ⊢
    obtain ⟨B1, d1, B2, d2, hl, hb, _⟩ := kTI_open hK
    have hp' : w.cell? ad = some (.pointer (some ⟨g1, 0, none⟩)) := by simpa [Addr.add] using hp
    have k32 : w.cell? ⟨g1, 32, none⟩ = some (.int .u32 y.i) := by
      rw [cell_of_row _ _ _ _ _ _ hg1, ← Array.getElem?_toList, hb]; exact tic_32 _ _ _ _ _ hl
    have hh : ∀ j v, (hv y.h)[j]? = some v → w.cell? ((⟨g1, 0, none⟩ : Addr).add j) = some v := by
      intro j v hj
      have hjl := (List.getElem?_eq_some_iff.1 hj).1
      rw [Addr.add_mid, Nat.zero_add, cell_of_row _ _ _ _ _ _ hg1, ← Array.getElem?_toList, hb, tic, opc, List.append_assoc, List.getElem?_append_left hjl]; exact hj
    have HH := Lib.hid hh
    have HL := Lib.hid hl
    have heq := fun W => neq_zero y.h hl W
    obtain ⟨z, hz⟩ : ∃ z, decide (y.h = zero32) = z := ⟨_, rfl⟩
    obtain ⟨V, hV⟩ : ∃ V, (hv y.h).toArray = V := ⟨_, rfl⟩
    obtain ⟨Z, hZ⟩ : ∃ Z, (hv zero32).toArray = Z := ⟨_, rfl⟩
    rw [isNone, hz]
    simp only [hz, hV, hZ] at heq
    have HV := Lib.hid hV
    have BZ := Lib.hid (show Try.prog.built 52 [] = some Z from hZ ▸ built_zeroH)
    subst c1
    rw [hN] at k1
    clear hy e hK hb hl hh hN hp hC h hlc hg1 hz hV hZ
    by_cases c : y.i = 4294967295
    · have cb : decide (y.i = 4294967295) = true := decide_eq_true c
      have cb2 : (y.i == 4294967295) = true := beq_iff_eq.2 c
      have cb3 : (y.i != 4294967295) = false := by rw [bne, cb2]; rfl
      rw [cb, Bool.true_and]
      clear c
      cases z
      all_goals
        go_enter Try.func11, Try.ntmps11
        go_wp2_with (first | ((with_reducible refine gate_dst (N := 27) rfl ?_); go_must (refine wpList_let ?aW (fun K hK => wp_load_list 52 (.tmp 26) rfl ⟨g1, 0, none⟩ rfl (hv y.h) _ HH.out Try.underlying52 rfl ?aI (hK _ _ ?_)); (case aW => first | rfl | (simp [Region.wanted, yielded]; done)); (case aI => rw [hv_len, HL.out]; rfl); rw [HV.out])) | ((with_reducible refine gate_dst (N := 28) rfl ?_); go_must (refine wpList_let ?aW (fun K hK => wp_made 52 #[] rfl [] (by simp) _ BZ.out (hK _ _ ?_)); (case aW => first | rfl | (simp [Region.wanted, yielded]; done)))))
        go_ret
        exact ⟨rfl, Below.refl _ _⟩
    · have cb : decide (y.i = 4294967295) = false := decide_eq_false c
      have cb2 : (y.i == 4294967295) = false := by rw [beq_eq_false_iff_ne]; exact c
      have cb3 : (y.i != 4294967295) = true := by rw [bne, cb2]; rfl
      rw [cb, Bool.false_and]
      clear c
      go_enter Try.func11, Try.ntmps11
      go_wp2
      go_ret
      exact ⟨rfl, Below.refl _ _⟩
  · have e : isCb x = false := by rw [isCb, hN, decide_eq_false c1, Bool.false_and]
    rw [e]
    have cb : decide ((N : Int) = 1) = false := decide_eq_false (by omega)
    have cb2 : ((N : Int) == 1) = false := by rw [beq_eq_false_iff_ne]; omega
    have cb4 : ((N : Int) != 1) = true := by rw [bne, cb2]; rfl
    have cb3 : decide (N = 1) = false := decide_eq_false c1
    rw [hN] at k1
    clear e h hN c1 hC hlc
    go_enter Try.func11, Try.ntmps11
    go_wp2
    go_ret
    exact ⟨rfl, Below.refl _ _⟩
end Go.Proofs.Ytclbkinlgjdojaa.Tx
