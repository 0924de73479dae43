/-
  How long a transaction is, roughly: txSize ends.
-/
import Derived.Test.YtclbkinlgjdojaaTxFits
import Derived.Deep.QuietTactic
namespace Go.Proofs.Ytclbkinlgjdojaa.Tx
open Go.RowKit Go.Proofs.YtclbkinlgjdojaaW.PrintWords Go.Proofs.YtclbkinlgjdojaaW.PrintLast
set_option linter.unusedSimpArgs false
set_option linter.unusedVariables false

def mo (a b : Int) : Int := (PFnIsCoinbase.laws_more.f a b).getD 0
theorem mo_eq (a b : Int) : PFnIsCoinbase.laws_more.f a b = some (mo a b) := by
  unfold mo PFnIsCoinbase.laws_more.f
  split
  · rfl
  · split
    · rfl
    · split <;> rfl
theorem more_q (a b : Int) (W : World) : Calls Try.prog 10 #[.int .i64 a, .int .i64 b] W fun e w' => e = .returned (.int .i64 (mo a b)) ∧ ∃ m, w' = W.drewN m :=
  (PFnIsCoinbase.laws_more.calls a b _ W (mo_eq a b)).mono fun _ _ h => ⟨h.1, h.2.out⟩
/-- The slices of an input in a row, for a later world. -/
theorem at_look {w : World} {A : Option Addr} {n : Nat} {xs : List TI} (h : Kd.C kTI w A n xs) (i : Int) (h0 : 0 ≤ i) (h1 : i < n) : ∃ (ad : Addr) (A1 : Option Addr) (c1 : Nat) (A2 : Option Addr) (c2 : Nat), A = some ad ∧
    (rdT xs i).s.length ≤ c1 ∧ (rdT xs i).w.length ≤ c2 ∧ (Kd.int .u8).C w A1 (rdT xs i).s.length (rdT xs i).s ∧ (Kd.slice 5 (Kd.int .u8)).C w A2 (rdT xs i).w.length (rdT xs i).w ∧
    (∀ W, Below w.heap.size w W → W.cell? ⟨(ad.add (i.toNat * 36)).block, (ad.add (i.toNat * 36)).off + 33, none⟩ = some (.slice A1 (rdT xs i).s.length c1)) ∧
    (∀ W, Below w.heap.size w W → W.cell? ⟨(ad.add (i.toNat * 36)).block, (ad.add (i.toNat * 36)).off + 34, none⟩ = some (.slice A2 (rdT xs i).w.length c2)) := by
  obtain ⟨ad, A1, c1, A2, c2, e, hl, hc, l1, g1, l2, g2⟩ := kTI_at h i h0 h1
  refine ⟨ad, A1, c1, A2, c2, e, l1, l2, g1, g2, ?_, ?_⟩
  · intro W hB
    have := hc 33 _ (tic_33 _ _ _ _ _ hl)
    rw [add_field _ _ 33 (by omega)] at this
    exact (hB.cell (World.block_lt_of_cell? w _ this)).trans this
  · intro W hB
    have := hc 34 _ (tic_34 _ _ _ _ _ hl)
    rw [add_field _ _ 34 (by omega)] at this
    exact (hB.cell (World.block_lt_of_cell? w _ this)).trans this
set_option maxHeartbeats 8000000 in
set_option maxRecDepth 100000 in
theorem size_calls (x : TX) (A1 : Option Addr) (c1 : Nat) (A2 : Option Addr) (c2 : Nat) (w : World) (h : TxIn w x A1 c1 A2 c2) (hf : fit2 x = true) :
    Calls Try.prog 5 #[.agg (txc x A1 c1 A2 c2)] w fun e w' => (∃ n, e = .returned (.int .i64 n)) ∧ Below w.heap.size w w' := by
  have hf3 : (x.ins.length : Int) ≤ 2147483647 ∧ (∀ y ∈ x.ins, y.w.length ≤ 2147483647) := by
    simp only [fit2, fit3, fit4, fit5, Bool.and_eq_true, decide_eq_true_eq, List.all_eq_true] at hf
    exact ⟨by have := hf.1.1; omega, fun y hy => (hf.1.2 y hy).2.1⟩
  have hf6 : (x.outs.length : Int) ≤ 2147483647 := by
    simp only [fit2, fit6, Bool.and_eq_true, decide_eq_true_eq] at hf
    have := hf.2.1; omega
  obtain ⟨cs, hcs⟩ : ∃ cs, txc x A1 c1 A2 c2 = cs := ⟨_, rfl⟩
  have k1 : (w.alloc (.cells cs 26)).cell? ⟨w.heap.size, 1, none⟩ = some (.slice A1 x.ins.length c1) := by rw [cell_of_row _ _ _ _ _ _ (heap_alloc_new w _), ← hcs]; rfl
  have k2 : (w.alloc (.cells cs 26)).cell? ⟨w.heap.size, 2, none⟩ = some (.slice A2 x.outs.length c2) := by rw [cell_of_row _ _ _ _ _ _ (heap_alloc_new w _), ← hcs]; rfl
  obtain ⟨W0, hW0⟩ : ∃ W0, w.alloc (.cells cs 26) = W0 := ⟨_, rfl⟩
  have hB0 : Below w.heap.size w W0 := hW0 ▸ below_alloc (Below.refl _ _) _
  rw [hW0] at k1 k2
  have K1 := Lib.hid k1
  have K2 := Lib.hid k2
  have HB0 := Lib.hid hB0
  have H := Lib.hid (h.below hB0)
  have F3 := Lib.hid hf3
  have F6 := Lib.hid hf6
  rw [hcs]
  have hall : (w.alloc (.cells cs 26)) = W0 := hW0
  clear h hf hf3 hf6 hcs k1 k2 hB0 hW0
  go_enter Try.func5, Try.ntmps5
  go_wp2
  try rw [hall]
  go_loopg [3, 4] (x.ins.length + 1) (fun kq v3 v4 w' => ∃ (i : Nat) (xi n : Int), v3 = .int .i64 n ∧ v4 = .int .i64 xi ∧ Hid (xi = (i : Int)) ∧ Hid (i + kq = x.ins.length + 1) ∧ Hid (Below W0.heap.size W0 w'))
  case atStart => exact ⟨0, 0, 10, rfl, rfl, Lib.hid rfl, Lib.hid (Nat.zero_add _), Lib.hid (Below.refl _ _)⟩
  case round =>
    clear hall
    obtain ⟨i, xi, n, rfl, rfl, HI, HK, HB⟩ := hrel
    have c1_ := (HB.out.cell (World.block_lt_of_cell? W0 _ K1.out)).trans K1.out
    by_cases ci : i < x.ins.length ∧ n ≤ 100000
    · have p0 : 0 ≤ xi := by rw [HI.out]; omega
      have q0 : xi < (x.ins.length : Int) := by rw [HI.out]; omega
      obtain ⟨ad, B1, d1, B2, d2, rfl, l1, l2, g1, g2, hc1, hc2⟩ := at_look H.out.g1 xi p0 q0
      have hw1 : wrap64 (xi + 1) = xi + 1 := by have := F3.out.1; exact wrap64_id (by omega) (by omega)
      have hlw : (rdT x.ins xi).w.length ≤ 2147483647 := by
        refine F3.out.2 _ ?_
        rw [rdT, List.getD_eq_getElem?_getD, List.getElem?_eq_getElem (show xi.toNat < x.ins.length by omega)]
        exact List.getElem_mem _
      obtain ⟨y, hy⟩ : ∃ y, rdT x.ins xi = y := ⟨_, rfl⟩
      rw [hy] at l1 l2 g1 g2 hc1 hc2 hlw
      obtain ⟨k1, rfl⟩ : ∃ k1, gk = k1 + 1 := ⟨gk - 1, by have := HK.out; omega⟩
      have hx1 := hc1 _ HB.out
      have hx2 := hc2 _ HB.out
      have pp := eq_true p0
      have qq := eq_true q0
      have qb : decide (xi < (x.ins.length : Int)) = true := decide_eq_true q0
      have nb : decide (n ≤ 100000) = true := decide_eq_true ci.2
      have CI := Lib.hid ci
      have G2 := Lib.hid g2
      have HLW := Lib.hid hlw
      have HC2 := Lib.hid hc2
      clear p0 q0 hy l1 l2 g1 g2 hc1 hc2 hlw ci
      go_wp2
      go_quiet ((go_at_call 10; exact Calls.quiet_of (more_q _ _ _)))
      go_wp2
      go_loopg [3, 5] (y.w.length + 1) (fun kq v3 v5 w' => ∃ (j : Nat) (xj n : Int), v3 = .int .i64 n ∧ v5 = .int .i64 xj ∧ Hid (xj = (j : Int)) ∧ Hid (j + kq = y.w.length + 1) ∧ Hid (Below W0.heap.size W0 w'))
      case atStart => exact ⟨0, 0, _, rfl, rfl, Lib.hid rfl, Lib.hid (Nat.zero_add _), Lib.hid (by repeat (first | exact HB.out | apply pw_below_drewN))⟩
      case round =>
        clear hx1 hx2 c1_ HB nb CI
        obtain ⟨j, xj, n1, rfl, rfl, HJ, HK2, HB⟩ := hrel
        have c1_ := (HB.out.cell (World.block_lt_of_cell? W0 _ K1.out)).trans K1.out
        have hx2 := HC2.out _ HB.out
        by_cases cj : j < y.w.length ∧ n1 ≤ 100000
        · have pj0 : 0 ≤ xj := by rw [HJ.out]; omega
          have qj0 : xj < (y.w.length : Int) := by rw [HJ.out]; omega
          obtain ⟨ad2, B3, d3, rfl, hc3, l3, g3⟩ := PFnIsCoinbase.at_L1 G2.out xj pj0 qj0
          have hw2 : wrap64 (xj + 1) = xj + 1 := by have := HLW.out; exact wrap64_id (by omega) (by omega)
          obtain ⟨k2, rfl⟩ : ∃ k2, gk = k2 + 1 := ⟨gk - 1, by have := HK2.out; omega⟩
          have hx3 := (HB.out.cell (World.block_lt_of_cell? W0 _ hc3)).trans hc3
          have pjj := eq_true pj0
          have qjj := eq_true qj0
          have qjb : decide (xj < (y.w.length : Int)) = true := decide_eq_true qj0
          have njb : decide (n1 ≤ 100000) = true := decide_eq_true cj.2
          have CJ := Lib.hid cj
          clear pj0 qj0 hc3 l3 g3 cj
          go_wp2
          go_quiet ((go_at_call 10; exact Calls.quiet_of (more_q _ _ _)))
          go_wp2
          go_roundg k2
          case measure => exact Nat.lt_succ_self _
          case rel => exact ⟨j + 1, xj + 1, _, rfl, (by first | rfl | (simp [hw2]; done)), Lib.hid (by rw [HJ.out]; omega), Lib.hid (by have := HK2.out; omega), Lib.hid (by repeat (first | exact HB.out | apply pw_below_drewN))⟩
        · have hcj : decide (xj < (y.w.length : Int)) = false ∨ (decide (xj < (y.w.length : Int)) = true ∧ decide (n1 ≤ 100000) = false) := by
            by_cases c : j < y.w.length
            · exact Or.inr ⟨decide_eq_true (by rw [HJ.out]; omega), decide_eq_false (fun hn => cj ⟨c, hn⟩)⟩
            · exact Or.inl (decide_eq_false (by rw [HJ.out]; omega))
          have pj0 := eq_true (show 0 ≤ xj by rw [HJ.out]; omega)
          clear cj HK2 HJ
          rcases hcj with c3 | ⟨c3, c4⟩
          all_goals
            go_wp2
            go_roundg k1
            case measure => exact Nat.lt_succ_self _
            case rel => exact ⟨i + 1, xi + 1, _, rfl, (by first | rfl | (simp [hw1]; done)), Lib.hid (by rw [HI.out]; omega), Lib.hid (by have := HK.out; omega), Lib.hid (by repeat (first | exact HB.out | apply pw_below_drewN))⟩
    · have hci : decide (xi < (x.ins.length : Int)) = false ∨ (decide (xi < (x.ins.length : Int)) = true ∧ decide (n ≤ 100000) = false) := by
        by_cases c : i < x.ins.length
        · exact Or.inr ⟨decide_eq_true (by rw [HI.out]; omega), decide_eq_false (fun hn => ci ⟨c, hn⟩)⟩
        · exact Or.inl (decide_eq_false (by rw [HI.out]; omega))
      have H1 := Lib.hid HB.out
      clear ci HK HI c1_ HB
      have c1_ := (H1.out.cell (World.block_lt_of_cell? W0 _ K1.out)).trans K1.out
      have c2_ := (H1.out.cell (World.block_lt_of_cell? W0 _ K2.out)).trans K2.out
      rcases hci with c3 | ⟨c3, c4⟩
      all_goals
        go_wp2
        go_loopg [3, 6] (x.outs.length + 1) (fun kq v3 v6 w' => ∃ (i : Nat) (xi n : Int), v3 = .int .i64 n ∧ v6 = .int .i64 xi ∧ Hid (xi = (i : Int)) ∧ Hid (i + kq = x.outs.length + 1) ∧ Hid (Below W0.heap.size W0 w'))
        case atStart => exact ⟨0, 0, _, rfl, rfl, Lib.hid rfl, Lib.hid (Nat.zero_add _), Lib.hid (by repeat (first | exact H1.out | apply pw_below_drewN))⟩
        case round =>
          clear c1_ c2_ c3 H1
          obtain ⟨i, xi, n, rfl, rfl, HI, HK, HB⟩ := hrel
          have c2_ := (HB.out.cell (World.block_lt_of_cell? W0 _ K2.out)).trans K2.out
          by_cases ci : i < x.outs.length ∧ n ≤ 100000
          · have p0 : 0 ≤ xi := by rw [HI.out]; omega
            have q0 : xi < (x.outs.length : Int) := by rw [HI.out]; omega
            obtain ⟨ad, B1, d1, rfl, hc0, hc1, l1, g1⟩ := PFnIsCoinbase.at_T40 H.out.g2 xi p0 q0
            have hw1 : wrap64 (xi + 1) = xi + 1 := by have := F6.out; exact wrap64_id (by omega) (by omega)
            obtain ⟨k1, rfl⟩ : ∃ k1, gk = k1 + 1 := ⟨gk - 1, by have := HK.out; omega⟩
            have hx1 := (HB.out.cell (World.block_lt_of_cell? W0 _ hc1)).trans hc1
            have pp := eq_true p0
            have qq := eq_true q0
            have qb : decide (xi < (x.outs.length : Int)) = true := decide_eq_true q0
            have nb : decide (n ≤ 100000) = true := decide_eq_true ci.2
            have CI := Lib.hid ci
            clear p0 q0 l1 g1 hc0 hc1 ci
            go_wp2
            go_quiet ((go_at_call 10; exact Calls.quiet_of (more_q _ _ _)))
            go_wp2
            go_roundg k1
            case measure => exact Nat.lt_succ_self _
            case rel => exact ⟨i + 1, xi + 1, _, rfl, (by first | rfl | (simp [hw1]; done)), Lib.hid (by rw [HI.out]; omega), Lib.hid (by have := HK.out; omega), Lib.hid (by repeat (first | exact HB.out | apply pw_below_drewN))⟩
          · have hci : decide (xi < (x.outs.length : Int)) = false ∨ (decide (xi < (x.outs.length : Int)) = true ∧ decide (n ≤ 100000) = false) := by
              by_cases c : i < x.outs.length
              · exact Or.inr ⟨decide_eq_true (by rw [HI.out]; omega), decide_eq_false (fun hn => ci ⟨c, hn⟩)⟩
              · exact Or.inl (decide_eq_false (by rw [HI.out]; omega))
            clear ci HK HI
            rcases hci with c3 | ⟨c3, c4⟩
            all_goals
              go_wp2
              go_ret
              exact ⟨⟨_, rfl⟩, below_step HB0.out HB.out⟩
end Go.Proofs.Ytclbkinlgjdojaa.Tx
