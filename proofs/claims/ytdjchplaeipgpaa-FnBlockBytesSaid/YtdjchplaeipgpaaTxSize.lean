/-
  How long a transaction is, roughly: txSize ends.
-/
import Derived.Test.YtdjchplaeipgpaaTxFits
import Derived.Deep.QuietTactic
namespace Go.Proofs.Ytdjchplaeipgpaa.Tx
open Go.RowKit Go.Proofs.YtdjchplaeipgpaaW.PrintWords Go.Proofs.YtdjchplaeipgpaaW.PrintLast
set_option linter.unusedSimpArgs false
set_option linter.unusedVariables false

def mo (a b : Int) : Int := (PFnBlockBytes.laws_more.f a b).getD 0
theorem mo_eq (a b : Int) : PFnBlockBytes.laws_more.f a b = some (mo a b) := by
  unfold mo PFnBlockBytes.laws_more.f
  split
  · rfl
  · split
    · rfl
    · split <;> rfl
theorem more_q (a b : Int) (W : World) : Calls Try.prog 17 #[.int .i64 a, .int .i64 b] W fun e w' => e = .returned (.int .i64 (mo a b)) ∧ ∃ m, w' = W.drewN m :=
  (PFnBlockBytes.laws_more.calls a b _ W (mo_eq a b)).mono fun _ _ h => ⟨h.1, h.2.out⟩
theorem mo_le {a b : Int} {s t : Nat} (h : 0 ≤ a ∧ (a ≤ 100000 → (s : Int) ≤ a)) (hb : (t : Int) ≤ b) : 0 ≤ mo a b ∧ (mo a b ≤ 100000 → ((s + t : Nat) : Int) ≤ mo a b) := by
  have e : mo a b = if a > 100000 then 100001 else if b > 100000 then 100001 else if wrap64 (a + b) > 100000 then 100001 else wrap64 (a + b) := by
    unfold mo PFnBlockBytes.laws_more.f
    split
    · rfl
    · split
      · rfl
      · split <;> rfl
  rw [e]
  by_cases c1 : a > 100000
  · rw [if_pos c1]; omega
  · rw [if_neg c1]
    by_cases c2 : b > 100000
    · rw [if_pos c2]; omega
    · rw [if_neg c2]
      have hw : wrap64 (a + b) = a + b := wrap64_id (by omega) (by omega)
      have := h.2 (by omega)
      rw [hw]
      by_cases c3 : a + b > 100000
      · rw [if_pos c3]; omega
      · rw [if_neg c3]; omega
/-- How long an input is, an output, a transaction. -/
def inSz (y : TI) : Nat := 50 + y.s.length + (y.w.map fun u => 9 + u.length).sum
def outSz (y : PFnBlockBytes.S54) : Nat := 17 + y.f1.length
def txSz (x : TX) : Nat := 10 + (x.ins.map inSz).sum + (x.outs.map outSz).sum
theorem sum_take {α : Type} (f : α → Nat) (xs : List α) (z : α) (i : Nat) (h : i < xs.length) : ((xs.take (i + 1)).map f).sum = ((xs.take i).map f).sum + f (xs.getD i z) := by
  rw [List.take_add_one, List.getElem?_eq_getElem h, List.getD_eq_getElem?_getD, List.getElem?_eq_getElem h]
  simp only [Option.toList_some, List.map_append, List.sum_append, List.map_cons, List.map_nil, List.sum_cons, List.sum_nil, Nat.add_zero, Option.getD_some]
/-- The slices of an input in a row, for a later world. -/
theorem at_look {w : World} {A : Option Addr} {n : Nat} {xs : List TI} (h : Kd.C kTI w A n xs) (i : Int) (h0 : 0 ≤ i) (h1 : i < n) : ∃ (ad : Addr) (A1 : Option Addr) (c1 : Nat) (A2 : Option Addr) (c2 : Nat), A = some ad ∧
    (rdT xs i).s.length ≤ c1 ∧ (rdT xs i).w.length ≤ c2 ∧ (Kd.int .u8).C w A1 (rdT xs i).s.length (rdT xs i).s ∧ (Kd.slice 5 (Kd.int .u8)).C w A2 (rdT xs i).w.length (rdT xs i).w ∧
    (∀ W, Below w.heap.size w W → W.cell? ⟨(ad.add (i.toNat * 36)).block, (ad.add (i.toNat * 36)).off + 33, none⟩ = some (.slice A1 (rdT xs i).s.length c1)) ∧
    (∀ W, Below w.heap.size w W → W.cell? ⟨(ad.add (i.toNat * 36)).block, (ad.add (i.toNat * 36)).off + 34, none⟩ = some (.slice A2 (rdT xs i).w.length c2)) := by
  obtain ⟨ad, A1, c1, A2, c2, e, hl, hc, l1, g1, l2, g2⟩ := kTI_at h i h0 h1
  refine ⟨ad, A1, c1, A2, c2, e, l1, l2, g1, g2, ?_, ?_⟩
  · intro W hB
    have := hc 33 _ (tic_33 _ _ _ _ _ hl)
    rw [add_field _ _ 33 (by omega)] at this
    exact (hB.cell (World.block_lt_of_cell? w _ this)).trans this
  · intro W hB
    have := hc 34 _ (tic_34 _ _ _ _ _ hl)
    rw [add_field _ _ 34 (by omega)] at this
    exact (hB.cell (World.block_lt_of_cell? w _ this)).trans this
set_option maxHeartbeats 8000000 in
set_option maxRecDepth 100000 in
theorem sizeB_calls (x : TX) (A1 : Option Addr) (c1 : Nat) (A2 : Option Addr) (c2 : Nat) (w : World) (h : TxIn w x A1 c1 A2 c2) (hf : fit2 x = true) :
    Calls Try.prog 6 #[.agg (txc x A1 c1 A2 c2)] w fun e w' => (∃ n, e = .returned (.int .i64 n) ∧ (n ≤ 100000 → (txSz x : Int) ≤ n)) ∧ Below w.heap.size w w' := by
  have hf3 : (x.ins.length : Int) ≤ 2147483647 ∧ (∀ y ∈ x.ins, y.w.length ≤ 2147483647) := by
    simp only [fit2, fit3, fit4, fit5, Bool.and_eq_true, decide_eq_true_eq, List.all_eq_true] at hf
    exact ⟨by have := hf.1.1; omega, fun y hy => (hf.1.2 y hy).2.1⟩
  have hf6 : (x.outs.length : Int) ≤ 2147483647 := by
    simp only [fit2, fit6, Bool.and_eq_true, decide_eq_true_eq] at hf
    have := hf.2.1; omega
  obtain ⟨cs, hcs⟩ : ∃ cs, txc x A1 c1 A2 c2 = cs := ⟨_, rfl⟩
  have k1 : (w.alloc (.cells cs 26)).cell? ⟨w.heap.size, 1, none⟩ = some (.slice A1 x.ins.length c1) := by rw [cell_of_row _ _ _ _ _ _ (heap_alloc_new w _), ← hcs]; rfl
  have k2 : (w.alloc (.cells cs 26)).cell? ⟨w.heap.size, 2, none⟩ = some (.slice A2 x.outs.length c2) := by rw [cell_of_row _ _ _ _ _ _ (heap_alloc_new w _), ← hcs]; rfl
  obtain ⟨W0, hW0⟩ : ∃ W0, w.alloc (.cells cs 26) = W0 := ⟨_, rfl⟩
  have hB0 : Below w.heap.size w W0 := hW0 ▸ below_alloc (Below.refl _ _) _
  rw [hW0] at k1 k2
  have K1 := Lib.hid k1
  have K2 := Lib.hid k2
  have HB0 := Lib.hid hB0
  have H := Lib.hid (h.below hB0)
  have F3 := Lib.hid hf3
  have F6 := Lib.hid hf6
  rw [hcs]
  have hall : (w.alloc (.cells cs 26)) = W0 := hW0
  clear h hf hf3 hf6 hcs k1 k2 hB0 hW0
  go_enter Try.func6, Try.ntmps6
  go_wp2
  try rw [hall]
  go_loopg [3, 4] (x.ins.length + 1) (fun kq v3 v4 w' => ∃ (i : Nat) (xi n : Int), v3 = .int .i64 n ∧ v4 = .int .i64 xi ∧ Hid (xi = (i : Int)) ∧ Hid (i + kq = x.ins.length + 1) ∧ Hid (Below W0.heap.size W0 w') ∧ Hid (0 ≤ n ∧ (n ≤ 100000 → ((10 + ((x.ins.take i).map inSz).sum : Nat) : Int) ≤ n)))
  case atStart => exact ⟨0, 0, 10, rfl, rfl, Lib.hid rfl, Lib.hid (Nat.zero_add _), Lib.hid (Below.refl _ _), Lib.hid (by simp)⟩
  case round =>
    clear hall
    obtain ⟨i, xi, n, rfl, rfl, HI, HK, HB, HS⟩ := hrel
    have c1_ := (HB.out.cell (World.block_lt_of_cell? W0 _ K1.out)).trans K1.out
    by_cases ci : i < x.ins.length ∧ n ≤ 100000
    · have p0 : 0 ≤ xi := by rw [HI.out]; omega
      have q0 : xi < (x.ins.length : Int) := by rw [HI.out]; omega
      obtain ⟨ad, B1, d1, B2, d2, rfl, l1, l2, g1, g2, hc1, hc2⟩ := at_look H.out.g1 xi p0 q0
      have hw1 : wrap64 (xi + 1) = xi + 1 := by have := F3.out.1; exact wrap64_id (by omega) (by omega)
      have hlw : (rdT x.ins xi).w.length ≤ 2147483647 := by
        refine F3.out.2 _ ?_
        rw [rdT, List.getD_eq_getElem?_getD, List.getElem?_eq_getElem (show xi.toNat < x.ins.length by omega)]
        exact List.getElem_mem _
      have hst := sum_take inSz x.ins zTI i ci.1
      rw [show x.ins.getD i zTI = rdT x.ins xi from by rw [rdT, HI.out]; rfl] at hst
      obtain ⟨y, hy⟩ : ∃ y, rdT x.ins xi = y := ⟨_, rfl⟩
      rw [hy] at l1 l2 g1 g2 hc1 hc2 hlw hst
      have HST := Lib.hid hst
      obtain ⟨k1, rfl⟩ : ∃ k1, gk = k1 + 1 := ⟨gk - 1, by have := HK.out; omega⟩
      have hx1 := hc1 _ HB.out
      have hx2 := hc2 _ HB.out
      have pp := eq_true p0
      have qq := eq_true q0
      have qb : decide (xi < (x.ins.length : Int)) = true := decide_eq_true q0
      have nb : decide (n ≤ 100000) = true := decide_eq_true ci.2
      have CI := Lib.hid ci
      have G2 := Lib.hid g2
      have HLW := Lib.hid hlw
      have HC2 := Lib.hid hc2
      have HS2 := Lib.hid (mo_le (t := y.s.length) (mo_le (t := 50) HS.out (b := 50) (by decide)) (b := (y.s.length : Int)) (Int.le_refl _))
      clear p0 q0 hy l1 l2 g1 g2 hc1 hc2 hlw ci hst
      go_wp2
      go_quiet ((go_at_call 17; exact Calls.quiet_of (more_q _ _ _)))
      go_wp2
      go_loopg [3, 5] (y.w.length + 1) (fun kq v3 v5 w' => ∃ (j : Nat) (xj n : Int), v3 = .int .i64 n ∧ v5 = .int .i64 xj ∧ Hid (xj = (j : Int)) ∧ Hid (j + kq = y.w.length + 1) ∧ Hid (Below W0.heap.size W0 w') ∧ Hid (0 ≤ n ∧ (n ≤ 100000 → ((10 + ((x.ins.take i).map inSz).sum + 50 + y.s.length + ((y.w.take j).map fun u => 9 + u.length).sum : Nat) : Int) ≤ n)))
      case atStart => exact ⟨0, 0, _, rfl, rfl, Lib.hid rfl, Lib.hid (Nat.zero_add _), Lib.hid (by repeat (first | exact HB.out | apply pw_below_drewN)), Lib.hid (by simpa using HS2.out)⟩
      case round =>
        clear hx1 hx2 c1_ HB nb CI HS2 HS
        obtain ⟨j, xj, n1, rfl, rfl, HJ, HK2, HB, HS⟩ := hrel
        have c1_ := (HB.out.cell (World.block_lt_of_cell? W0 _ K1.out)).trans K1.out
        have hx2 := HC2.out _ HB.out
        by_cases cj : j < y.w.length ∧ n1 ≤ 100000
        · have pj0 : 0 ≤ xj := by rw [HJ.out]; omega
          have qj0 : xj < (y.w.length : Int) := by rw [HJ.out]; omega
          have hsj := sum_take (fun u : List Int => 9 + u.length) y.w ([] : List Int) j cj.1
          rw [show y.w.getD j [] = PFnBlockBytes.rd_L1 y.w xj from by rw [PFnBlockBytes.rd_L1, HJ.out]; rfl] at hsj
          have HSJ := Lib.hid hsj
          have HS2 := Lib.hid (mo_le (t := (PFnBlockBytes.rd_L1 y.w xj).length) (mo_le (t := 9) HS.out (b := 9) (by decide)) (b := ((PFnBlockBytes.rd_L1 y.w xj).length : Int)) (Int.le_refl _))
          clear hsj
          obtain ⟨ad2, B3, d3, rfl, hc3, l3, g3⟩ := PFnBlockBytes.at_L1 G2.out xj pj0 qj0
          have hw2 : wrap64 (xj + 1) = xj + 1 := by have := HLW.out; exact wrap64_id (by omega) (by omega)
          obtain ⟨k2, rfl⟩ : ∃ k2, gk = k2 + 1 := ⟨gk - 1, by have := HK2.out; omega⟩
          have hx3 := (HB.out.cell (World.block_lt_of_cell? W0 _ hc3)).trans hc3
          have pjj := eq_true pj0
          have qjj := eq_true qj0
          have qjb : decide (xj < (y.w.length : Int)) = true := decide_eq_true qj0
          have njb : decide (n1 ≤ 100000) = true := decide_eq_true cj.2
          have CJ := Lib.hid cj
          clear pj0 qj0 hc3 l3 g3 cj
          go_wp2
          go_quiet ((go_at_call 17; exact Calls.quiet_of (more_q _ _ _)))
          go_wp2
          go_roundg k2
          case measure => exact Nat.lt_succ_self _
          case rel => exact ⟨j + 1, xj + 1, _, rfl, (by first | rfl | (simp [hw2]; done)), Lib.hid (by rw [HJ.out]; omega), Lib.hid (by have := HK2.out; omega), Lib.hid (by repeat (first | exact HB.out | apply pw_below_drewN)), Lib.hid (by rw [HSJ.out]; refine ⟨HS2.out.1, fun hn => ?_⟩; have := HS2.out.2 hn; omega)⟩
        · have hcj : decide (xj < (y.w.length : Int)) = false ∨ (decide (xj < (y.w.length : Int)) = true ∧ decide (n1 ≤ 100000) = false) := by
            by_cases c : j < y.w.length
            · exact Or.inr ⟨decide_eq_true (by rw [HJ.out]; omega), decide_eq_false (fun hn => cj ⟨c, hn⟩)⟩
            · exact Or.inl (decide_eq_false (by rw [HJ.out]; omega))
          have HS3 := Lib.hid (show 0 ≤ n1 ∧ (n1 ≤ 100000 → ((10 + ((x.ins.take (i + 1)).map inSz).sum : Nat) : Int) ≤ n1) from by
            refine ⟨HS.out.1, fun hn => ?_⟩
            have h1 := HS.out.2 hn
            have h2 : ¬ j < y.w.length := fun h => cj ⟨h, hn⟩
            rw [List.take_of_length_le (show y.w.length ≤ j by omega)] at h1
            rw [HST.out, inSz]
            omega)
          have pj0 := eq_true (show 0 ≤ xj by rw [HJ.out]; omega)
          clear cj HK2 HJ
          rcases hcj with c3 | ⟨c3, c4⟩
          all_goals
            go_wp2
            go_roundg k1
            case measure => exact Nat.lt_succ_self _
            case rel => exact ⟨i + 1, xi + 1, _, rfl, (by first | rfl | (simp [hw1]; done)), Lib.hid (by rw [HI.out]; omega), Lib.hid (by have := HK.out; omega), Lib.hid (by repeat (first | exact HB.out | apply pw_below_drewN)), HS3⟩
    · have hci : decide (xi < (x.ins.length : Int)) = false ∨ (decide (xi < (x.ins.length : Int)) = true ∧ decide (n ≤ 100000) = false) := by
        by_cases c : i < x.ins.length
        · exact Or.inr ⟨decide_eq_true (by rw [HI.out]; omega), decide_eq_false (fun hn => ci ⟨c, hn⟩)⟩
        · exact Or.inl (decide_eq_false (by rw [HI.out]; omega))
      have H1 := Lib.hid HB.out
      have HS3 := Lib.hid (show 0 ≤ n ∧ (n ≤ 100000 → ((10 + (x.ins.map inSz).sum : Nat) : Int) ≤ n) from by
        refine ⟨HS.out.1, fun hn => ?_⟩
        have h1 := HS.out.2 hn
        have h2 : ¬ i < x.ins.length := fun h => ci ⟨h, hn⟩
        rwa [List.take_of_length_le (by omega)] at h1)
      clear ci HK HI c1_ HB
      have c1_ := (H1.out.cell (World.block_lt_of_cell? W0 _ K1.out)).trans K1.out
      have c2_ := (H1.out.cell (World.block_lt_of_cell? W0 _ K2.out)).trans K2.out
      rcases hci with c3 | ⟨c3, c4⟩
      all_goals
        go_wp2
        go_loopg [3, 6] (x.outs.length + 1) (fun kq v3 v6 w' => ∃ (i : Nat) (xi n : Int), v3 = .int .i64 n ∧ v6 = .int .i64 xi ∧ Hid (xi = (i : Int)) ∧ Hid (i + kq = x.outs.length + 1) ∧ Hid (Below W0.heap.size W0 w') ∧ Hid (0 ≤ n ∧ (n ≤ 100000 → ((10 + (x.ins.map inSz).sum + ((x.outs.take i).map outSz).sum : Nat) : Int) ≤ n)))
        case atStart => exact ⟨0, 0, _, rfl, rfl, Lib.hid rfl, Lib.hid (Nat.zero_add _), Lib.hid (by repeat (first | exact H1.out | apply pw_below_drewN)), Lib.hid (by simpa using HS3.out)⟩
        case round =>
          clear c1_ c2_ c3 H1 HS3 HS
          obtain ⟨i, xi, n, rfl, rfl, HI, HK, HB, HS⟩ := hrel
          have c2_ := (HB.out.cell (World.block_lt_of_cell? W0 _ K2.out)).trans K2.out
          by_cases ci : i < x.outs.length ∧ n ≤ 100000
          · have p0 : 0 ≤ xi := by rw [HI.out]; omega
            have q0 : xi < (x.outs.length : Int) := by rw [HI.out]; omega
            have hst := sum_take outSz x.outs PFnBlockBytes.z54 i ci.1
            rw [show x.outs.getD i PFnBlockBytes.z54 = PFnBlockBytes.rd_T54 x.outs xi from by rw [PFnBlockBytes.rd_T54, HI.out]; rfl] at hst
            have HST := Lib.hid hst
            have HS2 := Lib.hid (mo_le (t := (PFnBlockBytes.rd_T54 x.outs xi).f1.length) (mo_le (t := 17) HS.out (b := 17) (by decide)) (b := ((PFnBlockBytes.rd_T54 x.outs xi).f1.length : Int)) (Int.le_refl _))
            clear hst
            obtain ⟨ad, B1, d1, rfl, hc0, hc1, l1, g1⟩ := PFnBlockBytes.at_T54 H.out.g2 xi p0 q0
            have hw1 : wrap64 (xi + 1) = xi + 1 := by have := F6.out; exact wrap64_id (by omega) (by omega)
            obtain ⟨k1, rfl⟩ : ∃ k1, gk = k1 + 1 := ⟨gk - 1, by have := HK.out; omega⟩
            have hx1 := (HB.out.cell (World.block_lt_of_cell? W0 _ hc1)).trans hc1
            have pp := eq_true p0
            have qq := eq_true q0
            have qb : decide (xi < (x.outs.length : Int)) = true := decide_eq_true q0
            have nb : decide (n ≤ 100000) = true := decide_eq_true ci.2
            have CI := Lib.hid ci
            clear p0 q0 l1 g1 hc0 hc1 ci
            go_wp2
            go_quiet ((go_at_call 17; exact Calls.quiet_of (more_q _ _ _)))
            go_wp2
            go_roundg k1
            case measure => exact Nat.lt_succ_self _
            case rel => exact ⟨i + 1, xi + 1, _, rfl, (by first | rfl | (simp [hw1]; done)), Lib.hid (by rw [HI.out]; omega), Lib.hid (by have := HK.out; omega), Lib.hid (by repeat (first | exact HB.out | apply pw_below_drewN)), Lib.hid (by rw [HST.out, outSz]; refine ⟨HS2.out.1, fun hn => ?_⟩; have := HS2.out.2 hn; omega)⟩
          · have hci : decide (xi < (x.outs.length : Int)) = false ∨ (decide (xi < (x.outs.length : Int)) = true ∧ decide (n ≤ 100000) = false) := by
              by_cases c : i < x.outs.length
              · exact Or.inr ⟨decide_eq_true (by rw [HI.out]; omega), decide_eq_false (fun hn => ci ⟨c, hn⟩)⟩
              · exact Or.inl (decide_eq_false (by rw [HI.out]; omega))
            have HS3 := Lib.hid (show n ≤ 100000 → (txSz x : Int) ≤ n from fun hn => by
              have h1 := HS.out.2 hn
              have h2 : ¬ i < x.outs.length := fun h => ci ⟨h, hn⟩
              rwa [List.take_of_length_le (by omega)] at h1)
            clear ci HK HI
            rcases hci with c3 | ⟨c3, c4⟩
            all_goals
              go_wp2
              go_ret
              exact ⟨⟨_, rfl, HS3.out⟩, below_step HB0.out HB.out⟩
theorem size_calls (x : TX) (A1 : Option Addr) (c1 : Nat) (A2 : Option Addr) (c2 : Nat) (w : World) (h : TxIn w x A1 c1 A2 c2) (hf : fit2 x = true) :
    Calls Try.prog 6 #[.agg (txc x A1 c1 A2 c2)] w fun e w' => (∃ n, e = .returned (.int .i64 n)) ∧ Below w.heap.size w w' :=
  (sizeB_calls x A1 c1 A2 c2 w h hf).mono fun _ _ ⟨⟨n, h1, _⟩, h2⟩ => ⟨⟨n, h1⟩, h2⟩
end Go.Proofs.Ytdjchplaeipgpaa.Tx
