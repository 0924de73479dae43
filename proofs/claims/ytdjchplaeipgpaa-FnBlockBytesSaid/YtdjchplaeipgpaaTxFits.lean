/-
  Rows of inputs and transactions that fit: zzFits3, zzFits2.
-/
import Derived.Test.YtdjchplaeipgpaaTxIn
namespace Go.Proofs.Ytdjchplaeipgpaa.Tx
open Go.RowKit Go.Proofs.YtdjchplaeipgpaaW.PrintWords Go.Proofs.YtdjchplaeipgpaaW.PrintLast
set_option linter.unusedSimpArgs false
set_option linter.unusedVariables false

def fit3 (l : List TI) : Bool := decide (l.length ≤ 2147483647) && l.all fit4
/-- The input at a place, as the walks over a row of inputs need it in a later world. -/
theorem at_step {w : World} {A : Option Addr} {n : Nat} {xs : List TI} (h : Kd.C kTI w A n xs) (i : Int) (h0 : 0 ≤ i) (h1 : i < n) : ∃ (ad : Addr) (cs : Array Value) (A1 : Option Addr) (c1 : Nat) (A2 : Option Addr) (c2 : Nat), A = some ad ∧ cs.size = 36 ∧ cs.all (·.oneCell') = true ∧
    (tic (rdT xs i) A1 c1 A2 c2).toArray = cs ∧ (rdT xs i).h.length = 32 ∧ (rdT xs i).s.length ≤ c1 ∧ (rdT xs i).w.length ≤ c2 ∧ (Kd.int .u8).C w A1 (rdT xs i).s.length (rdT xs i).s ∧ (Kd.slice 5 (Kd.int .u8)).C w A2 (rdT xs i).w.length (rdT xs i).w ∧
    (∀ W, Below w.heap.size w W → ∀ j u, cs.toList[j]? = some u → W.cell? ((ad.add (i.toNat * 36)).add j) = some u) := by
  obtain ⟨ad, A1, c1, A2, c2, e, hl, hc, l1, g1, l2, g2⟩ := kTI_at h i h0 h1
  refine ⟨ad, _, A1, c1, A2, c2, e, by simpa using tic_len (rdT xs i) A1 c1 A2 c2 hl, all_oneCell_toArray (tic_one _ _ _ _ _), rfl, hl, l1, l2, g1, g2, ?_⟩
  intro W hB j u hj
  have hj' : (tic (rdT xs i) A1 c1 A2 c2)[j]? = some u := by simpa using hj
  have := hc j u hj'
  rw [show (ad.add (i.toNat * 36)).add j = ad.add (i.toNat * 36 + j) from add_add _ _ _]
  exact (hB.cell (World.block_lt_of_cell? w _ this)).trans this
theorem box_list (w : World) (cs : Array Value) (t : TypeId) (g : Nat) (h : w.heap[g]? = some (.cells cs t (0, 0))) : ∀ j v, cs.toList[j]? = some v → w.cell? ((⟨g, 0, none⟩ : Addr).add j) = some v := by
  intro j v hj
  rw [Addr.add_mid, Nat.zero_add, cell_of_row _ _ _ _ _ _ h]
  simpa using hj
set_option maxHeartbeats 8000000 in
set_option maxRecDepth 100000 in
theorem fit3_calls (l : List TI) (A : Option Addr) (c : Nat) (w : World) (hc : l.length ≤ c) (hA : Kd.C kTI w A l.length l) :
    Calls Try.prog 15 #[.slice A l.length c] w fun e w' => e = .returned (.bool (fit3 l)) ∧ Below w.heap.size w w' := by
  obtain ⟨N, hN⟩ : ∃ N : Int, (l.length : Int) = N := ⟨_, rfl⟩
  by_cases c0 : N > 2147483647
  · have cb : decide ((2147483647 : Int) < (l.length : Int)) = true := decide_eq_true (by omega)
    have cb1 : decide (2147483647 < l.length) = true := decide_eq_true (by omega)
    rw [fit3, decide_eq_false (by omega), Bool.false_and]
    clear c0 hN
    go_enter Try.func15, Try.ntmps15
    go_wp2
    go_ret
    exact ⟨rfl, Below.refl _ _⟩
  · have cb : decide ((2147483647 : Int) < (l.length : Int)) = false := decide_eq_false (by omega)
    have cb1 : decide (2147483647 < l.length) = false := decide_eq_false (by omega)
    obtain ⟨b, hb⟩ : ∃ b, l.all fit4 = b := ⟨_, rfl⟩
    rw [fit3, decide_eq_true (by omega), Bool.true_and, hb]
    have HBD := Lib.hid (show (l.length : Int) ≤ 2147483647 by omega)
    have H0 := Lib.hid (show (l.drop 0).all fit4 = b from hb)
    have HA := Lib.hid hA
    clear c0 hN hb hA hc
    go_enter Try.func15, Try.ntmps15
    go_wp2
    go_loopg [10] (l.length + 1) (fun kq v10 w' => ∃ (i : Nat) (xi : Int), v10 = .int .i64 xi ∧ Hid (xi = (i : Int)) ∧ Hid (i + kq = l.length + 1) ∧ Hid ((l.drop i).all fit4 = b) ∧ Hid (Below w.heap.size w w'))
    case atStart => exact ⟨0, 0, rfl, Lib.hid rfl, Lib.hid (Nat.zero_add _), H0, Lib.hid (Below.refl _ _)⟩
    case round =>
      clear H0 cb cb1
      obtain ⟨i, xi, rfl, HI, HK, HD, HB⟩ := hrel
      by_cases ci : i < l.length
      · have p0 : 0 ≤ xi := by rw [HI.out]; omega
        have q0 : xi < (l.length : Int) := by rw [HI.out]; omega
        obtain ⟨ad, cs, A1, c1, A2, c2, rfl, hz, h1, hcs, hl, l1, l2, g1, g2, hce⟩ := at_step HA.out xi p0 q0
        have hw1 : wrap64 (xi + 1) = xi + 1 := by have := HBD.out; exact wrap64_id (by omega) (by omega)
        obtain ⟨x, hx⟩ : ∃ x, rdT l xi = x := ⟨_, rfl⟩
        rw [hx] at hcs hl l1 l2 g1 g2
        have hxi : x = l[i] := by rw [← hx, HI.out, rdT]; simp [ci]
        have hd : (fit4 x && (l.drop (i + 1)).all fit4) = b := by
          have := HD.out
          rw [List.drop_eq_getElem_cons ci, List.all_cons, ← hxi] at this; exact this
        obtain ⟨k1, rfl⟩ : ∃ k1, gk = k1 + 1 := ⟨gk - 1, by have := HK.out; omega⟩
        have HX := Lib.hid (show ∀ W', Below w.heap.size w W' → Calls Try.prog 35 #[.agg cs] W' fun e w' => e = .returned (.bool (fit4 x)) ∧ Below W'.heap.size W' w' from fun W' hW => hcs ▸ fit4_calls x A1 c1 A2 c2 W' hl l1 l2 (Kd.C_below g2 hW))
        have HCE := Lib.hid hce
        have HZ := Lib.hid hz
        have H1 := Lib.hid h1
        have pp := eq_true p0
        have qq := eq_true q0
        have qb : decide (xi < (l.length : Int)) = true := decide_eq_true q0
        obtain ⟨r, hr⟩ : ∃ r, fit4 x = r := ⟨_, rfl⟩
        rw [hr] at hd
        have HR := Lib.hid hr
        have HD1 := Lib.hid hd
        have CI := Lib.hid ci
        clear hce hz h1 p0 q0 hx hxi hd hcs hl l1 l2 g1 g2 HD hr ci
        cases r
        · go_wp2_with (first | (refine wpList_load_list rfl 52 (.tmp 12) rfl (ad.add (xi.toNat * 36)) rfl cs.toList _ (HCE.out _ HB.out) Try.underlying52 rfl ?aI ?_; go_must (case aI => rw [Array.length_toList, HZ.out]; rfl); go_must (simp only [Array.toArray_toList])) | (refine wpList_store_row rfl 52 (.tmp 4) (.tmp 13) rfl _ cs rfl rfl 52 _ (heap_alloc_new _ _) ?aS ?aL H1.out ?_; go_must (case aS => rw [HZ.out]; rfl); go_must (case aL => rw [HZ.out]; rfl)) | (refine wpList_load_list rfl 52 (.tmp 4) rfl ⟨_, 0, none⟩ rfl cs.toList _ (box_list _ cs 52 _ (setRow_heap _ _ _ _ _ _ (heap_alloc_new _ _))) Try.underlying52 rfl ?aI ?_; go_must (case aI => rw [Array.length_toList, HZ.out]; rfl); go_must (simp only [Array.toArray_toList])) | (go_at_call 35; refine (HX.out _ (below_setRow (below_alloc HB.out _) HB.out.size _)).mono ?_; rw [HR.out]; rintro e w3 ⟨rfl, hB3⟩; have HB3 := Lib.hid (below_step (below_setRow (below_alloc HB.out _) HB.out.size _) hB3); clear hB3))
          have hbf : b = false := by rw [← HD1.out]; rfl
          subst hbf
          go_ret
          exact ⟨rfl, HB3.out⟩
        · go_wp2_with (first | (refine wpList_load_list rfl 52 (.tmp 12) rfl (ad.add (xi.toNat * 36)) rfl cs.toList _ (HCE.out _ HB.out) Try.underlying52 rfl ?aI ?_; go_must (case aI => rw [Array.length_toList, HZ.out]; rfl); go_must (simp only [Array.toArray_toList])) | (refine wpList_store_row rfl 52 (.tmp 4) (.tmp 13) rfl _ cs rfl rfl 52 _ (heap_alloc_new _ _) ?aS ?aL H1.out ?_; go_must (case aS => rw [HZ.out]; rfl); go_must (case aL => rw [HZ.out]; rfl)) | (refine wpList_load_list rfl 52 (.tmp 4) rfl ⟨_, 0, none⟩ rfl cs.toList _ (box_list _ cs 52 _ (setRow_heap _ _ _ _ _ _ (heap_alloc_new _ _))) Try.underlying52 rfl ?aI ?_; go_must (case aI => rw [Array.length_toList, HZ.out]; rfl); go_must (simp only [Array.toArray_toList])) | (go_at_call 35; refine (HX.out _ (below_setRow (below_alloc HB.out _) HB.out.size _)).mono ?_; rw [HR.out]; rintro e w3 ⟨rfl, hB3⟩; have HB3 := Lib.hid (below_step (below_setRow (below_alloc HB.out _) HB.out.size _) hB3); clear hB3))
          go_roundg k1
          case measure => exact Nat.lt_succ_self _
          case rel => exact ⟨i + 1, xi + 1, (by first | rfl | (simp [hw1]; done)), Lib.hid (by rw [HI.out]; omega), Lib.hid (by have := HK.out; omega), Lib.hid (by rw [← HD1.out]; rfl), HB3⟩
      · have qb : decide (xi < (l.length : Int)) = false := decide_eq_false (by rw [HI.out]; omega)
        have : b = true := by rw [← HD.out, List.drop_of_length_le (by omega)]; rfl
        subst this
        clear ci HD HI HK
        go_wp2
        go_ret
        exact ⟨rfl, HB.out⟩

/-- A transaction. -/
structure TX where
  v : Int
  ins : List TI
  outs : List PFnBlockBytes.S54
  k : Int
/-- A transaction's cells. -/
def txc (x : TX) (A1 : Option Addr) (c1 : Nat) (A2 : Option Addr) (c2 : Nat) : Array Value := #[.int .i32 x.v, .slice A1 x.ins.length c1, .slice A2 x.outs.length c2, .int .u32 x.k]
/-- A transaction that lies in a world. -/
structure TxIn (w : World) (x : TX) (A1 : Option Addr) (c1 : Nat) (A2 : Option Addr) (c2 : Nat) : Prop where
  l1 : x.ins.length ≤ c1
  l2 : x.outs.length ≤ c2
  g1 : Kd.C kTI w A1 x.ins.length x.ins
  g2 : Kd.C PFnBlockBytes.k54 w A2 x.outs.length x.outs
theorem TxIn.below {w w1 : World} {x : TX} {A1 : Option Addr} {c1 : Nat} {A2 : Option Addr} {c2 : Nat} (h : TxIn w x A1 c1 A2 c2) (hb : Below w.heap.size w w1) : TxIn w1 x A1 c1 A2 c2 :=
  ⟨h.l1, h.l2, Kd.C_below h.g1 hb, Kd.C_below h.g2 hb⟩
def fit6 (l : List PFnBlockBytes.S54) : Bool := decide (l.length ≤ 2147483647) && l.all (fun s => decide (s.f1.length ≤ 2147483647))
theorem fit6_loop (l : List PFnBlockBytes.S54) (hl : l.length ≤ 2147483647) : ∀ d i, i + d = l.length → PFnBlockBytes.laws_zzFits6.l0 (d + 1) l (l.length : Int) (i : Int) = some ((l.drop i).all (fun s => decide (s.f1.length ≤ 2147483647)))
  | 0, i, h => by
    rw [PFnBlockBytes.laws_zzFits6.l0, if_neg (by omega), List.drop_of_length_le (by omega)]; rfl
  | d + 1, i, h => by
    have hi : i < l.length := by omega
    have hw : wrap64 ((i : Int) + 1) = ((i + 1 : Nat) : Int) := by rw [wrap64_id (by omega) (by omega)]; omega
    have hr : PFnBlockBytes.rd_T54 l (i : Int) = l[i] := by simp [PFnBlockBytes.rd_T54, hi]
    have ih := fit6_loop l hl d (i + 1) (by omega)
    rw [PFnBlockBytes.laws_zzFits6.l0, if_pos (by omega), if_pos (by omega), if_pos (by omega), hr, hw, ih, List.drop_eq_getElem_cons hi, List.all_cons, PFnBlockBytes.laws_zzFits7.f]
    by_cases c : (l[i].f1.length : Int) > 2147483647
    · rw [if_pos c, decide_eq_false (by omega)]; rfl
    · rw [if_neg c, decide_eq_true (by omega)]; rfl
theorem fit6_eq (l : List PFnBlockBytes.S54) : PFnBlockBytes.laws_zzFits6.f (l.length + 1) l = some (fit6 l) := by
  unfold PFnBlockBytes.laws_zzFits6.f fit6
  by_cases c : (l.length : Int) > 2147483647
  · rw [if_pos c, decide_eq_false (by omega)]; rfl
  · rw [if_neg c, decide_eq_true (by omega)]
    have := fit6_loop l (by omega) l.length 0 (by omega)
    simpa using this
def fit2 (x : TX) : Bool := fit3 x.ins && fit6 x.outs
set_option maxHeartbeats 8000000 in
set_option maxRecDepth 100000 in
theorem fit2_calls (x : TX) (A1 : Option Addr) (c1 : Nat) (A2 : Option Addr) (c2 : Nat) (w : World) (h : TxIn w x A1 c1 A2 c2) :
    Calls Try.prog 5 #[.agg (txc x A1 c1 A2 c2)] w fun e w' => e = .returned (.bool (fit2 x)) ∧ Below w.heap.size w w' := by
  have H := Lib.hid h
  obtain ⟨b, hb⟩ : ∃ b, fit3 x.ins = b := ⟨_, rfl⟩
  obtain ⟨d, hd⟩ : ∃ d, fit6 x.outs = d := ⟨_, rfl⟩
  rw [fit2, hb, hd]
  have H3 := Lib.hid (show ∀ W, Below w.heap.size w W → Calls Try.prog 15 #[.slice A1 x.ins.length c1] W fun e w' => e = .returned (.bool b) ∧ Below W.heap.size W w' from fun W hW => hb ▸ fit3_calls x.ins A1 c1 W h.l1 (Kd.C_below h.g1 hW))
  have H6 := Lib.hid (show ∀ W, Below w.heap.size w W → Calls Try.prog 16 #[.slice A2 x.outs.length c2] W fun e w' => e = .returned (.bool d) ∧ Below W.heap.size W w' from fun W hW => PFnBlockBytes.laws_zzFits6.calls (x.outs.length + 1) A2 c2 x.outs d W (Kd.C_below h.g2 hW) h.l2 (by rw [fit6_eq, hd]))
  obtain ⟨cs, hcs⟩ : ∃ cs, txc x A1 c1 A2 c2 = cs := ⟨_, rfl⟩
  have hb1 : ∀ W W' : World, Below (W.alloc (.cells cs 26)).heap.size (W.alloc (.cells cs 26)) W' → W'.cell? ⟨W.heap.size, 1, none⟩ = some (.slice A1 x.ins.length c1) ∧ W'.cell? ⟨W.heap.size, 2, none⟩ = some (.slice A2 x.outs.length c2) := by
    intro W W' hB
    have k1 : (W.alloc (.cells cs 26)).cell? ⟨W.heap.size, 1, none⟩ = some (.slice A1 x.ins.length c1) := by rw [cell_of_row _ _ _ _ _ _ (heap_alloc_new W _), ← hcs]; rfl
    have k2 : (W.alloc (.cells cs 26)).cell? ⟨W.heap.size, 2, none⟩ = some (.slice A2 x.outs.length c2) := by rw [cell_of_row _ _ _ _ _ _ (heap_alloc_new W _), ← hcs]; rfl
    exact ⟨(hB.cell (World.block_lt_of_cell? _ _ k1)).trans k1, (hB.cell (World.block_lt_of_cell? _ _ k2)).trans k2⟩
  rw [hcs]
  have h1 := (hb1 w _ (Below.refl _ _)).1
  have HB1 := Lib.hid hb1
  clear h hb hd hcs hb1
  cases b <;> cases d
  all_goals
    go_enter Try.func5, Try.ntmps5
    go_wp2_with (first | (go_at_call 15; refine (H3.out _ (below_alloc (Below.refl _ _) _)).mono ?_; rintro e w1 ⟨rfl, hB⟩; have h2 := (HB1.out w _ hB).2; have HB := Lib.hid (below_step (below_alloc (Below.refl _ _) _) hB); clear hB) | (go_at_call 16; refine (H6.out _ HB.out).mono ?_; rintro e w2 ⟨rfl, hB⟩; have n0_ := Lib.hid (below_step HB.out hB); clear HB hB; have HB := n0_; clear n0_))
    go_ret
    exact ⟨rfl, HB.out⟩
end Go.Proofs.Ytdjchplaeipgpaa.Tx
