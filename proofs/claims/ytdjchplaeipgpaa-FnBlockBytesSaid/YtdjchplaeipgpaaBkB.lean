/-
  Blocks as values: a header and transactions; zzFits8, zzFits9, zzFits10.
  How long a block is, roughly: blockSize.
  impl.headerOf, impl.blockOf: a block of wire's is made of one by value; what stands of it.
  impl.blockOf.
-/
import Derived.Test.YtdjchplaeipgpaaTxArg
import Derived.Deep.QuietTactic
import Derived.Test.YtdjchplaeipgpaaTxF
namespace Go.Proofs.Ytdjchplaeipgpaa.Tx
open Go.RowKit Go.Proofs.YtdjchplaeipgpaaW.PrintWords Go.Proofs.YtdjchplaeipgpaaW.PrintLast Go.Proofs.Ytdjchplaeipgpaa.Reg
set_option linter.unusedSimpArgs false
set_option linter.unusedVariables false
set_option maxRecDepth 100000

/-- A header. -/
structure HD where
  v : Int
  p : List Int
  r : List Int
  t : Int
  b : Int
  n : Int
/-- A header's cells. -/
def hdc (h : HD) : List Value := [.int .i32 h.v] ++ (hv h.p ++ (hv h.r ++ [.int .u32 h.t, .int .u32 h.b, .int .u32 h.n]))
structure BK where
  h : HD
  txs : List TX
def bkc (k : BK) (A : Option Addr) (c : Nat) : List Value := hdc k.h ++ [.slice A k.txs.length c]
/-- A block that lies in a world. -/
structure BkIn (w : World) (k : BK) (A : Option Addr) (c : Nat) : Prop where
  lp : k.h.p.length = 32
  lr : k.h.r.length = 32
  l : k.txs.length ≤ c
  g : Kd.C kTX w A k.txs.length k.txs
theorem BkIn.below {w w1 : World} {k : BK} {A : Option Addr} {c : Nat} (h : BkIn w k A c) (hb : Below w.heap.size w w1) : BkIn w1 k A c := ⟨h.lp, h.lr, h.l, Kd.C_below h.g hb⟩
theorem hdc_len (h : HD) (lp : h.p.length = 32) (lr : h.r.length = 32) : (hdc h).length = 68 := by simp [hdc, hv_len, lp, lr]
theorem bkc_len (k : BK) (A : Option Addr) (c : Nat) (lp : k.h.p.length = 32) (lr : k.h.r.length = 32) : (bkc k A c).length = 69 := by rw [bkc, List.length_append, hdc_len _ lp lr]; rfl
theorem hdc_one (h : HD) : ∀ v ∈ hdc h, v.oneCell' = true := by
  intro v hv_
  simp only [hdc, List.mem_append, List.mem_cons, List.not_mem_nil, or_false] at hv_
  rcases hv_ with rfl | h1 | h1 | rfl | rfl | rfl
  · rfl
  · exact hv_one _ v h1
  · exact hv_one _ v h1
  all_goals rfl
theorem bkc_one (k : BK) (A : Option Addr) (c : Nat) : ∀ v ∈ bkc k A c, v.oneCell' = true := by
  intro v hv_
  rcases List.mem_append.1 hv_ with h1 | h1
  · exact hdc_one _ v h1
  · rw [List.mem_singleton.1 h1]; rfl
theorem bkc_68 (k : BK) (A : Option Addr) (c : Nat) (lp : k.h.p.length = 32) (lr : k.h.r.length = 32) : (bkc k A c)[68]? = some (.slice A k.txs.length c) := by
  rw [bkc, List.getElem?_append_right (Nat.le_of_eq (hdc_len _ lp lr)), hdc_len _ lp lr]; rfl
theorem bkc_take (k : BK) (A : Option Addr) (c : Nat) (lp : k.h.p.length = 32) (lr : k.h.r.length = 32) : (bkc k A c).take 68 = hdc k.h := by rw [bkc, List.take_left' (hdc_len _ lp lr)]
theorem hdc_0 (h : HD) : (hdc h)[0]? = some (.int .i32 h.v) := rfl
theorem hdc_65 (h : HD) (lp : h.p.length = 32) (lr : h.r.length = 32) : (hdc h)[65]? = some (.int .u32 h.t) ∧ (hdc h)[66]? = some (.int .u32 h.b) ∧ (hdc h)[67]? = some (.int .u32 h.n) := by
  refine ⟨?_, ?_, ?_⟩ <;> simp [hdc, List.getElem?_append, List.getElem?_cons, hv_len, lp, lr]
theorem hdc_p (h : HD) (j : Nat) (hj : j < h.p.length) : (hdc h)[1 + j]? = (hv h.p)[j]? := by
  rw [hdc, List.getElem?_append_right (by simp), show 1 + j - ([Value.int .i32 h.v] : List Value).length = j from by simp, List.getElem?_append_left (by rw [hv_len]; exact hj)]
theorem hdc_r (h : HD) (lp : h.p.length = 32) (j : Nat) (hj : j < h.r.length) : (hdc h)[33 + j]? = (hv h.r)[j]? := by
  rw [hdc, List.getElem?_append_right (by show 1 ≤ 33 + j; omega), show 33 + j - ([Value.int .i32 h.v] : List Value).length = 32 + j from by show 33 + j - 1 = 32 + j; omega, List.getElem?_append_right (by rw [hv_len, lp]; omega), hv_len, lp, show 32 + j - 32 = j by omega, List.getElem?_append_left (by rw [hv_len]; exact hj)]
def zTX : TX := ⟨0, [], [], 0⟩
def rdX (l : List TX) (i : Int) : TX := l.getD i.toNat zTX
/-- A transaction in a row of transactions: its cells, for later worlds. -/
theorem tx_step {w : World} {A : Option Addr} {n : Nat} {xs : List TX} (h : Kd.C kTX w A n xs) (i : Int) (h0 : 0 ≤ i) (h1 : i < n) : ∃ (ad : Addr) (cs : Array Value) (A1 : Option Addr) (c1 : Nat) (A2 : Option Addr) (c2 : Nat), A = some ad ∧ cs.size = 4 ∧ cs.all (·.oneCell') = true ∧
    txc (rdX xs i) A1 c1 A2 c2 = cs ∧ TxIn w (rdX xs i) A1 c1 A2 c2 ∧ (∀ W, Below w.heap.size w W → ∀ j u, cs.toList[j]? = some u → W.cell? ((ad.add (i.toNat * 4)).add j) = some u) := by
  obtain ⟨ad, c, e, hcl, hK, hc⟩ := Kd.C_get h zTX i h0 h1
  obtain ⟨A1, c1, A2, c2, hcs, hT⟩ := kTX_open (cs := c.toArray) (by simpa using hK)
  refine ⟨ad, c.toArray, A1, c1, A2, c2, e, by have h4 : c.length = 4 := hcl; simpa using h4, by rw [hcs]; simp [txc, Value.oneCell'], hcs.symm, hT, fun W hW j u hj => ?_⟩
  have := hc j u (by simpa using hj)
  rw [show i.toNat * kTX.sz + j = i.toNat * 4 + j from rfl] at this
  rw [show (ad.add (i.toNat * 4)).add j = ad.add (i.toNat * 4 + j) from add_add _ _ _]
  exact (hW.cell (World.block_lt_of_cell? w _ this)).trans this
def fit9 (l : List TX) : Bool := decide (l.length ≤ 2147483647) && l.all fit2
set_option maxHeartbeats 8000000 in
set_option maxRecDepth 100000 in
theorem fit10_calls (x : TX) (A1 : Option Addr) (c1 : Nat) (A2 : Option Addr) (c2 : Nat) (w : World) (h : TxIn w x A1 c1 A2 c2) :
    Calls Try.prog 42 #[.agg (txc x A1 c1 A2 c2)] w fun e w' => e = .returned (.bool (fit2 x)) ∧ Below w.heap.size w w' := by
  have H := Lib.hid h
  obtain ⟨b, hb⟩ : ∃ b, fit3 x.ins = b := ⟨_, rfl⟩
  obtain ⟨d, hd⟩ : ∃ d, fit6 x.outs = d := ⟨_, rfl⟩
  rw [fit2, hb, hd]
  have H3 := Lib.hid (show ∀ W, Below w.heap.size w W → Calls Try.prog 15 #[.slice A1 x.ins.length c1] W fun e w' => e = .returned (.bool b) ∧ Below W.heap.size W w' from fun W hW => hb ▸ fit3_calls x.ins A1 c1 W h.l1 (Kd.C_below h.g1 hW))
  have H6 := Lib.hid (show ∀ W, Below w.heap.size w W → Calls Try.prog 16 #[.slice A2 x.outs.length c2] W fun e w' => e = .returned (.bool d) ∧ Below W.heap.size W w' from fun W hW => PFnBlockBytes.laws_zzFits6.calls (x.outs.length + 1) A2 c2 x.outs d W (Kd.C_below h.g2 hW) h.l2 (by rw [fit6_eq, hd]))
  obtain ⟨cs, hcs⟩ : ∃ cs, txc x A1 c1 A2 c2 = cs := ⟨_, rfl⟩
  have hb1 : ∀ W W' : World, Below (W.alloc (.cells cs 26)).heap.size (W.alloc (.cells cs 26)) W' → W'.cell? ⟨W.heap.size, 1, none⟩ = some (.slice A1 x.ins.length c1) ∧ W'.cell? ⟨W.heap.size, 2, none⟩ = some (.slice A2 x.outs.length c2) := by
    intro W W' hB
    have k1 : (W.alloc (.cells cs 26)).cell? ⟨W.heap.size, 1, none⟩ = some (.slice A1 x.ins.length c1) := by rw [cell_of_row _ _ _ _ _ _ (heap_alloc_new W _), ← hcs]; rfl
    have k2 : (W.alloc (.cells cs 26)).cell? ⟨W.heap.size, 2, none⟩ = some (.slice A2 x.outs.length c2) := by rw [cell_of_row _ _ _ _ _ _ (heap_alloc_new W _), ← hcs]; rfl
    exact ⟨(hB.cell (World.block_lt_of_cell? _ _ k1)).trans k1, (hB.cell (World.block_lt_of_cell? _ _ k2)).trans k2⟩
  rw [hcs]
  have h1 := (hb1 w _ (Below.refl _ _)).1
  have HB1 := Lib.hid hb1
  clear h hb hd hcs hb1
  cases b <;> cases d
  all_goals
    go_enter Try.func42, Try.ntmps42
    go_wp2_with (first | (go_at_call 15; refine (H3.out _ (below_alloc (Below.refl _ _) _)).mono ?_; rintro e w1 ⟨rfl, hB⟩; have h2 := (HB1.out w _ hB).2; have HB := Lib.hid (below_step (below_alloc (Below.refl _ _) _) hB); clear hB) | (go_at_call 16; refine (H6.out _ HB.out).mono ?_; rintro e w2 ⟨rfl, hB⟩; have n0_ := Lib.hid (below_step HB.out hB); clear HB hB; have HB := n0_; clear n0_))
    go_ret
    exact ⟨rfl, HB.out⟩
set_option maxHeartbeats 8000000 in
set_option maxRecDepth 100000 in
theorem fit9_calls (l : List TX) (A : Option Addr) (c : Nat) (w : World) (hc : l.length ≤ c) (hA : Kd.C kTX w A l.length l) :
    Calls Try.prog 28 #[.slice A l.length c] w fun e w' => e = .returned (.bool (fit9 l)) ∧ Below w.heap.size w w' := by
  obtain ⟨N, hN⟩ : ∃ N : Int, (l.length : Int) = N := ⟨_, rfl⟩
  by_cases c0 : N > 2147483647
  · have cb : decide ((2147483647 : Int) < (l.length : Int)) = true := decide_eq_true (by omega)
    have cb1 : decide (2147483647 < l.length) = true := decide_eq_true (by omega)
    rw [fit9, decide_eq_false (by omega), Bool.false_and]
    clear c0 hN
    go_enter Try.func28, Try.ntmps28
    go_wp2
    go_ret
    exact ⟨rfl, Below.refl _ _⟩
  · have cb : decide ((2147483647 : Int) < (l.length : Int)) = false := decide_eq_false (by omega)
    have cb1 : decide (2147483647 < l.length) = false := decide_eq_false (by omega)
    obtain ⟨b, hb⟩ : ∃ b, l.all fit2 = b := ⟨_, rfl⟩
    rw [fit9, decide_eq_true (by omega), Bool.true_and, hb]
    have HBD := Lib.hid (show (l.length : Int) ≤ 2147483647 by omega)
    have H0 := Lib.hid (show (l.drop 0).all fit2 = b from hb)
    have HA := Lib.hid hA
    clear c0 hN hb hA hc
    go_enter Try.func28, Try.ntmps28
    go_wp2
    go_loopg [10] (l.length + 1) (fun kq v10 w' => ∃ (i : Nat) (xi : Int), v10 = .int .i64 xi ∧ Hid (xi = (i : Int)) ∧ Hid (i + kq = l.length + 1) ∧ Hid ((l.drop i).all fit2 = b) ∧ Hid (Below w.heap.size w w'))
    case atStart => exact ⟨0, 0, rfl, Lib.hid rfl, Lib.hid (Nat.zero_add _), H0, Lib.hid (Below.refl _ _)⟩
    case round =>
      clear H0 cb cb1
      obtain ⟨i, xi, rfl, HI, HK, HD, HB⟩ := hrel
      by_cases ci : i < l.length
      · have p0 : 0 ≤ xi := by rw [HI.out]; omega
        have q0 : xi < (l.length : Int) := by rw [HI.out]; omega
        obtain ⟨ad, cs, A1, c1, A2, c2, rfl, hz, h1, hcs, hT, hce⟩ := tx_step HA.out xi p0 q0
        have hw1 : wrap64 (xi + 1) = xi + 1 := by have := HBD.out; exact wrap64_id (by omega) (by omega)
        obtain ⟨x, hx⟩ : ∃ x, rdX l xi = x := ⟨_, rfl⟩
        rw [hx] at hcs hT
        have hxi : x = l[i] := by rw [← hx, HI.out, rdX]; simp [ci]
        have hd : (fit2 x && (l.drop (i + 1)).all fit2) = b := by
          have := HD.out
          rw [List.drop_eq_getElem_cons ci, List.all_cons, ← hxi] at this; exact this
        obtain ⟨k1, rfl⟩ : ∃ k1, gk = k1 + 1 := ⟨gk - 1, by have := HK.out; omega⟩
        have HX := Lib.hid (show ∀ W', Below w.heap.size w W' → Calls Try.prog 42 #[.agg cs] W' fun e w' => e = .returned (.bool (fit2 x)) ∧ Below W'.heap.size W' w' from fun W' hW => hcs ▸ fit10_calls x A1 c1 A2 c2 W' (hT.below hW))
        have HCE := Lib.hid hce
        have HZ := Lib.hid hz
        have H1 := Lib.hid h1
        have pp := eq_true p0
        have qq := eq_true q0
        have qb : decide (xi < (l.length : Int)) = true := decide_eq_true q0
        obtain ⟨r, hr⟩ : ∃ r, fit2 x = r := ⟨_, rfl⟩
        rw [hr] at hd
        have HR := Lib.hid hr
        have HD1 := Lib.hid hd
        have CI := Lib.hid ci
        clear hce hz h1 p0 q0 hx hxi hd hcs hT HD hr ci
        cases r
        · go_wp2_with (first | (refine wpList_load_list rfl 26 (.tmp 12) rfl (ad.add (xi.toNat * 4)) rfl cs.toList _ (HCE.out _ HB.out) Try.underlying26 rfl ?aI ?_; go_must (case aI => rw [Array.length_toList, HZ.out]; rfl); go_must (simp only [Array.toArray_toList])) | (refine wpList_store_row rfl 26 (.tmp 4) (.tmp 13) rfl _ cs rfl rfl 26 _ (heap_alloc_new _ _) ?aS ?aL H1.out ?_; go_must (case aS => rw [HZ.out]; rfl); go_must (case aL => rw [HZ.out]; rfl)) | (refine wpList_load_list rfl 26 (.tmp 4) rfl ⟨_, 0, none⟩ rfl cs.toList _ (box_list _ cs 26 _ (setRow_heap _ _ _ _ _ _ (heap_alloc_new _ _))) Try.underlying26 rfl ?aI ?_; go_must (case aI => rw [Array.length_toList, HZ.out]; rfl); go_must (simp only [Array.toArray_toList])) | (go_at_call 42; refine (HX.out _ (below_setRow (below_alloc HB.out _) HB.out.size _)).mono ?_; rw [HR.out]; rintro e w3 ⟨rfl, hB3⟩; have HB3 := Lib.hid (below_step (below_setRow (below_alloc HB.out _) HB.out.size _) hB3); clear hB3))
          have hbf : b = false := by rw [← HD1.out]; rfl
          subst hbf
          go_ret
          exact ⟨rfl, HB3.out⟩
        · go_wp2_with (first | (refine wpList_load_list rfl 26 (.tmp 12) rfl (ad.add (xi.toNat * 4)) rfl cs.toList _ (HCE.out _ HB.out) Try.underlying26 rfl ?aI ?_; go_must (case aI => rw [Array.length_toList, HZ.out]; rfl); go_must (simp only [Array.toArray_toList])) | (refine wpList_store_row rfl 26 (.tmp 4) (.tmp 13) rfl _ cs rfl rfl 26 _ (heap_alloc_new _ _) ?aS ?aL H1.out ?_; go_must (case aS => rw [HZ.out]; rfl); go_must (case aL => rw [HZ.out]; rfl)) | (refine wpList_load_list rfl 26 (.tmp 4) rfl ⟨_, 0, none⟩ rfl cs.toList _ (box_list _ cs 26 _ (setRow_heap _ _ _ _ _ _ (heap_alloc_new _ _))) Try.underlying26 rfl ?aI ?_; go_must (case aI => rw [Array.length_toList, HZ.out]; rfl); go_must (simp only [Array.toArray_toList])) | (go_at_call 42; refine (HX.out _ (below_setRow (below_alloc HB.out _) HB.out.size _)).mono ?_; rw [HR.out]; rintro e w3 ⟨rfl, hB3⟩; have HB3 := Lib.hid (below_step (below_setRow (below_alloc HB.out _) HB.out.size _) hB3); clear hB3))
          go_roundg k1
          case measure => exact Nat.lt_succ_self _
          case rel => exact ⟨i + 1, xi + 1, (by first | rfl | (simp [hw1]; done)), Lib.hid (by rw [HI.out]; omega), Lib.hid (by have := HK.out; omega), Lib.hid (by rw [← HD1.out]; rfl), HB3⟩
      · have qb : decide (xi < (l.length : Int)) = false := decide_eq_false (by rw [HI.out]; omega)
        have : b = true := by rw [← HD.out, List.drop_of_length_le (by omega)]; rfl
        subst this
        clear ci HD HI HK
        go_wp2
        go_ret
        exact ⟨rfl, HB.out⟩

/-- A block's box: its cells. -/
theorem bk_cell {w W : World} {k : BK} {A : Option Addr} {c : Nat} (lp : k.h.p.length = 32) (lr : k.h.r.length = 32) (h : Below (w.alloc (.cells (bkc k A c).toArray 38)).heap.size (w.alloc (.cells (bkc k A c).toArray 38)) W) : W.cell? ⟨w.heap.size, 68, none⟩ = some (.slice A k.txs.length c) := by
  rw [blk_cell (blk_below (heap_alloc_new w _) h) 68]
  simpa using bkc_68 k A c lp lr
set_option maxHeartbeats 8000000 in
set_option maxRecDepth 100000 in
theorem fit8_calls (k : BK) (A : Option Addr) (c : Nat) (w : World) (h : BkIn w k A c) :
    Calls Try.prog 10 #[.agg (bkc k A c).toArray] w fun e w' => e = .returned (.bool (fit9 k.txs)) ∧ Below w.heap.size w w' := by
  obtain ⟨b, hb⟩ : ∃ b, fit9 k.txs = b := ⟨_, rfl⟩
  have H := Lib.hid (show ∀ W, Below w.heap.size w W → Calls Try.prog 28 #[.slice A k.txs.length c] W fun e w' => e = .returned (.bool b) ∧ Below W.heap.size W w' from fun W hW => hb ▸ fit9_calls k.txs A c W h.l (Kd.C_below h.g hW))
  have k68 := bk_cell (A := A) (c := c) h.lp h.lr (Below.refl _ (w.alloc (.cells (bkc k A c).toArray 38)))
  obtain ⟨cs, hcs⟩ : ∃ cs, (bkc k A c).toArray = cs := ⟨_, rfl⟩
  rw [hcs] at k68 ⊢
  rw [hb]
  clear hcs h hb
  cases b
  all_goals
    go_enter Try.func10, Try.ntmps10
    go_wp2_with (go_at_call 28; go_must (refine (H.out _ (below_alloc (Below.refl _ _) _)).mono ?_); rintro e w1 ⟨rfl, hB⟩; have HB := Lib.hid (below_step (below_alloc (Below.refl _ _) _) hB); clear hB)
    go_ret
    exact ⟨rfl, HB.out⟩
end Go.Proofs.Ytdjchplaeipgpaa.Tx
namespace Go.Proofs.Ytdjchplaeipgpaa.Tx
open Go.RowKit Go.Proofs.YtdjchplaeipgpaaW.PrintWords Go.Proofs.YtdjchplaeipgpaaW.PrintLast Go.Proofs.Ytdjchplaeipgpaa.Reg
set_option linter.unusedSimpArgs false
set_option linter.unusedVariables false

theorem moB_le {a b : Int} {s t : Nat} (h : 0 ≤ a ∧ (a ≤ 100000 → (s : Int) ≤ a)) (hb : b ≤ 100000 → (t : Int) ≤ b) : 0 ≤ mo a b ∧ (mo a b ≤ 100000 → ((s + t : Nat) : Int) ≤ mo a b) := by
  by_cases c : b ≤ 100000
  · exact mo_le h (hb c)
  · have h2 := mo_le h (b := b) (t := 100001) (by omega)
    have e : mo a b = 100001 := by
      unfold mo PFnBlockBytes.laws_more.f
      by_cases c1 : a > 100000
      · rw [if_pos c1]; rfl
      · rw [if_neg c1, if_pos (by omega)]; rfl
    rw [e]
    exact ⟨by decide, fun hn => absurd hn (by decide)⟩
def bkSz (k : BK) : Nat := 90 + (k.txs.map txSz).sum
set_option maxHeartbeats 8000000 in
set_option maxRecDepth 100000 in
theorem bsize_calls (k : BK) (A : Option Addr) (c : Nat) (w : World) (h : BkIn w k A c) (hf : fit9 k.txs = true) :
    Calls Try.prog 11 #[.agg (bkc k A c).toArray] w fun e w' => (∃ n, e = .returned (.int .i64 n) ∧ (n ≤ 100000 → (bkSz k : Int) ≤ n)) ∧ Below w.heap.size w w' := by
  have hf3 : (k.txs.length : Int) ≤ 2147483647 ∧ (∀ y ∈ k.txs, fit2 y = true) := by
    simp only [fit9, Bool.and_eq_true, decide_eq_true_eq, List.all_eq_true] at hf
    exact ⟨by have := hf.1; omega, hf.2⟩
  have hk : ∀ W, Below (w.alloc (.cells (bkc k A c).toArray 38)).heap.size (w.alloc (.cells (bkc k A c).toArray 38)) W → W.cell? ⟨w.heap.size, 68, none⟩ = some (.slice A k.txs.length c) := fun W hW => bk_cell h.lp h.lr hW
  obtain ⟨cs, hcs⟩ : ∃ cs, (bkc k A c).toArray = cs := ⟨_, rfl⟩
  rw [hcs] at hk ⊢
  obtain ⟨W0, hW0⟩ : ∃ W0, w.alloc (.cells cs 38) = W0 := ⟨_, rfl⟩
  have hB0 : Below w.heap.size w W0 := hW0 ▸ below_alloc (Below.refl _ _) _
  rw [hW0] at hk
  have HKC := Lib.hid hk
  have HB0 := Lib.hid hB0
  have H := Lib.hid (Kd.C_below h.g hB0)
  have F3 := Lib.hid hf3
  have hall : (w.alloc (.cells cs 38)) = W0 := hW0
  clear h hf hf3 hcs hk hB0 hW0
  go_enter Try.func11, Try.ntmps11
  go_wp2
  try rw [hall]
  go_loopg [3, 4] (k.txs.length + 1) (fun kq v3 v4 w' => ∃ (i : Nat) (xi n : Int), v3 = .int .i64 n ∧ v4 = .int .i64 xi ∧ Hid (xi = (i : Int)) ∧ Hid (i + kq = k.txs.length + 1) ∧ Hid (Below W0.heap.size W0 w') ∧ Hid (0 ≤ n ∧ (n ≤ 100000 → ((90 + ((k.txs.take i).map txSz).sum : Nat) : Int) ≤ n)))
  case atStart => exact ⟨0, 0, 90, rfl, rfl, Lib.hid rfl, Lib.hid (Nat.zero_add _), Lib.hid (Below.refl _ _), Lib.hid (by simp)⟩
  case round =>
    clear hall
    obtain ⟨i, xi, n, rfl, rfl, HI, HK, HB, HS⟩ := hrel
    have c1_ := HKC.out _ HB.out
    by_cases ci : i < k.txs.length ∧ n ≤ 100000
    · have p0 : 0 ≤ xi := by rw [HI.out]; omega
      have q0 : xi < (k.txs.length : Int) := by rw [HI.out]; omega
      obtain ⟨ad, ds, A1, c1, A2, c2, rfl, hz, h1, hds, hT, hce⟩ := tx_step H.out xi p0 q0
      have hw1 : wrap64 (xi + 1) = xi + 1 := by have := F3.out.1; exact wrap64_id (by omega) (by omega)
      have hfy := F3.out.2 (rdX k.txs xi) (by
        rw [rdX, List.getD_eq_getElem?_getD, List.getElem?_eq_getElem (show xi.toNat < k.txs.length by omega)]
        exact List.getElem_mem _)
      have hst := sum_take txSz k.txs zTX i ci.1
      rw [show k.txs.getD i zTX = rdX k.txs xi from by rw [rdX, HI.out]; rfl] at hst
      obtain ⟨y, hy⟩ : ∃ y, rdX k.txs xi = y := ⟨_, rfl⟩
      rw [hy] at hds hT hfy hst
      have HSZ := Lib.hid (show ∀ W, Below W0.heap.size W0 W → Calls Try.prog 6 #[.agg ds] W fun e w' => (∃ n, e = .returned (.int .i64 n) ∧ (n ≤ 100000 → (txSz y : Int) ≤ n)) ∧ Below W.heap.size W w' from fun W hW => hds ▸ sizeB_calls y A1 c1 A2 c2 W (hT.below hW) hfy)
      obtain ⟨k1, rfl⟩ : ∃ k1, gk = k1 + 1 := ⟨gk - 1, by have := HK.out; omega⟩
      have pp := eq_true p0
      have qq := eq_true q0
      have qb : decide (xi < (k.txs.length : Int)) = true := decide_eq_true q0
      have nb : decide (n ≤ 100000) = true := decide_eq_true ci.2
      have CI := Lib.hid ci
      have HST := Lib.hid hst
      have HCE := Lib.hid hce
      have HZ := Lib.hid hz
      clear p0 q0 hy hz h1 hds hT hce hfy hst ci
      go_wp2_with (first
        | (refine wpList_load_list rfl 26 (.tmp 20) rfl (ad.add (xi.toNat * 4)) rfl ds.toList _ (HCE.out _ HB.out) Try.underlying26 rfl ?aI ?_; go_must (case aI => rw [Array.length_toList, HZ.out]; rfl); go_must (simp only [Array.toArray_toList]))
        | (go_at_call 6; go_must (refine (HSZ.out _ HB.out).mono ?_); rintro e w2 ⟨⟨m, rfl, hm⟩, hB⟩; have HM := Lib.hid hm; have n0_ := Lib.hid (below_step HB.out hB); clear HB hB hm; have HB := n0_; clear n0_)
        | (go_at_call 17; go_must (refine (more_q _ _ _).mono ?_); rintro e w3 ⟨rfl, q, rfl⟩; have n0_ := Lib.hid (pw_below_drewN HB.out q); clear HB; have HB := n0_; clear n0_))
      go_roundg k1
      case measure => exact Nat.lt_succ_self _
      case rel =>
        refine ⟨i + 1, xi + 1, _, rfl, (by first | rfl | (simp [hw1]; done)), Lib.hid (by rw [HI.out]; omega), Lib.hid (by have := HK.out; omega), HB, Lib.hid ?_⟩
        rw [HST.out]
        have := moB_le HS.out HM.out
        refine ⟨this.1, fun hn => ?_⟩
        have := this.2 hn
        omega
    · have hci : decide (xi < (k.txs.length : Int)) = false ∨ (decide (xi < (k.txs.length : Int)) = true ∧ decide (n ≤ 100000) = false) := by
        by_cases c : i < k.txs.length
        · exact Or.inr ⟨decide_eq_true (by rw [HI.out]; omega), decide_eq_false (fun hn => ci ⟨c, hn⟩)⟩
        · exact Or.inl (decide_eq_false (by rw [HI.out]; omega))
      have HS3 := Lib.hid (show n ≤ 100000 → (bkSz k : Int) ≤ n from by
        intro hn
        have h1 := HS.out.2 hn
        have h2 : ¬ i < k.txs.length := fun h => ci ⟨h, hn⟩
        rwa [List.take_of_length_le (by omega)] at h1)
      clear ci HK HI
      rcases hci with c3 | ⟨c3, c4⟩
      all_goals
        go_wp2
        go_ret
        exact ⟨⟨_, rfl, HS3.out⟩, below_step HB0.out HB.out⟩
end Go.Proofs.Ytdjchplaeipgpaa.Tx
namespace Go.Proofs.Ytdjchplaeipgpaa.Wire
open Go.RowKit Go.Proofs.YtdjchplaeipgpaaW.PrintWords Go.Proofs.YtdjchplaeipgpaaW.PrintLast Go.Proofs.Ytdjchplaeipgpaa.Reg Go.Proofs.Ytdjchplaeipgpaa.Buf Go.Proofs.Ytdjchplaeipgpaa.Tx
set_option linter.unusedSimpArgs false
set_option linter.unusedVariables false

/-- wire's header: its cells. -/
def whc (h : HD) : List Value := [.int .i32 h.v] ++ (hv h.p ++ (hv h.r ++ [.int .i64 h.t, .int .u32 h.b, .int .u32 h.n]))
theorem whc_len (h : HD) (lp : h.p.length = 32) (lr : h.r.length = 32) : (whc h).length = 68 := by simp [whc, hv_len, lp, lr]
theorem whc_one (h : HD) : ∀ v ∈ whc h, v.oneCell' = true := by
  intro v hv_
  simp only [whc, List.mem_append, List.mem_cons, List.not_mem_nil, or_false] at hv_
  rcases hv_ with rfl | h1 | h1 | rfl | rfl | rfl
  · rfl
  · exact hv_one _ v h1
  · exact hv_one _ v h1
  all_goals rfl
theorem whc_65 (h : HD) (lp : h.p.length = 32) (lr : h.r.length = 32) : (whc h)[65]? = some (.int .i64 h.t) ∧ (whc h)[66]? = some (.int .u32 h.b) ∧ (whc h)[67]? = some (.int .u32 h.n) := by
  refine ⟨?_, ?_, ?_⟩ <;> simp [whc, List.getElem?_append, List.getElem?_cons, hv_len, lp, lr]
theorem whc_p (h : HD) (j : Nat) (hj : j < h.p.length) : (whc h)[1 + j]? = (hv h.p)[j]? := by
  rw [whc, List.getElem?_append_right (by simp), show 1 + j - ([Value.int .i32 h.v] : List Value).length = j from by simp, List.getElem?_append_left (by rw [hv_len]; exact hj)]
theorem whc_r (h : HD) (lp : h.p.length = 32) (j : Nat) (hj : j < h.r.length) : (whc h)[33 + j]? = (hv h.r)[j]? := by
  rw [whc, List.getElem?_append_right (by show 1 ≤ 33 + j; omega), show 33 + j - ([Value.int .i32 h.v] : List Value).length = 32 + j from by show 33 + j - 1 = 32 + j; omega, List.getElem?_append_right (by rw [hv_len, lp]; omega), hv_len, lp, show 32 + j - 32 = j by omega, List.getElem?_append_left (by rw [hv_len]; exact hj)]
set_option maxRecDepth 100000 in
theorem built_hd (h : HD) (lp : h.p.length = 32) (lr : h.r.length = 32) : Try.prog.built 103 [(0, .int .i32 h.v), (1, .agg (hv h.p).toArray), (2, .agg (hv h.r).toArray), (3, .agg #[.int .i64 h.t]), (4, .int .u32 h.b), (5, .int .u32 h.n)] = some (whc h).toArray := by
  obtain ⟨v, p, r, t, b, n⟩ := h
  obtain ⟨a0, a1, a2, a3, a4, a5, a6, a7, a8, a9, a10, a11, a12, a13, a14, a15, a16, a17, a18, a19, a20, a21, a22, a23, a24, a25, a26, a27, a28, a29, a30, a31, rfl⟩ := list32 p lp
  obtain ⟨b0, b1, b2, b3, b4, b5, b6, b7, b8, b9, b10, b11, b12, b13, b14, b15, b16, b17, b18, b19, b20, b21, b22, b23, b24, b25, b26, b27, b28, b29, b30, b31, rfl⟩ := list32 r lr
  kernel_rfl
set_option maxRecDepth 100000 in
theorem built_bk (h : HD) (lp : h.p.length = 32) (lr : h.r.length = 32) : Try.prog.built 108 [(0, .agg (whc h).toArray)] = some (whc h ++ [Value.slice none 0 0]).toArray := by
  obtain ⟨v, p, r, t, b, n⟩ := h
  obtain ⟨a0, a1, a2, a3, a4, a5, a6, a7, a8, a9, a10, a11, a12, a13, a14, a15, a16, a17, a18, a19, a20, a21, a22, a23, a24, a25, a26, a27, a28, a29, a30, a31, rfl⟩ := list32 p lp
  obtain ⟨b0, b1, b2, b3, b4, b5, b6, b7, b8, b9, b10, b11, b12, b13, b14, b15, b16, b17, b18, b19, b20, b21, b22, b23, b24, b25, b26, b27, b28, b29, b30, b31, rfl⟩ := list32 r lr
  kernel_rfl
set_option maxHeartbeats 4000000 in
set_option maxRecDepth 100000 in
theorem unix_calls (t n : Int) (w : World) : Calls Try.prog 52 #[.int .i64 t, .int .i64 n] w fun e w' => e = .returned (.agg #[.int .i64 t]) ∧ Below w.heap.size w w' := by
  go_enter Try.func52, Try.ntmps52
  go_wp2
  refine bodyPost_ret (results_cell_row (by rfl) _ _ w.heap.size 101 #[.int .i64 t] (0, 0) _ (by rfl) (heap_alloc_new _ _) Try.underlying101 (by rfl) (by rfl)) (by rfl) (And.intro rfl ?_)
  exact below_alloc (Below.refl _ _) _
set_option maxHeartbeats 8000000 in
set_option maxRecDepth 100000 in
theorem hdOf_calls (h : HD) (lp : h.p.length = 32) (lr : h.r.length = 32) (ht : 0 ≤ h.t ∧ h.t < 4294967296) (w : World) :
    Calls Try.prog 43 #[.agg (hdc h).toArray] w fun e w' => ∃ g, e = .returned (.pointer (some ⟨g, 0, none⟩)) ∧ w'.heap[g]? = some (.cells (whc h).toArray 103 (0, 0)) ∧ Below w.heap.size w w' := by
  have hcell : ∀ (W : World), Below (w.alloc (.cells (hdc h).toArray 35)).heap.size (w.alloc (.cells (hdc h).toArray 35)) W → ∀ j v, (hdc h)[j]? = some v → W.cell? ⟨w.heap.size, j, none⟩ = some v := by
    intro W hW j v hj
    rw [blk_cell (blk_below (heap_alloc_new w _) hW) j]
    simpa using hj
  have hB0 : Below w.heap.size w (w.alloc (.cells (hdc h).toArray 35)) := below_alloc (Below.refl _ _) _
  obtain ⟨cs, hcs⟩ : ∃ cs, (hdc h).toArray = cs := ⟨_, rfl⟩
  rw [hcs] at hcell hB0 ⊢
  have hf : ∀ W, Below (w.alloc (.cells cs 35)).heap.size (w.alloc (.cells cs 35)) W → W.cell? ⟨w.heap.size, 0, none⟩ = some (.int .i32 h.v) ∧ Lies W ⟨w.heap.size, 1, none⟩ (hv h.p) ∧ Lies W ⟨w.heap.size, 33, none⟩ (hv h.r) ∧ W.cell? ⟨w.heap.size, 65, none⟩ = some (.int .u32 h.t) ∧ W.cell? ⟨w.heap.size, 66, none⟩ = some (.int .u32 h.b) ∧ W.cell? ⟨w.heap.size, 67, none⟩ = some (.int .u32 h.n) := by
    intro W hW
    refine ⟨hcell W hW 0 _ (hdc_0 h), fun j v hj => ?_, fun j v hj => ?_, hcell W hW 65 _ (hdc_65 h lp lr).1, hcell W hW 66 _ (hdc_65 h lp lr).2.1, hcell W hW 67 _ (hdc_65 h lp lr).2.2⟩
    · have hjl := (List.getElem?_eq_some_iff.1 hj).1
      rw [Addr.add_mid]
      exact hcell W hW (1 + j) v (by rw [hdc_p h j (by rwa [hv_len] at hjl)]; exact hj)
    · have hjl := (List.getElem?_eq_some_iff.1 hj).1
      rw [Addr.add_mid]
      exact hcell W hW (33 + j) v (by rw [hdc_r h lp j (by rwa [hv_len] at hjl)]; exact hj)
  have HF := Lib.hid hf
  have HB0 := Lib.hid hB0
  have LP := Lib.hid lp
  have LR := Lib.hid lr
  have hw : IntKind.i64.wrap h.t = h.t := by
    unfold IntKind.wrap
    simp [IntKind.bits, IntKind.signed]
    omega
  have BT := Lib.hid (built_hd h lp lr)
  obtain ⟨hp, hhp⟩ : ∃ a, (hv h.p).toArray = a := ⟨_, rfl⟩
  obtain ⟨hr, hhr⟩ : ∃ a, (hv h.r).toArray = a := ⟨_, rfl⟩
  obtain ⟨D, hD⟩ : ∃ D, (whc h).toArray = D := ⟨_, rfl⟩
  have HHP := Lib.hid hhp
  have HHR := Lib.hid hhr
  rw [hhp, hhr, hD] at BT
  rw [hD]
  clear hcell hB0 hf lp lr ht hcs hhp hhr hD
  have HB := Lib.hid (below_drew (Below.refl (w.alloc (.cells cs 35)).heap.size (w.alloc (.cells cs 35))))
  go_enter Try.func43, Try.ntmps43
  go_wp2
  refine start_ (n := 17) (S := fun w' => w'.cell? ⟨w.heap.size, 0, none⟩ = some (.int .i32 h.v) ∧ Lies w' ⟨w.heap.size, 1, none⟩ (hv h.p) ∧ Lies w' ⟨w.heap.size, 33, none⟩ (hv h.r) ∧ w'.cell? ⟨w.heap.size, 65, none⟩ = some (.int .u32 h.t) ∧ w'.cell? ⟨w.heap.size, 66, none⟩ = some (.int .u32 h.b) ∧ w'.cell? ⟨w.heap.size, 67, none⟩ = some (.int .u32 h.n)) (ds := []) #[false, false, false, false, false, false, false, false, false, false, false, false, false, false, false, false, false] (by kernel_rfl) rfl rfl ⟨(HF.out _ HB.out).1, (HF.out _ HB.out).2.1, (HF.out _ HB.out).2.2.1, (HF.out _ HB.out).2.2.2.1, (HF.out _ HB.out).2.2.2.2.1, (HF.out _ HB.out).2.2.2.2.2⟩ (fun hHeld => ?_)
  refine pure_ (i := 0) (N := some 3) (v := ?_) (a' := ?_) #[true, false, false, false, false, false, false, false, false, false, false, false, false, false, false, false, false] rfl rfl (by kernel_rfl) (fun _ _ _ h => h) (Or.inl ⟨by rfl, ?_⟩) ?_ ?_
  rotate_left
  · intro w'
    go_simp
    with_reducible rfl
  rotate_left
  · simp only [Act.put, List.setIfInBounds_toArray, List.set_cons_zero, List.set_cons_succ, i64_w, i32_w]
    rfl
  refine pure_ (i := 2) (N := some 5) (v := ?_) (a' := ?_) #[true, false, true, false, false, false, false, false, false, false, false, false, false, false, false, false, false] rfl rfl (by kernel_rfl) (fun _ _ _ h => h) (Or.inl ⟨by rfl, ?_⟩) ?_ ?_
  rotate_left
  · intro w'
    go_simp
    with_reducible rfl
  rotate_left
  · simp only [Act.put, List.setIfInBounds_toArray, List.set_cons_zero, List.set_cons_succ, i64_w, i32_w]
    rfl
  refine pure_ (i := 4) (N := some 7) (v := ?_) (a' := ?_) #[true, false, true, false, true, false, false, false, false, false, false, false, false, false, false, false, false] rfl rfl (by kernel_rfl) (fun _ _ _ h => h) (Or.inl ⟨by rfl, ?_⟩) ?_ ?_
  rotate_left
  · intro w'
    go_simp
    with_reducible rfl
  rotate_left
  · simp only [Act.put, List.setIfInBounds_toArray, List.set_cons_zero, List.set_cons_succ, i64_w, i32_w]
    rfl
  refine pure_ (i := 6) (N := some 9) (v := ?_) (a' := ?_) #[true, false, true, false, true, false, true, false, false, false, false, false, false, false, false, false, false] rfl rfl (by kernel_rfl) (fun _ _ _ h => h) (Or.inl ⟨by rfl, ?_⟩) ?_ ?_
  rotate_left
  · intro w'
    go_simp
    with_reducible rfl
  rotate_left
  · simp only [Act.put, List.setIfInBounds_toArray, List.set_cons_zero, List.set_cons_succ, i64_w, i32_w]
    rfl
  refine pure_ (i := 10) (N := some 13) (v := ?_) (a' := ?_) #[true, false, true, false, true, false, true, false, false, false, true, false, false, false, false, false, false] rfl rfl (by kernel_rfl) (fun _ _ _ h => h) (Or.inl ⟨by rfl, ?_⟩) ?_ ?_
  rotate_left
  · intro w'
    go_simp
    with_reducible rfl
  rotate_left
  · simp only [Act.put, List.setIfInBounds_toArray, List.set_cons_zero, List.set_cons_succ, i64_w, i32_w]
    rfl
  refine pure_ (i := 12) (N := some 15) (v := ?_) (a' := ?_) #[true, false, true, false, true, false, true, false, false, false, true, false, true, false, false, false, false] rfl rfl (by kernel_rfl) (fun _ _ _ h => h) (Or.inl ⟨by rfl, ?_⟩) ?_ ?_
  rotate_left
  · intro w'
    go_simp
    with_reducible rfl
  rotate_left
  · simp only [Act.put, List.setIfInBounds_toArray, List.set_cons_zero, List.set_cons_succ, i64_w, i32_w]
    rfl
  refine take_ (i := 1) (N := some 4) (v := ?_) (a' := ?_) #[true, true, true, false, true, false, true, false, false, false, true, false, true, false, false, false, false] rfl rfl (by kernel_rfl) (fun _ _ _ h => h) (Or.inl ⟨by rfl, ?_⟩) hHeld ?_ ?_
  rotate_left
  · rintro w' ⟨s0, s1, s2, s3, s4, s5⟩
    go_simp
    with_reducible rfl
  rotate_left
  · simp only [Act.put, List.setIfInBounds_toArray, List.set_cons_zero, List.set_cons_succ, i64_w, i32_w]
    rfl
  refine take_ (i := 3) (N := some 6) (v := ?_) (a' := ?_) #[true, true, true, true, true, false, true, false, false, false, true, false, true, false, false, false, false] rfl rfl (by kernel_rfl) (fun _ _ _ h => h) (Or.inl ⟨by rfl, ?_⟩) hHeld ?_ ?_
  rotate_left
  · rintro w' ⟨s0, s1, s2, s3, s4, s5⟩
    refine (exec_load_list 33 (.tmp 5) (by rfl) ⟨w.heap.size, 1, none⟩ (by rfl) (hv h.p) _ s1 Try.underlying33 rfl (by rw [hv_len, LP.out]; rfl)).trans ?_
    rw [HHP.out]
  rotate_left
  · simp only [Act.put, List.setIfInBounds_toArray, List.set_cons_zero, List.set_cons_succ, i64_w, i32_w]
    rfl
  refine take_ (i := 5) (N := some 8) (v := ?_) (a' := ?_) #[true, true, true, true, true, true, true, false, false, false, true, false, true, false, false, false, false] rfl rfl (by kernel_rfl) (fun _ _ _ h => h) (Or.inl ⟨by rfl, ?_⟩) hHeld ?_ ?_
  rotate_left
  · rintro w' ⟨s0, s1, s2, s3, s4, s5⟩
    refine (exec_load_list 33 (.tmp 7) (by rfl) ⟨w.heap.size, 33, none⟩ (by rfl) (hv h.r) _ s2 Try.underlying33 rfl (by rw [hv_len, LR.out]; rfl)).trans ?_
    rw [HHR.out]
  rotate_left
  · simp only [Act.put, List.setIfInBounds_toArray, List.set_cons_zero, List.set_cons_succ, i64_w, i32_w]
    rfl
  refine take_ (i := 7) (N := some 10) (v := ?_) (a' := ?_) #[true, true, true, true, true, true, true, true, false, false, true, false, true, false, false, false, false] rfl rfl (by kernel_rfl) (fun _ _ _ h => h) (Or.inl ⟨by rfl, ?_⟩) hHeld ?_ ?_
  rotate_left
  · rintro w' ⟨s0, s1, s2, s3, s4, s5⟩
    go_simp
    with_reducible rfl
  rotate_left
  · simp only [Act.put, List.setIfInBounds_toArray, List.set_cons_zero, List.set_cons_succ, i64_w, i32_w]
    rfl
  refine pure_ (i := 8) (N := some 11) (v := ?_) (a' := ?_) #[true, true, true, true, true, true, true, true, true, false, true, false, true, false, false, false, false] rfl rfl (by kernel_rfl) (fun _ _ _ h => h) (Or.inl ⟨by rfl, ?_⟩) ?_ ?_
  rotate_left
  · intro w'
    go_simp
    with_reducible rfl
  rotate_left
  · simp only [Act.put, List.setIfInBounds_toArray, List.set_cons_zero, List.set_cons_succ, i64_w, i32_w]
    rfl
  refine take_ (i := 11) (N := some 14) (v := ?_) (a' := ?_) #[true, true, true, true, true, true, true, true, true, false, true, true, true, false, false, false, false] rfl rfl (by kernel_rfl) (fun _ _ _ h => h) (Or.inl ⟨by rfl, ?_⟩) hHeld ?_ ?_
  rotate_left
  · rintro w' ⟨s0, s1, s2, s3, s4, s5⟩
    go_simp
    with_reducible rfl
  rotate_left
  · simp only [Act.put, List.setIfInBounds_toArray, List.set_cons_zero, List.set_cons_succ, i64_w, i32_w]
    rfl
  refine take_ (i := 13) (N := some 16) (v := ?_) (a' := ?_) #[true, true, true, true, true, true, true, true, true, false, true, true, true, true, false, false, false] rfl rfl (by kernel_rfl) (fun _ _ _ h => h) (Or.inl ⟨by rfl, ?_⟩) hHeld ?_ ?_
  rotate_left
  · rintro w' ⟨s0, s1, s2, s3, s4, s5⟩
    go_simp
    with_reducible rfl
  rotate_left
  · simp only [Act.put, List.setIfInBounds_toArray, List.set_cons_zero, List.set_cons_succ, i64_w, i32_w]
    rfl
  refine one_ (i := 9) (N := some 12) #[true, true, true, true, true, true, true, true, true, true, true, true, true, true, false, false, false] rfl rfl (by kernel_rfl) (by decide) (fun K hK => ?_)
  refine goes_ Try.func52 (by kernel_rfl) rfl #[.int .i64 h.t, .int .i64 0] (by rfl) rfl rfl (by simp only [List.map_toArray, List.map_cons, List.map_nil]; rfl) ?_
  with_reducible refine (unix_calls h.t 0 _).mono ?_
  rintro e w3 ⟨rfl, hB⟩
  refine ⟨_, rfl, ?_⟩
  have n0_ := Lib.hid (below_step HB.out hB); clear HB hB; have HB := n0_; clear n0_
  refine hK.out _ _ ⟨(HF.out _ HB.out).1, (HF.out _ HB.out).2.1, (HF.out _ HB.out).2.2.1, (HF.out _ HB.out).2.2.2.1, (HF.out _ HB.out).2.2.2.2.1, (HF.out _ HB.out).2.2.2.2.2⟩ (fun hHeld => ?_)
  clear hK K
  refine norm_ (a' := ?_) ?_ ?_
  rotate_left
  · show Act.put _ (some 12) _ = _
    simp only [Act.put, List.setIfInBounds_toArray, List.set_cons_zero, List.set_cons_succ, i64_w, i32_w]
    rfl
  refine pure_ (i := 14) (N := some 17) (v := ?_) (a' := ?_) #[true, true, true, true, true, true, true, true, true, true, true, true, true, true, true, false, false] rfl rfl (by kernel_rfl) (fun _ _ _ h => h) (Or.inl ⟨by rfl, ?_⟩) ?_ ?_
  rotate_left
  · intro w'
    refine (exec_made w' 103 #[(0, .tmp 4), (1, .tmp 6), (2, .tmp 8), (3, .tmp 12), (4, .tmp 14), (5, .tmp 16)] (by rfl) _ (by simp [Act.eval]) D BT.out).trans ?_
    with_reducible rfl
  rotate_left
  · simp only [Act.put, List.setIfInBounds_toArray, List.set_cons_zero, List.set_cons_succ, i64_w, i32_w]
    rfl
  refine one_ (i := 15) (N := some 18) #[true, true, true, true, true, true, true, true, true, true, true, true, true, true, true, true, false] rfl rfl (by kernel_rfl) (by decide) (fun K hK => ?_)
  refine value_ (w1 := ?_) (v := ?_) (by rfl) rfl ?_ ?_
  rotate_left 2
  · go_simp
    constructor
    · rfl
    · rfl
  refine hK.out _ _ ⟨(HF.out _ (below_alloc HB.out _)).1, (HF.out _ (below_alloc HB.out _)).2.1, (HF.out _ (below_alloc HB.out _)).2.2.1, (HF.out _ (below_alloc HB.out _)).2.2.2.1, (HF.out _ (below_alloc HB.out _)).2.2.2.2.1, (HF.out _ (below_alloc HB.out _)).2.2.2.2.2⟩ (fun hHeld => ?_)
  clear hK K
  refine norm_ (a' := ?_) ?_ ?_
  rotate_left
  · show Act.put _ (some 18) _ = _
    simp only [Act.put, List.setIfInBounds_toArray, List.set_cons_zero, List.set_cons_succ, i64_w, i32_w]
    rfl
  refine pure_ (i := 16) (N := some 2) (v := ?_) (a' := ?_) #[true, true, true, true, true, true, true, true, true, true, true, true, true, true, true, true, true] rfl rfl (by kernel_rfl) (fun _ _ _ h => h) (Or.inl ⟨by rfl, ?_⟩) ?_ ?_
  rotate_left
  · intro w'
    go_simp
    with_reducible rfl
  rotate_left
  · simp only [Act.put, List.setIfInBounds_toArray, List.set_cons_zero, List.set_cons_succ, i64_w, i32_w]
    rfl
  refine done_ (by kernel_rfl) ?_
  go_wp2
  go_ret
  exact ⟨_, rfl, heap_alloc_new _ _, below_step HB0.out (below_alloc HB.out _)⟩
end Go.Proofs.Ytdjchplaeipgpaa.Wire
namespace Go.Proofs.Ytdjchplaeipgpaa.Wire
open Go.RowKit Go.Proofs.YtdjchplaeipgpaaW.PrintWords Go.Proofs.YtdjchplaeipgpaaW.PrintLast Go.Proofs.Ytdjchplaeipgpaa.Reg Go.Proofs.Ytdjchplaeipgpaa.Buf Go.Proofs.Ytdjchplaeipgpaa.Tx
set_option linter.unusedSimpArgs false
set_option linter.unusedVariables false

/-- wire's transactions, behind pointers. -/
def kMX : Kd TX := Kd.iso (Kd.pair (Kd.int .i32) (Kd.pair (Kd.slice 83 kPI) (Kd.pair (Kd.slice 93 kPO) (Kd.int .u32)))) (fun x : TX => (x.v, x.ins, x.outs, x.k))
def kPX : Kd TX := ptr 82 kMX
theorem kMX_open {w : World} {x : TX} {cs : List Value} (h : kMX.K w x cs) : ∃ A1 c1 A2 c2, cs = [.int .i32 x.v, .slice A1 x.ins.length c1, .slice A2 x.outs.length c2, .int .u32 x.k] ∧ kPI.C w A1 x.ins.length x.ins ∧ kPO.C w A2 x.outs.length x.outs := by
  obtain ⟨_, _, rfl, rfl, _, _, rfl, ⟨A1, c1, rfl, l1, g1⟩, _, _, rfl, ⟨A2, c2, rfl, l2, g2⟩, rfl⟩ := h
  exact ⟨A1, c1, A2, c2, rfl, g1, g2⟩
theorem FK_mx_open {w : World} {F : Nat → Prop} {x : TX} {cs : List Value} (h : Kd.FK kMX w F x cs) : ∃ A1 c1 A2 c2, cs = [.int .i32 x.v, .slice A1 x.ins.length c1, .slice A2 x.outs.length c2, .int .u32 x.k] ∧ Kd.F kPI w F A1 x.ins.length x.ins ∧ Kd.F kPO w F A2 x.outs.length x.outs := by
  obtain ⟨A1, c1, A2, c2, rfl, _, _⟩ := kMX_open (Kd.FK_now h)
  have key : ∀ W', (∀ k, F k → k < w.heap.size → W'.heap[k]? = w.heap[k]?) → kPI.C W' A1 x.ins.length x.ins ∧ kPO.C W' A2 x.outs.length x.outs := by
    intro W' hW
    obtain ⟨B1, d1, B2, d2, he, g1, g2⟩ := kMX_open (h W' hW)
    injection he with _ he
    injection he with e1 he
    injection he with e2 _
    injection e1 with e1 _ _
    injection e2 with e2 _ _
    rw [e1, e2]
    exact ⟨g1, g2⟩
  exact ⟨A1, c1, A2, c2, rfl, fun W' hW => (key W' hW).1, fun W' hW => (key W' hW).2⟩
/-- A transaction that was made just now, as an element of a row of pointers. -/
theorem mx_made {w : World} {base g base' : Nat} {x : TX} {v1 v2 : Value} (h : Wx w base g x v1 v2) (hb : base' ≤ base) : kPX.M w base' (fun k => base ≤ k) x [.pointer (some ⟨g, 0, none⟩)] :=
  ⟨g, _, rfl, Nat.le_trans hb h.lo, h.lo, h.blk, [.int .i32 x.v], [v1, v2, .int .u32 x.k], rfl, rfl, [v1], [v2, .int .u32 x.k], rfl, ⟨v1, rfl, Kd.R_lower (Kd.R_mono (Kd.R_bound h.ins) (fun k hk => ⟨hk.2.1, hk.1⟩)) hb⟩, [v2], [.int .u32 x.k], rfl, ⟨v2, rfl, Kd.R_lower (Kd.R_mono (Kd.R_bound h.outs) (fun k hk => ⟨hk.2.1, hk.1⟩)) hb⟩, rfl⟩
/-- A transaction in a row of pointers that stands. -/
theorem mx_at {F : Nat → Prop} {w : World} {A : Option Addr} {n : Nat} {xs : List TX} (h : Kd.F kPX w F A n xs) (i : Int) (h0 : 0 ≤ i) (h1 : i < n) : ∃ (ad : Addr) (g : Nat) (A1 : Option Addr) (c1 : Nat) (A2 : Option Addr) (c2 : Nat), A = some ad ∧ w.cell? (ad.add i.toNat) = some (.pointer (some ⟨g, 0, none⟩)) ∧ TxF F w g (rdX xs i) A1 c1 A2 c2 := by
  obtain ⟨ad, c, e, _, hK, hc, _⟩ := Kd.F_get h zTX i h0 h1
  obtain ⟨g, b, rfl, hF, hg, hd⟩ := FK_ptr_open hK (by decide)
  obtain ⟨A1, c1, A2, c2, hb, f1, f2⟩ := FK_mx_open hd
  have := hc 0 _ rfl
  rw [show i.toNat * kPX.sz + 0 = i.toNat from Nat.mul_one _] at this
  exact ⟨ad, g, A1, c1, A2, c2, e, this, ⟨hF, by rw [hg, ← Array.toArray_toList (xs := b), hb]; rfl, f1, f2⟩⟩
theorem info_px : (Try.prog.info? 61).map (fun i => (i.zero, i.size, i.bytes)) = some (some (.pointer none), kPX.sz, 8) := by kernel_rfl
theorem nameRX {w : World} {e base : Nat} {ok : Nat → Prop} {v : Value} {xs : List TX} (h : kPX.R e w base ok v xs) : ∃ y, y = xs ∧ kPX.R e w base ok v y := ⟨xs, rfl, h⟩
/-- A block of wire's: its cells. -/
def mbc (h : HD) (v : Value) : List Value := whc h ++ [v]
theorem mbc_68 (h : HD) (v : Value) (lp : h.p.length = 32) (lr : h.r.length = 32) : (mbc h v)[68]? = some v := by
  rw [mbc, List.getElem?_append_right (Nat.le_of_eq (whc_len h lp lr)), whc_len h lp lr]; rfl
theorem mbc_set (h : HD) (v u : Value) (lp : h.p.length = 32) (lr : h.r.length = 32) : (mbc h v).toArray.setIfInBounds 68 u = (mbc h u).toArray := by
  rw [List.setIfInBounds_toArray, mbc, List.set_append_right _ _ (Nat.le_of_eq (whc_len h lp lr)), whc_len h lp lr]; rfl
/-- On the way. -/
structure Wb (w0 w : World) (B0 M : Nat) (cs : Array Value) (h : HD) (v : Value) (l : List TX) : Prop where
  B : Below w0.heap.size w0 w
  bx : w.heap[B0]? = some (.cells cs 38 (0, 0))
  blk : w.heap[M]? = some (.cells (mbc h v).toArray 108 (0, 0))
  txs : kPX.R 61 w w0.heap.size (fun k => k ≠ M ∧ k ≠ B0) v l
theorem Wb.below {w0 w w1 : World} {B0 M : Nat} {cs : Array Value} {h : HD} {v : Value} {l : List TX} (k : Wb w0 w B0 M cs h v l) (hb : Below w.heap.size w w1) : Wb w0 w1 B0 M cs h v l :=
  ⟨below_then k.B k.B.size hb, blk_below k.bx hb, blk_below k.blk hb, Kd.R_below k.txs hb⟩
theorem Wb.ne {w0 w : World} {B0 M : Nat} {cs : Array Value} {h : HD} {v : Value} {l : List TX} (k : Wb w0 w B0 M cs h v l) : some M ≠ v.ownBlock ∧ some B0 ≠ v.ownBlock := ⟨fun e => (k.txs.1 _ e.symm).1 rfl, fun e => (k.txs.1 _ e.symm).2 rfl⟩
theorem Wb.push {w0 w W w1 : World} {B0 M : Nat} {cs : Array Value} {h : HD} {v v' : Value} {l l' : List TX} (k : Wb w0 w B0 M cs h v l) (hW : Below w.heap.size w W)
    (hR : kPX.R 61 w1 w0.heap.size (fun k => k ≠ M ∧ k ≠ B0) v' l') (hB : Below w0.heap.size w0 w1) (hg : W.grownBy w1 v.ownBlock) (hM : w0.heap.size ≤ M) (hne : B0 ≠ M) (lp : h.p.length = 32) (lr : h.r.length = 32) : Wb w0 (w1.setCell ⟨M, 68, none⟩ v') B0 M cs h v' l' :=
  ⟨below_set hB hM, blk_far (blk_grown (blk_below k.bx hW) hg k.ne.2) hne _, blk_put (blk_grown (blk_below k.blk hW) hg k.ne.1) 68 v' (mbc_set h v v' lp lr), Kd.R_far hR (fun k hk => hk.1) v'⟩
/-- A block of wire's that stands. -/
structure BkF (F : Nat → Prop) (w : World) (g : Nat) (k : BK) (A : Option Addr) (c : Nat) : Prop where
  hF : F g
  blk : w.heap[g]? = some (.cells (mbc k.h (.slice A k.txs.length c)).toArray 108 (0, 0))
  txs : Kd.F kPX w F A k.txs.length k.txs
  lp : k.h.p.length = 32
  lr : k.h.r.length = 32
theorem BkF.step {F : Nat → Prop} {w w1 : World} {g : Nat} {k : BK} {A : Option Addr} {c : Nat} (h : BkF F w g k A c) (hm : ∀ k, F k → k < w.heap.size → w1.heap[k]? = w.heap[k]?) : BkF F w1 g k A c :=
  ⟨h.hF, (hm g h.hF (blk_lt h.blk)).trans h.blk, Kd.F_step h.txs hm, h.lp, h.lr⟩
theorem BkF.tr {F : Nat → Prop} {w w1 : World} {B g : Nat} {k : BK} {A : Option Addr} {c : Nat} (h : BkF F w g k A c) (t : Tr F B w w1) : BkF F w1 g k A c := h.step (fun k hk _ => t.fr k hk)
theorem BkF.below {F : Nat → Prop} {w w1 : World} {g : Nat} {k : BK} {A : Option Addr} {c : Nat} (h : BkF F w g k A c) (hb : Below w.heap.size w w1) : BkF F w1 g k A c := h.step (fun k _ hk => hb.block k hk)
theorem BkF.cell {F : Nat → Prop} {w : World} {g : Nat} {k : BK} {A : Option Addr} {c : Nat} (h : BkF F w g k A c) (j : Nat) (v : Value) (hj : (mbc k.h (.slice A k.txs.length c))[j]? = some v) : w.cell? ⟨g, j, none⟩ = some v := by
  rw [blk_cell h.blk j]; simpa using hj
set_option maxHeartbeats 16000000 in
set_option maxRecDepth 100000 in
theorem bkOf_calls (k : BK) (A : Option Addr) (c : Nat) (w : World) (h : BkIn w k A c) (ht : 0 ≤ k.h.t ∧ k.h.t < 4294967296) (hf : fit9 k.txs = true) :
    Calls Try.prog 29 #[.agg (bkc k A c).toArray] w fun e w' => ∃ g A' c', e = .returned (.pointer (some ⟨g, 0, none⟩)) ∧ BkF (fun k => w.heap.size ≤ k ∧ k < w'.heap.size) w' g k A' c' ∧ Below w.heap.size w w' := by
  have hf1 : (k.txs.length : Int) ≤ 2147483647 ∧ (∀ y ∈ k.txs, fit2 y = true) := by
    simp only [fit9, Bool.and_eq_true, decide_eq_true_eq, List.all_eq_true] at hf
    exact ⟨by have := hf.1; omega, hf.2⟩
  have hbxc : ∀ (W : World), W.heap[w.heap.size]? = some (.cells (bkc k A c).toArray 38 (0, 0)) → W.cell? ⟨w.heap.size, 68, none⟩ = some (.slice A k.txs.length c) := fun W hW => by
    rw [blk_cell hW 68]; simpa using bkc_68 k A c h.lp h.lr
  have hl : ∀ W, Below (w.alloc (.cells (bkc k A c).toArray 38)).heap.size (w.alloc (.cells (bkc k A c).toArray 38)) W → Lies W ⟨w.heap.size, 0, none⟩ (hdc k.h).toArray.toList := by
    intro W hW j v hj
    have hj : (hdc k.h)[j]? = some v := hj
    have hjl := (List.getElem?_eq_some_iff.1 hj).1
    rw [Addr.add_mid, Nat.zero_add, blk_cell (blk_below (heap_alloc_new w _) hW) j]
    simp only [List.getElem?_toArray]
    rw [bkc, List.getElem?_append_left hjl]; exact hj
  have hhd := hdOf_calls k.h h.lp h.lr ht
  have hbt := built_bk k.h h.lp h.lr
  obtain ⟨hs, hhs⟩ : ∃ hs, (hdc k.h).toArray = hs := ⟨_, rfl⟩
  obtain ⟨ws, hws⟩ : ∃ ws, (whc k.h).toArray = ws := ⟨_, rfl⟩
  obtain ⟨D0, hD0⟩ : ∃ D, (mbc k.h (.slice none 0 0)).toArray = D := ⟨_, rfl⟩
  obtain ⟨cs, hcs⟩ : ∃ cs, (bkc k A c).toArray = cs := ⟨_, rfl⟩
  have HZH := Lib.hid (show hs.size = 68 from by rw [← hhs]; simpa using hdc_len k.h h.lp h.lr)
  have HZW := Lib.hid (show ws.size = 68 from by rw [← hws]; simpa using whc_len k.h h.lp h.lr)
  rw [hcs] at hl hbxc ⊢
  rw [hhs] at hl hhd
  rw [hws] at hhd hbt
  change Try.prog.built 108 _ = some (mbc k.h (.slice none 0 0)).toArray at hbt
  rw [hD0] at hbt
  have HBT := Lib.hid hbt
  have HHD := Lib.hid hhd
  have HL := Lib.hid hl
  have HBX := Lib.hid hbxc
  have HD0 := Lib.hid hD0
  have HA := Lib.hid h.g
  have LP := Lib.hid h.lp
  have LR := Lib.hid h.lr
  have HFI := Lib.hid hf1
  have W0 := Lib.hid (show Below w.heap.size w (w.alloc (.cells cs 38)) from below_alloc (Below.refl _ _) _)
  have hws2 : ∀ (W : World) (g : Nat), W.heap[g]? = some (.cells ws 103 (0, 0)) → Lies W ⟨g, 0, none⟩ ws.toList := fun W g hW => by
    intro j v hj
    rw [Addr.add_mid, Nat.zero_add, blk_cell hW j]; simpa using hj
  have HWS := Lib.hid hws2
  clear hf hf1 hbxc hl hhd hbt hhs hws hD0 hcs hws2 ht h
  go_enter Try.func29, Try.ntmps29
  go_wp2_with (first
    | (refine wpList_load_list rfl 35 (.tmp 5) rfl ⟨w.heap.size, 0, none⟩ rfl hs.toList _ (HL.out _ (Below.refl _ _)) Try.underlying35 rfl ?aI ?_; go_must (case aI => rw [Array.length_toList, HZH.out]; rfl); go_must (simp only [Array.toArray_toList]))
    | (go_at_call 43; go_must (refine (HHD.out _).mono ?_); rintro e w1 ⟨g, rfl, hgb, hB⟩; have HGB := Lib.hid hgb; have HB := Lib.hid hB; clear hgb hB)
    | (refine wpList_load_list rfl 103 (.tmp 8) rfl ⟨g, 0, none⟩ rfl ws.toList _ (HWS.out _ g HGB.out) Try.underlying103 rfl ?aI ?_; go_must (case aI => rw [Array.length_toList, HZW.out]; rfl); go_must (simp only [Array.toArray_toList]))
    | ((with_reducible refine gate_dst (N := 10) rfl ?_); refine wpList_made rfl 108 #[(0, .tmp 9)] rfl [(0, .agg ws)] ?aX D0 HBT.out ?_; (case aX => simp [Act.eval, Act.put])))
  have HMlt := Lib.hid (show w.heap.size < w1.heap.size from Nat.lt_of_lt_of_le (blk_lt (heap_alloc_new w (.cells cs 38))) HB.out.size)
  go_loopg [4] (k.txs.length + 1) (fun kq v4 w' => ∃ (i : Nat) (xi : Int) (v : Value), v4 = .int .i64 xi ∧ Hid (xi = (i : Int)) ∧ Hid (i + kq = k.txs.length + 1) ∧ Hid (Wb w w' w.heap.size w1.heap.size cs k.h v (k.txs.take i)))
  case atStart =>
    refine ⟨0, 0, .slice none 0 0, rfl, Lib.hid rfl, Lib.hid (Nat.zero_add _), Lib.hid ⟨below_alloc (below_step W0.out HB.out) _, blk_alloc (blk_below (heap_alloc_new w _) HB.out) _, by rw [HD0.out]; exact heap_alloc_new _ _, Kd.R_nil _ _ _ _ _⟩⟩
  case round =>
    obtain ⟨i, xi, v, rfl, HI, HK, HP⟩ := hrel
    have c1_ := HBX.out _ HP.out.bx
    by_cases ci : i < k.txs.length
    · have p0 : 0 ≤ xi := by rw [HI.out]; omega
      have q0 : xi < (k.txs.length : Int) := by rw [HI.out]; omega
      obtain ⟨ad, ds, A1, c1, A2, c2, rfl, hz, ho1, hds, hT, hce⟩ := tx_step HA.out xi p0 q0
      have hw1 : wrap64 (xi + 1) = xi + 1 := by have := HFI.out.1; exact wrap64_id (by omega) (by omega)
      have hfy := HFI.out.2 (rdX k.txs xi) (by
        rw [rdX, List.getD_eq_getElem?_getD, List.getElem?_eq_getElem (show xi.toNat < k.txs.length by omega)]
        exact List.getElem_mem _)
      have htk : k.txs.take (i + 1) = k.txs.take i ++ [rdX k.txs xi] := by
        rw [List.take_add_one, HI.out, rdX]; simp [ci]
      obtain ⟨y, hy⟩ : ∃ y, rdX k.txs xi = y := ⟨_, rfl⟩
      rw [hy] at hds hT hfy htk
      have HOF := Lib.hid (show ∀ W, Below w.heap.size w W → Calls Try.prog 18 #[.agg ds] W fun e w' => ∃ g v1 v2, e = .returned (.pointer (some ⟨g, 0, none⟩)) ∧ Wx w' W.heap.size g y v1 v2 ∧ Below W.heap.size W w' from fun W hW => hds ▸ of_calls y A1 c1 A2 c2 W (hT.below hW) hfy)
      obtain ⟨k1, rfl⟩ : ∃ k1, gk = k1 + 1 := ⟨gk - 1, by have := HK.out; omega⟩
      have pp := eq_true p0
      have qq := eq_true q0
      have qb : decide (xi < (k.txs.length : Int)) = true := decide_eq_true q0
      have HTK := Lib.hid htk
      have HZD := Lib.hid hz
      have CI := Lib.hid ci
      have HOK := Lib.hid (show ∀ k, wr.heap.size ≤ k → (k ≠ w1.heap.size ∧ k ≠ w.heap.size) ∧ some k ≠ v.ownBlock from fun k hk => ⟨⟨by have := blk_lt HP.out.blk; omega, by have := blk_lt HP.out.bx; omega⟩, fun e => by have := Kd.R_lt HP.out.txs k e.symm; omega⟩)
      have HOK2 := Lib.hid (show ∀ k, wr.heap.size ≤ k → (k ≠ w1.heap.size ∧ k ≠ w.heap.size) from fun k hk => (HOK.out k hk).1)
      have HP6 := Lib.hid (HP.out.below (below_drew (Below.refl _ _)))
      have hs_ : ∀ W' : World, Below w.heap.size w W' → W'.heap[w1.heap.size]? = some (.cells (mbc k.h v).toArray 108 (0, 0)) → W'.heap[w.heap.size]? = some (.cells cs 38 (0, 0)) → W'.cell? ⟨w1.heap.size, 68, none⟩ = some v ∧ W'.cell? ⟨w.heap.size, 68, none⟩ = some (.slice (some ad) k.txs.length c) ∧ Lies W' (ad.add (xi.toNat * 4)) ds.toList := by
        intro W' hb h1 h2
        refine ⟨by rw [blk_cell h1 68]; simpa using mbc_68 k.h v LP.out LR.out, HBX.out _ h2, hce _ hb⟩
      have HS := Lib.hid hs_
      clear hs_ hce hz ho1 hy hds hT hfy htk p0 q0 ci
      go_wp2
      refine start_ (n := 16) (S := fun w' => w'.cell? ⟨w1.heap.size, 68, none⟩ = some v ∧ w'.cell? ⟨w.heap.size, 68, none⟩ = some (.slice (some ad) k.txs.length c) ∧ Lies w' (ad.add (xi.toNat * 4)) ds.toList) (ds := [15]) #[false, false, false, false, false, false, false, false, false, false, false, false, false, false, false, false] (by kernel_rfl) rfl rfl ⟨(HS.out _ HP6.out.B HP6.out.blk HP6.out.bx).1, (HS.out _ HP6.out.B HP6.out.blk HP6.out.bx).2.1, (HS.out _ HP6.out.B HP6.out.blk HP6.out.bx).2.2⟩ (fun hHeld => ?_)
      refine pure_ (i := 0) (N := some 19) (v := ?_) (a' := ?_) #[true, false, false, false, false, false, false, false, false, false, false, false, false, false, false, false] rfl rfl (by kernel_rfl) (fun _ _ _ h => h) (Or.inl ⟨by rfl, ?_⟩) ?_ ?_
      rotate_left
      · intro w'
        go_simp
        with_reducible rfl
      rotate_left
      · simp only [Act.put, List.setIfInBounds_toArray, List.set_cons_zero, List.set_cons_succ, i64_w, i32_w]
        rfl
      refine pure_ (i := 1) (N := some 20) (v := ?_) (a' := ?_) #[true, true, false, false, false, false, false, false, false, false, false, false, false, false, false, false] rfl rfl (by kernel_rfl) (fun _ _ _ h => h) (Or.inl ⟨by rfl, ?_⟩) ?_ ?_
      rotate_left
      · intro w'
        go_simp
        with_reducible rfl
      rotate_left
      · simp only [Act.put, List.setIfInBounds_toArray, List.set_cons_zero, List.set_cons_succ, i64_w, i32_w]
        rfl
      refine pure_ (i := 2) (N := some 21) (v := ?_) (a' := ?_) #[true, true, true, false, false, false, false, false, false, false, false, false, false, false, false, false] rfl rfl (by kernel_rfl) (fun _ _ _ h => h) (Or.inl ⟨by rfl, ?_⟩) ?_ ?_
      rotate_left
      · intro w'
        go_simp
        with_reducible rfl
      rotate_left
      · simp only [Act.put, List.setIfInBounds_toArray, List.set_cons_zero, List.set_cons_succ, i64_w, i32_w]
        rfl
      refine pure_ (i := 3) (N := some 22) (v := ?_) (a' := ?_) #[true, true, true, true, false, false, false, false, false, false, false, false, false, false, false, false] rfl rfl (by kernel_rfl) (fun _ _ _ h => h) (Or.inl ⟨by rfl, ?_⟩) ?_ ?_
      rotate_left
      · intro w'
        go_simp
        with_reducible rfl
      rotate_left
      · simp only [Act.put, List.setIfInBounds_toArray, List.set_cons_zero, List.set_cons_succ, i64_w, i32_w]
        rfl
      refine pure_ (i := 5) (N := some 24) (v := ?_) (a' := ?_) #[true, true, true, true, false, true, false, false, false, false, false, false, false, false, false, false] rfl rfl (by kernel_rfl) (fun _ _ _ h => h) (Or.inl ⟨by rfl, ?_⟩) ?_ ?_
      rotate_left
      · intro w'
        go_simp
        with_reducible rfl
      rotate_left
      · simp only [Act.put, List.setIfInBounds_toArray, List.set_cons_zero, List.set_cons_succ, i64_w, i32_w]
        rfl
      refine pure_ (i := 7) (N := some 26) (v := ?_) (a' := ?_) #[true, true, true, true, false, true, false, true, false, false, false, false, false, false, false, false] rfl rfl (by kernel_rfl) (fun _ _ _ h => h) (Or.inl ⟨by rfl, ?_⟩) ?_ ?_
      rotate_left
      · intro w'
        go_simp
        with_reducible rfl
      rotate_left
      · simp only [Act.put, List.setIfInBounds_toArray, List.set_cons_zero, List.set_cons_succ, i64_w, i32_w]
        rfl
      refine take_ (i := 4) (N := some 23) (v := ?_) (a' := ?_) #[true, true, true, true, true, true, false, true, false, false, false, false, false, false, false, false] rfl rfl (by kernel_rfl) (fun _ _ _ h => h) (Or.inl ⟨by rfl, ?_⟩) hHeld ?_ ?_
      rotate_left
      · rintro w' ⟨s0, s1, s2⟩
        go_simp
        with_reducible rfl
      rotate_left
      · simp only [Act.put, List.setIfInBounds_toArray, List.set_cons_zero, List.set_cons_succ, i64_w, i32_w]
        rfl
      refine take_ (i := 6) (N := some 25) (v := ?_) (a' := ?_) #[true, true, true, true, true, true, true, true, false, false, false, false, false, false, false, false] rfl rfl (by kernel_rfl) (fun _ _ _ h => h) (Or.inl ⟨by rfl, ?_⟩) hHeld ?_ ?_
      rotate_left
      · rintro w' ⟨s0, s1, s2⟩
        go_simp
        with_reducible rfl
      rotate_left
      · simp only [Act.put, List.setIfInBounds_toArray, List.set_cons_zero, List.set_cons_succ, i64_w, i32_w]
        rfl
      refine pure_ (i := 8) (N := some 27) (v := ?_) (a' := ?_) #[true, true, true, true, true, true, true, true, true, false, false, false, false, false, false, false] rfl rfl (by kernel_rfl) (fun _ _ _ h => h) (Or.inl ⟨by rfl, ?_⟩) ?_ ?_
      rotate_left
      · intro w'
        go_simp
        with_reducible rfl
      rotate_left
      · simp only [Act.put, List.setIfInBounds_toArray, List.set_cons_zero, List.set_cons_succ, i64_w, i32_w]
        rfl
      refine take_ (i := 9) (N := some 28) (v := ?_) (a' := ?_) #[true, true, true, true, true, true, true, true, true, true, false, false, false, false, false, false] rfl rfl (by kernel_rfl) (fun _ _ _ h => h) (Or.inl ⟨by rfl, ?_⟩) hHeld ?_ ?_
      rotate_left
      · rintro w' ⟨s0, s1, s2⟩
        refine (exec_load_list 26 (.tmp 27) (by rfl) (ad.add (xi.toNat * 4)) (by rfl) ds.toList _ s2 Try.underlying26 rfl (by rw [Array.length_toList, HZD.out]; rfl)).trans ?_
        with_reducible rfl
      rotate_left
      · simp only [Act.put, List.setIfInBounds_toArray, List.set_cons_zero, List.set_cons_succ, i64_w, i32_w]
        rfl
      refine one_ (i := 10) (N := some 29) #[true, true, true, true, true, true, true, true, true, true, true, false, false, false, false, false] rfl rfl (by kernel_rfl) (by decide) (fun K hK => ?_)
      refine goes_ Try.func18 (by kernel_rfl) rfl #[.agg ds] (by rfl) rfl rfl (by simp only [List.map_toArray, List.map_cons, List.map_nil]; rfl) ?_
      with_reducible refine (HOF.out _ HP6.out.B).mono ?_
      rintro e w7 ⟨g7, u1, u2, rfl, hX, hB⟩
      refine ⟨_, rfl, ?_⟩
      have HXW := Lib.hid hX
      have HLO := Lib.hid (show wr.heap.size ≤ w7.heap.size from hB.size)
      have n0_ := Lib.hid (HP6.out.below hB)
      clear HP6 hX hB; have HP6 := n0_; clear n0_
      refine hK.out _ _ ⟨(HS.out _ HP6.out.B HP6.out.blk HP6.out.bx).1, (HS.out _ HP6.out.B HP6.out.blk HP6.out.bx).2.1, (HS.out _ HP6.out.B HP6.out.blk HP6.out.bx).2.2⟩ (fun hHeld => ?_)
      clear hK K
      refine norm_ (a' := ?_) ?_ ?_
      rotate_left
      · show Act.put _ (some 29) _ = _
        simp only [Act.put, List.setIfInBounds_toArray, List.set_cons_zero, List.set_cons_succ, i64_w, i32_w]
        rfl
      refine one_ (i := 11) (N := some 30) #[true, true, true, true, true, true, true, true, true, true, true, true, false, false, false, false] rfl rfl (by kernel_rfl) (by decide) (fun K hK => ?_)
      refine value_ (w1 := ?_) (v := ?_) (by rfl) rfl ?_ ?_
      rotate_left 2
      · go_simp
        constructor
        · rfl
        · rfl
      refine hK.out _ _ ⟨(HS.out _ (below_alloc HP6.out.B _) (blk_alloc HP6.out.blk _) (blk_alloc HP6.out.bx _)).1, (HS.out _ (below_alloc HP6.out.B _) (blk_alloc HP6.out.blk _) (blk_alloc HP6.out.bx _)).2.1, (HS.out _ (below_alloc HP6.out.B _) (blk_alloc HP6.out.blk _) (blk_alloc HP6.out.bx _)).2.2⟩ (fun hHeld => ?_)
      clear hK K
      refine norm_ (a' := ?_) ?_ ?_
      rotate_left
      · show Act.put _ (some 30) _ = _
        simp only [Act.put, List.setIfInBounds_toArray, List.set_cons_zero, List.set_cons_succ, i64_w, i32_w]
        rfl
      refine one_ (i := 12) (N := some 31) #[true, true, true, true, true, true, true, true, true, true, true, true, true, false, false, false] rfl rfl (by kernel_rfl) (by decide) (fun K hK => ?_)
      refine Kd.R_append_step kPX (w0 := w) w.heap.size (by rfl) (.tmp 23) (.tmp 30) 106 61 (.pointer none) 8 rfl Try.underlying106 info_px rfl (by decide) (by omega) v (k.txs.take i) y [.pointer (some ⟨g7, 0, none⟩)] (fun k => k ≠ w1.heap.size ∧ k ≠ w.heap.size) (fun k => wr.heap.size ≤ k) (by rfl) (by simp [Act.eval]) (mx_made HXW.out (show w.heap.size ≤ wr.heap.size from HP.out.B.size)) (fun k hk => HOK.out k hk) (fun k hk => HOK2.out k (Nat.le_trans HLO.out (by simpa using hk))) HP6.out.txs HP6.out.B (below_size HP6.out.B) (by have := HFI.out.1; rw [List.length_take]; omega) ?_
      intro v_ w_ ho_ hb hg hat
      obtain ⟨l_, hq, ho⟩ := nameRX ho_; have N1 := Lib.hid hq; clear hq ho_; obtain ⟨A_, c_, rfl⟩ := Kd.R_slice ho
      have hM_ := blk_grown HP6.out.blk hg HP6.out.ne.1
      have z0_ : w_.cell? ⟨w1.heap.size, 68, none⟩ = some v := by rw [blk_cell hM_ 68]; simpa using mbc_68 k.h v LP.out LR.out
      have zf_ := blk_frozen hM_ 68
      have HM_ := Lib.hid hM_; have HG_ := Lib.hid (blk_grown HP6.out.bx hg HP6.out.ne.2); have HB_ := Lib.hid hb
      have HPN := Lib.hid (HP6.out.push (Below.refl _ _) ho hb hg (Nat.le_of_lt HMlt.out) (Nat.ne_of_lt HMlt.out) LP.out LR.out)
      clear HP6 HXW ho hb hg hat hM_
      refine hK.out _ _ ⟨(HS.out _ HB_.out HM_.out HG_.out).1, (HS.out _ HB_.out HM_.out HG_.out).2.1, (HS.out _ HB_.out HM_.out HG_.out).2.2⟩ (fun hHeld => ?_)
      clear hK K
      refine norm_ (a' := ?_) ?_ ?_
      rotate_left
      · show Act.put _ (some 31) _ = _
        simp only [Act.put, List.setIfInBounds_toArray, List.set_cons_zero, List.set_cons_succ, i64_w, i32_w]
        rfl
      refine pure_ (i := 13) (N := some 32) (v := ?_) (a' := ?_) #[true, true, true, true, true, true, true, true, true, true, true, true, true, true, false, false] rfl rfl (by kernel_rfl) (fun _ _ _ h => h) (Or.inl ⟨by rfl, ?_⟩) ?_ ?_
      rotate_left
      · intro w'
        go_simp
        with_reducible rfl
      rotate_left
      · simp only [Act.put, List.setIfInBounds_toArray, List.set_cons_zero, List.set_cons_succ, i64_w, i32_w]
        rfl
      refine pure_ (i := 14) (N := some 33) (v := ?_) (a' := ?_) #[true, true, true, true, true, true, true, true, true, true, true, true, true, true, true, false] rfl rfl (by kernel_rfl) (fun _ _ _ h => h) (Or.inl ⟨by rfl, ?_⟩) ?_ ?_
      rotate_left
      · intro w'
        go_simp
        with_reducible rfl
      rotate_left
      · simp only [Act.put, List.setIfInBounds_toArray, List.set_cons_zero, List.set_cons_succ, i64_w, i32_w]
        rfl
      refine last_ (i := 15) (N := none) #[true, true, true, true, true, true, true, true, true, true, true, true, true, true, true, true] rfl rfl (by kernel_rfl) (by decide) (fun K hK => ?_)
      refine skip_ (w1 := ?_) (by rfl) rfl ?_ ?_
      rotate_left
      · go_simp
        rfl
      refine hK.out _ _ ?_
      clear hK K
      refine done_ (by kernel_rfl) ?_
      have HPM := Lib.hid (show Wb w _ w.heap.size w1.heap.size cs k.h _ (k.txs.take (i + 1)) from by rw [HTK.out, ← N1.out]; exact HPN.out)
      clear HPN N1 HM_ HG_ HB_ HS HP HLO z0_ zf_
      go_wp2
      go_roundg k1
      case measure => exact Nat.lt_succ_self _
      case rel => exact ⟨i + 1, xi + 1, _, (by first | rfl | (simp [hw1]; done)), Lib.hid (by rw [HI.out]; omega), Lib.hid (by have := HK.out; omega), HPM⟩
    · have qb : decide (xi < (k.txs.length : Int)) = false := decide_eq_false (by rw [HI.out]; omega)
      have HP2 := Lib.hid (show Wb w wr w.heap.size w1.heap.size cs k.h v k.txs from by
        have := HP.out
        rwa [List.take_of_length_le (by omega)] at this)
      clear ci HP HK HI
      go_wp2
      go_ret
      obtain ⟨A', c', rfl, _, _⟩ := Kd.R_reads HP2.out.txs
      refine ⟨w1.heap.size, A', c', rfl, ⟨⟨Nat.le_of_lt HMlt.out, blk_lt HP2.out.blk⟩, HP2.out.blk, Kd.F_mono (Kd.R_F (Kd.R_bound HP2.out.txs)) (fun k hk => ⟨hk.2.1, hk.2.2.1⟩), LP.out, LR.out⟩, HP2.out.B⟩
end Go.Proofs.Ytdjchplaeipgpaa.Wire
