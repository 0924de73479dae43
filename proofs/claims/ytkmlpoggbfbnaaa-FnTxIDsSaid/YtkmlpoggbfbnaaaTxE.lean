/-
  A transaction of wire's is encoded.
-/
import Derived.Test.YtkmlpoggbfbnaaaTxF
namespace Go.Proofs.Ytkmlpoggbfbnaaa.Wire
open Go.RowKit Go.Proofs.YtkmlpoggbfbnaaaW.PrintWords Go.Proofs.YtkmlpoggbfbnaaaW.PrintLast Go.Proofs.Ytkmlpoggbfbnaaa.Reg Go.Proofs.Ytkmlpoggbfbnaaa.Buf Go.Proofs.Ytkmlpoggbfbnaaa.Tx
set_option linter.unusedSimpArgs false
set_option linter.unusedVariables false

/-- A transaction as bytes, with its witnesses or without. -/
def txB (x : TX) (b : Bool) : List Int :=
  le 4 (x.v % 4294967296) ++ ((if b then [0, 1] else []) ++ (vi x.ins.length ++ ((x.ins.map inB).flatten ++ (vi x.outs.length ++ ((x.outs.map outB).flatten ++ ((if b then (x.ins.map (fun y => witB y.w)).flatten else []) ++ le 4 x.k))))))
/-- Its numbers. -/
structure Nums (x : TX) : Prop where
  i : ∀ y ∈ x.ins, (0 ≤ y.i ∧ y.i < 4294967296) ∧ (0 ≤ y.q ∧ y.q < 4294967296) ∧ y.w.length ≤ 2147483647
  k : 0 ≤ x.k ∧ x.k < 4294967296
  n1 : x.ins.length ≤ 2147483647
  n2 : x.outs.length ≤ 2147483647
/-- Its bytes' number, but for few. -/
def txN (x : TX) : Nat := (x.ins.map inB).flatten.length + (x.outs.map outB).flatten.length + (x.ins.map fun y => witB y.w).flatten.length
theorem rd_mem (l : List TI) (i : Int) (h0 : 0 ≤ i) (h1 : i < l.length) : rdT l i ∈ l := by
  rw [rdT, List.getD_eq_getElem?_getD, List.getElem?_eq_getElem (show i.toNat < l.length by omega)]
  exact List.getElem_mem _
theorem st_eq {F : Nat → Prop} {B b s : Nat} {v : Value} {l l' : List Int} {w : World} (h : St F B b s v l w) (e : l = l') : St F B b s v l' w := e ▸ h
set_option maxHeartbeats 16000000 in
set_option maxRecDepth 100000 in
theorem enc_w {F : Nat → Prop} {B b s : Nat} {v : Value} {l : List Int} {w : World} (h : St F B b s v l w) (p : Int) (g : Nat) (x : TX) {A1 : Option Addr} {c1 : Nat} {A2 : Option Addr} {c2 : Nat} (hx : TxF F w g x A1 c1 A2 c2) (hg : Nums x) (hlim : l.length + txN x + 256 ≤ 6000000) (hb : hasW x.ins = true) :
    Calls Try.prog 51 #[.pointer (some ⟨g, 0, none⟩), Wr b, .int .u32 p, .int .u32 2, .slice (some ⟨s, 0, none⟩) 8 8] w fun e w' => e = .returned .nilIface ∧ ∃ v', St F B b s v' (l ++ txB x true) w' ∧ Tr F B w w' := by
  have H2 := Lib.hid (h.below (below_drew (Below.refl _ _)))
  have T2 := Lib.hid (h.tr_below (below_drew (Below.refl _ _)))
  have HX := Lib.hid hx
  have HG := Lib.hid hg
  have HL := Lib.hid hlim
  obtain ⟨L1, hL1⟩ : ∃ L1, L1 = (x.ins.map inB).flatten.length := ⟨_, rfl⟩
  obtain ⟨L2, hL2⟩ : ∃ L2, L2 = (x.outs.map outB).flatten.length := ⟨_, rfl⟩
  obtain ⟨L3, hL3⟩ : ∃ L3, L3 = (x.ins.map fun y => witB y.w).flatten.length := ⟨_, rfl⟩
  have HL1 := Lib.hid hL1
  have HL2 := Lib.hid hL2
  have HL3 := Lib.hid hL3
  have HLM := Lib.hid (show l.length + L1 + L2 + L3 + 256 ≤ 6000000 by rw [hL1, hL2, hL3]; unfold txN at hlim; omega)
  have hc : ∀ W, Tr F B w W → W.cell? ⟨g, 0, none⟩ = some (.int .i32 x.v) ∧ W.cell? ⟨g, 1, none⟩ = some (.slice A1 x.ins.length c1) ∧ W.cell? ⟨g, 2, none⟩ = some (.slice A2 x.outs.length c2) ∧ W.cell? ⟨g, 3, none⟩ = some (.int .u32 x.k) := fun W hW =>
    ⟨(blk_cell (hx.tr hW).blk 0).trans rfl, (blk_cell (hx.tr hW).blk 1).trans rfl, (blk_cell (hx.tr hW).blk 2).trans rfl, (blk_cell (hx.tr hW).blk 3).trans rfl⟩
  have HC := Lib.hid hc
  obtain ⟨xv, hxv⟩ : ∃ xv, x.v % 4294967296 = xv := ⟨_, rfl⟩
  have hw : IntKind.u32.wrap x.v = xv := by rw [← hxv]; unfold IntKind.wrap; simp [IntKind.bits, IntKind.signed]
  have HXV := Lib.hid hxv
  have HX0 := Lib.hid (show 0 ≤ xv by omega)
  have HX1 := Lib.hid (show xv < 4294967296 by omega)
  have hw1 : IntKind.u64.wrap (x.ins.length : Int) = x.ins.length := by have := hg.n1; unfold IntKind.wrap; simp [IntKind.bits, IntKind.signed]; omega
  have hw2 : (x.ins.length : Int) % 18446744073709551616 = x.ins.length := by have := hg.n1; omega
  have hw3 : IntKind.u64.wrap (x.outs.length : Int) = x.outs.length := by have := hg.n2; unfold IntKind.wrap; simp [IntKind.bits, IntKind.signed]; omega
  have hw4 : (x.outs.length : Int) % 18446744073709551616 = x.outs.length := by have := hg.n2; omega
  obtain ⟨D0, hD0⟩ : ∃ D0, D0 = l ++ le 4 xv := ⟨_, rfl⟩
  obtain ⟨D1, hD1⟩ : ∃ D1, D1 = D0 ++ ((if true then [0, 1] else []) ++ vi x.ins.length) := ⟨_, rfl⟩
  obtain ⟨D2, hD2⟩ : ∃ D2, D2 = D1 ++ (x.ins.map inB).flatten := ⟨_, rfl⟩
  obtain ⟨D3, hD3⟩ : ∃ D3, D3 = D2 ++ vi x.outs.length := ⟨_, rfl⟩
  obtain ⟨D4, hD4⟩ : ∃ D4, D4 = D3 ++ (x.outs.map outB).flatten := ⟨_, rfl⟩
  obtain ⟨D5, hD5⟩ : ∃ D5, D5 = D4 ++ (if true then (x.ins.map (fun y => witB y.w)).flatten else []) := ⟨_, rfl⟩
  have e0 : D0.length = l.length + 4 := by rw [hD0, List.length_append, le_len]
  have e1 : D1.length ≤ l.length + 15 := by have := vi_len x.ins.length; rw [hD1, List.length_append, List.length_append, e0]; split <;> simp <;> omega
  have e2 : D2.length ≤ l.length + L1 + 15 := by rw [hD2, List.length_append, ← hL1]; omega
  have e3 : D3.length ≤ l.length + L1 + 24 := by have := vi_len x.outs.length; rw [hD3, List.length_append]; omega
  have e4 : D4.length ≤ l.length + L1 + L2 + 24 := by rw [hD4, List.length_append, ← hL2]; omega
  have e5 : D5.length ≤ l.length + L1 + L2 + L3 + 24 := by rw [hD5, List.length_append]; split <;> first | omega | (rw [List.length_nil]; omega)
  have HE0 := Lib.hid e0
  have HE1 := Lib.hid e1
  have HE2 := Lib.hid e2
  have HE3 := Lib.hid e3
  have HE4 := Lib.hid e4
  have HE5 := Lib.hid e5
  have HD0 := Lib.hid hD0
  have HD1 := Lib.hid hD1
  have HD2 := Lib.hid hD2
  have HD3 := Lib.hid hD3
  have HD4 := Lib.hid hD4
  have HD5 := Lib.hid hD5
  have hdone : l ++ txB x true = D5 ++ le 4 x.k := by rw [hD5, hD4, hD3, hD2, hD1, hD0, txB, hxv]; simp only [List.append_assoc]
  have HDone := Lib.hid hdone
  have HBW := Lib.hid hb; clear hb
  clear h hx hg hlim hL1 hL2 hL3 hc hxv hD0 hD1 hD2 hD3 hD4 hD5 e0 e1 e2 e3 e4 e5 hdone
  go_enter Try.func51, Try.ntmps51
  go_wp2
  refine start_ (n := 9) (S := fun w' => w'.cell? ⟨g, 0, none⟩ = some (.int .i32 x.v)) (ds := []) #[false, false, false, false, false, false, false, false, false] (by kernel_rfl) rfl rfl ((HC.out _ T2.out).1) (fun hHeld => ?_)
  refine pure_ (i := 1) (N := some 25) (v := ?_) (a' := ?_) #[false, true, false, false, false, false, false, false, false] rfl rfl (by kernel_rfl) (fun _ _ _ h => h) (Or.inl ⟨by rfl, ?_⟩) ?_ ?_
  rotate_left
  · intro w'
    go_simp
    with_reducible rfl
  rotate_left
  · simp only [Act.put, List.setIfInBounds_toArray, List.set_cons_zero, List.set_cons_succ, i64_w, i32_w]
    rfl
  refine pure_ (i := 2) (N := some 26) (v := ?_) (a' := ?_) #[false, true, true, false, false, false, false, false, false] rfl rfl (by kernel_rfl) (fun _ _ _ h => h) (Or.inl ⟨by rfl, ?_⟩) ?_ ?_
  rotate_left
  · intro w'
    go_simp
    with_reducible rfl
  rotate_left
  · simp only [Act.put, List.setIfInBounds_toArray, List.set_cons_zero, List.set_cons_succ, i64_w, i32_w]
    rfl
  refine pure_ (i := 3) (N := some 27) (v := ?_) (a' := ?_) #[false, true, true, true, false, false, false, false, false] rfl rfl (by kernel_rfl) (fun _ _ _ h => h) (Or.inl ⟨by rfl, ?_⟩) ?_ ?_
  rotate_left
  · intro w'
    go_simp
    with_reducible rfl
  rotate_left
  · simp only [Act.put, List.setIfInBounds_toArray, List.set_cons_zero, List.set_cons_succ, i64_w, i32_w]
    rfl
  refine pure_ (i := 4) (N := some 28) (v := ?_) (a' := ?_) #[false, true, true, true, true, false, false, false, false] rfl rfl (by kernel_rfl) (fun _ _ _ h => h) (Or.inl ⟨by rfl, ?_⟩) ?_ ?_
  rotate_left
  · intro w'
    go_simp
    with_reducible rfl
  rotate_left
  · simp only [Act.put, List.setIfInBounds_toArray, List.set_cons_zero, List.set_cons_succ, i64_w, i32_w]
    rfl
  refine pure_ (i := 5) (N := some 29) (v := ?_) (a' := ?_) #[false, true, true, true, true, true, false, false, false] rfl rfl (by kernel_rfl) (fun _ _ _ h => h) (Or.inl ⟨by rfl, ?_⟩) ?_ ?_
  rotate_left
  · intro w'
    go_simp
    with_reducible rfl
  rotate_left
  · simp only [Act.put, List.setIfInBounds_toArray, List.set_cons_zero, List.set_cons_succ, i64_w, i32_w]
    rfl
  refine take_ (i := 0) (N := some 24) (v := ?_) (a' := ?_) #[true, true, true, true, true, true, false, false, false] rfl rfl (by kernel_rfl) (fun _ _ _ h => h) (Or.inl ⟨by rfl, ?_⟩) hHeld ?_ ?_
  rotate_left
  · intro w' s0
    go_simp
    with_reducible rfl
  rotate_left
  · simp only [Act.put, List.setIfInBounds_toArray, List.set_cons_zero, List.set_cons_succ, i64_w, i32_w]
    rfl
  refine take_ (i := 6) (N := some 30) (v := ?_) (a' := ?_) #[true, true, true, true, true, true, true, false, false] rfl rfl (by kernel_rfl) (fun _ _ _ h => h) (Or.inl ⟨by rfl, ?_⟩) hHeld ?_ ?_
  rotate_left
  · intro w' s0
    go_simp
    with_reducible rfl
  rotate_left
  · simp only [Act.put, List.setIfInBounds_toArray, List.set_cons_zero, List.set_cons_succ, i64_w, i32_w]
    rfl
  refine pure_ (i := 7) (N := some 31) (v := ?_) (a' := ?_) #[true, true, true, true, true, true, true, true, false] rfl rfl (by kernel_rfl) (fun _ _ _ h => h) (Or.inl ⟨by rfl, ?_⟩) ?_ ?_
  rotate_left
  · intro w'
    go_simp
    with_reducible rfl
  rotate_left
  · simp only [Act.put, List.setIfInBounds_toArray, List.set_cons_zero, List.set_cons_succ, i64_w, i32_w]
    rfl
  refine one_ (i := 8) (N := some 32) #[true, true, true, true, true, true, true, true, true] rfl rfl (by kernel_rfl) (by decide) (fun K hK => ?_)
  obtain ⟨d0, d1, d2, d3, d4, d5, d6, d7, hs3⟩ := H2.out.sc
  refine goes_ Try.func54 (by kernel_rfl) rfl #[.agg #[], .slice (some ⟨s, 0, none⟩) 4 8, .int .u32 xv] (by rfl) rfl rfl (by simp only [List.map_toArray, List.map_cons, List.map_nil]; rfl) ?_
  with_reducible refine (put32_calls s 4 8 xv d0 d1 d2 d3 d4 d5 d6 d7 _ hs3 (by omega) HX0.out HX1.out).mono ?_
  rintro e w4 ⟨rfl, hp⟩
  refine ⟨_, rfl, ?_⟩
  obtain ⟨h4, t4⟩ := H2.out.put hp
  have H4 := Lib.hid (h4.below (below_drew (Below.refl _ _))); have T40 := Lib.hid (T2.out.trans t4); have T4 := Lib.hid (T40.out.trans (h4.tr_below (below_drew (Below.refl _ _)))); have HP4 := Lib.hid (blk_drew hp.blk)
  clear h4 t4 hp hs3 H2 T2
  refine hK.out _ _ ((HC.out _ T40.out).1) (fun hHeld => ?_)
  clear hK K
  refine norm_ (a' := ?_) ?_ ?_
  rotate_left
  · show Act.put _ (some 32) _ = _
    simp only [Act.put, List.setIfInBounds_toArray, List.set_cons_zero, List.set_cons_succ, i64_w, i32_w]
    rfl
  refine done_ (by kernel_rfl) ?_
  clear T40
  go_wp2
  refine start_ (n := 12) (S := fun w' => True) (ds := []) #[false, false, false, false, false, false, false, false, false, false, false, false] (by kernel_rfl) rfl rfl trivial (fun hHeld => ?_)
  refine pure_ (i := 0) (N := some 34) (v := ?_) (a' := ?_) #[true, false, false, false, false, false, false, false, false, false, false, false] rfl rfl (by kernel_rfl) (fun _ _ _ h => h) (Or.inl ⟨by rfl, ?_⟩) ?_ ?_
  rotate_left
  · intro w'
    go_simp
    with_reducible rfl
  rotate_left
  · simp only [Act.put, List.setIfInBounds_toArray, List.set_cons_zero, List.set_cons_succ, i64_w, i32_w]
    rfl
  refine pure_ (i := 1) (N := some 35) (v := ?_) (a' := ?_) #[true, true, false, false, false, false, false, false, false, false, false, false] rfl rfl (by kernel_rfl) (fun _ _ _ h => h) (Or.inl ⟨by rfl, ?_⟩) ?_ ?_
  rotate_left
  · intro w'
    go_simp
    with_reducible rfl
  rotate_left
  · simp only [Act.put, List.setIfInBounds_toArray, List.set_cons_zero, List.set_cons_succ, i64_w, i32_w]
    rfl
  refine pure_ (i := 2) (N := some 36) (v := ?_) (a' := ?_) #[true, true, true, false, false, false, false, false, false, false, false, false] rfl rfl (by kernel_rfl) (fun _ _ _ h => h) (Or.inl ⟨by rfl, ?_⟩) ?_ ?_
  rotate_left
  · intro w'
    go_simp
    with_reducible rfl
  rotate_left
  · simp only [Act.put, List.setIfInBounds_toArray, List.set_cons_zero, List.set_cons_succ, i64_w, i32_w]
    rfl
  refine pure_ (i := 3) (N := some 37) (v := ?_) (a' := ?_) #[true, true, true, true, false, false, false, false, false, false, false, false] rfl rfl (by kernel_rfl) (fun _ _ _ h => h) (Or.inl ⟨by rfl, ?_⟩) ?_ ?_
  rotate_left
  · intro w'
    go_simp
    with_reducible rfl
  rotate_left
  · simp only [Act.put, List.setIfInBounds_toArray, List.set_cons_zero, List.set_cons_succ, i64_w, i32_w]
    rfl
  refine pure_ (i := 4) (N := some 38) (v := ?_) (a' := ?_) #[true, true, true, true, true, false, false, false, false, false, false, false] rfl rfl (by kernel_rfl) (fun _ _ _ h => h) (Or.inl ⟨by rfl, ?_⟩) ?_ ?_
  rotate_left
  · intro w'
    refine (exec_nilW w' (b := b) (.tmp 37) (by rfl) (by rfl)).trans ?_
    with_reducible rfl
  rotate_left
  · simp only [Act.put, List.setIfInBounds_toArray, List.set_cons_zero, List.set_cons_succ, i64_w, i32_w]
    rfl
  refine pure_ (i := 5) (N := some 39) (v := ?_) (a' := ?_) #[true, true, true, true, true, true, false, false, false, false, false, false] rfl rfl (by kernel_rfl) (fun _ _ _ h => h) (Or.inl ⟨by rfl, ?_⟩) ?_ ?_
  rotate_left
  · intro w'
    go_simp
    with_reducible rfl
  rotate_left
  · simp only [Act.put, List.setIfInBounds_toArray, List.set_cons_zero, List.set_cons_succ, i64_w, i32_w]
    rfl
  refine one_ (i := 6) (N := some 40) #[true, true, true, true, true, true, true, false, false, false, false, false] rfl rfl (by kernel_rfl) (by decide) (fun K hK => ?_)
  refine call_ (86) #[.pointer (some ⟨b, 0, none⟩), .slice (some ⟨s, 0, none⟩) 4 8] (by rfl) rfl (exec_write (.tmp 39) (.tmp 36) #[40] (by rfl) (by rfl) (by rfl)) ?_
  with_reducible refine (write_sc H4.out HP4.out 4 8 (le 4 xv) (le_len 4 xv) (fun j hj => by have hj2 : j = 0 ∨ j = 1 ∨ j = 2 ∨ j = 3 := (by omega); rcases hj2 with rfl | rfl | rfl | rfl <;> simp [le]) (by omega) (by have := HLM.out; omega)).mono ?_
  rintro e w5 ⟨rfl, v5, h5, t5⟩
  refine ⟨_, rfl, ?_⟩
  have H5 := Lib.hid (st_eq h5 HD0.out.symm); have T5 := Lib.hid (T4.out.trans t5); clear h5 t5 H4 T4 HP4
  refine hK.out _ _ trivial (fun hHeld => ?_)
  clear hK K
  refine norm_ (a' := ?_) ?_ ?_
  rotate_left
  · show Act.put _ (some 40) _ = _
    simp only [Act.put, List.setIfInBounds_toArray, List.set_cons_zero, List.set_cons_succ, i64_w, i32_w]
    rfl
  refine pure_ (i := 7) (N := some 33) (v := ?_) (a' := ?_) #[true, true, true, true, true, true, true, true, false, false, false, false] rfl rfl (by kernel_rfl) (fun _ _ _ h => h) (Or.inl ⟨by rfl, ?_⟩) ?_ ?_
  rotate_left
  · intro w'
    go_simp
    with_reducible rfl
  rotate_left
  · simp only [Act.put, List.setIfInBounds_toArray, List.set_cons_zero, List.set_cons_succ, i64_w, i32_w]
    rfl
  refine pure_ (i := 8) (N := some 41) (v := ?_) (a' := ?_) #[true, true, true, true, true, true, true, true, true, false, false, false] rfl rfl (by kernel_rfl) (fun _ _ _ h => h) (Or.inl ⟨by rfl, ?_⟩) ?_ ?_
  rotate_left
  · intro w'
    go_simp
    with_reducible rfl
  rotate_left
  · simp only [Act.put, List.setIfInBounds_toArray, List.set_cons_zero, List.set_cons_succ, i64_w, i32_w]
    rfl
  refine pure_ (i := 9) (N := some 42) (v := ?_) (a' := ?_) #[true, true, true, true, true, true, true, true, true, true, false, false] rfl rfl (by kernel_rfl) (fun _ _ _ h => h) (Or.inl ⟨by rfl, ?_⟩) ?_ ?_
  rotate_left
  · intro w'
    go_simp
    with_reducible rfl
  rotate_left
  · simp only [Act.put, List.setIfInBounds_toArray, List.set_cons_zero, List.set_cons_succ, i64_w, i32_w]
    rfl
  refine pure_ (i := 10) (N := some 11) (v := ?_) (a' := ?_) #[true, true, true, true, true, true, true, true, true, true, true, false] rfl rfl (by kernel_rfl) (fun _ _ _ h => h) (Or.inl ⟨by rfl, ?_⟩) ?_ ?_
  rotate_left
  · intro w'
    go_simp
    with_reducible rfl
  rotate_left
  · simp only [Act.put, List.setIfInBounds_toArray, List.set_cons_zero, List.set_cons_succ, i64_w, i32_w]
    rfl
  refine pure_ (i := 11) (N := some 12) (v := ?_) (a' := ?_) #[true, true, true, true, true, true, true, true, true, true, true, true] rfl rfl (by kernel_rfl) (fun _ _ _ h => h) (Or.inl ⟨by rfl, ?_⟩) ?_ ?_
  rotate_left
  · intro w'
    go_simp
    with_reducible rfl
  rotate_left
  · simp only [Act.put, List.setIfInBounds_toArray, List.set_cons_zero, List.set_cons_succ, i64_w, i32_w]
    rfl
  refine done_ (by kernel_rfl) ?_
  have z1 := (HC.out _ T5.out).2.1
  go_wp2_with (first | (go_at_call 38; go_must (refine (has_calls (HX.out.tr T5.out) HG.out.n1).mono ?_); rintro e w6 ⟨rfl, hb6⟩; have hbw := HBW.out; rw [hbw]; clear hbw; have n0_ := Lib.hid (H5.out.below hb6); have n1_ := Lib.hid (T5.out.trans (H5.out.tr_below hb6)); clear H5 T5 hb6; have H5 := n0_; have T5 := n1_; clear n0_ n1_; have z1 := (HC.out _ T5.out).2.1) | ((with_reducible refine gate_invoke (r := .tmp 54) (n := "Write") rfl ?_); go_must (refine writes_L (b := b) (v := .slice (some ⟨w6.heap.size, 0, none⟩) 2 2) rfl (.tmp 54) (.tmp 55) #[40] rfl rfl rfl ?_); have hal := below_alloc (Below.refl w6.heap.size w6) (Obj.cells #[.int .u8 0, .int .u8 1] 5); go_must (refine (st_write (d := [0, 1]) (H5.out.below hal) (some ⟨w6.heap.size, 0, none⟩) 2 (sc_read (heap_alloc_new _ _) [0, 1] (fun j hj => by have hj2 : j = 0 ∨ j = 1 := (by simp at hj; omega); rcases hj2 with rfl | rfl <;> rfl) (by decide)) (fun a ha _ => by cases ha; exact Nat.ne_of_gt H5.out.buf.lt) (by decide) (by have := HLM.out; have := HE0.out; simp; omega)).mono ?_); rintro e w7 ⟨rfl, v7, h7, t7⟩; refine ⟨_, rfl, ?_⟩; have n0_ := Lib.hid h7; have n1_ := Lib.hid ((T5.out.trans (H5.out.tr_below hal)).trans t7); clear H5 T5 h7 t7 hal; have H5 := n0_; have T5 := n1_; clear n0_ n1_; have z1 := (HC.out _ T5.out).2.1) | (go_at_call 55; go_must (refine (vi_calls H5.out p (x.ins.length : Int) (by omega) (by have := HG.out.n1; omega) (by have := HLM.out; have := HE0.out; rw [List.length_append]; simp; omega)).mono ?_); rintro e w8 ⟨rfl, v8, h8, t8⟩; have H8 := Lib.hid (st_eq h8 (show _ = D1 from by rw [HD1.out]; simp)); have T8 := Lib.hid (T5.out.trans t8); clear h8 t8 H5 T5; have z1 := (HC.out _ T8.out).2.1))
  go_loopg [81] (x.ins.length + 1) (fun kq v81 w' => ∃ (i : Nat) (xi : Int) (v9 : Value), v81 = .int .i64 xi ∧ Hid (xi = (i : Int)) ∧ Hid (i + kq = x.ins.length + 1) ∧ Hid (St F B b s v9 (D1 ++ ((x.ins.take i).map inB).flatten) w') ∧ Hid (Tr F B w w'))
  case atStart => exact ⟨0, 0, v8, rfl, Lib.hid rfl, Lib.hid (Nat.zero_add _), Lib.hid (by simpa using H8.out), T8⟩
  case round =>
    clear H8 T8
    clear z1
    obtain ⟨i, xi, v9, rfl, HI, HK, H9, T9⟩ := hrel
    by_cases ci : i < x.ins.length
    · have p0 : 0 ≤ xi := by rw [HI.out]; omega
      have q0 : xi < (x.ins.length : Int) := by rw [HI.out]; omega
      have hwi : wrap64 (xi + 1) = xi + 1 := by have := HG.out.n1; exact wrap64_id (by omega) (by omega)
      obtain ⟨ad, g1, cs, B1, d1, B2, d2, rfl, hp, hT, _⟩ := in_at (HX.out.tr T9.out).ins xi p0 q0
      have hm := HG.out.i _ (rd_mem x.ins xi p0 q0)
      have htf := take_flat inB x.ins zTI i ci
      have htl := take_len inB x.ins zTI i ci
      rw [show x.ins.getD i zTI = rdT x.ins xi from by rw [rdT, HI.out]; rfl] at htf htl
      obtain ⟨y, hy⟩ : ∃ y, rdT x.ins xi = y := ⟨_, rfl⟩
      rw [hy] at hT hm htf htl
      obtain ⟨k1, rfl⟩ : ∃ k1, gk = k1 + 1 := ⟨gk - 1, by have := HK.out; omega⟩
      have pp := eq_true p0
      have qq := eq_true q0
      have qb : decide (xi < (x.ins.length : Int)) = true := decide_eq_true q0
      have z0 := (HC.out _ T9.out).1
      have HT := Lib.hid hT
      have HM := Lib.hid hm
      have HTF := Lib.hid htf
      have HTL := Lib.hid (show ((x.ins.take i).map inB).flatten.length + (inB y).length ≤ L1 by rw [HL1.out]; exact htl)
      have hil : (inB y).length ≥ 40 + y.s.length := by rw [inB, List.length_append, List.length_append, opB_len _ _ hT.hl, vb, List.length_append, le_len]; omega
      have HIL := Lib.hid hil
      clear p0 q0 hy hT hm htf htl ci hil
      go_wp2_with (go_at_call 56; go_must (refine (in_calls H9.out p x.v g1 y HT.out HM.out.1 HM.out.2.1 (by have := HLM.out; have := HE1.out; have := HTL.out; have := HIL.out; rw [List.length_append]; omega)).mono ?_); rintro e w10 ⟨rfl, v10, h10, t10⟩; have H10 := Lib.hid h10; have T10 := Lib.hid (T9.out.trans t10); clear h10 t10)
      go_roundg k1
      case measure => exact Nat.lt_succ_self _
      case rel => exact ⟨i + 1, xi + 1, v10, (by first | rfl | (simp [hwi]; done)), Lib.hid (by rw [HI.out]; omega), Lib.hid (by have := HK.out; omega), Lib.hid (by rw [HTF.out, ← List.append_assoc]; exact H10.out), T10⟩
    · have qb : decide (xi < (x.ins.length : Int)) = false := decide_eq_false (by rw [HI.out]; omega)
      have H10 := Lib.hid (st_eq H9.out (show _ = D2 from by rw [HD2.out, List.take_of_length_le (by omega)]))
      have z2 := (HC.out _ T9.out).2.2.1
      clear ci HI HK H9
      go_wp2_with (go_at_call 55; go_must (refine (vi_calls H10.out p (x.outs.length : Int) (by omega) (by have := HG.out.n2; omega) (by have := HLM.out; have := HE2.out; omega)).mono ?_); rintro e w11 ⟨rfl, v11, h11, t11⟩; have H11 := Lib.hid (st_eq h11 HD3.out.symm); have T11 := Lib.hid (T9.out.trans t11); clear h11 t11 H10 z2; have z2 := (HC.out _ T11.out).2.2.1)
      go_loopg [117] (x.outs.length + 1) (fun kq v117 w' => ∃ (i : Nat) (xi : Int) (v9 : Value), v117 = .int .i64 xi ∧ Hid (xi = (i : Int)) ∧ Hid (i + kq = x.outs.length + 1) ∧ Hid (St F B b s v9 (D3 ++ ((x.outs.take i).map outB).flatten) w') ∧ Hid (Tr F B w w'))
      case atStart => exact ⟨0, 0, v11, rfl, Lib.hid rfl, Lib.hid (Nat.zero_add _), Lib.hid (by simpa using H11.out), T11⟩
      case round =>
        clear H11 T11 T9 qb z2
        obtain ⟨i, xi, v9, rfl, HI, HK, H9, T9⟩ := hrel
        by_cases ci : i < x.outs.length
        · have p0 : 0 ≤ xi := by rw [HI.out]; omega
          have q0 : xi < (x.outs.length : Int) := by rw [HI.out]; omega
          have hwi : wrap64 (xi + 1) = xi + 1 := by have := HG.out.n2; exact wrap64_id (by omega) (by omega)
          obtain ⟨ad, g1, B1, d1, rfl, hp, hT⟩ := out_at (HX.out.tr T9.out).outs xi p0 q0
          have htf := take_flat outB x.outs PFnTxIDs.z45 i ci
          have htl := take_len outB x.outs PFnTxIDs.z45 i ci
          rw [show x.outs.getD i PFnTxIDs.z45 = rdO x.outs xi from by rw [rdO, HI.out]; rfl] at htf htl
          obtain ⟨y, hy⟩ : ∃ y, rdO x.outs xi = y := ⟨_, rfl⟩
          rw [hy] at hT htf htl
          obtain ⟨k1, rfl⟩ : ∃ k1, gk = k1 + 1 := ⟨gk - 1, by have := HK.out; omega⟩
          have pp := eq_true p0
          have qq := eq_true q0
          have qb : decide (xi < (x.outs.length : Int)) = true := decide_eq_true q0
          have z0 := (HC.out _ T9.out).1
          have HT := Lib.hid hT
          have HTF := Lib.hid htf
          have HTL := Lib.hid (show ((x.outs.take i).map outB).flatten.length + (outB y).length ≤ L2 by rw [HL2.out]; exact htl)
          have hil : (outB y).length ≥ 8 + y.f1.length := by rw [outB, List.length_append, vb, List.length_append, le_len]; omega
          have HIL := Lib.hid hil
          clear p0 q0 hy hT htf htl ci hil
          go_wp2_with (go_at_call 57; go_must (refine (out_calls H9.out p x.v g1 y HT.out (by have := HLM.out; have := HE3.out; have := HTL.out; have := HIL.out; rw [List.length_append]; omega)).mono ?_); rintro e w10 ⟨rfl, v10, h10, t10⟩; have H10 := Lib.hid h10; have T10 := Lib.hid (T9.out.trans t10); clear h10 t10)
          go_roundg k1
          case measure => exact Nat.lt_succ_self _
          case rel => exact ⟨i + 1, xi + 1, v10, (by first | rfl | (simp [hwi]; done)), Lib.hid (by rw [HI.out]; omega), Lib.hid (by have := HK.out; omega), Lib.hid (by rw [HTF.out, ← List.append_assoc]; exact H10.out), T10⟩
        · have qb : decide (xi < (x.outs.length : Int)) = false := decide_eq_false (by rw [HI.out]; omega)
          have H10 := Lib.hid (st_eq H9.out (show _ = D4 from by rw [HD4.out, List.take_of_length_le (by omega)]))
          clear ci HI HK H9
          have z1 := (HC.out _ T9.out).2.1
          go_wp2
          go_loopg [140] (x.ins.length + 1) (fun kq v140 w' => ∃ (i : Nat) (xi : Int) (v9 : Value), v140 = .int .i64 xi ∧ Hid (xi = (i : Int)) ∧ Hid (i + kq = x.ins.length + 1) ∧ Hid (St F B b s v9 (D4 ++ ((x.ins.take i).map (fun y => witB y.w)).flatten) w') ∧ Hid (Tr F B w w'))
          case atStart => exact ⟨0, 0, v9, rfl, Lib.hid rfl, Lib.hid (Nat.zero_add _), Lib.hid (by simpa using H10.out), T9⟩
          case round =>
            clear H10 T9 qb z1
            obtain ⟨i, xi, v9, rfl, HI, HK, H9, T9⟩ := hrel
            by_cases ci : i < x.ins.length
            · have p0 : 0 ≤ xi := by rw [HI.out]; omega
              have q0 : xi < (x.ins.length : Int) := by rw [HI.out]; omega
              have hwi : wrap64 (xi + 1) = xi + 1 := by have := HG.out.n1; exact wrap64_id (by omega) (by omega)
              obtain ⟨ad, g1, cs, B1, d1, B2, d2, rfl, hp, hT, _⟩ := in_at (HX.out.tr T9.out).ins xi p0 q0
              have hm := HG.out.i _ (rd_mem x.ins xi p0 q0)
              have htf := take_flat (fun y => witB y.w) x.ins zTI i ci
              have htl := take_len (fun y => witB y.w) x.ins zTI i ci
              rw [show x.ins.getD i zTI = rdT x.ins xi from by rw [rdT, HI.out]; rfl] at htf htl
              obtain ⟨y, hy⟩ : ∃ y, rdT x.ins xi = y := ⟨_, rfl⟩
              rw [hy] at hT hm htf htl
              obtain ⟨k1, rfl⟩ : ∃ k1, gk = k1 + 1 := ⟨gk - 1, by have := HK.out; omega⟩
              have pp := eq_true p0
              have qq := eq_true q0
              have qb : decide (xi < (x.ins.length : Int)) = true := decide_eq_true q0
              have h34 : ∀ W, Tr F B wr W → W.cell? ⟨g1, 34, none⟩ = some (.slice B2 y.w.length d2) := fun W hW => (hT.tr hW).cell 34 _ (tic_34 _ _ _ _ _ hT.hl)
              have H34 := Lib.hid h34
              have HT := Lib.hid hT
              have HM := Lib.hid hm
              have HTF := Lib.hid htf
              have HTL := Lib.hid (show ((x.ins.take i).map (fun y => witB y.w)).flatten.length + (witB y.w).length ≤ L3 by rw [HL3.out]; exact htl)
              have HDr := Lib.hid (H9.out.below (below_drew (Below.refl _ _)))
              have TDr := Lib.hid (H9.out.tr_below (below_drew (Below.refl _ _)))
              clear p0 q0 hy hT hm htf htl ci h34
              go_wp2
              refine start_ (n := 13) (S := fun w' => w'.cell? ⟨g, 0, none⟩ = some (.int .i32 x.v) ∧ w'.cell? ⟨g1, 34, none⟩ = some (.slice B2 y.w.length d2)) (ds := []) #[false, false, false, false, false, false, false, false, false, false, false, false, false] (by kernel_rfl) rfl rfl ⟨(HC.out _ (T9.out.trans TDr.out)).1, (H34.out _ TDr.out)⟩ (fun hHeld => ?_)
              refine pure_ (i := 0) (N := some 144) (v := ?_) (a' := ?_) #[true, false, false, false, false, false, false, false, false, false, false, false, false] rfl rfl (by kernel_rfl) (fun _ _ _ h => h) (Or.inl ⟨by rfl, ?_⟩) ?_ ?_
              rotate_left
              · intro w'
                go_simp
                with_reducible rfl
              rotate_left
              · simp only [Act.put, List.setIfInBounds_toArray, List.set_cons_zero, List.set_cons_succ, i64_w, i32_w]
                rfl
              refine pure_ (i := 1) (N := some 145) (v := ?_) (a' := ?_) #[true, true, false, false, false, false, false, false, false, false, false, false, false] rfl rfl (by kernel_rfl) (fun _ _ _ h => h) (Or.inl ⟨by rfl, ?_⟩) ?_ ?_
              rotate_left
              · intro w'
                go_simp
                with_reducible rfl
              rotate_left
              · simp only [Act.put, List.setIfInBounds_toArray, List.set_cons_zero, List.set_cons_succ, i64_w, i32_w]
                rfl
              refine pure_ (i := 2) (N := some 146) (v := ?_) (a' := ?_) #[true, true, true, false, false, false, false, false, false, false, false, false, false] rfl rfl (by kernel_rfl) (fun _ _ _ h => h) (Or.inl ⟨by rfl, ?_⟩) ?_ ?_
              rotate_left
              · intro w'
                go_simp
                with_reducible rfl
              rotate_left
              · simp only [Act.put, List.setIfInBounds_toArray, List.set_cons_zero, List.set_cons_succ, i64_w, i32_w]
                rfl
              refine pure_ (i := 3) (N := some 147) (v := ?_) (a' := ?_) #[true, true, true, true, false, false, false, false, false, false, false, false, false] rfl rfl (by kernel_rfl) (fun _ _ _ h => h) (Or.inl ⟨by rfl, ?_⟩) ?_ ?_
              rotate_left
              · intro w'
                go_simp
                with_reducible rfl
              rotate_left
              · simp only [Act.put, List.setIfInBounds_toArray, List.set_cons_zero, List.set_cons_succ, i64_w, i32_w]
                rfl
              refine pure_ (i := 4) (N := some 148) (v := ?_) (a' := ?_) #[true, true, true, true, true, false, false, false, false, false, false, false, false] rfl rfl (by kernel_rfl) (fun _ _ _ h => h) (Or.inl ⟨by rfl, ?_⟩) ?_ ?_
              rotate_left
              · intro w'
                go_simp
                with_reducible rfl
              rotate_left
              · simp only [Act.put, List.setIfInBounds_toArray, List.set_cons_zero, List.set_cons_succ, i64_w, i32_w]
                rfl
              refine pure_ (i := 6) (N := some 150) (v := ?_) (a' := ?_) #[true, true, true, true, true, false, true, false, false, false, false, false, false] rfl rfl (by kernel_rfl) (fun _ _ _ h => h) (Or.inl ⟨by rfl, ?_⟩) ?_ ?_
              rotate_left
              · intro w'
                go_simp
                with_reducible rfl
              rotate_left
              · simp only [Act.put, List.setIfInBounds_toArray, List.set_cons_zero, List.set_cons_succ, i64_w, i32_w]
                rfl
              refine pure_ (i := 7) (N := some 151) (v := ?_) (a' := ?_) #[true, true, true, true, true, false, true, true, false, false, false, false, false] rfl rfl (by kernel_rfl) (fun _ _ _ h => h) (Or.inl ⟨by rfl, ?_⟩) ?_ ?_
              rotate_left
              · intro w'
                go_simp
                with_reducible rfl
              rotate_left
              · simp only [Act.put, List.setIfInBounds_toArray, List.set_cons_zero, List.set_cons_succ, i64_w, i32_w]
                rfl
              refine pure_ (i := 8) (N := some 152) (v := ?_) (a' := ?_) #[true, true, true, true, true, false, true, true, true, false, false, false, false] rfl rfl (by kernel_rfl) (fun _ _ _ h => h) (Or.inl ⟨by rfl, ?_⟩) ?_ ?_
              rotate_left
              · intro w'
                go_simp
                with_reducible rfl
              rotate_left
              · simp only [Act.put, List.setIfInBounds_toArray, List.set_cons_zero, List.set_cons_succ, i64_w, i32_w]
                rfl
              refine pure_ (i := 10) (N := some 154) (v := ?_) (a' := ?_) #[true, true, true, true, true, false, true, true, true, false, true, false, false] rfl rfl (by kernel_rfl) (fun _ _ _ h => h) (Or.inl ⟨by rfl, ?_⟩) ?_ ?_
              rotate_left
              · intro w'
                go_simp
                with_reducible rfl
              rotate_left
              · simp only [Act.put, List.setIfInBounds_toArray, List.set_cons_zero, List.set_cons_succ, i64_w, i32_w]
                rfl
              refine take_ (i := 5) (N := some 149) (v := ?_) (a' := ?_) #[true, true, true, true, true, true, true, true, true, false, true, false, false] rfl rfl (by kernel_rfl) (fun _ _ _ h => h) (Or.inl ⟨by rfl, ?_⟩) hHeld ?_ ?_
              rotate_left
              · rintro w' ⟨s0, s1⟩
                go_simp
                with_reducible rfl
              rotate_left
              · simp only [Act.put, List.setIfInBounds_toArray, List.set_cons_zero, List.set_cons_succ, i64_w, i32_w]
                rfl
              refine take_ (i := 9) (N := some 153) (v := ?_) (a' := ?_) #[true, true, true, true, true, true, true, true, true, true, true, false, false] rfl rfl (by kernel_rfl) (fun _ _ _ h => h) (Or.inl ⟨by rfl, ?_⟩) hHeld ?_ ?_
              rotate_left
              · rintro w' ⟨s0, s1⟩
                go_simp
                with_reducible rfl
              rotate_left
              · simp only [Act.put, List.setIfInBounds_toArray, List.set_cons_zero, List.set_cons_succ, i64_w, i32_w]
                rfl
              refine one_ (i := 11) (N := some 155) #[true, true, true, true, true, true, true, true, true, true, true, true, false] rfl rfl (by kernel_rfl) (by decide) (fun K hK => ?_)
              refine goes_ Try.func58 (by kernel_rfl) rfl #[Wr b, .int .u32 p, .int .i32 x.v, .slice B2 y.w.length d2, .slice (some ⟨s, 0, none⟩) 8 8] (by rfl) rfl rfl (by simp only [List.map_toArray, List.map_cons, List.map_nil]; rfl) ?_
              with_reducible refine (wit_calls HDr.out p x.v B2 d2 y.w (Kd.F_step HT.out.w (fun k hk _ => TDr.out.fr k hk)) HM.out.2.2 (by have := HLM.out; have := HE4.out; have := HTL.out; rw [List.length_append]; omega)).mono ?_
              rintro e w13 ⟨rfl, v13, h13, t13⟩
              refine ⟨_, rfl, ?_⟩
              have H13 := Lib.hid h13; have T130 := Lib.hid (TDr.out.trans t13); have T13 := Lib.hid (T9.out.trans T130.out); clear h13 t13
              refine hK.out _ _ ⟨(HC.out _ T13.out).1, (H34.out _ T130.out)⟩ (fun hHeld => ?_)
              clear hK K
              refine norm_ (a' := ?_) ?_ ?_
              rotate_left
              · show Act.put _ (some 155) _ = _
                simp only [Act.put, List.setIfInBounds_toArray, List.set_cons_zero, List.set_cons_succ, i64_w, i32_w]
                rfl
              refine pure_ (i := 12) (N := some 17) (v := ?_) (a' := ?_) #[true, true, true, true, true, true, true, true, true, true, true, true, true] rfl rfl (by kernel_rfl) (fun _ _ _ h => h) (Or.inl ⟨by rfl, ?_⟩) ?_ ?_
              rotate_left
              · intro w'
                go_simp
                with_reducible rfl
              rotate_left
              · simp only [Act.put, List.setIfInBounds_toArray, List.set_cons_zero, List.set_cons_succ, i64_w, i32_w]
                rfl
              refine done_ (by kernel_rfl) ?_
              go_wp2
              go_roundg k1
              case measure => exact Nat.lt_succ_self _
              case rel => exact ⟨i + 1, xi + 1, v13, (by first | rfl | (simp [hwi]; done)), Lib.hid (by rw [HI.out]; omega), Lib.hid (by have := HK.out; omega), Lib.hid (by rw [HTF.out, ← List.append_assoc]; exact H13.out), T13⟩
            · have qb : decide (xi < (x.ins.length : Int)) = false := decide_eq_false (by rw [HI.out]; omega)
              have H14 := Lib.hid ((st_eq H9.out (show _ = D5 from by rw [HD5.out, List.take_of_length_le (by omega)]; simp)).below (below_drew (Below.refl _ _)))
              have T14 := Lib.hid (T9.out.trans (H9.out.tr_below (below_drew (Below.refl _ _))))
              clear ci HI HK H9 T9
              go_wp2
              refine start_ (n := 8) (S := fun w' => w'.cell? ⟨g, 3, none⟩ = some (.int .u32 x.k)) (ds := []) #[false, false, false, false, false, false, false, false] (by kernel_rfl) rfl rfl ((HC.out _ T14.out).2.2.2) (fun hHeld => ?_)
              refine pure_ (i := 1) (N := some 161) (v := ?_) (a' := ?_) #[false, true, false, false, false, false, false, false] rfl rfl (by kernel_rfl) (fun _ _ _ h => h) (Or.inl ⟨by rfl, ?_⟩) ?_ ?_
              rotate_left
              · intro w'
                go_simp
                with_reducible rfl
              rotate_left
              · simp only [Act.put, List.setIfInBounds_toArray, List.set_cons_zero, List.set_cons_succ, i64_w, i32_w]
                rfl
              refine pure_ (i := 2) (N := some 162) (v := ?_) (a' := ?_) #[false, true, true, false, false, false, false, false] rfl rfl (by kernel_rfl) (fun _ _ _ h => h) (Or.inl ⟨by rfl, ?_⟩) ?_ ?_
              rotate_left
              · intro w'
                go_simp
                with_reducible rfl
              rotate_left
              · simp only [Act.put, List.setIfInBounds_toArray, List.set_cons_zero, List.set_cons_succ, i64_w, i32_w]
                rfl
              refine pure_ (i := 3) (N := some 163) (v := ?_) (a' := ?_) #[false, true, true, true, false, false, false, false] rfl rfl (by kernel_rfl) (fun _ _ _ h => h) (Or.inl ⟨by rfl, ?_⟩) ?_ ?_
              rotate_left
              · intro w'
                go_simp
                with_reducible rfl
              rotate_left
              · simp only [Act.put, List.setIfInBounds_toArray, List.set_cons_zero, List.set_cons_succ, i64_w, i32_w]
                rfl
              refine pure_ (i := 4) (N := some 164) (v := ?_) (a' := ?_) #[false, true, true, true, true, false, false, false] rfl rfl (by kernel_rfl) (fun _ _ _ h => h) (Or.inl ⟨by rfl, ?_⟩) ?_ ?_
              rotate_left
              · intro w'
                go_simp
                with_reducible rfl
              rotate_left
              · simp only [Act.put, List.setIfInBounds_toArray, List.set_cons_zero, List.set_cons_succ, i64_w, i32_w]
                rfl
              refine pure_ (i := 5) (N := some 165) (v := ?_) (a' := ?_) #[false, true, true, true, true, true, false, false] rfl rfl (by kernel_rfl) (fun _ _ _ h => h) (Or.inl ⟨by rfl, ?_⟩) ?_ ?_
              rotate_left
              · intro w'
                go_simp
                with_reducible rfl
              rotate_left
              · simp only [Act.put, List.setIfInBounds_toArray, List.set_cons_zero, List.set_cons_succ, i64_w, i32_w]
                rfl
              refine take_ (i := 0) (N := some 160) (v := ?_) (a' := ?_) #[true, true, true, true, true, true, false, false] rfl rfl (by kernel_rfl) (fun _ _ _ h => h) (Or.inl ⟨by rfl, ?_⟩) hHeld ?_ ?_
              rotate_left
              · intro w' s0
                go_simp
                with_reducible rfl
              rotate_left
              · simp only [Act.put, List.setIfInBounds_toArray, List.set_cons_zero, List.set_cons_succ, i64_w, i32_w]
                rfl
              refine take_ (i := 6) (N := some 166) (v := ?_) (a' := ?_) #[true, true, true, true, true, true, true, false] rfl rfl (by kernel_rfl) (fun _ _ _ h => h) (Or.inl ⟨by rfl, ?_⟩) hHeld ?_ ?_
              rotate_left
              · intro w' s0
                go_simp
                with_reducible rfl
              rotate_left
              · simp only [Act.put, List.setIfInBounds_toArray, List.set_cons_zero, List.set_cons_succ, i64_w, i32_w]
                rfl
              refine one_ (i := 7) (N := some 167) #[true, true, true, true, true, true, true, true] rfl rfl (by kernel_rfl) (by decide) (fun K hK => ?_)
              obtain ⟨d0, d1, d2, d3, d4, d5, d6, d7, hs3⟩ := H14.out.sc
              refine goes_ Try.func54 (by kernel_rfl) rfl #[.agg #[], .slice (some ⟨s, 0, none⟩) 4 8, .int .u32 x.k] (by rfl) rfl rfl (by simp only [List.map_toArray, List.map_cons, List.map_nil]; rfl) ?_
              with_reducible refine (put32_calls s 4 8 x.k d0 d1 d2 d3 d4 d5 d6 d7 _ hs3 (by omega) HG.out.k.1 HG.out.k.2).mono ?_
              rintro e w15 ⟨rfl, hp⟩
              refine ⟨_, rfl, ?_⟩
              obtain ⟨h4, t4⟩ := H14.out.put hp
              have H15 := Lib.hid (h4.below (below_drew (Below.refl _ _))); have T40 := Lib.hid (T14.out.trans t4); have T15 := Lib.hid (T40.out.trans (h4.tr_below (below_drew (Below.refl _ _)))); have HP4 := Lib.hid (blk_drew hp.blk)
              clear h4 t4 hp hs3 H14 T14
              refine hK.out _ _ ((HC.out _ T40.out).2.2.2) (fun hHeld => ?_)
              clear hK K
              refine norm_ (a' := ?_) ?_ ?_
              rotate_left
              · show Act.put _ (some 167) _ = _
                simp only [Act.put, List.setIfInBounds_toArray, List.set_cons_zero, List.set_cons_succ, i64_w, i32_w]
                rfl
              refine done_ (by kernel_rfl) ?_
              clear T40
              go_wp2
              refine start_ (n := 11) (S := fun w' => True) (ds := []) #[false, false, false, false, false, false, false, false, false, false, false] (by kernel_rfl) rfl rfl trivial (fun hHeld => ?_)
              refine pure_ (i := 0) (N := some 169) (v := ?_) (a' := ?_) #[true, false, false, false, false, false, false, false, false, false, false] rfl rfl (by kernel_rfl) (fun _ _ _ h => h) (Or.inl ⟨by rfl, ?_⟩) ?_ ?_
              rotate_left
              · intro w'
                go_simp
                with_reducible rfl
              rotate_left
              · simp only [Act.put, List.setIfInBounds_toArray, List.set_cons_zero, List.set_cons_succ, i64_w, i32_w]
                rfl
              refine pure_ (i := 1) (N := some 170) (v := ?_) (a' := ?_) #[true, true, false, false, false, false, false, false, false, false, false] rfl rfl (by kernel_rfl) (fun _ _ _ h => h) (Or.inl ⟨by rfl, ?_⟩) ?_ ?_
              rotate_left
              · intro w'
                go_simp
                with_reducible rfl
              rotate_left
              · simp only [Act.put, List.setIfInBounds_toArray, List.set_cons_zero, List.set_cons_succ, i64_w, i32_w]
                rfl
              refine pure_ (i := 2) (N := some 171) (v := ?_) (a' := ?_) #[true, true, true, false, false, false, false, false, false, false, false] rfl rfl (by kernel_rfl) (fun _ _ _ h => h) (Or.inl ⟨by rfl, ?_⟩) ?_ ?_
              rotate_left
              · intro w'
                go_simp
                with_reducible rfl
              rotate_left
              · simp only [Act.put, List.setIfInBounds_toArray, List.set_cons_zero, List.set_cons_succ, i64_w, i32_w]
                rfl
              refine pure_ (i := 3) (N := some 172) (v := ?_) (a' := ?_) #[true, true, true, true, false, false, false, false, false, false, false] rfl rfl (by kernel_rfl) (fun _ _ _ h => h) (Or.inl ⟨by rfl, ?_⟩) ?_ ?_
              rotate_left
              · intro w'
                go_simp
                with_reducible rfl
              rotate_left
              · simp only [Act.put, List.setIfInBounds_toArray, List.set_cons_zero, List.set_cons_succ, i64_w, i32_w]
                rfl
              refine pure_ (i := 4) (N := some 173) (v := ?_) (a' := ?_) #[true, true, true, true, true, false, false, false, false, false, false] rfl rfl (by kernel_rfl) (fun _ _ _ h => h) (Or.inl ⟨by rfl, ?_⟩) ?_ ?_
              rotate_left
              · intro w'
                refine (exec_nilW w' (b := b) (.tmp 172) (by rfl) (by rfl)).trans ?_
                with_reducible rfl
              rotate_left
              · simp only [Act.put, List.setIfInBounds_toArray, List.set_cons_zero, List.set_cons_succ, i64_w, i32_w]
                rfl
              refine pure_ (i := 5) (N := some 174) (v := ?_) (a' := ?_) #[true, true, true, true, true, true, false, false, false, false, false] rfl rfl (by kernel_rfl) (fun _ _ _ h => h) (Or.inl ⟨by rfl, ?_⟩) ?_ ?_
              rotate_left
              · intro w'
                go_simp
                with_reducible rfl
              rotate_left
              · simp only [Act.put, List.setIfInBounds_toArray, List.set_cons_zero, List.set_cons_succ, i64_w, i32_w]
                rfl
              refine one_ (i := 6) (N := some 175) #[true, true, true, true, true, true, true, false, false, false, false] rfl rfl (by kernel_rfl) (by decide) (fun K hK => ?_)
              refine call_ (86) #[.pointer (some ⟨b, 0, none⟩), .slice (some ⟨s, 0, none⟩) 4 8] (by rfl) rfl (exec_write (.tmp 174) (.tmp 171) #[40] (by rfl) (by rfl) (by rfl)) ?_
              with_reducible refine (write_sc H15.out HP4.out 4 8 (le 4 x.k) (le_len 4 x.k) (fun j hj => by have hj2 : j = 0 ∨ j = 1 ∨ j = 2 ∨ j = 3 := (by omega); rcases hj2 with rfl | rfl | rfl | rfl <;> simp [le]) (by omega) (by have := HLM.out; have := HE5.out; omega)).mono ?_
              rintro e w16 ⟨rfl, v16, h16, t16⟩
              refine ⟨_, rfl, ?_⟩
              have H16 := Lib.hid (st_eq h16 HDone.out.symm); have T16 := Lib.hid (T15.out.trans t16); clear h16 t16 H15 T15
              refine hK.out _ _ trivial (fun hHeld => ?_)
              clear hK K
              refine norm_ (a' := ?_) ?_ ?_
              rotate_left
              · show Act.put _ (some 175) _ = _
                simp only [Act.put, List.setIfInBounds_toArray, List.set_cons_zero, List.set_cons_succ, i64_w, i32_w]
                rfl
              refine pure_ (i := 7) (N := some 168) (v := ?_) (a' := ?_) #[true, true, true, true, true, true, true, true, false, false, false] rfl rfl (by kernel_rfl) (fun _ _ _ h => h) (Or.inl ⟨by rfl, ?_⟩) ?_ ?_
              rotate_left
              · intro w'
                go_simp
                with_reducible rfl
              rotate_left
              · simp only [Act.put, List.setIfInBounds_toArray, List.set_cons_zero, List.set_cons_succ, i64_w, i32_w]
                rfl
              refine pure_ (i := 8) (N := some 176) (v := ?_) (a' := ?_) #[true, true, true, true, true, true, true, true, true, false, false] rfl rfl (by kernel_rfl) (fun _ _ _ h => h) (Or.inl ⟨by rfl, ?_⟩) ?_ ?_
              rotate_left
              · intro w'
                go_simp
                with_reducible rfl
              rotate_left
              · simp only [Act.put, List.setIfInBounds_toArray, List.set_cons_zero, List.set_cons_succ, i64_w, i32_w]
                rfl
              refine pure_ (i := 9) (N := some 177) (v := ?_) (a' := ?_) #[true, true, true, true, true, true, true, true, true, true, false] rfl rfl (by kernel_rfl) (fun _ _ _ h => h) (Or.inl ⟨by rfl, ?_⟩) ?_ ?_
              rotate_left
              · intro w'
                go_simp
                with_reducible rfl
              rotate_left
              · simp only [Act.put, List.setIfInBounds_toArray, List.set_cons_zero, List.set_cons_succ, i64_w, i32_w]
                rfl
              refine pure_ (i := 10) (N := some 17) (v := ?_) (a' := ?_) #[true, true, true, true, true, true, true, true, true, true, true] rfl rfl (by kernel_rfl) (fun _ _ _ h => h) (Or.inl ⟨by rfl, ?_⟩) ?_ ?_
              rotate_left
              · intro w'
                go_simp
                with_reducible rfl
              rotate_left
              · simp only [Act.put, List.setIfInBounds_toArray, List.set_cons_zero, List.set_cons_succ, i64_w, i32_w]
                rfl
              refine done_ (by kernel_rfl) ?_
              go_wp2
              go_ret
              exact ⟨rfl, v16, H16.out, T16.out⟩
set_option maxHeartbeats 16000000 in
set_option maxRecDepth 100000 in
theorem enc_n {F : Nat → Prop} {B b s : Nat} {v : Value} {l : List Int} {w : World} (h : St F B b s v l w) (p : Int) (g : Nat) (x : TX) {A1 : Option Addr} {c1 : Nat} {A2 : Option Addr} {c2 : Nat} (hx : TxF F w g x A1 c1 A2 c2) (hg : Nums x) (hlim : l.length + txN x + 256 ≤ 6000000) (hb : hasW x.ins = false) :
    Calls Try.prog 51 #[.pointer (some ⟨g, 0, none⟩), Wr b, .int .u32 p, .int .u32 2, .slice (some ⟨s, 0, none⟩) 8 8] w fun e w' => e = .returned .nilIface ∧ ∃ v', St F B b s v' (l ++ txB x false) w' ∧ Tr F B w w' := by
  have H2 := Lib.hid (h.below (below_drew (Below.refl _ _)))
  have T2 := Lib.hid (h.tr_below (below_drew (Below.refl _ _)))
  have HX := Lib.hid hx
  have HG := Lib.hid hg
  have HL := Lib.hid hlim
  obtain ⟨L1, hL1⟩ : ∃ L1, L1 = (x.ins.map inB).flatten.length := ⟨_, rfl⟩
  obtain ⟨L2, hL2⟩ : ∃ L2, L2 = (x.outs.map outB).flatten.length := ⟨_, rfl⟩
  obtain ⟨L3, hL3⟩ : ∃ L3, L3 = (x.ins.map fun y => witB y.w).flatten.length := ⟨_, rfl⟩
  have HL1 := Lib.hid hL1
  have HL2 := Lib.hid hL2
  have HL3 := Lib.hid hL3
  have HLM := Lib.hid (show l.length + L1 + L2 + L3 + 256 ≤ 6000000 by rw [hL1, hL2, hL3]; unfold txN at hlim; omega)
  have hc : ∀ W, Tr F B w W → W.cell? ⟨g, 0, none⟩ = some (.int .i32 x.v) ∧ W.cell? ⟨g, 1, none⟩ = some (.slice A1 x.ins.length c1) ∧ W.cell? ⟨g, 2, none⟩ = some (.slice A2 x.outs.length c2) ∧ W.cell? ⟨g, 3, none⟩ = some (.int .u32 x.k) := fun W hW =>
    ⟨(blk_cell (hx.tr hW).blk 0).trans rfl, (blk_cell (hx.tr hW).blk 1).trans rfl, (blk_cell (hx.tr hW).blk 2).trans rfl, (blk_cell (hx.tr hW).blk 3).trans rfl⟩
  have HC := Lib.hid hc
  obtain ⟨xv, hxv⟩ : ∃ xv, x.v % 4294967296 = xv := ⟨_, rfl⟩
  have hw : IntKind.u32.wrap x.v = xv := by rw [← hxv]; unfold IntKind.wrap; simp [IntKind.bits, IntKind.signed]
  have HXV := Lib.hid hxv
  have HX0 := Lib.hid (show 0 ≤ xv by omega)
  have HX1 := Lib.hid (show xv < 4294967296 by omega)
  have hw1 : IntKind.u64.wrap (x.ins.length : Int) = x.ins.length := by have := hg.n1; unfold IntKind.wrap; simp [IntKind.bits, IntKind.signed]; omega
  have hw2 : (x.ins.length : Int) % 18446744073709551616 = x.ins.length := by have := hg.n1; omega
  have hw3 : IntKind.u64.wrap (x.outs.length : Int) = x.outs.length := by have := hg.n2; unfold IntKind.wrap; simp [IntKind.bits, IntKind.signed]; omega
  have hw4 : (x.outs.length : Int) % 18446744073709551616 = x.outs.length := by have := hg.n2; omega
  obtain ⟨D0, hD0⟩ : ∃ D0, D0 = l ++ le 4 xv := ⟨_, rfl⟩
  obtain ⟨D1, hD1⟩ : ∃ D1, D1 = D0 ++ ((if false then [0, 1] else []) ++ vi x.ins.length) := ⟨_, rfl⟩
  obtain ⟨D2, hD2⟩ : ∃ D2, D2 = D1 ++ (x.ins.map inB).flatten := ⟨_, rfl⟩
  obtain ⟨D3, hD3⟩ : ∃ D3, D3 = D2 ++ vi x.outs.length := ⟨_, rfl⟩
  obtain ⟨D4, hD4⟩ : ∃ D4, D4 = D3 ++ (x.outs.map outB).flatten := ⟨_, rfl⟩
  obtain ⟨D5, hD5⟩ : ∃ D5, D5 = D4 ++ (if false then (x.ins.map (fun y => witB y.w)).flatten else []) := ⟨_, rfl⟩
  have e0 : D0.length = l.length + 4 := by rw [hD0, List.length_append, le_len]
  have e1 : D1.length ≤ l.length + 15 := by have := vi_len x.ins.length; rw [hD1, List.length_append, List.length_append, e0]; split <;> simp <;> omega
  have e2 : D2.length ≤ l.length + L1 + 15 := by rw [hD2, List.length_append, ← hL1]; omega
  have e3 : D3.length ≤ l.length + L1 + 24 := by have := vi_len x.outs.length; rw [hD3, List.length_append]; omega
  have e4 : D4.length ≤ l.length + L1 + L2 + 24 := by rw [hD4, List.length_append, ← hL2]; omega
  have e5 : D5.length ≤ l.length + L1 + L2 + L3 + 24 := by rw [hD5, List.length_append]; split <;> first | omega | (rw [List.length_nil]; omega)
  have HE0 := Lib.hid e0
  have HE1 := Lib.hid e1
  have HE2 := Lib.hid e2
  have HE3 := Lib.hid e3
  have HE4 := Lib.hid e4
  have HE5 := Lib.hid e5
  have HD0 := Lib.hid hD0
  have HD1 := Lib.hid hD1
  have HD2 := Lib.hid hD2
  have HD3 := Lib.hid hD3
  have HD4 := Lib.hid hD4
  have HD5 := Lib.hid hD5
  have hdone : l ++ txB x false = D5 ++ le 4 x.k := by rw [hD5, hD4, hD3, hD2, hD1, hD0, txB, hxv]; simp only [List.append_assoc]
  have HDone := Lib.hid hdone
  have HBW := Lib.hid hb; clear hb
  clear h hx hg hlim hL1 hL2 hL3 hc hxv hD0 hD1 hD2 hD3 hD4 hD5 e0 e1 e2 e3 e4 e5 hdone
  go_enter Try.func51, Try.ntmps51
  go_wp2
  refine start_ (n := 9) (S := fun w' => w'.cell? ⟨g, 0, none⟩ = some (.int .i32 x.v)) (ds := []) #[false, false, false, false, false, false, false, false, false] (by kernel_rfl) rfl rfl ((HC.out _ T2.out).1) (fun hHeld => ?_)
  refine pure_ (i := 1) (N := some 25) (v := ?_) (a' := ?_) #[false, true, false, false, false, false, false, false, false] rfl rfl (by kernel_rfl) (fun _ _ _ h => h) (Or.inl ⟨by rfl, ?_⟩) ?_ ?_
  rotate_left
  · intro w'
    go_simp
    with_reducible rfl
  rotate_left
  · simp only [Act.put, List.setIfInBounds_toArray, List.set_cons_zero, List.set_cons_succ, i64_w, i32_w]
    rfl
  refine pure_ (i := 2) (N := some 26) (v := ?_) (a' := ?_) #[false, true, true, false, false, false, false, false, false] rfl rfl (by kernel_rfl) (fun _ _ _ h => h) (Or.inl ⟨by rfl, ?_⟩) ?_ ?_
  rotate_left
  · intro w'
    go_simp
    with_reducible rfl
  rotate_left
  · simp only [Act.put, List.setIfInBounds_toArray, List.set_cons_zero, List.set_cons_succ, i64_w, i32_w]
    rfl
  refine pure_ (i := 3) (N := some 27) (v := ?_) (a' := ?_) #[false, true, true, true, false, false, false, false, false] rfl rfl (by kernel_rfl) (fun _ _ _ h => h) (Or.inl ⟨by rfl, ?_⟩) ?_ ?_
  rotate_left
  · intro w'
    go_simp
    with_reducible rfl
  rotate_left
  · simp only [Act.put, List.setIfInBounds_toArray, List.set_cons_zero, List.set_cons_succ, i64_w, i32_w]
    rfl
  refine pure_ (i := 4) (N := some 28) (v := ?_) (a' := ?_) #[false, true, true, true, true, false, false, false, false] rfl rfl (by kernel_rfl) (fun _ _ _ h => h) (Or.inl ⟨by rfl, ?_⟩) ?_ ?_
  rotate_left
  · intro w'
    go_simp
    with_reducible rfl
  rotate_left
  · simp only [Act.put, List.setIfInBounds_toArray, List.set_cons_zero, List.set_cons_succ, i64_w, i32_w]
    rfl
  refine pure_ (i := 5) (N := some 29) (v := ?_) (a' := ?_) #[false, true, true, true, true, true, false, false, false] rfl rfl (by kernel_rfl) (fun _ _ _ h => h) (Or.inl ⟨by rfl, ?_⟩) ?_ ?_
  rotate_left
  · intro w'
    go_simp
    with_reducible rfl
  rotate_left
  · simp only [Act.put, List.setIfInBounds_toArray, List.set_cons_zero, List.set_cons_succ, i64_w, i32_w]
    rfl
  refine take_ (i := 0) (N := some 24) (v := ?_) (a' := ?_) #[true, true, true, true, true, true, false, false, false] rfl rfl (by kernel_rfl) (fun _ _ _ h => h) (Or.inl ⟨by rfl, ?_⟩) hHeld ?_ ?_
  rotate_left
  · intro w' s0
    go_simp
    with_reducible rfl
  rotate_left
  · simp only [Act.put, List.setIfInBounds_toArray, List.set_cons_zero, List.set_cons_succ, i64_w, i32_w]
    rfl
  refine take_ (i := 6) (N := some 30) (v := ?_) (a' := ?_) #[true, true, true, true, true, true, true, false, false] rfl rfl (by kernel_rfl) (fun _ _ _ h => h) (Or.inl ⟨by rfl, ?_⟩) hHeld ?_ ?_
  rotate_left
  · intro w' s0
    go_simp
    with_reducible rfl
  rotate_left
  · simp only [Act.put, List.setIfInBounds_toArray, List.set_cons_zero, List.set_cons_succ, i64_w, i32_w]
    rfl
  refine pure_ (i := 7) (N := some 31) (v := ?_) (a' := ?_) #[true, true, true, true, true, true, true, true, false] rfl rfl (by kernel_rfl) (fun _ _ _ h => h) (Or.inl ⟨by rfl, ?_⟩) ?_ ?_
  rotate_left
  · intro w'
    go_simp
    with_reducible rfl
  rotate_left
  · simp only [Act.put, List.setIfInBounds_toArray, List.set_cons_zero, List.set_cons_succ, i64_w, i32_w]
    rfl
  refine one_ (i := 8) (N := some 32) #[true, true, true, true, true, true, true, true, true] rfl rfl (by kernel_rfl) (by decide) (fun K hK => ?_)
  obtain ⟨d0, d1, d2, d3, d4, d5, d6, d7, hs3⟩ := H2.out.sc
  refine goes_ Try.func54 (by kernel_rfl) rfl #[.agg #[], .slice (some ⟨s, 0, none⟩) 4 8, .int .u32 xv] (by rfl) rfl rfl (by simp only [List.map_toArray, List.map_cons, List.map_nil]; rfl) ?_
  with_reducible refine (put32_calls s 4 8 xv d0 d1 d2 d3 d4 d5 d6 d7 _ hs3 (by omega) HX0.out HX1.out).mono ?_
  rintro e w4 ⟨rfl, hp⟩
  refine ⟨_, rfl, ?_⟩
  obtain ⟨h4, t4⟩ := H2.out.put hp
  have H4 := Lib.hid (h4.below (below_drew (Below.refl _ _))); have T40 := Lib.hid (T2.out.trans t4); have T4 := Lib.hid (T40.out.trans (h4.tr_below (below_drew (Below.refl _ _)))); have HP4 := Lib.hid (blk_drew hp.blk)
  clear h4 t4 hp hs3 H2 T2
  refine hK.out _ _ ((HC.out _ T40.out).1) (fun hHeld => ?_)
  clear hK K
  refine norm_ (a' := ?_) ?_ ?_
  rotate_left
  · show Act.put _ (some 32) _ = _
    simp only [Act.put, List.setIfInBounds_toArray, List.set_cons_zero, List.set_cons_succ, i64_w, i32_w]
    rfl
  refine done_ (by kernel_rfl) ?_
  clear T40
  go_wp2
  refine start_ (n := 12) (S := fun w' => True) (ds := []) #[false, false, false, false, false, false, false, false, false, false, false, false] (by kernel_rfl) rfl rfl trivial (fun hHeld => ?_)
  refine pure_ (i := 0) (N := some 34) (v := ?_) (a' := ?_) #[true, false, false, false, false, false, false, false, false, false, false, false] rfl rfl (by kernel_rfl) (fun _ _ _ h => h) (Or.inl ⟨by rfl, ?_⟩) ?_ ?_
  rotate_left
  · intro w'
    go_simp
    with_reducible rfl
  rotate_left
  · simp only [Act.put, List.setIfInBounds_toArray, List.set_cons_zero, List.set_cons_succ, i64_w, i32_w]
    rfl
  refine pure_ (i := 1) (N := some 35) (v := ?_) (a' := ?_) #[true, true, false, false, false, false, false, false, false, false, false, false] rfl rfl (by kernel_rfl) (fun _ _ _ h => h) (Or.inl ⟨by rfl, ?_⟩) ?_ ?_
  rotate_left
  · intro w'
    go_simp
    with_reducible rfl
  rotate_left
  · simp only [Act.put, List.setIfInBounds_toArray, List.set_cons_zero, List.set_cons_succ, i64_w, i32_w]
    rfl
  refine pure_ (i := 2) (N := some 36) (v := ?_) (a' := ?_) #[true, true, true, false, false, false, false, false, false, false, false, false] rfl rfl (by kernel_rfl) (fun _ _ _ h => h) (Or.inl ⟨by rfl, ?_⟩) ?_ ?_
  rotate_left
  · intro w'
    go_simp
    with_reducible rfl
  rotate_left
  · simp only [Act.put, List.setIfInBounds_toArray, List.set_cons_zero, List.set_cons_succ, i64_w, i32_w]
    rfl
  refine pure_ (i := 3) (N := some 37) (v := ?_) (a' := ?_) #[true, true, true, true, false, false, false, false, false, false, false, false] rfl rfl (by kernel_rfl) (fun _ _ _ h => h) (Or.inl ⟨by rfl, ?_⟩) ?_ ?_
  rotate_left
  · intro w'
    go_simp
    with_reducible rfl
  rotate_left
  · simp only [Act.put, List.setIfInBounds_toArray, List.set_cons_zero, List.set_cons_succ, i64_w, i32_w]
    rfl
  refine pure_ (i := 4) (N := some 38) (v := ?_) (a' := ?_) #[true, true, true, true, true, false, false, false, false, false, false, false] rfl rfl (by kernel_rfl) (fun _ _ _ h => h) (Or.inl ⟨by rfl, ?_⟩) ?_ ?_
  rotate_left
  · intro w'
    refine (exec_nilW w' (b := b) (.tmp 37) (by rfl) (by rfl)).trans ?_
    with_reducible rfl
  rotate_left
  · simp only [Act.put, List.setIfInBounds_toArray, List.set_cons_zero, List.set_cons_succ, i64_w, i32_w]
    rfl
  refine pure_ (i := 5) (N := some 39) (v := ?_) (a' := ?_) #[true, true, true, true, true, true, false, false, false, false, false, false] rfl rfl (by kernel_rfl) (fun _ _ _ h => h) (Or.inl ⟨by rfl, ?_⟩) ?_ ?_
  rotate_left
  · intro w'
    go_simp
    with_reducible rfl
  rotate_left
  · simp only [Act.put, List.setIfInBounds_toArray, List.set_cons_zero, List.set_cons_succ, i64_w, i32_w]
    rfl
  refine one_ (i := 6) (N := some 40) #[true, true, true, true, true, true, true, false, false, false, false, false] rfl rfl (by kernel_rfl) (by decide) (fun K hK => ?_)
  refine call_ (86) #[.pointer (some ⟨b, 0, none⟩), .slice (some ⟨s, 0, none⟩) 4 8] (by rfl) rfl (exec_write (.tmp 39) (.tmp 36) #[40] (by rfl) (by rfl) (by rfl)) ?_
  with_reducible refine (write_sc H4.out HP4.out 4 8 (le 4 xv) (le_len 4 xv) (fun j hj => by have hj2 : j = 0 ∨ j = 1 ∨ j = 2 ∨ j = 3 := (by omega); rcases hj2 with rfl | rfl | rfl | rfl <;> simp [le]) (by omega) (by have := HLM.out; omega)).mono ?_
  rintro e w5 ⟨rfl, v5, h5, t5⟩
  refine ⟨_, rfl, ?_⟩
  have H5 := Lib.hid (st_eq h5 HD0.out.symm); have T5 := Lib.hid (T4.out.trans t5); clear h5 t5 H4 T4 HP4
  refine hK.out _ _ trivial (fun hHeld => ?_)
  clear hK K
  refine norm_ (a' := ?_) ?_ ?_
  rotate_left
  · show Act.put _ (some 40) _ = _
    simp only [Act.put, List.setIfInBounds_toArray, List.set_cons_zero, List.set_cons_succ, i64_w, i32_w]
    rfl
  refine pure_ (i := 7) (N := some 33) (v := ?_) (a' := ?_) #[true, true, true, true, true, true, true, true, false, false, false, false] rfl rfl (by kernel_rfl) (fun _ _ _ h => h) (Or.inl ⟨by rfl, ?_⟩) ?_ ?_
  rotate_left
  · intro w'
    go_simp
    with_reducible rfl
  rotate_left
  · simp only [Act.put, List.setIfInBounds_toArray, List.set_cons_zero, List.set_cons_succ, i64_w, i32_w]
    rfl
  refine pure_ (i := 8) (N := some 41) (v := ?_) (a' := ?_) #[true, true, true, true, true, true, true, true, true, false, false, false] rfl rfl (by kernel_rfl) (fun _ _ _ h => h) (Or.inl ⟨by rfl, ?_⟩) ?_ ?_
  rotate_left
  · intro w'
    go_simp
    with_reducible rfl
  rotate_left
  · simp only [Act.put, List.setIfInBounds_toArray, List.set_cons_zero, List.set_cons_succ, i64_w, i32_w]
    rfl
  refine pure_ (i := 9) (N := some 42) (v := ?_) (a' := ?_) #[true, true, true, true, true, true, true, true, true, true, false, false] rfl rfl (by kernel_rfl) (fun _ _ _ h => h) (Or.inl ⟨by rfl, ?_⟩) ?_ ?_
  rotate_left
  · intro w'
    go_simp
    with_reducible rfl
  rotate_left
  · simp only [Act.put, List.setIfInBounds_toArray, List.set_cons_zero, List.set_cons_succ, i64_w, i32_w]
    rfl
  refine pure_ (i := 10) (N := some 11) (v := ?_) (a' := ?_) #[true, true, true, true, true, true, true, true, true, true, true, false] rfl rfl (by kernel_rfl) (fun _ _ _ h => h) (Or.inl ⟨by rfl, ?_⟩) ?_ ?_
  rotate_left
  · intro w'
    go_simp
    with_reducible rfl
  rotate_left
  · simp only [Act.put, List.setIfInBounds_toArray, List.set_cons_zero, List.set_cons_succ, i64_w, i32_w]
    rfl
  refine pure_ (i := 11) (N := some 12) (v := ?_) (a' := ?_) #[true, true, true, true, true, true, true, true, true, true, true, true] rfl rfl (by kernel_rfl) (fun _ _ _ h => h) (Or.inl ⟨by rfl, ?_⟩) ?_ ?_
  rotate_left
  · intro w'
    go_simp
    with_reducible rfl
  rotate_left
  · simp only [Act.put, List.setIfInBounds_toArray, List.set_cons_zero, List.set_cons_succ, i64_w, i32_w]
    rfl
  refine done_ (by kernel_rfl) ?_
  have z1 := (HC.out _ T5.out).2.1
  go_wp2_with (first | (go_at_call 38; go_must (refine (has_calls (HX.out.tr T5.out) HG.out.n1).mono ?_); rintro e w6 ⟨rfl, hb6⟩; have hbw := HBW.out; rw [hbw]; clear hbw; have n0_ := Lib.hid (H5.out.below hb6); have n1_ := Lib.hid (T5.out.trans (H5.out.tr_below hb6)); clear H5 T5 hb6; have H5 := n0_; have T5 := n1_; clear n0_ n1_; have z1 := (HC.out _ T5.out).2.1) | (go_at_call 55; go_must (refine (vi_calls H5.out p (x.ins.length : Int) (by omega) (by have := HG.out.n1; omega) (by have := HLM.out; have := HE0.out; omega)).mono ?_); rintro e w8 ⟨rfl, v8, h8, t8⟩; have H8 := Lib.hid (st_eq h8 (show _ = D1 from by rw [HD1.out]; simp)); have T8 := Lib.hid (T5.out.trans t8); clear h8 t8 H5 T5; have z1 := (HC.out _ T8.out).2.1))
  go_loopg [81] (x.ins.length + 1) (fun kq v81 w' => ∃ (i : Nat) (xi : Int) (v9 : Value), v81 = .int .i64 xi ∧ Hid (xi = (i : Int)) ∧ Hid (i + kq = x.ins.length + 1) ∧ Hid (St F B b s v9 (D1 ++ ((x.ins.take i).map inB).flatten) w') ∧ Hid (Tr F B w w'))
  case atStart => exact ⟨0, 0, v8, rfl, Lib.hid rfl, Lib.hid (Nat.zero_add _), Lib.hid (by simpa using H8.out), T8⟩
  case round =>
    clear H8 T8
    clear z1
    obtain ⟨i, xi, v9, rfl, HI, HK, H9, T9⟩ := hrel
    by_cases ci : i < x.ins.length
    · have p0 : 0 ≤ xi := by rw [HI.out]; omega
      have q0 : xi < (x.ins.length : Int) := by rw [HI.out]; omega
      have hwi : wrap64 (xi + 1) = xi + 1 := by have := HG.out.n1; exact wrap64_id (by omega) (by omega)
      obtain ⟨ad, g1, cs, B1, d1, B2, d2, rfl, hp, hT, _⟩ := in_at (HX.out.tr T9.out).ins xi p0 q0
      have hm := HG.out.i _ (rd_mem x.ins xi p0 q0)
      have htf := take_flat inB x.ins zTI i ci
      have htl := take_len inB x.ins zTI i ci
      rw [show x.ins.getD i zTI = rdT x.ins xi from by rw [rdT, HI.out]; rfl] at htf htl
      obtain ⟨y, hy⟩ : ∃ y, rdT x.ins xi = y := ⟨_, rfl⟩
      rw [hy] at hT hm htf htl
      obtain ⟨k1, rfl⟩ : ∃ k1, gk = k1 + 1 := ⟨gk - 1, by have := HK.out; omega⟩
      have pp := eq_true p0
      have qq := eq_true q0
      have qb : decide (xi < (x.ins.length : Int)) = true := decide_eq_true q0
      have z0 := (HC.out _ T9.out).1
      have HT := Lib.hid hT
      have HM := Lib.hid hm
      have HTF := Lib.hid htf
      have HTL := Lib.hid (show ((x.ins.take i).map inB).flatten.length + (inB y).length ≤ L1 by rw [HL1.out]; exact htl)
      have hil : (inB y).length ≥ 40 + y.s.length := by rw [inB, List.length_append, List.length_append, opB_len _ _ hT.hl, vb, List.length_append, le_len]; omega
      have HIL := Lib.hid hil
      clear p0 q0 hy hT hm htf htl ci hil
      go_wp2_with (go_at_call 56; go_must (refine (in_calls H9.out p x.v g1 y HT.out HM.out.1 HM.out.2.1 (by have := HLM.out; have := HE1.out; have := HTL.out; have := HIL.out; rw [List.length_append]; omega)).mono ?_); rintro e w10 ⟨rfl, v10, h10, t10⟩; have H10 := Lib.hid h10; have T10 := Lib.hid (T9.out.trans t10); clear h10 t10)
      go_roundg k1
      case measure => exact Nat.lt_succ_self _
      case rel => exact ⟨i + 1, xi + 1, v10, (by first | rfl | (simp [hwi]; done)), Lib.hid (by rw [HI.out]; omega), Lib.hid (by have := HK.out; omega), Lib.hid (by rw [HTF.out, ← List.append_assoc]; exact H10.out), T10⟩
    · have qb : decide (xi < (x.ins.length : Int)) = false := decide_eq_false (by rw [HI.out]; omega)
      have H10 := Lib.hid (st_eq H9.out (show _ = D2 from by rw [HD2.out, List.take_of_length_le (by omega)]))
      have z2 := (HC.out _ T9.out).2.2.1
      clear ci HI HK H9
      go_wp2_with (go_at_call 55; go_must (refine (vi_calls H10.out p (x.outs.length : Int) (by omega) (by have := HG.out.n2; omega) (by have := HLM.out; have := HE2.out; omega)).mono ?_); rintro e w11 ⟨rfl, v11, h11, t11⟩; have H11 := Lib.hid (st_eq h11 HD3.out.symm); have T11 := Lib.hid (T9.out.trans t11); clear h11 t11 H10 z2; have z2 := (HC.out _ T11.out).2.2.1)
      go_loopg [117] (x.outs.length + 1) (fun kq v117 w' => ∃ (i : Nat) (xi : Int) (v9 : Value), v117 = .int .i64 xi ∧ Hid (xi = (i : Int)) ∧ Hid (i + kq = x.outs.length + 1) ∧ Hid (St F B b s v9 (D3 ++ ((x.outs.take i).map outB).flatten) w') ∧ Hid (Tr F B w w'))
      case atStart => exact ⟨0, 0, v11, rfl, Lib.hid rfl, Lib.hid (Nat.zero_add _), Lib.hid (by simpa using H11.out), T11⟩
      case round =>
        clear H11 T11 T9 qb z2
        obtain ⟨i, xi, v9, rfl, HI, HK, H9, T9⟩ := hrel
        by_cases ci : i < x.outs.length
        · have p0 : 0 ≤ xi := by rw [HI.out]; omega
          have q0 : xi < (x.outs.length : Int) := by rw [HI.out]; omega
          have hwi : wrap64 (xi + 1) = xi + 1 := by have := HG.out.n2; exact wrap64_id (by omega) (by omega)
          obtain ⟨ad, g1, B1, d1, rfl, hp, hT⟩ := out_at (HX.out.tr T9.out).outs xi p0 q0
          have htf := take_flat outB x.outs PFnTxIDs.z45 i ci
          have htl := take_len outB x.outs PFnTxIDs.z45 i ci
          rw [show x.outs.getD i PFnTxIDs.z45 = rdO x.outs xi from by rw [rdO, HI.out]; rfl] at htf htl
          obtain ⟨y, hy⟩ : ∃ y, rdO x.outs xi = y := ⟨_, rfl⟩
          rw [hy] at hT htf htl
          obtain ⟨k1, rfl⟩ : ∃ k1, gk = k1 + 1 := ⟨gk - 1, by have := HK.out; omega⟩
          have pp := eq_true p0
          have qq := eq_true q0
          have qb : decide (xi < (x.outs.length : Int)) = true := decide_eq_true q0
          have z0 := (HC.out _ T9.out).1
          have HT := Lib.hid hT
          have HTF := Lib.hid htf
          have HTL := Lib.hid (show ((x.outs.take i).map outB).flatten.length + (outB y).length ≤ L2 by rw [HL2.out]; exact htl)
          have hil : (outB y).length ≥ 8 + y.f1.length := by rw [outB, List.length_append, vb, List.length_append, le_len]; omega
          have HIL := Lib.hid hil
          clear p0 q0 hy hT htf htl ci hil
          go_wp2_with (go_at_call 57; go_must (refine (out_calls H9.out p x.v g1 y HT.out (by have := HLM.out; have := HE3.out; have := HTL.out; have := HIL.out; rw [List.length_append]; omega)).mono ?_); rintro e w10 ⟨rfl, v10, h10, t10⟩; have H10 := Lib.hid h10; have T10 := Lib.hid (T9.out.trans t10); clear h10 t10)
          go_roundg k1
          case measure => exact Nat.lt_succ_self _
          case rel => exact ⟨i + 1, xi + 1, v10, (by first | rfl | (simp [hwi]; done)), Lib.hid (by rw [HI.out]; omega), Lib.hid (by have := HK.out; omega), Lib.hid (by rw [HTF.out, ← List.append_assoc]; exact H10.out), T10⟩
        · have qb : decide (xi < (x.outs.length : Int)) = false := decide_eq_false (by rw [HI.out]; omega)
          have H10 := Lib.hid (st_eq H9.out (show _ = D4 from by rw [HD4.out, List.take_of_length_le (by omega)]))
          clear ci HI HK H9
          have H14 := Lib.hid ((st_eq H10.out (show _ = D5 from by rw [HD5.out]; simp)).below (below_drew (Below.refl _ _)))
          have T14 := Lib.hid (T9.out.trans (H10.out.tr_below (below_drew (Below.refl _ _))))
          clear H10 T9
          go_wp2
          refine start_ (n := 8) (S := fun w' => w'.cell? ⟨g, 3, none⟩ = some (.int .u32 x.k)) (ds := []) #[false, false, false, false, false, false, false, false] (by kernel_rfl) rfl rfl ((HC.out _ T14.out).2.2.2) (fun hHeld => ?_)
          refine pure_ (i := 1) (N := some 161) (v := ?_) (a' := ?_) #[false, true, false, false, false, false, false, false] rfl rfl (by kernel_rfl) (fun _ _ _ h => h) (Or.inl ⟨by rfl, ?_⟩) ?_ ?_
          rotate_left
          · intro w'
            go_simp
            with_reducible rfl
          rotate_left
          · simp only [Act.put, List.setIfInBounds_toArray, List.set_cons_zero, List.set_cons_succ, i64_w, i32_w]
            rfl
          refine pure_ (i := 2) (N := some 162) (v := ?_) (a' := ?_) #[false, true, true, false, false, false, false, false] rfl rfl (by kernel_rfl) (fun _ _ _ h => h) (Or.inl ⟨by rfl, ?_⟩) ?_ ?_
          rotate_left
          · intro w'
            go_simp
            with_reducible rfl
          rotate_left
          · simp only [Act.put, List.setIfInBounds_toArray, List.set_cons_zero, List.set_cons_succ, i64_w, i32_w]
            rfl
          refine pure_ (i := 3) (N := some 163) (v := ?_) (a' := ?_) #[false, true, true, true, false, false, false, false] rfl rfl (by kernel_rfl) (fun _ _ _ h => h) (Or.inl ⟨by rfl, ?_⟩) ?_ ?_
          rotate_left
          · intro w'
            go_simp
            with_reducible rfl
          rotate_left
          · simp only [Act.put, List.setIfInBounds_toArray, List.set_cons_zero, List.set_cons_succ, i64_w, i32_w]
            rfl
          refine pure_ (i := 4) (N := some 164) (v := ?_) (a' := ?_) #[false, true, true, true, true, false, false, false] rfl rfl (by kernel_rfl) (fun _ _ _ h => h) (Or.inl ⟨by rfl, ?_⟩) ?_ ?_
          rotate_left
          · intro w'
            go_simp
            with_reducible rfl
          rotate_left
          · simp only [Act.put, List.setIfInBounds_toArray, List.set_cons_zero, List.set_cons_succ, i64_w, i32_w]
            rfl
          refine pure_ (i := 5) (N := some 165) (v := ?_) (a' := ?_) #[false, true, true, true, true, true, false, false] rfl rfl (by kernel_rfl) (fun _ _ _ h => h) (Or.inl ⟨by rfl, ?_⟩) ?_ ?_
          rotate_left
          · intro w'
            go_simp
            with_reducible rfl
          rotate_left
          · simp only [Act.put, List.setIfInBounds_toArray, List.set_cons_zero, List.set_cons_succ, i64_w, i32_w]
            rfl
          refine take_ (i := 0) (N := some 160) (v := ?_) (a' := ?_) #[true, true, true, true, true, true, false, false] rfl rfl (by kernel_rfl) (fun _ _ _ h => h) (Or.inl ⟨by rfl, ?_⟩) hHeld ?_ ?_
          rotate_left
          · intro w' s0
            go_simp
            with_reducible rfl
          rotate_left
          · simp only [Act.put, List.setIfInBounds_toArray, List.set_cons_zero, List.set_cons_succ, i64_w, i32_w]
            rfl
          refine take_ (i := 6) (N := some 166) (v := ?_) (a' := ?_) #[true, true, true, true, true, true, true, false] rfl rfl (by kernel_rfl) (fun _ _ _ h => h) (Or.inl ⟨by rfl, ?_⟩) hHeld ?_ ?_
          rotate_left
          · intro w' s0
            go_simp
            with_reducible rfl
          rotate_left
          · simp only [Act.put, List.setIfInBounds_toArray, List.set_cons_zero, List.set_cons_succ, i64_w, i32_w]
            rfl
          refine one_ (i := 7) (N := some 167) #[true, true, true, true, true, true, true, true] rfl rfl (by kernel_rfl) (by decide) (fun K hK => ?_)
          obtain ⟨d0, d1, d2, d3, d4, d5, d6, d7, hs3⟩ := H14.out.sc
          refine goes_ Try.func54 (by kernel_rfl) rfl #[.agg #[], .slice (some ⟨s, 0, none⟩) 4 8, .int .u32 x.k] (by rfl) rfl rfl (by simp only [List.map_toArray, List.map_cons, List.map_nil]; rfl) ?_
          with_reducible refine (put32_calls s 4 8 x.k d0 d1 d2 d3 d4 d5 d6 d7 _ hs3 (by omega) HG.out.k.1 HG.out.k.2).mono ?_
          rintro e w15 ⟨rfl, hp⟩
          refine ⟨_, rfl, ?_⟩
          obtain ⟨h4, t4⟩ := H14.out.put hp
          have H15 := Lib.hid (h4.below (below_drew (Below.refl _ _))); have T40 := Lib.hid (T14.out.trans t4); have T15 := Lib.hid (T40.out.trans (h4.tr_below (below_drew (Below.refl _ _)))); have HP4 := Lib.hid (blk_drew hp.blk)
          clear h4 t4 hp hs3 H14 T14
          refine hK.out _ _ ((HC.out _ T40.out).2.2.2) (fun hHeld => ?_)
          clear hK K
          refine norm_ (a' := ?_) ?_ ?_
          rotate_left
          · show Act.put _ (some 167) _ = _
            simp only [Act.put, List.setIfInBounds_toArray, List.set_cons_zero, List.set_cons_succ, i64_w, i32_w]
            rfl
          refine done_ (by kernel_rfl) ?_
          clear T40
          go_wp2
          refine start_ (n := 11) (S := fun w' => True) (ds := []) #[false, false, false, false, false, false, false, false, false, false, false] (by kernel_rfl) rfl rfl trivial (fun hHeld => ?_)
          refine pure_ (i := 0) (N := some 169) (v := ?_) (a' := ?_) #[true, false, false, false, false, false, false, false, false, false, false] rfl rfl (by kernel_rfl) (fun _ _ _ h => h) (Or.inl ⟨by rfl, ?_⟩) ?_ ?_
          rotate_left
          · intro w'
            go_simp
            with_reducible rfl
          rotate_left
          · simp only [Act.put, List.setIfInBounds_toArray, List.set_cons_zero, List.set_cons_succ, i64_w, i32_w]
            rfl
          refine pure_ (i := 1) (N := some 170) (v := ?_) (a' := ?_) #[true, true, false, false, false, false, false, false, false, false, false] rfl rfl (by kernel_rfl) (fun _ _ _ h => h) (Or.inl ⟨by rfl, ?_⟩) ?_ ?_
          rotate_left
          · intro w'
            go_simp
            with_reducible rfl
          rotate_left
          · simp only [Act.put, List.setIfInBounds_toArray, List.set_cons_zero, List.set_cons_succ, i64_w, i32_w]
            rfl
          refine pure_ (i := 2) (N := some 171) (v := ?_) (a' := ?_) #[true, true, true, false, false, false, false, false, false, false, false] rfl rfl (by kernel_rfl) (fun _ _ _ h => h) (Or.inl ⟨by rfl, ?_⟩) ?_ ?_
          rotate_left
          · intro w'
            go_simp
            with_reducible rfl
          rotate_left
          · simp only [Act.put, List.setIfInBounds_toArray, List.set_cons_zero, List.set_cons_succ, i64_w, i32_w]
            rfl
          refine pure_ (i := 3) (N := some 172) (v := ?_) (a' := ?_) #[true, true, true, true, false, false, false, false, false, false, false] rfl rfl (by kernel_rfl) (fun _ _ _ h => h) (Or.inl ⟨by rfl, ?_⟩) ?_ ?_
          rotate_left
          · intro w'
            go_simp
            with_reducible rfl
          rotate_left
          · simp only [Act.put, List.setIfInBounds_toArray, List.set_cons_zero, List.set_cons_succ, i64_w, i32_w]
            rfl
          refine pure_ (i := 4) (N := some 173) (v := ?_) (a' := ?_) #[true, true, true, true, true, false, false, false, false, false, false] rfl rfl (by kernel_rfl) (fun _ _ _ h => h) (Or.inl ⟨by rfl, ?_⟩) ?_ ?_
          rotate_left
          · intro w'
            refine (exec_nilW w' (b := b) (.tmp 172) (by rfl) (by rfl)).trans ?_
            with_reducible rfl
          rotate_left
          · simp only [Act.put, List.setIfInBounds_toArray, List.set_cons_zero, List.set_cons_succ, i64_w, i32_w]
            rfl
          refine pure_ (i := 5) (N := some 174) (v := ?_) (a' := ?_) #[true, true, true, true, true, true, false, false, false, false, false] rfl rfl (by kernel_rfl) (fun _ _ _ h => h) (Or.inl ⟨by rfl, ?_⟩) ?_ ?_
          rotate_left
          · intro w'
            go_simp
            with_reducible rfl
          rotate_left
          · simp only [Act.put, List.setIfInBounds_toArray, List.set_cons_zero, List.set_cons_succ, i64_w, i32_w]
            rfl
          refine one_ (i := 6) (N := some 175) #[true, true, true, true, true, true, true, false, false, false, false] rfl rfl (by kernel_rfl) (by decide) (fun K hK => ?_)
          refine call_ (86) #[.pointer (some ⟨b, 0, none⟩), .slice (some ⟨s, 0, none⟩) 4 8] (by rfl) rfl (exec_write (.tmp 174) (.tmp 171) #[40] (by rfl) (by rfl) (by rfl)) ?_
          with_reducible refine (write_sc H15.out HP4.out 4 8 (le 4 x.k) (le_len 4 x.k) (fun j hj => by have hj2 : j = 0 ∨ j = 1 ∨ j = 2 ∨ j = 3 := (by omega); rcases hj2 with rfl | rfl | rfl | rfl <;> simp [le]) (by omega) (by have := HLM.out; have := HE5.out; omega)).mono ?_
          rintro e w16 ⟨rfl, v16, h16, t16⟩
          refine ⟨_, rfl, ?_⟩
          have H16 := Lib.hid (st_eq h16 HDone.out.symm); have T16 := Lib.hid (T15.out.trans t16); clear h16 t16 H15 T15
          refine hK.out _ _ trivial (fun hHeld => ?_)
          clear hK K
          refine norm_ (a' := ?_) ?_ ?_
          rotate_left
          · show Act.put _ (some 175) _ = _
            simp only [Act.put, List.setIfInBounds_toArray, List.set_cons_zero, List.set_cons_succ, i64_w, i32_w]
            rfl
          refine pure_ (i := 7) (N := some 168) (v := ?_) (a' := ?_) #[true, true, true, true, true, true, true, true, false, false, false] rfl rfl (by kernel_rfl) (fun _ _ _ h => h) (Or.inl ⟨by rfl, ?_⟩) ?_ ?_
          rotate_left
          · intro w'
            go_simp
            with_reducible rfl
          rotate_left
          · simp only [Act.put, List.setIfInBounds_toArray, List.set_cons_zero, List.set_cons_succ, i64_w, i32_w]
            rfl
          refine pure_ (i := 8) (N := some 176) (v := ?_) (a' := ?_) #[true, true, true, true, true, true, true, true, true, false, false] rfl rfl (by kernel_rfl) (fun _ _ _ h => h) (Or.inl ⟨by rfl, ?_⟩) ?_ ?_
          rotate_left
          · intro w'
            go_simp
            with_reducible rfl
          rotate_left
          · simp only [Act.put, List.setIfInBounds_toArray, List.set_cons_zero, List.set_cons_succ, i64_w, i32_w]
            rfl
          refine pure_ (i := 9) (N := some 177) (v := ?_) (a' := ?_) #[true, true, true, true, true, true, true, true, true, true, false] rfl rfl (by kernel_rfl) (fun _ _ _ h => h) (Or.inl ⟨by rfl, ?_⟩) ?_ ?_
          rotate_left
          · intro w'
            go_simp
            with_reducible rfl
          rotate_left
          · simp only [Act.put, List.setIfInBounds_toArray, List.set_cons_zero, List.set_cons_succ, i64_w, i32_w]
            rfl
          refine pure_ (i := 10) (N := some 17) (v := ?_) (a' := ?_) #[true, true, true, true, true, true, true, true, true, true, true] rfl rfl (by kernel_rfl) (fun _ _ _ h => h) (Or.inl ⟨by rfl, ?_⟩) ?_ ?_
          rotate_left
          · intro w'
            go_simp
            with_reducible rfl
          rotate_left
          · simp only [Act.put, List.setIfInBounds_toArray, List.set_cons_zero, List.set_cons_succ, i64_w, i32_w]
            rfl
          refine done_ (by kernel_rfl) ?_
          go_wp2
          go_ret
          exact ⟨rfl, v16, H16.out, T16.out⟩
set_option maxHeartbeats 16000000 in
set_option maxRecDepth 100000 in
theorem enc_b {F : Nat → Prop} {B b s : Nat} {v : Value} {l : List Int} {w : World} (h : St F B b s v l w) (p : Int) (g : Nat) (x : TX) {A1 : Option Addr} {c1 : Nat} {A2 : Option Addr} {c2 : Nat} (hx : TxF F w g x A1 c1 A2 c2) (hg : Nums x) (hlim : l.length + txN x + 256 ≤ 6000000) :
    Calls Try.prog 51 #[.pointer (some ⟨g, 0, none⟩), Wr b, .int .u32 p, .int .u32 1, .slice (some ⟨s, 0, none⟩) 8 8] w fun e w' => e = .returned .nilIface ∧ ∃ v', St F B b s v' (l ++ txB x false) w' ∧ Tr F B w w' := by
  have H2 := Lib.hid (h.below (below_drew (Below.refl _ _)))
  have T2 := Lib.hid (h.tr_below (below_drew (Below.refl _ _)))
  have HX := Lib.hid hx
  have HG := Lib.hid hg
  have HL := Lib.hid hlim
  obtain ⟨L1, hL1⟩ : ∃ L1, L1 = (x.ins.map inB).flatten.length := ⟨_, rfl⟩
  obtain ⟨L2, hL2⟩ : ∃ L2, L2 = (x.outs.map outB).flatten.length := ⟨_, rfl⟩
  obtain ⟨L3, hL3⟩ : ∃ L3, L3 = (x.ins.map fun y => witB y.w).flatten.length := ⟨_, rfl⟩
  have HL1 := Lib.hid hL1
  have HL2 := Lib.hid hL2
  have HL3 := Lib.hid hL3
  have HLM := Lib.hid (show l.length + L1 + L2 + L3 + 256 ≤ 6000000 by rw [hL1, hL2, hL3]; unfold txN at hlim; omega)
  have hc : ∀ W, Tr F B w W → W.cell? ⟨g, 0, none⟩ = some (.int .i32 x.v) ∧ W.cell? ⟨g, 1, none⟩ = some (.slice A1 x.ins.length c1) ∧ W.cell? ⟨g, 2, none⟩ = some (.slice A2 x.outs.length c2) ∧ W.cell? ⟨g, 3, none⟩ = some (.int .u32 x.k) := fun W hW =>
    ⟨(blk_cell (hx.tr hW).blk 0).trans rfl, (blk_cell (hx.tr hW).blk 1).trans rfl, (blk_cell (hx.tr hW).blk 2).trans rfl, (blk_cell (hx.tr hW).blk 3).trans rfl⟩
  have HC := Lib.hid hc
  obtain ⟨xv, hxv⟩ : ∃ xv, x.v % 4294967296 = xv := ⟨_, rfl⟩
  have hw : IntKind.u32.wrap x.v = xv := by rw [← hxv]; unfold IntKind.wrap; simp [IntKind.bits, IntKind.signed]
  have HXV := Lib.hid hxv
  have HX0 := Lib.hid (show 0 ≤ xv by omega)
  have HX1 := Lib.hid (show xv < 4294967296 by omega)
  have hw1 : IntKind.u64.wrap (x.ins.length : Int) = x.ins.length := by have := hg.n1; unfold IntKind.wrap; simp [IntKind.bits, IntKind.signed]; omega
  have hw2 : (x.ins.length : Int) % 18446744073709551616 = x.ins.length := by have := hg.n1; omega
  have hw3 : IntKind.u64.wrap (x.outs.length : Int) = x.outs.length := by have := hg.n2; unfold IntKind.wrap; simp [IntKind.bits, IntKind.signed]; omega
  have hw4 : (x.outs.length : Int) % 18446744073709551616 = x.outs.length := by have := hg.n2; omega
  obtain ⟨D0, hD0⟩ : ∃ D0, D0 = l ++ le 4 xv := ⟨_, rfl⟩
  obtain ⟨D1, hD1⟩ : ∃ D1, D1 = D0 ++ ((if false then [0, 1] else []) ++ vi x.ins.length) := ⟨_, rfl⟩
  obtain ⟨D2, hD2⟩ : ∃ D2, D2 = D1 ++ (x.ins.map inB).flatten := ⟨_, rfl⟩
  obtain ⟨D3, hD3⟩ : ∃ D3, D3 = D2 ++ vi x.outs.length := ⟨_, rfl⟩
  obtain ⟨D4, hD4⟩ : ∃ D4, D4 = D3 ++ (x.outs.map outB).flatten := ⟨_, rfl⟩
  obtain ⟨D5, hD5⟩ : ∃ D5, D5 = D4 ++ (if false then (x.ins.map (fun y => witB y.w)).flatten else []) := ⟨_, rfl⟩
  have e0 : D0.length = l.length + 4 := by rw [hD0, List.length_append, le_len]
  have e1 : D1.length ≤ l.length + 15 := by have := vi_len x.ins.length; rw [hD1, List.length_append, List.length_append, e0]; split <;> simp <;> omega
  have e2 : D2.length ≤ l.length + L1 + 15 := by rw [hD2, List.length_append, ← hL1]; omega
  have e3 : D3.length ≤ l.length + L1 + 24 := by have := vi_len x.outs.length; rw [hD3, List.length_append]; omega
  have e4 : D4.length ≤ l.length + L1 + L2 + 24 := by rw [hD4, List.length_append, ← hL2]; omega
  have e5 : D5.length ≤ l.length + L1 + L2 + L3 + 24 := by rw [hD5, List.length_append]; split <;> first | omega | (rw [List.length_nil]; omega)
  have HE0 := Lib.hid e0
  have HE1 := Lib.hid e1
  have HE2 := Lib.hid e2
  have HE3 := Lib.hid e3
  have HE4 := Lib.hid e4
  have HE5 := Lib.hid e5
  have HD0 := Lib.hid hD0
  have HD1 := Lib.hid hD1
  have HD2 := Lib.hid hD2
  have HD3 := Lib.hid hD3
  have HD4 := Lib.hid hD4
  have HD5 := Lib.hid hD5
  have hdone : l ++ txB x false = D5 ++ le 4 x.k := by rw [hD5, hD4, hD3, hD2, hD1, hD0, txB, hxv]; simp only [List.append_assoc]
  have HDone := Lib.hid hdone
  skip
  clear h hx hg hlim hL1 hL2 hL3 hc hxv hD0 hD1 hD2 hD3 hD4 hD5 e0 e1 e2 e3 e4 e5 hdone
  go_enter Try.func51, Try.ntmps51
  go_wp2
  refine start_ (n := 9) (S := fun w' => w'.cell? ⟨g, 0, none⟩ = some (.int .i32 x.v)) (ds := []) #[false, false, false, false, false, false, false, false, false] (by kernel_rfl) rfl rfl ((HC.out _ T2.out).1) (fun hHeld => ?_)
  refine pure_ (i := 1) (N := some 25) (v := ?_) (a' := ?_) #[false, true, false, false, false, false, false, false, false] rfl rfl (by kernel_rfl) (fun _ _ _ h => h) (Or.inl ⟨by rfl, ?_⟩) ?_ ?_
  rotate_left
  · intro w'
    go_simp
    with_reducible rfl
  rotate_left
  · simp only [Act.put, List.setIfInBounds_toArray, List.set_cons_zero, List.set_cons_succ, i64_w, i32_w]
    rfl
  refine pure_ (i := 2) (N := some 26) (v := ?_) (a' := ?_) #[false, true, true, false, false, false, false, false, false] rfl rfl (by kernel_rfl) (fun _ _ _ h => h) (Or.inl ⟨by rfl, ?_⟩) ?_ ?_
  rotate_left
  · intro w'
    go_simp
    with_reducible rfl
  rotate_left
  · simp only [Act.put, List.setIfInBounds_toArray, List.set_cons_zero, List.set_cons_succ, i64_w, i32_w]
    rfl
  refine pure_ (i := 3) (N := some 27) (v := ?_) (a' := ?_) #[false, true, true, true, false, false, false, false, false] rfl rfl (by kernel_rfl) (fun _ _ _ h => h) (Or.inl ⟨by rfl, ?_⟩) ?_ ?_
  rotate_left
  · intro w'
    go_simp
    with_reducible rfl
  rotate_left
  · simp only [Act.put, List.setIfInBounds_toArray, List.set_cons_zero, List.set_cons_succ, i64_w, i32_w]
    rfl
  refine pure_ (i := 4) (N := some 28) (v := ?_) (a' := ?_) #[false, true, true, true, true, false, false, false, false] rfl rfl (by kernel_rfl) (fun _ _ _ h => h) (Or.inl ⟨by rfl, ?_⟩) ?_ ?_
  rotate_left
  · intro w'
    go_simp
    with_reducible rfl
  rotate_left
  · simp only [Act.put, List.setIfInBounds_toArray, List.set_cons_zero, List.set_cons_succ, i64_w, i32_w]
    rfl
  refine pure_ (i := 5) (N := some 29) (v := ?_) (a' := ?_) #[false, true, true, true, true, true, false, false, false] rfl rfl (by kernel_rfl) (fun _ _ _ h => h) (Or.inl ⟨by rfl, ?_⟩) ?_ ?_
  rotate_left
  · intro w'
    go_simp
    with_reducible rfl
  rotate_left
  · simp only [Act.put, List.setIfInBounds_toArray, List.set_cons_zero, List.set_cons_succ, i64_w, i32_w]
    rfl
  refine take_ (i := 0) (N := some 24) (v := ?_) (a' := ?_) #[true, true, true, true, true, true, false, false, false] rfl rfl (by kernel_rfl) (fun _ _ _ h => h) (Or.inl ⟨by rfl, ?_⟩) hHeld ?_ ?_
  rotate_left
  · intro w' s0
    go_simp
    with_reducible rfl
  rotate_left
  · simp only [Act.put, List.setIfInBounds_toArray, List.set_cons_zero, List.set_cons_succ, i64_w, i32_w]
    rfl
  refine take_ (i := 6) (N := some 30) (v := ?_) (a' := ?_) #[true, true, true, true, true, true, true, false, false] rfl rfl (by kernel_rfl) (fun _ _ _ h => h) (Or.inl ⟨by rfl, ?_⟩) hHeld ?_ ?_
  rotate_left
  · intro w' s0
    go_simp
    with_reducible rfl
  rotate_left
  · simp only [Act.put, List.setIfInBounds_toArray, List.set_cons_zero, List.set_cons_succ, i64_w, i32_w]
    rfl
  refine pure_ (i := 7) (N := some 31) (v := ?_) (a' := ?_) #[true, true, true, true, true, true, true, true, false] rfl rfl (by kernel_rfl) (fun _ _ _ h => h) (Or.inl ⟨by rfl, ?_⟩) ?_ ?_
  rotate_left
  · intro w'
    go_simp
    with_reducible rfl
  rotate_left
  · simp only [Act.put, List.setIfInBounds_toArray, List.set_cons_zero, List.set_cons_succ, i64_w, i32_w]
    rfl
  refine one_ (i := 8) (N := some 32) #[true, true, true, true, true, true, true, true, true] rfl rfl (by kernel_rfl) (by decide) (fun K hK => ?_)
  obtain ⟨d0, d1, d2, d3, d4, d5, d6, d7, hs3⟩ := H2.out.sc
  refine goes_ Try.func54 (by kernel_rfl) rfl #[.agg #[], .slice (some ⟨s, 0, none⟩) 4 8, .int .u32 xv] (by rfl) rfl rfl (by simp only [List.map_toArray, List.map_cons, List.map_nil]; rfl) ?_
  with_reducible refine (put32_calls s 4 8 xv d0 d1 d2 d3 d4 d5 d6 d7 _ hs3 (by omega) HX0.out HX1.out).mono ?_
  rintro e w4 ⟨rfl, hp⟩
  refine ⟨_, rfl, ?_⟩
  obtain ⟨h4, t4⟩ := H2.out.put hp
  have H4 := Lib.hid (h4.below (below_drew (Below.refl _ _))); have T40 := Lib.hid (T2.out.trans t4); have T4 := Lib.hid (T40.out.trans (h4.tr_below (below_drew (Below.refl _ _)))); have HP4 := Lib.hid (blk_drew hp.blk)
  clear h4 t4 hp hs3 H2 T2
  refine hK.out _ _ ((HC.out _ T40.out).1) (fun hHeld => ?_)
  clear hK K
  refine norm_ (a' := ?_) ?_ ?_
  rotate_left
  · show Act.put _ (some 32) _ = _
    simp only [Act.put, List.setIfInBounds_toArray, List.set_cons_zero, List.set_cons_succ, i64_w, i32_w]
    rfl
  refine done_ (by kernel_rfl) ?_
  clear T40
  go_wp2
  refine start_ (n := 12) (S := fun w' => True) (ds := []) #[false, false, false, false, false, false, false, false, false, false, false, false] (by kernel_rfl) rfl rfl trivial (fun hHeld => ?_)
  refine pure_ (i := 0) (N := some 34) (v := ?_) (a' := ?_) #[true, false, false, false, false, false, false, false, false, false, false, false] rfl rfl (by kernel_rfl) (fun _ _ _ h => h) (Or.inl ⟨by rfl, ?_⟩) ?_ ?_
  rotate_left
  · intro w'
    go_simp
    with_reducible rfl
  rotate_left
  · simp only [Act.put, List.setIfInBounds_toArray, List.set_cons_zero, List.set_cons_succ, i64_w, i32_w]
    rfl
  refine pure_ (i := 1) (N := some 35) (v := ?_) (a' := ?_) #[true, true, false, false, false, false, false, false, false, false, false, false] rfl rfl (by kernel_rfl) (fun _ _ _ h => h) (Or.inl ⟨by rfl, ?_⟩) ?_ ?_
  rotate_left
  · intro w'
    go_simp
    with_reducible rfl
  rotate_left
  · simp only [Act.put, List.setIfInBounds_toArray, List.set_cons_zero, List.set_cons_succ, i64_w, i32_w]
    rfl
  refine pure_ (i := 2) (N := some 36) (v := ?_) (a' := ?_) #[true, true, true, false, false, false, false, false, false, false, false, false] rfl rfl (by kernel_rfl) (fun _ _ _ h => h) (Or.inl ⟨by rfl, ?_⟩) ?_ ?_
  rotate_left
  · intro w'
    go_simp
    with_reducible rfl
  rotate_left
  · simp only [Act.put, List.setIfInBounds_toArray, List.set_cons_zero, List.set_cons_succ, i64_w, i32_w]
    rfl
  refine pure_ (i := 3) (N := some 37) (v := ?_) (a' := ?_) #[true, true, true, true, false, false, false, false, false, false, false, false] rfl rfl (by kernel_rfl) (fun _ _ _ h => h) (Or.inl ⟨by rfl, ?_⟩) ?_ ?_
  rotate_left
  · intro w'
    go_simp
    with_reducible rfl
  rotate_left
  · simp only [Act.put, List.setIfInBounds_toArray, List.set_cons_zero, List.set_cons_succ, i64_w, i32_w]
    rfl
  refine pure_ (i := 4) (N := some 38) (v := ?_) (a' := ?_) #[true, true, true, true, true, false, false, false, false, false, false, false] rfl rfl (by kernel_rfl) (fun _ _ _ h => h) (Or.inl ⟨by rfl, ?_⟩) ?_ ?_
  rotate_left
  · intro w'
    refine (exec_nilW w' (b := b) (.tmp 37) (by rfl) (by rfl)).trans ?_
    with_reducible rfl
  rotate_left
  · simp only [Act.put, List.setIfInBounds_toArray, List.set_cons_zero, List.set_cons_succ, i64_w, i32_w]
    rfl
  refine pure_ (i := 5) (N := some 39) (v := ?_) (a' := ?_) #[true, true, true, true, true, true, false, false, false, false, false, false] rfl rfl (by kernel_rfl) (fun _ _ _ h => h) (Or.inl ⟨by rfl, ?_⟩) ?_ ?_
  rotate_left
  · intro w'
    go_simp
    with_reducible rfl
  rotate_left
  · simp only [Act.put, List.setIfInBounds_toArray, List.set_cons_zero, List.set_cons_succ, i64_w, i32_w]
    rfl
  refine one_ (i := 6) (N := some 40) #[true, true, true, true, true, true, true, false, false, false, false, false] rfl rfl (by kernel_rfl) (by decide) (fun K hK => ?_)
  refine call_ (86) #[.pointer (some ⟨b, 0, none⟩), .slice (some ⟨s, 0, none⟩) 4 8] (by rfl) rfl (exec_write (.tmp 39) (.tmp 36) #[40] (by rfl) (by rfl) (by rfl)) ?_
  with_reducible refine (write_sc H4.out HP4.out 4 8 (le 4 xv) (le_len 4 xv) (fun j hj => by have hj2 : j = 0 ∨ j = 1 ∨ j = 2 ∨ j = 3 := (by omega); rcases hj2 with rfl | rfl | rfl | rfl <;> simp [le]) (by omega) (by have := HLM.out; omega)).mono ?_
  rintro e w5 ⟨rfl, v5, h5, t5⟩
  refine ⟨_, rfl, ?_⟩
  have H5 := Lib.hid (st_eq h5 HD0.out.symm); have T5 := Lib.hid (T4.out.trans t5); clear h5 t5 H4 T4 HP4
  refine hK.out _ _ trivial (fun hHeld => ?_)
  clear hK K
  refine norm_ (a' := ?_) ?_ ?_
  rotate_left
  · show Act.put _ (some 40) _ = _
    simp only [Act.put, List.setIfInBounds_toArray, List.set_cons_zero, List.set_cons_succ, i64_w, i32_w]
    rfl
  refine pure_ (i := 7) (N := some 33) (v := ?_) (a' := ?_) #[true, true, true, true, true, true, true, true, false, false, false, false] rfl rfl (by kernel_rfl) (fun _ _ _ h => h) (Or.inl ⟨by rfl, ?_⟩) ?_ ?_
  rotate_left
  · intro w'
    go_simp
    with_reducible rfl
  rotate_left
  · simp only [Act.put, List.setIfInBounds_toArray, List.set_cons_zero, List.set_cons_succ, i64_w, i32_w]
    rfl
  refine pure_ (i := 8) (N := some 41) (v := ?_) (a' := ?_) #[true, true, true, true, true, true, true, true, true, false, false, false] rfl rfl (by kernel_rfl) (fun _ _ _ h => h) (Or.inl ⟨by rfl, ?_⟩) ?_ ?_
  rotate_left
  · intro w'
    go_simp
    with_reducible rfl
  rotate_left
  · simp only [Act.put, List.setIfInBounds_toArray, List.set_cons_zero, List.set_cons_succ, i64_w, i32_w]
    rfl
  refine pure_ (i := 9) (N := some 42) (v := ?_) (a' := ?_) #[true, true, true, true, true, true, true, true, true, true, false, false] rfl rfl (by kernel_rfl) (fun _ _ _ h => h) (Or.inl ⟨by rfl, ?_⟩) ?_ ?_
  rotate_left
  · intro w'
    go_simp
    with_reducible rfl
  rotate_left
  · simp only [Act.put, List.setIfInBounds_toArray, List.set_cons_zero, List.set_cons_succ, i64_w, i32_w]
    rfl
  refine pure_ (i := 10) (N := some 11) (v := ?_) (a' := ?_) #[true, true, true, true, true, true, true, true, true, true, true, false] rfl rfl (by kernel_rfl) (fun _ _ _ h => h) (Or.inl ⟨by rfl, ?_⟩) ?_ ?_
  rotate_left
  · intro w'
    go_simp
    with_reducible rfl
  rotate_left
  · simp only [Act.put, List.setIfInBounds_toArray, List.set_cons_zero, List.set_cons_succ, i64_w, i32_w]
    rfl
  refine pure_ (i := 11) (N := some 12) (v := ?_) (a' := ?_) #[true, true, true, true, true, true, true, true, true, true, true, true] rfl rfl (by kernel_rfl) (fun _ _ _ h => h) (Or.inl ⟨by rfl, ?_⟩) ?_ ?_
  rotate_left
  · intro w'
    go_simp
    with_reducible rfl
  rotate_left
  · simp only [Act.put, List.setIfInBounds_toArray, List.set_cons_zero, List.set_cons_succ, i64_w, i32_w]
    rfl
  refine done_ (by kernel_rfl) ?_
  have z1 := (HC.out _ T5.out).2.1
  go_wp2_with (first | (go_at_call 55; go_must (refine (vi_calls H5.out p (x.ins.length : Int) (by omega) (by have := HG.out.n1; omega) (by have := HLM.out; have := HE0.out; omega)).mono ?_); rintro e w8 ⟨rfl, v8, h8, t8⟩; have H8 := Lib.hid (st_eq h8 (show _ = D1 from by rw [HD1.out]; simp)); have T8 := Lib.hid (T5.out.trans t8); clear h8 t8 H5 T5; have z1 := (HC.out _ T8.out).2.1))
  go_loopg [81] (x.ins.length + 1) (fun kq v81 w' => ∃ (i : Nat) (xi : Int) (v9 : Value), v81 = .int .i64 xi ∧ Hid (xi = (i : Int)) ∧ Hid (i + kq = x.ins.length + 1) ∧ Hid (St F B b s v9 (D1 ++ ((x.ins.take i).map inB).flatten) w') ∧ Hid (Tr F B w w'))
  case atStart => exact ⟨0, 0, v8, rfl, Lib.hid rfl, Lib.hid (Nat.zero_add _), Lib.hid (by simpa using H8.out), T8⟩
  case round =>
    clear H8 T8
    clear z1
    obtain ⟨i, xi, v9, rfl, HI, HK, H9, T9⟩ := hrel
    by_cases ci : i < x.ins.length
    · have p0 : 0 ≤ xi := by rw [HI.out]; omega
      have q0 : xi < (x.ins.length : Int) := by rw [HI.out]; omega
      have hwi : wrap64 (xi + 1) = xi + 1 := by have := HG.out.n1; exact wrap64_id (by omega) (by omega)
      obtain ⟨ad, g1, cs, B1, d1, B2, d2, rfl, hp, hT, _⟩ := in_at (HX.out.tr T9.out).ins xi p0 q0
      have hm := HG.out.i _ (rd_mem x.ins xi p0 q0)
      have htf := take_flat inB x.ins zTI i ci
      have htl := take_len inB x.ins zTI i ci
      rw [show x.ins.getD i zTI = rdT x.ins xi from by rw [rdT, HI.out]; rfl] at htf htl
      obtain ⟨y, hy⟩ : ∃ y, rdT x.ins xi = y := ⟨_, rfl⟩
      rw [hy] at hT hm htf htl
      obtain ⟨k1, rfl⟩ : ∃ k1, gk = k1 + 1 := ⟨gk - 1, by have := HK.out; omega⟩
      have pp := eq_true p0
      have qq := eq_true q0
      have qb : decide (xi < (x.ins.length : Int)) = true := decide_eq_true q0
      have z0 := (HC.out _ T9.out).1
      have HT := Lib.hid hT
      have HM := Lib.hid hm
      have HTF := Lib.hid htf
      have HTL := Lib.hid (show ((x.ins.take i).map inB).flatten.length + (inB y).length ≤ L1 by rw [HL1.out]; exact htl)
      have hil : (inB y).length ≥ 40 + y.s.length := by rw [inB, List.length_append, List.length_append, opB_len _ _ hT.hl, vb, List.length_append, le_len]; omega
      have HIL := Lib.hid hil
      clear p0 q0 hy hT hm htf htl ci hil
      go_wp2_with (go_at_call 56; go_must (refine (in_calls H9.out p x.v g1 y HT.out HM.out.1 HM.out.2.1 (by have := HLM.out; have := HE1.out; have := HTL.out; have := HIL.out; rw [List.length_append]; omega)).mono ?_); rintro e w10 ⟨rfl, v10, h10, t10⟩; have H10 := Lib.hid h10; have T10 := Lib.hid (T9.out.trans t10); clear h10 t10)
      go_roundg k1
      case measure => exact Nat.lt_succ_self _
      case rel => exact ⟨i + 1, xi + 1, v10, (by first | rfl | (simp [hwi]; done)), Lib.hid (by rw [HI.out]; omega), Lib.hid (by have := HK.out; omega), Lib.hid (by rw [HTF.out, ← List.append_assoc]; exact H10.out), T10⟩
    · have qb : decide (xi < (x.ins.length : Int)) = false := decide_eq_false (by rw [HI.out]; omega)
      have H10 := Lib.hid (st_eq H9.out (show _ = D2 from by rw [HD2.out, List.take_of_length_le (by omega)]))
      have z2 := (HC.out _ T9.out).2.2.1
      clear ci HI HK H9
      go_wp2_with (go_at_call 55; go_must (refine (vi_calls H10.out p (x.outs.length : Int) (by omega) (by have := HG.out.n2; omega) (by have := HLM.out; have := HE2.out; omega)).mono ?_); rintro e w11 ⟨rfl, v11, h11, t11⟩; have H11 := Lib.hid (st_eq h11 HD3.out.symm); have T11 := Lib.hid (T9.out.trans t11); clear h11 t11 H10 z2; have z2 := (HC.out _ T11.out).2.2.1)
      go_loopg [117] (x.outs.length + 1) (fun kq v117 w' => ∃ (i : Nat) (xi : Int) (v9 : Value), v117 = .int .i64 xi ∧ Hid (xi = (i : Int)) ∧ Hid (i + kq = x.outs.length + 1) ∧ Hid (St F B b s v9 (D3 ++ ((x.outs.take i).map outB).flatten) w') ∧ Hid (Tr F B w w'))
      case atStart => exact ⟨0, 0, v11, rfl, Lib.hid rfl, Lib.hid (Nat.zero_add _), Lib.hid (by simpa using H11.out), T11⟩
      case round =>
        clear H11 T11 T9 qb z2
        obtain ⟨i, xi, v9, rfl, HI, HK, H9, T9⟩ := hrel
        by_cases ci : i < x.outs.length
        · have p0 : 0 ≤ xi := by rw [HI.out]; omega
          have q0 : xi < (x.outs.length : Int) := by rw [HI.out]; omega
          have hwi : wrap64 (xi + 1) = xi + 1 := by have := HG.out.n2; exact wrap64_id (by omega) (by omega)
          obtain ⟨ad, g1, B1, d1, rfl, hp, hT⟩ := out_at (HX.out.tr T9.out).outs xi p0 q0
          have htf := take_flat outB x.outs PFnTxIDs.z45 i ci
          have htl := take_len outB x.outs PFnTxIDs.z45 i ci
          rw [show x.outs.getD i PFnTxIDs.z45 = rdO x.outs xi from by rw [rdO, HI.out]; rfl] at htf htl
          obtain ⟨y, hy⟩ : ∃ y, rdO x.outs xi = y := ⟨_, rfl⟩
          rw [hy] at hT htf htl
          obtain ⟨k1, rfl⟩ : ∃ k1, gk = k1 + 1 := ⟨gk - 1, by have := HK.out; omega⟩
          have pp := eq_true p0
          have qq := eq_true q0
          have qb : decide (xi < (x.outs.length : Int)) = true := decide_eq_true q0
          have z0 := (HC.out _ T9.out).1
          have HT := Lib.hid hT
          have HTF := Lib.hid htf
          have HTL := Lib.hid (show ((x.outs.take i).map outB).flatten.length + (outB y).length ≤ L2 by rw [HL2.out]; exact htl)
          have hil : (outB y).length ≥ 8 + y.f1.length := by rw [outB, List.length_append, vb, List.length_append, le_len]; omega
          have HIL := Lib.hid hil
          clear p0 q0 hy hT htf htl ci hil
          go_wp2_with (go_at_call 57; go_must (refine (out_calls H9.out p x.v g1 y HT.out (by have := HLM.out; have := HE3.out; have := HTL.out; have := HIL.out; rw [List.length_append]; omega)).mono ?_); rintro e w10 ⟨rfl, v10, h10, t10⟩; have H10 := Lib.hid h10; have T10 := Lib.hid (T9.out.trans t10); clear h10 t10)
          go_roundg k1
          case measure => exact Nat.lt_succ_self _
          case rel => exact ⟨i + 1, xi + 1, v10, (by first | rfl | (simp [hwi]; done)), Lib.hid (by rw [HI.out]; omega), Lib.hid (by have := HK.out; omega), Lib.hid (by rw [HTF.out, ← List.append_assoc]; exact H10.out), T10⟩
        · have qb : decide (xi < (x.outs.length : Int)) = false := decide_eq_false (by rw [HI.out]; omega)
          have H10 := Lib.hid (st_eq H9.out (show _ = D4 from by rw [HD4.out, List.take_of_length_le (by omega)]))
          clear ci HI HK H9
          have H14 := Lib.hid ((st_eq H10.out (show _ = D5 from by rw [HD5.out]; simp)).below (below_drew (Below.refl _ _)))
          have T14 := Lib.hid (T9.out.trans (H10.out.tr_below (below_drew (Below.refl _ _))))
          clear H10 T9
          go_wp2
          refine start_ (n := 8) (S := fun w' => w'.cell? ⟨g, 3, none⟩ = some (.int .u32 x.k)) (ds := []) #[false, false, false, false, false, false, false, false] (by kernel_rfl) rfl rfl ((HC.out _ T14.out).2.2.2) (fun hHeld => ?_)
          refine pure_ (i := 1) (N := some 161) (v := ?_) (a' := ?_) #[false, true, false, false, false, false, false, false] rfl rfl (by kernel_rfl) (fun _ _ _ h => h) (Or.inl ⟨by rfl, ?_⟩) ?_ ?_
          rotate_left
          · intro w'
            go_simp
            with_reducible rfl
          rotate_left
          · simp only [Act.put, List.setIfInBounds_toArray, List.set_cons_zero, List.set_cons_succ, i64_w, i32_w]
            rfl
          refine pure_ (i := 2) (N := some 162) (v := ?_) (a' := ?_) #[false, true, true, false, false, false, false, false] rfl rfl (by kernel_rfl) (fun _ _ _ h => h) (Or.inl ⟨by rfl, ?_⟩) ?_ ?_
          rotate_left
          · intro w'
            go_simp
            with_reducible rfl
          rotate_left
          · simp only [Act.put, List.setIfInBounds_toArray, List.set_cons_zero, List.set_cons_succ, i64_w, i32_w]
            rfl
          refine pure_ (i := 3) (N := some 163) (v := ?_) (a' := ?_) #[false, true, true, true, false, false, false, false] rfl rfl (by kernel_rfl) (fun _ _ _ h => h) (Or.inl ⟨by rfl, ?_⟩) ?_ ?_
          rotate_left
          · intro w'
            go_simp
            with_reducible rfl
          rotate_left
          · simp only [Act.put, List.setIfInBounds_toArray, List.set_cons_zero, List.set_cons_succ, i64_w, i32_w]
            rfl
          refine pure_ (i := 4) (N := some 164) (v := ?_) (a' := ?_) #[false, true, true, true, true, false, false, false] rfl rfl (by kernel_rfl) (fun _ _ _ h => h) (Or.inl ⟨by rfl, ?_⟩) ?_ ?_
          rotate_left
          · intro w'
            go_simp
            with_reducible rfl
          rotate_left
          · simp only [Act.put, List.setIfInBounds_toArray, List.set_cons_zero, List.set_cons_succ, i64_w, i32_w]
            rfl
          refine pure_ (i := 5) (N := some 165) (v := ?_) (a' := ?_) #[false, true, true, true, true, true, false, false] rfl rfl (by kernel_rfl) (fun _ _ _ h => h) (Or.inl ⟨by rfl, ?_⟩) ?_ ?_
          rotate_left
          · intro w'
            go_simp
            with_reducible rfl
          rotate_left
          · simp only [Act.put, List.setIfInBounds_toArray, List.set_cons_zero, List.set_cons_succ, i64_w, i32_w]
            rfl
          refine take_ (i := 0) (N := some 160) (v := ?_) (a' := ?_) #[true, true, true, true, true, true, false, false] rfl rfl (by kernel_rfl) (fun _ _ _ h => h) (Or.inl ⟨by rfl, ?_⟩) hHeld ?_ ?_
          rotate_left
          · intro w' s0
            go_simp
            with_reducible rfl
          rotate_left
          · simp only [Act.put, List.setIfInBounds_toArray, List.set_cons_zero, List.set_cons_succ, i64_w, i32_w]
            rfl
          refine take_ (i := 6) (N := some 166) (v := ?_) (a' := ?_) #[true, true, true, true, true, true, true, false] rfl rfl (by kernel_rfl) (fun _ _ _ h => h) (Or.inl ⟨by rfl, ?_⟩) hHeld ?_ ?_
          rotate_left
          · intro w' s0
            go_simp
            with_reducible rfl
          rotate_left
          · simp only [Act.put, List.setIfInBounds_toArray, List.set_cons_zero, List.set_cons_succ, i64_w, i32_w]
            rfl
          refine one_ (i := 7) (N := some 167) #[true, true, true, true, true, true, true, true] rfl rfl (by kernel_rfl) (by decide) (fun K hK => ?_)
          obtain ⟨d0, d1, d2, d3, d4, d5, d6, d7, hs3⟩ := H14.out.sc
          refine goes_ Try.func54 (by kernel_rfl) rfl #[.agg #[], .slice (some ⟨s, 0, none⟩) 4 8, .int .u32 x.k] (by rfl) rfl rfl (by simp only [List.map_toArray, List.map_cons, List.map_nil]; rfl) ?_
          with_reducible refine (put32_calls s 4 8 x.k d0 d1 d2 d3 d4 d5 d6 d7 _ hs3 (by omega) HG.out.k.1 HG.out.k.2).mono ?_
          rintro e w15 ⟨rfl, hp⟩
          refine ⟨_, rfl, ?_⟩
          obtain ⟨h4, t4⟩ := H14.out.put hp
          have H15 := Lib.hid (h4.below (below_drew (Below.refl _ _))); have T40 := Lib.hid (T14.out.trans t4); have T15 := Lib.hid (T40.out.trans (h4.tr_below (below_drew (Below.refl _ _)))); have HP4 := Lib.hid (blk_drew hp.blk)
          clear h4 t4 hp hs3 H14 T14
          refine hK.out _ _ ((HC.out _ T40.out).2.2.2) (fun hHeld => ?_)
          clear hK K
          refine norm_ (a' := ?_) ?_ ?_
          rotate_left
          · show Act.put _ (some 167) _ = _
            simp only [Act.put, List.setIfInBounds_toArray, List.set_cons_zero, List.set_cons_succ, i64_w, i32_w]
            rfl
          refine done_ (by kernel_rfl) ?_
          clear T40
          go_wp2
          refine start_ (n := 11) (S := fun w' => True) (ds := []) #[false, false, false, false, false, false, false, false, false, false, false] (by kernel_rfl) rfl rfl trivial (fun hHeld => ?_)
          refine pure_ (i := 0) (N := some 169) (v := ?_) (a' := ?_) #[true, false, false, false, false, false, false, false, false, false, false] rfl rfl (by kernel_rfl) (fun _ _ _ h => h) (Or.inl ⟨by rfl, ?_⟩) ?_ ?_
          rotate_left
          · intro w'
            go_simp
            with_reducible rfl
          rotate_left
          · simp only [Act.put, List.setIfInBounds_toArray, List.set_cons_zero, List.set_cons_succ, i64_w, i32_w]
            rfl
          refine pure_ (i := 1) (N := some 170) (v := ?_) (a' := ?_) #[true, true, false, false, false, false, false, false, false, false, false] rfl rfl (by kernel_rfl) (fun _ _ _ h => h) (Or.inl ⟨by rfl, ?_⟩) ?_ ?_
          rotate_left
          · intro w'
            go_simp
            with_reducible rfl
          rotate_left
          · simp only [Act.put, List.setIfInBounds_toArray, List.set_cons_zero, List.set_cons_succ, i64_w, i32_w]
            rfl
          refine pure_ (i := 2) (N := some 171) (v := ?_) (a' := ?_) #[true, true, true, false, false, false, false, false, false, false, false] rfl rfl (by kernel_rfl) (fun _ _ _ h => h) (Or.inl ⟨by rfl, ?_⟩) ?_ ?_
          rotate_left
          · intro w'
            go_simp
            with_reducible rfl
          rotate_left
          · simp only [Act.put, List.setIfInBounds_toArray, List.set_cons_zero, List.set_cons_succ, i64_w, i32_w]
            rfl
          refine pure_ (i := 3) (N := some 172) (v := ?_) (a' := ?_) #[true, true, true, true, false, false, false, false, false, false, false] rfl rfl (by kernel_rfl) (fun _ _ _ h => h) (Or.inl ⟨by rfl, ?_⟩) ?_ ?_
          rotate_left
          · intro w'
            go_simp
            with_reducible rfl
          rotate_left
          · simp only [Act.put, List.setIfInBounds_toArray, List.set_cons_zero, List.set_cons_succ, i64_w, i32_w]
            rfl
          refine pure_ (i := 4) (N := some 173) (v := ?_) (a' := ?_) #[true, true, true, true, true, false, false, false, false, false, false] rfl rfl (by kernel_rfl) (fun _ _ _ h => h) (Or.inl ⟨by rfl, ?_⟩) ?_ ?_
          rotate_left
          · intro w'
            refine (exec_nilW w' (b := b) (.tmp 172) (by rfl) (by rfl)).trans ?_
            with_reducible rfl
          rotate_left
          · simp only [Act.put, List.setIfInBounds_toArray, List.set_cons_zero, List.set_cons_succ, i64_w, i32_w]
            rfl
          refine pure_ (i := 5) (N := some 174) (v := ?_) (a' := ?_) #[true, true, true, true, true, true, false, false, false, false, false] rfl rfl (by kernel_rfl) (fun _ _ _ h => h) (Or.inl ⟨by rfl, ?_⟩) ?_ ?_
          rotate_left
          · intro w'
            go_simp
            with_reducible rfl
          rotate_left
          · simp only [Act.put, List.setIfInBounds_toArray, List.set_cons_zero, List.set_cons_succ, i64_w, i32_w]
            rfl
          refine one_ (i := 6) (N := some 175) #[true, true, true, true, true, true, true, false, false, false, false] rfl rfl (by kernel_rfl) (by decide) (fun K hK => ?_)
          refine call_ (86) #[.pointer (some ⟨b, 0, none⟩), .slice (some ⟨s, 0, none⟩) 4 8] (by rfl) rfl (exec_write (.tmp 174) (.tmp 171) #[40] (by rfl) (by rfl) (by rfl)) ?_
          with_reducible refine (write_sc H15.out HP4.out 4 8 (le 4 x.k) (le_len 4 x.k) (fun j hj => by have hj2 : j = 0 ∨ j = 1 ∨ j = 2 ∨ j = 3 := (by omega); rcases hj2 with rfl | rfl | rfl | rfl <;> simp [le]) (by omega) (by have := HLM.out; have := HE5.out; omega)).mono ?_
          rintro e w16 ⟨rfl, v16, h16, t16⟩
          refine ⟨_, rfl, ?_⟩
          have H16 := Lib.hid (st_eq h16 HDone.out.symm); have T16 := Lib.hid (T15.out.trans t16); clear h16 t16 H15 T15
          refine hK.out _ _ trivial (fun hHeld => ?_)
          clear hK K
          refine norm_ (a' := ?_) ?_ ?_
          rotate_left
          · show Act.put _ (some 175) _ = _
            simp only [Act.put, List.setIfInBounds_toArray, List.set_cons_zero, List.set_cons_succ, i64_w, i32_w]
            rfl
          refine pure_ (i := 7) (N := some 168) (v := ?_) (a' := ?_) #[true, true, true, true, true, true, true, true, false, false, false] rfl rfl (by kernel_rfl) (fun _ _ _ h => h) (Or.inl ⟨by rfl, ?_⟩) ?_ ?_
          rotate_left
          · intro w'
            go_simp
            with_reducible rfl
          rotate_left
          · simp only [Act.put, List.setIfInBounds_toArray, List.set_cons_zero, List.set_cons_succ, i64_w, i32_w]
            rfl
          refine pure_ (i := 8) (N := some 176) (v := ?_) (a' := ?_) #[true, true, true, true, true, true, true, true, true, false, false] rfl rfl (by kernel_rfl) (fun _ _ _ h => h) (Or.inl ⟨by rfl, ?_⟩) ?_ ?_
          rotate_left
          · intro w'
            go_simp
            with_reducible rfl
          rotate_left
          · simp only [Act.put, List.setIfInBounds_toArray, List.set_cons_zero, List.set_cons_succ, i64_w, i32_w]
            rfl
          refine pure_ (i := 9) (N := some 177) (v := ?_) (a' := ?_) #[true, true, true, true, true, true, true, true, true, true, false] rfl rfl (by kernel_rfl) (fun _ _ _ h => h) (Or.inl ⟨by rfl, ?_⟩) ?_ ?_
          rotate_left
          · intro w'
            go_simp
            with_reducible rfl
          rotate_left
          · simp only [Act.put, List.setIfInBounds_toArray, List.set_cons_zero, List.set_cons_succ, i64_w, i32_w]
            rfl
          refine pure_ (i := 10) (N := some 17) (v := ?_) (a' := ?_) #[true, true, true, true, true, true, true, true, true, true, true] rfl rfl (by kernel_rfl) (fun _ _ _ h => h) (Or.inl ⟨by rfl, ?_⟩) ?_ ?_
          rotate_left
          · intro w'
            go_simp
            with_reducible rfl
          rotate_left
          · simp only [Act.put, List.setIfInBounds_toArray, List.set_cons_zero, List.set_cons_succ, i64_w, i32_w]
            rfl
          refine done_ (by kernel_rfl) ?_
          go_wp2
          go_ret
          exact ⟨rfl, v16, H16.out, T16.out⟩
theorem enc_calls {F : Nat → Prop} {B b s : Nat} {v : Value} {l : List Int} {w : World} (h : St F B b s v l w) (p : Int) (wit : Bool) (g : Nat) (x : TX) {A1 : Option Addr} {c1 : Nat} {A2 : Option Addr} {c2 : Nat} (hx : TxF F w g x A1 c1 A2 c2) (hg : Nums x) (hlim : l.length + txN x + 256 ≤ 6000000) :
    Calls Try.prog 51 #[.pointer (some ⟨g, 0, none⟩), Wr b, .int .u32 p, .int .u32 (if wit then 2 else 1), .slice (some ⟨s, 0, none⟩) 8 8] w fun e w' => e = .returned .nilIface ∧ ∃ v', St F B b s v' (l ++ txB x (wit && hasW x.ins)) w' ∧ Tr F B w w' := by
  cases wit
  · exact enc_b h p g x hx hg hlim
  · cases hb : hasW x.ins
    · exact enc_n h p g x hx hg hlim hb
    · exact enc_w h p g x hx hg hlim hb
end Go.Proofs.Ytkmlpoggbfbnaaa.Wire
