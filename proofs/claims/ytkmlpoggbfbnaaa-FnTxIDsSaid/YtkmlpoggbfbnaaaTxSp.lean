/-
  spec.TxBytes: a transaction's bytes, as the statement means them.
-/
import Derived.Test.YtkmlpoggbfbnaaaGe
namespace Go.Proofs.Ytkmlpoggbfbnaaa.Wire
open Go.RowKit Go.Proofs.YtkmlpoggbfbnaaaW.PrintWords Go.Proofs.YtkmlpoggbfbnaaaW.PrintLast Go.Proofs.Ytkmlpoggbfbnaaa.Tx Go.Proofs.Ytkmlpoggbfbnaaa.Reg
set_option linter.unusedSimpArgs false
set_option linter.unusedVariables false

/-- An operation whose guard lets it be. -/
theorem wpList_let {P : Program} {ops : Array Oper} {Q : Exit → Act → World → Prop} {a : Act} {w : World} {rest : List Oper} {o : Oper} (hw : Region.wanted o (yielded ops a.tmps) = true)
    (h : ∀ K : Act → World → Prop, (∀ a w, wpList P ops Q rest a w → K a w) → o.wp P a w K Q) : wpList P ops Q (o :: rest) a w :=
  wpList_step fun K hK => by rw [if_pos hw]; exact h K hK
theorem wp_load_list {P : Program} {op : Oper} {a : Act} {w : World} {K : Act → World → Prop} {Q : Exit → Act → World → Prop} (ty : TypeId) (x : Operand) (ho : op.op = .load ty x)
    (ad : Addr) (hx : a.eval x = .pointer (some ad)) (cs : List Value) (d : TypeDesc) (hc : ∀ j v, cs[j]? = some v → w.cell? (ad.add j) = some v)
    (hu : P.underlying ty = some d) (hd : d.isRow = true) (hi : (P.info? ty).map (·.size) = some cs.length)
    (h : K (a.put op.dst (.agg cs.toArray)) w) : Oper.wp P op a w K Q := by
  unfold Oper.wp execOp
  simp only [ho, hx, Sem.run_bind, Sem.run_pure, Result.andThen_ok, run_loadAt_list w ad ty cs d hc hu hd hi]
  exact h
set_option maxHeartbeats 8000000 in
set_option maxRecDepth 100000 in
theorem specHas_calls (x : TX) (A1 : Option Addr) (c1 : Nat) (A2 : Option Addr) (c2 : Nat) (w : World) (h : TxIn w x A1 c1 A2 c2) (hn : x.ins.length ≤ 2147483647) :
    Calls Try.prog 31 #[.agg (txc x A1 c1 A2 c2)] w fun e w' => e = .returned (.bool (hasW x.ins)) ∧ Below w.heap.size w w' := by
  obtain ⟨cs, hcs⟩ : ∃ cs, txc x A1 c1 A2 c2 = cs := ⟨_, rfl⟩
  have k1 : (w.alloc (.cells cs 26)).cell? ⟨w.heap.size, 1, none⟩ = some (.slice A1 x.ins.length c1) := by rw [cell_of_row _ _ _ _ _ _ (heap_alloc_new w _), ← hcs]; rfl
  obtain ⟨W0, hW0⟩ : ∃ W0, w.alloc (.cells cs 26) = W0 := ⟨_, rfl⟩
  have hB0 : Below w.heap.size w W0 := hW0 ▸ below_alloc (Below.refl _ _) _
  rw [hW0] at k1
  have K1 := Lib.hid k1
  have HB0 := Lib.hid hB0
  have H := Lib.hid (h.below hB0)
  have HN := Lib.hid hn
  rw [hcs]
  obtain ⟨b, hb⟩ : ∃ b, hasW x.ins = b := ⟨_, rfl⟩
  have HBB := Lib.hid hb
  rw [hb]
  have hall : (w.alloc (.cells cs 26)) = W0 := hW0
  clear h hcs k1 hB0 hW0 hb hn
  go_enter Try.func31, Try.ntmps31
  go_wp2
  try rw [hall]
  go_loopg [3] (x.ins.length + 1) (fun kq v3 w' => ∃ (i : Nat) (xi : Int), v3 = .int .i64 xi ∧ Hid (xi = (i : Int)) ∧ Hid (i + kq = x.ins.length + 1) ∧ Hid (b = hasW (x.ins.drop i)) ∧ Hid (Below W0.heap.size W0 w'))
  case atStart => exact ⟨0, 0, rfl, Lib.hid rfl, Lib.hid (Nat.zero_add _), Lib.hid HBB.out.symm, Lib.hid (Below.refl _ _)⟩
  case round =>
    clear hall
    obtain ⟨i, xi, rfl, HI, HK, HD, HB⟩ := hrel
    have c1_ := (HB.out.cell (World.block_lt_of_cell? W0 _ K1.out)).trans K1.out
    by_cases ci : i < x.ins.length
    · have p0 : 0 ≤ xi := by rw [HI.out]; omega
      have q0 : xi < (x.ins.length : Int) := by rw [HI.out]; omega
      obtain ⟨ad, B1, d1, B2, d2, rfl, _, _, _, _, _, hc2⟩ := at_look H.out.g1 xi p0 q0
      have hw1 : wrap64 (xi + 1) = xi + 1 := by have := HN.out; exact wrap64_id (by omega) (by omega)
      have hdr : hasW (x.ins.drop i) = (decide (0 < (rdT x.ins xi).w.length) || hasW (x.ins.drop (i + 1))) := by
        have e : rdT x.ins xi = x.ins[i] := by rw [rdT, HI.out]; simp [List.getD, List.getElem?_eq_getElem ci]
        rw [List.drop_eq_getElem_cons ci, e]; rfl
      have hx2 := hc2 _ HB.out
      obtain ⟨m, hm⟩ : ∃ m, (rdT x.ins xi).w.length = m := ⟨_, rfl⟩
      rw [hm] at hx2 hdr
      obtain ⟨k1, rfl⟩ : ∃ k1, gk = k1 + 1 := ⟨gk - 1, by have := HK.out; omega⟩
      have pp := eq_true p0
      have qq := eq_true q0
      have qb : decide (xi < (x.ins.length : Int)) = true := decide_eq_true q0
      have HDR := Lib.hid hdr
      have CI := Lib.hid ci
      clear p0 q0 hc2 hdr hm ci
      by_cases cm : m = 0
      · subst cm
        go_wp2
        go_roundg k1
        case measure => exact Nat.lt_succ_self _
        case rel => exact ⟨i + 1, xi + 1, (by first | rfl | (simp [hw1]; done)), Lib.hid (by rw [HI.out]; omega), Lib.hid (by have := HK.out; omega), Lib.hid (by rw [HD.out, HDR.out]; rfl), HB⟩
      · have cb : decide (0 < m) = true := decide_eq_true (by omega)
        have cb1 : decide ((0 : Int) < (m : Int)) = true := decide_eq_true (by omega)
        have hbt : b = true := by rw [HD.out, HDR.out, cb, Bool.true_or]
        subst hbt
        clear cm
        go_wp2
        go_ret
        exact ⟨rfl, below_step HB0.out HB.out⟩
    · have qb : decide (xi < (x.ins.length : Int)) = false := decide_eq_false (by rw [HI.out]; omega)
      have : b = false := by rw [HD.out, List.drop_of_length_le (by omega)]; rfl
      subst this
      clear ci HD HI HK
      go_wp2
      go_ret
      exact ⟨rfl, below_step HB0.out HB.out⟩

/-- An output in a row of outputs: its cells, for later worlds. -/
theorem out_step {w : World} {A : Option Addr} {n : Nat} {xs : List PFnTxIDs.S45} (h : Kd.C PFnTxIDs.k45 w A n xs) (i : Int) (h0 : 0 ≤ i) (h1 : i < n) : ∃ (ad : Addr) (B1 : Option Addr) (d1 : Nat), A = some ad ∧ (rdO xs i).f1.length ≤ d1 ∧ (Kd.int .u8).C w B1 (rdO xs i).f1.length (rdO xs i).f1 ∧
    (∀ W, Below w.heap.size w W → Lies W (ad.add (i.toNat * 2)) [.int .i64 (rdO xs i).f0, .slice B1 (rdO xs i).f1.length d1]) := by
  obtain ⟨ad, c, e, _, hK, hc⟩ := Kd.C_get h PFnTxIDs.z45 i h0 h1
  obtain ⟨B1, d1, rfl, l1, g1⟩ := PFnTxIDs.k45_open hK
  refine ⟨ad, B1, d1, e, l1, g1, fun W hW j v hj => ?_⟩
  have := hc j v hj
  rw [show i.toNat * PFnTxIDs.k45.sz + j = i.toNat * 2 + j from rfl] at this
  rw [add_add]
  exact pw_cell_below hW this
/-- What a call made is this call's own. -/
theorem Own.of {w0 w w1 : World} {d : List Int} {u : Value} {base : Nat} {ok : Nat → Prop} (hb0 : Below w0.heap.size w0 w) (hr : Kd.R (Kd.int .u8) 5 w1 base ok u d) (hbase : w0.heap.size ≤ base) (hb : Below w.heap.size w w1) : Own w0 w1 u d :=
  ⟨Kd.R_lower (Kd.R_mono hr (fun _ _ => trivial)) hbase, below_then hb0 hb0.size hb⟩
set_option maxHeartbeats 16000000 in
set_option maxRecDepth 100000 in
theorem spec_w (x : TX) (A1 : Option Addr) (c1 : Nat) (A2 : Option Addr) (c2 : Nat) (w : World) (h : TxIn w x A1 c1 A2 c2) (hf : fit2 x = true) (hg : Nums x) (hlim : txN x + 256 ≤ 140737488355328) (hb : hasW x.ins = true) :
    Calls Try.prog 18 #[.agg (txc x A1 c1 A2 c2), .bool true] w fun e w' => ∃ v, e = .returned v ∧ Own w w' v (txB x true) := by
  have hf1 : (∀ y ∈ x.ins, y.s.length ≤ 2147483647) ∧ (∀ y ∈ x.outs, y.f1.length ≤ 2147483647) := by
    simp only [fit2, fit3, fit4, fit5, fit6, Bool.and_eq_true, decide_eq_true_eq, List.all_eq_true] at hf
    exact ⟨fun y hy => (hf.1.2 y hy).1, hf.2.2⟩
  have F1 := Lib.hid hf1
  have HG := Lib.hid hg
  obtain ⟨L1, hL1⟩ : ∃ L1, L1 = (x.ins.map inB).flatten.length := ⟨_, rfl⟩
  obtain ⟨L2, hL2⟩ : ∃ L2, L2 = (x.outs.map outB).flatten.length := ⟨_, rfl⟩
  obtain ⟨L3, hL3⟩ : ∃ L3, L3 = (x.ins.map fun y => witB y.w).flatten.length := ⟨_, rfl⟩
  have HL1 := Lib.hid hL1
  have HL2 := Lib.hid hL2
  have HL3 := Lib.hid hL3
  have HLM := Lib.hid (show L1 + L2 + L3 + 256 ≤ 140737488355328 by rw [hL1, hL2, hL3]; unfold txN at hlim; omega)
  have hsh := specHas_calls x A1 c1 A2 c2
  obtain ⟨cs, hcs⟩ : ∃ cs, txc x A1 c1 A2 c2 = cs := ⟨_, rfl⟩
  have HZ := Lib.hid (show cs.size = 4 from by rw [← hcs]; rfl)
  rw [hcs] at hsh ⊢
  have HSH := Lib.hid (show ∀ W, Below w.heap.size w W → Calls Try.prog 31 #[.agg cs] W fun e w' => e = .returned (.bool (hasW x.ins)) ∧ Below W.heap.size W w' from fun W hW => hsh W (h.below hW) hg.n1)
  have hB0 : Below w.heap.size w (w.alloc (.cells cs 26)) := below_alloc (Below.refl _ _) _
  have W0 := Lib.hid hB0
  have HT := Lib.hid (h.below hB0)
  have hc : ∀ W, Below (w.alloc (.cells cs 26)).heap.size (w.alloc (.cells cs 26)) W → W.cell? ⟨w.heap.size, 0, none⟩ = some (.int .i32 x.v) ∧ W.cell? ⟨w.heap.size, 1, none⟩ = some (.slice A1 x.ins.length c1) ∧ W.cell? ⟨w.heap.size, 2, none⟩ = some (.slice A2 x.outs.length c2) ∧ W.cell? ⟨w.heap.size, 3, none⟩ = some (.int .u32 x.k) := by
    intro W hW
    have hb := blk_below (heap_alloc_new w (.cells cs 26)) hW
    refine ⟨?_, ?_, ?_, ?_⟩ <;> (rw [blk_cell hb, ← hcs]; rfl)
  have HC := Lib.hid hc
  obtain ⟨xv, hxv⟩ : ∃ xv, x.v % 4294967296 = xv := ⟨_, rfl⟩
  have hv0 : 0 ≤ xv := by omega
  have hv1 : xv < 4294967296 := by omega
  obtain ⟨d0, hd0⟩ : ∃ d, le 4 xv = d := ⟨_, rfl⟩
  obtain ⟨d9, hd9⟩ : ∃ d, le 4 x.k = d := ⟨_, rfl⟩
  obtain ⟨q1, hq1⟩ : ∃ d, vi x.ins.length = d := ⟨_, rfl⟩
  obtain ⟨q2, hq2⟩ : ∃ d, vi x.outs.length = d := ⟨_, rfl⟩
  have KV := Lib.hid (hd0 ▸ little_eq 4 9 (by omega) (by omega) xv hv0 (by omega))
  have KK := Lib.hid (hd9 ▸ little_eq 4 9 (by omega) (by omega) x.k hg.k.1 (by have := hg.k.2; omega))
  have K1 := Lib.hid (hq1 ▸ varint_eq 9 (by omega) x.ins.length (by omega) (by have := hg.n1; omega))
  have K2 := Lib.hid (hq2 ▸ varint_eq 9 (by omega) x.outs.length (by omega) (by have := hg.n2; omega))
  obtain ⟨D0, hD0⟩ : ∃ D0, D0 = d0 ++ (if true then [0, 1] else []) := ⟨_, rfl⟩
  obtain ⟨D1, hD1⟩ : ∃ D1, D1 = D0 ++ q1 := ⟨_, rfl⟩
  obtain ⟨D2, hD2⟩ : ∃ D2, D2 = D1 ++ (x.ins.map inB).flatten := ⟨_, rfl⟩
  obtain ⟨D3, hD3⟩ : ∃ D3, D3 = D2 ++ q2 := ⟨_, rfl⟩
  obtain ⟨D4, hD4⟩ : ∃ D4, D4 = D3 ++ (x.outs.map outB).flatten := ⟨_, rfl⟩
  obtain ⟨D5, hD5⟩ : ∃ D5, D5 = D4 ++ (if true then (x.ins.map (fun y => witB y.w)).flatten else []) := ⟨_, rfl⟩
  have z0 : d0.length = 4 := by rw [← hd0, le_len]
  have z9 : d9.length = 4 := by rw [← hd9, le_len]
  have y1 : q1.length ≤ 9 := by rw [← hq1]; exact vi_len _
  have y2 : q2.length ≤ 9 := by rw [← hq2]; exact vi_len _
  have e0 : D0.length ≤ 6 := by rw [hD0, List.length_append, z0]; split <;> simp
  have e1 : D1.length ≤ 15 := by rw [hD1, List.length_append]; omega
  have e2 : D2.length ≤ L1 + 15 := by rw [hD2, List.length_append, ← hL1]; omega
  have e3 : D3.length ≤ L1 + 24 := by rw [hD3, List.length_append]; omega
  have e4 : D4.length ≤ L1 + L2 + 24 := by rw [hD4, List.length_append, ← hL2]; omega
  have e5 : D5.length ≤ L1 + L2 + L3 + 24 := by rw [hD5, List.length_append]; split <;> first | omega | (rw [List.length_nil]; omega)
  have HZ0 := Lib.hid z0
  have HZ9 := Lib.hid z9
  have HY1 := Lib.hid y1
  have HY2 := Lib.hid y2
  have HE0 := Lib.hid e0
  have HE1 := Lib.hid e1
  have HE2 := Lib.hid e2
  have HE3 := Lib.hid e3
  have HE4 := Lib.hid e4
  have HE5 := Lib.hid e5
  have HD0 := Lib.hid hD0
  have HD1 := Lib.hid hD1
  have HD2 := Lib.hid hD2
  have HD3 := Lib.hid hD3
  have HD4 := Lib.hid hD4
  have HD5 := Lib.hid hD5
  have HDone := Lib.hid (show txB x true = D5 ++ d9 from by rw [hD5, hD4, hD3, hD2, hD1, hD0, txB, hxv, hd0, hq1, hq2, hd9]; simp only [List.append_assoc])
  have hw : IntKind.u32.wrap x.v = xv := by rw [u32_mod, hxv]
  have hw0 : IntKind.u64.wrap xv = xv := u64_id hv0 (by omega)
  have hw00 : xv % 18446744073709551616 = xv := by omega
  have hw1 : IntKind.u64.wrap (x.ins.length : Int) = x.ins.length := u64_id (by omega) (by have := hg.n1; omega)
  have hw2 : (x.ins.length : Int) % 18446744073709551616 = x.ins.length := by have := hg.n1; omega
  have hw3 : IntKind.u64.wrap (x.outs.length : Int) = x.outs.length := u64_id (by omega) (by have := hg.n2; omega)
  have hw4 : (x.outs.length : Int) % 18446744073709551616 = x.outs.length := by have := hg.n2; omega
  have hw5 : IntKind.u64.wrap x.k = x.k := u64_id hg.k.1 (by have := hg.k.2; omega)
  have hw6 : x.k % 18446744073709551616 = x.k := by have := hg.k.1; have := hg.k.2; omega
  have HBW := Lib.hid hb; clear hb
  have HV := Lib.hid hxv
  clear h hf hg hlim hf1 hL1 hL2 hL3 hcs hsh hB0 hc hv0 hv1 hd0 hd9 hq1 hq2 hD0 hD1 hD2 hD3 hD4 hD5 z0 z9 y1 y2 e0 e1 e2 e3 e4 e5 hxv
  have HB := Lib.hid (Below.refl (w.alloc (.cells cs 26)).heap.size (w.alloc (.cells cs 26)))
  have k0 := (HC.out _ HB.out).1
  go_enter Try.func18, Try.ntmps18
  go_wp2_with (first
    | ((with_reducible refine gate_dst (N := 12) rfl ?_); go_must (refine wpList_let ?aW (fun K hK => wp_load_list 26 (.tmp 2) rfl ⟨w.heap.size, 0, none⟩ rfl cs.toList _ (box_lies HB.out) Try.underlying26 rfl ?aI (hK _ _ ?_))); go_must (case aW => first | rfl | (simp [Region.wanted, yielded]; done)); go_must (case aI => rw [Array.length_toList, HZ.out]; rfl); go_must (simp only [Array.toArray_toList]))
    | (go_at_call 31; go_must (refine (HSH.out _ (below_step W0.out HB.out)).mono ?_); rintro e w_ ⟨rfl, hb⟩; have hbw := HBW.out; rw [hbw]; clear hbw; have n0_ := Lib.hid (below_step HB.out hb); clear HB hb k0; have HB := n0_; clear n0_; have k0 := (HC.out _ HB.out).1)
    | (go_at_call 32; (with_reducible refine (PFnTxIDs.spec_little.calls 9 xv 4 _ _ KV.out).mono ?_); rintro e w_ ⟨u, rfl, hr, hb⟩; have n0_ := Lib.hid (Own.of HB.out hr HB.out.size hb); clear HB hr hb; have HO := n0_; clear n0_; (try clear k0); (try clear k1); (try clear k2); (try clear k3); have k_ := HC.out _ HO.out.2; have k0 := k_.1; have k1 := k_.2.1; have k2 := k_.2.2.1; have k3 := k_.2.2.2; clear k_)
    | ((with_reducible refine gate_builtin (b := .append) (xs := #[.tmp 21, .tmp 22]) rfl ?_); at_builtin; have hal_ := fun (W : World) => below_alloc (Below.refl W.heap.size W) (Obj.cells #[.int .u8 0, .int .u8 1] 5); go_must (refine app (w0 := (w.alloc (.cells cs 26))) rfl (.tmp 21) (.tmp 22) rfl rfl (ys := [0, 1]) rfl (HO.out.below (hal_ _)) (sc_read (heap_alloc_new _ _) [0, 1] (fun j hj => by have hj2 : j = 0 ∨ j = 1 := (by simp at hj; omega); rcases hj2 with rfl | rfl <;> rfl) (by decide)) rfl (by have := HZ0.out; simp; omega) ?_); intro v_ w_ ho_ _; have n0_ := Lib.hid (ho_.eq (show _ = D0 from by rw [HD0.out]; rfl)); clear HO ho_ hal_; have HO := n0_; clear n0_; (try clear k0); (try clear k1); (try clear k2); (try clear k3); have k_ := HC.out _ HO.out.2; have k0 := k_.1; have k1 := k_.2.1; have k2 := k_.2.2.1; have k3 := k_.2.2.2; clear k_)
    | (go_at_call 33; (with_reducible refine (PFnTxIDs.spec_VarInt.calls 9 (x.ins.length : Int) _ _ K1.out).mono ?_); rintro e w_ ⟨u, rfl, hr, hb⟩; obtain ⟨ho_, A, c, rfl, hC⟩ := made_C HO.out hr hb; have n0_ := Lib.hid ho_; have HCx := Lib.hid hC; clear HO hr hb ho_ hC; have HO := n0_; clear n0_; (try clear k0); (try clear k1); (try clear k2); (try clear k3); have k_ := HC.out _ HO.out.2; have k0 := k_.1; have k1 := k_.2.1; have k2 := k_.2.2.1; have k3 := k_.2.2.2; clear k_)
    | ((with_reducible refine gate_builtin (b := .append) (xs := #[.tmp 24, .tmp 29]) rfl ?_); at_builtin; (refine app (w0 := (w.alloc (.cells cs 26))) rfl (.tmp 24) (.tmp 29) rfl rfl rfl HO.out HCx.out rfl (by have := HLM.out; have := HE0.out; have := HY1.out; omega) ?_); intro v_ w_ ho_ _; have n0_ := Lib.hid (ho_.eq (HD1.out.symm)); clear HO HCx ho_; have HO := n0_; clear n0_; (try clear k0); (try clear k1); (try clear k2); (try clear k3); have k_ := HC.out _ HO.out.2; have k0 := k_.1; have k1 := k_.2.1; have k2 := k_.2.2.1; have k3 := k_.2.2.2; clear k_))
  go_loopg [6, 7] (x.ins.length + 1) (fun kq v6 v7 w' => ∃ (i : Nat) (xi : Int), v7 = .int .i64 xi ∧ Hid (xi = (i : Int)) ∧ Hid (i + kq = x.ins.length + 1) ∧ Hid (Own (w.alloc (.cells cs 26)) w' v6 (D1 ++ ((x.ins.take i).map inB).flatten)))
  case atStart => exact ⟨0, 0, rfl, Lib.hid rfl, Lib.hid (Nat.zero_add _), Lib.hid (by simpa using HO.out)⟩
  case round =>
    clear HO
    try clear k0
    try clear k1
    try clear k2
    try clear k3
    obtain ⟨i, xi, rfl, HI, HK, HO⟩ := hrel
    have k_ := HC.out _ HO.out.2; have k0 := k_.1; have k1 := k_.2.1; have k2 := k_.2.2.1; have k3 := k_.2.2.2; clear k_
    by_cases ci : i < x.ins.length
    · have p0 : 0 ≤ xi := by rw [HI.out]; omega
      have q0 : xi < (x.ins.length : Int) := by rw [HI.out]; omega
      have hwi : wrap64 (xi + 1) = xi + 1 := by have := HG.out.n1; exact wrap64_id (by omega) (by omega)
      obtain ⟨ad, ds, B1, d1, B2, d2, rfl, hz, ho1, hds, hl, l1, l2, g1, g2, hce⟩ := at_step HT.out.g1 xi p0 q0
      have hm := HG.out.i _ (rd_mem x.ins xi p0 q0)
      have hms := F1.out.1 _ (rd_mem x.ins xi p0 q0)
      have htf := take_flat inB x.ins zTI i ci
      have htl := take_len inB x.ins zTI i ci
      rw [show x.ins.getD i zTI = rdT x.ins xi from by rw [rdT, HI.out]; rfl] at htf htl
      obtain ⟨y, hy⟩ : ∃ y, rdT x.ins xi = y := ⟨_, rfl⟩
      rw [hy] at hds hl l1 l2 g1 g2 hm hms htf htl
      obtain ⟨k1_, rfl⟩ : ∃ k1, gk = k1 + 1 := ⟨gk - 1, by have := HK.out; omega⟩
      have pp := eq_true p0
      have qq := eq_true q0
      have qb : decide (xi < (x.ins.length : Int)) = true := decide_eq_true q0
      obtain ⟨dy, hdy⟩ : ∃ d, inB y = d := ⟨_, rfl⟩
      have HIN := Lib.hid (show ∀ W, Below (w.alloc (.cells cs 26)).heap.size (w.alloc (.cells cs 26)) W → Calls Try.prog 34 #[.agg ds] W fun e w' => ∃ v, e = .returned v ∧ Own W w' v dy from fun W hW => hdy ▸ hds ▸ specIn_calls y B1 d1 B2 d2 W hl l1 (Kd.C_below g1 hW) hm.1 hm.2.1 hms)
      have HCE := Lib.hid hce
      have HZD := Lib.hid hz
      rw [hdy] at htf htl
      have HTF := Lib.hid htf
      have HTL := Lib.hid (show ((x.ins.take i).map inB).flatten.length + dy.length ≤ L1 by rw [HL1.out]; exact htl)
      clear p0 q0 hy hz ho1 hds hl l1 l2 g1 g2 hce hm hms htf htl ci hdy
      go_wp2_with (first
        | (refine wpList_load_list rfl 43 (.tmp 42) rfl (ad.add (xi.toNat * 36)) rfl ds.toList _ (HCE.out _ HO.out.2) Try.underlying43 rfl ?aI ?_; go_must (case aI => rw [Array.length_toList, HZD.out]; rfl); go_must (simp only [Array.toArray_toList]))
        | (go_at_call 34; go_must (refine (HIN.out _ HO.out.2).mono ?_); rintro e w_ ⟨u, rfl, hr⟩; obtain ⟨ho_, A, c, rfl, hC⟩ := made_C HO.out hr.1 hr.2; have n0_ := Lib.hid ho_; have HCx := Lib.hid hC; clear HO hr ho_ hC; have HO := n0_; clear n0_; (try clear k0); (try clear k1); (try clear k2); (try clear k3); have k_ := HC.out _ HO.out.2; have k0 := k_.1; have k1 := k_.2.1; have k2 := k_.2.2.1; have k3 := k_.2.2.2; clear k_)
        | ((with_reducible refine gate_builtin (b := .append) (xs := #[.tmp 38, .tmp 44]) rfl ?_); at_builtin; (refine app (w0 := (w.alloc (.cells cs 26))) rfl (.tmp 38) (.tmp 44) rfl rfl rfl HO.out HCx.out rfl (by have := HLM.out; have := HE1.out; have := HTL.out; rw [List.length_append]; omega) ?_); intro v_ w_ ho_ _; have n0_ := Lib.hid (ho_.eq (show _ = D1 ++ ((x.ins.take (i + 1)).map inB).flatten from by rw [HTF.out, List.append_assoc])); clear HO HCx ho_; have HO := n0_; clear n0_; (try clear k0); (try clear k1); (try clear k2); (try clear k3); have k_ := HC.out _ HO.out.2; have k0 := k_.1; have k1 := k_.2.1; have k2 := k_.2.2.1; have k3 := k_.2.2.2; clear k_))
      go_roundg k1_
      case measure => exact Nat.lt_succ_self _
      case rel => exact ⟨i + 1, xi + 1, (by first | rfl | (simp [hwi]; done)), Lib.hid (by rw [HI.out]; omega), Lib.hid (by have := HK.out; omega), HO⟩
    · have qb : decide (xi < (x.ins.length : Int)) = false := decide_eq_false (by rw [HI.out]; omega)
      have n0_ := Lib.hid (HO.out.eq (show _ = D2 from by rw [HD2.out, List.take_of_length_le (by omega)]))
      clear ci HI HK HO
      have HO := n0_
      clear n0_
      go_wp2_with (first | (go_at_call 33; (with_reducible refine (PFnTxIDs.spec_VarInt.calls 9 (x.outs.length : Int) _ _ K2.out).mono ?_); rintro e w_ ⟨u, rfl, hr, hb⟩; obtain ⟨ho_, A, c, rfl, hC⟩ := made_C HO.out hr hb; have n0_ := Lib.hid ho_; have HCx := Lib.hid hC; clear HO hr hb ho_ hC; have HO := n0_; clear n0_; (try clear k0); (try clear k1); (try clear k2); (try clear k3); have k_ := HC.out _ HO.out.2; have k0 := k_.1; have k1 := k_.2.1; have k2 := k_.2.2.1; have k3 := k_.2.2.2; clear k_) | ((with_reducible refine gate_builtin (b := .append) (xs := #[.tmp 46, .tmp 51]) rfl ?_); at_builtin; (refine app (w0 := (w.alloc (.cells cs 26))) rfl (.tmp 46) (.tmp 51) rfl rfl rfl HO.out HCx.out rfl (by have := HLM.out; have := HE2.out; have := HY2.out; omega) ?_); intro v_ w_ ho_ _; have n0_ := Lib.hid (ho_.eq (HD3.out.symm)); clear HO HCx ho_; have HO := n0_; clear n0_; (try clear k0); (try clear k1); (try clear k2); (try clear k3); have k_ := HC.out _ HO.out.2; have k0 := k_.1; have k1 := k_.2.1; have k2 := k_.2.2.1; have k3 := k_.2.2.2; clear k_))
      go_loopg [6, 8] (x.outs.length + 1) (fun kq v6 v8 w' => ∃ (i : Nat) (xi : Int), v8 = .int .i64 xi ∧ Hid (xi = (i : Int)) ∧ Hid (i + kq = x.outs.length + 1) ∧ Hid (Own (w.alloc (.cells cs 26)) w' v6 (D3 ++ ((x.outs.take i).map outB).flatten)))
      case atStart => exact ⟨0, 0, rfl, Lib.hid rfl, Lib.hid (Nat.zero_add _), Lib.hid (by simpa using HO.out)⟩
      case round =>
        clear HO qb
        try clear k0
        try clear k1
        try clear k2
        try clear k3
        obtain ⟨i, xi, rfl, HI, HK, HO⟩ := hrel
        have k_ := HC.out _ HO.out.2; have k0 := k_.1; have k1 := k_.2.1; have k2 := k_.2.2.1; have k3 := k_.2.2.2; clear k_
        by_cases ci : i < x.outs.length
        · have p0 : 0 ≤ xi := by rw [HI.out]; omega
          have q0 : xi < (x.outs.length : Int) := by rw [HI.out]; omega
          have hwi : wrap64 (xi + 1) = xi + 1 := by have := HG.out.n2; exact wrap64_id (by omega) (by omega)
          obtain ⟨ad, B1, d1, rfl, l1, g1, hce⟩ := out_step HT.out.g2 xi p0 q0
          have hms := F1.out.2 (rdO x.outs xi) (by
            rw [rdO, List.getD_eq_getElem?_getD, List.getElem?_eq_getElem (show xi.toNat < x.outs.length by omega)]
            exact List.getElem_mem _)
          have htf := take_flat outB x.outs PFnTxIDs.z45 i ci
          have htl := take_len outB x.outs PFnTxIDs.z45 i ci
          rw [show x.outs.getD i PFnTxIDs.z45 = rdO x.outs xi from by rw [rdO, HI.out]; rfl] at htf htl
          obtain ⟨y, hy⟩ : ∃ y, rdO x.outs xi = y := ⟨_, rfl⟩
          rw [hy] at l1 g1 hce hms htf htl
          obtain ⟨k1_, rfl⟩ : ∃ k1, gk = k1 + 1 := ⟨gk - 1, by have := HK.out; omega⟩
          have pp := eq_true p0
          have qq := eq_true q0
          have qb : decide (xi < (x.outs.length : Int)) = true := decide_eq_true q0
          obtain ⟨dy, hdy⟩ : ∃ d, outB y = d := ⟨_, rfl⟩
          have HOUT := Lib.hid (hdy ▸ outbytes_eq 9 (by omega) y (by omega))
          have HCE := Lib.hid hce
          have G1 := Lib.hid g1
          have LL1 := Lib.hid l1
          rw [hdy] at htf htl
          have HTF := Lib.hid htf
          have HTL := Lib.hid (show ((x.outs.take i).map outB).flatten.length + dy.length ≤ L2 by rw [HL2.out]; exact htl)
          clear p0 q0 hy l1 g1 hce hms htf htl ci hdy
          go_wp2_with (first
            | (refine wpList_load_list rfl 45 (.tmp 64) rfl (ad.add (xi.toNat * 2)) rfl [.int .i64 y.f0, .slice B1 y.f1.length d1] _ (HCE.out _ HO.out.2) Try.underlying45 rfl rfl ?_)
            | (go_at_call 35; (with_reducible refine (PFnTxIDs.spec_outBytes.calls 9 y.f0 B1 d1 y.f1 _ _ (Kd.C_below G1.out HO.out.2) LL1.out HOUT.out).mono ?_); rintro e w_ ⟨u, rfl, hr, hb⟩; obtain ⟨ho_, A, c, rfl, hC⟩ := made_C HO.out hr hb; have n0_ := Lib.hid ho_; have HCx := Lib.hid hC; clear HO hr hb ho_ hC; have HO := n0_; clear n0_; (try clear k0); (try clear k1); (try clear k2); (try clear k3); have k_ := HC.out _ HO.out.2; have k0 := k_.1; have k1 := k_.2.1; have k2 := k_.2.2.1; have k3 := k_.2.2.2; clear k_)
            | ((with_reducible refine gate_builtin (b := .append) (xs := #[.tmp 60, .tmp 66]) rfl ?_); at_builtin; (refine app (w0 := (w.alloc (.cells cs 26))) rfl (.tmp 60) (.tmp 66) rfl rfl rfl HO.out HCx.out rfl (by have := HLM.out; have := HE3.out; have := HTL.out; rw [List.length_append]; omega) ?_); intro v_ w_ ho_ _; have n0_ := Lib.hid (ho_.eq (show _ = D3 ++ ((x.outs.take (i + 1)).map outB).flatten from by rw [HTF.out, List.append_assoc])); clear HO HCx ho_; have HO := n0_; clear n0_; (try clear k0); (try clear k1); (try clear k2); (try clear k3); have k_ := HC.out _ HO.out.2; have k0 := k_.1; have k1 := k_.2.1; have k2 := k_.2.2.1; have k3 := k_.2.2.2; clear k_))
          go_roundg k1_
          case measure => exact Nat.lt_succ_self _
          case rel => exact ⟨i + 1, xi + 1, (by first | rfl | (simp [hwi]; done)), Lib.hid (by rw [HI.out]; omega), Lib.hid (by have := HK.out; omega), HO⟩
        · have qb : decide (xi < (x.outs.length : Int)) = false := decide_eq_false (by rw [HI.out]; omega)
          have n0_ := Lib.hid (HO.out.eq (show _ = D4 from by rw [HD4.out, List.take_of_length_le (by omega)]))
          clear ci HI HK HO
          have HO := n0_
          clear n0_
          go_wp2
          go_loopg [6, 9] (x.ins.length + 1) (fun kq v6 v9 w' => ∃ (i : Nat) (xi : Int), v9 = .int .i64 xi ∧ Hid (xi = (i : Int)) ∧ Hid (i + kq = x.ins.length + 1) ∧ Hid (Own (w.alloc (.cells cs 26)) w' v6 (D4 ++ ((x.ins.take i).map (fun y => witB y.w)).flatten)))
          case atStart => exact ⟨0, 0, rfl, Lib.hid rfl, Lib.hid (Nat.zero_add _), Lib.hid (by simpa using HO.out)⟩
          case round =>
            clear HO qb
            try clear k0
            try clear k1
            try clear k2
            try clear k3
            obtain ⟨i, xi, rfl, HI, HK, HO⟩ := hrel
            have k_ := HC.out _ HO.out.2; have k0 := k_.1; have k1 := k_.2.1; have k2 := k_.2.2.1; have k3 := k_.2.2.2; clear k_
            by_cases ci : i < x.ins.length
            · have p0 : 0 ≤ xi := by rw [HI.out]; omega
              have q0 : xi < (x.ins.length : Int) := by rw [HI.out]; omega
              have hwi : wrap64 (xi + 1) = xi + 1 := by have := HG.out.n1; exact wrap64_id (by omega) (by omega)
              obtain ⟨ad, B1, d1, B2, d2, rfl, l1, l2, g1, g2, hc1, hc2⟩ := at_look HT.out.g1 xi p0 q0
              have hm := HG.out.i _ (rd_mem x.ins xi p0 q0)
              have htf := take_flat (fun y => witB y.w) x.ins zTI i ci
              have htl := take_len (fun y => witB y.w) x.ins zTI i ci
              rw [show x.ins.getD i zTI = rdT x.ins xi from by rw [rdT, HI.out]; rfl] at htf htl
              obtain ⟨y, hy⟩ : ∃ y, rdT x.ins xi = y := ⟨_, rfl⟩
              rw [hy] at l1 l2 g1 g2 hc1 hc2 hm htf htl
              obtain ⟨k1_, rfl⟩ : ∃ k1, gk = k1 + 1 := ⟨gk - 1, by have := HK.out; omega⟩
              have pp := eq_true p0
              have qq := eq_true q0
              have qb : decide (xi < (x.ins.length : Int)) = true := decide_eq_true q0
              have hx2 := hc2 _ HO.out.2
              change ((x.ins.take i).map (fun y => witB y.w)).flatten.length + (witB y.w).length ≤ _ at htl
              have hwy := witbytes_eq (y.w.length + 10) y.w (by omega) (by have := HLM.out; rw [← HL3.out] at htl; omega) hm.2.2
              obtain ⟨dy, hdy⟩ : ∃ d, witB y.w = d := ⟨_, rfl⟩
              rw [hdy] at hwy htl
              have HWY := Lib.hid hwy
              have G2 := Lib.hid g2
              have LL2 := Lib.hid l2
              have HTF := Lib.hid (hdy ▸ htf)
              have HTL := Lib.hid (show ((x.ins.take i).map (fun y => witB y.w)).flatten.length + dy.length ≤ L3 by rw [HL3.out]; exact htl)
              clear p0 q0 hy l1 l2 g1 g2 hc1 hc2 hm htf htl ci hdy hwy
              go_wp2_with (first
                | (go_at_call 36; (with_reducible refine (PFnTxIDs.spec_witnessBytes.calls (y.w.length + 10) B2 d2 y.w _ _ (Kd.C_below G2.out HO.out.2) LL2.out HWY.out).mono ?_); rintro e w_ ⟨u, rfl, hr, hb⟩; obtain ⟨ho_, A, c, rfl, hC⟩ := made_C HO.out hr hb; have n0_ := Lib.hid ho_; have HCx := Lib.hid hC; clear HO hr hb ho_ hC; have HO := n0_; clear n0_; (try clear k0); (try clear k1); (try clear k2); (try clear k3); have k_ := HC.out _ HO.out.2; have k0 := k_.1; have k1 := k_.2.1; have k2 := k_.2.2.1; have k3 := k_.2.2.2; clear k_)
                | ((with_reducible refine gate_builtin (b := .append) (xs := #[.tmp 78, .tmp 85]) rfl ?_); at_builtin; (refine app (w0 := (w.alloc (.cells cs 26))) rfl (.tmp 78) (.tmp 85) rfl rfl rfl HO.out HCx.out rfl (by have := HLM.out; have := HE4.out; have := HTL.out; rw [List.length_append]; omega) ?_); intro v_ w_ ho_ _; have n0_ := Lib.hid (ho_.eq (show _ = D4 ++ ((x.ins.take (i + 1)).map (fun y => witB y.w)).flatten from by rw [HTF.out, List.append_assoc])); clear HO HCx ho_; have HO := n0_; clear n0_; (try clear k0); (try clear k1); (try clear k2); (try clear k3); have k_ := HC.out _ HO.out.2; have k0 := k_.1; have k1 := k_.2.1; have k2 := k_.2.2.1; have k3 := k_.2.2.2; clear k_))
              go_roundg k1_
              case measure => exact Nat.lt_succ_self _
              case rel => exact ⟨i + 1, xi + 1, (by first | rfl | (simp [hwi]; done)), Lib.hid (by rw [HI.out]; omega), Lib.hid (by have := HK.out; omega), HO⟩
            · have qb : decide (xi < (x.ins.length : Int)) = false := decide_eq_false (by rw [HI.out]; omega)
              have n0_ := Lib.hid (HO.out.eq (show _ = D5 from by rw [HD5.out, List.take_of_length_le (by omega)]; simp))
              clear ci HI HK HO
              have HO := n0_
              clear n0_
              go_wp2_with (first | (go_at_call 32; (with_reducible refine (PFnTxIDs.spec_little.calls 9 x.k 4 _ _ KK.out).mono ?_); rintro e w_ ⟨u, rfl, hr, hb⟩; obtain ⟨ho_, A, c, rfl, hC⟩ := made_C HO.out hr hb; have n0_ := Lib.hid ho_; have HCx := Lib.hid hC; clear HO hr hb ho_ hC; have HO := n0_; clear n0_; (try clear k0); (try clear k1); (try clear k2); (try clear k3); have k_ := HC.out _ HO.out.2; have k0 := k_.1; have k1 := k_.2.1; have k2 := k_.2.2.1; have k3 := k_.2.2.2; clear k_) | ((with_reducible refine gate_builtin (b := .append) (xs := #[.tmp 87, .tmp 91]) rfl ?_); at_builtin; (refine app (w0 := (w.alloc (.cells cs 26))) rfl (.tmp 87) (.tmp 91) rfl rfl rfl HO.out HCx.out rfl (by have := HLM.out; have := HE5.out; have := HZ9.out; omega) ?_); intro v_ w_ ho_ _; have n0_ := Lib.hid (ho_.eq rfl); clear HO HCx ho_; have HO := n0_; clear n0_; (try clear k0); (try clear k1); (try clear k2); (try clear k3); have k_ := HC.out _ HO.out.2; have k0 := k_.1; have k1 := k_.2.1; have k2 := k_.2.2.1; have k3 := k_.2.2.2; clear k_))
              go_ret
              exact ⟨_, rfl, Own.of W0.out (by have := HO.out.1; rw [← HDone.out] at this; exact this) (by simp) (by exact HO.out.2)⟩
set_option maxHeartbeats 16000000 in
set_option maxRecDepth 100000 in
theorem spec_n (x : TX) (A1 : Option Addr) (c1 : Nat) (A2 : Option Addr) (c2 : Nat) (w : World) (h : TxIn w x A1 c1 A2 c2) (hf : fit2 x = true) (hg : Nums x) (hlim : txN x + 256 ≤ 140737488355328) (hb : hasW x.ins = false) :
    Calls Try.prog 18 #[.agg (txc x A1 c1 A2 c2), .bool true] w fun e w' => ∃ v, e = .returned v ∧ Own w w' v (txB x false) := by
  have hf1 : (∀ y ∈ x.ins, y.s.length ≤ 2147483647) ∧ (∀ y ∈ x.outs, y.f1.length ≤ 2147483647) := by
    simp only [fit2, fit3, fit4, fit5, fit6, Bool.and_eq_true, decide_eq_true_eq, List.all_eq_true] at hf
    exact ⟨fun y hy => (hf.1.2 y hy).1, hf.2.2⟩
  have F1 := Lib.hid hf1
  have HG := Lib.hid hg
  obtain ⟨L1, hL1⟩ : ∃ L1, L1 = (x.ins.map inB).flatten.length := ⟨_, rfl⟩
  obtain ⟨L2, hL2⟩ : ∃ L2, L2 = (x.outs.map outB).flatten.length := ⟨_, rfl⟩
  obtain ⟨L3, hL3⟩ : ∃ L3, L3 = (x.ins.map fun y => witB y.w).flatten.length := ⟨_, rfl⟩
  have HL1 := Lib.hid hL1
  have HL2 := Lib.hid hL2
  have HL3 := Lib.hid hL3
  have HLM := Lib.hid (show L1 + L2 + L3 + 256 ≤ 140737488355328 by rw [hL1, hL2, hL3]; unfold txN at hlim; omega)
  have hsh := specHas_calls x A1 c1 A2 c2
  obtain ⟨cs, hcs⟩ : ∃ cs, txc x A1 c1 A2 c2 = cs := ⟨_, rfl⟩
  have HZ := Lib.hid (show cs.size = 4 from by rw [← hcs]; rfl)
  rw [hcs] at hsh ⊢
  have HSH := Lib.hid (show ∀ W, Below w.heap.size w W → Calls Try.prog 31 #[.agg cs] W fun e w' => e = .returned (.bool (hasW x.ins)) ∧ Below W.heap.size W w' from fun W hW => hsh W (h.below hW) hg.n1)
  have hB0 : Below w.heap.size w (w.alloc (.cells cs 26)) := below_alloc (Below.refl _ _) _
  have W0 := Lib.hid hB0
  have HT := Lib.hid (h.below hB0)
  have hc : ∀ W, Below (w.alloc (.cells cs 26)).heap.size (w.alloc (.cells cs 26)) W → W.cell? ⟨w.heap.size, 0, none⟩ = some (.int .i32 x.v) ∧ W.cell? ⟨w.heap.size, 1, none⟩ = some (.slice A1 x.ins.length c1) ∧ W.cell? ⟨w.heap.size, 2, none⟩ = some (.slice A2 x.outs.length c2) ∧ W.cell? ⟨w.heap.size, 3, none⟩ = some (.int .u32 x.k) := by
    intro W hW
    have hb := blk_below (heap_alloc_new w (.cells cs 26)) hW
    refine ⟨?_, ?_, ?_, ?_⟩ <;> (rw [blk_cell hb, ← hcs]; rfl)
  have HC := Lib.hid hc
  obtain ⟨xv, hxv⟩ : ∃ xv, x.v % 4294967296 = xv := ⟨_, rfl⟩
  have hv0 : 0 ≤ xv := by omega
  have hv1 : xv < 4294967296 := by omega
  obtain ⟨d0, hd0⟩ : ∃ d, le 4 xv = d := ⟨_, rfl⟩
  obtain ⟨d9, hd9⟩ : ∃ d, le 4 x.k = d := ⟨_, rfl⟩
  obtain ⟨q1, hq1⟩ : ∃ d, vi x.ins.length = d := ⟨_, rfl⟩
  obtain ⟨q2, hq2⟩ : ∃ d, vi x.outs.length = d := ⟨_, rfl⟩
  have KV := Lib.hid (hd0 ▸ little_eq 4 9 (by omega) (by omega) xv hv0 (by omega))
  have KK := Lib.hid (hd9 ▸ little_eq 4 9 (by omega) (by omega) x.k hg.k.1 (by have := hg.k.2; omega))
  have K1 := Lib.hid (hq1 ▸ varint_eq 9 (by omega) x.ins.length (by omega) (by have := hg.n1; omega))
  have K2 := Lib.hid (hq2 ▸ varint_eq 9 (by omega) x.outs.length (by omega) (by have := hg.n2; omega))
  obtain ⟨D0, hD0⟩ : ∃ D0, D0 = d0 ++ (if false then [0, 1] else []) := ⟨_, rfl⟩
  obtain ⟨D1, hD1⟩ : ∃ D1, D1 = D0 ++ q1 := ⟨_, rfl⟩
  obtain ⟨D2, hD2⟩ : ∃ D2, D2 = D1 ++ (x.ins.map inB).flatten := ⟨_, rfl⟩
  obtain ⟨D3, hD3⟩ : ∃ D3, D3 = D2 ++ q2 := ⟨_, rfl⟩
  obtain ⟨D4, hD4⟩ : ∃ D4, D4 = D3 ++ (x.outs.map outB).flatten := ⟨_, rfl⟩
  obtain ⟨D5, hD5⟩ : ∃ D5, D5 = D4 ++ (if false then (x.ins.map (fun y => witB y.w)).flatten else []) := ⟨_, rfl⟩
  have z0 : d0.length = 4 := by rw [← hd0, le_len]
  have z9 : d9.length = 4 := by rw [← hd9, le_len]
  have y1 : q1.length ≤ 9 := by rw [← hq1]; exact vi_len _
  have y2 : q2.length ≤ 9 := by rw [← hq2]; exact vi_len _
  have e0 : D0.length ≤ 6 := by rw [hD0, List.length_append, z0]; split <;> simp
  have e1 : D1.length ≤ 15 := by rw [hD1, List.length_append]; omega
  have e2 : D2.length ≤ L1 + 15 := by rw [hD2, List.length_append, ← hL1]; omega
  have e3 : D3.length ≤ L1 + 24 := by rw [hD3, List.length_append]; omega
  have e4 : D4.length ≤ L1 + L2 + 24 := by rw [hD4, List.length_append, ← hL2]; omega
  have e5 : D5.length ≤ L1 + L2 + L3 + 24 := by rw [hD5, List.length_append]; split <;> first | omega | (rw [List.length_nil]; omega)
  have HZ0 := Lib.hid z0
  have HZ9 := Lib.hid z9
  have HY1 := Lib.hid y1
  have HY2 := Lib.hid y2
  have HE0 := Lib.hid e0
  have HE1 := Lib.hid e1
  have HE2 := Lib.hid e2
  have HE3 := Lib.hid e3
  have HE4 := Lib.hid e4
  have HE5 := Lib.hid e5
  have HD0 := Lib.hid hD0
  have HD1 := Lib.hid hD1
  have HD2 := Lib.hid hD2
  have HD3 := Lib.hid hD3
  have HD4 := Lib.hid hD4
  have HD5 := Lib.hid hD5
  have HDone := Lib.hid (show txB x false = D5 ++ d9 from by rw [hD5, hD4, hD3, hD2, hD1, hD0, txB, hxv, hd0, hq1, hq2, hd9]; simp only [List.append_assoc])
  have hw : IntKind.u32.wrap x.v = xv := by rw [u32_mod, hxv]
  have hw0 : IntKind.u64.wrap xv = xv := u64_id hv0 (by omega)
  have hw00 : xv % 18446744073709551616 = xv := by omega
  have hw1 : IntKind.u64.wrap (x.ins.length : Int) = x.ins.length := u64_id (by omega) (by have := hg.n1; omega)
  have hw2 : (x.ins.length : Int) % 18446744073709551616 = x.ins.length := by have := hg.n1; omega
  have hw3 : IntKind.u64.wrap (x.outs.length : Int) = x.outs.length := u64_id (by omega) (by have := hg.n2; omega)
  have hw4 : (x.outs.length : Int) % 18446744073709551616 = x.outs.length := by have := hg.n2; omega
  have hw5 : IntKind.u64.wrap x.k = x.k := u64_id hg.k.1 (by have := hg.k.2; omega)
  have hw6 : x.k % 18446744073709551616 = x.k := by have := hg.k.1; have := hg.k.2; omega
  have HBW := Lib.hid hb; clear hb
  have HV := Lib.hid hxv
  clear h hf hg hlim hf1 hL1 hL2 hL3 hcs hsh hB0 hc hv0 hv1 hd0 hd9 hq1 hq2 hD0 hD1 hD2 hD3 hD4 hD5 z0 z9 y1 y2 e0 e1 e2 e3 e4 e5 hxv
  have HB := Lib.hid (Below.refl (w.alloc (.cells cs 26)).heap.size (w.alloc (.cells cs 26)))
  have k0 := (HC.out _ HB.out).1
  go_enter Try.func18, Try.ntmps18
  go_wp2_with (first
    | ((with_reducible refine gate_dst (N := 12) rfl ?_); go_must (refine wpList_let ?aW (fun K hK => wp_load_list 26 (.tmp 2) rfl ⟨w.heap.size, 0, none⟩ rfl cs.toList _ (box_lies HB.out) Try.underlying26 rfl ?aI (hK _ _ ?_))); go_must (case aW => first | rfl | (simp [Region.wanted, yielded]; done)); go_must (case aI => rw [Array.length_toList, HZ.out]; rfl); go_must (simp only [Array.toArray_toList]))
    | (go_at_call 31; go_must (refine (HSH.out _ (below_step W0.out HB.out)).mono ?_); rintro e w_ ⟨rfl, hb⟩; have hbw := HBW.out; rw [hbw]; clear hbw; have n0_ := Lib.hid (below_step HB.out hb); clear HB hb k0; have HB := n0_; clear n0_; have k0 := (HC.out _ HB.out).1)
    | (go_at_call 32; (with_reducible refine (PFnTxIDs.spec_little.calls 9 xv 4 _ _ KV.out).mono ?_); rintro e w_ ⟨u, rfl, hr, hb⟩; have n0_ := Lib.hid (Own.of HB.out hr HB.out.size hb); clear HB hr hb; have HO := n0_; clear n0_; (try clear k0); (try clear k1); (try clear k2); (try clear k3); have k_ := HC.out _ HO.out.2; have k0 := k_.1; have k1 := k_.2.1; have k2 := k_.2.2.1; have k3 := k_.2.2.2; clear k_; have n0_ := Lib.hid (HO.out.eq (show _ = D0 from by rw [HD0.out]; simp)); clear HO; have HO := n0_; clear n0_)
    | (go_at_call 33; (with_reducible refine (PFnTxIDs.spec_VarInt.calls 9 (x.ins.length : Int) _ _ K1.out).mono ?_); rintro e w_ ⟨u, rfl, hr, hb⟩; obtain ⟨ho_, A, c, rfl, hC⟩ := made_C HO.out hr hb; have n0_ := Lib.hid ho_; have HCx := Lib.hid hC; clear HO hr hb ho_ hC; have HO := n0_; clear n0_; (try clear k0); (try clear k1); (try clear k2); (try clear k3); have k_ := HC.out _ HO.out.2; have k0 := k_.1; have k1 := k_.2.1; have k2 := k_.2.2.1; have k3 := k_.2.2.2; clear k_)
    | ((with_reducible refine gate_builtin (b := .append) (xs := #[.tmp 24, .tmp 29]) rfl ?_); at_builtin; (refine app (w0 := (w.alloc (.cells cs 26))) rfl (.tmp 24) (.tmp 29) rfl rfl rfl HO.out HCx.out rfl (by have := HLM.out; have := HE0.out; have := HY1.out; omega) ?_); intro v_ w_ ho_ _; have n0_ := Lib.hid (ho_.eq (HD1.out.symm)); clear HO HCx ho_; have HO := n0_; clear n0_; (try clear k0); (try clear k1); (try clear k2); (try clear k3); have k_ := HC.out _ HO.out.2; have k0 := k_.1; have k1 := k_.2.1; have k2 := k_.2.2.1; have k3 := k_.2.2.2; clear k_))
  go_loopg [6, 7] (x.ins.length + 1) (fun kq v6 v7 w' => ∃ (i : Nat) (xi : Int), v7 = .int .i64 xi ∧ Hid (xi = (i : Int)) ∧ Hid (i + kq = x.ins.length + 1) ∧ Hid (Own (w.alloc (.cells cs 26)) w' v6 (D1 ++ ((x.ins.take i).map inB).flatten)))
  case atStart => exact ⟨0, 0, rfl, Lib.hid rfl, Lib.hid (Nat.zero_add _), Lib.hid (by simpa using HO.out)⟩
  case round =>
    clear HO
    try clear k0
    try clear k1
    try clear k2
    try clear k3
    obtain ⟨i, xi, rfl, HI, HK, HO⟩ := hrel
    have k_ := HC.out _ HO.out.2; have k0 := k_.1; have k1 := k_.2.1; have k2 := k_.2.2.1; have k3 := k_.2.2.2; clear k_
    by_cases ci : i < x.ins.length
    · have p0 : 0 ≤ xi := by rw [HI.out]; omega
      have q0 : xi < (x.ins.length : Int) := by rw [HI.out]; omega
      have hwi : wrap64 (xi + 1) = xi + 1 := by have := HG.out.n1; exact wrap64_id (by omega) (by omega)
      obtain ⟨ad, ds, B1, d1, B2, d2, rfl, hz, ho1, hds, hl, l1, l2, g1, g2, hce⟩ := at_step HT.out.g1 xi p0 q0
      have hm := HG.out.i _ (rd_mem x.ins xi p0 q0)
      have hms := F1.out.1 _ (rd_mem x.ins xi p0 q0)
      have htf := take_flat inB x.ins zTI i ci
      have htl := take_len inB x.ins zTI i ci
      rw [show x.ins.getD i zTI = rdT x.ins xi from by rw [rdT, HI.out]; rfl] at htf htl
      obtain ⟨y, hy⟩ : ∃ y, rdT x.ins xi = y := ⟨_, rfl⟩
      rw [hy] at hds hl l1 l2 g1 g2 hm hms htf htl
      obtain ⟨k1_, rfl⟩ : ∃ k1, gk = k1 + 1 := ⟨gk - 1, by have := HK.out; omega⟩
      have pp := eq_true p0
      have qq := eq_true q0
      have qb : decide (xi < (x.ins.length : Int)) = true := decide_eq_true q0
      obtain ⟨dy, hdy⟩ : ∃ d, inB y = d := ⟨_, rfl⟩
      have HIN := Lib.hid (show ∀ W, Below (w.alloc (.cells cs 26)).heap.size (w.alloc (.cells cs 26)) W → Calls Try.prog 34 #[.agg ds] W fun e w' => ∃ v, e = .returned v ∧ Own W w' v dy from fun W hW => hdy ▸ hds ▸ specIn_calls y B1 d1 B2 d2 W hl l1 (Kd.C_below g1 hW) hm.1 hm.2.1 hms)
      have HCE := Lib.hid hce
      have HZD := Lib.hid hz
      rw [hdy] at htf htl
      have HTF := Lib.hid htf
      have HTL := Lib.hid (show ((x.ins.take i).map inB).flatten.length + dy.length ≤ L1 by rw [HL1.out]; exact htl)
      clear p0 q0 hy hz ho1 hds hl l1 l2 g1 g2 hce hm hms htf htl ci hdy
      go_wp2_with (first
        | (refine wpList_load_list rfl 43 (.tmp 42) rfl (ad.add (xi.toNat * 36)) rfl ds.toList _ (HCE.out _ HO.out.2) Try.underlying43 rfl ?aI ?_; go_must (case aI => rw [Array.length_toList, HZD.out]; rfl); go_must (simp only [Array.toArray_toList]))
        | (go_at_call 34; go_must (refine (HIN.out _ HO.out.2).mono ?_); rintro e w_ ⟨u, rfl, hr⟩; obtain ⟨ho_, A, c, rfl, hC⟩ := made_C HO.out hr.1 hr.2; have n0_ := Lib.hid ho_; have HCx := Lib.hid hC; clear HO hr ho_ hC; have HO := n0_; clear n0_; (try clear k0); (try clear k1); (try clear k2); (try clear k3); have k_ := HC.out _ HO.out.2; have k0 := k_.1; have k1 := k_.2.1; have k2 := k_.2.2.1; have k3 := k_.2.2.2; clear k_)
        | ((with_reducible refine gate_builtin (b := .append) (xs := #[.tmp 38, .tmp 44]) rfl ?_); at_builtin; (refine app (w0 := (w.alloc (.cells cs 26))) rfl (.tmp 38) (.tmp 44) rfl rfl rfl HO.out HCx.out rfl (by have := HLM.out; have := HE1.out; have := HTL.out; rw [List.length_append]; omega) ?_); intro v_ w_ ho_ _; have n0_ := Lib.hid (ho_.eq (show _ = D1 ++ ((x.ins.take (i + 1)).map inB).flatten from by rw [HTF.out, List.append_assoc])); clear HO HCx ho_; have HO := n0_; clear n0_; (try clear k0); (try clear k1); (try clear k2); (try clear k3); have k_ := HC.out _ HO.out.2; have k0 := k_.1; have k1 := k_.2.1; have k2 := k_.2.2.1; have k3 := k_.2.2.2; clear k_))
      go_roundg k1_
      case measure => exact Nat.lt_succ_self _
      case rel => exact ⟨i + 1, xi + 1, (by first | rfl | (simp [hwi]; done)), Lib.hid (by rw [HI.out]; omega), Lib.hid (by have := HK.out; omega), HO⟩
    · have qb : decide (xi < (x.ins.length : Int)) = false := decide_eq_false (by rw [HI.out]; omega)
      have n0_ := Lib.hid (HO.out.eq (show _ = D2 from by rw [HD2.out, List.take_of_length_le (by omega)]))
      clear ci HI HK HO
      have HO := n0_
      clear n0_
      go_wp2_with (first | (go_at_call 33; (with_reducible refine (PFnTxIDs.spec_VarInt.calls 9 (x.outs.length : Int) _ _ K2.out).mono ?_); rintro e w_ ⟨u, rfl, hr, hb⟩; obtain ⟨ho_, A, c, rfl, hC⟩ := made_C HO.out hr hb; have n0_ := Lib.hid ho_; have HCx := Lib.hid hC; clear HO hr hb ho_ hC; have HO := n0_; clear n0_; (try clear k0); (try clear k1); (try clear k2); (try clear k3); have k_ := HC.out _ HO.out.2; have k0 := k_.1; have k1 := k_.2.1; have k2 := k_.2.2.1; have k3 := k_.2.2.2; clear k_) | ((with_reducible refine gate_builtin (b := .append) (xs := #[.tmp 46, .tmp 51]) rfl ?_); at_builtin; (refine app (w0 := (w.alloc (.cells cs 26))) rfl (.tmp 46) (.tmp 51) rfl rfl rfl HO.out HCx.out rfl (by have := HLM.out; have := HE2.out; have := HY2.out; omega) ?_); intro v_ w_ ho_ _; have n0_ := Lib.hid (ho_.eq (HD3.out.symm)); clear HO HCx ho_; have HO := n0_; clear n0_; (try clear k0); (try clear k1); (try clear k2); (try clear k3); have k_ := HC.out _ HO.out.2; have k0 := k_.1; have k1 := k_.2.1; have k2 := k_.2.2.1; have k3 := k_.2.2.2; clear k_))
      go_loopg [6, 8] (x.outs.length + 1) (fun kq v6 v8 w' => ∃ (i : Nat) (xi : Int), v8 = .int .i64 xi ∧ Hid (xi = (i : Int)) ∧ Hid (i + kq = x.outs.length + 1) ∧ Hid (Own (w.alloc (.cells cs 26)) w' v6 (D3 ++ ((x.outs.take i).map outB).flatten)))
      case atStart => exact ⟨0, 0, rfl, Lib.hid rfl, Lib.hid (Nat.zero_add _), Lib.hid (by simpa using HO.out)⟩
      case round =>
        clear HO qb
        try clear k0
        try clear k1
        try clear k2
        try clear k3
        obtain ⟨i, xi, rfl, HI, HK, HO⟩ := hrel
        have k_ := HC.out _ HO.out.2; have k0 := k_.1; have k1 := k_.2.1; have k2 := k_.2.2.1; have k3 := k_.2.2.2; clear k_
        by_cases ci : i < x.outs.length
        · have p0 : 0 ≤ xi := by rw [HI.out]; omega
          have q0 : xi < (x.outs.length : Int) := by rw [HI.out]; omega
          have hwi : wrap64 (xi + 1) = xi + 1 := by have := HG.out.n2; exact wrap64_id (by omega) (by omega)
          obtain ⟨ad, B1, d1, rfl, l1, g1, hce⟩ := out_step HT.out.g2 xi p0 q0
          have hms := F1.out.2 (rdO x.outs xi) (by
            rw [rdO, List.getD_eq_getElem?_getD, List.getElem?_eq_getElem (show xi.toNat < x.outs.length by omega)]
            exact List.getElem_mem _)
          have htf := take_flat outB x.outs PFnTxIDs.z45 i ci
          have htl := take_len outB x.outs PFnTxIDs.z45 i ci
          rw [show x.outs.getD i PFnTxIDs.z45 = rdO x.outs xi from by rw [rdO, HI.out]; rfl] at htf htl
          obtain ⟨y, hy⟩ : ∃ y, rdO x.outs xi = y := ⟨_, rfl⟩
          rw [hy] at l1 g1 hce hms htf htl
          obtain ⟨k1_, rfl⟩ : ∃ k1, gk = k1 + 1 := ⟨gk - 1, by have := HK.out; omega⟩
          have pp := eq_true p0
          have qq := eq_true q0
          have qb : decide (xi < (x.outs.length : Int)) = true := decide_eq_true q0
          obtain ⟨dy, hdy⟩ : ∃ d, outB y = d := ⟨_, rfl⟩
          have HOUT := Lib.hid (hdy ▸ outbytes_eq 9 (by omega) y (by omega))
          have HCE := Lib.hid hce
          have G1 := Lib.hid g1
          have LL1 := Lib.hid l1
          rw [hdy] at htf htl
          have HTF := Lib.hid htf
          have HTL := Lib.hid (show ((x.outs.take i).map outB).flatten.length + dy.length ≤ L2 by rw [HL2.out]; exact htl)
          clear p0 q0 hy l1 g1 hce hms htf htl ci hdy
          go_wp2_with (first
            | (refine wpList_load_list rfl 45 (.tmp 64) rfl (ad.add (xi.toNat * 2)) rfl [.int .i64 y.f0, .slice B1 y.f1.length d1] _ (HCE.out _ HO.out.2) Try.underlying45 rfl rfl ?_)
            | (go_at_call 35; (with_reducible refine (PFnTxIDs.spec_outBytes.calls 9 y.f0 B1 d1 y.f1 _ _ (Kd.C_below G1.out HO.out.2) LL1.out HOUT.out).mono ?_); rintro e w_ ⟨u, rfl, hr, hb⟩; obtain ⟨ho_, A, c, rfl, hC⟩ := made_C HO.out hr hb; have n0_ := Lib.hid ho_; have HCx := Lib.hid hC; clear HO hr hb ho_ hC; have HO := n0_; clear n0_; (try clear k0); (try clear k1); (try clear k2); (try clear k3); have k_ := HC.out _ HO.out.2; have k0 := k_.1; have k1 := k_.2.1; have k2 := k_.2.2.1; have k3 := k_.2.2.2; clear k_)
            | ((with_reducible refine gate_builtin (b := .append) (xs := #[.tmp 60, .tmp 66]) rfl ?_); at_builtin; (refine app (w0 := (w.alloc (.cells cs 26))) rfl (.tmp 60) (.tmp 66) rfl rfl rfl HO.out HCx.out rfl (by have := HLM.out; have := HE3.out; have := HTL.out; rw [List.length_append]; omega) ?_); intro v_ w_ ho_ _; have n0_ := Lib.hid (ho_.eq (show _ = D3 ++ ((x.outs.take (i + 1)).map outB).flatten from by rw [HTF.out, List.append_assoc])); clear HO HCx ho_; have HO := n0_; clear n0_; (try clear k0); (try clear k1); (try clear k2); (try clear k3); have k_ := HC.out _ HO.out.2; have k0 := k_.1; have k1 := k_.2.1; have k2 := k_.2.2.1; have k3 := k_.2.2.2; clear k_))
          go_roundg k1_
          case measure => exact Nat.lt_succ_self _
          case rel => exact ⟨i + 1, xi + 1, (by first | rfl | (simp [hwi]; done)), Lib.hid (by rw [HI.out]; omega), Lib.hid (by have := HK.out; omega), HO⟩
        · have qb : decide (xi < (x.outs.length : Int)) = false := decide_eq_false (by rw [HI.out]; omega)
          have n0_ := Lib.hid (HO.out.eq (show _ = D4 from by rw [HD4.out, List.take_of_length_le (by omega)]))
          clear ci HI HK HO
          have HO := n0_
          clear n0_
          have n0_ := Lib.hid (HO.out.eq (show _ = D5 from by rw [HD5.out]; simp))
          clear HO
          have HO := n0_
          clear n0_
          go_wp2
          go_loopg [6, 9] 1 (fun kq v6 v9 w' => v9 = .int .i64 0 ∧ Hid (Own (w.alloc (.cells cs 26)) w' v6 D5))
          case atStart => exact ⟨rfl, HO⟩
          case round =>
            clear HO qb
            try clear k0
            try clear k1
            try clear k2
            try clear k3
            obtain ⟨rfl, HO⟩ := hrel
            have k_ := HC.out _ HO.out.2; have k0 := k_.1; have k1 := k_.2.1; have k2 := k_.2.2.1; have k3 := k_.2.2.2; clear k_
            go_wp2_with (first | (go_at_call 32; (with_reducible refine (PFnTxIDs.spec_little.calls 9 x.k 4 _ _ KK.out).mono ?_); rintro e w_ ⟨u, rfl, hr, hb⟩; obtain ⟨ho_, A, c, rfl, hC⟩ := made_C HO.out hr hb; have n0_ := Lib.hid ho_; have HCx := Lib.hid hC; clear HO hr hb ho_ hC; have HO := n0_; clear n0_; (try clear k0); (try clear k1); (try clear k2); (try clear k3); have k_ := HC.out _ HO.out.2; have k0 := k_.1; have k1 := k_.2.1; have k2 := k_.2.2.1; have k3 := k_.2.2.2; clear k_) | ((with_reducible refine gate_builtin (b := .append) (xs := #[.tmp 87, .tmp 91]) rfl ?_); at_builtin; (refine app (w0 := (w.alloc (.cells cs 26))) rfl (.tmp 87) (.tmp 91) rfl rfl rfl HO.out HCx.out rfl (by have := HLM.out; have := HE5.out; have := HZ9.out; omega) ?_); intro v_ w_ ho_ _; have n0_ := Lib.hid (ho_.eq rfl); clear HO HCx ho_; have HO := n0_; clear n0_; (try clear k0); (try clear k1); (try clear k2); (try clear k3); have k_ := HC.out _ HO.out.2; have k0 := k_.1; have k1 := k_.2.1; have k2 := k_.2.2.1; have k3 := k_.2.2.2; clear k_))
            go_ret
            exact ⟨_, rfl, Own.of W0.out (by have := HO.out.1; rw [← HDone.out] at this; exact this) (by simp) (by exact HO.out.2)⟩
set_option maxHeartbeats 16000000 in
set_option maxRecDepth 100000 in
theorem spec_b (x : TX) (A1 : Option Addr) (c1 : Nat) (A2 : Option Addr) (c2 : Nat) (w : World) (h : TxIn w x A1 c1 A2 c2) (hf : fit2 x = true) (hg : Nums x) (hlim : txN x + 256 ≤ 140737488355328) :
    Calls Try.prog 18 #[.agg (txc x A1 c1 A2 c2), .bool false] w fun e w' => ∃ v, e = .returned v ∧ Own w w' v (txB x false) := by
  have hf1 : (∀ y ∈ x.ins, y.s.length ≤ 2147483647) ∧ (∀ y ∈ x.outs, y.f1.length ≤ 2147483647) := by
    simp only [fit2, fit3, fit4, fit5, fit6, Bool.and_eq_true, decide_eq_true_eq, List.all_eq_true] at hf
    exact ⟨fun y hy => (hf.1.2 y hy).1, hf.2.2⟩
  have F1 := Lib.hid hf1
  have HG := Lib.hid hg
  obtain ⟨L1, hL1⟩ : ∃ L1, L1 = (x.ins.map inB).flatten.length := ⟨_, rfl⟩
  obtain ⟨L2, hL2⟩ : ∃ L2, L2 = (x.outs.map outB).flatten.length := ⟨_, rfl⟩
  obtain ⟨L3, hL3⟩ : ∃ L3, L3 = (x.ins.map fun y => witB y.w).flatten.length := ⟨_, rfl⟩
  have HL1 := Lib.hid hL1
  have HL2 := Lib.hid hL2
  have HL3 := Lib.hid hL3
  have HLM := Lib.hid (show L1 + L2 + L3 + 256 ≤ 140737488355328 by rw [hL1, hL2, hL3]; unfold txN at hlim; omega)
  have hsh := specHas_calls x A1 c1 A2 c2
  obtain ⟨cs, hcs⟩ : ∃ cs, txc x A1 c1 A2 c2 = cs := ⟨_, rfl⟩
  have HZ := Lib.hid (show cs.size = 4 from by rw [← hcs]; rfl)
  rw [hcs] at hsh ⊢
  have HSH := Lib.hid (show ∀ W, Below w.heap.size w W → Calls Try.prog 31 #[.agg cs] W fun e w' => e = .returned (.bool (hasW x.ins)) ∧ Below W.heap.size W w' from fun W hW => hsh W (h.below hW) hg.n1)
  have hB0 : Below w.heap.size w (w.alloc (.cells cs 26)) := below_alloc (Below.refl _ _) _
  have W0 := Lib.hid hB0
  have HT := Lib.hid (h.below hB0)
  have hc : ∀ W, Below (w.alloc (.cells cs 26)).heap.size (w.alloc (.cells cs 26)) W → W.cell? ⟨w.heap.size, 0, none⟩ = some (.int .i32 x.v) ∧ W.cell? ⟨w.heap.size, 1, none⟩ = some (.slice A1 x.ins.length c1) ∧ W.cell? ⟨w.heap.size, 2, none⟩ = some (.slice A2 x.outs.length c2) ∧ W.cell? ⟨w.heap.size, 3, none⟩ = some (.int .u32 x.k) := by
    intro W hW
    have hb := blk_below (heap_alloc_new w (.cells cs 26)) hW
    refine ⟨?_, ?_, ?_, ?_⟩ <;> (rw [blk_cell hb, ← hcs]; rfl)
  have HC := Lib.hid hc
  obtain ⟨xv, hxv⟩ : ∃ xv, x.v % 4294967296 = xv := ⟨_, rfl⟩
  have hv0 : 0 ≤ xv := by omega
  have hv1 : xv < 4294967296 := by omega
  obtain ⟨d0, hd0⟩ : ∃ d, le 4 xv = d := ⟨_, rfl⟩
  obtain ⟨d9, hd9⟩ : ∃ d, le 4 x.k = d := ⟨_, rfl⟩
  obtain ⟨q1, hq1⟩ : ∃ d, vi x.ins.length = d := ⟨_, rfl⟩
  obtain ⟨q2, hq2⟩ : ∃ d, vi x.outs.length = d := ⟨_, rfl⟩
  have KV := Lib.hid (hd0 ▸ little_eq 4 9 (by omega) (by omega) xv hv0 (by omega))
  have KK := Lib.hid (hd9 ▸ little_eq 4 9 (by omega) (by omega) x.k hg.k.1 (by have := hg.k.2; omega))
  have K1 := Lib.hid (hq1 ▸ varint_eq 9 (by omega) x.ins.length (by omega) (by have := hg.n1; omega))
  have K2 := Lib.hid (hq2 ▸ varint_eq 9 (by omega) x.outs.length (by omega) (by have := hg.n2; omega))
  obtain ⟨D0, hD0⟩ : ∃ D0, D0 = d0 ++ (if false then [0, 1] else []) := ⟨_, rfl⟩
  obtain ⟨D1, hD1⟩ : ∃ D1, D1 = D0 ++ q1 := ⟨_, rfl⟩
  obtain ⟨D2, hD2⟩ : ∃ D2, D2 = D1 ++ (x.ins.map inB).flatten := ⟨_, rfl⟩
  obtain ⟨D3, hD3⟩ : ∃ D3, D3 = D2 ++ q2 := ⟨_, rfl⟩
  obtain ⟨D4, hD4⟩ : ∃ D4, D4 = D3 ++ (x.outs.map outB).flatten := ⟨_, rfl⟩
  obtain ⟨D5, hD5⟩ : ∃ D5, D5 = D4 ++ (if false then (x.ins.map (fun y => witB y.w)).flatten else []) := ⟨_, rfl⟩
  have z0 : d0.length = 4 := by rw [← hd0, le_len]
  have z9 : d9.length = 4 := by rw [← hd9, le_len]
  have y1 : q1.length ≤ 9 := by rw [← hq1]; exact vi_len _
  have y2 : q2.length ≤ 9 := by rw [← hq2]; exact vi_len _
  have e0 : D0.length ≤ 6 := by rw [hD0, List.length_append, z0]; split <;> simp
  have e1 : D1.length ≤ 15 := by rw [hD1, List.length_append]; omega
  have e2 : D2.length ≤ L1 + 15 := by rw [hD2, List.length_append, ← hL1]; omega
  have e3 : D3.length ≤ L1 + 24 := by rw [hD3, List.length_append]; omega
  have e4 : D4.length ≤ L1 + L2 + 24 := by rw [hD4, List.length_append, ← hL2]; omega
  have e5 : D5.length ≤ L1 + L2 + L3 + 24 := by rw [hD5, List.length_append]; split <;> first | omega | (rw [List.length_nil]; omega)
  have HZ0 := Lib.hid z0
  have HZ9 := Lib.hid z9
  have HY1 := Lib.hid y1
  have HY2 := Lib.hid y2
  have HE0 := Lib.hid e0
  have HE1 := Lib.hid e1
  have HE2 := Lib.hid e2
  have HE3 := Lib.hid e3
  have HE4 := Lib.hid e4
  have HE5 := Lib.hid e5
  have HD0 := Lib.hid hD0
  have HD1 := Lib.hid hD1
  have HD2 := Lib.hid hD2
  have HD3 := Lib.hid hD3
  have HD4 := Lib.hid hD4
  have HD5 := Lib.hid hD5
  have HDone := Lib.hid (show txB x false = D5 ++ d9 from by rw [hD5, hD4, hD3, hD2, hD1, hD0, txB, hxv, hd0, hq1, hq2, hd9]; simp only [List.append_assoc])
  have hw : IntKind.u32.wrap x.v = xv := by rw [u32_mod, hxv]
  have hw0 : IntKind.u64.wrap xv = xv := u64_id hv0 (by omega)
  have hw00 : xv % 18446744073709551616 = xv := by omega
  have hw1 : IntKind.u64.wrap (x.ins.length : Int) = x.ins.length := u64_id (by omega) (by have := hg.n1; omega)
  have hw2 : (x.ins.length : Int) % 18446744073709551616 = x.ins.length := by have := hg.n1; omega
  have hw3 : IntKind.u64.wrap (x.outs.length : Int) = x.outs.length := u64_id (by omega) (by have := hg.n2; omega)
  have hw4 : (x.outs.length : Int) % 18446744073709551616 = x.outs.length := by have := hg.n2; omega
  have hw5 : IntKind.u64.wrap x.k = x.k := u64_id hg.k.1 (by have := hg.k.2; omega)
  have hw6 : x.k % 18446744073709551616 = x.k := by have := hg.k.1; have := hg.k.2; omega
  skip
  have HV := Lib.hid hxv
  clear h hf hg hlim hf1 hL1 hL2 hL3 hcs hsh hB0 hc hv0 hv1 hd0 hd9 hq1 hq2 hD0 hD1 hD2 hD3 hD4 hD5 z0 z9 y1 y2 e0 e1 e2 e3 e4 e5 hxv
  have HB := Lib.hid (Below.refl (w.alloc (.cells cs 26)).heap.size (w.alloc (.cells cs 26)))
  have k0 := (HC.out _ HB.out).1
  go_enter Try.func18, Try.ntmps18
  go_wp2_with (first
    | (go_at_call 32; (with_reducible refine (PFnTxIDs.spec_little.calls 9 xv 4 _ _ KV.out).mono ?_); rintro e w_ ⟨u, rfl, hr, hb⟩; have n0_ := Lib.hid (Own.of HB.out hr HB.out.size hb); clear HB hr hb; have HO := n0_; clear n0_; (try clear k0); (try clear k1); (try clear k2); (try clear k3); have k_ := HC.out _ HO.out.2; have k0 := k_.1; have k1 := k_.2.1; have k2 := k_.2.2.1; have k3 := k_.2.2.2; clear k_; have n0_ := Lib.hid (HO.out.eq (show _ = D0 from by rw [HD0.out]; simp)); clear HO; have HO := n0_; clear n0_)
    | (go_at_call 33; (with_reducible refine (PFnTxIDs.spec_VarInt.calls 9 (x.ins.length : Int) _ _ K1.out).mono ?_); rintro e w_ ⟨u, rfl, hr, hb⟩; obtain ⟨ho_, A, c, rfl, hC⟩ := made_C HO.out hr hb; have n0_ := Lib.hid ho_; have HCx := Lib.hid hC; clear HO hr hb ho_ hC; have HO := n0_; clear n0_; (try clear k0); (try clear k1); (try clear k2); (try clear k3); have k_ := HC.out _ HO.out.2; have k0 := k_.1; have k1 := k_.2.1; have k2 := k_.2.2.1; have k3 := k_.2.2.2; clear k_)
    | ((with_reducible refine gate_builtin (b := .append) (xs := #[.tmp 24, .tmp 29]) rfl ?_); at_builtin; (refine app (w0 := (w.alloc (.cells cs 26))) rfl (.tmp 24) (.tmp 29) rfl rfl rfl HO.out HCx.out rfl (by have := HLM.out; have := HE0.out; have := HY1.out; omega) ?_); intro v_ w_ ho_ _; have n0_ := Lib.hid (ho_.eq (HD1.out.symm)); clear HO HCx ho_; have HO := n0_; clear n0_; (try clear k0); (try clear k1); (try clear k2); (try clear k3); have k_ := HC.out _ HO.out.2; have k0 := k_.1; have k1 := k_.2.1; have k2 := k_.2.2.1; have k3 := k_.2.2.2; clear k_))
  go_loopg [6, 7] (x.ins.length + 1) (fun kq v6 v7 w' => ∃ (i : Nat) (xi : Int), v7 = .int .i64 xi ∧ Hid (xi = (i : Int)) ∧ Hid (i + kq = x.ins.length + 1) ∧ Hid (Own (w.alloc (.cells cs 26)) w' v6 (D1 ++ ((x.ins.take i).map inB).flatten)))
  case atStart => exact ⟨0, 0, rfl, Lib.hid rfl, Lib.hid (Nat.zero_add _), Lib.hid (by simpa using HO.out)⟩
  case round =>
    clear HO
    try clear k0
    try clear k1
    try clear k2
    try clear k3
    obtain ⟨i, xi, rfl, HI, HK, HO⟩ := hrel
    have k_ := HC.out _ HO.out.2; have k0 := k_.1; have k1 := k_.2.1; have k2 := k_.2.2.1; have k3 := k_.2.2.2; clear k_
    by_cases ci : i < x.ins.length
    · have p0 : 0 ≤ xi := by rw [HI.out]; omega
      have q0 : xi < (x.ins.length : Int) := by rw [HI.out]; omega
      have hwi : wrap64 (xi + 1) = xi + 1 := by have := HG.out.n1; exact wrap64_id (by omega) (by omega)
      obtain ⟨ad, ds, B1, d1, B2, d2, rfl, hz, ho1, hds, hl, l1, l2, g1, g2, hce⟩ := at_step HT.out.g1 xi p0 q0
      have hm := HG.out.i _ (rd_mem x.ins xi p0 q0)
      have hms := F1.out.1 _ (rd_mem x.ins xi p0 q0)
      have htf := take_flat inB x.ins zTI i ci
      have htl := take_len inB x.ins zTI i ci
      rw [show x.ins.getD i zTI = rdT x.ins xi from by rw [rdT, HI.out]; rfl] at htf htl
      obtain ⟨y, hy⟩ : ∃ y, rdT x.ins xi = y := ⟨_, rfl⟩
      rw [hy] at hds hl l1 l2 g1 g2 hm hms htf htl
      obtain ⟨k1_, rfl⟩ : ∃ k1, gk = k1 + 1 := ⟨gk - 1, by have := HK.out; omega⟩
      have pp := eq_true p0
      have qq := eq_true q0
      have qb : decide (xi < (x.ins.length : Int)) = true := decide_eq_true q0
      obtain ⟨dy, hdy⟩ : ∃ d, inB y = d := ⟨_, rfl⟩
      have HIN := Lib.hid (show ∀ W, Below (w.alloc (.cells cs 26)).heap.size (w.alloc (.cells cs 26)) W → Calls Try.prog 34 #[.agg ds] W fun e w' => ∃ v, e = .returned v ∧ Own W w' v dy from fun W hW => hdy ▸ hds ▸ specIn_calls y B1 d1 B2 d2 W hl l1 (Kd.C_below g1 hW) hm.1 hm.2.1 hms)
      have HCE := Lib.hid hce
      have HZD := Lib.hid hz
      rw [hdy] at htf htl
      have HTF := Lib.hid htf
      have HTL := Lib.hid (show ((x.ins.take i).map inB).flatten.length + dy.length ≤ L1 by rw [HL1.out]; exact htl)
      clear p0 q0 hy hz ho1 hds hl l1 l2 g1 g2 hce hm hms htf htl ci hdy
      go_wp2_with (first
        | (refine wpList_load_list rfl 43 (.tmp 42) rfl (ad.add (xi.toNat * 36)) rfl ds.toList _ (HCE.out _ HO.out.2) Try.underlying43 rfl ?aI ?_; go_must (case aI => rw [Array.length_toList, HZD.out]; rfl); go_must (simp only [Array.toArray_toList]))
        | (go_at_call 34; go_must (refine (HIN.out _ HO.out.2).mono ?_); rintro e w_ ⟨u, rfl, hr⟩; obtain ⟨ho_, A, c, rfl, hC⟩ := made_C HO.out hr.1 hr.2; have n0_ := Lib.hid ho_; have HCx := Lib.hid hC; clear HO hr ho_ hC; have HO := n0_; clear n0_; (try clear k0); (try clear k1); (try clear k2); (try clear k3); have k_ := HC.out _ HO.out.2; have k0 := k_.1; have k1 := k_.2.1; have k2 := k_.2.2.1; have k3 := k_.2.2.2; clear k_)
        | ((with_reducible refine gate_builtin (b := .append) (xs := #[.tmp 38, .tmp 44]) rfl ?_); at_builtin; (refine app (w0 := (w.alloc (.cells cs 26))) rfl (.tmp 38) (.tmp 44) rfl rfl rfl HO.out HCx.out rfl (by have := HLM.out; have := HE1.out; have := HTL.out; rw [List.length_append]; omega) ?_); intro v_ w_ ho_ _; have n0_ := Lib.hid (ho_.eq (show _ = D1 ++ ((x.ins.take (i + 1)).map inB).flatten from by rw [HTF.out, List.append_assoc])); clear HO HCx ho_; have HO := n0_; clear n0_; (try clear k0); (try clear k1); (try clear k2); (try clear k3); have k_ := HC.out _ HO.out.2; have k0 := k_.1; have k1 := k_.2.1; have k2 := k_.2.2.1; have k3 := k_.2.2.2; clear k_))
      go_roundg k1_
      case measure => exact Nat.lt_succ_self _
      case rel => exact ⟨i + 1, xi + 1, (by first | rfl | (simp [hwi]; done)), Lib.hid (by rw [HI.out]; omega), Lib.hid (by have := HK.out; omega), HO⟩
    · have qb : decide (xi < (x.ins.length : Int)) = false := decide_eq_false (by rw [HI.out]; omega)
      have n0_ := Lib.hid (HO.out.eq (show _ = D2 from by rw [HD2.out, List.take_of_length_le (by omega)]))
      clear ci HI HK HO
      have HO := n0_
      clear n0_
      go_wp2_with (first | (go_at_call 33; (with_reducible refine (PFnTxIDs.spec_VarInt.calls 9 (x.outs.length : Int) _ _ K2.out).mono ?_); rintro e w_ ⟨u, rfl, hr, hb⟩; obtain ⟨ho_, A, c, rfl, hC⟩ := made_C HO.out hr hb; have n0_ := Lib.hid ho_; have HCx := Lib.hid hC; clear HO hr hb ho_ hC; have HO := n0_; clear n0_; (try clear k0); (try clear k1); (try clear k2); (try clear k3); have k_ := HC.out _ HO.out.2; have k0 := k_.1; have k1 := k_.2.1; have k2 := k_.2.2.1; have k3 := k_.2.2.2; clear k_) | ((with_reducible refine gate_builtin (b := .append) (xs := #[.tmp 46, .tmp 51]) rfl ?_); at_builtin; (refine app (w0 := (w.alloc (.cells cs 26))) rfl (.tmp 46) (.tmp 51) rfl rfl rfl HO.out HCx.out rfl (by have := HLM.out; have := HE2.out; have := HY2.out; omega) ?_); intro v_ w_ ho_ _; have n0_ := Lib.hid (ho_.eq (HD3.out.symm)); clear HO HCx ho_; have HO := n0_; clear n0_; (try clear k0); (try clear k1); (try clear k2); (try clear k3); have k_ := HC.out _ HO.out.2; have k0 := k_.1; have k1 := k_.2.1; have k2 := k_.2.2.1; have k3 := k_.2.2.2; clear k_))
      go_loopg [6, 8] (x.outs.length + 1) (fun kq v6 v8 w' => ∃ (i : Nat) (xi : Int), v8 = .int .i64 xi ∧ Hid (xi = (i : Int)) ∧ Hid (i + kq = x.outs.length + 1) ∧ Hid (Own (w.alloc (.cells cs 26)) w' v6 (D3 ++ ((x.outs.take i).map outB).flatten)))
      case atStart => exact ⟨0, 0, rfl, Lib.hid rfl, Lib.hid (Nat.zero_add _), Lib.hid (by simpa using HO.out)⟩
      case round =>
        clear HO qb
        try clear k0
        try clear k1
        try clear k2
        try clear k3
        obtain ⟨i, xi, rfl, HI, HK, HO⟩ := hrel
        have k_ := HC.out _ HO.out.2; have k0 := k_.1; have k1 := k_.2.1; have k2 := k_.2.2.1; have k3 := k_.2.2.2; clear k_
        by_cases ci : i < x.outs.length
        · have p0 : 0 ≤ xi := by rw [HI.out]; omega
          have q0 : xi < (x.outs.length : Int) := by rw [HI.out]; omega
          have hwi : wrap64 (xi + 1) = xi + 1 := by have := HG.out.n2; exact wrap64_id (by omega) (by omega)
          obtain ⟨ad, B1, d1, rfl, l1, g1, hce⟩ := out_step HT.out.g2 xi p0 q0
          have hms := F1.out.2 (rdO x.outs xi) (by
            rw [rdO, List.getD_eq_getElem?_getD, List.getElem?_eq_getElem (show xi.toNat < x.outs.length by omega)]
            exact List.getElem_mem _)
          have htf := take_flat outB x.outs PFnTxIDs.z45 i ci
          have htl := take_len outB x.outs PFnTxIDs.z45 i ci
          rw [show x.outs.getD i PFnTxIDs.z45 = rdO x.outs xi from by rw [rdO, HI.out]; rfl] at htf htl
          obtain ⟨y, hy⟩ : ∃ y, rdO x.outs xi = y := ⟨_, rfl⟩
          rw [hy] at l1 g1 hce hms htf htl
          obtain ⟨k1_, rfl⟩ : ∃ k1, gk = k1 + 1 := ⟨gk - 1, by have := HK.out; omega⟩
          have pp := eq_true p0
          have qq := eq_true q0
          have qb : decide (xi < (x.outs.length : Int)) = true := decide_eq_true q0
          obtain ⟨dy, hdy⟩ : ∃ d, outB y = d := ⟨_, rfl⟩
          have HOUT := Lib.hid (hdy ▸ outbytes_eq 9 (by omega) y (by omega))
          have HCE := Lib.hid hce
          have G1 := Lib.hid g1
          have LL1 := Lib.hid l1
          rw [hdy] at htf htl
          have HTF := Lib.hid htf
          have HTL := Lib.hid (show ((x.outs.take i).map outB).flatten.length + dy.length ≤ L2 by rw [HL2.out]; exact htl)
          clear p0 q0 hy l1 g1 hce hms htf htl ci hdy
          go_wp2_with (first
            | (refine wpList_load_list rfl 45 (.tmp 64) rfl (ad.add (xi.toNat * 2)) rfl [.int .i64 y.f0, .slice B1 y.f1.length d1] _ (HCE.out _ HO.out.2) Try.underlying45 rfl rfl ?_)
            | (go_at_call 35; (with_reducible refine (PFnTxIDs.spec_outBytes.calls 9 y.f0 B1 d1 y.f1 _ _ (Kd.C_below G1.out HO.out.2) LL1.out HOUT.out).mono ?_); rintro e w_ ⟨u, rfl, hr, hb⟩; obtain ⟨ho_, A, c, rfl, hC⟩ := made_C HO.out hr hb; have n0_ := Lib.hid ho_; have HCx := Lib.hid hC; clear HO hr hb ho_ hC; have HO := n0_; clear n0_; (try clear k0); (try clear k1); (try clear k2); (try clear k3); have k_ := HC.out _ HO.out.2; have k0 := k_.1; have k1 := k_.2.1; have k2 := k_.2.2.1; have k3 := k_.2.2.2; clear k_)
            | ((with_reducible refine gate_builtin (b := .append) (xs := #[.tmp 60, .tmp 66]) rfl ?_); at_builtin; (refine app (w0 := (w.alloc (.cells cs 26))) rfl (.tmp 60) (.tmp 66) rfl rfl rfl HO.out HCx.out rfl (by have := HLM.out; have := HE3.out; have := HTL.out; rw [List.length_append]; omega) ?_); intro v_ w_ ho_ _; have n0_ := Lib.hid (ho_.eq (show _ = D3 ++ ((x.outs.take (i + 1)).map outB).flatten from by rw [HTF.out, List.append_assoc])); clear HO HCx ho_; have HO := n0_; clear n0_; (try clear k0); (try clear k1); (try clear k2); (try clear k3); have k_ := HC.out _ HO.out.2; have k0 := k_.1; have k1 := k_.2.1; have k2 := k_.2.2.1; have k3 := k_.2.2.2; clear k_))
          go_roundg k1_
          case measure => exact Nat.lt_succ_self _
          case rel => exact ⟨i + 1, xi + 1, (by first | rfl | (simp [hwi]; done)), Lib.hid (by rw [HI.out]; omega), Lib.hid (by have := HK.out; omega), HO⟩
        · have qb : decide (xi < (x.outs.length : Int)) = false := decide_eq_false (by rw [HI.out]; omega)
          have n0_ := Lib.hid (HO.out.eq (show _ = D4 from by rw [HD4.out, List.take_of_length_le (by omega)]))
          clear ci HI HK HO
          have HO := n0_
          clear n0_
          have n0_ := Lib.hid (HO.out.eq (show _ = D5 from by rw [HD5.out]; simp))
          clear HO
          have HO := n0_
          clear n0_
          go_wp2
          go_loopg [6, 9] 1 (fun kq v6 v9 w' => v9 = .int .i64 0 ∧ Hid (Own (w.alloc (.cells cs 26)) w' v6 D5))
          case atStart => exact ⟨rfl, HO⟩
          case round =>
            clear HO qb
            try clear k0
            try clear k1
            try clear k2
            try clear k3
            obtain ⟨rfl, HO⟩ := hrel
            have k_ := HC.out _ HO.out.2; have k0 := k_.1; have k1 := k_.2.1; have k2 := k_.2.2.1; have k3 := k_.2.2.2; clear k_
            go_wp2_with (first | (go_at_call 32; (with_reducible refine (PFnTxIDs.spec_little.calls 9 x.k 4 _ _ KK.out).mono ?_); rintro e w_ ⟨u, rfl, hr, hb⟩; obtain ⟨ho_, A, c, rfl, hC⟩ := made_C HO.out hr hb; have n0_ := Lib.hid ho_; have HCx := Lib.hid hC; clear HO hr hb ho_ hC; have HO := n0_; clear n0_; (try clear k0); (try clear k1); (try clear k2); (try clear k3); have k_ := HC.out _ HO.out.2; have k0 := k_.1; have k1 := k_.2.1; have k2 := k_.2.2.1; have k3 := k_.2.2.2; clear k_) | ((with_reducible refine gate_builtin (b := .append) (xs := #[.tmp 87, .tmp 91]) rfl ?_); at_builtin; (refine app (w0 := (w.alloc (.cells cs 26))) rfl (.tmp 87) (.tmp 91) rfl rfl rfl HO.out HCx.out rfl (by have := HLM.out; have := HE5.out; have := HZ9.out; omega) ?_); intro v_ w_ ho_ _; have n0_ := Lib.hid (ho_.eq rfl); clear HO HCx ho_; have HO := n0_; clear n0_; (try clear k0); (try clear k1); (try clear k2); (try clear k3); have k_ := HC.out _ HO.out.2; have k0 := k_.1; have k1 := k_.2.1; have k2 := k_.2.2.1; have k3 := k_.2.2.2; clear k_))
            go_ret
            exact ⟨_, rfl, Own.of W0.out (by have := HO.out.1; rw [← HDone.out] at this; exact this) (by simp) (by exact HO.out.2)⟩
theorem spec_calls (x : TX) (wit : Bool) (A1 : Option Addr) (c1 : Nat) (A2 : Option Addr) (c2 : Nat) (w : World) (h : TxIn w x A1 c1 A2 c2) (hf : fit2 x = true) (hg : Nums x) (hlim : txN x + 256 ≤ 140737488355328) :
    Calls Try.prog 18 #[.agg (txc x A1 c1 A2 c2), .bool wit] w fun e w' => ∃ v, e = .returned v ∧ Own w w' v (txB x (wit && hasW x.ins)) := by
  cases wit
  · exact spec_b x A1 c1 A2 c2 w h hf hg hlim
  · cases hb : hasW x.ins
    · exact spec_n x A1 c1 A2 c2 w h hf hg hlim hb
    · exact spec_w x A1 c1 A2 c2 w h hf hg hlim hb
end Go.Proofs.Ytkmlpoggbfbnaaa.Wire
