/-
  impl.CopyTx; the law of TxIDs: its walk over the functions' contracts.
-/
import Derived.Test.YtkmlpoggbfbnaaaCpD
import Derived.Test.YtkmlpoggbfbnaaaGf
import Derived.Test.YtkmlpoggbfbnaaaGe
import Derived.HandedShaped
namespace Go.Proofs.Ytkmlpoggbfbnaaa.Wire
open Go.RowKit Go.Proofs.YtkmlpoggbfbnaaaW.PrintWords Go.Proofs.YtkmlpoggbfbnaaaW.PrintLast Go.Proofs.Ytkmlpoggbfbnaaa.Reg Go.Proofs.Ytkmlpoggbfbnaaa.Buf Go.Proofs.Ytkmlpoggbfbnaaa.Tx
open Go.Proofs.Ytkmlpoggbfbnaaa.Sh (wp_world KT dsha sha_len)
set_option linter.unusedSimpArgs false
set_option linter.unusedVariables false

set_option maxHeartbeats 8000000 in
set_option maxRecDepth 100000 in
theorem copyOf_calls (x : TX) (A1 : Option Addr) (c1 : Nat) (A2 : Option Addr) (c2 : Nat) (w : World) (h : TxIn w x A1 c1 A2 c2) (hf : fit2 x = true) :
    Calls Try.prog 12 #[.agg (txc x A1 c1 A2 c2)] w fun e w' => ∃ D1 d1 D2 d2, e = .returned (.agg (txc x D1 d1 D2 d2)) ∧ TxIn w' x D1 d1 D2 d2 ∧ Below w.heap.size w w' := by
  obtain ⟨cs, hcs⟩ : ∃ cs, txc x A1 c1 A2 c2 = cs := ⟨_, rfl⟩
  have HZ := Lib.hid (show cs.size = 4 from by rw [← hcs]; rfl)
  have HO := Lib.hid (show ∀ W, Below w.heap.size w W → Calls Try.prog 16 #[.agg cs] W fun e w' => ∃ g v1 v2, e = .returned (.pointer (some ⟨g, 0, none⟩)) ∧ Wx w' W.heap.size g x v1 v2 ∧ Below W.heap.size W w' from fun W hW => hcs ▸ of_calls x A1 c1 A2 c2 W (h.below hW) hf)
  have HC := Lib.hid (show ∀ (W : World) (base g : Nat) (v1 v2 : Value), Wx W base g x v1 v2 → Calls Try.prog 23 #[.pointer (some ⟨g, 0, none⟩)] W fun e w' => ∃ M v1 v2, e = .returned (.pointer (some ⟨M, 0, none⟩)) ∧ Wx w' W.heap.size M x v1 v2 ∧ Below W.heap.size W w' from fun W base g v1 v2 hX => by
    obtain ⟨X1, y1, X2, y2, hS⟩ := Wx.stands hX
    exact copyTx_calls hS (fun k hk => hk.2) hf)
  have HT := Lib.hid (show ∀ (W : World) (base g : Nat) (v1 v2 : Value), Wx W base g x v1 v2 → Calls Try.prog 22 #[.pointer (some ⟨g, 0, none⟩)] W fun e w' => ∃ D1 d1 D2 d2, e = .returned (.agg (txc x D1 d1 D2 d2)) ∧ TxIn w' x D1 d1 D2 d2 ∧ (Kd.F kTI w' (fun k => W.heap.size < k) D1 x.ins.length x.ins ∧ Kd.F PFnTxIDs.k45 w' (fun k => W.heap.size < k) D2 x.outs.length x.outs) ∧ Below W.heap.size W w' from fun W base g v1 v2 hX => by
    obtain ⟨X1, y1, X2, y2, hS⟩ := Wx.stands hX
    exact ofTx_calls hS (fun k hk => hk.2) hf)
  rw [hcs]
  clear hcs h hf
  go_enter Try.func12, Try.ntmps12
  go_upto_region 1 with fail
  refine wp_world (fun W0 hW => ?_)
  obtain ⟨c0, hc, hc1⟩ : ∃ c0 : Array Value, (w.alloc (.cells cs 26)).alloc (.cells c0 26) = W0 ∧ c0.size = 4 := ⟨_, hW, rfl⟩
  have HB0 := Lib.hid (show Below w.heap.size w W0 from hc ▸ below_alloc (below_alloc (Below.refl _ _) _) _)
  have G2 := Lib.hid (show W0.heap[w.heap.size + 1]? = some (.cells c0 26 (0, 0)) ∧ c0.size = 4 from ⟨hc ▸ new_at (by simp), hc1⟩)
  have HLI := Lib.hid (show Lies W0 ⟨w.heap.size, 0, none⟩ cs.toList from hc ▸ box_lies (below_alloc (Below.refl _ _) _))
  have HLE := Lib.hid (show w.heap.size + 1 < W0.heap.size from blk_lt G2.out.1)
  clear hW hc hc1
  go_wp2_with (first
    | (refine wpList_load_list rfl 26 (.tmp 1) rfl ⟨w.heap.size, 0, none⟩ rfl cs.toList _ (HLI.out) Try.underlying26 rfl ?aI ?_; go_must (case aI => rw [Array.length_toList, HZ.out]; rfl); go_must (simp only [Array.toArray_toList]))
    | (go_at_call 16; go_must (refine (HO.out W0 HB0.out).mono ?_); rintro e w1 ⟨g, v1, v2, rfl, hX, hB⟩; have HX := Lib.hid hX; have HB1 := Aside0.mk hB; clear hX hB)
    | (go_at_call 23; go_must ((with_reducible refine (HC.out w1 _ g v1 v2 HX.out).mono ?_); rintro e w2 ⟨M, u1, u2, rfl, hX, hB⟩; have HX2 := Lib.hid hX; have HB2 := Aside0.mk (show Below W0.heap.size W0 w2 from below_step HB1.out hB); clear hX hB))
    | (go_at_call 22; go_must ((with_reducible refine (HT.out w2 _ M u1 u2 HX2.out).mono ?_); rintro e w3 ⟨D1, d1, D2, d2, rfl, hT, hFF, hB⟩; obtain ⟨C, hC⟩ : ∃ C, txc x D1 d1 D2 d2 = C := ⟨_, rfl⟩; rw [hC]; have HCC := Aside0.mk hC; have HTT := Lib.hid hT; have HFF := Lib.hid hFF; have HB3 := Aside0.mk (show Below W0.heap.size W0 w3 from below_step HB2.out hB); have HC4 := Aside0.mk (show C.size = 4 from by rw [← hC]; rfl); have HC1 := Aside0.mk (show C.all (·.oneCell') = true from by rw [← hC]; simp [txc, Value.oneCell']); clear hT hFF hB hC))
    | (refine wpList_store_row rfl 26 (.tmp 2) (.tmp 6) rfl (w.heap.size + 1) C rfl rfl 26 _ ((HB3.out.block _ HLE.out).trans G2.out.1) ?aS ?aL HC1.out ?_; go_must (case aS => rw [HC4.out]; rfl); go_must (case aL => rw [HC4.out]; exact G2.out.2)))
  refine bodyPost_ret (results_cell_row (by rfl) _ _ (w.heap.size + 1) 26 C (0, 0) _ (by rfl) (setRow_heap _ _ _ _ _ _ ((HB3.out.block _ HLE.out).trans G2.out.1)) Try.underlying26 (by rfl) (by rw [HC4.out]; rfl)) (by rfl) ?_
  refine ⟨D1, d1, D2, d2, by rw [HCC.out], ⟨HTT.out.l1, HTT.out.l2, ?_, ?_⟩, below_setRow (below_step HB0.out HB3.out) (Nat.le_succ _) _⟩
  · have := Kd.F_step HFF.out.1 (W1 := w3.setRow (w.heap.size + 1) C) (fun k hk _ => setRow_other w3 (w.heap.size + 1) k C (by have := HLE.out; have := HB2.out.size; omega))
    exact this _ (fun _ _ _ => rfl)
  · have := Kd.F_step HFF.out.2 (W1 := w3.setRow (w.heap.size + 1) C) (fun k hk _ => setRow_other w3 (w.heap.size + 1) k C (by have := HLE.out; have := HB2.out.size; omega))
    exact this _ (fun _ _ _ => rfl)
theorem nums_of {x : TX} (h : GoodTX x) (hf : fit2 x = true) : Nums x := by
  simp only [fit2, fit3, fit4, fit5, fit6, Bool.and_eq_true, decide_eq_true_eq, List.all_eq_true] at hf
  refine ⟨fun y hy => ⟨?_, ?_, (hf.1.2 y hy).2.1⟩, ?_, hf.1.1, hf.2.1⟩
  · exact u32_in ((h.2.1 y hy).1.2)
  · exact u32_in ((h.2.1 y hy).2.2.2)
  · exact u32_in (h.2.2.2)
theorem eql_arr (l : List Int) (hl : l.length = 32) (W : World) : (binOp .eql 29 (.agg (nums .u8 l).toArray) (.agg (nums .u8 l).toArray)).run Try.prog W = .ok (.bool true) W := by
  show (binOp .eql 29 (.agg (hv l).toArray) (.agg (hv l).toArray)).run Try.prog W = .ok (.bool true) W
  rw [run_eql_struct, equal_hv W 9998 29 5 32 Try.underlying29 Try.underlying5 (fun w => by kernel_rfl) l l hl hl]
  simp
set_option maxRecDepth 100000 in
/-- The table of constants, whatever it holds. -/
theorem kt_of_shaped {w : World} (h : w.ShapedOpen Try.prog) : KT (Kof w) w := by
  obtain ⟨zero, h0, hz⟩ : ∃ zero : Array Value, ((begin Try.prog (fun _ _ => 0) default).world.heap[1]?).bind Obj.row? = some (zero, 145) ∧ zero.size = 64 := ⟨(List.replicate 64 (Value.int .u32 0)).toArray, by kernel_rfl, by simp⟩
  obtain ⟨cs, hh, hs, hr⟩ := h.1 1 zero 145 (of_decide_eq_true (by kernel_rfl)) h0
  obtain ⟨ts, hts, _, hall⟩ := hr (by kernel_rfl)
  have e : Try.prog.cellTypes Try.prog.depth 145 = some (List.replicate 64 24) := by kernel_rfl
  rw [e] at hts
  cases hts
  rw [hz] at hs
  refine ⟨cs, hh, hs, fun j hj => ?_⟩
  obtain ⟨u, hu', hok⟩ := hall j (cs[j]'(by omega)) (Array.getElem?_eq_getElem _)
  have hu : u = 24 := by
    have := List.mem_of_getElem? hu'
    exact (List.mem_replicate.1 this).2
  subst hu
  unfold Cell.ok at hok
  rw [Try.underlying24] at hok
  have hcell : w.cell? ⟨1, j, none⟩ = some (cs[j]'(by omega)) := (blk_cell hh j).trans (Array.getElem?_eq_getElem _)
  show cs[j]? = some (Value.int .u32 ((Kof w).getD j 0))
  rw [Kof_getD w hj, hcell, Array.getElem?_eq_getElem (by omega)]
  cases hv : (cs[j]'(by omega)) <;> rw [hv] at hok <;> simp at hok
  case int k' n => rw [hok.1]; rfl
set_option maxHeartbeats 16000000 in
set_option maxRecDepth 100000 in
theorem law_walk (x : TX) (A1 : Option Addr) (c1 : Nat) (A2 : Option Addr) (c2 : Nat) (w : World) (h : TxIn w x A1 c1 A2 c2) (hG : GoodTX x) (hK : KT (Kof w) w) :
    Calls Try.prog 3 #[.agg (txc x A1 c1 A2 c2)] w fun e w' => e = .returned (.bool true) ∧ Below w.heap.size w w' := by
  obtain ⟨cs, hcs⟩ : ∃ cs, txc x A1 c1 A2 c2 = cs := ⟨_, rfl⟩
  have HZ := Lib.hid (show cs.size = 4 from by rw [← hcs]; rfl)
  obtain ⟨f, hf⟩ : ∃ f, fit2 x = f := ⟨_, rfl⟩
  have HF2 := Lib.hid (show ∀ W, Below w.heap.size w W → Calls Try.prog 4 #[.agg cs] W fun e w' => e = .returned (.bool f) ∧ Below W.heap.size W w' from fun W hW => hcs ▸ hf ▸ fit2_calls x A1 c1 A2 c2 W (h.below hW))
  cases f
  · rw [hcs]
    clear hcs h hf
    go_enter Try.func3, Try.ntmps3
    go_wp2_with (first | (refine wpList_load_list rfl 26 (.tmp 1) rfl ⟨w.heap.size, 0, none⟩ rfl cs.toList _ (box_lies (Below.refl _ _)) Try.underlying26 rfl ?aI ?_; go_must (case aI => rw [Array.length_toList, HZ.out]; rfl); go_must (simp only [Array.toArray_toList])) | (go_at_call 4; refine (HF2.out _ (below_alloc (Below.refl _ _) _)).mono ?_; rintro e w1 ⟨rfl, hB⟩; have HB := Lib.hid (below_step (below_alloc (Below.refl _ _) _) hB); clear hB))
    go_ret
    exact ⟨rfl, HB.out⟩
  · have hg := nums_of hG hf
    have HSZ := Lib.hid (show ∀ W, Below w.heap.size w W → Calls Try.prog 5 #[.agg cs] W fun e w' => (∃ n, e = .returned (.int .i64 n) ∧ (n ≤ 100000 → (txSz x : Int) ≤ n)) ∧ Below W.heap.size W w' from fun W hW => hcs ▸ sizeB_calls x A1 c1 A2 c2 W (h.below hW) hf)
    have HN := Lib.hid (show ∀ n : Int, (n ≤ 100000 → (txSz x : Int) ≤ n) → n ≤ 100000 → txN x + 256 ≤ 6000000 from fun n h1 h2 => by
      have := h1 h2
      have := txN_le x (hash_len h)
      omega)
    obtain ⟨K, hKK⟩ : ∃ K, Kof w = K := ⟨_, rfl⟩
    obtain ⟨R1, hR1⟩ : ∃ R : Array Value, (nums .u8 (dsha K (txB x false))).toArray = R := ⟨_, rfl⟩
    obtain ⟨R2, hR2⟩ : ∃ R : Array Value, (nums .u8 (dsha K (txB x (hasW x.ins)))).toArray = R := ⟨_, rfl⟩
    have heq1 : ∀ W : World, (binOp .eql 29 (.agg R1) (.agg R1)).run Try.prog W = .ok (.bool true) W := fun W => hR1 ▸ eql_arr _ (by rw [dsha, sha_len]) W
    have heq2 : ∀ W : World, (binOp .eql 29 (.agg R2) (.agg R2)).run Try.prog W = .ok (.bool true) W := fun W => hR2 ▸ eql_arr _ (by rw [dsha, sha_len]) W
    have HA := Lib.hid (show txN x + 256 ≤ 6000000 → ∀ W, Below w.heap.size w W → Calls Try.prog 6 #[.agg cs] W fun e w' => e = .returned (.agg R1) ∧ Below W.heap.size W w' from fun hl W hW => by
      have := txid_calls x A1 c1 A2 c2 W (h.below hW) hf hg (KT_below hK hW) hl
      rwa [Kof_below hK hW, hKK, hR1, hcs] at this)
    have HB := Lib.hid (show txN x + 256 ≤ 6000000 → ∀ W, Below w.heap.size w W → Calls Try.prog 7 #[.func (.func 8) #[] #[], .agg cs] W fun e w' => e = .returned (.agg R1) ∧ Below W.heap.size W w' from fun hl W hW => by
      have := stxid_calls x A1 c1 A2 c2 W (h.below hW) hf hg (KT_below hK hW) hl
      rwa [Kof_below hK hW, hKK, Bool.false_and, hR1, hcs] at this)
    have HC := Lib.hid (show txN x + 256 ≤ 6000000 → ∀ W, Below w.heap.size w W → Calls Try.prog 9 #[.agg cs] W fun e w' => e = .returned (.agg R2) ∧ Below W.heap.size W w' from fun hl W hW => by
      have := witid_calls x A1 c1 A2 c2 W (h.below hW) hf hg (KT_below hK hW) hl
      rwa [Kof_below hK hW, hKK, hR2, hcs] at this)
    have HD := Lib.hid (show txN x + 256 ≤ 6000000 → ∀ W, Below w.heap.size w W → Calls Try.prog 10 #[.func (.func 8) #[] #[], .agg cs] W fun e w' => e = .returned (.agg R2) ∧ Below W.heap.size W w' from fun hl W hW => by
      have := switid_calls x A1 c1 A2 c2 W (h.below hW) hf hg (KT_below hK hW) hl
      rwa [Kof_below hK hW, hKK, Bool.true_and, hR2, hcs] at this)
    have HE := Lib.hid (show ∀ W, Below w.heap.size w W → Calls Try.prog 12 #[.agg cs] W fun e w' => ∃ D1 d1 D2 d2, e = .returned (.agg (txc x D1 d1 D2 d2)) ∧ TxIn w' x D1 d1 D2 d2 ∧ Below W.heap.size W w' from fun W hW => hcs ▸ copyOf_calls x A1 c1 A2 c2 W (h.below hW) hf)
    have HG := Lib.hid (show ∀ W D1 d1 D2 d2, Below w.heap.size w W → TxIn W x D1 d1 D2 d2 → Calls Try.prog 11 #[.agg (txc x D1 d1 D2 d2), .agg cs] W fun e w' => e = .returned (.bool true) ∧ Below W.heap.size W w' from fun W D1 d1 D2 d2 hW hT => hcs ▸ same_calls x D1 d1 D2 d2 A1 c1 A2 c2 W hT (h.below hW) hf)
    rw [hcs]
    clear hcs h hf hg hG hK hKK hR1 hR2
    go_enter Try.func3, Try.ntmps3
    go_wp2_with (first | (refine wpList_load_list rfl 26 (.tmp 1) rfl ⟨w.heap.size, 0, none⟩ rfl cs.toList _ (box_lies (by first | exact HBX.out | exact Below.refl _ _)) Try.underlying26 rfl ?aI ?_; go_must (case aI => rw [Array.length_toList, HZ.out]; rfl); go_must (simp only [Array.toArray_toList])) | (go_at_call 4; refine (HF2.out _ (below_alloc (Below.refl _ _) _)).mono ?_; rintro e w1 ⟨rfl, hB⟩; have HBX := Lib.hid hB; clear hB) | (go_at_call 5; refine (HSZ.out _ (below_step (below_alloc (Below.refl _ _) _) HBX.out)).mono ?_; rintro e w2 ⟨⟨n, rfl, hn⟩, hB⟩; have HNN := Lib.hid hn; have n0_ := Lib.hid (below_step HBX.out hB); clear HBX hB hn; have HBX := n0_; clear n0_))
    · go_ret
      exact ⟨rfl, below_step (below_alloc (Below.refl _ _) _) HBX.out⟩
    · have hnn : n ≤ 100000 := by
        first
          | omega
          | (simp at *; omega)
      have HLL := Lib.hid (HN.out n HNN.out hnn)
      have n0_ := Lib.hid (below_drew HBX.out); clear HBX; have HBX := n0_; clear n0_
      refine start_ (n := 19) (S := fun w' => Lies w' ⟨w.heap.size, 0, none⟩ cs.toList) (ds := []) #[false, false, false, false, false, false, false, false, false, false, false, false, false, false, false, false, false, false, false] (by kernel_rfl) rfl rfl (box_lies HBX.out) (fun hHeld => ?_)
      refine take_ (i := 0) (N := some 9) (v := ?_) (a' := ?_) #[true, false, false, false, false, false, false, false, false, false, false, false, false, false, false, false, false, false, false] rfl rfl (by kernel_rfl) (fun _ _ _ h => h) (Or.inl ⟨by rfl, ?_⟩) hHeld ?_ ?_
      rotate_left
      · intro w' s0
        refine (exec_load_list 26 (.tmp 1) (by rfl) ⟨w.heap.size, 0, none⟩ (by rfl) cs.toList _ s0 Try.underlying26 rfl (by rw [Array.length_toList, HZ.out]; rfl)).trans ?_
        with_reducible rfl
      rotate_left
      · simp only [Act.put, List.setIfInBounds_toArray, List.set_cons_zero, List.set_cons_succ, i64_w, i32_w]
        rfl
      refine take_ (i := 2) (N := some 11) (v := ?_) (a' := ?_) #[true, false, true, false, false, false, false, false, false, false, false, false, false, false, false, false, false, false, false] rfl rfl (by kernel_rfl) (fun _ _ _ h => h) (Or.inl ⟨by rfl, ?_⟩) hHeld ?_ ?_
      rotate_left
      · intro w' s0
        refine (exec_load_list 26 (.tmp 1) (by rfl) ⟨w.heap.size, 0, none⟩ (by rfl) cs.toList _ s0 Try.underlying26 rfl (by rw [Array.length_toList, HZ.out]; rfl)).trans ?_
        with_reducible rfl
      rotate_left
      · simp only [Act.put, List.setIfInBounds_toArray, List.set_cons_zero, List.set_cons_succ, i64_w, i32_w]
        rfl
      refine one_ (i := 1) (N := some 10) #[true, true, true, false, false, false, false, false, false, false, false, false, false, false, false, false, false, false, false] rfl rfl (by kernel_rfl) (by decide) (fun K hK => ?_)
      refine goes_ Try.func6 (by kernel_rfl) rfl #[.agg cs] (by rfl) rfl rfl (by simp only [List.map_toArray, List.map_cons, List.map_nil]; rfl) ?_
      with_reducible refine (HA.out HLL.out _ (below_step (below_alloc (Below.refl _ _) _) HBX.out)).mono ?_
      rintro e v3 ⟨rfl, hB⟩
      refine ⟨_, rfl, ?_⟩
      have n0_ := Lib.hid (below_step HBX.out hB); clear HBX hB; have HBX := n0_; clear n0_
      refine hK.out _ _ (box_lies HBX.out) (fun hHeld => ?_)
      clear hK K
      refine norm_ (a' := ?_) ?_ ?_
      rotate_left
      · show Act.put _ (some 10) _ = _
        simp only [Act.put, List.setIfInBounds_toArray, List.set_cons_zero, List.set_cons_succ, i64_w, i32_w]
        rfl
      refine one_ (i := 3) (N := some 12) #[true, true, true, true, false, false, false, false, false, false, false, false, false, false, false, false, false, false, false] rfl rfl (by kernel_rfl) (by decide) (fun K hK => ?_)
      refine goes_ Try.func7 (by kernel_rfl) rfl #[.func (.func 8) #[] #[], .agg cs] (by rfl) rfl rfl (by simp only [List.map_toArray, List.map_cons, List.map_nil]; rfl) ?_
      with_reducible refine (HB.out HLL.out _ (below_step (below_alloc (Below.refl _ _) _) HBX.out)).mono ?_
      rintro e v4 ⟨rfl, hB⟩
      refine ⟨_, rfl, ?_⟩
      have n0_ := Lib.hid (below_step HBX.out hB); clear HBX hB; have HBX := n0_; clear n0_
      refine hK.out _ _ (box_lies HBX.out) (fun hHeld => ?_)
      clear hK K
      refine norm_ (a' := ?_) ?_ ?_
      rotate_left
      · show Act.put _ (some 12) _ = _
        simp only [Act.put, List.setIfInBounds_toArray, List.set_cons_zero, List.set_cons_succ, i64_w, i32_w]
        rfl
      refine pure_ (i := 4) (N := some 13) (v := ?_) (a' := ?_) #[true, true, true, true, true, false, false, false, false, false, false, false, false, false, false, false, false, false, false] rfl rfl (by kernel_rfl) (fun _ _ _ h => h) (Or.inl ⟨by rfl, ?_⟩) ?_ ?_
      rotate_left
      · intro w'
        go_simp
        with_reducible rfl
      rotate_left
      · simp only [Act.put, List.setIfInBounds_toArray, List.set_cons_zero, List.set_cons_succ, i64_w, i32_w]
        rfl
      refine pure_ (i := 5) (N := some 14) (v := ?_) (a' := ?_) #[true, true, true, true, true, true, false, false, false, false, false, false, false, false, false, false, false, false, false] rfl rfl (by kernel_rfl) (fun _ _ _ h => h) (Or.inl ⟨by rfl, ?_⟩) ?_ ?_
      rotate_left
      · intro w'
        go_simp
        with_reducible rfl
      rotate_left
      · simp only [Act.put, List.setIfInBounds_toArray, List.set_cons_zero, List.set_cons_succ, i64_w, i32_w]
        rfl
      refine take_ (i := 6) (N := some 15) (v := ?_) (a' := ?_) #[true, true, true, true, true, true, true, false, false, false, false, false, false, false, false, false, false, false, false] rfl rfl (by kernel_rfl) (fun _ _ _ h => h) (Or.inl ⟨by rfl, ?_⟩) hHeld ?_ ?_
      rotate_left
      · intro w' s0
        refine (exec_load_list 26 (.tmp 1) (by rfl) ⟨w.heap.size, 0, none⟩ (by rfl) cs.toList _ s0 Try.underlying26 rfl (by rw [Array.length_toList, HZ.out]; rfl)).trans ?_
        with_reducible rfl
      rotate_left
      · simp only [Act.put, List.setIfInBounds_toArray, List.set_cons_zero, List.set_cons_succ, i64_w, i32_w]
        rfl
      refine take_ (i := 8) (N := some 17) (v := ?_) (a' := ?_) #[true, true, true, true, true, true, true, false, true, false, false, false, false, false, false, false, false, false, false] rfl rfl (by kernel_rfl) (fun _ _ _ h => h) (Or.inl ⟨by rfl, ?_⟩) hHeld ?_ ?_
      rotate_left
      · intro w' s0
        refine (exec_load_list 26 (.tmp 1) (by rfl) ⟨w.heap.size, 0, none⟩ (by rfl) cs.toList _ s0 Try.underlying26 rfl (by rw [Array.length_toList, HZ.out]; rfl)).trans ?_
        with_reducible rfl
      rotate_left
      · simp only [Act.put, List.setIfInBounds_toArray, List.set_cons_zero, List.set_cons_succ, i64_w, i32_w]
        rfl
      refine one_ (i := 7) (N := some 16) #[true, true, true, true, true, true, true, true, true, false, false, false, false, false, false, false, false, false, false] rfl rfl (by kernel_rfl) (by decide) (fun K hK => ?_)
      refine goes_ Try.func9 (by kernel_rfl) rfl #[.agg cs] (by rfl) rfl rfl (by simp only [List.map_toArray, List.map_cons, List.map_nil]; rfl) ?_
      with_reducible refine (HC.out HLL.out _ (below_step (below_alloc (Below.refl _ _) _) HBX.out)).mono ?_
      rintro e v5 ⟨rfl, hB⟩
      refine ⟨_, rfl, ?_⟩
      have n0_ := Lib.hid (below_step HBX.out hB); clear HBX hB; have HBX := n0_; clear n0_
      refine hK.out _ _ (box_lies HBX.out) (fun hHeld => ?_)
      clear hK K
      refine norm_ (a' := ?_) ?_ ?_
      rotate_left
      · show Act.put _ (some 16) _ = _
        simp only [Act.put, List.setIfInBounds_toArray, List.set_cons_zero, List.set_cons_succ, i64_w, i32_w]
        rfl
      refine one_ (i := 9) (N := some 18) #[true, true, true, true, true, true, true, true, true, true, false, false, false, false, false, false, false, false, false] rfl rfl (by kernel_rfl) (by decide) (fun K hK => ?_)
      refine goes_ Try.func10 (by kernel_rfl) rfl #[.func (.func 8) #[] #[], .agg cs] (by rfl) rfl rfl (by simp only [List.map_toArray, List.map_cons, List.map_nil]; rfl) ?_
      with_reducible refine (HD.out HLL.out _ (below_step (below_alloc (Below.refl _ _) _) HBX.out)).mono ?_
      rintro e v6 ⟨rfl, hB⟩
      refine ⟨_, rfl, ?_⟩
      have n0_ := Lib.hid (below_step HBX.out hB); clear HBX hB; have HBX := n0_; clear n0_
      refine hK.out _ _ (box_lies HBX.out) (fun hHeld => ?_)
      clear hK K
      refine norm_ (a' := ?_) ?_ ?_
      rotate_left
      · show Act.put _ (some 18) _ = _
        simp only [Act.put, List.setIfInBounds_toArray, List.set_cons_zero, List.set_cons_succ, i64_w, i32_w]
        rfl
      refine pure_ (i := 10) (N := some 19) (v := ?_) (a' := ?_) #[true, true, true, true, true, true, true, true, true, true, true, false, false, false, false, false, false, false, false] rfl rfl (by kernel_rfl) (fun _ _ _ h => h) (Or.inl ⟨by rfl, ?_⟩) ?_ ?_
      rotate_left
      · intro w'
        go_simp
        with_reducible rfl
      rotate_left
      · simp only [Act.put, List.setIfInBounds_toArray, List.set_cons_zero, List.set_cons_succ, i64_w, i32_w]
        rfl
      refine pure_ (i := 11) (N := some 20) (v := ?_) (a' := ?_) #[true, true, true, true, true, true, true, true, true, true, true, true, false, false, false, false, false, false, false] rfl rfl (by kernel_rfl) (fun _ _ _ h => h) (Or.inl ⟨by rfl, ?_⟩) ?_ ?_
      rotate_left
      · intro w'
        go_simp
        with_reducible rfl
      rotate_left
      · simp only [Act.put, List.setIfInBounds_toArray, List.set_cons_zero, List.set_cons_succ, i64_w, i32_w]
        rfl
      refine pure_ (i := 12) (N := some 21) (v := ?_) (a' := ?_) #[true, true, true, true, true, true, true, true, true, true, true, true, true, false, false, false, false, false, false] rfl rfl (by kernel_rfl) (fun _ _ _ h => h) (Or.inl ⟨by rfl, ?_⟩) ?_ ?_
      rotate_left
      · intro w'
        go_simp
        with_reducible rfl
      rotate_left
      · simp only [Act.put, List.setIfInBounds_toArray, List.set_cons_zero, List.set_cons_succ, i64_w, i32_w]
        rfl
      refine take_ (i := 13) (N := some 22) (v := ?_) (a' := ?_) #[true, true, true, true, true, true, true, true, true, true, true, true, true, true, false, false, false, false, false] rfl rfl (by kernel_rfl) (fun _ _ _ h => h) (Or.inl ⟨by rfl, ?_⟩) hHeld ?_ ?_
      rotate_left
      · intro w' s0
        refine (exec_load_list 26 (.tmp 1) (by rfl) ⟨w.heap.size, 0, none⟩ (by rfl) cs.toList _ s0 Try.underlying26 rfl (by rw [Array.length_toList, HZ.out]; rfl)).trans ?_
        with_reducible rfl
      rotate_left
      · simp only [Act.put, List.setIfInBounds_toArray, List.set_cons_zero, List.set_cons_succ, i64_w, i32_w]
        rfl
      refine take_ (i := 15) (N := some 24) (v := ?_) (a' := ?_) #[true, true, true, true, true, true, true, true, true, true, true, true, true, true, false, true, false, false, false] rfl rfl (by kernel_rfl) (fun _ _ _ h => h) (Or.inl ⟨by rfl, ?_⟩) hHeld ?_ ?_
      rotate_left
      · intro w' s0
        refine (exec_load_list 26 (.tmp 1) (by rfl) ⟨w.heap.size, 0, none⟩ (by rfl) cs.toList _ s0 Try.underlying26 rfl (by rw [Array.length_toList, HZ.out]; rfl)).trans ?_
        with_reducible rfl
      rotate_left
      · simp only [Act.put, List.setIfInBounds_toArray, List.set_cons_zero, List.set_cons_succ, i64_w, i32_w]
        rfl
      refine one_ (i := 14) (N := some 23) #[true, true, true, true, true, true, true, true, true, true, true, true, true, true, true, true, false, false, false] rfl rfl (by kernel_rfl) (by decide) (fun K hK => ?_)
      refine goes_ Try.func12 (by kernel_rfl) rfl #[.agg cs] (by rfl) rfl rfl (by simp only [List.map_toArray, List.map_cons, List.map_nil]; rfl) ?_
      with_reducible refine (HE.out _ (below_step (below_alloc (Below.refl _ _) _) HBX.out)).mono ?_
      rintro e v7 ⟨D1, d1, D2, d2, rfl, hT, hB⟩
      refine ⟨_, rfl, ?_⟩
      have HTT := Lib.hid hT; clear hT
      have n0_ := Lib.hid (below_step HBX.out hB); clear HBX hB; have HBX := n0_; clear n0_
      refine hK.out _ _ (box_lies HBX.out) (fun hHeld => ?_)
      clear hK K
      refine norm_ (a' := ?_) ?_ ?_
      rotate_left
      · show Act.put _ (some 23) _ = _
        simp only [Act.put, List.setIfInBounds_toArray, List.set_cons_zero, List.set_cons_succ, i64_w, i32_w]
        rfl
      refine one_ (i := 16) (N := some 25) #[true, true, true, true, true, true, true, true, true, true, true, true, true, true, true, true, true, false, false] rfl rfl (by kernel_rfl) (by decide) (fun K hK => ?_)
      refine goes_ Try.func11 (by kernel_rfl) rfl #[.agg (txc x D1 d1 D2 d2), .agg cs] (by rfl) rfl rfl (by simp only [List.map_toArray, List.map_cons, List.map_nil]; rfl) ?_
      with_reducible refine (HG.out _ D1 d1 D2 d2 (below_step (below_alloc (Below.refl _ _) _) HBX.out) HTT.out).mono ?_
      rintro e v8 ⟨rfl, hB⟩
      refine ⟨_, rfl, ?_⟩
      have n0_ := Lib.hid (below_step HBX.out hB); clear HBX hB; have HBX := n0_; clear n0_
      refine hK.out _ _ (box_lies HBX.out) (fun hHeld => ?_)
      clear hK K
      refine norm_ (a' := ?_) ?_ ?_
      rotate_left
      · show Act.put _ (some 25) _ = _
        simp only [Act.put, List.setIfInBounds_toArray, List.set_cons_zero, List.set_cons_succ, i64_w, i32_w]
        rfl
      refine pure_ (i := 17) (N := some 26) (v := ?_) (a' := ?_) #[true, true, true, true, true, true, true, true, true, true, true, true, true, true, true, true, true, true, false] rfl rfl (by kernel_rfl) (fun _ _ _ h => h) (Or.inl ⟨by rfl, ?_⟩) ?_ ?_
      rotate_left
      · intro w'
        go_simp
        with_reducible rfl
      rotate_left
      · simp only [Act.put, List.setIfInBounds_toArray, List.set_cons_zero, List.set_cons_succ, i64_w, i32_w]
        rfl
      refine pure_ (i := 18) (N := some 2) (v := ?_) (a' := ?_) #[true, true, true, true, true, true, true, true, true, true, true, true, true, true, true, true, true, true, true] rfl rfl (by kernel_rfl) (fun _ _ _ h => h) (Or.inl ⟨by rfl, ?_⟩) ?_ ?_
      rotate_left
      · intro w'
        go_simp
        with_reducible rfl
      rotate_left
      · simp only [Act.put, List.setIfInBounds_toArray, List.set_cons_zero, List.set_cons_succ, i64_w, i32_w]
        rfl
      refine done_ (by kernel_rfl) ?_
      go_wp2
      go_ret
      exact ⟨rfl, below_step (below_alloc (Below.refl _ _) _) HBX.out⟩
theorem row_walk (cs : Array Value) (x : TX) (w : World) (h : kTX.K w x cs.toList ∧ GoodTX x) (hsh : w.ShapedOpen Try.prog) :
    Calls Try.prog 3 #[.agg cs] w fun e w' => e = .returned (.bool true) ∧ Below w.heap.size w w' := by
  obtain ⟨A1, c1, A2, c2, rfl, hT⟩ := kTX_open h.1
  exact law_walk x A1 c1 A2 c2 w hT h.2 (kt_of_shaped hsh)
end Go.Proofs.Ytkmlpoggbfbnaaa.Wire
