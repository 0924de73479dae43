/-
  The law of IsCoinbase: its walk over the functions' contracts; a transaction as an argument.
-/
import Derived.Test.YtclbkinlgjdojaaTxOf
import Derived.Test.YtclbkinlgjdojaaTxSize
import Derived.Test.YtclbkinlgjdojaaTxCb
import Derived.Test.YtclbkinlgjdojaaOpen
namespace Go.Proofs.Ytclbkinlgjdojaa.Tx
open Go.RowKit Go.Proofs.YtclbkinlgjdojaaW.PrintWords Go.Proofs.YtclbkinlgjdojaaW.PrintLast Go.Proofs.Ytclbkinlgjdojaa.Reg
set_option linter.unusedSimpArgs false
set_option linter.unusedVariables false

theorem Wx.below {w w1 : World} {base g : Nat} {x : TX} {v1 v2 : Value} (h : Wx w base g x v1 v2) (hb : Below w.heap.size w w1) : Wx w1 base g x v1 v2 := ⟨h.lo, blk_below h.blk hb, Kd.R_below h.ins hb, Kd.R_below h.outs hb⟩
theorem box_lies {w w' : World} {cs : Array Value} {t : Nat} (h : Below (w.alloc (.cells cs t)).heap.size (w.alloc (.cells cs t)) w') : Lies w' ⟨w.heap.size, 0, none⟩ cs.toList := by
  intro j v hj
  rw [Addr.add_mid, Nat.zero_add, cell_of_row _ _ _ _ _ _ (blk_below (heap_alloc_new w _) h)]
  simpa using hj
set_option maxHeartbeats 8000000 in
set_option maxRecDepth 100000 in
theorem implCb_calls (x : TX) (A1 : Option Addr) (c1 : Nat) (A2 : Option Addr) (c2 : Nat) (w : World) (h : TxIn w x A1 c1 A2 c2) (hf : fit2 x = true) :
    Calls Try.prog 6 #[.agg (txc x A1 c1 A2 c2)] w fun e w' => e = .returned (.bool (isCb x)) ∧ Below w.heap.size w w' := by
  obtain ⟨cs, hcs⟩ : ∃ cs, txc x A1 c1 A2 c2 = cs := ⟨_, rfl⟩
  have hz : cs.size = 4 := by rw [← hcs]; rfl
  have HZ := Lib.hid hz
  have HO := Lib.hid (show ∀ W, Below w.heap.size w W → Calls Try.prog 12 #[.agg cs] W fun e w' => ∃ g v1 v2, e = .returned (.pointer (some ⟨g, 0, none⟩)) ∧ Wx w' W.heap.size g x v1 v2 ∧ Below W.heap.size W w' from fun W hW => hcs ▸ of_calls x A1 c1 A2 c2 W (h.below hW) hf)
  rw [hcs]
  clear hcs h hf hz
  obtain ⟨b, hb⟩ : ∃ b, isCb x = b := ⟨_, rfl⟩
  have HC := Lib.hid (show ∀ base g v1 v2 (w : World), Wx w base g x v1 v2 → Calls Try.prog 11 #[.pointer (some ⟨g, 0, none⟩)] w fun e w' => e = .returned (.bool b) ∧ Below w.heap.size w w' from fun base g v1 v2 w h => hb ▸ cb_calls x base g v1 v2 w h)
  rw [hb]
  clear hb
  go_enter Try.func6, Try.ntmps6
  go_wp2_with (first | (refine wpList_load_list rfl 26 (.tmp 1) rfl ⟨w.heap.size, 0, none⟩ rfl cs.toList _ (box_lies (Below.refl _ _)) Try.underlying26 rfl ?aI ?_; go_must (case aI => rw [Array.length_toList, HZ.out]; rfl); go_must (simp only [Array.toArray_toList])) | (go_at_call 12; refine (HO.out _ (below_alloc (Below.refl _ _) _)).mono ?_; rintro e w1 ⟨g, v1, v2, rfl, hW, hB⟩; have HW := Lib.hid hW; have HB := Lib.hid (below_step (below_alloc (Below.refl _ _) _) hB); clear hW hB) | (go_at_call 11; refine (HC.out _ g v1 v2 _ HW.out).mono ?_; rintro e w2 ⟨rfl, hB⟩; have n0_ := Lib.hid (below_step HB.out hB); clear HB hB; have HB := n0_; clear n0_))
  go_ret
  exact ⟨rfl, HB.out⟩
set_option maxHeartbeats 8000000 in
set_option maxRecDepth 100000 in
theorem law_walk (x : TX) (A1 : Option Addr) (c1 : Nat) (A2 : Option Addr) (c2 : Nat) (w : World) (h : TxIn w x A1 c1 A2 c2) :
    Calls Try.prog 3 #[.agg (txc x A1 c1 A2 c2)] w fun e w' => e = .returned (.bool true) ∧ Below w.heap.size w w' := by
  obtain ⟨cs, hcs⟩ : ∃ cs, txc x A1 c1 A2 c2 = cs := ⟨_, rfl⟩
  have HZ := Lib.hid (show cs.size = 4 from by rw [← hcs]; rfl)
  obtain ⟨f, hf⟩ : ∃ f, fit2 x = f := ⟨_, rfl⟩
  have HF2 := Lib.hid (show ∀ W, Below w.heap.size w W → Calls Try.prog 4 #[.agg cs] W fun e w' => e = .returned (.bool f) ∧ Below W.heap.size W w' from fun W hW => hcs ▸ hf ▸ fit2_calls x A1 c1 A2 c2 W (h.below hW))
  cases f
  · rw [hcs]
    clear hcs h hf
    go_enter Try.func3, Try.ntmps3
    go_wp2_with (first | (refine wpList_load_list rfl 26 (.tmp 1) rfl ⟨w.heap.size, 0, none⟩ rfl cs.toList _ (box_lies (Below.refl _ _)) Try.underlying26 rfl ?aI ?_; go_must (case aI => rw [Array.length_toList, HZ.out]; rfl); go_must (simp only [Array.toArray_toList])) | (go_at_call 4; refine (HF2.out _ (below_alloc (Below.refl _ _) _)).mono ?_; rintro e w1 ⟨rfl, hB⟩; have HB := Lib.hid (below_step (below_alloc (Below.refl _ _) _) hB); clear hB))
    go_ret
    exact ⟨rfl, HB.out⟩
  · have HSZ := Lib.hid (show ∀ W, Below w.heap.size w W → Calls Try.prog 5 #[.agg cs] W fun e w' => (∃ n, e = .returned (.int .i64 n)) ∧ Below W.heap.size W w' from fun W hW => hcs ▸ size_calls x A1 c1 A2 c2 W (h.below hW) hf)
    obtain ⟨b, hb⟩ : ∃ b, isCb x = b := ⟨_, rfl⟩
    have HI := Lib.hid (show ∀ W, Below w.heap.size w W → Calls Try.prog 6 #[.agg cs] W fun e w' => e = .returned (.bool b) ∧ Below W.heap.size W w' from fun W hW => hcs ▸ hb ▸ implCb_calls x A1 c1 A2 c2 W (h.below hW) hf)
    have HS := Lib.hid (show ∀ W, Below w.heap.size w W → Calls Try.prog 7 #[.agg cs] W fun e w' => e = .returned (.bool b) ∧ Below W.heap.size W w' from fun W hW => hcs ▸ hb ▸ spec_calls x A1 c1 A2 c2 W (h.below hW))
    rw [hcs]
    clear hcs h hf hb
    go_enter Try.func3, Try.ntmps3
    go_wp2_with (first | (refine wpList_load_list rfl 26 (.tmp 1) rfl ⟨w.heap.size, 0, none⟩ rfl cs.toList _ (box_lies (by first | exact HBX.out | exact Below.refl _ _)) Try.underlying26 rfl ?aI ?_; go_must (case aI => rw [Array.length_toList, HZ.out]; rfl); go_must (simp only [Array.toArray_toList])) | (go_at_call 4; refine (HF2.out _ (below_alloc (Below.refl _ _) _)).mono ?_; rintro e w1 ⟨rfl, hB⟩; have HBX := Lib.hid hB; clear hB) | (go_at_call 5; refine (HSZ.out _ (below_step (below_alloc (Below.refl _ _) _) HBX.out)).mono ?_; rintro e w2 ⟨⟨n, rfl⟩, hB⟩; have n0_ := Lib.hid (below_step HBX.out hB); clear HBX hB; have HBX := n0_; clear n0_))
    · go_ret
      exact ⟨rfl, below_step (below_alloc (Below.refl _ _) _) HBX.out⟩
    · have n0_ := Lib.hid (below_drew HBX.out); clear HBX; have HBX := n0_; clear n0_
      refine start_ (n := 6) (S := fun w' => Lies w' ⟨w.heap.size, 0, none⟩ cs.toList) (ds := []) #[false, false, false, false, false, false] (by kernel_rfl) rfl rfl (box_lies HBX.out) (fun hHeld => ?_)
      refine take_ (i := 0) (N := some 9) (v := ?_) (a' := ?_) #[true, false, false, false, false, false] rfl rfl (by kernel_rfl) (fun _ _ _ h => h) (Or.inl ⟨by rfl, ?_⟩) hHeld ?_ ?_
      rotate_left
      · intro w' s0
        refine (exec_load_list 26 (.tmp 1) (by rfl) ⟨w.heap.size, 0, none⟩ (by rfl) cs.toList _ s0 Try.underlying26 rfl (by rw [Array.length_toList, HZ.out]; rfl)).trans ?_
        with_reducible rfl
      rotate_left
      · simp only [Act.put, List.setIfInBounds_toArray, List.set_cons_zero, List.set_cons_succ, i64_w, i32_w]
        rfl
      refine take_ (i := 2) (N := some 11) (v := ?_) (a' := ?_) #[true, false, true, false, false, false] rfl rfl (by kernel_rfl) (fun _ _ _ h => h) (Or.inl ⟨by rfl, ?_⟩) hHeld ?_ ?_
      rotate_left
      · intro w' s0
        refine (exec_load_list 26 (.tmp 1) (by rfl) ⟨w.heap.size, 0, none⟩ (by rfl) cs.toList _ s0 Try.underlying26 rfl (by rw [Array.length_toList, HZ.out]; rfl)).trans ?_
        with_reducible rfl
      rotate_left
      · simp only [Act.put, List.setIfInBounds_toArray, List.set_cons_zero, List.set_cons_succ, i64_w, i32_w]
        rfl
      refine one_ (i := 1) (N := some 10) #[true, true, true, false, false, false] rfl rfl (by kernel_rfl) (by decide) (fun K hK => ?_)
      refine goes_ Try.func6 (by kernel_rfl) rfl #[.agg cs] (by rfl) rfl rfl (by simp only [List.map_toArray, List.map_cons, List.map_nil]; rfl) ?_
      with_reducible refine (HI.out _ (below_step (below_alloc (Below.refl _ _) _) HBX.out)).mono ?_
      rintro e w3 ⟨rfl, hB⟩
      refine ⟨_, rfl, ?_⟩
      have n0_ := Lib.hid (below_step HBX.out hB); clear HBX hB; have HBX := n0_; clear n0_
      refine hK.out _ _ (box_lies HBX.out) (fun hHeld => ?_)
      clear hK K
      refine norm_ (a' := ?_) ?_ ?_
      rotate_left
      · show Act.put _ (some 10) _ = _
        simp only [Act.put, List.setIfInBounds_toArray, List.set_cons_zero, List.set_cons_succ, i64_w, i32_w]
        rfl
      refine one_ (i := 3) (N := some 12) #[true, true, true, true, false, false] rfl rfl (by kernel_rfl) (by decide) (fun K hK => ?_)
      refine goes_ Try.func7 (by kernel_rfl) rfl #[.agg cs] (by rfl) rfl rfl (by simp only [List.map_toArray, List.map_cons, List.map_nil]; rfl) ?_
      with_reducible refine (HS.out _ (below_step (below_alloc (Below.refl _ _) _) HBX.out)).mono ?_
      rintro e w4 ⟨rfl, hB⟩
      refine ⟨_, rfl, ?_⟩
      have n0_ := Lib.hid (below_step HBX.out hB); clear HBX hB; have HBX := n0_; clear n0_
      refine hK.out _ _ (box_lies HBX.out) (fun hHeld => ?_)
      clear hK K
      refine norm_ (a' := ?_) ?_ ?_
      rotate_left
      · show Act.put _ (some 12) _ = _
        simp only [Act.put, List.setIfInBounds_toArray, List.set_cons_zero, List.set_cons_succ, i64_w, i32_w]
        rfl
      refine pure_ (i := 4) (N := some 13) (v := ?_) (a' := ?_) #[true, true, true, true, true, false] rfl rfl (by kernel_rfl) (fun _ _ _ h => h) (Or.inl ⟨by rfl, ?_⟩) ?_ ?_
      rotate_left
      · intro w'
        go_simp
        with_reducible rfl
      rotate_left
      · simp only [Act.put, List.setIfInBounds_toArray, List.set_cons_zero, List.set_cons_succ, i64_w, i32_w]
        rfl
      refine pure_ (i := 5) (N := some 2) (v := ?_) (a' := ?_) #[true, true, true, true, true, true] rfl rfl (by kernel_rfl) (fun _ _ _ h => h) (Or.inl ⟨by rfl, ?_⟩) ?_ ?_
      rotate_left
      · intro w'
        go_simp
        with_reducible rfl
      rotate_left
      · simp only [Act.put, List.setIfInBounds_toArray, List.set_cons_zero, List.set_cons_succ, i64_w, i32_w]
        rfl
      refine done_ (by kernel_rfl) ?_
      go_wp2
      go_ret
      exact ⟨by cases b <;> rfl, below_step (below_alloc (Below.refl _ _) _) HBX.out⟩

theorem opens_bytes : Open.Opens Try.prog 35 (Kd.slice 5 (Kd.int .u8)) (fun xs => ∀ x ∈ xs, (Lit.int .u8 x).wf = true) :=
  Open.opens_slice (Open.opens_int Try.underlying5 (by kernel_rfl)) Try.underlying35 (by kernel_rfl)
theorem opens_wit : Open.Opens Try.prog 36 (Kd.slice 35 (Kd.slice 5 (Kd.int .u8))) (fun xs => ∀ y ∈ xs, ∀ x ∈ y, (Lit.int .u8 x).wf = true) :=
  Open.opens_slice opens_bytes Try.underlying36 (by kernel_rfl)
theorem opens_op : Open.Opens Try.prog 34 (Kd.iso (Kd.pair (Kd.arr 32 (Kd.int .u8) (by decide)) (Kd.int .u32)) (fun x : List Int × Int => x)) (fun x => (∀ y ∈ x.1, (Lit.int .u8 y).wf = true) ∧ (Lit.int .u32 x.2).wf = true) :=
  Open.opens_struct (g := fun y => y) (fun _ => rfl) (Open.opensF_cons (Open.opens_array (Open.opens_int Try.underlying5 (by kernel_rfl)) Try.underlying32 (by kernel_rfl)) rfl (Open.opensF_one (Open.opens_int Try.underlying24 (by kernel_rfl)) rfl)) Try.underlying34 (by kernel_rfl)
def GoodTI (x : TI) : Prop := ((∀ y ∈ x.h, (Lit.int .u8 y).wf = true) ∧ (Lit.int .u32 x.i).wf = true) ∧ (∀ y ∈ x.s, (Lit.int .u8 y).wf = true) ∧ (∀ y ∈ x.w, ∀ z ∈ y, (Lit.int .u8 z).wf = true) ∧ (Lit.int .u32 x.q).wf = true
def kTI2 : Kd TI := Kd.iso (Kd.pair (Kd.iso (Kd.pair (Kd.arr 32 (Kd.int .u8) (by decide)) (Kd.int .u32)) (fun x : List Int × Int => x)) (Kd.pair (Kd.slice 5 (Kd.int .u8)) (Kd.pair (Kd.slice 35 (Kd.slice 5 (Kd.int .u8))) (Kd.int .u32)))) (fun x : TI => ((x.h, x.i), x.s, x.w, x.q))
theorem opens_ti2 : Open.Opens Try.prog 38 kTI2 GoodTI := by
  have h0 := Open.opens_struct (f := fun x : TI => ((x.h, x.i), x.s, x.w, x.q)) (g := fun y : (List Int × Int) × List Int × List (List Int) × Int => (⟨y.1.1, y.1.2, y.2.1, y.2.2.1, y.2.2.2⟩ : TI)) (fun _ => rfl)
    (Open.opensF_cons opens_op rfl (Open.opensF_cons opens_bytes rfl (Open.opensF_cons opens_wit rfl (Open.opensF_one (Open.opens_int Try.underlying24 (by kernel_rfl)) rfl)))) Try.underlying38 (by kernel_rfl)
  exact Open.opens_imp h0 (fun _ h => h)
theorem opens_ti : Open.Opens Try.prog 38 kTI GoodTI :=
  ⟨by kernel_rfl, fun H enc w fuel cs x hx => by
    obtain ⟨a, ⟨c0, r0, e0, ⟨c1, r1, e1, h1, h2⟩, h3⟩, g⟩ := opens_ti2.2 H enc w fuel cs x hx
    exact ⟨a, ⟨c1, r1 ++ r0, by rw [e0, e1, List.append_assoc], h1, r1, r0, rfl, h2, h3⟩, g⟩⟩
theorem opens_out : Open.Opens Try.prog 40 PFnIsCoinbase.k40 (fun x => (Lit.int .i64 x.f0).wf = true ∧ ∀ y ∈ x.f1, (Lit.int .u8 y).wf = true) := by
  have h0 := Open.opens_struct (f := fun x : PFnIsCoinbase.S40 => (x.f0, x.f1)) (g := fun y => ⟨y.1, y.2⟩) (fun _ => rfl) (Open.opensF_cons (Open.opens_int Try.underlying2 (by kernel_rfl)) rfl (Open.opensF_one opens_bytes rfl)) Try.underlying40 (by kernel_rfl)
  exact Open.opens_imp h0 (fun _ h => h)
def kTX : Kd TX := Kd.iso (Kd.pair (Kd.int .i32) (Kd.pair (Kd.slice 38 kTI) (Kd.pair (Kd.slice 40 PFnIsCoinbase.k40) (Kd.int .u32)))) (fun x : TX => (x.v, x.ins, x.outs, x.k))
def GoodTX (x : TX) : Prop := (Lit.int .i32 x.v).wf = true ∧ (∀ y ∈ x.ins, GoodTI y) ∧ (∀ y ∈ x.outs, (Lit.int .i64 y.f0).wf = true ∧ ∀ z ∈ y.f1, (Lit.int .u8 z).wf = true) ∧ (Lit.int .u32 x.k).wf = true
theorem opens_tx : Open.Opens Try.prog 26 kTX GoodTX := by
  have h0 := Open.opens_struct (f := fun x : TX => (x.v, x.ins, x.outs, x.k)) (g := fun y => ⟨y.1, y.2.1, y.2.2.1, y.2.2.2⟩) (fun _ => rfl)
    (Open.opensF_cons (Open.opens_int Try.underlying21 (by kernel_rfl)) rfl (Open.opensF_cons (Open.opens_slice opens_ti Try.underlying22 (by kernel_rfl)) rfl (Open.opensF_cons (Open.opens_slice opens_out Try.underlying23 (by kernel_rfl)) rfl (Open.opensF_one (Open.opens_int Try.underlying24 (by kernel_rfl)) rfl)))) Try.underlying26 (by kernel_rfl)
  exact Open.opens_imp h0 (fun _ h => h)
theorem kTX_open {w : World} {x : TX} {cs : Array Value} (h : kTX.K w x cs.toList) : ∃ A1 c1 A2 c2, cs = txc x A1 c1 A2 c2 ∧ TxIn w x A1 c1 A2 c2 := by
  obtain ⟨_, _, e, rfl, _, _, rfl, ⟨A1, c1, rfl, l1, g1⟩, _, _, rfl, ⟨A2, c2, rfl, l2, g2⟩, rfl⟩ := h
  refine ⟨A1, c1, A2, c2, ?_, l1, l2, g1, g2⟩
  rw [← Array.toArray_toList (xs := cs), e]
  rfl
theorem row_walk (cs : Array Value) (x : TX) (w : World) (h : kTX.K w x cs.toList ∧ GoodTX x) :
    Calls Try.prog 3 #[.agg cs] w fun e w' => e = .returned (.bool true) ∧ Below w.heap.size w w' := by
  obtain ⟨A1, c1, A2, c2, rfl, hT⟩ := kTX_open h.1
  exact law_walk x A1 c1 A2 c2 w hT
end Go.Proofs.Ytclbkinlgjdojaa.Tx
