/-
  The law of TxBytes: its walk over the functions' contracts.
-/
import Derived.Test.YtdjchplaeipgpaaTxImpl
import Derived.Test.YtdjchplaeipgpaaTxSp
namespace Go.Proofs.Ytdjchplaeipgpaa.Wire
open Go.RowKit Go.Proofs.YtdjchplaeipgpaaW.PrintWords Go.Proofs.YtdjchplaeipgpaaW.PrintLast Go.Proofs.Ytdjchplaeipgpaa.Reg Go.Proofs.Ytdjchplaeipgpaa.Tx
set_option linter.unusedSimpArgs false
set_option linter.unusedVariables false

theorem flat_le {α : Type} (f : α → List Int) (g : α → Nat) : ∀ (xs : List α), (∀ y ∈ xs, (f y).length ≤ g y) → (xs.map f).flatten.length ≤ (xs.map g).sum
  | [], _ => Nat.le_refl _
  | y :: xs, h => by
    have h1 := h y List.mem_cons_self
    have h2 := flat_le f g xs (fun z hz => h z (List.mem_cons_of_mem _ hz))
    simp only [List.map_cons, List.flatten_cons, List.length_append, List.sum_cons]
    omega
theorem hash_len {w : World} {x : TX} {A1 : Option Addr} {c1 : Nat} {A2 : Option Addr} {c2 : Nat} (h : TxIn w x A1 c1 A2 c2) : ∀ y ∈ x.ins, y.h.length = 32 := by
  intro y hy
  obtain ⟨i, hi, rfl⟩ := List.getElem_of_mem hy
  obtain ⟨_, _, _, _, _, _, hl, _⟩ := kTI_at h.g1 (i : Int) (by omega) (by omega)
  rw [rdT, List.getD_eq_getElem?_getD, Int.toNat_natCast, List.getElem?_eq_getElem hi] at hl
  exact hl
theorem txN_le (x : TX) (h : ∀ y ∈ x.ins, y.h.length = 32) : txN x ≤ 2 * txSz x := by
  have h1 := flat_le inB inSz x.ins (fun y hy => by
    have := vb_len y.s
    rw [inB, List.length_append, List.length_append, opB_len _ _ (h y hy), le_len, inSz]; omega)
  have h2 := flat_le (fun y : TI => witB y.w) inSz x.ins (fun y hy => by
    have e1 := vi_len y.w.length
    have e2 := flat_le vb (fun u => 9 + u.length) y.w (fun u _ => vb_len u)
    show (witB y.w).length ≤ _
    rw [witB, List.length_append, inSz]; omega)
  have h3 := flat_le outB outSz x.outs (fun y _ => by
    have := vb_len y.f1
    rw [outB, List.length_append, le_len, outSz]; omega)
  unfold txN txSz
  omega
theorem txB_len (x : TX) (b : Bool) : (txB x b).length ≤ txN x + 64 := by
  have := vi_len x.ins.length
  have := vi_len x.outs.length
  unfold txB txN
  cases b <;> simp only [List.length_append, le_len, if_true, if_false, Bool.false_eq_true, List.length_cons, List.length_nil] <;> omega
set_option maxHeartbeats 8000000 in
set_option maxRecDepth 100000 in
theorem law_walk (x : TX) (wit : Bool) (A1 : Option Addr) (c1 : Nat) (A2 : Option Addr) (c2 : Nat) (w : World) (h : TxIn w x A1 c1 A2 c2) (hG : GoodTX x) :
    Calls Try.prog 3 #[.agg (txc x A1 c1 A2 c2), .bool wit] w fun e w' => e = .returned (.bool true) ∧ Below w.heap.size w w' := by
  obtain ⟨cs, hcs⟩ : ∃ cs, txc x A1 c1 A2 c2 = cs := ⟨_, rfl⟩
  have HZ := Lib.hid (show cs.size = 4 from by rw [← hcs]; rfl)
  obtain ⟨f, hf⟩ : ∃ f, fit2 x = f := ⟨_, rfl⟩
  have HF2 := Lib.hid (show ∀ W, Below w.heap.size w W → Calls Try.prog 5 #[.agg cs] W fun e w' => e = .returned (.bool f) ∧ Below W.heap.size W w' from fun W hW => hcs ▸ hf ▸ fit2_calls x A1 c1 A2 c2 W (h.below hW))
  cases f
  · rw [hcs]
    clear hcs h hf
    go_enter Try.func3, Try.ntmps3
    go_wp2_with (first | (refine wpList_load_list rfl 26 (.tmp 2) rfl ⟨w.heap.size, 0, none⟩ rfl cs.toList _ (box_lies (Below.refl _ _)) Try.underlying26 rfl ?aI ?_; go_must (case aI => rw [Array.length_toList, HZ.out]; rfl); go_must (simp only [Array.toArray_toList])) | (go_at_call 5; refine (HF2.out _ (below_alloc (Below.refl _ _) _)).mono ?_; rintro e w1 ⟨rfl, hB⟩; have HB := Lib.hid (below_step (below_alloc (Below.refl _ _) _) hB); clear hB))
    go_ret
    exact ⟨rfl, HB.out⟩
  · have hg := nums_of hG hf
    have HSZ := Lib.hid (show ∀ W, Below w.heap.size w W → Calls Try.prog 6 #[.agg cs] W fun e w' => (∃ n, e = .returned (.int .i64 n) ∧ (n ≤ 100000 → (txSz x : Int) ≤ n)) ∧ Below W.heap.size W w' from fun W hW => hcs ▸ sizeB_calls x A1 c1 A2 c2 W (h.below hW) hf)
    have HN := Lib.hid (show ∀ n : Int, (n ≤ 100000 → (txSz x : Int) ≤ n) → n ≤ 100000 → txN x + 256 ≤ 140737488355328 from fun n h1 h2 => by
      have := h1 h2
      have := txN_le x (hash_len h)
      omega)
    obtain ⟨d, hd⟩ : ∃ d, txB x (wit && hasW x.ins) = d := ⟨_, rfl⟩
    have HDL := Lib.hid (show d.length ≤ txN x + 64 from hd ▸ txB_len x _)
    have HI := Lib.hid (show txN x + 256 ≤ 140737488355328 → ∀ W, Below w.heap.size w W → Calls Try.prog 8 #[.agg cs, .bool wit] W fun e w' => ∃ A c, e = .returned (.slice A d.length c) ∧ d.length ≤ c ∧ Kd.C (Kd.int .u8) w' A d.length d ∧ Below W.heap.size W w' from fun hl W hW => hcs ▸ hd ▸ impl_calls x wit A1 c1 A2 c2 W (h.below hW) hf hg hl)
    have HS := Lib.hid (show txN x + 256 ≤ 140737488355328 → ∀ W, Below w.heap.size w W → Calls Try.prog 9 #[.agg cs, .bool wit] W fun e w' => ∃ v, e = .returned v ∧ Own W w' v d from fun hl W hW => hcs ▸ hd ▸ spec_calls x wit A1 c1 A2 c2 W (h.below hW) hf hg hl)
    rw [hcs]
    clear hcs h hf hd hg hG
    go_enter Try.func3, Try.ntmps3
    go_wp2_with (first | (refine wpList_load_list rfl 26 (.tmp 2) rfl ⟨w.heap.size, 0, none⟩ rfl cs.toList _ (box_lies (by first | exact HBX.out | exact Below.refl _ _)) Try.underlying26 rfl ?aI ?_; go_must (case aI => rw [Array.length_toList, HZ.out]; rfl); go_must (simp only [Array.toArray_toList])) | (go_at_call 5; refine (HF2.out _ (below_alloc (Below.refl _ _) _)).mono ?_; rintro e w1 ⟨rfl, hB⟩; have HBX := Lib.hid hB; clear hB) | (go_at_call 6; refine (HSZ.out _ (below_step (below_alloc (Below.refl _ _) _) HBX.out)).mono ?_; rintro e w2 ⟨⟨n, rfl, hn⟩, hB⟩; have HNN := Lib.hid hn; have n0_ := Lib.hid (below_step HBX.out hB); clear HBX hB hn; have HBX := n0_; clear n0_))
    · go_ret
      exact ⟨rfl, below_step (below_alloc (Below.refl _ _) _) HBX.out⟩
    · have hnn : n ≤ 100000 := by
        first
          | omega
          | (simp at *; omega)
      have HLL := Lib.hid (HN.out n HNN.out hnn)
      have n0_ := Lib.hid (below_drew HBX.out); clear HBX; have HBX := n0_; clear n0_
      refine start_ (n := 8) (S := fun w' => Lies w' ⟨w.heap.size, 0, none⟩ cs.toList) (ds := []) #[false, false, false, false, false, false, false, false] (by kernel_rfl) rfl rfl (box_lies HBX.out) (fun hHeld => ?_)
      refine pure_ (i := 1) (N := some 12) (v := ?_) (a' := ?_) #[false, true, false, false, false, false, false, false] rfl rfl (by kernel_rfl) (fun _ _ _ h => h) (Or.inl ⟨by rfl, ?_⟩) ?_ ?_
      rotate_left
      · intro w'
        go_simp
        with_reducible rfl
      rotate_left
      · simp only [Act.put, List.setIfInBounds_toArray, List.set_cons_zero, List.set_cons_succ, i64_w, i32_w]
        rfl
      refine pure_ (i := 4) (N := some 15) (v := ?_) (a' := ?_) #[false, true, false, false, true, false, false, false] rfl rfl (by kernel_rfl) (fun _ _ _ h => h) (Or.inl ⟨by rfl, ?_⟩) ?_ ?_
      rotate_left
      · intro w'
        go_simp
        with_reducible rfl
      rotate_left
      · simp only [Act.put, List.setIfInBounds_toArray, List.set_cons_zero, List.set_cons_succ, i64_w, i32_w]
        rfl
      refine take_ (i := 0) (N := some 11) (v := ?_) (a' := ?_) #[true, true, false, false, true, false, false, false] rfl rfl (by kernel_rfl) (fun _ _ _ h => h) (Or.inl ⟨by rfl, ?_⟩) hHeld ?_ ?_
      rotate_left
      · intro w' s0
        refine (exec_load_list 26 (.tmp 2) (by rfl) ⟨w.heap.size, 0, none⟩ (by rfl) cs.toList _ s0 Try.underlying26 rfl (by rw [Array.length_toList, HZ.out]; rfl)).trans ?_
        with_reducible rfl
      rotate_left
      · simp only [Act.put, List.setIfInBounds_toArray, List.set_cons_zero, List.set_cons_succ, i64_w, i32_w]
        rfl
      refine take_ (i := 3) (N := some 14) (v := ?_) (a' := ?_) #[true, true, false, true, true, false, false, false] rfl rfl (by kernel_rfl) (fun _ _ _ h => h) (Or.inl ⟨by rfl, ?_⟩) hHeld ?_ ?_
      rotate_left
      · intro w' s0
        refine (exec_load_list 26 (.tmp 2) (by rfl) ⟨w.heap.size, 0, none⟩ (by rfl) cs.toList _ s0 Try.underlying26 rfl (by rw [Array.length_toList, HZ.out]; rfl)).trans ?_
        with_reducible rfl
      rotate_left
      · simp only [Act.put, List.setIfInBounds_toArray, List.set_cons_zero, List.set_cons_succ, i64_w, i32_w]
        rfl
      refine one_ (i := 2) (N := some 13) #[true, true, true, true, true, false, false, false] rfl rfl (by kernel_rfl) (by decide) (fun K hK => ?_)
      refine goes_ Try.func8 (by kernel_rfl) rfl #[.agg cs, .bool wit] (by rfl) rfl rfl (by simp only [List.map_toArray, List.map_cons, List.map_nil]; rfl) ?_
      with_reducible refine (HI.out HLL.out _ (below_step (below_alloc (Below.refl _ _) _) HBX.out)).mono ?_
      rintro e w3 ⟨B1, d1, rfl, hl, hC, hB⟩
      refine ⟨_, rfl, ?_⟩
      have C1 := Lib.hid hC; have M1 := Lib.hid hl; clear hC hl
      have n0_ := Lib.hid (below_step HBX.out hB); clear HBX hB; have HBX := n0_; clear n0_
      refine hK.out _ _ (box_lies HBX.out) (fun hHeld => ?_)
      clear hK K
      refine norm_ (a' := ?_) ?_ ?_
      rotate_left
      · show Act.put _ (some 13) _ = _
        simp only [Act.put, List.setIfInBounds_toArray, List.set_cons_zero, List.set_cons_succ, i64_w, i32_w]
        rfl
      refine one_ (i := 5) (N := some 16) #[true, true, true, true, true, true, false, false] rfl rfl (by kernel_rfl) (by decide) (fun K hK => ?_)
      refine goes_ Try.func9 (by kernel_rfl) rfl #[.agg cs, .bool wit] (by rfl) rfl rfl (by simp only [List.map_toArray, List.map_cons, List.map_nil]; rfl) ?_
      with_reducible refine (HS.out HLL.out _ (below_step (below_alloc (Below.refl _ _) _) HBX.out)).mono ?_
      rintro e w4 ⟨v, rfl, hO⟩
      refine ⟨_, rfl, ?_⟩
      obtain ⟨B2, d2, rfl, hl, hC⟩ := Kd.R_reads hO.1
      have hB := hO.2
      have C2 := Lib.hid hC; have M2 := Lib.hid hl; have C1_ := Lib.hid (Kd.C_below C1.out hB); clear hC hl hO C1
      have n0_ := Lib.hid (below_step HBX.out hB); clear HBX hB; have HBX := n0_; clear n0_
      refine hK.out _ _ (box_lies HBX.out) (fun hHeld => ?_)
      clear hK K
      refine norm_ (a' := ?_) ?_ ?_
      rotate_left
      · show Act.put _ (some 16) _ = _
        simp only [Act.put, List.setIfInBounds_toArray, List.set_cons_zero, List.set_cons_succ, i64_w, i32_w]
        rfl
      refine one_ (i := 6) (N := some 17) #[true, true, true, true, true, true, true, false] rfl rfl (by kernel_rfl) (by decide) (fun K hK => ?_)
      refine goes_ Try.func7 (by kernel_rfl) rfl #[.slice B1 d.length d1, .slice B2 d.length d2] (by rfl) rfl rfl (by simp only [List.map_toArray, List.map_cons, List.map_nil]; rfl) ?_
      with_reducible refine (PFnBlockBytes.laws_same.calls (d.length + 1) B1 d1 d B2 d2 d true _ C1_.out M1.out C2.out M2.out (same_eq d (by have := HDL.out; have := HLL.out; omega))).mono ?_
      rintro e w5 ⟨rfl, hD⟩
      refine ⟨_, rfl, ?_⟩
      obtain ⟨m_, rfl⟩ := hD.out; have hB := pw_below_drewN (Below.refl w4.heap.size w4) m_
      have n0_ := Lib.hid (below_step HBX.out hB); clear HBX hB; have HBX := n0_; clear n0_
      refine hK.out _ _ (box_lies HBX.out) (fun hHeld => ?_)
      clear hK K
      refine norm_ (a' := ?_) ?_ ?_
      rotate_left
      · show Act.put _ (some 17) _ = _
        simp only [Act.put, List.setIfInBounds_toArray, List.set_cons_zero, List.set_cons_succ, i64_w, i32_w]
        rfl
      refine pure_ (i := 7) (N := some 4) (v := ?_) (a' := ?_) #[true, true, true, true, true, true, true, true] rfl rfl (by kernel_rfl) (fun _ _ _ h => h) (Or.inl ⟨by rfl, ?_⟩) ?_ ?_
      rotate_left
      · intro w'
        go_simp
        with_reducible rfl
      rotate_left
      · simp only [Act.put, List.setIfInBounds_toArray, List.set_cons_zero, List.set_cons_succ, i64_w, i32_w]
        rfl
      refine done_ (by kernel_rfl) ?_
      go_wp2
      go_ret
      exact ⟨rfl, below_step (below_alloc (Below.refl _ _) _) HBX.out⟩
theorem row_walk (cs : Array Value) (x : TX) (wit : Bool) (w : World) (h : kTX.K w x cs.toList ∧ GoodTX x) :
    Calls Try.prog 3 #[.agg cs, .bool wit] w fun e w' => e = .returned (.bool true) ∧ Below w.heap.size w w' := by
  obtain ⟨A1, c1, A2, c2, rfl, hT⟩ := kTX_open h.1
  exact law_walk x wit A1 c1 A2 c2 w hT h.2
end Go.Proofs.Ytdjchplaeipgpaa.Wire
