/-
  The law of BlockBytes: its walk over the functions' contracts; a block as an argument.
  A block as an argument: its kind, what opens it; the row's walk.
-/
import Derived.Test.YtdjchplaeipgpaaBkD
import Derived.Test.YtdjchplaeipgpaaTxBytesLaw
namespace Go.Proofs.Ytdjchplaeipgpaa.Wire
open Go.RowKit Go.Proofs.YtdjchplaeipgpaaW.PrintWords Go.Proofs.YtdjchplaeipgpaaW.PrintLast Go.Proofs.Ytdjchplaeipgpaa.Reg Go.Proofs.Ytdjchplaeipgpaa.Tx
set_option linter.unusedSimpArgs false
set_option linter.unusedVariables false

theorem sum_le {α : Type} (g f : α → Nat) (c : Nat) : ∀ (xs : List α), (∀ y ∈ xs, g y ≤ c * f y) → (xs.map g).sum ≤ c * (xs.map f).sum
  | [], _ => by simp
  | y :: xs, h => by
    have h1 := h y List.mem_cons_self
    have h2 := sum_le g f c xs (fun z hz => h z (List.mem_cons_of_mem _ hz))
    simp only [List.map_cons, List.sum_cons, Nat.mul_add]
    omega
theorem bk_hash {w : World} {k : BK} {A : Option Addr} {c : Nat} (h : BkIn w k A c) : ∀ x ∈ k.txs, ∀ y ∈ x.ins, y.h.length = 32 := by
  intro x hx
  obtain ⟨i, hi, rfl⟩ := List.getElem_of_mem hx
  obtain ⟨_, _, _, _, _, _, _, _, _, _, hT, _⟩ := tx_step h.g (i : Int) (by omega) (by omega)
  have e : rdX k.txs (i : Int) = k.txs[i] := by rw [rdX, List.getD_eq_getElem?_getD, Int.toNat_natCast, List.getElem?_eq_getElem hi]; rfl
  rw [e] at hT
  exact hash_len hT
def GoodBK (k : BK) : Prop := ((Lit.int .i32 k.h.v).wf = true ∧ (∀ y ∈ k.h.p, (Lit.int .u8 y).wf = true) ∧ (∀ y ∈ k.h.r, (Lit.int .u8 y).wf = true) ∧ (Lit.int .u32 k.h.t).wf = true ∧ (Lit.int .u32 k.h.b).wf = true ∧ (Lit.int .u32 k.h.n).wf = true) ∧ ∀ x ∈ k.txs, GoodTX x
theorem okB_of {w : World} {k : BK} {A : Option Addr} {c : Nat} (h : BkIn w k A c) (hG : GoodBK k) (hf : fit9 k.txs = true) (hs : bkSz k ≤ 100000) : OkB k := by
  simp only [fit9, Bool.and_eq_true, decide_eq_true_eq, List.all_eq_true] at hf
  have hN : ∀ x ∈ k.txs, txN x ≤ 2 * txSz x := fun x hx => txN_le x (bk_hash h x hx)
  have hS : (k.txs.map txSz).sum ≤ 100000 := by unfold bkSz at hs; omega
  refine ⟨hf.1, fun y hy => ⟨hf.2 y hy, nums_of (hG.2 y hy) (hf.2 y hy), ?_⟩, ⟨u32_in hG.1.2.2.2.1, u32_in hG.1.2.2.2.2.1, u32_in hG.1.2.2.2.2.2⟩, fun wit => ?_⟩
  · have := mem_sum txSz k.txs y hy
    have := hN y hy
    omega
  · have h1 := sum_le txN txSz 2 k.txs hN
    have h2 := flat_le (fun x => txB x (wit && hasW x.ins)) (fun x => 9 * txSz x) k.txs (fun x hx => by
      have := txB_len x (wit && hasW x.ins)
      have := hN x hx
      have : 10 ≤ txSz x := by unfold txSz; omega
      omega)
    have h3 := sum_le (fun x => 9 * txSz x) txSz 9 k.txs (fun x _ => Nat.le_refl _)
    change (k.txs.map (fun x => txB x (wit && hasW x.ins))).flatten.length + _ + _ ≤ _
    omega
set_option maxHeartbeats 8000000 in
set_option maxRecDepth 100000 in
theorem bk_walk (k : BK) (wit : Bool) (A : Option Addr) (c : Nat) (w : World) (h : BkIn w k A c) (hG : GoodBK k) :
    Calls Try.prog 4 #[.agg (bkc k A c).toArray, .bool wit] w fun e w' => e = .returned (.bool true) ∧ Below w.heap.size w w' := by
  obtain ⟨cs, hcs⟩ : ∃ cs, (bkc k A c).toArray = cs := ⟨_, rfl⟩
  have HZ := Lib.hid (show cs.size = 69 from by rw [← hcs]; simpa using bkc_len k A c h.lp h.lr)
  obtain ⟨f, hf⟩ : ∃ f, fit9 k.txs = f := ⟨_, rfl⟩
  have HF2 := Lib.hid (show ∀ W, Below w.heap.size w W → Calls Try.prog 10 #[.agg cs] W fun e w' => e = .returned (.bool f) ∧ Below W.heap.size W w' from fun W hW => hcs ▸ hf ▸ fit8_calls k A c W (h.below hW))
  cases f
  · rw [hcs]
    clear hcs h hf hG
    go_enter Try.func4, Try.ntmps4
    go_wp2_with (first | (refine wpList_load_list rfl 38 (.tmp 2) rfl ⟨w.heap.size, 0, none⟩ rfl cs.toList _ (box_lies (Below.refl _ _)) Try.underlying38 rfl ?aI ?_; go_must (case aI => rw [Array.length_toList, HZ.out]; rfl); go_must (simp only [Array.toArray_toList])) | (go_at_call 10; refine (HF2.out _ (below_alloc (Below.refl _ _) _)).mono ?_; rintro e w1 ⟨rfl, hB⟩; have HB := Lib.hid (below_step (below_alloc (Below.refl _ _) _) hB); clear hB))
    go_ret
    exact ⟨rfl, HB.out⟩
  · have HSZ := Lib.hid (show ∀ W, Below w.heap.size w W → Calls Try.prog 11 #[.agg cs] W fun e w' => (∃ n, e = .returned (.int .i64 n) ∧ (n ≤ 100000 → (bkSz k : Int) ≤ n)) ∧ Below W.heap.size W w' from fun W hW => hcs ▸ bsize_calls k A c W (h.below hW) hf)
    have HN := Lib.hid (show ∀ n : Int, (n ≤ 100000 → (bkSz k : Int) ≤ n) → n ≤ 100000 → OkB k from fun n h1 h2 => okB_of h hG hf (by have := h1 h2; omega))
    obtain ⟨d, hd⟩ : ∃ d, bkB k wit = d := ⟨_, rfl⟩
    obtain ⟨dF, hdF⟩ : ∃ d, bkB k false = d := ⟨_, rfl⟩
    obtain ⟨dT, hdT⟩ : ∃ d, bkB k true = d := ⟨_, rfl⟩
    have HDL := Lib.hid (show OkB k → d.length ≤ 140737488355328 from fun ok => by
      rw [← hd, bkB_len k wit h.lp h.lr]
      have := vi_len k.txs.length
      have := ok.lim wit
      omega)
    have HI := Lib.hid (show OkB k → ∀ W, Below w.heap.size w W → Calls Try.prog 13 #[.agg cs, .bool wit] W fun e w' => ∃ A c, e = .returned (.slice A d.length c) ∧ d.length ≤ c ∧ Kd.C (Kd.int .u8) w' A d.length d ∧ Below W.heap.size W w' from fun ok W hW => hcs ▸ hd ▸ implBk_calls k wit A c W (h.below hW) hf ok)
    have HS := Lib.hid (show OkB k → ∀ W, Below w.heap.size w W → Calls Try.prog 14 #[.agg cs, .bool wit] W fun e w' => ∃ v, e = .returned v ∧ Own W w' v d from fun ok W hW => hcs ▸ hd ▸ specBk_calls k wit A c W (h.below hW) ok)
    have HSF := Lib.hid (show OkB k → ∀ W, Below w.heap.size w W → Calls Try.prog 14 #[.agg cs, .bool false] W fun e w' => ∃ v, e = .returned v ∧ Own W w' v dF from fun ok W hW => hcs ▸ hdF ▸ specBk_calls k false A c W (h.below hW) ok)
    have HST := Lib.hid (show OkB k → ∀ W, Below w.heap.size w W → Calls Try.prog 14 #[.agg cs, .bool true] W fun e w' => ∃ v, e = .returned v ∧ Own W w' v dT from fun ok W hW => hcs ▸ hdT ▸ specBk_calls k true A c W (h.below hW) ok)
    have HBS := Lib.hid (show OkB k → ∀ W, Below w.heap.size w W → Calls Try.prog 12 #[.agg cs] W fun e w' => e = .returned (.tuple #[.int .i64 (dF.length : Int), .int .i64 (dT.length : Int)]) ∧ Below W.heap.size W w' from fun ok W hW => hcs ▸ hdF ▸ hdT ▸ sizes_calls k A c W (h.below hW) hf ok)
    rw [hcs]
    clear hcs h hf hd hdF hdT hG
    go_enter Try.func4, Try.ntmps4
    go_wp2_with (first
      | (refine wpList_load_list rfl 38 (.tmp 2) rfl ⟨w.heap.size, 0, none⟩ rfl cs.toList _ (box_lies (by first | exact HBX.out | exact Below.refl _ _)) Try.underlying38 rfl ?aI ?_; go_must (case aI => rw [Array.length_toList, HZ.out]; rfl); go_must (simp only [Array.toArray_toList]))
      | (go_at_call 10; refine (HF2.out _ (below_alloc (Below.refl _ _) _)).mono ?_; rintro e w1 ⟨rfl, hB⟩; have HBX := Lib.hid hB; clear hB)
      | (go_at_call 11; refine (HSZ.out _ (below_step (below_alloc (Below.refl _ _) _) HBX.out)).mono ?_; rintro e w2 ⟨⟨n, rfl, hn⟩, hB⟩; have HNN := Lib.hid hn; have n0_ := Lib.hid (below_step HBX.out hB); clear HBX hB hn; have HBX := n0_; clear n0_)
      | (go_at_call 12; have hnn : n ≤ 100000 := (by first | omega | (simp at *; omega)); have HLL := Lib.hid (HN.out n HNN.out hnn); clear hnn; refine (HBS.out HLL.out _ (below_step (below_alloc (Below.refl _ _) _) HBX.out)).mono ?_; rintro e w3 ⟨rfl, hB⟩; have n0_ := Lib.hid (below_step HBX.out hB); clear HBX hB; have HBX := n0_; clear n0_))
    · go_ret
      exact ⟨rfl, below_step (below_alloc (Below.refl _ _) _) HBX.out⟩
    · have n0_ := Lib.hid (below_drew HBX.out); clear HBX; have HBX := n0_; clear n0_
      refine start_ (n := 22) (S := fun w' => Lies w' ⟨w.heap.size, 0, none⟩ cs.toList) (ds := []) #[false, false, false, false, false, false, false, false, false, false, false, false, false, false, false, false, false, false, false, false, false, false] (by kernel_rfl) rfl rfl (box_lies HBX.out) (fun hHeld => ?_)
      refine pure_ (i := 1) (N := some 19) (v := ?_) (a' := ?_) #[false, true, false, false, false, false, false, false, false, false, false, false, false, false, false, false, false, false, false, false, false, false] rfl rfl (by kernel_rfl) (fun _ _ _ h => h) (Or.inl ⟨by rfl, ?_⟩) ?_ ?_
      rotate_left
      · intro w'
        go_simp
        with_reducible rfl
      rotate_left
      · simp only [Act.put, List.setIfInBounds_toArray, List.set_cons_zero, List.set_cons_succ, i64_w, i32_w]
        rfl
      refine pure_ (i := 4) (N := some 22) (v := ?_) (a' := ?_) #[false, true, false, false, true, false, false, false, false, false, false, false, false, false, false, false, false, false, false, false, false, false] rfl rfl (by kernel_rfl) (fun _ _ _ h => h) (Or.inl ⟨by rfl, ?_⟩) ?_ ?_
      rotate_left
      · intro w'
        go_simp
        with_reducible rfl
      rotate_left
      · simp only [Act.put, List.setIfInBounds_toArray, List.set_cons_zero, List.set_cons_succ, i64_w, i32_w]
        rfl
      refine take_ (i := 0) (N := some 18) (v := ?_) (a' := ?_) #[true, true, false, false, true, false, false, false, false, false, false, false, false, false, false, false, false, false, false, false, false, false] rfl rfl (by kernel_rfl) (fun _ _ _ h => h) (Or.inl ⟨by rfl, ?_⟩) hHeld ?_ ?_
      rotate_left
      · intro w' s0
        refine (exec_load_list 38 (.tmp 2) (by rfl) ⟨w.heap.size, 0, none⟩ (by rfl) cs.toList _ s0 Try.underlying38 rfl (by rw [Array.length_toList, HZ.out]; rfl)).trans ?_
        with_reducible rfl
      rotate_left
      · simp only [Act.put, List.setIfInBounds_toArray, List.set_cons_zero, List.set_cons_succ, i64_w, i32_w]
        rfl
      refine take_ (i := 3) (N := some 21) (v := ?_) (a' := ?_) #[true, true, false, true, true, false, false, false, false, false, false, false, false, false, false, false, false, false, false, false, false, false] rfl rfl (by kernel_rfl) (fun _ _ _ h => h) (Or.inl ⟨by rfl, ?_⟩) hHeld ?_ ?_
      rotate_left
      · intro w' s0
        refine (exec_load_list 38 (.tmp 2) (by rfl) ⟨w.heap.size, 0, none⟩ (by rfl) cs.toList _ s0 Try.underlying38 rfl (by rw [Array.length_toList, HZ.out]; rfl)).trans ?_
        with_reducible rfl
      rotate_left
      · simp only [Act.put, List.setIfInBounds_toArray, List.set_cons_zero, List.set_cons_succ, i64_w, i32_w]
        rfl
      refine one_ (i := 2) (N := some 20) #[true, true, true, true, true, false, false, false, false, false, false, false, false, false, false, false, false, false, false, false, false, false] rfl rfl (by kernel_rfl) (by decide) (fun K hK => ?_)
      refine goes_ Try.func13 (by kernel_rfl) rfl #[.agg cs, .bool wit] (by rfl) rfl rfl (by simp only [List.map_toArray, List.map_cons, List.map_nil]; rfl) ?_
      with_reducible refine (HI.out HLL.out _ (below_step (below_alloc (Below.refl _ _) _) HBX.out)).mono ?_
      rintro e w4 ⟨B1, d1, rfl, hl, hC, hB⟩
      refine ⟨_, rfl, ?_⟩
      have C1 := Lib.hid hC; have M1 := Lib.hid hl; clear hC hl
      have n0_ := Lib.hid (below_step HBX.out hB); clear HBX hB; have HBX := n0_; clear n0_
      refine hK.out _ _ (box_lies HBX.out) (fun hHeld => ?_)
      clear hK K
      refine norm_ (a' := ?_) ?_ ?_
      rotate_left
      · show Act.put _ (some 20) _ = _
        simp only [Act.put, List.setIfInBounds_toArray, List.set_cons_zero, List.set_cons_succ, i64_w, i32_w]
        rfl
      refine one_ (i := 5) (N := some 23) #[true, true, true, true, true, true, false, false, false, false, false, false, false, false, false, false, false, false, false, false, false, false] rfl rfl (by kernel_rfl) (by decide) (fun K hK => ?_)
      refine goes_ Try.func14 (by kernel_rfl) rfl #[.agg cs, .bool wit] (by rfl) rfl rfl (by simp only [List.map_toArray, List.map_cons, List.map_nil]; rfl) ?_
      with_reducible refine (HS.out HLL.out _ (below_step (below_alloc (Below.refl _ _) _) HBX.out)).mono ?_
      rintro e w5 ⟨v, rfl, hO⟩
      refine ⟨_, rfl, ?_⟩
      obtain ⟨B2, d2, rfl, hl, hC⟩ := Kd.R_reads hO.1
      have hB := hO.2
      have C2 := Lib.hid hC; have M2 := Lib.hid hl; have C1_ := Lib.hid (Kd.C_below C1.out hB); clear hC hl hO C1
      have n0_ := Lib.hid (below_step HBX.out hB); clear HBX hB; have HBX := n0_; clear n0_
      refine hK.out _ _ (box_lies HBX.out) (fun hHeld => ?_)
      clear hK K
      refine norm_ (a' := ?_) ?_ ?_
      rotate_left
      · show Act.put _ (some 23) _ = _
        simp only [Act.put, List.setIfInBounds_toArray, List.set_cons_zero, List.set_cons_succ, i64_w, i32_w]
        rfl
      refine one_ (i := 6) (N := some 24) #[true, true, true, true, true, true, true, false, false, false, false, false, false, false, false, false, false, false, false, false, false, false] rfl rfl (by kernel_rfl) (by decide) (fun K hK => ?_)
      refine goes_ Try.func7 (by kernel_rfl) rfl #[.slice B1 d.length d1, .slice B2 d.length d2] (by rfl) rfl rfl (by simp only [List.map_toArray, List.map_cons, List.map_nil]; rfl) ?_
      with_reducible refine (PFnBlockBytes.laws_same.calls (d.length + 1) B1 d1 d B2 d2 d true _ C1_.out M1.out C2.out M2.out (same_eq d (by have := HDL.out HLL.out; omega))).mono ?_
      rintro e w5_ ⟨rfl, hD⟩
      refine ⟨_, rfl, ?_⟩
      obtain ⟨m_, rfl⟩ := hD.out; have hB := pw_below_drewN (Below.refl w5.heap.size w5) m_
      have n0_ := Lib.hid (below_step HBX.out hB); clear HBX hB; have HBX := n0_; clear n0_
      refine hK.out _ _ (box_lies HBX.out) (fun hHeld => ?_)
      clear hK K
      refine norm_ (a' := ?_) ?_ ?_
      rotate_left
      · show Act.put _ (some 24) _ = _
        simp only [Act.put, List.setIfInBounds_toArray, List.set_cons_zero, List.set_cons_succ, i64_w, i32_w]
        rfl
      refine pure_ (i := 7) (N := some 25) (v := ?_) (a' := ?_) #[true, true, true, true, true, true, true, true, false, false, false, false, false, false, false, false, false, false, false, false, false, false] rfl rfl (by kernel_rfl) (fun _ _ _ h => h) (Or.inl ⟨by rfl, ?_⟩) ?_ ?_
      rotate_left
      · intro w'
        go_simp
        with_reducible rfl
      rotate_left
      · simp only [Act.put, List.setIfInBounds_toArray, List.set_cons_zero, List.set_cons_succ, i64_w, i32_w]
        rfl
      refine pure_ (i := 8) (N := some 26) (v := ?_) (a' := ?_) #[true, true, true, true, true, true, true, true, true, false, false, false, false, false, false, false, false, false, false, false, false, false] rfl rfl (by kernel_rfl) (fun _ _ _ h => h) (Or.inl ⟨by rfl, ?_⟩) ?_ ?_
      rotate_left
      · intro w'
        go_simp
        with_reducible rfl
      rotate_left
      · simp only [Act.put, List.setIfInBounds_toArray, List.set_cons_zero, List.set_cons_succ, i64_w, i32_w]
        rfl
      refine take_ (i := 9) (N := some 27) (v := ?_) (a' := ?_) #[true, true, true, true, true, true, true, true, true, true, false, false, false, false, false, false, false, false, false, false, false, false] rfl rfl (by kernel_rfl) (fun _ _ _ h => h) (Or.inl ⟨by rfl, ?_⟩) hHeld ?_ ?_
      rotate_left
      · intro w' s0
        refine (exec_load_list 38 (.tmp 2) (by rfl) ⟨w.heap.size, 0, none⟩ (by rfl) cs.toList _ s0 Try.underlying38 rfl (by rw [Array.length_toList, HZ.out]; rfl)).trans ?_
        with_reducible rfl
      rotate_left
      · simp only [Act.put, List.setIfInBounds_toArray, List.set_cons_zero, List.set_cons_succ, i64_w, i32_w]
        rfl
      refine one_ (i := 10) (N := some 28) #[true, true, true, true, true, true, true, true, true, true, true, false, false, false, false, false, false, false, false, false, false, false] rfl rfl (by kernel_rfl) (by decide) (fun K hK => ?_)
      refine goes_ Try.func14 (by kernel_rfl) rfl #[.agg cs, .bool false] (by rfl) rfl rfl (by simp only [List.map_toArray, List.map_cons, List.map_nil]; rfl) ?_
      with_reducible refine (HSF.out HLL.out _ (below_step (below_alloc (Below.refl _ _) _) HBX.out)).mono ?_
      rintro e w6 ⟨v6, rfl, hO⟩
      refine ⟨_, rfl, ?_⟩
      obtain ⟨B6, d6, rfl, hl, hC⟩ := Kd.R_reads hO.1
      have hB := hO.2
      clear hC hl hO
      have n0_ := Lib.hid (below_step HBX.out hB); clear HBX hB; have HBX := n0_; clear n0_
      refine hK.out _ _ (box_lies HBX.out) (fun hHeld => ?_)
      clear hK K
      refine norm_ (a' := ?_) ?_ ?_
      rotate_left
      · show Act.put _ (some 28) _ = _
        simp only [Act.put, List.setIfInBounds_toArray, List.set_cons_zero, List.set_cons_succ, i64_w, i32_w]
        rfl
      refine pure_ (i := 11) (N := some 29) (v := ?_) (a' := ?_) #[true, true, true, true, true, true, true, true, true, true, true, true, false, false, false, false, false, false, false, false, false, false] rfl rfl (by kernel_rfl) (fun _ _ _ h => h) (Or.inl ⟨by rfl, ?_⟩) ?_ ?_
      rotate_left
      · intro w'
        go_simp
        with_reducible rfl
      rotate_left
      · simp only [Act.put, List.setIfInBounds_toArray, List.set_cons_zero, List.set_cons_succ, i64_w, i32_w]
        rfl
      refine pure_ (i := 12) (N := some 30) (v := ?_) (a' := ?_) #[true, true, true, true, true, true, true, true, true, true, true, true, true, false, false, false, false, false, false, false, false, false] rfl rfl (by kernel_rfl) (fun _ _ _ h => h) (Or.inl ⟨by rfl, ?_⟩) ?_ ?_
      rotate_left
      · intro w'
        go_simp
        with_reducible rfl
      rotate_left
      · simp only [Act.put, List.setIfInBounds_toArray, List.set_cons_zero, List.set_cons_succ, i64_w, i32_w]
        rfl
      refine pure_ (i := 13) (N := some 31) (v := ?_) (a' := ?_) #[true, true, true, true, true, true, true, true, true, true, true, true, true, true, false, false, false, false, false, false, false, false] rfl rfl (by kernel_rfl) (fun _ _ _ h => h) (Or.inl ⟨by rfl, ?_⟩) ?_ ?_
      rotate_left
      · intro w'
        go_simp
        with_reducible rfl
      rotate_left
      · simp only [Act.put, List.setIfInBounds_toArray, List.set_cons_zero, List.set_cons_succ, i64_w, i32_w]
        rfl
      refine pure_ (i := 14) (N := some 32) (v := ?_) (a' := ?_) #[true, true, true, true, true, true, true, true, true, true, true, true, true, true, true, false, false, false, false, false, false, false] rfl rfl (by kernel_rfl) (fun _ _ _ h => h) (Or.inl ⟨by rfl, ?_⟩) ?_ ?_
      rotate_left
      · intro w'
        go_simp
        with_reducible rfl
      rotate_left
      · simp only [Act.put, List.setIfInBounds_toArray, List.set_cons_zero, List.set_cons_succ, i64_w, i32_w]
        rfl
      refine pure_ (i := 15) (N := some 33) (v := ?_) (a' := ?_) #[true, true, true, true, true, true, true, true, true, true, true, true, true, true, true, true, false, false, false, false, false, false] rfl rfl (by kernel_rfl) (fun _ _ _ h => h) (Or.inl ⟨by rfl, ?_⟩) ?_ ?_
      rotate_left
      · intro w'
        go_simp
        with_reducible rfl
      rotate_left
      · simp only [Act.put, List.setIfInBounds_toArray, List.set_cons_zero, List.set_cons_succ, i64_w, i32_w]
        rfl
      refine take_ (i := 16) (N := some 34) (v := ?_) (a' := ?_) #[true, true, true, true, true, true, true, true, true, true, true, true, true, true, true, true, true, false, false, false, false, false] rfl rfl (by kernel_rfl) (fun _ _ _ h => h) (Or.inl ⟨by rfl, ?_⟩) hHeld ?_ ?_
      rotate_left
      · intro w' s0
        refine (exec_load_list 38 (.tmp 2) (by rfl) ⟨w.heap.size, 0, none⟩ (by rfl) cs.toList _ s0 Try.underlying38 rfl (by rw [Array.length_toList, HZ.out]; rfl)).trans ?_
        with_reducible rfl
      rotate_left
      · simp only [Act.put, List.setIfInBounds_toArray, List.set_cons_zero, List.set_cons_succ, i64_w, i32_w]
        rfl
      refine one_ (i := 17) (N := some 35) #[true, true, true, true, true, true, true, true, true, true, true, true, true, true, true, true, true, true, false, false, false, false] rfl rfl (by kernel_rfl) (by decide) (fun K hK => ?_)
      refine goes_ Try.func14 (by kernel_rfl) rfl #[.agg cs, .bool true] (by rfl) rfl rfl (by simp only [List.map_toArray, List.map_cons, List.map_nil]; rfl) ?_
      with_reducible refine (HST.out HLL.out _ (below_step (below_alloc (Below.refl _ _) _) HBX.out)).mono ?_
      rintro e w6 ⟨v6, rfl, hO⟩
      refine ⟨_, rfl, ?_⟩
      obtain ⟨B6, d6, rfl, hl, hC⟩ := Kd.R_reads hO.1
      have hB := hO.2
      clear hC hl hO
      have n0_ := Lib.hid (below_step HBX.out hB); clear HBX hB; have HBX := n0_; clear n0_
      refine hK.out _ _ (box_lies HBX.out) (fun hHeld => ?_)
      clear hK K
      refine norm_ (a' := ?_) ?_ ?_
      rotate_left
      · show Act.put _ (some 35) _ = _
        simp only [Act.put, List.setIfInBounds_toArray, List.set_cons_zero, List.set_cons_succ, i64_w, i32_w]
        rfl
      refine pure_ (i := 18) (N := some 36) (v := ?_) (a' := ?_) #[true, true, true, true, true, true, true, true, true, true, true, true, true, true, true, true, true, true, true, false, false, false] rfl rfl (by kernel_rfl) (fun _ _ _ h => h) (Or.inl ⟨by rfl, ?_⟩) ?_ ?_
      rotate_left
      · intro w'
        go_simp
        with_reducible rfl
      rotate_left
      · simp only [Act.put, List.setIfInBounds_toArray, List.set_cons_zero, List.set_cons_succ, i64_w, i32_w]
        rfl
      refine pure_ (i := 19) (N := some 37) (v := ?_) (a' := ?_) #[true, true, true, true, true, true, true, true, true, true, true, true, true, true, true, true, true, true, true, true, false, false] rfl rfl (by kernel_rfl) (fun _ _ _ h => h) (Or.inl ⟨by rfl, ?_⟩) ?_ ?_
      rotate_left
      · intro w'
        go_simp
        with_reducible rfl
      rotate_left
      · simp only [Act.put, List.setIfInBounds_toArray, List.set_cons_zero, List.set_cons_succ, i64_w, i32_w]
        rfl
      refine pure_ (i := 20) (N := some 38) (v := ?_) (a' := ?_) #[true, true, true, true, true, true, true, true, true, true, true, true, true, true, true, true, true, true, true, true, true, false] rfl rfl (by kernel_rfl) (fun _ _ _ h => h) (Or.inl ⟨by rfl, ?_⟩) ?_ ?_
      rotate_left
      · intro w'
        go_simp
        with_reducible rfl
      rotate_left
      · simp only [Act.put, List.setIfInBounds_toArray, List.set_cons_zero, List.set_cons_succ, i64_w, i32_w]
        rfl
      refine pure_ (i := 21) (N := some 4) (v := ?_) (a' := ?_) #[true, true, true, true, true, true, true, true, true, true, true, true, true, true, true, true, true, true, true, true, true, true] rfl rfl (by kernel_rfl) (fun _ _ _ h => h) (Or.inl ⟨by rfl, ?_⟩) ?_ ?_
      rotate_left
      · intro w'
        go_simp
        with_reducible rfl
      rotate_left
      · simp only [Act.put, List.setIfInBounds_toArray, List.set_cons_zero, List.set_cons_succ, i64_w, i32_w]
        rfl
      refine done_ (by kernel_rfl) ?_
      go_wp2
      go_ret
      exact ⟨by first | rfl | (simp; done), below_step (below_alloc (Below.refl _ _) _) HBX.out⟩
end Go.Proofs.Ytdjchplaeipgpaa.Wire
namespace Go.Proofs.Ytdjchplaeipgpaa.Wire
open Go.RowKit Go.Proofs.YtdjchplaeipgpaaW.PrintWords Go.Proofs.YtdjchplaeipgpaaW.PrintLast Go.Proofs.Ytdjchplaeipgpaa.Reg Go.Proofs.Ytdjchplaeipgpaa.Tx
set_option linter.unusedSimpArgs false
set_option linter.unusedVariables false
set_option maxRecDepth 100000

def kHD : Kd HD := Kd.iso (Kd.pair (Kd.int .i32) (Kd.pair (Kd.arr 32 (Kd.int .u8) (by decide)) (Kd.pair (Kd.arr 32 (Kd.int .u8) (by decide)) (Kd.pair (Kd.int .u32) (Kd.pair (Kd.int .u32) (Kd.int .u32)))))) (fun h : HD => (h.v, h.p, h.r, h.t, h.b, h.n))
def kBK : Kd BK := Kd.iso (Kd.pair kHD (Kd.slice 26 kTX)) (fun k : BK => (k.h, k.txs))
theorem opens_hash : Open.Opens Try.prog 33 (Kd.arr 32 (Kd.int .u8) (by decide)) (fun xs => ∀ x ∈ xs, (Lit.int .u8 x).wf = true) :=
  Open.opens_array (Open.opens_int Try.underlying5 (by kernel_rfl)) Try.underlying33 (by kernel_rfl)
theorem opens_u32 : Open.Opens Try.prog 24 (Kd.int .u32) (fun n => (Lit.int .u32 n).wf = true) := Open.opens_int Try.underlying24 (by kernel_rfl)
def GoodHD (h : HD) : Prop := (Lit.int .i32 h.v).wf = true ∧ (∀ y ∈ h.p, (Lit.int .u8 y).wf = true) ∧ (∀ y ∈ h.r, (Lit.int .u8 y).wf = true) ∧ (Lit.int .u32 h.t).wf = true ∧ (Lit.int .u32 h.b).wf = true ∧ (Lit.int .u32 h.n).wf = true
theorem opens_hd : Open.Opens Try.prog 35 kHD GoodHD := by
  have h0 := Open.opens_struct (f := fun h : HD => (h.v, h.p, h.r, h.t, h.b, h.n)) (g := fun y => (⟨y.1, y.2.1, y.2.2.1, y.2.2.2.1, y.2.2.2.2.1, y.2.2.2.2.2⟩ : HD)) (fun _ => rfl)
    (Open.opensF_cons (Open.opens_int Try.underlying21 (by kernel_rfl)) rfl (Open.opensF_cons opens_hash rfl (Open.opensF_cons opens_hash rfl (Open.opensF_cons opens_u32 rfl (Open.opensF_cons opens_u32 rfl (Open.opensF_one opens_u32 rfl)))))) Try.underlying35 (by kernel_rfl)
  exact Open.opens_imp h0 (fun _ h => h)
theorem opens_bk : Open.Opens Try.prog 38 kBK GoodBK := by
  have h0 := Open.opens_struct (f := fun k : BK => (k.h, k.txs)) (g := fun y => (⟨y.1, y.2⟩ : BK)) (fun _ => rfl)
    (Open.opensF_cons opens_hd rfl (Open.opensF_one (Open.opens_slice opens_tx Try.underlying36 (by kernel_rfl)) rfl)) Try.underlying38 (by kernel_rfl)
  exact Open.opens_imp h0 (fun _ h => h)
theorem kBK_open {w : World} {k : BK} {cs : Array Value} (h : kBK.K w k cs.toList) : ∃ A c, cs = (bkc k A c).toArray ∧ BkIn w k A c := by
  obtain ⟨c0, r0, e, ⟨_, _, rfl, rfl, c1, _, rfl, h1, c2, _, rfl, h2, _, _, rfl, rfl, _, _, rfl, rfl, rfl⟩, A, c, rfl, l, g⟩ := h
  obtain ⟨l1, rfl⟩ := Kd.arr_cells h1
  obtain ⟨l2, rfl⟩ := Kd.arr_cells h2
  refine ⟨A, c, ?_, l1, l2, l, g⟩
  rw [← Array.toArray_toList (xs := cs), e]
  simp [bkc, hdc, hv, encs]
theorem bk_row (cs : Array Value) (k : BK) (wit : Bool) (w : World) (h : kBK.K w k cs.toList ∧ GoodBK k) :
    Calls Try.prog 4 #[.agg cs, .bool wit] w fun e w' => e = .returned (.bool true) ∧ Below w.heap.size w w' := by
  obtain ⟨A, c, rfl, hB⟩ := kBK_open h.1
  exact bk_walk k wit A c w hB h.2
end Go.Proofs.Ytdjchplaeipgpaa.Wire
