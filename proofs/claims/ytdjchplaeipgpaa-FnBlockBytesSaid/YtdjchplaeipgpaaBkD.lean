/-
  Sizes: of inputs, outputs, witnesses, transactions, blocks.
  Sizes of transactions and of blocks; impl.BlockSizes.
  Sizes of transactions with witnesses, and of blocks; impl.BlockSizes.
-/
import Derived.Test.YtdjchplaeipgpaaBkB
import Derived.Test.YtdjchplaeipgpaaBkC
namespace Go.Proofs.Ytdjchplaeipgpaa.Wire
open Go.RowKit Go.Proofs.YtdjchplaeipgpaaW.PrintWords Go.Proofs.YtdjchplaeipgpaaW.PrintLast Go.Proofs.Ytdjchplaeipgpaa.Reg Go.Proofs.Ytdjchplaeipgpaa.Buf Go.Proofs.Ytdjchplaeipgpaa.Tx
set_option linter.unusedSimpArgs false
set_option linter.unusedVariables false

theorem vs_eq (x : Int) : PFnBlockBytes.btcdwire_VarIntSerializeSize.f x = some ((vi x).length : Int) := by
  unfold PFnBlockBytes.btcdwire_VarIntSerializeSize.f vi
  by_cases c1 : x < 253
  · rw [if_pos c1, if_pos c1]; rfl
  · rw [if_neg c1, if_neg c1]
    by_cases c2 : x ≤ 65535
    · rw [if_pos c2, if_pos c2]; rfl
    · rw [if_neg c2, if_neg c2]
      by_cases c3 : x ≤ 4294967295
      · rw [if_pos c3, if_pos c3]; rfl
      · rw [if_neg c3, if_neg c3]; rfl
theorem vs_calls (x : Int) (w : World) : Calls Try.prog 44 #[.int .u64 x] w fun e w' => e = .returned (.int .i64 ((vi x).length : Int)) ∧ Below w.heap.size w w' :=
  (PFnBlockBytes.btcdwire_VarIntSerializeSize.calls x _ w (vs_eq x)).mono fun e w' ⟨h1, h2⟩ => ⟨h1, by obtain ⟨m, rfl⟩ := h2.out; exact pw_below_drewN (Below.refl _ _) m⟩
theorem witsz_loop (ws : List (List Int)) (a0 : Nat) (hl : a0 + (ws.map vb).flatten.length + 64 ≤ 140737488355328) (hn : ws.length ≤ 2147483647) (d : Nat) : ∀ (i k : Nat), i + d = ws.length → d + 1 ≤ k → PFnBlockBytes.btcdwire_TxWitness_SerializeSize.l0 k ((a0 + ((ws.take i).map vb).flatten.length : Nat) : Int) ws (ws.length : Int) (i : Int) = some ((a0 + (ws.map vb).flatten.length : Nat) : Int) := by
  induction d with
  | zero =>
    intro i k h hk
    obtain ⟨k, rfl⟩ : ∃ k', k = k' + 1 := ⟨k - 1, by omega⟩
    rw [PFnBlockBytes.btcdwire_TxWitness_SerializeSize.l0, if_neg (show ¬ (i : Int) < ws.length by omega), List.take_of_length_le (by omega)]
  | succ d ih =>
    intro i k h hk
    obtain ⟨k, rfl⟩ : ∃ k', k = k' + 1 := ⟨k - 1, by omega⟩
    have hi : i < ws.length := by omega
    have htf := take_flat vb ws ([] : List Int) i hi
    have htl := take_len vb ws ([] : List Int) i hi
    have hr : PFnBlockBytes.rd_L1 ws (i : Int) = ws.getD i [] := by simp [PFnBlockBytes.rd_L1]
    obtain ⟨u, hu⟩ : ∃ u, ws.getD i [] = u := ⟨_, rfl⟩
    rw [hu] at htf htl hr
    have hvl : (vb u).length = (vi u.length).length + u.length := by rw [vb, List.length_append]
    have c1 : (i : Int) < ws.length := by omega
    have c2 : (0 : Int) ≤ i := by omega
    have := ih (i + 1) k (by omega) (by omega)
    obtain ⟨n, hn2⟩ : ∃ n, n = a0 + ((ws.take i).map vb).flatten.length := ⟨_, rfl⟩
    have e3 : a0 + ((ws.take (i + 1)).map vb).flatten.length = n + (vi u.length).length + u.length := by rw [htf, List.length_append, hvl]; omega
    have hb : n + (vi u.length).length + u.length ≤ 140737488355328 := by omega
    have hul : (u.length : Int) < 18446744073709551616 := by omega
    rw [e3] at this
    rw [← hn2]
    clear htf htl hvl e3 hn2 hl
    have w3 : wrap64 ((i : Int) + 1) = ((i + 1 : Nat) : Int) := by rw [wrap64_id (by omega) (by omega)]; omega
    have w1 : wrap64 ((n : Int) + ((vi u.length).length : Int)) = ((n + (vi u.length).length : Nat) : Int) := by clear w3; rw [wrap64_id (by omega) (by omega)]; omega
    have w2 : wrap64 (((n + (vi u.length).length : Nat) : Int) + (u.length : Int)) = ((n + (vi u.length).length + u.length : Nat) : Int) := by clear w1 w3; rw [wrap64_id (by omega) (by omega)]; omega
    have w4 : IntKind.u64.wrap (u.length : Int) = u.length := u64_id (by omega) hul
    rw [PFnBlockBytes.btcdwire_TxWitness_SerializeSize.l0, if_pos c1, if_pos c2, if_pos c1, hr, w4, vs_eq]
    show PFnBlockBytes.btcdwire_TxWitness_SerializeSize.l0 k (wrap64 (wrap64 ((n : Int) + ((vi u.length).length : Int)) + (u.length : Int))) ws (ws.length : Int) (wrap64 ((i : Int) + 1)) = _
    rw [w1, w2, w3, this]
theorem witsz_eq (ws : List (List Int)) (hl : (witB ws).length + 64 ≤ 140737488355328) (hn : ws.length ≤ 2147483647) : PFnBlockBytes.btcdwire_TxWitness_SerializeSize.f (ws.length + 1) ws = some ((witB ws).length : Int) := by
  have hwl : (witB ws).length = (vi ws.length).length + ((ws.map vb).flatten).length := by rw [witB, List.length_append]
  have h := witsz_loop ws (vi ws.length).length (by omega) hn ws.length 0 (ws.length + 1) (by omega) (by omega)
  unfold PFnBlockBytes.btcdwire_TxWitness_SerializeSize.f
  rw [u64_id (by omega) (by omega), vs_eq, hwl]
  simpa using h
theorem TiF.below_ {F : Nat → Prop} {w w1 : World} {g : Nat} {y : TI} {cs : Array Value} {B1 : Option Addr} {d1 : Nat} {B2 : Option Addr} {d2 : Nat} (h : TiF F w g y cs B1 d1 B2 d2) (hb : Below w.heap.size w w1) : TiF F w1 g y cs B1 d1 B2 d2 :=
  ⟨h.hF, blk_below h.blk hb, h.cs, h.hl, Kd.F_below h.s hb, Kd.F_below h.w hb⟩
theorem ToF.below_ {F : Nat → Prop} {w w1 : World} {g : Nat} {y : PFnBlockBytes.S54} {B1 : Option Addr} {d1 : Nat} (h : ToF F w g y B1 d1) (hb : Below w.heap.size w w1) : ToF F w1 g y B1 d1 := ⟨h.hF, blk_below h.blk hb, Kd.F_below h.s hb⟩
set_option maxHeartbeats 4000000 in
set_option maxRecDepth 100000 in
theorem inSz_calls {F : Nat → Prop} {w : World} (g : Nat) (y : TI) {cs : Array Value} {B1 : Option Addr} {d1 : Nat} {B2 : Option Addr} {d2 : Nat} (hy : TiF F w g y cs B1 d1 B2 d2) (hl : y.s.length ≤ 2147483647) :
    Calls Try.prog 62 #[.pointer (some ⟨g, 0, none⟩)] w fun e w' => e = .returned (.int .i64 ((inB y).length : Int)) ∧ Below w.heap.size w w' := by
  have hc : ∀ W, Below w.heap.size w W → W.cell? ⟨g, 33, none⟩ = some (.slice B1 y.s.length d1) := fun W hW => (hy.below_ hW).cell 33 _ (tic_33 _ _ _ _ _ hy.hl)
  have HC := Lib.hid hc
  obtain ⟨m, hm⟩ : ∃ m, y.s.length = m := ⟨_, rfl⟩
  have hv := vi_len (m : Int)
  obtain ⟨q, hq⟩ : ∃ q : Nat, (vi (m : Int)).length = q := ⟨_, rfl⟩
  have hlen : (inB y).length = 40 + q + m := by
    rw [← hq, ← hm]
    rw [inB, List.length_append, List.length_append, opB_len _ _ hy.hl, vb, List.length_append, le_len]; omega
  have HV := Lib.hid (hq ▸ vs_calls (m : Int))
  rw [hlen]
  rw [hm] at HC hl
  rw [hq] at hv
  have e2 : wrap64 ((40 + (q : Int)) + (m : Int)) = ((40 + q + m : Nat) : Int) := by rw [wrap64_id (by omega) (by omega)]; omega
  have e1 : wrap64 (40 + (q : Int)) = 40 + (q : Int) := by clear e2; exact wrap64_id (by omega) (by omega)
  have hw1 : IntKind.u64.wrap (m : Int) = m := by clear e1 e2; exact u64_id (by omega) (by omega)
  have E1 := Lib.hid e1
  have E2 := Lib.hid e2
  clear hc hy hm hv hq hlen e1 e2 hl
  have HB := Lib.hid (below_drew (Below.refl w.heap.size w))
  go_enter Try.func62, Try.ntmps62
  go_wp2
  refine start_ (n := 15) (S := fun w' => w'.cell? ⟨g, 33, none⟩ = some (.slice B1 m d1)) (ds := []) #[false, false, false, false, false, false, false, false, false, false, false, false, false, false, false] (by kernel_rfl) rfl rfl ((HC.out _ HB.out)) (fun hHeld => ?_)
  refine pure_ (i := 0) (N := some 3) (v := ?_) (a' := ?_) #[true, false, false, false, false, false, false, false, false, false, false, false, false, false, false] rfl rfl (by kernel_rfl) (fun _ _ _ h => h) (Or.inl ⟨by rfl, ?_⟩) ?_ ?_
  rotate_left
  · intro w'
    go_simp
    with_reducible rfl
  rotate_left
  · simp only [Act.put, List.setIfInBounds_toArray, List.set_cons_zero, List.set_cons_succ, i64_w, i32_w]
    rfl
  refine pure_ (i := 1) (N := some 4) (v := ?_) (a' := ?_) #[true, true, false, false, false, false, false, false, false, false, false, false, false, false, false] rfl rfl (by kernel_rfl) (fun _ _ _ h => h) (Or.inl ⟨by rfl, ?_⟩) ?_ ?_
  rotate_left
  · intro w'
    go_simp
    with_reducible rfl
  rotate_left
  · simp only [Act.put, List.setIfInBounds_toArray, List.set_cons_zero, List.set_cons_succ, i64_w, i32_w]
    rfl
  refine pure_ (i := 2) (N := some 5) (v := ?_) (a' := ?_) #[true, true, true, false, false, false, false, false, false, false, false, false, false, false, false] rfl rfl (by kernel_rfl) (fun _ _ _ h => h) (Or.inl ⟨by rfl, ?_⟩) ?_ ?_
  rotate_left
  · intro w'
    go_simp
    with_reducible rfl
  rotate_left
  · simp only [Act.put, List.setIfInBounds_toArray, List.set_cons_zero, List.set_cons_succ, i64_w, i32_w]
    rfl
  refine pure_ (i := 8) (N := some 11) (v := ?_) (a' := ?_) #[true, true, true, false, false, false, false, false, true, false, false, false, false, false, false] rfl rfl (by kernel_rfl) (fun _ _ _ h => h) (Or.inl ⟨by rfl, ?_⟩) ?_ ?_
  rotate_left
  · intro w'
    go_simp
    with_reducible rfl
  rotate_left
  · simp only [Act.put, List.setIfInBounds_toArray, List.set_cons_zero, List.set_cons_succ, i64_w, i32_w]
    rfl
  refine pure_ (i := 9) (N := some 12) (v := ?_) (a' := ?_) #[true, true, true, false, false, false, false, false, true, true, false, false, false, false, false] rfl rfl (by kernel_rfl) (fun _ _ _ h => h) (Or.inl ⟨by rfl, ?_⟩) ?_ ?_
  rotate_left
  · intro w'
    go_simp
    with_reducible rfl
  rotate_left
  · simp only [Act.put, List.setIfInBounds_toArray, List.set_cons_zero, List.set_cons_succ, i64_w, i32_w]
    rfl
  refine pure_ (i := 10) (N := some 13) (v := ?_) (a' := ?_) #[true, true, true, false, false, false, false, false, true, true, true, false, false, false, false] rfl rfl (by kernel_rfl) (fun _ _ _ h => h) (Or.inl ⟨by rfl, ?_⟩) ?_ ?_
  rotate_left
  · intro w'
    go_simp
    with_reducible rfl
  rotate_left
  · simp only [Act.put, List.setIfInBounds_toArray, List.set_cons_zero, List.set_cons_succ, i64_w, i32_w]
    rfl
  refine take_ (i := 3) (N := some 6) (v := ?_) (a' := ?_) #[true, true, true, true, false, false, false, false, true, true, true, false, false, false, false] rfl rfl (by kernel_rfl) (fun _ _ _ h => h) (Or.inl ⟨by rfl, ?_⟩) hHeld ?_ ?_
  rotate_left
  · intro w' s0
    go_simp
    with_reducible rfl
  rotate_left
  · simp only [Act.put, List.setIfInBounds_toArray, List.set_cons_zero, List.set_cons_succ, i64_w, i32_w]
    rfl
  refine pure_ (i := 4) (N := some 7) (v := ?_) (a' := ?_) #[true, true, true, true, true, false, false, false, true, true, true, false, false, false, false] rfl rfl (by kernel_rfl) (fun _ _ _ h => h) (Or.inl ⟨by rfl, ?_⟩) ?_ ?_
  rotate_left
  · intro w'
    go_simp
    with_reducible rfl
  rotate_left
  · simp only [Act.put, List.setIfInBounds_toArray, List.set_cons_zero, List.set_cons_succ, i64_w, i32_w]
    rfl
  refine pure_ (i := 5) (N := some 8) (v := ?_) (a' := ?_) #[true, true, true, true, true, true, false, false, true, true, true, false, false, false, false] rfl rfl (by kernel_rfl) (fun _ _ _ h => h) (Or.inl ⟨by rfl, ?_⟩) ?_ ?_
  rotate_left
  · intro w'
    go_simp
    with_reducible rfl
  rotate_left
  · simp only [Act.put, List.setIfInBounds_toArray, List.set_cons_zero, List.set_cons_succ, i64_w, i32_w]
    rfl
  refine take_ (i := 11) (N := some 14) (v := ?_) (a' := ?_) #[true, true, true, true, true, true, false, false, true, true, true, true, false, false, false] rfl rfl (by kernel_rfl) (fun _ _ _ h => h) (Or.inl ⟨by rfl, ?_⟩) hHeld ?_ ?_
  rotate_left
  · intro w' s0
    go_simp
    with_reducible rfl
  rotate_left
  · simp only [Act.put, List.setIfInBounds_toArray, List.set_cons_zero, List.set_cons_succ, i64_w, i32_w]
    rfl
  refine pure_ (i := 12) (N := some 15) (v := ?_) (a' := ?_) #[true, true, true, true, true, true, false, false, true, true, true, true, true, false, false] rfl rfl (by kernel_rfl) (fun _ _ _ h => h) (Or.inl ⟨by rfl, ?_⟩) ?_ ?_
  rotate_left
  · intro w'
    go_simp
    with_reducible rfl
  rotate_left
  · simp only [Act.put, List.setIfInBounds_toArray, List.set_cons_zero, List.set_cons_succ, i64_w, i32_w]
    rfl
  refine one_ (i := 6) (N := some 9) #[true, true, true, true, true, true, true, false, true, true, true, true, true, false, false] rfl rfl (by kernel_rfl) (by decide) (fun K hK => ?_)
  refine goes_ Try.func44 (by kernel_rfl) rfl #[.int .u64 (m : Int)] (by rfl) rfl rfl (by simp only [List.map_toArray, List.map_cons, List.map_nil]; rfl) ?_
  with_reducible refine (HV.out _).mono ?_
  rintro e w3 ⟨rfl, hB⟩
  refine ⟨_, rfl, ?_⟩
  have n0_ := Lib.hid (below_step HB.out hB); clear HB hB; have HB := n0_; clear n0_
  refine hK.out _ _ ((HC.out _ HB.out)) (fun hHeld => ?_)
  clear hK K
  refine norm_ (a' := ?_) ?_ ?_
  rotate_left
  · show Act.put _ (some 9) _ = _
    simp only [Act.put, List.setIfInBounds_toArray, List.set_cons_zero, List.set_cons_succ, i64_w, i32_w]
    rfl
  refine pure_ (i := 7) (N := some 10) (v := ?_) (a' := ?_) #[true, true, true, true, true, true, true, true, true, true, true, true, true, false, false] rfl rfl (by kernel_rfl) (fun _ _ _ h => h) (Or.inl ⟨by rfl, ?_⟩) ?_ ?_
  rotate_left
  · intro w'
    go_simp
    with_reducible rfl
  rotate_left
  · simp only [Act.put, List.setIfInBounds_toArray, List.set_cons_zero, List.set_cons_succ, i64_w, i32_w]
    rfl
  refine pure_ (i := 13) (N := some 16) (v := ?_) (a' := ?_) #[true, true, true, true, true, true, true, true, true, true, true, true, true, true, false] rfl rfl (by kernel_rfl) (fun _ _ _ h => h) (Or.inl ⟨by rfl, ?_⟩) ?_ ?_
  rotate_left
  · intro w'
    go_simp
    with_reducible rfl
  rotate_left
  · simp only [Act.put, List.setIfInBounds_toArray, List.set_cons_zero, List.set_cons_succ, i64_w, i32_w]
    rfl
  refine pure_ (i := 14) (N := some 2) (v := ?_) (a' := ?_) #[true, true, true, true, true, true, true, true, true, true, true, true, true, true, true] rfl rfl (by kernel_rfl) (fun _ _ _ h => h) (Or.inl ⟨by rfl, ?_⟩) ?_ ?_
  rotate_left
  · intro w'
    go_simp
    with_reducible rfl
  rotate_left
  · simp only [Act.put, List.setIfInBounds_toArray, List.set_cons_zero, List.set_cons_succ, i64_w, i32_w]
    rfl
  refine done_ (by kernel_rfl) ?_
  go_wp2
  go_ret
  refine ⟨?_, HB.out⟩
  show Ending.returned (Value.int .i64 (wrap64 (wrap64 (40 + (q : Int)) + (m : Int)))) = _
  rw [E1.out, E2.out]
set_option maxHeartbeats 4000000 in
set_option maxRecDepth 100000 in
theorem outSz_calls {F : Nat → Prop} {w : World} (g : Nat) (y : PFnBlockBytes.S54) {B1 : Option Addr} {d1 : Nat} (hy : ToF F w g y B1 d1) (hl : y.f1.length ≤ 2147483647) :
    Calls Try.prog 63 #[.pointer (some ⟨g, 0, none⟩)] w fun e w' => e = .returned (.int .i64 ((outB y).length : Int)) ∧ Below w.heap.size w w' := by
  have hc : ∀ W, Below w.heap.size w W → W.cell? ⟨g, 1, none⟩ = some (.slice B1 y.f1.length d1) := fun W hW => (blk_cell (hy.below_ hW).blk 1).trans rfl
  have HC := Lib.hid hc
  obtain ⟨m, hm⟩ : ∃ m, y.f1.length = m := ⟨_, rfl⟩
  have hv := vi_len (m : Int)
  obtain ⟨q, hq⟩ : ∃ q : Nat, (vi (m : Int)).length = q := ⟨_, rfl⟩
  have hlen : (outB y).length = 8 + q + m := by
    rw [← hq, ← hm]
    rw [outB, List.length_append, vb, List.length_append, le_len]; omega
  have HV := Lib.hid (hq ▸ vs_calls (m : Int))
  rw [hlen]
  rw [hm] at HC hl
  rw [hq] at hv
  have e2 : wrap64 ((8 + (q : Int)) + (m : Int)) = ((8 + q + m : Nat) : Int) := by rw [wrap64_id (by omega) (by omega)]; omega
  have e1 : wrap64 (8 + (q : Int)) = 8 + (q : Int) := by clear e2; exact wrap64_id (by omega) (by omega)
  have hw1 : IntKind.u64.wrap (m : Int) = m := by clear e1 e2; exact u64_id (by omega) (by omega)
  have E1 := Lib.hid e1
  have E2 := Lib.hid e2
  clear hc hy hm hv hq hlen e1 e2 hl
  have HB := Lib.hid (below_drew (Below.refl w.heap.size w))
  go_enter Try.func63, Try.ntmps63
  go_wp2
  refine start_ (n := 15) (S := fun w' => w'.cell? ⟨g, 1, none⟩ = some (.slice B1 m d1)) (ds := []) #[false, false, false, false, false, false, false, false, false, false, false, false, false, false, false] (by kernel_rfl) rfl rfl ((HC.out _ HB.out)) (fun hHeld => ?_)
  refine pure_ (i := 0) (N := some 3) (v := ?_) (a' := ?_) #[true, false, false, false, false, false, false, false, false, false, false, false, false, false, false] rfl rfl (by kernel_rfl) (fun _ _ _ h => h) (Or.inl ⟨by rfl, ?_⟩) ?_ ?_
  rotate_left
  · intro w'
    go_simp
    with_reducible rfl
  rotate_left
  · simp only [Act.put, List.setIfInBounds_toArray, List.set_cons_zero, List.set_cons_succ, i64_w, i32_w]
    rfl
  refine pure_ (i := 1) (N := some 4) (v := ?_) (a' := ?_) #[true, true, false, false, false, false, false, false, false, false, false, false, false, false, false] rfl rfl (by kernel_rfl) (fun _ _ _ h => h) (Or.inl ⟨by rfl, ?_⟩) ?_ ?_
  rotate_left
  · intro w'
    go_simp
    with_reducible rfl
  rotate_left
  · simp only [Act.put, List.setIfInBounds_toArray, List.set_cons_zero, List.set_cons_succ, i64_w, i32_w]
    rfl
  refine pure_ (i := 2) (N := some 5) (v := ?_) (a' := ?_) #[true, true, true, false, false, false, false, false, false, false, false, false, false, false, false] rfl rfl (by kernel_rfl) (fun _ _ _ h => h) (Or.inl ⟨by rfl, ?_⟩) ?_ ?_
  rotate_left
  · intro w'
    go_simp
    with_reducible rfl
  rotate_left
  · simp only [Act.put, List.setIfInBounds_toArray, List.set_cons_zero, List.set_cons_succ, i64_w, i32_w]
    rfl
  refine pure_ (i := 8) (N := some 11) (v := ?_) (a' := ?_) #[true, true, true, false, false, false, false, false, true, false, false, false, false, false, false] rfl rfl (by kernel_rfl) (fun _ _ _ h => h) (Or.inl ⟨by rfl, ?_⟩) ?_ ?_
  rotate_left
  · intro w'
    go_simp
    with_reducible rfl
  rotate_left
  · simp only [Act.put, List.setIfInBounds_toArray, List.set_cons_zero, List.set_cons_succ, i64_w, i32_w]
    rfl
  refine pure_ (i := 9) (N := some 12) (v := ?_) (a' := ?_) #[true, true, true, false, false, false, false, false, true, true, false, false, false, false, false] rfl rfl (by kernel_rfl) (fun _ _ _ h => h) (Or.inl ⟨by rfl, ?_⟩) ?_ ?_
  rotate_left
  · intro w'
    go_simp
    with_reducible rfl
  rotate_left
  · simp only [Act.put, List.setIfInBounds_toArray, List.set_cons_zero, List.set_cons_succ, i64_w, i32_w]
    rfl
  refine pure_ (i := 10) (N := some 13) (v := ?_) (a' := ?_) #[true, true, true, false, false, false, false, false, true, true, true, false, false, false, false] rfl rfl (by kernel_rfl) (fun _ _ _ h => h) (Or.inl ⟨by rfl, ?_⟩) ?_ ?_
  rotate_left
  · intro w'
    go_simp
    with_reducible rfl
  rotate_left
  · simp only [Act.put, List.setIfInBounds_toArray, List.set_cons_zero, List.set_cons_succ, i64_w, i32_w]
    rfl
  refine take_ (i := 3) (N := some 6) (v := ?_) (a' := ?_) #[true, true, true, true, false, false, false, false, true, true, true, false, false, false, false] rfl rfl (by kernel_rfl) (fun _ _ _ h => h) (Or.inl ⟨by rfl, ?_⟩) hHeld ?_ ?_
  rotate_left
  · intro w' s0
    go_simp
    with_reducible rfl
  rotate_left
  · simp only [Act.put, List.setIfInBounds_toArray, List.set_cons_zero, List.set_cons_succ, i64_w, i32_w]
    rfl
  refine pure_ (i := 4) (N := some 7) (v := ?_) (a' := ?_) #[true, true, true, true, true, false, false, false, true, true, true, false, false, false, false] rfl rfl (by kernel_rfl) (fun _ _ _ h => h) (Or.inl ⟨by rfl, ?_⟩) ?_ ?_
  rotate_left
  · intro w'
    go_simp
    with_reducible rfl
  rotate_left
  · simp only [Act.put, List.setIfInBounds_toArray, List.set_cons_zero, List.set_cons_succ, i64_w, i32_w]
    rfl
  refine pure_ (i := 5) (N := some 8) (v := ?_) (a' := ?_) #[true, true, true, true, true, true, false, false, true, true, true, false, false, false, false] rfl rfl (by kernel_rfl) (fun _ _ _ h => h) (Or.inl ⟨by rfl, ?_⟩) ?_ ?_
  rotate_left
  · intro w'
    go_simp
    with_reducible rfl
  rotate_left
  · simp only [Act.put, List.setIfInBounds_toArray, List.set_cons_zero, List.set_cons_succ, i64_w, i32_w]
    rfl
  refine take_ (i := 11) (N := some 14) (v := ?_) (a' := ?_) #[true, true, true, true, true, true, false, false, true, true, true, true, false, false, false] rfl rfl (by kernel_rfl) (fun _ _ _ h => h) (Or.inl ⟨by rfl, ?_⟩) hHeld ?_ ?_
  rotate_left
  · intro w' s0
    go_simp
    with_reducible rfl
  rotate_left
  · simp only [Act.put, List.setIfInBounds_toArray, List.set_cons_zero, List.set_cons_succ, i64_w, i32_w]
    rfl
  refine pure_ (i := 12) (N := some 15) (v := ?_) (a' := ?_) #[true, true, true, true, true, true, false, false, true, true, true, true, true, false, false] rfl rfl (by kernel_rfl) (fun _ _ _ h => h) (Or.inl ⟨by rfl, ?_⟩) ?_ ?_
  rotate_left
  · intro w'
    go_simp
    with_reducible rfl
  rotate_left
  · simp only [Act.put, List.setIfInBounds_toArray, List.set_cons_zero, List.set_cons_succ, i64_w, i32_w]
    rfl
  refine one_ (i := 6) (N := some 9) #[true, true, true, true, true, true, true, false, true, true, true, true, true, false, false] rfl rfl (by kernel_rfl) (by decide) (fun K hK => ?_)
  refine goes_ Try.func44 (by kernel_rfl) rfl #[.int .u64 (m : Int)] (by rfl) rfl rfl (by simp only [List.map_toArray, List.map_cons, List.map_nil]; rfl) ?_
  with_reducible refine (HV.out _).mono ?_
  rintro e w3 ⟨rfl, hB⟩
  refine ⟨_, rfl, ?_⟩
  have n0_ := Lib.hid (below_step HB.out hB); clear HB hB; have HB := n0_; clear n0_
  refine hK.out _ _ ((HC.out _ HB.out)) (fun hHeld => ?_)
  clear hK K
  refine norm_ (a' := ?_) ?_ ?_
  rotate_left
  · show Act.put _ (some 9) _ = _
    simp only [Act.put, List.setIfInBounds_toArray, List.set_cons_zero, List.set_cons_succ, i64_w, i32_w]
    rfl
  refine pure_ (i := 7) (N := some 10) (v := ?_) (a' := ?_) #[true, true, true, true, true, true, true, true, true, true, true, true, true, false, false] rfl rfl (by kernel_rfl) (fun _ _ _ h => h) (Or.inl ⟨by rfl, ?_⟩) ?_ ?_
  rotate_left
  · intro w'
    go_simp
    with_reducible rfl
  rotate_left
  · simp only [Act.put, List.setIfInBounds_toArray, List.set_cons_zero, List.set_cons_succ, i64_w, i32_w]
    rfl
  refine pure_ (i := 13) (N := some 16) (v := ?_) (a' := ?_) #[true, true, true, true, true, true, true, true, true, true, true, true, true, true, false] rfl rfl (by kernel_rfl) (fun _ _ _ h => h) (Or.inl ⟨by rfl, ?_⟩) ?_ ?_
  rotate_left
  · intro w'
    go_simp
    with_reducible rfl
  rotate_left
  · simp only [Act.put, List.setIfInBounds_toArray, List.set_cons_zero, List.set_cons_succ, i64_w, i32_w]
    rfl
  refine pure_ (i := 14) (N := some 2) (v := ?_) (a' := ?_) #[true, true, true, true, true, true, true, true, true, true, true, true, true, true, true] rfl rfl (by kernel_rfl) (fun _ _ _ h => h) (Or.inl ⟨by rfl, ?_⟩) ?_ ?_
  rotate_left
  · intro w'
    go_simp
    with_reducible rfl
  rotate_left
  · simp only [Act.put, List.setIfInBounds_toArray, List.set_cons_zero, List.set_cons_succ, i64_w, i32_w]
    rfl
  refine done_ (by kernel_rfl) ?_
  go_wp2
  go_ret
  refine ⟨?_, HB.out⟩
  show Ending.returned (Value.int .i64 (wrap64 (wrap64 (8 + (q : Int)) + (m : Int)))) = _
  rw [E1.out, E2.out]
end Go.Proofs.Ytdjchplaeipgpaa.Wire
namespace Go.Proofs.Ytdjchplaeipgpaa.Wire
open Go.RowKit Go.Proofs.YtdjchplaeipgpaaW.PrintWords Go.Proofs.YtdjchplaeipgpaaW.PrintLast Go.Proofs.Ytdjchplaeipgpaa.Reg Go.Proofs.Ytdjchplaeipgpaa.Buf Go.Proofs.Ytdjchplaeipgpaa.Tx
set_option linter.unusedSimpArgs false
set_option linter.unusedVariables false

/-- Scripts' lengths, for sizes. -/
structure Lens (x : TX) : Prop where
  i : ∀ y ∈ x.ins, y.s.length ≤ 2147483647
  o : ∀ y ∈ x.outs, y.f1.length ≤ 2147483647
theorem lens_of {x : TX} (hf : fit2 x = true) : Lens x := by
  simp only [fit2, fit3, fit4, fit5, fit6, Bool.and_eq_true, decide_eq_true_eq, List.all_eq_true] at hf
  exact ⟨fun y hy => (hf.1.2 y hy).1, hf.2.2⟩
theorem rdO_mem (l : List PFnBlockBytes.S54) (i : Int) (h0 : 0 ≤ i) (h1 : i < l.length) : rdO l i ∈ l := by
  rw [rdO, List.getD_eq_getElem?_getD, List.getElem?_eq_getElem (show i.toNat < l.length by omega)]
  exact List.getElem_mem _
theorem txB_falseLen (x : TX) : (txB x false).length = 8 + (vi x.ins.length).length + (vi x.outs.length).length + (x.ins.map inB).flatten.length + (x.outs.map outB).flatten.length := by
  unfold txB; simp only [List.length_append, le_len, Bool.false_eq_true, if_false, List.length_nil]; omega
theorem txB_trueLen (x : TX) : (txB x true).length = (txB x false).length + 2 + (x.ins.map (fun y => witB y.w)).flatten.length := by
  unfold txB; simp only [List.length_append, le_len, Bool.false_eq_true, if_false, if_true, List.length_nil, List.length_cons]; omega
theorem w64n {n m : Nat} (h : n + m ≤ 140737488355328) : wrap64 ((n : Int) + (m : Int)) = ((n + m : Nat) : Int) := by rw [wrap64_id (by omega) (by omega)]; omega
set_option maxHeartbeats 8000000 in
set_option maxRecDepth 100000 in
theorem base_calls {F : Nat → Prop} {w : World} {g : Nat} {x : TX} {A1 : Option Addr} {c1 : Nat} {A2 : Option Addr} {c2 : Nat} (h : TxF F w g x A1 c1 A2 c2) (hg : Nums x) (hL : Lens x) (hlim : txN x + 256 ≤ 140737488355328) :
    Calls Try.prog 53 #[.pointer (some ⟨g, 0, none⟩)] w fun e w' => e = .returned (.int .i64 ((txB x false).length : Int)) ∧ Below w.heap.size w w' := by
  have hc : ∀ W, Below w.heap.size w W → W.cell? ⟨g, 1, none⟩ = some (.slice A1 x.ins.length c1) ∧ W.cell? ⟨g, 2, none⟩ = some (.slice A2 x.outs.length c2) := fun W hW => ⟨(blk_cell (h.below hW).blk 1).trans rfl, (blk_cell (h.below hW).blk 2).trans rfl⟩
  have HC := Lib.hid hc
  have H := Lib.hid h
  have HG := Lib.hid hg
  have HLS := Lib.hid hL
  have hq1 := vi_len x.ins.length
  have hq2 := vi_len x.outs.length
  obtain ⟨q1, e1⟩ : ∃ q : Nat, (vi x.ins.length).length = q := ⟨_, rfl⟩
  obtain ⟨q2, e2⟩ : ∃ q : Nat, (vi x.outs.length).length = q := ⟨_, rfl⟩
  obtain ⟨L1, hL1⟩ : ∃ L1, L1 = (x.ins.map inB).flatten.length := ⟨_, rfl⟩
  obtain ⟨L2, hL2⟩ : ∃ L2, L2 = (x.outs.map outB).flatten.length := ⟨_, rfl⟩
  have hlen := txB_falseLen x
  rw [e1, e2, ← hL1, ← hL2] at hlen
  have hlm : L1 + L2 + 256 ≤ 140737488355328 := by rw [hL1, hL2]; unfold txN at hlim; omega
  rw [e1] at hq1
  rw [e2] at hq2
  have V1 := Lib.hid (e1 ▸ vs_calls (x.ins.length : Int))
  have V2 := Lib.hid (e2 ▸ vs_calls (x.outs.length : Int))
  rw [hlen]
  have HL1 := Lib.hid hL1
  have HL2 := Lib.hid hL2
  have HLM := Lib.hid hlm
  have HQ1 := Lib.hid hq1
  have HQ2 := Lib.hid hq2
  have s2 : wrap64 ((8 + (q1 : Int)) + (q2 : Int)) = ((8 + q1 + q2 : Nat) : Int) := by rw [wrap64_id (by omega) (by omega)]; omega
  have s1 : wrap64 (8 + (q1 : Int)) = 8 + (q1 : Int) := by clear s2; exact wrap64_id (by omega) (by omega)
  have hw1 : IntKind.u64.wrap (x.ins.length : Int) = x.ins.length := by clear s1 s2; exact u64_id (by omega) (by have := hg.n1; omega)
  have hw3 : IntKind.u64.wrap (x.outs.length : Int) = x.outs.length := by clear s1 s2; exact u64_id (by omega) (by have := hg.n2; omega)
  have S1 := Lib.hid s1
  have S2 := Lib.hid s2
  clear hc h hg hL hq1 hq2 e1 e2 hL1 hL2 hlen hlm hlim s1 s2
  have HB := Lib.hid (below_drew (Below.refl w.heap.size w))
  go_enter Try.func53, Try.ntmps53
  go_wp2
  refine start_ (n := 17) (S := fun w' => w'.cell? ⟨g, 1, none⟩ = some (.slice A1 x.ins.length c1) ∧ w'.cell? ⟨g, 2, none⟩ = some (.slice A2 x.outs.length c2)) (ds := []) #[false, false, false, false, false, false, false, false, false, false, false, false, false, false, false, false, false] (by kernel_rfl) rfl rfl ⟨(HC.out _ HB.out).1, (HC.out _ HB.out).2⟩ (fun hHeld => ?_)
  refine pure_ (i := 0) (N := some 8) (v := ?_) (a' := ?_) #[true, false, false, false, false, false, false, false, false, false, false, false, false, false, false, false, false] rfl rfl (by kernel_rfl) (fun _ _ _ h => h) (Or.inl ⟨by rfl, ?_⟩) ?_ ?_
  rotate_left
  · intro w'
    go_simp
    with_reducible rfl
  rotate_left
  · simp only [Act.put, List.setIfInBounds_toArray, List.set_cons_zero, List.set_cons_succ, i64_w, i32_w]
    rfl
  refine pure_ (i := 1) (N := some 9) (v := ?_) (a' := ?_) #[true, true, false, false, false, false, false, false, false, false, false, false, false, false, false, false, false] rfl rfl (by kernel_rfl) (fun _ _ _ h => h) (Or.inl ⟨by rfl, ?_⟩) ?_ ?_
  rotate_left
  · intro w'
    go_simp
    with_reducible rfl
  rotate_left
  · simp only [Act.put, List.setIfInBounds_toArray, List.set_cons_zero, List.set_cons_succ, i64_w, i32_w]
    rfl
  refine pure_ (i := 2) (N := some 10) (v := ?_) (a' := ?_) #[true, true, true, false, false, false, false, false, false, false, false, false, false, false, false, false, false] rfl rfl (by kernel_rfl) (fun _ _ _ h => h) (Or.inl ⟨by rfl, ?_⟩) ?_ ?_
  rotate_left
  · intro w'
    go_simp
    with_reducible rfl
  rotate_left
  · simp only [Act.put, List.setIfInBounds_toArray, List.set_cons_zero, List.set_cons_succ, i64_w, i32_w]
    rfl
  refine pure_ (i := 8) (N := some 16) (v := ?_) (a' := ?_) #[true, true, true, false, false, false, false, false, true, false, false, false, false, false, false, false, false] rfl rfl (by kernel_rfl) (fun _ _ _ h => h) (Or.inl ⟨by rfl, ?_⟩) ?_ ?_
  rotate_left
  · intro w'
    go_simp
    with_reducible rfl
  rotate_left
  · simp only [Act.put, List.setIfInBounds_toArray, List.set_cons_zero, List.set_cons_succ, i64_w, i32_w]
    rfl
  refine pure_ (i := 9) (N := some 17) (v := ?_) (a' := ?_) #[true, true, true, false, false, false, false, false, true, true, false, false, false, false, false, false, false] rfl rfl (by kernel_rfl) (fun _ _ _ h => h) (Or.inl ⟨by rfl, ?_⟩) ?_ ?_
  rotate_left
  · intro w'
    go_simp
    with_reducible rfl
  rotate_left
  · simp only [Act.put, List.setIfInBounds_toArray, List.set_cons_zero, List.set_cons_succ, i64_w, i32_w]
    rfl
  refine pure_ (i := 10) (N := some 18) (v := ?_) (a' := ?_) #[true, true, true, false, false, false, false, false, true, true, true, false, false, false, false, false, false] rfl rfl (by kernel_rfl) (fun _ _ _ h => h) (Or.inl ⟨by rfl, ?_⟩) ?_ ?_
  rotate_left
  · intro w'
    go_simp
    with_reducible rfl
  rotate_left
  · simp only [Act.put, List.setIfInBounds_toArray, List.set_cons_zero, List.set_cons_succ, i64_w, i32_w]
    rfl
  refine take_ (i := 3) (N := some 11) (v := ?_) (a' := ?_) #[true, true, true, true, false, false, false, false, true, true, true, false, false, false, false, false, false] rfl rfl (by kernel_rfl) (fun _ _ _ h => h) (Or.inl ⟨by rfl, ?_⟩) hHeld ?_ ?_
  rotate_left
  · rintro w' ⟨s0, s1⟩
    go_simp
    with_reducible rfl
  rotate_left
  · simp only [Act.put, List.setIfInBounds_toArray, List.set_cons_zero, List.set_cons_succ, i64_w, i32_w]
    rfl
  refine pure_ (i := 4) (N := some 12) (v := ?_) (a' := ?_) #[true, true, true, true, true, false, false, false, true, true, true, false, false, false, false, false, false] rfl rfl (by kernel_rfl) (fun _ _ _ h => h) (Or.inl ⟨by rfl, ?_⟩) ?_ ?_
  rotate_left
  · intro w'
    go_simp
    with_reducible rfl
  rotate_left
  · simp only [Act.put, List.setIfInBounds_toArray, List.set_cons_zero, List.set_cons_succ, i64_w, i32_w]
    rfl
  refine pure_ (i := 5) (N := some 13) (v := ?_) (a' := ?_) #[true, true, true, true, true, true, false, false, true, true, true, false, false, false, false, false, false] rfl rfl (by kernel_rfl) (fun _ _ _ h => h) (Or.inl ⟨by rfl, ?_⟩) ?_ ?_
  rotate_left
  · intro w'
    go_simp
    with_reducible rfl
  rotate_left
  · simp only [Act.put, List.setIfInBounds_toArray, List.set_cons_zero, List.set_cons_succ, i64_w, i32_w]
    rfl
  refine take_ (i := 11) (N := some 19) (v := ?_) (a' := ?_) #[true, true, true, true, true, true, false, false, true, true, true, true, false, false, false, false, false] rfl rfl (by kernel_rfl) (fun _ _ _ h => h) (Or.inl ⟨by rfl, ?_⟩) hHeld ?_ ?_
  rotate_left
  · rintro w' ⟨s0, s1⟩
    go_simp
    with_reducible rfl
  rotate_left
  · simp only [Act.put, List.setIfInBounds_toArray, List.set_cons_zero, List.set_cons_succ, i64_w, i32_w]
    rfl
  refine pure_ (i := 12) (N := some 20) (v := ?_) (a' := ?_) #[true, true, true, true, true, true, false, false, true, true, true, true, true, false, false, false, false] rfl rfl (by kernel_rfl) (fun _ _ _ h => h) (Or.inl ⟨by rfl, ?_⟩) ?_ ?_
  rotate_left
  · intro w'
    go_simp
    with_reducible rfl
  rotate_left
  · simp only [Act.put, List.setIfInBounds_toArray, List.set_cons_zero, List.set_cons_succ, i64_w, i32_w]
    rfl
  refine pure_ (i := 13) (N := some 21) (v := ?_) (a' := ?_) #[true, true, true, true, true, true, false, false, true, true, true, true, true, true, false, false, false] rfl rfl (by kernel_rfl) (fun _ _ _ h => h) (Or.inl ⟨by rfl, ?_⟩) ?_ ?_
  rotate_left
  · intro w'
    go_simp
    with_reducible rfl
  rotate_left
  · simp only [Act.put, List.setIfInBounds_toArray, List.set_cons_zero, List.set_cons_succ, i64_w, i32_w]
    rfl
  refine one_ (i := 6) (N := some 14) #[true, true, true, true, true, true, true, false, true, true, true, true, true, true, false, false, false] rfl rfl (by kernel_rfl) (by decide) (fun K hK => ?_)
  refine goes_ Try.func44 (by kernel_rfl) rfl #[.int .u64 (x.ins.length : Int)] (by rfl) rfl rfl (by simp only [List.map_toArray, List.map_cons, List.map_nil]; rfl) ?_
  with_reducible refine (V1.out _).mono ?_
  rintro e w3 ⟨rfl, hB⟩
  refine ⟨_, rfl, ?_⟩
  have n0_ := Lib.hid (below_step HB.out hB); clear HB hB; have HB := n0_; clear n0_
  refine hK.out _ _ ⟨(HC.out _ HB.out).1, (HC.out _ HB.out).2⟩ (fun hHeld => ?_)
  clear hK K
  refine norm_ (a' := ?_) ?_ ?_
  rotate_left
  · show Act.put _ (some 14) _ = _
    simp only [Act.put, List.setIfInBounds_toArray, List.set_cons_zero, List.set_cons_succ, i64_w, i32_w]
    rfl
  refine pure_ (i := 7) (N := some 15) (v := ?_) (a' := ?_) #[true, true, true, true, true, true, true, true, true, true, true, true, true, true, false, false, false] rfl rfl (by kernel_rfl) (fun _ _ _ h => h) (Or.inl ⟨by rfl, ?_⟩) ?_ ?_
  rotate_left
  · intro w'
    go_simp
    with_reducible rfl
  rotate_left
  · simp only [Act.put, List.setIfInBounds_toArray, List.set_cons_zero, List.set_cons_succ, i64_w, i32_w]
    rfl
  refine one_ (i := 14) (N := some 22) #[true, true, true, true, true, true, true, true, true, true, true, true, true, true, true, false, false] rfl rfl (by kernel_rfl) (by decide) (fun K hK => ?_)
  refine goes_ Try.func44 (by kernel_rfl) rfl #[.int .u64 (x.outs.length : Int)] (by rfl) rfl rfl (by simp only [List.map_toArray, List.map_cons, List.map_nil]; rfl) ?_
  with_reducible refine (V2.out _).mono ?_
  rintro e w3 ⟨rfl, hB⟩
  refine ⟨_, rfl, ?_⟩
  have n0_ := Lib.hid (below_step HB.out hB); clear HB hB; have HB := n0_; clear n0_
  refine hK.out _ _ ⟨(HC.out _ HB.out).1, (HC.out _ HB.out).2⟩ (fun hHeld => ?_)
  clear hK K
  refine norm_ (a' := ?_) ?_ ?_
  rotate_left
  · show Act.put _ (some 22) _ = _
    simp only [Act.put, List.setIfInBounds_toArray, List.set_cons_zero, List.set_cons_succ, i64_w, i32_w]
    rfl
  refine pure_ (i := 15) (N := some 23) (v := ?_) (a' := ?_) #[true, true, true, true, true, true, true, true, true, true, true, true, true, true, true, true, false] rfl rfl (by kernel_rfl) (fun _ _ _ h => h) (Or.inl ⟨by rfl, ?_⟩) ?_ ?_
  rotate_left
  · intro w'
    go_simp
    with_reducible rfl
  rotate_left
  · simp only [Act.put, List.setIfInBounds_toArray, List.set_cons_zero, List.set_cons_succ, i64_w, i32_w]
    rfl
  refine pure_ (i := 16) (N := some 3) (v := ?_) (a' := ?_) #[true, true, true, true, true, true, true, true, true, true, true, true, true, true, true, true, true] rfl rfl (by kernel_rfl) (fun _ _ _ h => h) (Or.inl ⟨by rfl, ?_⟩) ?_ ?_
  rotate_left
  · intro w'
    go_simp
    with_reducible rfl
  rotate_left
  · simp only [Act.put, List.setIfInBounds_toArray, List.set_cons_zero, List.set_cons_succ, i64_w, i32_w]
    rfl
  refine done_ (by kernel_rfl) ?_
  have z1 := (HC.out _ HB.out).1
  go_wp2
  go_loopg [3, 29] (x.ins.length + 1) (fun kq v3 v29 w' => ∃ (i n : Nat) (xi : Int), v3 = .int .i64 (n : Int) ∧ v29 = .int .i64 xi ∧ Hid (xi = (i : Int)) ∧ Hid (i + kq = x.ins.length + 1) ∧ Hid (n = 8 + q1 + q2 + ((x.ins.take i).map inB).flatten.length) ∧ Hid (Below w.heap.size w w'))
  case atStart => exact ⟨0, 8 + q1 + q2, 0, (by show Value.int .i64 (wrap64 (wrap64 (8 + (q1 : Int)) + (q2 : Int))) = _; rw [S1.out, S2.out]), rfl, Lib.hid rfl, Lib.hid (Nat.zero_add _), Lib.hid (by simp), HB⟩
  case round =>
    clear z1 HB
    obtain ⟨i, n, xi, rfl, rfl, HI, HK, HN, HB⟩ := hrel
    by_cases ci : i < x.ins.length
    · have p0 : 0 ≤ xi := by rw [HI.out]; omega
      have q0 : xi < (x.ins.length : Int) := by rw [HI.out]; omega
      obtain ⟨ad, g1, cs, B1, d1, B2, d2, rfl, hp, hT, _⟩ := in_at (H.out.below HB.out).ins xi p0 q0
      have hms := HLS.out.i _ (rd_mem x.ins xi p0 q0)
      have htf := take_flat inB x.ins zTI i ci
      have htl := take_len inB x.ins zTI i ci
      rw [show x.ins.getD i zTI = rdT x.ins xi from by rw [rdT, HI.out]; rfl] at htf htl
      obtain ⟨y, hy⟩ : ∃ y, rdT x.ins xi = y := ⟨_, rfl⟩
      rw [hy] at hT hms htf htl
      have hcal := inSz_calls g1 y hT hms
      obtain ⟨m, hm⟩ : ∃ m, (inB y).length = m := ⟨_, rfl⟩
      rw [hm] at hcal htl
      have htf2 : ((x.ins.take (i + 1)).map inB).flatten.length = ((x.ins.take i).map inB).flatten.length + m := by rw [htf, List.length_append, hm]
      have hwn : wrap64 ((n : Int) + (m : Int)) = ((n + m : Nat) : Int) := w64n (by have := HLM.out; have := HN.out; have := HQ1.out; have := HQ2.out; rw [← HL1.out] at htl; omega)
      have hwi : wrap64 (xi + 1) = xi + 1 := by clear hwn; have := HG.out.n1; exact wrap64_id (by omega) (by omega)
      have hN2 : n + m = 8 + q1 + q2 + ((x.ins.take (i + 1)).map inB).flatten.length := by clear hwn hwi; rw [htf2]; have := HN.out; omega
      have HN2 := Lib.hid hN2
      have HCAL := Lib.hid hcal
      obtain ⟨k1, rfl⟩ : ∃ k1, gk = k1 + 1 := ⟨gk - 1, by clear hwn hwi; have := HK.out; omega⟩
      have pp := eq_true p0
      have qq := eq_true q0
      have qb : decide (xi < (x.ins.length : Int)) = true := decide_eq_true q0
      clear p0 q0 hy hT hms htf htl ci hm htf2 hN2 hcal
      go_wp2_with (go_at_call 62; go_must (refine HCAL.out.mono ?_); rintro e w3 ⟨rfl, hB⟩; have n0_ := Lib.hid (below_step HB.out hB); clear HB hB; have HB := n0_; clear n0_)
      go_roundg k1
      case measure => exact Nat.lt_succ_self _
      case rel => exact ⟨i + 1, n + m, xi + 1, (by first | rfl | (simp only [hwn]; done) | (rw [hwn])), (by first | rfl | (simp [hwi]; done)), Lib.hid (by clear hwn hwi; rw [HI.out]; omega), Lib.hid (by clear hwn hwi; have := HK.out; omega), HN2, HB⟩
    · have qb : decide (xi < (x.ins.length : Int)) = false := decide_eq_false (by rw [HI.out]; omega)
      have HN2 := Lib.hid (show n = 8 + q1 + q2 + L1 from by have := HN.out; rw [List.take_of_length_le (by omega), ← HL1.out] at this; exact this)
      clear ci HI HK HN
      have z2 := (HC.out _ HB.out).2
      go_wp2
      go_loopg [3, 43] (x.outs.length + 1) (fun kq v3 v43 w' => ∃ (i n : Nat) (xi : Int), v3 = .int .i64 (n : Int) ∧ v43 = .int .i64 xi ∧ Hid (xi = (i : Int)) ∧ Hid (i + kq = x.outs.length + 1) ∧ Hid (n = 8 + q1 + q2 + L1 + ((x.outs.take i).map outB).flatten.length) ∧ Hid (Below w.heap.size w w'))
      case atStart => exact ⟨0, n, 0, rfl, rfl, Lib.hid rfl, Lib.hid (Nat.zero_add _), Lib.hid (by simpa using HN2.out), HB⟩
      case round =>
        clear z2 HB HN2 qb
        obtain ⟨i, n, xi, rfl, rfl, HI, HK, HN, HB⟩ := hrel
        by_cases ci : i < x.outs.length
        · have p0 : 0 ≤ xi := by rw [HI.out]; omega
          have q0 : xi < (x.outs.length : Int) := by rw [HI.out]; omega
          obtain ⟨ad, g1, B1, d1, rfl, hp, hT⟩ := out_at (H.out.below HB.out).outs xi p0 q0
          have hms := HLS.out.o _ (rdO_mem x.outs xi p0 q0)
          have htf := take_flat outB x.outs PFnBlockBytes.z54 i ci
          have htl := take_len outB x.outs PFnBlockBytes.z54 i ci
          rw [show x.outs.getD i PFnBlockBytes.z54 = rdO x.outs xi from by rw [rdO, HI.out]; rfl] at htf htl
          obtain ⟨y, hy⟩ : ∃ y, rdO x.outs xi = y := ⟨_, rfl⟩
          rw [hy] at hT hms htf htl
          have hcal := outSz_calls g1 y hT hms
          obtain ⟨m, hm⟩ : ∃ m, (outB y).length = m := ⟨_, rfl⟩
          rw [hm] at hcal htl
          have htf2 : ((x.outs.take (i + 1)).map outB).flatten.length = ((x.outs.take i).map outB).flatten.length + m := by rw [htf, List.length_append, hm]
          have hwn : wrap64 ((n : Int) + (m : Int)) = ((n + m : Nat) : Int) := w64n (by have := HLM.out; have := HN.out; have := HQ1.out; have := HQ2.out; rw [← HL2.out] at htl; omega)
          have hwi : wrap64 (xi + 1) = xi + 1 := by clear hwn; have := HG.out.n2; exact wrap64_id (by omega) (by omega)
          have hN2 : n + m = 8 + q1 + q2 + L1 + ((x.outs.take (i + 1)).map outB).flatten.length := by clear hwn hwi; rw [htf2]; have := HN.out; omega
          have HN2 := Lib.hid hN2
          have HCAL := Lib.hid hcal
          obtain ⟨k1, rfl⟩ : ∃ k1, gk = k1 + 1 := ⟨gk - 1, by clear hwn hwi; have := HK.out; omega⟩
          have pp := eq_true p0
          have qq := eq_true q0
          have qb : decide (xi < (x.outs.length : Int)) = true := decide_eq_true q0
          clear p0 q0 hy hT hms htf htl ci hm htf2 hN2 hcal
          go_wp2_with (go_at_call 63; go_must (refine HCAL.out.mono ?_); rintro e w3 ⟨rfl, hB⟩; have n0_ := Lib.hid (below_step HB.out hB); clear HB hB; have HB := n0_; clear n0_)
          go_roundg k1
          case measure => exact Nat.lt_succ_self _
          case rel => exact ⟨i + 1, n + m, xi + 1, (by first | rfl | (simp only [hwn]; done) | (rw [hwn])), (by first | rfl | (simp [hwi]; done)), Lib.hid (by clear hwn hwi; rw [HI.out]; omega), Lib.hid (by clear hwn hwi; have := HK.out; omega), HN2, HB⟩
        · have qb : decide (xi < (x.outs.length : Int)) = false := decide_eq_false (by rw [HI.out]; omega)
          have hN2 : n = 8 + q1 + q2 + L1 + L2 := by have := HN.out; rw [List.take_of_length_le (by omega), ← HL2.out] at this; exact this
          subst hN2
          clear ci HI HK HN
          go_wp2
          go_ret
          exact ⟨rfl, HB.out⟩
set_option maxHeartbeats 4000000 in
set_option maxRecDepth 100000 in
theorem strip_calls {F : Nat → Prop} {w : World} {g : Nat} {x : TX} {A1 : Option Addr} {c1 : Nat} {A2 : Option Addr} {c2 : Nat} (h : TxF F w g x A1 c1 A2 c2) (hg : Nums x) (hL : Lens x) (hlim : txN x + 256 ≤ 140737488355328) :
    Calls Try.prog 45 #[.pointer (some ⟨g, 0, none⟩)] w fun e w' => e = .returned (.int .i64 ((txB x false).length : Int)) ∧ Below w.heap.size w w' := by
  have HE := Lib.hid (base_calls h hg hL hlim)
  obtain ⟨n, hn⟩ : ∃ n, (txB x false).length = n := ⟨_, rfl⟩
  rw [hn] at HE
  rw [hn]
  clear h hg hL hlim hn
  go_enter Try.func45, Try.ntmps45
  go_wp2_with (go_at_call 53; go_must (refine HE.out.mono ?_); rintro e w2 ⟨rfl, hr⟩)
  go_ret
  exact ⟨rfl, hr⟩
end Go.Proofs.Ytdjchplaeipgpaa.Wire
namespace Go.Proofs.Ytdjchplaeipgpaa.Wire
open Go.RowKit Go.Proofs.YtdjchplaeipgpaaW.PrintWords Go.Proofs.YtdjchplaeipgpaaW.PrintLast Go.Proofs.Ytdjchplaeipgpaa.Reg Go.Proofs.Ytdjchplaeipgpaa.Buf Go.Proofs.Ytdjchplaeipgpaa.Tx
set_option linter.unusedSimpArgs false
set_option linter.unusedVariables false

set_option maxHeartbeats 8000000 in
set_option maxRecDepth 100000 in
theorem full_calls {F : Nat → Prop} {w : World} {g : Nat} {x : TX} {A1 : Option Addr} {c1 : Nat} {A2 : Option Addr} {c2 : Nat} (h : TxF F w g x A1 c1 A2 c2) (hg : Nums x) (hL : Lens x) (hlim : txN x + 256 ≤ 140737488355328) :
    Calls Try.prog 46 #[.pointer (some ⟨g, 0, none⟩)] w fun e w' => e = .returned (.int .i64 ((txB x (hasW x.ins)).length : Int)) ∧ Below w.heap.size w w' := by
  have HE := Lib.hid (base_calls h hg hL hlim)
  obtain ⟨n0, hn0⟩ : ∃ n, (txB x false).length = n := ⟨_, rfl⟩
  rw [hn0] at HE
  have hc : ∀ W, Below w.heap.size w W → W.cell? ⟨g, 1, none⟩ = some (.slice A1 x.ins.length c1) := fun W hW => (blk_cell (h.below hW).blk 1).trans rfl
  have HC := Lib.hid hc
  have H := Lib.hid h
  have HG := Lib.hid hg
  have htl := txB_trueLen x
  obtain ⟨L3, hL3⟩ : ∃ L3, L3 = (x.ins.map (fun y => witB y.w)).flatten.length := ⟨_, rfl⟩
  rw [hn0, ← hL3] at htl
  have HL3 := Lib.hid hL3
  have hlm : L3 + 256 ≤ 140737488355328 := by rw [hL3]; unfold txN at hlim; omega
  have hlm2 : n0 + L3 + 2 ≤ 140737488355328 := by
    have := txB_falseLen x
    have h1 := vi_len x.ins.length
    have h2 := vi_len x.outs.length
    rw [hn0] at this
    rw [hL3]; unfold txN at hlim; omega
  have HLM := Lib.hid hlm
  have HLM2 := Lib.hid hlm2
  cases hb : hasW x.ins
  · have HBW := Lib.hid hb
    rw [hn0]
    clear hc h hg hL hlim hn0 htl hL3 hlm hlm2 hb
    go_enter Try.func46, Try.ntmps46
    go_wp2_with (first
      | (go_at_call 53; go_must (refine HE.out.mono ?_); rintro e w2 ⟨rfl, hB⟩; have HB := Lib.hid hB; clear hB)
      | (go_at_call 54; go_must (refine (has_calls (H.out.below HB.out) HG.out.n1).mono ?_); rintro e w3 ⟨rfl, hB⟩; have hbw := HBW.out; rw [hbw]; clear hbw; have n0_ := Lib.hid (below_step HB.out hB); clear HB hB; have HB := n0_; clear n0_))
    go_ret
    exact ⟨rfl, HB.out⟩
  · have HBW := Lib.hid hb
    rw [htl]
    have hw2 : wrap64 ((n0 : Int) + 2) = ((n0 + 2 : Nat) : Int) := by rw [wrap64_id (by omega) (by omega)]; omega
    clear hc h hg hL hlim hn0 htl hL3 hlm hlm2 hb
    go_enter Try.func46, Try.ntmps46
    go_wp2_with (first
      | (go_at_call 53; go_must (refine HE.out.mono ?_); rintro e w2 ⟨rfl, hB⟩; have HB := Lib.hid hB; clear hB)
      | (go_at_call 54; go_must (refine (has_calls (H.out.below HB.out) HG.out.n1).mono ?_); rintro e w3 ⟨rfl, hB⟩; have hbw := HBW.out; rw [hbw]; clear hbw; have n0_ := Lib.hid (below_step HB.out hB); clear HB hB; have HB := n0_; clear n0_; have z1 := HC.out _ HB.out))
    go_loopg [3, 17] (x.ins.length + 1) (fun kq v3 v17 w' => ∃ (i n : Nat) (xi : Int), v3 = .int .i64 (n : Int) ∧ v17 = .int .i64 xi ∧ Hid (xi = (i : Int)) ∧ Hid (i + kq = x.ins.length + 1) ∧ Hid (n = n0 + 2 + ((x.ins.take i).map (fun y => witB y.w)).flatten.length) ∧ Hid (Below w.heap.size w w'))
    case atStart => exact ⟨0, n0 + 2, 0, (by first | rfl | (simp only [hw2]; done) | (rw [hw2])), rfl, Lib.hid rfl, Lib.hid (Nat.zero_add _), Lib.hid (by simp), HB⟩
    case round =>
      clear z1 HB hw2
      obtain ⟨i, n, xi, rfl, rfl, HI, HK, HN, HB⟩ := hrel
      by_cases ci : i < x.ins.length
      · have p0 : 0 ≤ xi := by rw [HI.out]; omega
        have q0 : xi < (x.ins.length : Int) := by rw [HI.out]; omega
        obtain ⟨ad, g1, cs, B1, d1, B2, d2, rfl, hp, hT, hl2⟩ := in_at (H.out.below HB.out).ins xi p0 q0
        have hm := HG.out.i _ (rd_mem x.ins xi p0 q0)
        have htf := take_flat (fun y => witB y.w) x.ins zTI i ci
        have htl := take_len (fun y => witB y.w) x.ins zTI i ci
        rw [show x.ins.getD i zTI = rdT x.ins xi from by rw [rdT, HI.out]; rfl] at htf htl
        obtain ⟨y, hy⟩ : ∃ y, rdT x.ins xi = y := ⟨_, rfl⟩
        rw [hy] at hT hm htf htl hl2
        change ((x.ins.take i).map (fun y => witB y.w)).flatten.length + (witB y.w).length ≤ _ at htl
        have hwz := witsz_eq y.w (by have := HLM.out; rw [← HL3.out] at htl; omega) hm.2.2
        have hcal := fun W (hC : Kd.C (Kd.slice 5 (Kd.int .u8)) W B2 y.w.length y.w) => PFnBlockBytes.btcdwire_TxWitness_SerializeSize.calls (y.w.length + 1) B2 d2 y.w _ W hC hl2 hwz
        have z34 : wr.cell? ⟨g1, 34, none⟩ = some (.slice B2 y.w.length d2) := hT.cell 34 _ (tic_34 _ _ _ _ _ hT.hl)
        obtain ⟨m, hm2⟩ : ∃ m, (witB y.w).length = m := ⟨_, rfl⟩
        rw [hm2] at hcal htl
        have htf2 : ((x.ins.take (i + 1)).map (fun y => witB y.w)).flatten.length = ((x.ins.take i).map (fun y => witB y.w)).flatten.length + m := by rw [htf, List.length_append]; show _ + (witB y.w).length = _; rw [hm2]
        have hwn : wrap64 ((n : Int) + (m : Int)) = ((n + m : Nat) : Int) := w64n (by have := HLM2.out; have := HN.out; rw [← HL3.out] at htl; omega)
        have hwi : wrap64 (xi + 1) = xi + 1 := by clear hwn; have := HG.out.n1; exact wrap64_id (by omega) (by omega)
        have hN2 : n + m = n0 + 2 + ((x.ins.take (i + 1)).map (fun y => witB y.w)).flatten.length := by clear hwn hwi; rw [htf2]; have := HN.out; omega
        have HN2 := Lib.hid hN2
        have HCAL := Lib.hid hcal
        have HW := Lib.hid (Kd.F_now hT.w)
        obtain ⟨k1, rfl⟩ : ∃ k1, gk = k1 + 1 := ⟨gk - 1, by clear hwn hwi; have := HK.out; omega⟩
        have pp := eq_true p0
        have qq := eq_true q0
        have qb : decide (xi < (x.ins.length : Int)) = true := decide_eq_true q0
        clear p0 q0 hy hT hm htf htl ci hm2 htf2 hN2 hcal hl2 hwz
        go_wp2_with (go_at_call 55; go_must (refine (HCAL.out _ HW.out).mono ?_); rintro e w3 ⟨rfl, hD⟩; have hB : Below wr.heap.size wr w3 := (by obtain ⟨m_, rfl⟩ := hD.out; exact pw_below_drewN (Below.refl _ _) m_); have n0_ := Lib.hid (below_step HB.out hB); clear HB hB hD; have HB := n0_; clear n0_)
        go_roundg k1
        case measure => exact Nat.lt_succ_self _
        case rel => exact ⟨i + 1, n + m, xi + 1, (by first | rfl | (simp only [hwn]; done) | (rw [hwn])), (by first | rfl | (simp [hwi]; done)), Lib.hid (by clear hwn hwi; rw [HI.out]; omega), Lib.hid (by clear hwn hwi; have := HK.out; omega), HN2, HB⟩
      · have qb : decide (xi < (x.ins.length : Int)) = false := decide_eq_false (by rw [HI.out]; omega)
        have hN2 : n = n0 + 2 + L3 := by have := HN.out; rw [List.take_of_length_le (by omega), ← HL3.out] at this; exact this
        subst hN2
        clear ci HI HK HN
        go_wp2
        go_ret
        exact ⟨rfl, HB.out⟩
theorem bkB_len (k : BK) (wit : Bool) (lp : k.h.p.length = 32) (lr : k.h.r.length = 32) : (bkB k wit).length = 80 + (vi k.txs.length).length + (bkT k wit).length := by
  rw [bkB, hdB]; simp only [List.length_append, le_len, lp, lr]; omega
set_option maxHeartbeats 8000000 in
set_option maxRecDepth 100000 in
theorem bkStrip_calls {F : Nat → Prop} {w : World} {g : Nat} {k : BK} {A : Option Addr} {c : Nat} (h : BkF F w g k A c) (hok : OkB k) :
    Calls Try.prog 30 #[.pointer (some ⟨g, 0, none⟩)] w fun e w' => e = .returned (.int .i64 ((bkB k false).length : Int)) ∧ Below w.heap.size w w' := by
  have hc : ∀ W, Below w.heap.size w W → W.cell? ⟨g, 68, none⟩ = some (.slice A k.txs.length c) := fun W hW => (h.below hW).cell 68 _ (mbc_68 _ _ h.lp h.lr)
  have HC := Lib.hid hc
  have H := Lib.hid h
  have OK := Lib.hid hok
  have hq1 := vi_len k.txs.length
  obtain ⟨q1, e1⟩ : ∃ q : Nat, (vi k.txs.length).length = q := ⟨_, rfl⟩
  have hlen := bkB_len k false h.lp h.lr
  obtain ⟨LT, hLT⟩ : ∃ LT, LT = (k.txs.map (fun x : TX => txB x (false && hasW x.ins))).flatten.length := ⟨_, rfl⟩
  have hlm : LT + 1024 ≤ 140737488355328 := by have := hok.lim false; rw [hLT]; change (k.txs.map (fun x : TX => txB x (false && hasW x.ins))).flatten.length + _ + _ ≤ _ at this; omega
  change (bkB k false).length = 80 + _ + (k.txs.map (fun x : TX => txB x (false && hasW x.ins))).flatten.length at hlen
  rw [e1, ← hLT] at hlen
  rw [e1] at hq1
  have V1 := Lib.hid (e1 ▸ vs_calls (k.txs.length : Int))
  rw [hlen]
  have HLT := Lib.hid hLT
  have HLM := Lib.hid hlm
  have HQ1 := Lib.hid hq1
  have hw0 : wrap64 (80 + (q1 : Int)) = ((80 + q1 : Nat) : Int) := by rw [wrap64_id (by omega) (by omega)]; omega
  have hw1 : IntKind.u64.wrap (k.txs.length : Int) = k.txs.length := by clear hw0; exact u64_id (by omega) (by have := hok.n; omega)
  have hw2 : (k.txs.length : Int) % 18446744073709551616 = k.txs.length := by clear hw0 hw1; have := hok.n; omega
  have z1 := hc w (Below.refl _ _)
  clear hc h hok hq1 e1 hLT hlen hlm
  go_enter Try.func30, Try.ntmps30
  go_wp2_with (go_at_call 44; go_must (refine (V1.out _).mono ?_); rintro e w3 ⟨rfl, hB⟩; have HB := Lib.hid hB; clear hB z1; have z1 := HC.out _ HB.out)
  go_loopg [3, 19] (k.txs.length + 1) (fun kq v3 v19 w' => ∃ (i n : Nat) (xi : Int), v3 = .int .i64 (n : Int) ∧ v19 = .int .i64 xi ∧ Hid (xi = (i : Int)) ∧ Hid (i + kq = k.txs.length + 1) ∧ Hid (n = 80 + q1 + ((k.txs.take i).map (fun x : TX => txB x (false && hasW x.ins))).flatten.length) ∧ Hid (Below w.heap.size w w'))
  case atStart => exact ⟨0, 80 + q1, 0, (by first | rfl | (simp only [hw0]; done) | (rw [hw0])), rfl, Lib.hid rfl, Lib.hid (Nat.zero_add _), Lib.hid (by simp), HB⟩
  case round =>
    clear z1 HB hw0
    obtain ⟨i, n, xi, rfl, rfl, HI, HK, HN, HB⟩ := hrel
    by_cases ci : i < k.txs.length
    · have p0 : 0 ≤ xi := by rw [HI.out]; omega
      have q0 : xi < (k.txs.length : Int) := by rw [HI.out]; omega
      obtain ⟨ad, g1, A1, c1, A2, c2, rfl, hp, hT⟩ := mx_at (H.out.below HB.out).txs xi p0 q0
      have hm := OK.out.ok _ (rdX_mem k.txs xi p0 q0)
      have htf := take_flat (fun x : TX => txB x (false && hasW x.ins)) k.txs zTX i ci
      have htl := take_len (fun x : TX => txB x (false && hasW x.ins)) k.txs zTX i ci
      rw [show k.txs.getD i zTX = rdX k.txs xi from by rw [rdX, HI.out]; rfl] at htf htl
      obtain ⟨y, hy⟩ : ∃ y, rdX k.txs xi = y := ⟨_, rfl⟩
      rw [hy] at hT hm htf htl
      have hcal := strip_calls hT hm.2.1 (lens_of hm.1) hm.2.2
      obtain ⟨m, hm2⟩ : ∃ m, (txB y (false && hasW y.ins)).length = m := ⟨_, rfl⟩
      change Calls Try.prog 45 #[.pointer (some ⟨g1, 0, none⟩)] wr fun e w' => e = .returned (.int .i64 ((txB y (false && hasW y.ins)).length : Int)) ∧ Below wr.heap.size wr w' at hcal
      change _ + (txB y (false && hasW y.ins)).length ≤ _ at htl
      rw [hm2] at hcal htl
      have htf2 : ((k.txs.take (i + 1)).map (fun x : TX => txB x (false && hasW x.ins))).flatten.length = ((k.txs.take i).map (fun x : TX => txB x (false && hasW x.ins))).flatten.length + m := by rw [htf, List.length_append]; show _ + (txB y (false && hasW y.ins)).length = _; rw [hm2]
      have hwn : wrap64 ((n : Int) + (m : Int)) = ((n + m : Nat) : Int) := w64n (by have := HLM.out; have := HN.out; have := HQ1.out; rw [← HLT.out] at htl; omega)
      have hwi : wrap64 (xi + 1) = xi + 1 := by clear hwn; have := OK.out.n; exact wrap64_id (by omega) (by omega)
      have hN2 : n + m = 80 + q1 + ((k.txs.take (i + 1)).map (fun x : TX => txB x (false && hasW x.ins))).flatten.length := by clear hwn hwi; rw [htf2]; have := HN.out; omega
      have HN2 := Lib.hid hN2
      have HCAL := Lib.hid hcal
      obtain ⟨k1, rfl⟩ : ∃ k1, gk = k1 + 1 := ⟨gk - 1, by clear hwn hwi; have := HK.out; omega⟩
      have pp := eq_true p0
      have qq := eq_true q0
      have qb : decide (xi < (k.txs.length : Int)) = true := decide_eq_true q0
      clear p0 q0 hy hT hm htf htl ci hm2 htf2 hN2 hcal
      go_wp2_with (go_at_call 45; go_must (refine HCAL.out.mono ?_); rintro e w3 ⟨rfl, hB⟩; have n0_ := Lib.hid (below_step HB.out hB); clear HB hB; have HB := n0_; clear n0_)
      go_roundg k1
      case measure => exact Nat.lt_succ_self _
      case rel => exact ⟨i + 1, n + m, xi + 1, (by first | rfl | (simp only [hwn]; done) | (rw [hwn])), (by first | rfl | (simp [hwi]; done)), Lib.hid (by clear hwn hwi; rw [HI.out]; omega), Lib.hid (by clear hwn hwi; have := HK.out; omega), HN2, HB⟩
    · have qb : decide (xi < (k.txs.length : Int)) = false := decide_eq_false (by rw [HI.out]; omega)
      have hN2 : n = 80 + q1 + LT := by have := HN.out; rw [List.take_of_length_le (by omega), ← HLT.out] at this; exact this
      subst hN2
      clear ci HI HK HN
      go_wp2
      go_ret
      exact ⟨rfl, HB.out⟩
set_option maxHeartbeats 8000000 in
set_option maxRecDepth 100000 in
theorem bkFull_calls {F : Nat → Prop} {w : World} {g : Nat} {k : BK} {A : Option Addr} {c : Nat} (h : BkF F w g k A c) (hok : OkB k) :
    Calls Try.prog 31 #[.pointer (some ⟨g, 0, none⟩)] w fun e w' => e = .returned (.int .i64 ((bkB k true).length : Int)) ∧ Below w.heap.size w w' := by
  have hc : ∀ W, Below w.heap.size w W → W.cell? ⟨g, 68, none⟩ = some (.slice A k.txs.length c) := fun W hW => (h.below hW).cell 68 _ (mbc_68 _ _ h.lp h.lr)
  have HC := Lib.hid hc
  have H := Lib.hid h
  have OK := Lib.hid hok
  have hq1 := vi_len k.txs.length
  obtain ⟨q1, e1⟩ : ∃ q : Nat, (vi k.txs.length).length = q := ⟨_, rfl⟩
  have hlen := bkB_len k true h.lp h.lr
  obtain ⟨LT, hLT⟩ : ∃ LT, LT = (k.txs.map (fun x : TX => txB x (true && hasW x.ins))).flatten.length := ⟨_, rfl⟩
  have hlm : LT + 1024 ≤ 140737488355328 := by have := hok.lim true; rw [hLT]; change (k.txs.map (fun x : TX => txB x (true && hasW x.ins))).flatten.length + _ + _ ≤ _ at this; omega
  change (bkB k true).length = 80 + _ + (k.txs.map (fun x : TX => txB x (true && hasW x.ins))).flatten.length at hlen
  rw [e1, ← hLT] at hlen
  rw [e1] at hq1
  have V1 := Lib.hid (e1 ▸ vs_calls (k.txs.length : Int))
  rw [hlen]
  have HLT := Lib.hid hLT
  have HLM := Lib.hid hlm
  have HQ1 := Lib.hid hq1
  have hw0 : wrap64 (80 + (q1 : Int)) = ((80 + q1 : Nat) : Int) := by rw [wrap64_id (by omega) (by omega)]; omega
  have hw1 : IntKind.u64.wrap (k.txs.length : Int) = k.txs.length := by clear hw0; exact u64_id (by omega) (by have := hok.n; omega)
  have hw2 : (k.txs.length : Int) % 18446744073709551616 = k.txs.length := by clear hw0 hw1; have := hok.n; omega
  have z1 := hc w (Below.refl _ _)
  clear hc h hok hq1 e1 hLT hlen hlm
  go_enter Try.func31, Try.ntmps31
  go_wp2_with (go_at_call 44; go_must (refine (V1.out _).mono ?_); rintro e w3 ⟨rfl, hB⟩; have HB := Lib.hid hB; clear hB z1; have z1 := HC.out _ HB.out)
  go_loopg [3, 19] (k.txs.length + 1) (fun kq v3 v19 w' => ∃ (i n : Nat) (xi : Int), v3 = .int .i64 (n : Int) ∧ v19 = .int .i64 xi ∧ Hid (xi = (i : Int)) ∧ Hid (i + kq = k.txs.length + 1) ∧ Hid (n = 80 + q1 + ((k.txs.take i).map (fun x : TX => txB x (true && hasW x.ins))).flatten.length) ∧ Hid (Below w.heap.size w w'))
  case atStart => exact ⟨0, 80 + q1, 0, (by first | rfl | (simp only [hw0]; done) | (rw [hw0])), rfl, Lib.hid rfl, Lib.hid (Nat.zero_add _), Lib.hid (by simp), HB⟩
  case round =>
    clear z1 HB hw0
    obtain ⟨i, n, xi, rfl, rfl, HI, HK, HN, HB⟩ := hrel
    by_cases ci : i < k.txs.length
    · have p0 : 0 ≤ xi := by rw [HI.out]; omega
      have q0 : xi < (k.txs.length : Int) := by rw [HI.out]; omega
      obtain ⟨ad, g1, A1, c1, A2, c2, rfl, hp, hT⟩ := mx_at (H.out.below HB.out).txs xi p0 q0
      have hm := OK.out.ok _ (rdX_mem k.txs xi p0 q0)
      have htf := take_flat (fun x : TX => txB x (true && hasW x.ins)) k.txs zTX i ci
      have htl := take_len (fun x : TX => txB x (true && hasW x.ins)) k.txs zTX i ci
      rw [show k.txs.getD i zTX = rdX k.txs xi from by rw [rdX, HI.out]; rfl] at htf htl
      obtain ⟨y, hy⟩ : ∃ y, rdX k.txs xi = y := ⟨_, rfl⟩
      rw [hy] at hT hm htf htl
      have hcal := full_calls hT hm.2.1 (lens_of hm.1) hm.2.2
      obtain ⟨m, hm2⟩ : ∃ m, (txB y (true && hasW y.ins)).length = m := ⟨_, rfl⟩
      change Calls Try.prog 46 #[.pointer (some ⟨g1, 0, none⟩)] wr fun e w' => e = .returned (.int .i64 ((txB y (true && hasW y.ins)).length : Int)) ∧ Below wr.heap.size wr w' at hcal
      change _ + (txB y (true && hasW y.ins)).length ≤ _ at htl
      rw [hm2] at hcal htl
      have htf2 : ((k.txs.take (i + 1)).map (fun x : TX => txB x (true && hasW x.ins))).flatten.length = ((k.txs.take i).map (fun x : TX => txB x (true && hasW x.ins))).flatten.length + m := by rw [htf, List.length_append]; show _ + (txB y (true && hasW y.ins)).length = _; rw [hm2]
      have hwn : wrap64 ((n : Int) + (m : Int)) = ((n + m : Nat) : Int) := w64n (by have := HLM.out; have := HN.out; have := HQ1.out; rw [← HLT.out] at htl; omega)
      have hwi : wrap64 (xi + 1) = xi + 1 := by clear hwn; have := OK.out.n; exact wrap64_id (by omega) (by omega)
      have hN2 : n + m = 80 + q1 + ((k.txs.take (i + 1)).map (fun x : TX => txB x (true && hasW x.ins))).flatten.length := by clear hwn hwi; rw [htf2]; have := HN.out; omega
      have HN2 := Lib.hid hN2
      have HCAL := Lib.hid hcal
      obtain ⟨k1, rfl⟩ : ∃ k1, gk = k1 + 1 := ⟨gk - 1, by clear hwn hwi; have := HK.out; omega⟩
      have pp := eq_true p0
      have qq := eq_true q0
      have qb : decide (xi < (k.txs.length : Int)) = true := decide_eq_true q0
      clear p0 q0 hy hT hm htf htl ci hm2 htf2 hN2 hcal
      go_wp2_with (go_at_call 46; go_must (refine HCAL.out.mono ?_); rintro e w3 ⟨rfl, hB⟩; have n0_ := Lib.hid (below_step HB.out hB); clear HB hB; have HB := n0_; clear n0_)
      go_roundg k1
      case measure => exact Nat.lt_succ_self _
      case rel => exact ⟨i + 1, n + m, xi + 1, (by first | rfl | (simp only [hwn]; done) | (rw [hwn])), (by first | rfl | (simp [hwi]; done)), Lib.hid (by clear hwn hwi; rw [HI.out]; omega), Lib.hid (by clear hwn hwi; have := HK.out; omega), HN2, HB⟩
    · have qb : decide (xi < (k.txs.length : Int)) = false := decide_eq_false (by rw [HI.out]; omega)
      have hN2 : n = 80 + q1 + LT := by have := HN.out; rw [List.take_of_length_le (by omega), ← HLT.out] at this; exact this
      subst hN2
      clear ci HI HK HN
      go_wp2
      go_ret
      exact ⟨rfl, HB.out⟩
set_option maxHeartbeats 4000000 in
set_option maxRecDepth 100000 in
theorem sizes_calls (k : BK) (A : Option Addr) (c : Nat) (w : World) (h : BkIn w k A c) (hf : fit9 k.txs = true) (hok : OkB k) :
    Calls Try.prog 12 #[.agg (bkc k A c).toArray] w fun e w' => e = .returned (.tuple #[.int .i64 ((bkB k false).length : Int), .int .i64 ((bkB k true).length : Int)]) ∧ Below w.heap.size w w' := by
  have hln := bkc_len k A c h.lp h.lr
  have hbo := fun W (hW : Below w.heap.size w W) => bkOf_calls k A c W (h.below hW) hok.h.t hf
  obtain ⟨cs, hcs⟩ : ∃ cs, (bkc k A c).toArray = cs := ⟨_, rfl⟩
  have HZ := Lib.hid (show cs.size = 69 from by rw [← hcs]; simpa using hln)
  rw [hcs] at hbo ⊢
  have HO := Lib.hid hbo
  obtain ⟨n1, hn1⟩ : ∃ n, (bkB k false).length = n := ⟨_, rfl⟩
  obtain ⟨n2, hn2⟩ : ∃ n, (bkB k true).length = n := ⟨_, rfl⟩
  have C1 := Lib.hid (show ∀ (F : Nat → Prop) (w : World) (g : Nat) (A : Option Addr) (c : Nat), BkF F w g k A c → Calls Try.prog 30 #[.pointer (some ⟨g, 0, none⟩)] w fun e w' => e = .returned (.int .i64 (n1 : Int)) ∧ Below w.heap.size w w' from fun F w g A c h => hn1 ▸ bkStrip_calls h hok)
  have C2 := Lib.hid (show ∀ (F : Nat → Prop) (w : World) (g : Nat) (A : Option Addr) (c : Nat), BkF F w g k A c → Calls Try.prog 31 #[.pointer (some ⟨g, 0, none⟩)] w fun e w' => e = .returned (.int .i64 (n2 : Int)) ∧ Below w.heap.size w w' from fun F w g A c h => hn2 ▸ bkFull_calls h hok)
  rw [hn1, hn2]
  clear hcs h hf hok hbo hln hn1 hn2
  go_enter Try.func12, Try.ntmps12
  go_wp2_with (first
    | (refine wpList_load_list rfl 38 (.tmp 1) rfl ⟨w.heap.size, 0, none⟩ rfl cs.toList _ (box_lies (Below.refl _ _)) Try.underlying38 rfl ?aI ?_; go_must (case aI => rw [Array.length_toList, HZ.out]; rfl); go_must (simp only [Array.toArray_toList]))
    | (go_at_call 29; go_must (refine (HO.out _ (below_alloc (Below.refl _ _) _)).mono ?_); rintro e w1 ⟨g, A9, c9, rfl, hS, hB⟩; have HS := Lib.hid hS; have HB := Lib.hid (below_step (below_alloc (Below.refl _ _) _) hB); clear hB hS)
    | (go_at_call 30; go_must (refine (C1.out _ _ g A9 c9 HS.out).mono ?_); rintro e w2 ⟨rfl, hB⟩; have HS2 := Lib.hid (HS.out.below hB); have n0_ := Lib.hid (below_step HB.out hB); clear HB hB HS; have HB := n0_; clear n0_)
    | (go_at_call 31; go_must (refine (C2.out _ _ g A9 c9 HS2.out).mono ?_); rintro e w3 ⟨rfl, hB⟩; have n0_ := Lib.hid (below_step HB.out hB); clear HB hB; have HB := n0_; clear n0_))
  refine bodyPost_ret (results_tmp2 rfl _ _ _) rfl ?_
  exact ⟨rfl, HB.out⟩
end Go.Proofs.Ytdjchplaeipgpaa.Wire
