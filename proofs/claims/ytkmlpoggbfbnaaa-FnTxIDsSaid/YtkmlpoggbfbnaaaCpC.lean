/-
  impl.ofTx: a transaction by value is made of one of wire's.
-/
import Derived.Test.YtkmlpoggbfbnaaaCpB
namespace Go.Proofs.Ytkmlpoggbfbnaaa.Wire
open Go.RowKit Go.Proofs.YtkmlpoggbfbnaaaW.PrintWords Go.Proofs.YtkmlpoggbfbnaaaW.PrintLast Go.Proofs.Ytkmlpoggbfbnaaa.Reg Go.Proofs.Ytkmlpoggbfbnaaa.Buf Go.Proofs.Ytkmlpoggbfbnaaa.Tx
open Go.Proofs.Ytkmlpoggbfbnaaa.Sh (wp_world)
set_option linter.unusedSimpArgs false
set_option linter.unusedVariables false

/-- On the way: the result's block B0, the transaction M that is being made. -/
structure Wo (w0 w : World) (B0 M : Nat) (x : TX) (v1 v2 : Value) (l1 : List TI) (l2 : List PFnTxIDs.S45) : Prop where
  B : Below w0.heap.size w0 w
  res : ∃ z : Array Value, z.size = 4 ∧ w.heap[B0]? = some (.cells z 26 (0, 0))
  blk : w.heap[M]? = some (.cells #[.int .i32 x.v, v1, v2, .int .u32 x.k] 26 (0, 0))
  ins : kTI.R 43 w w0.heap.size (fun k => k ≠ M ∧ k ≠ B0) v1 l1
  outs : PFnTxIDs.k45.R 45 w w0.heap.size (fun k => k ≠ M ∧ k ≠ B0) v2 l2
section
variable {w0 w w1 : World} {B0 M : Nat} {x : TX} {v1 v1' v2 v2' : Value} {l1 l1' : List TI} {l2 l2' : List PFnTxIDs.S45}
theorem Wo.below (h : Wo w0 w B0 M x v1 v2 l1 l2) (hb : Below w.heap.size w w1) : Wo w0 w1 B0 M x v1 v2 l1 l2 := by
  obtain ⟨z, hz, hr⟩ := h.res
  exact ⟨below_then h.B h.B.size hb, ⟨z, hz, blk_below hr hb⟩, (hb.block _ (blk_lt h.blk)).trans h.blk, Kd.R_below h.ins hb, Kd.R_below h.outs hb⟩
theorem Wo.ne (h : Wo w0 w B0 M x v1 v2 l1 l2) : some M ≠ v1.ownBlock ∧ some B0 ≠ v1.ownBlock ∧ some M ≠ v2.ownBlock ∧ some B0 ≠ v2.ownBlock :=
  ⟨fun e => (h.ins.1 _ e.symm).1 rfl, fun e => (h.ins.1 _ e.symm).2 rfl, fun e => (h.outs.1 _ e.symm).1 rfl, fun e => (h.outs.1 _ e.symm).2 rfl⟩
theorem Wo.push1 (h : Wo w0 w B0 M x v1 (.slice none 0 0) l1 []) (hR : kTI.R 43 w1 w0.heap.size (fun k => k ≠ M ∧ k ≠ B0) v1' l1') (hB : Below w0.heap.size w0 w1) (hg : w.grownBy w1 v1.ownBlock) (hM : w0.heap.size ≤ M) (hne : B0 ≠ M) : Wo w0 (w1.setCell ⟨M, 1, none⟩ v1') B0 M x v1' (.slice none 0 0) l1' [] := by
  obtain ⟨z, hz, hr⟩ := h.res
  exact ⟨below_set hB hM, ⟨z, hz, blk_far (blk_grown hr hg h.ne.2.1) hne _⟩, blk_put (blk_grown h.blk hg h.ne.1) 1 v1' rfl, Kd.R_far hR (fun k hk => hk.1) v1', Kd.R_nil _ _ _ _ _⟩
theorem Wo.push2 (h : Wo w0 w B0 M x v1 v2 l1 l2) (hR : PFnTxIDs.k45.R 45 w1 w0.heap.size (fun k => k ≠ M ∧ k ≠ B0) v2' l2') (hB : Below w0.heap.size w0 w1) (hg : w.grownBy w1 v2.ownBlock) (hM : w0.heap.size ≤ M) (hne : B0 ≠ M) : Wo w0 (w1.setCell ⟨M, 2, none⟩ v2') B0 M x v1 v2' l1 l2' := by
  obtain ⟨z, hz, hr⟩ := h.res
  exact ⟨below_set hB hM, ⟨z, hz, blk_far (blk_grown hr hg h.ne.2.2.2) hne _⟩, blk_put (blk_grown h.blk hg h.ne.2.2.1) 2 v2' rfl,
    Kd.R_far (Kd.R_over' h.ins (Kd.R_typed h.outs) (by decide) hg) (fun k hk => hk.1) v2', Kd.R_far hR (fun k hk => hk.1) v2'⟩
end
theorem info_ti : (Try.prog.info? 43).map (fun i => (i.zero, i.size, i.bytes)) = some (some (.agg (opc (List.replicate 32 0) 0 ++ ([Value.slice none 0 0, Value.slice none 0 0, Value.int .u32 0] : List Value)).toArray), kTI.sz, 96) := by kernel_rfl
theorem info_to : (Try.prog.info? 45).map (fun i => (i.zero, i.size, i.bytes)) = some (some (.agg #[.int .i64 0, .slice none 0 0]), PFnTxIDs.k45.sz, 32) := by kernel_rfl
theorem built_iop (h : List Int) (i : Int) (hl : h.length = 32) : Try.prog.built 39 [(0, .agg (hv h).toArray), (1, .int .u32 i)] = some (opc h i).toArray := by
  obtain ⟨a0, a1, a2, a3, a4, a5, a6, a7, a8, a9, a10, a11, a12, a13, a14, a15, a16, a17, a18, a19, a20, a21, a22, a23, a24, a25, a26, a27, a28, a29, a30, a31, rfl⟩ := list32 h hl
  kernel_rfl
theorem built_iti (h : List Int) (i : Int) (hl : h.length = 32) (A : Option Addr) (n c : Nat) (A' : Option Addr) (n' c' : Nat) (q : Int) : Try.prog.built 43 [(0, .agg (opc h i).toArray), (1, .slice A n c), (2, .slice A' n' c'), (3, .int .u32 q)] = some (opc h i ++ ([Value.slice A n c, Value.slice A' n' c', Value.int .u32 q] : List Value)).toArray := by
  obtain ⟨a0, a1, a2, a3, a4, a5, a6, a7, a8, a9, a10, a11, a12, a13, a14, a15, a16, a17, a18, a19, a20, a21, a22, a23, a24, a25, a26, a27, a28, a29, a30, a31, rfl⟩ := list32 h hl
  kernel_rfl
theorem exec_bsl {P : Program} {o : Oper} {ev : Operand → Value} {W W' : World} {v : Value} (t : TypeId) (x : Operand) (ho : o.op = .buildSlice t 1 #[(0, x)]) (y : Value) (hx : ev x = y) (hb : (Instr.buildSlice t 1 #[(0, y)]).run P W = .ok v W') : (execOp ev o).run P W = .ok (.value v) W' := by
  unfold execOp
  simp only [ho]
  have e : (#[(0, x)] : Array (Nat × Operand)).map (fun (i, x) => (i, ev x)) = #[(0, y)] := by simp [hx]
  simp only [e, Sem.run_bind, hb, Result.andThen_ok]
  rfl
set_option maxRecDepth 100000 in
theorem bsl_ti (h : List Int) (i : Int) (hl : h.length = 32) (A : Option Addr) (n c : Nat) (A' : Option Addr) (n' c' : Nat) (q : Int) (W : World) : (Instr.buildSlice 22 1 #[(0, .agg (opc h i ++ ([Value.slice A n c, Value.slice A' n' c', Value.int .u32 q] : List Value)).toArray)]).run Try.prog W = .ok (.slice (some ⟨W.heap.size, 0, none⟩) 1 1) (W.alloc (.cells (opc h i ++ ([Value.slice A n c, Value.slice A' n' c', Value.int .u32 q] : List Value)).toArray 43)) := by
  obtain ⟨a0, a1, a2, a3, a4, a5, a6, a7, a8, a9, a10, a11, a12, a13, a14, a15, a16, a17, a18, a19, a20, a21, a22, a23, a24, a25, a26, a27, a28, a29, a30, a31, rfl⟩ := list32 h hl
  kernel_rfl
set_option maxHeartbeats 16000000 in
set_option maxRecDepth 100000 in
theorem ofTx_calls {F : Nat → Prop} {w : World} {g : Nat} {x : TX} {A1 : Option Addr} {c1 : Nat} {A2 : Option Addr} {c2 : Nat} (hx : TxF F w g x A1 c1 A2 c2) (hF : ∀ k, F k → k < w.heap.size) (hf : fit2 x = true) :
    Calls Try.prog 22 #[.pointer (some ⟨g, 0, none⟩)] w fun e w' => ∃ D1 d1 D2 d2, e = .returned (.agg (txc x D1 d1 D2 d2)) ∧ TxIn w' x D1 d1 D2 d2 ∧ (Kd.F kTI w' (fun k => w.heap.size < k) D1 x.ins.length x.ins ∧ Kd.F PFnTxIDs.k45 w' (fun k => w.heap.size < k) D2 x.outs.length x.outs) ∧ Below w.heap.size w w' := by
  have hfi : x.ins.length ≤ 2147483647 ∧ x.outs.length ≤ 2147483647 ∧ (∀ y ∈ x.ins, y.s.length ≤ 2147483647 ∧ y.w.length ≤ 2147483647 ∧ ∀ u ∈ y.w, u.length ≤ 2147483647) ∧ ∀ y ∈ x.outs, y.f1.length ≤ 2147483647 := by
    simp only [fit2, fit3, fit4, fit5, fit6, Bool.and_eq_true, decide_eq_true_eq, List.all_eq_true] at hf
    exact ⟨hf.1.1, hf.2.1, fun y hy => ⟨(hf.1.2 y hy).1, (hf.1.2 y hy).2.1, (hf.1.2 y hy).2.2⟩, hf.2.2⟩
  have HFI := Lib.hid hfi
  have z0 := (blk_cell hx.blk 0).trans rfl
  have z1 := (blk_cell hx.blk 1).trans rfl
  have z2 := (blk_cell hx.blk 2).trans rfl
  have z3 := (blk_cell hx.blk 3).trans rfl
  have hm : ∀ W : World, Below w.heap.size w W → W.cell? ⟨g, 0, none⟩ = some (.int .i32 x.v) ∧ W.cell? ⟨g, 1, none⟩ = some (.slice A1 x.ins.length c1) ∧ W.cell? ⟨g, 2, none⟩ = some (.slice A2 x.outs.length c2) ∧ W.cell? ⟨g, 3, none⟩ = some (.int .u32 x.k) := fun W hW => ⟨pw_cell_below hW z0, pw_cell_below hW z1, pw_cell_below hW z2, pw_cell_below hW z3⟩
  have HM := Lib.hid hm
  have HIN := Lib.hid hx.ins
  have HOUT := Lib.hid hx.outs
  have bm : Try.prog.built 26 [(0, .int .i32 x.v), (3, .int .u32 x.k)] = some #[.int .i32 x.v, .slice none 0 0, .slice none 0 0, .int .u32 x.k] := by kernel_rfl
  have BM := Lib.hid bm
  have BO := Lib.hid (show (#[Value.int .i32 x.v, .slice none 0 0, .slice none 0 0, .int .u32 x.k] : Array Value).all (·.oneCell') = true by simp [Value.oneCell'])
  clear hfi hm hx hF hf bm z0 z1 z2 z3
  go_enter Try.func22, Try.ntmps22
  go_upto_region 1 with fail
  refine wp_world (fun W0 hW => ?_)
  obtain ⟨zc, hz4, hzc⟩ : ∃ z : Array Value, z.size = 4 ∧ w.alloc (.cells z 26) = W0 := ⟨_, rfl, hW⟩
  have HB0 := Lib.hid (show Below w.heap.size w W0 from hzc ▸ below_alloc (Below.refl _ _) _)
  have HG0 := Lib.hid (show W0.heap[w.heap.size]? = some (.cells zc 26 (0, 0)) from hzc ▸ heap_alloc_new _ _)
  have HS0 := Lib.hid (show W0.heap.size = w.heap.size + 1 from hzc ▸ by simp)
  have HZ4 := Lib.hid hz4
  clear hW hzc hz4
  refine start_ (n := 11) (S := fun w' => w'.cell? ⟨g, 0, none⟩ = some (.int .i32 x.v) ∧ w'.cell? ⟨g, 3, none⟩ = some (.int .u32 x.k)) (ds := [10]) #[false, false, false, false, false, false, false, false, false, false, false] (by kernel_rfl) rfl rfl ⟨(HM.out _ (below_drew HB0.out)).1, (HM.out _ (below_drew HB0.out)).2.2.2⟩ (fun hHeld => ?_)
  refine pure_ (i := 0) (N := some 7) (v := ?_) (a' := ?_) #[true, false, false, false, false, false, false, false, false, false, false] rfl rfl (by kernel_rfl) (fun _ _ _ h => h) (Or.inl ⟨by rfl, ?_⟩) ?_ ?_
  rotate_left
  · intro w'
    go_simp
    with_reducible rfl
  rotate_left
  · simp only [Act.put, List.setIfInBounds_toArray, List.set_cons_zero, List.set_cons_succ, i64_w, i32_w]
    rfl
  refine pure_ (i := 1) (N := some 8) (v := ?_) (a' := ?_) #[true, true, false, false, false, false, false, false, false, false, false] rfl rfl (by kernel_rfl) (fun _ _ _ h => h) (Or.inl ⟨by rfl, ?_⟩) ?_ ?_
  rotate_left
  · intro w'
    go_simp
    with_reducible rfl
  rotate_left
  · simp only [Act.put, List.setIfInBounds_toArray, List.set_cons_zero, List.set_cons_succ, i64_w, i32_w]
    rfl
  refine pure_ (i := 2) (N := some 9) (v := ?_) (a' := ?_) #[true, true, true, false, false, false, false, false, false, false, false] rfl rfl (by kernel_rfl) (fun _ _ _ h => h) (Or.inl ⟨by rfl, ?_⟩) ?_ ?_
  rotate_left
  · intro w'
    go_simp
    with_reducible rfl
  rotate_left
  · simp only [Act.put, List.setIfInBounds_toArray, List.set_cons_zero, List.set_cons_succ, i64_w, i32_w]
    rfl
  refine pure_ (i := 4) (N := some 11) (v := ?_) (a' := ?_) #[true, true, true, false, true, false, false, false, false, false, false] rfl rfl (by kernel_rfl) (fun _ _ _ h => h) (Or.inl ⟨by rfl, ?_⟩) ?_ ?_
  rotate_left
  · intro w'
    go_simp
    with_reducible rfl
  rotate_left
  · simp only [Act.put, List.setIfInBounds_toArray, List.set_cons_zero, List.set_cons_succ, i64_w, i32_w]
    rfl
  refine pure_ (i := 5) (N := some 12) (v := ?_) (a' := ?_) #[true, true, true, false, true, true, false, false, false, false, false] rfl rfl (by kernel_rfl) (fun _ _ _ h => h) (Or.inl ⟨by rfl, ?_⟩) ?_ ?_
  rotate_left
  · intro w'
    go_simp
    with_reducible rfl
  rotate_left
  · simp only [Act.put, List.setIfInBounds_toArray, List.set_cons_zero, List.set_cons_succ, i64_w, i32_w]
    rfl
  refine pure_ (i := 6) (N := some 13) (v := ?_) (a' := ?_) #[true, true, true, false, true, true, true, false, false, false, false] rfl rfl (by kernel_rfl) (fun _ _ _ h => h) (Or.inl ⟨by rfl, ?_⟩) ?_ ?_
  rotate_left
  · intro w'
    go_simp
    with_reducible rfl
  rotate_left
  · simp only [Act.put, List.setIfInBounds_toArray, List.set_cons_zero, List.set_cons_succ, i64_w, i32_w]
    rfl
  refine take_ (i := 3) (N := some 10) (v := ?_) (a' := ?_) #[true, true, true, true, true, true, true, false, false, false, false] rfl rfl (by kernel_rfl) (fun _ _ _ h => h) (Or.inl ⟨by rfl, ?_⟩) hHeld ?_ ?_
  rotate_left
  · rintro w' ⟨s0, s1⟩
    go_simp
    with_reducible rfl
  rotate_left
  · simp only [Act.put, List.setIfInBounds_toArray, List.set_cons_zero, List.set_cons_succ, i64_w, i32_w]
    rfl
  refine take_ (i := 7) (N := some 14) (v := ?_) (a' := ?_) #[true, true, true, true, true, true, true, true, false, false, false] rfl rfl (by kernel_rfl) (fun _ _ _ h => h) (Or.inl ⟨by rfl, ?_⟩) hHeld ?_ ?_
  rotate_left
  · rintro w' ⟨s0, s1⟩
    go_simp
    with_reducible rfl
  rotate_left
  · simp only [Act.put, List.setIfInBounds_toArray, List.set_cons_zero, List.set_cons_succ, i64_w, i32_w]
    rfl
  refine pure_ (i := 8) (N := some 15) (v := ?_) (a' := ?_) #[true, true, true, true, true, true, true, true, true, false, false] rfl rfl (by kernel_rfl) (fun _ _ _ h => h) (Or.inl ⟨by rfl, ?_⟩) ?_ ?_
  rotate_left
  · intro w'
    refine (exec_made w' 26 #[(0, .tmp 10), (3, .tmp 14)] (by rfl) _ (by simp [Act.eval]) _ BM.out).trans ?_
    with_reducible rfl
  rotate_left
  · simp only [Act.put, List.setIfInBounds_toArray, List.set_cons_zero, List.set_cons_succ, i64_w, i32_w]
    rfl
  refine one_ (i := 9) (N := some 3) #[true, true, true, true, true, true, true, true, true, true, false] rfl rfl (by kernel_rfl) (by decide) (fun K hK => ?_)
  refine value_ (w1 := ?_) (v := ?_) (by rfl) rfl ?_ ?_
  rotate_left 2
  · go_simp
    constructor
    · rfl
    · rfl
  refine hK.out _ _ ⟨(HM.out _ (below_then HB0.out HB0.out.size (below_alloc (below_drew (Below.refl _ _)) _))).1, (HM.out _ (below_then HB0.out HB0.out.size (below_alloc (below_drew (Below.refl _ _)) _))).2.2.2⟩ (fun hHeld => ?_)
  clear hK K
  refine norm_ (a' := ?_) ?_ ?_
  rotate_left
  · show Act.put _ (some 3) _ = _
    simp only [Act.put, List.setIfInBounds_toArray, List.set_cons_zero, List.set_cons_succ, i64_w, i32_w]
    rfl
  refine last_ (i := 10) (N := none) #[true, true, true, true, true, true, true, true, true, true, true] rfl rfl (by kernel_rfl) (by decide) (fun K hK => ?_)
  refine step_store_row (by rfl) 26 (.tmp 3) (.tmp 15) rfl W0.heap.size #[.int .i32 x.v, .slice none 0 0, .slice none 0 0, .int .u32 x.k] rfl rfl 26 _ (heap_alloc_new _ _) rfl rfl BO.out ?_
  refine hK.out _ _ ?_
  clear hK K
  refine done_ (by kernel_rfl) ?_
  go_upto_region 2 with fail
  refine wp_world (fun W1 hW => ?_)
  obtain ⟨M, hM⟩ : ∃ M, W0.heap.size = M := ⟨_, rfl⟩
  have HMM := Lib.hid (show M = w.heap.size + 1 from hM ▸ HS0.out)
  have HP0 := Lib.hid (show Wo w W1 w.heap.size M x (.slice none 0 0) (.slice none 0 0) [] [] from by
    have hb : Below W0.heap.size W0 W1 := hW ▸ below_setRow (below_alloc (below_drew (Below.refl _ _)) _) (Nat.le_refl _) _
    exact ⟨below_then HB0.out HB0.out.size hb, ⟨zc, HZ4.out, blk_below HG0.out hb⟩, by rw [← hW, ← hM]; exact setRow_heap _ _ _ _ _ _ (heap_alloc_new _ _), Kd.R_nil _ _ _ _ _, Kd.R_nil _ _ _ _ _⟩)
  rw [hM]
  clear hW hM HB0 HG0 HS0 HZ4 BM BO
  go_upto_region 2 with fail
  go_wp2
  go_loopg [4] (x.ins.length + 1) (fun kq v4 w' => ∃ (i : Nat) (xi : Int) (v1 : Value), v4 = .int .i64 xi ∧ Hid (xi = (i : Int)) ∧ Hid (i + kq = x.ins.length + 1) ∧ Hid (Wo w w' w.heap.size M x v1 (.slice none 0 0) (x.ins.take i) []))
  case atStart => exact ⟨0, 0, .slice none 0 0, rfl, Lib.hid rfl, Lib.hid (Nat.zero_add _), HP0⟩
  case round =>
    obtain ⟨i, xi, v1, rfl, HI, HK, HP⟩ := hrel
    have m1 := (HM.out wr HP.out.B).2.1
    by_cases ci : i < x.ins.length
    · have p0 : 0 ≤ xi := by rw [HI.out]; omega
      have q0 : xi < (x.ins.length : Int) := by rw [HI.out]; omega
      obtain ⟨ad, g1, cs, B1, d1, B2, d2, rfl, hc, hti, hl2⟩ := in_at HIN.out xi p0 q0
      have hw1 : wrap64 (xi + 1) = xi + 1 := by have := HFI.out.1; exact wrap64_id (by omega) (by omega)
      have hmem : rdT x.ins xi ∈ x.ins := by
        rw [rdT, List.getD_eq_getElem?_getD, List.getElem?_eq_getElem (show xi.toNat < x.ins.length by omega)]
        exact List.getElem_mem _
      have hyf := HFI.out.2.2.1 _ hmem
      have htk : x.ins.take (i + 1) = x.ins.take i ++ [rdT x.ins xi] := by
        rw [List.take_add_one, HI.out, rdT]; simp [ci]
      obtain ⟨y, hy⟩ : ∃ y, rdT x.ins xi = y := ⟨_, rfl⟩
      rw [hy] at hti hl2 hyf htk
      obtain ⟨k1, rfl⟩ : ∃ k1, gk = k1 + 1 := ⟨gk - 1, by have := HK.out; omega⟩
      have pp := eq_true p0
      have qq := eq_true q0
      have qb : decide (xi < (x.ins.length : Int)) = true := decide_eq_true q0
      have hcr := pw_cell_below HP.out.B hc
      have L1 := Lib.hid hti.cap
      have L2 := Lib.hid hl2
      have HYF := Lib.hid hyf
      have HTK := Lib.hid htk
      have HL := Lib.hid hti.hl
      have G1 := Lib.hid (hti.s w (fun _ _ _ => rfl))
      have G2 := Lib.hid (hti.w w (fun _ _ _ => rfl))
      have hcell : ∀ (W : World), Below w.heap.size w W → ∀ (j : Nat) (v : Value), (tic y B1 d1 B2 d2)[j]? = some v → W.cell? ⟨g1, j, none⟩ = some v := fun W hW j v hj => pw_cell_below hW (hti.cell j v hj)
      have HWR := Lib.hid (below_size HP.out.B)
      have HOK := Lib.hid (show ∀ k, wr.heap.size ≤ k → (k ≠ M ∧ k ≠ w.heap.size) ∧ some k ≠ v1.ownBlock from fun k hk => ⟨⟨by have := blk_lt HP.out.blk; omega, by have := blk_lt HP.out.blk; have := HMM.out; omega⟩, fun e => by have := Kd.R_lt HP.out.ins k e.symm; omega⟩)
      have HP6 := Lib.hid (HP.out.below (below_drew (Below.refl _ _)))
      have HQ6 := Lib.hid (show wr.heap.size ≤ wr.drew.heap.size from Nat.le_refl _)
      have HS := Lib.hid (show ∀ W' : World, Below w.heap.size w W' → W'.heap[M]? = some (.cells #[.int .i32 x.v, v1, .slice none 0 0, .int .u32 x.k] 26 (0, 0)) →
          W'.cell? ⟨M, 1, none⟩ = some v1 ∧ Lies W' ⟨g1, 0, none⟩ (hv y.h) ∧ W'.cell? ⟨g1, 32, none⟩ = some (.int .u32 y.i) ∧ W'.cell? ⟨g1, 33, none⟩ = some (.slice B1 y.s.length d1) ∧ W'.cell? ⟨g1, 34, none⟩ = some (.slice B2 y.w.length d2) ∧ W'.cell? ⟨g1, 35, none⟩ = some (.int .u32 y.q) from fun W' hb h1 => by
        refine ⟨(blk_cell h1 1).trans rfl, fun j v hj => ?_, hcell W' hb 32 _ (tic_32 _ _ _ _ _ HL.out), hcell W' hb 33 _ (tic_33 _ _ _ _ _ HL.out), hcell W' hb 34 _ (tic_34 _ _ _ _ _ HL.out), hcell W' hb 35 _ (tic_35 _ _ _ _ _ HL.out)⟩
        have hjl := (List.getElem?_eq_some_iff.1 hj).1
        rw [Addr.add_mid, Nat.zero_add]
        exact hcell W' hb j v (by rw [tic, opc, List.append_assoc, List.getElem?_append_left hjl]; exact hj))
      have HCP := Lib.hid (show ∀ W : World, Below w.heap.size w W → Calls Try.prog 27 #[.slice B1 y.s.length d1] W fun e w' => ∃ v0, e = .returned v0 ∧ Kd.R (Kd.int .u8) 5 w' W.heap.size (fun _ => True) v0 y.s ∧ Below W.heap.size W w' from fun W hW => PFnTxIDs.impl_copied.calls B1 d1 y.s y.s W (Kd.C_below G1.out hW) L1.out (copied_eq _ HYF.out.1))
      have HCS8 := Lib.hid (show ∀ W : World, Below w.heap.size w W → Calls Try.prog 28 #[.slice B2 y.w.length d2] W fun e w' => ∃ v0, e = .returned v0 ∧ Kd.R (Kd.slice 5 (Kd.int .u8)) 40 w' W.heap.size (fun _ => True) v0 y.w ∧ Below W.heap.size W w' from fun W hW => (PFnTxIDs.impl_copies.calls (y.w.length + 1) B2 d2 y.w y.w W (Kd.C_below G2.out hW) L2.out (copies_eq _ HYF.out.2.1 HYF.out.2.2)).mono fun _ _ ⟨v, h1, h2, h3⟩ => ⟨v, h1, Kd.S_R h2, h3⟩)
      obtain ⟨O, hO⟩ : ∃ O : Array Value, (opc y.h y.i).toArray = O := ⟨_, rfl⟩
      have hbo := built_iop y.h y.i hti.hl
      rw [hO] at hbo
      have HBO := Lib.hid hbo
      have HO := Lib.hid hO
      clear hc hti hl2 hmem hyf htk hy p0 q0 ci hcell hbo hO
      go_upto_region 6 with fail
      refine start_ (n := 32) (S := fun w' => w'.cell? ⟨M, 1, none⟩ = some v1 ∧ Lies w' ⟨g1, 0, none⟩ (hv y.h) ∧ w'.cell? ⟨g1, 32, none⟩ = some (.int .u32 y.i) ∧ w'.cell? ⟨g1, 33, none⟩ = some (.slice B1 y.s.length d1) ∧ w'.cell? ⟨g1, 34, none⟩ = some (.slice B2 y.w.length d2) ∧ w'.cell? ⟨g1, 35, none⟩ = some (.int .u32 y.q)) (ds := [31]) #[false, false, false, false, false, false, false, false, false, false, false, false, false, false, false, false, false, false, false, false, false, false, false, false, false, false, false, false, false, false, false, false] (by kernel_rfl) rfl rfl ⟨(HS.out _ HP6.out.B HP6.out.blk).1, (HS.out _ HP6.out.B HP6.out.blk).2.1, (HS.out _ HP6.out.B HP6.out.blk).2.2.1, (HS.out _ HP6.out.B HP6.out.blk).2.2.2.1, (HS.out _ HP6.out.B HP6.out.blk).2.2.2.2.1, (HS.out _ HP6.out.B HP6.out.blk).2.2.2.2.2⟩ (fun hHeld => ?_)
      refine pure_ (i := 0) (N := some 32) (v := ?_) (a' := ?_) #[true, false, false, false, false, false, false, false, false, false, false, false, false, false, false, false, false, false, false, false, false, false, false, false, false, false, false, false, false, false, false, false] rfl rfl (by kernel_rfl) (fun _ _ _ h => h) (Or.inl ⟨by rfl, ?_⟩) ?_ ?_
      rotate_left
      · intro w'
        go_simp
        with_reducible rfl
      rotate_left
      · simp only [Act.put, List.setIfInBounds_toArray, List.set_cons_zero, List.set_cons_succ, i64_w, i32_w]
        rfl
      refine pure_ (i := 2) (N := some 34) (v := ?_) (a' := ?_) #[true, false, true, false, false, false, false, false, false, false, false, false, false, false, false, false, false, false, false, false, false, false, false, false, false, false, false, false, false, false, false, false] rfl rfl (by kernel_rfl) (fun _ _ _ h => h) (Or.inl ⟨by rfl, ?_⟩) ?_ ?_
      rotate_left
      · intro w'
        go_simp
        with_reducible rfl
      rotate_left
      · simp only [Act.put, List.setIfInBounds_toArray, List.set_cons_zero, List.set_cons_succ, i64_w, i32_w]
        rfl
      refine pure_ (i := 3) (N := some 35) (v := ?_) (a' := ?_) #[true, false, true, true, false, false, false, false, false, false, false, false, false, false, false, false, false, false, false, false, false, false, false, false, false, false, false, false, false, false, false, false] rfl rfl (by kernel_rfl) (fun _ _ _ h => h) (Or.inl ⟨by rfl, ?_⟩) ?_ ?_
      rotate_left
      · intro w'
        go_simp
        with_reducible rfl
      rotate_left
      · simp only [Act.put, List.setIfInBounds_toArray, List.set_cons_zero, List.set_cons_succ, i64_w, i32_w]
        rfl
      refine pure_ (i := 4) (N := some 36) (v := ?_) (a' := ?_) #[true, false, true, true, true, false, false, false, false, false, false, false, false, false, false, false, false, false, false, false, false, false, false, false, false, false, false, false, false, false, false, false] rfl rfl (by kernel_rfl) (fun _ _ _ h => h) (Or.inl ⟨by rfl, ?_⟩) ?_ ?_
      rotate_left
      · intro w'
        go_simp
        with_reducible rfl
      rotate_left
      · simp only [Act.put, List.setIfInBounds_toArray, List.set_cons_zero, List.set_cons_succ, i64_w, i32_w]
        rfl
      refine pure_ (i := 5) (N := some 37) (v := ?_) (a' := ?_) #[true, false, true, true, true, true, false, false, false, false, false, false, false, false, false, false, false, false, false, false, false, false, false, false, false, false, false, false, false, false, false, false] rfl rfl (by kernel_rfl) (fun _ _ _ h => h) (Or.inl ⟨by rfl, ?_⟩) ?_ ?_
      rotate_left
      · intro w'
        go_simp
        with_reducible rfl
      rotate_left
      · simp only [Act.put, List.setIfInBounds_toArray, List.set_cons_zero, List.set_cons_succ, i64_w, i32_w]
        rfl
      refine pure_ (i := 7) (N := some 39) (v := ?_) (a' := ?_) #[true, false, true, true, true, true, false, true, false, false, false, false, false, false, false, false, false, false, false, false, false, false, false, false, false, false, false, false, false, false, false, false] rfl rfl (by kernel_rfl) (fun _ _ _ h => h) (Or.inl ⟨by rfl, ?_⟩) ?_ ?_
      rotate_left
      · intro w'
        go_simp
        with_reducible rfl
      rotate_left
      · simp only [Act.put, List.setIfInBounds_toArray, List.set_cons_zero, List.set_cons_succ, i64_w, i32_w]
        rfl
      refine pure_ (i := 8) (N := some 40) (v := ?_) (a' := ?_) #[true, false, true, true, true, true, false, true, true, false, false, false, false, false, false, false, false, false, false, false, false, false, false, false, false, false, false, false, false, false, false, false] rfl rfl (by kernel_rfl) (fun _ _ _ h => h) (Or.inl ⟨by rfl, ?_⟩) ?_ ?_
      rotate_left
      · intro w'
        go_simp
        with_reducible rfl
      rotate_left
      · simp only [Act.put, List.setIfInBounds_toArray, List.set_cons_zero, List.set_cons_succ, i64_w, i32_w]
        rfl
      refine pure_ (i := 9) (N := some 41) (v := ?_) (a' := ?_) #[true, false, true, true, true, true, false, true, true, true, false, false, false, false, false, false, false, false, false, false, false, false, false, false, false, false, false, false, false, false, false, false] rfl rfl (by kernel_rfl) (fun _ _ _ h => h) (Or.inl ⟨by rfl, ?_⟩) ?_ ?_
      rotate_left
      · intro w'
        go_simp
        with_reducible rfl
      rotate_left
      · simp only [Act.put, List.setIfInBounds_toArray, List.set_cons_zero, List.set_cons_succ, i64_w, i32_w]
        rfl
      refine pure_ (i := 10) (N := some 42) (v := ?_) (a' := ?_) #[true, false, true, true, true, true, false, true, true, true, true, false, false, false, false, false, false, false, false, false, false, false, false, false, false, false, false, false, false, false, false, false] rfl rfl (by kernel_rfl) (fun _ _ _ h => h) (Or.inl ⟨by rfl, ?_⟩) ?_ ?_
      rotate_left
      · intro w'
        go_simp
        with_reducible rfl
      rotate_left
      · simp only [Act.put, List.setIfInBounds_toArray, List.set_cons_zero, List.set_cons_succ, i64_w, i32_w]
        rfl
      refine pure_ (i := 13) (N := some 45) (v := ?_) (a' := ?_) #[true, false, true, true, true, true, false, true, true, true, true, false, false, true, false, false, false, false, false, false, false, false, false, false, false, false, false, false, false, false, false, false] rfl rfl (by kernel_rfl) (fun _ _ _ h => h) (Or.inl ⟨by rfl, ?_⟩) ?_ ?_
      rotate_left
      · intro w'
        go_simp
        with_reducible rfl
      rotate_left
      · simp only [Act.put, List.setIfInBounds_toArray, List.set_cons_zero, List.set_cons_succ, i64_w, i32_w]
        rfl
      refine pure_ (i := 14) (N := some 46) (v := ?_) (a' := ?_) #[true, false, true, true, true, true, false, true, true, true, true, false, false, true, true, false, false, false, false, false, false, false, false, false, false, false, false, false, false, false, false, false] rfl rfl (by kernel_rfl) (fun _ _ _ h => h) (Or.inl ⟨by rfl, ?_⟩) ?_ ?_
      rotate_left
      · intro w'
        go_simp
        with_reducible rfl
      rotate_left
      · simp only [Act.put, List.setIfInBounds_toArray, List.set_cons_zero, List.set_cons_succ, i64_w, i32_w]
        rfl
      refine pure_ (i := 15) (N := some 47) (v := ?_) (a' := ?_) #[true, false, true, true, true, true, false, true, true, true, true, false, false, true, true, true, false, false, false, false, false, false, false, false, false, false, false, false, false, false, false, false] rfl rfl (by kernel_rfl) (fun _ _ _ h => h) (Or.inl ⟨by rfl, ?_⟩) ?_ ?_
      rotate_left
      · intro w'
        go_simp
        with_reducible rfl
      rotate_left
      · simp only [Act.put, List.setIfInBounds_toArray, List.set_cons_zero, List.set_cons_succ, i64_w, i32_w]
        rfl
      refine pure_ (i := 18) (N := some 50) (v := ?_) (a' := ?_) #[true, false, true, true, true, true, false, true, true, true, true, false, false, true, true, true, false, false, true, false, false, false, false, false, false, false, false, false, false, false, false, false] rfl rfl (by kernel_rfl) (fun _ _ _ h => h) (Or.inl ⟨by rfl, ?_⟩) ?_ ?_
      rotate_left
      · intro w'
        go_simp
        with_reducible rfl
      rotate_left
      · simp only [Act.put, List.setIfInBounds_toArray, List.set_cons_zero, List.set_cons_succ, i64_w, i32_w]
        rfl
      refine pure_ (i := 19) (N := some 51) (v := ?_) (a' := ?_) #[true, false, true, true, true, true, false, true, true, true, true, false, false, true, true, true, false, false, true, true, false, false, false, false, false, false, false, false, false, false, false, false] rfl rfl (by kernel_rfl) (fun _ _ _ h => h) (Or.inl ⟨by rfl, ?_⟩) ?_ ?_
      rotate_left
      · intro w'
        go_simp
        with_reducible rfl
      rotate_left
      · simp only [Act.put, List.setIfInBounds_toArray, List.set_cons_zero, List.set_cons_succ, i64_w, i32_w]
        rfl
      refine pure_ (i := 20) (N := some 52) (v := ?_) (a' := ?_) #[true, false, true, true, true, true, false, true, true, true, true, false, false, true, true, true, false, false, true, true, true, false, false, false, false, false, false, false, false, false, false, false] rfl rfl (by kernel_rfl) (fun _ _ _ h => h) (Or.inl ⟨by rfl, ?_⟩) ?_ ?_
      rotate_left
      · intro w'
        go_simp
        with_reducible rfl
      rotate_left
      · simp only [Act.put, List.setIfInBounds_toArray, List.set_cons_zero, List.set_cons_succ, i64_w, i32_w]
        rfl
      refine pure_ (i := 23) (N := some 55) (v := ?_) (a' := ?_) #[true, false, true, true, true, true, false, true, true, true, true, false, false, true, true, true, false, false, true, true, true, false, false, true, false, false, false, false, false, false, false, false] rfl rfl (by kernel_rfl) (fun _ _ _ h => h) (Or.inl ⟨by rfl, ?_⟩) ?_ ?_
      rotate_left
      · intro w'
        go_simp
        with_reducible rfl
      rotate_left
      · simp only [Act.put, List.setIfInBounds_toArray, List.set_cons_zero, List.set_cons_succ, i64_w, i32_w]
        rfl
      refine pure_ (i := 24) (N := some 56) (v := ?_) (a' := ?_) #[true, false, true, true, true, true, false, true, true, true, true, false, false, true, true, true, false, false, true, true, true, false, false, true, true, false, false, false, false, false, false, false] rfl rfl (by kernel_rfl) (fun _ _ _ h => h) (Or.inl ⟨by rfl, ?_⟩) ?_ ?_
      rotate_left
      · intro w'
        go_simp
        with_reducible rfl
      rotate_left
      · simp only [Act.put, List.setIfInBounds_toArray, List.set_cons_zero, List.set_cons_succ, i64_w, i32_w]
        rfl
      refine pure_ (i := 25) (N := some 57) (v := ?_) (a' := ?_) #[true, false, true, true, true, true, false, true, true, true, true, false, false, true, true, true, false, false, true, true, true, false, false, true, true, true, false, false, false, false, false, false] rfl rfl (by kernel_rfl) (fun _ _ _ h => h) (Or.inl ⟨by rfl, ?_⟩) ?_ ?_
      rotate_left
      · intro w'
        go_simp
        with_reducible rfl
      rotate_left
      · simp only [Act.put, List.setIfInBounds_toArray, List.set_cons_zero, List.set_cons_succ, i64_w, i32_w]
        rfl
      refine take_ (i := 1) (N := some 33) (v := ?_) (a' := ?_) #[true, true, true, true, true, true, false, true, true, true, true, false, false, true, true, true, false, false, true, true, true, false, false, true, true, true, false, false, false, false, false, false] rfl rfl (by kernel_rfl) (fun _ _ _ h => h) (Or.inl ⟨by rfl, ?_⟩) hHeld ?_ ?_
      rotate_left
      · rintro w' ⟨s0, s1, s2, s3, s4, s5⟩
        go_simp
        with_reducible rfl
      rotate_left
      · simp only [Act.put, List.setIfInBounds_toArray, List.set_cons_zero, List.set_cons_succ, i64_w, i32_w]
        rfl
      refine take_ (i := 6) (N := some 38) (v := ?_) (a' := ?_) #[true, true, true, true, true, true, true, true, true, true, true, false, false, true, true, true, false, false, true, true, true, false, false, true, true, true, false, false, false, false, false, false] rfl rfl (by kernel_rfl) (fun _ _ _ h => h) (Or.inl ⟨by rfl, ?_⟩) hHeld ?_ ?_
      rotate_left
      · rintro w' ⟨s0, s1, s2, s3, s4, s5⟩
        refine (exec_load_list 46 (.tmp 37) (by rfl) ⟨g1, 0, none⟩ (by rfl) (hv y.h) _ s1 Try.underlying46 rfl (by rw [hv_len, HL.out]; rfl)).trans ?_
        with_reducible rfl
      rotate_left
      · simp only [Act.put, List.setIfInBounds_toArray, List.set_cons_zero, List.set_cons_succ, i64_w, i32_w]
        rfl
      refine take_ (i := 11) (N := some 43) (v := ?_) (a' := ?_) #[true, true, true, true, true, true, true, true, true, true, true, true, false, true, true, true, false, false, true, true, true, false, false, true, true, true, false, false, false, false, false, false] rfl rfl (by kernel_rfl) (fun _ _ _ h => h) (Or.inl ⟨by rfl, ?_⟩) hHeld ?_ ?_
      rotate_left
      · rintro w' ⟨s0, s1, s2, s3, s4, s5⟩
        go_simp
        with_reducible rfl
      rotate_left
      · simp only [Act.put, List.setIfInBounds_toArray, List.set_cons_zero, List.set_cons_succ, i64_w, i32_w]
        rfl
      refine pure_ (i := 12) (N := some 44) (v := ?_) (a' := ?_) #[true, true, true, true, true, true, true, true, true, true, true, true, true, true, true, true, false, false, true, true, true, false, false, true, true, true, false, false, false, false, false, false] rfl rfl (by kernel_rfl) (fun _ _ _ h => h) (Or.inl ⟨by rfl, ?_⟩) ?_ ?_
      rotate_left
      · intro w'
        refine (exec_made w' 39 #[(0, .tmp 38), (1, .tmp 43)] (by rfl) _ (by simp [Act.eval]) O HBO.out).trans ?_
        with_reducible rfl
      rotate_left
      · simp only [Act.put, List.setIfInBounds_toArray, List.set_cons_zero, List.set_cons_succ, i64_w, i32_w]
        rfl
      refine take_ (i := 16) (N := some 48) (v := ?_) (a' := ?_) #[true, true, true, true, true, true, true, true, true, true, true, true, true, true, true, true, true, false, true, true, true, false, false, true, true, true, false, false, false, false, false, false] rfl rfl (by kernel_rfl) (fun _ _ _ h => h) (Or.inl ⟨by rfl, ?_⟩) hHeld ?_ ?_
      rotate_left
      · rintro w' ⟨s0, s1, s2, s3, s4, s5⟩
        go_simp
        with_reducible rfl
      rotate_left
      · simp only [Act.put, List.setIfInBounds_toArray, List.set_cons_zero, List.set_cons_succ, i64_w, i32_w]
        rfl
      refine take_ (i := 21) (N := some 53) (v := ?_) (a' := ?_) #[true, true, true, true, true, true, true, true, true, true, true, true, true, true, true, true, true, false, true, true, true, true, false, true, true, true, false, false, false, false, false, false] rfl rfl (by kernel_rfl) (fun _ _ _ h => h) (Or.inl ⟨by rfl, ?_⟩) hHeld ?_ ?_
      rotate_left
      · rintro w' ⟨s0, s1, s2, s3, s4, s5⟩
        go_simp
        with_reducible rfl
      rotate_left
      · simp only [Act.put, List.setIfInBounds_toArray, List.set_cons_zero, List.set_cons_succ, i64_w, i32_w]
        rfl
      refine take_ (i := 26) (N := some 58) (v := ?_) (a' := ?_) #[true, true, true, true, true, true, true, true, true, true, true, true, true, true, true, true, true, false, true, true, true, true, false, true, true, true, true, false, false, false, false, false] rfl rfl (by kernel_rfl) (fun _ _ _ h => h) (Or.inl ⟨by rfl, ?_⟩) hHeld ?_ ?_
      rotate_left
      · rintro w' ⟨s0, s1, s2, s3, s4, s5⟩
        go_simp
        with_reducible rfl
      rotate_left
      · simp only [Act.put, List.setIfInBounds_toArray, List.set_cons_zero, List.set_cons_succ, i64_w, i32_w]
        rfl
      refine one_ (i := 17) (N := some 49) #[true, true, true, true, true, true, true, true, true, true, true, true, true, true, true, true, true, true, true, true, true, true, false, true, true, true, true, false, false, false, false, false] rfl rfl (by kernel_rfl) (by decide) (fun K hK => ?_)
      refine goes_ Try.func27 (by kernel_rfl) rfl #[.slice B1 y.s.length d1] (by rfl) rfl rfl (by simp only [List.map_toArray, List.map_cons, List.map_nil]; rfl) ?_
      with_reducible refine (HCP.out _ HP6.out.B).mono ?_
      rintro e w7 ⟨v7, rfl, hR, hB⟩
      refine ⟨_, rfl, ?_⟩
      obtain ⟨A7, c7, rfl⟩ := Kd.R_slice hR
      have HR7 := Lib.hid (Kd.R_lower (base' := wr.heap.size) hR HQ6.out)
      have n0_ := Lib.hid (HP6.out.below hB); have n1_ := Lib.hid (Nat.le_trans HQ6.out hB.size)
      clear hR
      clear HP6 HQ6 hB; have HP6 := n0_; have HQ6 := n1_; clear n0_ n1_
      refine hK.out _ _ ⟨(HS.out _ HP6.out.B HP6.out.blk).1, (HS.out _ HP6.out.B HP6.out.blk).2.1, (HS.out _ HP6.out.B HP6.out.blk).2.2.1, (HS.out _ HP6.out.B HP6.out.blk).2.2.2.1, (HS.out _ HP6.out.B HP6.out.blk).2.2.2.2.1, (HS.out _ HP6.out.B HP6.out.blk).2.2.2.2.2⟩ (fun hHeld => ?_)
      clear hK K
      refine norm_ (a' := ?_) ?_ ?_
      rotate_left
      · show Act.put _ (some 49) _ = _
        simp only [Act.put, List.setIfInBounds_toArray, List.set_cons_zero, List.set_cons_succ, i64_w, i32_w]
        rfl
      refine one_ (i := 22) (N := some 54) #[true, true, true, true, true, true, true, true, true, true, true, true, true, true, true, true, true, true, true, true, true, true, true, true, true, true, true, false, false, false, false, false] rfl rfl (by kernel_rfl) (by decide) (fun K hK => ?_)
      refine goes_ Try.func28 (by kernel_rfl) rfl #[.slice B2 y.w.length d2] (by rfl) rfl rfl (by simp only [List.map_toArray, List.map_cons, List.map_nil]; rfl) ?_
      with_reducible refine (HCS8.out _ HP6.out.B).mono ?_
      rintro e w8 ⟨v8, rfl, hR, hB⟩
      refine ⟨_, rfl, ?_⟩
      obtain ⟨A8, c8, rfl⟩ := Kd.R_slice hR
      have HR8 := Lib.hid (Kd.R_lower (base' := wr.heap.size) hR HQ6.out)
      have n2_ := Lib.hid (Kd.R_below HR7.out hB); clear HR7; have HR7 := n2_; clear n2_
      have n0_ := Lib.hid (HP6.out.below hB); have n1_ := Lib.hid (Nat.le_trans HQ6.out hB.size)
      clear hR
      clear HP6 HQ6 hB; have HP6 := n0_; have HQ6 := n1_; clear n0_ n1_
      have hbt := built_iti y.h y.i HL.out A7 y.s.length c7 A8 y.w.length c8 y.q; have hbs := fun W => bsl_ti y.h y.i HL.out A7 y.s.length c7 A8 y.w.length c8 y.q W
      rw [HO.out] at hbt
      obtain ⟨D, hD⟩ : ∃ D, (opc y.h y.i ++ ([Value.slice A7 y.s.length c7, Value.slice A8 y.w.length c8, Value.int .u32 y.q] : List Value)).toArray = D := ⟨_, rfl⟩
      rw [hD] at hbt; simp only [hD] at hbs
      have HBT := Lib.hid hbt; have HD := Lib.hid hD; clear hbt hD
      have HPM := Lib.hid (show kTI.M w8 w.heap.size (fun k => wr.heap.size ≤ k) y D.toList from by rw [← HD.out]; exact kTI_mkM _ _ _ _ HL.out (Kd.R_lower (Kd.R_mono (Kd.R_bound HR7.out) (fun k hk => hk.2.1)) HWR.out) (Kd.R_lower (Kd.R_mono (Kd.R_bound HR8.out) (fun k hk => hk.2.1)) HWR.out))
      refine hK.out _ _ ⟨(HS.out _ HP6.out.B HP6.out.blk).1, (HS.out _ HP6.out.B HP6.out.blk).2.1, (HS.out _ HP6.out.B HP6.out.blk).2.2.1, (HS.out _ HP6.out.B HP6.out.blk).2.2.2.1, (HS.out _ HP6.out.B HP6.out.blk).2.2.2.2.1, (HS.out _ HP6.out.B HP6.out.blk).2.2.2.2.2⟩ (fun hHeld => ?_)
      clear hK K
      refine norm_ (a' := ?_) ?_ ?_
      rotate_left
      · show Act.put _ (some 54) _ = _
        simp only [Act.put, List.setIfInBounds_toArray, List.set_cons_zero, List.set_cons_succ, i64_w, i32_w]
        rfl
      refine pure_ (i := 27) (N := some 59) (v := ?_) (a' := ?_) #[true, true, true, true, true, true, true, true, true, true, true, true, true, true, true, true, true, true, true, true, true, true, true, true, true, true, true, true, false, false, false, false] rfl rfl (by kernel_rfl) (fun _ _ _ h => h) (Or.inl ⟨by rfl, ?_⟩) ?_ ?_
      rotate_left
      · intro w'
        refine (exec_made w' 43 #[(0, .tmp 44), (1, .tmp 49), (2, .tmp 54), (3, .tmp 58)] (by rfl) _ (by simp [Act.eval]) D HBT.out).trans ?_
        with_reducible rfl
      rotate_left
      · simp only [Act.put, List.setIfInBounds_toArray, List.set_cons_zero, List.set_cons_succ, i64_w, i32_w]
        rfl
      refine one_ (i := 28) (N := some 60) #[true, true, true, true, true, true, true, true, true, true, true, true, true, true, true, true, true, true, true, true, true, true, true, true, true, true, true, true, true, false, false, false] rfl rfl (by kernel_rfl) (by decide) (fun K hK => ?_)
      refine value_ (w1 := ?_) (v := ?_) (by rfl) rfl ?_ ?_
      rotate_left 2
      · refine (exec_bsl 22 (.tmp 59) (by rfl) (.agg D) (by rfl) (hbs w8)).trans ?_
        with_reducible rfl
      refine hK.out _ _ ⟨(HS.out _ (below_alloc HP6.out.B _) (blk_alloc HP6.out.blk _)).1, (HS.out _ (below_alloc HP6.out.B _) (blk_alloc HP6.out.blk _)).2.1, (HS.out _ (below_alloc HP6.out.B _) (blk_alloc HP6.out.blk _)).2.2.1, (HS.out _ (below_alloc HP6.out.B _) (blk_alloc HP6.out.blk _)).2.2.2.1, (HS.out _ (below_alloc HP6.out.B _) (blk_alloc HP6.out.blk _)).2.2.2.2.1, (HS.out _ (below_alloc HP6.out.B _) (blk_alloc HP6.out.blk _)).2.2.2.2.2⟩ (fun hHeld => ?_)
      clear hK K
      refine norm_ (a' := ?_) ?_ ?_
      rotate_left
      · show Act.put _ (some 60) _ = _
        simp only [Act.put, List.setIfInBounds_toArray, List.set_cons_zero, List.set_cons_succ, i64_w, i32_w]
        rfl
      refine one_ (i := 29) (N := some 61) #[true, true, true, true, true, true, true, true, true, true, true, true, true, true, true, true, true, true, true, true, true, true, true, true, true, true, true, true, true, true, false, false] rfl rfl (by kernel_rfl) (by decide) (fun K hK => ?_)
      refine Kd.R_append_step kTI (w0 := w) w.heap.size (by rfl) (.tmp 33) (.tmp 60) 22 43 _ 96 rfl Try.underlying22 info_ti rfl (by decide) (by omega) v1 (x.ins.take i) y D.toList (fun k => k ≠ M ∧ k ≠ w.heap.size) (fun k => wr.heap.size ≤ k) (by rfl) (by simp [Act.eval]) HPM.out (fun k hk => HOK.out k hk) (fun k hk => (HOK.out k (Nat.le_trans HQ6.out hk)).1) HP6.out.ins HP6.out.B (below_size HP6.out.B) (by have := HFI.out.1; rw [List.length_take]; omega) ?_
      intro v_ w_ ho_ hb hg hat
      obtain ⟨l_, hq, ho⟩ := nameRI ho_; have N1 := Lib.hid hq; clear hq ho_; obtain ⟨A_, c_, rfl⟩ := Kd.R_slice ho
      have hM_ := blk_grown HP6.out.blk hg HP6.out.ne.1
      have z0_ : w_.cell? ⟨M, 1, none⟩ = some v1 := (blk_cell hM_ 1).trans rfl
      have zf_ := blk_frozen hM_ 1
      have HM_ := Lib.hid hM_; have HB_ := Lib.hid hb
      have HPN := Lib.hid (HP6.out.push1 ho hb hg (by have := HMM.out; omega) (by have := HMM.out; omega))
      clear HP6 HR7 HR8 ho hb hg hat hM_
      refine hK.out _ _ ⟨(HS.out _ HB_.out HM_.out).1, (HS.out _ HB_.out HM_.out).2.1, (HS.out _ HB_.out HM_.out).2.2.1, (HS.out _ HB_.out HM_.out).2.2.2.1, (HS.out _ HB_.out HM_.out).2.2.2.2.1, (HS.out _ HB_.out HM_.out).2.2.2.2.2⟩ (fun hHeld => ?_)
      clear hK K
      refine norm_ (a' := ?_) ?_ ?_
      rotate_left
      · show Act.put _ (some 61) _ = _
        simp only [Act.put, List.setIfInBounds_toArray, List.set_cons_zero, List.set_cons_succ, i64_w, i32_w]
        rfl
      refine pure_ (i := 30) (N := some 62) (v := ?_) (a' := ?_) #[true, true, true, true, true, true, true, true, true, true, true, true, true, true, true, true, true, true, true, true, true, true, true, true, true, true, true, true, true, true, true, false] rfl rfl (by kernel_rfl) (fun _ _ _ h => h) (Or.inl ⟨by rfl, ?_⟩) ?_ ?_
      rotate_left
      · intro w'
        go_simp
        with_reducible rfl
      rotate_left
      · simp only [Act.put, List.setIfInBounds_toArray, List.set_cons_zero, List.set_cons_succ, i64_w, i32_w]
        rfl
      refine last_ (i := 31) (N := none) #[true, true, true, true, true, true, true, true, true, true, true, true, true, true, true, true, true, true, true, true, true, true, true, true, true, true, true, true, true, true, true, true] rfl rfl (by kernel_rfl) (by decide) (fun K hK => ?_)
      refine skip_ (w1 := ?_) (by rfl) rfl ?_ ?_
      rotate_left
      · go_simp
        rfl
      refine hK.out _ _ ?_
      clear hK K
      refine done_ (by kernel_rfl) ?_
      have HPF := Lib.hid (show Wo w _ w.heap.size M x _ (.slice none 0 0) (x.ins.take (i + 1)) [] from by rw [HTK.out, ← N1.out]; exact HPN.out)
      clear HPN N1 HM_ HB_ HS HP HPM z0_ zf_
      go_wp2
      go_roundg k1
      case measure => exact Nat.lt_succ_self _
      case rel => exact ⟨i + 1, xi + 1, _, (by first | rfl | (simp [hw1]; done)), Lib.hid (by rw [HI.out]; omega), Lib.hid (by have := HK.out; omega), HPF⟩
    · have qb : decide (xi < (x.ins.length : Int)) = false := decide_eq_false (by rw [HI.out]; omega)
      have HP2 := Lib.hid (show Wo w wr w.heap.size M x v1 (.slice none 0 0) x.ins [] from by
        have := HP.out
        rwa [List.take_of_length_le (by omega)] at this)
      clear ci HI HK HP HP0
      go_wp2
      clear qb m1
      obtain ⟨wo, rfl⟩ : ∃ wo : World, wo = wr := ⟨_, rfl⟩
      go_loopg [6] (x.outs.length + 1) (fun kq v6 w' => ∃ (i : Nat) (xi : Int) (v2 : Value), v6 = .int .i64 xi ∧ Hid (xi = (i : Int)) ∧ Hid (i + kq = x.outs.length + 1) ∧ Hid (Wo w w' w.heap.size M x v1 v2 x.ins (x.outs.take i)))
      case atStart => exact ⟨0, 0, .slice none 0 0, rfl, Lib.hid rfl, Lib.hid (Nat.zero_add _), HP2⟩
      case round =>
        obtain ⟨i, xi, v2, rfl, HI, HK, HP⟩ := hrel
        have m2 := (HM.out wr HP.out.B).2.2.1
        by_cases ci : i < x.outs.length
        · have p0 : 0 ≤ xi := by rw [HI.out]; omega
          have q0 : xi < (x.outs.length : Int) := by rw [HI.out]; omega
          obtain ⟨ad, g1, B1, d1, rfl, hc, hto⟩ := out_at HOUT.out xi p0 q0
          have hw1 : wrap64 (xi + 1) = xi + 1 := by have := HFI.out.2.1; exact wrap64_id (by omega) (by omega)
          have hyf := HFI.out.2.2.2 (rdO x.outs xi) (by
            rw [rdO, List.getD_eq_getElem?_getD, List.getElem?_eq_getElem (show xi.toNat < x.outs.length by omega)]
            exact List.getElem_mem _)
          have htk : x.outs.take (i + 1) = x.outs.take i ++ [rdO x.outs xi] := by
            rw [List.take_add_one, HI.out, rdO]; simp [ci]
          obtain ⟨y, hy⟩ : ∃ y, rdO x.outs xi = y := ⟨_, rfl⟩
          rw [hy] at hto hyf htk
          obtain ⟨k1, rfl⟩ : ∃ k1, gk = k1 + 1 := ⟨gk - 1, by have := HK.out; omega⟩
          have pp := eq_true p0
          have qq := eq_true q0
          have qb : decide (xi < (x.outs.length : Int)) = true := decide_eq_true q0
          have L1 := Lib.hid hto.cap
          have HYF := Lib.hid hyf
          have HTK := Lib.hid htk
          have G1 := Lib.hid (hto.s w (fun _ _ _ => rfl))
          have HWR := Lib.hid (below_size HP.out.B)
          have HOK := Lib.hid (show ∀ k, wr.heap.size ≤ k → (k ≠ M ∧ k ≠ w.heap.size) ∧ some k ≠ v2.ownBlock from fun k hk => ⟨⟨by have := blk_lt HP.out.blk; omega, by have := blk_lt HP.out.blk; have := HMM.out; omega⟩, fun e => by have := Kd.R_lt HP.out.outs k e.symm; omega⟩)
          have HP6 := Lib.hid (HP.out.below (below_drew (Below.refl _ _)))
          have HQ6 := Lib.hid (show wr.heap.size ≤ wr.drew.heap.size from Nat.le_refl _)
          have HS := Lib.hid (show ∀ W' : World, Below w.heap.size w W' → W'.heap[M]? = some (.cells #[.int .i32 x.v, v1, v2, .int .u32 x.k] 26 (0, 0)) →
              W'.cell? ⟨M, 2, none⟩ = some v2 ∧ W'.cell? ⟨g, 2, none⟩ = some (.slice (some ad) x.outs.length c2) ∧ W'.cell? (ad.add xi.toNat) = some (.pointer (some ⟨g1, 0, none⟩)) ∧ W'.cell? ⟨g1, 0, none⟩ = some (.int .i64 y.f0) ∧ W'.cell? ⟨g1, 1, none⟩ = some (.slice B1 y.f1.length d1) from fun W' hb h1 =>
            ⟨(blk_cell h1 2).trans rfl, (HM.out W' hb).2.2.1, pw_cell_below hb hc, pw_cell_below hb ((blk_cell hto.blk 0).trans rfl), pw_cell_below hb ((blk_cell hto.blk 1).trans rfl)⟩)
          have HCP := Lib.hid (show ∀ W : World, Below w.heap.size w W → Calls Try.prog 27 #[.slice B1 y.f1.length d1] W fun e w' => ∃ v0, e = .returned v0 ∧ Kd.R (Kd.int .u8) 5 w' W.heap.size (fun _ => True) v0 y.f1 ∧ Below W.heap.size W w' from fun W hW => PFnTxIDs.impl_copied.calls B1 d1 y.f1 y.f1 W (Kd.C_below G1.out hW) L1.out (copied_eq _ HYF.out))
          clear hc hto hyf htk hy p0 q0 ci
          go_upto_region 10 with fail
          refine start_ (n := 28) (S := fun w' => w'.cell? ⟨M, 2, none⟩ = some v2 ∧ w'.cell? ⟨g, 2, none⟩ = some (.slice (some ad) x.outs.length c2) ∧ w'.cell? (ad.add xi.toNat) = some (.pointer (some ⟨g1, 0, none⟩)) ∧ w'.cell? ⟨g1, 0, none⟩ = some (.int .i64 y.f0) ∧ w'.cell? ⟨g1, 1, none⟩ = some (.slice B1 y.f1.length d1)) (ds := [27]) #[false, false, false, false, false, false, false, false, false, false, false, false, false, false, false, false, false, false, false, false, false, false, false, false, false, false, false, false] (by kernel_rfl) rfl rfl ⟨(HS.out _ HP6.out.B HP6.out.blk).1, (HS.out _ HP6.out.B HP6.out.blk).2.1, (HS.out _ HP6.out.B HP6.out.blk).2.2.1, (HS.out _ HP6.out.B HP6.out.blk).2.2.2.1, (HS.out _ HP6.out.B HP6.out.blk).2.2.2.2⟩ (fun hHeld => ?_)
          refine pure_ (i := 0) (N := some 72) (v := ?_) (a' := ?_) #[true, false, false, false, false, false, false, false, false, false, false, false, false, false, false, false, false, false, false, false, false, false, false, false, false, false, false, false] rfl rfl (by kernel_rfl) (fun _ _ _ h => h) (Or.inl ⟨by rfl, ?_⟩) ?_ ?_
          rotate_left
          · intro w'
            go_simp
            with_reducible rfl
          rotate_left
          · simp only [Act.put, List.setIfInBounds_toArray, List.set_cons_zero, List.set_cons_succ, i64_w, i32_w]
            rfl
          refine pure_ (i := 2) (N := some 74) (v := ?_) (a' := ?_) #[true, false, true, false, false, false, false, false, false, false, false, false, false, false, false, false, false, false, false, false, false, false, false, false, false, false, false, false] rfl rfl (by kernel_rfl) (fun _ _ _ h => h) (Or.inl ⟨by rfl, ?_⟩) ?_ ?_
          rotate_left
          · intro w'
            go_simp
            with_reducible rfl
          rotate_left
          · simp only [Act.put, List.setIfInBounds_toArray, List.set_cons_zero, List.set_cons_succ, i64_w, i32_w]
            rfl
          refine pure_ (i := 3) (N := some 75) (v := ?_) (a' := ?_) #[true, false, true, true, false, false, false, false, false, false, false, false, false, false, false, false, false, false, false, false, false, false, false, false, false, false, false, false] rfl rfl (by kernel_rfl) (fun _ _ _ h => h) (Or.inl ⟨by rfl, ?_⟩) ?_ ?_
          rotate_left
          · intro w'
            go_simp
            with_reducible rfl
          rotate_left
          · simp only [Act.put, List.setIfInBounds_toArray, List.set_cons_zero, List.set_cons_succ, i64_w, i32_w]
            rfl
          refine pure_ (i := 4) (N := some 76) (v := ?_) (a' := ?_) #[true, false, true, true, true, false, false, false, false, false, false, false, false, false, false, false, false, false, false, false, false, false, false, false, false, false, false, false] rfl rfl (by kernel_rfl) (fun _ _ _ h => h) (Or.inl ⟨by rfl, ?_⟩) ?_ ?_
          rotate_left
          · intro w'
            go_simp
            with_reducible rfl
          rotate_left
          · simp only [Act.put, List.setIfInBounds_toArray, List.set_cons_zero, List.set_cons_succ, i64_w, i32_w]
            rfl
          refine pure_ (i := 6) (N := some 78) (v := ?_) (a' := ?_) #[true, false, true, true, true, false, true, false, false, false, false, false, false, false, false, false, false, false, false, false, false, false, false, false, false, false, false, false] rfl rfl (by kernel_rfl) (fun _ _ _ h => h) (Or.inl ⟨by rfl, ?_⟩) ?_ ?_
          rotate_left
          · intro w'
            go_simp
            with_reducible rfl
          rotate_left
          · simp only [Act.put, List.setIfInBounds_toArray, List.set_cons_zero, List.set_cons_succ, i64_w, i32_w]
            rfl
          refine pure_ (i := 12) (N := some 84) (v := ?_) (a' := ?_) #[true, false, true, true, true, false, true, false, false, false, false, false, true, false, false, false, false, false, false, false, false, false, false, false, false, false, false, false] rfl rfl (by kernel_rfl) (fun _ _ _ h => h) (Or.inl ⟨by rfl, ?_⟩) ?_ ?_
          rotate_left
          · intro w'
            go_simp
            with_reducible rfl
          rotate_left
          · simp only [Act.put, List.setIfInBounds_toArray, List.set_cons_zero, List.set_cons_succ, i64_w, i32_w]
            rfl
          refine pure_ (i := 13) (N := some 85) (v := ?_) (a' := ?_) #[true, false, true, true, true, false, true, false, false, false, false, false, true, true, false, false, false, false, false, false, false, false, false, false, false, false, false, false] rfl rfl (by kernel_rfl) (fun _ _ _ h => h) (Or.inl ⟨by rfl, ?_⟩) ?_ ?_
          rotate_left
          · intro w'
            go_simp
            with_reducible rfl
          rotate_left
          · simp only [Act.put, List.setIfInBounds_toArray, List.set_cons_zero, List.set_cons_succ, i64_w, i32_w]
            rfl
          refine pure_ (i := 14) (N := some 86) (v := ?_) (a' := ?_) #[true, false, true, true, true, false, true, false, false, false, false, false, true, true, true, false, false, false, false, false, false, false, false, false, false, false, false, false] rfl rfl (by kernel_rfl) (fun _ _ _ h => h) (Or.inl ⟨by rfl, ?_⟩) ?_ ?_
          rotate_left
          · intro w'
            go_simp
            with_reducible rfl
          rotate_left
          · simp only [Act.put, List.setIfInBounds_toArray, List.set_cons_zero, List.set_cons_succ, i64_w, i32_w]
            rfl
          refine pure_ (i := 16) (N := some 88) (v := ?_) (a' := ?_) #[true, false, true, true, true, false, true, false, false, false, false, false, true, true, true, false, true, false, false, false, false, false, false, false, false, false, false, false] rfl rfl (by kernel_rfl) (fun _ _ _ h => h) (Or.inl ⟨by rfl, ?_⟩) ?_ ?_
          rotate_left
          · intro w'
            go_simp
            with_reducible rfl
          rotate_left
          · simp only [Act.put, List.setIfInBounds_toArray, List.set_cons_zero, List.set_cons_succ, i64_w, i32_w]
            rfl
          refine take_ (i := 1) (N := some 73) (v := ?_) (a' := ?_) #[true, true, true, true, true, false, true, false, false, false, false, false, true, true, true, false, true, false, false, false, false, false, false, false, false, false, false, false] rfl rfl (by kernel_rfl) (fun _ _ _ h => h) (Or.inl ⟨by rfl, ?_⟩) hHeld ?_ ?_
          rotate_left
          · rintro w' ⟨s0, s1, s2, s3, s4⟩
            go_simp
            with_reducible rfl
          rotate_left
          · simp only [Act.put, List.setIfInBounds_toArray, List.set_cons_zero, List.set_cons_succ, i64_w, i32_w]
            rfl
          refine take_ (i := 5) (N := some 77) (v := ?_) (a' := ?_) #[true, true, true, true, true, true, true, false, false, false, false, false, true, true, true, false, true, false, false, false, false, false, false, false, false, false, false, false] rfl rfl (by kernel_rfl) (fun _ _ _ h => h) (Or.inl ⟨by rfl, ?_⟩) hHeld ?_ ?_
          rotate_left
          · rintro w' ⟨s0, s1, s2, s3, s4⟩
            go_simp
            with_reducible rfl
          rotate_left
          · simp only [Act.put, List.setIfInBounds_toArray, List.set_cons_zero, List.set_cons_succ, i64_w, i32_w]
            rfl
          refine pure_ (i := 7) (N := some 79) (v := ?_) (a' := ?_) #[true, true, true, true, true, true, true, true, false, false, false, false, true, true, true, false, true, false, false, false, false, false, false, false, false, false, false, false] rfl rfl (by kernel_rfl) (fun _ _ _ h => h) (Or.inl ⟨by rfl, ?_⟩) ?_ ?_
          rotate_left
          · intro w'
            go_simp
            with_reducible rfl
          rotate_left
          · simp only [Act.put, List.setIfInBounds_toArray, List.set_cons_zero, List.set_cons_succ, i64_w, i32_w]
            rfl
          refine take_ (i := 8) (N := some 80) (v := ?_) (a' := ?_) #[true, true, true, true, true, true, true, true, true, false, false, false, true, true, true, false, true, false, false, false, false, false, false, false, false, false, false, false] rfl rfl (by kernel_rfl) (fun _ _ _ h => h) (Or.inl ⟨by rfl, ?_⟩) hHeld ?_ ?_
          rotate_left
          · rintro w' ⟨s0, s1, s2, s3, s4⟩
            go_simp
            with_reducible rfl
          rotate_left
          · simp only [Act.put, List.setIfInBounds_toArray, List.set_cons_zero, List.set_cons_succ, i64_w, i32_w]
            rfl
          refine pure_ (i := 9) (N := some 81) (v := ?_) (a' := ?_) #[true, true, true, true, true, true, true, true, true, true, false, false, true, true, true, false, true, false, false, false, false, false, false, false, false, false, false, false] rfl rfl (by kernel_rfl) (fun _ _ _ h => h) (Or.inl ⟨by rfl, ?_⟩) ?_ ?_
          rotate_left
          · intro w'
            go_simp
            with_reducible rfl
          rotate_left
          · simp only [Act.put, List.setIfInBounds_toArray, List.set_cons_zero, List.set_cons_succ, i64_w, i32_w]
            rfl
          refine pure_ (i := 10) (N := some 82) (v := ?_) (a' := ?_) #[true, true, true, true, true, true, true, true, true, true, true, false, true, true, true, false, true, false, false, false, false, false, false, false, false, false, false, false] rfl rfl (by kernel_rfl) (fun _ _ _ h => h) (Or.inl ⟨by rfl, ?_⟩) ?_ ?_
          rotate_left
          · intro w'
            go_simp
            with_reducible rfl
          rotate_left
          · simp only [Act.put, List.setIfInBounds_toArray, List.set_cons_zero, List.set_cons_succ, i64_w, i32_w]
            rfl
          refine take_ (i := 11) (N := some 83) (v := ?_) (a' := ?_) #[true, true, true, true, true, true, true, true, true, true, true, true, true, true, true, false, true, false, false, false, false, false, false, false, false, false, false, false] rfl rfl (by kernel_rfl) (fun _ _ _ h => h) (Or.inl ⟨by rfl, ?_⟩) hHeld ?_ ?_
          rotate_left
          · rintro w' ⟨s0, s1, s2, s3, s4⟩
            go_simp
            with_reducible rfl
          rotate_left
          · simp only [Act.put, List.setIfInBounds_toArray, List.set_cons_zero, List.set_cons_succ, i64_w, i32_w]
            rfl
          refine take_ (i := 15) (N := some 87) (v := ?_) (a' := ?_) #[true, true, true, true, true, true, true, true, true, true, true, true, true, true, true, true, true, false, false, false, false, false, false, false, false, false, false, false] rfl rfl (by kernel_rfl) (fun _ _ _ h => h) (Or.inl ⟨by rfl, ?_⟩) hHeld ?_ ?_
          rotate_left
          · rintro w' ⟨s0, s1, s2, s3, s4⟩
            go_simp
            with_reducible rfl
          rotate_left
          · simp only [Act.put, List.setIfInBounds_toArray, List.set_cons_zero, List.set_cons_succ, i64_w, i32_w]
            rfl
          refine pure_ (i := 17) (N := some 89) (v := ?_) (a' := ?_) #[true, true, true, true, true, true, true, true, true, true, true, true, true, true, true, true, true, true, false, false, false, false, false, false, false, false, false, false] rfl rfl (by kernel_rfl) (fun _ _ _ h => h) (Or.inl ⟨by rfl, ?_⟩) ?_ ?_
          rotate_left
          · intro w'
            go_simp
            with_reducible rfl
          rotate_left
          · simp only [Act.put, List.setIfInBounds_toArray, List.set_cons_zero, List.set_cons_succ, i64_w, i32_w]
            rfl
          refine take_ (i := 18) (N := some 90) (v := ?_) (a' := ?_) #[true, true, true, true, true, true, true, true, true, true, true, true, true, true, true, true, true, true, true, false, false, false, false, false, false, false, false, false] rfl rfl (by kernel_rfl) (fun _ _ _ h => h) (Or.inl ⟨by rfl, ?_⟩) hHeld ?_ ?_
          rotate_left
          · rintro w' ⟨s0, s1, s2, s3, s4⟩
            go_simp
            with_reducible rfl
          rotate_left
          · simp only [Act.put, List.setIfInBounds_toArray, List.set_cons_zero, List.set_cons_succ, i64_w, i32_w]
            rfl
          refine pure_ (i := 19) (N := some 91) (v := ?_) (a' := ?_) #[true, true, true, true, true, true, true, true, true, true, true, true, true, true, true, true, true, true, true, true, false, false, false, false, false, false, false, false] rfl rfl (by kernel_rfl) (fun _ _ _ h => h) (Or.inl ⟨by rfl, ?_⟩) ?_ ?_
          rotate_left
          · intro w'
            go_simp
            with_reducible rfl
          rotate_left
          · simp only [Act.put, List.setIfInBounds_toArray, List.set_cons_zero, List.set_cons_succ, i64_w, i32_w]
            rfl
          refine pure_ (i := 20) (N := some 92) (v := ?_) (a' := ?_) #[true, true, true, true, true, true, true, true, true, true, true, true, true, true, true, true, true, true, true, true, true, false, false, false, false, false, false, false] rfl rfl (by kernel_rfl) (fun _ _ _ h => h) (Or.inl ⟨by rfl, ?_⟩) ?_ ?_
          rotate_left
          · intro w'
            go_simp
            with_reducible rfl
          rotate_left
          · simp only [Act.put, List.setIfInBounds_toArray, List.set_cons_zero, List.set_cons_succ, i64_w, i32_w]
            rfl
          refine take_ (i := 21) (N := some 93) (v := ?_) (a' := ?_) #[true, true, true, true, true, true, true, true, true, true, true, true, true, true, true, true, true, true, true, true, true, true, false, false, false, false, false, false] rfl rfl (by kernel_rfl) (fun _ _ _ h => h) (Or.inl ⟨by rfl, ?_⟩) hHeld ?_ ?_
          rotate_left
          · rintro w' ⟨s0, s1, s2, s3, s4⟩
            go_simp
            with_reducible rfl
          rotate_left
          · simp only [Act.put, List.setIfInBounds_toArray, List.set_cons_zero, List.set_cons_succ, i64_w, i32_w]
            rfl
          refine one_ (i := 22) (N := some 94) #[true, true, true, true, true, true, true, true, true, true, true, true, true, true, true, true, true, true, true, true, true, true, true, false, false, false, false, false] rfl rfl (by kernel_rfl) (by decide) (fun K hK => ?_)
          refine goes_ Try.func27 (by kernel_rfl) rfl #[.slice B1 y.f1.length d1] (by rfl) rfl rfl (by simp only [List.map_toArray, List.map_cons, List.map_nil]; rfl) ?_
          with_reducible refine (HCP.out _ HP6.out.B).mono ?_
          rintro e w7 ⟨v7, rfl, hR, hB⟩
          refine ⟨_, rfl, ?_⟩
          obtain ⟨A7, c7, rfl⟩ := Kd.R_slice hR
          have HR7 := Lib.hid (Kd.R_lower (base' := wr.heap.size) hR HQ6.out)
          have n0_ := Lib.hid (HP6.out.below hB); have n1_ := Lib.hid (Nat.le_trans HQ6.out hB.size)
          clear hR HP6 HQ6 hB; have HP6 := n0_; have HQ6 := n1_; clear n0_ n1_
          have HPM := Lib.hid (show PFnTxIDs.k45.M w7 w.heap.size (fun k => wr.heap.size ≤ k) y [.int .i64 y.f0, .slice A7 y.f1.length c7] from PFnTxIDs.k45_mkM _ _ _ y (Kd.R_lower (Kd.R_mono (Kd.R_bound HR7.out) (fun k hk => hk.2.1)) HWR.out))
          refine hK.out _ _ ⟨(HS.out _ HP6.out.B HP6.out.blk).1, (HS.out _ HP6.out.B HP6.out.blk).2.1, (HS.out _ HP6.out.B HP6.out.blk).2.2.1, (HS.out _ HP6.out.B HP6.out.blk).2.2.2.1, (HS.out _ HP6.out.B HP6.out.blk).2.2.2.2⟩ (fun hHeld => ?_)
          clear hK K
          refine norm_ (a' := ?_) ?_ ?_
          rotate_left
          · show Act.put _ (some 94) _ = _
            simp only [Act.put, List.setIfInBounds_toArray, List.set_cons_zero, List.set_cons_succ, i64_w, i32_w]
            rfl
          refine pure_ (i := 23) (N := some 95) (v := ?_) (a' := ?_) #[true, true, true, true, true, true, true, true, true, true, true, true, true, true, true, true, true, true, true, true, true, true, true, true, false, false, false, false] rfl rfl (by kernel_rfl) (fun _ _ _ h => h) (Or.inl ⟨by rfl, ?_⟩) ?_ ?_
          rotate_left
          · intro w'
            go_simp
            with_reducible rfl
          rotate_left
          · simp only [Act.put, List.setIfInBounds_toArray, List.set_cons_zero, List.set_cons_succ, i64_w, i32_w]
            rfl
          refine one_ (i := 24) (N := some 96) #[true, true, true, true, true, true, true, true, true, true, true, true, true, true, true, true, true, true, true, true, true, true, true, true, true, false, false, false] rfl rfl (by kernel_rfl) (by decide) (fun K hK => ?_)
          refine value_ (w1 := ?_) (v := ?_) (by rfl) rfl ?_ ?_
          rotate_left 2
          · go_simp
            constructor
            · rfl
            · rfl
          refine hK.out _ _ ⟨(HS.out _ (below_alloc HP6.out.B _) (blk_alloc HP6.out.blk _)).1, (HS.out _ (below_alloc HP6.out.B _) (blk_alloc HP6.out.blk _)).2.1, (HS.out _ (below_alloc HP6.out.B _) (blk_alloc HP6.out.blk _)).2.2.1, (HS.out _ (below_alloc HP6.out.B _) (blk_alloc HP6.out.blk _)).2.2.2.1, (HS.out _ (below_alloc HP6.out.B _) (blk_alloc HP6.out.blk _)).2.2.2.2⟩ (fun hHeld => ?_)
          clear hK K
          refine norm_ (a' := ?_) ?_ ?_
          rotate_left
          · show Act.put _ (some 96) _ = _
            simp only [Act.put, List.setIfInBounds_toArray, List.set_cons_zero, List.set_cons_succ, i64_w, i32_w]
            rfl
          refine one_ (i := 25) (N := some 97) #[true, true, true, true, true, true, true, true, true, true, true, true, true, true, true, true, true, true, true, true, true, true, true, true, true, true, false, false] rfl rfl (by kernel_rfl) (by decide) (fun K hK => ?_)
          refine Kd.R_append_step PFnTxIDs.k45 (w0 := w) w.heap.size (by rfl) (.tmp 73) (.tmp 96) 23 45 _ 32 rfl Try.underlying23 info_to rfl (by decide) (by omega) v2 (x.outs.take i) y [.int .i64 y.f0, .slice A7 y.f1.length c7] (fun k => k ≠ M ∧ k ≠ w.heap.size) (fun k => wr.heap.size ≤ k) (by rfl) (by simp [Act.eval]) HPM.out (fun k hk => HOK.out k hk) (fun k hk => (HOK.out k (Nat.le_trans HQ6.out hk)).1) HP6.out.outs HP6.out.B (below_size HP6.out.B) (by have := HFI.out.2.1; rw [List.length_take]; omega) ?_
          intro v_ w_ ho_ hb hg hat
          obtain ⟨l_, hq, ho⟩ := nameRI ho_; have N1 := Lib.hid hq; clear hq ho_; obtain ⟨A_, c_, rfl⟩ := Kd.R_slice ho
          have hM_ := blk_grown HP6.out.blk hg HP6.out.ne.2.2.1
          have z0_ : w_.cell? ⟨M, 2, none⟩ = some v2 := (blk_cell hM_ 2).trans rfl
          have zf_ := blk_frozen hM_ 2
          have HM_ := Lib.hid hM_; have HB_ := Lib.hid hb
          have HPN := Lib.hid (HP6.out.push2 ho hb hg (by have := HMM.out; omega) (by have := HMM.out; omega))
          clear HP6 HR7 ho hb hg hat hM_
          refine hK.out _ _ ⟨(HS.out _ HB_.out HM_.out).1, (HS.out _ HB_.out HM_.out).2.1, (HS.out _ HB_.out HM_.out).2.2.1, (HS.out _ HB_.out HM_.out).2.2.2.1, (HS.out _ HB_.out HM_.out).2.2.2.2⟩ (fun hHeld => ?_)
          clear hK K
          refine norm_ (a' := ?_) ?_ ?_
          rotate_left
          · show Act.put _ (some 97) _ = _
            simp only [Act.put, List.setIfInBounds_toArray, List.set_cons_zero, List.set_cons_succ, i64_w, i32_w]
            rfl
          refine pure_ (i := 26) (N := some 98) (v := ?_) (a' := ?_) #[true, true, true, true, true, true, true, true, true, true, true, true, true, true, true, true, true, true, true, true, true, true, true, true, true, true, true, false] rfl rfl (by kernel_rfl) (fun _ _ _ h => h) (Or.inl ⟨by rfl, ?_⟩) ?_ ?_
          rotate_left
          · intro w'
            go_simp
            with_reducible rfl
          rotate_left
          · simp only [Act.put, List.setIfInBounds_toArray, List.set_cons_zero, List.set_cons_succ, i64_w, i32_w]
            rfl
          refine last_ (i := 27) (N := none) #[true, true, true, true, true, true, true, true, true, true, true, true, true, true, true, true, true, true, true, true, true, true, true, true, true, true, true, true] rfl rfl (by kernel_rfl) (by decide) (fun K hK => ?_)
          refine skip_ (w1 := ?_) (by rfl) rfl ?_ ?_
          rotate_left
          · go_simp
            rfl
          refine hK.out _ _ ?_
          clear hK K
          refine done_ (by kernel_rfl) ?_
          have HPF := Lib.hid (show Wo w _ w.heap.size M x v1 _ x.ins (x.outs.take (i + 1)) from by rw [HTK.out, ← N1.out]; exact HPN.out)
          clear HPN N1 HM_ HB_ HS HP HPM z0_ zf_
          go_wp2
          go_roundg k1
          case measure => exact Nat.lt_succ_self _
          case rel => exact ⟨i + 1, xi + 1, _, (by first | rfl | (simp [hw1]; done)), Lib.hid (by rw [HI.out]; omega), Lib.hid (by have := HK.out; omega), HPF⟩
        · have qb : decide (xi < (x.outs.length : Int)) = false := decide_eq_false (by rw [HI.out]; omega)
          have HP3 := Lib.hid (show Wo w wr w.heap.size M x v1 v2 x.ins x.outs from by
            have := HP.out
            rwa [List.take_of_length_le (by omega)] at this)
          clear ci HI HK HP
          obtain ⟨zq, hz4, hzq⟩ := HP3.out.res
          obtain ⟨D1, d1, rfl, hd1, hD1⟩ := Kd.R_reads HP3.out.ins
          obtain ⟨D2, d2, rfl, hd2, hD2⟩ := Kd.R_reads HP3.out.outs
          obtain ⟨C, hC⟩ : ∃ C : Array Value, #[Value.int .i32 x.v, .slice D1 x.ins.length d1, .slice D2 x.outs.length d2, .int .u32 x.k] = C := ⟨_, rfl⟩
          have HC := Lib.hid hC
          have HC4 := Lib.hid (show C.size = 4 from by rw [← hC]; rfl)
          have HC1 := Lib.hid (show C.all (·.oneCell') = true from by rw [← hC]; simp [Value.oneCell'])
          have HLI := Lib.hid (show Lies wr ⟨M, 0, none⟩ C.toList from fun j v hj => by
            rw [Addr.add_mid, Nat.zero_add, blk_cell HP3.out.blk j, hC]; simpa using hj)
          have HZQ := Lib.hid hzq
          have HZ4 := Lib.hid hz4
          have hI : ∀ D d, Value.slice D x.ins.length d = .slice D1 x.ins.length d1 → D = D1 := fun D d e => by cases e; rfl
          have hR1 := Kd.R_step HP3.out.ins (w1 := wr.setRow w.heap.size C) (fun k hk _ => setRow_other wr w.heap.size k C hk.2)
          have hR2 := Kd.R_step HP3.out.outs (w1 := wr.setRow w.heap.size C) (fun k hk _ => setRow_other wr w.heap.size k C hk.2)
          have HEND := Lib.hid (And.intro hd1 (And.intro hd2 (And.intro
            (show Kd.C kTI (wr.setRow w.heap.size C) D1 x.ins.length x.ins from by
              obtain ⟨A', c', e', _, h'⟩ := Kd.R_reads hR1
              cases e'
              exact h')
            (show Kd.C PFnTxIDs.k45 (wr.setRow w.heap.size C) D2 x.outs.length x.outs from by
              obtain ⟨A', c', e', _, h'⟩ := Kd.R_reads hR2
              cases e'
              exact h'))))
          have HENF := Lib.hid (And.intro (show Kd.F kTI (wr.setRow w.heap.size C) (fun k => w.heap.size < k) D1 x.ins.length x.ins from Kd.F_mono (Kd.R_F (Kd.R_bound hR1)) (fun k hk => by have := hk.1.2; have := hk.2.1; omega))
            (show Kd.F PFnTxIDs.k45 (wr.setRow w.heap.size C) (fun k => w.heap.size < k) D2 x.outs.length x.outs from Kd.F_mono (Kd.R_F (Kd.R_bound hR2)) (fun k hk => by have := hk.1.2; have := hk.2.1; omega)))
          clear hR1 hR2 hI
          clear hC hzq hz4 hd1 hd2 hD1 hD2
          go_wp2_with (first
            | (refine wpList_load_list rfl 26 (.tmp 3) rfl ⟨M, 0, none⟩ rfl C.toList _ HLI.out Try.underlying26 rfl ?aI ?_; go_must (case aI => rw [Array.length_toList, HC4.out]; rfl); go_must (simp only [Array.toArray_toList]))
            | (refine wpList_store_row rfl 26 (.tmp 2) (.tmp 99) rfl w.heap.size C rfl rfl 26 _ HZQ.out ?aS ?aL HC1.out ?_; go_must (case aS => rw [HC4.out]; rfl); go_must (case aL => rw [HC4.out, HZ4.out])))
          refine bodyPost_ret (results_cell_row (by rfl) _ _ w.heap.size 26 C (0, 0) _ (by rfl) (setRow_heap _ _ _ _ _ _ HZQ.out) Try.underlying26 (by rfl) (by rw [HC4.out]; rfl)) (by rfl) ?_
          exact ⟨D1, d1, D2, d2, by rw [← HC.out]; rfl, ⟨HEND.out.1, HEND.out.2.1, HEND.out.2.2.1, HEND.out.2.2.2⟩, HENF.out, below_setRow HP3.out.B (Nat.le_refl _) _⟩
end Go.Proofs.Ytkmlpoggbfbnaaa.Wire
