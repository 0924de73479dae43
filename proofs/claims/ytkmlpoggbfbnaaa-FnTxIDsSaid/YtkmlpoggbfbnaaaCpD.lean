/-
  spec.SameTx of two transactions that hold the same.
-/
import Derived.Test.YtkmlpoggbfbnaaaCpC
import Derived.Test.YtkmlpoggbfbnaaaGe
import Derived.Test.YtkmlpoggbfbnaaaPFnTxIDsx2
namespace Go.Proofs.Ytkmlpoggbfbnaaa.Wire
open Go.RowKit Go.Proofs.YtkmlpoggbfbnaaaW.PrintWords Go.Proofs.YtkmlpoggbfbnaaaW.PrintLast Go.Proofs.Ytkmlpoggbfbnaaa.Reg Go.Proofs.Ytkmlpoggbfbnaaa.Buf Go.Proofs.Ytkmlpoggbfbnaaa.Tx
open Go.Proofs.Ytkmlpoggbfbnaaa.Sh (wp_world)
set_option linter.unusedSimpArgs false
set_option linter.unusedVariables false

theorem sb_calls (l : List Int) (A A' : Option Addr) (c c' : Nat) (w : World) (h1 : Kd.C (Kd.int .u8) w A l.length l) (h2 : l.length ≤ c) (h3 : Kd.C (Kd.int .u8) w A' l.length l) (h4 : l.length ≤ c') (hl : l.length ≤ 2147483647) :
    Calls Try.prog 21 #[.slice A l.length c, .slice A' l.length c'] w fun e w' => e = .returned (.bool true) ∧ Below w.heap.size w w' :=
  (PFnTxIDs.spec_sameBytes.calls (l.length + 1) A c l A' c' l true w h1 h2 h3 h4 (sameB_eq l (by omega))).mono fun e w' ⟨h, hD⟩ => ⟨h, hD.below⟩
set_option maxRecDepth 100000 in
theorem neq_op (h : List Int) (i : Int) (hl : h.length = 32) (W : World) : (binOp .neq 39 (.agg (opc h i).toArray) (.agg (opc h i).toArray)).run Try.prog W = .ok (.bool false) W := by
  have p0 : ∀ W, (part 29 (opc h i).toArray 0).run Try.prog W = .ok (.agg (hv h).toArray) W := by
    obtain ⟨a0, a1, a2, a3, a4, a5, a6, a7, a8, a9, a10, a11, a12, a13, a14, a15, a16, a17, a18, a19, a20, a21, a22, a23, a24, a25, a26, a27, a28, a29, a30, a31, rfl⟩ := list32 h hl
    intro W
    kernel_rfl
  have p1 : ∀ W, (part 24 (opc h i).toArray 32).run Try.prog W = .ok (.int .u32 i) W := by
    obtain ⟨a0, a1, a2, a3, a4, a5, a6, a7, a8, a9, a10, a11, a12, a13, a14, a15, a16, a17, a18, a19, a20, a21, a22, a23, a24, a25, a26, a27, a28, a29, a30, a31, rfl⟩ := list32 h hl
    intro W
    kernel_rfl
  have q0 : ∀ W, (Op.equalIn 9999 29 (.agg (hv h).toArray) (.agg (hv h).toArray)).run Try.prog W = .ok true W := fun W => by
    rw [equal_hv W 9997 29 5 32 Try.underlying29 Try.underlying5 (fun w => by kernel_rfl) h h hl hl]; simp
  have q1 : ∀ W, (Op.equalIn 9999 24 (.int .u32 i) (.int .u32 i)).run Try.prog W = .ok true W := fun W => by
    rw [run_equalIn_int W 9998 24 .u32 .u32 i i Try.underlying24]; simp
  have hfs : Try.prog.underlying 39 = some (.struct (Try.prog.fieldsOf 39)) := by simp [Program.fieldsOf, Try.underlying39]
  rw [run_neq_struct, run_equalIn_struct W 9999 _ _ _ hfs (by kernel_rfl)]
  simp [Program.fieldsOf, Try.underlying39, Op.eqFields, p0, p1, q0, q1]
theorem step_store_none {P : Program} {ops : Array Oper} {o : Oper} {a : Act} {W : World} {N : Option Tmp} {Kc : Act → World → Prop} {Q : Exit → Act → World → Prop} (hw : Region.wanted o (yielded ops a.tmps) = true) (hd : o.dst = none) (ty : TypeId) (x y : Operand) (ho : o.op = .store ty x y)
    (g : Nat) (cells : Array Value) (hx : a.eval x = .pointer (some ⟨g, 0, none⟩)) (hy : a.eval y = .agg cells) (t : TypeId) (old : Array Value) (hg : W.heap[g]? = some (.cells old t (0, 0))) (hi : (P.info? ty).map (·.size) = some cells.size)
    (hold : old.size = cells.size) (h1 : cells.all (·.oneCell') = true) (h : Kc a (W.setRow g cells)) :
    if Region.wanted o (yielded ops a.tmps) = true then Oper.wp P o a W Kc Q else Kc (a.put N undef) W := by
  rw [if_pos hw]
  refine wp_store_row ty x y ho g cells hx hy t old hg hi hold h1 ?_
  rw [hd]
  exact h
theorem blk_ne' {w : World} {g g' : Nat} {o : Obj} {cs : Array Value} (hne : g ≠ g') (h : w.heap[g]? = some o) : (w.setRow g' cs).heap[g]? = some o := (setRow_other w g' g cs hne).trans h
set_option maxHeartbeats 16000000 in
set_option maxRecDepth 100000 in
theorem same_calls (x : TX) (D1 : Option Addr) (e1 : Nat) (D2 : Option Addr) (e2 : Nat) (A1 : Option Addr) (c1 : Nat) (A2 : Option Addr) (c2 : Nat) (w : World) (ha : TxIn w x D1 e1 D2 e2) (hb : TxIn w x A1 c1 A2 c2) (hf : fit2 x = true) :
    Calls Try.prog 11 #[.agg (txc x D1 e1 D2 e2), .agg (txc x A1 c1 A2 c2)] w fun e w' => e = .returned (.bool true) ∧ Below w.heap.size w w' := by
  have hfi : x.ins.length ≤ 2147483647 ∧ x.outs.length ≤ 2147483647 ∧ (∀ y ∈ x.ins, y.s.length ≤ 2147483647 ∧ y.w.length ≤ 2147483647 ∧ ∀ u ∈ y.w, u.length ≤ 2147483647) ∧ ∀ y ∈ x.outs, y.f1.length ≤ 2147483647 := by
    simp only [fit2, fit3, fit4, fit5, fit6, Bool.and_eq_true, decide_eq_true_eq, List.all_eq_true] at hf
    exact ⟨hf.1.1, hf.2.1, fun y hy => ⟨(hf.1.2 y hy).1, (hf.1.2 y hy).2.1, (hf.1.2 y hy).2.2⟩, hf.2.2⟩
  have HFI := Lib.hid hfi
  have HA := Lib.hid ha
  have HB := Lib.hid hb
  obtain ⟨Ca, hCa⟩ : ∃ C, txc x D1 e1 D2 e2 = C := ⟨_, rfl⟩
  obtain ⟨Cb, hCb⟩ : ∃ C, txc x A1 c1 A2 c2 = C := ⟨_, rfl⟩
  have HCA := Lib.hid hCa
  have HCB := Lib.hid hCb
  rw [hCa, hCb]
  clear hfi ha hb hf hCa hCb
  go_enter Try.func11, Try.ntmps11
  go_upto_region 1 with fail
  refine wp_world (fun W0 hW => ?_)
  have HB0 := Lib.hid (show Below w.heap.size w W0 from hW ▸ below_alloc (below_alloc (Below.refl _ _) _) _)
  have HGA := Lib.hid (show W0.heap[w.heap.size]? = some (.cells Ca 26 (0, 0)) from hW ▸ blk_alloc (heap_alloc_new _ _) _)
  have HGB := Lib.hid (show W0.heap[w.heap.size + 1]? = some (.cells Cb 26 (0, 0)) from hW ▸ new_at (by simp))
  obtain ⟨a, hha⟩ : ∃ a, w.heap.size = a := ⟨_, rfl⟩
  obtain ⟨b, hhb⟩ : ∃ b, w.heap.size + 1 = b := ⟨_, rfl⟩
  rw [hha] at HGA
  rw [hhb] at HGB
  simp only [hhb]
  simp only [hha]
  have HT := Lib.hid (show ∀ W, Below W0.heap.size W0 W → W.cell? ⟨a, 0, none⟩ = some (.int .i32 x.v) ∧ W.cell? ⟨a, 1, none⟩ = some (.slice D1 x.ins.length e1) ∧ W.cell? ⟨a, 2, none⟩ = some (.slice D2 x.outs.length e2) ∧ W.cell? ⟨a, 3, none⟩ = some (.int .u32 x.k) ∧
      W.cell? ⟨b, 0, none⟩ = some (.int .i32 x.v) ∧ W.cell? ⟨b, 1, none⟩ = some (.slice A1 x.ins.length c1) ∧ W.cell? ⟨b, 2, none⟩ = some (.slice A2 x.outs.length c2) ∧ W.cell? ⟨b, 3, none⟩ = some (.int .u32 x.k) from fun W hW => by
    have h1 := blk_below HGA.out hW
    have h2 := blk_below HGB.out hW
    rw [← HCA.out] at h1
    rw [← HCB.out] at h2
    exact ⟨(blk_cell h1 0).trans rfl, (blk_cell h1 1).trans rfl, (blk_cell h1 2).trans rfl, (blk_cell h1 3).trans rfl, (blk_cell h2 0).trans rfl, (blk_cell h2 1).trans rfl, (blk_cell h2 2).trans rfl, (blk_cell h2 3).trans rfl⟩)
  have HBA := Lib.hid (fun (W : World) (hW : Below W0.heap.size W0 W) => (below_then HB0.out HB0.out.size hW : Below w.heap.size w W))
  clear hW hha hhb HGA HGB HCA HCB
  obtain ⟨q0, q1, q2, q3, q4, q5, q6, q7⟩ := HT.out W0 (Below.refl _ _)
  go_wp2
  clear q0 q1 q2 q3 q4 q5 q6 q7
  go_loopg [5] (x.ins.length + 1) (fun kq v5 w' => ∃ (i : Nat) (xi : Int), v5 = .int .i64 xi ∧ Hid (xi = (i : Int)) ∧ Hid (i + kq = x.ins.length + 1) ∧ Hid (Below W0.heap.size W0 w'))
  case atStart => exact ⟨0, 0, rfl, Lib.hid rfl, Lib.hid (Nat.zero_add _), Lib.hid (Below.refl _ _)⟩
  case round =>
    obtain ⟨i, xi, rfl, HI, HK, HW⟩ := hrel
    have q1 := (HT.out wr HW.out).2.1
    by_cases ci : i < x.ins.length
    · have p0 : 0 ≤ xi := by rw [HI.out]; omega
      have q0 : xi < (x.ins.length : Int) := by rw [HI.out]; omega
      obtain ⟨ad, ds, P1, p1, P2, p2, rfl, hz, h1, hds, hl, l1, l2, g1, g2, hce⟩ := at_step HA.out.g1 xi p0 q0
      obtain ⟨ad2, es, R1, r1, R2, r2, rfl, hz2, h12, hes, _, l12, l22, g12, g22, hce2⟩ := at_step HB.out.g1 xi p0 q0
      have hw1 : wrap64 (xi + 1) = xi + 1 := by have := HFI.out.1; exact wrap64_id (by omega) (by omega)
      have hmem : rdT x.ins xi ∈ x.ins := by
        rw [rdT, List.getD_eq_getElem?_getD, List.getElem?_eq_getElem (show xi.toNat < x.ins.length by omega)]
        exact List.getElem_mem _
      have hyf := HFI.out.2.2.1 _ hmem
      obtain ⟨y, hy⟩ : ∃ y, rdT x.ins xi = y := ⟨_, rfl⟩
      rw [hy] at hds hl l1 l2 g1 g2 hes l12 l22 g12 g22 hyf
      obtain ⟨k1, rfl⟩ : ∃ k1, gk = k1 + 1 := ⟨gk - 1, by have := HK.out; omega⟩
      have pp := eq_true p0
      have qq := eq_true q0
      have qb : decide (xi < (x.ins.length : Int)) = true := decide_eq_true q0
      have HL := Lib.hid hl
      have HZ := Lib.hid hz
      have HZ2 := Lib.hid hz2
      have H1 := Lib.hid h1
      have H12 := Lib.hid h12
      have HDS := Lib.hid hds
      have HES := Lib.hid hes
      have HYF := Lib.hid hyf
      have HX := Lib.hid (And.intro l1 (And.intro l2 (And.intro g1 (And.intro g2 (And.intro l12 (And.intro l22 (And.intro g12 g22)))))))
      have HS := Lib.hid (show ∀ W' : World, Below wr.heap.size wr W' → W'.cell? ⟨a, 1, none⟩ = some (.slice (some ad) x.ins.length e1) ∧ W'.cell? ⟨b, 1, none⟩ = some (.slice (some ad2) x.ins.length c1) ∧ Lies W' (ad.add (xi.toNat * 36)) ds.toList ∧ Lies W' (ad2.add (xi.toNat * 36)) es.toList from fun W' hW' => by
        have hb := below_then HW.out HW.out.size hW'
        have t := HT.out W' hb
        exact ⟨t.2.1, t.2.2.2.2.2.1, hce W' (HBA.out W' hb), hce2 W' (HBA.out W' hb)⟩)
      clear hz h1 p0 q0 hy hds hl l1 l2 g1 g2 hyf hmem hce hz2 h12 hes l12 l22 g12 g22 hce2 ci
      go_upto_region 6 with fail
      refine start_ (n := 14) (S := fun w' => w'.cell? ⟨a, 1, none⟩ = some (.slice (some ad) x.ins.length e1) ∧ w'.cell? ⟨b, 1, none⟩ = some (.slice (some ad2) x.ins.length c1) ∧ Lies w' (ad.add (xi.toNat * 36)) ds.toList ∧ Lies w' (ad2.add (xi.toNat * 36)) es.toList) (ds := []) #[false, false, false, false, false, false, false, false, false, false, false, false, false, false] (by kernel_rfl) rfl rfl ⟨(HS.out _ (by repeat (first | exact Below.refl _ _ | refine below_drew ?_ | refine below_alloc ?_ _ | refine below_setRow ?_ (by first | exact Nat.le_refl _ | exact Nat.le_succ _) _))).1, (HS.out _ (by repeat (first | exact Below.refl _ _ | refine below_drew ?_ | refine below_alloc ?_ _ | refine below_setRow ?_ (by first | exact Nat.le_refl _ | exact Nat.le_succ _) _))).2.1, (HS.out _ (by repeat (first | exact Below.refl _ _ | refine below_drew ?_ | refine below_alloc ?_ _ | refine below_setRow ?_ (by first | exact Nat.le_refl _ | exact Nat.le_succ _) _))).2.2.1, (HS.out _ (by repeat (first | exact Below.refl _ _ | refine below_drew ?_ | refine below_alloc ?_ _ | refine below_setRow ?_ (by first | exact Nat.le_refl _ | exact Nat.le_succ _) _))).2.2.2⟩ (fun hHeld => ?_)
      refine pure_ (i := 0) (N := some 47) (v := ?_) (a' := ?_) #[true, false, false, false, false, false, false, false, false, false, false, false, false, false] rfl rfl (by kernel_rfl) (fun _ _ _ h => h) (Or.inl ⟨by rfl, ?_⟩) ?_ ?_
      rotate_left
      · intro w'
        go_simp
        with_reducible rfl
      rotate_left
      · simp only [Act.put, List.setIfInBounds_toArray, List.set_cons_zero, List.set_cons_succ, i64_w, i32_w]
        rfl
      refine pure_ (i := 2) (N := some 49) (v := ?_) (a' := ?_) #[true, false, true, false, false, false, false, false, false, false, false, false, false, false] rfl rfl (by kernel_rfl) (fun _ _ _ h => h) (Or.inl ⟨by rfl, ?_⟩) ?_ ?_
      rotate_left
      · intro w'
        go_simp
        with_reducible rfl
      rotate_left
      · simp only [Act.put, List.setIfInBounds_toArray, List.set_cons_zero, List.set_cons_succ, i64_w, i32_w]
        rfl
      refine pure_ (i := 5) (N := some 52) (v := ?_) (a' := ?_) #[true, false, true, false, false, true, false, false, false, false, false, false, false, false] rfl rfl (by kernel_rfl) (fun _ _ _ h => h) (Or.inl ⟨by rfl, ?_⟩) ?_ ?_
      rotate_left
      · intro w'
        go_simp
        with_reducible rfl
      rotate_left
      · simp only [Act.put, List.setIfInBounds_toArray, List.set_cons_zero, List.set_cons_succ, i64_w, i32_w]
        rfl
      refine pure_ (i := 7) (N := some 54) (v := ?_) (a' := ?_) #[true, false, true, false, false, true, false, true, false, false, false, false, false, false] rfl rfl (by kernel_rfl) (fun _ _ _ h => h) (Or.inl ⟨by rfl, ?_⟩) ?_ ?_
      rotate_left
      · intro w'
        go_simp
        with_reducible rfl
      rotate_left
      · simp only [Act.put, List.setIfInBounds_toArray, List.set_cons_zero, List.set_cons_succ, i64_w, i32_w]
        rfl
      refine take_ (i := 1) (N := some 48) (v := ?_) (a' := ?_) #[true, true, true, false, false, true, false, true, false, false, false, false, false, false] rfl rfl (by kernel_rfl) (fun _ _ _ h => h) (Or.inl ⟨by rfl, ?_⟩) hHeld ?_ ?_
      rotate_left
      · rintro w' ⟨s0, s1, s2, s3⟩
        go_simp
        with_reducible rfl
      rotate_left
      · simp only [Act.put, List.setIfInBounds_toArray, List.set_cons_zero, List.set_cons_succ, i64_w, i32_w]
        rfl
      refine pure_ (i := 3) (N := some 50) (v := ?_) (a' := ?_) #[true, true, true, true, false, true, false, true, false, false, false, false, false, false] rfl rfl (by kernel_rfl) (fun _ _ _ h => h) (Or.inl ⟨by rfl, ?_⟩) ?_ ?_
      rotate_left
      · intro w'
        go_simp
        with_reducible rfl
      rotate_left
      · simp only [Act.put, List.setIfInBounds_toArray, List.set_cons_zero, List.set_cons_succ, i64_w, i32_w]
        rfl
      refine take_ (i := 4) (N := some 51) (v := ?_) (a' := ?_) #[true, true, true, true, true, true, false, true, false, false, false, false, false, false] rfl rfl (by kernel_rfl) (fun _ _ _ h => h) (Or.inl ⟨by rfl, ?_⟩) hHeld ?_ ?_
      rotate_left
      · rintro w' ⟨s0, s1, s2, s3⟩
        refine (exec_load_list 43 (.tmp 50) (by rfl) (ad.add (xi.toNat * 36)) (by rfl) ds.toList _ s2 Try.underlying43 rfl (by rw [Array.length_toList, HZ.out]; rfl)).trans ?_
        with_reducible rfl
      rotate_left
      · simp only [Act.put, List.setIfInBounds_toArray, List.set_cons_zero, List.set_cons_succ, i64_w, i32_w]
        rfl
      refine take_ (i := 6) (N := some 53) (v := ?_) (a' := ?_) #[true, true, true, true, true, true, true, true, false, false, false, false, false, false] rfl rfl (by kernel_rfl) (fun _ _ _ h => h) (Or.inl ⟨by rfl, ?_⟩) hHeld ?_ ?_
      rotate_left
      · rintro w' ⟨s0, s1, s2, s3⟩
        go_simp
        with_reducible rfl
      rotate_left
      · simp only [Act.put, List.setIfInBounds_toArray, List.set_cons_zero, List.set_cons_succ, i64_w, i32_w]
        rfl
      refine pure_ (i := 8) (N := some 55) (v := ?_) (a' := ?_) #[true, true, true, true, true, true, true, true, true, false, false, false, false, false] rfl rfl (by kernel_rfl) (fun _ _ _ h => h) (Or.inl ⟨by rfl, ?_⟩) ?_ ?_
      rotate_left
      · intro w'
        go_simp
        with_reducible rfl
      rotate_left
      · simp only [Act.put, List.setIfInBounds_toArray, List.set_cons_zero, List.set_cons_succ, i64_w, i32_w]
        rfl
      refine take_ (i := 9) (N := some 56) (v := ?_) (a' := ?_) #[true, true, true, true, true, true, true, true, true, true, false, false, false, false] rfl rfl (by kernel_rfl) (fun _ _ _ h => h) (Or.inl ⟨by rfl, ?_⟩) hHeld ?_ ?_
      rotate_left
      · rintro w' ⟨s0, s1, s2, s3⟩
        refine (exec_load_list 43 (.tmp 55) (by rfl) (ad2.add (xi.toNat * 36)) (by rfl) es.toList _ s3 Try.underlying43 rfl (by rw [Array.length_toList, HZ2.out]; rfl)).trans ?_
        with_reducible rfl
      rotate_left
      · simp only [Act.put, List.setIfInBounds_toArray, List.set_cons_zero, List.set_cons_succ, i64_w, i32_w]
        rfl
      refine join_ (σ := Nat × Nat) 0 #[true, true, true, true, true, true, true, true, true, true, true, true, true, true] (fun s => [(6, .pointer (some ⟨s.1, 0, none⟩)), (7, .pointer (some ⟨s.2, 0, none⟩))]) (fun s w' => w'.heap[s.1]? = some (.cells ds 43 (0, 0)) ∧ w'.heap[s.2]? = some (.cells es 43 (0, 0)) ∧ Below wr.heap.size wr w') ?_ ?_
      rotate_left
      · intro hCont
        refine two_ (i := 10) (j := 11) (Ni := some 6) (Nj := some 7) #[true, true, true, true, true, true, true, true, true, true, true, false, false, false] #[true, true, true, true, true, true, true, true, true, true, false, true, false, false] rfl rfl rfl rfl (by kernel_rfl) (by decide) (by decide) (fun K hK => ?_) (fun K hK => ?_)
        · skip
          refine value_ (w1 := ?_) (v := ?_) (by rfl) rfl ?_ ?_
          rotate_left 2
          · go_simp
            constructor
            · rfl
            · rfl
          refine hK.out _ _ ⟨(HS.out _ (by repeat (first | exact Below.refl _ _ | refine below_drew ?_ | refine below_alloc ?_ _ | refine below_setRow ?_ (by first | exact Nat.le_refl _ | exact Nat.le_succ _) _))).1, (HS.out _ (by repeat (first | exact Below.refl _ _ | refine below_drew ?_ | refine below_alloc ?_ _ | refine below_setRow ?_ (by first | exact Nat.le_refl _ | exact Nat.le_succ _) _))).2.1, (HS.out _ (by repeat (first | exact Below.refl _ _ | refine below_drew ?_ | refine below_alloc ?_ _ | refine below_setRow ?_ (by first | exact Nat.le_refl _ | exact Nat.le_succ _) _))).2.2.1, (HS.out _ (by repeat (first | exact Below.refl _ _ | refine below_drew ?_ | refine below_alloc ?_ _ | refine below_setRow ?_ (by first | exact Nat.le_refl _ | exact Nat.le_succ _) _))).2.2.2⟩ (fun hHeld => ?_)
          clear hK K
          refine norm_ (a' := ?_) ?_ ?_
          rotate_left
          · show Act.put _ (some 6) _ = _
            simp only [Act.put, List.setIfInBounds_toArray, List.set_cons_zero, List.set_cons_succ, i64_w, i32_w]
            rfl
          refine one_ (i := 11) (N := some 7) #[true, true, true, true, true, true, true, true, true, true, true, true, false, false] rfl rfl (by kernel_rfl) (by decide) (fun K hK => ?_)
          refine value_ (w1 := ?_) (v := ?_) (by rfl) rfl ?_ ?_
          rotate_left 2
          · go_simp
            constructor
            · rfl
            · rfl
          refine hK.out _ _ ⟨(HS.out _ (by repeat (first | exact Below.refl _ _ | refine below_drew ?_ | refine below_alloc ?_ _ | refine below_setRow ?_ (by first | exact Nat.le_refl _ | exact Nat.le_succ _) _))).1, (HS.out _ (by repeat (first | exact Below.refl _ _ | refine below_drew ?_ | refine below_alloc ?_ _ | refine below_setRow ?_ (by first | exact Nat.le_refl _ | exact Nat.le_succ _) _))).2.1, (HS.out _ (by repeat (first | exact Below.refl _ _ | refine below_drew ?_ | refine below_alloc ?_ _ | refine below_setRow ?_ (by first | exact Nat.le_refl _ | exact Nat.le_succ _) _))).2.2.1, (HS.out _ (by repeat (first | exact Below.refl _ _ | refine below_drew ?_ | refine below_alloc ?_ _ | refine below_setRow ?_ (by first | exact Nat.le_refl _ | exact Nat.le_succ _) _))).2.2.2⟩ (fun hHeld => ?_)
          clear hK K
          refine norm_ (a' := ?_) ?_ ?_
          rotate_left
          · show Act.put _ (some 7) _ = _
            simp only [Act.put, List.setIfInBounds_toArray, List.set_cons_zero, List.set_cons_succ, i64_w, i32_w]
            rfl
          refine one_ (i := 12) (N := none) #[true, true, true, true, true, true, true, true, true, true, true, true, true, false] rfl rfl (by kernel_rfl) (by decide) (fun K hK => ?_)
          refine step_store_none (by rfl) rfl 43 (.tmp 6) (.tmp 51) rfl wr.heap.size ds rfl rfl 43 _ (by repeat (first | ((with_reducible refine new_at ?_); first | rfl | (simp; done)) | (with_reducible refine blk_alloc ?_ _) | (with_reducible refine blk_drew ?_) | ((with_reducible refine blk_ne' ?_ ?_); first | omega | (simp; done)))) ?_ ?_ H1.out ?_
          · rw [HZ.out]; rfl
          · rw [HZ.out]; rfl
          refine hK.out _ _ ⟨(HS.out _ (by repeat (first | exact Below.refl _ _ | refine below_drew ?_ | refine below_alloc ?_ _ | refine below_setRow ?_ (by first | exact Nat.le_refl _ | exact Nat.le_succ _) _))).1, (HS.out _ (by repeat (first | exact Below.refl _ _ | refine below_drew ?_ | refine below_alloc ?_ _ | refine below_setRow ?_ (by first | exact Nat.le_refl _ | exact Nat.le_succ _) _))).2.1, (HS.out _ (by repeat (first | exact Below.refl _ _ | refine below_drew ?_ | refine below_alloc ?_ _ | refine below_setRow ?_ (by first | exact Nat.le_refl _ | exact Nat.le_succ _) _))).2.2.1, (HS.out _ (by repeat (first | exact Below.refl _ _ | refine below_drew ?_ | refine below_alloc ?_ _ | refine below_setRow ?_ (by first | exact Nat.le_refl _ | exact Nat.le_succ _) _))).2.2.2⟩ (fun hHeld => ?_)
          clear hK K
          refine one_ (i := 13) (N := none) #[true, true, true, true, true, true, true, true, true, true, true, true, true, true] rfl rfl (by kernel_rfl) (by decide) (fun K hK => ?_)
          refine step_store_none (by rfl) rfl 43 (.tmp 7) (.tmp 56) rfl (wr.heap.size + 1) es rfl rfl 43 _ (by repeat (first | ((with_reducible refine new_at ?_); first | rfl | (simp; done)) | (with_reducible refine blk_alloc ?_ _) | (with_reducible refine blk_drew ?_) | ((with_reducible refine blk_ne' ?_ ?_); first | omega | (simp; done)))) ?_ ?_ H12.out ?_
          · rw [HZ2.out]; rfl
          · rw [HZ2.out]; rfl
          refine hK.out _ _ ⟨(HS.out _ (by repeat (first | exact Below.refl _ _ | refine below_drew ?_ | refine below_alloc ?_ _ | refine below_setRow ?_ (by first | exact Nat.le_refl _ | exact Nat.le_succ _) _))).1, (HS.out _ (by repeat (first | exact Below.refl _ _ | refine below_drew ?_ | refine below_alloc ?_ _ | refine below_setRow ?_ (by first | exact Nat.le_refl _ | exact Nat.le_succ _) _))).2.1, (HS.out _ (by repeat (first | exact Below.refl _ _ | refine below_drew ?_ | refine below_alloc ?_ _ | refine below_setRow ?_ (by first | exact Nat.le_refl _ | exact Nat.le_succ _) _))).2.2.1, (HS.out _ (by repeat (first | exact Below.refl _ _ | refine below_drew ?_ | refine below_alloc ?_ _ | refine below_setRow ?_ (by first | exact Nat.le_refl _ | exact Nat.le_succ _) _))).2.2.2⟩ (fun hHeld => ?_)
          clear hK K
          exact norm_ (by simp only [putAll, Act.put, List.setIfInBounds_toArray, List.set_cons_zero, List.set_cons_succ]) (hCont (wr.heap.size, (wr.heap.size + 1)) _ ⟨(by (try dsimp only); repeat (first | ((with_reducible refine setRow_heap _ _ ?_ _ _ _ ?_); rotate_left; (repeat (first | ((with_reducible refine new_at ?_); first | rfl | (simp; done)) | (with_reducible refine blk_alloc ?_ _) | (with_reducible refine blk_drew ?_) | ((with_reducible refine blk_ne' ?_ ?_); first | omega | (simp; done)))); done) | ((with_reducible refine blk_ne' ?_ ?_); first | omega | (simp; done)))), (by (try dsimp only); repeat (first | ((with_reducible refine setRow_heap _ _ ?_ _ _ _ ?_); rotate_left; (repeat (first | ((with_reducible refine new_at ?_); first | rfl | (simp; done)) | (with_reducible refine blk_alloc ?_ _) | (with_reducible refine blk_drew ?_) | ((with_reducible refine blk_ne' ?_ ?_); first | omega | (simp; done)))); done) | ((with_reducible refine blk_ne' ?_ ?_); first | omega | (simp; done)))), (by repeat (first | exact Below.refl _ _ | refine below_drew ?_ | refine below_alloc ?_ _ | refine below_setRow ?_ (by first | exact Nat.le_refl _ | exact Nat.le_succ _) _))⟩)
        · skip
          refine value_ (w1 := ?_) (v := ?_) (by rfl) rfl ?_ ?_
          rotate_left 2
          · go_simp
            constructor
            · rfl
            · rfl
          refine hK.out _ _ ⟨(HS.out _ (by repeat (first | exact Below.refl _ _ | refine below_drew ?_ | refine below_alloc ?_ _ | refine below_setRow ?_ (by first | exact Nat.le_refl _ | exact Nat.le_succ _) _))).1, (HS.out _ (by repeat (first | exact Below.refl _ _ | refine below_drew ?_ | refine below_alloc ?_ _ | refine below_setRow ?_ (by first | exact Nat.le_refl _ | exact Nat.le_succ _) _))).2.1, (HS.out _ (by repeat (first | exact Below.refl _ _ | refine below_drew ?_ | refine below_alloc ?_ _ | refine below_setRow ?_ (by first | exact Nat.le_refl _ | exact Nat.le_succ _) _))).2.2.1, (HS.out _ (by repeat (first | exact Below.refl _ _ | refine below_drew ?_ | refine below_alloc ?_ _ | refine below_setRow ?_ (by first | exact Nat.le_refl _ | exact Nat.le_succ _) _))).2.2.2⟩ (fun hHeld => ?_)
          clear hK K
          refine norm_ (a' := ?_) ?_ ?_
          rotate_left
          · show Act.put _ (some 7) _ = _
            simp only [Act.put, List.setIfInBounds_toArray, List.set_cons_zero, List.set_cons_succ, i64_w, i32_w]
            rfl
          refine one_ (i := 10) (N := some 6) #[true, true, true, true, true, true, true, true, true, true, true, true, false, false] rfl rfl (by kernel_rfl) (by decide) (fun K hK => ?_)
          refine value_ (w1 := ?_) (v := ?_) (by rfl) rfl ?_ ?_
          rotate_left 2
          · go_simp
            constructor
            · rfl
            · rfl
          refine hK.out _ _ ⟨(HS.out _ (by repeat (first | exact Below.refl _ _ | refine below_drew ?_ | refine below_alloc ?_ _ | refine below_setRow ?_ (by first | exact Nat.le_refl _ | exact Nat.le_succ _) _))).1, (HS.out _ (by repeat (first | exact Below.refl _ _ | refine below_drew ?_ | refine below_alloc ?_ _ | refine below_setRow ?_ (by first | exact Nat.le_refl _ | exact Nat.le_succ _) _))).2.1, (HS.out _ (by repeat (first | exact Below.refl _ _ | refine below_drew ?_ | refine below_alloc ?_ _ | refine below_setRow ?_ (by first | exact Nat.le_refl _ | exact Nat.le_succ _) _))).2.2.1, (HS.out _ (by repeat (first | exact Below.refl _ _ | refine below_drew ?_ | refine below_alloc ?_ _ | refine below_setRow ?_ (by first | exact Nat.le_refl _ | exact Nat.le_succ _) _))).2.2.2⟩ (fun hHeld => ?_)
          clear hK K
          refine norm_ (a' := ?_) ?_ ?_
          rotate_left
          · show Act.put _ (some 6) _ = _
            simp only [Act.put, List.setIfInBounds_toArray, List.set_cons_zero, List.set_cons_succ, i64_w, i32_w]
            rfl
          refine one_ (i := 12) (N := none) #[true, true, true, true, true, true, true, true, true, true, true, true, true, false] rfl rfl (by kernel_rfl) (by decide) (fun K hK => ?_)
          refine step_store_none (by rfl) rfl 43 (.tmp 6) (.tmp 51) rfl (wr.heap.size + 1) ds rfl rfl 43 _ (by repeat (first | ((with_reducible refine new_at ?_); first | rfl | (simp; done)) | (with_reducible refine blk_alloc ?_ _) | (with_reducible refine blk_drew ?_) | ((with_reducible refine blk_ne' ?_ ?_); first | omega | (simp; done)))) ?_ ?_ H1.out ?_
          · rw [HZ.out]; rfl
          · rw [HZ.out]; rfl
          refine hK.out _ _ ⟨(HS.out _ (by repeat (first | exact Below.refl _ _ | refine below_drew ?_ | refine below_alloc ?_ _ | refine below_setRow ?_ (by first | exact Nat.le_refl _ | exact Nat.le_succ _) _))).1, (HS.out _ (by repeat (first | exact Below.refl _ _ | refine below_drew ?_ | refine below_alloc ?_ _ | refine below_setRow ?_ (by first | exact Nat.le_refl _ | exact Nat.le_succ _) _))).2.1, (HS.out _ (by repeat (first | exact Below.refl _ _ | refine below_drew ?_ | refine below_alloc ?_ _ | refine below_setRow ?_ (by first | exact Nat.le_refl _ | exact Nat.le_succ _) _))).2.2.1, (HS.out _ (by repeat (first | exact Below.refl _ _ | refine below_drew ?_ | refine below_alloc ?_ _ | refine below_setRow ?_ (by first | exact Nat.le_refl _ | exact Nat.le_succ _) _))).2.2.2⟩ (fun hHeld => ?_)
          clear hK K
          refine one_ (i := 13) (N := none) #[true, true, true, true, true, true, true, true, true, true, true, true, true, true] rfl rfl (by kernel_rfl) (by decide) (fun K hK => ?_)
          refine step_store_none (by rfl) rfl 43 (.tmp 7) (.tmp 56) rfl wr.heap.size es rfl rfl 43 _ (by repeat (first | ((with_reducible refine new_at ?_); first | rfl | (simp; done)) | (with_reducible refine blk_alloc ?_ _) | (with_reducible refine blk_drew ?_) | ((with_reducible refine blk_ne' ?_ ?_); first | omega | (simp; done)))) ?_ ?_ H12.out ?_
          · rw [HZ2.out]; rfl
          · rw [HZ2.out]; rfl
          refine hK.out _ _ ⟨(HS.out _ (by repeat (first | exact Below.refl _ _ | refine below_drew ?_ | refine below_alloc ?_ _ | refine below_setRow ?_ (by first | exact Nat.le_refl _ | exact Nat.le_succ _) _))).1, (HS.out _ (by repeat (first | exact Below.refl _ _ | refine below_drew ?_ | refine below_alloc ?_ _ | refine below_setRow ?_ (by first | exact Nat.le_refl _ | exact Nat.le_succ _) _))).2.1, (HS.out _ (by repeat (first | exact Below.refl _ _ | refine below_drew ?_ | refine below_alloc ?_ _ | refine below_setRow ?_ (by first | exact Nat.le_refl _ | exact Nat.le_succ _) _))).2.2.1, (HS.out _ (by repeat (first | exact Below.refl _ _ | refine below_drew ?_ | refine below_alloc ?_ _ | refine below_setRow ?_ (by first | exact Nat.le_refl _ | exact Nat.le_succ _) _))).2.2.2⟩ (fun hHeld => ?_)
          clear hK K
          exact norm_ (by simp only [putAll, Act.put, List.setIfInBounds_toArray, List.set_cons_zero, List.set_cons_succ]) (hCont ((wr.heap.size + 1), wr.heap.size) _ ⟨(by (try dsimp only); repeat (first | ((with_reducible refine setRow_heap _ _ ?_ _ _ _ ?_); rotate_left; (repeat (first | ((with_reducible refine new_at ?_); first | rfl | (simp; done)) | (with_reducible refine blk_alloc ?_ _) | (with_reducible refine blk_drew ?_) | ((with_reducible refine blk_ne' ?_ ?_); first | omega | (simp; done)))); done) | ((with_reducible refine blk_ne' ?_ ?_); first | omega | (simp; done)))), (by (try dsimp only); repeat (first | ((with_reducible refine setRow_heap _ _ ?_ _ _ _ ?_); rotate_left; (repeat (first | ((with_reducible refine new_at ?_); first | rfl | (simp; done)) | (with_reducible refine blk_alloc ?_ _) | (with_reducible refine blk_drew ?_) | ((with_reducible refine blk_ne' ?_ ?_); first | omega | (simp; done)))); done) | ((with_reducible refine blk_ne' ?_ ?_); first | omega | (simp; done)))), (by repeat (first | exact Below.refl _ _ | refine below_drew ?_ | refine below_alloc ?_ _ | refine below_setRow ?_ (by first | exact Nat.le_refl _ | exact Nat.le_succ _) _))⟩)
      rintro ⟨b6, b7⟩ w6 ⟨hg6, hg7, hb6⟩
      have HG6 := Aside0.mk hg6; have HG7 := Aside0.mk hg7; have HB6 := Aside0.mk hb6; clear hg6 hg7 hb6
      refine norm_ (a' := ?_) ?_ ?_
      rotate_left
      · simp only [putAll, Act.put, List.setIfInBounds_toArray, List.set_cons_zero, List.set_cons_succ]
        rfl
      refine done_ (by kernel_rfl) ?_
      go_upto_region 7 with fail
      obtain ⟨O, hO⟩ : ∃ O : Array Value, (opc y.h y.i).toArray = O := ⟨_, rfl⟩
      have HO := Lib.hid hO
      have hneq : ∀ W : World, (binOp .neq 39 (.agg O) (.agg O)).run Try.prog W = .ok (.bool false) W := fun W => hO ▸ neq_op y.h y.i HL.out W
      have tic_of : ∀ (W : World) (g : Nat) (C : Array Value) (B1 B2 : Option Addr) (d1 d2 : Nat), W.heap[g]? = some (.cells C 43 (0, 0)) → (tic y B1 d1 B2 d2).toArray = C →
          Lies W ⟨g, 0, none⟩ (opc y.h y.i) ∧ W.cell? ⟨g, 33, none⟩ = some (.slice B1 y.s.length d1) ∧ W.cell? ⟨g, 34, none⟩ = some (.slice B2 y.w.length d2) ∧ W.cell? ⟨g, 35, none⟩ = some (.int .u32 y.q) := by
        intro W g C B1 B2 d1 d2 hg hC
        have hc : ∀ j v, (tic y B1 d1 B2 d2)[j]? = some v → W.cell? ⟨g, j, none⟩ = some v := fun j v hj => (blk_cell hg j).trans (by rw [← hC]; simpa using hj)
        refine ⟨fun j v hj => ?_, hc 33 _ (tic_33 _ _ _ _ _ HL.out), hc 34 _ (tic_34 _ _ _ _ _ HL.out), hc 35 _ (tic_35 _ _ _ _ _ HL.out)⟩
        rw [Addr.add_mid, Nat.zero_add]
        exact hc j v (by rw [tic, List.getElem?_append_left (List.getElem?_eq_some_iff.1 hj).1]; exact hj)
      have HT6 := Lib.hid (fun (W : World) (hW : Below w6.heap.size w6 W) => And.intro (tic_of W b6 ds P1 P2 p1 p2 (blk_below HG6.out hW) HDS.out) (tic_of W b7 es R1 R2 r1 r2 (blk_below HG7.out hW) HES.out))
      have HW6 := Lib.hid (below_then HW.out HW.out.size HB6.out)
      obtain ⟨⟨la, s3, s4, s5⟩, ⟨lb, t3, t4, t5⟩⟩ := HT6.out w6 (Below.refl _ _)
      have LA := Lib.hid la
      have LB := Lib.hid lb
      have HCM := Lib.hid (fun (W : World) (hW : Below W0.heap.size W0 W) => (sb_calls y.s P1 R1 p1 r1 W (Kd.C_below HX.out.2.2.1 (HBA.out W hW)) HX.out.1 (Kd.C_below HX.out.2.2.2.2.2.2.1 (HBA.out W hW)) HX.out.2.2.2.2.1 HYF.out.1))
      clear hO tic_of la lb HS
      go_upto_region 9 with (first
        | (refine wpList_load_list rfl 39 (.tmp 57) rfl ⟨b6, 0, none⟩ rfl (opc y.h y.i) _ LA.out Try.underlying39 rfl ?aI ?_; go_must (case aI => rw [opc_len, HL.out]; rfl); rw [HO.out])
        | (refine wpList_load_list rfl 39 (.tmp 59) rfl ⟨b7, 0, none⟩ rfl (opc y.h y.i) _ LB.out Try.underlying39 rfl ?aI ?_; go_must (case aI => rw [opc_len, HL.out]; rfl); rw [HO.out])
        | (go_at_call 21; go_must ((with_reducible refine (HCM.out w6 HW6.out).mono ?_); rintro e w7 ⟨rfl, hB7⟩; have HB7 := Aside0.mk hB7; clear hB7; obtain ⟨⟨_, s37, s47, s57⟩, ⟨_, t37, t47, t57⟩⟩ := HT6.out w7 HB7.out)))
      have HW7 := Lib.hid (below_then HW6.out HW6.out.size HB7.out)
      clear s3 s4 s5 t3 t4 t5 s37 s57 t37 t57 LA LB hneq HCM HZ HZ2 H1 H12 HO
      obtain ⟨n, hn⟩ : ∃ n, y.w.length = n := ⟨_, rfl⟩
      have HN := Lib.hid hn
      have HCW := Lib.hid (show Kd.C (Kd.slice 5 (Kd.int .u8)) w P2 n y.w ∧ Kd.C (Kd.slice 5 (Kd.int .u8)) w R2 n y.w from hn ▸ ⟨HX.out.2.2.2.1, HX.out.2.2.2.2.2.2.2⟩)
      have HNL := Lib.hid (show n ≤ 2147483647 from hn ▸ HYF.out.2.1)
      have HT7 := Lib.hid (show ∀ W, Below w7.heap.size w7 W → W.cell? ⟨b6, 34, none⟩ = some (.slice P2 n p2) ∧ W.cell? ⟨b7, 34, none⟩ = some (.slice R2 n r2) from fun W hW => by
        have t := HT6.out W (below_then HB7.out HB7.out.size hW)
        rw [hn] at t
        exact ⟨t.1.2.2.1, t.2.2.2.1⟩)
      clear s47 t47 HT6 hn
      go_upto_region 9 with fail
      obtain ⟨wo, rfl⟩ : ∃ wo : World, wo = wr := ⟨_, rfl⟩
      go_wp2
      go_loopg [8] (n + 1) (fun kq v8 w' => ∃ (j : Nat) (xj : Int), v8 = .int .i64 xj ∧ Hid (xj = (j : Int)) ∧ Hid (j + kq = n + 1) ∧ Hid (Below w7.heap.size w7 w'))
      case atStart => exact ⟨0, 0, rfl, Lib.hid rfl, Lib.hid (Nat.zero_add _), Lib.hid (Below.refl _ _)⟩
      case round =>
        obtain ⟨j, xj, rfl, HJ, HJK, HWJ⟩ := hrel
        have z6 := (HT7.out wr HWJ.out).1
        have z7 := (HT7.out wr HWJ.out).2
        by_cases cj : j < n
        · have p0 : 0 ≤ xj := by rw [HJ.out]; omega
          have q0 : xj < (n : Int) := by rw [HJ.out]; omega
          obtain ⟨ad3, C, e3, rfl, hc3, hle3, hC3⟩ := wit_at HCW.out.1 j cj
          obtain ⟨ad4, C4, e4, rfl, hc4, hle4, hC4⟩ := wit_at HCW.out.2 j cj
          have hW' : Below W0.heap.size W0 wr := below_then HW7.out HW7.out.size HWJ.out
          have hul : (y.w.getD j []).length ≤ 2147483647 := HYF.out.2.2 _ (by
            rw [List.getD_eq_getElem?_getD, List.getElem?_eq_getElem (show j < y.w.length by rw [HN.out]; exact cj)]
            exact List.getElem_mem _)
          obtain ⟨u, hu⟩ : ∃ u, y.w.getD j [] = u := ⟨_, rfl⟩
          rw [hu] at hc3 hle3 hC3 hc4 hle4 hC4 hul
          have hnn : n ≤ 2147483647 := HNL.out
          have hw2 : wrap64 (xj + 1) = xj + 1 := wrap64_id (by omega) (by omega)
          obtain ⟨k2, rfl⟩ : ∃ k2, gk = k2 + 1 := ⟨gk - 1, by have := HJK.out; omega⟩
          have pp := eq_true p0
          have qq := eq_true q0
          have qb : decide (xj < (n : Int)) = true := decide_eq_true q0
          have HS := Lib.hid (show ∀ W', Below wr.heap.size wr W' → W'.cell? ⟨b6, 34, none⟩ = some (.slice (some ad3) n p2) ∧ W'.cell? ⟨b7, 34, none⟩ = some (.slice (some ad4) n r2) ∧ W'.cell? (ad3.add xj.toNat) = some (.slice C u.length e3) ∧ W'.cell? (ad4.add xj.toNat) = some (.slice C4 u.length e4) from fun W' hb => by
            have h7 := below_then HWJ.out HWJ.out.size hb
            have hw := HBA.out W' (below_then hW' hW'.size hb)
            have e : xj.toNat = j := by rw [HJ.out, Int.toNat_natCast]
            rw [e]
            exact ⟨(HT7.out W' h7).1, (HT7.out W' h7).2, pw_cell_below hw hc3, pw_cell_below hw hc4⟩)
          have HCM := Lib.hid (fun (W : World) (hb : Below wr.heap.size wr W) => (sb_calls u C C4 e3 e4 W (Kd.C_below hC3 (HBA.out W (below_then hW' hW'.size hb))) hle3 (Kd.C_below hC4 (HBA.out W (below_then hW' hW'.size hb))) hle4 hul))
          clear hc3 hle3 hC3 hc4 hle4 hC4 hul hnn p0 q0 hu cj
          go_upto_region 12 with fail
          refine start_ (n := 12) (S := fun w' => w'.cell? ⟨b6, 34, none⟩ = some (.slice (some ad3) n p2) ∧ w'.cell? ⟨b7, 34, none⟩ = some (.slice (some ad4) n r2) ∧ w'.cell? (ad3.add xj.toNat) = some (.slice C u.length e3) ∧ w'.cell? (ad4.add xj.toNat) = some (.slice C4 u.length e4)) (ds := []) #[false, false, false, false, false, false, false, false, false, false, false, false] (by kernel_rfl) rfl rfl ⟨(HS.out _ (below_drew (Below.refl _ _))).1, (HS.out _ (below_drew (Below.refl _ _))).2.1, (HS.out _ (below_drew (Below.refl _ _))).2.2.1, (HS.out _ (below_drew (Below.refl _ _))).2.2.2⟩ (fun hHeld => ?_)
          refine pure_ (i := 0) (N := some 93) (v := ?_) (a' := ?_) #[true, false, false, false, false, false, false, false, false, false, false, false] rfl rfl (by kernel_rfl) (fun _ _ _ h => h) (Or.inl ⟨by rfl, ?_⟩) ?_ ?_
          rotate_left
          · intro w'
            go_simp
            with_reducible rfl
          rotate_left
          · simp only [Act.put, List.setIfInBounds_toArray, List.set_cons_zero, List.set_cons_succ, i64_w, i32_w]
            rfl
          refine pure_ (i := 2) (N := some 95) (v := ?_) (a' := ?_) #[true, false, true, false, false, false, false, false, false, false, false, false] rfl rfl (by kernel_rfl) (fun _ _ _ h => h) (Or.inl ⟨by rfl, ?_⟩) ?_ ?_
          rotate_left
          · intro w'
            go_simp
            with_reducible rfl
          rotate_left
          · simp only [Act.put, List.setIfInBounds_toArray, List.set_cons_zero, List.set_cons_succ, i64_w, i32_w]
            rfl
          refine pure_ (i := 5) (N := some 98) (v := ?_) (a' := ?_) #[true, false, true, false, false, true, false, false, false, false, false, false] rfl rfl (by kernel_rfl) (fun _ _ _ h => h) (Or.inl ⟨by rfl, ?_⟩) ?_ ?_
          rotate_left
          · intro w'
            go_simp
            with_reducible rfl
          rotate_left
          · simp only [Act.put, List.setIfInBounds_toArray, List.set_cons_zero, List.set_cons_succ, i64_w, i32_w]
            rfl
          refine pure_ (i := 7) (N := some 100) (v := ?_) (a' := ?_) #[true, false, true, false, false, true, false, true, false, false, false, false] rfl rfl (by kernel_rfl) (fun _ _ _ h => h) (Or.inl ⟨by rfl, ?_⟩) ?_ ?_
          rotate_left
          · intro w'
            go_simp
            with_reducible rfl
          rotate_left
          · simp only [Act.put, List.setIfInBounds_toArray, List.set_cons_zero, List.set_cons_succ, i64_w, i32_w]
            rfl
          refine take_ (i := 1) (N := some 94) (v := ?_) (a' := ?_) #[true, true, true, false, false, true, false, true, false, false, false, false] rfl rfl (by kernel_rfl) (fun _ _ _ h => h) (Or.inl ⟨by rfl, ?_⟩) hHeld ?_ ?_
          rotate_left
          · rintro w' ⟨s0, s1, s2, s3⟩
            go_simp
            with_reducible rfl
          rotate_left
          · simp only [Act.put, List.setIfInBounds_toArray, List.set_cons_zero, List.set_cons_succ, i64_w, i32_w]
            rfl
          refine pure_ (i := 3) (N := some 96) (v := ?_) (a' := ?_) #[true, true, true, true, false, true, false, true, false, false, false, false] rfl rfl (by kernel_rfl) (fun _ _ _ h => h) (Or.inl ⟨by rfl, ?_⟩) ?_ ?_
          rotate_left
          · intro w'
            go_simp
            with_reducible rfl
          rotate_left
          · simp only [Act.put, List.setIfInBounds_toArray, List.set_cons_zero, List.set_cons_succ, i64_w, i32_w]
            rfl
          refine take_ (i := 4) (N := some 97) (v := ?_) (a' := ?_) #[true, true, true, true, true, true, false, true, false, false, false, false] rfl rfl (by kernel_rfl) (fun _ _ _ h => h) (Or.inl ⟨by rfl, ?_⟩) hHeld ?_ ?_
          rotate_left
          · rintro w' ⟨s0, s1, s2, s3⟩
            go_simp
            with_reducible rfl
          rotate_left
          · simp only [Act.put, List.setIfInBounds_toArray, List.set_cons_zero, List.set_cons_succ, i64_w, i32_w]
            rfl
          refine take_ (i := 6) (N := some 99) (v := ?_) (a' := ?_) #[true, true, true, true, true, true, true, true, false, false, false, false] rfl rfl (by kernel_rfl) (fun _ _ _ h => h) (Or.inl ⟨by rfl, ?_⟩) hHeld ?_ ?_
          rotate_left
          · rintro w' ⟨s0, s1, s2, s3⟩
            go_simp
            with_reducible rfl
          rotate_left
          · simp only [Act.put, List.setIfInBounds_toArray, List.set_cons_zero, List.set_cons_succ, i64_w, i32_w]
            rfl
          refine pure_ (i := 8) (N := some 101) (v := ?_) (a' := ?_) #[true, true, true, true, true, true, true, true, true, false, false, false] rfl rfl (by kernel_rfl) (fun _ _ _ h => h) (Or.inl ⟨by rfl, ?_⟩) ?_ ?_
          rotate_left
          · intro w'
            go_simp
            with_reducible rfl
          rotate_left
          · simp only [Act.put, List.setIfInBounds_toArray, List.set_cons_zero, List.set_cons_succ, i64_w, i32_w]
            rfl
          refine take_ (i := 9) (N := some 102) (v := ?_) (a' := ?_) #[true, true, true, true, true, true, true, true, true, true, false, false] rfl rfl (by kernel_rfl) (fun _ _ _ h => h) (Or.inl ⟨by rfl, ?_⟩) hHeld ?_ ?_
          rotate_left
          · rintro w' ⟨s0, s1, s2, s3⟩
            go_simp
            with_reducible rfl
          rotate_left
          · simp only [Act.put, List.setIfInBounds_toArray, List.set_cons_zero, List.set_cons_succ, i64_w, i32_w]
            rfl
          refine one_ (i := 10) (N := some 103) #[true, true, true, true, true, true, true, true, true, true, true, false] rfl rfl (by kernel_rfl) (by decide) (fun K hK => ?_)
          refine goes_ Try.func21 (by kernel_rfl) rfl #[.slice C u.length e3, .slice C4 u.length e4] (by rfl) rfl rfl (by simp only [List.map_toArray, List.map_cons, List.map_nil]; rfl) ?_
          with_reducible refine (HCM.out _ (below_drew (Below.refl _ _))).mono ?_
          rintro e w8 ⟨rfl, hB8⟩
          refine ⟨_, rfl, ?_⟩
          have HB8 := Aside0.mk (below_then (below_drew (Below.refl wr.heap.size wr)) (Nat.le_refl _) hB8); clear hB8
          refine hK.out _ _ ⟨(HS.out _ HB8.out).1, (HS.out _ HB8.out).2.1, (HS.out _ HB8.out).2.2.1, (HS.out _ HB8.out).2.2.2⟩ (fun hHeld => ?_)
          clear hK K
          refine norm_ (a' := ?_) ?_ ?_
          rotate_left
          · show Act.put _ (some 103) _ = _
            simp only [Act.put, List.setIfInBounds_toArray, List.set_cons_zero, List.set_cons_succ, i64_w, i32_w]
            rfl
          refine pure_ (i := 11) (N := some 104) (v := ?_) (a' := ?_) #[true, true, true, true, true, true, true, true, true, true, true, true] rfl rfl (by kernel_rfl) (fun _ _ _ h => h) (Or.inl ⟨by rfl, ?_⟩) ?_ ?_
          rotate_left
          · intro w'
            go_simp
            with_reducible rfl
          rotate_left
          · simp only [Act.put, List.setIfInBounds_toArray, List.set_cons_zero, List.set_cons_succ, i64_w, i32_w]
            rfl
          refine done_ (by kernel_rfl) ?_
          go_wp2
          go_roundg k2
          case measure => exact Nat.lt_succ_self _
          case rel => exact ⟨j + 1, xj + 1, (by first | rfl | (simp [hw2]; done)), Lib.hid (by rw [HJ.out]; omega), Lib.hid (by have := HJK.out; omega), Lib.hid (below_then HWJ.out HWJ.out.size HB8.out)⟩
        · have qb : decide (xj < (n : Int)) = false := decide_eq_false (by rw [HJ.out]; omega)
          clear cj
          go_wp2
          go_roundg k1
          case measure => exact Nat.lt_succ_self _
          case rel => exact ⟨i + 1, xi + 1, (by first | rfl | (simp [hw1]; done)), Lib.hid (by rw [HI.out]; omega), Lib.hid (by have := HK.out; omega), Lib.hid (below_then HW7.out HW7.out.size HWJ.out)⟩
    · have qb : decide (xi < (x.ins.length : Int)) = false := decide_eq_false (by rw [HI.out]; omega)
      clear ci HI HK
      go_wp2
      clear qb q1
      obtain ⟨wo, rfl⟩ : ∃ wo : World, wo = wr := ⟨_, rfl⟩
      go_loopg [9] (x.outs.length + 1) (fun kq v9 w' => ∃ (i : Nat) (xi : Int), v9 = .int .i64 xi ∧ Hid (xi = (i : Int)) ∧ Hid (i + kq = x.outs.length + 1) ∧ Hid (Below W0.heap.size W0 w'))
      case atStart => exact ⟨0, 0, rfl, Lib.hid rfl, Lib.hid (Nat.zero_add _), HW⟩
      case round =>
        obtain ⟨i, xi, rfl, HI, HK, HV⟩ := hrel
        have q2 := (HT.out wr HV.out).2.2.1
        by_cases ci : i < x.outs.length
        · have p0 : 0 ≤ xi := by rw [HI.out]; omega
          have q0 : xi < (x.outs.length : Int) := by rw [HI.out]; omega
          obtain ⟨ad, B1, d1, rfl, hx0, hx1, l1, g1⟩ := PFnTxIDs.at_T45 HA.out.g2 xi p0 q0
          obtain ⟨ad2, B2, d2, rfl, hy0, hy1, l2, g2⟩ := PFnTxIDs.at_T45 HB.out.g2 xi p0 q0
          have hw1 : wrap64 (xi + 1) = xi + 1 := by have := HFI.out.2.1; exact wrap64_id (by omega) (by omega)
          have hyf := HFI.out.2.2.2 (PFnTxIDs.rd_T45 x.outs xi) (by
            rw [PFnTxIDs.rd_T45, List.getD_eq_getElem?_getD, List.getElem?_eq_getElem (show xi.toNat < x.outs.length by omega)]
            exact List.getElem_mem _)
          obtain ⟨y, hy⟩ : ∃ y, PFnTxIDs.rd_T45 x.outs xi = y := ⟨_, rfl⟩
          rw [hy] at hx0 hx1 l1 g1 hy0 hy1 l2 g2 hyf
          obtain ⟨k1, rfl⟩ : ∃ k1, gk = k1 + 1 := ⟨gk - 1, by have := HK.out; omega⟩
          have pp := eq_true p0
          have qq := eq_true q0
          have qb : decide (xi < (x.outs.length : Int)) = true := decide_eq_true q0
          have HS := Lib.hid (show ∀ W', Below wr.heap.size wr W' → W'.cell? ⟨a, 2, none⟩ = some (.slice (some ad) x.outs.length e2) ∧ W'.cell? ⟨b, 2, none⟩ = some (.slice (some ad2) x.outs.length c2) ∧ W'.cell? (ad.add (xi.toNat * 2)) = some (.int .i64 y.f0) ∧ W'.cell? ⟨(ad.add (xi.toNat * 2)).block, (ad.add (xi.toNat * 2)).off + 1, none⟩ = some (.slice B1 y.f1.length d1) ∧
              W'.cell? (ad2.add (xi.toNat * 2)) = some (.int .i64 y.f0) ∧ W'.cell? ⟨(ad2.add (xi.toNat * 2)).block, (ad2.add (xi.toNat * 2)).off + 1, none⟩ = some (.slice B2 y.f1.length d2) from fun W' hb => by
            have h0 := below_then HV.out HV.out.size hb
            have t := HT.out W' h0
            have hw := HBA.out W' h0
            exact ⟨t.2.2.1, t.2.2.2.2.2.2.1, pw_cell_below hw hx0, pw_cell_below hw hx1, pw_cell_below hw hy0, pw_cell_below hw hy1⟩)
          have HCM := Lib.hid (fun (W : World) (hb : Below wr.heap.size wr W) => (sb_calls y.f1 B1 B2 d1 d2 W (Kd.C_below g1 (HBA.out W (below_then HV.out HV.out.size hb))) l1 (Kd.C_below g2 (HBA.out W (below_then HV.out HV.out.size hb))) l2 hyf))
          clear hx0 hx1 l1 g1 hy0 hy1 l2 g2 hyf hy p0 q0 ci
          go_upto_region 17 with fail
          refine start_ (n := 29) (S := fun w' => w'.cell? ⟨a, 2, none⟩ = some (.slice (some ad) x.outs.length e2) ∧ w'.cell? ⟨b, 2, none⟩ = some (.slice (some ad2) x.outs.length c2) ∧ w'.cell? (ad.add (xi.toNat * 2)) = some (.int .i64 y.f0) ∧ w'.cell? ⟨(ad.add (xi.toNat * 2)).block, (ad.add (xi.toNat * 2)).off + 1, none⟩ = some (.slice B1 y.f1.length d1) ∧ w'.cell? (ad2.add (xi.toNat * 2)) = some (.int .i64 y.f0) ∧ w'.cell? ⟨(ad2.add (xi.toNat * 2)).block, (ad2.add (xi.toNat * 2)).off + 1, none⟩ = some (.slice B2 y.f1.length d2)) (ds := []) #[false, false, false, false, false, false, false, false, false, false, false, false, false, false, false, false, false, false, false, false, false, false, false, false, false, false, false, false, false] (by kernel_rfl) rfl rfl ⟨(HS.out _ (below_drew (Below.refl _ _))).1, (HS.out _ (below_drew (Below.refl _ _))).2.1, (HS.out _ (below_drew (Below.refl _ _))).2.2.1, (HS.out _ (below_drew (Below.refl _ _))).2.2.2.1, (HS.out _ (below_drew (Below.refl _ _))).2.2.2.2.1, (HS.out _ (below_drew (Below.refl _ _))).2.2.2.2.2⟩ (fun hHeld => ?_)
          refine pure_ (i := 0) (N := some 112) (v := ?_) (a' := ?_) #[true, false, false, false, false, false, false, false, false, false, false, false, false, false, false, false, false, false, false, false, false, false, false, false, false, false, false, false, false] rfl rfl (by kernel_rfl) (fun _ _ _ h => h) (Or.inl ⟨by rfl, ?_⟩) ?_ ?_
          rotate_left
          · intro w'
            go_simp
            with_reducible rfl
          rotate_left
          · simp only [Act.put, List.setIfInBounds_toArray, List.set_cons_zero, List.set_cons_succ, i64_w, i32_w]
            rfl
          refine pure_ (i := 2) (N := some 114) (v := ?_) (a' := ?_) #[true, false, true, false, false, false, false, false, false, false, false, false, false, false, false, false, false, false, false, false, false, false, false, false, false, false, false, false, false] rfl rfl (by kernel_rfl) (fun _ _ _ h => h) (Or.inl ⟨by rfl, ?_⟩) ?_ ?_
          rotate_left
          · intro w'
            go_simp
            with_reducible rfl
          rotate_left
          · simp only [Act.put, List.setIfInBounds_toArray, List.set_cons_zero, List.set_cons_succ, i64_w, i32_w]
            rfl
          refine pure_ (i := 6) (N := some 118) (v := ?_) (a' := ?_) #[true, false, true, false, false, false, true, false, false, false, false, false, false, false, false, false, false, false, false, false, false, false, false, false, false, false, false, false, false] rfl rfl (by kernel_rfl) (fun _ _ _ h => h) (Or.inl ⟨by rfl, ?_⟩) ?_ ?_
          rotate_left
          · intro w'
            go_simp
            with_reducible rfl
          rotate_left
          · simp only [Act.put, List.setIfInBounds_toArray, List.set_cons_zero, List.set_cons_succ, i64_w, i32_w]
            rfl
          refine pure_ (i := 8) (N := some 120) (v := ?_) (a' := ?_) #[true, false, true, false, false, false, true, false, true, false, false, false, false, false, false, false, false, false, false, false, false, false, false, false, false, false, false, false, false] rfl rfl (by kernel_rfl) (fun _ _ _ h => h) (Or.inl ⟨by rfl, ?_⟩) ?_ ?_
          rotate_left
          · intro w'
            go_simp
            with_reducible rfl
          rotate_left
          · simp only [Act.put, List.setIfInBounds_toArray, List.set_cons_zero, List.set_cons_succ, i64_w, i32_w]
            rfl
          refine take_ (i := 1) (N := some 113) (v := ?_) (a' := ?_) #[true, true, true, false, false, false, true, false, true, false, false, false, false, false, false, false, false, false, false, false, false, false, false, false, false, false, false, false, false] rfl rfl (by kernel_rfl) (fun _ _ _ h => h) (Or.inl ⟨by rfl, ?_⟩) hHeld ?_ ?_
          rotate_left
          · rintro w' ⟨s0, s1, s2, s3, s4, s5⟩
            go_simp
            with_reducible rfl
          rotate_left
          · simp only [Act.put, List.setIfInBounds_toArray, List.set_cons_zero, List.set_cons_succ, i64_w, i32_w]
            rfl
          refine pure_ (i := 3) (N := some 115) (v := ?_) (a' := ?_) #[true, true, true, true, false, false, true, false, true, false, false, false, false, false, false, false, false, false, false, false, false, false, false, false, false, false, false, false, false] rfl rfl (by kernel_rfl) (fun _ _ _ h => h) (Or.inl ⟨by rfl, ?_⟩) ?_ ?_
          rotate_left
          · intro w'
            go_simp
            with_reducible rfl
          rotate_left
          · simp only [Act.put, List.setIfInBounds_toArray, List.set_cons_zero, List.set_cons_succ, i64_w, i32_w]
            rfl
          refine pure_ (i := 4) (N := some 116) (v := ?_) (a' := ?_) #[true, true, true, true, true, false, true, false, true, false, false, false, false, false, false, false, false, false, false, false, false, false, false, false, false, false, false, false, false] rfl rfl (by kernel_rfl) (fun _ _ _ h => h) (Or.inl ⟨by rfl, ?_⟩) ?_ ?_
          rotate_left
          · intro w'
            go_simp
            with_reducible rfl
          rotate_left
          · simp only [Act.put, List.setIfInBounds_toArray, List.set_cons_zero, List.set_cons_succ, i64_w, i32_w]
            rfl
          refine take_ (i := 5) (N := some 117) (v := ?_) (a' := ?_) #[true, true, true, true, true, true, true, false, true, false, false, false, false, false, false, false, false, false, false, false, false, false, false, false, false, false, false, false, false] rfl rfl (by kernel_rfl) (fun _ _ _ h => h) (Or.inl ⟨by rfl, ?_⟩) hHeld ?_ ?_
          rotate_left
          · rintro w' ⟨s0, s1, s2, s3, s4, s5⟩
            go_simp
            with_reducible rfl
          rotate_left
          · simp only [Act.put, List.setIfInBounds_toArray, List.set_cons_zero, List.set_cons_succ, i64_w, i32_w]
            rfl
          refine take_ (i := 7) (N := some 119) (v := ?_) (a' := ?_) #[true, true, true, true, true, true, true, true, true, false, false, false, false, false, false, false, false, false, false, false, false, false, false, false, false, false, false, false, false] rfl rfl (by kernel_rfl) (fun _ _ _ h => h) (Or.inl ⟨by rfl, ?_⟩) hHeld ?_ ?_
          rotate_left
          · rintro w' ⟨s0, s1, s2, s3, s4, s5⟩
            go_simp
            with_reducible rfl
          rotate_left
          · simp only [Act.put, List.setIfInBounds_toArray, List.set_cons_zero, List.set_cons_succ, i64_w, i32_w]
            rfl
          refine pure_ (i := 9) (N := some 121) (v := ?_) (a' := ?_) #[true, true, true, true, true, true, true, true, true, true, false, false, false, false, false, false, false, false, false, false, false, false, false, false, false, false, false, false, false] rfl rfl (by kernel_rfl) (fun _ _ _ h => h) (Or.inl ⟨by rfl, ?_⟩) ?_ ?_
          rotate_left
          · intro w'
            go_simp
            with_reducible rfl
          rotate_left
          · simp only [Act.put, List.setIfInBounds_toArray, List.set_cons_zero, List.set_cons_succ, i64_w, i32_w]
            rfl
          refine pure_ (i := 10) (N := some 122) (v := ?_) (a' := ?_) #[true, true, true, true, true, true, true, true, true, true, true, false, false, false, false, false, false, false, false, false, false, false, false, false, false, false, false, false, false] rfl rfl (by kernel_rfl) (fun _ _ _ h => h) (Or.inl ⟨by rfl, ?_⟩) ?_ ?_
          rotate_left
          · intro w'
            go_simp
            with_reducible rfl
          rotate_left
          · simp only [Act.put, List.setIfInBounds_toArray, List.set_cons_zero, List.set_cons_succ, i64_w, i32_w]
            rfl
          refine take_ (i := 11) (N := some 123) (v := ?_) (a' := ?_) #[true, true, true, true, true, true, true, true, true, true, true, true, false, false, false, false, false, false, false, false, false, false, false, false, false, false, false, false, false] rfl rfl (by kernel_rfl) (fun _ _ _ h => h) (Or.inl ⟨by rfl, ?_⟩) hHeld ?_ ?_
          rotate_left
          · rintro w' ⟨s0, s1, s2, s3, s4, s5⟩
            go_simp
            with_reducible rfl
          rotate_left
          · simp only [Act.put, List.setIfInBounds_toArray, List.set_cons_zero, List.set_cons_succ, i64_w, i32_w]
            rfl
          refine pure_ (i := 12) (N := some 124) (v := ?_) (a' := ?_) #[true, true, true, true, true, true, true, true, true, true, true, true, true, false, false, false, false, false, false, false, false, false, false, false, false, false, false, false, false] rfl rfl (by kernel_rfl) (fun _ _ _ h => h) (Or.inl ⟨by rfl, ?_⟩) ?_ ?_
          rotate_left
          · intro w'
            go_simp
            with_reducible rfl
          rotate_left
          · simp only [Act.put, List.setIfInBounds_toArray, List.set_cons_zero, List.set_cons_succ, i64_w, i32_w]
            rfl
          refine pure_ (i := 13) (N := some 125) (v := ?_) (a' := ?_) #[true, true, true, true, true, true, true, true, true, true, true, true, true, true, false, false, false, false, false, false, false, false, false, false, false, false, false, false, false] rfl rfl (by kernel_rfl) (fun _ _ _ h => h) (Or.inl ⟨by rfl, ?_⟩) ?_ ?_
          rotate_left
          · intro w'
            go_simp
            with_reducible rfl
          rotate_left
          · simp only [Act.put, List.setIfInBounds_toArray, List.set_cons_zero, List.set_cons_succ, i64_w, i32_w]
            rfl
          refine pure_ (i := 14) (N := some 126) (v := ?_) (a' := ?_) #[true, true, true, true, true, true, true, true, true, true, true, true, true, true, true, false, false, false, false, false, false, false, false, false, false, false, false, false, false] rfl rfl (by kernel_rfl) (fun _ _ _ h => h) (Or.inl ⟨by rfl, ?_⟩) ?_ ?_
          rotate_left
          · intro w'
            go_simp
            with_reducible rfl
          rotate_left
          · simp only [Act.put, List.setIfInBounds_toArray, List.set_cons_zero, List.set_cons_succ, i64_w, i32_w]
            rfl
          refine pure_ (i := 16) (N := some 128) (v := ?_) (a' := ?_) #[true, true, true, true, true, true, true, true, true, true, true, true, true, true, true, false, true, false, false, false, false, false, false, false, false, false, false, false, false] rfl rfl (by kernel_rfl) (fun _ _ _ h => h) (Or.inl ⟨by rfl, ?_⟩) ?_ ?_
          rotate_left
          · intro w'
            go_simp
            with_reducible rfl
          rotate_left
          · simp only [Act.put, List.setIfInBounds_toArray, List.set_cons_zero, List.set_cons_succ, i64_w, i32_w]
            rfl
          refine pure_ (i := 20) (N := some 132) (v := ?_) (a' := ?_) #[true, true, true, true, true, true, true, true, true, true, true, true, true, true, true, false, true, false, false, false, true, false, false, false, false, false, false, false, false] rfl rfl (by kernel_rfl) (fun _ _ _ h => h) (Or.inl ⟨by rfl, ?_⟩) ?_ ?_
          rotate_left
          · intro w'
            go_simp
            with_reducible rfl
          rotate_left
          · simp only [Act.put, List.setIfInBounds_toArray, List.set_cons_zero, List.set_cons_succ, i64_w, i32_w]
            rfl
          refine pure_ (i := 22) (N := some 134) (v := ?_) (a' := ?_) #[true, true, true, true, true, true, true, true, true, true, true, true, true, true, true, false, true, false, false, false, true, false, true, false, false, false, false, false, false] rfl rfl (by kernel_rfl) (fun _ _ _ h => h) (Or.inl ⟨by rfl, ?_⟩) ?_ ?_
          rotate_left
          · intro w'
            go_simp
            with_reducible rfl
          rotate_left
          · simp only [Act.put, List.setIfInBounds_toArray, List.set_cons_zero, List.set_cons_succ, i64_w, i32_w]
            rfl
          refine take_ (i := 15) (N := some 127) (v := ?_) (a' := ?_) #[true, true, true, true, true, true, true, true, true, true, true, true, true, true, true, true, true, false, false, false, true, false, true, false, false, false, false, false, false] rfl rfl (by kernel_rfl) (fun _ _ _ h => h) (Or.inl ⟨by rfl, ?_⟩) hHeld ?_ ?_
          rotate_left
          · rintro w' ⟨s0, s1, s2, s3, s4, s5⟩
            go_simp
            with_reducible rfl
          rotate_left
          · simp only [Act.put, List.setIfInBounds_toArray, List.set_cons_zero, List.set_cons_succ, i64_w, i32_w]
            rfl
          refine pure_ (i := 17) (N := some 129) (v := ?_) (a' := ?_) #[true, true, true, true, true, true, true, true, true, true, true, true, true, true, true, true, true, true, false, false, true, false, true, false, false, false, false, false, false] rfl rfl (by kernel_rfl) (fun _ _ _ h => h) (Or.inl ⟨by rfl, ?_⟩) ?_ ?_
          rotate_left
          · intro w'
            go_simp
            with_reducible rfl
          rotate_left
          · simp only [Act.put, List.setIfInBounds_toArray, List.set_cons_zero, List.set_cons_succ, i64_w, i32_w]
            rfl
          refine pure_ (i := 18) (N := some 130) (v := ?_) (a' := ?_) #[true, true, true, true, true, true, true, true, true, true, true, true, true, true, true, true, true, true, true, false, true, false, true, false, false, false, false, false, false] rfl rfl (by kernel_rfl) (fun _ _ _ h => h) (Or.inl ⟨by rfl, ?_⟩) ?_ ?_
          rotate_left
          · intro w'
            go_simp
            with_reducible rfl
          rotate_left
          · simp only [Act.put, List.setIfInBounds_toArray, List.set_cons_zero, List.set_cons_succ, i64_w, i32_w]
            rfl
          refine take_ (i := 19) (N := some 131) (v := ?_) (a' := ?_) #[true, true, true, true, true, true, true, true, true, true, true, true, true, true, true, true, true, true, true, true, true, false, true, false, false, false, false, false, false] rfl rfl (by kernel_rfl) (fun _ _ _ h => h) (Or.inl ⟨by rfl, ?_⟩) hHeld ?_ ?_
          rotate_left
          · rintro w' ⟨s0, s1, s2, s3, s4, s5⟩
            go_simp
            with_reducible rfl
          rotate_left
          · simp only [Act.put, List.setIfInBounds_toArray, List.set_cons_zero, List.set_cons_succ, i64_w, i32_w]
            rfl
          refine take_ (i := 21) (N := some 133) (v := ?_) (a' := ?_) #[true, true, true, true, true, true, true, true, true, true, true, true, true, true, true, true, true, true, true, true, true, true, true, false, false, false, false, false, false] rfl rfl (by kernel_rfl) (fun _ _ _ h => h) (Or.inl ⟨by rfl, ?_⟩) hHeld ?_ ?_
          rotate_left
          · rintro w' ⟨s0, s1, s2, s3, s4, s5⟩
            go_simp
            with_reducible rfl
          rotate_left
          · simp only [Act.put, List.setIfInBounds_toArray, List.set_cons_zero, List.set_cons_succ, i64_w, i32_w]
            rfl
          refine pure_ (i := 23) (N := some 135) (v := ?_) (a' := ?_) #[true, true, true, true, true, true, true, true, true, true, true, true, true, true, true, true, true, true, true, true, true, true, true, true, false, false, false, false, false] rfl rfl (by kernel_rfl) (fun _ _ _ h => h) (Or.inl ⟨by rfl, ?_⟩) ?_ ?_
          rotate_left
          · intro w'
            go_simp
            with_reducible rfl
          rotate_left
          · simp only [Act.put, List.setIfInBounds_toArray, List.set_cons_zero, List.set_cons_succ, i64_w, i32_w]
            rfl
          refine pure_ (i := 24) (N := some 136) (v := ?_) (a' := ?_) #[true, true, true, true, true, true, true, true, true, true, true, true, true, true, true, true, true, true, true, true, true, true, true, true, true, false, false, false, false] rfl rfl (by kernel_rfl) (fun _ _ _ h => h) (Or.inl ⟨by rfl, ?_⟩) ?_ ?_
          rotate_left
          · intro w'
            go_simp
            with_reducible rfl
          rotate_left
          · simp only [Act.put, List.setIfInBounds_toArray, List.set_cons_zero, List.set_cons_succ, i64_w, i32_w]
            rfl
          refine take_ (i := 25) (N := some 137) (v := ?_) (a' := ?_) #[true, true, true, true, true, true, true, true, true, true, true, true, true, true, true, true, true, true, true, true, true, true, true, true, true, true, false, false, false] rfl rfl (by kernel_rfl) (fun _ _ _ h => h) (Or.inl ⟨by rfl, ?_⟩) hHeld ?_ ?_
          rotate_left
          · rintro w' ⟨s0, s1, s2, s3, s4, s5⟩
            go_simp
            with_reducible rfl
          rotate_left
          · simp only [Act.put, List.setIfInBounds_toArray, List.set_cons_zero, List.set_cons_succ, i64_w, i32_w]
            rfl
          refine one_ (i := 26) (N := some 138) #[true, true, true, true, true, true, true, true, true, true, true, true, true, true, true, true, true, true, true, true, true, true, true, true, true, true, true, false, false] rfl rfl (by kernel_rfl) (by decide) (fun K hK => ?_)
          refine goes_ Try.func21 (by kernel_rfl) rfl #[.slice B1 y.f1.length d1, .slice B2 y.f1.length d2] (by rfl) rfl rfl (by simp only [List.map_toArray, List.map_cons, List.map_nil]; rfl) ?_
          with_reducible refine (HCM.out _ (below_drew (Below.refl _ _))).mono ?_
          rintro e w8 ⟨rfl, hB8⟩
          refine ⟨_, rfl, ?_⟩
          have HB8 := Aside0.mk (below_then (below_drew (Below.refl wr.heap.size wr)) (Nat.le_refl _) hB8); clear hB8
          refine hK.out _ _ ⟨(HS.out _ HB8.out).1, (HS.out _ HB8.out).2.1, (HS.out _ HB8.out).2.2.1, (HS.out _ HB8.out).2.2.2.1, (HS.out _ HB8.out).2.2.2.2.1, (HS.out _ HB8.out).2.2.2.2.2⟩ (fun hHeld => ?_)
          clear hK K
          refine norm_ (a' := ?_) ?_ ?_
          rotate_left
          · show Act.put _ (some 138) _ = _
            simp only [Act.put, List.setIfInBounds_toArray, List.set_cons_zero, List.set_cons_succ, i64_w, i32_w]
            rfl
          refine pure_ (i := 27) (N := some 139) (v := ?_) (a' := ?_) #[true, true, true, true, true, true, true, true, true, true, true, true, true, true, true, true, true, true, true, true, true, true, true, true, true, true, true, true, false] rfl rfl (by kernel_rfl) (fun _ _ _ h => h) (Or.inl ⟨by rfl, ?_⟩) ?_ ?_
          rotate_left
          · intro w'
            go_simp
            with_reducible rfl
          rotate_left
          · simp only [Act.put, List.setIfInBounds_toArray, List.set_cons_zero, List.set_cons_succ, i64_w, i32_w]
            rfl
          refine pure_ (i := 28) (N := some 140) (v := ?_) (a' := ?_) #[true, true, true, true, true, true, true, true, true, true, true, true, true, true, true, true, true, true, true, true, true, true, true, true, true, true, true, true, true] rfl rfl (by kernel_rfl) (fun _ _ _ h => h) (Or.inl ⟨by rfl, ?_⟩) ?_ ?_
          rotate_left
          · intro w'
            go_simp
            with_reducible rfl
          rotate_left
          · simp only [Act.put, List.setIfInBounds_toArray, List.set_cons_zero, List.set_cons_succ, i64_w, i32_w]
            rfl
          refine done_ (by kernel_rfl) ?_
          go_wp2
          go_roundg k1
          case measure => exact Nat.lt_succ_self _
          case rel => exact ⟨i + 1, xi + 1, (by first | rfl | (simp [hw1]; done)), Lib.hid (by rw [HI.out]; omega), Lib.hid (by have := HK.out; omega), Lib.hid (below_then HV.out HV.out.size HB8.out)⟩
        · have qb : decide (xi < (x.outs.length : Int)) = false := decide_eq_false (by rw [HI.out]; omega)
          clear ci
          go_wp2
          go_ret
          exact ⟨rfl, HBA.out _ HV.out⟩
end Go.Proofs.Ytkmlpoggbfbnaaa.Wire
