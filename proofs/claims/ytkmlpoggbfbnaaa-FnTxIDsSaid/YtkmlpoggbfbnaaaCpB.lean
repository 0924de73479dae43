/-
  MsgTx.Copy: a copy of a transaction of wire's.
-/
import Derived.Test.YtkmlpoggbfbnaaaCpA
import Derived.Deep.RegionHeld3
namespace Go.Proofs.Ytkmlpoggbfbnaaa.Wire
open Go.RowKit Go.Proofs.YtkmlpoggbfbnaaaW.PrintWords Go.Proofs.YtkmlpoggbfbnaaaW.PrintLast Go.Proofs.Ytkmlpoggbfbnaaa.Reg Go.Proofs.Ytkmlpoggbfbnaaa.Buf Go.Proofs.Ytkmlpoggbfbnaaa.Tx
open Go.Proofs.Ytkmlpoggbfbnaaa.Sh (wp_world)
set_option linter.unusedSimpArgs false
set_option linter.unusedVariables false

theorem info_row : (Try.prog.info? 40).map (fun i => (i.zero, i.size, i.bytes)) = some (some (.slice none 0 0), 1, 24) := by kernel_rfl
theorem mkI_run (n : Nat) (h : n ≤ 2147483647) (W : World) : (Instr.makeSlice 58 (.int .i64 0) (.int .i64 (n : Int))).run Try.prog W = .ok (.slice (some ⟨W.heap.size, 0, none⟩) 0 n) (W.alloc (.cells (madeCells #[.pointer none] n) 62)) := by
  obtain ⟨i0, hi, z1, z2, z3⟩ := info_parts info_pi
  have h := run_make (P := Try.prog) W 58 62 i0 (.pointer none) Try.underlying58 hi z1 .i64 .i64 0 (n : Int) (by omega) (by omega) (by rw [z3]; omega) (by omega)
  rw [z2] at h
  simpa [Value.cells, kPI, ptr] using h
theorem mkO_run (n : Nat) (h : n ≤ 2147483647) (W : World) : (Instr.makeSlice 59 (.int .i64 0) (.int .i64 (n : Int))).run Try.prog W = .ok (.slice (some ⟨W.heap.size, 0, none⟩) 0 n) (W.alloc (.cells (madeCells #[.pointer none] n) 71)) := by
  obtain ⟨i0, hi, z1, z2, z3⟩ := info_parts info_po
  have h := run_make (P := Try.prog) W 59 71 i0 (.pointer none) Try.underlying59 hi z1 .i64 .i64 0 (n : Int) (by omega) (by omega) (by rw [z3]; omega) (by omega)
  rw [z2] at h
  simpa [Value.cells, kPO, ptr] using h
theorem mkW_run (n : Nat) (h : n ≤ 2147483647) (W : World) : (Instr.makeSlice 41 (.int .i64 (n : Int)) (.int .i64 (n : Int))).run Try.prog W = .ok (.slice (some ⟨W.heap.size, 0, none⟩) n n) (W.alloc (.cells (madeCells #[.slice none 0 0] n) 40)) := by
  obtain ⟨i0, hi, z1, z2, z3⟩ := info_parts info_row
  have h := run_make (P := Try.prog) W 41 40 i0 (.slice none 0 0) Try.underlying41 hi z1 .i64 .i64 (n : Int) (n : Int) (by omega) (by omega) (by rw [z3]; omega) (by omega)
  rw [z2] at h
  simpa [Value.cells, Kd.slice] using h
theorem new_at {W : World} {o : Obj} {k : Nat} (hk : k = W.heap.size) : (W.alloc o).heap[k]? = some o := by subst hk; exact heap_alloc_new W o
theorem wc_fresh {w W : World} {M gI gO nI nO : Nat} {x : TX} (hB : Below w.heap.size w W) (hM : W.heap[M]? = some (.cells #[.int .i32 x.v, .slice (some ⟨gI, 0, none⟩) 0 nI, .slice (some ⟨gO, 0, none⟩) 0 nO, .int .u32 x.k] 61 (0, 0)))
    (hI : W.heap[gI]? = some (.cells (madeCells #[.pointer none] nI) 62 (0, 0))) (hO : W.heap[gO]? = some (.cells (madeCells #[.pointer none] nO) 71 (0, 0))) (h1 : gI ≠ M) (h2 : gO ≠ M) (h3 : w.heap.size ≤ gI) (h4 : w.heap.size ≤ gO) (h5 : nI ≤ 2147483647) (h6 : nO ≤ 2147483647) :
    Wc w W M x (.slice (some ⟨gI, 0, none⟩) 0 nI) (.slice (some ⟨gO, 0, none⟩) 0 nO) [] [] :=
  ⟨hB, hM, Kd.R_mono (room_R hI h3 (by rw [size_madeCells]; exact (Nat.mul_one _).symm) h5) (fun k hk => hk ▸ h1), Kd.R_mono (room_R hO h4 (by rw [size_madeCells]; exact (Nat.mul_one _).symm) h6) (fun k hk => hk ▸ h2)⟩
theorem wit_at {w : World} {A : Option Addr} {n : Nat} {ws : List (List Int)} (h : Kd.C (Kd.slice 5 (Kd.int .u8)) w A n ws) (j : Nat) (hj : j < n) :
    ∃ (ad : Addr) (C : Option Addr) (e : Nat), A = some ad ∧ w.cell? (ad.add j) = some (.slice C (ws.getD j []).length e) ∧ (ws.getD j []).length ≤ e ∧ Kd.C (Kd.int .u8) w C (ws.getD j []).length (ws.getD j []) := by
  obtain ⟨ad, c, e, _, hK, hc⟩ := Kd.C_get h [] (j : Int) (by omega) (by omega)
  obtain ⟨C, e1, rfl, hl, hC⟩ := hK
  have := hc 0 _ rfl
  rw [Int.toNat_natCast, show j * (Kd.slice 5 (Kd.int .u8)).sz + 0 = j from Nat.mul_one _] at this
  rw [Int.toNat_natCast] at hl hC
  exact ⟨ad, C, e1, e, this, hl, hC⟩
theorem C_within {α : Type} {d : Kd α} {w W : World} {A : Option Addr} {n : Nat} {xs : List α} (h : Kd.C d w A n xs) (hb : Below w.heap.size w W) : Kd.C d W A n xs := Kd.C_below h hb
theorem on_set_new {b g : Nat} {w w1 : World} (h : Go.Proofs.Ytkmlpoggbfbnaaa.Sh.On b w w1) (hg : w.heap.size ≤ g) (hb : b ≤ g) (j : Nat) (u : Value) : Go.Proofs.Ytkmlpoggbfbnaaa.Sh.On b w (w1.setCell ⟨g, j, none⟩ u) :=
  ⟨h.1.setCell hb u, ⟨by simpa [World.setCell] using h.2.1, fun i hi hne hr => (Below.heap_setCell w1 _ u i (by show i ≠ g; omega)).trans (h.2.2 i hi hne hr)⟩⟩
theorem Pre.less {W : World} {lo gw i j : Nat} {ws : List (List Int)} (h : Pre W lo gw ws j) (hi : i ≤ j) : Pre W lo gw ws i := by
  obtain ⟨rc, h1, h2, h3⟩ := h
  exact ⟨rc, h1, h2, fun k hk => h3 k (by omega)⟩
theorem step_store_row {P : Program} {ops : Array Oper} {o : Oper} {a : Act} {W : World} {Kc : Act → World → Prop} {Q : Exit → Act → World → Prop} (hw : Region.wanted o (yielded ops a.tmps) = true) (ty : TypeId) (x y : Operand) (ho : o.op = .store ty x y)
    (g : Nat) (cells : Array Value) (hx : a.eval x = .pointer (some ⟨g, 0, none⟩)) (hy : a.eval y = .agg cells) (t : TypeId) (old : Array Value) (hg : W.heap[g]? = some (.cells old t (0, 0))) (hi : (P.info? ty).map (·.size) = some cells.size)
    (hold : old.size = cells.size) (h1 : cells.all (·.oneCell') = true) (h : Kc (a.put o.dst undef) (W.setRow g cells)) :
    if Region.wanted o (yielded ops a.tmps) = true then Oper.wp P o a W Kc Q else Kc (a.put o.dst undef) W := by
  rw [if_pos hw]
  exact wp_store_row ty x y ho g cells hx hy t old hg hi hold h1 h
theorem built_ti3 (h : List Int) (i : Int) (hl : h.length = 32) (A : Option Addr) (n c : Nat) (q : Int) : Try.prog.built 70 [(0, .agg (opc h i).toArray), (1, .slice A n c), (3, .int .u32 q)] = some (opc h i ++ ([Value.slice A n c, Value.slice none 0 0, Value.int .u32 q] : List Value)).toArray := by
  obtain ⟨a0, a1, a2, a3, a4, a5, a6, a7, a8, a9, a10, a11, a12, a13, a14, a15, a16, a17, a18, a19, a20, a21, a22, a23, a24, a25, a26, a27, a28, a29, a30, a31, rfl⟩ := list32 h hl
  kernel_rfl
theorem built_op0 : ∃ Z : Array Value, Try.prog.built 64 [] = some Z ∧ Z.size = 33 ∧ Z.all (·.oneCell') = true :=
  ⟨(opc (List.replicate 32 0) 0).toArray, by kernel_rfl, by rw [List.size_toArray, opc_len, List.length_replicate], all_oneCell_toArray (opc_one _ _)⟩
set_option maxHeartbeats 16000000 in
set_option maxRecDepth 100000 in
theorem copyTx_calls {F : Nat → Prop} {w : World} {g : Nat} {x : TX} {A1 : Option Addr} {c1 : Nat} {A2 : Option Addr} {c2 : Nat} (hx : TxF F w g x A1 c1 A2 c2) (hF : ∀ k, F k → k < w.heap.size) (hf : fit2 x = true) :
    Calls Try.prog 23 #[.pointer (some ⟨g, 0, none⟩)] w fun e w' => ∃ M v1 v2, e = .returned (.pointer (some ⟨M, 0, none⟩)) ∧ Wx w' w.heap.size M x v1 v2 ∧ Below w.heap.size w w' := by
  have HX := Lib.hid hx
  have HFF := Lib.hid hF
  have HF := Lib.hid hf
  have z0 := (blk_cell hx.blk 0).trans rfl
  have z1 := (blk_cell hx.blk 1).trans rfl
  have z2 := (blk_cell hx.blk 2).trans rfl
  have z3 := (blk_cell hx.blk 3).trans rfl
  clear hx hF hf
  go_enter Try.func23, Try.ntmps23
  go_upto_region 1 with fail
  have hfi : x.ins.length ≤ 2147483647 ∧ x.outs.length ≤ 2147483647 ∧ (∀ y ∈ x.ins, y.s.length ≤ 2147483647 ∧ y.w.length ≤ 2147483647 ∧ ∀ u ∈ y.w, u.length ≤ 2147483647) ∧ ∀ y ∈ x.outs, y.f1.length ≤ 2147483647 := by
    have hf := HF.out
    simp only [fit2, fit3, fit4, fit5, fit6, Bool.and_eq_true, decide_eq_true_eq, List.all_eq_true] at hf
    exact ⟨hf.1.1, hf.2.1, fun y hy => ⟨(hf.1.2 y hy).1, (hf.1.2 y hy).2.1, (hf.1.2 y hy).2.2⟩, hf.2.2⟩
  have mkI := fun W => mkI_run x.ins.length hfi.1 W
  have mkO := fun W => mkO_run x.outs.length hfi.2.1 W
  have HFI := Lib.hid hfi
  have hm : ∀ W : World, Below w.heap.size w W → W.cell? ⟨g, 0, none⟩ = some (.int .i32 x.v) ∧ W.cell? ⟨g, 1, none⟩ = some (.slice A1 x.ins.length c1) ∧ W.cell? ⟨g, 2, none⟩ = some (.slice A2 x.outs.length c2) ∧ W.cell? ⟨g, 3, none⟩ = some (.int .u32 x.k) := fun W hW => ⟨pw_cell_below hW z0, pw_cell_below hW z1, pw_cell_below hW z2, pw_cell_below hW z3⟩
  have HM := Lib.hid hm
  clear hfi hm z0 z1 z2 z3
  have q0 := (HM.out _ (Below.refl _ _)).1
  have q1 := (HM.out _ (Below.refl _ _)).2.1
  have q2 := (HM.out _ (Below.refl _ _)).2.2.1
  have q3 := (HM.out _ (Below.refl _ _)).2.2.2
  go_cut [3] (fun v3 W => ∃ M vI vO, v3 = .pointer (some ⟨M, 0, none⟩) ∧ Hid (Wc w W M x vI vO [] []) ∧ Hid (w.heap.size ≤ M))
  case first =>
    --A1
    go_region_held3 (fun w' => w'.cell? ⟨g, 0, none⟩ = some (.int .i32 x.v) ∧ w'.cell? ⟨g, 1, none⟩ = some (.slice A1 x.ins.length c1) ∧ w'.cell? ⟨g, 2, none⟩ = some (.slice A2 x.outs.length c2) ∧ w'.cell? ⟨g, 3, none⟩ = some (.int .u32 x.k)) ((refine HM.out _ ?_; repeat (first | exact Below.refl _ _ | refine below_drew ?_ | refine below_alloc ?_ _))) (fail)
    all_goals go_wp2
    all_goals go_meet
    all_goals (case rel => exact ⟨_, _, _, rfl, Lib.hid (wc_fresh (nI := x.ins.length) (nO := x.outs.length) (by repeat (first | exact Below.refl _ _ | refine below_drew ?_ | refine below_alloc ?_ _)) (by repeat (first | exact new_at (by first | rfl | (simp; done)) | refine blk_drew ?_ | refine blk_alloc ?_ _)) (by repeat (first | exact new_at (by first | rfl | (simp; done)) | refine blk_drew ?_ | refine blk_alloc ?_ _)) (by repeat (first | exact new_at (by first | rfl | (simp; done)) | refine blk_drew ?_ | refine blk_alloc ?_ _)) (by omega) (by omega) (by omega) (by omega) HFI.out.1 HFI.out.2.1), Lib.hid (by omega)⟩)
    --A2
  case rest =>
    obtain ⟨M, vI, vO, rfl, HW0, HML⟩ := hcut
    clear q0 q1 q2 q3 mkI mkO
    have m1 := (HM.out wc HW0.out.B).2.1
    have HIN := Lib.hid HX.out.ins
    have HOUT := Lib.hid HX.out.outs
    go_wp2
    clear m1
    go_loopg [47] (x.ins.length + 1) (fun kq v47 w' => ∃ (i : Nat) (xi : Int) (v1 : Value), v47 = .int .i64 xi ∧ Hid (xi = (i : Int)) ∧ Hid (i + kq = x.ins.length + 1) ∧ Hid (Wc w w' M x v1 vO (x.ins.take i) []))
    case atStart => exact ⟨0, 0, vI, rfl, Lib.hid rfl, Lib.hid (Nat.zero_add _), HW0⟩
    case round =>
      obtain ⟨i, xi, v1, rfl, HI, HK, HP⟩ := hrel
      by_cases ci : i < x.ins.length
      · have p0 : 0 ≤ xi := by rw [HI.out]; omega
        have q0 : xi < (x.ins.length : Int) := by rw [HI.out]; omega
        obtain ⟨ad, g1, cs, B1, d1, B2, d2, rfl, hc, hti, hl2⟩ := in_at HIN.out xi p0 q0
        have hw1 : wrap64 (xi + 1) = xi + 1 := by have := HFI.out.1; exact wrap64_id (by omega) (by omega)
        have hmem : rdT x.ins xi ∈ x.ins := by
          rw [rdT, List.getD_eq_getElem?_getD, List.getElem?_eq_getElem (show xi.toNat < x.ins.length by omega)]
          exact List.getElem_mem _
        have hyf := HFI.out.2.2.1 _ hmem
        have htk : x.ins.take (i + 1) = x.ins.take i ++ [rdT x.ins xi] := by
          rw [List.take_add_one, HI.out, rdT]; simp [ci]
        obtain ⟨y, hy⟩ : ∃ y, rdT x.ins xi = y := ⟨_, rfl⟩
        rw [hy] at hti hl2 hyf htk
        obtain ⟨k1, rfl⟩ : ∃ k1, gk = k1 + 1 := ⟨gk - 1, by have := HK.out; omega⟩
        have pp := eq_true p0
        have qq := eq_true q0
        have qb : decide (xi < (x.ins.length : Int)) = true := decide_eq_true q0
        have hcr := pw_cell_below HP.out.B hc
        have HTI := Lib.hid hti
        have L2 := Lib.hid hl2
        have HYF := Lib.hid hyf
        have HTK := Lib.hid htk
        have CI := Lib.hid ci
        have HL := Lib.hid hti.hl
        have HB := Lib.hid HP.out.B
        have hcell : ∀ (W : World), Below w.heap.size w W → ∀ (j : Nat) (v : Value), (tic y B1 d1 B2 d2)[j]? = some v → W.cell? ⟨g1, j, none⟩ = some v := fun W hW j v hj => pw_cell_below hW (hti.cell j v hj)
        have HCELL := Lib.hid hcell
        have HCS := Lib.hid (hti.s w (fun _ _ _ => rfl))
        have HCW := Lib.hid (hti.w w (fun _ _ _ => rfl))
        have HCAP := Lib.hid hti.cap
        obtain ⟨O, hO⟩ : ∃ O : Array Value, (opc y.h y.i).toArray = O := ⟨_, rfl⟩
        have HO := Lib.hid hO
        have HO33 := Lib.hid (show O.size = 33 by rw [← hO, List.size_toArray, opc_len, hti.hl])
        have HO1 := Lib.hid (show O.all (·.oneCell') = true by rw [← hO]; exact all_oneCell_toArray (opc_one _ _))
        have HLO := Lib.hid (show ∀ W, Below w.heap.size w W → Lies W ⟨g1, 0, none⟩ (opc y.h y.i) from fun W hW j v hj => by
          have hjl := (List.getElem?_eq_some_iff.1 hj).1
          rw [Addr.add_mid, Nat.zero_add]
          exact hcell W hW j v (by rw [tic, List.getElem?_append_left hjl]; exact hj))
        obtain ⟨Z, hZ, hZ33, hZ1⟩ := built_op0
        have HZ := Lib.hid hZ
        have HZ33 := Lib.hid hZ33
        have HZ1 := Lib.hid hZ1
        clear hc hti hl2 hmem hyf htk hy p0 q0 ci hcell hO hZ hZ33 hZ1
        go_upto_region 6 with (first
          | (refine wpList_load_list rfl 64 (.tmp 53) rfl ⟨g1, 0, none⟩ rfl (opc y.h y.i) _ (HLO.out _ HB.out) Try.underlying64 rfl ?aI ?_; go_must (case aI => rw [opc_len, HL.out]; rfl); rw [HO.out])
          | (refine wpList_box_letter rfl 64 (.tmp 6) (.tmp 54) rfl O _ 64 rfl rfl ?aS ?aL HO1.out ?_; go_must (case aS => rw [HO33.out]; rfl); go_must (case aL => rw [HO33.out]; rfl); go_must (intro W5 hg5 hb5 hs5); have HG5 := Lib.hid hg5; have HB5 := Lib.hid hb5; have HS5 := Lib.hid hs5; clear hg5 hb5 hs5))
        have HBA := Lib.hid (below_then HB.out (below_size HB.out) HB5.out)
        have HQ5 := HB5
        go_upto_region 7 with (first
          | (refine wpList_made rfl 64 #[] rfl [] (by simp [Act.eval]) Z HZ.out ?_)
          | (refine wpList_box_letter rfl 64 (.tmp 7) (.tmp 55) rfl Z _ 64 rfl rfl ?aS ?aL HZ1.out ?_; go_must (case aS => rw [HZ33.out]; rfl); go_must (case aL => rw [HZ33.out]; rfl); go_must (intro W6 hg6 hb6 hs6); have HG6 := Lib.hid hg6; have HB6 := Lib.hid hb6; clear hg6 hb6 hs6))
        have HG56 := Lib.hid (blk_below HG5.out HB6.out)
        have hne : W5.heap.size ≠ wr.heap.size := by have := blk_lt HG5.out; omega
        have HNE := Lib.hid hne
        have HSB := Lib.hid (setBytes_calls W5.heap.size wr.heap.size 64 Z y.h W6 HG6.out (fun j v hj => by
          rw [Addr.add_mid, Nat.zero_add, blk_cell HG56.out j, ← HO.out]
          have hjl := (List.getElem?_eq_some_iff.1 hj).1
          rw [List.getElem?_toArray, opc, List.getElem?_append_left (by rw [hv_len]; rw [nums_length] at hjl; exact hjl)]
          exact hj) HL.out (by rw [HZ33.out]; omega))
        obtain ⟨R7, hR7⟩ : ∃ R, (nums .u8 y.h ++ Z.toList.drop 32).toArray = R := ⟨_, rfl⟩
        rw [hR7] at HSB
        have HR7 := Lib.hid (show R7.setIfInBounds 32 (.int .u32 y.i) = O from by
          rw [← hR7, ← HO.out]
          have h1 : (Z.toList.drop 32).length = 1 := by rw [List.length_drop, Array.length_toList, HZ33.out]
          obtain ⟨z, hz⟩ := List.length_eq_one_iff.1 h1
          rw [hz]
          simp [opc, hv, nums, List.setIfInBounds_toArray, List.set_append, HL.out])
        clear hR7 hne
        go_upto_region 8 with (go_at_call 40; go_must ((with_reducible refine HSB.out.mono ?_); rintro e w7 ⟨⟨u7, rfl⟩, hw7⟩; have H7 := Aside0.mk hw7; clear hw7))
        have HG7 := Lib.hid (show w7.heap[W5.heap.size]? = some (.cells R7 64 (0, 0)) from H7.out ▸ setRow_heap _ _ _ _ _ _ HG6.out)
        have HG57 := Lib.hid (show w7.heap[wr.heap.size]? = some (.cells O 64 (0, 0)) from by rw [H7.out, setRow_other _ _ _ _ (Ne.symm HNE.out)]; exact HG56.out)
        have HB7 := Lib.hid (show Below W5.heap.size W5 w7 from by rw [H7.out]; exact below_setRow HB6.out (Nat.le_refl _) _)
        have c32 : w7.cell? ⟨wr.heap.size, 32, none⟩ = some (.int .u32 y.i) := (blk_cell HG57.out 32).trans (by rw [← HO.out]; simp [opc, hv_len, HL.out, List.getElem?_append])
        have f32 := blk_frozen HG7.out 32
        have e32 : ∃ v, w7.cell? ⟨W5.heap.size, 32, none⟩ = some v := by
          have hz : R7.size = 33 := by have := congrArg Array.size HR7.out; rw [Array.size_setIfInBounds, HO33.out] at this; exact this
          exact ⟨R7[32]'(by omega), (blk_cell HG7.out 32).trans (Array.getElem?_eq_getElem _)⟩
        obtain ⟨v32, e32⟩ := e32
        go_upto_region 9 with fail
        refine wp_world (fun W8 hW => ?_)
        have HB8 := Lib.hid (show Below W5.heap.size W5 W8 from hW ▸ HB7.out.setCell (Nat.le_refl _) _)
        have HG8 := Lib.hid (show W8.heap[W5.heap.size]? = some (.cells O 64 (0, 0)) from by rw [← hW, ← HR7.out]; exact blk_set HG7.out 32 _)
        have HBB8 := Lib.hid (below_then HBA.out (below_size HBA.out) HB8.out)
        have HQ8 := Lib.hid (below_then HQ5.out HQ5.out.size HB8.out)
        have HLT8 := Lib.hid (show wr.heap.size < W8.heap.size from by have := blk_lt HG8.out; have := HS5.out; omega)
        clear hW c32 f32 e32 HG7 HG57 HB7 H7 HR7 HSB HNE HG56 HB6 HG6 HZ HZ33 HZ1 HQ5 HBA
        have c33 := HCELL.out W8 HBB8.out 33 _ (tic_33 _ _ _ _ _ HL.out)
        obtain ⟨n, hn⟩ : ∃ n, y.s.length = n := ⟨_, rfl⟩
        rw [hn] at c33
        obtain ⟨t, ht⟩ : ∃ t, decide ((0 : Int) < (n : Int)) = t := ⟨_, rfl⟩
        have ht2 : decide (0 < n) = t := by rw [← ht, decide_eq_decide]; omega
        have HN := Lib.hid hn
        have HT := Lib.hid ht2
        have hnc : (n : Int) ≤ (d1 : Int) := by have := HCAP.out; rw [hn] at this; omega
        have hnl : n ≤ 2147483647 := by have := HYF.out.1; rw [hn] at this; exact this
        have HNL := Lib.hid hnl
        have hn0 : (0 : Int) ≤ (n : Int) := by omega
        clear hn hnl
        go_upto_if 70 with fail
        go_cut [8] (fun v8 W => Hid ((Kd.int .u8).R 5 W wr.heap.size (fun _ => True) v8 y.s) ∧ Hid (Below W8.heap.size W8 W))
        case first =>
          --A1
          cases t with
          | false =>
            go_wp2
            go_meet
            case rel =>
              have h0 : y.s = [] := List.eq_nil_of_length_eq_zero (by have := of_decide_eq_false HT.out; have := HN.out; omega)
              exact ⟨Lib.hid (by rw [h0]; exact Kd.R_nil _ _ _ _ _), Lib.hid (Below.refl _ _)⟩
          | true =>
            have hmk := mkn_run n HNL.out
            obtain ⟨W9, hcp, hg9, hb9⟩ := copy_all W8 B1 d1 y.s (C_within HCS.out HBB8.out) (by have := of_decide_eq_true HT.out; have := HN.out; omega) (by rw [HN.out]; exact HNL.out)
            rw [HN.out] at hcp
            have HG9 := Lib.hid hg9
            have HB9 := Lib.hid hb9
            clear hg9 hb9
            go_wp2
            go_meet
            case rel => exact ⟨Lib.hid (by have := filled_R HG9.out (Nat.le_of_lt HLT8.out) (by rw [HN.out]; exact HNL.out); rw [HN.out] at this; exact Kd.R_mono this (fun _ _ => trivial)), Lib.hid HB9.out⟩
          --A2
        case rest =>
          obtain ⟨HR8, HB9⟩ := hcut
          obtain ⟨A8, c8, rfl⟩ := Kd.R_slice HR8.out
          clear ht ht2 hnc hn0 HT HN HNL c33
          have HG9 := Lib.hid (blk_below HG8.out HB9.out)
          have HBB9 := Lib.hid (below_then HBB8.out (below_size HBB8.out) HB9.out)
          have HQ9 := Lib.hid (below_then HQ8.out HQ8.out.size HB9.out)
          have HLT9 := Lib.hid (show wr.heap.size < wc.heap.size from Nat.lt_of_lt_of_le HLT8.out HB9.out.size)
          have hbt := built_ti3 y.h y.i HL.out A8 y.s.length c8 y.q
          rw [HO.out] at hbt
          obtain ⟨D, hD⟩ : ∃ D, (opc y.h y.i ++ ([Value.slice A8 y.s.length c8, Value.slice none 0 0, Value.int .u32 y.q] : List Value)).toArray = D := ⟨_, rfl⟩
          rw [hD] at hbt
          have HBT := Lib.hid hbt
          have HD := Lib.hid hD
          have HD36 := Lib.hid (show D.size = 36 by rw [← hD, List.size_toArray, List.length_append, opc_len, HL.out]; rfl)
          have HD1 := Lib.hid (show D.all (·.oneCell') = true by rw [← hD]; exact all_oneCell_toArray (fun v hv => by
            rcases List.mem_append.1 hv with hv | hv
            · exact opc_one _ _ v hv
            · simp only [List.mem_cons, List.not_mem_nil, or_false] at hv
              rcases hv with rfl | rfl | rfl
              all_goals rfl))
          have HS := Lib.hid (show ∀ W' : World, Below w.heap.size w W' → W'.heap[W5.heap.size]? = some (.cells O 64 (0, 0)) → Lies W' ⟨W5.heap.size, 0, none⟩ (opc y.h y.i) ∧ W'.cell? ⟨g1, 35, none⟩ = some (.int .u32 y.q) from fun W' hb h1 => ⟨fun j v hj => by
            rw [Addr.add_mid, Nat.zero_add, blk_cell h1 j, ← HO.out, List.getElem?_toArray]; exact hj, HCELL.out W' hb 35 _ (tic_35 _ _ _ _ _ HL.out)⟩)
          clear hbt hD HQ8 HBB8 HLT8 HG8 HB8 HG5 HB5 HS5
          go_upto_region 15 with fail
          refine start_ (n := 9) (S := fun w' => Lies w' ⟨W5.heap.size, 0, none⟩ (opc y.h y.i) ∧ w'.cell? ⟨g1, 35, none⟩ = some (.int .u32 y.q)) (ds := [8]) #[false, false, false, false, false, false, false, false, false] (by kernel_rfl) rfl rfl ⟨(HS.out _ (below_drew HBB9.out) (blk_drew HG9.out)).1, (HS.out _ (below_drew HBB9.out) (blk_drew HG9.out)).2⟩ (fun hHeld => ?_)
          refine pure_ (i := 1) (N := some 79) (v := ?_) (a' := ?_) #[false, true, false, false, false, false, false, false, false] rfl rfl (by kernel_rfl) (fun _ _ _ h => h) (Or.inl ⟨by rfl, ?_⟩) ?_ ?_
          rotate_left
          · intro w'
            go_simp
            with_reducible rfl
          rotate_left
          · simp only [Act.put, List.setIfInBounds_toArray, List.set_cons_zero, List.set_cons_succ, i64_w, i32_w]
            rfl
          refine pure_ (i := 2) (N := some 80) (v := ?_) (a' := ?_) #[false, true, true, false, false, false, false, false, false] rfl rfl (by kernel_rfl) (fun _ _ _ h => h) (Or.inl ⟨by rfl, ?_⟩) ?_ ?_
          rotate_left
          · intro w'
            go_simp
            with_reducible rfl
          rotate_left
          · simp only [Act.put, List.setIfInBounds_toArray, List.set_cons_zero, List.set_cons_succ, i64_w, i32_w]
            rfl
          refine pure_ (i := 3) (N := some 81) (v := ?_) (a' := ?_) #[false, true, true, true, false, false, false, false, false] rfl rfl (by kernel_rfl) (fun _ _ _ h => h) (Or.inl ⟨by rfl, ?_⟩) ?_ ?_
          rotate_left
          · intro w'
            go_simp
            with_reducible rfl
          rotate_left
          · simp only [Act.put, List.setIfInBounds_toArray, List.set_cons_zero, List.set_cons_succ, i64_w, i32_w]
            rfl
          refine pure_ (i := 4) (N := some 82) (v := ?_) (a' := ?_) #[false, true, true, true, true, false, false, false, false] rfl rfl (by kernel_rfl) (fun _ _ _ h => h) (Or.inl ⟨by rfl, ?_⟩) ?_ ?_
          rotate_left
          · intro w'
            go_simp
            with_reducible rfl
          rotate_left
          · simp only [Act.put, List.setIfInBounds_toArray, List.set_cons_zero, List.set_cons_succ, i64_w, i32_w]
            rfl
          refine take_ (i := 0) (N := some 78) (v := ?_) (a' := ?_) #[true, true, true, true, true, false, false, false, false] rfl rfl (by kernel_rfl) (fun _ _ _ h => h) (Or.inl ⟨by rfl, ?_⟩) hHeld ?_ ?_
          rotate_left
          · rintro w' ⟨s0, s1⟩
            refine (exec_load_list 64 (.tmp 7) (by rfl) ⟨W5.heap.size, 0, none⟩ (by rfl) (opc y.h y.i) _ s0 Try.underlying64 rfl (by rw [opc_len, HL.out]; rfl)).trans ?_
            rw [HO.out]
          rotate_left
          · simp only [Act.put, List.setIfInBounds_toArray, List.set_cons_zero, List.set_cons_succ, i64_w, i32_w]
            rfl
          refine take_ (i := 5) (N := some 83) (v := ?_) (a' := ?_) #[true, true, true, true, true, true, false, false, false] rfl rfl (by kernel_rfl) (fun _ _ _ h => h) (Or.inl ⟨by rfl, ?_⟩) hHeld ?_ ?_
          rotate_left
          · rintro w' ⟨s0, s1⟩
            go_simp
            with_reducible rfl
          rotate_left
          · simp only [Act.put, List.setIfInBounds_toArray, List.set_cons_zero, List.set_cons_succ, i64_w, i32_w]
            rfl
          refine pure_ (i := 6) (N := some 84) (v := ?_) (a' := ?_) #[true, true, true, true, true, true, true, false, false] rfl rfl (by kernel_rfl) (fun _ _ _ h => h) (Or.inl ⟨by rfl, ?_⟩) ?_ ?_
          rotate_left
          · intro w'
            refine (exec_made w' 70 #[(0, .tmp 78), (1, .tmp 79), (3, .tmp 83)] (by rfl) _ (by simp [Act.eval]) D HBT.out).trans ?_
            with_reducible rfl
          rotate_left
          · simp only [Act.put, List.setIfInBounds_toArray, List.set_cons_zero, List.set_cons_succ, i64_w, i32_w]
            rfl
          refine one_ (i := 7) (N := some 11) #[true, true, true, true, true, true, true, true, false] rfl rfl (by kernel_rfl) (by decide) (fun K hK => ?_)
          refine value_ (w1 := ?_) (v := ?_) (by rfl) rfl ?_ ?_
          rotate_left 2
          · go_simp
            constructor
            · rfl
            · rfl
          refine hK.out _ _ ⟨(HS.out _ (below_then HBB9.out (below_size HBB9.out) (below_alloc (below_drew (Below.refl _ _)) _)) (blk_alloc (blk_drew HG9.out) _)).1, (HS.out _ (below_then HBB9.out (below_size HBB9.out) (below_alloc (below_drew (Below.refl _ _)) _)) (blk_alloc (blk_drew HG9.out) _)).2⟩ (fun hHeld => ?_)
          clear hK K
          refine norm_ (a' := ?_) ?_ ?_
          rotate_left
          · show Act.put _ (some 11) _ = _
            simp only [Act.put, List.setIfInBounds_toArray, List.set_cons_zero, List.set_cons_succ, i64_w, i32_w]
            rfl
          refine last_ (i := 8) (N := none) #[true, true, true, true, true, true, true, true, true] rfl rfl (by kernel_rfl) (by decide) (fun K hK => ?_)
          refine step_store_row (by rfl) 70 (.tmp 11) (.tmp 84) rfl wc.heap.size D rfl rfl 70 _ (heap_alloc_new _ _) ?aS ?aL HD1.out ?_
          case aS => rw [HD36.out]; rfl
          case aL => rw [HD36.out]; rfl
          refine hK.out _ _ ?_
          clear hK K
          refine done_ (by kernel_rfl) ?_
          go_upto_region 16 with fail
          refine wp_world (fun W10 hW => ?_)
          have HB10 := Lib.hid (show Below wc.heap.size wc W10 from hW ▸ below_setRow (below_alloc (below_drew (Below.refl _ _)) _) (Nat.le_refl _) _)
          have HG10 := Lib.hid (show W10.heap[wc.heap.size]? = some (.cells D 70 (0, 0)) from hW ▸ setRow_heap _ _ _ _ _ _ (heap_alloc_new _ _))
          have HBB10 := Lib.hid (below_then HBB9.out (below_size HBB9.out) HB10.out)
          have HQ10 := Lib.hid (below_then HQ9.out HQ9.out.size HB10.out)
          have HR10 := Lib.hid (Kd.R_below (Kd.R_mono (Kd.R_bound HR8.out) (ok' := fun k => k < wc.heap.size) (fun k hk => hk.2.2.1)) HB10.out)
          obtain ⟨gT, hgT⟩ : ∃ gT, wc.heap.size = gT := ⟨_, rfl⟩
          rw [hgT] at HG10 HR10 ⊢
          have HGT := Lib.hid (show wr.heap.size ≤ gT from hgT ▸ Nat.le_of_lt HLT9.out)
          have c34 := HCELL.out W10 HBB10.out 34 _ (tic_34 _ _ _ _ _ HL.out)
          clear hW HR8 HQ9 HBB9 HG9 HB9 HB10 HLT9 hgT HS HBT
          obtain ⟨n, hn⟩ : ∃ n, y.w.length = n := ⟨_, rfl⟩
          rw [hn] at c34
          obtain ⟨t, ht⟩ : ∃ t, ((n : Int) != 0) = t := ⟨_, rfl⟩
          have ht2 : (n != 0) = t := by
            rw [← ht]
            by_cases h : n = 0
            · subst h; rfl
            · rw [bne_iff_ne.2 h, bne_iff_ne.2 (by omega : (n : Int) ≠ 0)]
          have HN := Lib.hid hn
          have HT := Lib.hid ht2
          have HNL := Lib.hid (show n ≤ 2147483647 from hn ▸ HYF.out.2.1)
          clear hn
          go_upto_if 90 with fail
          go_cut [] (fun W => ∃ v9, Hid ((Kd.slice 5 (Kd.int .u8)).R 40 W wr.heap.size (fun k => k ≠ gT) v9 y.w) ∧ Hid (W.heap[gT]? = some (.cells (opc y.h y.i ++ ([Value.slice A8 y.s.length c8, v9, Value.int .u32 y.q] : List Value)).toArray 70 (0, 0))) ∧ Hid (Go.Proofs.Ytkmlpoggbfbnaaa.Sh.On gT W10 W))
          case first =>
            --A1
            cases t with
            | false =>
              go_wp2
              go_meet
              case rel =>
                have h0 : y.w = [] := List.eq_nil_of_length_eq_zero (by
                  have h := HT.out
                  by_cases h0 : n = 0
                  · rw [HN.out]; exact h0
                  · rw [bne_iff_ne.2 h0] at h; cases h)
                exact ⟨.slice none 0 0, Lib.hid (by rw [h0]; exact Kd.R_nil _ _ _ _ _), Lib.hid (by rw [HD.out]; exact HG10.out), Lib.hid (Go.Proofs.Ytkmlpoggbfbnaaa.Sh.On.refl _ _)⟩
            | true =>
              have hmk := mkW_run n HNL.out
              have z34 : ∃ v, D[34]? = some v := ⟨D[34]'(by have := HD36.out; omega), Array.getElem?_eq_getElem _⟩
              have hf34 : ∀ o : Obj, (W10.alloc o).frozen? ⟨gT, 34, none⟩ = false := fun o => blk_frozen (blk_alloc HG10.out o) 34
              obtain ⟨v34, z34⟩ := z34
              have hz34 : ∀ o : Obj, (W10.alloc o).cell? ⟨gT, 34, none⟩ = some v34 := fun o => (blk_cell (blk_alloc HG10.out o) 34).trans z34
              go_upto_region 18 with fail
              refine wp_world (fun W11 hW => ?_)
              obtain ⟨gw, hgw⟩ : ∃ gw, W10.heap.size = gw := ⟨_, rfl⟩
              have hTw : gT < gw := hgw ▸ blk_lt HG10.out
              have HOn := Lib.hid (show Go.Proofs.Ytkmlpoggbfbnaaa.Sh.On gT W10 W11 from hW ▸ (Go.Proofs.Ytkmlpoggbfbnaaa.Sh.On.of_below (blk_lt HG10.out) (below_alloc (Below.refl _ _) _)).set 34 _)
              rw [hgw] at hW
              obtain ⟨D2, hD2⟩ : ∃ D2 : Array Value, D.setIfInBounds 34 (.slice (some ⟨gw, 0, none⟩) n n) = D2 := ⟨_, rfl⟩
              have HGT2 := Lib.hid (show W11.heap[gT]? = some (.cells D2 70 (0, 0)) from hW ▸ hD2 ▸ blk_set (blk_alloc HG10.out _) 34 _)
              have HD2 := Lib.hid (show (opc y.h y.i ++ ([Value.slice A8 y.s.length c8, .slice (some ⟨gw, 0, none⟩) n n, Value.int .u32 y.q] : List Value)).toArray = D2 from by
                rw [← hD2, ← HD.out, List.setIfInBounds_toArray, List.set_append, if_neg (by rw [opc_len, HL.out]; omega), opc_len, HL.out]; rfl)
              have HP0 := Lib.hid (show Pre W11 gw gw y.w 0 from ⟨madeCells #[.slice none 0 0] n, by rw [size_madeCells, HN.out], hW ▸ blk_far (new_at hgw.symm) (p := ⟨gT, 34, none⟩) (Nat.ne_of_gt hTw) _, fun j hj => absurd hj (Nat.not_lt_zero _)⟩)
              have HTW := Lib.hid hTw
              have HGW := Lib.hid hgw
              have c34b := HCELL.out W11 (HBB10.out.trans (HOn.out.1.mono (Nat.le_trans (below_size HB.out) HGT.out))) 34 _ (tic_34 _ _ _ _ _ HL.out)
              rw [HN.out] at c34b
              clear hmk hf34 hz34 z34 c34 hW hgw hTw hD2 ht ht2 HT
              go_upto_region 18 with fail
              obtain ⟨wo, rfl⟩ : ∃ wo : World, wo = wr := ⟨_, rfl⟩
              go_wp2
              go_loopg [103] (n + 1) (fun kq v103 w' => ∃ (j : Nat) (xj : Int), v103 = .int .i64 xj ∧ Hid (xj = (j : Int)) ∧ Hid (j + kq = n + 1) ∧ Hid (Pre w' gw gw y.w j) ∧ Hid (w'.heap[gT]? = some (.cells D2 70 (0, 0))) ∧ Hid (Go.Proofs.Ytkmlpoggbfbnaaa.Sh.On gT W10 w'))
              case atStart => exact ⟨0, 0, rfl, Lib.hid rfl, Lib.hid (Nat.zero_add _), HP0, HGT2, HOn⟩
              case round =>
                obtain ⟨j, xj, rfl, HJ, HJK, HPJ, HGJ, HOJ⟩ := hrel
                by_cases cj : j < n
                · have p0 : 0 ≤ xj := by rw [HJ.out]; omega
                  have q0 : xj < (n : Int) := by rw [HJ.out]; omega
                  obtain ⟨ad2, C, e1, rfl, hc2, hle, hC⟩ := wit_at HCW.out j (by rw [HN.out]; exact cj)
                  have hBJ : Below w.heap.size w wr := HBB10.out.trans (HOJ.out.1.mono (Nat.le_trans (below_size HB.out) HGT.out))
                  have hcr2 : wr.cell? (ad2.add xj.toNat) = some (.slice C (y.w.getD j []).length e1) := by rw [HJ.out, Int.toNat_natCast]; exact pw_cell_below hBJ hc2
                  have hul : (y.w.getD j []).length ≤ 2147483647 := HYF.out.2.2 _ (by
                    rw [List.getD_eq_getElem?_getD, List.getElem?_eq_getElem (show j < y.w.length by rw [HN.out]; exact cj)]
                    exact List.getElem_mem _)
                  obtain ⟨u, hu⟩ : ∃ u, y.w.getD j [] = u := ⟨_, rfl⟩
                  rw [hu] at hcr2 hC hul
                  obtain ⟨W6, hcp, hg6, hb6⟩ := copy_any wr C e1 u (C_within hC hBJ) hul
                  have hul2 := hul
                  obtain ⟨m, hm⟩ : ∃ m, u.length = m := ⟨_, rfl⟩
                  rw [hm] at hcr2 hcp hul2
                  have hmk := mkn_run m hul2
                  have hnn : n ≤ 2147483647 := HNL.out
                  have hw1 : wrap64 (xj + 1) = xj + 1 := wrap64_id (by omega) (by omega)
                  obtain ⟨k2, rfl⟩ : ∃ k2, gk = k2 + 1 := ⟨gk - 1, by have := HJK.out; omega⟩
                  have hgT6 := blk_below HGJ.out hb6
                  have z34 : W6.cell? ⟨gT, 34, none⟩ = some (.slice (some ⟨gw, 0, none⟩) n n) := (blk_cell hgT6 34).trans (by
                    rw [← HD2.out, List.getElem?_toArray, List.getElem?_append_right (by rw [opc_len, HL.out]; omega), opc_len, HL.out]; rfl)
                  have hP6 := HPJ.out.below hb6
                  obtain ⟨rc, hr1, hr2, hr3⟩ := hP6
                  obtain ⟨vj, zj⟩ : ∃ v, W6.cell? ⟨gw, xj.toNat, none⟩ = some v :=
                    ⟨rc[j]'(by rw [hr1, HN.out]; exact cj), by rw [HJ.out, Int.toNat_natCast]; exact (blk_cell hr2 j).trans (Array.getElem?_eq_getElem _)⟩
                  have fj := blk_frozen hr2 xj.toNat
                  have pp := eq_true p0
                  have qq := eq_true q0
                  have qb : decide (xj < (n : Int)) = true := decide_eq_true q0
                  have HG6 := Lib.hid hg6
                  have HB6 := Lib.hid hb6
                  have HP6 := Lib.hid (show Pre W6 gw gw y.w j from ⟨rc, hr1, hr2, hr3⟩)
                  have HGT6 := Lib.hid hgT6
                  have HU := Lib.hid hu
                  have HM_ := Lib.hid hm
                  have HUL := Lib.hid hul
                  have CJ := Lib.hid cj
                  clear hg6 hb6 hr1 hr2 hr3 hgT6 hu hm hul hul2 hnn hC hle hc2 hBJ p0 q0 cj
                  go_wp2
                  go_roundg k2
                  case measure => exact Nat.lt_succ_self _
                  case rel =>
                    have hlt : gw < wr.heap.size := by obtain ⟨rc, _, h2, _⟩ := HPJ.out; exact blk_lt h2
                    refine ⟨j + 1, xj + 1, (by first | rfl | (simp [hw1]; done)), Lib.hid (by rw [HJ.out]; omega), Lib.hid (by have := HJK.out; omega), Lib.hid ?_, Lib.hid ?_, Lib.hid ?_⟩
                    · rw [HJ.out, Int.toNat_natCast]
                      refine HP6.out.put (by rw [HN.out]; exact CJ.out) ?_
                      have := filled_R (lo := gw) HG6.out (Nat.le_of_lt hlt) HUL.out
                      rw [HM_.out] at this
                      rw [HU.out]
                      exact Kd.R_mono this (fun k hk => by have := hk; omega)
                    · exact blk_far HGT6.out (p := ⟨gw, _, none⟩) (Nat.ne_of_lt HTW.out) _
                    · exact on_set_new (HOJ.out.below (by have := HGW.out; have := HTW.out; omega) HB6.out) (Nat.le_of_eq HGW.out) (Nat.le_of_lt HTW.out) _ _
                · have qb : decide (xj < (n : Int)) = false := decide_eq_false (by rw [HJ.out]; omega)
                  have HJN := Lib.hid (show n ≤ j from by omega)
                  clear cj
                  go_wp2
                  go_meet
                  case rel =>
                    have hP := HPJ.out
                    have hR := (hP.less (i := y.w.length) (by rw [HN.out]; exact HJN.out)).row (Nat.le_refl _) (by rw [HN.out]; exact HNL.out)
                    rw [HN.out] at hR
                    exact ⟨_, Lib.hid (Kd.R_mono (Kd.R_lower hR (by have := HGT.out; have := HTW.out; omega)) (fun k hk => by have := HTW.out; omega)), Lib.hid (by rw [HD2.out]; exact HGJ.out), HOJ⟩
            --A2
          case rest =>
            obtain ⟨v9, HR9, HG9, HO9⟩ := hcut
            clear ht ht2 HT HN HNL c34
            have HPN := Lib.hid (HP.out.below (w1 := wc) (HQ10.out.trans (HO9.out.1.mono HGT.out)))
            have HLW := Lib.hid (show wr.heap.size ≤ wc.heap.size from Nat.le_trans HQ10.out.size HO9.out.1.size)
            have hR8 : (Kd.int .u8).R 5 wc wr.heap.size (fun k => k < gT) (.slice A8 y.s.length c8) y.s := Kd.R_step HR10.out (fun k hk hl => HO9.out.2.2 k hl (Nat.ne_of_lt hk) (by simp))
            have HOK := Lib.hid (show ∀ k, wr.heap.size ≤ k → k ≠ M ∧ some k ≠ v1.ownBlock from fun k hk => ⟨by have := blk_lt HP.out.blk; omega, fun e => by have := Kd.R_lt HP.out.ins k e.symm; omega⟩)
            have HPM := Lib.hid (show kPI.M wc w.heap.size (fun k => wr.heap.size ≤ k) y [.pointer (some ⟨gT, 0, none⟩)] from by
              have hb := below_size HB.out
              refine ⟨gT, _, rfl, Nat.le_trans hb HGT.out, HGT.out, HG9.out, ?_⟩
              exact kTI_mkM _ _ _ _ HL.out (Kd.R_lower (Kd.R_mono (Kd.R_bound hR8) (fun k hk => ⟨hk.2.1, Nat.ne_of_lt hk.1⟩)) hb) (Kd.R_lower (Kd.R_mono (Kd.R_bound HR9.out) (fun k hk => ⟨hk.2.1, hk.1⟩)) hb))
            have zM : wc.cell? ⟨M, 1, none⟩ = some v1 := (blk_cell HPN.out.blk 1).trans rfl
            clear hR8 HR10 HR9 HG9 HO9 HG10 HBB10 HQ10
            go_upto_region 26 with ((with_reducible refine gate_builtin (b := .append) (xs := #[.tmp 121, .tmp 122]) rfl ?_); at_builtin; go_must (refine Kd.R_append kPI (w0 := w) w.heap.size rfl (.tmp 121) (.tmp 122) 58 62 (.pointer none) 8 rfl Try.underlying58 info_pi rfl (by decide) (by omega) v1 (x.ins.take i) y [.pointer (some ⟨gT, 0, none⟩)] (fun k => k ≠ M) (fun k => wr.heap.size ≤ k) rfl rfl HPM.out (fun k hk => HOK.out k hk) (fun k hk => (HOK.out k (Nat.le_trans HLW.out hk)).1) HPN.out.ins HPN.out.B (below_size HPN.out.B) (by have := HFI.out.1; rw [List.length_take]; omega) ?_); intro v_ w_ ho_ hb hg hat; obtain ⟨l_, hq, ho⟩ := nameRI ho_; have N1 := Lib.hid hq; clear hq ho_; obtain ⟨A_, c_, rfl⟩ := Kd.R_slice ho; have hM_ := blk_grown HPN.out.blk hg HPN.out.ne.1; have z0_ : w_.cell? ⟨M, 1, none⟩ = some v1 := (blk_cell hM_ 1).trans rfl; have zf_ := blk_frozen hM_ 1; have HPF := Lib.hid (Wc.push1 HPN.out ho hb hg HML.out); clear ho hb hg hat hM_)
            have HPF2 := Lib.hid (show Wc w _ M x _ vO (x.ins.take (i + 1)) [] from by rw [HTK.out, ← N1.out]; exact HPF.out)
            clear HPF N1 z0_ zf_ zM HPM HPN
            go_wp2
            go_roundg k1
            case measure => exact Nat.lt_succ_self _
            case rel => exact ⟨i + 1, xi + 1, _, (by first | rfl | (simp [hw1]; done)), Lib.hid (by rw [HI.out]; omega), Lib.hid (by have := HK.out; omega), HPF2⟩
      · have qb : decide (xi < (x.ins.length : Int)) = false := decide_eq_false (by rw [HI.out]; omega)
        have HP2 := Lib.hid (show Wc w wr M x v1 vO x.ins [] from by
          have := HP.out
          rwa [List.take_of_length_le (by omega)] at this)
        have m2 := (HM.out wr HP.out.B).2.2.1
        clear ci HI HK HP HW0
        go_wp2
        clear qb m2
        obtain ⟨wo, rfl⟩ : ∃ wo : World, wo = wr := ⟨_, rfl⟩
        go_loopg [131] (x.outs.length + 1) (fun kq v131 w' => ∃ (i : Nat) (xi : Int) (v2 : Value), v131 = .int .i64 xi ∧ Hid (xi = (i : Int)) ∧ Hid (i + kq = x.outs.length + 1) ∧ Hid (Wc w w' M x v1 v2 x.ins (x.outs.take i)))
        case atStart => exact ⟨0, 0, vO, rfl, Lib.hid rfl, Lib.hid (Nat.zero_add _), HP2⟩
        case round =>
          obtain ⟨i, xi, v2, rfl, HI, HK, HP⟩ := hrel
          by_cases ci : i < x.outs.length
          · have p0 : 0 ≤ xi := by rw [HI.out]; omega
            have q0 : xi < (x.outs.length : Int) := by rw [HI.out]; omega
            obtain ⟨ad, g1, B1, d1, rfl, hc, hto⟩ := out_at HOUT.out xi p0 q0
            have hw1 : wrap64 (xi + 1) = xi + 1 := by have := HFI.out.2.1; exact wrap64_id (by omega) (by omega)
            have hyf := HFI.out.2.2.2 (rdO x.outs xi) (by
              rw [rdO, List.getD_eq_getElem?_getD, List.getElem?_eq_getElem (show xi.toNat < x.outs.length by omega)]
              exact List.getElem_mem _)
            have htk : x.outs.take (i + 1) = x.outs.take i ++ [rdO x.outs xi] := by
              rw [List.take_add_one, HI.out, rdO]; simp [ci]
            obtain ⟨y, hy⟩ : ∃ y, rdO x.outs xi = y := ⟨_, rfl⟩
            rw [hy] at hto hyf htk
            obtain ⟨k1, rfl⟩ : ∃ k1, gk = k1 + 1 := ⟨gk - 1, by have := HK.out; omega⟩
            have pp := eq_true p0
            have qq := eq_true q0
            have qb : decide (xi < (x.outs.length : Int)) = true := decide_eq_true q0
            have hcr := pw_cell_below HP.out.B hc
            have HYF := Lib.hid hyf
            have HTK := Lib.hid htk
            have HB := Lib.hid HP.out.B
            have HCELL := Lib.hid (show ∀ (W : World), Below w.heap.size w W → W.cell? ⟨g1, 0, none⟩ = some (.int .i64 y.f0) ∧ W.cell? ⟨g1, 1, none⟩ = some (.slice B1 y.f1.length d1) from fun W hW => ⟨pw_cell_below hW ((blk_cell hto.blk 0).trans rfl), pw_cell_below hW ((blk_cell hto.blk 1).trans rfl)⟩)
            have HCS := Lib.hid (hto.s w (fun _ _ _ => rfl))
            have HCAP := Lib.hid hto.cap
            have c1_ := (HCELL.out wr HB.out).2
            clear hc hto hyf htk hy p0 q0 ci
            obtain ⟨n, hn⟩ : ∃ n, y.f1.length = n := ⟨_, rfl⟩
            rw [hn] at c1_
            obtain ⟨t, ht⟩ : ∃ t, decide ((0 : Int) < (n : Int)) = t := ⟨_, rfl⟩
            have ht2 : decide (0 < n) = t := by rw [← ht, decide_eq_decide]; omega
            have HN := Lib.hid hn
            have HT := Lib.hid ht2
            have hnc : (n : Int) ≤ (d1 : Int) := by have := HCAP.out; rw [hn] at this; omega
            have HNL := Lib.hid (show n ≤ 2147483647 from hn ▸ HYF.out)
            have hn0 : (0 : Int) ≤ (n : Int) := by omega
            clear hn
            go_upto_if 142 with fail
            go_cut [17] (fun v17 W => Hid ((Kd.int .u8).R 5 W wr.heap.size (fun _ => True) v17 y.f1) ∧ Hid (Below wr.heap.size wr W))
            case first =>
              cases t with
              | false =>
                go_wp2
                go_meet
                case rel =>
                  have h0 : y.f1 = [] := List.eq_nil_of_length_eq_zero (by have := of_decide_eq_false HT.out; have := HN.out; omega)
                  exact ⟨Lib.hid (by rw [h0]; exact Kd.R_nil _ _ _ _ _), Lib.hid (Below.refl _ _)⟩
              | true =>
                have hmk := mkn_run n HNL.out
                obtain ⟨W9, hcp, hg9, hb9⟩ := copy_all wr B1 d1 y.f1 (C_within HCS.out HB.out) (by have := of_decide_eq_true HT.out; have := HN.out; omega) (by rw [HN.out]; exact HNL.out)
                rw [HN.out] at hcp
                have HG9 := Lib.hid hg9
                have HB9 := Lib.hid hb9
                clear hg9 hb9
                go_wp2
                go_meet
                case rel => exact ⟨Lib.hid (by have := filled_R HG9.out (Nat.le_refl _) (by rw [HN.out]; exact HNL.out); rw [HN.out] at this; exact Kd.R_mono this (fun _ _ => trivial)), Lib.hid HB9.out⟩
            case rest =>
              obtain ⟨HR8, HB9⟩ := hcut
              obtain ⟨A8, c8, rfl⟩ := Kd.R_slice HR8.out
              clear ht ht2 hnc hn0 HT HN HNL c1_
              have HBB9 := Lib.hid (below_then HB.out (below_size HB.out) HB9.out)
              have c0_ := (HCELL.out wc HBB9.out).1
              go_upto_region 37 with fail
              refine wp_world (fun W10 hW => ?_)
              obtain ⟨gT, hgT⟩ : ∃ gT, wc.heap.size = gT := ⟨_, rfl⟩
              have HPN := Lib.hid (show Wc w W10 M x v1 v2 x.ins (x.outs.take i) from hW ▸ (HP.out.below HB9.out).below (below_alloc (Below.refl _ _) _))
              have HLW := Lib.hid (show wr.heap.size ≤ W10.heap.size from hW ▸ Nat.le_trans HB9.out.size (by simp))
              have HOK := Lib.hid (show ∀ k, wr.heap.size ≤ k → k ≠ M ∧ some k ≠ v2.ownBlock from fun k hk => ⟨by have := blk_lt HP.out.blk; omega, fun e => by have := Kd.R_lt HP.out.outs k e.symm; omega⟩)
              have HPM := Lib.hid (show kPO.M W10 w.heap.size (fun k => wr.heap.size ≤ k) y [.pointer (some ⟨gT, 0, none⟩)] from hW ▸ hgT ▸ boxO_made (below_size HB.out) HB9.out.size HR8.out)
              have zM : W10.cell? ⟨M, 2, none⟩ = some v2 := (blk_cell HPN.out.blk 2).trans rfl
              rw [hgT]
              clear hW hgT HR8 HB9 HBB9 c0_
              go_upto_region 38 with ((with_reducible refine gate_builtin (b := .append) (xs := #[.tmp 157, .tmp 158]) rfl ?_); at_builtin; go_must (refine Kd.R_append kPO (w0 := w) w.heap.size rfl (.tmp 157) (.tmp 158) 59 71 (.pointer none) 8 rfl Try.underlying59 info_po rfl (by decide) (by omega) v2 (x.outs.take i) y [.pointer (some ⟨gT, 0, none⟩)] (fun k => k ≠ M) (fun k => wr.heap.size ≤ k) rfl rfl HPM.out (fun k hk => HOK.out k hk) (fun k hk => (HOK.out k (Nat.le_trans HLW.out hk)).1) HPN.out.outs HPN.out.B (below_size HPN.out.B) (by have := HFI.out.2.1; rw [List.length_take]; omega) ?_); intro v_ w_ ho_ hb hg hat; obtain ⟨l_, hq, ho⟩ := nameRI ho_; have N1 := Lib.hid hq; clear hq ho_; obtain ⟨A_, c_, rfl⟩ := Kd.R_slice ho; have hM_ := blk_grown HPN.out.blk hg HPN.out.ne.2; have z0_ : w_.cell? ⟨M, 2, none⟩ = some v2 := (blk_cell hM_ 2).trans rfl; have zf_ := blk_frozen hM_ 2; have HPF := Lib.hid (Wc.push2 HPN.out ho hb hg HML.out); clear ho hb hg hat hM_)
              have HPF2 := Lib.hid (show Wc w _ M x v1 _ x.ins (x.outs.take (i + 1)) from by rw [HTK.out, ← N1.out]; exact HPF.out)
              clear HPF N1 z0_ zf_ zM HPM HPN
              go_wp2
              go_roundg k1
              case measure => exact Nat.lt_succ_self _
              case rel => exact ⟨i + 1, xi + 1, _, (by first | rfl | (simp [hw1]; done)), Lib.hid (by rw [HI.out]; omega), Lib.hid (by have := HK.out; omega), HPF2⟩
          · have qb : decide (xi < (x.outs.length : Int)) = false := decide_eq_false (by rw [HI.out]; omega)
            have HP3 := Lib.hid (show Wc w wr M x v1 v2 x.ins x.outs from by
              have := HP.out
              rwa [List.take_of_length_le (by omega)] at this)
            clear ci HI HK HP
            go_wp2
            go_ret
            exact ⟨M, v1, v2, rfl, ⟨HML.out, HP3.out.blk, HP3.out.ins, HP3.out.outs⟩, HP3.out.B⟩
end Go.Proofs.Ytkmlpoggbfbnaaa.Wire
