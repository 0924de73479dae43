/-
  Moments; CalcPastMedianTime; the program.
-/
import Derived.Test.YthmhojgjkfinlaaMdC
namespace Go.Proofs.Ythmhojgjkfinlaa.Md
open Go.RowKit Go.Proofs.YthmhojgjkfinlaaW.PrintWords Go.Proofs.YthmhojgjkfinlaaW.PrintLast Go.Proofs.YthmhojgjkfinlaaW.PrintMore Go.Proofs.Ythmhojgjkfinlaa.Reg
set_option linter.unusedSimpArgs false
set_option linter.unusedVariables false

theorem Inv.bel {B G n c : Nat} {l : List Int} {w0 w : World} (h : Inv B G n c l w0 w) : Below B w0 w := h.2.1
/-- A moment, or none behind the last. -/
def Mo (A : Option Addr) (n c : Nat) (i : Int) : Value := if i < n then .iface 41 (.agg #[.slice A n c, .int .i64 i]) else .nilIface
theorem call_time (A : Option Addr) (n c : Nat) (i : Int) (w : World) : (callMethod (.iface 41 (.agg #[.slice A n c, .int .i64 i])) "Timestamp" #[]).run Try.prog w = .ok (.enter 86 #[.agg #[.slice A n c, .int .i64 i]]) w := by kernel_rfl
theorem call_parent (A : Option Addr) (n c : Nat) (i : Int) (w : World) : (callMethod (.iface 41 (.agg #[.slice A n c, .int .i64 i])) "Parent" #[]).run Try.prog w = .ok (.enter 85 #[.agg #[.slice A n c, .int .i64 i]]) w := by kernel_rfl
set_option maxHeartbeats 4000000 in
set_option maxRecDepth 100000 in
theorem time_calls (A : Option Addr) (c : Nat) (l : List Int) (i : Int) (w : World) (h : Kd.C (Kd.int .i64) w A l.length l) (h0 : 0 ≤ i) (h1 : i < l.length) :
    Calls Try.prog 86 #[.agg #[.slice A l.length c, .int .i64 i]] w fun e w' => e = .returned (.int .i64 (rd l i)) ∧ Below w.heap.size w w' := by
  have hb : Below w.heap.size w (w.alloc (.cells #[.slice A l.length c, .int .i64 i] 41)) := below_alloc (Below.refl _ _) _
  obtain ⟨ad, rfl, hc⟩ := Kd.at_int (Kd.C_below h hb) i h0 h1
  have p1 := eq_true h0
  have p2 := eq_true h1
  obtain ⟨x, hx⟩ : ∃ x, rd l i = x := ⟨_, rfl⟩
  obtain ⟨n, hn⟩ : ∃ n, l.length = n := ⟨_, rfl⟩
  rw [hx] at hc ⊢
  rw [hn] at hc p2 hb ⊢
  have HB := Lib.hid hb
  clear h h0 h1 hx hn hb
  go_enter Try.func86, Try.ntmps86
  go_wp2
  go_ret
  exact ⟨rfl, HB.out⟩
set_option maxHeartbeats 4000000 in
set_option maxRecDepth 100000 in
theorem ancestor_calls (A : Option Addr) (n c : Nat) (i : Int) (w : World) (h0 : 0 ≤ i) (h1 : i < n) (hn : n ≤ 1000) :
    Calls Try.prog 87 #[.agg #[.slice A n c, .int .i64 i], .int .i32 1] w fun e w' => e = .returned (Mo A n c (i + 1)) ∧ Below w.heap.size w w' := by
  have HB := Lib.hid (show Below w.heap.size w (w.alloc (.cells #[.slice A n c, .int .i64 i] 41)) from below_alloc (Below.refl _ _) _)
  have hw : wrap64 (i + 1) = i + 1 := wrap64_id (by omega) (by omega)
  have hw1 : wrap64 1 = 1 := by decide +kernel
  by_cases h : i + 1 < n
  · have hd : decide ((n : Int) ≤ i + 1) = false := decide_eq_false (by omega)
    have HM : Mo A n c (i + 1) = .iface 41 (.agg #[.slice A n c, .int .i64 (i + 1)]) := if_pos h
    rw [HM]
    clear HM h h0 h1 hn
    go_enter Try.func87, Try.ntmps87
    go_wp2
    go_ret
    exact ⟨rfl, HB.out⟩
  · have hd : decide ((n : Int) ≤ i + 1) = true := decide_eq_true (by omega)
    have HM : Mo A n c (i + 1) = .nilIface := if_neg h
    rw [HM]
    clear HM h h0 h1 hn
    go_enter Try.func87, Try.ntmps87
    go_wp2
    go_ret
    exact ⟨rfl, HB.out⟩
set_option maxHeartbeats 4000000 in
set_option maxRecDepth 100000 in
theorem parent_calls (A : Option Addr) (n c : Nat) (i : Int) (w : World) (h0 : 0 ≤ i) (h1 : i < n) (hn : n ≤ 1000) :
    Calls Try.prog 85 #[.agg #[.slice A n c, .int .i64 i]] w fun e w' => e = .returned (Mo A n c (i + 1)) ∧ Below w.heap.size w w' := by
  have H := Lib.hid (fun w => ancestor_calls A n c i w h0 h1 hn)
  have HB := Lib.hid (show Below w.heap.size w (w.alloc (.cells #[.slice A n c, .int .i64 i] 41)) from below_alloc (Below.refl _ _) _)
  obtain ⟨M, hM⟩ : ∃ M, Mo A n c (i + 1) = M := ⟨_, rfl⟩
  rw [hM] at H ⊢
  clear h0 h1 hn hM
  go_enter Try.func85, Try.ntmps85
  go_wp2_with (first
    | (go_at_call 87; go_must ((with_reducible refine (H.out _).mono ?_); rintro e w1 ⟨rfl, hB⟩; have HB2 := Aside0.mk (below_step HB.out hB); clear hB)))
  go_ret
  exact ⟨rfl, HB2.out⟩
set_option maxHeartbeats 4000000 in
theorem unix_calls (x y : Int) (w : World) : Calls Try.prog 25 #[.int .i64 x, .int .i64 y] w fun e w' => e = .returned (.agg #[.int .i64 x]) ∧ Below w.heap.size w w' := by
  go_enter Try.func25, Try.ntmps25
  go_wp2
  refine bodyPost_ret (results_cell_row rfl _ _ w.heap.size 38 #[.int .i64 x] (0, 0) _ rfl (heap_alloc_new _ _) Try.underlying38 rfl (by kernel_rfl)) rfl ?_
  exact ⟨rfl, below_alloc (Below.refl _ _) _⟩
set_option maxHeartbeats 4000000 in
theorem tunix_calls (x : Int) (w : World) : Calls Try.prog 17 #[.agg #[.int .i64 x]] w fun e w' => e = .returned (.int .i64 x) ∧ Below w.heap.size w w' := by
  go_enter Try.func17, Try.ntmps17
  go_wp2
  go_ret
  exact ⟨rfl, below_alloc (Below.refl _ _) _⟩
theorem put_one (l : List Int) (i : Nat) (h : i < l.length) (k : Nat) (hk : i < k) : (l.take i ++ List.replicate (k - i) 0).set i (l.getD i 0) = l.take (i + 1) ++ List.replicate (k - (i + 1)) 0 := by
  rw [List.set_append_right _ _ (by simp; omega), show i - (l.take i).length = 0 by simp; omega]
  obtain ⟨m, hm⟩ : ∃ m, k - i = m + 1 := ⟨k - i - 1, by omega⟩
  rw [hm, List.replicate_succ, List.set_cons_zero, show k - (i + 1) = m by omega, List.take_add_one, List.append_assoc]
  congr 1
  simp [h]
/-- What the median is taken of. -/
def med (l : List Int) : Int := rd (srt (l.take (min l.length 11)) (min l.length 11)) ((min l.length 11 / 2 : Nat) : Int)
set_option maxHeartbeats 8000000 in
set_option maxRecDepth 100000 in
theorem past_calls (A : Option Addr) (c : Nat) (l : List Int) (w : World) (h : Kd.C (Kd.int .i64) w A l.length l) (hl : 1 ≤ l.length ∧ l.length ≤ 1000) :
    Calls Try.prog 16 #[.iface 41 (.agg #[.slice A l.length c, .int .i64 0])] w fun e w' => e = .returned (.agg #[.int .i64 (med l)]) ∧ Below w.heap.size w w' := by
  have HL := Lib.hid hl
  have HT := Lib.hid (fun (i : Int) (W : World) (hW : Below w.heap.size w W) (h0 : 0 ≤ i) (h1 : i < l.length) => time_calls A c l i W (Kd.C_below h hW) h0 h1)
  have HP := Lib.hid (fun (i : Int) (W : World) (h0 : 0 ≤ i) (h1 : i < l.length) => parent_calls A l.length c i W h0 h1 hl.2)
  obtain ⟨n, hn⟩ : ∃ n, l.length = n := ⟨_, rfl⟩
  have HNN := Lib.hid hn
  rw [hn] at HT HP ⊢
  obtain ⟨W1, hW1⟩ : ∃ W1, (w.alloc (.cells #[.int .i64 0] 38)) = W1 := ⟨_, rfl⟩
  obtain ⟨B, hB⟩ : ∃ B, W1.heap.size = B := ⟨_, rfl⟩
  have hsz : W1.heap.size = w.heap.size + 1 := by rw [← hW1]; simp
  have HB0 := Aside0.mk (show Below w.heap.size w W1 from hW1 ▸ below_alloc (Below.refl _ _) _)
  have HWB := Aside0.mk (show W1.heap[w.heap.size]? = some (.cells #[.int .i64 0] 38 (0, 0)) from by rw [← hW1]; exact heap_alloc_new _ _)
  have HBB := Aside0.mk (show w.heap.size < B from by omega)
  have HB1 := Aside0.mk (show w.heap.size ≤ B from by omega)
  have HBW := Aside0.mk (show B ≤ W1.heap.size from by omega)
  have HM0 := Aside0.mk (show Mo A n c 0 = .iface 41 (.agg #[.slice A n c, .int .i64 0]) from if_pos (by omega))
  have HN0 := Lib.hid (show (0 : Int) ≤ 11 from by decide)
  have HN4 := Lib.hid (show (11 : Int).toNat * 8 ≤ 281474976710656 from by decide)
  have HW1 := Lib.hid hW1
  clear h hl hn hB hsz hW1
  go_enter Try.func16, Try.ntmps16
  go_wp2_with (first
    | ((with_reducible refine gate_dst (N := 8) rfl ?_); go_must (rw [HW1.out]); go_must (refine Kd.R_make (Kd.int .i64) B 2 rfl (N := 8) rfl 27 _ _ rfl 11 rfl rfl Try.underlying27 (.int .i64 0) 8 PFnMedianTime.info2 rfl (by decide) (by omega) 0 (ok := fun k => B ≤ k) (okp := fun k => B ≤ k) rfl (fun _ hk => hk) HBW.out HN0.out HN4.out (Below.refl B W1) HBW.out ?_); intro v1 w2 ho hb hg_ hnew_; clear hg_ hnew_; obtain ⟨G, cc, rfl, hG1, hG2, hG3⟩ := Kd.R_form ho (by decide); have HV := Aside0.mk (show Inv B G 11 cc (List.replicate 11 0) W1 w2 from ⟨ho, hb, hG1, HBW.out⟩); have HCC := Aside0.mk (show 11 ≤ cc from (Kd.R_reads' ho).2.1); clear ho hb hG1 hG2 hG3))
  go_loopg [4, 5, 6] 12 (fun kq v4 v5 v6 w' => ∃ i : Int, v4 = .int .i64 i ∧ v5 = Mo A n c i ∧ v6 = .int .i64 i ∧ Aside0 (0 ≤ i ∧ i ≤ 11 ∧ i ≤ n ∧ i.toNat + kq = 12) ∧ Aside0 (Inv B G 11 cc (l.take i.toNat ++ List.replicate (11 - i.toNat) 0) W1 w'))
  case atStart => exact ⟨0, rfl, HM0.out.symm, rfl, ⟨by decide, by decide, by omega, by decide⟩, ⟨HV.out⟩⟩
  case round =>
    clear HV HM0
    obtain ⟨i, rfl, rfl, rfl, HI, HV⟩ := hrel
    obtain ⟨k1, rfl⟩ : ∃ k1, gk = k1 + 1 := ⟨gk - 1, by have := HI.out; omega⟩
    by_cases c11 : i < 11
    · have d11 : decide (i < 11) = true := decide_eq_true c11
      have e11 := eq_true c11
      by_cases cn : i < (n : Int)
      · have HM := Aside0.mk (show Mo A n c i = .iface 41 (.agg #[.slice A n c, .int .i64 i]) from if_pos cn)
        rw [HM.out]
        have HC := Aside0.mk (And.intro c11 cn)
        have i0 := eq_true HI.out.1
        have hwi : wrap64 (i + 1) = i + 1 := wrap64_id (by have := HI.out; omega) (by omega)
        have HX := Aside0.mk (show (l.take i.toNat ++ List.replicate (11 - i.toNat) 0).set i.toNat (rd l i) = l.take (i + 1).toNat ++ List.replicate (11 - (i + 1).toNat) 0 from by
          rw [show (i + 1).toNat = i.toNat + 1 by have := HI.out; omega]
          exact put_one l i.toNat (by have := HNN.out; have := HI.out; omega) 11 (by omega))
        clear c11 cn
        go_wp2_with (first
          | ((with_reducible refine gate_invoke (r := .tmp 20) (n := "Timestamp") rfl ?_); go_must (refine inv_0 (v := .iface 41 (.agg #[.slice A n c, .int .i64 i])) rfl (.tmp 20) #[] rfl rfl (call_time A n c i _) ?_); go_must ((with_reducible refine (HT.out i _ (HB0.out.trans (HV.out.bel.mono HB1.out)) HI.out.1 HC.out.2).mono ?_); rintro e w1 ⟨rfl, hB⟩; have hV1 := HV.out.later hB; obtain ⟨z1, f1⟩ := hV1.cell i HI.out.1 (by have := HC.out.1; omega); have HV1 := Aside0.mk (hV1.put i (rd l i)); clear hV1 hB; refine ⟨_, rfl, ?_⟩))
          | ((with_reducible refine gate_invoke (r := .tmp 25) (n := "Parent") rfl ?_); go_must (refine inv_0 (v := .iface 41 (.agg #[.slice A n c, .int .i64 i])) rfl (.tmp 25) #[] rfl rfl (call_parent A n c i _) ?_); go_must ((with_reducible refine (HP.out i _ HI.out.1 HC.out.2).mono ?_); rintro e w3 ⟨rfl, hB⟩; have HV3 := Aside0.mk (HV1.out.later hB); clear hB; refine ⟨_, rfl, ?_⟩)))
        go_roundg k1
        case measure => have := HI.out; omega
        case rel => exact ⟨i + 1, by first | rfl | (rw [hwi]), rfl, by first | rfl | (rw [hwi]), ⟨by have := HI.out; omega, by have := HC.out; omega, by have := HC.out; omega, by have := HI.out; omega⟩, ⟨by have := HV3.out; rwa [HX.out] at this⟩⟩
      · have HM := Aside0.mk (show Mo A n c i = .nilIface from if_neg cn)
        rw [HM.out]
        obtain ⟨k, rfl⟩ : ∃ k : Nat, i = k := ⟨i.toNat, by have := HI.out; omega⟩
        have hk : k = min n 11 := by have := HI.out; omega
        have HK := Aside0.mk (show 1 ≤ k ∧ k ≤ 11 ∧ k = min l.length 11 from by have := HNN.out; have := HL.out; omega)
        have HV1 := Aside0.mk (show Inv B G k cc (l.take k) W1 wr from by
          have h1 := HV.out
          refine ⟨?_, h1.2⟩
          have h2 := Kd.R_take h1.1 (m := k) (by have := HK.out; have := HNN.out; simp; omega)
          rw [Int.toNat_natCast, List.take_append_of_le_length (by have := HK.out; simp; omega), List.take_take, Nat.min_self] at h2
          exact h2)
        have HS := Lib.hid (fun W (hV : Inv B G k cc (l.take k) W1 W) => sort_calls B G k cc (l.take k) W1 W hV ⟨HK.out.1, HK.out.2.1⟩)
        obtain ⟨q, hq⟩ : ∃ q : Int, ((k / 2 : Nat) : Int) = q := ⟨_, rfl⟩
        have hwq : wrap64 (Int.tdiv (k : Int) 2) = q := by rw [Int.tdiv_eq_ediv_of_nonneg (by omega), ← hq, wrap64_id (by have := HK.out; omega) (by have := HK.out; omega)]; omega
        have q0 : 0 ≤ q := by omega
        have q1 : q < (k : Int) := by have := HK.out; omega
        have HQ := Aside0.mk (And.intro q0 (And.intro q1 (show q.toNat = k / 2 from by omega)))
        have HMD := Aside0.mk (show rd (srt (l.take k) k) q = med l from by rw [← hq, HK.out.2.2]; rfl)
        replace q0 := eq_true q0
        replace q1 := eq_true q1
        have k11 : (k : Int) ≤ 11 := by have := HK.out; omega
        have k12 := eq_true (show k ≤ 11 from HK.out.2.1)
        have kh1 := eq_true (show k / 2 < k from by have := HK.out; omega)
        have kh2 := eq_true (show (k : Int) / 2 < (k : Int) from by have := HK.out; omega)
        have kh3 := eq_true (show 0 ≤ (k : Int) / 2 from by have := HK.out; omega)
        have kc := eq_true (show k ≤ cc from by have := HK.out; have := HCC.out; omega)
        have kc2 := eq_true (show (k : Int) ≤ (cc : Int) from by have := HK.out; have := HCC.out; omega)
        clear hk hq HI HV
        go_wp2_with (first
          | (go_at_call 24; go_must ((with_reducible refine (HS.out _ HV1.out).mono ?_); rintro e w4 ⟨⟨u, rfl⟩, hV⟩; obtain ⟨z4, f4⟩ := hV.cell q HQ.out.1 HQ.out.2.1; rw [HMD.out, HQ.out.2.2] at z4; have HV4 := Aside0.mk hV; clear hV))
          | (go_at_call 25; go_must ((with_reducible refine (unix_calls _ _ _).mono ?_); rintro e w5 ⟨rfl, hB⟩; have hV5 := HV4.out.later hB; have hbk := (hV5.bel.block w.heap.size HBB.out).trans HWB.out; have HBK := Aside0.mk hbk; have z5 := (blk_cell hbk 0).trans rfl; have f5 := blk_frozen hbk 0; have HV5 := Aside0.mk hV5; clear hV5 hbk hB)))
        refine bodyPost_ret (results_cell_row rfl _ _ w.heap.size 38 #[.int .i64 (med l)] (0, 0) _ rfl (blk_set HBK.out 0 _) Try.underlying38 rfl (by kernel_rfl)) rfl ?_
        exact ⟨rfl, (HB0.out.trans (HV5.out.bel.mono HB1.out)).setCell (p := ⟨w.heap.size, 0, none⟩) (Nat.le_refl _) _⟩
    · have d11 : decide (i < 11) = false := decide_eq_false c11
      have e11 := eq_false c11
      obtain ⟨k, rfl⟩ : ∃ k : Nat, i = k := ⟨i.toNat, by have := HI.out; omega⟩
      have hk : k = min n 11 := by have := HI.out; omega
      have HK := Aside0.mk (show 1 ≤ k ∧ k ≤ 11 ∧ k = min l.length 11 from by have := HNN.out; have := HL.out; omega)
      have HV1 := Aside0.mk (show Inv B G k cc (l.take k) W1 wr from by
        have h1 := HV.out
        refine ⟨?_, h1.2⟩
        have h2 := Kd.R_take h1.1 (m := k) (by have := HK.out; have := HNN.out; simp; omega)
        rw [Int.toNat_natCast, List.take_append_of_le_length (by have := HK.out; simp; omega), List.take_take, Nat.min_self] at h2
        exact h2)
      have HS := Lib.hid (fun W (hV : Inv B G k cc (l.take k) W1 W) => sort_calls B G k cc (l.take k) W1 W hV ⟨HK.out.1, HK.out.2.1⟩)
      obtain ⟨q, hq⟩ : ∃ q : Int, ((k / 2 : Nat) : Int) = q := ⟨_, rfl⟩
      have hwq : wrap64 (Int.tdiv (k : Int) 2) = q := by rw [Int.tdiv_eq_ediv_of_nonneg (by omega), ← hq, wrap64_id (by have := HK.out; omega) (by have := HK.out; omega)]; omega
      have q0 : 0 ≤ q := by omega
      have q1 : q < (k : Int) := by have := HK.out; omega
      have HQ := Aside0.mk (And.intro q0 (And.intro q1 (show q.toNat = k / 2 from by omega)))
      have HMD := Aside0.mk (show rd (srt (l.take k) k) q = med l from by rw [← hq, HK.out.2.2]; rfl)
      replace q0 := eq_true q0
      replace q1 := eq_true q1
      have k11 : (k : Int) ≤ 11 := by have := HK.out; omega
      have k12 := eq_true (show k ≤ 11 from HK.out.2.1)
      have kh1 := eq_true (show k / 2 < k from by have := HK.out; omega)
      have kh2 := eq_true (show (k : Int) / 2 < (k : Int) from by have := HK.out; omega)
      have kh3 := eq_true (show 0 ≤ (k : Int) / 2 from by have := HK.out; omega)
      have kc := eq_true (show k ≤ cc from by have := HK.out; have := HCC.out; omega)
      have kc2 := eq_true (show (k : Int) ≤ (cc : Int) from by have := HK.out; have := HCC.out; omega)
      clear hk hq HI HV
      go_wp2_with (first
        | (go_at_call 24; go_must ((with_reducible refine (HS.out _ HV1.out).mono ?_); rintro e w4 ⟨⟨u, rfl⟩, hV⟩; obtain ⟨z4, f4⟩ := hV.cell q HQ.out.1 HQ.out.2.1; rw [HMD.out, HQ.out.2.2] at z4; have HV4 := Aside0.mk hV; clear hV))
        | (go_at_call 25; go_must ((with_reducible refine (unix_calls _ _ _).mono ?_); rintro e w5 ⟨rfl, hB⟩; have hV5 := HV4.out.later hB; have hbk := (hV5.bel.block w.heap.size HBB.out).trans HWB.out; have HBK := Aside0.mk hbk; have z5 := (blk_cell hbk 0).trans rfl; have f5 := blk_frozen hbk 0; have HV5 := Aside0.mk hV5; clear hV5 hbk hB)))
      refine bodyPost_ret (results_cell_row rfl _ _ w.heap.size 38 #[.int .i64 (med l)] (0, 0) _ rfl (blk_set HBK.out 0 _) Try.underlying38 rfl (by kernel_rfl)) rfl ?_
      exact ⟨rfl, (HB0.out.trans (HV5.out.bel.mono HB1.out)).setCell (p := ⟨w.heap.size, 0, none⟩) (Nat.le_refl _) _⟩
end Go.Proofs.Ythmhojgjkfinlaa.Md
