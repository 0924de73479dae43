/-
  The tokenizer's step at a push whose length stands in 4 bytes. Printed by wip/gen/toknext.py.
-/
import Derived.Test.YtafpmdmmeohmfaaTokNext
namespace Go.Proofs.Ytafpmdmmeohmfaa.Tok
open Go.RowKit Go.Proofs.YtafpmdmmeohmfaaW.PrintWords Go.Proofs.YtafpmdmmeohmfaaW.PrintLast

set_option maxHeartbeats 8000000 in
set_option maxRecDepth 100000 in
theorem next_data4_badw (g : Nat) (A : Option Addr) (c : Nat) (l : List Int) (off : Nat) (pos : Int) (opv dv : Value) (w : World) (h : Tz w g A l.length c off pos opv dv .nilIface)
    (hn : l.length ≤ 2147483647) (ho : off < l.length) (P0 : Nat → Prop) (hs : Kd.V (Kd.int .u8) 5 w w.heap.size P0 (.slice A l.length c) l) (hP : ∀ k, P0 k → k ≠ g) (hb : Bytes l)
    (b : Int) (eb : l.getD off 0 = b) (hL : opLength b = -4) (hbad : l.length - (off + 1) < 4) :
    Calls Try.prog 35 #[.pointer (some ⟨g, 0, none⟩)] w fun e w' => e = .returned (.bool false) ∧ Only g w w' ∧
      ∃ pos' s, Tz w' g A l.length c (off : Int) pos' opv dv (.iface 77 (.agg #[.int .i64 27, .string s])) := by
  have hd : decide ((l.length : Int) ≤ (off : Int)) = false := decide_eq_false (by omega)
  have hbb := hb.getD off
  rw [eb] at hbb
  have z3 := h.c3
  have fz := h.fz
  have H := Lib.hid h
  have HN := Lib.hid hn
  have HS := Lib.hid hs
  have HP := Lib.hid hP
  have HO := Lib.hid ho
  have HBB := Lib.hid hbb
  have HBY := Lib.hid hb
  have EB := Lib.hid eb
  have HL := Lib.hid hL
  clear hL
  have HBAD := Lib.hid hbad
  clear hbad
  clear h hn hs hb hbb eb ho hP
  go_enter Try.func35, Try.ntmps35
  go_upto_region 4 with (go_at_call 50; refine (done_calls _ _ _ _ _ _ _ _ _ H.out HN.out false hd).mono ?_; rintro e w' ⟨rfl, m, rfl⟩)
  obtain ⟨W2, hW2⟩ : ∃ W2, W2 = (w.drewN m).setCell ⟨g, 3, none⟩ (.int .i32 (wrap32 (pos + 1))) := ⟨_, rfl⟩
  rw [← hW2]
  have T2 : Tz W2 g A l.length c off (wrap32 (pos + 1)) opv dv .nilIface := by rw [hW2]; exact blk_put (blk_drewN H.out m) 3 _ rfl
  have O2 : Only g w W2 := by rw [hW2]; exact ((Only.refl g w).drewN m).set 3 _
  have S2 := Kd.V_keep HS.out O2.2 HP.out
  generalize wrap32 (pos + 1) = pos1 at T2 hW2
  clear hW2 z3 fz hd
  obtain ⟨ad, e, x0⟩ := Kd.at_int (Kd.V_reads' S2).2.2 (off : Int) (by omega) (by have := HO.out; omega)
  cases e
  simp only [rd, Int.toNat_natCast] at x0
  rw [EB.out] at x0
  have z0 := T2.c0
  have z2 := T2.c2
  have o1 : (off : Int) < (l.length : Int) := by have := HO.out; omega
  have HT2 := Lib.hid T2
  have HO2 := Lib.hid O2
  have HS2 := Lib.hid S2
  clear T2 O2 S2
  go_still_tail 10, (by kernel_rfl)
  change wpList _ _ _ _ _ W2.drew
  go_upto_region 21 with (go_at_call 51; refine (opcodeOf_calls' b HBB.out.1 HBB.out.2 _).mono ?_; rintro e W3 ⟨go, rfl, hgo, hop, hB3⟩; have HT3 := Lib.hid (show Tz W3 g (some ad) l.length c off pos1 opv dv .nilIface from blk_below (blk_drew HT2.out) hB3); have HO3 := Lib.hid (HO2.out.drew.below (blk_lt H.out) hB3); have HS3 := Lib.hid (Kd.V_below (Kd.V_drew HS2.out) hB3); have HGO := Lib.hid (show W2.heap.size ≤ go from hgo); have HOP := Lib.hid hop; have y2 : W3.cell? ⟨go, 2, none⟩ = some (.int .i64 (-4)) := (blk_cell hop 2).trans (by rw [HL.out]; rfl); clear hgo hop hB3 z0 z2 x0 o1; have z0 := HT3.out.c0; have z2 := HT3.out.c2; have z4 := HT3.out.c4; have z5 := HT3.out.c5; have z6 := HT3.out.c6; have fz := HT3.out.fz)
  obtain ⟨A2, m2, c2, hm2, cut1, hV1⟩ := from_fact .i32 HS3.out (off + 1) (by have := HO.out; omega)
  replace cut1 : ∀ W', (Instr.slice 22 (.slice (some ad) l.length c) (some (.int .i32 ((off : Int) + 1))) none none).run Try.prog W' = .ok (.slice A2 m2 c2) W' := cut1
  have hw1 : wrap32 ((off : Int) + 1) = (off : Int) + 1 := by have := HO.out; have := HN.out; exact wrap32_id (by omega) (by omega)
  have HV1 := Lib.hid hV1
  have HM2 := Lib.hid hm2
  clear hV1 hm2
  have q3 : decide ((m2 : Int) < 4) = true := decide_eq_true (by have := HBAD.out; have := HM2.out; omega)
  go_quiet (fail)
  have HT5 := Lib.hid (show Tz (W3.drewN nq) g (some ad) l.length c off pos1 opv dv .nilIface from blk_drewN HT3.out nq)
  have HO5 := Lib.hid (HO3.out.drewN nq)
  go_wp2_with (go_at_call 49; refine (PFnDisasmRead.btcdtxscript_scriptError.calls _ _ _ _ _ rfl).mono ?_; rintro e W4 ⟨rfl, hB4⟩; have HT4 := Lib.hid (blk_below HT5.out hB4); have HO4 := Lib.hid (HO5.out.below (blk_lt H.out) hB4); clear hB4 z0 z2 z4 z5 z6 fz; have z6 := (show Tz W4 g (some ad) l.length c off pos1 opv dv .nilIface from HT4.out).c6; have fz := (show Tz W4 g (some ad) l.length c off pos1 opv dv .nilIface from HT4.out).fz)
  go_ret
  exact ⟨rfl, HO4.out.set 6 _, pos1, _, blk_put HT4.out 6 _ rfl⟩

set_option maxHeartbeats 8000000 in
set_option maxRecDepth 100000 in
theorem next_data4 (g : Nat) (A : Option Addr) (c : Nat) (l : List Int) (off : Nat) (pos : Int) (opv dv : Value) (w : World) (h : Tz w g A l.length c off pos opv dv .nilIface)
    (hn : l.length ≤ 2147483647) (ho : off < l.length) (P0 : Nat → Prop) (hs : Kd.V (Kd.int .u8) 5 w w.heap.size P0 (.slice A l.length c) l) (hP : ∀ k, P0 k → k ≠ g) (hb : Bytes l)
    (b : Int) (eb : l.getD off 0 = b) (hL : opLength b = -4) (hw : 4 ≤ l.length - (off + 1)) (d : Nat) (hdd : leV ((l.drop (off + 1)).take 4) = d) (hok : d ≤ l.length - (off + 1) - 4) :
    Calls Try.prog 35 #[.pointer (some ⟨g, 0, none⟩)] w fun e w' => e = .returned (.bool true) ∧ Only g w w' ∧
      ∃ pos' go dv', Tz w' g A l.length c ((off + 1 + 4 + d : Nat) : Int) pos' (.pointer (some ⟨go, 0, none⟩)) dv' .nilIface ∧ w.heap.size ≤ go ∧
        w'.heap[go]? = some (.cells #[.int .u8 b, .string (opRow b).name, .int .i64 (opLength b)] 88 (0, 0)) ∧
        Kd.V (Kd.int .u8) 5 w' w.heap.size P0 dv' ((l.drop (off + 1 + 4)).take d) := by
  have hd : decide ((l.length : Int) ≤ (off : Int)) = false := decide_eq_false (by omega)
  have hbb := hb.getD off
  rw [eb] at hbb
  have z3 := h.c3
  have fz := h.fz
  have H := Lib.hid h
  have HN := Lib.hid hn
  have HS := Lib.hid hs
  have HP := Lib.hid hP
  have HO := Lib.hid ho
  have HBB := Lib.hid hbb
  have HBY := Lib.hid hb
  have EB := Lib.hid eb
  have HL := Lib.hid hL
  clear hL
  have HW := Lib.hid hw
  have HD := Lib.hid hdd
  have HOK := Lib.hid hok
  clear hw hdd hok
  clear h hn hs hb hbb eb ho hP
  go_enter Try.func35, Try.ntmps35
  go_upto_region 4 with (go_at_call 50; refine (done_calls _ _ _ _ _ _ _ _ _ H.out HN.out false hd).mono ?_; rintro e w' ⟨rfl, m, rfl⟩)
  obtain ⟨W2, hW2⟩ : ∃ W2, W2 = (w.drewN m).setCell ⟨g, 3, none⟩ (.int .i32 (wrap32 (pos + 1))) := ⟨_, rfl⟩
  rw [← hW2]
  have T2 : Tz W2 g A l.length c off (wrap32 (pos + 1)) opv dv .nilIface := by rw [hW2]; exact blk_put (blk_drewN H.out m) 3 _ rfl
  have O2 : Only g w W2 := by rw [hW2]; exact ((Only.refl g w).drewN m).set 3 _
  have S2 := Kd.V_keep HS.out O2.2 HP.out
  generalize wrap32 (pos + 1) = pos1 at T2 hW2
  clear hW2 z3 fz hd
  obtain ⟨ad, e, x0⟩ := Kd.at_int (Kd.V_reads' S2).2.2 (off : Int) (by omega) (by have := HO.out; omega)
  cases e
  simp only [rd, Int.toNat_natCast] at x0
  rw [EB.out] at x0
  have z0 := T2.c0
  have z2 := T2.c2
  have o1 : (off : Int) < (l.length : Int) := by have := HO.out; omega
  have HT2 := Lib.hid T2
  have HO2 := Lib.hid O2
  have HS2 := Lib.hid S2
  clear T2 O2 S2
  go_still_tail 10, (by kernel_rfl)
  change wpList _ _ _ _ _ W2.drew
  go_upto_region 21 with (go_at_call 51; refine (opcodeOf_calls' b HBB.out.1 HBB.out.2 _).mono ?_; rintro e W3 ⟨go, rfl, hgo, hop, hB3⟩; have HT3 := Lib.hid (show Tz W3 g (some ad) l.length c off pos1 opv dv .nilIface from blk_below (blk_drew HT2.out) hB3); have HO3 := Lib.hid (HO2.out.drew.below (blk_lt H.out) hB3); have HS3 := Lib.hid (Kd.V_below (Kd.V_drew HS2.out) hB3); have HGO := Lib.hid (show W2.heap.size ≤ go from hgo); have HOP := Lib.hid hop; have y2 : W3.cell? ⟨go, 2, none⟩ = some (.int .i64 (-4)) := (blk_cell hop 2).trans (by rw [HL.out]; rfl); clear hgo hop hB3 z0 z2 x0 o1; have z0 := HT3.out.c0; have z2 := HT3.out.c2; have z4 := HT3.out.c4; have z5 := HT3.out.c5; have z6 := HT3.out.c6; have fz := HT3.out.fz)
  obtain ⟨A2, m2, c2, hm2, cut1, hV1⟩ := from_fact .i32 HS3.out (off + 1) (by have := HO.out; omega)
  replace cut1 : ∀ W', (Instr.slice 22 (.slice (some ad) l.length c) (some (.int .i32 ((off : Int) + 1))) none none).run Try.prog W' = .ok (.slice A2 m2 c2) W' := cut1
  have hw1 : wrap32 ((off : Int) + 1) = (off : Int) + 1 := by have := HO.out; have := HN.out; exact wrap32_id (by omega) (by omega)
  have HV1 := Lib.hid hV1
  have HM2 := Lib.hid hm2
  clear hV1 hm2
  have q3 : decide ((m2 : Int) < 4) = false := decide_eq_false (by have := HW.out; have := HM2.out; omega)
  obtain ⟨A3, m3, c3, hm3, cut2, hV3⟩ := from_fact .i64 (show Kd.V (Kd.int .u8) 5 W3 w.heap.size P0 (.slice A2 (l.drop (off + 1)).length c2) (l.drop (off + 1)) from (Kd.V_at HV1.out).1 ▸ HV1.out) 4 (by rw [List.length_drop]; exact HW.out)
  replace cut2 : ∀ W', (Instr.slice 22 (.slice A2 m2 c2) (some (.int .i64 4)) none none).run Try.prog W' = .ok (.slice A3 m3 c3) W' := fun W' => (congrArg (fun n => (Instr.slice 22 (.slice A2 n c2) (some (.int .i64 4)) none none).run Try.prog W') (Kd.V_at HV1.out).1).trans (cut2 W')
  have HV3 := Lib.hid hV3
  have HM3 := Lib.hid (hm3.trans (congrArg (· - 4) (List.length_drop ..)))
  have hw3 : wrap32 (m3 : Int) = (m3 : Int) := by have := HN.out; have := HM3.out; exact wrap32_id (by omega) (by omega)
  clear hV3 hm3
  go_quiet (fail)
  have HT5 := Lib.hid (show Tz (W3.drewN nq) g (some ad) l.length c off pos1 opv dv .nilIface from blk_drewN HT3.out nq)
  have HO5 := Lib.hid (HO3.out.drewN nq)
  have HV5 := Lib.hid (Kd.V_drewN HV1.out nq)
  have HV6 := Lib.hid (Kd.V_drewN HV3.out nq)
  have HOP5 := Lib.hid (blk_drewN HOP.out nq)
  generalize W3.drewN nq = W5 at HT5 HO5 HV5 HV6 HOP5 ⊢
  clear z0 z2 z4 z5 z6 y2 fz
  have hne : go ≠ g := by have := blk_lt HT2.out; have := HGO.out; omega
  have hne2 : g ≠ go := fun e => hne e.symm
  have y2 : W5.cell? ⟨go, 2, none⟩ = some (.int .i64 (-4)) := (blk_cell HOP5.out 2).trans (by rw [HL.out]; rfl)
  have z2 := HT5.out.c2
  have z4 := HT5.out.c4
  have z5 := HT5.out.c5
  have z6 := HT5.out.c6
  have fz := HT5.out.fz
  go_upto_region 36 with fail
  obtain ⟨cut4, hV4⟩ := to_fact .i64 HV5.out 4 (by rw [List.length_drop]; exact HW.out)
  replace cut4 : ∀ W', (Instr.slice 22 (.slice A2 m2 c2) none (some (.int .i64 4)) none).run Try.prog W' = .ok (.slice A2 4 c2) W' := cut4
  have hl4 : ((l.drop (off + 1)).take 4).length = 4 := by rw [List.length_take, List.length_drop]; have := HW.out; omega
  have HC4 := Lib.hid (show Kd.C (Kd.int .u8) W5.drew A2 4 ((l.drop (off + 1)).take 4) from by have := (Kd.V_reads' (Kd.V_drew hV4)).2.2; rwa [hl4] at this)
  have HL4 := Lib.hid hl4
  clear hV4 hl4
  go_still_tail 3, (by kernel_rfl)
  change wpList _ _ _ _ _ W5.drew
  have q4 : decide (m3 < d) = false := decide_eq_false (by have := HOK.out; have := HM3.out; omega)
  have hwd : wrap32 (d : Int) = (d : Int) := by have := HOK.out; have := HN.out; exact wrap32_id (by omega) (by omega)
  go_upto_region 42 with (go_at_call 53; refine (u32_calls _ _ _ _ _ HC4.out ((HBY.out.drop (off + 1)).take 4) HL4.out _ HD.out).mono ?_; rintro e W6 ⟨rfl, hB6⟩; have HT6 := Lib.hid (show Tz W6 g (some ad) l.length c off pos1 opv dv .nilIface from blk_below (blk_drew HT5.out) hB6); have HO6 := Lib.hid (HO5.out.drew.below (blk_lt H.out) hB6); have HV7 := Lib.hid (Kd.V_below (Kd.V_drew HV6.out) hB6); have HOP6 := Lib.hid (blk_below (blk_drew HOP5.out) hB6); clear y2 z2 z4 z5 z6 fz hB6; have y2 : W6.cell? ⟨go, 2, none⟩ = some (.int .i64 (-4)) := (blk_cell HOP6.out 2).trans (by rw [HL.out]; rfl); have z2 := HT6.out.c2; have z4 := HT6.out.c4; have z5 := HT6.out.c5; have z6 := HT6.out.c6; have fz := HT6.out.fz)
  try rw [hwd]
  obtain ⟨cut5, hV8⟩ := to_fact .i32 HV7.out d (by rw [List.length_drop, List.length_drop]; exact HOK.out)
  have HV8 := Lib.hid hV8
  clear hV8
  go_still_tail 16, (by kernel_rfl)
  change wpList _ _ _ _ _ W6.drew
  go_wp2
  go_ret
  have eD : (List.drop 4 (List.drop (off + 1) l)).take d = (l.drop (off + 1 + 4)).take d := by rw [List.drop_drop]
  refine ⟨rfl, (((HO6.out.set 2 _).set 4 _).set 5 _).drew, pos1, go, .slice A3 d c3, ?_, Nat.le_trans HO2.out.2.1 HGO.out, ?_, ?_⟩
  · refine blk_drew ?_
    refine blk_put (cs := cellsT (some ad) l.length c ((off + 1 + 4 + d : Nat) : Int) pos1 (.pointer (some ⟨go, 0, none⟩)) dv .nilIface) ?_ 5 _ rfl
    refine blk_put (cs := cellsT (some ad) l.length c ((off + 1 + 4 + d : Nat) : Int) pos1 opv dv .nilIface) ?_ 4 _ rfl
    have e : wrap32 ((off : Int) + wrap32 (5 + (d : Int))) = ((off + 1 + 4 + d : Nat) : Int) := by
      have := HO.out; have := HN.out; have := HW.out; have := HOK.out
      rw [wrap32_id (x := 5 + (d : Int)) (by omega) (by omega)]; rw [wrap32_id (by omega) (by omega)]; omega
    rw [e]
    exact blk_put HT6.out 2 _ rfl
  · exact blk_drew (far_at (far_at (far_at HOP6.out hne 2 _) hne 4 _) hne 5 _)
  · rw [← eD]
    exact Kd.V_drew (Kd.V_far (Kd.V_far (Kd.V_far HV8.out (p := ⟨g, 2, none⟩) HP.out _) (p := ⟨g, 4, none⟩) HP.out _) (p := ⟨g, 5, none⟩) HP.out _)

set_option maxHeartbeats 8000000 in
set_option maxRecDepth 100000 in
theorem next_data4_badl (g : Nat) (A : Option Addr) (c : Nat) (l : List Int) (off : Nat) (pos : Int) (opv dv : Value) (w : World) (h : Tz w g A l.length c off pos opv dv .nilIface)
    (hn : l.length ≤ 2147483647) (ho : off < l.length) (P0 : Nat → Prop) (hs : Kd.V (Kd.int .u8) 5 w w.heap.size P0 (.slice A l.length c) l) (hP : ∀ k, P0 k → k ≠ g) (hb : Bytes l)
    (b : Int) (eb : l.getD off 0 = b) (hL : opLength b = -4) (hw : 4 ≤ l.length - (off + 1)) (d : Nat) (hdd : leV ((l.drop (off + 1)).take 4) = d) (hbad : l.length - (off + 1) - 4 < d) (hsm : d < 2147483648) :
    Calls Try.prog 35 #[.pointer (some ⟨g, 0, none⟩)] w fun e w' => e = .returned (.bool false) ∧ Only g w w' ∧
      ∃ pos' s, Tz w' g A l.length c (off : Int) pos' opv dv (.iface 77 (.agg #[.int .i64 27, .string s])) := by
  have hd : decide ((l.length : Int) ≤ (off : Int)) = false := decide_eq_false (by omega)
  have hbb := hb.getD off
  rw [eb] at hbb
  have z3 := h.c3
  have fz := h.fz
  have H := Lib.hid h
  have HN := Lib.hid hn
  have HS := Lib.hid hs
  have HP := Lib.hid hP
  have HO := Lib.hid ho
  have HBB := Lib.hid hbb
  have HBY := Lib.hid hb
  have EB := Lib.hid eb
  have HL := Lib.hid hL
  clear hL
  have HW := Lib.hid hw
  have HD := Lib.hid hdd
  clear hw hdd
  have HBAD := Lib.hid hbad
  clear hbad
  have HSM := Lib.hid hsm
  clear hsm
  clear h hn hs hb hbb eb ho hP
  go_enter Try.func35, Try.ntmps35
  go_upto_region 4 with (go_at_call 50; refine (done_calls _ _ _ _ _ _ _ _ _ H.out HN.out false hd).mono ?_; rintro e w' ⟨rfl, m, rfl⟩)
  obtain ⟨W2, hW2⟩ : ∃ W2, W2 = (w.drewN m).setCell ⟨g, 3, none⟩ (.int .i32 (wrap32 (pos + 1))) := ⟨_, rfl⟩
  rw [← hW2]
  have T2 : Tz W2 g A l.length c off (wrap32 (pos + 1)) opv dv .nilIface := by rw [hW2]; exact blk_put (blk_drewN H.out m) 3 _ rfl
  have O2 : Only g w W2 := by rw [hW2]; exact ((Only.refl g w).drewN m).set 3 _
  have S2 := Kd.V_keep HS.out O2.2 HP.out
  generalize wrap32 (pos + 1) = pos1 at T2 hW2
  clear hW2 z3 fz hd
  obtain ⟨ad, e, x0⟩ := Kd.at_int (Kd.V_reads' S2).2.2 (off : Int) (by omega) (by have := HO.out; omega)
  cases e
  simp only [rd, Int.toNat_natCast] at x0
  rw [EB.out] at x0
  have z0 := T2.c0
  have z2 := T2.c2
  have o1 : (off : Int) < (l.length : Int) := by have := HO.out; omega
  have HT2 := Lib.hid T2
  have HO2 := Lib.hid O2
  have HS2 := Lib.hid S2
  clear T2 O2 S2
  go_still_tail 10, (by kernel_rfl)
  change wpList _ _ _ _ _ W2.drew
  go_upto_region 21 with (go_at_call 51; refine (opcodeOf_calls' b HBB.out.1 HBB.out.2 _).mono ?_; rintro e W3 ⟨go, rfl, hgo, hop, hB3⟩; have HT3 := Lib.hid (show Tz W3 g (some ad) l.length c off pos1 opv dv .nilIface from blk_below (blk_drew HT2.out) hB3); have HO3 := Lib.hid (HO2.out.drew.below (blk_lt H.out) hB3); have HS3 := Lib.hid (Kd.V_below (Kd.V_drew HS2.out) hB3); have HGO := Lib.hid (show W2.heap.size ≤ go from hgo); have HOP := Lib.hid hop; have y2 : W3.cell? ⟨go, 2, none⟩ = some (.int .i64 (-4)) := (blk_cell hop 2).trans (by rw [HL.out]; rfl); clear hgo hop hB3 z0 z2 x0 o1; have z0 := HT3.out.c0; have z2 := HT3.out.c2; have z4 := HT3.out.c4; have z5 := HT3.out.c5; have z6 := HT3.out.c6; have fz := HT3.out.fz)
  obtain ⟨A2, m2, c2, hm2, cut1, hV1⟩ := from_fact .i32 HS3.out (off + 1) (by have := HO.out; omega)
  replace cut1 : ∀ W', (Instr.slice 22 (.slice (some ad) l.length c) (some (.int .i32 ((off : Int) + 1))) none none).run Try.prog W' = .ok (.slice A2 m2 c2) W' := cut1
  have hw1 : wrap32 ((off : Int) + 1) = (off : Int) + 1 := by have := HO.out; have := HN.out; exact wrap32_id (by omega) (by omega)
  have HV1 := Lib.hid hV1
  have HM2 := Lib.hid hm2
  clear hV1 hm2
  have q3 : decide ((m2 : Int) < 4) = false := decide_eq_false (by have := HW.out; have := HM2.out; omega)
  obtain ⟨A3, m3, c3, hm3, cut2, hV3⟩ := from_fact .i64 (show Kd.V (Kd.int .u8) 5 W3 w.heap.size P0 (.slice A2 (l.drop (off + 1)).length c2) (l.drop (off + 1)) from (Kd.V_at HV1.out).1 ▸ HV1.out) 4 (by rw [List.length_drop]; exact HW.out)
  replace cut2 : ∀ W', (Instr.slice 22 (.slice A2 m2 c2) (some (.int .i64 4)) none none).run Try.prog W' = .ok (.slice A3 m3 c3) W' := fun W' => (congrArg (fun n => (Instr.slice 22 (.slice A2 n c2) (some (.int .i64 4)) none none).run Try.prog W') (Kd.V_at HV1.out).1).trans (cut2 W')
  have HV3 := Lib.hid hV3
  have HM3 := Lib.hid (hm3.trans (congrArg (· - 4) (List.length_drop ..)))
  have hw3 : wrap32 (m3 : Int) = (m3 : Int) := by have := HN.out; have := HM3.out; exact wrap32_id (by omega) (by omega)
  clear hV3 hm3
  go_quiet (fail)
  have HT5 := Lib.hid (show Tz (W3.drewN nq) g (some ad) l.length c off pos1 opv dv .nilIface from blk_drewN HT3.out nq)
  have HO5 := Lib.hid (HO3.out.drewN nq)
  have HV5 := Lib.hid (Kd.V_drewN HV1.out nq)
  have HV6 := Lib.hid (Kd.V_drewN HV3.out nq)
  have HOP5 := Lib.hid (blk_drewN HOP.out nq)
  generalize W3.drewN nq = W5 at HT5 HO5 HV5 HV6 HOP5 ⊢
  clear z0 z2 z4 z5 z6 y2 fz
  have hne : go ≠ g := by have := blk_lt HT2.out; have := HGO.out; omega
  have hne2 : g ≠ go := fun e => hne e.symm
  have y2 : W5.cell? ⟨go, 2, none⟩ = some (.int .i64 (-4)) := (blk_cell HOP5.out 2).trans (by rw [HL.out]; rfl)
  have z2 := HT5.out.c2
  have z4 := HT5.out.c4
  have z5 := HT5.out.c5
  have z6 := HT5.out.c6
  have fz := HT5.out.fz
  go_upto_region 36 with fail
  obtain ⟨cut4, hV4⟩ := to_fact .i64 HV5.out 4 (by rw [List.length_drop]; exact HW.out)
  replace cut4 : ∀ W', (Instr.slice 22 (.slice A2 m2 c2) none (some (.int .i64 4)) none).run Try.prog W' = .ok (.slice A2 4 c2) W' := cut4
  have hl4 : ((l.drop (off + 1)).take 4).length = 4 := by rw [List.length_take, List.length_drop]; have := HW.out; omega
  have HC4 := Lib.hid (show Kd.C (Kd.int .u8) W5.drew A2 4 ((l.drop (off + 1)).take 4) from by have := (Kd.V_reads' (Kd.V_drew hV4)).2.2; rwa [hl4] at this)
  have HL4 := Lib.hid hl4
  clear hV4 hl4
  go_still_tail 3, (by kernel_rfl)
  change wpList _ _ _ _ _ W5.drew
  have q4 : decide (m3 < d) = true := decide_eq_true (by have := HBAD.out; have := HM3.out; omega)
  have hwd : wrap32 (d : Int) = (d : Int) := by
    have hd2 : d < 2147483648 := by
      have := HSM.out; omega
    exact wrap32_id (by omega) (by omega)
  go_wp2_with (first | (go_at_call 53; refine (u32_calls _ _ _ _ _ HC4.out ((HBY.out.drop (off + 1)).take 4) HL4.out _ HD.out).mono ?_; rintro e W6 ⟨rfl, hB6⟩; have HT6 := Lib.hid (show Tz W6 g (some ad) l.length c off pos1 opv dv .nilIface from blk_below (blk_drew HT5.out) hB6); have HO6 := Lib.hid (HO5.out.drew.below (blk_lt H.out) hB6); have HV7 := Lib.hid (Kd.V_below (Kd.V_drew HV6.out) hB6); have HOP6 := Lib.hid (blk_below (blk_drew HOP5.out) hB6); clear y2 z2 z4 z5 z6 fz hB6; have y2 : W6.cell? ⟨go, 2, none⟩ = some (.int .i64 (-4)) := (blk_cell HOP6.out 2).trans (by rw [HL.out]; rfl); have z2 := HT6.out.c2; have z4 := HT6.out.c4; have z5 := HT6.out.c5; have z6 := HT6.out.c6; have fz := HT6.out.fz) | (go_at_call 49; refine (PFnDisasmRead.btcdtxscript_scriptError.calls _ _ _ _ _ rfl).mono ?_; rintro e W4 ⟨rfl, hB4⟩; have HT4 := Lib.hid (blk_below HT6.out hB4); have HO4 := Lib.hid (HO6.out.below (blk_lt H.out) hB4); clear hB4 z2 z4 z5 z6 fz; have z6 := (show Tz W4 g (some ad) l.length c off pos1 opv dv .nilIface from HT4.out).c6; have fz := (show Tz W4 g (some ad) l.length c off pos1 opv dv .nilIface from HT4.out).fz))
  go_ret
  exact ⟨rfl, HO4.out.set 6 _, pos1, _, blk_put HT4.out 6 _ rfl⟩

set_option maxHeartbeats 8000000 in
set_option maxRecDepth 100000 in
theorem next_data4_badn (g : Nat) (A : Option Addr) (c : Nat) (l : List Int) (off : Nat) (pos : Int) (opv dv : Value) (w : World) (h : Tz w g A l.length c off pos opv dv .nilIface)
    (hn : l.length ≤ 2147483647) (ho : off < l.length) (P0 : Nat → Prop) (hs : Kd.V (Kd.int .u8) 5 w w.heap.size P0 (.slice A l.length c) l) (hP : ∀ k, P0 k → k ≠ g) (hb : Bytes l)
    (b : Int) (eb : l.getD off 0 = b) (hL : opLength b = -4) (hw : 4 ≤ l.length - (off + 1)) (d : Nat) (hdd : leV ((l.drop (off + 1)).take 4) = d) (hbad : 2147483648 ≤ d) :
    Calls Try.prog 35 #[.pointer (some ⟨g, 0, none⟩)] w fun e w' => e = .returned (.bool false) ∧ Only g w w' ∧
      ∃ pos' s, Tz w' g A l.length c (off : Int) pos' opv dv (.iface 77 (.agg #[.int .i64 27, .string s])) := by
  have hd : decide ((l.length : Int) ≤ (off : Int)) = false := decide_eq_false (by omega)
  have hbb := hb.getD off
  rw [eb] at hbb
  have z3 := h.c3
  have fz := h.fz
  have H := Lib.hid h
  have HN := Lib.hid hn
  have HS := Lib.hid hs
  have HP := Lib.hid hP
  have HO := Lib.hid ho
  have HBB := Lib.hid hbb
  have HBY := Lib.hid hb
  have EB := Lib.hid eb
  have HL := Lib.hid hL
  clear hL
  have HW := Lib.hid hw
  have HD := Lib.hid hdd
  clear hw hdd
  have HBAD := Lib.hid hbad
  clear hbad
  clear h hn hs hb hbb eb ho hP
  go_enter Try.func35, Try.ntmps35
  go_upto_region 4 with (go_at_call 50; refine (done_calls _ _ _ _ _ _ _ _ _ H.out HN.out false hd).mono ?_; rintro e w' ⟨rfl, m, rfl⟩)
  obtain ⟨W2, hW2⟩ : ∃ W2, W2 = (w.drewN m).setCell ⟨g, 3, none⟩ (.int .i32 (wrap32 (pos + 1))) := ⟨_, rfl⟩
  rw [← hW2]
  have T2 : Tz W2 g A l.length c off (wrap32 (pos + 1)) opv dv .nilIface := by rw [hW2]; exact blk_put (blk_drewN H.out m) 3 _ rfl
  have O2 : Only g w W2 := by rw [hW2]; exact ((Only.refl g w).drewN m).set 3 _
  have S2 := Kd.V_keep HS.out O2.2 HP.out
  generalize wrap32 (pos + 1) = pos1 at T2 hW2
  clear hW2 z3 fz hd
  obtain ⟨ad, e, x0⟩ := Kd.at_int (Kd.V_reads' S2).2.2 (off : Int) (by omega) (by have := HO.out; omega)
  cases e
  simp only [rd, Int.toNat_natCast] at x0
  rw [EB.out] at x0
  have z0 := T2.c0
  have z2 := T2.c2
  have o1 : (off : Int) < (l.length : Int) := by have := HO.out; omega
  have HT2 := Lib.hid T2
  have HO2 := Lib.hid O2
  have HS2 := Lib.hid S2
  clear T2 O2 S2
  go_still_tail 10, (by kernel_rfl)
  change wpList _ _ _ _ _ W2.drew
  go_upto_region 21 with (go_at_call 51; refine (opcodeOf_calls' b HBB.out.1 HBB.out.2 _).mono ?_; rintro e W3 ⟨go, rfl, hgo, hop, hB3⟩; have HT3 := Lib.hid (show Tz W3 g (some ad) l.length c off pos1 opv dv .nilIface from blk_below (blk_drew HT2.out) hB3); have HO3 := Lib.hid (HO2.out.drew.below (blk_lt H.out) hB3); have HS3 := Lib.hid (Kd.V_below (Kd.V_drew HS2.out) hB3); have HGO := Lib.hid (show W2.heap.size ≤ go from hgo); have HOP := Lib.hid hop; have y2 : W3.cell? ⟨go, 2, none⟩ = some (.int .i64 (-4)) := (blk_cell hop 2).trans (by rw [HL.out]; rfl); clear hgo hop hB3 z0 z2 x0 o1; have z0 := HT3.out.c0; have z2 := HT3.out.c2; have z4 := HT3.out.c4; have z5 := HT3.out.c5; have z6 := HT3.out.c6; have fz := HT3.out.fz)
  obtain ⟨A2, m2, c2, hm2, cut1, hV1⟩ := from_fact .i32 HS3.out (off + 1) (by have := HO.out; omega)
  replace cut1 : ∀ W', (Instr.slice 22 (.slice (some ad) l.length c) (some (.int .i32 ((off : Int) + 1))) none none).run Try.prog W' = .ok (.slice A2 m2 c2) W' := cut1
  have hw1 : wrap32 ((off : Int) + 1) = (off : Int) + 1 := by have := HO.out; have := HN.out; exact wrap32_id (by omega) (by omega)
  have HV1 := Lib.hid hV1
  have HM2 := Lib.hid hm2
  clear hV1 hm2
  have q3 : decide ((m2 : Int) < 4) = false := decide_eq_false (by have := HW.out; have := HM2.out; omega)
  obtain ⟨A3, m3, c3, hm3, cut2, hV3⟩ := from_fact .i64 (show Kd.V (Kd.int .u8) 5 W3 w.heap.size P0 (.slice A2 (l.drop (off + 1)).length c2) (l.drop (off + 1)) from (Kd.V_at HV1.out).1 ▸ HV1.out) 4 (by rw [List.length_drop]; exact HW.out)
  replace cut2 : ∀ W', (Instr.slice 22 (.slice A2 m2 c2) (some (.int .i64 4)) none none).run Try.prog W' = .ok (.slice A3 m3 c3) W' := fun W' => (congrArg (fun n => (Instr.slice 22 (.slice A2 n c2) (some (.int .i64 4)) none none).run Try.prog W') (Kd.V_at HV1.out).1).trans (cut2 W')
  have HV3 := Lib.hid hV3
  have HM3 := Lib.hid (hm3.trans (congrArg (· - 4) (List.length_drop ..)))
  have hw3 : wrap32 (m3 : Int) = (m3 : Int) := by have := HN.out; have := HM3.out; exact wrap32_id (by omega) (by omega)
  clear hV3 hm3
  go_quiet (fail)
  have HT5 := Lib.hid (show Tz (W3.drewN nq) g (some ad) l.length c off pos1 opv dv .nilIface from blk_drewN HT3.out nq)
  have HO5 := Lib.hid (HO3.out.drewN nq)
  have HV5 := Lib.hid (Kd.V_drewN HV1.out nq)
  have HV6 := Lib.hid (Kd.V_drewN HV3.out nq)
  have HOP5 := Lib.hid (blk_drewN HOP.out nq)
  generalize W3.drewN nq = W5 at HT5 HO5 HV5 HV6 HOP5 ⊢
  clear z0 z2 z4 z5 z6 y2 fz
  have hne : go ≠ g := by have := blk_lt HT2.out; have := HGO.out; omega
  have hne2 : g ≠ go := fun e => hne e.symm
  have y2 : W5.cell? ⟨go, 2, none⟩ = some (.int .i64 (-4)) := (blk_cell HOP5.out 2).trans (by rw [HL.out]; rfl)
  have z2 := HT5.out.c2
  have z4 := HT5.out.c4
  have z5 := HT5.out.c5
  have z6 := HT5.out.c6
  have fz := HT5.out.fz
  go_upto_region 36 with fail
  obtain ⟨cut4, hV4⟩ := to_fact .i64 HV5.out 4 (by rw [List.length_drop]; exact HW.out)
  replace cut4 : ∀ W', (Instr.slice 22 (.slice A2 m2 c2) none (some (.int .i64 4)) none).run Try.prog W' = .ok (.slice A2 4 c2) W' := cut4
  have hl4 : ((l.drop (off + 1)).take 4).length = 4 := by rw [List.length_take, List.length_drop]; have := HW.out; omega
  have HC4 := Lib.hid (show Kd.C (Kd.int .u8) W5.drew A2 4 ((l.drop (off + 1)).take 4) from by have := (Kd.V_reads' (Kd.V_drew hV4)).2.2; rwa [hl4] at this)
  have HL4 := Lib.hid hl4
  clear hV4 hl4
  go_still_tail 3, (by kernel_rfl)
  change wpList _ _ _ _ _ W5.drew
  obtain ⟨en, hen⟩ : ∃ en : Int, wrap32 (d : Int) = en := ⟨_, rfl⟩
  have hlt : (d : Int) < 4294967296 := by rw [← HD.out]; exact leV_lt4 ((HBY.out.drop (off + 1)).take 4) (by rw [List.length_take]; omega)
  have hneg : en < 0 := by rw [← hen]; have := HBAD.out; unfold wrap32; omega
  have q4 : decide ((m3 : Int) < en) = false := decide_eq_false (by omega)
  have q5 : decide (en < 0) = true := decide_eq_true hneg
  clear hlt hneg
  go_wp2_with (first | (go_at_call 53; refine (u32_calls _ _ _ _ _ HC4.out ((HBY.out.drop (off + 1)).take 4) HL4.out _ HD.out).mono ?_; rintro e W6 ⟨rfl, hB6⟩; have HT6 := Lib.hid (show Tz W6 g (some ad) l.length c off pos1 opv dv .nilIface from blk_below (blk_drew HT5.out) hB6); have HO6 := Lib.hid (HO5.out.drew.below (blk_lt H.out) hB6); have HV7 := Lib.hid (Kd.V_below (Kd.V_drew HV6.out) hB6); have HOP6 := Lib.hid (blk_below (blk_drew HOP5.out) hB6); clear y2 z2 z4 z5 z6 fz hB6; have y2 : W6.cell? ⟨go, 2, none⟩ = some (.int .i64 (-4)) := (blk_cell HOP6.out 2).trans (by rw [HL.out]; rfl); have z2 := HT6.out.c2; have z4 := HT6.out.c4; have z5 := HT6.out.c5; have z6 := HT6.out.c6; have fz := HT6.out.fz) | (go_at_call 49; refine (PFnDisasmRead.btcdtxscript_scriptError.calls _ _ _ _ _ rfl).mono ?_; rintro e W4 ⟨rfl, hB4⟩; have HT4 := Lib.hid (blk_below HT6.out hB4); have HO4 := Lib.hid (HO6.out.below (blk_lt H.out) hB4); clear hB4 z2 z4 z5 z6 fz; have z6 := (show Tz W4 g (some ad) l.length c off pos1 opv dv .nilIface from HT4.out).c6; have fz := (show Tz W4 g (some ad) l.length c off pos1 opv dv .nilIface from HT4.out).fz))
  go_ret
  exact ⟨rfl, HO4.out.set 6 _, pos1, _, blk_put HT4.out 6 _ rfl⟩

end Go.Proofs.Ytafpmdmmeohmfaa.Tok
