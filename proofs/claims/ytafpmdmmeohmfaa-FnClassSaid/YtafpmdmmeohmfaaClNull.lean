/-
  The walks of the functions that tell a script that pays many, and one that holds data. Printed by wip/gen/clnull.py.
-/
import Derived.Test.YtafpmdmmeohmfaaClMulti
namespace Go.Proofs.Ytafpmdmmeohmfaa.Tok
open Go.RowKit Go.Proofs.YtafpmdmmeohmfaaW.PrintWords Go.Proofs.YtafpmdmmeohmfaaW.PrintLast
set_option linter.unusedVariables false
set_option linter.unusedSimpArgs false

theorem details_calls (A : Option Addr) (c : Nat) (l : List Int) (w : World) (hs : Kd.V (Kd.int .u8) 5 w w.heap.size (fun _ => True) (.slice A l.length c) l) (hb : Bytes l) (hn : l.length ≤ 2147483647) (r : Bool) (hr : multiP l = r) :
    Calls Try.prog 74 #[.int .u16 0, .slice A l.length c, .bool false] w fun e w' => (∃ a b, e = .returned (.agg #[.int .i64 a, .int .i64 b, .slice none 0 0, .bool r])) ∧ Below w.heap.size w w' := by
  by_cases h3 : 3 ≤ l.length
  · rw [multiP, decide_eq_true h3, Bool.true_and] at hr
    by_cases hx : rd l ((l.length : Int) - 1) = 174
    · rw [beq_iff_eq.2 hx, Bool.true_and] at hr
      exact details_main A c l w hs hb h3 hn hx r hr
    · rw [beq_eq_false_iff_ne.2 hx, Bool.false_and] at hr
      subst hr
      exact details_last A c l w (Kd.V_reads' hs).2.2 h3 hn hx
  · rw [multiP, decide_eq_false h3, Bool.false_and, Bool.false_and] at hr
    subst hr
    exact details_short A c l w (by omega)
set_option maxHeartbeats 4000000 in
set_option maxRecDepth 100000 in
theorem isMulti_calls (A : Option Addr) (c : Nat) (l : List Int) (w : World) (hs : Kd.V (Kd.int .u8) 5 w w.heap.size (fun _ => True) (.slice A l.length c) l) (hb : Bytes l) (hn : l.length ≤ 2147483647) (r : Bool) (hr : multiP l = r) :
    Calls Try.prog 62 #[.int .u16 0, .slice A l.length c] w fun e w' => e = .returned (.bool r) ∧ Below w.heap.size w w' := by
  have hu := Try.underlying105
  have H := Lib.hid (details_calls A c l w hs hb hn r hr)
  clear hs hb hn hr
  go_enter Try.func62, Try.ntmps62
  go_wp2_with (go_at_call 74; refine H.out.mono ?_; rintro e w1 ⟨⟨a, b, rfl⟩, hB⟩; have HB := Lib.hid hB; clear hB)
  go_ret
  exact ⟨rfl, by with_reducible repeat (first | exact HB.out | refine below_alloc ?_ _)⟩

/-- One token, a push of at most 80 bytes. -/
def oneP (m : List Int) : Bool := decide (0 < m.length) && (match shape m 0 with | none => false | some (wd, cnt) => decide ((m.length : Int) ≤ ((0 + 1 + wd + cnt : Nat) : Int)) && ((small (m.getD 0 0) || decide (m.getD 0 0 ≤ 78)) && decide ((cnt : Int) ≤ 80)))
def nullP (l : List Int) : Bool := decide (1 ≤ l.length) && (rd l 0 == 106 && (decide (l.length = 1) || oneP (l.drop 1)))

set_option maxHeartbeats 4000000 in
set_option maxRecDepth 100000 in
theorem null_short (A : Option Addr) (c : Nat) (l : List Int) (w : World) (hr : Kd.C (Kd.int .u8) w A l.length l) (r : Bool) (h : ¬ (2 ≤ l.length ∧ rd l 0 = 106)) (hr' : nullP l = r) :
    Calls Try.prog 63 #[.int .u16 0, .slice A l.length c] w fun e w' => e = .returned (.bool r) ∧ w = w' := by
  by_cases h0 : l.length = 0
  · have hlt : decide ((l.length : Int) < 1) = true := decide_eq_true (by omega)
    rw [nullP, decide_eq_false (by omega), Bool.false_and] at hr'
    subst hr'
    clear h h0 hr
    go_enter Try.func63, Try.ntmps63
    go_wp2
    go_ret
    exact ⟨rfl, rfl⟩
  · have hlt : decide ((l.length : Int) < 1) = false := decide_eq_false (by omega)
    obtain ⟨ad, ea, z⟩ := Kd.at_int hr 0 (by omega) (by omega)
    subst ea
    replace z : w.cell? ad = some (.int .u8 (rd l 0)) := z
    have b0 : (0 : Int) < (l.length : Int) := by omega
    rw [nullP, decide_eq_true (by omega), Bool.true_and] at hr'
    by_cases hx : rd l 0 = 106
    · have h1 : l.length = 1 := by omega
      have hxb : (rd l 0 != 106) = false := by rw [hx]; rfl
      have h1b : ((l.length : Int) == 1) = true := by rw [h1]; rfl
      have e0 : r = true := by rw [← hr', hx, h1]; rfl
      subst e0
      rw [hx] at z
      clear h h0 hr hr' h1 hx hxb
      go_enter Try.func63, Try.ntmps63
      go_wp2
      go_ret
      exact ⟨rfl, rfl⟩
    · have hxb : (rd l 0 != 106) = true := bne_iff_ne.2 hx
      have e0 : r = false := by rw [← hr', beq_eq_false_iff_ne.2 hx, Bool.false_and]
      subst e0
      generalize rd l 0 = x at z hxb
      clear h h0 hr hr' hx
      go_enter Try.func63, Try.ntmps63
      go_wp2
      go_ret
      exact ⟨rfl, rfl⟩

set_option maxHeartbeats 8000000 in
set_option maxRecDepth 100000 in
theorem null_main (A : Option Addr) (c : Nat) (l : List Int) (w : World) (hs : Kd.V (Kd.int .u8) 5 w w.heap.size (fun _ => True) (.slice A l.length c) l) (hb : Bytes l) (hn : l.length ≤ 2147483647) (r : Bool) (h2 : 2 ≤ l.length) (hx : rd l 0 = 106) (hr : oneP (l.drop 1) = r) :
    Calls Try.prog 63 #[.int .u16 0, .slice A l.length c] w fun e w' => e = .returned (.bool r) ∧ Below w.heap.size w w' := by
  obtain ⟨A2, m2, c2, hm2, hrun, hv⟩ := from_fact .i64 hs 1 (by omega)
  replace hrun : ∀ W', (Instr.slice 22 (.slice A l.length c) (some (.int .i64 1)) none none).run Try.prog W' = .ok (.slice A2 m2 c2) W' := hrun
  obtain ⟨q, hq⟩ : ∃ q, l.drop 1 = q := ⟨_, rfl⟩
  have hbq : Bytes q := by rw [← hq]; exact hb.drop 1
  have hql : q.length = m2 := by rw [← hq, List.length_drop, hm2]
  rw [hq] at hv hr
  subst hql
  have HV0 := Lib.hid (Kd.V_bound hv)
  have HBY := Lib.hid hbq
  have HLN := Lib.hid (show q.length ≤ 2147483647 by omega)
  have HL := Lib.hid (show 0 < q.length by omega)
  have hlt : decide ((l.length : Int) < 1) = false := decide_eq_false (by omega)
  obtain ⟨ad, ea, z⟩ := Kd.at_int (Kd.V_reads' hs).2.2 0 (by omega) (by omega)
  subst ea
  rw [hx] at z
  replace z : w.cell? ad = some (.int .u8 106) := z
  have b0 : (0 : Int) < (l.length : Int) := by omega
  have h1b : ((l.length : Int) == 1) = false := beq_eq_false_iff_ne.2 (by omega)
  have HR := Lib.hid hr
  clear hs hb hn h2 hx hr hv hbq hm2 hq
  go_enter Try.func63, Try.ntmps63
  go_upto_region 8 with (go_at_call 34; refine (make_calls _ _ _ _).mono ?_; rintro e w1 ⟨rfl, hB1⟩; have HB1 := Lib.hid hB1; clear hB1)
  obtain ⟨wr, hwr⟩ : ∃ wr : World, wr = w1.alloc (.cells (cellsT A2 q.length c2 0 (-1) (.pointer none) (.slice none 0 0) .nilIface) 64) := ⟨_, rfl⟩
  have HT := Lib.hid (show Tz wr w1.heap.size A2 q.length c2 ((0 : Nat) : Int) (-1) (.pointer none) (.slice none 0 0) .nilIface from by rw [hwr]; exact blk_new _ _)
  have HB := Lib.hid (show Below w.heap.size w wr from by rw [hwr]; exact below_alloc HB1.out _)
  have hgw : w.heap.size ≤ w1.heap.size := HB1.out.size
  have HPG := Lib.hid (show ∀ k, (True ∧ k < w.heap.size) → k ≠ w1.heap.size from fun k hk => by omega)
  have HV := Lib.hid (show Kd.V (Kd.int .u8) 5 wr wr.heap.size (fun k => True ∧ k < w.heap.size) (.slice A2 q.length c2) q from Kd.V_below HV0.out HB.out)
  have HWR := Lib.hid hwr
  clear hwr
  rw [show w1.alloc (.cells #[Value.slice A2 q.length c2, .int .u16 0, .int .i32 0, .int .i32 (-1), .pointer none, .slice none 0 0, .nilIface] 64) = wr from HWR.out.symm]
  have hr := HR.out
  rw [oneP, decide_eq_true HL.out, Bool.true_and] at hr
  cases hsh : shape q 0 with
  | none =>
    rw [hsh] at hr
    have e0 : r = false := hr.symm
    subst e0
    have HSH := Lib.hid hsh
    clear hsh hr
    go_wp2_with (first | (go_at_call 35; refine (Tok.next_none _ _ _ q _ _ _ _ _ HT.out HLN.out HL.out _ HV.out HPG.out HBY.out HSH.out).mono ?_; rintro e w2 ⟨rfl, hO2, pos2, s2, hT2⟩; have HB2 := Lib.hid (HB.out.trans (hO2.1.mono hgw)); clear hO2 hT2))
    go_ret
    exact ⟨rfl, HB2.out⟩
  | some p =>
    obtain ⟨wd, cnt⟩ := p
    rw [hsh] at hr
    have HSH := Lib.hid hsh
    have hby := HBY.out.getD 0
    have hcl : ((q.drop (0 + 1 + wd)).take cnt).length = cnt := by
      have := shape_fits hsh
      rw [List.length_take, List.length_drop]
      omega
    have HCL := Lib.hid hcl
    simp only [] at hr
    generalize hxx : q.getD 0 0 = x at hr hby
    have HX := Lib.hid hxx
    clear hxx hsh hcl
    obtain ⟨d, hd⟩ : ∃ d, decide ((q.length : Int) ≤ ((0 + 1 + wd + cnt : Nat) : Int)) = d := ⟨_, rfl⟩
    obtain ⟨s, hs⟩ : ∃ s, small x = s := ⟨_, rfl⟩
    obtain ⟨t, ht⟩ : ∃ t, decide (x ≤ 78) = t := ⟨_, rfl⟩
    obtain ⟨u, hu⟩ : ∃ u, decide ((cnt : Int) ≤ 80) = u := ⟨_, rfl⟩
    rw [hd, hs, ht, hu] at hr
    have HD2 := Lib.hid hd
    have HSM := Lib.hid (small_f x hby.1 hby.2 hs)
    have HCU := Lib.hid hu
    clear hd hs hby hu
    cases d <;> cases s <;> cases t <;> cases u <;>
    · subst hr
      go_wp2_with (first | (go_at_call 35; refine (Tok.next_some _ _ _ q _ _ _ _ _ HT.out HLN.out HL.out _ HV.out HPG.out HBY.out _ _ HSH.out).mono ?_; rintro e w2 ⟨rfl, hO2, pos2, go, dv2, hT2, hgo, hg2, hv2⟩; have HB2 := Lib.hid (HB.out.trans (hO2.1.mono hgw)); obtain ⟨Ad, cd, rfl⟩ := Kd.V_slice hv2; rw [HCL.out] at hT2; have HT2 := Lib.hid hT2; rw [HX.out] at hg2; have HG2 := Lib.hid hg2; have hcu := HCU.out; clear hO2 hT2 hgo hg2 hv2) | (go_at_call 50; refine (Tok.done_calls w1.heap.size A2 q.length c2 _ _ _ _ _ (show Tz _ w1.heap.size A2 q.length c2 _ _ _ _ _ from by repeat (first | exact HT2.out | refine blk_drewN ?_ _)) HLN.out _ HD2.out).mono ?_; rintro e w5 ⟨rfl, m5, rfl⟩) | (go_at_call 76; refine (Tok.opcode_calls w1.heap.size A2 q.length c2 _ _ _ _ _ _ _ _ _ (show Tz _ w1.heap.size A2 q.length c2 _ _ _ _ _ from by repeat (first | exact HT2.out | refine blk_drewN ?_ _)) (by repeat (first | exact HG2.out | refine blk_drewN ?_ _))).mono ?_; rintro e w3 ⟨rfl, rfl⟩) | (go_at_call 75; refine (PFnClass.btcdtxscript_IsSmallInt.calls _ _ _ HSM.out).mono ?_; rintro e w4 ⟨rfl, m4, rfl⟩) | (go_at_call 37; refine (Tok.data_calls w1.heap.size A2 q.length c2 _ _ _ _ _ _ (show Tz _ w1.heap.size A2 q.length c2 _ _ _ _ _ from by repeat (first | exact HT2.out | refine blk_drewN ?_ _))).mono ?_; rintro e w7 ⟨rfl, rfl⟩))
      go_ret
      exact ⟨rfl, by with_reducible repeat (first | exact HB2.out | refine pw_below_drewN ?_ _)⟩
theorem isNull_calls (A : Option Addr) (c : Nat) (l : List Int) (w : World) (hs : Kd.V (Kd.int .u8) 5 w w.heap.size (fun _ => True) (.slice A l.length c) l) (hb : Bytes l) (hn : l.length ≤ 2147483647) (r : Bool) (hr : nullP l = r) :
    Calls Try.prog 63 #[.int .u16 0, .slice A l.length c] w fun e w' => e = .returned (.bool r) ∧ Below w.heap.size w w' := by
  by_cases h : 2 ≤ l.length ∧ rd l 0 = 106
  · refine null_main A c l w hs hb hn r h.1 h.2 ?_
    rw [← hr, nullP, decide_eq_true (by omega), Bool.true_and, h.2, beq_self_eq_true, Bool.true_and, decide_eq_false (by omega), Bool.false_or]
  · refine (null_short A c l w (Kd.V_reads' hs).2.2 r h hr).mono ?_
    rintro e w' ⟨rfl, rfl⟩
    exact ⟨rfl, Below.refl _ _⟩
end Go.Proofs.Ytafpmdmmeohmfaa.Tok
