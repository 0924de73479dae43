/-
  The count of signature checks. Printed by wip/gen/sigops.py.
-/
import Derived.Test.YtmebcbmnfnlihaaTokMake
namespace Go.Proofs.Ytmebcbmnfnlihaa.Tok
open Go.RowKit Go.Proofs.YtmebcbmnfnlihaaW.PrintWords Go.Proofs.YtmebcbmnfnlihaaW.PrintLast

/-- What an opcode counts. -/
def opOps (x : Int) : Int := if x = 172 ∨ x = 173 then 1 else if x = 174 ∨ x = 175 then 20 else 0
def sumOps : List T → Int
  | [] => 0
  | t :: ts => opOps t.op + sumOps ts
theorem opOps_range (x : Int) : 0 ≤ opOps x ∧ opOps x ≤ 20 := by
  unfold opOps
  split
  · omega
  · split <;> omega
theorem sumOps_range : ∀ ts : List T, 0 ≤ sumOps ts ∧ sumOps ts ≤ 20 * ts.length
  | [] => by simp [sumOps]
  | t :: ts => by
    have h1 := opOps_range t.op
    have h2 := sumOps_range ts
    simp only [sumOps, List.length_cons]
    omega
theorem Cut.len {l : List Int} {at_ : Nat} {ts : List T} {b : Int} (h : Cut l at_ ts b) : ts.length + at_ ≤ max at_ l.length := by
  induction h with
  | done => simp; omega
  | bad => simp; omega
  | step h1 _ _ ih => simp only [List.length_cons]; omega

set_option maxHeartbeats 8000000 in
set_option maxRecDepth 100000 in
theorem count_calls (A : Option Addr) (c : Nat) (l : List Int) (w : World) (hs : Kd.V (Kd.int .u8) 5 w w.heap.size (fun _ => True) (.slice A l.length c) l) (hb : Bytes l) (hn : l.length ≤ 2147483647)
    (r : Int) (hr : sumOps (tokens l).1 = r) :
    Calls Try.prog 94 #[.slice A l.length c, .bool false] w fun e w' => e = .returned (.int .i64 r) ∧ Below w.heap.size w w' := by
  have HV0 := Lib.hid (Kd.V_bound hs)
  have HBY := Lib.hid hb
  have HLN := Lib.hid hn
  have HC0 := Lib.hid (tokens_cut l)
  have hlen := (tokens_cut l).len
  have hrg := sumOps_range (tokens l).1
  generalize (tokens l).1 = ts0 at HC0 hr hlen hrg
  generalize (tokens l).2 = bad at HC0
  have HR := Lib.hid hr
  have HRG := Lib.hid (show 0 ≤ r ∧ r ≤ 42949672940 from by omega)
  clear hs hb hn hr hlen hrg
  go_enter Try.func94, Try.ntmps94
  go_wp2_with (go_at_call 58; refine (make_calls _ _ _ _).mono ?_; rintro e w1 ⟨rfl, hB1⟩; have HB1 := Lib.hid hB1; clear hB1)
  go_loopg [5, 7] (ts0.length + 1) (fun kq v5 v7 w' => ∃ (off : Nat) (n : Int) (ts : List T) (pos : Int) (opv dv : Value) (x : Int), ts.length < kq ∧ v5 = .int .i64 n ∧ v7 = .int .u8 x ∧ Hid (Cut l off ts bad) ∧ Hid (n + sumOps ts = r) ∧ Hid (0 ≤ n) ∧ Hid (Tz w' w1.heap.size A l.length c off pos opv dv .nilIface) ∧ Hid (Below w.heap.size w w'))
  case atStart => exact ⟨0, 0, ts0, -1, _, _, 255, Nat.lt_succ_self _, rfl, rfl, HC0, Lib.hid (by have := HR.out; omega), Lib.hid (Int.le_refl 0), Lib.hid (blk_new _ _), Lib.hid (below_alloc HB1.out _)⟩
  case round =>
    obtain ⟨off, n, ts', pos, opv, dv, xp, hk, rfl, rfl, HC, HS, HN, HT, HB⟩ := hrel
    have hgw : w.heap.size ≤ w1.heap.size := HB1.out.size
    have HV := Lib.hid (show Kd.V (Kd.int .u8) 5 wr wr.heap.size (fun k => True ∧ k < w.heap.size) (.slice A l.length c) l from Kd.V_below HV0.out HB.out)
    have HPG := Lib.hid (show ∀ k, (True ∧ k < w.heap.size) → k ≠ w1.heap.size from fun k hk => by omega)
    cases gk with
    | zero => omega
    | succ k =>
      generalize hbe : bad = bad' at HC
      cases HC.out with
      | done h1 =>
        subst hbe
        have HD := Lib.hid (show (l.length : Int) ≤ (off : Int) from by omega)
        have e0 : n = r := by have := HS.out; simp only [sumOps] at this; omega
        subst e0
        clear h1
        go_wp2_with (go_at_call 59; refine (next_end _ _ _ _ _ _ _ _ _ HT.out HLN.out HD.out).mono ?_; rintro e w2 ⟨rfl, m, rfl⟩)
        go_ret
        exact ⟨rfl, pw_below_drewN HB.out _⟩
      | bad h1 h2 =>
        subst hbe
        have HL := Lib.hid h1
        have HSH := Lib.hid h2
        have e0 : n = r := by have := HS.out; simp only [sumOps] at this; omega
        subst e0
        clear h1 h2
        go_wp2_with (go_at_call 59; refine (next_none _ _ _ l off pos opv dv _ HT.out HLN.out HL.out _ HV.out HPG.out HBY.out HSH.out).mono ?_; rintro e w2 ⟨rfl, hO2, _⟩; have HO2 := Lib.hid hO2; clear hO2)
        go_ret
        exact ⟨rfl, HB.out.trans (HO2.out.1.mono hgw)⟩
      | @step _ wd cnt ts _ h1 h2 h3 =>
        subst hbe
        have HL := Lib.hid h1
        have HSH := Lib.hid h2
        have HC2 := Lib.hid h3
        have HK2 : ts.length < k := by simp only [List.length_cons] at hk; omega
        have hx : l.getD off 0 = l.getD off 0 := rfl
        have HS1 := Lib.hid (show n + (opOps (l.getD off 0) + sumOps ts) = r from HS.out)
        have HSR := Lib.hid (sumOps_range ts)
        clear h1 h2 h3 hk HC HS
        obtain ⟨x, hxx⟩ : ∃ x, l.getD off 0 = x := ⟨_, rfl⟩
        have HX := Lib.hid hxx
        clear hx hxx
        by_cases a1 : x = 172 ∨ x = 173
        · have HS2 := Lib.hid (show (n + 1) + sumOps ts = r from by have := HS1.out; rw [HX.out, opOps, if_pos a1] at this; omega)
          rcases a1 with rfl | rfl
          · go_wp2_with (first | (go_at_call 59; refine (next_some _ _ _ l off pos opv dv _ HT.out HLN.out HL.out _ HV.out HPG.out HBY.out _ _ HSH.out).mono ?_; rintro e w2 ⟨rfl, hO2, pos2, go, dv2, hT2, hgo, hg2, hv2⟩; have HB2 := Lib.hid (HB.out.trans (hO2.1.mono hgw)); have HT2 := Lib.hid hT2; rw [HX.out] at hg2; have HG2 := Lib.hid hg2; clear hO2 hT2 hgo hg2 hv2) | (go_at_call 60; refine (opcode_calls _ _ _ _ _ _ _ _ _ _ _ _ _ HT2.out HG2.out).mono ?_; rintro e w3 ⟨rfl, rfl⟩))
            go_roundg k
            case measure => omega
            case rel => exact ⟨_, n + 1, ts, _, _, _, _, HK2, by first | rfl | (rw [wrap64_id (by have := HN.out; omega) (by have := HN.out; have := HS2.out; have := HRG.out; have := HSR.out; omega)]), rfl, HC2, HS2, Lib.hid (by have := HN.out; omega), HT2, HB2⟩
          · go_wp2_with (first | (go_at_call 59; refine (next_some _ _ _ l off pos opv dv _ HT.out HLN.out HL.out _ HV.out HPG.out HBY.out _ _ HSH.out).mono ?_; rintro e w2 ⟨rfl, hO2, pos2, go, dv2, hT2, hgo, hg2, hv2⟩; have HB2 := Lib.hid (HB.out.trans (hO2.1.mono hgw)); have HT2 := Lib.hid hT2; rw [HX.out] at hg2; have HG2 := Lib.hid hg2; clear hO2 hT2 hgo hg2 hv2) | (go_at_call 60; refine (opcode_calls _ _ _ _ _ _ _ _ _ _ _ _ _ HT2.out HG2.out).mono ?_; rintro e w3 ⟨rfl, rfl⟩))
            go_roundg k
            case measure => omega
            case rel => exact ⟨_, n + 1, ts, _, _, _, _, HK2, by first | rfl | (rw [wrap64_id (by have := HN.out; omega) (by have := HN.out; have := HS2.out; have := HRG.out; have := HSR.out; omega)]), rfl, HC2, HS2, Lib.hid (by have := HN.out; omega), HT2, HB2⟩
        · by_cases a2 : x = 174 ∨ x = 175
          · have HS2 := Lib.hid (show (n + 20) + sumOps ts = r from by have := HS1.out; rw [HX.out, opOps, if_neg a1, if_pos a2] at this; omega)
            rcases a2 with rfl | rfl
            · clear a1
              go_wp2_with (first | (go_at_call 59; refine (next_some _ _ _ l off pos opv dv _ HT.out HLN.out HL.out _ HV.out HPG.out HBY.out _ _ HSH.out).mono ?_; rintro e w2 ⟨rfl, hO2, pos2, go, dv2, hT2, hgo, hg2, hv2⟩; have HB2 := Lib.hid (HB.out.trans (hO2.1.mono hgw)); have HT2 := Lib.hid hT2; rw [HX.out] at hg2; have HG2 := Lib.hid hg2; clear hO2 hT2 hgo hg2 hv2) | (go_at_call 60; refine (opcode_calls _ _ _ _ _ _ _ _ _ _ _ _ _ HT2.out HG2.out).mono ?_; rintro e w3 ⟨rfl, rfl⟩))
              go_roundg k
              case measure => omega
              case rel => exact ⟨_, n + 20, ts, _, _, _, _, HK2, by first | rfl | (rw [wrap64_id (by have := HN.out; omega) (by have := HN.out; have := HS2.out; have := HRG.out; have := HSR.out; omega)]), rfl, HC2, HS2, Lib.hid (by have := HN.out; omega), HT2, HB2⟩
            · clear a1
              go_wp2_with (first | (go_at_call 59; refine (next_some _ _ _ l off pos opv dv _ HT.out HLN.out HL.out _ HV.out HPG.out HBY.out _ _ HSH.out).mono ?_; rintro e w2 ⟨rfl, hO2, pos2, go, dv2, hT2, hgo, hg2, hv2⟩; have HB2 := Lib.hid (HB.out.trans (hO2.1.mono hgw)); have HT2 := Lib.hid hT2; rw [HX.out] at hg2; have HG2 := Lib.hid hg2; clear hO2 hT2 hgo hg2 hv2) | (go_at_call 60; refine (opcode_calls _ _ _ _ _ _ _ _ _ _ _ _ _ HT2.out HG2.out).mono ?_; rintro e w3 ⟨rfl, rfl⟩))
              go_roundg k
              case measure => omega
              case rel => exact ⟨_, n + 20, ts, _, _, _, _, HK2, by first | rfl | (rw [wrap64_id (by have := HN.out; omega) (by have := HN.out; have := HS2.out; have := HRG.out; have := HSR.out; omega)]), rfl, HC2, HS2, Lib.hid (by have := HN.out; omega), HT2, HB2⟩
          · have HS2 := Lib.hid (show n + sumOps ts = r from by have := HS1.out; rw [HX.out, opOps, if_neg a1, if_neg a2] at this; omega)
            have c1 : (x == 172) = false := beq_eq_false_iff_ne.2 (fun h => a1 (.inl h))
            have c2 : (x == 173) = false := beq_eq_false_iff_ne.2 (fun h => a1 (.inr h))
            have c3 : (x == 174) = false := beq_eq_false_iff_ne.2 (fun h => a2 (.inl h))
            have c4 : (x == 175) = false := beq_eq_false_iff_ne.2 (fun h => a2 (.inr h))
            clear a1 a2
            go_wp2_with (first | (go_at_call 59; refine (next_some _ _ _ l off pos opv dv _ HT.out HLN.out HL.out _ HV.out HPG.out HBY.out _ _ HSH.out).mono ?_; rintro e w2 ⟨rfl, hO2, pos2, go, dv2, hT2, hgo, hg2, hv2⟩; have HB2 := Lib.hid (HB.out.trans (hO2.1.mono hgw)); have HT2 := Lib.hid hT2; rw [HX.out] at hg2; have HG2 := Lib.hid hg2; clear hO2 hT2 hgo hg2 hv2) | (go_at_call 60; refine (opcode_calls _ _ _ _ _ _ _ _ _ _ _ _ _ HT2.out HG2.out).mono ?_; rintro e w3 ⟨rfl, rfl⟩))
            go_roundg k
            case measure => omega
            case rel => exact ⟨_, n, ts, _, _, _, _, HK2, by first | rfl | (rw [wrap64_id (by have := HN.out; omega) (by have := HN.out; have := HS2.out; have := HRG.out; have := HSR.out; omega)]), rfl, HC2, HS2, Lib.hid (by have := HN.out; omega), HT2, HB2⟩

theorem get_calls (A : Option Addr) (c : Nat) (l : List Int) (w : World) (hs : Kd.V (Kd.int .u8) 5 w w.heap.size (fun _ => True) (.slice A l.length c) l) (hb : Bytes l) (hn : l.length ≤ 2147483647)
    (r : Int) (hr : sumOps (tokens l).1 = r) :
    Calls Try.prog 64 #[.slice A l.length c] w fun e w' => e = .returned (.int .i64 r) ∧ Below w.heap.size w w' := by
  have H := Lib.hid (count_calls A c l w hs hb hn r hr)
  clear hs hb hn hr
  go_enter Try.func64, Try.ntmps64
  go_wp2_with (go_at_call 94; refine H.out.mono ?_; rintro e w1 ⟨rfl, hB1⟩; have HB1 := Lib.hid hB1; clear hB1)
  go_ret
  exact ⟨rfl, HB1.out⟩
theorem sigops_calls (A : Option Addr) (c : Nat) (l : List Int) (w : World) (hs : Kd.V (Kd.int .u8) 5 w w.heap.size (fun _ => True) (.slice A l.length c) l) (hb : Bytes l) (hn : l.length ≤ 2147483647)
    (r : Int) (hr : sumOps (tokens l).1 = r) :
    Calls Try.prog 27 #[.slice A l.length c] w fun e w' => e = .returned (.int .i64 r) ∧ Below w.heap.size w w' := by
  have H := Lib.hid (get_calls A c l w hs hb hn r hr)
  clear hs hb hn hr
  go_enter Try.func27, Try.ntmps27
  go_wp2_with (go_at_call 64; refine H.out.mono ?_; rintro e w1 ⟨rfl, hB1⟩; have HB1 := Lib.hid hB1; clear hB1)
  go_ret
  exact ⟨rfl, HB1.out⟩
end Go.Proofs.Ytmebcbmnfnlihaa.Tok
