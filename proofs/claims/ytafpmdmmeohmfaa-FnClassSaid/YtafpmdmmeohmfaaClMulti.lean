/-
  The walk of the function that reads a script that pays many. Printed by wip/gen/clmulti.py.
-/
import Derived.Test.YtafpmdmmeohmfaaTokMake
import Derived.Test.YtafpmdmmeohmfaaQFnClassx7
namespace Go.Proofs.Ytafpmdmmeohmfaa.Tok
open Go.RowKit Go.Proofs.YtafpmdmmeohmfaaW.PrintWords Go.Proofs.YtafpmdmmeohmfaaW.PrintLast
set_option linter.unusedVariables false
set_option linter.unusedSimpArgs false

theorem Only.keep {g k : Nat} {w w' : World} {cs : Array Value} {t : Nat} {fz : Nat × Nat} (h : Only g w w') (hk : k ≠ g) (hb : w.heap[k]? = some (.cells cs t fz)) : w'.heap[k]? = some (.cells cs t fz) := (h.2.2 k (blk_lt hb) hk (by intro h; cases h)).trans hb

def small (x : Int) : Bool := x == 0 || (decide (81 ≤ x) && decide (x ≤ 96))
def smallV (x : Int) : Int := if x = 0 then 0 else x - 80
theorem small_f (x : Int) (h0 : 0 ≤ x) (h1 : x < 256) {b : Bool} (h : small x = b) : PFnClass.btcdtxscript_IsSmallInt.f x = some b := by
  unfold PFnClass.btcdtxscript_IsSmallInt.f
  rw [← h, small]
  by_cases e0 : x = 0
  · rw [if_pos e0, e0]; rfl
  · rw [if_neg e0, beq_eq_false_iff_ne.2 e0, Bool.false_or]
    by_cases e1 : x ≥ 81
    · rw [if_pos e1, decide_eq_true e1, Bool.true_and]
    · rw [if_neg e1, decide_eq_false e1, Bool.false_and]
theorem smallV_f (x : Int) (h : small x = true) : PFnClass.btcdtxscript_AsSmallInt.f x = some (smallV x) := by
  unfold PFnClass.btcdtxscript_AsSmallInt.f smallV
  by_cases e0 : x = 0
  · rw [if_pos e0, if_pos e0]
  · rw [if_neg e0, if_neg e0]
    have h' : 81 ≤ x ∧ x ≤ 96 := by
      rw [small, beq_eq_false_iff_ne.2 e0, Bool.false_or] at h
      simpa using h
    congr 1
    omega
theorem small_shape {l : List Int} {off wd cnt : Nat} (h : shape l off = some (wd, cnt)) (hs : small (l.getD off 0) = true) : wd = 0 ∧ cnt = 0 := by
  have h' : l.getD off 0 = 0 ∨ (81 ≤ l.getD off 0 ∧ l.getD off 0 ≤ 96) := by
    rw [small] at hs
    simpa using hs
  rw [shape_plain (by omega)] at h
  injection h with h
  injection h with h1 h2
  exact ⟨h1.symm, h2.symm⟩

theorem Cut.len2 {l : List Int} {at_ : Nat} {ts : List T} {b : Int} (h : Cut l at_ ts b) : ts.length + at_ ≤ max at_ l.length := by
  induction h with
  | done => simp; omega
  | bad => simp; omega
  | step h1 _ _ ih => simp only [List.length_cons]; omega
/-- What the walk through the keys answers. -/
def scanM (len : Nat) : List T → Int → Bool
  | [], _ => false
  | t :: ts, n => if small t.op then smallV t.op == n && decide (t.at_ + 2 = len) else scanM len ts (n + 1)
def multiP (l : List Int) : Bool := decide (3 ≤ l.length) && (rd l (l.length - 1) == 174) && (match (tokens l).1 with | [] => false | t :: ts => small t.op && scanM l.length ts 0)

set_option maxRecDepth 100000 in
theorem done_err_calls (g : Nat) (A : Option Addr) (n c : Nat) (off pos : Int) (opv dv : Value) (s : ByteArray) (w : World) (h : Tz w g A n c off pos opv dv (.iface 77 (.agg #[.int .i64 27, .string s]))) :
    Calls Try.prog 50 #[.pointer (some ⟨g, 0, none⟩)] w fun e w' => e = .returned (.bool true) ∧ Drawn0 w w' := by
  have z6 := h.c6
  clear h
  have q62 : ∀ w : World, (binOp .neq 42 (.iface 77 (.agg #[.int .i64 27, .string s])) .nilIface).run Try.prog w = .ok (.bool true) w := fun w => by kernel_rfl
  go_enter Try.func50, Try.ntmps50
  go_wp2
  go_quiet (fail)
  go_wp2
  go_ret
  exact ⟨rfl, Drawn0.step (Drawn0.refl _) _⟩
theorem script_calls (g : Nat) (A : Option Addr) (n c : Nat) (off pos : Int) (opv dv err : Value) (w : World) (h : Tz w g A n c off pos opv dv err) :
    Calls Try.prog 83 #[.pointer (some ⟨g, 0, none⟩)] w fun e w' => e = .returned (.slice A n c) ∧ w = w' := by
  have z0 := h.c0
  clear h
  go_enter Try.func83, Try.ntmps83
  go_wp2
  go_ret
  exact ⟨rfl, rfl⟩
theorem strict_some (k : Nat) (l : List Int) : ∃ r, PFnClass.btcdtxscript_isStrictPubKeyEncoding.f (k + 1) l = some r := by
  unfold PFnClass.btcdtxscript_isStrictPubKeyEncoding.f PFnClass.btcdtxscript_isStrictPubKeyEncoding.j0
  repeat' split
  all_goals first | exact ⟨_, rfl⟩ | (exfalso; omega)

theorem Tz.drewN {w : World} {g : Nat} {A : Option Addr} {n c : Nat} {off pos : Int} {opv dv err : Value} (h : Tz w g A n c off pos opv dv err) (m : Nat) : Tz (w.drewN m) g A n c off pos opv dv err := blk_drewN h m
theorem put4 {w : World} {g t : Nat} {c0 c1 c2 c3 : Value} (h : w.heap[g]? = some (.cells #[c0, c1, c2, c3] t (0, 0))) (v0 v1 v2 v3 : Value) :
    ((((w.setCell ⟨g, 0, none⟩ v0).setCell ⟨g, 1, none⟩ v1).setCell ⟨g, 2, none⟩ v2).setCell ⟨g, 3, none⟩ v3).heap[g]? = some (.cells #[v0, v1, v2, v3] t (0, 0)) :=
  blk_put (blk_put (blk_put (blk_put h 0 _ rfl) 1 _ rfl) 2 _ rfl) 3 _ rfl
def kz : Array Value := #[.int .i64 0, .int .i64 0, .slice none 0 0, .bool false]
set_option maxHeartbeats 8000000 in
set_option maxRecDepth 100000 in
theorem details_short (A : Option Addr) (c : Nat) (l : List Int) (w : World) (h : (l.length : Int) < 3) :
    Calls Try.prog 74 #[.int .u16 0, .slice A l.length c, .bool false] w fun e w' => (∃ a b, e = .returned (.agg #[.int .i64 a, .int .i64 b, .slice none 0 0, .bool false])) ∧ Below w.heap.size w w' := by
  have hu := Try.underlying105
  have hlt : decide ((l.length : Int) < 3) = true := decide_eq_true h
  clear h
  go_enter Try.func74, Try.ntmps74
  go_wp2
  refine bodyPost_ret (results_cell_row rfl _ _ w.heap.size 105 kz (0, 0) _ rfl (blk_new _ _) hu rfl (by kernel_rfl)) rfl ?_
  exact ⟨⟨_, _, rfl⟩, below_alloc (Below.refl _ _) _⟩
set_option maxHeartbeats 8000000 in
set_option maxRecDepth 100000 in
theorem details_last (A : Option Addr) (c : Nat) (l : List Int) (w : World) (hr : Kd.C (Kd.int .u8) w A l.length l) (h : 3 ≤ l.length) (hn : l.length ≤ 2147483647) (hx : rd l ((l.length : Int) - 1) ≠ 174) :
    Calls Try.prog 74 #[.int .u16 0, .slice A l.length c, .bool false] w fun e w' => (∃ a b, e = .returned (.agg #[.int .i64 a, .int .i64 b, .slice none 0 0, .bool false])) ∧ Below w.heap.size w w' := by
  have hu := Try.underlying105
  obtain ⟨ix, hix⟩ : ∃ ix : Int, wrap64 ((l.length : Int) - 1) = ix := ⟨_, rfl⟩
  have hixe : ix = (l.length : Int) - 1 := by rw [← hix]; exact wrap64_id (by omega) (by omega)
  obtain ⟨ad, ea, z⟩ := Kd.at_int hr ix (by omega) (by omega)
  subst ea
  rw [← hixe] at hx
  have z' : ∀ o, (w.alloc o).cell? (ad.add ix.toNat) = some (.int .u8 (rd l ix)) := fun o => by
    obtain ⟨ad', e', z'⟩ := Kd.at_int (Kd.C_alloc hr o) ix (by omega) (by omega)
    cases e'
    exact z'
  have hne : (rd l ix != 174) = true := bne_iff_ne.2 hx
  generalize rd l ix = x at z' hne
  have p1 : (0 ≤ ix) = True := eq_true (by omega)
  have p2 : (ix < (l.length : Int)) = True := eq_true (by omega)
  have hlt : decide ((l.length : Int) < 3) = false := decide_eq_false (by omega)
  clear h hn hx z hr hixe
  go_enter Try.func74, Try.ntmps74
  go_wp2
  refine bodyPost_ret (results_cell_row rfl _ _ w.heap.size 105 kz (0, 0) _ rfl (blk_new _ _) hu rfl (by kernel_rfl)) rfl ?_
  exact ⟨⟨_, _, rfl⟩, below_alloc (Below.refl _ _) _⟩
set_option maxHeartbeats 16000000 in
set_option maxRecDepth 100000 in
theorem details_main (A : Option Addr) (c : Nat) (l : List Int) (w : World) (hs : Kd.V (Kd.int .u8) 5 w w.heap.size (fun _ => True) (.slice A l.length c) l) (hb : Bytes l) (h : 3 ≤ l.length) (hn : l.length ≤ 2147483647) (hx : rd l ((l.length : Int) - 1) = 174)
    (r : Bool) (hr : (match (tokens l).1 with | [] => false | t :: ts => small t.op && scanM l.length ts 0) = r) :
    Calls Try.prog 74 #[.int .u16 0, .slice A l.length c, .bool false] w fun e w' => (∃ a b, e = .returned (.agg #[.int .i64 a, .int .i64 b, .slice none 0 0, .bool r])) ∧ Below w.heap.size w w' := by
  have hu := Try.underlying105
  have HV0 := Lib.hid (Kd.V_bound hs)
  have HBY := Lib.hid hb
  have HLN := Lib.hid hn
  have HC0 := Lib.hid (tokens_cut l)
  have hlen := (tokens_cut l).len2
  generalize (tokens l).1 = ts0 at HC0 hr hlen
  generalize (tokens l).2 = bad at HC0
  have HR := Lib.hid hr
  have HTL := Lib.hid (show ts0.length ≤ 2147483647 from by omega)
  obtain ⟨ix, hix⟩ : ∃ ix : Int, wrap64 ((l.length : Int) - 1) = ix := ⟨_, rfl⟩
  have hixe : ix = (l.length : Int) - 1 := by rw [← hix]; exact wrap64_id (by omega) (by omega)
  obtain ⟨ad, ea, z⟩ := Kd.at_int (Kd.V_reads' hs).2.2 ix (by omega) (by omega)
  subst ea
  rw [← hixe] at hx
  have z' : ∀ o, (w.alloc o).cell? (ad.add ix.toNat) = some (.int .u8 174) := fun o => by
    obtain ⟨ad', e', z'⟩ := Kd.at_int (Kd.C_alloc (Kd.V_reads' hs).2.2 o) ix (by omega) (by omega)
    cases e'
    rw [hx] at z'
    exact z'
  have p1 : (0 ≤ ix) = True := eq_true (by omega)
  have p2 : (ix < (l.length : Int)) = True := eq_true (by omega)
  have hlt : decide ((l.length : Int) < 3) = false := decide_eq_false (by omega)
  have HL0 := Lib.hid (show 0 < l.length by omega)
  clear h hn hx z hs hixe hb hr hlen
  go_enter Try.func74, Try.ntmps74
  go_upto_region 6 with (go_at_call 34; refine (make_calls _ _ _ _).mono ?_; rintro e w1 ⟨rfl, hB1⟩; have HB1 := Lib.hid (below_step (below_alloc (Below.refl _ _) _) hB1); have HKZ1 := Lib.hid (blk_below (blk_new w _) hB1); have hgl := blk_lt HKZ1.out; clear hB1)
  generalize hbe : bad = bad' at HC0
  obtain ⟨wr, hwr⟩ : ∃ wr : World, wr = w1.alloc (.cells (cellsT (some ad) l.length c 0 (-1) (.pointer none) (.slice none 0 0) .nilIface) 64) := ⟨_, rfl⟩
  have HT := Lib.hid (show Tz wr w1.heap.size (some ad) l.length c ((0 : Nat) : Int) (-1) (.pointer none) (.slice none 0 0) .nilIface from by rw [hwr]; exact blk_new _ _)
  have HKZ := Lib.hid (show wr.heap[w.heap.size]? = some (.cells #[.int .i64 0, .int .i64 0, .slice none 0 0, .bool false] 105 (0, 0)) from by rw [hwr]; exact blk_alloc HKZ1.out _)
  have HB := Lib.hid (show Below w.heap.size w wr from by rw [hwr]; exact below_alloc HB1.out _)
  have hgw : w.heap.size ≤ w1.heap.size := Nat.le_of_lt hgl
  have hgn : w.heap.size ≠ w1.heap.size := Nat.ne_of_lt hgl
  have HPG := Lib.hid (show ∀ k, (True ∧ k < w.heap.size) → k ≠ w1.heap.size from fun k hk => by omega)
  have HV := Lib.hid (show Kd.V (Kd.int .u8) 5 wr wr.heap.size (fun k => True ∧ k < w.heap.size) (.slice (some ad) l.length c) l from Kd.V_below HV0.out HB.out)
  have HWR := Lib.hid hwr
  clear hwr hgl
  cases HC0.out with
  | done h1 => exact absurd HL0.out (by omega)
  | bad h1 h2 =>
    have HL := Lib.hid h1
    have HSH := Lib.hid h2
    have e0 : r = false := HR.out.symm
    subst e0
    clear h1 h2
    rw [show w1.alloc (.cells #[Value.slice (some ad) l.length c, .int .u16 0, .int .i32 0, .int .i32 (-1), .pointer none, .slice none 0 0, .nilIface] 64) = wr from HWR.out.symm]
    go_wp2_with (first | (go_at_call 35; refine (Tok.next_none _ _ _ l _ _ _ _ _ HT.out HLN.out HL.out _ HV.out HPG.out HBY.out HSH.out).mono ?_; rintro e w2 ⟨rfl, hO2, pos2, s2, hT2⟩; have HB2 := Lib.hid (HB.out.trans (hO2.1.mono hgw)); have HT2 := Lib.hid hT2; have HK2 := Lib.hid (hO2.keep hgn HKZ.out); clear hO2 hT2; have k0 : w2.cell? ⟨w.heap.size, 0, none⟩ = some (.int .i64 0) := (blk_cell HK2.out 0).trans rfl; have k1 : w2.cell? ⟨w.heap.size, 1, none⟩ = some (.int .i64 0) := (blk_cell HK2.out 1).trans rfl; have k2 : w2.cell? ⟨w.heap.size, 2, none⟩ = some (.slice none 0 0) := (blk_cell HK2.out 2).trans rfl; have k3 : w2.cell? ⟨w.heap.size, 3, none⟩ = some (.bool false) := (blk_cell HK2.out 3).trans rfl; have kf : ∀ i, w2.frozen? ⟨w.heap.size, i, none⟩ = false := fun i => blk_frozen HK2.out i))
    refine bodyPost_ret (results_cell_row rfl _ _ w.heap.size 105 #[.int .i64 0, .int .i64 0, .slice none 0 0, .bool false] (0, 0) _ rfl (by with_reducible (first | exact put4 HK2.out _ _ _ _ | exact put4 (blk_drewN HK2.out _) _ _ _ _ | exact put4 (blk_drewN (blk_drewN HK2.out _) _) _ _ _ _ | exact put4 (blk_drewN (blk_drewN (blk_drewN HK2.out _) _) _) _ _ _ _ | exact put4 (blk_drewN (blk_drewN (blk_drewN (blk_drewN HK2.out _) _) _) _) _ _ _ _ | exact put4 (blk_drewN (blk_drewN (blk_drewN (blk_drewN (blk_drewN HK2.out _) _) _) _) _) _ _ _ _ | exact put4 (blk_drewN (blk_drewN (blk_drewN (blk_drewN (blk_drewN (blk_drewN HK2.out _) _) _) _) _) _) _ _ _ _ | exact put4 (blk_drewN (blk_drewN (blk_drewN (blk_drewN (blk_drewN (blk_drewN (blk_drewN HK2.out _) _) _) _) _) _) _) _ _ _ _)) hu rfl (by kernel_rfl)) rfl ?_
    exact ⟨⟨_, _, rfl⟩, by repeat (first | with_reducible exact HB2.out | refine below_set ?_ (Nat.le_refl _) | apply pw_below_drewN)⟩
  | @step _ wd cnt ts _ h1 h2 h3 =>
    have HL := Lib.hid h1
    have HSH := Lib.hid h2
    have HC2 := Lib.hid h3
    have HTS := Lib.hid (show ts.length ≤ 2147483646 from by have := HTL.out; simp only [List.length_cons] at this; omega)
    have hr' : (small (l.getD 0 0) && scanM l.length ts 0) = r := HR.out
    have hby := HBY.out.getD 0
    have hs0 := fun hs => small_shape h2 hs
    generalize hx : l.getD 0 0 = x at hr' hby hs0
    have HX := Lib.hid hx
    clear h1 h2 h3 hx HC0 HR HTL
    rw [show w1.alloc (.cells #[Value.slice (some ad) l.length c, .int .u16 0, .int .i32 0, .int .i32 (-1), .pointer none, .slice none 0 0, .nilIface] 64) = wr from HWR.out.symm]
    cases hsx : small x with
    | false =>
      have HSM := Lib.hid (small_f x hby.1 hby.2 hsx)
      have e0 : r = false := by rw [← hr', hsx]; rfl
      subst e0
      clear hr' hby hsx hs0
      go_wp2_with (first | (go_at_call 35; refine (Tok.next_some _ _ _ l _ _ _ _ _ HT.out HLN.out HL.out _ HV.out HPG.out HBY.out _ _ HSH.out).mono ?_; rintro e w2 ⟨rfl, hO2, pos2, go, dv2, hT2, hgo, hg2, hv2⟩; have HB2 := Lib.hid (HB.out.trans (hO2.1.mono hgw)); have HT2 := Lib.hid hT2; have HK2 := Lib.hid (hO2.keep hgn HKZ.out); rw [HX.out] at hg2; have HG2 := Lib.hid hg2; have HV2 := Lib.hid hv2; have HB3 := Lib.hid hO2.1; clear hO2 hT2 hgo hg2 hv2; have k0 : w2.cell? ⟨w.heap.size, 0, none⟩ = some (.int .i64 0) := (blk_cell HK2.out 0).trans rfl; have k1 : w2.cell? ⟨w.heap.size, 1, none⟩ = some (.int .i64 0) := (blk_cell HK2.out 1).trans rfl; have k2 : w2.cell? ⟨w.heap.size, 2, none⟩ = some (.slice none 0 0) := (blk_cell HK2.out 2).trans rfl; have k3 : w2.cell? ⟨w.heap.size, 3, none⟩ = some (.bool false) := (blk_cell HK2.out 3).trans rfl; have kf : ∀ i, w2.frozen? ⟨w.heap.size, i, none⟩ = false := fun i => blk_frozen HK2.out i) | (go_at_call 76; refine (Tok.opcode_calls w1.heap.size (some ad) l.length c _ _ _ _ _ _ _ _ _ (show Tz _ w1.heap.size (some ad) l.length c _ _ _ _ _ from by repeat (first | exact HT2.out | refine blk_drewN ?_ _)) (by repeat (first | exact HG2.out | refine blk_drewN ?_ _))).mono ?_; rintro e w3 ⟨rfl, rfl⟩) | (go_at_call 75; refine (PFnClass.btcdtxscript_IsSmallInt.calls _ _ _ HSM.out).mono ?_; rintro e w4 ⟨rfl, m4, rfl⟩))
      refine bodyPost_ret (results_cell_row rfl _ _ w.heap.size 105 #[.int .i64 0, .int .i64 0, .slice none 0 0, .bool false] (0, 0) _ rfl (by with_reducible (first | exact put4 HK2.out _ _ _ _ | exact put4 (blk_drewN HK2.out _) _ _ _ _ | exact put4 (blk_drewN (blk_drewN HK2.out _) _) _ _ _ _ | exact put4 (blk_drewN (blk_drewN (blk_drewN HK2.out _) _) _) _ _ _ _ | exact put4 (blk_drewN (blk_drewN (blk_drewN (blk_drewN HK2.out _) _) _) _) _ _ _ _ | exact put4 (blk_drewN (blk_drewN (blk_drewN (blk_drewN (blk_drewN HK2.out _) _) _) _) _) _ _ _ _ | exact put4 (blk_drewN (blk_drewN (blk_drewN (blk_drewN (blk_drewN (blk_drewN HK2.out _) _) _) _) _) _) _ _ _ _ | exact put4 (blk_drewN (blk_drewN (blk_drewN (blk_drewN (blk_drewN (blk_drewN (blk_drewN HK2.out _) _) _) _) _) _) _) _ _ _ _)) hu rfl (by kernel_rfl)) rfl ?_
      exact ⟨⟨_, _, rfl⟩, by repeat (first | with_reducible exact HB2.out | refine below_set ?_ (Nat.le_refl _) | apply pw_below_drewN)⟩
    | true =>
      have HSM := Lib.hid (small_f x hby.1 hby.2 hsx)
      have HSV := Lib.hid (smallV_f x hsx)
      obtain ⟨rfl, rfl⟩ := hs0 hsx
      have HR := Lib.hid (show scanM l.length ts 0 = r from by rw [← hr', hsx, Bool.true_and])
      generalize smallV x = sv at HSV
      clear hr' hby hsx hs0
      go_wp2_with (first | (go_at_call 35; refine (Tok.next_some _ _ _ l _ _ _ _ _ HT.out HLN.out HL.out _ HV.out HPG.out HBY.out _ _ HSH.out).mono ?_; rintro e w2 ⟨rfl, hO2, pos2, go, dv2, hT2, hgo, hg2, hv2⟩; have HB2 := Lib.hid (HB.out.trans (hO2.1.mono hgw)); have HT2 := Lib.hid hT2; have HK2 := Lib.hid (hO2.keep hgn HKZ.out); rw [HX.out] at hg2; have HG2 := Lib.hid hg2; have HV2 := Lib.hid hv2; have HB3 := Lib.hid hO2.1; clear hO2 hT2 hgo hg2 hv2; have k0 : w2.cell? ⟨w.heap.size, 0, none⟩ = some (.int .i64 0) := (blk_cell HK2.out 0).trans rfl; have k1 : w2.cell? ⟨w.heap.size, 1, none⟩ = some (.int .i64 0) := (blk_cell HK2.out 1).trans rfl; have k2 : w2.cell? ⟨w.heap.size, 2, none⟩ = some (.slice none 0 0) := (blk_cell HK2.out 2).trans rfl; have k3 : w2.cell? ⟨w.heap.size, 3, none⟩ = some (.bool false) := (blk_cell HK2.out 3).trans rfl; have kf : ∀ i, w2.frozen? ⟨w.heap.size, i, none⟩ = false := fun i => blk_frozen HK2.out i) | (go_at_call 76; refine (Tok.opcode_calls w1.heap.size (some ad) l.length c _ _ _ _ _ _ _ _ _ (show Tz _ w1.heap.size (some ad) l.length c _ _ _ _ _ from by repeat (first | exact HT2.out | refine blk_drewN ?_ _)) (by repeat (first | exact HG2.out | refine blk_drewN ?_ _))).mono ?_; rintro e w3 ⟨rfl, rfl⟩) | (go_at_call 75; refine (PFnClass.btcdtxscript_IsSmallInt.calls _ _ _ HSM.out).mono ?_; rintro e w4 ⟨rfl, m4, rfl⟩) | (go_at_call 81; refine (PFnClass.btcdtxscript_AsSmallInt.calls _ _ _ HSV.out).mono ?_; rintro e w6 ⟨rfl, m6, rfl⟩))
      go_loopg [9, 10, 11] (ts.length + 1) (fun kq v9 v10 v11 w' => ∃ (off : Nat) (n : Int) (ts' : List T) (pos : Int) (opv dv : Value), ts'.length < kq ∧ v9 = .int .i64 n ∧ v10 = .slice none 0 0 ∧ Hid (Cut l off ts' bad') ∧ Hid (scanM l.length ts' n = r) ∧ Hid (0 ≤ n ∧ n + ts'.length ≤ 2147483646) ∧ Hid (Tz w' w1.heap.size (some ad) l.length c off pos opv dv .nilIface) ∧ Hid (w'.heap[w.heap.size]? = some (.cells #[.int .i64 0, .int .i64 0, .slice none 0 0, .bool false] 105 (0, 0))) ∧ Hid (Below w.heap.size w w'))
      case atStart => exact ⟨0 + 1 + 0 + 0, 0, ts, _, _, _, Nat.lt_succ_self _, rfl, rfl, HC2, HR, Lib.hid (by have := HTS.out; omega), Lib.hid (Tz.drewN HT2.out _), Lib.hid (by with_reducible repeat (first | exact HK2.out | refine blk_drewN ?_ _)), Lib.hid (by with_reducible repeat (first | exact HB2.out | refine pw_below_drewN ?_ _))⟩
      case round =>
        clear HT HKZ HB HV HL HSH HC2 HTS HX HSM HSV HR HT2 HB2 HK2 HG2 HV2 HB3 k0 k1 k2 k3 kf HWR
        obtain ⟨off, n, ts', pos, opv, dv, hk, rfl, rfl, HC, HR, HN, HT, HKZ, HB⟩ := hrel
        have HV := Lib.hid (show Kd.V (Kd.int .u8) 5 wr wr.heap.size (fun k => True ∧ k < w.heap.size) (.slice (some ad) l.length c) l from Kd.V_below HV0.out HB.out)
        cases gk with
        | zero => omega
        | succ k =>
          generalize hbe2 : bad' = bad2 at HC
          cases HC.out with
          | done h1 =>
            have HD := Lib.hid (show (l.length : Int) ≤ (off : Int) from by omega)
            have HD2 := Lib.hid (show decide ((l.length : Int) ≤ (off : Int)) = true from decide_eq_true (by omega))
            have e0 : r = false := HR.out.symm
            subst e0
            clear h1
            go_wp2_with (first | (go_at_call 35; refine (Tok.next_end _ _ _ _ _ _ _ _ _ HT.out HLN.out HD.out).mono ?_; rintro e w2 ⟨rfl, m2, rfl⟩; have HT2 := HT; have HB2 := HB; have HK2 := HKZ; have k0 : wr.cell? ⟨w.heap.size, 0, none⟩ = some (.int .i64 0) := (blk_cell HK2.out 0).trans rfl; have k1 : wr.cell? ⟨w.heap.size, 1, none⟩ = some (.int .i64 0) := (blk_cell HK2.out 1).trans rfl; have k2 : wr.cell? ⟨w.heap.size, 2, none⟩ = some (.slice none 0 0) := (blk_cell HK2.out 2).trans rfl; have k3 : wr.cell? ⟨w.heap.size, 3, none⟩ = some (.bool false) := (blk_cell HK2.out 3).trans rfl; have kf : ∀ i, wr.frozen? ⟨w.heap.size, i, none⟩ = false := fun i => blk_frozen HK2.out i) | (go_at_call 50; refine (Tok.done_calls w1.heap.size (some ad) l.length c _ _ _ _ _ (show Tz _ w1.heap.size (some ad) l.length c _ _ _ _ _ from by repeat (first | exact HT2.out | refine blk_drewN ?_ _)) HLN.out _ HD2.out).mono ?_; rintro e w5 ⟨rfl, m5, rfl⟩))
            refine bodyPost_ret (results_cell_row rfl _ _ w.heap.size 105 #[.int .i64 0, .int .i64 0, .slice none 0 0, .bool false] (0, 0) _ rfl (by with_reducible (first | exact put4 HK2.out _ _ _ _ | exact put4 (blk_drewN HK2.out _) _ _ _ _ | exact put4 (blk_drewN (blk_drewN HK2.out _) _) _ _ _ _ | exact put4 (blk_drewN (blk_drewN (blk_drewN HK2.out _) _) _) _ _ _ _ | exact put4 (blk_drewN (blk_drewN (blk_drewN (blk_drewN HK2.out _) _) _) _) _ _ _ _ | exact put4 (blk_drewN (blk_drewN (blk_drewN (blk_drewN (blk_drewN HK2.out _) _) _) _) _) _ _ _ _ | exact put4 (blk_drewN (blk_drewN (blk_drewN (blk_drewN (blk_drewN (blk_drewN HK2.out _) _) _) _) _) _) _ _ _ _ | exact put4 (blk_drewN (blk_drewN (blk_drewN (blk_drewN (blk_drewN (blk_drewN (blk_drewN HK2.out _) _) _) _) _) _) _) _ _ _ _)) hu rfl (by kernel_rfl)) rfl ?_
            exact ⟨⟨_, _, rfl⟩, by repeat (first | with_reducible exact HB2.out | refine below_set ?_ (Nat.le_refl _) | apply pw_below_drewN)⟩
          | bad h1 h2 =>
            have HL := Lib.hid h1
            have HSH := Lib.hid h2
            have e0 : r = false := HR.out.symm
            subst e0
            clear h1 h2
            go_wp2_with (first | (go_at_call 35; refine (Tok.next_none _ _ _ l _ _ _ _ _ HT.out HLN.out HL.out _ HV.out HPG.out HBY.out HSH.out).mono ?_; rintro e w2 ⟨rfl, hO2, pos2, s2, hT2⟩; have HB2 := Lib.hid (HB.out.trans (hO2.1.mono hgw)); have HT2 := Lib.hid hT2; have HK2 := Lib.hid (hO2.keep hgn HKZ.out); clear hO2 hT2; have k0 : w2.cell? ⟨w.heap.size, 0, none⟩ = some (.int .i64 0) := (blk_cell HK2.out 0).trans rfl; have k1 : w2.cell? ⟨w.heap.size, 1, none⟩ = some (.int .i64 0) := (blk_cell HK2.out 1).trans rfl; have k2 : w2.cell? ⟨w.heap.size, 2, none⟩ = some (.slice none 0 0) := (blk_cell HK2.out 2).trans rfl; have k3 : w2.cell? ⟨w.heap.size, 3, none⟩ = some (.bool false) := (blk_cell HK2.out 3).trans rfl; have kf : ∀ i, w2.frozen? ⟨w.heap.size, i, none⟩ = false := fun i => blk_frozen HK2.out i) | (go_at_call 50; refine (Tok.done_err_calls w1.heap.size (some ad) l.length c _ _ _ _ _ _ (show Tz _ w1.heap.size (some ad) l.length c _ _ _ _ _ from by repeat (first | exact HT2.out | refine blk_drewN ?_ _))).mono ?_; rintro e w5 ⟨rfl, m5, rfl⟩))
            refine bodyPost_ret (results_cell_row rfl _ _ w.heap.size 105 #[.int .i64 0, .int .i64 0, .slice none 0 0, .bool false] (0, 0) _ rfl (by with_reducible (first | exact put4 HK2.out _ _ _ _ | exact put4 (blk_drewN HK2.out _) _ _ _ _ | exact put4 (blk_drewN (blk_drewN HK2.out _) _) _ _ _ _ | exact put4 (blk_drewN (blk_drewN (blk_drewN HK2.out _) _) _) _ _ _ _ | exact put4 (blk_drewN (blk_drewN (blk_drewN (blk_drewN HK2.out _) _) _) _) _ _ _ _ | exact put4 (blk_drewN (blk_drewN (blk_drewN (blk_drewN (blk_drewN HK2.out _) _) _) _) _) _ _ _ _ | exact put4 (blk_drewN (blk_drewN (blk_drewN (blk_drewN (blk_drewN (blk_drewN HK2.out _) _) _) _) _) _) _ _ _ _ | exact put4 (blk_drewN (blk_drewN (blk_drewN (blk_drewN (blk_drewN (blk_drewN (blk_drewN HK2.out _) _) _) _) _) _) _) _ _ _ _)) hu rfl (by kernel_rfl)) rfl ?_
            exact ⟨⟨_, _, rfl⟩, by repeat (first | with_reducible exact HB2.out | refine below_set ?_ (Nat.le_refl _) | apply pw_below_drewN)⟩
          | @step _ wd cnt ts'' _ h1 h2 h3 =>
            subst hbe2
            have HL := Lib.hid h1
            have HSH := Lib.hid h2
            have HC2 := Lib.hid h3
            have hk' : ts''.length < k := by simp only [List.length_cons] at hk; omega
            have HN' := Lib.hid (show 0 ≤ n ∧ n + 1 + ts''.length ≤ 2147483646 from by have := HN.out; simp only [List.length_cons] at this; omega)
            have hr' : (if small (l.getD off 0) then smallV (l.getD off 0) == n && decide (off + 2 = l.length) else scanM l.length ts'' (n + 1)) = r := HR.out
            have hby := HBY.out.getD off
            have hs0 := fun hs => small_shape h2 hs
            generalize hx : l.getD off 0 = x2 at hr' hby hs0
            have HX := Lib.hid hx
            have HOF := Lib.hid h1
            clear h1 h2 h3 hx HC HR HN hk
            cases hsx : small x2 with
            | false =>
              have HSM := Lib.hid (small_f x2 hby.1 hby.2 hsx)
              rw [hsx, if_neg (by decide)] at hr'
              have HR := Lib.hid hr'
              have hwn : wrap64 (n + 1) = n + 1 := wrap64_id (by have := HN'.out; omega) (by have := HN'.out; omega)
              obtain ⟨dt, hdt⟩ : ∃ dt, (l.drop (off + 1 + wd)).take cnt = dt := ⟨_, rfl⟩
              obtain ⟨sr, hsr⟩ := strict_some 0 dt
              have HST := Lib.hid hsr
              have HDT := Lib.hid hdt
              clear hby hsx hs0 hr' hsr hdt
              cases sr <;>
              · go_wp2_with (first | (go_at_call 35; refine (Tok.next_some _ _ _ l _ _ _ _ _ HT.out HLN.out HL.out _ HV.out HPG.out HBY.out _ _ HSH.out).mono ?_; rintro e w2 ⟨rfl, hO2, pos2, go, dv2, hT2, hgo, hg2, hv2⟩; have HB2 := Lib.hid (HB.out.trans (hO2.1.mono hgw)); have HT2 := Lib.hid hT2; have HK2 := Lib.hid (hO2.keep hgn HKZ.out); rw [HX.out] at hg2; have HG2 := Lib.hid hg2; rw [HDT.out] at hv2; obtain ⟨Ad, cd, rfl⟩ := Kd.V_slice hv2; have HDV := Lib.hid (Kd.V_reads' hv2).2.2; have HDC := Lib.hid (Kd.V_reads' hv2).2.1; have HB3 := Lib.hid hO2.1; clear hO2 hT2 hgo hg2 hv2; have k0 : w2.cell? ⟨w.heap.size, 0, none⟩ = some (.int .i64 0) := (blk_cell HK2.out 0).trans rfl; have k1 : w2.cell? ⟨w.heap.size, 1, none⟩ = some (.int .i64 0) := (blk_cell HK2.out 1).trans rfl; have k2 : w2.cell? ⟨w.heap.size, 2, none⟩ = some (.slice none 0 0) := (blk_cell HK2.out 2).trans rfl; have k3 : w2.cell? ⟨w.heap.size, 3, none⟩ = some (.bool false) := (blk_cell HK2.out 3).trans rfl; have kf : ∀ i, w2.frozen? ⟨w.heap.size, i, none⟩ = false := fun i => blk_frozen HK2.out i) | (go_at_call 76; refine (Tok.opcode_calls w1.heap.size (some ad) l.length c _ _ _ _ _ _ _ _ _ (show Tz _ w1.heap.size (some ad) l.length c _ _ _ _ _ from by repeat (first | exact HT2.out | refine blk_drewN ?_ _)) (by repeat (first | exact HG2.out | refine blk_drewN ?_ _))).mono ?_; rintro e w3 ⟨rfl, rfl⟩) | (go_at_call 75; refine (PFnClass.btcdtxscript_IsSmallInt.calls _ _ _ HSM.out).mono ?_; rintro e w4 ⟨rfl, m4, rfl⟩) | (go_at_call 37; refine (Tok.data_calls w1.heap.size (some ad) l.length c _ _ _ _ _ _ (show Tz _ w1.heap.size (some ad) l.length c _ _ _ _ _ from by repeat (first | exact HT2.out | refine blk_drewN ?_ _))).mono ?_; rintro e w7 ⟨rfl, rfl⟩) | (go_at_call 82; (with_reducible refine (PFnClass.btcdtxscript_isStrictPubKeyEncoding.calls 1 _ _ dt _ _ ?sa ?sb HST.out).mono ?_); (case sa => repeat (first | exact HDV.out | refine Kd.C_drewN ?_ _)); (case sb => exact HDC.out); rintro e w8 ⟨rfl, m8, rfl⟩))
                go_roundg k
                case measure => omega
                case rel => exact ⟨off + 1 + wd + cnt, n + 1, ts'', _, _, _, hk', by first | rfl | rw [hwn], rfl, HC2, HR, Lib.hid (by have := HN'.out; omega), Lib.hid (Tz.drewN HT2.out _), Lib.hid (by with_reducible repeat (first | exact HK2.out | refine blk_drewN ?_ _)), Lib.hid (by with_reducible repeat (first | exact HB2.out | refine pw_below_drewN ?_ _))⟩
            | true =>
              have HSM := Lib.hid (small_f x2 hby.1 hby.2 hsx)
              have HSV := Lib.hid (smallV_f x2 hsx)
              obtain ⟨rfl, rfl⟩ := hs0 hsx
              rw [hsx, if_pos rfl] at hr'
              generalize smallV x2 = sv2 at HSV hr'
              have HR := Lib.hid hr'
              clear hby hsx hs0 hr'
              by_cases hd : (l.length : Int) ≤ ((off + 1 + 0 + 0 : Nat) : Int)
              · have HD2 := Lib.hid (show decide ((l.length : Int) ≤ ((off + 1 + 0 + 0 : Nat) : Int)) = true from decide_eq_true hd)
                have e0 : r = false := by rw [← HR.out, decide_eq_false (show ¬ off + 2 = l.length by omega), Bool.and_false]
                subst e0
                clear hd
                go_wp2_with (first | (go_at_call 35; refine (Tok.next_some _ _ _ l _ _ _ _ _ HT.out HLN.out HL.out _ HV.out HPG.out HBY.out _ _ HSH.out).mono ?_; rintro e w2 ⟨rfl, hO2, pos2, go, dv2, hT2, hgo, hg2, hv2⟩; have HB2 := Lib.hid (HB.out.trans (hO2.1.mono hgw)); have HT2 := Lib.hid hT2; have HK2 := Lib.hid (hO2.keep hgn HKZ.out); rw [HX.out] at hg2; have HG2 := Lib.hid hg2; have HV2 := Lib.hid hv2; have HB3 := Lib.hid hO2.1; clear hO2 hT2 hgo hg2 hv2; have k0 : w2.cell? ⟨w.heap.size, 0, none⟩ = some (.int .i64 0) := (blk_cell HK2.out 0).trans rfl; have k1 : w2.cell? ⟨w.heap.size, 1, none⟩ = some (.int .i64 0) := (blk_cell HK2.out 1).trans rfl; have k2 : w2.cell? ⟨w.heap.size, 2, none⟩ = some (.slice none 0 0) := (blk_cell HK2.out 2).trans rfl; have k3 : w2.cell? ⟨w.heap.size, 3, none⟩ = some (.bool false) := (blk_cell HK2.out 3).trans rfl; have kf : ∀ i, w2.frozen? ⟨w.heap.size, i, none⟩ = false := fun i => blk_frozen HK2.out i) | (go_at_call 76; refine (Tok.opcode_calls w1.heap.size (some ad) l.length c _ _ _ _ _ _ _ _ _ (show Tz _ w1.heap.size (some ad) l.length c _ _ _ _ _ from by repeat (first | exact HT2.out | refine blk_drewN ?_ _)) (by repeat (first | exact HG2.out | refine blk_drewN ?_ _))).mono ?_; rintro e w3 ⟨rfl, rfl⟩) | (go_at_call 75; refine (PFnClass.btcdtxscript_IsSmallInt.calls _ _ _ HSM.out).mono ?_; rintro e w4 ⟨rfl, m4, rfl⟩) | (go_at_call 50; refine (Tok.done_calls w1.heap.size (some ad) l.length c _ _ _ _ _ (show Tz _ w1.heap.size (some ad) l.length c _ _ _ _ _ from by repeat (first | exact HT2.out | refine blk_drewN ?_ _)) HLN.out _ HD2.out).mono ?_; rintro e w5 ⟨rfl, m5, rfl⟩))
                refine bodyPost_ret (results_cell_row rfl _ _ w.heap.size 105 #[.int .i64 0, .int .i64 0, .slice none 0 0, .bool false] (0, 0) _ rfl (by with_reducible (first | exact put4 HK2.out _ _ _ _ | exact put4 (blk_drewN HK2.out _) _ _ _ _ | exact put4 (blk_drewN (blk_drewN HK2.out _) _) _ _ _ _ | exact put4 (blk_drewN (blk_drewN (blk_drewN HK2.out _) _) _) _ _ _ _ | exact put4 (blk_drewN (blk_drewN (blk_drewN (blk_drewN HK2.out _) _) _) _) _ _ _ _ | exact put4 (blk_drewN (blk_drewN (blk_drewN (blk_drewN (blk_drewN HK2.out _) _) _) _) _) _ _ _ _ | exact put4 (blk_drewN (blk_drewN (blk_drewN (blk_drewN (blk_drewN (blk_drewN HK2.out _) _) _) _) _) _) _ _ _ _ | exact put4 (blk_drewN (blk_drewN (blk_drewN (blk_drewN (blk_drewN (blk_drewN (blk_drewN HK2.out _) _) _) _) _) _) _) _ _ _ _)) hu rfl (by kernel_rfl)) rfl ?_
                exact ⟨⟨_, _, rfl⟩, by repeat (first | with_reducible exact HB2.out | refine below_set ?_ (Nat.le_refl _) | apply pw_below_drewN)⟩
              · have HD2 := Lib.hid (show decide ((l.length : Int) ≤ ((off + 1 + 0 + 0 : Nat) : Int)) = false from decide_eq_false hd)
                have HND := Lib.hid hd
                clear hd
                by_cases hv : sv2 = n
                · have hvb : (sv2 != n) = false := by rw [hv]; exact bne_self_eq_false n
                  obtain ⟨o2, ho2⟩ : ∃ o2 : Int, ((off + 1 + 0 + 0 : Nat) : Int) = o2 := ⟨_, rfl⟩
                  have hlw : IntKind.i32.wrap (l.length : Int) = (l.length : Int) := by have := HLN.out; rw [IntKind.wrap]; simp [IntKind.bits, IntKind.signed]; omega
                  obtain ⟨dd, hdd⟩ : ∃ dd : Int, IntKind.i32.wrap ((l.length : Int) - o2) = dd := ⟨_, rfl⟩
                  have hde : dd = (l.length : Int) - o2 := by have := HLN.out; have := HL.out; rw [← hdd, IntKind.wrap]; simp [IntKind.bits, IntKind.signed]; omega
                  by_cases he : dd = 1
                  · have heb : (dd != 1) = false := by rw [he]; rfl
                    have e0 : r = true := by rw [← HR.out, hv, beq_self_eq_true, Bool.true_and]; exact decide_eq_true (by omega)
                    subst e0
                    have HO2 := Lib.hid ho2
                    clear hv he hde ho2
                    have HD2' := Lib.hid (show decide ((l.length : Int) ≤ o2) = false from by rw [← HO2.out]; exact HD2.out)
                    go_wp2_with (first | (go_at_call 35; refine (Tok.next_some _ _ _ l _ _ _ _ _ HT.out HLN.out HL.out _ HV.out HPG.out HBY.out _ _ HSH.out).mono ?_; rintro e w2 ⟨rfl, hO2, pos2, go, dv2, hT2, hgo, hg2, hv2⟩; have HB2 := Lib.hid (HB.out.trans (hO2.1.mono hgw)); rw [HO2.out] at hT2; have HT2 := Lib.hid hT2; have HK2 := Lib.hid (hO2.keep hgn HKZ.out); rw [HX.out] at hg2; have HG2 := Lib.hid hg2; have HV2 := Lib.hid hv2; have HB3 := Lib.hid hO2.1; clear hO2 hT2 hgo hg2 hv2; have k0 : w2.cell? ⟨w.heap.size, 0, none⟩ = some (.int .i64 0) := (blk_cell HK2.out 0).trans rfl; have k1 : w2.cell? ⟨w.heap.size, 1, none⟩ = some (.int .i64 0) := (blk_cell HK2.out 1).trans rfl; have k2 : w2.cell? ⟨w.heap.size, 2, none⟩ = some (.slice none 0 0) := (blk_cell HK2.out 2).trans rfl; have k3 : w2.cell? ⟨w.heap.size, 3, none⟩ = some (.bool false) := (blk_cell HK2.out 3).trans rfl; have kf : ∀ i, w2.frozen? ⟨w.heap.size, i, none⟩ = false := fun i => blk_frozen HK2.out i) | (go_at_call 76; refine (Tok.opcode_calls w1.heap.size (some ad) l.length c _ _ _ _ _ _ _ _ _ (show Tz _ w1.heap.size (some ad) l.length c _ _ _ _ _ from by repeat (first | exact HT2.out | refine blk_drewN ?_ _)) (by repeat (first | exact HG2.out | refine blk_drewN ?_ _))).mono ?_; rintro e w3 ⟨rfl, rfl⟩) | (go_at_call 75; refine (PFnClass.btcdtxscript_IsSmallInt.calls _ _ _ HSM.out).mono ?_; rintro e w4 ⟨rfl, m4, rfl⟩) | (go_at_call 50; refine (Tok.done_calls w1.heap.size (some ad) l.length c _ _ _ _ _ (show Tz _ w1.heap.size (some ad) l.length c _ _ _ _ _ from by repeat (first | exact HT2.out | refine blk_drewN ?_ _)) HLN.out _ HD2'.out).mono ?_; rintro e w5 ⟨rfl, m5, rfl⟩) | (go_at_call 81; refine (PFnClass.btcdtxscript_AsSmallInt.calls _ _ _ HSV.out).mono ?_; rintro e w6 ⟨rfl, m6, rfl⟩) | (go_at_call 83; refine (Tok.script_calls w1.heap.size (some ad) l.length c _ _ _ _ _ _ (show Tz _ w1.heap.size (some ad) l.length c _ _ _ _ _ from by repeat (first | exact HT2.out | refine blk_drewN ?_ _))).mono ?_; rintro e w9 ⟨rfl, rfl⟩) | (go_at_call 40; refine (Tok.byteIndex_calls w1.heap.size (some ad) l.length c _ _ _ _ _ _ (show Tz _ w1.heap.size (some ad) l.length c _ _ _ _ _ from by repeat (first | exact HT2.out | refine blk_drewN ?_ _))).mono ?_; rintro e w10 ⟨rfl, rfl⟩))
                    refine bodyPost_ret (results_cell_row rfl _ _ w.heap.size 105 #[.int .i64 sv, .int .i64 n, .slice none 0 0, .bool true] (0, 0) _ rfl (by with_reducible (first | exact put4 HK2.out _ _ _ _ | exact put4 (blk_drewN HK2.out _) _ _ _ _ | exact put4 (blk_drewN (blk_drewN HK2.out _) _) _ _ _ _ | exact put4 (blk_drewN (blk_drewN (blk_drewN HK2.out _) _) _) _ _ _ _ | exact put4 (blk_drewN (blk_drewN (blk_drewN (blk_drewN HK2.out _) _) _) _) _ _ _ _ | exact put4 (blk_drewN (blk_drewN (blk_drewN (blk_drewN (blk_drewN HK2.out _) _) _) _) _) _ _ _ _ | exact put4 (blk_drewN (blk_drewN (blk_drewN (blk_drewN (blk_drewN (blk_drewN HK2.out _) _) _) _) _) _) _ _ _ _ | exact put4 (blk_drewN (blk_drewN (blk_drewN (blk_drewN (blk_drewN (blk_drewN (blk_drewN HK2.out _) _) _) _) _) _) _) _ _ _ _)) hu rfl (by kernel_rfl)) rfl ?_
                    exact ⟨⟨_, _, rfl⟩, by repeat (first | with_reducible exact HB2.out | refine below_set ?_ (Nat.le_refl _) | apply pw_below_drewN)⟩
                  · have heb : (dd != 1) = true := bne_iff_ne.2 he
                    have e0 : r = false := by rw [← HR.out, hv, beq_self_eq_true, Bool.true_and]; exact decide_eq_false (by omega)
                    subst e0
                    have HO2 := Lib.hid ho2
                    have HD2' := Lib.hid (show decide ((l.length : Int) ≤ o2) = false from by rw [← HO2.out]; exact HD2.out)
                    clear hv he hde ho2
                    go_wp2_with (first | (go_at_call 35; refine (Tok.next_some _ _ _ l _ _ _ _ _ HT.out HLN.out HL.out _ HV.out HPG.out HBY.out _ _ HSH.out).mono ?_; rintro e w2 ⟨rfl, hO2, pos2, go, dv2, hT2, hgo, hg2, hv2⟩; have HB2 := Lib.hid (HB.out.trans (hO2.1.mono hgw)); rw [HO2.out] at hT2; have HT2 := Lib.hid hT2; have HK2 := Lib.hid (hO2.keep hgn HKZ.out); rw [HX.out] at hg2; have HG2 := Lib.hid hg2; have HV2 := Lib.hid hv2; have HB3 := Lib.hid hO2.1; clear hO2 hT2 hgo hg2 hv2; have k0 : w2.cell? ⟨w.heap.size, 0, none⟩ = some (.int .i64 0) := (blk_cell HK2.out 0).trans rfl; have k1 : w2.cell? ⟨w.heap.size, 1, none⟩ = some (.int .i64 0) := (blk_cell HK2.out 1).trans rfl; have k2 : w2.cell? ⟨w.heap.size, 2, none⟩ = some (.slice none 0 0) := (blk_cell HK2.out 2).trans rfl; have k3 : w2.cell? ⟨w.heap.size, 3, none⟩ = some (.bool false) := (blk_cell HK2.out 3).trans rfl; have kf : ∀ i, w2.frozen? ⟨w.heap.size, i, none⟩ = false := fun i => blk_frozen HK2.out i) | (go_at_call 76; refine (Tok.opcode_calls w1.heap.size (some ad) l.length c _ _ _ _ _ _ _ _ _ (show Tz _ w1.heap.size (some ad) l.length c _ _ _ _ _ from by repeat (first | exact HT2.out | refine blk_drewN ?_ _)) (by repeat (first | exact HG2.out | refine blk_drewN ?_ _))).mono ?_; rintro e w3 ⟨rfl, rfl⟩) | (go_at_call 75; refine (PFnClass.btcdtxscript_IsSmallInt.calls _ _ _ HSM.out).mono ?_; rintro e w4 ⟨rfl, m4, rfl⟩) | (go_at_call 50; refine (Tok.done_calls w1.heap.size (some ad) l.length c _ _ _ _ _ (show Tz _ w1.heap.size (some ad) l.length c _ _ _ _ _ from by repeat (first | exact HT2.out | refine blk_drewN ?_ _)) HLN.out _ HD2'.out).mono ?_; rintro e w5 ⟨rfl, m5, rfl⟩) | (go_at_call 81; refine (PFnClass.btcdtxscript_AsSmallInt.calls _ _ _ HSV.out).mono ?_; rintro e w6 ⟨rfl, m6, rfl⟩) | (go_at_call 83; refine (Tok.script_calls w1.heap.size (some ad) l.length c _ _ _ _ _ _ (show Tz _ w1.heap.size (some ad) l.length c _ _ _ _ _ from by repeat (first | exact HT2.out | refine blk_drewN ?_ _))).mono ?_; rintro e w9 ⟨rfl, rfl⟩) | (go_at_call 40; refine (Tok.byteIndex_calls w1.heap.size (some ad) l.length c _ _ _ _ _ _ (show Tz _ w1.heap.size (some ad) l.length c _ _ _ _ _ from by repeat (first | exact HT2.out | refine blk_drewN ?_ _))).mono ?_; rintro e w10 ⟨rfl, rfl⟩))
                    refine bodyPost_ret (results_cell_row rfl _ _ w.heap.size 105 #[.int .i64 0, .int .i64 0, .slice none 0 0, .bool false] (0, 0) _ rfl (by with_reducible (first | exact put4 HK2.out _ _ _ _ | exact put4 (blk_drewN HK2.out _) _ _ _ _ | exact put4 (blk_drewN (blk_drewN HK2.out _) _) _ _ _ _ | exact put4 (blk_drewN (blk_drewN (blk_drewN HK2.out _) _) _) _ _ _ _ | exact put4 (blk_drewN (blk_drewN (blk_drewN (blk_drewN HK2.out _) _) _) _) _ _ _ _ | exact put4 (blk_drewN (blk_drewN (blk_drewN (blk_drewN (blk_drewN HK2.out _) _) _) _) _) _ _ _ _ | exact put4 (blk_drewN (blk_drewN (blk_drewN (blk_drewN (blk_drewN (blk_drewN HK2.out _) _) _) _) _) _) _ _ _ _ | exact put4 (blk_drewN (blk_drewN (blk_drewN (blk_drewN (blk_drewN (blk_drewN (blk_drewN HK2.out _) _) _) _) _) _) _) _ _ _ _)) hu rfl (by kernel_rfl)) rfl ?_
                    exact ⟨⟨_, _, rfl⟩, by repeat (first | with_reducible exact HB2.out | refine below_set ?_ (Nat.le_refl _) | apply pw_below_drewN)⟩
                · have hvb : (sv2 != n) = true := bne_iff_ne.2 hv
                  have e0 : r = false := by rw [← HR.out, beq_eq_false_iff_ne.2 hv, Bool.false_and]
                  subst e0
                  clear hv
                  go_wp2_with (first | (go_at_call 35; refine (Tok.next_some _ _ _ l _ _ _ _ _ HT.out HLN.out HL.out _ HV.out HPG.out HBY.out _ _ HSH.out).mono ?_; rintro e w2 ⟨rfl, hO2, pos2, go, dv2, hT2, hgo, hg2, hv2⟩; have HB2 := Lib.hid (HB.out.trans (hO2.1.mono hgw)); have HT2 := Lib.hid hT2; have HK2 := Lib.hid (hO2.keep hgn HKZ.out); rw [HX.out] at hg2; have HG2 := Lib.hid hg2; have HV2 := Lib.hid hv2; have HB3 := Lib.hid hO2.1; clear hO2 hT2 hgo hg2 hv2; have k0 : w2.cell? ⟨w.heap.size, 0, none⟩ = some (.int .i64 0) := (blk_cell HK2.out 0).trans rfl; have k1 : w2.cell? ⟨w.heap.size, 1, none⟩ = some (.int .i64 0) := (blk_cell HK2.out 1).trans rfl; have k2 : w2.cell? ⟨w.heap.size, 2, none⟩ = some (.slice none 0 0) := (blk_cell HK2.out 2).trans rfl; have k3 : w2.cell? ⟨w.heap.size, 3, none⟩ = some (.bool false) := (blk_cell HK2.out 3).trans rfl; have kf : ∀ i, w2.frozen? ⟨w.heap.size, i, none⟩ = false := fun i => blk_frozen HK2.out i) | (go_at_call 76; refine (Tok.opcode_calls w1.heap.size (some ad) l.length c _ _ _ _ _ _ _ _ _ (show Tz _ w1.heap.size (some ad) l.length c _ _ _ _ _ from by repeat (first | exact HT2.out | refine blk_drewN ?_ _)) (by repeat (first | exact HG2.out | refine blk_drewN ?_ _))).mono ?_; rintro e w3 ⟨rfl, rfl⟩) | (go_at_call 75; refine (PFnClass.btcdtxscript_IsSmallInt.calls _ _ _ HSM.out).mono ?_; rintro e w4 ⟨rfl, m4, rfl⟩) | (go_at_call 50; refine (Tok.done_calls w1.heap.size (some ad) l.length c _ _ _ _ _ (show Tz _ w1.heap.size (some ad) l.length c _ _ _ _ _ from by repeat (first | exact HT2.out | refine blk_drewN ?_ _)) HLN.out _ HD2.out).mono ?_; rintro e w5 ⟨rfl, m5, rfl⟩) | (go_at_call 81; refine (PFnClass.btcdtxscript_AsSmallInt.calls _ _ _ HSV.out).mono ?_; rintro e w6 ⟨rfl, m6, rfl⟩))
                  refine bodyPost_ret (results_cell_row rfl _ _ w.heap.size 105 #[.int .i64 0, .int .i64 0, .slice none 0 0, .bool false] (0, 0) _ rfl (by with_reducible (first | exact put4 HK2.out _ _ _ _ | exact put4 (blk_drewN HK2.out _) _ _ _ _ | exact put4 (blk_drewN (blk_drewN HK2.out _) _) _ _ _ _ | exact put4 (blk_drewN (blk_drewN (blk_drewN HK2.out _) _) _) _ _ _ _ | exact put4 (blk_drewN (blk_drewN (blk_drewN (blk_drewN HK2.out _) _) _) _) _ _ _ _ | exact put4 (blk_drewN (blk_drewN (blk_drewN (blk_drewN (blk_drewN HK2.out _) _) _) _) _) _ _ _ _ | exact put4 (blk_drewN (blk_drewN (blk_drewN (blk_drewN (blk_drewN (blk_drewN HK2.out _) _) _) _) _) _) _ _ _ _ | exact put4 (blk_drewN (blk_drewN (blk_drewN (blk_drewN (blk_drewN (blk_drewN (blk_drewN HK2.out _) _) _) _) _) _) _) _ _ _ _)) hu rfl (by kernel_rfl)) rfl ?_
                  exact ⟨⟨_, _, rfl⟩, by repeat (first | with_reducible exact HB2.out | refine below_set ?_ (Nat.le_refl _) | apply pw_below_drewN)⟩
end Go.Proofs.Ytafpmdmmeohmfaa.Tok
