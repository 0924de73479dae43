/-
  The tokenizer's step: ScriptTokenizer.Next.
-/
import Derived.Test.YtafpmdmmeohmfaaTokRun
import Derived.Test.YtafpmdmmeohmfaaScErr
namespace Go.Proofs.Ytafpmdmmeohmfaa.Tok
open Go.RowKit Go.Proofs.YtafpmdmmeohmfaaW.PrintWords Go.Proofs.YtafpmdmmeohmfaaW.PrintLast

theorem opcodeOf_calls' (b : Int) (h0 : 0 ≤ b) (h1 : b < 256) (w : World) :
    Calls Try.prog 51 #[.int .u8 b] w fun e w' => ∃ go, e = .returned (.pointer (some ⟨go, 0, none⟩)) ∧ w.heap.size ≤ go ∧
      w'.heap[go]? = some (.cells #[.int .u8 b, .string (opRow b).name, .int .i64 (opLength b)] 88 (0, 0)) ∧ Below w.heap.size w w' := by
  refine (opcodeOf_calls b h0 h1 w).mono ?_
  rintro e w' ⟨rfl, rfl⟩
  exact ⟨_, rfl, Nat.le_refl _, blk_new _ _, below_alloc (Below.refl _ _) _⟩

/-- Only block g may have changed, and what is new. -/
def Only (g : Nat) (w w' : World) : Prop := Below g w w' ∧ KeepBut w w' g none
theorem Only.refl (g : Nat) (w : World) : Only g w w := ⟨Below.refl _ _, KeepBut.refl _ _ _⟩
theorem Only.below {g : Nat} {w w1 w2 : World} (hg : g < w.heap.size) (h : Only g w w1) (k : Below w1.heap.size w1 w2) : Only g w w2 :=
  ⟨h.1.trans (k.mono (by have := h.1.size; omega)), ⟨Nat.le_trans h.2.1 k.size, fun i hi hne hr => (k.block i (by have := h.2.1; omega)).trans (h.2.2 i hi hne hr)⟩⟩
theorem Only.set {g : Nat} {w w1 : World} (h : Only g w w1) (j : Nat) (u : Value) : Only g w (w1.setCell ⟨g, j, none⟩ u) :=
  ⟨h.1.setCell (Nat.le_refl _) u, h.2.set_ j u⟩
theorem Only.drewN {g : Nat} {w w1 : World} (h : Only g w w1) (n : Nat) : Only g w (w1.drewN n) := ⟨pw_below_drewN h.1 n, keep_drewN h.2 n⟩
theorem Only.drew {g : Nat} {w w1 : World} (h : Only g w w1) : Only g w w1.drew := ⟨h.1.drew, keep_drew h.2⟩
theorem Only.trans {g : Nat} {w w1 w2 : World} (h : Only g w w1) (k : Only g w1 w2) : Only g w w2 := ⟨h.1.trans k.1, h.2.trans k.2 (.inl rfl)⟩

theorem far_at {w : World} {g g' : Nat} {t : TypeId} {cs : Array Value} (h : w.heap[g']? = some (.cells cs t (0, 0))) (hne : g' ≠ g) (i : Nat) (u : Value) : (w.setCell ⟨g, i, none⟩ u).heap[g']? = some (.cells cs t (0, 0)) :=
  blk_far (p := ⟨g, i, none⟩) h hne u

set_option maxHeartbeats 4000000 in
set_option maxRecDepth 100000 in
theorem next_end (g : Nat) (A : Option Addr) (n c : Nat) (off pos : Int) (opv dv : Value) (w : World) (h : Tz w g A n c off pos opv dv .nilIface)
    (hn : n ≤ 2147483647) (hb : (n : Int) ≤ off) :
    Calls Try.prog 35 #[.pointer (some ⟨g, 0, none⟩)] w fun e w' => e = .returned (.bool false) ∧ Drawn0 w w' := by
  have H := Lib.hid h
  have HN := Lib.hid hn
  have hd := decide_eq_true hb
  clear h hn hb
  go_enter Try.func35, Try.ntmps35
  go_wp2_with (go_at_call 50; refine (done_calls _ _ _ _ _ _ _ _ _ H.out HN.out true hd).mono ?_; rintro e w' ⟨rfl, m, rfl⟩)
  go_ret
  exact ⟨rfl, Drawn0.step (Drawn0.refl _) _⟩

theorem wrap32_id {x : Int} (h0 : -2147483648 ≤ x) (h1 : x ≤ 2147483647) : wrap32 x = x := by unfold wrap32; omega

/-! What slicing makes of a row that is read. -/
theorem from_fact (kl : IntKind) {W : World} {base : Nat} {P0 : Nat → Prop} {A : Option Addr} {c : Nat} {l : List Int} (hs : Kd.V (Kd.int .u8) 5 W base P0 (.slice A l.length c) l) (j : Nat) (hj : j ≤ l.length) :
    ∃ A2 m2 c2, m2 = l.length - j ∧ (∀ W', (Instr.slice 22 (.slice A l.length c) (some (.int kl j)) none none).run Try.prog W' = .ok (.slice A2 m2 c2) W') ∧ Kd.V (Kd.int .u8) 5 W base P0 (.slice A2 m2 c2) (l.drop j) := by
  obtain ⟨_, hc, hF⟩ := Kd.V_at hs
  obtain ⟨i0, hi0, _, hsz, _⟩ := info_parts info_u8
  have h1 := cut_from (P := Try.prog) 22 5 kl Try.underlying22 hi0 1 hsz A l.length c (j : Int) (by omega) (by omega)
  have h2 := Kd.F_cut (m := j) (c := c) hF hj hc
  refine ⟨_, _, _, rfl, h1, ?_⟩
  have e : l.length - j = (l.drop j).length := by rw [List.length_drop]
  rw [e]
  exact Kd.V_mk (by rw [List.length_drop, Int.toNat_natCast]; omega) h2
theorem mid_fact (kl kh : IntKind) {W : World} {base : Nat} {P0 : Nat → Prop} {A : Option Addr} {n c : Nat} {l : List Int} (hs : Kd.V (Kd.int .u8) 5 W base P0 (.slice A n c) l) (i j : Nat) (hi : i ≤ j) (hj : j ≤ l.length) :
    ∃ A2 m2 c2, m2 = j - i ∧ (∀ W', (Instr.slice 22 (.slice A n c) (some (.int kl i)) (some (.int kh j)) none).run Try.prog W' = .ok (.slice A2 m2 c2) W') ∧ Kd.V (Kd.int .u8) 5 W base P0 (.slice A2 m2 c2) ((l.take j).drop i) := by
  obtain ⟨rfl, hc, hF⟩ := Kd.V_at hs
  obtain ⟨i0, hi0, _, hsz, _⟩ := info_parts info_u8
  have h1 := cut_mid (P := Try.prog) 22 5 kl kh Try.underlying22 hi0 1 hsz A l.length c (i : Int) (j : Int) (by omega) (by omega) (by omega) hc
  have h2 := Kd.F_mid (lo := i) (hi := j) (c := c) hF hi hj hc
  refine ⟨_, _, _, rfl, h1, ?_⟩
  have e : j - i = ((l.take j).drop i).length := by rw [List.length_drop, List.length_take]; omega
  rw [e]
  exact Kd.V_mk (by rw [List.length_drop, List.length_take, Int.toNat_natCast]; omega) h2
theorem to_fact (kh : IntKind) {W : World} {base : Nat} {P0 : Nat → Prop} {A : Option Addr} {n c : Nat} {l : List Int} (hs : Kd.V (Kd.int .u8) 5 W base P0 (.slice A n c) l) (j : Nat) (hj : j ≤ l.length) :
    (∀ W', (Instr.slice 22 (.slice A n c) none (some (.int kh j)) none).run Try.prog W' = .ok (.slice A j c) W') ∧ Kd.V (Kd.int .u8) 5 W base P0 (.slice A j c) (l.take j) := by
  obtain ⟨rfl, hc, hF⟩ := Kd.V_at hs
  obtain ⟨i0, hi0, _, hsz, _⟩ := info_parts info_u8
  have h1 := cut_to (P := Try.prog) 22 5 kh Try.underlying22 hi0 A l.length c (j : Int) (by omega) (by omega) hc
  refine ⟨h1, ?_⟩
  have e : j = (l.take j).length := by rw [List.length_take]; omega
  refine ⟨A, c, by rw [← e], by rw [← e]; omega, ?_⟩
  rw [← e]
  exact Kd.F_imp hF (fun _ hC => by have := Kd.C_take hC hj; rwa [← e] at this)


set_option maxHeartbeats 8000000 in
set_option maxRecDepth 100000 in
theorem next_plain (g : Nat) (A : Option Addr) (c : Nat) (l : List Int) (off : Nat) (pos : Int) (opv dv : Value) (w : World) (h : Tz w g A l.length c off pos opv dv .nilIface)
    (hn : l.length ≤ 2147483647) (ho : off < l.length) (P0 : Nat → Prop) (hs : Kd.V (Kd.int .u8) 5 w w.heap.size P0 (.slice A l.length c) l) (hP : ∀ k, P0 k → k ≠ g) (hb : Bytes l)
    (b : Int) (eb : l.getD off 0 = b) (hb1 : opLength b = 1) :
    Calls Try.prog 35 #[.pointer (some ⟨g, 0, none⟩)] w fun e w' => e = .returned (.bool true) ∧ Only g w w' ∧
      ∃ pos' go dv', Tz w' g A l.length c ((off + 1 + 0 + 0 : Nat) : Int) pos' (.pointer (some ⟨go, 0, none⟩)) dv' .nilIface ∧ w.heap.size ≤ go ∧
        w'.heap[go]? = some (.cells #[.int .u8 b, .string (opRow b).name, .int .i64 (opLength b)] 88 (0, 0)) ∧
        Kd.V (Kd.int .u8) 5 w' w.heap.size P0 dv' ((l.drop (off + 1 + 0)).take 0) := by
  have hd : decide ((l.length : Int) ≤ (off : Int)) = false := decide_eq_false (by omega)
  have hbb := hb.getD off
  rw [eb] at hbb
  have z3 := h.c3
  have fz := h.fz
  have H := Lib.hid h
  have HN := Lib.hid hn
  have HS := Lib.hid hs
  have HP := Lib.hid hP
  have HO := Lib.hid ho
  have HBB := Lib.hid hbb
  have HBY := Lib.hid hb
  have EB := Lib.hid eb
  have HL := Lib.hid hb1
  clear hb1
  clear h hn hs hb hbb eb ho hP
  go_enter Try.func35, Try.ntmps35
  go_upto_region 4 with (go_at_call 50; refine (done_calls _ _ _ _ _ _ _ _ _ H.out HN.out false hd).mono ?_; rintro e w' ⟨rfl, m, rfl⟩)
  obtain ⟨W2, hW2⟩ : ∃ W2, W2 = (w.drewN m).setCell ⟨g, 3, none⟩ (.int .i32 (wrap32 (pos + 1))) := ⟨_, rfl⟩
  rw [← hW2]
  have T2 : Tz W2 g A l.length c off (wrap32 (pos + 1)) opv dv .nilIface := by rw [hW2]; exact blk_put (blk_drewN H.out m) 3 _ rfl
  have O2 : Only g w W2 := by rw [hW2]; exact ((Only.refl g w).drewN m).set 3 _
  have S2 := Kd.V_keep HS.out O2.2 HP.out
  generalize wrap32 (pos + 1) = pos1 at T2 hW2
  clear hW2 z3 fz hd
  obtain ⟨ad, e, x0⟩ := Kd.at_int (Kd.V_reads' S2).2.2 (off : Int) (by omega) (by have := HO.out; omega)
  cases e
  simp only [rd, Int.toNat_natCast] at x0
  rw [EB.out] at x0
  have z0 := T2.c0
  have z2 := T2.c2
  have o1 : (off : Int) < (l.length : Int) := by have := HO.out; omega
  have HT2 := Lib.hid T2
  have HO2 := Lib.hid O2
  have HS2 := Lib.hid S2
  clear T2 O2 S2
  go_still_tail 10, (by kernel_rfl)
  change wpList _ _ _ _ _ W2.drew
  go_wp2_with (go_at_call 51; refine (opcodeOf_calls' b HBB.out.1 HBB.out.2 _).mono ?_; rintro e W3 ⟨go, rfl, hgo, hop, hB3⟩; have HT3 := Lib.hid (show Tz W3 g (some ad) l.length c off pos1 opv dv .nilIface from blk_below (blk_drew HT2.out) hB3); have HO3 := Lib.hid (HO2.out.drew.below (blk_lt H.out) hB3); have HS3 := Lib.hid (Kd.V_below (Kd.V_drew HS2.out) hB3); have HGO := Lib.hid (show W2.heap.size ≤ go from hgo); have HOP := Lib.hid hop; have y2 : W3.cell? ⟨go, 2, none⟩ = some (.int .i64 1) := (blk_cell hop 2).trans (by rw [HL.out]; rfl); clear hgo hop hB3 z0 z2 x0 o1; have z0 := HT3.out.c0; have z2 := HT3.out.c2; have z4 := HT3.out.c4; have z5 := HT3.out.c5; have z6 := HT3.out.c6; have fz := HT3.out.fz)
  go_ret
  refine ⟨rfl, ((HO3.out.set 2 _).set 4 _).set 5 _, pos1, go, _, ?_, Nat.le_trans HO2.out.2.1 HGO.out, ?_, Kd.V_nil _ _ _ _ _⟩
  · refine blk_put (cs := cellsT (some ad) l.length c ((off + 1 : Nat) : Int) pos1 (.pointer (some ⟨go, 0, none⟩)) dv .nilIface) ?_ 5 _ rfl
    refine blk_put (cs := cellsT (some ad) l.length c ((off + 1 : Nat) : Int) pos1 opv dv .nilIface) ?_ 4 _ rfl
    have e : wrap32 ((off : Int) + 1) = ((off + 1 : Nat) : Int) := by have := HO.out; have := HN.out; unfold wrap32; omega
    rw [e]
    exact blk_put HT3.out 2 _ rfl
  · have hne : go ≠ g := by have := blk_lt HT2.out; have := HGO.out; omega
    exact far_at (far_at (far_at HOP.out hne 2 _) hne 4 _) hne 5 _

set_option maxHeartbeats 8000000 in
set_option maxRecDepth 100000 in
theorem next_push_bad (g : Nat) (A : Option Addr) (c : Nat) (l : List Int) (off : Nat) (pos : Int) (opv dv : Value) (w : World) (h : Tz w g A l.length c off pos opv dv .nilIface)
    (hn : l.length ≤ 2147483647) (ho : off < l.length) (P0 : Nat → Prop) (hs : Kd.V (Kd.int .u8) 5 w w.heap.size P0 (.slice A l.length c) l) (hP : ∀ k, P0 k → k ≠ g) (hb : Bytes l)
    (b : Int) (eb : l.getD off 0 = b) (q : Nat) (hL : opLength b = q) (hq : 2 ≤ q) (hbq : b + 1 = q) (hbad : l.length - off < q) :
    Calls Try.prog 35 #[.pointer (some ⟨g, 0, none⟩)] w fun e w' => e = .returned (.bool false) ∧ Only g w w' ∧
      ∃ pos' s, Tz w' g A l.length c (off : Int) pos' opv dv (.iface 77 (.agg #[.int .i64 27, .string s])) := by
  have hd : decide ((l.length : Int) ≤ (off : Int)) = false := decide_eq_false (by omega)
  have hbb := hb.getD off
  rw [eb] at hbb
  have z3 := h.c3
  have fz := h.fz
  have H := Lib.hid h
  have HN := Lib.hid hn
  have HS := Lib.hid hs
  have HP := Lib.hid hP
  have HO := Lib.hid ho
  have HBB := Lib.hid hbb
  have HBY := Lib.hid hb
  have EB := Lib.hid eb
  have HL := Lib.hid hL
  have HQ := Lib.hid hq
  have HBQ := Lib.hid hbq
  have q1 : ((q : Int) == 1) = false := by rw [beq_eq_false_iff_ne]; omega
  have q2 : decide ((1 : Int) < (q : Int)) = true := decide_eq_true (by omega)
  clear hL hq hbq
  have HBAD := Lib.hid hbad
  clear hbad
  clear h hn hs hb hbb eb ho hP
  go_enter Try.func35, Try.ntmps35
  go_upto_region 4 with (go_at_call 50; refine (done_calls _ _ _ _ _ _ _ _ _ H.out HN.out false hd).mono ?_; rintro e w' ⟨rfl, m, rfl⟩)
  obtain ⟨W2, hW2⟩ : ∃ W2, W2 = (w.drewN m).setCell ⟨g, 3, none⟩ (.int .i32 (wrap32 (pos + 1))) := ⟨_, rfl⟩
  rw [← hW2]
  have T2 : Tz W2 g A l.length c off (wrap32 (pos + 1)) opv dv .nilIface := by rw [hW2]; exact blk_put (blk_drewN H.out m) 3 _ rfl
  have O2 : Only g w W2 := by rw [hW2]; exact ((Only.refl g w).drewN m).set 3 _
  have S2 := Kd.V_keep HS.out O2.2 HP.out
  generalize wrap32 (pos + 1) = pos1 at T2 hW2
  clear hW2 z3 fz hd
  obtain ⟨ad, e, x0⟩ := Kd.at_int (Kd.V_reads' S2).2.2 (off : Int) (by omega) (by have := HO.out; omega)
  cases e
  simp only [rd, Int.toNat_natCast] at x0
  rw [EB.out] at x0
  have z0 := T2.c0
  have z2 := T2.c2
  have o1 : (off : Int) < (l.length : Int) := by have := HO.out; omega
  have HT2 := Lib.hid T2
  have HO2 := Lib.hid O2
  have HS2 := Lib.hid S2
  clear T2 O2 S2
  go_still_tail 10, (by kernel_rfl)
  change wpList _ _ _ _ _ W2.drew
  go_upto_region 11 with (go_at_call 51; refine (opcodeOf_calls' b HBB.out.1 HBB.out.2 _).mono ?_; rintro e W3 ⟨go, rfl, hgo, hop, hB3⟩; have HT3 := Lib.hid (show Tz W3 g (some ad) l.length c off pos1 opv dv .nilIface from blk_below (blk_drew HT2.out) hB3); have HO3 := Lib.hid (HO2.out.drew.below (blk_lt H.out) hB3); have HS3 := Lib.hid (Kd.V_below (Kd.V_drew HS2.out) hB3); have HGO := Lib.hid (show W2.heap.size ≤ go from hgo); have HOP := Lib.hid hop; have y2 : W3.cell? ⟨go, 2, none⟩ = some (.int .i64 (q : Int)) := (blk_cell hop 2).trans (by rw [HL.out]; rfl); clear hgo hop hB3 z0 z2 x0 o1; have z0 := HT3.out.c0; have z2 := HT3.out.c2; have z4 := HT3.out.c4; have z5 := HT3.out.c5; have z6 := HT3.out.c6; have fz := HT3.out.fz)
  obtain ⟨A2, m2, c2, hm2, cut1, hV1⟩ := from_fact .i32 HS3.out off (by have := HO.out; omega)
  have HV1 := Lib.hid hV1
  have HM2 := Lib.hid hm2
  clear hV1 hm2
  have q3 : decide (m2 < q) = true := decide_eq_true (by have := HBAD.out; have := HM2.out; omega)
  go_quiet (fail)
  have HT5 := Lib.hid (show Tz (W3.drewN nq) g (some ad) l.length c off pos1 opv dv .nilIface from blk_drewN HT3.out nq)
  have HO5 := Lib.hid (HO3.out.drewN nq)
  go_wp2_with (go_at_call 49; refine (PFnDisasmRead.btcdtxscript_scriptError.calls _ _ _ _ _ rfl).mono ?_; rintro e W4 ⟨rfl, hB4⟩; have HT4 := Lib.hid (blk_below HT5.out hB4); have HO4 := Lib.hid (HO5.out.below (blk_lt H.out) hB4); clear hB4 z0 z2 z4 z5 z6 fz; have z6 := (show Tz W4 g (some ad) l.length c off pos1 opv dv .nilIface from HT4.out).c6; have fz := (show Tz W4 g (some ad) l.length c off pos1 opv dv .nilIface from HT4.out).fz)
  go_ret
  exact ⟨rfl, HO4.out.set 6 _, pos1, _, blk_put HT4.out 6 _ rfl⟩

set_option maxHeartbeats 8000000 in
set_option maxRecDepth 100000 in
theorem next_push (g : Nat) (A : Option Addr) (c : Nat) (l : List Int) (off : Nat) (pos : Int) (opv dv : Value) (w : World) (h : Tz w g A l.length c off pos opv dv .nilIface)
    (hn : l.length ≤ 2147483647) (ho : off < l.length) (P0 : Nat → Prop) (hs : Kd.V (Kd.int .u8) 5 w w.heap.size P0 (.slice A l.length c) l) (hP : ∀ k, P0 k → k ≠ g) (hb : Bytes l)
    (b : Int) (eb : l.getD off 0 = b) (q : Nat) (hL : opLength b = q) (hq : 2 ≤ q) (hbq : b + 1 = q) (hok : q ≤ l.length - off) (k : Nat) (hk : k + 1 = q) :
    Calls Try.prog 35 #[.pointer (some ⟨g, 0, none⟩)] w fun e w' => e = .returned (.bool true) ∧ Only g w w' ∧
      ∃ pos' go dv', Tz w' g A l.length c ((off + 1 + 0 + k : Nat) : Int) pos' (.pointer (some ⟨go, 0, none⟩)) dv' .nilIface ∧ w.heap.size ≤ go ∧
        w'.heap[go]? = some (.cells #[.int .u8 b, .string (opRow b).name, .int .i64 (opLength b)] 88 (0, 0)) ∧
        Kd.V (Kd.int .u8) 5 w' w.heap.size P0 dv' ((l.drop (off + 1 + 0)).take k) := by
  have hd : decide ((l.length : Int) ≤ (off : Int)) = false := decide_eq_false (by omega)
  have hbb := hb.getD off
  rw [eb] at hbb
  have z3 := h.c3
  have fz := h.fz
  have H := Lib.hid h
  have HN := Lib.hid hn
  have HS := Lib.hid hs
  have HP := Lib.hid hP
  have HO := Lib.hid ho
  have HBB := Lib.hid hbb
  have HBY := Lib.hid hb
  have EB := Lib.hid eb
  have HL := Lib.hid hL
  have HQ := Lib.hid hq
  have HBQ := Lib.hid hbq
  have q1 : ((q : Int) == 1) = false := by rw [beq_eq_false_iff_ne]; omega
  have q2 : decide ((1 : Int) < (q : Int)) = true := decide_eq_true (by omega)
  clear hL hq hbq
  have HOK := Lib.hid hok
  have HK := Lib.hid hk
  clear hok hk
  clear h hn hs hb hbb eb ho hP
  go_enter Try.func35, Try.ntmps35
  go_upto_region 4 with (go_at_call 50; refine (done_calls _ _ _ _ _ _ _ _ _ H.out HN.out false hd).mono ?_; rintro e w' ⟨rfl, m, rfl⟩)
  obtain ⟨W2, hW2⟩ : ∃ W2, W2 = (w.drewN m).setCell ⟨g, 3, none⟩ (.int .i32 (wrap32 (pos + 1))) := ⟨_, rfl⟩
  rw [← hW2]
  have T2 : Tz W2 g A l.length c off (wrap32 (pos + 1)) opv dv .nilIface := by rw [hW2]; exact blk_put (blk_drewN H.out m) 3 _ rfl
  have O2 : Only g w W2 := by rw [hW2]; exact ((Only.refl g w).drewN m).set 3 _
  have S2 := Kd.V_keep HS.out O2.2 HP.out
  generalize wrap32 (pos + 1) = pos1 at T2 hW2
  clear hW2 z3 fz hd
  obtain ⟨ad, e, x0⟩ := Kd.at_int (Kd.V_reads' S2).2.2 (off : Int) (by omega) (by have := HO.out; omega)
  cases e
  simp only [rd, Int.toNat_natCast] at x0
  rw [EB.out] at x0
  have z0 := T2.c0
  have z2 := T2.c2
  have o1 : (off : Int) < (l.length : Int) := by have := HO.out; omega
  have HT2 := Lib.hid T2
  have HO2 := Lib.hid O2
  have HS2 := Lib.hid S2
  clear T2 O2 S2
  go_still_tail 10, (by kernel_rfl)
  change wpList _ _ _ _ _ W2.drew
  go_upto_region 11 with (go_at_call 51; refine (opcodeOf_calls' b HBB.out.1 HBB.out.2 _).mono ?_; rintro e W3 ⟨go, rfl, hgo, hop, hB3⟩; have HT3 := Lib.hid (show Tz W3 g (some ad) l.length c off pos1 opv dv .nilIface from blk_below (blk_drew HT2.out) hB3); have HO3 := Lib.hid (HO2.out.drew.below (blk_lt H.out) hB3); have HS3 := Lib.hid (Kd.V_below (Kd.V_drew HS2.out) hB3); have HGO := Lib.hid (show W2.heap.size ≤ go from hgo); have HOP := Lib.hid hop; have y2 : W3.cell? ⟨go, 2, none⟩ = some (.int .i64 (q : Int)) := (blk_cell hop 2).trans (by rw [HL.out]; rfl); clear hgo hop hB3 z0 z2 x0 o1; have z0 := HT3.out.c0; have z2 := HT3.out.c2; have z4 := HT3.out.c4; have z5 := HT3.out.c5; have z6 := HT3.out.c6; have fz := HT3.out.fz)
  obtain ⟨A2, m2, c2, hm2, cut1, hV1⟩ := from_fact .i32 HS3.out off (by have := HO.out; omega)
  have HV1 := Lib.hid hV1
  have HM2 := Lib.hid hm2
  clear hV1 hm2
  obtain ⟨A3, m3, c3, hm3, cut2, hV2⟩ := mid_fact .i64 .i64 HV1.out 1 q (by have := HQ.out; omega) (by rw [List.length_drop]; have := HOK.out; omega)
  replace cut2 : ∀ W', (Instr.slice 22 (.slice A2 m2 c2) (some (.int .i64 1)) (some (.int .i64 q)) none).run Try.prog W' = .ok (.slice A3 m3 c3) W' := cut2
  have HV2 := Lib.hid hV2
  clear hV2 hm3
  have q3 : decide (m2 < q) = false := decide_eq_false (by have := HOK.out; have := HM2.out; omega)
  go_quiet (fail)
  go_upto_region 16 with fail
  have HT5 := Lib.hid (show Tz (W3.drewN nq) g (some ad) l.length c off pos1 opv dv .nilIface from blk_drewN HT3.out nq)
  have HO5 := Lib.hid (HO3.out.drewN nq)
  have HV5 := Lib.hid (Kd.V_drewN HV2.out nq)
  have HOP5 := Lib.hid (blk_drewN HOP.out nq)
  generalize W3.drewN nq = W5 at HT5 HO5 HV5 HOP5 ⊢
  clear z0 z2 z4 z5 z6 y2 fz
  have y2 : W5.cell? ⟨go, 2, none⟩ = some (.int .i64 (q : Int)) := (blk_cell HOP5.out 2).trans (by rw [HL.out]; rfl)
  have z2 := HT5.out.c2
  have z4 := HT5.out.c4
  have z5 := HT5.out.c5
  have fz := HT5.out.fz
  have hne : go ≠ g := by have := blk_lt HT2.out; have := HGO.out; omega
  have hne2 : g ≠ go := fun e => hne e.symm
  go_still_tail 12, (by kernel_rfl)
  change wpList _ _ _ _ _ W5.drew
  go_wp2
  go_ret
  have e0 : k = q - 1 := by have := HK.out; omega
  have eD : (List.take q (List.drop off l)).drop 1 = (l.drop (off + 1 + 0)).take k := by rw [List.drop_take, List.drop_drop, e0]
  refine ⟨rfl, (((HO5.out.set 2 _).set 4 _).set 5 _).drew, pos1, go, .slice A3 m3 c3, ?_, Nat.le_trans HO2.out.2.1 HGO.out, ?_, ?_⟩
  · refine blk_drew ?_
    refine blk_put (cs := cellsT (some ad) l.length c ((off + 1 + 0 + k : Nat) : Int) pos1 (.pointer (some ⟨go, 0, none⟩)) dv .nilIface) ?_ 5 _ rfl
    refine blk_put (cs := cellsT (some ad) l.length c ((off + 1 + 0 + k : Nat) : Int) pos1 opv dv .nilIface) ?_ 4 _ rfl
    have e : wrap32 ((off : Int) + wrap32 (q : Int)) = ((off + 1 + 0 + k : Nat) : Int) := by
      have := HO.out; have := HN.out; have := HOK.out; have := HK.out
      have e1 : wrap32 (q : Int) = q := by unfold wrap32; omega
      rw [e1]; unfold wrap32; omega
    rw [e]
    exact blk_put HT5.out 2 _ rfl
  · exact blk_drew (far_at (far_at (far_at HOP5.out hne 2 _) hne 4 _) hne 5 _)
  · rw [← eD]
    exact Kd.V_drew (Kd.V_far (Kd.V_far (Kd.V_far HV5.out (p := ⟨g, 2, none⟩) HP.out _) (p := ⟨g, 4, none⟩) HP.out _) (p := ⟨g, 5, none⟩) HP.out _)

end Go.Proofs.Ytafpmdmmeohmfaa.Tok
