/-
  A builder of scripts: AddData, AddInt64, Script, a new one. Printed by wip/gen/build3.py.
-/
import Derived.Test.YtabdmbnggkageaaBuilder2
namespace Go.Proofs.Ytabdmbnggkageaa.Bld
open Go.RowKit Go.Proofs.YtabdmbnggkageaaW.PrintWords Go.Proofs.YtabdmbnggkageaaW.PrintLast Go.Proofs.YtabdmbnggkageaaW.PrintMore Go.Proofs.Ytabdmbnggkageaa.Num
set_option linter.unusedSimpArgs false
set_option linter.unusedVariables false

/-- Bytes that a builder pushes: no lone zero, and not too many. -/
def Okd (d : List Int) : Prop := d.length ≤ 520 ∧ (d.length = 1 → 1 ≤ rd d 0)
theorem size_any (w : World) (A : Option Addr) (c : Nat) (d : List Int) (hC : Kd.C (Kd.int .u8) w A d.length d) (hd : Okd d) :
    Calls Try.prog 57 #[.slice A d.length c] w fun e w' => ∃ r : Int, e = .returned (.int .i64 r) ∧ r = (pushB d).length ∧ Drawn0 w w' := by
  obtain ⟨h1, h2⟩ := hd
  by_cases a : d.length = 0
  · exact size_z w A c d hC a
  · by_cases b : d.length = 1
    · have := h2 b
      by_cases s : rd d 0 ≤ 16
      · exact size_s w A c d hC ⟨b, this, s⟩
      · by_cases m : rd d 0 = 129
        · exact size_m w A c d hC ⟨b, m⟩
        · exact size_o w A c d hC ⟨b, by omega, m⟩
    · by_cases p : d.length < 76
      · exact size_p w A c d hC ⟨by omega, p⟩
      · by_cases q : d.length ≤ 255
        · exact size_q w A c d hC ⟨by omega, q⟩
        · exact size_r w A c d hC ⟨by omega, h1⟩
theorem addData_any (w0 w : World) (g : Nat) (v : Value) (l : List Int) (A : Option Addr) (c : Nat) (d : List Int) (h : Bz w0 w g v l) (hdv : Dv w g v A c d) (hl : l.length ≤ 10000) (hd : Okd d) :
    Calls Try.prog 58 #[.pointer (some ⟨g, 0, none⟩), .slice A d.length c] w fun e w' => e = .returned (.pointer (some ⟨g, 0, none⟩)) ∧ ∃ v', Bz w0 w' g v' (l ++ pushB d) := by
  obtain ⟨h1, h2⟩ := hd
  by_cases a : d.length = 0
  · exact addData_z w0 w g v l A c d h hdv hl a
  · by_cases b : d.length = 1
    · have := h2 b
      by_cases s : rd d 0 ≤ 16
      · exact addData_s w0 w g v l A c d h hdv hl ⟨b, this, s⟩
      · by_cases m : rd d 0 = 129
        · exact addData_m w0 w g v l A c d h hdv hl ⟨b, m⟩
        · exact addData_o w0 w g v l A c d h hdv hl ⟨b, by omega, m⟩
    · by_cases p : d.length < 76
      · exact addData_p w0 w g v l A c d h hdv hl ⟨by omega, p⟩
      · by_cases q : d.length ≤ 255
        · exact addData_q w0 w g v l A c d h hdv hl ⟨by omega, q⟩
        · exact addData_r w0 w g v l A c d h hdv hl ⟨by omega, h1⟩
set_option maxHeartbeats 8000000 in
set_option maxRecDepth 100000 in
theorem add_calls (w0 w : World) (g : Nat) (v : Value) (l : List Int) (A : Option Addr) (c : Nat) (d : List Int) (h : Bz w0 w g v l) (hdv : Dv w g v A c d) (hl : l.length + (pushB d).length ≤ 10000) (hd : Okd d) :
    Calls Try.prog 31 #[.pointer (some ⟨g, 0, none⟩), .slice A d.length c] w fun e w' => e = .returned (.pointer (some ⟨g, 0, none⟩)) ∧ ∃ v', Bz w0 w' g v' (l ++ pushB d) := by
  have z0 := h.c0
  have z1 := h.c1
  have BZ := Lib.hid h
  have DV := Lib.hid hdv
  have HL := Lib.hid hl
  have HD := Lib.hid hd
  have hd1 := hd.1
  obtain ⟨Av, cv, rfl⟩ := Kd.R_slice h.R
  have q62 : ∀ w : World, (binOp .neq 53 .nilIface .nilIface).run Try.prog w = .ok (.bool false) w := fun w => run_neq_nil_nil _ _ (by kernel_rfl)
  have c3 : decide ((520 : Int) < (d.length : Int)) = false := decide_eq_false (by omega)
  have c4 : decide (520 < d.length) = false := decide_eq_false (by omega)
  have hl1 : l.length ≤ 10000 := by omega
  clear h hdv hl hd
  go_enter Try.func31, Try.ntmps31
  go_wp2_with (first
    | (go_at_call 57; go_must (refine (size_any _ _ _ _ DV.out.C HD.out).mono ?_; rintro e w1 ⟨r, rfl, hr, ⟨m, rfl⟩⟩; have r0 : 0 ≤ r := (by omega); have r1 : (l.length : Int) + r ≤ 10000 := (by have := HL.out; omega); have r2 : decide ((10000 : Int) < (l.length : Int) + r) = false := decide_eq_false (by omega); clear hr))
    | (go_at_call 58; go_must (refine (addData_any w0 _ g _ l A c d (BZ.out.below (pw_below_drewN (Below.refl _ _) _)) (DV.out.below (pw_below_drewN (Below.refl _ _) _)) (by omega) HD.out).mono ?_; rintro e w2 ⟨rfl, v2, h2⟩; have HZ := Lib.hid h2; clear h2)))
  go_ret
  exact ⟨rfl, _, HZ.out⟩

theorem digs_small {m : Nat} (h0 : m ≠ 0) (h : m < 256) : digs m = [(m : Int)] := by
  rw [digs_pos h0, show m / 256 = 0 by omega, digs_zero]
  congr 1
  omega
theorem numB_small (n : Int) (h : 1 ≤ n ∧ n ≤ 16) : numB n = [n] := by
  obtain ⟨m, rfl⟩ := Int.eq_ofNat_of_zero_le (a := n) (by omega)
  have e : digs (Int.natAbs (m : Int)) = [(m : Int)] := digs_small (by omega) (by omega)
  unfold numB
  have h3 := signB_snoc (decide ((m : Int) < 0)) [] (m : Int)
  have h4 : decide ((m : Int) < 0) = false := decide_eq_false (by omega)
  rw [if_neg (by omega), e]
  simp only [List.nil_append] at h3
  rw [h3, if_neg (by omega), h4]
  rfl
theorem numB_minus : numB (-1) = [129] := by
  have e : digs (Int.natAbs (-1)) = [1] := digs_small (by decide) (by decide)
  unfold numB
  rw [if_neg (by decide), e]
  decide
theorem push_small (n : Int) (h : 1 ≤ n ∧ n ≤ 16) : pushB (numB n) = [80 + n] := by
  rw [numB_small n h]
  unfold pushB
  have e : rd [n] 0 = n := rfl
  simp only [e, List.length_singleton]
  rw [if_neg (by decide), if_pos (by first | exact ⟨rfl, h.1, h.2⟩ | exact ⟨trivial, h.1, h.2⟩)]
theorem push_minus : pushB (numB (-1)) = [79] := by
  rw [numB_minus]
  decide
theorem push_zero : pushB (numB 0) = [0] := by decide
theorem numB_okd (n : Int) (h1 : -9223372036854775808 < n) (h2 : n < 9223372036854775808) : Okd (numB n) := by
  obtain ⟨_, hs, hb, hl⟩ := numB_facts n h1 h2
  refine ⟨by omega, fun h => ?_⟩
  generalize numB n = l at *
  obtain ⟨x, rfl⟩ : ∃ x, l = [x] := List.length_eq_one_iff.1 h
  have := hb x (by simp)
  rcases hs with h | h | h
  · cases h
  · have e : last [x] = x := rfl
    have e2 : rd [x] 0 = x := rfl
    rw [e] at h
    rw [e2]
    omega
  · simp at h
theorem new_dv {w w1 : World} {w0 : World} {g : Nat} {v : Value} {l d : List Int} {A : Option Addr} {c : Nat} (h : Bz w0 w g v l) (hR : Kd.R (Kd.int .u8) 5 w1 w.heap.size (fun _ => True) (.slice A d.length c) d) : Dv w1 g v A c d :=
  Kd.R_V (Kd.R_mono (Kd.R_bound hR) (fun k hk => ⟨by have := blk_lt h.blk; have := hk.2.1; omega, fun e => by have := Kd.R_lt h.R k e.symm; have := hk.2.1; omega⟩))

set_option maxHeartbeats 8000000 in
set_option maxRecDepth 100000 in
theorem addInt_z (w0 w : World) (g : Nat) (v : Value) (l : List Int) (n : Int) (h : Bz w0 w g v l) (hl : l.length + (pushB (numB n)).length ≤ 10000) (hl1 : l.length + 1 ≤ 10000) (hn : n = 0) :
    Calls Try.prog 32 #[.pointer (some ⟨g, 0, none⟩), .int .i64 n] w fun e w' => e = .returned (.pointer (some ⟨g, 0, none⟩)) ∧ ∃ v', Bz w0 w' g v' (l ++ pushB (numB n)) := by
  have z0 := h.c0
  have z1 := h.c1
  have BZ := Lib.hid h
  have HL0 := Lib.hid hl
  have HL := Lib.hid (show l.length ≤ 10000 by omega)
  have HD := Lib.hid (show (0 : Nat) ≤ 520 by omega)
  have HN := Lib.hid hn
  obtain ⟨Av, cv, rfl⟩ := Kd.R_slice h.R
  have q62 : ∀ w : World, (binOp .neq 53 .nilIface .nilIface).run Try.prog w = .ok (.bool false) w := fun w => run_neq_nil_nil _ _ (by kernel_rfl)
  have c1 : wrap64 ((l.length : Int) + 1) = ((l.length + 1 : Nat) : Int) := by rw [wrap64_id (by omega) (by omega)]; omega
  have c2 : decide ((10000 : Int) < ((l.length + 1 : Nat) : Int)) = false := decide_eq_false (by omega)
  have c3 : decide ((10000 : Int) < (l.length : Int) + 1) = false := decide_eq_false (by omega)
  have f0 : (n == 0) = true := beq_iff_eq.2 (by omega)
  have f1 : (n == -1) = false := beq_eq_false_iff_ne.2 (by omega)
  have f2 : decide (1 ≤ n) = false := decide_eq_false (by omega)
  have f3 : decide (n ≤ 16) = true := decide_eq_true (by omega)
  clear h hl hn
  go_enter Try.func32, Try.ntmps32
  go_wp2_with ((with_reducible refine gate_builtin (b := .append) (xs := #[.tmp 31, .tmp 32]) rfl ?_); at_builtin; go_must (refine Kd.R_append (Kd.int .u8) (w0 := w0) w0.heap.size rfl (.tmp 31) (.tmp 32) 22 5 (.int .u8 0) 1 rfl Try.underlying22 info_u8 rfl (by decide) (by omega) _ ?xsN1 ?ppN1 _ (fun k => k ≠ g) (fun _ => False) rfl rfl ?aP (fun _ hk => hk.elim) ?aF ?aO ?aB ?aS ?aL ?_; (case aO => exact (by (with_reducible repeat (first | apply Kd.R_alloc | apply Kd.R_drewN | apply Kd.R_drew)); exact BZ.out.R)); (case aP => exact rfl); (case aB => exact (by repeat (first | exact BZ.out.B | apply below_alloc | apply pw_below_drewN | apply below_drew1))); (case aF => exact fun k hk => BZ.out.fresh (by first | exact Below.refl _ _ | exact pw_below_drewN (Below.refl _ _) _ | exact below_alloc (Below.refl _ _) _) hk); (case aS => exact (below_size (by repeat (first | exact BZ.out.B | apply below_alloc | apply pw_below_drewN | apply below_drew1)))); (case aL => (try simp only [List.length_append, List.length_cons, List.length_nil]); have := HL.out; have := HD.out; omega); intro v_ w_ ho_ hb hg hat; obtain ⟨l_, hq, ho⟩ := nameR ho_; have N1 := Lib.hid hq; have HLn := Lib.hid (show l_.length ≤ 11000 from by rw [hq]; simp only [List.length_append, List.length_cons, List.length_nil]; have := HL.out; have := HD.out; omega); clear HL; have HL := HLn; clear HLn hq ho_; obtain ⟨A_, c_, rfl⟩ := Kd.R_slice ho; have z0_ := (BZ.out.mid (by first | exact Below.refl _ _ | exact pw_below_drewN (Below.refl _ _) _ | exact below_alloc (Below.refl _ _) _) hg).1; have zf_ := (BZ.out.mid (by first | exact Below.refl _ _ | exact pw_below_drewN (Below.refl _ _) _ | exact below_alloc (Below.refl _ _) _) hg).2; have n0_ := Lib.hid (BZ.out.push (by first | exact Below.refl _ _ | exact pw_below_drewN (Below.refl _ _) _ | exact below_alloc (Below.refl _ _) _) ho hb hg); clear BZ; have BZ := n0_; clear n0_ ho hb hg hat))
  go_ret
  exact ⟨rfl, BZ.out.cast (by rw [N1.out, HN.out, push_zero])⟩

set_option maxHeartbeats 8000000 in
set_option maxRecDepth 100000 in
theorem addInt_m (w0 w : World) (g : Nat) (v : Value) (l : List Int) (n : Int) (h : Bz w0 w g v l) (hl : l.length + (pushB (numB n)).length ≤ 10000) (hl1 : l.length + 1 ≤ 10000) (hn : n = -1) :
    Calls Try.prog 32 #[.pointer (some ⟨g, 0, none⟩), .int .i64 n] w fun e w' => e = .returned (.pointer (some ⟨g, 0, none⟩)) ∧ ∃ v', Bz w0 w' g v' (l ++ pushB (numB n)) := by
  have z0 := h.c0
  have z1 := h.c1
  have BZ := Lib.hid h
  have HL0 := Lib.hid hl
  have HL := Lib.hid (show l.length ≤ 10000 by omega)
  have HD := Lib.hid (show (0 : Nat) ≤ 520 by omega)
  have HN := Lib.hid hn
  obtain ⟨Av, cv, rfl⟩ := Kd.R_slice h.R
  have q62 : ∀ w : World, (binOp .neq 53 .nilIface .nilIface).run Try.prog w = .ok (.bool false) w := fun w => run_neq_nil_nil _ _ (by kernel_rfl)
  have c1 : wrap64 ((l.length : Int) + 1) = ((l.length + 1 : Nat) : Int) := by rw [wrap64_id (by omega) (by omega)]; omega
  have c2 : decide ((10000 : Int) < ((l.length + 1 : Nat) : Int)) = false := decide_eq_false (by omega)
  have c3 : decide ((10000 : Int) < (l.length : Int) + 1) = false := decide_eq_false (by omega)
  have f0 : (n == 0) = false := beq_eq_false_iff_ne.2 (by omega)
  have f1 : (n == -1) = true := beq_iff_eq.2 (by omega)
  have f2 : decide (1 ≤ n) = false := decide_eq_false (by omega)
  have f3 : decide (n ≤ 16) = true := decide_eq_true (by omega)
  clear h hl hn
  go_enter Try.func32, Try.ntmps32
  go_wp2_with ((with_reducible refine gate_builtin (b := .append) (xs := #[.tmp 51, .tmp 55]) rfl ?_); at_builtin; go_must (refine Kd.R_append (Kd.int .u8) (w0 := w0) w0.heap.size rfl (.tmp 51) (.tmp 55) 22 5 (.int .u8 0) 1 rfl Try.underlying22 info_u8 rfl (by decide) (by omega) _ ?xsN1 ?ppN1 _ (fun k => k ≠ g) (fun _ => False) rfl rfl ?aP (fun _ hk => hk.elim) ?aF ?aO ?aB ?aS ?aL ?_; (case aO => exact (by (with_reducible repeat (first | apply Kd.R_alloc | apply Kd.R_drewN | apply Kd.R_drew)); exact BZ.out.R)); (case aP => exact rfl); (case aB => exact (by repeat (first | exact BZ.out.B | apply below_alloc | apply pw_below_drewN | apply below_drew1))); (case aF => exact fun k hk => BZ.out.fresh (by first | exact Below.refl _ _ | exact pw_below_drewN (Below.refl _ _) _ | exact below_alloc (Below.refl _ _) _) hk); (case aS => exact (below_size (by repeat (first | exact BZ.out.B | apply below_alloc | apply pw_below_drewN | apply below_drew1)))); (case aL => (try simp only [List.length_append, List.length_cons, List.length_nil]); have := HL.out; have := HD.out; omega); intro v_ w_ ho_ hb hg hat; obtain ⟨l_, hq, ho⟩ := nameR ho_; have N1 := Lib.hid hq; have HLn := Lib.hid (show l_.length ≤ 11000 from by rw [hq]; simp only [List.length_append, List.length_cons, List.length_nil]; have := HL.out; have := HD.out; omega); clear HL; have HL := HLn; clear HLn hq ho_; obtain ⟨A_, c_, rfl⟩ := Kd.R_slice ho; have z0_ := (BZ.out.mid (by first | exact Below.refl _ _ | exact pw_below_drewN (Below.refl _ _) _ | exact below_alloc (Below.refl _ _) _) hg).1; have zf_ := (BZ.out.mid (by first | exact Below.refl _ _ | exact pw_below_drewN (Below.refl _ _) _ | exact below_alloc (Below.refl _ _) _) hg).2; have n0_ := Lib.hid (BZ.out.push (by first | exact Below.refl _ _ | exact pw_below_drewN (Below.refl _ _) _ | exact below_alloc (Below.refl _ _) _) ho hb hg); clear BZ; have BZ := n0_; clear n0_ ho hb hg hat))
  go_ret
  exact ⟨rfl, BZ.out.cast (by rw [N1.out, HN.out, push_minus]; all_goals first | rfl | decide | (simp; unfold wrap64; omega) | (simp; done))⟩

set_option maxHeartbeats 8000000 in
set_option maxRecDepth 100000 in
theorem addInt_s (w0 w : World) (g : Nat) (v : Value) (l : List Int) (n : Int) (h : Bz w0 w g v l) (hl : l.length + (pushB (numB n)).length ≤ 10000) (hl1 : l.length + 1 ≤ 10000) (hn : 1 ≤ n ∧ n ≤ 16) :
    Calls Try.prog 32 #[.pointer (some ⟨g, 0, none⟩), .int .i64 n] w fun e w' => e = .returned (.pointer (some ⟨g, 0, none⟩)) ∧ ∃ v', Bz w0 w' g v' (l ++ pushB (numB n)) := by
  have z0 := h.c0
  have z1 := h.c1
  have BZ := Lib.hid h
  have HL0 := Lib.hid hl
  have HL := Lib.hid (show l.length ≤ 10000 by omega)
  have HD := Lib.hid (show (0 : Nat) ≤ 520 by omega)
  have HN := Lib.hid hn
  obtain ⟨Av, cv, rfl⟩ := Kd.R_slice h.R
  have q62 : ∀ w : World, (binOp .neq 53 .nilIface .nilIface).run Try.prog w = .ok (.bool false) w := fun w => run_neq_nil_nil _ _ (by kernel_rfl)
  have c1 : wrap64 ((l.length : Int) + 1) = ((l.length + 1 : Nat) : Int) := by rw [wrap64_id (by omega) (by omega)]; omega
  have c2 : decide ((10000 : Int) < ((l.length + 1 : Nat) : Int)) = false := decide_eq_false (by omega)
  have c3 : decide ((10000 : Int) < (l.length : Int) + 1) = false := decide_eq_false (by omega)
  have f0 : (n == 0) = false := beq_eq_false_iff_ne.2 (by omega)
  have f1 : (n == -1) = false := beq_eq_false_iff_ne.2 (by omega)
  have f2 : decide (1 ≤ n) = true := decide_eq_true (by omega)
  have f3 : decide (n ≤ 16) = true := decide_eq_true (by omega)
  have hn1 := hn.1
  have hn2 := hn.2
  clear h hl hn
  go_enter Try.func32, Try.ntmps32
  go_wp2_with ((with_reducible refine gate_builtin (b := .append) (xs := #[.tmp 51, .tmp 55]) rfl ?_); at_builtin; go_must (refine Kd.R_append (Kd.int .u8) (w0 := w0) w0.heap.size rfl (.tmp 51) (.tmp 55) 22 5 (.int .u8 0) 1 rfl Try.underlying22 info_u8 rfl (by decide) (by omega) _ ?xsN1 ?ppN1 _ (fun k => k ≠ g) (fun _ => False) rfl rfl ?aP (fun _ hk => hk.elim) ?aF ?aO ?aB ?aS ?aL ?_; (case aO => exact (by (with_reducible repeat (first | apply Kd.R_alloc | apply Kd.R_drewN | apply Kd.R_drew)); exact BZ.out.R)); (case aP => exact rfl); (case aB => exact (by repeat (first | exact BZ.out.B | apply below_alloc | apply pw_below_drewN | apply below_drew1))); (case aF => exact fun k hk => BZ.out.fresh (by first | exact Below.refl _ _ | exact pw_below_drewN (Below.refl _ _) _ | exact below_alloc (Below.refl _ _) _) hk); (case aS => exact (below_size (by repeat (first | exact BZ.out.B | apply below_alloc | apply pw_below_drewN | apply below_drew1)))); (case aL => (try simp only [List.length_append, List.length_cons, List.length_nil]); have := HL.out; have := HD.out; omega); intro v_ w_ ho_ hb hg hat; obtain ⟨l_, hq, ho⟩ := nameR ho_; have N1 := Lib.hid hq; have HLn := Lib.hid (show l_.length ≤ 11000 from by rw [hq]; simp only [List.length_append, List.length_cons, List.length_nil]; have := HL.out; have := HD.out; omega); clear HL; have HL := HLn; clear HLn hq ho_; obtain ⟨A_, c_, rfl⟩ := Kd.R_slice ho; have z0_ := (BZ.out.mid (by first | exact Below.refl _ _ | exact pw_below_drewN (Below.refl _ _) _ | exact below_alloc (Below.refl _ _) _) hg).1; have zf_ := (BZ.out.mid (by first | exact Below.refl _ _ | exact pw_below_drewN (Below.refl _ _) _ | exact below_alloc (Below.refl _ _) _) hg).2; have n0_ := Lib.hid (BZ.out.push (by first | exact Below.refl _ _ | exact pw_below_drewN (Below.refl _ _) _ | exact below_alloc (Below.refl _ _) _) ho hb hg); clear BZ; have BZ := n0_; clear n0_ ho hb hg hat))
  go_ret
  exact ⟨rfl, BZ.out.cast (by rw [N1.out, push_small n HN.out]; all_goals first | rfl | (rw [IntKind.wrap_u8, Int.emod_eq_of_lt (by omega) (by omega)]))⟩

set_option maxHeartbeats 8000000 in
set_option maxRecDepth 100000 in
theorem addInt_n (w0 w : World) (g : Nat) (v : Value) (l : List Int) (n : Int) (h : Bz w0 w g v l) (hl : l.length + (pushB (numB n)).length ≤ 10000) (hl1 : l.length + 1 ≤ 10000) (hn : n < -1 ∧ -9223372036854775808 < n) :
    Calls Try.prog 32 #[.pointer (some ⟨g, 0, none⟩), .int .i64 n] w fun e w' => e = .returned (.pointer (some ⟨g, 0, none⟩)) ∧ ∃ v', Bz w0 w' g v' (l ++ pushB (numB n)) := by
  have z0 := h.c0
  have z1 := h.c1
  have BZ := Lib.hid h
  have HL0 := Lib.hid hl
  have HL := Lib.hid (show l.length ≤ 10000 by omega)
  have HD := Lib.hid (show (0 : Nat) ≤ 520 by omega)
  have HN := Lib.hid hn
  obtain ⟨Av, cv, rfl⟩ := Kd.R_slice h.R
  have q62 : ∀ w : World, (binOp .neq 53 .nilIface .nilIface).run Try.prog w = .ok (.bool false) w := fun w => run_neq_nil_nil _ _ (by kernel_rfl)
  have c1 : wrap64 ((l.length : Int) + 1) = ((l.length + 1 : Nat) : Int) := by rw [wrap64_id (by omega) (by omega)]; omega
  have c2 : decide ((10000 : Int) < ((l.length + 1 : Nat) : Int)) = false := decide_eq_false (by omega)
  have c3 : decide ((10000 : Int) < (l.length : Int) + 1) = false := decide_eq_false (by omega)
  have f0 : (n == 0) = false := beq_eq_false_iff_ne.2 (by omega)
  have f1 : (n == -1) = false := beq_eq_false_iff_ne.2 (by omega)
  have f2 : decide (1 ≤ n) = false := decide_eq_false (by omega)
  have f3 : decide (n ≤ 16) = true := decide_eq_true (by omega)
  have HNR := Lib.hid (show -9223372036854775808 < n ∧ n < 9223372036854775808 by omega)
  clear h hl hn
  go_enter Try.func32, Try.ntmps32
  go_wp2_with (first | (go_at_call 53; refine (bytes_calls n _ HNR.out.1 HNR.out.2).mono ?_; rintro e w1 ⟨v1, rfl, hR, hB⟩; obtain ⟨Ad, cd, rfl⟩ := Kd.R_slice hR; have DV := Lib.hid (new_dv BZ.out hR); have BZ2 := Lib.hid (BZ.out.below hB); clear hR hB BZ; have BZ := BZ2; clear BZ2) | (go_at_call 31; refine (add_calls w0 _ g _ l _ _ _ BZ.out DV.out HL0.out (numB_okd n HNR.out.1 HNR.out.2)).mono ?_; rintro e w2 ⟨rfl, v2, h2⟩; have HZ := Lib.hid h2; clear h2))
  go_ret
  exact ⟨rfl, _, HZ.out⟩

set_option maxHeartbeats 8000000 in
set_option maxRecDepth 100000 in
theorem addInt_p (w0 w : World) (g : Nat) (v : Value) (l : List Int) (n : Int) (h : Bz w0 w g v l) (hl : l.length + (pushB (numB n)).length ≤ 10000) (hl1 : l.length + 1 ≤ 10000) (hn : 16 < n ∧ n < 9223372036854775808) :
    Calls Try.prog 32 #[.pointer (some ⟨g, 0, none⟩), .int .i64 n] w fun e w' => e = .returned (.pointer (some ⟨g, 0, none⟩)) ∧ ∃ v', Bz w0 w' g v' (l ++ pushB (numB n)) := by
  have z0 := h.c0
  have z1 := h.c1
  have BZ := Lib.hid h
  have HL0 := Lib.hid hl
  have HL := Lib.hid (show l.length ≤ 10000 by omega)
  have HD := Lib.hid (show (0 : Nat) ≤ 520 by omega)
  have HN := Lib.hid hn
  obtain ⟨Av, cv, rfl⟩ := Kd.R_slice h.R
  have q62 : ∀ w : World, (binOp .neq 53 .nilIface .nilIface).run Try.prog w = .ok (.bool false) w := fun w => run_neq_nil_nil _ _ (by kernel_rfl)
  have c1 : wrap64 ((l.length : Int) + 1) = ((l.length + 1 : Nat) : Int) := by rw [wrap64_id (by omega) (by omega)]; omega
  have c2 : decide ((10000 : Int) < ((l.length + 1 : Nat) : Int)) = false := decide_eq_false (by omega)
  have c3 : decide ((10000 : Int) < (l.length : Int) + 1) = false := decide_eq_false (by omega)
  have f0 : (n == 0) = false := beq_eq_false_iff_ne.2 (by omega)
  have f1 : (n == -1) = false := beq_eq_false_iff_ne.2 (by omega)
  have f2 : decide (1 ≤ n) = true := decide_eq_true (by omega)
  have f3 : decide (n ≤ 16) = false := decide_eq_false (by omega)
  have HNR := Lib.hid (show -9223372036854775808 < n ∧ n < 9223372036854775808 by omega)
  clear h hl hn
  go_enter Try.func32, Try.ntmps32
  go_wp2_with (first | (go_at_call 53; refine (bytes_calls n _ HNR.out.1 HNR.out.2).mono ?_; rintro e w1 ⟨v1, rfl, hR, hB⟩; obtain ⟨Ad, cd, rfl⟩ := Kd.R_slice hR; have DV := Lib.hid (new_dv BZ.out hR); have BZ2 := Lib.hid (BZ.out.below hB); clear hR hB BZ; have BZ := BZ2; clear BZ2) | (go_at_call 31; refine (add_calls w0 _ g _ l _ _ _ BZ.out DV.out HL0.out (numB_okd n HNR.out.1 HNR.out.2)).mono ?_; rintro e w2 ⟨rfl, v2, h2⟩; have HZ := Lib.hid h2; clear h2))
  go_ret
  exact ⟨rfl, _, HZ.out⟩

theorem addInt_calls (w0 w : World) (g : Nat) (v : Value) (l : List Int) (n : Int) (h : Bz w0 w g v l) (hl : l.length + (pushB (numB n)).length ≤ 10000) (h1 : -9223372036854775808 < n) (h2 : n < 9223372036854775808) :
    Calls Try.prog 32 #[.pointer (some ⟨g, 0, none⟩), .int .i64 n] w fun e w' => e = .returned (.pointer (some ⟨g, 0, none⟩)) ∧ ∃ v', Bz w0 w' g v' (l ++ pushB (numB n)) := by
  have hp : 1 ≤ (pushB (numB n)).length := by
    unfold pushB
    repeat' split
    all_goals simp
  by_cases a : n = 0
  · exact addInt_z w0 w g v l n h hl (by omega) a
  · by_cases b : n = -1
    · exact addInt_m w0 w g v l n h hl (by omega) b
    · by_cases c : 1 ≤ n ∧ n ≤ 16
      · exact addInt_s w0 w g v l n h hl (by omega) c
      · by_cases d : n < 0
        · exact addInt_n w0 w g v l n h hl (by omega) (by omega)
        · exact addInt_p w0 w g v l n h hl (by omega) (by omega)
set_option maxHeartbeats 8000000 in
set_option maxRecDepth 100000 in
theorem script_calls (w0 w : World) (g : Nat) (v : Value) (l : List Int) (h : Bz w0 w g v l) :
    Calls Try.prog 35 #[.pointer (some ⟨g, 0, none⟩)] w fun e w' => e = .returned (.tuple #[v, .nilIface]) ∧ Drawn0 w w' := by
  have z0 := h.c0
  have z1 := h.c1
  clear h
  go_enter Try.func35, Try.ntmps35
  go_wp2
  go_quiet (fail)
  go_wp2
  go_ret2
  exact ⟨rfl, by repeat (first | exact Drawn0.refl _ | apply Drawn0.step)⟩
set_option maxHeartbeats 8000000 in
set_option maxRecDepth 100000 in
theorem config_calls (w : World) :
    Calls Try.prog 56 #[] w fun e w' => e = .returned (.pointer (some ⟨w.heap.size, 0, none⟩)) ∧ w' = w.alloc (.cells #[.int .i64 500] 93) := by
  go_enter Try.func56, Try.ntmps56
  go_wp2
  go_ret
  exact ⟨rfl, rfl⟩
set_option maxHeartbeats 8000000 in
set_option maxRecDepth 100000 in
theorem new_calls (w : World) :
    Calls Try.prog 29 #[.slice none 0 0] w fun e w' => ∃ g v, e = .returned (.pointer (some ⟨g, 0, none⟩)) ∧ Bz w w' g v [] := by
  have hmk : ∀ W : World, (Instr.makeSlice 22 (.int .i64 0) (.int .i64 500)).run Try.prog W = .ok (.slice (some ⟨W.heap.size, 0, none⟩) 0 500) (W.alloc (.cells (madeCells #[.int .u8 0] 500) 5)) := fun W => by
    obtain ⟨i0, hi, hz⟩ := Option.map_eq_some_iff.1 info_u8
    simp only [Prod.mk.injEq] at hz
    obtain ⟨z1, z2, z3⟩ := hz
    have h := run_make (P := Try.prog) W 22 5 i0 (.int .u8 0) Try.underlying22 hi z1 .i64 .i64 0 500 (by decide) (by decide) (by rw [z3]; decide) (by decide)
    rw [z2] at h
    exact h
  obtain ⟨cur, hcur, hcs⟩ : ∃ cur : Array Value, madeCells #[.int .u8 0] 500 = cur ∧ cur.size = 500 := ⟨_, rfl, size_madeCells _ _⟩
  rw [hcur] at hmk
  clear hcur
  have HCS := Lib.hid hcs
  clear hcs
  go_enter Try.func29, Try.ntmps29
  go_wp2_with (go_at_call 56; refine (config_calls _).mono ?_; rintro e w1 ⟨rfl, rfl⟩)
  go_loop [9] (fun v9 => v9 = .int .i64 0) (fun _ => 0)
  case atStart => rfl
  case round =>
    obtain rfl := hrel
    go_wp2
    go_ret
    skip
    have hz : Bz w (((w.alloc (.cells #[.int .i64 500] 93)).alloc (.cells cur 5)).alloc (.cells #[.slice (some ⟨w.heap.size + 1, 0, none⟩) 0 500, .nilIface] 95)) (w.heap.size + 1 + 1) (.slice (some ⟨w.heap.size + 1, 0, none⟩) 0 500) [] := by
      have hs : (w.alloc (.cells #[.int .i64 500] 93)).heap.size = w.heap.size + 1 := by simp
      have hs2 : ((w.alloc (.cells #[.int .i64 500] 93)).alloc (.cells cur 5)).heap.size = w.heap.size + 1 + 1 := by simp
      refine ⟨below_alloc (below_alloc (below_alloc (Below.refl _ _) _) _) _, by omega, ?_, ?_⟩
      · have h := blk_new ((w.alloc (.cells #[.int .i64 500] 93)).alloc (.cells cur 5)) (.cells #[.slice (some ⟨w.heap.size + 1, 0, none⟩) 0 500, .nilIface] 95 (0, 0))
        rw [hs2] at h
        exact h
      · have h := made0 (w.alloc (.cells #[.int .i64 500] 93)) w.heap.size 5 .u8 500 cur (fun k => k ≠ w.heap.size + 1 + 1) (by omega) (by decide) (by rw [HCS.out]) (by omega)
        rw [hs] at h
        exact Kd.R_alloc h _
    exact ⟨_, rfl, _, hz⟩

end Go.Proofs.Ytabdmbnggkageaa.Bld
