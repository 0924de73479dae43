/-
  A builder of scripts: a push of more than 255 bytes; AddData, AddInt64. Printed by wip/gen/build2.py.
-/
import Derived.Test.YtabdmbnggkageaaBuilder
namespace Go.Proofs.Ytabdmbnggkageaa.Bld
open Go.RowKit Go.Proofs.YtabdmbnggkageaaW.PrintWords Go.Proofs.YtabdmbnggkageaaW.PrintLast Go.Proofs.YtabdmbnggkageaaW.PrintMore Go.Proofs.Ytabdmbnggkageaa.Num
set_option linter.unusedSimpArgs false
set_option linter.unusedVariables false

set_option maxHeartbeats 8000000 in
set_option maxRecDepth 100000 in
theorem put16_calls (b : Nat) (n lo hi : Int) (w : World) (hb : w.heap[b]? = some (.cells #[.int .u8 0, .int .u8 0] 5 (0, 0))) (h0 : 0 ≤ n) (hn : n < 65536) (hlo : n % 256 = lo) (hhi : n / 256 = hi) :
    Calls Try.prog 74 #[.agg #[], .slice (some ⟨b, 0, none⟩) 2 2, .int .u16 n] w fun e w' =>
      e = .returned (.tuple #[]) ∧ ∃ o, w' = ((w.alloc o).setCell ⟨b, 0, none⟩ (.int .u8 lo)).setCell ⟨b, 1, none⟩ (.int .u8 hi) := by
  have hb2 : ∀ o, (w.alloc o).heap[b]? = some (.cells #[.int .u8 0, .int .u8 0] 5 (0, 0)) := fun o => blk_alloc hb o
  have c1 : ∀ o, (w.alloc o).cell? ⟨b, 1, none⟩ = some (.int .u8 0) := fun o => (blk_cell (hb2 o) 1).trans rfl
  have c0 : ∀ o, (w.alloc o).cell? ⟨b, 0, none⟩ = some (.int .u8 0) := fun o => (blk_cell (hb2 o) 0).trans rfl
  have z0 : ∀ o, (w.alloc o).frozen? ⟨b, 0, none⟩ = false := fun o => blk_frozen (hb2 o) 0
  have z1 : ∀ o, (w.alloc o).frozen? ⟨b, 1, none⟩ = false := fun o => blk_frozen (hb2 o) 1
  have e0 : IntKind.u8.wrap n = lo := by rw [IntKind.wrap_u8]; omega
  have e2 : IntKind.u8.wrap hi = hi := by rw [IntKind.wrap_u8]; omega
  clear hb hb2 hlo
  go_enter Try.func74, Try.ntmps74
  go_wp2
  go_end0
  exact ⟨rfl, _, rfl⟩
theorem blkC {W : World} {b : Nat} {x y : Int} (h : W.heap[b]? = some (.cells #[.int .u8 x, .int .u8 y] 5 (0, 0))) : Kd.C (Kd.int .u8) W (some ⟨b, 0, none⟩) 2 [x, y] := by
  have ho : W.ownsRow 0 5 1 (.slice (some ⟨b, 0, none⟩) 2 2) 2 (nums .u8 [x, y]) :=
    ⟨rfl, .inr ⟨b, 2, _, rfl, Nat.zero_le _, h, Nat.le_refl _, by decide, rfl, rfl⟩⟩
  exact Kd.C_of_reads (d := (0 : Int)) (h1 := fun _ => rfl) (own_reads' (xs := [x, y]) ho)
theorem buf_dv {W : World} {b g : Nat} {v : Value} {x y : Int} (h : W.heap[b]? = some (.cells #[.int .u8 x, .int .u8 y] 5 (0, 0))) (h1 : b ≠ g) (h2 : some b ≠ v.ownBlock) : Dv W g v (some ⟨b, 0, none⟩) 2 [x, y] :=
  Kd.V_mk (Nat.le_refl _) (fun W' hW => blkC ((hW b ⟨h1, h2⟩ (blk_lt h)).trans h))
theorem put_facts {w0 w w2 : World} {g : Nat} {v : Value} {l d : List Int} {A : Option Addr} {c : Nat} (h : Bz w0 w g v l) (hd : Dv w g v A c d) {o : Obj} {lo hi : Int}
    (hw2 : w2 = (((w.alloc (.cells #[.int .u8 0, .int .u8 0] 5)).alloc o).setCell ⟨w.heap.size, 0, none⟩ (.int .u8 lo)).setCell ⟨w.heap.size, 1, none⟩ (.int .u8 hi)) :
    Bz w0 w2 g v l ∧ Dv w2 g v A c d ∧ Dv w2 g v (some ⟨w.heap.size, 0, none⟩) 2 [lo, hi] := by
  have hb : Below w.heap.size w w2 := by
    rw [hw2]
    exact below_set (below_set (below_alloc (below_alloc (Below.refl _ _) _) _) (Nat.le_refl _)) (Nat.le_refl _)
  have hblk : w2.heap[w.heap.size]? = some (.cells #[.int .u8 lo, .int .u8 hi] 5 (0, 0)) := by
    rw [hw2]
    exact blk_put (blk_put (blk_alloc (blk_new _ _) _) 0 _ rfl) 1 _ rfl
  refine ⟨h.below hb, hd.below hb, buf_dv hblk (by have := blk_lt h.blk; omega) (fun e => ?_)⟩
  have := Kd.R_lt h.R w.heap.size e.symm
  omega

set_option maxHeartbeats 8000000 in
set_option maxRecDepth 100000 in
theorem addData_r (w0 w : World) (g : Nat) (v : Value) (l : List Int) (A : Option Addr) (c : Nat) (d : List Int) (h : Bz w0 w g v l) (hdv : Dv w g v A c d) (hl : l.length ≤ 10000) (hd : 256 ≤ d.length ∧ d.length ≤ 520) :
    Calls Try.prog 58 #[.pointer (some ⟨g, 0, none⟩), .slice A d.length c] w fun e w' => e = .returned (.pointer (some ⟨g, 0, none⟩)) ∧ ∃ v', Bz w0 w' g v' (l ++ pushB d) := by
  have hps : pushB d = 77 :: ((d.length % 256 : Nat) : Int) :: ((d.length / 256 : Nat) : Int) :: d := by
    unfold pushB
    rw [if_neg (by omega), if_neg (by omega), if_neg (by omega), if_neg (by omega), if_neg (by omega)]
  have HPS := Lib.hid hps
  have HD := Lib.hid (show d.length ≤ 520 by omega)
  have HD1 := Lib.hid hd
  have z0 := h.c0
  have z1 := h.c1
  have BZ := Lib.hid h
  have DV := Lib.hid hdv
  have HL := Lib.hid hl
  have hC := hdv.C
  obtain ⟨Av, cv, rfl⟩ := Kd.R_slice h.R
  clear hps
  have f0 : ((d.length : Int) == 0) = false := beq_eq_false_iff_ne.2 (by omega)
  have f0' : (d.length == 0) = false := beq_eq_false_iff_ne.2 (by omega)
  have f1 : ((d.length : Int) == 1) = false := beq_eq_false_iff_ne.2 (by omega)
  have f1' : (d.length == 1) = false := beq_eq_false_iff_ne.2 (by omega)
  have f2 : decide ((d.length : Int) < 76) = false := decide_eq_false (by omega)
  have f2' : decide (d.length < 76) = false := decide_eq_false (by omega)
  have f3 : decide ((d.length : Int) ≤ 255) = false := decide_eq_false (by omega)
  have f3' : decide (d.length ≤ 255) = false := decide_eq_false (by omega)
  have f4 : decide ((d.length : Int) ≤ 65535) = true := decide_eq_true (by omega)
  have f4' : decide (d.length ≤ 65535) = true := decide_eq_true (by omega)
  have hn := hd.2
  skip
  clear hd hC h hdv hl
  have hmk : ∀ W : World, (Instr.makeSlice 22 (.int .i64 2) (.int .i64 2)).run Try.prog W = .ok (.slice (some ⟨W.heap.size, 0, none⟩) 2 2) (W.alloc (.cells #[.int .u8 0, .int .u8 0] 5)) := fun W => by kernel_rfl
  obtain ⟨lo, hlo⟩ : ∃ x : Int, (d.length : Int) % 256 = x := ⟨_, rfl⟩
  obtain ⟨hi, hhi⟩ : ∃ x : Int, (d.length : Int) / 256 = x := ⟨_, rfl⟩
  have HLO := Lib.hid hlo
  have HHI := Lib.hid hhi
  clear hlo hhi z0
  go_enter Try.func58, Try.ntmps58
  go_wp2_with (first | (go_at_call 74; refine (put16_calls w.heap.size (d.length : Int) lo hi _ (blk_new _ _) (by omega) (by omega) HLO.out HHI.out).mono ?_; rintro e w2 ⟨rfl, o_, hw2⟩; obtain ⟨b1, b2, b3⟩ := put_facts BZ.out DV.out hw2; have z0 := b1.c0; clear BZ DV hw2; have BZ := Lib.hid b1; have DV := Lib.hid b2; have DB := Lib.hid b3; clear b1 b2 b3) | ((with_reducible refine gate_builtin (b := .append) (xs := #[.tmp 111, .tmp 112]) rfl ?_); at_builtin; go_must (refine Kd.R_append (Kd.int .u8) (w0 := w0) w0.heap.size rfl (.tmp 111) (.tmp 112) 22 5 (.int .u8 0) 1 rfl Try.underlying22 info_u8 rfl (by decide) (by omega) _ ?xsN1 ?ppN1 _ (fun k => k ≠ g) (fun _ => False) rfl rfl ?aP (fun _ hk => hk.elim) ?aF ?aO ?aB ?aS ?aL ?_; (case aO => exact (by (with_reducible repeat (first | apply Kd.R_alloc | apply Kd.R_drewN | apply Kd.R_drew)); exact BZ.out.R)); (case aP => exact rfl); (case aB => exact (by repeat (first | exact BZ.out.B | apply below_alloc | apply pw_below_drewN | apply below_drew1))); (case aF => exact fun k hk => BZ.out.fresh (by first | exact Below.refl _ _ | exact pw_below_drewN (Below.refl _ _) _ | exact below_alloc (Below.refl _ _) _) hk); (case aS => exact (below_size (by repeat (first | exact BZ.out.B | apply below_alloc | apply pw_below_drewN | apply below_drew1)))); (case aL => (try simp only [List.length_append, List.length_cons, List.length_nil]); have := HL.out; have := HD.out; omega); intro v_ w_ ho_ hb hg hat; obtain ⟨l_, hq, ho⟩ := nameR ho_; have N1 := Lib.hid hq; have HLn := Lib.hid (show l_.length ≤ 11000 from by rw [hq]; simp only [List.length_append, List.length_cons, List.length_nil]; have := HL.out; have := HD.out; omega); clear HL; have HL := HLn; clear HLn hq ho_; obtain ⟨A_, c_, rfl⟩ := Kd.R_slice ho; have z0_ := (BZ.out.mid (by first | exact Below.refl _ _ | exact pw_below_drewN (Below.refl _ _) _ | exact below_alloc (Below.refl _ _) _) hg).1; have zf_ := (BZ.out.mid (by first | exact Below.refl _ _ | exact pw_below_drewN (Below.refl _ _) _ | exact below_alloc (Below.refl _ _) _) hg).2; have n0_ := Lib.hid (BZ.out.push (by first | exact Below.refl _ _ | exact pw_below_drewN (Below.refl _ _) _ | exact below_alloc (Below.refl _ _) _) ho hb hg); have n1_ := Lib.hid (DV.out.push (by first | exact Below.refl _ _ | exact pw_below_drewN (Below.refl _ _) _ | exact below_alloc (Below.refl _ _) _) hg hat); clear DV; have DV := n1_; clear n1_; have n1_ := Lib.hid (DB.out.push (by first | exact Below.refl _ _ | exact pw_below_drewN (Below.refl _ _) _ | exact below_alloc (Below.refl _ _) _) hg hat); clear DB; have DB := n1_; clear n1_; clear BZ; have BZ := n0_; clear n0_ ho hb hg hat)) | ((with_reducible refine gate_builtin (b := .append) (xs := #[.tmp 120, .tmp 121]) rfl ?_); at_builtin; go_must (refine Kd.R_append_rows (Kd.int .u8) (w0 := w0) w0.heap.size rfl (.tmp 120) (.tmp 121) 22 5 (.int .u8 0) 1 rfl Try.underlying22 info_u8 rfl (by decide) (by omega) _ ?xsN2 ?ysN2 _ _ _ (fun k => k ≠ g) (fun _ => False) rfl rfl ?aO ?aR (fun _ _ h => h) (fun _ h => h.elim) ?aF ?aB ?aS ?aL ?_; (case aO => exact (by (with_reducible repeat (first | apply Kd.R_alloc | apply Kd.R_drewN | apply Kd.R_drew)); exact BZ.out.R)); (case aR => exact (by repeat (first | exact DB.out.C | (with_reducible refine Kd.C_alloc ?_ _) | (with_reducible refine Kd.C_drewN ?_ _) | (with_reducible refine Kd.C_drew ?_)))); (case aB => exact (by repeat (first | exact BZ.out.B | apply below_alloc | apply pw_below_drewN | apply below_drew1))); (case aF => exact fun k hk => BZ.out.fresh (by first | exact Below.refl _ _ | exact pw_below_drewN (Below.refl _ _) _ | exact below_alloc (Below.refl _ _) _) hk); (case aS => exact (below_size (by repeat (first | exact BZ.out.B | apply below_alloc | apply pw_below_drewN | apply below_drew1)))); (case aL => (try simp only [List.length_append, List.length_cons, List.length_nil]); have := HL.out; have := HD.out; omega); intro v_ w_ ho_ hb hg hat; obtain ⟨l_, hq, ho⟩ := nameR ho_; have N2 := Lib.hid hq; have HLn := Lib.hid (show l_.length ≤ 12000 from by rw [hq]; simp only [List.length_append, List.length_cons, List.length_nil]; have := HL.out; have := HD.out; omega); clear HL; have HL := HLn; clear HLn hq ho_; obtain ⟨A_, c_, rfl⟩ := Kd.R_slice ho; have z0_ := (BZ.out.mid (by first | exact Below.refl _ _ | exact pw_below_drewN (Below.refl _ _) _ | exact below_alloc (Below.refl _ _) _) hg).1; have zf_ := (BZ.out.mid (by first | exact Below.refl _ _ | exact pw_below_drewN (Below.refl _ _) _ | exact below_alloc (Below.refl _ _) _) hg).2; have n0_ := Lib.hid (BZ.out.push (by first | exact Below.refl _ _ | exact pw_below_drewN (Below.refl _ _) _ | exact below_alloc (Below.refl _ _) _) ho hb hg); have n1_ := Lib.hid (DV.out.push (by first | exact Below.refl _ _ | exact pw_below_drewN (Below.refl _ _) _ | exact below_alloc (Below.refl _ _) _) hg hat); clear DV; have DV := n1_; clear n1_; clear BZ; have BZ := n0_; clear n0_ ho hb hg hat)) | ((with_reducible refine gate_builtin (b := .append) (xs := #[.tmp 153, .tmp 154]) rfl ?_); at_builtin; go_must (refine Kd.R_append_rows (Kd.int .u8) (w0 := w0) w0.heap.size rfl (.tmp 153) (.tmp 154) 22 5 (.int .u8 0) 1 rfl Try.underlying22 info_u8 rfl (by decide) (by omega) _ ?xsN3 ?ysN3 _ _ _ (fun k => k ≠ g) (fun _ => False) rfl rfl ?aO ?aR (fun _ _ h => h) (fun _ h => h.elim) ?aF ?aB ?aS ?aL ?_; (case aO => exact (by (with_reducible repeat (first | apply Kd.R_alloc | apply Kd.R_drewN | apply Kd.R_drew)); exact BZ.out.R)); (case aR => exact (by repeat (first | exact DV.out.C | (with_reducible refine Kd.C_alloc ?_ _) | (with_reducible refine Kd.C_drewN ?_ _) | (with_reducible refine Kd.C_drew ?_)))); (case aB => exact (by repeat (first | exact BZ.out.B | apply below_alloc | apply pw_below_drewN | apply below_drew1))); (case aF => exact fun k hk => BZ.out.fresh (by first | exact Below.refl _ _ | exact pw_below_drewN (Below.refl _ _) _ | exact below_alloc (Below.refl _ _) _) hk); (case aS => exact (below_size (by repeat (first | exact BZ.out.B | apply below_alloc | apply pw_below_drewN | apply below_drew1)))); (case aL => (try simp only [List.length_append, List.length_cons, List.length_nil]); have := HL.out; have := HD.out; omega); intro v_ w_ ho_ hb hg hat; obtain ⟨l_, hq, ho⟩ := nameR ho_; have N3 := Lib.hid hq; have HLn := Lib.hid (show l_.length ≤ 13000 from by rw [hq]; simp only [List.length_append, List.length_cons, List.length_nil]; have := HL.out; have := HD.out; omega); clear HL; have HL := HLn; clear HLn hq ho_; obtain ⟨A_, c_, rfl⟩ := Kd.R_slice ho; have z0_ := (BZ.out.mid (by first | exact Below.refl _ _ | exact pw_below_drewN (Below.refl _ _) _ | exact below_alloc (Below.refl _ _) _) hg).1; have zf_ := (BZ.out.mid (by first | exact Below.refl _ _ | exact pw_below_drewN (Below.refl _ _) _ | exact below_alloc (Below.refl _ _) _) hg).2; have n0_ := Lib.hid (BZ.out.push (by first | exact Below.refl _ _ | exact pw_below_drewN (Below.refl _ _) _ | exact below_alloc (Below.refl _ _) _) ho hb hg); have n1_ := Lib.hid (DV.out.push (by first | exact Below.refl _ _ | exact pw_below_drewN (Below.refl _ _) _ | exact below_alloc (Below.refl _ _) _) hg hat); clear DV; have DV := n1_; clear n1_; clear BZ; have BZ := n0_; clear n0_ ho hb hg hat)))
  go_ret
  exact ⟨rfl, BZ.out.cast (by rw [N3.out, N2.out, N1.out, HPS.out, ← HLO.out, ← HHI.out]; simp)⟩

end Go.Proofs.Ytabdmbnggkageaa.Bld
