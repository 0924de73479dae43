/-
  A builder of scripts: its methods, over what its block holds. Printed by wip/gen/build.py.
-/
import Derived.Test.YtabdmbnggkageaaNumRead
import Derived.Test.YtabdmbnggkageaaPFnBuildx3
import Derived.StillTailTactics
import Derived.Deep.DeepMust
import Derived.Deep.RegionLaw
namespace Go.Proofs.Ytabdmbnggkageaa.Bld
open Go.RowKit Go.Proofs.YtabdmbnggkageaaW.PrintWords Go.Proofs.YtabdmbnggkageaaW.PrintLast Go.Proofs.YtabdmbnggkageaaW.PrintMore Go.Proofs.Ytabdmbnggkageaa.Num
set_option linter.unusedSimpArgs false
set_option linter.unusedVariables false

theorem nameR {d : Kd Int} {e : Nat} {w : World} {base : Nat} {ok : Nat → Prop} {v : Value} {xs : List Int} (h : d.R e w base ok v xs) : ∃ y, y = xs ∧ d.R e w base ok v y := ⟨xs, rfl, h⟩
/-- Block g is a builder without an error; its bytes are the call's own. -/
structure Bz (w0 w : World) (g : Nat) (v : Value) (l : List Int) : Prop where
  B : Below w0.heap.size w0 w
  hg : w0.heap.size ≤ g
  blk : w.heap[g]? = some (.cells #[v, .nilIface] 95 (0, 0))
  R : Kd.R (Kd.int .u8) 5 w w0.heap.size (fun k => k ≠ g) v l
/-- Bytes that lie neither in the builder's block nor in its row. -/
def Dv (w : World) (g : Nat) (v : Value) (A : Option Addr) (c : Nat) (d : List Int) : Prop :=
  Kd.V (Kd.int .u8) 5 w 0 (fun k => k ≠ g ∧ some k ≠ v.ownBlock) (.slice A d.length c) d
section
variable {w0 w W w1 : World} {g : Nat} {v v1 : Value} {l l1 d : List Int} {A : Option Addr} {c : Nat}
theorem Bz.ne (h : Bz w0 w g v l) : some g ≠ v.ownBlock := fun e => h.R.1 g e.symm rfl
theorem Bz.c0 (h : Bz w0 w g v l) : w.cell? ⟨g, 0, none⟩ = some v := (blk_cell h.blk 0).trans rfl
theorem Bz.c1 (h : Bz w0 w g v l) : w.cell? ⟨g, 1, none⟩ = some .nilIface := (blk_cell h.blk 1).trans rfl
theorem Bz.mid (h : Bz w0 w g v l) (hW : Below w.heap.size w W) (hg : W.grownBy w1 v.ownBlock) : w1.cell? ⟨g, 0, none⟩ = some v ∧ w1.frozen? ⟨g, 0, none⟩ = false := by
  have hb := blk_grown (blk_below h.blk hW) hg h.ne
  exact ⟨(blk_cell hb 0).trans rfl, blk_frozen hb 0⟩
theorem Bz.push (h : Bz w0 w g v l) (hW : Below w.heap.size w W) (hR : Kd.R (Kd.int .u8) 5 w1 w0.heap.size (fun k => k ≠ g) v1 l1) (hB : Below w0.heap.size w0 w1) (hg : W.grownBy w1 v.ownBlock) :
    Bz w0 (w1.setCell ⟨g, 0, none⟩ v1) g v1 l1 where
  B := below_set hB h.hg
  hg := h.hg
  blk := blk_put (blk_grown (blk_below h.blk hW) hg h.ne) 0 v1 rfl
  R := Kd.R_far hR (fun k hk => hk) v1
theorem Bz.below (h : Bz w0 w g v l) (hW : Below w.heap.size w W) : Bz w0 W g v l := ⟨below_step h.B hW, h.hg, blk_below h.blk hW, Kd.R_below h.R hW⟩
theorem Bz.fresh (h : Bz w0 w g v l) (hW : Below w.heap.size w W) {k : Nat} (hk : W.heap.size ≤ k) : k ≠ g := by
  have h1 := blk_lt h.blk
  have h2 := below_size hW
  omega
theorem Bz.cast (h : Bz w0 w g v l) (e : l = l1) : ∃ v', Bz w0 w g v' l1 := ⟨v, e ▸ h⟩
theorem Dv.push (h : Dv w g v A c d) (hW : Below w.heap.size w W) (hg : W.grownBy w1 v.ownBlock) (hat : v1.ownBlock = v.ownBlock ∨ ∃ b, v1.ownBlock = some b ∧ W.heap.size ≤ b) :
    Dv (w1.setCell ⟨g, 0, none⟩ v1) g v1 A c d := Kd.V_far (Kd.V_afterv (Kd.V_below h hW) hg hat) (fun k hk => hk.1) v1
theorem Dv.below (h : Dv w g v A c d) (hW : Below w.heap.size w W) : Dv W g v A c d := Kd.V_below h hW
theorem Dv.C (h : Dv w g v A c d) : Kd.C (Kd.int .u8) w A d.length d := (Kd.V_reads' h).2.2
theorem Dv.cap (h : Dv w g v A c d) : d.length ≤ c := (Kd.V_reads' h).2.1
end

/-- The shortest token that pushes bytes. -/
def pushB (d : List Int) : List Int :=
  if d.length = 0 then [0]
  else if d.length = 1 ∧ 1 ≤ rd d 0 ∧ rd d 0 ≤ 16 then [80 + rd d 0]
  else if d.length = 1 ∧ rd d 0 = 129 then [79]
  else if d.length < 76 then (d.length : Int) :: d
  else if d.length ≤ 255 then 76 :: (d.length : Int) :: d
  else 77 :: ((d.length % 256 : Nat) : Int) :: ((d.length / 256 : Nat) : Int) :: d

set_option maxHeartbeats 8000000 in
set_option maxRecDepth 100000 in
theorem addOp_calls (w0 w : World) (g : Nat) (v : Value) (l : List Int) (x : Int) (h : Bz w0 w g v l) (hl : l.length + 1 ≤ 10000) :
    Calls Try.prog 30 #[.pointer (some ⟨g, 0, none⟩), .int .u8 x] w fun e w' => e = .returned (.pointer (some ⟨g, 0, none⟩)) ∧ ∃ v', Bz w0 w' g v' (l ++ [x]) := by
  have z0 := h.c0
  have z1 := h.c1
  have BZ := Lib.hid h
  have HL := Lib.hid (show l.length ≤ 10000 by omega)
  have HD := Lib.hid (show (0 : Nat) ≤ 520 by omega)
  obtain ⟨A, c, rfl⟩ := Kd.R_slice h.R
  have q62 : ∀ w : World, (binOp .neq 53 .nilIface .nilIface).run Try.prog w = .ok (.bool false) w := fun w => run_neq_nil_nil _ _ (by kernel_rfl)
  have c1 : wrap64 ((l.length : Int) + 1) = ((l.length + 1 : Nat) : Int) := by rw [wrap64_id (by omega) (by omega)]; omega
  have c2 : decide ((10000 : Int) < ((l.length + 1 : Nat) : Int)) = false := decide_eq_false (by omega)
  have c3 : decide ((10000 : Int) < (l.length : Int) + 1) = false := decide_eq_false (by omega)
  clear h
  go_enter Try.func30, Try.ntmps30
  go_wp2_with ((with_reducible refine gate_builtin (b := .append) (xs := #[.tmp 29, .tmp 31]) rfl ?_); at_builtin; go_must (refine Kd.R_append (Kd.int .u8) (w0 := w0) w0.heap.size rfl (.tmp 29) (.tmp 31) 22 5 (.int .u8 0) 1 rfl Try.underlying22 info_u8 rfl (by decide) (by omega) _ ?xsN1 ?ppN1 _ (fun k => k ≠ g) (fun _ => False) rfl rfl ?aP (fun _ hk => hk.elim) ?aF ?aO ?aB ?aS ?aL ?_; (case aO => exact (by (with_reducible repeat (first | apply Kd.R_alloc | apply Kd.R_drewN | apply Kd.R_drew)); exact BZ.out.R)); (case aP => exact rfl); (case aB => exact (by repeat (first | exact BZ.out.B | apply below_alloc | apply pw_below_drewN | apply below_drew1))); (case aF => exact fun k hk => BZ.out.fresh (by first | exact Below.refl _ _ | exact pw_below_drewN (Below.refl _ _) _ | exact below_alloc (Below.refl _ _) _) hk); (case aS => exact (below_size (by repeat (first | exact BZ.out.B | apply below_alloc | apply pw_below_drewN | apply below_drew1)))); (case aL => (try simp only [List.length_append, List.length_cons, List.length_nil]); have := HL.out; have := HD.out; omega); intro v_ w_ ho_ hb hg hat; obtain ⟨l_, hq, ho⟩ := nameR ho_; have N1 := Lib.hid hq; have HLn := Lib.hid (show l_.length ≤ 11000 from by rw [hq]; simp only [List.length_append, List.length_cons, List.length_nil]; have := HL.out; have := HD.out; omega); clear HL; have HL := HLn; clear HLn hq ho_; obtain ⟨A_, c_, rfl⟩ := Kd.R_slice ho; have z0_ := (BZ.out.mid (by first | exact Below.refl _ _ | exact pw_below_drewN (Below.refl _ _) _ | exact below_alloc (Below.refl _ _) _) hg).1; have zf_ := (BZ.out.mid (by first | exact Below.refl _ _ | exact pw_below_drewN (Below.refl _ _) _ | exact below_alloc (Below.refl _ _) _) hg).2; have n0_ := Lib.hid (BZ.out.push (by first | exact Below.refl _ _ | exact pw_below_drewN (Below.refl _ _) _ | exact below_alloc (Below.refl _ _) _) ho hb hg); clear BZ; have BZ := n0_; clear n0_ ho hb hg hat))
  go_ret
  exact ⟨rfl, BZ.out.cast (by rw [N1.out])⟩

set_option maxHeartbeats 8000000 in
set_option maxRecDepth 100000 in
theorem size_z (w : World) (A : Option Addr) (c : Nat) (d : List Int) (hC : Kd.C (Kd.int .u8) w A d.length d) (hd : d.length = 0) :
    Calls Try.prog 57 #[.slice A d.length c] w fun e w' => ∃ r : Int, e = .returned (.int .i64 r) ∧ r = (pushB d).length ∧ Drawn0 w w' := by
  have hps : ((pushB d).length : Int) = 1 := by
    unfold pushB
    rw [if_pos hd]
    all_goals (first | done | rfl | (simp only [List.length_cons]; omega))
  have hps2 := Lib.hid hps
  have HD := Lib.hid hd
  clear hps
  have f0 : ((d.length : Int) == 0) = true := beq_iff_eq.2 (by omega)
  have f0' : (d.length == 0) = true := beq_iff_eq.2 (by omega)
  have f1 : ((d.length : Int) == 1) = false := beq_eq_false_iff_ne.2 (by omega)
  have f1' : (d.length == 1) = false := beq_eq_false_iff_ne.2 (by omega)
  have f2 : decide ((d.length : Int) < 76) = true := decide_eq_true (by omega)
  have f2' : decide (d.length < 76) = true := decide_eq_true (by omega)
  have f3 : decide ((d.length : Int) ≤ 255) = true := decide_eq_true (by omega)
  have f3' : decide (d.length ≤ 255) = true := decide_eq_true (by omega)
  have f4 : decide ((d.length : Int) ≤ 65535) = true := decide_eq_true (by omega)
  have f4' : decide (d.length ≤ 65535) = true := decide_eq_true (by omega)
  have hn : d.length ≤ 1 := by omega
  clear hd hC
  go_enter Try.func57, Try.ntmps57
  go_wp2
  go_ret
  exact ⟨_, rfl, by have e1 := hps2.out; have := HD.out; first | exact e1.symm | (rw [e1]; omega) | (rw [e1]; simp; omega), by repeat (first | exact Drawn0.refl _ | apply Drawn0.step)⟩

set_option maxHeartbeats 8000000 in
set_option maxRecDepth 100000 in
theorem size_s (w : World) (A : Option Addr) (c : Nat) (d : List Int) (hC : Kd.C (Kd.int .u8) w A d.length d) (hd : d.length = 1 ∧ 1 ≤ rd d 0 ∧ rd d 0 ≤ 16) :
    Calls Try.prog 57 #[.slice A d.length c] w fun e w' => ∃ r : Int, e = .returned (.int .i64 r) ∧ r = (pushB d).length ∧ Drawn0 w w' := by
  have hps : ((pushB d).length : Int) = 1 := by
    unfold pushB
    rw [if_neg (by omega), if_pos hd]
    all_goals (first | done | rfl | (simp only [List.length_cons]; omega))
  have hps2 := Lib.hid hps
  have HD := Lib.hid hd
  clear hps
  have f0 : ((d.length : Int) == 0) = false := beq_eq_false_iff_ne.2 (by omega)
  have f0' : (d.length == 0) = false := beq_eq_false_iff_ne.2 (by omega)
  have f1 : ((d.length : Int) == 1) = true := beq_iff_eq.2 (by omega)
  have f1' : (d.length == 1) = true := beq_iff_eq.2 (by omega)
  have f2 : decide ((d.length : Int) < 76) = true := decide_eq_true (by omega)
  have f2' : decide (d.length < 76) = true := decide_eq_true (by omega)
  have f3 : decide ((d.length : Int) ≤ 255) = true := decide_eq_true (by omega)
  have f3' : decide (d.length ≤ 255) = true := decide_eq_true (by omega)
  have f4 : decide ((d.length : Int) ≤ 65535) = true := decide_eq_true (by omega)
  have f4' : decide (d.length ≤ 65535) = true := decide_eq_true (by omega)
  obtain ⟨x, hx⟩ : ∃ x, rd d 0 = x := ⟨_, rfl⟩
  obtain ⟨ad, e_, hc_⟩ := Kd.at_int hC 0 (by omega) (by omega)
  cases e_
  have hc : w.cell? ad = some (.int .u8 x) := by have h := hc_; rw [hx] at h; exact h
  rw [hx] at hd
  have f5 : 0 < d.length := by omega
  have x0 : (x == 0) = false := beq_eq_false_iff_ne.2 (by omega)
  have x1 : decide (x ≤ 16) = true := decide_eq_true (by omega)
  have x2 : (x == 129) = false := beq_eq_false_iff_ne.2 (by omega)
  have hn : d.length ≤ 1 := by omega
  clear hd hC hc_ hx
  go_enter Try.func57, Try.ntmps57
  go_wp2
  go_ret
  exact ⟨_, rfl, by have e1 := hps2.out; have := HD.out; first | exact e1.symm | (rw [e1]; omega) | (rw [e1]; simp; omega), by repeat (first | exact Drawn0.refl _ | apply Drawn0.step)⟩

set_option maxHeartbeats 8000000 in
set_option maxRecDepth 100000 in
theorem size_m (w : World) (A : Option Addr) (c : Nat) (d : List Int) (hC : Kd.C (Kd.int .u8) w A d.length d) (hd : d.length = 1 ∧ rd d 0 = 129) :
    Calls Try.prog 57 #[.slice A d.length c] w fun e w' => ∃ r : Int, e = .returned (.int .i64 r) ∧ r = (pushB d).length ∧ Drawn0 w w' := by
  have hps : ((pushB d).length : Int) = 1 := by
    unfold pushB
    rw [if_neg (by omega), if_neg (by omega), if_pos hd]
    all_goals (first | done | rfl | (simp only [List.length_cons]; omega))
  have hps2 := Lib.hid hps
  have HD := Lib.hid hd
  clear hps
  have f0 : ((d.length : Int) == 0) = false := beq_eq_false_iff_ne.2 (by omega)
  have f0' : (d.length == 0) = false := beq_eq_false_iff_ne.2 (by omega)
  have f1 : ((d.length : Int) == 1) = true := beq_iff_eq.2 (by omega)
  have f1' : (d.length == 1) = true := beq_iff_eq.2 (by omega)
  have f2 : decide ((d.length : Int) < 76) = true := decide_eq_true (by omega)
  have f2' : decide (d.length < 76) = true := decide_eq_true (by omega)
  have f3 : decide ((d.length : Int) ≤ 255) = true := decide_eq_true (by omega)
  have f3' : decide (d.length ≤ 255) = true := decide_eq_true (by omega)
  have f4 : decide ((d.length : Int) ≤ 65535) = true := decide_eq_true (by omega)
  have f4' : decide (d.length ≤ 65535) = true := decide_eq_true (by omega)
  obtain ⟨x, hx⟩ : ∃ x, rd d 0 = x := ⟨_, rfl⟩
  obtain ⟨ad, e_, hc_⟩ := Kd.at_int hC 0 (by omega) (by omega)
  cases e_
  have hc : w.cell? ad = some (.int .u8 x) := by have h := hc_; rw [hx] at h; exact h
  rw [hx] at hd
  have f5 : 0 < d.length := by omega
  have x0 : (x == 0) = false := beq_eq_false_iff_ne.2 (by omega)
  have x1 : decide (x ≤ 16) = false := decide_eq_false (by omega)
  have x2 : (x == 129) = true := beq_iff_eq.2 (by omega)
  have hn : d.length ≤ 1 := by omega
  clear hd hC hc_ hx
  go_enter Try.func57, Try.ntmps57
  go_wp2
  go_ret
  exact ⟨_, rfl, by have e1 := hps2.out; have := HD.out; first | exact e1.symm | (rw [e1]; omega) | (rw [e1]; simp; omega), by repeat (first | exact Drawn0.refl _ | apply Drawn0.step)⟩

set_option maxHeartbeats 8000000 in
set_option maxRecDepth 100000 in
theorem size_o (w : World) (A : Option Addr) (c : Nat) (d : List Int) (hC : Kd.C (Kd.int .u8) w A d.length d) (hd : d.length = 1 ∧ 17 ≤ rd d 0 ∧ rd d 0 ≠ 129) :
    Calls Try.prog 57 #[.slice A d.length c] w fun e w' => ∃ r : Int, e = .returned (.int .i64 r) ∧ r = (pushB d).length ∧ Drawn0 w w' := by
  have hps : ((pushB d).length : Int) = 2 := by
    unfold pushB
    rw [if_neg (by omega), if_neg (by omega), if_neg (by omega), if_pos (by omega)]
    all_goals (first | done | rfl | (simp only [List.length_cons]; omega))
  have hps2 := Lib.hid hps
  have HD := Lib.hid hd
  clear hps
  have f0 : ((d.length : Int) == 0) = false := beq_eq_false_iff_ne.2 (by omega)
  have f0' : (d.length == 0) = false := beq_eq_false_iff_ne.2 (by omega)
  have f1 : ((d.length : Int) == 1) = true := beq_iff_eq.2 (by omega)
  have f1' : (d.length == 1) = true := beq_iff_eq.2 (by omega)
  have f2 : decide ((d.length : Int) < 76) = true := decide_eq_true (by omega)
  have f2' : decide (d.length < 76) = true := decide_eq_true (by omega)
  have f3 : decide ((d.length : Int) ≤ 255) = true := decide_eq_true (by omega)
  have f3' : decide (d.length ≤ 255) = true := decide_eq_true (by omega)
  have f4 : decide ((d.length : Int) ≤ 65535) = true := decide_eq_true (by omega)
  have f4' : decide (d.length ≤ 65535) = true := decide_eq_true (by omega)
  obtain ⟨x, hx⟩ : ∃ x, rd d 0 = x := ⟨_, rfl⟩
  obtain ⟨ad, e_, hc_⟩ := Kd.at_int hC 0 (by omega) (by omega)
  cases e_
  have hc : w.cell? ad = some (.int .u8 x) := by have h := hc_; rw [hx] at h; exact h
  rw [hx] at hd
  have f5 : 0 < d.length := by omega
  have x0 : (x == 0) = false := beq_eq_false_iff_ne.2 (by omega)
  have x1 : decide (x ≤ 16) = false := decide_eq_false (by omega)
  have x2 : (x == 129) = false := beq_eq_false_iff_ne.2 (by omega)
  have hn : d.length ≤ 1 := by omega
  clear hd hC hc_ hx
  go_enter Try.func57, Try.ntmps57
  go_wp2
  go_ret
  exact ⟨_, rfl, by have e1 := hps2.out; have := HD.out; first | exact e1.symm | (rw [e1]; omega) | (rw [e1]; simp; omega), by repeat (first | exact Drawn0.refl _ | apply Drawn0.step)⟩

set_option maxHeartbeats 8000000 in
set_option maxRecDepth 100000 in
theorem size_p (w : World) (A : Option Addr) (c : Nat) (d : List Int) (hC : Kd.C (Kd.int .u8) w A d.length d) (hd : 2 ≤ d.length ∧ d.length < 76) :
    Calls Try.prog 57 #[.slice A d.length c] w fun e w' => ∃ r : Int, e = .returned (.int .i64 r) ∧ r = (pushB d).length ∧ Drawn0 w w' := by
  have hps : ((pushB d).length : Int) = (d.length : Int) + 1 := by
    unfold pushB
    rw [if_neg (by omega), if_neg (by omega), if_neg (by omega), if_pos (by omega)]
    all_goals (first | done | rfl | (simp only [List.length_cons]; omega))
  have hps2 := Lib.hid hps
  have HD := Lib.hid hd
  clear hps
  have f0 : ((d.length : Int) == 0) = false := beq_eq_false_iff_ne.2 (by omega)
  have f0' : (d.length == 0) = false := beq_eq_false_iff_ne.2 (by omega)
  have f1 : ((d.length : Int) == 1) = false := beq_eq_false_iff_ne.2 (by omega)
  have f1' : (d.length == 1) = false := beq_eq_false_iff_ne.2 (by omega)
  have f2 : decide ((d.length : Int) < 76) = true := decide_eq_true (by omega)
  have f2' : decide (d.length < 76) = true := decide_eq_true (by omega)
  have f3 : decide ((d.length : Int) ≤ 255) = true := decide_eq_true (by omega)
  have f3' : decide (d.length ≤ 255) = true := decide_eq_true (by omega)
  have f4 : decide ((d.length : Int) ≤ 65535) = true := decide_eq_true (by omega)
  have f4' : decide (d.length ≤ 65535) = true := decide_eq_true (by omega)
  have hn := hd.2
  clear hd hC
  go_enter Try.func57, Try.ntmps57
  go_wp2
  go_ret
  exact ⟨_, rfl, by have e1 := hps2.out; have := HD.out; first | exact e1.symm | (rw [e1]; omega) | (rw [e1]; simp; omega), by repeat (first | exact Drawn0.refl _ | apply Drawn0.step)⟩

set_option maxHeartbeats 8000000 in
set_option maxRecDepth 100000 in
theorem size_q (w : World) (A : Option Addr) (c : Nat) (d : List Int) (hC : Kd.C (Kd.int .u8) w A d.length d) (hd : 76 ≤ d.length ∧ d.length ≤ 255) :
    Calls Try.prog 57 #[.slice A d.length c] w fun e w' => ∃ r : Int, e = .returned (.int .i64 r) ∧ r = (pushB d).length ∧ Drawn0 w w' := by
  have hps : ((pushB d).length : Int) = (d.length : Int) + 2 := by
    unfold pushB
    rw [if_neg (by omega), if_neg (by omega), if_neg (by omega), if_neg (by omega), if_pos (by omega)]
    all_goals (first | done | rfl | (simp only [List.length_cons]; omega))
  have hps2 := Lib.hid hps
  have HD := Lib.hid hd
  clear hps
  have f0 : ((d.length : Int) == 0) = false := beq_eq_false_iff_ne.2 (by omega)
  have f0' : (d.length == 0) = false := beq_eq_false_iff_ne.2 (by omega)
  have f1 : ((d.length : Int) == 1) = false := beq_eq_false_iff_ne.2 (by omega)
  have f1' : (d.length == 1) = false := beq_eq_false_iff_ne.2 (by omega)
  have f2 : decide ((d.length : Int) < 76) = false := decide_eq_false (by omega)
  have f2' : decide (d.length < 76) = false := decide_eq_false (by omega)
  have f3 : decide ((d.length : Int) ≤ 255) = true := decide_eq_true (by omega)
  have f3' : decide (d.length ≤ 255) = true := decide_eq_true (by omega)
  have f4 : decide ((d.length : Int) ≤ 65535) = true := decide_eq_true (by omega)
  have f4' : decide (d.length ≤ 65535) = true := decide_eq_true (by omega)
  have hn := hd.2
  clear hd hC
  go_enter Try.func57, Try.ntmps57
  go_wp2
  go_ret
  exact ⟨_, rfl, by have e1 := hps2.out; have := HD.out; first | exact e1.symm | (rw [e1]; omega) | (rw [e1]; simp; omega), by repeat (first | exact Drawn0.refl _ | apply Drawn0.step)⟩

set_option maxHeartbeats 8000000 in
set_option maxRecDepth 100000 in
theorem size_r (w : World) (A : Option Addr) (c : Nat) (d : List Int) (hC : Kd.C (Kd.int .u8) w A d.length d) (hd : 256 ≤ d.length ∧ d.length ≤ 520) :
    Calls Try.prog 57 #[.slice A d.length c] w fun e w' => ∃ r : Int, e = .returned (.int .i64 r) ∧ r = (pushB d).length ∧ Drawn0 w w' := by
  have hps : ((pushB d).length : Int) = (d.length : Int) + 3 := by
    unfold pushB
    rw [if_neg (by omega), if_neg (by omega), if_neg (by omega), if_neg (by omega), if_neg (by omega)]
    all_goals (first | done | rfl | (simp only [List.length_cons]; omega))
  have hps2 := Lib.hid hps
  have HD := Lib.hid hd
  clear hps
  have f0 : ((d.length : Int) == 0) = false := beq_eq_false_iff_ne.2 (by omega)
  have f0' : (d.length == 0) = false := beq_eq_false_iff_ne.2 (by omega)
  have f1 : ((d.length : Int) == 1) = false := beq_eq_false_iff_ne.2 (by omega)
  have f1' : (d.length == 1) = false := beq_eq_false_iff_ne.2 (by omega)
  have f2 : decide ((d.length : Int) < 76) = false := decide_eq_false (by omega)
  have f2' : decide (d.length < 76) = false := decide_eq_false (by omega)
  have f3 : decide ((d.length : Int) ≤ 255) = false := decide_eq_false (by omega)
  have f3' : decide (d.length ≤ 255) = false := decide_eq_false (by omega)
  have f4 : decide ((d.length : Int) ≤ 65535) = true := decide_eq_true (by omega)
  have f4' : decide (d.length ≤ 65535) = true := decide_eq_true (by omega)
  have hn := hd.2
  clear hd hC
  go_enter Try.func57, Try.ntmps57
  go_wp2
  go_ret
  exact ⟨_, rfl, by have e1 := hps2.out; have := HD.out; first | exact e1.symm | (rw [e1]; omega) | (rw [e1]; simp; omega), by repeat (first | exact Drawn0.refl _ | apply Drawn0.step)⟩

theorem lit2 (W : World) (a b : Int) : Kd.C (Kd.int .u8) (W.alloc (.cells #[.int .u8 a, .int .u8 b] 5)) (some ⟨W.heap.size, 0, none⟩) 2 [a, b] :=
  Kd.C_of_reads (d := (0 : Int)) (h1 := fun _ => rfl) (own_reads' (own_lit W 0 5 .u8 [a, b] (Nat.zero_le _) (by simp)))

set_option maxHeartbeats 8000000 in
set_option maxRecDepth 100000 in
theorem addData_z (w0 w : World) (g : Nat) (v : Value) (l : List Int) (A : Option Addr) (c : Nat) (d : List Int) (h : Bz w0 w g v l) (hdv : Dv w g v A c d) (hl : l.length ≤ 10000) (hd : d.length = 0) :
    Calls Try.prog 58 #[.pointer (some ⟨g, 0, none⟩), .slice A d.length c] w fun e w' => e = .returned (.pointer (some ⟨g, 0, none⟩)) ∧ ∃ v', Bz w0 w' g v' (l ++ pushB d) := by
  have hps : pushB d = [0] := by
    unfold pushB
    rw [if_pos hd]
  have HPS := Lib.hid hps
  have HD := Lib.hid (show d.length ≤ 520 by omega)
  have HD1 := Lib.hid hd
  have z0 := h.c0
  have z1 := h.c1
  have BZ := Lib.hid h
  have DV := Lib.hid hdv
  have HL := Lib.hid hl
  have hC := hdv.C
  obtain ⟨Av, cv, rfl⟩ := Kd.R_slice h.R
  clear hps
  have f0 : ((d.length : Int) == 0) = true := beq_iff_eq.2 (by omega)
  have f0' : (d.length == 0) = true := beq_iff_eq.2 (by omega)
  have f1 : ((d.length : Int) == 1) = false := beq_eq_false_iff_ne.2 (by omega)
  have f1' : (d.length == 1) = false := beq_eq_false_iff_ne.2 (by omega)
  have f2 : decide ((d.length : Int) < 76) = true := decide_eq_true (by omega)
  have f2' : decide (d.length < 76) = true := decide_eq_true (by omega)
  have f3 : decide ((d.length : Int) ≤ 255) = true := decide_eq_true (by omega)
  have f3' : decide (d.length ≤ 255) = true := decide_eq_true (by omega)
  have f4 : decide ((d.length : Int) ≤ 65535) = true := decide_eq_true (by omega)
  have f4' : decide (d.length ≤ 65535) = true := decide_eq_true (by omega)
  have hn : d.length ≤ 1 := by omega
  skip
  clear hd hC h hdv hl
  go_enter Try.func58, Try.ntmps58
  go_wp2_with (first | ((with_reducible refine gate_builtin (b := .append) (xs := #[.tmp 26, .tmp 27]) rfl ?_); at_builtin; go_must (refine Kd.R_append (Kd.int .u8) (w0 := w0) w0.heap.size rfl (.tmp 26) (.tmp 27) 22 5 (.int .u8 0) 1 rfl Try.underlying22 info_u8 rfl (by decide) (by omega) _ ?xsN1 ?ppN1 _ (fun k => k ≠ g) (fun _ => False) rfl rfl ?aP (fun _ hk => hk.elim) ?aF ?aO ?aB ?aS ?aL ?_; (case aO => exact (by (with_reducible repeat (first | apply Kd.R_alloc | apply Kd.R_drewN | apply Kd.R_drew)); exact BZ.out.R)); (case aP => exact rfl); (case aB => exact (by repeat (first | exact BZ.out.B | apply below_alloc | apply pw_below_drewN | apply below_drew1))); (case aF => exact fun k hk => BZ.out.fresh (by first | exact Below.refl _ _ | exact pw_below_drewN (Below.refl _ _) _ | exact below_alloc (Below.refl _ _) _) hk); (case aS => exact (below_size (by repeat (first | exact BZ.out.B | apply below_alloc | apply pw_below_drewN | apply below_drew1)))); (case aL => (try simp only [List.length_append, List.length_cons, List.length_nil]); have := HL.out; have := HD.out; omega); intro v_ w_ ho_ hb hg hat; obtain ⟨l_, hq, ho⟩ := nameR ho_; have N1 := Lib.hid hq; have HLn := Lib.hid (show l_.length ≤ 11000 from by rw [hq]; simp only [List.length_append, List.length_cons, List.length_nil]; have := HL.out; have := HD.out; omega); clear HL; have HL := HLn; clear HLn hq ho_; obtain ⟨A_, c_, rfl⟩ := Kd.R_slice ho; have z0_ := (BZ.out.mid (by first | exact Below.refl _ _ | exact pw_below_drewN (Below.refl _ _) _ | exact below_alloc (Below.refl _ _) _) hg).1; have zf_ := (BZ.out.mid (by first | exact Below.refl _ _ | exact pw_below_drewN (Below.refl _ _) _ | exact below_alloc (Below.refl _ _) _) hg).2; have n0_ := Lib.hid (BZ.out.push (by first | exact Below.refl _ _ | exact pw_below_drewN (Below.refl _ _) _ | exact below_alloc (Below.refl _ _) _) ho hb hg); have n1_ := Lib.hid (DV.out.push (by first | exact Below.refl _ _ | exact pw_below_drewN (Below.refl _ _) _ | exact below_alloc (Below.refl _ _) _) hg hat); clear DV; have DV := n1_; clear n1_; clear BZ; have BZ := n0_; clear n0_ ho hb hg hat)))
  go_ret
  exact ⟨rfl, BZ.out.cast (by rw [N1.out, HPS.out]; all_goals first | rfl | (simp; done) | (have := HD1.out; simp [IntKind.wrap_u8]; omega))⟩

set_option maxHeartbeats 8000000 in
set_option maxRecDepth 100000 in
theorem addData_m (w0 w : World) (g : Nat) (v : Value) (l : List Int) (A : Option Addr) (c : Nat) (d : List Int) (h : Bz w0 w g v l) (hdv : Dv w g v A c d) (hl : l.length ≤ 10000) (hd : d.length = 1 ∧ rd d 0 = 129) :
    Calls Try.prog 58 #[.pointer (some ⟨g, 0, none⟩), .slice A d.length c] w fun e w' => e = .returned (.pointer (some ⟨g, 0, none⟩)) ∧ ∃ v', Bz w0 w' g v' (l ++ pushB d) := by
  have hps : pushB d = [79] := by
    unfold pushB
    rw [if_neg (by omega), if_neg (by omega), if_pos hd]
  have HPS := Lib.hid hps
  have HD := Lib.hid (show d.length ≤ 520 by omega)
  have HD1 := Lib.hid hd
  have z0 := h.c0
  have z1 := h.c1
  have BZ := Lib.hid h
  have DV := Lib.hid hdv
  have HL := Lib.hid hl
  have hC := hdv.C
  obtain ⟨Av, cv, rfl⟩ := Kd.R_slice h.R
  clear hps
  have f0 : ((d.length : Int) == 0) = false := beq_eq_false_iff_ne.2 (by omega)
  have f0' : (d.length == 0) = false := beq_eq_false_iff_ne.2 (by omega)
  have f1 : ((d.length : Int) == 1) = true := beq_iff_eq.2 (by omega)
  have f1' : (d.length == 1) = true := beq_iff_eq.2 (by omega)
  have f2 : decide ((d.length : Int) < 76) = true := decide_eq_true (by omega)
  have f2' : decide (d.length < 76) = true := decide_eq_true (by omega)
  have f3 : decide ((d.length : Int) ≤ 255) = true := decide_eq_true (by omega)
  have f3' : decide (d.length ≤ 255) = true := decide_eq_true (by omega)
  have f4 : decide ((d.length : Int) ≤ 65535) = true := decide_eq_true (by omega)
  have f4' : decide (d.length ≤ 65535) = true := decide_eq_true (by omega)
  obtain ⟨x, hx⟩ : ∃ x, rd d 0 = x := ⟨_, rfl⟩
  obtain ⟨ad, e_, hc_⟩ := Kd.at_int hC 0 (by omega) (by omega)
  cases e_
  have hc : w.cell? ad = some (.int .u8 x) := by have h := hc_; rw [hx] at h; exact h
  rw [hx] at hd
  have f5 : 0 < d.length := by omega
  have x0 : (x == 0) = false := beq_eq_false_iff_ne.2 (by omega)
  have x1 : decide (x ≤ 16) = false := decide_eq_false (by omega)
  have x2 : (x == 129) = true := beq_iff_eq.2 (by omega)
  have hn : d.length ≤ 1 := by omega
  have HX := Lib.hid hx
  clear hd hC hc_ hx h hdv hl
  go_enter Try.func58, Try.ntmps58
  go_wp2_with (first | ((with_reducible refine gate_builtin (b := .append) (xs := #[.tmp 66, .tmp 67]) rfl ?_); at_builtin; go_must (refine Kd.R_append (Kd.int .u8) (w0 := w0) w0.heap.size rfl (.tmp 66) (.tmp 67) 22 5 (.int .u8 0) 1 rfl Try.underlying22 info_u8 rfl (by decide) (by omega) _ ?xsN1 ?ppN1 _ (fun k => k ≠ g) (fun _ => False) rfl rfl ?aP (fun _ hk => hk.elim) ?aF ?aO ?aB ?aS ?aL ?_; (case aO => exact (by (with_reducible repeat (first | apply Kd.R_alloc | apply Kd.R_drewN | apply Kd.R_drew)); exact BZ.out.R)); (case aP => exact rfl); (case aB => exact (by repeat (first | exact BZ.out.B | apply below_alloc | apply pw_below_drewN | apply below_drew1))); (case aF => exact fun k hk => BZ.out.fresh (by first | exact Below.refl _ _ | exact pw_below_drewN (Below.refl _ _) _ | exact below_alloc (Below.refl _ _) _) hk); (case aS => exact (below_size (by repeat (first | exact BZ.out.B | apply below_alloc | apply pw_below_drewN | apply below_drew1)))); (case aL => (try simp only [List.length_append, List.length_cons, List.length_nil]); have := HL.out; have := HD.out; omega); intro v_ w_ ho_ hb hg hat; obtain ⟨l_, hq, ho⟩ := nameR ho_; have N1 := Lib.hid hq; have HLn := Lib.hid (show l_.length ≤ 11000 from by rw [hq]; simp only [List.length_append, List.length_cons, List.length_nil]; have := HL.out; have := HD.out; omega); clear HL; have HL := HLn; clear HLn hq ho_; obtain ⟨A_, c_, rfl⟩ := Kd.R_slice ho; have z0_ := (BZ.out.mid (by first | exact Below.refl _ _ | exact pw_below_drewN (Below.refl _ _) _ | exact below_alloc (Below.refl _ _) _) hg).1; have zf_ := (BZ.out.mid (by first | exact Below.refl _ _ | exact pw_below_drewN (Below.refl _ _) _ | exact below_alloc (Below.refl _ _) _) hg).2; have n0_ := Lib.hid (BZ.out.push (by first | exact Below.refl _ _ | exact pw_below_drewN (Below.refl _ _) _ | exact below_alloc (Below.refl _ _) _) ho hb hg); have n1_ := Lib.hid (DV.out.push (by first | exact Below.refl _ _ | exact pw_below_drewN (Below.refl _ _) _ | exact below_alloc (Below.refl _ _) _) hg hat); clear DV; have DV := n1_; clear n1_; clear BZ; have BZ := n0_; clear n0_ ho hb hg hat)))
  go_ret
  exact ⟨rfl, BZ.out.cast (by rw [N1.out, HPS.out]; all_goals first | rfl | (simp; done) | (have := HD1.out; simp [IntKind.wrap_u8]; omega))⟩

set_option maxHeartbeats 8000000 in
set_option maxRecDepth 100000 in
theorem addData_o (w0 w : World) (g : Nat) (v : Value) (l : List Int) (A : Option Addr) (c : Nat) (d : List Int) (h : Bz w0 w g v l) (hdv : Dv w g v A c d) (hl : l.length ≤ 10000) (hd : d.length = 1 ∧ 17 ≤ rd d 0 ∧ rd d 0 ≠ 129) :
    Calls Try.prog 58 #[.pointer (some ⟨g, 0, none⟩), .slice A d.length c] w fun e w' => e = .returned (.pointer (some ⟨g, 0, none⟩)) ∧ ∃ v', Bz w0 w' g v' (l ++ pushB d) := by
  have hps : pushB d = (d.length : Int) :: d := by
    unfold pushB
    rw [if_neg (by omega), if_neg (by omega), if_neg (by omega), if_pos (by omega)]
  have HPS := Lib.hid hps
  have HD := Lib.hid (show d.length ≤ 520 by omega)
  have HD1 := Lib.hid hd
  have z0 := h.c0
  have z1 := h.c1
  have BZ := Lib.hid h
  have DV := Lib.hid hdv
  have HL := Lib.hid hl
  have hC := hdv.C
  obtain ⟨Av, cv, rfl⟩ := Kd.R_slice h.R
  clear hps
  have f0 : ((d.length : Int) == 0) = false := beq_eq_false_iff_ne.2 (by omega)
  have f0' : (d.length == 0) = false := beq_eq_false_iff_ne.2 (by omega)
  have f1 : ((d.length : Int) == 1) = true := beq_iff_eq.2 (by omega)
  have f1' : (d.length == 1) = true := beq_iff_eq.2 (by omega)
  have f2 : decide ((d.length : Int) < 76) = true := decide_eq_true (by omega)
  have f2' : decide (d.length < 76) = true := decide_eq_true (by omega)
  have f3 : decide ((d.length : Int) ≤ 255) = true := decide_eq_true (by omega)
  have f3' : decide (d.length ≤ 255) = true := decide_eq_true (by omega)
  have f4 : decide ((d.length : Int) ≤ 65535) = true := decide_eq_true (by omega)
  have f4' : decide (d.length ≤ 65535) = true := decide_eq_true (by omega)
  obtain ⟨x, hx⟩ : ∃ x, rd d 0 = x := ⟨_, rfl⟩
  obtain ⟨ad, e_, hc_⟩ := Kd.at_int hC 0 (by omega) (by omega)
  cases e_
  have hc : w.cell? ad = some (.int .u8 x) := by have h := hc_; rw [hx] at h; exact h
  rw [hx] at hd
  have f5 : 0 < d.length := by omega
  have x0 : (x == 0) = false := beq_eq_false_iff_ne.2 (by omega)
  have x1 : decide (x ≤ 16) = false := decide_eq_false (by omega)
  have x2 : (x == 129) = false := beq_eq_false_iff_ne.2 (by omega)
  have hn : d.length ≤ 1 := by omega
  have HX := Lib.hid hx
  clear hd hC hc_ hx h hdv hl
  go_enter Try.func58, Try.ntmps58
  go_wp2_with (first | ((with_reducible refine gate_builtin (b := .append) (xs := #[.tmp 78, .tmp 82]) rfl ?_); at_builtin; go_must (refine Kd.R_append (Kd.int .u8) (w0 := w0) w0.heap.size rfl (.tmp 78) (.tmp 82) 22 5 (.int .u8 0) 1 rfl Try.underlying22 info_u8 rfl (by decide) (by omega) _ ?xsN1 ?ppN1 _ (fun k => k ≠ g) (fun _ => False) rfl rfl ?aP (fun _ hk => hk.elim) ?aF ?aO ?aB ?aS ?aL ?_; (case aO => exact (by (with_reducible repeat (first | apply Kd.R_alloc | apply Kd.R_drewN | apply Kd.R_drew)); exact BZ.out.R)); (case aP => exact rfl); (case aB => exact (by repeat (first | exact BZ.out.B | apply below_alloc | apply pw_below_drewN | apply below_drew1))); (case aF => exact fun k hk => BZ.out.fresh (by first | exact Below.refl _ _ | exact pw_below_drewN (Below.refl _ _) _ | exact below_alloc (Below.refl _ _) _) hk); (case aS => exact (below_size (by repeat (first | exact BZ.out.B | apply below_alloc | apply pw_below_drewN | apply below_drew1)))); (case aL => (try simp only [List.length_append, List.length_cons, List.length_nil]); have := HL.out; have := HD.out; omega); intro v_ w_ ho_ hb hg hat; obtain ⟨l_, hq, ho⟩ := nameR ho_; have N1 := Lib.hid hq; have HLn := Lib.hid (show l_.length ≤ 11000 from by rw [hq]; simp only [List.length_append, List.length_cons, List.length_nil]; have := HL.out; have := HD.out; omega); clear HL; have HL := HLn; clear HLn hq ho_; obtain ⟨A_, c_, rfl⟩ := Kd.R_slice ho; have z0_ := (BZ.out.mid (by first | exact Below.refl _ _ | exact pw_below_drewN (Below.refl _ _) _ | exact below_alloc (Below.refl _ _) _) hg).1; have zf_ := (BZ.out.mid (by first | exact Below.refl _ _ | exact pw_below_drewN (Below.refl _ _) _ | exact below_alloc (Below.refl _ _) _) hg).2; have n0_ := Lib.hid (BZ.out.push (by first | exact Below.refl _ _ | exact pw_below_drewN (Below.refl _ _) _ | exact below_alloc (Below.refl _ _) _) ho hb hg); have n1_ := Lib.hid (DV.out.push (by first | exact Below.refl _ _ | exact pw_below_drewN (Below.refl _ _) _ | exact below_alloc (Below.refl _ _) _) hg hat); clear DV; have DV := n1_; clear n1_; clear BZ; have BZ := n0_; clear n0_ ho hb hg hat)) | ((with_reducible refine gate_builtin (b := .append) (xs := #[.tmp 153, .tmp 154]) rfl ?_); at_builtin; go_must (refine Kd.R_append_rows (Kd.int .u8) (w0 := w0) w0.heap.size rfl (.tmp 153) (.tmp 154) 22 5 (.int .u8 0) 1 rfl Try.underlying22 info_u8 rfl (by decide) (by omega) _ ?xsN2 ?ysN2 _ _ _ (fun k => k ≠ g) (fun _ => False) rfl rfl ?aO ?aR (fun _ _ h => h) (fun _ h => h.elim) ?aF ?aB ?aS ?aL ?_; (case aO => exact (by (with_reducible repeat (first | apply Kd.R_alloc | apply Kd.R_drewN | apply Kd.R_drew)); exact BZ.out.R)); (case aR => exact (by repeat (first | exact DV.out.C | (with_reducible refine Kd.C_alloc ?_ _) | (with_reducible refine Kd.C_drewN ?_ _) | (with_reducible refine Kd.C_drew ?_)))); (case aB => exact (by repeat (first | exact BZ.out.B | apply below_alloc | apply pw_below_drewN | apply below_drew1))); (case aF => exact fun k hk => BZ.out.fresh (by first | exact Below.refl _ _ | exact pw_below_drewN (Below.refl _ _) _ | exact below_alloc (Below.refl _ _) _) hk); (case aS => exact (below_size (by repeat (first | exact BZ.out.B | apply below_alloc | apply pw_below_drewN | apply below_drew1)))); (case aL => (try simp only [List.length_append, List.length_cons, List.length_nil]); have := HL.out; have := HD.out; omega); intro v_ w_ ho_ hb hg hat; obtain ⟨l_, hq, ho⟩ := nameR ho_; have N2 := Lib.hid hq; have HLn := Lib.hid (show l_.length ≤ 12000 from by rw [hq]; simp only [List.length_append, List.length_cons, List.length_nil]; have := HL.out; have := HD.out; omega); clear HL; have HL := HLn; clear HLn hq ho_; obtain ⟨A_, c_, rfl⟩ := Kd.R_slice ho; have z0_ := (BZ.out.mid (by first | exact Below.refl _ _ | exact pw_below_drewN (Below.refl _ _) _ | exact below_alloc (Below.refl _ _) _) hg).1; have zf_ := (BZ.out.mid (by first | exact Below.refl _ _ | exact pw_below_drewN (Below.refl _ _) _ | exact below_alloc (Below.refl _ _) _) hg).2; have n0_ := Lib.hid (BZ.out.push (by first | exact Below.refl _ _ | exact pw_below_drewN (Below.refl _ _) _ | exact below_alloc (Below.refl _ _) _) ho hb hg); have n1_ := Lib.hid (DV.out.push (by first | exact Below.refl _ _ | exact pw_below_drewN (Below.refl _ _) _ | exact below_alloc (Below.refl _ _) _) hg hat); clear DV; have DV := n1_; clear n1_; clear BZ; have BZ := n0_; clear n0_ ho hb hg hat)))
  go_ret
  exact ⟨rfl, BZ.out.cast (by rw [N2.out, N1.out, HPS.out]; all_goals first | rfl | (simp; done) | (have := HD1.out; simp [IntKind.wrap_u8]; omega))⟩

set_option maxHeartbeats 8000000 in
set_option maxRecDepth 100000 in
theorem addData_p (w0 w : World) (g : Nat) (v : Value) (l : List Int) (A : Option Addr) (c : Nat) (d : List Int) (h : Bz w0 w g v l) (hdv : Dv w g v A c d) (hl : l.length ≤ 10000) (hd : 2 ≤ d.length ∧ d.length < 76) :
    Calls Try.prog 58 #[.pointer (some ⟨g, 0, none⟩), .slice A d.length c] w fun e w' => e = .returned (.pointer (some ⟨g, 0, none⟩)) ∧ ∃ v', Bz w0 w' g v' (l ++ pushB d) := by
  have hps : pushB d = (d.length : Int) :: d := by
    unfold pushB
    rw [if_neg (by omega), if_neg (by omega), if_neg (by omega), if_pos (by omega)]
  have HPS := Lib.hid hps
  have HD := Lib.hid (show d.length ≤ 520 by omega)
  have HD1 := Lib.hid hd
  have z0 := h.c0
  have z1 := h.c1
  have BZ := Lib.hid h
  have DV := Lib.hid hdv
  have HL := Lib.hid hl
  have hC := hdv.C
  obtain ⟨Av, cv, rfl⟩ := Kd.R_slice h.R
  clear hps
  have f0 : ((d.length : Int) == 0) = false := beq_eq_false_iff_ne.2 (by omega)
  have f0' : (d.length == 0) = false := beq_eq_false_iff_ne.2 (by omega)
  have f1 : ((d.length : Int) == 1) = false := beq_eq_false_iff_ne.2 (by omega)
  have f1' : (d.length == 1) = false := beq_eq_false_iff_ne.2 (by omega)
  have f2 : decide ((d.length : Int) < 76) = true := decide_eq_true (by omega)
  have f2' : decide (d.length < 76) = true := decide_eq_true (by omega)
  have f3 : decide ((d.length : Int) ≤ 255) = true := decide_eq_true (by omega)
  have f3' : decide (d.length ≤ 255) = true := decide_eq_true (by omega)
  have f4 : decide ((d.length : Int) ≤ 65535) = true := decide_eq_true (by omega)
  have f4' : decide (d.length ≤ 65535) = true := decide_eq_true (by omega)
  have hn := hd.2
  skip
  clear hd hC h hdv hl
  go_enter Try.func58, Try.ntmps58
  go_wp2_with (first | ((with_reducible refine gate_builtin (b := .append) (xs := #[.tmp 78, .tmp 82]) rfl ?_); at_builtin; go_must (refine Kd.R_append (Kd.int .u8) (w0 := w0) w0.heap.size rfl (.tmp 78) (.tmp 82) 22 5 (.int .u8 0) 1 rfl Try.underlying22 info_u8 rfl (by decide) (by omega) _ ?xsN1 ?ppN1 _ (fun k => k ≠ g) (fun _ => False) rfl rfl ?aP (fun _ hk => hk.elim) ?aF ?aO ?aB ?aS ?aL ?_; (case aO => exact (by (with_reducible repeat (first | apply Kd.R_alloc | apply Kd.R_drewN | apply Kd.R_drew)); exact BZ.out.R)); (case aP => exact rfl); (case aB => exact (by repeat (first | exact BZ.out.B | apply below_alloc | apply pw_below_drewN | apply below_drew1))); (case aF => exact fun k hk => BZ.out.fresh (by first | exact Below.refl _ _ | exact pw_below_drewN (Below.refl _ _) _ | exact below_alloc (Below.refl _ _) _) hk); (case aS => exact (below_size (by repeat (first | exact BZ.out.B | apply below_alloc | apply pw_below_drewN | apply below_drew1)))); (case aL => (try simp only [List.length_append, List.length_cons, List.length_nil]); have := HL.out; have := HD.out; omega); intro v_ w_ ho_ hb hg hat; obtain ⟨l_, hq, ho⟩ := nameR ho_; have N1 := Lib.hid hq; have HLn := Lib.hid (show l_.length ≤ 11000 from by rw [hq]; simp only [List.length_append, List.length_cons, List.length_nil]; have := HL.out; have := HD.out; omega); clear HL; have HL := HLn; clear HLn hq ho_; obtain ⟨A_, c_, rfl⟩ := Kd.R_slice ho; have z0_ := (BZ.out.mid (by first | exact Below.refl _ _ | exact pw_below_drewN (Below.refl _ _) _ | exact below_alloc (Below.refl _ _) _) hg).1; have zf_ := (BZ.out.mid (by first | exact Below.refl _ _ | exact pw_below_drewN (Below.refl _ _) _ | exact below_alloc (Below.refl _ _) _) hg).2; have n0_ := Lib.hid (BZ.out.push (by first | exact Below.refl _ _ | exact pw_below_drewN (Below.refl _ _) _ | exact below_alloc (Below.refl _ _) _) ho hb hg); have n1_ := Lib.hid (DV.out.push (by first | exact Below.refl _ _ | exact pw_below_drewN (Below.refl _ _) _ | exact below_alloc (Below.refl _ _) _) hg hat); clear DV; have DV := n1_; clear n1_; clear BZ; have BZ := n0_; clear n0_ ho hb hg hat)) | ((with_reducible refine gate_builtin (b := .append) (xs := #[.tmp 153, .tmp 154]) rfl ?_); at_builtin; go_must (refine Kd.R_append_rows (Kd.int .u8) (w0 := w0) w0.heap.size rfl (.tmp 153) (.tmp 154) 22 5 (.int .u8 0) 1 rfl Try.underlying22 info_u8 rfl (by decide) (by omega) _ ?xsN2 ?ysN2 _ _ _ (fun k => k ≠ g) (fun _ => False) rfl rfl ?aO ?aR (fun _ _ h => h) (fun _ h => h.elim) ?aF ?aB ?aS ?aL ?_; (case aO => exact (by (with_reducible repeat (first | apply Kd.R_alloc | apply Kd.R_drewN | apply Kd.R_drew)); exact BZ.out.R)); (case aR => exact (by repeat (first | exact DV.out.C | (with_reducible refine Kd.C_alloc ?_ _) | (with_reducible refine Kd.C_drewN ?_ _) | (with_reducible refine Kd.C_drew ?_)))); (case aB => exact (by repeat (first | exact BZ.out.B | apply below_alloc | apply pw_below_drewN | apply below_drew1))); (case aF => exact fun k hk => BZ.out.fresh (by first | exact Below.refl _ _ | exact pw_below_drewN (Below.refl _ _) _ | exact below_alloc (Below.refl _ _) _) hk); (case aS => exact (below_size (by repeat (first | exact BZ.out.B | apply below_alloc | apply pw_below_drewN | apply below_drew1)))); (case aL => (try simp only [List.length_append, List.length_cons, List.length_nil]); have := HL.out; have := HD.out; omega); intro v_ w_ ho_ hb hg hat; obtain ⟨l_, hq, ho⟩ := nameR ho_; have N2 := Lib.hid hq; have HLn := Lib.hid (show l_.length ≤ 12000 from by rw [hq]; simp only [List.length_append, List.length_cons, List.length_nil]; have := HL.out; have := HD.out; omega); clear HL; have HL := HLn; clear HLn hq ho_; obtain ⟨A_, c_, rfl⟩ := Kd.R_slice ho; have z0_ := (BZ.out.mid (by first | exact Below.refl _ _ | exact pw_below_drewN (Below.refl _ _) _ | exact below_alloc (Below.refl _ _) _) hg).1; have zf_ := (BZ.out.mid (by first | exact Below.refl _ _ | exact pw_below_drewN (Below.refl _ _) _ | exact below_alloc (Below.refl _ _) _) hg).2; have n0_ := Lib.hid (BZ.out.push (by first | exact Below.refl _ _ | exact pw_below_drewN (Below.refl _ _) _ | exact below_alloc (Below.refl _ _) _) ho hb hg); have n1_ := Lib.hid (DV.out.push (by first | exact Below.refl _ _ | exact pw_below_drewN (Below.refl _ _) _ | exact below_alloc (Below.refl _ _) _) hg hat); clear DV; have DV := n1_; clear n1_; clear BZ; have BZ := n0_; clear n0_ ho hb hg hat)))
  go_ret
  exact ⟨rfl, BZ.out.cast (by rw [N2.out, N1.out, HPS.out]; all_goals first | rfl | (simp; done) | (have := HD1.out; simp [IntKind.wrap_u8]; omega))⟩

set_option maxHeartbeats 8000000 in
set_option maxRecDepth 100000 in
theorem addData_q (w0 w : World) (g : Nat) (v : Value) (l : List Int) (A : Option Addr) (c : Nat) (d : List Int) (h : Bz w0 w g v l) (hdv : Dv w g v A c d) (hl : l.length ≤ 10000) (hd : 76 ≤ d.length ∧ d.length ≤ 255) :
    Calls Try.prog 58 #[.pointer (some ⟨g, 0, none⟩), .slice A d.length c] w fun e w' => e = .returned (.pointer (some ⟨g, 0, none⟩)) ∧ ∃ v', Bz w0 w' g v' (l ++ pushB d) := by
  have hps : pushB d = 76 :: (d.length : Int) :: d := by
    unfold pushB
    rw [if_neg (by omega), if_neg (by omega), if_neg (by omega), if_neg (by omega), if_pos (by omega)]
  have HPS := Lib.hid hps
  have HD := Lib.hid (show d.length ≤ 520 by omega)
  have HD1 := Lib.hid hd
  have z0 := h.c0
  have z1 := h.c1
  have BZ := Lib.hid h
  have DV := Lib.hid hdv
  have HL := Lib.hid hl
  have hC := hdv.C
  obtain ⟨Av, cv, rfl⟩ := Kd.R_slice h.R
  clear hps
  have f0 : ((d.length : Int) == 0) = false := beq_eq_false_iff_ne.2 (by omega)
  have f0' : (d.length == 0) = false := beq_eq_false_iff_ne.2 (by omega)
  have f1 : ((d.length : Int) == 1) = false := beq_eq_false_iff_ne.2 (by omega)
  have f1' : (d.length == 1) = false := beq_eq_false_iff_ne.2 (by omega)
  have f2 : decide ((d.length : Int) < 76) = false := decide_eq_false (by omega)
  have f2' : decide (d.length < 76) = false := decide_eq_false (by omega)
  have f3 : decide ((d.length : Int) ≤ 255) = true := decide_eq_true (by omega)
  have f3' : decide (d.length ≤ 255) = true := decide_eq_true (by omega)
  have f4 : decide ((d.length : Int) ≤ 65535) = true := decide_eq_true (by omega)
  have f4' : decide (d.length ≤ 65535) = true := decide_eq_true (by omega)
  have hn := hd.2
  skip
  clear hd hC h hdv hl
  go_enter Try.func58, Try.ntmps58
  go_wp2_with (first | ((with_reducible refine gate_builtin (b := .append) (xs := #[.tmp 92, .tmp 95]) rfl ?_); at_builtin; go_must (refine Kd.R_append_rows (Kd.int .u8) (w0 := w0) w0.heap.size rfl (.tmp 92) (.tmp 95) 22 5 (.int .u8 0) 1 rfl Try.underlying22 info_u8 rfl (by decide) (by omega) _ ?xsN1 ?ysN1 _ _ _ (fun k => k ≠ g) (fun _ => False) rfl rfl ?aO ?aR (fun _ _ h => h) (fun _ h => h.elim) ?aF ?aB ?aS ?aL ?_; (case aO => exact (by (with_reducible repeat (first | apply Kd.R_alloc | apply Kd.R_drewN | apply Kd.R_drew)); exact BZ.out.R)); (case aR => exact lit2 _ _ _); (case aB => exact (by repeat (first | exact BZ.out.B | apply below_alloc | apply pw_below_drewN | apply below_drew1))); (case aF => exact fun k hk => BZ.out.fresh (by first | exact Below.refl _ _ | exact pw_below_drewN (Below.refl _ _) _ | exact below_alloc (Below.refl _ _) _) hk); (case aS => exact (below_size (by repeat (first | exact BZ.out.B | apply below_alloc | apply pw_below_drewN | apply below_drew1)))); (case aL => (try simp only [List.length_append, List.length_cons, List.length_nil]); have := HL.out; have := HD.out; omega); intro v_ w_ ho_ hb hg hat; obtain ⟨l_, hq, ho⟩ := nameR ho_; have N1 := Lib.hid hq; have HLn := Lib.hid (show l_.length ≤ 11000 from by rw [hq]; simp only [List.length_append, List.length_cons, List.length_nil]; have := HL.out; have := HD.out; omega); clear HL; have HL := HLn; clear HLn hq ho_; obtain ⟨A_, c_, rfl⟩ := Kd.R_slice ho; have z0_ := (BZ.out.mid (by first | exact Below.refl _ _ | exact pw_below_drewN (Below.refl _ _) _ | exact below_alloc (Below.refl _ _) _) hg).1; have zf_ := (BZ.out.mid (by first | exact Below.refl _ _ | exact pw_below_drewN (Below.refl _ _) _ | exact below_alloc (Below.refl _ _) _) hg).2; have n0_ := Lib.hid (BZ.out.push (by first | exact Below.refl _ _ | exact pw_below_drewN (Below.refl _ _) _ | exact below_alloc (Below.refl _ _) _) ho hb hg); have n1_ := Lib.hid (DV.out.push (by first | exact Below.refl _ _ | exact pw_below_drewN (Below.refl _ _) _ | exact below_alloc (Below.refl _ _) _) hg hat); clear DV; have DV := n1_; clear n1_; clear BZ; have BZ := n0_; clear n0_ ho hb hg hat)) | ((with_reducible refine gate_builtin (b := .append) (xs := #[.tmp 153, .tmp 154]) rfl ?_); at_builtin; go_must (refine Kd.R_append_rows (Kd.int .u8) (w0 := w0) w0.heap.size rfl (.tmp 153) (.tmp 154) 22 5 (.int .u8 0) 1 rfl Try.underlying22 info_u8 rfl (by decide) (by omega) _ ?xsN2 ?ysN2 _ _ _ (fun k => k ≠ g) (fun _ => False) rfl rfl ?aO ?aR (fun _ _ h => h) (fun _ h => h.elim) ?aF ?aB ?aS ?aL ?_; (case aO => exact (by (with_reducible repeat (first | apply Kd.R_alloc | apply Kd.R_drewN | apply Kd.R_drew)); exact BZ.out.R)); (case aR => exact (by repeat (first | exact DV.out.C | (with_reducible refine Kd.C_alloc ?_ _) | (with_reducible refine Kd.C_drewN ?_ _) | (with_reducible refine Kd.C_drew ?_)))); (case aB => exact (by repeat (first | exact BZ.out.B | apply below_alloc | apply pw_below_drewN | apply below_drew1))); (case aF => exact fun k hk => BZ.out.fresh (by first | exact Below.refl _ _ | exact pw_below_drewN (Below.refl _ _) _ | exact below_alloc (Below.refl _ _) _) hk); (case aS => exact (below_size (by repeat (first | exact BZ.out.B | apply below_alloc | apply pw_below_drewN | apply below_drew1)))); (case aL => (try simp only [List.length_append, List.length_cons, List.length_nil]); have := HL.out; have := HD.out; omega); intro v_ w_ ho_ hb hg hat; obtain ⟨l_, hq, ho⟩ := nameR ho_; have N2 := Lib.hid hq; have HLn := Lib.hid (show l_.length ≤ 12000 from by rw [hq]; simp only [List.length_append, List.length_cons, List.length_nil]; have := HL.out; have := HD.out; omega); clear HL; have HL := HLn; clear HLn hq ho_; obtain ⟨A_, c_, rfl⟩ := Kd.R_slice ho; have z0_ := (BZ.out.mid (by first | exact Below.refl _ _ | exact pw_below_drewN (Below.refl _ _) _ | exact below_alloc (Below.refl _ _) _) hg).1; have zf_ := (BZ.out.mid (by first | exact Below.refl _ _ | exact pw_below_drewN (Below.refl _ _) _ | exact below_alloc (Below.refl _ _) _) hg).2; have n0_ := Lib.hid (BZ.out.push (by first | exact Below.refl _ _ | exact pw_below_drewN (Below.refl _ _) _ | exact below_alloc (Below.refl _ _) _) ho hb hg); have n1_ := Lib.hid (DV.out.push (by first | exact Below.refl _ _ | exact pw_below_drewN (Below.refl _ _) _ | exact below_alloc (Below.refl _ _) _) hg hat); clear DV; have DV := n1_; clear n1_; clear BZ; have BZ := n0_; clear n0_ ho hb hg hat)))
  go_ret
  exact ⟨rfl, BZ.out.cast (by rw [N2.out, N1.out, HPS.out]; all_goals first | rfl | (simp; done) | (have := HD1.out; simp [IntKind.wrap_u8]; omega))⟩

set_option maxHeartbeats 8000000 in
set_option maxRecDepth 100000 in
theorem addData_s (w0 w : World) (g : Nat) (v : Value) (l : List Int) (A : Option Addr) (c : Nat) (d : List Int) (h : Bz w0 w g v l) (hdv : Dv w g v A c d) (hl : l.length ≤ 10000) (hd : d.length = 1 ∧ 1 ≤ rd d 0 ∧ rd d 0 ≤ 16) :
    Calls Try.prog 58 #[.pointer (some ⟨g, 0, none⟩), .slice A d.length c] w fun e w' => e = .returned (.pointer (some ⟨g, 0, none⟩)) ∧ ∃ v', Bz w0 w' g v' (l ++ pushB d) := by
  have hps : pushB d = [80 + rd d 0] := by
    unfold pushB
    rw [if_neg (by omega), if_pos hd]
  have HPS := Lib.hid hps
  have HD := Lib.hid (show d.length ≤ 520 by omega)
  have HD1 := Lib.hid hd
  have z0 := h.c0
  have z1 := h.c1
  have BZ := Lib.hid h
  have DV := Lib.hid hdv
  have HL := Lib.hid hl
  have hC := hdv.C
  obtain ⟨Av, cv, rfl⟩ := Kd.R_slice h.R
  clear hps
  have f0 : ((d.length : Int) == 0) = false := beq_eq_false_iff_ne.2 (by omega)
  have f0' : (d.length == 0) = false := beq_eq_false_iff_ne.2 (by omega)
  have f1 : ((d.length : Int) == 1) = true := beq_iff_eq.2 (by omega)
  have f1' : (d.length == 1) = true := beq_iff_eq.2 (by omega)
  have f2 : decide ((d.length : Int) < 76) = true := decide_eq_true (by omega)
  have f2' : decide (d.length < 76) = true := decide_eq_true (by omega)
  have f3 : decide ((d.length : Int) ≤ 255) = true := decide_eq_true (by omega)
  have f3' : decide (d.length ≤ 255) = true := decide_eq_true (by omega)
  have f4 : decide ((d.length : Int) ≤ 65535) = true := decide_eq_true (by omega)
  have f4' : decide (d.length ≤ 65535) = true := decide_eq_true (by omega)
  obtain ⟨x, hx⟩ : ∃ x, rd d 0 = x := ⟨_, rfl⟩
  obtain ⟨ad, e_, hc_⟩ := Kd.at_int hC 0 (by omega) (by omega)
  cases e_
  have hc : w.cell? ad = some (.int .u8 x) := by have h := hc_; rw [hx] at h; exact h
  rw [hx] at hd
  have f5 : 0 < d.length := by omega
  have x0 : (x == 0) = false := beq_eq_false_iff_ne.2 (by omega)
  have x1 : decide (x ≤ 16) = true := decide_eq_true (by omega)
  have x2 : (x == 129) = false := beq_eq_false_iff_ne.2 (by omega)
  have hn : d.length ≤ 1 := by omega
  have HX := Lib.hid hx
  clear hd hC hc_ hx h hdv hl
  have HCX := Lib.hid hc
  go_enter Try.func58, Try.ntmps58
  go_wp2
  have BZd := Lib.hid (BZ.out.below (below_drew (Below.refl _ _)))
  have DVd := Lib.hid (DV.out.below (below_drew (Below.refl _ _)))
  have z2 : ∀ o, (w.alloc o).cell? ⟨g, 0, none⟩ = some (.slice Av l.length cv) := fun o => pw_cell_below (below_alloc (Below.refl _ _) o) z0
  have z3 : ∀ o, (w.alloc o).cell? ad = some (.int .u8 x) := fun o => pw_cell_below (below_alloc (Below.refl _ _) o) hc
  clear BZ DV
  have BZ := BZd
  have DV := DVd
  clear BZd DVd
  go_region_law (refine Kd.R_append_step (Kd.int .u8) (w0 := w0) w0.heap.size (by first | assumption | rfl | (simp [Region.wanted]; done)) (.tmp 44) (.tmp 49) 22 5 (.int .u8 0) 1 rfl Try.underlying22 info_u8 rfl (by decide) (by omega) _ l (IntKind.u8.wrap (80 + x)) [.int .u8 (IntKind.u8.wrap (80 + x))] (fun k => k ≠ g) (fun _ => False) rfl rfl rfl (fun _ hk => hk.elim) (fun k hk => BZ.out.fresh (Below.refl _ _) hk) BZ.out.R BZ.out.B (below_size BZ.out.B) (by have := HL.out; omega) ?_; intro v_ w_ ho_ hb hg hat; obtain ⟨l_, hq, ho⟩ := nameR ho_; have N1 := Lib.hid hq; have HLn := Lib.hid (show l_.length ≤ 11000 from by rw [hq]; simp only [List.length_append, List.length_cons, List.length_nil]; have := HL.out; have := HD.out; omega); clear HL; have HL := HLn; clear HLn hq ho_; obtain ⟨A_, c_, rfl⟩ := Kd.R_slice ho; have z0_ := (BZ.out.mid (by first | exact Below.refl _ _ | exact pw_below_drewN (Below.refl _ _) _ | exact below_alloc (Below.refl _ _) _) hg).1; have zf_ := (BZ.out.mid (by first | exact Below.refl _ _ | exact pw_below_drewN (Below.refl _ _) _ | exact below_alloc (Below.refl _ _) _) hg).2; have n0_ := Lib.hid (BZ.out.push (by first | exact Below.refl _ _ | exact pw_below_drewN (Below.refl _ _) _ | exact below_alloc (Below.refl _ _) _) ho hb hg); have n1_ := Lib.hid (DV.out.push (by first | exact Below.refl _ _ | exact pw_below_drewN (Below.refl _ _) _ | exact below_alloc (Below.refl _ _) _) hg hat); clear DV; have DV := n1_; clear n1_; clear BZ; have BZ := n0_; clear n0_ ho hb hg hat)
  all_goals go_wp2
  all_goals
    go_ret
    exact ⟨rfl, BZ.out.cast (by have h := HD1.out; rw [HX.out] at h; rw [N1.out, HPS.out, HX.out, IntKind.wrap_u8, Int.emod_eq_of_lt (by omega) (by omega)])⟩

end Go.Proofs.Ytabdmbnggkageaa.Bld
