/-
  Rows of bytes that grow: append, and a tuple of words for walks that append; spec.inBytes.
-/
import Derived.Test.YtdjchplaeipgpaaTxP
import Derived.Test.YtdjchplaeipgpaaTxArg
namespace Go.Proofs.Ytdjchplaeipgpaa.Wire
open Go.RowKit Go.Proofs.YtdjchplaeipgpaaW.PrintWords Go.Proofs.YtdjchplaeipgpaaW.PrintLast Go.Proofs.Ytdjchplaeipgpaa.Tx Go.Proofs.Ytdjchplaeipgpaa.Reg
set_option linter.unusedSimpArgs false
set_option linter.unusedVariables false

/-- A row of bytes of this call's own. -/
abbrev Own (w0 w : World) (v : Value) (l : List Int) : Prop := Kd.R (Kd.int .u8) 5 w w0.heap.size (fun _ => True) v l ∧ Below w0.heap.size w0 w
theorem Own.below {w0 w w1 : World} {v : Value} {l : List Int} (h : Own w0 w v l) (hb : Below w.heap.size w w1) : Own w0 w1 v l := ⟨Kd.R_below h.1 hb, below_then h.2 h.2.size hb⟩
theorem Own.eq {w0 w : World} {v : Value} {l l' : List Int} (h : Own w0 w v l) (e : l = l') : Own w0 w v l' := e ▸ h
section
variable {ops : Array Oper} {Q : Exit → Act → World → Prop} {a : Act} {rest : List Oper} {o : Oper}
/-- append(v, ys...), both bytes. -/
theorem app {w0 W : World} (hgd : o.guard = none) (s x : Operand) (ho : o.op = .call { callee := .builtin .append, args := #[s, x], argTypes := #[30, 30] }) {v : Value} {xs ys : List Int} {A : Option Addr} {c : Nat} {n : Nat} (hs : a.eval s = v) (hx : a.eval x = .slice A n c)
    (HO : Own w0 W v xs) (HR : Kd.C (Kd.int .u8) W A ys.length ys) (hn : ys.length = n) (hl : xs.length + ys.length ≤ 140737488355328)
    (h : ∀ v1 w1, Own w0 w1 v1 (xs ++ ys) → W.grownBy w1 v.ownBlock → wpList Try.prog ops Q rest (a.put o.dst v1) w1) : wpList Try.prog ops Q (o :: rest) a W := by
  subst hn
  exact Kd.R_append_rows (Kd.int .u8) w0.heap.size hgd s x 30 5 (.int .u8 0) 1 ho Try.underlying30 PFnBlockBytes.info5 rfl (by decide) (by decide) v xs ys A ys.length c (fun _ => True) (fun _ => False) hs hx HO.1 HR (fun _ _ h => h) (fun _ h => h.elim) (fun _ _ => trivial) HO.2 HO.2.size (by omega) (fun v1 w1 h1 h2 h3 _ => h v1 w1 ⟨h1, h2⟩ h3)
end
/-- What a call made, as bytes that are read. -/
theorem made_C {w0 w w1 : World} {l d : List Int} {v u : Value} {base : Nat} {ok : Nat → Prop} (h : Own w0 w v l) (hr : Kd.R (Kd.int .u8) 5 w1 base ok u d) (hb : Below w.heap.size w w1) : Own w0 w1 v l ∧ ∃ A c, u = .slice A d.length c ∧ Kd.C (Kd.int .u8) w1 A d.length d := by
  obtain ⟨A, c, e, _, hC⟩ := Kd.R_reads hr
  exact ⟨h.below hb, A, c, e, hC⟩
set_option maxHeartbeats 8000000 in
set_option maxRecDepth 100000 in
theorem specIn_calls (y : TI) (A1 : Option Addr) (c1 : Nat) (A2 : Option Addr) (c2 : Nat) (w : World) (hl : y.h.length = 32) (l1 : y.s.length ≤ c1) (g1 : (Kd.int .u8).C w A1 y.s.length y.s) (hi : 0 ≤ y.i ∧ y.i < 4294967296) (hq : 0 ≤ y.q ∧ y.q < 4294967296) (hs : y.s.length ≤ 2147483647) :
    Calls Try.prog 25 #[.agg (tic y A1 c1 A2 c2).toArray] w fun e w' => ∃ v, e = .returned v ∧ Own w w' v (inB y) := by
  have hW0 : Below w.heap.size w (w.alloc (.cells (tic y A1 c1 A2 c2).toArray 52)) := below_alloc (Below.refl _ _) _
  have hcell : ∀ (W : World), Below (w.alloc (.cells (tic y A1 c1 A2 c2).toArray 52)).heap.size (w.alloc (.cells (tic y A1 c1 A2 c2).toArray 52)) W → ∀ j v, (tic y A1 c1 A2 c2)[j]? = some v → W.cell? ⟨w.heap.size, j, none⟩ = some v := by
    intro W hW j v hj
    have := box_cell w _ 52 j v hj
    exact (hW.cell (World.block_lt_of_cell? _ _ this)).trans this
  have hhash : ∀ (W : World), Below (w.alloc (.cells (tic y A1 c1 A2 c2).toArray 52)).heap.size (w.alloc (.cells (tic y A1 c1 A2 c2).toArray 52)) W → Kd.C (Kd.int .u8) W (some ⟨w.heap.size, 0, none⟩) y.h.length y.h := fun W hW => by
    refine Kd.C_of_reads (d := (0 : Int)) (h1 := fun _ => rfl) ⟨rfl, by omega, fun hn => ⟨_, rfl, fun j hj => ?_⟩⟩
    rw [add_plain]
    refine hcell W hW j _ ?_
    rw [tic, opc, List.append_assoc, List.getElem?_append_left (by rw [hv_len]; exact hj)]
    simp [hv, List.getD, hj]
  obtain ⟨cs, hcs⟩ : ∃ cs, (tic y A1 c1 A2 c2).toArray = cs := ⟨_, rfl⟩
  rw [hcs] at hhash hW0 ⊢
  have hc : ∀ W, Below (w.alloc (.cells cs 52)).heap.size (w.alloc (.cells cs 52)) W → W.cell? ⟨w.heap.size, 32, none⟩ = some (.int .u32 y.i) ∧ W.cell? ⟨w.heap.size, 33, none⟩ = some (.slice A1 y.s.length c1) ∧ W.cell? ⟨w.heap.size, 35, none⟩ = some (.int .u32 y.q) := by
    intro W hW
    rw [hcs] at hcell
    exact ⟨hcell W hW 32 _ (tic_32 _ _ _ _ _ hl), hcell W hW 33 _ (tic_33 _ _ _ _ _ hl), hcell W hW 35 _ (tic_35 _ _ _ _ _ hl)⟩
  have HH := Lib.hid hhash
  have HC := Lib.hid hc
  have HL := Lib.hid hl
  have L1 := Lib.hid l1
  have G1 := Lib.hid g1
  have HI := Lib.hid hi
  have HQ := Lib.hid hq
  have HS := Lib.hid hs
  have W0 := Lib.hid hW0
  have hw1 : IntKind.u64.wrap y.i = y.i := u64_id hi.1 (by omega)
  have hw2 : y.i % 18446744073709551616 = y.i := by omega
  have hw3 : IntKind.u64.wrap y.q = y.q := u64_id hq.1 (by omega)
  have hw4 : y.q % 18446744073709551616 = y.q := by omega
  obtain ⟨di, hdi⟩ : ∃ d, le 4 y.i = d := ⟨_, rfl⟩
  obtain ⟨dq, hdq⟩ : ∃ d, le 4 y.q = d := ⟨_, rfl⟩
  obtain ⟨ds, hds⟩ : ∃ d, vb y.s = d := ⟨_, rfl⟩
  have KI := Lib.hid (hdi ▸ little_eq 4 9 (by omega) (by omega) y.i hi.1 (by omega))
  have KQ := Lib.hid (hdq ▸ little_eq 4 9 (by omega) (by omega) y.q hq.1 (by omega))
  have KV := Lib.hid (hds ▸ varbytes_eq 9 (by omega) y.s (by omega))
  have HD := Lib.hid (show inB y = y.h ++ di ++ ds ++ dq from by rw [inB, opB, hdi, hdq, hds])
  have LI := Lib.hid (show di.length = 4 from by rw [← hdi, le_len])
  have LQ := Lib.hid (show dq.length = 4 from by rw [← hdq, le_len])
  have LS := Lib.hid (show ds.length ≤ 3000000000 from by rw [← hds]; have := vb_len y.s; omega)
  rw [HD.out]
  clear hhash hcell hc hl l1 g1 hi hq hs hW0 hcs hdi hdq hds
  go_enter Try.func25, Try.ntmps25
  go_wp2_with (first
    | ((with_reducible refine gate_dst (N := 4) rfl ?_); refine Kd.R_lit (Kd.int .u8) _ 5 ?hg (N := 4) ?hd (xs := ([] : List Int)) (inner := []) (ok := fun _ => True) (okp := fun _ => True) ?hr ?hp (fun _ hk => hk) trivial (Below.refl _ _) (Nat.le_refl _) (by simp) ?_; (case hd => rfl); (case hg => rfl); (case hr => first | (go_simp; done) | (go_simp; rfl)); (case hp => exact (Reps.none _ _)); intro v1 w1 h1 hb1 hg_ hnew_; clear hg_ hnew_; have HO := Lib.hid (show Own (w.alloc (.cells cs 52)) w1 v1 [] from ⟨h1, hb1⟩); clear h1 hb1)
    | ((with_reducible refine gate_builtin (b := .append) (xs := #[.tmp 4, .tmp 7]) rfl ?_); at_builtin; go_must (refine app (w0 := (w.alloc (.cells cs 52))) rfl (.tmp 4) (.tmp 7) rfl rfl rfl HO.out (HH.out _ HO.out.2) HL.out (by have := HL.out; simp; omega) ?_); intro v_ w_ ho_ _; have n0_ := Lib.hid ho_; clear HO  ho_; have HO := n0_; clear n0_; have k_ := HC.out _ HO.out.2; have k32 := k_.1; have k33 := k_.2.1; have k35 := k_.2.2; clear k_)
    | (go_at_call 23; (with_reducible refine (PFnBlockBytes.spec_little.calls 9 y.i 4 _ _ KI.out).mono ?_); rintro e w_ ⟨u, rfl, hr, hb⟩; obtain ⟨ho_, A, c, rfl, hC⟩ := made_C HO.out hr hb; have n0_ := Lib.hid ho_; have HCx := Lib.hid hC; clear HO hr hb ho_ hC; have HO := n0_; clear n0_)
    | ((with_reducible refine gate_builtin (b := .append) (xs := #[.tmp 9, .tmp 14]) rfl ?_); at_builtin; go_must (refine app (w0 := (w.alloc (.cells cs 52))) rfl (.tmp 9) (.tmp 14) rfl rfl rfl HO.out HCx.out rfl (by have := HL.out; have := LI.out; simp; omega) ?_); intro v_ w_ ho_ _; have n0_ := Lib.hid ho_; clear HO HCx ho_; have HO := n0_; clear n0_; have k_ := HC.out _ HO.out.2; have k32 := k_.1; have k33 := k_.2.1; have k35 := k_.2.2; clear k_)
    | (go_at_call 41; (with_reducible refine (PFnBlockBytes.spec_VarBytes.calls 9 A1 c1 y.s _ _ (Kd.C_below (Kd.C_below G1.out W0.out) HO.out.2) L1.out KV.out).mono ?_); rintro e w_ ⟨u, rfl, hr, hb⟩; obtain ⟨ho_, A, c, rfl, hC⟩ := made_C HO.out hr hb; have n0_ := Lib.hid ho_; have HCx := Lib.hid hC; clear HO hr hb ho_ hC; have HO := n0_; clear n0_)
    | ((with_reducible refine gate_builtin (b := .append) (xs := #[.tmp 16, .tmp 19]) rfl ?_); at_builtin; go_must (refine app (w0 := (w.alloc (.cells cs 52))) rfl (.tmp 16) (.tmp 19) rfl rfl rfl HO.out HCx.out rfl (by have := HL.out; have := LI.out; have := LQ.out; have := LS.out; simp; omega) ?_); intro v_ w_ ho_ _; have n0_ := Lib.hid ho_; clear HO HCx ho_; have HO := n0_; clear n0_; have k_ := HC.out _ HO.out.2; have k32 := k_.1; have k33 := k_.2.1; have k35 := k_.2.2; clear k_)
    | (go_at_call 23; (with_reducible refine (PFnBlockBytes.spec_little.calls 9 y.q 4 _ _ KQ.out).mono ?_); rintro e w_ ⟨u, rfl, hr, hb⟩; obtain ⟨ho_, A, c, rfl, hC⟩ := made_C HO.out hr hb; have n0_ := Lib.hid ho_; have HCx := Lib.hid hC; clear HO hr hb ho_ hC; have HO := n0_; clear n0_)
    | ((with_reducible refine gate_builtin (b := .append) (xs := #[.tmp 21, .tmp 25]) rfl ?_); at_builtin; go_must (refine app (w0 := (w.alloc (.cells cs 52))) rfl (.tmp 21) (.tmp 25) rfl rfl rfl HO.out HCx.out rfl (by have := HL.out; have := LI.out; have := LQ.out; have := LS.out; simp; omega) ?_); intro v_ w_ ho_ _; have n0_ := Lib.hid ho_; clear HO HCx ho_; have HO := n0_; clear n0_; have k_ := HC.out _ HO.out.2; have k32 := k_.1; have k33 := k_.2.1; have k35 := k_.2.2; clear k_))
  go_ret
  refine ⟨_, rfl, Kd.R_lower (by have := HO.out.1; simpa using this) W0.out.size, below_then W0.out W0.out.size HO.out.2⟩
end Go.Proofs.Ytdjchplaeipgpaa.Wire
