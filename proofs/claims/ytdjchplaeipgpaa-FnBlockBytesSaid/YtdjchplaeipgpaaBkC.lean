/-
  spec.HeaderBytes, spec.BlockBytes.
  Wire's writer of headers.
  Blocks of wire's are encoded; impl.BlockBytes.
-/
import Derived.Test.YtdjchplaeipgpaaTxSp
import Derived.Test.YtdjchplaeipgpaaBkB
import Derived.Test.YtdjchplaeipgpaaTxImpl
namespace Go.Proofs.Ytdjchplaeipgpaa.Wire
open Go.RowKit Go.Proofs.YtdjchplaeipgpaaW.PrintWords Go.Proofs.YtdjchplaeipgpaaW.PrintLast Go.Proofs.Ytdjchplaeipgpaa.Tx Go.Proofs.Ytdjchplaeipgpaa.Reg
set_option linter.unusedSimpArgs false
set_option linter.unusedVariables false

/-- A header as bytes, a block's transactions, a block. -/
def hdB (h : HD) : List Int := le 4 (h.v % 4294967296) ++ (h.p ++ (h.r ++ (le 4 h.t ++ (le 4 h.b ++ le 4 h.n))))
def bkT (k : BK) (wit : Bool) : List Int := (k.txs.map (fun x => txB x (wit && hasW x.ins))).flatten
def bkB (k : BK) (wit : Bool) : List Int := hdB k.h ++ (vi k.txs.length ++ bkT k wit)
structure NumH (h : HD) : Prop where
  t : 0 ≤ h.t ∧ h.t < 4294967296
  b : 0 ≤ h.b ∧ h.b < 4294967296
  n : 0 ≤ h.n ∧ h.n < 4294967296
structure OkB (k : BK) : Prop where
  n : k.txs.length ≤ 2147483647
  ok : ∀ y ∈ k.txs, fit2 y = true ∧ Nums y ∧ txN y + 256 ≤ 140737488355328
  h : NumH k.h
  lim : ∀ wit, (bkT k wit).length + (k.txs.map txN).sum + 1024 ≤ 140737488355328
section
variable {ops : Array Oper} {Kc : Act → World → Prop} {Q : Exit → Act → World → Prop} {a : Act} {o : Oper}
/-- append(v, ys...), both bytes, in a region that draws. -/
theorem app_step {w0 W : World} (hw : Region.wanted o (yielded ops a.tmps) = true) (s x : Operand) (ho : o.op = .call { callee := .builtin .append, args := #[s, x], argTypes := #[30, 30] }) {v : Value} {xs ys : List Int} {A : Option Addr} {c : Nat} {n : Nat} (hs : a.eval s = v) (hx : a.eval x = .slice A n c)
    (HO : Own w0 W v xs) (HR : Kd.C (Kd.int .u8) W A ys.length ys) (hn : ys.length = n) (hl : xs.length + ys.length ≤ 140737488355328)
    (h : ∀ v1 w1, Own w0 w1 v1 (xs ++ ys) → W.grownBy w1 v.ownBlock → Kc (a.put o.dst v1) w1) : if Region.wanted o (yielded ops a.tmps) = true then Oper.wp Try.prog o a W Kc Q else Kc (a.put o.dst undef) W := by
  subst hn
  exact Kd.R_append_rows_step (Kd.int .u8) w0.heap.size hw s x 30 5 (.int .u8 0) 1 ho Try.underlying30 PFnBlockBytes.info5 rfl (by decide) (by decide) v xs ys A ys.length c (fun _ => True) (fun _ => False) hs hx HO.1 HR (fun _ _ h => h) (fun _ h => h.elim) (fun _ _ => trivial) HO.2 HO.2.size (by omega) (fun v1 w1 h1 h2 h3 _ => h v1 w1 ⟨h1, h2⟩ h3)
end
set_option maxHeartbeats 8000000 in
set_option maxRecDepth 100000 in
theorem specHd_calls (h : HD) (lp : h.p.length = 32) (lr : h.r.length = 32) (hn : NumH h) (w : World) :
    Calls Try.prog 34 #[.agg (hdc h).toArray] w fun e w' => ∃ v, e = .returned v ∧ Own w w' v (hdB h) := by
  have hcell : ∀ (W : World), Below (w.alloc (.cells (hdc h).toArray 35)).heap.size (w.alloc (.cells (hdc h).toArray 35)) W → ∀ j v, (hdc h)[j]? = some v → W.cell? ⟨w.heap.size, j, none⟩ = some v := by
    intro W hW j v hj
    rw [blk_cell (blk_below (heap_alloc_new w _) hW) j]
    simpa using hj
  have hp : ∀ (W : World), Below (w.alloc (.cells (hdc h).toArray 35)).heap.size (w.alloc (.cells (hdc h).toArray 35)) W → Kd.C (Kd.int .u8) W (some ⟨w.heap.size, 1, none⟩) h.p.length h.p := fun W hW => by
    refine Kd.C_of_reads (d := (0 : Int)) (h1 := fun _ => rfl) ⟨rfl, by omega, fun hn => ⟨_, rfl, fun j hj => ?_⟩⟩
    rw [Addr.add_mid]
    refine hcell W hW (1 + j) _ ?_
    rw [hdc_p h j hj]
    simp [hv, List.getD, hj]
  have hr : ∀ (W : World), Below (w.alloc (.cells (hdc h).toArray 35)).heap.size (w.alloc (.cells (hdc h).toArray 35)) W → Kd.C (Kd.int .u8) W (some ⟨w.heap.size, 33, none⟩) h.r.length h.r := fun W hW => by
    refine Kd.C_of_reads (d := (0 : Int)) (h1 := fun _ => rfl) ⟨rfl, by omega, fun hn => ⟨_, rfl, fun j hj => ?_⟩⟩
    rw [Addr.add_mid]
    refine hcell W hW (33 + j) _ ?_
    rw [hdc_r h lp j hj]
    simp [hv, List.getD, hj]
  have hW0 : Below w.heap.size w (w.alloc (.cells (hdc h).toArray 35)) := below_alloc (Below.refl _ _) _
  obtain ⟨hs, hhs⟩ : ∃ hs, (hdc h).toArray = hs := ⟨_, rfl⟩
  rw [hhs] at hcell hp hr hW0 ⊢
  have hc : ∀ W, Below (w.alloc (.cells hs 35)).heap.size (w.alloc (.cells hs 35)) W → W.cell? ⟨w.heap.size, 0, none⟩ = some (.int .i32 h.v) ∧ W.cell? ⟨w.heap.size, 65, none⟩ = some (.int .u32 h.t) ∧ W.cell? ⟨w.heap.size, 66, none⟩ = some (.int .u32 h.b) ∧ W.cell? ⟨w.heap.size, 67, none⟩ = some (.int .u32 h.n) := fun W hW =>
    ⟨hcell W hW 0 _ (hdc_0 h), hcell W hW 65 _ (hdc_65 h lp lr).1, hcell W hW 66 _ (hdc_65 h lp lr).2.1, hcell W hW 67 _ (hdc_65 h lp lr).2.2⟩
  have HC := Lib.hid hc
  have HP := Lib.hid hp
  have HR := Lib.hid hr
  have W0 := Lib.hid hW0
  have LP := Lib.hid lp
  have LR := Lib.hid lr
  obtain ⟨xv, hxv⟩ : ∃ xv, h.v % 4294967296 = xv := ⟨_, rfl⟩
  have hv0 : 0 ≤ xv := by omega
  have hv1 : xv < 4294967296 := by omega
  obtain ⟨d0, hd0⟩ : ∃ d, le 4 xv = d := ⟨_, rfl⟩
  obtain ⟨dt, hdt⟩ : ∃ d, le 4 h.t = d := ⟨_, rfl⟩
  obtain ⟨db, hdb⟩ : ∃ d, le 4 h.b = d := ⟨_, rfl⟩
  obtain ⟨dn, hdn⟩ : ∃ d, le 4 h.n = d := ⟨_, rfl⟩
  have KV := Lib.hid (hd0 ▸ little_eq 4 9 (by omega) (by omega) xv hv0 (by omega))
  have KT := Lib.hid (hdt ▸ little_eq 4 9 (by omega) (by omega) h.t hn.t.1 (by have := hn.t.2; omega))
  have KB := Lib.hid (hdb ▸ little_eq 4 9 (by omega) (by omega) h.b hn.b.1 (by have := hn.b.2; omega))
  have KN := Lib.hid (hdn ▸ little_eq 4 9 (by omega) (by omega) h.n hn.n.1 (by have := hn.n.2; omega))
  have Z0 := Lib.hid (show d0.length = 4 by rw [← hd0, le_len])
  have ZT := Lib.hid (show dt.length = 4 by rw [← hdt, le_len])
  have ZB := Lib.hid (show db.length = 4 by rw [← hdb, le_len])
  have ZN := Lib.hid (show dn.length = 4 by rw [← hdn, le_len])
  have HDone := Lib.hid (show hdB h = d0 ++ h.p ++ h.r ++ dt ++ db ++ dn from by rw [hdB, hxv, hd0, hdt, hdb, hdn]; simp only [List.append_assoc])
  have hw : IntKind.u32.wrap h.v = xv := by rw [u32_mod, hxv]
  have hw0 : IntKind.u64.wrap xv = xv := u64_id hv0 (by omega)
  have hw00 : xv % 18446744073709551616 = xv := by omega
  have hw1 : IntKind.u64.wrap h.t = h.t := u64_id hn.t.1 (by have := hn.t.2; omega)
  have hw2 : h.t % 18446744073709551616 = h.t := by have := hn.t; omega
  have hw3 : IntKind.u64.wrap h.b = h.b := u64_id hn.b.1 (by have := hn.b.2; omega)
  have hw4 : h.b % 18446744073709551616 = h.b := by have := hn.b; omega
  have hw5 : IntKind.u64.wrap h.n = h.n := u64_id hn.n.1 (by have := hn.n.2; omega)
  have hw6 : h.n % 18446744073709551616 = h.n := by have := hn.n; omega
  clear hcell hp hr hW0 hhs hc lp lr hn hv0 hv1 hd0 hdt hdb hdn hxv
  have HB := Lib.hid (Below.refl (w.alloc (.cells hs 35)).heap.size (w.alloc (.cells hs 35)))
  have k0 := (HC.out _ HB.out).1
  rw [HDone.out]
  go_enter Try.func34, Try.ntmps34
  go_wp2_with (first
    | (go_at_call 23; (with_reducible refine (PFnBlockBytes.spec_little.calls 9 xv 4 _ _ KV.out).mono ?_); rintro e w_ ⟨u, rfl, hr, hb⟩; have n0_ := Lib.hid (Own.of HB.out hr HB.out.size hb); clear HB hr hb; have HO := n0_; clear n0_; (try clear k0); (try clear k65); (try clear k66); (try clear k67); have k_ := HC.out _ HO.out.2; have k0 := k_.1; have k65 := k_.2.1; have k66 := k_.2.2.1; have k67 := k_.2.2.2; clear k_)
    | ((with_reducible refine gate_builtin (b := .append) (xs := #[.tmp 9, .tmp 11]) rfl ?_); at_builtin; go_must (refine app (w0 := (w.alloc (.cells hs 35))) rfl (.tmp 9) (.tmp 11) rfl rfl rfl HO.out (HP.out _ HO.out.2) LP.out (by have := LP.out; have := LR.out; have := Z0.out; have := ZT.out; have := ZB.out; have := ZN.out; (try simp only [List.length_append]); omega) ?_); intro v_ w_ ho_ _; have n0_ := Lib.hid ho_; clear HO  ho_; have HO := n0_; clear n0_; (try clear k0); (try clear k65); (try clear k66); (try clear k67); have k_ := HC.out _ HO.out.2; have k0 := k_.1; have k65 := k_.2.1; have k66 := k_.2.2.1; have k67 := k_.2.2.2; clear k_)
    | ((with_reducible refine gate_builtin (b := .append) (xs := #[.tmp 13, .tmp 15]) rfl ?_); at_builtin; go_must (refine app (w0 := (w.alloc (.cells hs 35))) rfl (.tmp 13) (.tmp 15) rfl rfl rfl HO.out (HR.out _ HO.out.2) LR.out (by have := LP.out; have := LR.out; have := Z0.out; have := ZT.out; have := ZB.out; have := ZN.out; (try simp only [List.length_append]); omega) ?_); intro v_ w_ ho_ _; have n0_ := Lib.hid ho_; clear HO  ho_; have HO := n0_; clear n0_; (try clear k0); (try clear k65); (try clear k66); (try clear k67); have k_ := HC.out _ HO.out.2; have k0 := k_.1; have k65 := k_.2.1; have k66 := k_.2.2.1; have k67 := k_.2.2.2; clear k_)
    | (go_at_call 23; (with_reducible refine (PFnBlockBytes.spec_little.calls 9 h.t 4 _ _ KT.out).mono ?_); rintro e w_ ⟨u, rfl, hr, hb⟩; obtain ⟨ho_, A, c, rfl, hC⟩ := made_C HO.out hr hb; have n0_ := Lib.hid ho_; have HCx := Lib.hid hC; clear HO hr hb ho_ hC; have HO := n0_; clear n0_; (try clear k0); (try clear k65); (try clear k66); (try clear k67); have k_ := HC.out _ HO.out.2; have k0 := k_.1; have k65 := k_.2.1; have k66 := k_.2.2.1; have k67 := k_.2.2.2; clear k_)
    | ((with_reducible refine gate_builtin (b := .append) (xs := #[.tmp 17, .tmp 21]) rfl ?_); at_builtin; go_must (refine app (w0 := (w.alloc (.cells hs 35))) rfl (.tmp 17) (.tmp 21) rfl rfl rfl HO.out HCx.out rfl (by have := LP.out; have := LR.out; have := Z0.out; have := ZT.out; have := ZB.out; have := ZN.out; (try simp only [List.length_append]); omega) ?_); intro v_ w_ ho_ _; have n0_ := Lib.hid ho_; clear HO HCx ho_; have HO := n0_; clear n0_; (try clear k0); (try clear k65); (try clear k66); (try clear k67); have k_ := HC.out _ HO.out.2; have k0 := k_.1; have k65 := k_.2.1; have k66 := k_.2.2.1; have k67 := k_.2.2.2; clear k_)
    | (go_at_call 23; (with_reducible refine (PFnBlockBytes.spec_little.calls 9 h.b 4 _ _ KB.out).mono ?_); rintro e w_ ⟨u, rfl, hr, hb⟩; obtain ⟨ho_, A, c, rfl, hC⟩ := made_C HO.out hr hb; have n0_ := Lib.hid ho_; have HCx := Lib.hid hC; clear HO hr hb ho_ hC; have HO := n0_; clear n0_; (try clear k0); (try clear k65); (try clear k66); (try clear k67); have k_ := HC.out _ HO.out.2; have k0 := k_.1; have k65 := k_.2.1; have k66 := k_.2.2.1; have k67 := k_.2.2.2; clear k_)
    | ((with_reducible refine gate_builtin (b := .append) (xs := #[.tmp 23, .tmp 27]) rfl ?_); at_builtin; go_must (refine app (w0 := (w.alloc (.cells hs 35))) rfl (.tmp 23) (.tmp 27) rfl rfl rfl HO.out HCx.out rfl (by have := LP.out; have := LR.out; have := Z0.out; have := ZT.out; have := ZB.out; have := ZN.out; (try simp only [List.length_append]); omega) ?_); intro v_ w_ ho_ _; have n0_ := Lib.hid ho_; clear HO HCx ho_; have HO := n0_; clear n0_; (try clear k0); (try clear k65); (try clear k66); (try clear k67); have k_ := HC.out _ HO.out.2; have k0 := k_.1; have k65 := k_.2.1; have k66 := k_.2.2.1; have k67 := k_.2.2.2; clear k_)
    | (go_at_call 23; (with_reducible refine (PFnBlockBytes.spec_little.calls 9 h.n 4 _ _ KN.out).mono ?_); rintro e w_ ⟨u, rfl, hr, hb⟩; obtain ⟨ho_, A, c, rfl, hC⟩ := made_C HO.out hr hb; have n0_ := Lib.hid ho_; have HCx := Lib.hid hC; clear HO hr hb ho_ hC; have HO := n0_; clear n0_; (try clear k0); (try clear k65); (try clear k66); (try clear k67); have k_ := HC.out _ HO.out.2; have k0 := k_.1; have k65 := k_.2.1; have k66 := k_.2.2.1; have k67 := k_.2.2.2; clear k_)
    | ((with_reducible refine gate_builtin (b := .append) (xs := #[.tmp 29, .tmp 33]) rfl ?_); at_builtin; go_must (refine app (w0 := (w.alloc (.cells hs 35))) rfl (.tmp 29) (.tmp 33) rfl rfl rfl HO.out HCx.out rfl (by have := LP.out; have := LR.out; have := Z0.out; have := ZT.out; have := ZB.out; have := ZN.out; (try simp only [List.length_append]); omega) ?_); intro v_ w_ ho_ _; have n0_ := Lib.hid ho_; clear HO HCx ho_; have HO := n0_; clear n0_; (try clear k0); (try clear k65); (try clear k66); (try clear k67); have k_ := HC.out _ HO.out.2; have k0 := k_.1; have k65 := k_.2.1; have k66 := k_.2.2.1; have k67 := k_.2.2.2; clear k_))
  go_ret
  exact ⟨_, rfl, Own.of W0.out HO.out.1 W0.out.size HO.out.2⟩
set_option maxHeartbeats 8000000 in
set_option maxRecDepth 100000 in
theorem specBk_calls (k : BK) (wit : Bool) (A : Option Addr) (c : Nat) (w : World) (h : BkIn w k A c) (hk : OkB k) :
    Calls Try.prog 14 #[.agg (bkc k A c).toArray, .bool wit] w fun e w' => ∃ v, e = .returned v ∧ Own w w' v (bkB k wit) := by
  have hc : ∀ W, Below (w.alloc (.cells (bkc k A c).toArray 38)).heap.size (w.alloc (.cells (bkc k A c).toArray 38)) W → W.cell? ⟨w.heap.size, 68, none⟩ = some (.slice A k.txs.length c) := fun W hW => bk_cell h.lp h.lr hW
  have hl : ∀ W, Below (w.alloc (.cells (bkc k A c).toArray 38)).heap.size (w.alloc (.cells (bkc k A c).toArray 38)) W → Lies W ⟨w.heap.size, 0, none⟩ (hdc k.h).toArray.toList := by
    intro W hW j v hj
    have hj : (hdc k.h)[j]? = some v := hj
    have hjl := (List.getElem?_eq_some_iff.1 hj).1
    rw [Addr.add_mid, Nat.zero_add, blk_cell (blk_below (heap_alloc_new w _) hW) j]
    simp only [List.getElem?_toArray]
    rw [bkc, List.getElem?_append_left hjl]; exact hj
  have hhd := specHd_calls k.h h.lp h.lr hk.h
  obtain ⟨hs, hhs⟩ : ∃ hs, (hdc k.h).toArray = hs := ⟨_, rfl⟩
  obtain ⟨cs, hcs⟩ : ∃ cs, (bkc k A c).toArray = cs := ⟨_, rfl⟩
  have HZH := Lib.hid (show hs.size = 68 from by rw [← hhs]; simpa using hdc_len k.h h.lp h.lr)
  rw [hcs] at hc hl ⊢
  rw [hhs] at hl hhd
  have HC := Lib.hid hc
  have HL := Lib.hid hl
  have W0 := Lib.hid (show Below w.heap.size w (w.alloc (.cells cs 38)) from below_alloc (Below.refl _ _) _)
  have HT := Lib.hid (Kd.C_below h.g (show Below w.heap.size w (w.alloc (.cells cs 38)) from below_alloc (Below.refl _ _) _))
  have HK := Lib.hid hk
  obtain ⟨dh, hdh⟩ : ∃ d, hdB k.h = d := ⟨_, rfl⟩
  have ZH := Lib.hid (show dh.length = 80 from by rw [← hdh, hdB]; simp only [List.length_append, le_len, h.lp, h.lr])
  rw [hdh] at hhd
  have HHD := Lib.hid hhd
  obtain ⟨q1, hq1⟩ : ∃ d, vi k.txs.length = d := ⟨_, rfl⟩
  have K1 := Lib.hid (hq1 ▸ varint_eq 9 (by omega) k.txs.length (by omega) (by have := hk.n; omega))
  have ZQ := Lib.hid (show q1.length ≤ 9 from by rw [← hq1]; exact vi_len _)
  have hw1 : IntKind.u64.wrap (k.txs.length : Int) = k.txs.length := u64_id (by omega) (by have := hk.n; omega)
  have hw2 : (k.txs.length : Int) % 18446744073709551616 = k.txs.length := by have := hk.n; omega
  obtain ⟨D1, hD1⟩ : ∃ D1, D1 = dh ++ q1 := ⟨_, rfl⟩
  have ZD := Lib.hid (show D1.length ≤ 89 from by rw [hD1, List.length_append]; have := ZH.out; have := ZQ.out; omega)
  have HD1 := Lib.hid hD1
  have HDone := Lib.hid (show bkB k wit = D1 ++ bkT k wit from by rw [bkB, hdh, hq1, hD1, List.append_assoc])
  rw [HDone.out]
  clear h hk hc hl hhd hhs hcs hdh hq1 hD1
  have HB := Lib.hid (below_drew (Below.refl (w.alloc (.cells cs 38)).heap.size (w.alloc (.cells cs 38))))
  go_enter Try.func14, Try.ntmps14
  go_wp2
  refine start_ (n := 10) (S := fun w' => Lies w' ⟨w.heap.size, 0, none⟩ hs.toList ∧ w'.cell? ⟨w.heap.size, 68, none⟩ = some (.slice A k.txs.length c)) (ds := []) #[false, false, false, false, false, false, false, false, false, false] (by kernel_rfl) rfl rfl ⟨(HL.out _ HB.out), (HC.out _ HB.out)⟩ (fun hHeld => ?_)
  refine pure_ (i := 0) (N := some 7) (v := ?_) (a' := ?_) #[true, false, false, false, false, false, false, false, false, false] rfl rfl (by kernel_rfl) (fun _ _ _ h => h) (Or.inl ⟨by rfl, ?_⟩) ?_ ?_
  rotate_left
  · intro w'
    go_simp
    with_reducible rfl
  rotate_left
  · simp only [Act.put, List.setIfInBounds_toArray, List.set_cons_zero, List.set_cons_succ, i64_w, i32_w]
    rfl
  refine pure_ (i := 3) (N := some 10) (v := ?_) (a' := ?_) #[true, false, false, true, false, false, false, false, false, false] rfl rfl (by kernel_rfl) (fun _ _ _ h => h) (Or.inl ⟨by rfl, ?_⟩) ?_ ?_
  rotate_left
  · intro w'
    go_simp
    with_reducible rfl
  rotate_left
  · simp only [Act.put, List.setIfInBounds_toArray, List.set_cons_zero, List.set_cons_succ, i64_w, i32_w]
    rfl
  refine take_ (i := 1) (N := some 8) (v := ?_) (a' := ?_) #[true, true, false, true, false, false, false, false, false, false] rfl rfl (by kernel_rfl) (fun _ _ _ h => h) (Or.inl ⟨by rfl, ?_⟩) hHeld ?_ ?_
  rotate_left
  · rintro w' ⟨s0, s1⟩
    refine (exec_load_list 35 (.tmp 7) (by rfl) ⟨w.heap.size, 0, none⟩ (by rfl) hs.toList _ s0 Try.underlying35 rfl (by rw [Array.length_toList, HZH.out]; rfl)).trans ?_
    with_reducible rfl
  rotate_left
  · simp only [Act.put, List.setIfInBounds_toArray, List.set_cons_zero, List.set_cons_succ, i64_w, i32_w]
    rfl
  refine take_ (i := 4) (N := some 11) (v := ?_) (a' := ?_) #[true, true, false, true, true, false, false, false, false, false] rfl rfl (by kernel_rfl) (fun _ _ _ h => h) (Or.inl ⟨by rfl, ?_⟩) hHeld ?_ ?_
  rotate_left
  · rintro w' ⟨s0, s1⟩
    go_simp
    with_reducible rfl
  rotate_left
  · simp only [Act.put, List.setIfInBounds_toArray, List.set_cons_zero, List.set_cons_succ, i64_w, i32_w]
    rfl
  refine pure_ (i := 5) (N := some 12) (v := ?_) (a' := ?_) #[true, true, false, true, true, true, false, false, false, false] rfl rfl (by kernel_rfl) (fun _ _ _ h => h) (Or.inl ⟨by rfl, ?_⟩) ?_ ?_
  rotate_left
  · intro w'
    go_simp
    with_reducible rfl
  rotate_left
  · simp only [Act.put, List.setIfInBounds_toArray, List.set_cons_zero, List.set_cons_succ, i64_w, i32_w]
    rfl
  refine pure_ (i := 6) (N := some 13) (v := ?_) (a' := ?_) #[true, true, false, true, true, true, true, false, false, false] rfl rfl (by kernel_rfl) (fun _ _ _ h => h) (Or.inl ⟨by rfl, ?_⟩) ?_ ?_
  rotate_left
  · intro w'
    go_simp
    with_reducible rfl
  rotate_left
  · simp only [Act.put, List.setIfInBounds_toArray, List.set_cons_zero, List.set_cons_succ, i64_w, i32_w]
    rfl
  refine one_ (i := 2) (N := some 9) #[true, true, true, true, true, true, true, false, false, false] rfl rfl (by kernel_rfl) (by decide) (fun K hK => ?_)
  refine goes_ Try.func34 (by kernel_rfl) rfl #[.agg hs] (by rfl) rfl rfl (by simp only [List.map_toArray, List.map_cons, List.map_nil]; rfl) ?_
  with_reducible refine (HHD.out _).mono ?_
  rintro e w3 ⟨u, rfl, hr⟩
  refine ⟨_, rfl, ?_⟩
  have HO := Lib.hid (Own.of HB.out hr.1 HB.out.size hr.2); clear hr HB
  refine hK.out _ _ ⟨(HL.out _ HO.out.2), (HC.out _ HO.out.2)⟩ (fun hHeld => ?_)
  clear hK K
  refine norm_ (a' := ?_) ?_ ?_
  rotate_left
  · show Act.put _ (some 9) _ = _
    simp only [Act.put, List.setIfInBounds_toArray, List.set_cons_zero, List.set_cons_succ, i64_w, i32_w]
    rfl
  refine one_ (i := 7) (N := some 14) #[true, true, true, true, true, true, true, true, false, false] rfl rfl (by kernel_rfl) (by decide) (fun K hK => ?_)
  refine goes_ Try.func24 (by kernel_rfl) rfl #[.int .u64 (k.txs.length : Int)] (by rfl) rfl rfl (by simp only [List.map_toArray, List.map_cons, List.map_nil]; rfl) ?_
  with_reducible refine (PFnBlockBytes.spec_VarInt.calls 9 (k.txs.length : Int) _ _ K1.out).mono ?_
  rintro e w4 ⟨u2, rfl, hr, hb⟩
  refine ⟨_, rfl, ?_⟩
  obtain ⟨ho_, A9, c9, rfl, hC⟩ := made_C HO.out hr hb; have n0_ := Lib.hid ho_; have HCx := Lib.hid hC; clear HO hr hb ho_ hC; have HO := n0_; clear n0_
  refine hK.out _ _ ⟨(HL.out _ HO.out.2), (HC.out _ HO.out.2)⟩ (fun hHeld => ?_)
  clear hK K
  refine norm_ (a' := ?_) ?_ ?_
  rotate_left
  · show Act.put _ (some 14) _ = _
    simp only [Act.put, List.setIfInBounds_toArray, List.set_cons_zero, List.set_cons_succ, i64_w, i32_w]
    rfl
  refine one_ (i := 8) (N := some 15) #[true, true, true, true, true, true, true, true, true, false] rfl rfl (by kernel_rfl) (by decide) (fun K hK => ?_)
  refine app_step (w0 := (w.alloc (.cells cs 38))) (by rfl) (.tmp 9) (.tmp 14) rfl (by rfl) (by rfl) HO.out HCx.out rfl (by have := ZH.out; have := ZQ.out; omega) ?_
  intro v_ w_ ho_ _
  have n0_ := Lib.hid (ho_.eq HD1.out.symm); clear HO HCx ho_; have HO := n0_; clear n0_
  refine hK.out _ _ ⟨(HL.out _ HO.out.2), (HC.out _ HO.out.2)⟩ (fun hHeld => ?_)
  clear hK K
  refine norm_ (a' := ?_) ?_ ?_
  rotate_left
  · show Act.put _ (some 15) _ = _
    simp only [Act.put, List.setIfInBounds_toArray, List.set_cons_zero, List.set_cons_succ, i64_w, i32_w]
    rfl
  refine pure_ (i := 9) (N := some 5) (v := ?_) (a' := ?_) #[true, true, true, true, true, true, true, true, true, true] rfl rfl (by kernel_rfl) (fun _ _ _ h => h) (Or.inl ⟨by rfl, ?_⟩) ?_ ?_
  rotate_left
  · intro w'
    go_simp
    with_reducible rfl
  rotate_left
  · simp only [Act.put, List.setIfInBounds_toArray, List.set_cons_zero, List.set_cons_succ, i64_w, i32_w]
    rfl
  refine done_ (by kernel_rfl) ?_
  go_wp2
  have k68 := HC.out _ HO.out.2
  go_loopg [5, 6] (k.txs.length + 1) (fun kq v5 v6 w' => ∃ (i : Nat) (xi : Int), v6 = .int .i64 xi ∧ Hid (xi = (i : Int)) ∧ Hid (i + kq = k.txs.length + 1) ∧ Hid (Own (w.alloc (.cells cs 38)) w' v5 (D1 ++ ((k.txs.take i).map (fun x => txB x (wit && hasW x.ins))).flatten)))
  case atStart => exact ⟨0, 0, rfl, Lib.hid rfl, Lib.hid (Nat.zero_add _), Lib.hid (by simpa using HO.out)⟩
  case round =>
    clear HO k68
    obtain ⟨i, xi, rfl, HI, HK2, HO⟩ := hrel
    have k68 := HC.out _ HO.out.2
    by_cases ci : i < k.txs.length
    · have p0 : 0 ≤ xi := by rw [HI.out]; omega
      have q0 : xi < (k.txs.length : Int) := by rw [HI.out]; omega
      have hwi : wrap64 (xi + 1) = xi + 1 := by have := HK.out.n; exact wrap64_id (by omega) (by omega)
      obtain ⟨ad, ds, A1, c1, A2, c2, rfl, hz, ho1, hds, hTx, hce⟩ := tx_step HT.out xi p0 q0
      have hok := HK.out.ok (rdX k.txs xi) (by
        rw [rdX, List.getD_eq_getElem?_getD, List.getElem?_eq_getElem (show xi.toNat < k.txs.length by omega)]
        exact List.getElem_mem _)
      have htf := take_flat (fun x => txB x (wit && hasW x.ins)) k.txs zTX i ci
      have htl := take_len (fun x => txB x (wit && hasW x.ins)) k.txs zTX i ci
      rw [show k.txs.getD i zTX = rdX k.txs xi from by rw [rdX, HI.out]; rfl] at htf htl
      obtain ⟨y, hy⟩ : ∃ y, rdX k.txs xi = y := ⟨_, rfl⟩
      rw [hy] at hds hTx hok htf htl
      obtain ⟨k1_, rfl⟩ : ∃ k1, gk = k1 + 1 := ⟨gk - 1, by have := HK2.out; omega⟩
      have pp := eq_true p0
      have qq := eq_true q0
      have qb : decide (xi < (k.txs.length : Int)) = true := decide_eq_true q0
      obtain ⟨dy, hdy⟩ : ∃ d, txB y (wit && hasW y.ins) = d := ⟨_, rfl⟩
      have HTX := Lib.hid (show ∀ W, Below (w.alloc (.cells cs 38)).heap.size (w.alloc (.cells cs 38)) W → Calls Try.prog 9 #[.agg ds, .bool wit] W fun e w' => ∃ v, e = .returned v ∧ Own W w' v dy from fun W hW => hdy ▸ hds ▸ spec_calls y wit A1 c1 A2 c2 W (hTx.below hW) hok.1 hok.2.1 hok.2.2)
      have HCE := Lib.hid hce
      have HZD := Lib.hid hz
      have HTF := Lib.hid (show ((k.txs.take (i + 1)).map (fun x => txB x (wit && hasW x.ins))).flatten = ((k.txs.take i).map (fun x => txB x (wit && hasW x.ins))).flatten ++ dy from hdy ▸ htf)
      have HTL := Lib.hid (show ((k.txs.take i).map (fun x => txB x (wit && hasW x.ins))).flatten.length + dy.length ≤ (bkT k wit).length from hdy ▸ htl)
      clear p0 q0 hy hz ho1 hds hTx hce hok htf htl ci hdy
      go_wp2_with (first
        | (refine wpList_load_list rfl 26 (.tmp 27) rfl (ad.add (xi.toNat * 4)) rfl ds.toList _ (HCE.out _ HO.out.2) Try.underlying26 rfl ?aI ?_; go_must (case aI => rw [Array.length_toList, HZD.out]; rfl); go_must (simp only [Array.toArray_toList]))
        | (go_at_call 9; go_must (refine (HTX.out _ HO.out.2).mono ?_); rintro e w_ ⟨u, rfl, hr⟩; obtain ⟨ho_, A8, c8, rfl, hC⟩ := made_C HO.out hr.1 hr.2; have n0_ := Lib.hid ho_; have HCx := Lib.hid hC; clear HO hr ho_ hC; have HO := n0_; clear n0_; (try clear k68); have k68 := HC.out _ HO.out.2)
        | ((with_reducible refine gate_builtin (b := .append) (xs := #[.tmp 23, .tmp 30]) rfl ?_); at_builtin; go_must (refine app (w0 := (w.alloc (.cells cs 38))) rfl (.tmp 23) (.tmp 30) rfl rfl rfl HO.out HCx.out rfl (by have := HK.out.lim wit; have := ZD.out; have := HTL.out; rw [List.length_append]; omega) ?_); intro v_ w_ ho_ _; have n0_ := Lib.hid (ho_.eq (show _ = D1 ++ ((k.txs.take (i + 1)).map (fun x => txB x (wit && hasW x.ins))).flatten from by rw [HTF.out, List.append_assoc])); clear HO HCx ho_; have HO := n0_; clear n0_; (try clear k68); have k68 := HC.out _ HO.out.2))
      go_roundg k1_
      case measure => exact Nat.lt_succ_self _
      case rel => exact ⟨i + 1, xi + 1, (by first | rfl | (simp [hwi]; done)), Lib.hid (by rw [HI.out]; omega), Lib.hid (by have := HK2.out; omega), HO⟩
    · have qb : decide (xi < (k.txs.length : Int)) = false := decide_eq_false (by rw [HI.out]; omega)
      have n0_ := Lib.hid (HO.out.eq (show _ = D1 ++ bkT k wit from by rw [List.take_of_length_le (by omega)]; rfl))
      clear ci HI HK2 HO
      have HO := n0_
      clear n0_
      go_wp2
      go_ret
      exact ⟨_, rfl, Own.of W0.out HO.out.1 W0.out.size HO.out.2⟩
end Go.Proofs.Ytdjchplaeipgpaa.Wire
namespace Go.Proofs.Ytdjchplaeipgpaa.Wire
open Go.RowKit Go.Proofs.YtdjchplaeipgpaaW.PrintWords Go.Proofs.YtdjchplaeipgpaaW.PrintLast Go.Proofs.Ytdjchplaeipgpaa.Reg Go.Proofs.Ytdjchplaeipgpaa.Buf Go.Proofs.Ytdjchplaeipgpaa.Tx
set_option linter.unusedSimpArgs false
set_option linter.unusedVariables false

set_option maxHeartbeats 4000000 in
set_option maxRecDepth 100000 in
theorem unixM_calls (t : Int) (w : World) : Calls Try.prog 64 #[.agg #[.int .i64 t]] w fun e w' => e = .returned (.int .i64 t) ∧ Below w.heap.size w w' := by
  go_enter Try.func64, Try.ntmps64
  go_wp2
  go_ret
  exact ⟨rfl, below_alloc (Below.refl _ _) _⟩
set_option maxHeartbeats 16000000 in
set_option maxRecDepth 100000 in
theorem hd_calls {F : Nat → Prop} {B b s : Nat} {v : Value} {l : List Int} {w : World} (h : St F B b s v l w) (p : Int) (g : Nat) (k : BK) {A : Option Addr} {c : Nat} (hk : BkF F w g k A c) (hn : NumH k.h) (hlim : l.length + 256 ≤ 140737488355328) :
    Calls Try.prog 56 #[Wr b, .int .u32 p, .pointer (some ⟨g, 0, none⟩), .slice (some ⟨s, 0, none⟩) 8 8] w fun e w' => e = .returned .nilIface ∧ ∃ v', St F B b s v' (l ++ hdB k.h) w' ∧ Tr F B w w' := by
  have hcell : ∀ W, Tr F B w W → ∀ j u, (whc k.h)[j]? = some u → W.cell? ⟨g, j, none⟩ = some u := fun W hW j u hj => (hk.tr hW).cell j u (by rw [mbc, List.getElem?_append_left (List.getElem?_eq_some_iff.1 hj).1]; exact hj)
  have hc : ∀ W, Tr F B w W → W.cell? ⟨g, 0, none⟩ = some (.int .i32 k.h.v) ∧ Lies W ⟨g, 65, none⟩ [.int .i64 k.h.t] ∧ W.cell? ⟨g, 66, none⟩ = some (.int .u32 k.h.b) ∧ W.cell? ⟨g, 67, none⟩ = some (.int .u32 k.h.n) := fun W hW =>
    ⟨hcell W hW 0 _ rfl, fun j u hj => by
      match j, hj with
      | 0, hj => cases hj; exact hcell W hW 65 _ (whc_65 k.h hk.lp hk.lr).1
      | j + 1, hj => simp at hj, hcell W hW 66 _ (whc_65 k.h hk.lp hk.lr).2.1, hcell W hW 67 _ (whc_65 k.h hk.lp hk.lr).2.2⟩
  have hgb : g ≠ b := (h.hF g hk.hF).2.1
  have hwp : ∀ (W : World) {v : Value} {l : List Int}, St F B b s v l W → Tr F B w W → l.length + 32 ≤ 140737488355328 → Calls Try.prog 87 #[.pointer (some ⟨b, 0, none⟩), .slice (some ⟨g, 1, none⟩) 32 32] W fun e w' => e = .returned (.tuple #[.int .i64 32, .nilIface]) ∧ ∃ v', St F B b s v' (l ++ k.h.p) w' ∧ Tr F B W w' := fun W v l hS hW hm => by
    have hC : Kd.C (Kd.int .u8) W (some ⟨g, 1, none⟩) k.h.p.length k.h.p := by
      have := hk.lp
      refine Kd.C_of_reads (d := (0 : Int)) (h1 := fun _ => rfl) ⟨rfl, by omega, fun hn => ⟨_, rfl, fun j hj => ?_⟩⟩
      rw [Addr.add_mid]
      refine hcell W hW (1 + j) _ ?_
      rw [whc_p k.h j hj]
      simp [hv, List.getD, hj]
    have := st_write hS (some ⟨g, 1, none⟩) 32 hC (fun a ha _ => by cases ha; exact hgb) (by rw [hk.lp]; omega)
    rwa [hk.lp] at this
  have hwr : ∀ (W : World) {v : Value} {l : List Int}, St F B b s v l W → Tr F B w W → l.length + 32 ≤ 140737488355328 → Calls Try.prog 87 #[.pointer (some ⟨b, 0, none⟩), .slice (some ⟨g, 33, none⟩) 32 32] W fun e w' => e = .returned (.tuple #[.int .i64 32, .nilIface]) ∧ ∃ v', St F B b s v' (l ++ k.h.r) w' ∧ Tr F B W w' := fun W v l hS hW hm => by
    have hC : Kd.C (Kd.int .u8) W (some ⟨g, 33, none⟩) k.h.r.length k.h.r := by
      have := hk.lr
      refine Kd.C_of_reads (d := (0 : Int)) (h1 := fun _ => rfl) ⟨rfl, by omega, fun hn => ⟨_, rfl, fun j hj => ?_⟩⟩
      rw [Addr.add_mid]
      refine hcell W hW (33 + j) _ ?_
      rw [whc_r k.h hk.lp j hj]
      simp [hv, List.getD, hj]
    have := st_write hS (some ⟨g, 33, none⟩) 32 hC (fun a ha _ => by cases ha; exact hgb) (by rw [hk.lr]; omega)
    rwa [hk.lr] at this
  have WP := Lib.hid @hwp
  have WR := Lib.hid @hwr
  have HC := Lib.hid hc
  have HN := Lib.hid hn
  have HLM := Lib.hid hlim
  obtain ⟨xv, hxv⟩ : ∃ xv, k.h.v % 4294967296 = xv := ⟨_, rfl⟩
  have X0 := Lib.hid (show 0 ≤ xv by omega)
  have X1 := Lib.hid (show xv < 4294967296 by omega)
  obtain ⟨E1, hE1⟩ : ∃ E, E = l ++ le 4 xv := ⟨_, rfl⟩
  obtain ⟨E2, hE2⟩ : ∃ E, E = E1 ++ k.h.p := ⟨_, rfl⟩
  obtain ⟨E3, hE3⟩ : ∃ E, E = E2 ++ k.h.r := ⟨_, rfl⟩
  obtain ⟨E4, hE4⟩ : ∃ E, E = E3 ++ le 4 k.h.t := ⟨_, rfl⟩
  obtain ⟨E5, hE5⟩ : ∃ E, E = E4 ++ le 4 k.h.b := ⟨_, rfl⟩
  obtain ⟨E6, hE6⟩ : ∃ E, E = E5 ++ le 4 k.h.n := ⟨_, rfl⟩
  have z1 : E1.length = l.length + 4 := by rw [hE1, List.length_append, le_len]
  have z2 : E2.length = l.length + 36 := by rw [hE2, List.length_append, hk.lp, z1]
  have z3 : E3.length = l.length + 68 := by rw [hE3, List.length_append, hk.lr, z2]
  have z4 : E4.length = l.length + 72 := by rw [hE4, List.length_append, le_len, z3]
  have z5 : E5.length = l.length + 76 := by rw [hE5, List.length_append, le_len, z4]
  have HE1 := Lib.hid hE1
  have HE2 := Lib.hid hE2
  have HE3 := Lib.hid hE3
  have HE4 := Lib.hid hE4
  have HE5 := Lib.hid hE5
  have HE6 := Lib.hid hE6
  have Z1 := Lib.hid z1
  have Z2 := Lib.hid z2
  have Z3 := Lib.hid z3
  have Z4 := Lib.hid z4
  have Z5 := Lib.hid z5
  have HDone := Lib.hid (show l ++ hdB k.h = E6 from by rw [hE6, hE5, hE4, hE3, hE2, hE1, hdB, hxv]; simp only [List.append_assoc])
  have hw : IntKind.u32.wrap k.h.v = xv := by rw [u32_mod, hxv]
  have hw1 : IntKind.u32.wrap k.h.t = k.h.t := by rw [u32_mod]; have := hn.t; omega
  have HS := Lib.hid h
  have TT := Lib.hid (Tr.refl F B w)
  rw [HDone.out]
  clear hcell hc hgb hwp hwr hn hlim hxv hE1 hE2 hE3 hE4 hE5 hE6 z1 z2 z3 z4 z5 h
  go_enter Try.func56, Try.ntmps56
  have n0_ := Lib.hid (HS.out.below (below_drew (Below.refl _ _)))
  have n1_ := Lib.hid (TT.out.trans (HS.out.tr_below (below_drew (Below.refl _ _))))
  clear HS TT
  have HS := n0_
  have TT := n1_
  clear n0_ n1_
  go_wp2
  refine start_ (n := 9) (S := fun w' => w'.cell? ⟨g, 0, none⟩ = some (.int .i32 k.h.v)) (ds := []) #[false, false, false, false, false, false, false, false, false] (by kernel_rfl) rfl rfl ((HC.out _ TT.out).1) (fun hHeld => ?_)
  refine pure_ (i := 1) (N := some 22) (v := ?_) (a' := ?_) #[false, true, false, false, false, false, false, false, false] rfl rfl (by kernel_rfl) (fun _ _ _ h => h) (Or.inl ⟨by rfl, ?_⟩) ?_ ?_
  rotate_left
  · intro w'
    go_simp
    with_reducible rfl
  rotate_left
  · simp only [Act.put, List.setIfInBounds_toArray, List.set_cons_zero, List.set_cons_succ, i64_w, i32_w]
    rfl
  refine pure_ (i := 2) (N := some 23) (v := ?_) (a' := ?_) #[false, true, true, false, false, false, false, false, false] rfl rfl (by kernel_rfl) (fun _ _ _ h => h) (Or.inl ⟨by rfl, ?_⟩) ?_ ?_
  rotate_left
  · intro w'
    go_simp
    with_reducible rfl
  rotate_left
  · simp only [Act.put, List.setIfInBounds_toArray, List.set_cons_zero, List.set_cons_succ, i64_w, i32_w]
    rfl
  refine pure_ (i := 3) (N := some 24) (v := ?_) (a' := ?_) #[false, true, true, true, false, false, false, false, false] rfl rfl (by kernel_rfl) (fun _ _ _ h => h) (Or.inl ⟨by rfl, ?_⟩) ?_ ?_
  rotate_left
  · intro w'
    go_simp
    with_reducible rfl
  rotate_left
  · simp only [Act.put, List.setIfInBounds_toArray, List.set_cons_zero, List.set_cons_succ, i64_w, i32_w]
    rfl
  refine pure_ (i := 4) (N := some 25) (v := ?_) (a' := ?_) #[false, true, true, true, true, false, false, false, false] rfl rfl (by kernel_rfl) (fun _ _ _ h => h) (Or.inl ⟨by rfl, ?_⟩) ?_ ?_
  rotate_left
  · intro w'
    go_simp
    with_reducible rfl
  rotate_left
  · simp only [Act.put, List.setIfInBounds_toArray, List.set_cons_zero, List.set_cons_succ, i64_w, i32_w]
    rfl
  refine pure_ (i := 5) (N := some 26) (v := ?_) (a' := ?_) #[false, true, true, true, true, true, false, false, false] rfl rfl (by kernel_rfl) (fun _ _ _ h => h) (Or.inl ⟨by rfl, ?_⟩) ?_ ?_
  rotate_left
  · intro w'
    go_simp
    with_reducible rfl
  rotate_left
  · simp only [Act.put, List.setIfInBounds_toArray, List.set_cons_zero, List.set_cons_succ, i64_w, i32_w]
    rfl
  refine take_ (i := 0) (N := some 21) (v := ?_) (a' := ?_) #[true, true, true, true, true, true, false, false, false] rfl rfl (by kernel_rfl) (fun _ _ _ h => h) (Or.inl ⟨by rfl, ?_⟩) hHeld ?_ ?_
  rotate_left
  · intro w' s0
    go_simp
    with_reducible rfl
  rotate_left
  · simp only [Act.put, List.setIfInBounds_toArray, List.set_cons_zero, List.set_cons_succ, i64_w, i32_w]
    rfl
  refine take_ (i := 6) (N := some 27) (v := ?_) (a' := ?_) #[true, true, true, true, true, true, true, false, false] rfl rfl (by kernel_rfl) (fun _ _ _ h => h) (Or.inl ⟨by rfl, ?_⟩) hHeld ?_ ?_
  rotate_left
  · intro w' s0
    go_simp
    with_reducible rfl
  rotate_left
  · simp only [Act.put, List.setIfInBounds_toArray, List.set_cons_zero, List.set_cons_succ, i64_w, i32_w]
    rfl
  refine pure_ (i := 7) (N := some 28) (v := ?_) (a' := ?_) #[true, true, true, true, true, true, true, true, false] rfl rfl (by kernel_rfl) (fun _ _ _ h => h) (Or.inl ⟨by rfl, ?_⟩) ?_ ?_
  rotate_left
  · intro w'
    go_simp
    with_reducible rfl
  rotate_left
  · simp only [Act.put, List.setIfInBounds_toArray, List.set_cons_zero, List.set_cons_succ, i64_w, i32_w]
    rfl
  refine one_ (i := 8) (N := some 29) #[true, true, true, true, true, true, true, true, true] rfl rfl (by kernel_rfl) (by decide) (fun K hK => ?_)
  obtain ⟨d0, d1, d2, d3, d4, d5, d6, d7, hs3⟩ := HS.out.sc
  refine goes_ Try.func58 (by kernel_rfl) rfl #[.agg #[], .slice (some ⟨s, 0, none⟩) 4 8, .int .u32 xv] (by rfl) rfl rfl (by simp only [List.map_toArray, List.map_cons, List.map_nil]; rfl) ?_
  with_reducible refine (put32_calls s 4 8 xv d0 d1 d2 d3 d4 d5 d6 d7 _ hs3 (by omega) X0.out X1.out).mono ?_
  rintro e w4 ⟨rfl, hp⟩
  refine ⟨_, rfl, ?_⟩
  obtain ⟨h4, t4⟩ := HS.out.put hp
  have n0_ := Lib.hid (h4.below (below_drew (Below.refl _ _))); have T40 := Lib.hid (TT.out.trans t4); have n1_ := Lib.hid (T40.out.trans (h4.tr_below (below_drew (Below.refl _ _)))); have HP4 := Lib.hid (blk_drew hp.blk)
  clear h4 t4 hp hs3 HS TT; have HS := n0_; have TT := n1_; clear n0_ n1_
  refine hK.out _ _ ((HC.out _ T40.out).1) (fun hHeld => ?_)
  clear hK K
  refine norm_ (a' := ?_) ?_ ?_
  rotate_left
  · show Act.put _ (some 29) _ = _
    simp only [Act.put, List.setIfInBounds_toArray, List.set_cons_zero, List.set_cons_succ, i64_w, i32_w]
    rfl
  refine done_ (by kernel_rfl) ?_
  clear T40
  go_wp2
  refine start_ (n := 12) (S := fun w' => True) (ds := []) #[false, false, false, false, false, false, false, false, false, false, false, false] (by kernel_rfl) rfl rfl trivial (fun hHeld => ?_)
  refine pure_ (i := 0) (N := some 31) (v := ?_) (a' := ?_) #[true, false, false, false, false, false, false, false, false, false, false, false] rfl rfl (by kernel_rfl) (fun _ _ _ h => h) (Or.inl ⟨by rfl, ?_⟩) ?_ ?_
  rotate_left
  · intro w'
    go_simp
    with_reducible rfl
  rotate_left
  · simp only [Act.put, List.setIfInBounds_toArray, List.set_cons_zero, List.set_cons_succ, i64_w, i32_w]
    rfl
  refine pure_ (i := 1) (N := some 32) (v := ?_) (a' := ?_) #[true, true, false, false, false, false, false, false, false, false, false, false] rfl rfl (by kernel_rfl) (fun _ _ _ h => h) (Or.inl ⟨by rfl, ?_⟩) ?_ ?_
  rotate_left
  · intro w'
    go_simp
    with_reducible rfl
  rotate_left
  · simp only [Act.put, List.setIfInBounds_toArray, List.set_cons_zero, List.set_cons_succ, i64_w, i32_w]
    rfl
  refine pure_ (i := 2) (N := some 33) (v := ?_) (a' := ?_) #[true, true, true, false, false, false, false, false, false, false, false, false] rfl rfl (by kernel_rfl) (fun _ _ _ h => h) (Or.inl ⟨by rfl, ?_⟩) ?_ ?_
  rotate_left
  · intro w'
    go_simp
    with_reducible rfl
  rotate_left
  · simp only [Act.put, List.setIfInBounds_toArray, List.set_cons_zero, List.set_cons_succ, i64_w, i32_w]
    rfl
  refine pure_ (i := 3) (N := some 34) (v := ?_) (a' := ?_) #[true, true, true, true, false, false, false, false, false, false, false, false] rfl rfl (by kernel_rfl) (fun _ _ _ h => h) (Or.inl ⟨by rfl, ?_⟩) ?_ ?_
  rotate_left
  · intro w'
    go_simp
    with_reducible rfl
  rotate_left
  · simp only [Act.put, List.setIfInBounds_toArray, List.set_cons_zero, List.set_cons_succ, i64_w, i32_w]
    rfl
  refine pure_ (i := 4) (N := some 35) (v := ?_) (a' := ?_) #[true, true, true, true, true, false, false, false, false, false, false, false] rfl rfl (by kernel_rfl) (fun _ _ _ h => h) (Or.inl ⟨by rfl, ?_⟩) ?_ ?_
  rotate_left
  · intro w'
    refine (exec_nilW w' (b := b) (.tmp 34) (by rfl) (by rfl)).trans ?_
    with_reducible rfl
  rotate_left
  · simp only [Act.put, List.setIfInBounds_toArray, List.set_cons_zero, List.set_cons_succ, i64_w, i32_w]
    rfl
  refine pure_ (i := 5) (N := some 36) (v := ?_) (a' := ?_) #[true, true, true, true, true, true, false, false, false, false, false, false] rfl rfl (by kernel_rfl) (fun _ _ _ h => h) (Or.inl ⟨by rfl, ?_⟩) ?_ ?_
  rotate_left
  · intro w'
    go_simp
    with_reducible rfl
  rotate_left
  · simp only [Act.put, List.setIfInBounds_toArray, List.set_cons_zero, List.set_cons_succ, i64_w, i32_w]
    rfl
  refine one_ (i := 6) (N := some 37) #[true, true, true, true, true, true, true, false, false, false, false, false] rfl rfl (by kernel_rfl) (by decide) (fun K hK => ?_)
  refine call_ (87) #[.pointer (some ⟨b, 0, none⟩), .slice (some ⟨s, 0, none⟩) 4 8] (by rfl) rfl (exec_write (.tmp 36) (.tmp 33) #[30] (by rfl) (by rfl) (by rfl)) ?_
  with_reducible refine (write_sc HS.out HP4.out 4 8 (le 4 xv) (le_len 4 xv) (fun j hj => by have hj2 : j = 0 ∨ j = 1 ∨ j = 2 ∨ j = 3 := (by omega); rcases hj2 with rfl | rfl | rfl | rfl <;> simp [le]) (by omega) (by have := HLM.out; omega)).mono ?_
  rintro e w5 ⟨rfl, v5, h5, t5⟩
  refine ⟨_, rfl, ?_⟩
  have n0_ := Lib.hid (st_eq h5 HE1.out.symm); have n1_ := Lib.hid (TT.out.trans t5); clear h5 t5 HS TT HP4; have HS := n0_; have TT := n1_; clear n0_ n1_
  refine hK.out _ _ trivial (fun hHeld => ?_)
  clear hK K
  refine norm_ (a' := ?_) ?_ ?_
  rotate_left
  · show Act.put _ (some 37) _ = _
    simp only [Act.put, List.setIfInBounds_toArray, List.set_cons_zero, List.set_cons_succ, i64_w, i32_w]
    rfl
  refine pure_ (i := 7) (N := some 30) (v := ?_) (a' := ?_) #[true, true, true, true, true, true, true, true, false, false, false, false] rfl rfl (by kernel_rfl) (fun _ _ _ h => h) (Or.inl ⟨by rfl, ?_⟩) ?_ ?_
  rotate_left
  · intro w'
    go_simp
    with_reducible rfl
  rotate_left
  · simp only [Act.put, List.setIfInBounds_toArray, List.set_cons_zero, List.set_cons_succ, i64_w, i32_w]
    rfl
  refine pure_ (i := 8) (N := some 38) (v := ?_) (a' := ?_) #[true, true, true, true, true, true, true, true, true, false, false, false] rfl rfl (by kernel_rfl) (fun _ _ _ h => h) (Or.inl ⟨by rfl, ?_⟩) ?_ ?_
  rotate_left
  · intro w'
    go_simp
    with_reducible rfl
  rotate_left
  · simp only [Act.put, List.setIfInBounds_toArray, List.set_cons_zero, List.set_cons_succ, i64_w, i32_w]
    rfl
  refine pure_ (i := 9) (N := some 39) (v := ?_) (a' := ?_) #[true, true, true, true, true, true, true, true, true, true, false, false] rfl rfl (by kernel_rfl) (fun _ _ _ h => h) (Or.inl ⟨by rfl, ?_⟩) ?_ ?_
  rotate_left
  · intro w'
    go_simp
    with_reducible rfl
  rotate_left
  · simp only [Act.put, List.setIfInBounds_toArray, List.set_cons_zero, List.set_cons_succ, i64_w, i32_w]
    rfl
  refine pure_ (i := 10) (N := some 9) (v := ?_) (a' := ?_) #[true, true, true, true, true, true, true, true, true, true, true, false] rfl rfl (by kernel_rfl) (fun _ _ _ h => h) (Or.inl ⟨by rfl, ?_⟩) ?_ ?_
  rotate_left
  · intro w'
    go_simp
    with_reducible rfl
  rotate_left
  · simp only [Act.put, List.setIfInBounds_toArray, List.set_cons_zero, List.set_cons_succ, i64_w, i32_w]
    rfl
  refine pure_ (i := 11) (N := some 10) (v := ?_) (a' := ?_) #[true, true, true, true, true, true, true, true, true, true, true, true] rfl rfl (by kernel_rfl) (fun _ _ _ h => h) (Or.inl ⟨by rfl, ?_⟩) ?_ ?_
  rotate_left
  · intro w'
    go_simp
    with_reducible rfl
  rotate_left
  · simp only [Act.put, List.setIfInBounds_toArray, List.set_cons_zero, List.set_cons_succ, i64_w, i32_w]
    rfl
  refine done_ (by kernel_rfl) ?_
  have n0_ := Lib.hid (HS.out.below (below_drew (Below.refl _ _)))
  have n1_ := Lib.hid (TT.out.trans (HS.out.tr_below (below_drew (Below.refl _ _))))
  clear HS TT
  have HS := n0_
  have TT := n1_
  clear n0_ n1_
  go_wp2
  refine start_ (n := 14) (S := fun w' => True) (ds := []) #[false, false, false, false, false, false, false, false, false, false, false, false, false, false] (by kernel_rfl) rfl rfl trivial (fun hHeld => ?_)
  refine pure_ (i := 0) (N := some 44) (v := ?_) (a' := ?_) #[true, false, false, false, false, false, false, false, false, false, false, false, false, false] rfl rfl (by kernel_rfl) (fun _ _ _ h => h) (Or.inl ⟨by rfl, ?_⟩) ?_ ?_
  rotate_left
  · intro w'
    go_simp
    with_reducible rfl
  rotate_left
  · simp only [Act.put, List.setIfInBounds_toArray, List.set_cons_zero, List.set_cons_succ, i64_w, i32_w]
    rfl
  refine pure_ (i := 1) (N := some 45) (v := ?_) (a' := ?_) #[true, true, false, false, false, false, false, false, false, false, false, false, false, false] rfl rfl (by kernel_rfl) (fun _ _ _ h => h) (Or.inl ⟨by rfl, ?_⟩) ?_ ?_
  rotate_left
  · intro w'
    go_simp
    with_reducible rfl
  rotate_left
  · simp only [Act.put, List.setIfInBounds_toArray, List.set_cons_zero, List.set_cons_succ, i64_w, i32_w]
    rfl
  refine pure_ (i := 2) (N := some 46) (v := ?_) (a' := ?_) #[true, true, true, false, false, false, false, false, false, false, false, false, false, false] rfl rfl (by kernel_rfl) (fun _ _ _ h => h) (Or.inl ⟨by rfl, ?_⟩) ?_ ?_
  rotate_left
  · intro w'
    go_simp
    with_reducible rfl
  rotate_left
  · simp only [Act.put, List.setIfInBounds_toArray, List.set_cons_zero, List.set_cons_succ, i64_w, i32_w]
    rfl
  refine pure_ (i := 3) (N := some 47) (v := ?_) (a' := ?_) #[true, true, true, true, false, false, false, false, false, false, false, false, false, false] rfl rfl (by kernel_rfl) (fun _ _ _ h => h) (Or.inl ⟨by rfl, ?_⟩) ?_ ?_
  rotate_left
  · intro w'
    go_simp
    with_reducible rfl
  rotate_left
  · simp only [Act.put, List.setIfInBounds_toArray, List.set_cons_zero, List.set_cons_succ, i64_w, i32_w]
    rfl
  refine pure_ (i := 4) (N := some 48) (v := ?_) (a' := ?_) #[true, true, true, true, true, false, false, false, false, false, false, false, false, false] rfl rfl (by kernel_rfl) (fun _ _ _ h => h) (Or.inl ⟨by rfl, ?_⟩) ?_ ?_
  rotate_left
  · intro w'
    go_simp
    with_reducible rfl
  rotate_left
  · simp only [Act.put, List.setIfInBounds_toArray, List.set_cons_zero, List.set_cons_succ, i64_w, i32_w]
    rfl
  refine pure_ (i := 5) (N := some 49) (v := ?_) (a' := ?_) #[true, true, true, true, true, true, false, false, false, false, false, false, false, false] rfl rfl (by kernel_rfl) (fun _ _ _ h => h) (Or.inl ⟨by rfl, ?_⟩) ?_ ?_
  rotate_left
  · intro w'
    go_simp
    with_reducible rfl
  rotate_left
  · simp only [Act.put, List.setIfInBounds_toArray, List.set_cons_zero, List.set_cons_succ, i64_w, i32_w]
    rfl
  refine pure_ (i := 6) (N := some 50) (v := ?_) (a' := ?_) #[true, true, true, true, true, true, true, false, false, false, false, false, false, false] rfl rfl (by kernel_rfl) (fun _ _ _ h => h) (Or.inl ⟨by rfl, ?_⟩) ?_ ?_
  rotate_left
  · intro w'
    refine (exec_nilW w' (b := b) (.tmp 49) (by rfl) (by rfl)).trans ?_
    with_reducible rfl
  rotate_left
  · simp only [Act.put, List.setIfInBounds_toArray, List.set_cons_zero, List.set_cons_succ, i64_w, i32_w]
    rfl
  refine pure_ (i := 7) (N := some 51) (v := ?_) (a' := ?_) #[true, true, true, true, true, true, true, true, false, false, false, false, false, false] rfl rfl (by kernel_rfl) (fun _ _ _ h => h) (Or.inl ⟨by rfl, ?_⟩) ?_ ?_
  rotate_left
  · intro w'
    go_simp
    with_reducible rfl
  rotate_left
  · simp only [Act.put, List.setIfInBounds_toArray, List.set_cons_zero, List.set_cons_succ, i64_w, i32_w]
    rfl
  refine one_ (i := 8) (N := some 52) #[true, true, true, true, true, true, true, true, true, false, false, false, false, false] rfl rfl (by kernel_rfl) (by decide) (fun K hK => ?_)
  refine call_ (87) #[.pointer (some ⟨b, 0, none⟩), .slice (some ⟨g, 1, none⟩) 32 32] (by rfl) rfl (exec_write (.tmp 51) (.tmp 48) #[30] (by rfl) (by rfl) (by rfl)) ?_
  with_reducible refine (WP.out _ HS.out TT.out (by have := HLM.out; have := Z1.out; omega)).mono ?_
  rintro e w5 ⟨rfl, v5, h5, t5⟩
  refine ⟨_, rfl, ?_⟩
  have n0_ := Lib.hid (st_eq h5 HE2.out.symm); have n1_ := Lib.hid (TT.out.trans t5); clear h5 t5 HS TT; have HS := n0_; have TT := n1_; clear n0_ n1_
  refine hK.out _ _ trivial (fun hHeld => ?_)
  clear hK K
  refine norm_ (a' := ?_) ?_ ?_
  rotate_left
  · show Act.put _ (some 52) _ = _
    simp only [Act.put, List.setIfInBounds_toArray, List.set_cons_zero, List.set_cons_succ, i64_w, i32_w]
    rfl
  refine pure_ (i := 9) (N := some 43) (v := ?_) (a' := ?_) #[true, true, true, true, true, true, true, true, true, true, false, false, false, false] rfl rfl (by kernel_rfl) (fun _ _ _ h => h) (Or.inl ⟨by rfl, ?_⟩) ?_ ?_
  rotate_left
  · intro w'
    go_simp
    with_reducible rfl
  rotate_left
  · simp only [Act.put, List.setIfInBounds_toArray, List.set_cons_zero, List.set_cons_succ, i64_w, i32_w]
    rfl
  refine pure_ (i := 10) (N := some 53) (v := ?_) (a' := ?_) #[true, true, true, true, true, true, true, true, true, true, true, false, false, false] rfl rfl (by kernel_rfl) (fun _ _ _ h => h) (Or.inl ⟨by rfl, ?_⟩) ?_ ?_
  rotate_left
  · intro w'
    go_simp
    with_reducible rfl
  rotate_left
  · simp only [Act.put, List.setIfInBounds_toArray, List.set_cons_zero, List.set_cons_succ, i64_w, i32_w]
    rfl
  refine pure_ (i := 11) (N := some 54) (v := ?_) (a' := ?_) #[true, true, true, true, true, true, true, true, true, true, true, true, false, false] rfl rfl (by kernel_rfl) (fun _ _ _ h => h) (Or.inl ⟨by rfl, ?_⟩) ?_ ?_
  rotate_left
  · intro w'
    go_simp
    with_reducible rfl
  rotate_left
  · simp only [Act.put, List.setIfInBounds_toArray, List.set_cons_zero, List.set_cons_succ, i64_w, i32_w]
    rfl
  refine pure_ (i := 12) (N := some 11) (v := ?_) (a' := ?_) #[true, true, true, true, true, true, true, true, true, true, true, true, true, false] rfl rfl (by kernel_rfl) (fun _ _ _ h => h) (Or.inl ⟨by rfl, ?_⟩) ?_ ?_
  rotate_left
  · intro w'
    go_simp
    with_reducible rfl
  rotate_left
  · simp only [Act.put, List.setIfInBounds_toArray, List.set_cons_zero, List.set_cons_succ, i64_w, i32_w]
    rfl
  refine pure_ (i := 13) (N := some 12) (v := ?_) (a' := ?_) #[true, true, true, true, true, true, true, true, true, true, true, true, true, true] rfl rfl (by kernel_rfl) (fun _ _ _ h => h) (Or.inl ⟨by rfl, ?_⟩) ?_ ?_
  rotate_left
  · intro w'
    go_simp
    with_reducible rfl
  rotate_left
  · simp only [Act.put, List.setIfInBounds_toArray, List.set_cons_zero, List.set_cons_succ, i64_w, i32_w]
    rfl
  refine done_ (by kernel_rfl) ?_
  have n0_ := Lib.hid (HS.out.below (below_drew (Below.refl _ _)))
  have n1_ := Lib.hid (TT.out.trans (HS.out.tr_below (below_drew (Below.refl _ _))))
  clear HS TT
  have HS := n0_
  have TT := n1_
  clear n0_ n1_
  go_wp2
  refine start_ (n := 14) (S := fun w' => True) (ds := []) #[false, false, false, false, false, false, false, false, false, false, false, false, false, false] (by kernel_rfl) rfl rfl trivial (fun hHeld => ?_)
  refine pure_ (i := 0) (N := some 59) (v := ?_) (a' := ?_) #[true, false, false, false, false, false, false, false, false, false, false, false, false, false] rfl rfl (by kernel_rfl) (fun _ _ _ h => h) (Or.inl ⟨by rfl, ?_⟩) ?_ ?_
  rotate_left
  · intro w'
    go_simp
    with_reducible rfl
  rotate_left
  · simp only [Act.put, List.setIfInBounds_toArray, List.set_cons_zero, List.set_cons_succ, i64_w, i32_w]
    rfl
  refine pure_ (i := 1) (N := some 60) (v := ?_) (a' := ?_) #[true, true, false, false, false, false, false, false, false, false, false, false, false, false] rfl rfl (by kernel_rfl) (fun _ _ _ h => h) (Or.inl ⟨by rfl, ?_⟩) ?_ ?_
  rotate_left
  · intro w'
    go_simp
    with_reducible rfl
  rotate_left
  · simp only [Act.put, List.setIfInBounds_toArray, List.set_cons_zero, List.set_cons_succ, i64_w, i32_w]
    rfl
  refine pure_ (i := 2) (N := some 61) (v := ?_) (a' := ?_) #[true, true, true, false, false, false, false, false, false, false, false, false, false, false] rfl rfl (by kernel_rfl) (fun _ _ _ h => h) (Or.inl ⟨by rfl, ?_⟩) ?_ ?_
  rotate_left
  · intro w'
    go_simp
    with_reducible rfl
  rotate_left
  · simp only [Act.put, List.setIfInBounds_toArray, List.set_cons_zero, List.set_cons_succ, i64_w, i32_w]
    rfl
  refine pure_ (i := 3) (N := some 62) (v := ?_) (a' := ?_) #[true, true, true, true, false, false, false, false, false, false, false, false, false, false] rfl rfl (by kernel_rfl) (fun _ _ _ h => h) (Or.inl ⟨by rfl, ?_⟩) ?_ ?_
  rotate_left
  · intro w'
    go_simp
    with_reducible rfl
  rotate_left
  · simp only [Act.put, List.setIfInBounds_toArray, List.set_cons_zero, List.set_cons_succ, i64_w, i32_w]
    rfl
  refine pure_ (i := 4) (N := some 63) (v := ?_) (a' := ?_) #[true, true, true, true, true, false, false, false, false, false, false, false, false, false] rfl rfl (by kernel_rfl) (fun _ _ _ h => h) (Or.inl ⟨by rfl, ?_⟩) ?_ ?_
  rotate_left
  · intro w'
    go_simp
    with_reducible rfl
  rotate_left
  · simp only [Act.put, List.setIfInBounds_toArray, List.set_cons_zero, List.set_cons_succ, i64_w, i32_w]
    rfl
  refine pure_ (i := 5) (N := some 64) (v := ?_) (a' := ?_) #[true, true, true, true, true, true, false, false, false, false, false, false, false, false] rfl rfl (by kernel_rfl) (fun _ _ _ h => h) (Or.inl ⟨by rfl, ?_⟩) ?_ ?_
  rotate_left
  · intro w'
    go_simp
    with_reducible rfl
  rotate_left
  · simp only [Act.put, List.setIfInBounds_toArray, List.set_cons_zero, List.set_cons_succ, i64_w, i32_w]
    rfl
  refine pure_ (i := 6) (N := some 65) (v := ?_) (a' := ?_) #[true, true, true, true, true, true, true, false, false, false, false, false, false, false] rfl rfl (by kernel_rfl) (fun _ _ _ h => h) (Or.inl ⟨by rfl, ?_⟩) ?_ ?_
  rotate_left
  · intro w'
    refine (exec_nilW w' (b := b) (.tmp 64) (by rfl) (by rfl)).trans ?_
    with_reducible rfl
  rotate_left
  · simp only [Act.put, List.setIfInBounds_toArray, List.set_cons_zero, List.set_cons_succ, i64_w, i32_w]
    rfl
  refine pure_ (i := 7) (N := some 66) (v := ?_) (a' := ?_) #[true, true, true, true, true, true, true, true, false, false, false, false, false, false] rfl rfl (by kernel_rfl) (fun _ _ _ h => h) (Or.inl ⟨by rfl, ?_⟩) ?_ ?_
  rotate_left
  · intro w'
    go_simp
    with_reducible rfl
  rotate_left
  · simp only [Act.put, List.setIfInBounds_toArray, List.set_cons_zero, List.set_cons_succ, i64_w, i32_w]
    rfl
  refine one_ (i := 8) (N := some 67) #[true, true, true, true, true, true, true, true, true, false, false, false, false, false] rfl rfl (by kernel_rfl) (by decide) (fun K hK => ?_)
  refine call_ (87) #[.pointer (some ⟨b, 0, none⟩), .slice (some ⟨g, 33, none⟩) 32 32] (by rfl) rfl (exec_write (.tmp 66) (.tmp 63) #[30] (by rfl) (by rfl) (by rfl)) ?_
  with_reducible refine (WR.out _ HS.out TT.out (by have := HLM.out; have := Z2.out; omega)).mono ?_
  rintro e w5 ⟨rfl, v5, h5, t5⟩
  refine ⟨_, rfl, ?_⟩
  have n0_ := Lib.hid (st_eq h5 HE3.out.symm); have n1_ := Lib.hid (TT.out.trans t5); clear h5 t5 HS TT; have HS := n0_; have TT := n1_; clear n0_ n1_
  refine hK.out _ _ trivial (fun hHeld => ?_)
  clear hK K
  refine norm_ (a' := ?_) ?_ ?_
  rotate_left
  · show Act.put _ (some 67) _ = _
    simp only [Act.put, List.setIfInBounds_toArray, List.set_cons_zero, List.set_cons_succ, i64_w, i32_w]
    rfl
  refine pure_ (i := 9) (N := some 58) (v := ?_) (a' := ?_) #[true, true, true, true, true, true, true, true, true, true, false, false, false, false] rfl rfl (by kernel_rfl) (fun _ _ _ h => h) (Or.inl ⟨by rfl, ?_⟩) ?_ ?_
  rotate_left
  · intro w'
    go_simp
    with_reducible rfl
  rotate_left
  · simp only [Act.put, List.setIfInBounds_toArray, List.set_cons_zero, List.set_cons_succ, i64_w, i32_w]
    rfl
  refine pure_ (i := 10) (N := some 68) (v := ?_) (a' := ?_) #[true, true, true, true, true, true, true, true, true, true, true, false, false, false] rfl rfl (by kernel_rfl) (fun _ _ _ h => h) (Or.inl ⟨by rfl, ?_⟩) ?_ ?_
  rotate_left
  · intro w'
    go_simp
    with_reducible rfl
  rotate_left
  · simp only [Act.put, List.setIfInBounds_toArray, List.set_cons_zero, List.set_cons_succ, i64_w, i32_w]
    rfl
  refine pure_ (i := 11) (N := some 69) (v := ?_) (a' := ?_) #[true, true, true, true, true, true, true, true, true, true, true, true, false, false] rfl rfl (by kernel_rfl) (fun _ _ _ h => h) (Or.inl ⟨by rfl, ?_⟩) ?_ ?_
  rotate_left
  · intro w'
    go_simp
    with_reducible rfl
  rotate_left
  · simp only [Act.put, List.setIfInBounds_toArray, List.set_cons_zero, List.set_cons_succ, i64_w, i32_w]
    rfl
  refine pure_ (i := 12) (N := some 13) (v := ?_) (a' := ?_) #[true, true, true, true, true, true, true, true, true, true, true, true, true, false] rfl rfl (by kernel_rfl) (fun _ _ _ h => h) (Or.inl ⟨by rfl, ?_⟩) ?_ ?_
  rotate_left
  · intro w'
    go_simp
    with_reducible rfl
  rotate_left
  · simp only [Act.put, List.setIfInBounds_toArray, List.set_cons_zero, List.set_cons_succ, i64_w, i32_w]
    rfl
  refine pure_ (i := 13) (N := some 14) (v := ?_) (a' := ?_) #[true, true, true, true, true, true, true, true, true, true, true, true, true, true] rfl rfl (by kernel_rfl) (fun _ _ _ h => h) (Or.inl ⟨by rfl, ?_⟩) ?_ ?_
  rotate_left
  · intro w'
    go_simp
    with_reducible rfl
  rotate_left
  · simp only [Act.put, List.setIfInBounds_toArray, List.set_cons_zero, List.set_cons_succ, i64_w, i32_w]
    rfl
  refine done_ (by kernel_rfl) ?_
  have n0_ := Lib.hid (HS.out.below (below_drew (Below.refl _ _)))
  have n1_ := Lib.hid (TT.out.trans (HS.out.tr_below (below_drew (Below.refl _ _))))
  clear HS TT
  have HS := n0_
  have TT := n1_
  clear n0_ n1_
  go_wp2
  refine start_ (n := 10) (S := fun w' => Lies w' ⟨g, 65, none⟩ [.int .i64 k.h.t]) (ds := []) #[false, false, false, false, false, false, false, false, false, false] (by kernel_rfl) rfl rfl ((HC.out _ TT.out).2.1) (fun hHeld => ?_)
  refine pure_ (i := 1) (N := some 74) (v := ?_) (a' := ?_) #[false, true, false, false, false, false, false, false, false, false] rfl rfl (by kernel_rfl) (fun _ _ _ h => h) (Or.inl ⟨by rfl, ?_⟩) ?_ ?_
  rotate_left
  · intro w'
    go_simp
    with_reducible rfl
  rotate_left
  · simp only [Act.put, List.setIfInBounds_toArray, List.set_cons_zero, List.set_cons_succ, i64_w, i32_w]
    rfl
  refine pure_ (i := 2) (N := some 75) (v := ?_) (a' := ?_) #[false, true, true, false, false, false, false, false, false, false] rfl rfl (by kernel_rfl) (fun _ _ _ h => h) (Or.inl ⟨by rfl, ?_⟩) ?_ ?_
  rotate_left
  · intro w'
    go_simp
    with_reducible rfl
  rotate_left
  · simp only [Act.put, List.setIfInBounds_toArray, List.set_cons_zero, List.set_cons_succ, i64_w, i32_w]
    rfl
  refine pure_ (i := 3) (N := some 76) (v := ?_) (a' := ?_) #[false, true, true, true, false, false, false, false, false, false] rfl rfl (by kernel_rfl) (fun _ _ _ h => h) (Or.inl ⟨by rfl, ?_⟩) ?_ ?_
  rotate_left
  · intro w'
    go_simp
    with_reducible rfl
  rotate_left
  · simp only [Act.put, List.setIfInBounds_toArray, List.set_cons_zero, List.set_cons_succ, i64_w, i32_w]
    rfl
  refine pure_ (i := 4) (N := some 77) (v := ?_) (a' := ?_) #[false, true, true, true, true, false, false, false, false, false] rfl rfl (by kernel_rfl) (fun _ _ _ h => h) (Or.inl ⟨by rfl, ?_⟩) ?_ ?_
  rotate_left
  · intro w'
    go_simp
    with_reducible rfl
  rotate_left
  · simp only [Act.put, List.setIfInBounds_toArray, List.set_cons_zero, List.set_cons_succ, i64_w, i32_w]
    rfl
  refine pure_ (i := 5) (N := some 78) (v := ?_) (a' := ?_) #[false, true, true, true, true, true, false, false, false, false] rfl rfl (by kernel_rfl) (fun _ _ _ h => h) (Or.inl ⟨by rfl, ?_⟩) ?_ ?_
  rotate_left
  · intro w'
    go_simp
    with_reducible rfl
  rotate_left
  · simp only [Act.put, List.setIfInBounds_toArray, List.set_cons_zero, List.set_cons_succ, i64_w, i32_w]
    rfl
  refine take_ (i := 0) (N := some 73) (v := ?_) (a' := ?_) #[true, true, true, true, true, true, false, false, false, false] rfl rfl (by kernel_rfl) (fun _ _ _ h => h) (Or.inl ⟨by rfl, ?_⟩) hHeld ?_ ?_
  rotate_left
  · intro w' s0
    go_simp
    with_reducible rfl
  rotate_left
  · simp only [Act.put, List.setIfInBounds_toArray, List.set_cons_zero, List.set_cons_succ, i64_w, i32_w]
    rfl
  refine take_ (i := 6) (N := some 79) (v := ?_) (a' := ?_) #[true, true, true, true, true, true, true, false, false, false] rfl rfl (by kernel_rfl) (fun _ _ _ h => h) (Or.inl ⟨by rfl, ?_⟩) hHeld ?_ ?_
  rotate_left
  · intro w' s0
    refine (exec_load_list 101 (.tmp 78) (by rfl) ⟨g, 65, none⟩ (by rfl) [.int .i64 k.h.t] _ s0 Try.underlying101 rfl (by rfl)).trans ?_
    with_reducible rfl
  rotate_left
  · simp only [Act.put, List.setIfInBounds_toArray, List.set_cons_zero, List.set_cons_succ, i64_w, i32_w]
    rfl
  refine one_ (i := 7) (N := some 80) #[true, true, true, true, true, true, true, true, false, false] rfl rfl (by kernel_rfl) (by decide) (fun K hK => ?_)
  refine goes_ Try.func64 (by kernel_rfl) rfl #[.agg #[.int .i64 k.h.t]] (by rfl) rfl rfl (by simp only [List.map_toArray, List.map_cons, List.map_nil]; rfl) ?_
  with_reducible refine (unixM_calls k.h.t _).mono ?_
  rintro e w3 ⟨rfl, hb⟩
  refine ⟨_, rfl, ?_⟩
  have n0_ := Lib.hid (HS.out.below hb); have n1_ := Lib.hid (TT.out.trans (HS.out.tr_below hb)); clear HS TT hb; have HS := n0_; have TT := n1_; clear n0_ n1_
  refine hK.out _ _ ((HC.out _ TT.out).2.1) (fun hHeld => ?_)
  clear hK K
  refine norm_ (a' := ?_) ?_ ?_
  rotate_left
  · show Act.put _ (some 80) _ = _
    simp only [Act.put, List.setIfInBounds_toArray, List.set_cons_zero, List.set_cons_succ, i64_w, i32_w]
    rfl
  refine pure_ (i := 8) (N := some 81) (v := ?_) (a' := ?_) #[true, true, true, true, true, true, true, true, true, false] rfl rfl (by kernel_rfl) (fun _ _ _ h => h) (Or.inl ⟨by rfl, ?_⟩) ?_ ?_
  rotate_left
  · intro w'
    go_simp
    with_reducible rfl
  rotate_left
  · simp only [Act.put, List.setIfInBounds_toArray, List.set_cons_zero, List.set_cons_succ, i64_w, i32_w]
    rfl
  refine one_ (i := 9) (N := some 82) #[true, true, true, true, true, true, true, true, true, true] rfl rfl (by kernel_rfl) (by decide) (fun K hK => ?_)
  obtain ⟨d0, d1, d2, d3, d4, d5, d6, d7, hs3⟩ := HS.out.sc
  refine goes_ Try.func58 (by kernel_rfl) rfl #[.agg #[], .slice (some ⟨s, 0, none⟩) 4 8, .int .u32 k.h.t] (by rfl) rfl rfl (by simp only [List.map_toArray, List.map_cons, List.map_nil]; rfl) ?_
  with_reducible refine (put32_calls s 4 8 k.h.t d0 d1 d2 d3 d4 d5 d6 d7 _ hs3 (by omega) HN.out.t.1 HN.out.t.2).mono ?_
  rintro e w4 ⟨rfl, hp⟩
  refine ⟨_, rfl, ?_⟩
  obtain ⟨h4, t4⟩ := HS.out.put hp
  have n0_ := Lib.hid (h4.below (below_drew (Below.refl _ _))); have T40 := Lib.hid (TT.out.trans t4); have n1_ := Lib.hid (T40.out.trans (h4.tr_below (below_drew (Below.refl _ _)))); have HP4 := Lib.hid (blk_drew hp.blk)
  clear h4 t4 hp hs3 HS TT; have HS := n0_; have TT := n1_; clear n0_ n1_
  refine hK.out _ _ ((HC.out _ T40.out).2.1) (fun hHeld => ?_)
  clear hK K
  refine norm_ (a' := ?_) ?_ ?_
  rotate_left
  · show Act.put _ (some 82) _ = _
    simp only [Act.put, List.setIfInBounds_toArray, List.set_cons_zero, List.set_cons_succ, i64_w, i32_w]
    rfl
  refine done_ (by kernel_rfl) ?_
  clear T40
  go_wp2
  refine start_ (n := 12) (S := fun w' => True) (ds := []) #[false, false, false, false, false, false, false, false, false, false, false, false] (by kernel_rfl) rfl rfl trivial (fun hHeld => ?_)
  refine pure_ (i := 0) (N := some 84) (v := ?_) (a' := ?_) #[true, false, false, false, false, false, false, false, false, false, false, false] rfl rfl (by kernel_rfl) (fun _ _ _ h => h) (Or.inl ⟨by rfl, ?_⟩) ?_ ?_
  rotate_left
  · intro w'
    go_simp
    with_reducible rfl
  rotate_left
  · simp only [Act.put, List.setIfInBounds_toArray, List.set_cons_zero, List.set_cons_succ, i64_w, i32_w]
    rfl
  refine pure_ (i := 1) (N := some 85) (v := ?_) (a' := ?_) #[true, true, false, false, false, false, false, false, false, false, false, false] rfl rfl (by kernel_rfl) (fun _ _ _ h => h) (Or.inl ⟨by rfl, ?_⟩) ?_ ?_
  rotate_left
  · intro w'
    go_simp
    with_reducible rfl
  rotate_left
  · simp only [Act.put, List.setIfInBounds_toArray, List.set_cons_zero, List.set_cons_succ, i64_w, i32_w]
    rfl
  refine pure_ (i := 2) (N := some 86) (v := ?_) (a' := ?_) #[true, true, true, false, false, false, false, false, false, false, false, false] rfl rfl (by kernel_rfl) (fun _ _ _ h => h) (Or.inl ⟨by rfl, ?_⟩) ?_ ?_
  rotate_left
  · intro w'
    go_simp
    with_reducible rfl
  rotate_left
  · simp only [Act.put, List.setIfInBounds_toArray, List.set_cons_zero, List.set_cons_succ, i64_w, i32_w]
    rfl
  refine pure_ (i := 3) (N := some 87) (v := ?_) (a' := ?_) #[true, true, true, true, false, false, false, false, false, false, false, false] rfl rfl (by kernel_rfl) (fun _ _ _ h => h) (Or.inl ⟨by rfl, ?_⟩) ?_ ?_
  rotate_left
  · intro w'
    go_simp
    with_reducible rfl
  rotate_left
  · simp only [Act.put, List.setIfInBounds_toArray, List.set_cons_zero, List.set_cons_succ, i64_w, i32_w]
    rfl
  refine pure_ (i := 4) (N := some 88) (v := ?_) (a' := ?_) #[true, true, true, true, true, false, false, false, false, false, false, false] rfl rfl (by kernel_rfl) (fun _ _ _ h => h) (Or.inl ⟨by rfl, ?_⟩) ?_ ?_
  rotate_left
  · intro w'
    refine (exec_nilW w' (b := b) (.tmp 87) (by rfl) (by rfl)).trans ?_
    with_reducible rfl
  rotate_left
  · simp only [Act.put, List.setIfInBounds_toArray, List.set_cons_zero, List.set_cons_succ, i64_w, i32_w]
    rfl
  refine pure_ (i := 5) (N := some 89) (v := ?_) (a' := ?_) #[true, true, true, true, true, true, false, false, false, false, false, false] rfl rfl (by kernel_rfl) (fun _ _ _ h => h) (Or.inl ⟨by rfl, ?_⟩) ?_ ?_
  rotate_left
  · intro w'
    go_simp
    with_reducible rfl
  rotate_left
  · simp only [Act.put, List.setIfInBounds_toArray, List.set_cons_zero, List.set_cons_succ, i64_w, i32_w]
    rfl
  refine one_ (i := 6) (N := some 90) #[true, true, true, true, true, true, true, false, false, false, false, false] rfl rfl (by kernel_rfl) (by decide) (fun K hK => ?_)
  refine call_ (87) #[.pointer (some ⟨b, 0, none⟩), .slice (some ⟨s, 0, none⟩) 4 8] (by rfl) rfl (exec_write (.tmp 89) (.tmp 86) #[30] (by rfl) (by rfl) (by rfl)) ?_
  with_reducible refine (write_sc HS.out HP4.out 4 8 (le 4 k.h.t) (le_len 4 k.h.t) (fun j hj => by have hj2 : j = 0 ∨ j = 1 ∨ j = 2 ∨ j = 3 := (by omega); rcases hj2 with rfl | rfl | rfl | rfl <;> simp [le]) (by omega) (by have := HLM.out; have := Z3.out; omega)).mono ?_
  rintro e w5 ⟨rfl, v5, h5, t5⟩
  refine ⟨_, rfl, ?_⟩
  have n0_ := Lib.hid (st_eq h5 HE4.out.symm); have n1_ := Lib.hid (TT.out.trans t5); clear h5 t5 HS TT HP4; have HS := n0_; have TT := n1_; clear n0_ n1_
  refine hK.out _ _ trivial (fun hHeld => ?_)
  clear hK K
  refine norm_ (a' := ?_) ?_ ?_
  rotate_left
  · show Act.put _ (some 90) _ = _
    simp only [Act.put, List.setIfInBounds_toArray, List.set_cons_zero, List.set_cons_succ, i64_w, i32_w]
    rfl
  refine pure_ (i := 7) (N := some 83) (v := ?_) (a' := ?_) #[true, true, true, true, true, true, true, true, false, false, false, false] rfl rfl (by kernel_rfl) (fun _ _ _ h => h) (Or.inl ⟨by rfl, ?_⟩) ?_ ?_
  rotate_left
  · intro w'
    go_simp
    with_reducible rfl
  rotate_left
  · simp only [Act.put, List.setIfInBounds_toArray, List.set_cons_zero, List.set_cons_succ, i64_w, i32_w]
    rfl
  refine pure_ (i := 8) (N := some 91) (v := ?_) (a' := ?_) #[true, true, true, true, true, true, true, true, true, false, false, false] rfl rfl (by kernel_rfl) (fun _ _ _ h => h) (Or.inl ⟨by rfl, ?_⟩) ?_ ?_
  rotate_left
  · intro w'
    go_simp
    with_reducible rfl
  rotate_left
  · simp only [Act.put, List.setIfInBounds_toArray, List.set_cons_zero, List.set_cons_succ, i64_w, i32_w]
    rfl
  refine pure_ (i := 9) (N := some 92) (v := ?_) (a' := ?_) #[true, true, true, true, true, true, true, true, true, true, false, false] rfl rfl (by kernel_rfl) (fun _ _ _ h => h) (Or.inl ⟨by rfl, ?_⟩) ?_ ?_
  rotate_left
  · intro w'
    go_simp
    with_reducible rfl
  rotate_left
  · simp only [Act.put, List.setIfInBounds_toArray, List.set_cons_zero, List.set_cons_succ, i64_w, i32_w]
    rfl
  refine pure_ (i := 10) (N := some 15) (v := ?_) (a' := ?_) #[true, true, true, true, true, true, true, true, true, true, true, false] rfl rfl (by kernel_rfl) (fun _ _ _ h => h) (Or.inl ⟨by rfl, ?_⟩) ?_ ?_
  rotate_left
  · intro w'
    go_simp
    with_reducible rfl
  rotate_left
  · simp only [Act.put, List.setIfInBounds_toArray, List.set_cons_zero, List.set_cons_succ, i64_w, i32_w]
    rfl
  refine pure_ (i := 11) (N := some 16) (v := ?_) (a' := ?_) #[true, true, true, true, true, true, true, true, true, true, true, true] rfl rfl (by kernel_rfl) (fun _ _ _ h => h) (Or.inl ⟨by rfl, ?_⟩) ?_ ?_
  rotate_left
  · intro w'
    go_simp
    with_reducible rfl
  rotate_left
  · simp only [Act.put, List.setIfInBounds_toArray, List.set_cons_zero, List.set_cons_succ, i64_w, i32_w]
    rfl
  refine done_ (by kernel_rfl) ?_
  have n0_ := Lib.hid (HS.out.below (below_drew (Below.refl _ _)))
  have n1_ := Lib.hid (TT.out.trans (HS.out.tr_below (below_drew (Below.refl _ _))))
  clear HS TT
  have HS := n0_
  have TT := n1_
  clear n0_ n1_
  go_wp2
  refine start_ (n := 8) (S := fun w' => w'.cell? ⟨g, 66, none⟩ = some (.int .u32 k.h.b)) (ds := []) #[false, false, false, false, false, false, false, false] (by kernel_rfl) rfl rfl ((HC.out _ TT.out).2.2.1) (fun hHeld => ?_)
  refine pure_ (i := 1) (N := some 97) (v := ?_) (a' := ?_) #[false, true, false, false, false, false, false, false] rfl rfl (by kernel_rfl) (fun _ _ _ h => h) (Or.inl ⟨by rfl, ?_⟩) ?_ ?_
  rotate_left
  · intro w'
    go_simp
    with_reducible rfl
  rotate_left
  · simp only [Act.put, List.setIfInBounds_toArray, List.set_cons_zero, List.set_cons_succ, i64_w, i32_w]
    rfl
  refine pure_ (i := 2) (N := some 98) (v := ?_) (a' := ?_) #[false, true, true, false, false, false, false, false] rfl rfl (by kernel_rfl) (fun _ _ _ h => h) (Or.inl ⟨by rfl, ?_⟩) ?_ ?_
  rotate_left
  · intro w'
    go_simp
    with_reducible rfl
  rotate_left
  · simp only [Act.put, List.setIfInBounds_toArray, List.set_cons_zero, List.set_cons_succ, i64_w, i32_w]
    rfl
  refine pure_ (i := 3) (N := some 99) (v := ?_) (a' := ?_) #[false, true, true, true, false, false, false, false] rfl rfl (by kernel_rfl) (fun _ _ _ h => h) (Or.inl ⟨by rfl, ?_⟩) ?_ ?_
  rotate_left
  · intro w'
    go_simp
    with_reducible rfl
  rotate_left
  · simp only [Act.put, List.setIfInBounds_toArray, List.set_cons_zero, List.set_cons_succ, i64_w, i32_w]
    rfl
  refine pure_ (i := 4) (N := some 100) (v := ?_) (a' := ?_) #[false, true, true, true, true, false, false, false] rfl rfl (by kernel_rfl) (fun _ _ _ h => h) (Or.inl ⟨by rfl, ?_⟩) ?_ ?_
  rotate_left
  · intro w'
    go_simp
    with_reducible rfl
  rotate_left
  · simp only [Act.put, List.setIfInBounds_toArray, List.set_cons_zero, List.set_cons_succ, i64_w, i32_w]
    rfl
  refine pure_ (i := 5) (N := some 101) (v := ?_) (a' := ?_) #[false, true, true, true, true, true, false, false] rfl rfl (by kernel_rfl) (fun _ _ _ h => h) (Or.inl ⟨by rfl, ?_⟩) ?_ ?_
  rotate_left
  · intro w'
    go_simp
    with_reducible rfl
  rotate_left
  · simp only [Act.put, List.setIfInBounds_toArray, List.set_cons_zero, List.set_cons_succ, i64_w, i32_w]
    rfl
  refine take_ (i := 0) (N := some 96) (v := ?_) (a' := ?_) #[true, true, true, true, true, true, false, false] rfl rfl (by kernel_rfl) (fun _ _ _ h => h) (Or.inl ⟨by rfl, ?_⟩) hHeld ?_ ?_
  rotate_left
  · intro w' s0
    go_simp
    with_reducible rfl
  rotate_left
  · simp only [Act.put, List.setIfInBounds_toArray, List.set_cons_zero, List.set_cons_succ, i64_w, i32_w]
    rfl
  refine take_ (i := 6) (N := some 102) (v := ?_) (a' := ?_) #[true, true, true, true, true, true, true, false] rfl rfl (by kernel_rfl) (fun _ _ _ h => h) (Or.inl ⟨by rfl, ?_⟩) hHeld ?_ ?_
  rotate_left
  · intro w' s0
    go_simp
    with_reducible rfl
  rotate_left
  · simp only [Act.put, List.setIfInBounds_toArray, List.set_cons_zero, List.set_cons_succ, i64_w, i32_w]
    rfl
  refine one_ (i := 7) (N := some 103) #[true, true, true, true, true, true, true, true] rfl rfl (by kernel_rfl) (by decide) (fun K hK => ?_)
  obtain ⟨d0, d1, d2, d3, d4, d5, d6, d7, hs3⟩ := HS.out.sc
  refine goes_ Try.func58 (by kernel_rfl) rfl #[.agg #[], .slice (some ⟨s, 0, none⟩) 4 8, .int .u32 k.h.b] (by rfl) rfl rfl (by simp only [List.map_toArray, List.map_cons, List.map_nil]; rfl) ?_
  with_reducible refine (put32_calls s 4 8 k.h.b d0 d1 d2 d3 d4 d5 d6 d7 _ hs3 (by omega) HN.out.b.1 HN.out.b.2).mono ?_
  rintro e w4 ⟨rfl, hp⟩
  refine ⟨_, rfl, ?_⟩
  obtain ⟨h4, t4⟩ := HS.out.put hp
  have n0_ := Lib.hid (h4.below (below_drew (Below.refl _ _))); have T40 := Lib.hid (TT.out.trans t4); have n1_ := Lib.hid (T40.out.trans (h4.tr_below (below_drew (Below.refl _ _)))); have HP4 := Lib.hid (blk_drew hp.blk)
  clear h4 t4 hp hs3 HS TT; have HS := n0_; have TT := n1_; clear n0_ n1_
  refine hK.out _ _ ((HC.out _ T40.out).2.2.1) (fun hHeld => ?_)
  clear hK K
  refine norm_ (a' := ?_) ?_ ?_
  rotate_left
  · show Act.put _ (some 103) _ = _
    simp only [Act.put, List.setIfInBounds_toArray, List.set_cons_zero, List.set_cons_succ, i64_w, i32_w]
    rfl
  refine done_ (by kernel_rfl) ?_
  clear T40
  go_wp2
  refine start_ (n := 12) (S := fun w' => True) (ds := []) #[false, false, false, false, false, false, false, false, false, false, false, false] (by kernel_rfl) rfl rfl trivial (fun hHeld => ?_)
  refine pure_ (i := 0) (N := some 105) (v := ?_) (a' := ?_) #[true, false, false, false, false, false, false, false, false, false, false, false] rfl rfl (by kernel_rfl) (fun _ _ _ h => h) (Or.inl ⟨by rfl, ?_⟩) ?_ ?_
  rotate_left
  · intro w'
    go_simp
    with_reducible rfl
  rotate_left
  · simp only [Act.put, List.setIfInBounds_toArray, List.set_cons_zero, List.set_cons_succ, i64_w, i32_w]
    rfl
  refine pure_ (i := 1) (N := some 106) (v := ?_) (a' := ?_) #[true, true, false, false, false, false, false, false, false, false, false, false] rfl rfl (by kernel_rfl) (fun _ _ _ h => h) (Or.inl ⟨by rfl, ?_⟩) ?_ ?_
  rotate_left
  · intro w'
    go_simp
    with_reducible rfl
  rotate_left
  · simp only [Act.put, List.setIfInBounds_toArray, List.set_cons_zero, List.set_cons_succ, i64_w, i32_w]
    rfl
  refine pure_ (i := 2) (N := some 107) (v := ?_) (a' := ?_) #[true, true, true, false, false, false, false, false, false, false, false, false] rfl rfl (by kernel_rfl) (fun _ _ _ h => h) (Or.inl ⟨by rfl, ?_⟩) ?_ ?_
  rotate_left
  · intro w'
    go_simp
    with_reducible rfl
  rotate_left
  · simp only [Act.put, List.setIfInBounds_toArray, List.set_cons_zero, List.set_cons_succ, i64_w, i32_w]
    rfl
  refine pure_ (i := 3) (N := some 108) (v := ?_) (a' := ?_) #[true, true, true, true, false, false, false, false, false, false, false, false] rfl rfl (by kernel_rfl) (fun _ _ _ h => h) (Or.inl ⟨by rfl, ?_⟩) ?_ ?_
  rotate_left
  · intro w'
    go_simp
    with_reducible rfl
  rotate_left
  · simp only [Act.put, List.setIfInBounds_toArray, List.set_cons_zero, List.set_cons_succ, i64_w, i32_w]
    rfl
  refine pure_ (i := 4) (N := some 109) (v := ?_) (a' := ?_) #[true, true, true, true, true, false, false, false, false, false, false, false] rfl rfl (by kernel_rfl) (fun _ _ _ h => h) (Or.inl ⟨by rfl, ?_⟩) ?_ ?_
  rotate_left
  · intro w'
    refine (exec_nilW w' (b := b) (.tmp 108) (by rfl) (by rfl)).trans ?_
    with_reducible rfl
  rotate_left
  · simp only [Act.put, List.setIfInBounds_toArray, List.set_cons_zero, List.set_cons_succ, i64_w, i32_w]
    rfl
  refine pure_ (i := 5) (N := some 110) (v := ?_) (a' := ?_) #[true, true, true, true, true, true, false, false, false, false, false, false] rfl rfl (by kernel_rfl) (fun _ _ _ h => h) (Or.inl ⟨by rfl, ?_⟩) ?_ ?_
  rotate_left
  · intro w'
    go_simp
    with_reducible rfl
  rotate_left
  · simp only [Act.put, List.setIfInBounds_toArray, List.set_cons_zero, List.set_cons_succ, i64_w, i32_w]
    rfl
  refine one_ (i := 6) (N := some 111) #[true, true, true, true, true, true, true, false, false, false, false, false] rfl rfl (by kernel_rfl) (by decide) (fun K hK => ?_)
  refine call_ (87) #[.pointer (some ⟨b, 0, none⟩), .slice (some ⟨s, 0, none⟩) 4 8] (by rfl) rfl (exec_write (.tmp 110) (.tmp 107) #[30] (by rfl) (by rfl) (by rfl)) ?_
  with_reducible refine (write_sc HS.out HP4.out 4 8 (le 4 k.h.b) (le_len 4 k.h.b) (fun j hj => by have hj2 : j = 0 ∨ j = 1 ∨ j = 2 ∨ j = 3 := (by omega); rcases hj2 with rfl | rfl | rfl | rfl <;> simp [le]) (by omega) (by have := HLM.out; have := Z4.out; omega)).mono ?_
  rintro e w5 ⟨rfl, v5, h5, t5⟩
  refine ⟨_, rfl, ?_⟩
  have n0_ := Lib.hid (st_eq h5 HE5.out.symm); have n1_ := Lib.hid (TT.out.trans t5); clear h5 t5 HS TT HP4; have HS := n0_; have TT := n1_; clear n0_ n1_
  refine hK.out _ _ trivial (fun hHeld => ?_)
  clear hK K
  refine norm_ (a' := ?_) ?_ ?_
  rotate_left
  · show Act.put _ (some 111) _ = _
    simp only [Act.put, List.setIfInBounds_toArray, List.set_cons_zero, List.set_cons_succ, i64_w, i32_w]
    rfl
  refine pure_ (i := 7) (N := some 104) (v := ?_) (a' := ?_) #[true, true, true, true, true, true, true, true, false, false, false, false] rfl rfl (by kernel_rfl) (fun _ _ _ h => h) (Or.inl ⟨by rfl, ?_⟩) ?_ ?_
  rotate_left
  · intro w'
    go_simp
    with_reducible rfl
  rotate_left
  · simp only [Act.put, List.setIfInBounds_toArray, List.set_cons_zero, List.set_cons_succ, i64_w, i32_w]
    rfl
  refine pure_ (i := 8) (N := some 112) (v := ?_) (a' := ?_) #[true, true, true, true, true, true, true, true, true, false, false, false] rfl rfl (by kernel_rfl) (fun _ _ _ h => h) (Or.inl ⟨by rfl, ?_⟩) ?_ ?_
  rotate_left
  · intro w'
    go_simp
    with_reducible rfl
  rotate_left
  · simp only [Act.put, List.setIfInBounds_toArray, List.set_cons_zero, List.set_cons_succ, i64_w, i32_w]
    rfl
  refine pure_ (i := 9) (N := some 113) (v := ?_) (a' := ?_) #[true, true, true, true, true, true, true, true, true, true, false, false] rfl rfl (by kernel_rfl) (fun _ _ _ h => h) (Or.inl ⟨by rfl, ?_⟩) ?_ ?_
  rotate_left
  · intro w'
    go_simp
    with_reducible rfl
  rotate_left
  · simp only [Act.put, List.setIfInBounds_toArray, List.set_cons_zero, List.set_cons_succ, i64_w, i32_w]
    rfl
  refine pure_ (i := 10) (N := some 17) (v := ?_) (a' := ?_) #[true, true, true, true, true, true, true, true, true, true, true, false] rfl rfl (by kernel_rfl) (fun _ _ _ h => h) (Or.inl ⟨by rfl, ?_⟩) ?_ ?_
  rotate_left
  · intro w'
    go_simp
    with_reducible rfl
  rotate_left
  · simp only [Act.put, List.setIfInBounds_toArray, List.set_cons_zero, List.set_cons_succ, i64_w, i32_w]
    rfl
  refine pure_ (i := 11) (N := some 18) (v := ?_) (a' := ?_) #[true, true, true, true, true, true, true, true, true, true, true, true] rfl rfl (by kernel_rfl) (fun _ _ _ h => h) (Or.inl ⟨by rfl, ?_⟩) ?_ ?_
  rotate_left
  · intro w'
    go_simp
    with_reducible rfl
  rotate_left
  · simp only [Act.put, List.setIfInBounds_toArray, List.set_cons_zero, List.set_cons_succ, i64_w, i32_w]
    rfl
  refine done_ (by kernel_rfl) ?_
  have n0_ := Lib.hid (HS.out.below (below_drew (Below.refl _ _)))
  have n1_ := Lib.hid (TT.out.trans (HS.out.tr_below (below_drew (Below.refl _ _))))
  clear HS TT
  have HS := n0_
  have TT := n1_
  clear n0_ n1_
  go_wp2
  refine start_ (n := 8) (S := fun w' => w'.cell? ⟨g, 67, none⟩ = some (.int .u32 k.h.n)) (ds := []) #[false, false, false, false, false, false, false, false] (by kernel_rfl) rfl rfl ((HC.out _ TT.out).2.2.2) (fun hHeld => ?_)
  refine pure_ (i := 1) (N := some 118) (v := ?_) (a' := ?_) #[false, true, false, false, false, false, false, false] rfl rfl (by kernel_rfl) (fun _ _ _ h => h) (Or.inl ⟨by rfl, ?_⟩) ?_ ?_
  rotate_left
  · intro w'
    go_simp
    with_reducible rfl
  rotate_left
  · simp only [Act.put, List.setIfInBounds_toArray, List.set_cons_zero, List.set_cons_succ, i64_w, i32_w]
    rfl
  refine pure_ (i := 2) (N := some 119) (v := ?_) (a' := ?_) #[false, true, true, false, false, false, false, false] rfl rfl (by kernel_rfl) (fun _ _ _ h => h) (Or.inl ⟨by rfl, ?_⟩) ?_ ?_
  rotate_left
  · intro w'
    go_simp
    with_reducible rfl
  rotate_left
  · simp only [Act.put, List.setIfInBounds_toArray, List.set_cons_zero, List.set_cons_succ, i64_w, i32_w]
    rfl
  refine pure_ (i := 3) (N := some 120) (v := ?_) (a' := ?_) #[false, true, true, true, false, false, false, false] rfl rfl (by kernel_rfl) (fun _ _ _ h => h) (Or.inl ⟨by rfl, ?_⟩) ?_ ?_
  rotate_left
  · intro w'
    go_simp
    with_reducible rfl
  rotate_left
  · simp only [Act.put, List.setIfInBounds_toArray, List.set_cons_zero, List.set_cons_succ, i64_w, i32_w]
    rfl
  refine pure_ (i := 4) (N := some 121) (v := ?_) (a' := ?_) #[false, true, true, true, true, false, false, false] rfl rfl (by kernel_rfl) (fun _ _ _ h => h) (Or.inl ⟨by rfl, ?_⟩) ?_ ?_
  rotate_left
  · intro w'
    go_simp
    with_reducible rfl
  rotate_left
  · simp only [Act.put, List.setIfInBounds_toArray, List.set_cons_zero, List.set_cons_succ, i64_w, i32_w]
    rfl
  refine pure_ (i := 5) (N := some 122) (v := ?_) (a' := ?_) #[false, true, true, true, true, true, false, false] rfl rfl (by kernel_rfl) (fun _ _ _ h => h) (Or.inl ⟨by rfl, ?_⟩) ?_ ?_
  rotate_left
  · intro w'
    go_simp
    with_reducible rfl
  rotate_left
  · simp only [Act.put, List.setIfInBounds_toArray, List.set_cons_zero, List.set_cons_succ, i64_w, i32_w]
    rfl
  refine take_ (i := 0) (N := some 117) (v := ?_) (a' := ?_) #[true, true, true, true, true, true, false, false] rfl rfl (by kernel_rfl) (fun _ _ _ h => h) (Or.inl ⟨by rfl, ?_⟩) hHeld ?_ ?_
  rotate_left
  · intro w' s0
    go_simp
    with_reducible rfl
  rotate_left
  · simp only [Act.put, List.setIfInBounds_toArray, List.set_cons_zero, List.set_cons_succ, i64_w, i32_w]
    rfl
  refine take_ (i := 6) (N := some 123) (v := ?_) (a' := ?_) #[true, true, true, true, true, true, true, false] rfl rfl (by kernel_rfl) (fun _ _ _ h => h) (Or.inl ⟨by rfl, ?_⟩) hHeld ?_ ?_
  rotate_left
  · intro w' s0
    go_simp
    with_reducible rfl
  rotate_left
  · simp only [Act.put, List.setIfInBounds_toArray, List.set_cons_zero, List.set_cons_succ, i64_w, i32_w]
    rfl
  refine one_ (i := 7) (N := some 124) #[true, true, true, true, true, true, true, true] rfl rfl (by kernel_rfl) (by decide) (fun K hK => ?_)
  obtain ⟨d0, d1, d2, d3, d4, d5, d6, d7, hs3⟩ := HS.out.sc
  refine goes_ Try.func58 (by kernel_rfl) rfl #[.agg #[], .slice (some ⟨s, 0, none⟩) 4 8, .int .u32 k.h.n] (by rfl) rfl rfl (by simp only [List.map_toArray, List.map_cons, List.map_nil]; rfl) ?_
  with_reducible refine (put32_calls s 4 8 k.h.n d0 d1 d2 d3 d4 d5 d6 d7 _ hs3 (by omega) HN.out.n.1 HN.out.n.2).mono ?_
  rintro e w4 ⟨rfl, hp⟩
  refine ⟨_, rfl, ?_⟩
  obtain ⟨h4, t4⟩ := HS.out.put hp
  have n0_ := Lib.hid (h4.below (below_drew (Below.refl _ _))); have T40 := Lib.hid (TT.out.trans t4); have n1_ := Lib.hid (T40.out.trans (h4.tr_below (below_drew (Below.refl _ _)))); have HP4 := Lib.hid (blk_drew hp.blk)
  clear h4 t4 hp hs3 HS TT; have HS := n0_; have TT := n1_; clear n0_ n1_
  refine hK.out _ _ ((HC.out _ T40.out).2.2.2) (fun hHeld => ?_)
  clear hK K
  refine norm_ (a' := ?_) ?_ ?_
  rotate_left
  · show Act.put _ (some 124) _ = _
    simp only [Act.put, List.setIfInBounds_toArray, List.set_cons_zero, List.set_cons_succ, i64_w, i32_w]
    rfl
  refine done_ (by kernel_rfl) ?_
  clear T40
  go_wp2
  refine start_ (n := 12) (S := fun w' => True) (ds := []) #[false, false, false, false, false, false, false, false, false, false, false, false] (by kernel_rfl) rfl rfl trivial (fun hHeld => ?_)
  refine pure_ (i := 0) (N := some 126) (v := ?_) (a' := ?_) #[true, false, false, false, false, false, false, false, false, false, false, false] rfl rfl (by kernel_rfl) (fun _ _ _ h => h) (Or.inl ⟨by rfl, ?_⟩) ?_ ?_
  rotate_left
  · intro w'
    go_simp
    with_reducible rfl
  rotate_left
  · simp only [Act.put, List.setIfInBounds_toArray, List.set_cons_zero, List.set_cons_succ, i64_w, i32_w]
    rfl
  refine pure_ (i := 1) (N := some 127) (v := ?_) (a' := ?_) #[true, true, false, false, false, false, false, false, false, false, false, false] rfl rfl (by kernel_rfl) (fun _ _ _ h => h) (Or.inl ⟨by rfl, ?_⟩) ?_ ?_
  rotate_left
  · intro w'
    go_simp
    with_reducible rfl
  rotate_left
  · simp only [Act.put, List.setIfInBounds_toArray, List.set_cons_zero, List.set_cons_succ, i64_w, i32_w]
    rfl
  refine pure_ (i := 2) (N := some 128) (v := ?_) (a' := ?_) #[true, true, true, false, false, false, false, false, false, false, false, false] rfl rfl (by kernel_rfl) (fun _ _ _ h => h) (Or.inl ⟨by rfl, ?_⟩) ?_ ?_
  rotate_left
  · intro w'
    go_simp
    with_reducible rfl
  rotate_left
  · simp only [Act.put, List.setIfInBounds_toArray, List.set_cons_zero, List.set_cons_succ, i64_w, i32_w]
    rfl
  refine pure_ (i := 3) (N := some 129) (v := ?_) (a' := ?_) #[true, true, true, true, false, false, false, false, false, false, false, false] rfl rfl (by kernel_rfl) (fun _ _ _ h => h) (Or.inl ⟨by rfl, ?_⟩) ?_ ?_
  rotate_left
  · intro w'
    go_simp
    with_reducible rfl
  rotate_left
  · simp only [Act.put, List.setIfInBounds_toArray, List.set_cons_zero, List.set_cons_succ, i64_w, i32_w]
    rfl
  refine pure_ (i := 4) (N := some 130) (v := ?_) (a' := ?_) #[true, true, true, true, true, false, false, false, false, false, false, false] rfl rfl (by kernel_rfl) (fun _ _ _ h => h) (Or.inl ⟨by rfl, ?_⟩) ?_ ?_
  rotate_left
  · intro w'
    refine (exec_nilW w' (b := b) (.tmp 129) (by rfl) (by rfl)).trans ?_
    with_reducible rfl
  rotate_left
  · simp only [Act.put, List.setIfInBounds_toArray, List.set_cons_zero, List.set_cons_succ, i64_w, i32_w]
    rfl
  refine pure_ (i := 5) (N := some 131) (v := ?_) (a' := ?_) #[true, true, true, true, true, true, false, false, false, false, false, false] rfl rfl (by kernel_rfl) (fun _ _ _ h => h) (Or.inl ⟨by rfl, ?_⟩) ?_ ?_
  rotate_left
  · intro w'
    go_simp
    with_reducible rfl
  rotate_left
  · simp only [Act.put, List.setIfInBounds_toArray, List.set_cons_zero, List.set_cons_succ, i64_w, i32_w]
    rfl
  refine one_ (i := 6) (N := some 132) #[true, true, true, true, true, true, true, false, false, false, false, false] rfl rfl (by kernel_rfl) (by decide) (fun K hK => ?_)
  refine call_ (87) #[.pointer (some ⟨b, 0, none⟩), .slice (some ⟨s, 0, none⟩) 4 8] (by rfl) rfl (exec_write (.tmp 131) (.tmp 128) #[30] (by rfl) (by rfl) (by rfl)) ?_
  with_reducible refine (write_sc HS.out HP4.out 4 8 (le 4 k.h.n) (le_len 4 k.h.n) (fun j hj => by have hj2 : j = 0 ∨ j = 1 ∨ j = 2 ∨ j = 3 := (by omega); rcases hj2 with rfl | rfl | rfl | rfl <;> simp [le]) (by omega) (by have := HLM.out; have := Z5.out; omega)).mono ?_
  rintro e w5 ⟨rfl, v5, h5, t5⟩
  refine ⟨_, rfl, ?_⟩
  have n0_ := Lib.hid (st_eq h5 HE6.out.symm); have n1_ := Lib.hid (TT.out.trans t5); clear h5 t5 HS TT HP4; have HS := n0_; have TT := n1_; clear n0_ n1_
  refine hK.out _ _ trivial (fun hHeld => ?_)
  clear hK K
  refine norm_ (a' := ?_) ?_ ?_
  rotate_left
  · show Act.put _ (some 132) _ = _
    simp only [Act.put, List.setIfInBounds_toArray, List.set_cons_zero, List.set_cons_succ, i64_w, i32_w]
    rfl
  refine pure_ (i := 7) (N := some 125) (v := ?_) (a' := ?_) #[true, true, true, true, true, true, true, true, false, false, false, false] rfl rfl (by kernel_rfl) (fun _ _ _ h => h) (Or.inl ⟨by rfl, ?_⟩) ?_ ?_
  rotate_left
  · intro w'
    go_simp
    with_reducible rfl
  rotate_left
  · simp only [Act.put, List.setIfInBounds_toArray, List.set_cons_zero, List.set_cons_succ, i64_w, i32_w]
    rfl
  refine pure_ (i := 8) (N := some 133) (v := ?_) (a' := ?_) #[true, true, true, true, true, true, true, true, true, false, false, false] rfl rfl (by kernel_rfl) (fun _ _ _ h => h) (Or.inl ⟨by rfl, ?_⟩) ?_ ?_
  rotate_left
  · intro w'
    go_simp
    with_reducible rfl
  rotate_left
  · simp only [Act.put, List.setIfInBounds_toArray, List.set_cons_zero, List.set_cons_succ, i64_w, i32_w]
    rfl
  refine pure_ (i := 9) (N := some 134) (v := ?_) (a' := ?_) #[true, true, true, true, true, true, true, true, true, true, false, false] rfl rfl (by kernel_rfl) (fun _ _ _ h => h) (Or.inl ⟨by rfl, ?_⟩) ?_ ?_
  rotate_left
  · intro w'
    go_simp
    with_reducible rfl
  rotate_left
  · simp only [Act.put, List.setIfInBounds_toArray, List.set_cons_zero, List.set_cons_succ, i64_w, i32_w]
    rfl
  refine pure_ (i := 10) (N := some 19) (v := ?_) (a' := ?_) #[true, true, true, true, true, true, true, true, true, true, true, false] rfl rfl (by kernel_rfl) (fun _ _ _ h => h) (Or.inl ⟨by rfl, ?_⟩) ?_ ?_
  rotate_left
  · intro w'
    go_simp
    with_reducible rfl
  rotate_left
  · simp only [Act.put, List.setIfInBounds_toArray, List.set_cons_zero, List.set_cons_succ, i64_w, i32_w]
    rfl
  refine pure_ (i := 11) (N := some 20) (v := ?_) (a' := ?_) #[true, true, true, true, true, true, true, true, true, true, true, true] rfl rfl (by kernel_rfl) (fun _ _ _ h => h) (Or.inl ⟨by rfl, ?_⟩) ?_ ?_
  rotate_left
  · intro w'
    go_simp
    with_reducible rfl
  rotate_left
  · simp only [Act.put, List.setIfInBounds_toArray, List.set_cons_zero, List.set_cons_succ, i64_w, i32_w]
    rfl
  refine done_ (by kernel_rfl) ?_
  go_wp2
  go_ret
  exact ⟨rfl, v5, HS.out, TT.out⟩
end Go.Proofs.Ytdjchplaeipgpaa.Wire
namespace Go.Proofs.Ytdjchplaeipgpaa.Wire
open Go.RowKit Go.Proofs.YtdjchplaeipgpaaW.PrintWords Go.Proofs.YtdjchplaeipgpaaW.PrintLast Go.Proofs.Ytdjchplaeipgpaa.Reg Go.Proofs.Ytdjchplaeipgpaa.Buf Go.Proofs.Ytdjchplaeipgpaa.Tx
set_option linter.unusedSimpArgs false
set_option linter.unusedVariables false

theorem mem_sum {α : Type} (f : α → Nat) : ∀ (xs : List α) (y : α), y ∈ xs → f y ≤ (xs.map f).sum
  | x :: xs, y, h => by
    simp only [List.map_cons, List.sum_cons]
    rcases List.mem_cons.1 h with rfl | h
    · omega
    · have := mem_sum f xs y h; omega
theorem rdX_mem (l : List TX) (i : Int) (h0 : 0 ≤ i) (h1 : i < l.length) : rdX l i ∈ l := by
  rw [rdX, List.getD_eq_getElem?_getD, List.getElem?_eq_getElem (show i.toNat < l.length by omega)]
  exact List.getElem_mem _
set_option maxHeartbeats 16000000 in
set_option maxRecDepth 100000 in
theorem bkEnc_calls {F : Nat → Prop} {B b : Nat} {v : Value} {l : List Int} {w : World} (h : Sw F B b v l w) (p : Int) (wit : Bool) (g : Nat) (k : BK) {A : Option Addr} {c : Nat} (hk : BkF F w g k A c) (hok : OkB k) (hlim : l.length + (bkT k wit).length + (k.txs.map txN).sum + 1024 ≤ 140737488355328) :
    Calls Try.prog 47 #[.pointer (some ⟨g, 0, none⟩), Wr b, .int .u32 p, .int .u32 (if wit then 2 else 1)] w fun e w' => e = .returned .nilIface ∧ ∃ v', Sw F B b v' (l ++ bkB k wit) w' ∧ Tr F B w w' := by
  obtain ⟨e, he⟩ : ∃ e : Int, (if wit then (2 : Int) else 1) = e := ⟨_, rfl⟩
  have H := Lib.hid h
  have HE := Lib.hid (show ∀ (w : World) (s : Nat) (v : Value) (l : List Int) (y : TX) (g : Nat) (A1 : Option Addr) (c1 : Nat) (A2 : Option Addr) (c2 : Nat), St F B b s v l w → TxF F w g y A1 c1 A2 c2 → Nums y → l.length + txN y + 256 ≤ 140737488355328 → Calls Try.prog 51 #[.pointer (some ⟨g, 0, none⟩), Wr b, .int .u32 p, .int .u32 e, .slice (some ⟨s, 0, none⟩) 8 8] w fun e' w' => e' = .returned .nilIface ∧ ∃ v', St F B b s v' (l ++ txB y (wit && hasW y.ins)) w' ∧ Tr F B w w' from fun w s v l y g A1 c1 A2 c2 h hx hg hm => he ▸ enc_calls h p wit g y hx hg hm)
  have HK := Lib.hid hk
  have OK := Lib.hid hok
  have HLM := Lib.hid hlim
  have hc : ∀ W, Tr F B w W → W.cell? ⟨g, 68, none⟩ = some (.slice A k.txs.length c) := fun W hW => (hk.tr hW).cell 68 _ (mbc_68 _ _ hk.lp hk.lr)
  have HC := Lib.hid hc
  have zh : (hdB k.h).length = 80 := by rw [hdB]; simp only [List.length_append, le_len, hk.lp, hk.lr]
  have ZH := Lib.hid zh
  have zq := vi_len k.txs.length
  obtain ⟨D1, hD1⟩ : ∃ D, D = l ++ hdB k.h ++ vi k.txs.length := ⟨_, rfl⟩
  have ZD := Lib.hid (show D1.length ≤ l.length + 89 from by rw [hD1, List.length_append, List.length_append]; omega)
  have HD1 := Lib.hid hD1
  have HDone := Lib.hid (show l ++ bkB k wit = D1 ++ bkT k wit from by rw [bkB, hD1]; simp only [List.append_assoc])
  have hw1 : IntKind.u64.wrap (k.txs.length : Int) = k.txs.length := u64_id (by omega) (by have := hok.n; omega)
  have hw2 : (k.txs.length : Int) % 18446744073709551616 = k.txs.length := by have := hok.n; omega
  rw [HDone.out, he]
  clear h hk hok hlim hc zh zq hD1 he
  go_enter_defers Try.func47, Try.ntmps47
  go_wp2_with (first
    | (go_at_call 49; go_must (refine (borrow_calls _).mono ?_); rintro e1 w1 ⟨s, rfl, hs, ⟨d0, d1, d2, d3, d4, d5, d6, d7, hc⟩, hb⟩; have H1 := Lib.hid (H.out.with hb hs hc); have T1 := Lib.hid (H.out.tr_below hb); clear hs hc hb)
    | (go_at_call 56; go_must (refine (hd_calls H1.out p g k (HK.out.tr T1.out) OK.out.h (by have := HLM.out; omega)).mono ?_); rintro e1 w2 ⟨rfl, v2, h2, t2⟩; have H2 := Lib.hid h2; have T2 := Lib.hid (T1.out.trans t2); clear h2 t2 H1 T1; have z68 := HC.out _ T2.out)
    | (go_at_call 57; go_must (refine (vi_calls H2.out p (k.txs.length : Int) (by omega) (by have := OK.out.n; omega) (by have := HLM.out; have := ZH.out; rw [List.length_append]; omega)).mono ?_); rintro e1 w3 ⟨rfl, v3, h3, t3⟩; have H3 := Lib.hid (st_eq h3 HD1.out.symm); have T3 := Lib.hid (T2.out.trans t3); clear h3 t3 H2 T2 z68; have z68 := HC.out _ T3.out))
  go_loopg [45] (k.txs.length + 1) (fun kq v45 w' => ∃ (i : Nat) (xi : Int) (v9 : Value), v45 = .int .i64 xi ∧ Hid (xi = (i : Int)) ∧ Hid (i + kq = k.txs.length + 1) ∧ Hid (St F B b s v9 (D1 ++ ((k.txs.take i).map (fun x => txB x (wit && hasW x.ins))).flatten) w') ∧ Hid (Tr F B w w'))
  case atStart => exact ⟨0, 0, v3, rfl, Lib.hid rfl, Lib.hid (Nat.zero_add _), Lib.hid (by simpa using H3.out), T3⟩
  case round =>
    clear H3 T3 z68
    obtain ⟨i, xi, v9, rfl, HI, HK2, H9, T9⟩ := hrel
    by_cases ci : i < k.txs.length
    · have p0 : 0 ≤ xi := by rw [HI.out]; omega
      have q0 : xi < (k.txs.length : Int) := by rw [HI.out]; omega
      have hwi : wrap64 (xi + 1) = xi + 1 := by have := OK.out.n; exact wrap64_id (by omega) (by omega)
      obtain ⟨ad, g1, A1, c1, A2, c2, rfl, hp, hT⟩ := mx_at (HK.out.tr T9.out).txs xi p0 q0
      have hm := OK.out.ok _ (rdX_mem k.txs xi p0 q0)
      have hsum := mem_sum txN k.txs _ (rdX_mem k.txs xi p0 q0)
      have htf := take_flat (fun x => txB x (wit && hasW x.ins)) k.txs zTX i ci
      have htl := take_le (fun x => txB x (wit && hasW x.ins)) k.txs i
      rw [show k.txs.getD i zTX = rdX k.txs xi from by rw [rdX, HI.out]; rfl] at htf
      obtain ⟨y, hy⟩ : ∃ y, rdX k.txs xi = y := ⟨_, rfl⟩
      rw [hy] at hT hm htf hsum
      obtain ⟨k1, rfl⟩ : ∃ k1, gk = k1 + 1 := ⟨gk - 1, by have := HK2.out; omega⟩
      have pp := eq_true p0
      have qq := eq_true q0
      have qb : decide (xi < (k.txs.length : Int)) = true := decide_eq_true q0
      have HT := Lib.hid hT
      have HM := Lib.hid hm.2.1
      have HTF := Lib.hid (show ((k.txs.take (i + 1)).map (fun x => txB x (wit && hasW x.ins))).flatten = ((k.txs.take i).map (fun x => txB x (wit && hasW x.ins))).flatten ++ txB y (wit && hasW y.ins) from htf)
      have HTL := Lib.hid (show ((k.txs.take i).map (fun x => txB x (wit && hasW x.ins))).flatten.length ≤ (bkT k wit).length from htl)
      have HSM := Lib.hid hsum
      clear p0 q0 hy hT hm htf htl ci hsum
      go_wp2_with (go_at_call 51; go_must (refine (HE.out _ s v9 _ y g1 A1 c1 A2 c2 H9.out HT.out HM.out (by have := HLM.out; have := ZD.out; have := HTL.out; have := HSM.out; rw [List.length_append]; omega)).mono ?_); rintro e1 w10 ⟨rfl, v10, h10, t10⟩; have H10 := Lib.hid h10; have T10 := Lib.hid (T9.out.trans t10); clear h10 t10)
      go_roundg k1
      case measure => exact Nat.lt_succ_self _
      case rel => exact ⟨i + 1, xi + 1, v10, (by first | rfl | (simp [hwi]; done)), Lib.hid (by rw [HI.out]; omega), Lib.hid (by have := HK2.out; omega), Lib.hid (by rw [HTF.out, ← List.append_assoc]; exact H10.out), T10⟩
    · have qb : decide (xi < (k.txs.length : Int)) = false := decide_eq_false (by rw [HI.out]; omega)
      have H2 := Lib.hid (st_eq H9.out (show _ = D1 ++ bkT k wit from by rw [List.take_of_length_le (by omega)]; rfl))
      clear ci HI HK2 H9
      go_wp2
      refine leaves_cons (f := 50) (args := #[.agg #[], .slice (some ⟨s, 0, none⟩) 8 8]) (by simp) (by simp [go_sem]) ?_
      refine (return_deferred _ _ _).mono ?_
      rintro e u' w'' ⟨rfl, rfl, hb⟩
      exact ⟨_, results_tmp rfl _ _ _, rfl, v9, H2.out.drop.below hb, T9.out.trans (H2.out.drop.tr_below hb)⟩
set_option maxHeartbeats 4000000 in
set_option maxRecDepth 100000 in
theorem bkSer_calls {F : Nat → Prop} {B b : Nat} {v : Value} {l : List Int} {w : World} (h : Sw F B b v l w) (g : Nat) (k : BK) {A : Option Addr} {c : Nat} (hk : BkF F w g k A c) (hok : OkB k) (hlim : l.length + (bkT k true).length + (k.txs.map txN).sum + 1024 ≤ 140737488355328) :
    Calls Try.prog 32 #[.pointer (some ⟨g, 0, none⟩), Wr b] w fun e w' => e = .returned .nilIface ∧ ∃ v', Sw F B b v' (l ++ bkB k true) w' ∧ Tr F B w w' := by
  have HE := Lib.hid (show Calls Try.prog 47 #[.pointer (some ⟨g, 0, none⟩), Wr b, .int .u32 0, .int .u32 2] w _ from bkEnc_calls h 0 true g k hk hok hlim)
  obtain ⟨d, hd⟩ : ∃ d, bkB k true = d := ⟨_, rfl⟩
  rw [hd] at HE
  rw [hd]
  clear h hk hok hlim hd
  go_enter Try.func32, Try.ntmps32
  go_wp2_with (go_at_call 47; go_must (refine HE.out.mono ?_); rintro e w2 ⟨rfl, hr⟩)
  go_ret
  exact ⟨rfl, hr⟩
set_option maxHeartbeats 4000000 in
set_option maxRecDepth 100000 in
theorem bkSerN_calls {F : Nat → Prop} {B b : Nat} {v : Value} {l : List Int} {w : World} (h : Sw F B b v l w) (g : Nat) (k : BK) {A : Option Addr} {c : Nat} (hk : BkF F w g k A c) (hok : OkB k) (hlim : l.length + (bkT k false).length + (k.txs.map txN).sum + 1024 ≤ 140737488355328) :
    Calls Try.prog 33 #[.pointer (some ⟨g, 0, none⟩), Wr b] w fun e w' => e = .returned .nilIface ∧ ∃ v', Sw F B b v' (l ++ bkB k false) w' ∧ Tr F B w w' := by
  have HE := Lib.hid (show Calls Try.prog 47 #[.pointer (some ⟨g, 0, none⟩), Wr b, .int .u32 0, .int .u32 1] w _ from bkEnc_calls h 0 false g k hk hok hlim)
  obtain ⟨d, hd⟩ : ∃ d, bkB k false = d := ⟨_, rfl⟩
  rw [hd] at HE
  rw [hd]
  clear h hk hok hlim hd
  go_enter Try.func33, Try.ntmps33
  go_wp2_with (go_at_call 47; go_must (refine HE.out.mono ?_); rintro e w2 ⟨rfl, hr⟩)
  go_ret
  exact ⟨rfl, hr⟩
set_option maxHeartbeats 8000000 in
set_option maxRecDepth 100000 in
theorem implBk_calls (k : BK) (wit : Bool) (A : Option Addr) (c : Nat) (w : World) (h : BkIn w k A c) (hf : fit9 k.txs = true) (hok : OkB k) :
    Calls Try.prog 13 #[.agg (bkc k A c).toArray, .bool wit] w fun e w' => ∃ A' c', e = .returned (.slice A' (bkB k wit).length c') ∧ (bkB k wit).length ≤ c' ∧ Kd.C (Kd.int .u8) w' A' (bkB k wit).length (bkB k wit) ∧ Below w.heap.size w w' := by
  have hln := bkc_len k A c h.lp h.lr
  have hbo := fun W (hW : Below w.heap.size w W) => bkOf_calls k A c W (h.below hW) hok.h.t hf
  obtain ⟨cs, hcs⟩ : ∃ cs, (bkc k A c).toArray = cs := ⟨_, rfl⟩
  have HZ := Lib.hid (show cs.size = 69 from by rw [← hcs]; simpa using hln)
  rw [hcs] at hbo ⊢
  have HO := Lib.hid hbo
  have OK := Lib.hid hok
  clear hcs h hf hok hbo hln
  have hbk : ∀ (ob : Obj), ((w.alloc ob).alloc (.cells #[.slice none 0 0, .int .i64 0, .int .i8 0] 58)).heap[w.heap.size + 1]? = some (.cells #[.slice none 0 0, .int .i64 0, .int .i8 0] 58 (0, 0)) := by
    intro ob
    rw [show w.heap.size + 1 = (w.alloc ob).heap.size from by simp]; exact heap_alloc_new _ _
  have HBK := Lib.hid hbk
  clear hbk
  have HB0 := Lib.hid (fun (o1 o2 : Obj) => (below_alloc (below_alloc (Below.refl w.heap.size w) o1) o2))
  have hlies : ∀ (ob : Obj), Lies ((w.alloc (.cells cs 38)).alloc ob) ⟨w.heap.size, 0, none⟩ cs.toList := fun ob => box_lies (below_alloc (Below.refl _ _) ob)
  have HLI := Lib.hid hlies
  clear hlies
  obtain ⟨d, hd⟩ : ∃ d, bkB k wit = d := ⟨_, rfl⟩
  rw [hd]
  have HD := Lib.hid hd
  clear hd
  cases wit
  all_goals
    go_enter Try.func13, Try.ntmps13
    go_wp2_with (first
      | (refine wpList_load_list rfl 38 (.tmp 2) rfl ⟨w.heap.size, 0, none⟩ rfl cs.toList _ (HLI.out _) Try.underlying38 rfl ?aI ?_; go_must (case aI => rw [Array.length_toList, HZ.out]; rfl); go_must (simp only [Array.toArray_toList]))
      | (go_at_call 29; go_must (refine (HO.out _ (HB0.out _ _)).mono ?_); rintro e w1 ⟨g, A9, c9, rfl, hS, hB⟩; have HS := Lib.hid hS; have HSw := Lib.hid (Sw.fresh (B := w.heap.size) (x := zTX) (g := g) (v1 := .nilIface) (v2 := .nilIface) (w0 := w) (Nat.le_succ _) (HBK.out _) (HB0.out _ _).size hB); have HB := Lib.hid (below_step (HB0.out _ _) hB); clear hB hS)
      | (go_at_call 32; go_must (refine (bkSer_calls HSw.out g k HS.out OK.out (by have := OK.out.lim true; simp; omega)).mono ?_); rintro e w2 ⟨rfl, v3, h3, t3⟩; have H3 := Lib.hid h3; have HB2 := Lib.hid (HB.out.trans t3.B); clear h3 t3 HSw HS HB)
      | (go_at_call 33; go_must (refine (bkSerN_calls HSw.out g k HS.out OK.out (by have := OK.out.lim false; simp; omega)).mono ?_); rintro e w2 ⟨rfl, v3, h3, t3⟩; have H3 := Lib.hid h3; have HB2 := Lib.hid (HB.out.trans t3.B); clear h3 t3 HSw HS HB)
      | (go_at_call 21; go_must (refine (bytes_calls H3.out.buf).mono ?_); rintro e w4 ⟨A', c', rfl, hl, hC, hB⟩; have HR := Lib.hid (And.intro hl (And.intro hC (below_step HB2.out hB))); clear hl hC hB))
    go_ret
    have hd := HD.out
    refine ⟨A', c', ?_, ?_⟩
    · simp [hd]
    · have := HR.out
      rw [List.nil_append, hd] at this
      exact this
end Go.Proofs.Ytdjchplaeipgpaa.Wire
