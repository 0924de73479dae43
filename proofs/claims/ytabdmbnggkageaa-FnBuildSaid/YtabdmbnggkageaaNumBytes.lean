/-
  The bytes of a script's number: the walk of scriptNum.Bytes. Printed by wip/gen/num.py.
-/
import Derived.Test.YtabdmbnggkageaaPFnNumberBytesx1
import Derived.Test.YtabdmbnggkageaaNumPure
import Derived.Lib.Hide
import Derived.Outline
namespace Go.Proofs.Ytabdmbnggkageaa.Num
open Go.RowKit Go.Proofs.YtabdmbnggkageaaW.PrintWords Go.Proofs.YtabdmbnggkageaaW.PrintLast Go.Proofs.YtabdmbnggkageaaW.PrintMore
set_option linter.unusedSimpArgs false
set_option linter.unusedVariables false

theorem info_u8 : (Try.prog.info? 5).map (fun i => (i.zero, i.size, i.bytes)) = some (some (.int .u8 0), 1, 1) := by kernel_rfl
theorem made0 (W : World) (base e : Nat) (k : IntKind) (cap : Nat) (cur : Array Value) (ok : Nat → Prop) (hb : base ≤ W.heap.size) (hm : cap ≤ 9223372036854775807) (hs : cur.size = cap * 1) (hok : ok W.heap.size) :
    Kd.R (Kd.int k) e (W.alloc (.cells cur e)) base ok (.slice (some ⟨W.heap.size, 0, none⟩) 0 cap) [] :=
  Kd.R_of_own (xs := ([] : List Int)) (World.ownsRow_made W cur cap hb hm hs) (fun k hk => by
    have e : W.heap.size = k := by simpa [Value.ownBlock] using hk
    exact e ▸ hok)
theorem and128 (x : Int) (h0 : 0 ≤ x) (h1 : x < 256) : bits .and .u8 x 128 = if 128 ≤ x then 128 else 0 := by
  obtain ⟨n, rfl⟩ := Int.eq_ofNat_of_zero_le h0
  have h : ∀ n : Fin 256, bits .and .u8 ((n.val : Nat) : Int) 128 = if 128 ≤ ((n.val : Nat) : Int) then 128 else 0 := by decide +kernel
  exact h ⟨n, by omega⟩
theorem or128 (x : Int) (h0 : 0 ≤ x) (h1 : x < 128) : bits .or .u8 x 128 = x + 128 := by
  obtain ⟨n, rfl⟩ := Int.eq_ofNat_of_zero_le h0
  have h : ∀ n : Fin 128, bits .or .u8 ((n.val : Nat) : Int) 128 = ((n.val : Nat) : Int) + 128 := by decide +kernel
  exact h ⟨n, by omega⟩
theorem and255 (q : Nat) (h : q < 9223372036854775808) : bits .and .i64 (q : Int) 255 = ((q % 256 : Nat) : Int) := by
  have := bits_mask .i64 63 (by decide) (fun n h0 h1 => by rw [IntKind.wrap_i64]; omega) 8 (by decide) (q : Int) (by omega) (by omega)
  have e : ((2 : Int) ^ 8 - 1) = 255 := by decide
  rw [e] at this
  rw [this]
  omega

set_option maxHeartbeats 8000000 in
set_option maxRecDepth 100000 in
theorem bytes_neg (n : Int) (m : Nat) (w : World) (hn : n < 0) (hm : wrap64 (-n) = (m : Int)) (hm0 : m ≠ 0) (hm1 : m < 9223372036854775808) (r : List Int) (hr : signB true (digs m) = r) :
    Calls Try.prog 53 #[.int .i64 n] w fun e w' => ∃ v, e = .returned v ∧ Kd.R (Kd.int .u8) 5 w' w.heap.size (fun _ => True) v r ∧ Below w.heap.size w w' := by
  have HB0 := Lib.hid (Below.refl w.heap.size w)
  have HM1 := Lib.hid hm1
  have HM0 := Lib.hid hm0
  have HR := Lib.hid hr
  have HLEN := Lib.hid (digs_len 8 m (by simp; omega))
  have c2 : (n == 0) = false := beq_eq_false_iff_ne.mpr (by omega)
  have c4 : decide (n < 0) = true := decide_eq_true hn
  have hm' : IntKind.i64.wrap (-n) = (m : Int) := (i64_w _).trans hm
  clear hm1 hr hm0 hn
  have hmk : ∀ W : World, (Instr.makeSlice 22 (.int .i64 0) (.int .i64 9)).run Try.prog W = .ok (.slice (some ⟨W.heap.size, 0, none⟩) 0 9) (W.alloc (.cells #[.int .u8 0, .int .u8 0, .int .u8 0, .int .u8 0, .int .u8 0, .int .u8 0, .int .u8 0, .int .u8 0, .int .u8 0] 5)) := fun W => by kernel_rfl
  go_enter Try.func53, Try.ntmps53
  go_wp2
  go_loopg [0, 4] (m + 1) (fun kq v0 v4 w' => ∃ (q : Nat) (l : List Int), q < kq ∧ v0 = .int .i64 q ∧ Hid (q ≤ m) ∧ Hid (l ++ digs q = digs m) ∧ Hid (Kd.R (Kd.int .u8) 5 w' w.heap.size (fun _ => True) v4 l) ∧ Hid (Below w.heap.size w w'))
  case atStart => exact ⟨m, [], Nat.lt_succ_self _, rfl, Lib.hid (Nat.le_refl _), Lib.hid rfl, Lib.hid (made0 w w.heap.size 5 .u8 9 _ _ (Nat.le_refl _) (by decide) rfl trivial), Lib.hid (below_alloc HB0.out _)⟩
  case round =>
    obtain ⟨q, l, hk, rfl, HQ, HD, HO, HB⟩ := hrel
    clear hm hm'
    cases gk with
    | zero => omega
    | succ k =>
      by_cases hq : q = 0
      · subst hq
        have e : l = digs m := by have := HD.out; rw [digs_zero, List.append_nil] at this; exact this
        obtain ⟨i, x, hs, hx0, hx1, hbi, hvv⟩ := digs_shape HM0.out
        have hl : l = i ++ [x] := e.trans hs
        have hr := HR.out
        rw [hs, signB_snoc] at hr
        have hlen : l.length = i.length + 1 := by rw [hl]; simp
        have LM := Lib.hid (show l.length ≤ 8 by rw [e]; exact HLEN.out)
        obtain ⟨j, hj⟩ : ∃ j : Int, (i.length : Int) = j := ⟨_, rfl⟩
        have hji : wrap64 ((l.length : Int) - 1) = j := by rw [hlen, wrap64_id (by omega) (by have := LM.out; omega)]; omega
        have hjiw : IntKind.i64.wrap ((l.length : Int) - 1) = j := (i64_w _).trans hji
        have hx : rd l j = x := by rw [hl, ← hj]; simp [rd, List.getD_eq_getElem?_getD]
        have p1 : 0 ≤ j := by omega
        have p2 : j < (l.length : Int) := by omega
        have HL := Lib.hid hl
        have HX := Lib.hid hx
        have HJ := Lib.hid hj
        obtain ⟨Ao, co, eo⟩ := Kd.R_slice HO.out
        subst eo
        obtain ⟨ad, e1, hc⟩ := Kd.at_int (Kd.R_reads' HO.out).2.2 j p1 p2
        cases e1
        rw [hx] at hc
        have hand := and128 x (by omega) hx1
        clear e hs hl hlen hx hj HD hk hbi hvv
        by_cases h128 : 128 ≤ x
        · rw [if_pos h128] at hand hr
          have HR2 := Lib.hid hr
          clear hr h128 hx0 hx1
          go_wp2_with ((with_reducible refine gate_builtin (b := .append) (xs := #[.tmp 33, .tmp 35]) rfl ?_); at_builtin; refine Kd.R_append (Kd.int .u8) (w0 := w) w.heap.size rfl (.tmp 33) (.tmp 35) 22 5 (.int .u8 0) 1 rfl Try.underlying22 info_u8 rfl (by decide) (by omega) (.slice (some ad) l.length co) l (128) [.int .u8 (128)] (fun _ => True) (fun _ => False) rfl rfl ?aP (fun _ hk => hk.elim) ?aF ?aO ?aB ?aS ?aL ?_; (case aP => exact rfl); (case aB => exact (by repeat (first | (with_reducible first | exact HB.out | apply below_alloc | apply pw_below_drewN | apply below_drew1) | exact HB.out))); (case aF => exact (fun _ _ => trivial)); (case aO => exact (by (with_reducible repeat (first | apply Kd.R_alloc | apply Kd.R_drewN | apply Kd.R_drew)); exact HO.out)); (case aS => exact (below_size (by repeat (first | (with_reducible first | exact HB.out | apply below_alloc | apply pw_below_drewN | apply below_drew1) | exact HB.out)))); (case aL => have := LM.out; omega); intro v_ w_ ho hb hg hat; have n0_ := Lib.hid hb; have n1_ := Lib.hid ho; clear HB HO; have HB := n0_; have HO := n1_; clear n0_ n1_ ho hb hg hat)
          go_ret
          exact ⟨_, rfl, by have h := HO.out; rw [HL.out] at h; rw [← HR2.out]; exact h, HB.out⟩
        · rw [if_neg h128] at hand hr
          have HR2 := Lib.hid hr
          have hor := or128 x (by omega) (by omega)
          obtain ⟨go, cc, eo, gb, gl, cl, HG⟩ := Kd.R_form HO.out (by omega)
          (first | cases eo | (injection eo with ea_ en_ ec_; (first | subst ea_ | (injection ea_ with ea_; subst ea_)); subst ec_; clear en_))
          simp only [add_plain] at hc
          obtain ⟨hc2, hf2⟩ := Kd.R_celln 0 HO.out j p1 p2
          have HP := Lib.hid (Kd.R_putg HO.out j (x + 128))
          have GB := Lib.hid gb
          clear hr h128 hx0 hx1 gb gl HG hc2
          obtain ⟨y, hy⟩ : ∃ y, x + 128 = y := ⟨_, rfl⟩
          rw [hy] at hor HP
          have HY := Lib.hid hy
          clear hy
          go_wp2
          go_ret
          refine ⟨_, rfl, ?_, below_set HB.out GB.out⟩
          have h := HP.out.1
          have e : l.set j.toNat y = r := by rw [HL.out, ← HR2.out, ← HY.out, ← HJ.out, Int.toNat_natCast]; simp
          rw [e] at h
          exact h
      · have hb := and255 q (by have := HQ.out; have := HM1.out; omega)
        have hd := HD.out
        rw [digs_pos hq] at hd
        have HD2 := Lib.hid hd
        have hlm : l.length + 1 ≤ 8 := by
          have h1 := congrArg List.length hd
          have h2 := HLEN.out
          simp only [List.length_append, List.length_cons] at h1
          omega
        have LM := Lib.hid hlm
        obtain ⟨y, hy⟩ : ∃ y : Nat, q % 256 = y := ⟨_, rfl⟩
        obtain ⟨q2, hq2⟩ : ∃ y : Nat, q / 256 = y := ⟨_, rfl⟩
        rw [hy] at hb
        have hd1 : (q : Int) / 256 = (q2 : Int) := by omega
        have hy2 : IntKind.u8.wrap (y : Int) = (y : Int) := by rw [IntKind.wrap_u8]; omega
        have hpq : decide (0 < (q : Int)) = true := decide_eq_true (by omega)
        have hpq2 : decide (0 < q) = true := decide_eq_true (by omega)
        have HY := Lib.hid hy
        have HQ2 := Lib.hid hq2
        have HK := Lib.hid (show q2 < k ∧ q2 ≤ m from by have := HQ.out; omega)
        clear hd hq hy hq2 HD hk hlm
        go_wp2_with ((with_reducible refine gate_builtin (b := .append) (xs := #[.tmp 16, .tmp 20]) rfl ?_); at_builtin; refine Kd.R_append (Kd.int .u8) (w0 := w) w.heap.size rfl (.tmp 16) (.tmp 20) 22 5 (.int .u8 0) 1 rfl Try.underlying22 info_u8 rfl (by decide) (by omega) u4 l ((y : Int)) [.int .u8 ((y : Int))] (fun _ => True) (fun _ => False) rfl rfl ?aP (fun _ hk => hk.elim) ?aF ?aO ?aB ?aS ?aL ?_; (case aP => exact rfl); (case aB => exact (by repeat (first | (with_reducible first | exact HB.out | apply below_alloc | apply pw_below_drewN | apply below_drew1) | exact HB.out))); (case aF => exact (fun _ _ => trivial)); (case aO => exact (by (with_reducible repeat (first | apply Kd.R_alloc | apply Kd.R_drewN | apply Kd.R_drew)); exact HO.out)); (case aS => exact (below_size (by repeat (first | (with_reducible first | exact HB.out | apply below_alloc | apply pw_below_drewN | apply below_drew1) | exact HB.out)))); (case aL => have := LM.out; omega); intro v_ w_ ho hb hg hat; have n0_ := Lib.hid hb; have n1_ := Lib.hid ho; clear HB HO; have HB := n0_; have HO := n1_; clear n0_ n1_ ho hb hg hat)
        go_roundg k
        case measure => omega
        case rel => exact ⟨q2, l ++ [(y : Int)], HK.out.1, by first | rfl | (simp; done) | (simp; omega), Lib.hid HK.out.2, Lib.hid (by have h := HD2.out; rw [HY.out, HQ2.out] at h; simpa using h), HO, HB⟩
set_option maxHeartbeats 8000000 in
set_option maxRecDepth 100000 in
theorem bytes_pos (n : Int) (m : Nat) (w : World) (hn : 0 < n) (hm : n = (m : Int)) (hm0 : m ≠ 0) (hm1 : m < 9223372036854775808) (r : List Int) (hr : signB false (digs m) = r) :
    Calls Try.prog 53 #[.int .i64 n] w fun e w' => ∃ v, e = .returned v ∧ Kd.R (Kd.int .u8) 5 w' w.heap.size (fun _ => True) v r ∧ Below w.heap.size w w' := by
  have HB0 := Lib.hid (Below.refl w.heap.size w)
  have HM1 := Lib.hid hm1
  have HM0 := Lib.hid hm0
  have HR := Lib.hid hr
  have HLEN := Lib.hid (digs_len 8 m (by simp; omega))
  have c2 : (n == 0) = false := beq_eq_false_iff_ne.mpr (by omega)
  have c4 : decide (n < 0) = false := decide_eq_false (by omega)
  subst hm
  clear hm1 hr hm0 hn
  have hmk : ∀ W : World, (Instr.makeSlice 22 (.int .i64 0) (.int .i64 9)).run Try.prog W = .ok (.slice (some ⟨W.heap.size, 0, none⟩) 0 9) (W.alloc (.cells #[.int .u8 0, .int .u8 0, .int .u8 0, .int .u8 0, .int .u8 0, .int .u8 0, .int .u8 0, .int .u8 0, .int .u8 0] 5)) := fun W => by kernel_rfl
  go_enter Try.func53, Try.ntmps53
  go_wp2
  go_loopg [0, 4] (m + 1) (fun kq v0 v4 w' => ∃ (q : Nat) (l : List Int), q < kq ∧ v0 = .int .i64 q ∧ Hid (q ≤ m) ∧ Hid (l ++ digs q = digs m) ∧ Hid (Kd.R (Kd.int .u8) 5 w' w.heap.size (fun _ => True) v4 l) ∧ Hid (Below w.heap.size w w'))
  case atStart => exact ⟨m, [], Nat.lt_succ_self _, rfl, Lib.hid (Nat.le_refl _), Lib.hid rfl, Lib.hid (made0 w w.heap.size 5 .u8 9 _ _ (Nat.le_refl _) (by decide) rfl trivial), Lib.hid (below_alloc HB0.out _)⟩
  case round =>
    obtain ⟨q, l, hk, rfl, HQ, HD, HO, HB⟩ := hrel
    skip
    cases gk with
    | zero => omega
    | succ k =>
      by_cases hq : q = 0
      · subst hq
        have e : l = digs m := by have := HD.out; rw [digs_zero, List.append_nil] at this; exact this
        obtain ⟨i, x, hs, hx0, hx1, hbi, hvv⟩ := digs_shape HM0.out
        have hl : l = i ++ [x] := e.trans hs
        have hr := HR.out
        rw [hs, signB_snoc] at hr
        have hlen : l.length = i.length + 1 := by rw [hl]; simp
        have LM := Lib.hid (show l.length ≤ 8 by rw [e]; exact HLEN.out)
        obtain ⟨j, hj⟩ : ∃ j : Int, (i.length : Int) = j := ⟨_, rfl⟩
        have hji : wrap64 ((l.length : Int) - 1) = j := by rw [hlen, wrap64_id (by omega) (by have := LM.out; omega)]; omega
        have hjiw : IntKind.i64.wrap ((l.length : Int) - 1) = j := (i64_w _).trans hji
        have hx : rd l j = x := by rw [hl, ← hj]; simp [rd, List.getD_eq_getElem?_getD]
        have p1 : 0 ≤ j := by omega
        have p2 : j < (l.length : Int) := by omega
        have HL := Lib.hid hl
        have HX := Lib.hid hx
        have HJ := Lib.hid hj
        obtain ⟨Ao, co, eo⟩ := Kd.R_slice HO.out
        subst eo
        obtain ⟨ad, e1, hc⟩ := Kd.at_int (Kd.R_reads' HO.out).2.2 j p1 p2
        cases e1
        rw [hx] at hc
        have hand := and128 x (by omega) hx1
        clear e hs hl hlen hx hj HD hk hbi hvv
        by_cases h128 : 128 ≤ x
        · rw [if_pos h128] at hand hr
          have HR2 := Lib.hid hr
          clear hr h128 hx0 hx1
          go_wp2_with ((with_reducible refine gate_builtin (b := .append) (xs := #[.tmp 33, .tmp 35]) rfl ?_); at_builtin; refine Kd.R_append (Kd.int .u8) (w0 := w) w.heap.size rfl (.tmp 33) (.tmp 35) 22 5 (.int .u8 0) 1 rfl Try.underlying22 info_u8 rfl (by decide) (by omega) (.slice (some ad) l.length co) l (0) [.int .u8 (0)] (fun _ => True) (fun _ => False) rfl rfl ?aP (fun _ hk => hk.elim) ?aF ?aO ?aB ?aS ?aL ?_; (case aP => exact rfl); (case aB => exact (by repeat (first | (with_reducible first | exact HB.out | apply below_alloc | apply pw_below_drewN | apply below_drew1) | exact HB.out))); (case aF => exact (fun _ _ => trivial)); (case aO => exact (by (with_reducible repeat (first | apply Kd.R_alloc | apply Kd.R_drewN | apply Kd.R_drew)); exact HO.out)); (case aS => exact (below_size (by repeat (first | (with_reducible first | exact HB.out | apply below_alloc | apply pw_below_drewN | apply below_drew1) | exact HB.out)))); (case aL => have := LM.out; omega); intro v_ w_ ho hb hg hat; have n0_ := Lib.hid hb; have n1_ := Lib.hid ho; clear HB HO; have HB := n0_; have HO := n1_; clear n0_ n1_ ho hb hg hat)
          go_ret
          exact ⟨_, rfl, by have h := HO.out; rw [HL.out] at h; rw [← HR2.out]; exact h, HB.out⟩
        · rw [if_neg h128] at hand hr
          have HR2 := Lib.hid hr
          clear hr h128 hx0 hx1
          go_wp2
          go_ret
          exact ⟨_, rfl, by have h := HO.out; rw [← HR2.out]; simp only [Bool.false_eq_true, if_false]; rw [HL.out] at h; rw [HL.out]; exact h, HB.out⟩
      · have hb := and255 q (by have := HQ.out; have := HM1.out; omega)
        have hd := HD.out
        rw [digs_pos hq] at hd
        have HD2 := Lib.hid hd
        have hlm : l.length + 1 ≤ 8 := by
          have h1 := congrArg List.length hd
          have h2 := HLEN.out
          simp only [List.length_append, List.length_cons] at h1
          omega
        have LM := Lib.hid hlm
        obtain ⟨y, hy⟩ : ∃ y : Nat, q % 256 = y := ⟨_, rfl⟩
        obtain ⟨q2, hq2⟩ : ∃ y : Nat, q / 256 = y := ⟨_, rfl⟩
        rw [hy] at hb
        have hd1 : (q : Int) / 256 = (q2 : Int) := by omega
        have hy2 : IntKind.u8.wrap (y : Int) = (y : Int) := by rw [IntKind.wrap_u8]; omega
        have hpq : decide (0 < (q : Int)) = true := decide_eq_true (by omega)
        have hpq2 : decide (0 < q) = true := decide_eq_true (by omega)
        have HY := Lib.hid hy
        have HQ2 := Lib.hid hq2
        have HK := Lib.hid (show q2 < k ∧ q2 ≤ m from by have := HQ.out; omega)
        clear hd hq hy hq2 HD hk hlm
        go_wp2_with ((with_reducible refine gate_builtin (b := .append) (xs := #[.tmp 16, .tmp 20]) rfl ?_); at_builtin; refine Kd.R_append (Kd.int .u8) (w0 := w) w.heap.size rfl (.tmp 16) (.tmp 20) 22 5 (.int .u8 0) 1 rfl Try.underlying22 info_u8 rfl (by decide) (by omega) u4 l ((y : Int)) [.int .u8 ((y : Int))] (fun _ => True) (fun _ => False) rfl rfl ?aP (fun _ hk => hk.elim) ?aF ?aO ?aB ?aS ?aL ?_; (case aP => exact rfl); (case aB => exact (by repeat (first | (with_reducible first | exact HB.out | apply below_alloc | apply pw_below_drewN | apply below_drew1) | exact HB.out))); (case aF => exact (fun _ _ => trivial)); (case aO => exact (by (with_reducible repeat (first | apply Kd.R_alloc | apply Kd.R_drewN | apply Kd.R_drew)); exact HO.out)); (case aS => exact (below_size (by repeat (first | (with_reducible first | exact HB.out | apply below_alloc | apply pw_below_drewN | apply below_drew1) | exact HB.out)))); (case aL => have := LM.out; omega); intro v_ w_ ho hb hg hat; have n0_ := Lib.hid hb; have n1_ := Lib.hid ho; clear HB HO; have HB := n0_; have HO := n1_; clear n0_ n1_ ho hb hg hat)
        go_roundg k
        case measure => omega
        case rel => exact ⟨q2, l ++ [(y : Int)], HK.out.1, by first | rfl | (simp; done) | (simp; omega), Lib.hid HK.out.2, Lib.hid (by have h := HD2.out; rw [HY.out, HQ2.out] at h; simpa using h), HO, HB⟩
end Go.Proofs.Ytabdmbnggkageaa.Num
