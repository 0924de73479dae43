/-
  impl.Tokens: three rows that grow beside each other. Printed by wip/gen/tokens_impl.py.
-/
import Derived.Test.YtmebcbmnfnlihaaSigOps
namespace Go.Proofs.Ytmebcbmnfnlihaa.Tok
open Go.RowKit Go.Proofs.YtmebcbmnfnlihaaW.PrintWords Go.Proofs.YtmebcbmnfnlihaaW.PrintLast
set_option linter.unusedSimpArgs false
set_option linter.unusedVariables false

/-- Three rows of the call's own, apart from each other and from block g; the second one's elements are rows apart from the others, too. -/
structure Rows3 (w : World) (b g : Nat) (v2 v3 v4 : Value) (ops : List Int) (ds : List (List Int)) (ends : List Int) : Prop where
  r1 : Kd.R (Kd.int .i64) 3 w b (fun k => k ≠ g) v2 ops
  r3 : Kd.R (Kd.int .i64) 3 w b (fun k => k ≠ g) v4 ends
  n2 : Kd.N (Kd.slice 5 (Kd.int .u8)) 22 w b (fun k => (k ≠ g ∧ some k ≠ v4.ownBlock) ∧ some k ≠ v2.ownBlock) v3 ds
  d : ∀ k, v2.ownBlock = some k → some k ≠ v4.ownBlock
section
variable {w w1 : World} {b g : Nat} {v2 v3 v4 v' : Value} {ops ends xs : List Int} {ds dd : List (List Int)}
theorem Rows3.only (h : Rows3 w b g v2 v3 v4 ops ds ends) (k : Only g w w1) : Rows3 w1 b g v2 v3 v4 ops ds ends :=
  ⟨Kd.R_keep h.r1 k.2 (fun _ h => h), Kd.R_keep h.r3 k.2 (fun _ h => h), Kd.N_keep h.n2 k.2 (fun _ h => h.1.1), h.d⟩
theorem Rows3.below (h : Rows3 w b g v2 v3 v4 ops ds ends) (k : Below w.heap.size w w1) : Rows3 w1 b g v2 v3 v4 ops ds ends :=
  ⟨Kd.R_below h.r1 k, Kd.R_below h.r3 k, Kd.N_below h.n2 k, h.d⟩
theorem Rows3.nil (w : World) (b g : Nat) : Rows3 w b g (.slice none 0 0) (.slice none 0 0) (.slice none 0 0) [] [] [] :=
  ⟨Kd.R_nil _ _ _ _ _, Kd.R_nil _ _ _ _ _, Kd.N_nil _ _ _ _ _, fun k hk => by simp [Value.ownBlock] at hk⟩
theorem Rows3.app1 (h : Rows3 w b g v2 v3 v4 ops ds ends) (r : Kd.R (Kd.int .i64) 3 w1 b (fun k => k ≠ g) v' xs) (hg : w.grownBy w1 v2.ownBlock) (hat : v'.ownBlock = v2.ownBlock ∨ ∃ b, v'.ownBlock = some b ∧ w.heap.size ≤ b) :
    Rows3 w1 b g v' v3 v4 xs ds ends :=
  ⟨r, Kd.R_grown2 h.r3 rfl hg h.d, Kd.N_after h.n2 hg hat, fun k hk => by
    rcases hat with e | ⟨c, e, hc⟩
    · exact h.d k (e ▸ hk)
    · intro he
      have h1 := Kd.R_lt h.r3 k he.symm
      rw [e] at hk
      injection hk with hk
      omega⟩
theorem Rows3.app3 (h : Rows3 w b g v2 v3 v4 ops ds ends) (r : Kd.R (Kd.int .i64) 3 w1 b (fun k => k ≠ g) v' xs) (hg : w.grownBy w1 v4.ownBlock) (hat : v'.ownBlock = v4.ownBlock ∨ ∃ b, v'.ownBlock = some b ∧ w.heap.size ≤ b) :
    Rows3 w1 b g v2 v3 v' ops ds xs :=
  ⟨Kd.R_grown2 h.r1 rfl hg (fun k hk he => h.d k he.symm hk.symm), r,
    Kd.N_mono (Kd.N_after (Kd.N_mono h.n2 (ok' := fun k => (k ≠ g ∧ some k ≠ v2.ownBlock) ∧ some k ≠ v4.ownBlock) (fun k hk => ⟨⟨hk.1.1, hk.2⟩, hk.1.2⟩)) hg hat) (fun k hk => ⟨⟨hk.1.1, hk.2⟩, hk.1.2⟩), fun k hk => by
    rcases hat with e | ⟨c, e, hc⟩
    · rw [e]; exact h.d k hk
    · intro he
      have h1 := Kd.R_lt h.r1 k hk
      rw [e] at he
      injection he with he
      omega⟩
theorem Rows3.app2 (h : Rows3 w b g v2 v3 v4 ops ds ends) (r : Kd.N (Kd.slice 5 (Kd.int .u8)) 22 w1 b (fun k => (k ≠ g ∧ some k ≠ v4.ownBlock) ∧ some k ≠ v2.ownBlock) v' dd) (hg : w.grownBy w1 v3.ownBlock) :
    Rows3 w1 b g v2 v' v4 ops dd ends :=
  ⟨Kd.R_grown2 h.r1 rfl hg (fun k hk => (h.n2.1 k hk).2), Kd.R_grown2 h.r3 rfl hg (fun k hk => (h.n2.1 k hk).1.2), r, h.d⟩
theorem Rows3.tz1 (h : Rows3 w b g v2 v3 v4 ops ds ends) {A : Option Addr} {n c : Nat} {off pos : Int} {opv dv err : Value} (t : Tz w g A n c off pos opv dv err) (hg : w.grownBy w1 v2.ownBlock) : Tz w1 g A n c off pos opv dv err :=
  blk_grown t hg (fun he => h.r1.1 g he.symm rfl)
theorem Rows3.tz2 (h : Rows3 w b g v2 v3 v4 ops ds ends) {A : Option Addr} {n c : Nat} {off pos : Int} {opv dv err : Value} (t : Tz w g A n c off pos opv dv err) (hg : w.grownBy w1 v3.ownBlock) : Tz w1 g A n c off pos opv dv err :=
  blk_grown t hg (fun he => (h.n2.1 g he.symm).1.1 rfl)
theorem Rows3.tz3 (h : Rows3 w b g v2 v3 v4 ops ds ends) {A : Option Addr} {n c : Nat} {off pos : Int} {opv dv err : Value} (t : Tz w g A n c off pos opv dv err) (hg : w.grownBy w1 v4.ownBlock) : Tz w1 g A n c off pos opv dv err :=
  blk_grown t hg (fun he => h.r3.1 g he.symm rfl)
end

/-- How many bytes tell the length behind an opcode. -/
def widthOf (x : Int) : Nat := if x = 76 then 1 else if x = 77 then 2 else if x = 78 then 4 else 0
def endOf (t : T) : Nat := t.at_ + 1 + widthOf t.op + t.data.length
theorem shape_width {l : List Int} {i w c : Nat} (h : shape l i = some (w, c)) : w = widthOf (l.getD i 0) := by
  unfold shape at h
  unfold widthOf
  split at h
  · rename_i h1
    rw [if_neg (by omega), if_neg (by omega), if_neg (by omega)]
    split at h
    · injection h with h; injection h with h; exact h.symm
    · cases h
  · split at h
    · rename_i h1
      rw [if_pos h1]
      exact (shapeW_fits h).1
    · rename_i h1
      rw [if_neg h1]
      split at h
      · rename_i h2
        rw [if_pos h2]
        exact (shapeW_fits h).1
      · rename_i h2
        rw [if_neg h2]
        split at h
        · rename_i h3
          rw [if_pos h3]
          exact (shapeW_fits h).1
        · rename_i h3
          rw [if_neg h3]
          injection h with h; injection h with h; exact h.symm
theorem step_end {l : List Int} {i w c : Nat} (hi : i < l.length) (h : shape l i = some (w, c)) : endOf ⟨l.getD i 0, (l.drop (i + 1 + w)).take c, i⟩ = i + 1 + w + c := by
  have h1 := shape_width h
  have h2 := shape_fits h
  unfold endOf
  simp only [← h1, List.length_take, List.length_drop]
  omega
theorem info_int : (Try.prog.info? 3).map (fun i => (i.zero, i.size, i.bytes)) = some (some (.int .i64 0), 1, 8) := by kernel_rfl
theorem info_sl : (Try.prog.info? 22).map (fun i => (i.zero, i.size, i.bytes)) = some (some (.slice none 0 0), 1, 24) := by kernel_rfl

theorem V_FK {w : World} {base : Nat} {ok : Nat → Prop} {v : Value} {xs : List Int} (h : Kd.V (Kd.int .u8) 5 w base ok v xs) : Kd.FK (Kd.slice 5 (Kd.int .u8)) w ok xs [v] := by
  obtain ⟨A, c, rfl, hl, hF⟩ := h
  exact fun W' hW => ⟨A, c, rfl, hl, hF W' hW⟩
theorem copied_f (l : List Int) (h : l.length ≤ 2147483647) : PFnTokensCover.impl_copied.f l = some l := by
  unfold PFnTokensCover.impl_copied.f
  rw [Option.bind_some, if_pos (by simp only [List.length_nil]; omega)]
  rfl
theorem Rows3.new {w : World} {b g : Nat} {v2 v3 v4 : Value} {ops ends : List Int} {ds : List (List Int)} (h : Rows3 w b g v2 v3 v4 ops ds ends) (hg : g < w.heap.size) (k : Nat) (hk : w.heap.size ≤ k) :
    ((k ≠ g ∧ some k ≠ v4.ownBlock) ∧ some k ≠ v2.ownBlock) ∧ some k ≠ v3.ownBlock :=
  ⟨⟨⟨by omega, fun he => by have := Kd.R_lt h.r3 k he.symm; omega⟩, fun he => by have := Kd.R_lt h.r1 k he.symm; omega⟩, fun he => by have := Kd.N_lt h.n2 k he.symm; omega⟩
theorem results_tmp4 {fn : Func} {t u v x : Tmp} (h : fn.results = #[.tmp t, .tmp u, .tmp v, .tmp x]) (tmps : Array Value) (P : Program) (w : World) :
    (results fn tmps).run P w = .ok (.tuple #[tmps.getD t undef, tmps.getD u undef, tmps.getD v undef, tmps.getD x undef]) w := by
  simp [results, h]
set_option maxHeartbeats 8000000 in
set_option maxRecDepth 100000 in
theorem tokensI_calls (A : Option Addr) (c : Nat) (l : List Int) (w : World) (hs : Kd.V (Kd.int .u8) 5 w w.heap.size (fun _ => True) (.slice A l.length c) l) (hb : Bytes l) (hn : l.length ≤ 2147483647)
    (ts0 : List T) (bad : Int) (ht : tokens l = (ts0, bad)) (kd : Int) (hkd : (if bad < 0 then 0 else 28) = kd) :
    Calls Try.prog 26 #[.slice A l.length c] w fun e w' => ∃ v2 v3 v4 g, e = .returned (.tuple #[v2, v3, v4, .int .i64 kd]) ∧
      Rows3 w' w.heap.size g v2 v3 v4 (ts0.map T.op) (ts0.map T.data) (ts0.map fun t => (endOf t : Int)) ∧ Below w.heap.size w w' := by
  have HV0 := Lib.hid (Kd.V_bound hs)
  have HBY := Lib.hid hb
  have HLN := Lib.hid hn
  have hcut := tokens_cut l
  rw [ht] at hcut
  have HC0 := Lib.hid hcut
  have HLEN0 := Lib.hid hcut.len
  have HKD := Lib.hid hkd
  clear hs hb hn hcut ht hkd
  go_enter Try.func26, Try.ntmps26
  go_wp2_with (go_at_call 58; refine (make_calls _ _ _ _).mono ?_; rintro e w1 ⟨rfl, hB1⟩; have HB1 := Lib.hid hB1; clear hB1)
  go_loopg [2, 3, 4] (ts0.length + 1) (fun kq v2 v3 v4 w' => ∃ (off : Nat) (done ts : List T) (pos : Int) (opv dv : Value), ts.length < kq ∧ done ++ ts = ts0 ∧ Hid (Cut l off ts bad) ∧ Hid (Tz w' w1.heap.size A l.length c off pos opv dv .nilIface) ∧ Hid (Rows3 w' w.heap.size w1.heap.size v2 v3 v4 (done.map T.op) (done.map T.data) (done.map fun t => (endOf t : Int))) ∧ Hid (Below w.heap.size w w'))
  case atStart => exact ⟨0, [], ts0, -1, _, _, Nat.lt_succ_self _, rfl, HC0, Lib.hid (blk_new _ _), Lib.hid (Rows3.nil _ _ _), Lib.hid (below_alloc HB1.out _)⟩
  case round =>
    obtain ⟨off, done, ts', pos, opv, dv, hk, hdn, HC, HT, R3, HB⟩ := hrel
    have hgw : w.heap.size ≤ w1.heap.size := HB1.out.size
    have HDN := Lib.hid hdn
    clear hdn
    have HV := Lib.hid (show Kd.V (Kd.int .u8) 5 wr wr.heap.size (fun k => True ∧ k < w.heap.size) (.slice A l.length c) l from Kd.V_below HV0.out HB.out)
    have HPG := Lib.hid (show ∀ k, (True ∧ k < w.heap.size) → k ≠ w1.heap.size from fun k hk => by omega)
    cases gk with
    | zero => omega
    | succ k =>
      generalize hbe : bad = bad' at HC
      cases HC.out with
      | done h1 =>
        subst hbe
        have HD := Lib.hid (show (l.length : Int) ≤ (off : Int) from by omega)
        have e0 : done = ts0 := by have := HDN.out; simpa using this
        have e1 : kd = 0 := by rw [← HKD.out]; rfl
        subst e0 e1
        clear h1 HDN
        go_wp2_with (first
          | (go_at_call 59; refine (next_end _ _ _ _ _ _ _ _ _ HT.out HLN.out HD.out).mono ?_; rintro e w2 ⟨rfl, m, rfl⟩)
          | (go_at_call 63; refine (err_calls _ _ _ _ _ _ _ _ _ _ (show Tz _ _ _ _ _ _ _ _ _ _ from blk_drewN HT.out _)).mono ?_; rintro e w3 ⟨rfl, rfl⟩)
          | (go_at_call 49; refine (kindOf_nil _).mono ?_; rintro e w4 ⟨rfl, rfl⟩))
        refine bodyPost_ret (results_tmp4 rfl _ _ _) rfl ?_
        exact ⟨_, _, _, _, rfl, R3.out.below (pw_below_drewN (Below.refl _ _) _), pw_below_drewN HB.out _⟩
      | bad h1 h2 =>
        subst hbe
        have HL := Lib.hid h1
        have HSH := Lib.hid h2
        have e0 : done = ts0 := by have := HDN.out; simpa using this
        have e1 : kd = 28 := by rw [← HKD.out, if_neg (by omega)]
        subst e0 e1
        clear h1 h2 HDN
        go_wp2_with (first
          | (go_at_call 59; refine (next_none _ _ _ l off pos opv dv _ HT.out HLN.out HL.out _ HV.out HPG.out HBY.out HSH.out).mono ?_; rintro e w2 ⟨rfl, hO2, pos2, s2, hT2⟩; have HT2 := Lib.hid hT2; have HO2 := Lib.hid hO2; clear hO2 hT2)
          | (go_at_call 63; refine (err_calls _ _ _ _ _ _ _ _ _ _ HT2.out).mono ?_; rintro e w3 ⟨rfl, rfl⟩)
          | (go_at_call 49; refine (kindOf_err _ _).mono ?_; rintro e w4 ⟨rfl, hB4⟩; have HB4 := Lib.hid hB4; clear hB4))
        refine bodyPost_ret (results_tmp4 rfl _ _ _) rfl ?_
        exact ⟨_, _, _, _, rfl, (R3.out.only HO2.out).below HB4.out, below_step (HB.out.trans (HO2.out.1.mono hgw)) HB4.out⟩
      | @step _ wd cnt ts _ h1 h2 h3 =>
        subst hbe
        have HL := Lib.hid h1
        have HSH := Lib.hid h2
        have HC2 := Lib.hid h3
        have HK2 : ts.length < k := by simp only [List.length_cons] at hk; omega
        have HEND := Lib.hid (step_end h1 h2)
        have HLEN := Lib.hid (show done.length + 1 ≤ 2147483647 from by
          have h4 := congrArg List.length HDN.out
          simp only [List.length_append, List.length_cons] at h4
          have h5 := HLEN0.out; have h6 := HLN.out; omega)
        have HOFF := Lib.hid (show off + 1 + wd + cnt ≤ l.length from by have := shape_fits h2; omega)
        have HXB := Lib.hid (HBY.out.getD off)
        clear h1 h2 h3 hk HC
        obtain ⟨x, hxx⟩ : ∃ x, l.getD off 0 = x := ⟨_, rfl⟩
        obtain ⟨dt, hdt⟩ : ∃ d, (l.drop (off + 1 + wd)).take cnt = d := ⟨_, rfl⟩
        rw [hxx] at HXB
        have HX := Lib.hid hxx
        have HDT := Lib.hid hdt
        obtain ⟨en, hen⟩ : ∃ e, off + 1 + wd + cnt = e := ⟨_, rfl⟩
        have hwx : wrap64 x = x := wrap64_id (by have := HXB.out; omega) (by have := HXB.out; omega)
        have hwe : wrap64 (en : Int) = (en : Int) := wrap64_id (by omega) (by have := HOFF.out; have := HLN.out; omega)
        have HEN := Lib.hid hen
        clear hen
        have HDL := Lib.hid (show dt.length ≤ 2147483647 from by have := HLN.out; rw [← hdt, List.length_take, List.length_drop]; omega)
        clear hxx hdt
        go_wp2_with (first
          | (go_at_call 59; refine (next_some _ _ _ l off pos opv dv _ HT.out HLN.out HL.out _ HV.out HPG.out HBY.out _ _ HSH.out).mono ?_; rintro e w2 ⟨rfl, hO2, pos2, go, dv2, hT2, hgo, hg2, hv2⟩; rw [HX.out] at hg2; rw [HDT.out] at hv2; rw [HEN.out] at hT2; obtain ⟨Ad, cd, rfl⟩ := Kd.V_slice hv2; have HG2 := Lib.hid hg2; have HDV := Lib.hid hv2; have n1_ := Lib.hid (R3.out.only hO2); have n3_ := Lib.hid (HB.out.trans (hO2.1.mono hgw)); clear R3 HT HB; have R3 := n1_; have HT := Lib.hid hT2; have HB := n3_; clear n1_ n3_ hO2 hT2 hgo hg2 hv2)
          | (go_at_call 60; refine (opcode_calls _ _ _ _ _ _ _ _ _ _ _ _ _ HT.out HG2.out).mono ?_; rintro e w3 ⟨rfl, rfl⟩)
          | ((with_reducible refine gate_builtin (b := .append) (xs := #[.tmp 10, .tmp 13]) rfl ?_); at_builtin; refine Kd.R_append (Kd.int .i64) (w0 := w) w.heap.size rfl (.tmp 10) (.tmp 13) 38 3 (.int .i64 0) 8 rfl Try.underlying38 info_int rfl (by decide) (by omega) u2 (done.map T.op) x [.int .i64 x] (fun k => k ≠ w1.heap.size) (fun _ => False) rfl rfl ?aP (fun _ hk => hk.elim) ?aF ?aO ?aB ?aS ?aL ?_; (case aP => exact rfl); (case aB => exact HB.out); (case aF => exact fun k hk => by have := blk_lt HT.out; omega); (case aO => exact R3.out.r1); (case aS => exact HB.out.size); (case aL => rw [List.length_map]; have := HLEN.out; omega); intro v_ w_ ho_ hb_ hg_ hat_; have n1_ := Lib.hid (R3.out.app1 ho_ hg_ hat_); have n2_ := Lib.hid (R3.out.tz1 HT.out hg_); have n3_ := Lib.hid hb_; have n4_ := Lib.hid (Kd.V_grown HDV.out hg_ (fun k hk he => by have := Kd.R_base R3.out.r1 k he.symm; have := hk.2; omega)); clear HDV; have HDV := n4_; clear n4_; clear R3 HT HB; have R3 := n1_; have HT := n2_; have HB := n3_; clear n1_ n2_ n3_ ho_ hb_ hg_ hat_)
          | (go_at_call 61; refine (data_calls _ _ _ _ _ _ _ _ _ _ HT.out).mono ?_; rintro e w4 ⟨rfl, rfl⟩)
          | (go_at_call 46; refine (PFnTokensCover.impl_copied.calls Ad cd dt dt _ (Kd.V_reads' HDV.out).2.2 (Kd.V_reads' HDV.out).2.1 (copied_f dt HDL.out)).mono ?_; rintro e w5 ⟨v0, rfl, hr5, hB5⟩; obtain ⟨A0, c0, rfl⟩ := Kd.R_slice hr5; have HFK := Lib.hid (V_FK (Kd.R_V (base' := 0) (Kd.R_mono (Kd.R_bound hr5) (fun k hk => hk.2.1)))); have HNEW := Lib.hid (fun k hk => R3.out.new (blk_lt HT.out) k hk); have n1_ := Lib.hid (R3.out.below hB5); have n2_ := Lib.hid (blk_below HT.out hB5); have n3_ := Lib.hid (below_step HB.out hB5); clear R3 HT HB; have R3 := n1_; have HT := n2_; have HB := n3_; clear n1_ n2_ n3_ hr5 hB5)
          | ((with_reducible refine gate_builtin (b := .append) (xs := #[.tmp 15, .tmp 18]) rfl ?_); at_builtin; refine Kd.N_append (Kd.slice 5 (Kd.int .u8)) (w0 := w) w.heap.size rfl (.tmp 15) (.tmp 18) 39 22 (.slice none 0 0) 24 rfl Try.underlying39 info_sl rfl (by decide) (by omega) u3 (done.map T.data) dt [.slice A0 dt.length c0] ?oK ?oKP rfl rfl ?aP ?aK ?aF ?aO ?aB ?aS ?aL ?_; (case aP => exact HFK.out); (case aO => exact R3.out.n2); (case aK => exact fun k hk => HNEW.out k hk); (case aF => exact fun k hk => (R3.out.new (blk_lt HT.out) k hk).1); (case aB => exact HB.out); (case aS => exact HB.out.size); (case aL => rw [List.length_map]; have := HLEN.out; omega); intro v_ w_ ho_ hb_ hg_ hat_; have n1_ := Lib.hid (R3.out.app2 ho_ hg_); have n2_ := Lib.hid (R3.out.tz2 HT.out hg_); have n3_ := Lib.hid hb_; clear R3 HT HB; have R3 := n1_; have HT := n2_; have HB := n3_; clear n1_ n2_ n3_ ho_ hb_ hg_ hat_)
          | (go_at_call 62; refine (byteIndex_calls _ _ _ _ _ _ _ _ _ _ HT.out).mono ?_; rintro e w6 ⟨rfl, rfl⟩)
          | ((with_reducible refine gate_builtin (b := .append) (xs := #[.tmp 20, .tmp 23]) rfl ?_); at_builtin; refine Kd.R_append (Kd.int .i64) (w0 := w) w.heap.size rfl (.tmp 20) (.tmp 23) 38 3 (.int .i64 0) 8 rfl Try.underlying38 info_int rfl (by decide) (by omega) u4 (done.map fun t => (endOf t : Int)) (en : Int) [.int .i64 (en : Int)] (fun k => k ≠ w1.heap.size) (fun _ => False) rfl rfl ?aP (fun _ hk => hk.elim) ?aF ?aO ?aB ?aS ?aL ?_; (case aP => exact rfl); (case aB => exact HB.out); (case aF => exact fun k hk => by have := blk_lt HT.out; omega); (case aO => exact R3.out.r3); (case aS => exact HB.out.size); (case aL => rw [List.length_map]; have := HLEN.out; omega); intro v_ w_ ho_ hb_ hg_ hat_; have n1_ := Lib.hid (R3.out.app3 ho_ hg_ hat_); have n2_ := Lib.hid (R3.out.tz3 HT.out hg_); have n3_ := Lib.hid hb_; clear R3 HT HB; have R3 := n1_; have HT := n2_; have HB := n3_; clear n1_ n2_ n3_ ho_ hb_ hg_ hat_))
        go_roundg k
        case measure => omega
        case rel =>
          refine ⟨en, done ++ [⟨x, dt, off⟩], ts, pos2, _, _, HK2, ?_, ?_, HT, ?_, HB⟩
          · have h := HDN.out
            rw [HX.out, HDT.out] at h
            simpa using h
          · have h := HC2.out
            rw [HEN.out] at h
            exact h
          · have h := R3.out
            have e := HEND.out
            rw [HX.out, HDT.out, HEN.out] at e
            rw [List.map_append, List.map_append, List.map_append]
            simp only [List.map_cons, List.map_nil, e]
            exact h
end Go.Proofs.Ytmebcbmnfnlihaa.Tok
