/-
  DisasmString: the words of a script's tokens, a blank between each two of them.
-/
import Derived.Test.YtafpmdmmeohmfaaDrDis
namespace Go.Proofs.Ytafpmdmmeohmfaa.Dr
open Go.RowKit Go.Proofs.YtafpmdmmeohmfaaW.PrintWords Go.Proofs.YtafpmdmmeohmfaaW.PrintLast Go.Proofs.YtafpmdmmeohmfaaW.PrintMore Go.Proofs.Ytafpmdmmeohmfaa.PFnDisasmRead Go.Proofs.Ytafpmdmmeohmfaa.Tok
open Go.Lib (Hx.encode Hx.digit Hx.encode_length Hx.encode_cons)
set_option linter.unusedSimpArgs false
set_option linter.unusedVariables false

/-- A token in a disassembly. -/
def txtOf (t : T) : List UInt8 := if t.op = 0 ∨ 78 < t.op then wordI t.op.toNat else Hx.encode (Lib.bytesOf t.data)
theorem joined_snoc (t : List UInt8) : ∀ ws : List (List UInt8), ws ≠ [] → joined (ws ++ [t]) = joined ws ++ [32] ++ t
  | [], h => absurd rfl h
  | [u], _ => by simp [joined]
  | u :: v :: ws, _ => by
    have := joined_snoc t (v :: ws) (by simp)
    rw [List.cons_append, List.cons_append, joined, ← List.cons_append, this]
    simp [joined]
/-- An opcode's name, and what replaces it. -/
noncomputable def nameOk (j : Nat) : Bool := match btcdtxscript_opcodeOnelineRepls.f (opRow (j : Int)).name with
  | some (rp, is) => decide (1 ≤ j ∧ j ≤ 78) || decide ((if is then rp else (opRow (j : Int)).name).data.toList = wordI j)
  | none => false
theorem names_ok : (List.range 256).all nameOk = true := by kernel_rfl
theorem name_repl {j : Nat} (h : j < 256) : ∃ rp is, btcdtxscript_opcodeOnelineRepls.f (opRow (j : Int)).name = some (rp, is) ∧ (Single j → (if is then rp else (opRow (j : Int)).name).data.toList = wordI j) := by
  have h1 := List.all_eq_true.1 names_ok j (List.mem_range.2 h)
  unfold nameOk at h1
  cases e : btcdtxscript_opcodeOnelineRepls.f (opRow (j : Int)).name with
  | none => rw [e] at h1; cases h1
  | some p =>
    obtain ⟨rp, is⟩ := p
    rw [e] at h1
    simp only [Bool.or_eq_true, decide_eq_true_eq] at h1
    refine ⟨rp, is, rfl, fun hs => h1.resolve_left (fun h2 => ?_)⟩
    have := hs.2
    omega
theorem word_len {op : Nat} (h : Single op) : (wordI op).length ≤ 22 := by
  have h1 : (List.range 256).all (fun j => decide ((wordI j).length ≤ 22)) = true := by decide +kernel
  exact of_decide_eq_true (List.all_eq_true.1 h1 op (List.mem_range.2 h.1))
theorem single_of {x : Int} (hx : 0 ≤ x ∧ x < 256) (h : x = 0 ∨ 78 < x) : Single x.toNat := ⟨by omega, by omega⟩
theorem txt_len (t : T) (ht : 0 ≤ t.op ∧ t.op < 256) : (txtOf t).length ≤ 22 + 2 * t.data.length := by
  unfold txtOf
  split
  · rename_i h
    have := word_len (single_of ht h)
    omega
  · rw [Hx.encode_length, Lib.bytesOf_length]
    omega
/-- A token is written. -/
theorem dis_tok (B b go : Nat) (l : List UInt8) (t : T) (P0 : Nat → Prop) (dv : Value) (w : World) (hbd : Bd B b l w) (hB : B ≤ w.heap.size)
    (hgo : w.heap[go]? = some (.cells #[.int .u8 t.op, .string (opRow t.op).name, .int .i64 (opLength t.op)] 88 (0, 0)))
    {bs : Nat} (hd : Kd.V (Kd.int .u8) 5 w bs P0 dv t.data) (hby : Bytes t.data) (hop : 0 ≤ t.op ∧ t.op < 256) (h0 : 1 ≤ t.op → t.op ≤ 78 → 0 < t.data.length) (hd2 : t.data.length ≤ 10000) (hlen : l.length ≤ 900000) :
    Calls Try.prog 36 #[.pointer (some ⟨b, 0, none⟩), .pointer (some ⟨go, 0, none⟩), dv, .bool true] w fun e w' =>
      (∃ u, e = .returned u) ∧ Bd B b (l ++ txtOf t) w' ∧ Below B w w' ∧ Oth b w w' := by
  obtain ⟨j, hj⟩ := Int.eq_ofNat_of_zero_le hop.1
  obtain ⟨rp, is, hr, hs⟩ := name_repl (j := j) (by omega)
  rw [← hj] at hr hs
  by_cases h : t.op = 0 ∨ 78 < t.op
  · have h1 : Single j := ⟨by omega, by omega⟩
    have hl : opLength t.op = 1 := by
      unfold opLength
      rw [if_neg (by omega), if_neg (by omega), if_neg (by omega), if_neg (by omega)]
    rw [hl] at hgo
    have hw := hs h1
    have hwl := word_len h1
    rw [← hw, ← size_list] at hwl
    have e : txtOf t = (if is then rp else (opRow t.op).name).data.toList := by
      unfold txtOf
      rw [if_pos h, hw, hj, Int.toNat_natCast]
    rw [e]
    exact dis_single B b go l t.op _ rp is dv w hbd hB hgo hr (by omega)
  · have hl : ¬ opLength t.op = 1 := by
      unfold opLength
      split
      · omega
      · split
        · omega
        · split
          · omega
          · rw [if_pos (by omega)]
            omega
    have e : txtOf t = Hx.encode (Lib.bytesOf t.data) := by
      unfold txtOf
      rw [if_neg h]
    rw [e]
    exact dis_push B b go l t.op _ _ rp is P0 dv t.data w hbd hB hgo hl hr hd hby (h0 (by omega) (by omega)) hd2 hlen
theorem Bd.only {B b g n c : Nat} {l : List UInt8} {w w' : World} {A : Option Addr} {off pos : Int} {opv dv err : Value} (h : Bd B b l w) (hT : Tz w g A n c off pos opv dv err) (hO : Only g w w') : Bd B b l w' :=
  h.keep hT fun k o hk hne => (hO.2.2 k (Array.getElem?_eq_some_iff.1 hk).1 hne (by simp)).trans hk
theorem Tz.oth {b g n c : Nat} {w w' : World} {A : Option Addr} {off pos : Int} {opv dv err : Value} (hT : Tz w g A n c off pos opv dv err) (h : Oth b w w') (hne : g ≠ b) : Tz w' g A n c off pos opv dv err :=
  h g _ hT (by simpa using hne) (fun c fz e => by injection e with _ e; cases e)
theorem op_oth {b go : Nat} {w w' : World} {cs : Array Value} (hT : w.heap[go]? = some (.cells cs 88 (0, 0))) (h : Oth b w w') (hne : go ≠ b) : w'.heap[go]? = some (.cells cs 88 (0, 0)) :=
  h go _ hT (by simpa using hne) (fun c fz e => by injection e with _ e; cases e)
theorem tz_drew {g n c : Nat} {w : World} {A : Option Addr} {off pos : Int} {opv dv err : Value} (h : Tz w g A n c off pos opv dv err) : Tz w.drew g A n c off pos opv dv err := blk_drew h
theorem tz_drewN {g n c : Nat} {w : World} {A : Option Addr} {off pos : Int} {opv dv err : Value} (h : Tz w g A n c off pos opv dv err) (m : Nat) : Tz (w.drewN m) g A n c off pos opv dv err := blk_drewN h m
theorem wb_blank (B b : Nat) (l : List UInt8) (w : World) (h : Bd B b l w) (hlen : l.length ≤ 1000000) (hBw : B ≤ w.heap.size) :
    Calls Try.prog 38 #[.pointer (some ⟨b, 0, none⟩), .int .u8 32] w fun e w' => e = .returned .nilIface ∧ Bd B b (l ++ [32]) w' ∧ Below B w w' ∧ Oth b w w' := wb_calls B b l 32 w h hlen hBw
theorem Bd.fresh (w : World) : Bd w.heap.size w.heap.size [] (w.alloc (.cells #[.pointer none, .slice none 0 0] 60)) := Lib.IsBuilderF.of (Lib.fresh_isBuilder _ _ w)
set_option maxHeartbeats 8000000 in
set_option maxRecDepth 100000 in
theorem str_some (A : Option Addr) (c : Nat) (l : List Int) (w : World) (hs : Kd.V (Kd.int .u8) 5 w w.heap.size (fun _ => True) (.slice A l.length c) l) (hb : Bytes l) (hn : l.length ≤ 4000) (hpos : 0 < l.length)
    (ts0 : List T) (ht : tokens l = (ts0, -1)) (hgood : ∀ t ∈ ts0, 1 ≤ t.op → t.op ≤ 78 → 0 < t.data.length) :
    Calls Try.prog 17 #[.slice A l.length c] w fun e w' =>
      e = .returned (.tuple #[.string ⟨(joined (ts0.map txtOf)).toArray⟩, .nilIface]) ∧ Below w.heap.size w w' := by
  have HV0 := Kd.V_bound hs
  have HVF := Lib.hid (fun (W : World) (hW : Below w.heap.size w W) => (show Kd.V (Kd.int .u8) 5 W W.heap.size (fun k => True ∧ k < w.heap.size) (.slice A l.length c) l from Kd.V_step HV0 (fun k hk _ => hW.block k hk.2)))
  have HBY := Lib.hid hb
  have HLN := Lib.hid hn
  have HLN2 := Lib.hid (show l.length ≤ 2147483647 by omega)
  have hcut := tokens_cut l
  rw [ht] at hcut
  have HC0 := Lib.hid hcut
  have HGD := Lib.hid hgood
  have HPOS := Lib.hid hpos
  have HBF := Lib.hid (Bd.fresh w)
  clear HV0 hs hb hn hcut ht hgood hpos
  generalize hbe : (-1 : Int) = bad at HC0
  cases HC0.out with
  | done h1 => exact absurd HPOS.out (Nat.not_lt.2 h1)
  | bad h1 h2 => exact absurd hbe (by decide)
  | @step _ wd0 cnt0 ts _ h1 h2 h3 =>
  subst hbe
  obtain ⟨ts0, hts0⟩ : ∃ z : List T, (⟨l.getD 0 0, (l.drop (0 + 1 + wd0)).take cnt0, 0⟩ :: ts) = z := ⟨_, rfl⟩
  rw [hts0] at HGD ⊢
  have HDN := Lib.hid hts0
  have HCL := Lib.hid (show ([] : List UInt8).length ≤ 24 * 0 from Nat.le_refl _)
  have H1 := Lib.hid h1
  have H2 := Lib.hid h2
  have H3 := Lib.hid h3
  clear hts0 HPOS h1 h2 h3 HC0
  go_enter Try.func17, Try.ntmps17
  go_wp2_with (go_at_call 34; go_must ((with_reducible refine (make_calls A l.length c _).mono ?_); rintro e w1 ⟨rfl, hB1⟩; have HB1 := Aside0.mk hB1; clear hB1))
  obtain ⟨W0, hW0⟩ : ∃ W0, w1.alloc (.cells #[.slice A l.length c, .int .u16 0, .int .i32 0, .int .i32 (-1), .pointer none, .slice none 0 0, .nilIface] 64) = W0 := ⟨_, rfl⟩
  rw [hW0]
  have HT := Aside0.mk (show Tz W0 w1.heap.size A l.length c ((0 : Nat) : Int) (-1) (.pointer none) (.slice none 0 0) .nilIface from hW0 ▸ blk_new _ _)
  have hBa := below_alloc (Below.refl w.heap.size w) (.cells #[.pointer none, .slice none 0 0] 60)
  have HB := Aside0.mk (show Below w.heap.size w W0 from hW0 ▸ below_alloc (below_step hBa HB1.out) _)
  have HBD := Aside0.mk (show Bd w.heap.size w.heap.size [] W0 from hW0 ▸ (HBF.out.below HB1.out).below (below_alloc (Below.refl _ _) _))
  have hgs : w.heap.size < w1.heap.size := by have := HB1.out.size; simp at this; omega
  have hg0 : w1.heap.size < W0.heap.size := blk_lt HT.out
  obtain ⟨g, hg⟩ : ∃ g, w1.heap.size = g := ⟨_, rfl⟩
  rw [hg] at HT hgs hg0 ⊢
  have HGS := Lib.hid hgs
  have HPG := Lib.hid (show ∀ k, (True ∧ k < w.heap.size) → k ≠ g from fun k hk => by omega)
  clear HB1 HBF hBa hW0 hg hgs hg0
  have h1 := H1.out
  have h2 := H2.out
  have h3 := H3.out
  clear H1 H2 H3
  have HL := Lib.hid h1
  have HSH := Lib.hid h2
  have HC2 := Lib.hid h3
  have HOFF := Lib.hid (show 0 + 1 + wd0 + cnt0 ≤ l.length from by have := shape_fits h2; omega)
  obtain ⟨t, htk⟩ : ∃ t : T, (⟨l.getD 0 0, (l.drop (0 + 1 + wd0)).take cnt0, 0⟩ : T) = t := ⟨_, rfl⟩
  have HOPE := Lib.hid (show l.getD 0 0 = t.op from by rw [← htk])
  have HDTE := Lib.hid (show (l.drop (0 + 1 + wd0)).take cnt0 = t.data from by rw [← htk])
  have HG1 := Lib.hid (HGD.out t (by have := HDN.out; rw [← htk, ← this]; simp))
  have HDN2 := Lib.hid (show [t] ++ ts = ts0 from by have := HDN.out; rw [← this, htk]; rfl)
  have HBT := Lib.hid (show Bytes t.data from HDTE.out ▸ (HBY.out.drop _).take _)
  have HDL := Lib.hid (show t.data.length ≤ cnt0 from by rw [← HDTE.out, List.length_take]; omega)
  have HOP := Lib.hid (show 0 ≤ t.op ∧ t.op < 256 from HOPE.out ▸ HBY.out.getD _)
  obtain ⟨en, hen⟩ : ∃ e, 0 + 1 + wd0 + cnt0 = e := ⟨_, rfl⟩
  have HEN := Lib.hid hen
  clear hen htk h1 h2 h3
  go_wp2_with (first
    | (go_at_call 35; go_must ((with_reducible refine (next_some g A c l 0 (-1) _ _ _ HT.out HLN2.out HL.out _ (HVF.out _ HB.out) HPG.out HBY.out wd0 cnt0 HSH.out).mono ?_); rintro e w2 ⟨rfl, hO2, pos2, go, dv2, hT2, hgo, hg2, hv2⟩; rw [HOPE.out] at hg2; rw [HDTE.out] at hv2; rw [HEN.out] at hT2; have HT2 := Aside0.mk hT2; have HG2 := Aside0.mk hg2; have HV2 := Aside0.mk hv2; have HBD2 := Aside0.mk (HBD.out.only HT.out hO2); have HB2 := Aside0.mk (HB.out.trans (hO2.1.mono (Nat.le_of_lt HGS.out))); have HNE := Aside0.mk (show go ≠ w.heap.size from by have := HGS.out; have := blk_lt HT.out; omega); clear hO2 hT2 hgo hg2 hv2)))
  have HT3 := HT2
  have HG3 := HG2
  have HBD3 := HBD2
  have HB3 := HB2
  obtain ⟨w3, hw3⟩ : ∃ w3, w2 = w3 := ⟨_, rfl⟩
  rw [hw3] at HT3 HG3 HBD3 HB3 HV2 ⊢
  have HV3 := Aside0.mk (show Kd.V (Kd.int .u8) 5 w3 w3.heap.size (fun k => True ∧ k < w.heap.size) dv2 t.data from HV2.out)
  clear HT2 HG2 HBD2 HB2 HV2 hw3
  refine start_ (n := 4) (S := fun w' => w'.cell? ⟨g, 4, none⟩ = some (.pointer (some ⟨go, 0, none⟩))) (ds := []) #[false, false, false, false] (by kernel_rfl) rfl rfl (HT3.out.c4) (fun hHeld => ?_)
  refine pure_ (i := 0) (N := some 9) (v := ?_) (a' := ?_) #[true, false, false, false] rfl rfl (by kernel_rfl) (fun _ _ _ h => h) (Or.inl ⟨by rfl, ?_⟩) ?_ ?_
  rotate_left
  · intro w'
    go_simp
    with_reducible rfl
  rotate_left
  · simp only [Act.put, List.setIfInBounds_toArray, List.set_cons_zero, List.set_cons_succ, i64_w, i32_w]
    rfl
  refine take_ (i := 1) (N := some 10) (v := ?_) (a' := ?_) #[true, true, false, false] rfl rfl (by kernel_rfl) (fun _ _ _ h => h) (Or.inl ⟨by rfl, ?_⟩) hHeld ?_ ?_
  rotate_left
  · intro w' s0
    go_simp
    with_reducible rfl
  rotate_left
  · simp only [Act.put, List.setIfInBounds_toArray, List.set_cons_zero, List.set_cons_succ, i64_w, i32_w]
    rfl
  refine one_ (i := 2) (N := some 11) #[true, true, true, false] rfl rfl (by kernel_rfl) (by decide) (fun K hK => ?_)
  refine goes_ Try.func37 (by kernel_rfl) rfl #[.pointer (some ⟨g, 0, none⟩)] (by rfl) rfl rfl (by simp only [List.map_toArray, List.map_cons, List.map_nil]; rfl) ?_
  with_reducible refine (data_calls g A l.length c (en : Int) pos2 (.pointer (some ⟨go, 0, none⟩)) dv2 .nilIface w3.drew (show Tz w3.drew g A l.length c (en : Int) pos2 (.pointer (some ⟨go, 0, none⟩)) dv2 .nilIface from tz_drew HT3.out)).mono ?_
  rintro e w9 ⟨rfl, rfl⟩
  refine ⟨_, rfl, ?_⟩
  refine hK.out _ _ (HT3.out.c4) (fun hHeld => ?_)
  clear hK K
  refine norm_ (a' := ?_) ?_ ?_
  rotate_left
  · show Act.put _ (some 11) _ = _
    simp only [Act.put, List.setIfInBounds_toArray, List.set_cons_zero, List.set_cons_succ, i64_w, i32_w]
    rfl
  refine one_ (i := 3) (N := some 12) #[true, true, true, true] rfl rfl (by kernel_rfl) (by decide) (fun K hK => ?_)
  refine goes_ Try.func36 (by kernel_rfl) rfl #[.pointer (some ⟨w.heap.size, 0, none⟩), .pointer (some ⟨go, 0, none⟩), dv2, .bool true] (by rfl) rfl rfl (by simp only [List.map_toArray, List.map_cons, List.map_nil]; rfl) ?_
  with_reducible refine (dis_tok w.heap.size w.heap.size go [] t (fun k => True ∧ k < w.heap.size) dv2 w3.drew (show Bd w.heap.size w.heap.size [] w3.drew from HBD3.out.below (below_drew (Below.refl _ _))) (below_drew HB3.out).size (blk_drew HG3.out) (Kd.V_drew HV3.out) HBT.out HOP.out HG1.out (by have := HDL.out; have := HOFF.out; have := HLN.out; omega) (by have := HCL.out; have := HOFF.out; have := HLN.out; simp only [List.length_append, List.length_cons, List.length_nil] at this ⊢; omega)).mono ?_
  rintro e w4 ⟨⟨u4, rfl⟩, h1, h2, h3⟩
  refine ⟨_, rfl, ?_⟩
  have HT4 := Aside0.mk (Tz.oth (show Tz w3.drew g A l.length c (en : Int) pos2 (.pointer (some ⟨go, 0, none⟩)) dv2 .nilIface from tz_drew HT3.out) h3 (by have := HGS.out; omega)); have HBD4 := Aside0.mk h1; have HB4 := Aside0.mk ((below_drew HB3.out).trans h2); clear h1 h2 h3
  refine hK.out _ _ (HT4.out.c4) (fun hHeld => ?_)
  clear hK K
  refine norm_ (a' := ?_) ?_ ?_
  rotate_left
  · show Act.put _ (some 12) _ = _
    simp only [Act.put, List.setIfInBounds_toArray, List.set_cons_zero, List.set_cons_succ, i64_w, i32_w]
    rfl
  refine done_ (by kernel_rfl) ?_
  have HTL := Lib.hid (show (txtOf t).length ≤ 24 * en from by have h := txt_len t HOP.out; have := HDL.out; have := HEN.out; omega)
  go_wp2
  go_loopg [] (ts.length + 1) (fun kq w' => ∃ (off : Nat) (done ts : List T) (pos : Int) (opv dv : Value), Aside0 (ts.length < kq) ∧ Aside0 (done ++ ts = ts0 ∧ done ≠ []) ∧ Aside0 (Cut l off ts (-1)) ∧ Aside0 (Tz w' g A l.length c (off : Int) pos opv dv .nilIface) ∧ Aside0 (Bd w.heap.size w.heap.size (joined (done.map txtOf)) w' ∧ (joined (done.map txtOf)).length ≤ 24 * off) ∧ Aside0 (Below w.heap.size w w'))
  case atStart => exact ⟨en, [t], ts, _, _, _, ⟨Nat.lt_succ_self _⟩, ⟨HDN2.out, by simp⟩, ⟨HEN.out ▸ HC2.out⟩, HT4, ⟨HBD4.out, HTL.out⟩, HB4⟩
  case round =>
    clear HT4 HBD4 HB4 HTL HC2 HDN HDN2 HCL HEN HOP HDL HBT HG1 HDTE HOPE HOFF HSH HL
    obtain ⟨off, done, ts', pos, opv, dv, HK, HDN0, HC, HT, HBC, HB⟩ := hrel
    obtain ⟨k1, rfl⟩ : ∃ k1, gk = k1 + 1 := ⟨gk - 1, by have := HK.out; omega⟩
    have HDN := Lib.hid HDN0.out.1
    have HDE := Lib.hid HDN0.out.2
    have HBD := Aside0.mk HBC.out.1
    have HCL := Lib.hid HBC.out.2
    clear HDN0 HBC
    generalize hbe : (-1 : Int) = bad at HC
    cases HC.out with
    | done h1 =>
      have e0 : done = ts0 := by have := HDN.out; simpa using this
      have HD := Lib.hid (show (l.length : Int) ≤ (off : Int) from by omega)
      subst e0
      clear h1
      go_wp2_with (first
        | (go_at_call 35; go_must ((with_reducible refine (next_end _ _ _ _ _ _ _ _ _ HT.out HLN2.out HD.out).mono ?_); rintro e w2 ⟨rfl, m, rfl⟩))
        | (go_at_call 39; go_must (first | ((with_reducible refine (err_calls _ _ _ _ _ _ _ _ _ _ HT4.out).mono ?_); rintro e w5 ⟨rfl, rfl⟩) | ((with_reducible refine (err_calls _ _ _ _ _ _ _ _ _ _ (show Tz _ _ _ _ _ _ _ _ _ _ from tz_drewN HT.out _)).mono ?_); rintro e w3 ⟨rfl, rfl⟩)))
        | (go_at_call 42; go_must ((with_reducible refine (bs_calls w.heap.size w.heap.size (joined (done.map txtOf)) _ (HBD.out.below (pw_below_drewN (Below.refl _ _) _)) (pw_below_drewN HB.out _).size).mono ?_); rintro e w4 ⟨rfl, h1, h2⟩; have HB4 := Aside0.mk ((pw_below_drewN HB.out _).trans h1); have HT4 := Aside0.mk (Tz.oth (show Tz _ g A l.length c (off : Int) pos opv dv .nilIface from tz_drewN HT.out _) h2 (by have := HGS.out; omega)); clear h1 h2)))
      go_ret2
      exact ⟨rfl, HB4.out⟩
    | bad h1 h2 => omega
    | @step _ wd cnt ts2 _ h1 h2 h3 =>
      subst hbe
      have HL := Lib.hid h1
      have HSH := Lib.hid h2
      have HC2 := Lib.hid h3
      have HOFF := Lib.hid (show off + 1 + wd + cnt ≤ l.length from by have := shape_fits h2; omega)
      obtain ⟨t, htk⟩ : ∃ t : T, (⟨l.getD off 0, (l.drop (off + 1 + wd)).take cnt, off⟩ : T) = t := ⟨_, rfl⟩
      have HOPE := Lib.hid (show l.getD off 0 = t.op from by rw [← htk])
      have HDTE := Lib.hid (show (l.drop (off + 1 + wd)).take cnt = t.data from by rw [← htk])
      have HG1 := Lib.hid (HGD.out t (by have := HDN.out; rw [← htk, ← this]; simp))
      have HDN2 := Lib.hid (show done ++ [t] ++ ts2 = ts0 from by have := HDN.out; rw [← this, htk]; simp)
      have HBT := Lib.hid (show Bytes t.data from HDTE.out ▸ (HBY.out.drop _).take _)
      have HDL := Lib.hid (show t.data.length ≤ cnt from by rw [← HDTE.out, List.length_take]; omega)
      have HOP := Lib.hid (show 0 ≤ t.op ∧ t.op < 256 from HOPE.out ▸ HBY.out.getD _)
      obtain ⟨en, hen⟩ : ∃ e, off + 1 + wd + cnt = e := ⟨_, rfl⟩
      have HEN := Lib.hid hen
      clear hen htk h1 h2 h3
      go_wp2_with (first
        | (go_at_call 35; go_must ((with_reducible refine (next_some g A c l off pos _ _ _ HT.out HLN2.out HL.out _ (HVF.out _ HB.out) HPG.out HBY.out wd cnt HSH.out).mono ?_); rintro e w2 ⟨rfl, hO2, pos2, go, dv2, hT2, hgo, hg2, hv2⟩; rw [HOPE.out] at hg2; rw [HDTE.out] at hv2; rw [HEN.out] at hT2; have HT2 := Aside0.mk hT2; have HG2 := Aside0.mk hg2; have HV2 := Aside0.mk hv2; have HBD2 := Aside0.mk (HBD.out.only HT.out hO2); have HB2 := Aside0.mk (HB.out.trans (hO2.1.mono (Nat.le_of_lt HGS.out))); have HNE := Aside0.mk (show go ≠ w.heap.size from by have := HGS.out; have := blk_lt HT.out; omega); clear hO2 hT2 hgo hg2 hv2))
        | (go_at_call 38; go_must ((with_reducible refine (wb_blank w.heap.size w.heap.size _ w2 HBD2.out (by have := HCL.out; have := HOFF.out; have := HLN.out; omega) HB2.out.size).mono ?_); rintro e w3 ⟨rfl, h1, h2, h3⟩; have HT3 := Aside0.mk (Tz.oth HT2.out h3 (by have := HGS.out; omega)); have HG3 := Aside0.mk (op_oth HG2.out h3 HNE.out); have HBD3 := Aside0.mk h1; have HB3 := Aside0.mk (HB2.out.trans h2); have HV3 := Aside0.mk (show Kd.V (Kd.int .u8) 5 w3 w3.heap.size (fun k => True ∧ k < w.heap.size) dv2 t.data from Kd.V_step HV2.out (fun k hk _ => h2.block k hk.2)); clear h1 h2 h3 HBD2)))
      refine start_ (n := 4) (S := fun w' => w'.cell? ⟨g, 4, none⟩ = some (.pointer (some ⟨go, 0, none⟩))) (ds := []) #[false, false, false, false] (by kernel_rfl) rfl rfl (HT3.out.c4) (fun hHeld => ?_)
      refine pure_ (i := 0) (N := some 15) (v := ?_) (a' := ?_) #[true, false, false, false] rfl rfl (by kernel_rfl) (fun _ _ _ h => h) (Or.inl ⟨by rfl, ?_⟩) ?_ ?_
      rotate_left
      · intro w'
        go_simp
        with_reducible rfl
      rotate_left
      · simp only [Act.put, List.setIfInBounds_toArray, List.set_cons_zero, List.set_cons_succ, i64_w, i32_w]
        rfl
      refine take_ (i := 1) (N := some 16) (v := ?_) (a' := ?_) #[true, true, false, false] rfl rfl (by kernel_rfl) (fun _ _ _ h => h) (Or.inl ⟨by rfl, ?_⟩) hHeld ?_ ?_
      rotate_left
      · intro w' s0
        go_simp
        with_reducible rfl
      rotate_left
      · simp only [Act.put, List.setIfInBounds_toArray, List.set_cons_zero, List.set_cons_succ, i64_w, i32_w]
        rfl
      refine one_ (i := 2) (N := some 17) #[true, true, true, false] rfl rfl (by kernel_rfl) (by decide) (fun K hK => ?_)
      refine goes_ Try.func37 (by kernel_rfl) rfl #[.pointer (some ⟨g, 0, none⟩)] (by rfl) rfl rfl (by simp only [List.map_toArray, List.map_cons, List.map_nil]; rfl) ?_
      with_reducible refine (data_calls g A l.length c (en : Int) pos2 (.pointer (some ⟨go, 0, none⟩)) dv2 .nilIface w3.drew (show Tz w3.drew g A l.length c (en : Int) pos2 (.pointer (some ⟨go, 0, none⟩)) dv2 .nilIface from tz_drew HT3.out)).mono ?_
      rintro e w9 ⟨rfl, rfl⟩
      refine ⟨_, rfl, ?_⟩
      refine hK.out _ _ (HT3.out.c4) (fun hHeld => ?_)
      clear hK K
      refine norm_ (a' := ?_) ?_ ?_
      rotate_left
      · show Act.put _ (some 17) _ = _
        simp only [Act.put, List.setIfInBounds_toArray, List.set_cons_zero, List.set_cons_succ, i64_w, i32_w]
        rfl
      refine one_ (i := 3) (N := some 18) #[true, true, true, true] rfl rfl (by kernel_rfl) (by decide) (fun K hK => ?_)
      refine goes_ Try.func36 (by kernel_rfl) rfl #[.pointer (some ⟨w.heap.size, 0, none⟩), .pointer (some ⟨go, 0, none⟩), dv2, .bool true] (by rfl) rfl rfl (by simp only [List.map_toArray, List.map_cons, List.map_nil]; rfl) ?_
      with_reducible refine (dis_tok w.heap.size w.heap.size go (joined (done.map txtOf) ++ [32]) t (fun k => True ∧ k < w.heap.size) dv2 w3.drew (show Bd w.heap.size w.heap.size (joined (done.map txtOf) ++ [32]) w3.drew from HBD3.out.below (below_drew (Below.refl _ _))) (below_drew HB3.out).size (blk_drew HG3.out) (Kd.V_drew HV3.out) HBT.out HOP.out HG1.out (by have := HDL.out; have := HOFF.out; have := HLN.out; omega) (by have := HCL.out; have := HOFF.out; have := HLN.out; simp only [List.length_append, List.length_cons, List.length_nil] at this ⊢; omega)).mono ?_
      rintro e w4 ⟨⟨u4, rfl⟩, h1, h2, h3⟩
      refine ⟨_, rfl, ?_⟩
      have HT4 := Aside0.mk (Tz.oth (show Tz w3.drew g A l.length c (en : Int) pos2 (.pointer (some ⟨go, 0, none⟩)) dv2 .nilIface from tz_drew HT3.out) h3 (by have := HGS.out; omega)); have HBD4 := Aside0.mk h1; have HB4 := Aside0.mk ((below_drew HB3.out).trans h2); clear h1 h2 h3
      refine hK.out _ _ (HT4.out.c4) (fun hHeld => ?_)
      clear hK K
      refine norm_ (a' := ?_) ?_ ?_
      rotate_left
      · show Act.put _ (some 18) _ = _
        simp only [Act.put, List.setIfInBounds_toArray, List.set_cons_zero, List.set_cons_succ, i64_w, i32_w]
        rfl
      refine done_ (by kernel_rfl) ?_
      have HJ := Lib.hid (show joined (done.map txtOf) ++ [32] ++ txtOf t = joined ((done ++ [t]).map txtOf) from by rw [List.map_append]; exact (joined_snoc _ _ (by simpa using HDE.out)).symm)
      have HTL := Lib.hid (show (joined ((done ++ [t]).map txtOf)).length ≤ 24 * en from by have h := txt_len t HOP.out; have := HDL.out; have := HEN.out; have := HCL.out; rw [← HJ.out]; simp only [List.length_append, List.length_cons, List.length_nil]; omega)
      go_wp2
      go_roundg k1
      case measure => omega
      case rel => exact ⟨en, done ++ [t], ts2, _, _, _, ⟨by have := HK.out; simp only [List.length_cons] at this; omega⟩, ⟨HDN2.out, by simp⟩, ⟨HEN.out ▸ HC2.out⟩, HT4, ⟨HJ.out ▸ HBD4.out, HTL.out⟩, HB4⟩
end Go.Proofs.Ytafpmdmmeohmfaa.Dr
