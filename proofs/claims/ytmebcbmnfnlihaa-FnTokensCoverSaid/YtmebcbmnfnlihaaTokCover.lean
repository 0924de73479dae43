/-
  The tokens of a script lie one behind the other. Printed by wip/gen/cover.py.
-/
import Derived.Test.YtmebcbmnfnlihaaTokImpl
import Derived.Test.YtmebcbmnfnlihaaRow
namespace Go.Proofs.Ytmebcbmnfnlihaa.TokCover
open Go.RowKit Go.Proofs.YtmebcbmnfnlihaaW.PrintWords Go.Proofs.YtmebcbmnfnlihaaW.PrintLast Go.Proofs.Ytmebcbmnfnlihaa.Tok
set_option linter.unusedSimpArgs false
set_option linter.unusedVariables false

theorem same_l0 (l : List Int) (hl : l.length ≤ 2147483647) : ∀ (m i : Nat), l.length = i + m → PFnTokensCover.laws_same.l0 (m + 1) l l i = some true
  | 0, i, h => by rw [PFnTokensCover.laws_same.l0, if_neg (by omega)]
  | m + 1, i, h => by
    have e : wrap64 ((i : Int) + 1) = ((i + 1 : Nat) : Int) := by rw [wrap64_id (by omega) (by omega)]; omega
    rw [PFnTokensCover.laws_same.l0, if_pos (by omega), if_pos (by omega), if_pos (by omega), if_pos rfl, e]
    exact same_l0 l hl m (i + 1) (by omega)
theorem same_self (l : List Int) (hl : l.length ≤ 2147483647) : PFnTokensCover.laws_same.f (l.length + 1) l l = some true := by
  unfold PFnTokensCover.laws_same.f
  rw [if_pos rfl]
  exact same_l0 l hl l.length 0 (by omega)
theorem at_slice {w : World} {A : Option Addr} {n : Nat} {xs : List (List Int)} (h : Kd.C (Kd.slice 5 (Kd.int .u8)) w A n xs) (i : Nat) (h1 : i < n) :
    ∃ ad A0 c0, A = some ad ∧ w.cell? (ad.add i) = some (.slice A0 (xs.getD i []).length c0) ∧ (xs.getD i []).length ≤ c0 ∧ Kd.C (Kd.int .u8) w A0 (xs.getD i []).length (xs.getD i []) := by
  obtain ⟨ad, c, e, _, hK, hc0⟩ := Kd.C_get h ([] : List Int) (i : Int) (by omega) (by omega)
  have hc : ∀ j u, c[j]? = some u → w.cell? (ad.add (((i : Int)).toNat * 1 + j)) = some u := hc0
  obtain ⟨A0, c0, rfl, l0, g0⟩ := hK
  rw [Int.toNat_natCast] at hc l0 g0
  exact ⟨ad, A0, c0, e, by have hq := hc 0 _ rfl; rwa [Nat.mul_one, Nat.add_zero] at hq, l0, g0⟩

theorem arith (off wd cnt en es dl L : Nat) (h1 : off + 1 + wd + cnt = en) (h2 : off + 1 + wd = es) (h3 : dl = cnt) (h4 : en ≤ L) (hL : L ≤ 100000) :
    ∃ sm : Nat, wrap64 ((off : Int) + (dl : Int)) = (sm : Int) ∧ wrap64 ((en : Int) - (dl : Int)) = (es : Int) ∧ decide (en ≤ sm) = false ∧ decide (L < en) = false := by
  refine ⟨off + dl, (wrap64_id (by omega) (by omega)).trans (by omega), ?_, decide_eq_false (by omega), decide_eq_false (by omega)⟩
  have e : (en : Int) - (dl : Int) = (es : Int) := by omega
  rw [e]
  exact wrap64_id (by omega) (by omega)
theorem arith2 (x : Int) (h0 : 0 ≤ x) (h1 : x < 256) : wrap64 x = x := wrap64_id (by omega) (by omega)
set_option maxHeartbeats 8000000 in
set_option maxRecDepth 100000 in
theorem law_walk (A : Option Addr) (c : Nat) (l : List Int) (w : World) (hs : Kd.V (Kd.int .u8) 5 w w.heap.size (fun _ => True) (.slice A l.length c) l) (hb : Bytes l) :
    Calls Try.prog 6 #[.slice A l.length c] w fun e w' => e = .returned (.bool true) ∧ Below w.heap.size w w' := by
  by_cases hl : l.length ≤ 100000
  · have hl1 : decide ((2147483647 : Int) < (l.length : Int)) = false := decide_eq_false (by omega)
    have hl2 : decide ((100000 : Int) < (l.length : Int)) = false := decide_eq_false (by omega)
    have hcut := tokens_cut l
    obtain ⟨ts0, bad, ht⟩ : ∃ ts b, tokens l = (ts, b) := ⟨_, _, rfl⟩
    rw [ht] at hcut
    have hlen := hcut.len
    have hkd : ∃ kd : Int, (if bad < 0 then 0 else 28) = kd := ⟨_, rfl⟩
    obtain ⟨kd, hkd⟩ := hkd
    have HI := Lib.hid (tokensI_calls A c l w hs hb (by omega) ts0 bad ht kd hkd)
    have HS := Lib.hid (show ∀ w', Below w.heap.size w w' → Kd.V (Kd.int .u8) 5 w' w.heap.size (fun k => True ∧ k < w.heap.size) (.slice A l.length c) l from fun w' hw => Kd.V_below (Kd.V_bound hs) hw)
    have HC0 := Lib.hid hcut
    have HLEN := Lib.hid hlen
    have HLN := Lib.hid hl
    have HKD := Lib.hid hkd
    have HBY := Lib.hid hb
    clear hs hb hl hcut ht hlen hkd
    go_enter Try.func6, Try.ntmps6
    go_wp2_with (go_at_call 26; refine HI.out.mono ?_; rintro e w1 ⟨v2, v3, v4, g, rfl, hR3, hB1⟩; obtain ⟨A2, c2, rfl⟩ := Kd.R_slice hR3.r1; obtain ⟨A3, c3, rfl⟩ := Kd.N_slice hR3.n2; obtain ⟨A4, c4, rfl⟩ := Kd.R_slice hR3.r3; have HR1 := Lib.hid (Kd.R_reads' hR3.r1).2.2; have HR2 := Lib.hid (Kd.N_reads' hR3.n2).2.2; have HR4 := Lib.hid (Kd.R_reads' hR3.r3).2.2; have HV1 := Lib.hid (HS.out _ hB1); have HB1 := Lib.hid hB1; clear hR3 hB1)
    go_loopg [7, 8] (ts0.length + 1) (fun kq v7 v8 w' => ∃ (off : Nat) (done ts : List T), ts.length < kq ∧ v7 = .int .i64 off ∧ v8 = .int .i64 (done.length : Nat) ∧ Hid (done ++ ts = ts0) ∧ Hid (Cut l off ts bad) ∧ Hid (off ≤ l.length) ∧ Drawn0 w1 w')
    case atStart => exact ⟨0, [], ts0, Nat.lt_succ_self _, rfl, rfl, Lib.hid rfl, HC0, Lib.hid (Nat.zero_le _), Drawn0.refl _⟩
    case round =>
      obtain ⟨off, done, ts', hk, rfl, rfl, HDN, HC, HOF, ⟨m, rfl⟩⟩ := hrel
      cases gk with
      | zero => omega
      | succ k =>
        generalize hbe : bad = bad' at HC
        cases HC.out with
        | done h1 =>
          subst hbe
          have e0 : done = ts0 := by have := HDN.out; simpa using this
          have e1 : kd = 0 := by rw [← HKD.out]; rfl
          have e2 : off = l.length := by have := HOF.out; omega
          subst e0 e1 e2
          clear h1 HDN hk
          go_wp2
          go_ret
          exact ⟨by first | rfl | (simp; done), pw_below_drewN HB1.out _⟩
        | bad h1 h2 =>
          subst hbe
          have e0 : done = ts0 := by have := HDN.out; simpa using this
          have e1 : kd = 28 := by rw [← HKD.out, if_neg (by omega)]
          subst e0 e1
          clear h1 h2 HDN hk
          go_wp2
          go_ret
          exact ⟨by first | rfl | (simp; done), pw_below_drewN HB1.out _⟩
        | @step _ wd cnt ts _ h1 h2 h3 =>
          subst hbe
          have hf := shape_fits h2
          have hend := Tok.step_end h1 h2
          have HK2 : ts.length < k := by simp only [List.length_cons] at hk; omega
          have HC2 := Lib.hid h3
          have hxb := HBY.out.getD off
          obtain ⟨x, hxx⟩ : ∃ x, l.getD off 0 = x := ⟨_, rfl⟩
          obtain ⟨dt, hdt⟩ : ∃ d, (l.drop (off + 1 + wd)).take cnt = d := ⟨_, rfl⟩
          obtain ⟨en, hen⟩ : ∃ e, off + 1 + wd + cnt = e := ⟨_, rfl⟩
          have hdn := HDN.out
          rw [hxx, hdt] at hdn
          rw [hxx, hdt, hen] at hend
          rw [hxx] at hxb
          have hdl : dt.length = cnt := by rw [← hdt, List.length_take, List.length_drop]; omega
          have hi : done.length < ts0.length := by rw [← hdn]; simp
          have g2 : (ts0.map T.op).getD done.length 0 = x := by rw [← hdn]; simp [List.getD_eq_getElem?_getD]
          have g3 : (ts0.map T.data).getD done.length [] = dt := by rw [← hdn]; simp [List.getD_eq_getElem?_getD]
          have g4 : (ts0.map fun t => (endOf t : Int)).getD done.length 0 = (en : Int) := by rw [← hdn]; simp [List.getD_eq_getElem?_getD, hend]
          obtain ⟨ad2, e, x2⟩ := Kd.at_int HR1.out (done.length : Int) (by omega) (by rw [List.length_map]; omega)
          cases e
          obtain ⟨ad4, e, x4⟩ := Kd.at_int HR4.out (done.length : Int) (by omega) (by rw [List.length_map]; omega)
          cases e
          obtain ⟨ad3, Ad, cd, e, x3, hcd, hCd⟩ := at_slice HR2.out done.length (by rw [List.length_map]; omega)
          cases e
          obtain ⟨ad0, e, x0⟩ := Kd.at_int (Kd.V_reads' HV1.out).2.2 (off : Int) (by omega) (by omega)
          cases e
          simp only [rd, Int.toNat_natCast] at x2 x4 x0
          rw [g2] at x2
          rw [g4] at x4
          rw [hxx] at x0
          rw [g3] at x3 hcd hCd
          obtain ⟨es, hes⟩ : ∃ e, off + 1 + wd = e := ⟨_, rfl⟩
          obtain ⟨A5, m5, c5, hm5, cut5, hV5⟩ := mid_fact .i64 .i64 HV1.out es en (by omega) (by omega)
          have eD : (l.take en).drop es = dt := by rw [← hdt, ← hen, ← hes, List.drop_take]; congr 1; omega
          rw [eD] at hV5
          obtain rfl := (Kd.V_at hV5).1
          have HV5 := Lib.hid hV5
          have HCD := Lib.hid hCd
          have HCL := Lib.hid hcd
          have b1 : (off : Int) < (l.length : Int) := by omega
          have b1n : off < l.length := by omega
          have b2 : ((done.length : Nat) : Int) < (ts0.length : Int) := by omega
          have HSM := Lib.hid (same_self dt (by have := HLN.out; omega))
          have HENL := Lib.hid (show en ≤ l.length from by omega)
          have HWI := Lib.hid (wrap64_id (x := (done.length : Int) + 1) (by omega) (by have := HLEN.out; have := HLN.out; omega))
          obtain ⟨sm, hwa, hws, q1, q2⟩ := arith off wd cnt en es dt.length l.length hen hes hdl (by omega) HLN.out
          have hwx : wrap64 x = x := arith2 x hxb.1 hxb.2
          have hwa2 := (i64_w _).trans hwa
          have hws2 := (i64_w _).trans hws
          have hwx2 := (i64_w _).trans hwx
          have HEN := Lib.hid hen
          have HDN2 := Lib.hid hdn
          clear h1 h2 h3 hf hend hxb hdn hdl g2 g3 g4 hxx hdt hen hes hm5 eD hV5 hCd hcd hk HDN HC
          go_upto_region 13 with fail
          go_quiet (first | (go_at_call 19; (with_reducible refine (PFnTokensCover.laws_same.calls (dt.length + 1) _ _ dt _ _ dt true _ ?s1 ?s2 ?s3 ?s4 HSM.out).mono ?_); (case s1 => repeat (first | exact (Kd.V_reads' HV5.out).2.2 | (with_reducible refine Kd.C_drewN ?_ _) | (with_reducible refine Kd.C_drew ?_))); (case s2 => exact (Kd.V_reads' HV5.out).2.1); (case s3 => repeat (first | exact HCD.out | (with_reducible refine Kd.C_drewN ?_ _) | (with_reducible refine Kd.C_drew ?_))); (case s4 => exact HCL.out); rintro e w9 ⟨rfl, ⟨d9, rfl⟩⟩; exact ⟨rfl, _, by rw [World.drewN_drewN, Nat.add_assoc]⟩))
          go_wp2
          go_roundg k
          case measure => omega
          case rel =>
            refine ⟨en, done ++ [⟨x, dt, off⟩], ts, HK2, rfl, ?_, ?_, ?_, Lib.hid HENL.out, ?_⟩
            · have := HWI.out
              simp [this]
            · have h := HDN2.out
              exact Lib.hid (by simpa using h)
            · have h := HC2.out
              rw [HEN.out] at h
              exact h
            · repeat (first | exact Drawn0.refl _ | apply Drawn0.step)
  · by_cases hl3 : l.length ≤ 2147483647
    · have hl1 : decide ((2147483647 : Int) < (l.length : Int)) = false := decide_eq_false (by omega)
      have hl2 : decide ((100000 : Int) < (l.length : Int)) = true := decide_eq_true (by omega)
      clear hs hb hl hl3
      go_enter Try.func6, Try.ntmps6
      go_wp2
      go_ret
      exact ⟨rfl, Below.refl _ _⟩
    · have hl1 : decide ((2147483647 : Int) < (l.length : Int)) = true := decide_eq_true (by omega)
      clear hs hb hl hl3
      go_enter Try.func6, Try.ntmps6
      go_wp2
      go_ret
      exact ⟨rfl, Below.refl _ _⟩

theorem row_walk (a : Option Addr) (len cap : Nat) (z : List Int) (w : World) (h : Row.Arg .u8 w a len cap z) (_ : len * 1 ≤ 140737488351232) :
    Calls Try.prog 6 #[.slice a len cap] w fun e w' => e = .returned (.bool true) ∧ Below w.heap.size w w' := by
  obtain ⟨l, rfl, hv, hb⟩ := Row.arg_V h
  exact law_walk a cap l w hv hb
end Go.Proofs.Ytmebcbmnfnlihaa.TokCover
