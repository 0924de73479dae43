/-
  DecodeNoLimitWithVersion.
-/
import Derived.Test.YtciocjaelmnhiaaDoorBp9
namespace Go.Proofs.YtciocjaelmnhiaaDoor.Bp
open Go.RowKit Go.Proofs.YtciocjaelmnhiaaDoorW.PrintWords Go.Proofs.YtciocjaelmnhiaaDoorW.PrintLast Go.Proofs.YtciocjaelmnhiaaDoorW.PrintMore Go.Proofs.YtciocjaelmnhiaaDoor.Reg
set_option linter.unusedSimpArgs false
set_option linter.unusedVariables false

theorem nums (o o1 n q z sm : Nat) (o7 : Int) (ho1 : o + 1 = o1) (hq : n - 6 = q) (ho7 : (o : Int) + 7 = o7) (hsm : z - 6 = sm) (hz : z = o + 1 + n) (h1 : o ≤ 500) (h2 : 6 ≤ n) (h3 : n ≤ 500) (h4 : 0 < o) :
    decide ((z : Int) < 8) = false ∧ (z < 8) = False ∧ decide ((o : Int) < 1) = false ∧ ((o : Int) < 1) = False ∧ (o < 1) = False ∧ (o = 0) = False ∧ decide ((z : Int) < o7) = false ∧ (o ≤ z) = True ∧ (o1 ≤ z) = True ∧ (sm ≤ z) = True ∧
      wrap64 ((o : Int) + 1) = (o1 : Int) ∧ wrap64 ((o : Int) + 7) = o7 ∧ wrap64 ((n : Int) - 6) = (q : Int) ∧ wrap64 ((z : Int) - 6) = (sm : Int) := by
  refine ⟨decide_eq_false (by omega), eq_false (by omega), decide_eq_false (by omega), eq_false (by omega), eq_false (by omega), eq_false (by omega), decide_eq_false (by omega), eq_true (by omega), eq_true (by omega), eq_true (by omega), ?_, ?_, ?_, ?_⟩
  · exact (wrap64_id (by omega) (by omega)).trans (by omega)
  · exact (wrap64_id (by omega) (by omega)).trans (by omega)
  · exact (wrap64_id (by omega) (by omega)).trans (by omega)
  · exact (wrap64_id (by omega) (by omega)).trans (by omega)
theorem results_tmp4 {fn : Func} {t u v x : Tmp} (h : fn.results = #[.tmp t, .tmp u, .tmp v, .tmp x]) (tmps : Array Value) (P : Program) (w : World) :
    (results fn tmps).run P w = .ok (.tuple #[tmps.getD t undef, tmps.getD u undef, tmps.getD v undef, tmps.getD x undef]) w := by
  simp [results, h]
theorem grow6 (w : World) : Calls Tryd.prog 23 #[.pointer (some ⟨w.heap.size, 0, none⟩), .int .i64 6] (w.alloc (.cells #[.pointer none, .slice none 0 0] 53)) fun e w' => (∃ u, e = .returned u) ∧ Bd w.heap.size w.heap.size [] w' ∧ Below w.heap.size w w' :=
  (YtciocjaelmnhiaaDoor.grow w.heap.size w.heap.size 6 _ (Nat.le_refl _) (heap_alloc_new _ _) (by simp) (by decide)).mono fun _ _ h => ⟨h.1, h.2.1, (below_alloc (Below.refl _ _) _).trans h.2.2⟩
/-- What reading answers. -/
def DOut (h : ByteArray) (d : List Nat) (w w' : World) (e : Ending) : Prop :=
  ∃ P, pm 1 (hi h ++ 0 :: (lo h ++ d)) = P ∧ ((P = 1 ∧ ∃ A c, e = .returned (.tuple #[.string h, .slice A (d.length - 6) c, .int .u8 0, .nilIface]) ∧ Kd.C (Kd.int .u8) w' A (d.length - 6) (ints (d.take (d.length - 6))) ∧ d.length - 6 ≤ c) ∨
    (P = 734539939 ∧ ∃ A c, e = .returned (.tuple #[.string h, .slice A (d.length - 6) c, .int .u8 1, .nilIface]) ∧ Kd.C (Kd.int .u8) w' A (d.length - 6) (ints (d.take (d.length - 6))) ∧ d.length - 6 ≤ c) ∨
    (P ≠ 1 ∧ P ≠ 734539939 ∧ ∃ x y z t v, e = .returned (.tuple #[x, y, z, .iface t v])))
theorem DOut.one {h : ByteArray} {d : List Nat} {w w' : World} {e : Ending} {q c : Nat} {A : Option Addr} (hq : d.length - 6 = q) (hp : pm 1 (hi h ++ 0 :: (lo h ++ d)) = 1) (he : e = .returned (.tuple #[.string h, .slice A q c, .int .u8 0, .nilIface])) (hc : Kd.C (Kd.int .u8) w' A q (ints (d.take q))) (hl : q ≤ c) : DOut h d w w' e := by
  subst hq
  exact ⟨_, rfl, .inl ⟨hp, A, c, he, hc, hl⟩⟩
theorem DOut.two {h : ByteArray} {d : List Nat} {w w' : World} {e : Ending} {q c : Nat} {A : Option Addr} (hq : d.length - 6 = q) (hp : pm 1 (hi h ++ 0 :: (lo h ++ d)) = 734539939) (he : e = .returned (.tuple #[.string h, .slice A q c, .int .u8 1, .nilIface])) (hc : Kd.C (Kd.int .u8) w' A q (ints (d.take q))) (hl : q ≤ c) : DOut h d w w' e := by
  subst hq
  exact ⟨_, rfl, .inr (.inl ⟨hp, A, c, he, hc, hl⟩)⟩
set_option maxHeartbeats 16000000 in
set_option maxRecDepth 100000 in
theorem dec_calls (h : ByteArray) (d : List Nat) (w : World) (hh : Readable h) (hd : ∀ v ∈ d, v < 32) (hn : h.size ≤ 500 ∧ 6 ≤ d.length ∧ d.length ≤ 500) (hg : GenB w.heap.size w) :
    Calls Tryd.prog 21 #[.string (cat h d)] w fun e w' => DOut h d w w' e ∧ Below w.heap.size w w' := by
  have HOK := Lib.hid (cat_ok h d hh hd)
  have HLAST := Lib.hid (last_f h d hd ⟨by omega, by omega⟩)
  have hx1 := cat_take h d
  have hx2 := cat_drop h d
  have hsz := cat_size h d
  have HTB := Lib.hid (fun (W : World) => toBytes_calls d W hd (by omega))
  have HVF := Lib.hid (fun (W : World) (A : Option Addr) (c : Nat) (hW : Below w.heap.size w W) (hr : Kd.C (Kd.int .u8) W A d.length (ints d)) (hc : d.length ≤ c) => verify_calls h A c d W (hg.below hW (Nat.le_refl _)).gen (by omega) hr hc hd ⟨by omega, by omega⟩)
  have HSUM := Lib.hid (fun (B b : Nat) (out : List UInt8) (A : Option Addr) (c1 : Nat) (W : World) (hB : w.heap.size ≤ B) (hW : Below w.heap.size w W) (hd2 : Dat B W A (ints (d.take (d.length - 6)))) (hb : Bd B b out W) (ho : out.length ≤ 90000) (hBw : B ≤ W.heap.size) =>
    And.intro (sum_calls B b out h A c1 (ints (d.take (d.length - 6))) 0 1 W rfl (by decide) ((hg.below hW (Nat.le_refl _)).up hB) (by omega) hd2 (fun v hv => by
      obtain ⟨x, hx, rfl⟩ := List.mem_map.1 hv
      have := hd x (List.mem_of_mem_take hx)
      show 0 ≤ (x : Int) ∧ (x : Int) < 32
      omega) (by rw [ints_len, List.length_take]; omega) hb ho hBw) (sum_calls B b out h A c1 (ints (d.take (d.length - 6))) 1 734539939 W rfl (by decide) ((hg.below hW (Nat.le_refl _)).up hB) (by omega) hd2 (fun v hv => by
      obtain ⟨x, hx, rfl⟩ := List.mem_map.1 hv
      have := hd x (List.mem_of_mem_take hx)
      show 0 ≤ (x : Int) ∧ (x : Int) < 32
      omega) (by rw [ints_len, List.length_take]; omega) hb ho hBw))
  have HIL := Lib.hid (show (ints (d.take (d.length - 6))).length = d.length - 6 from by rw [ints_len, List.length_take]; omega)
  obtain ⟨i0, hinf, hz⟩ := Option.map_eq_some_iff.1 PFnWriteBech32.info5
  simp only [Prod.mk.injEq] at hz
  obtain ⟨z1, z2, z3⟩ := hz
  have HCUT := Lib.hid (fun (A : Option Addr) (c : Nat) (hc : (ints d).length ≤ c) => print_take_of (P := Tryd.prog) (Value.int .u8) 0 22 5 .i64 Tryd.underlying22 hinf z2 A c (ints d) ((d.length - 6 : Nat) : Int) (by omega) (by rw [ints_len]; omega) hc)
  have HTAKE := Lib.hid (show (ints d).take ((d.length - 6 : Nat) : Int).toNat = ints (d.take (d.length - 6)) from by rw [Int.toNat_natCast]; simp [ints])
  have HIN := Lib.hid (ints_len d)
  have hpos := hh.1
  obtain ⟨s, hs⟩ : ∃ s, cat h d = s := ⟨_, rfl⟩
  rw [hs] at HOK HLAST hx1 hx2 hsz
  rw [hs]
  obtain ⟨o, ho⟩ : ∃ o, h.size = o := ⟨_, rfl⟩
  obtain ⟨o1, ho1⟩ : ∃ o1, o + 1 = o1 := ⟨_, rfl⟩
  obtain ⟨n, hnn⟩ : ∃ n, d.length = n := ⟨_, rfl⟩
  obtain ⟨q, hq⟩ : ∃ q, n - 6 = q := ⟨_, rfl⟩
  rw [ho] at HLAST hx1 hsz hpos hn
  rw [hnn] at HLAST hsz hn HIL HSUM HTAKE HCUT HIN HVF HTB
  rw [hq] at HIL HSUM HTAKE HCUT
  rw [HIL.out] at HSUM
  rw [ho, ho1] at hx2
  obtain ⟨o7, ho7⟩ : ∃ o7 : Int, (o : Int) + 7 = o7 := ⟨_, rfl⟩
  obtain ⟨sm, hsm⟩ : ∃ sm : Nat, s.size - 6 = sm := ⟨_, rfl⟩
  obtain ⟨d8, d8b, e1, e1b, e1c, e1d, e7, l1, l2, l3, hwo1, hwo7, hwn, hws⟩ := nums o o1 n q s.size sm o7 ho1 hq ho7 hsm hsz hn.1 hn.2.1 hn.2.2 hpos
  have HS := Lib.hid (show s.size ≤ 1001 ∧ q ≤ n ∧ n ≤ 500 from by clear hwo1 hwo7 hwn hws; omega)
  have HQ := Lib.hid (And.intro hq hnn)
  clear hh hd hn hg hs hsz hpos ho ho1 hnn hq ho7 hinf z1 z2 z3 hsm
  go_enter Tryd.func21, Tryd.ntmps21
  go_wp2
  go_loopg [6, 7, 8] (s.size + 1) (fun kq v6 v7 v8 w' => ∃ (i : Nat) (b6 : Bool), v8 = .int .i64 (i : Int) ∧ v6 = .bool b6 ∧ v7 = .bool false ∧ Aside0 (i + kq = s.size + 1 ∧ i ≤ s.size) ∧ w' = w)
  case atStart => exact ⟨0, false, rfl, rfl, rfl, ⟨by omega, by omega⟩, rfl⟩
  case round =>
    obtain ⟨i, b6, rfl, rfl, rfl, HI, hw⟩ := hrel
    obtain rfl := hw.symm
    by_cases ci : i < s.size
    · obtain ⟨k1, rfl⟩ : ∃ k1, gk = k1 + 1 := ⟨gk - 1, by have := HI.out; omega⟩
      have cb : decide ((i : Int) < (s.size : Int)) = true := decide_eq_true (by omega)
      have cb2 := eq_true ci
      have hb := HOK.out (s[i]'ci) (by rw [at_list]; exact List.getElem_mem _)
      have HC := Aside0.mk ci
      obtain ⟨x, hx⟩ : ∃ x : Int, ((s[i]'ci).toNat : Int) = x := ⟨_, rfl⟩
      have hxb : 33 ≤ x ∧ x ≤ 126 ∧ ¬ (65 ≤ x ∧ x ≤ 90) := by omega
      have f1 : decide (x < 33) = false := decide_eq_false (by omega)
      have f2 : decide (126 < x) = false := decide_eq_false (by omega)
      clear hb
      have hcl : x < 65 ∨ (65 ≤ x ∧ 90 < x ∧ x < 97) ∨ (97 ≤ x ∧ x ≤ 122) ∨ 122 < x := by omega
      cases b6 with
      | false =>
        rcases hcl with h1 | h1 | h1 | h1
        · have g0 : decide (97 ≤ x) = false := decide_eq_false (by omega)
          have g1 : decide (65 ≤ x) = false := decide_eq_false (by omega)
          clear h1 hxb
          go_wp2
          go_roundg k1
          case measure => have := HI.out; omega
          case rel => exact ⟨i + 1, _, by first | rfl | (rw [wrap64_id (by have := HS.out; have := HC.out; omega) (by have := HS.out; have := HC.out; omega)]; push_cast; rfl), rfl, rfl, ⟨by have := HI.out; omega, by have := HC.out; omega⟩, rfl⟩
        · have g0 : decide (97 ≤ x) = false := decide_eq_false (by omega)
          have g1 : decide (65 ≤ x) = true := decide_eq_true (by omega)
          have g2 : decide (x ≤ 90) = false := decide_eq_false (by omega)
          clear h1 hxb
          go_wp2
          go_roundg k1
          case measure => have := HI.out; omega
          case rel => exact ⟨i + 1, _, by first | rfl | (rw [wrap64_id (by have := HS.out; have := HC.out; omega) (by have := HS.out; have := HC.out; omega)]; push_cast; rfl), rfl, rfl, ⟨by have := HI.out; omega, by have := HC.out; omega⟩, rfl⟩
        · have g0 : decide (97 ≤ x) = true := decide_eq_true (by omega)
          have g1 : decide (x ≤ 122) = true := decide_eq_true (by omega)
          have g2 : decide (65 ≤ x) = true := decide_eq_true (by omega)
          have g3 : decide (x ≤ 90) = false := decide_eq_false (by omega)
          clear h1 hxb
          go_wp2
          go_roundg k1
          case measure => have := HI.out; omega
          case rel => exact ⟨i + 1, _, by first | rfl | (rw [wrap64_id (by have := HS.out; have := HC.out; omega) (by have := HS.out; have := HC.out; omega)]; push_cast; rfl), rfl, rfl, ⟨by have := HI.out; omega, by have := HC.out; omega⟩, rfl⟩
        · have g0 : decide (97 ≤ x) = true := decide_eq_true (by omega)
          have g1 : decide (x ≤ 122) = false := decide_eq_false (by omega)
          have g2 : decide (65 ≤ x) = true := decide_eq_true (by omega)
          have g3 : decide (x ≤ 90) = false := decide_eq_false (by omega)
          clear h1 hxb
          go_wp2
          go_roundg k1
          case measure => have := HI.out; omega
          case rel => exact ⟨i + 1, _, by first | rfl | (rw [wrap64_id (by have := HS.out; have := HC.out; omega) (by have := HS.out; have := HC.out; omega)]; push_cast; rfl), rfl, rfl, ⟨by have := HI.out; omega, by have := HC.out; omega⟩, rfl⟩
      | true =>
        rcases hcl with h1 | h1 | h1 | h1
        · have g0 : decide (97 ≤ x) = false := decide_eq_false (by omega)
          have g1 : decide (65 ≤ x) = false := decide_eq_false (by omega)
          clear h1 hxb
          go_wp2
          go_roundg k1
          case measure => have := HI.out; omega
          case rel => exact ⟨i + 1, _, by first | rfl | (rw [wrap64_id (by have := HS.out; have := HC.out; omega) (by have := HS.out; have := HC.out; omega)]; push_cast; rfl), rfl, rfl, ⟨by have := HI.out; omega, by have := HC.out; omega⟩, rfl⟩
        · have g0 : decide (97 ≤ x) = false := decide_eq_false (by omega)
          have g1 : decide (65 ≤ x) = true := decide_eq_true (by omega)
          have g2 : decide (x ≤ 90) = false := decide_eq_false (by omega)
          clear h1 hxb
          go_wp2
          go_roundg k1
          case measure => have := HI.out; omega
          case rel => exact ⟨i + 1, _, by first | rfl | (rw [wrap64_id (by have := HS.out; have := HC.out; omega) (by have := HS.out; have := HC.out; omega)]; push_cast; rfl), rfl, rfl, ⟨by have := HI.out; omega, by have := HC.out; omega⟩, rfl⟩
        · have g0 : decide (97 ≤ x) = true := decide_eq_true (by omega)
          have g1 : decide (x ≤ 122) = true := decide_eq_true (by omega)
          have g2 : decide (65 ≤ x) = true := decide_eq_true (by omega)
          have g3 : decide (x ≤ 90) = false := decide_eq_false (by omega)
          clear h1 hxb
          go_wp2
          go_roundg k1
          case measure => have := HI.out; omega
          case rel => exact ⟨i + 1, _, by first | rfl | (rw [wrap64_id (by have := HS.out; have := HC.out; omega) (by have := HS.out; have := HC.out; omega)]; push_cast; rfl), rfl, rfl, ⟨by have := HI.out; omega, by have := HC.out; omega⟩, rfl⟩
        · have g0 : decide (97 ≤ x) = true := decide_eq_true (by omega)
          have g1 : decide (x ≤ 122) = false := decide_eq_false (by omega)
          have g2 : decide (65 ≤ x) = true := decide_eq_true (by omega)
          have g3 : decide (x ≤ 90) = false := decide_eq_false (by omega)
          clear h1 hxb
          go_wp2
          go_roundg k1
          case measure => have := HI.out; omega
          case rel => exact ⟨i + 1, _, by first | rfl | (rw [wrap64_id (by have := HS.out; have := HC.out; omega) (by have := HS.out; have := HC.out; omega)]; push_cast; rfl), rfl, rfl, ⟨by have := HI.out; omega, by have := HC.out; omega⟩, rfl⟩
    · have cb : decide ((i : Int) < (s.size : Int)) = false := decide_eq_false (by omega)
      have cb2 := eq_false ci
      clear ci
      go_wp2_with (first
        | (go_at_call 28; go_must ((with_reducible refine (PFnWriteBech32.strings_LastIndexByte.calls _ s 49 _ _ HLAST.out).mono ?_); rintro e w1 ⟨rfl, ⟨m1, rfl⟩⟩; have HB1 := Aside0.mk (pw_below_drewN (Below.refl w.heap.size w) m1)))
        | (go_at_call 29; go_must ((with_reducible refine (HTB.out _).mono ?_); rintro e w2 ⟨A, c, rfl, hR, hB⟩; have H2 := Aside0.mk (And.intro (Kd.R_reads' hR).2 (HB1.out.trans (hB.mono HB1.out.size))); have hrt := HCUT.out A c (by rw [HIN.out]; exact H2.out.1.1); have hcut := hrt.1; rw [HTAKE.out, HIL.out] at hcut; rw [HIN.out] at hcut; have HRT := Aside0.mk hrt; clear hR hB hrt))
        | (go_at_call 30; go_must ((with_reducible refine (HVF.out _ A c H2.out.2 (by have := H2.out.1.2; rwa [HIN.out] at this) H2.out.1.1).mono ?_); rintro e w3 ⟨hv, hB⟩; have HB3 := Aside0.mk (And.intro (H2.out.2.trans (hB.mono H2.out.2.size)) hB); have HC3 := Aside0.mk (Kd.C_below H2.out.1.2 hB); have HCT := Aside0.mk (show Kd.C (Kd.int .u8) w3 A q (ints (d.take q)) ∧ q ≤ c from by have h1 := Kd.C_of_reads (h1 := fun _ => rfl) (HRT.out.2.1 w3 (Kd.reads_of_C (d := (0 : Int)) HC3.out)); have h2 := HRT.out.2.2; rw [HTAKE.out, HIL.out] at h1 h2; exact ⟨h1, h2⟩); clear hB; rcases hv with ⟨hp, rfl⟩ | ⟨hp, rfl⟩ | ⟨hp, hp2, rfl⟩ <;> (first | (have HP := Aside0.mk (And.intro hp hp2); clear hp hp2) | (have HP := Aside0.mk hp; clear hp))))
        | (go_at_call 23; go_must (first
            | ((with_reducible refine (grow6 w3).mono ?_); rintro e w4 ⟨⟨u4, rfl⟩, hb4, hB4⟩; have H4 := Aside0.mk (And.intro hb4 (And.intro hB4 (HB3.out.1.trans (hB4.mono HB3.out.1.size)))); have HDT := Aside0.mk (show Dat w3.heap.size w4 A (ints (d.take q)) from (Dat.of_C (by rw [HIL.out]; exact HCT.out.1)).below hB4 (Nat.le_refl _)); clear hb4 hB4)
            | ((with_reducible refine (grow6 w6).mono ?_); rintro e w8 ⟨⟨u8, rfl⟩, hb8, hB8⟩; have H8 := Aside0.mk (And.intro (H6.out.1.below hB8) (H6.out.2.trans (hB8.mono H6.out.2.size))); clear hb8 hB8)))
        | (go_at_call 26; go_must (first
            | ((with_reducible refine (HSUM.out w3.heap.size w3.heap.size [] A c w4 HB3.out.1.size H4.out.2.2 HDT.out H4.out.1 (by simp) H4.out.2.1.size).1.mono ?_); rintro e w5 ⟨⟨u5, rfl⟩, hb5, hB5⟩; have H5 := Aside0.mk (And.intro hb5 (H4.out.2.1.trans hB5)); clear hb5 hB5)
            | ((with_reducible refine (HSUM.out w3.heap.size w3.heap.size _ A c w8 HB3.out.1.size (HB3.out.1.trans (H8.out.2.mono HB3.out.1.size)) ((Dat.of_C (by rw [HIL.out]; exact HCT.out.1)).below H8.out.2 (Nat.le_refl _)) H8.out.1 (by simp [six]) H8.out.2.size).2.mono ?_); rintro e w9 ⟨⟨u9, rfl⟩, hb9, hB9⟩; have H9 := Aside0.mk (And.intro hb9 (H8.out.2.trans hB9)); clear hb9 hB9)))
        | (go_at_call 27; go_must (first
            | ((with_reducible refine (bs_calls w3.heap.size w3.heap.size _ w5 H5.out.1 (by simp [six])).mono ?_); rintro e w6 ⟨rfl, hb6, hB6⟩; have H6 := Aside0.mk (And.intro hb6 (H5.out.2.trans hB6)); clear hb6 hB6)
            | ((with_reducible refine (bs_calls w3.heap.size w3.heap.size _ w9 H9.out.1 (by simp [six])).mono ?_); rintro e wA ⟨rfl, _, hBA⟩; have HA := Aside0.mk (H9.out.2.trans hBA); clear hBA))))
      · skip
        refine start_ (n := 11) (S := fun w' => True) (ds := []) #[false, false, false, false, false, false, false, false, false, false, false] (by kernel_rfl) rfl rfl trivial (fun hHeld => ?_)
        refine pure_ (i := 0) (N := some 146) (v := ?_) (a' := ?_) #[true, false, false, false, false, false, false, false, false, false, false] rfl rfl (by kernel_rfl) (fun _ _ _ h => h) (Or.inl ⟨by rfl, ?_⟩) ?_ ?_
        rotate_left
        · intro w'
          go_simp
          with_reducible rfl
        rotate_left
        · simp only [Act.put, List.setIfInBounds_toArray, List.set_cons_zero, List.set_cons_succ, i64_w, i32_w]
          rfl
        refine pure_ (i := 1) (N := some 147) (v := ?_) (a' := ?_) #[true, true, false, false, false, false, false, false, false, false, false] rfl rfl (by kernel_rfl) (fun _ _ _ h => h) (Or.inl ⟨by rfl, ?_⟩) ?_ ?_
        rotate_left
        · intro w'
          go_simp
          with_reducible rfl
        rotate_left
        · simp only [Act.put, List.setIfInBounds_toArray, List.set_cons_zero, List.set_cons_succ, i64_w, i32_w]
          rfl
        refine pure_ (i := 2) (N := some 148) (v := ?_) (a' := ?_) #[true, true, true, false, false, false, false, false, false, false, false] rfl rfl (by kernel_rfl) (fun _ _ _ h => h) (Or.inl ⟨by rfl, ?_⟩) ?_ ?_
        rotate_left
        · intro w'
          go_simp
          with_reducible rfl
        rotate_left
        · simp only [Act.put, List.setIfInBounds_toArray, List.set_cons_zero, List.set_cons_succ, i64_w, i32_w]
          rfl
        refine pure_ (i := 3) (N := some 149) (v := ?_) (a' := ?_) #[true, true, true, true, false, false, false, false, false, false, false] rfl rfl (by kernel_rfl) (fun _ _ _ h => h) (Or.inl ⟨by rfl, ?_⟩) ?_ ?_
        rotate_left
        · intro w'
          go_simp
          with_reducible rfl
        rotate_left
        · simp only [Act.put, List.setIfInBounds_toArray, List.set_cons_zero, List.set_cons_succ, i64_w, i32_w]
          rfl
        refine pure_ (i := 4) (N := some 150) (v := ?_) (a' := ?_) #[true, true, true, true, true, false, false, false, false, false, false] rfl rfl (by kernel_rfl) (fun _ _ _ h => h) (Or.inl ⟨by rfl, ?_⟩) ?_ ?_
        rotate_left
        · intro w'
          go_simp
          with_reducible rfl
        rotate_left
        · simp only [Act.put, List.setIfInBounds_toArray, List.set_cons_zero, List.set_cons_succ, i64_w, i32_w]
          rfl
        refine pure_ (i := 5) (N := some 151) (v := ?_) (a' := ?_) #[true, true, true, true, true, true, false, false, false, false, false] rfl rfl (by kernel_rfl) (fun _ _ _ h => h) (Or.inl ⟨by rfl, ?_⟩) ?_ ?_
        rotate_left
        · intro w'
          go_simp
          with_reducible rfl
        rotate_left
        · simp only [Act.put, List.setIfInBounds_toArray, List.set_cons_zero, List.set_cons_succ, i64_w, i32_w]
          rfl
        refine pure_ (i := 6) (N := some 152) (v := ?_) (a' := ?_) #[true, true, true, true, true, true, true, false, false, false, false] rfl rfl (by kernel_rfl) (fun _ _ _ h => h) (Or.inl ⟨by rfl, ?_⟩) ?_ ?_
        rotate_left
        · intro w'
          go_simp
          with_reducible rfl
        rotate_left
        · simp only [Act.put, List.setIfInBounds_toArray, List.set_cons_zero, List.set_cons_succ, i64_w, i32_w]
          rfl
        refine pure_ (i := 7) (N := some 2) (v := ?_) (a' := ?_) #[true, true, true, true, true, true, true, true, false, false, false] rfl rfl (by kernel_rfl) (fun _ _ _ h => h) (Or.inl ⟨by rfl, ?_⟩) ?_ ?_
        rotate_left
        · intro w'
          go_simp
          with_reducible rfl
        rotate_left
        · simp only [Act.put, List.setIfInBounds_toArray, List.set_cons_zero, List.set_cons_succ, i64_w, i32_w]
          rfl
        refine pure_ (i := 8) (N := some 3) (v := ?_) (a' := ?_) #[true, true, true, true, true, true, true, true, true, false, false] rfl rfl (by kernel_rfl) (fun _ _ _ h => h) (Or.inl ⟨by rfl, ?_⟩) ?_ ?_
        rotate_left
        · intro w'
          go_simp
          with_reducible rfl
        rotate_left
        · simp only [Act.put, List.setIfInBounds_toArray, List.set_cons_zero, List.set_cons_succ, i64_w, i32_w]
          rfl
        refine pure_ (i := 9) (N := some 4) (v := ?_) (a' := ?_) #[true, true, true, true, true, true, true, true, true, true, false] rfl rfl (by kernel_rfl) (fun _ _ _ h => h) (Or.inl ⟨by rfl, ?_⟩) ?_ ?_
        rotate_left
        · intro w'
          go_simp
          with_reducible rfl
        rotate_left
        · simp only [Act.put, List.setIfInBounds_toArray, List.set_cons_zero, List.set_cons_succ, i64_w, i32_w]
          rfl
        refine pure_ (i := 10) (N := some 5) (v := ?_) (a' := ?_) #[true, true, true, true, true, true, true, true, true, true, true] rfl rfl (by kernel_rfl) (fun _ _ _ h => h) (Or.inl ⟨by rfl, ?_⟩) ?_ ?_
        rotate_left
        · intro w'
          go_simp
          with_reducible rfl
        rotate_left
        · simp only [Act.put, List.setIfInBounds_toArray, List.set_cons_zero, List.set_cons_succ, i64_w, i32_w]
          rfl
        refine done_ (by kernel_rfl) ?_
        go_wp2
        (try simp only [Exit.inBlock, Exit.then])
        refine bodyPost_ret (results_tmp4 rfl _ _ _) rfl ?_
        exact ⟨DOut.one (by rw [HQ.out.2]; exact HQ.out.1) HP.out rfl (Kd.C_below HCT.out.1 (below_drew (Below.refl _ _))) HCT.out.2, below_drew HB3.out.1⟩
      · skip
        refine start_ (n := 11) (S := fun w' => True) (ds := []) #[false, false, false, false, false, false, false, false, false, false, false] (by kernel_rfl) rfl rfl trivial (fun hHeld => ?_)
        refine pure_ (i := 0) (N := some 146) (v := ?_) (a' := ?_) #[true, false, false, false, false, false, false, false, false, false, false] rfl rfl (by kernel_rfl) (fun _ _ _ h => h) (Or.inl ⟨by rfl, ?_⟩) ?_ ?_
        rotate_left
        · intro w'
          go_simp
          with_reducible rfl
        rotate_left
        · simp only [Act.put, List.setIfInBounds_toArray, List.set_cons_zero, List.set_cons_succ, i64_w, i32_w]
          rfl
        refine pure_ (i := 1) (N := some 147) (v := ?_) (a' := ?_) #[true, true, false, false, false, false, false, false, false, false, false] rfl rfl (by kernel_rfl) (fun _ _ _ h => h) (Or.inl ⟨by rfl, ?_⟩) ?_ ?_
        rotate_left
        · intro w'
          go_simp
          with_reducible rfl
        rotate_left
        · simp only [Act.put, List.setIfInBounds_toArray, List.set_cons_zero, List.set_cons_succ, i64_w, i32_w]
          rfl
        refine pure_ (i := 2) (N := some 148) (v := ?_) (a' := ?_) #[true, true, true, false, false, false, false, false, false, false, false] rfl rfl (by kernel_rfl) (fun _ _ _ h => h) (Or.inl ⟨by rfl, ?_⟩) ?_ ?_
        rotate_left
        · intro w'
          go_simp
          with_reducible rfl
        rotate_left
        · simp only [Act.put, List.setIfInBounds_toArray, List.set_cons_zero, List.set_cons_succ, i64_w, i32_w]
          rfl
        refine pure_ (i := 3) (N := some 149) (v := ?_) (a' := ?_) #[true, true, true, true, false, false, false, false, false, false, false] rfl rfl (by kernel_rfl) (fun _ _ _ h => h) (Or.inl ⟨by rfl, ?_⟩) ?_ ?_
        rotate_left
        · intro w'
          go_simp
          with_reducible rfl
        rotate_left
        · simp only [Act.put, List.setIfInBounds_toArray, List.set_cons_zero, List.set_cons_succ, i64_w, i32_w]
          rfl
        refine pure_ (i := 4) (N := some 150) (v := ?_) (a' := ?_) #[true, true, true, true, true, false, false, false, false, false, false] rfl rfl (by kernel_rfl) (fun _ _ _ h => h) (Or.inl ⟨by rfl, ?_⟩) ?_ ?_
        rotate_left
        · intro w'
          go_simp
          with_reducible rfl
        rotate_left
        · simp only [Act.put, List.setIfInBounds_toArray, List.set_cons_zero, List.set_cons_succ, i64_w, i32_w]
          rfl
        refine pure_ (i := 5) (N := some 151) (v := ?_) (a' := ?_) #[true, true, true, true, true, true, false, false, false, false, false] rfl rfl (by kernel_rfl) (fun _ _ _ h => h) (Or.inl ⟨by rfl, ?_⟩) ?_ ?_
        rotate_left
        · intro w'
          go_simp
          with_reducible rfl
        rotate_left
        · simp only [Act.put, List.setIfInBounds_toArray, List.set_cons_zero, List.set_cons_succ, i64_w, i32_w]
          rfl
        refine pure_ (i := 6) (N := some 152) (v := ?_) (a' := ?_) #[true, true, true, true, true, true, true, false, false, false, false] rfl rfl (by kernel_rfl) (fun _ _ _ h => h) (Or.inl ⟨by rfl, ?_⟩) ?_ ?_
        rotate_left
        · intro w'
          go_simp
          with_reducible rfl
        rotate_left
        · simp only [Act.put, List.setIfInBounds_toArray, List.set_cons_zero, List.set_cons_succ, i64_w, i32_w]
          rfl
        refine pure_ (i := 7) (N := some 2) (v := ?_) (a' := ?_) #[true, true, true, true, true, true, true, true, false, false, false] rfl rfl (by kernel_rfl) (fun _ _ _ h => h) (Or.inl ⟨by rfl, ?_⟩) ?_ ?_
        rotate_left
        · intro w'
          go_simp
          with_reducible rfl
        rotate_left
        · simp only [Act.put, List.setIfInBounds_toArray, List.set_cons_zero, List.set_cons_succ, i64_w, i32_w]
          rfl
        refine pure_ (i := 8) (N := some 3) (v := ?_) (a' := ?_) #[true, true, true, true, true, true, true, true, true, false, false] rfl rfl (by kernel_rfl) (fun _ _ _ h => h) (Or.inl ⟨by rfl, ?_⟩) ?_ ?_
        rotate_left
        · intro w'
          go_simp
          with_reducible rfl
        rotate_left
        · simp only [Act.put, List.setIfInBounds_toArray, List.set_cons_zero, List.set_cons_succ, i64_w, i32_w]
          rfl
        refine pure_ (i := 9) (N := some 4) (v := ?_) (a' := ?_) #[true, true, true, true, true, true, true, true, true, true, false] rfl rfl (by kernel_rfl) (fun _ _ _ h => h) (Or.inl ⟨by rfl, ?_⟩) ?_ ?_
        rotate_left
        · intro w'
          go_simp
          with_reducible rfl
        rotate_left
        · simp only [Act.put, List.setIfInBounds_toArray, List.set_cons_zero, List.set_cons_succ, i64_w, i32_w]
          rfl
        refine pure_ (i := 10) (N := some 5) (v := ?_) (a' := ?_) #[true, true, true, true, true, true, true, true, true, true, true] rfl rfl (by kernel_rfl) (fun _ _ _ h => h) (Or.inl ⟨by rfl, ?_⟩) ?_ ?_
        rotate_left
        · intro w'
          go_simp
          with_reducible rfl
        rotate_left
        · simp only [Act.put, List.setIfInBounds_toArray, List.set_cons_zero, List.set_cons_succ, i64_w, i32_w]
          rfl
        refine done_ (by kernel_rfl) ?_
        go_wp2
        (try simp only [Exit.inBlock, Exit.then])
        refine bodyPost_ret (results_tmp4 rfl _ _ _) rfl ?_
        exact ⟨DOut.two (by rw [HQ.out.2]; exact HQ.out.1) HP.out rfl (Kd.C_below HCT.out.1 (below_drew (Below.refl _ _))) HCT.out.2, below_drew HB3.out.1⟩
      · (try simp only [Exit.inBlock, Exit.then])
        refine bodyPost_ret (results_tmp4 rfl _ _ _) rfl ?_
        exact ⟨⟨_, rfl, .inr (.inr ⟨HP.out.1, HP.out.2, _, _, _, _, _, rfl⟩)⟩, HB3.out.1.trans (HA.out.mono HB3.out.1.size)⟩
end Go.Proofs.YtciocjaelmnhiaaDoor.Bp
