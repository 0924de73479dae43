/-
  The law of DisasmRead.
-/
import Derived.Test.YtafpmdmmeohmfaaDrImp
import Derived.Test.YtafpmdmmeohmfaaRow
namespace Go.Proofs.Ytafpmdmmeohmfaa.Dr
open Go.RowKit Go.Proofs.YtafpmdmmeohmfaaW.PrintWords Go.Proofs.YtafpmdmmeohmfaaW.PrintLast Go.Proofs.YtafpmdmmeohmfaaW.PrintMore Go.Proofs.Ytafpmdmmeohmfaa.PFnDisasmRead Go.Proofs.Ytafpmdmmeohmfaa.Tok
open Go.Lib (Hx.encode Hx.digit Hx.encode_length Hx.encode_cons)
set_option linter.unusedSimpArgs false
set_option linter.unusedVariables false

/-- A token as the law lets it in. -/
def Good (t : T) : Prop := 1 ≤ t.op → t.op ≤ 78 → 2 ≤ t.data.length ∧ leastOf t.data.length = t.op
theorem cut_tok {l : List Int} (hb : Bytes l) {a : Nat} {ts : List T} {b : Int} (h : Cut l a ts b) : (∀ t ∈ ts, (0 ≤ t.op ∧ t.op < 256) ∧ Bytes t.data ∧ t.data.length ≤ l.length ∧ (t.op = 0 ∨ 78 < t.op → t.data = [])) ∧ ts.length + a ≤ max a l.length := by
  induction h with
  | done => exact ⟨fun t ht => absurd ht (by simp), by simp; omega⟩
  | bad => exact ⟨fun t ht => absurd ht (by simp), by simp; omega⟩
  | step h1 h2 _ ih =>
    refine ⟨fun t ht => ?_, ?_⟩
    · rcases List.mem_cons.1 ht with rfl | ht
      · refine ⟨hb.getD _, (hb.drop _).take _, by rw [List.length_take, List.length_drop]; omega, fun hp => ?_⟩
        rw [shape_plain (by rcases hp with hp | hp; exact .inl (Int.le_of_eq hp); exact .inr hp)] at h2
        injection h2 with h2
        injection h2 with h3 h4
        subst h3 h4
        simp
      · exact ih.1 t ht
    · have := shape_fits h2
      have := ih.2
      rw [List.length_cons]
      omega
theorem add_one (a : Addr) (i : Nat) : a.add (i + 1) = ⟨(a.add i).block, (a.add i).off + 1, none⟩ := by
  unfold Addr.add
  rw [if_neg (by omega)]
  split
  · rename_i h; subst h; rfl
  · simp [Nat.add_assoc]
theorem tok_at {w : World} {A : Option Addr} {n : Nat} {ts : List T} (h : Kd.C kT w A n ts) (z : T) (i : Nat) (hi : i < n) :
    ∃ ad A1 c1, A = some ad ∧ w.cell? (ad.add (i * 3)) = some (.int .i64 (ts.getD i z).op) ∧ w.cell? ⟨(ad.add (i * 3)).block, (ad.add (i * 3)).off + 1, none⟩ = some (.slice A1 (ts.getD i z).data.length c1) ∧ (ts.getD i z).data.length ≤ c1 ∧ (Kd.int .u8).C w A1 (ts.getD i z).data.length (ts.getD i z).data := by
  obtain ⟨ad, cs, e, hl, hK, hc⟩ := Kd.C_get h z (i : Int) (by omega) (by omega)
  rw [Int.toNat_natCast] at hK hc
  obtain ⟨A1, c1, rfl, h1, h2⟩ := kT_open hK
  exact ⟨ad, A1, c1, e, by have := hc 0 _ rfl; rwa [Nat.add_zero] at this, by have := hc 1 _ rfl; rw [add_one] at this; exact this, h1, h2⟩
/-- The bytes of the first tokens. -/
def acc (ts : List T) (i : Nat) : List Int := ((ts.take i).map raw).flatten
theorem acc_succ {ts : List T} {i : Nat} (h : i < ts.length) (z : T) : acc ts (i + 1) = acc ts i ++ raw (ts.getD i z) := by
  unfold acc
  rw [List.take_add_one, List.getElem?_eq_getElem h, List.map_append, List.flatten_append]
  simp [List.getD_eq_getElem?_getD, h]
theorem acc_len {l : List Int} (hb : Bytes l) {ts : List T} (h : Cut l 0 ts (-1)) (i : Nat) : (acc ts i).length ≤ l.length := by
  have h1 := Cut.raw hb h rfl
  rw [List.drop_zero, ← List.take_append_drop i ts, List.map_append, List.flatten_append] at h1
  unfold acc
  have := congrArg List.length h1
  rw [List.length_append] at this
  omega
theorem acc_all {l : List Int} (hb : Bytes l) {ts : List T} (h : Cut l 0 ts (-1)) : acc ts ts.length = l := by
  have h1 := Cut.raw hb h rfl
  rw [List.drop_zero] at h1
  unfold acc
  rw [List.take_length]
  exact h1
theorem joined_len (M : Nat) : ∀ ws : List (List UInt8), (∀ t ∈ ws, t.length ≤ M) → (joined ws).length ≤ ws.length * (M + 1)
  | [], _ => by simp [joined]
  | [t], h => by
    have := h t List.mem_cons_self
    simp [joined]
    omega
  | t :: u :: ws, h => by
    have h1 := h t List.mem_cons_self
    have ih := joined_len M (u :: ws) (fun x hx => h x (List.mem_cons_of_mem _ hx))
    have e : joined (t :: u :: ws) = t ++ 32 :: joined (u :: ws) := rfl
    rw [e, List.length_append, List.length_cons, List.length_cons (a := t), Nat.succ_mul]
    omega
theorem txt_ok {t : T} (hop : 0 ≤ t.op ∧ t.op < 256) (hg : Good t) : NoB (txtOf t) ∧ txtOf t ≠ [] := by
  unfold txtOf
  split
  · rename_i h
    exact wordI_form (single_of hop h)
  · rename_i h
    have h2 := (hg (by omega) (by omega)).1
    refine ⟨fun x hx => (enc_ok _ x hx).1, fun e => ?_⟩
    have := congrArg List.length e
    rw [Hx.encode_length, Lib.bytesOf_length] at this
    simp at this
    omega
theorem raw_single {t : T} (h : t.op = 0 ∨ 78 < t.op) (hd : t.data = []) : raw t = [t.op] := by
  unfold raw wid
  rw [hd, if_neg (by omega), if_neg (by omega), if_neg (by omega)]
  rfl
set_option maxHeartbeats 8000000 in
set_option maxRecDepth 100000 in
theorem law_near (A : Option Addr) (c : Nat) (l : List Int) (w : World) (hs : Kd.V (Kd.int .u8) 5 w w.heap.size (fun _ => True) (.slice A l.length c) l) (hb : Bytes l) (hn : l.length ≤ 4000) :
    Calls Try.prog 3 #[.slice A l.length c] w fun e w' => e = .returned (.bool true) ∧ Below w.heap.size w w' := by
  have g1 : decide ((2147483647 : Int) < (l.length : Int)) = false := decide_eq_false (by omega)
  have g2 : decide ((4000 : Int) < (l.length : Int)) = false := decide_eq_false (by omega)
  obtain ⟨ts0, bad, ht⟩ : ∃ ts b, tokens l = (ts, b) := ⟨_, _, rfl⟩
  have hcut := tokens_cut l
  rw [ht] at hcut
  have hct := cut_tok hb hcut
  simp only at hct
  have HTS := Lib.hid (specTokens_calls (fun _ => True) A c l ts0 bad w hs hb (by omega) ht)
  have HTOK := Lib.hid hct.1
  have HLEN := Lib.hid (show ts0.length ≤ 4000 from by have := hct.2; omega)
  have HC0 := Lib.hid hcut
  have HT := Lib.hid ht
  have HBY := Lib.hid hb
  have HLN := Lib.hid hn
  have HV0 := Lib.hid (Kd.V_bound hs)
  obtain ⟨z, hz⟩ : ∃ z : T, (⟨0, [], 0⟩ : T) = z := ⟨_, rfl⟩
  clear hct hcut ht hb hn hs hz
  go_enter Try.func3, Try.ntmps3
  go_wp2_with (go_at_call 5; go_must ((with_reducible refine HTS.out.mono ?_); rintro e w1 ⟨v, rfl, hN, hB⟩; obtain ⟨A2, c2, rfl⟩ := Kd.N_slice hN; have HN1 := Aside0.mk (Kd.N_reads' hN).2.2; have HB1 := Aside0.mk hB; clear hN hB))
  go_loopg [5, 6] (ts0.length + 1) (fun kq v5 v6 w' => ∃ i : Nat, v5 = .int .i64 (i : Int) ∧ Aside0 (i + kq = ts0.length + 1 ∧ i ≤ ts0.length) ∧ Aside0 (∀ j, j < i → Good (ts0.getD j z)) ∧ Drawn0 w1 w')
  case atStart => exact ⟨0, rfl, ⟨by omega, by omega⟩, ⟨fun j hj => absurd hj (by omega)⟩, Drawn0.refl _⟩
  case round =>
    obtain ⟨i, rfl, HI, HGD, ⟨m, rfl⟩⟩ := hrel
    by_cases ci : i < ts0.length
    · obtain ⟨k1, rfl⟩ : ∃ k1, gk = k1 + 1 := ⟨gk - 1, by have := HI.out; omega⟩
      obtain ⟨ad, A1, c1, e, x0, x1, hc1, hC1⟩ := tok_at HN1.out z i ci
      subst e
      obtain ⟨t, htk⟩ : ∃ t, ts0.getD i z = t := ⟨_, rfl⟩
      rw [htk] at x0 x1 hc1 hC1
      have HTK := Lib.hid htk
      have HTT := Lib.hid (HTOK.out t (by rw [← htk]; simp [List.getD_eq_getElem?_getD, ci]))
      have HC1 := Lib.hid hC1
      have HCL := Lib.hid hc1
      have HCI := Lib.hid ci
      have cb : decide ((i : Int) < (ts0.length : Int)) = true := decide_eq_true (by omega)
      have cb2 := eq_true ci
      have hwi : wrap64 ((i : Int) + 1) = ((i + 1 : Nat) : Int) := wrap_succ (by have := HLEN.out; omega)
      have hop := HTT.out.1
      obtain ⟨op, hop2⟩ : ∃ op, t.op = op := ⟨_, rfl⟩
      rw [hop2] at x0 hop
      clear htk hC1 hc1 ci
      have HOP2 := Lib.hid hop2
      have HL2 := Lib.hid (fun h : 2 ≤ t.data.length => mono_le (fun k => spec_Least.mono t.data k) (least_f t.data h) (Nat.le_refl 2))
      have HNEXT := Lib.hid (fun (hg : Good t) (j : Nat) (hj : j < i + 1) => show Good (ts0.getD j z) from by
        by_cases e : j = i
        · subst e; rw [HTK.out]; exact hg
        · exact HGD.out j (by omega))
      obtain ⟨n1, hn1⟩ : ∃ n, t.data.length = n := ⟨_, rfl⟩
      have HN2 := Lib.hid hn1
      rw [hn1] at x1 HC1 HCL
      clear hn1 hop2
      by_cases p0 : 0 < op
      · have q0 : decide (0 < op) = true := decide_eq_true p0
        by_cases p1 : op ≤ 78
        · have q1 : decide (op ≤ 78) = true := decide_eq_true p1
          by_cases p2 : n1 < 2
          · have q2 : decide ((n1 : Int) < 2) = true := decide_eq_true (by omega)
            clear p2
            go_wp2
            go_upto_region 10 with fail
            go_quiet (fail)
            go_wp2
            go_ret
            exact ⟨by first | rfl | (simp; done), by first | exact pw_below_drewN HB1.out _ | exact pw_below_drewN (pw_below_drewN HB1.out _) _⟩
          · have q2 : decide ((n1 : Int) < 2) = false := decide_eq_false (by omega)
            have HLF := Lib.hid (HL2.out (by have := HN2.out; omega))
            obtain ⟨lo, hlo⟩ : ∃ lo, leastOf t.data.length = lo := ⟨_, rfl⟩
            have HLO := Lib.hid hlo
            rw [hlo] at HLF
            have HDL := Lib.hid (show 2 ≤ t.data.length by have := HN2.out; omega)
            have HCC := Lib.hid (show Kd.C (Kd.int .u8) w1 A1 t.data.length t.data by have := HC1.out; have e := HN2.out; rwa [← e] at this)
            have HCD := Lib.hid (show t.data.length ≤ c1 by have := HCL.out; have e := HN2.out; omega)
            have HLC := Lib.hid (fun (d : Nat) => spec_Least.calls 2 A1 c1 t.data lo (w1.drewN d) (Kd.C_drewN HCC.out d) HCD.out HLF.out)
            rw [HN2.out] at HLC
            clear hlo p2
            by_cases p3 : lo = op
            · have HGT := Lib.hid (show Good t from fun _ _ => ⟨HDL.out, by rw [HLO.out, p3, HOP2.out]⟩)
              have q3 : (lo != op) = false := by simp [p3]
              have q4 := eq_true p3
              clear p3 p1 p0
              go_wp2
              go_upto_region 10 with fail
              go_quiet (first | (go_at_call 6; (with_reducible refine (HLC.out _).mono ?_); rintro e w9 ⟨rfl, ⟨d9, rfl⟩⟩; exact ⟨rfl, _, by rw [World.drewN_drewN, Nat.add_assoc]⟩))
              go_wp2
              go_roundg k1
              case measure => have := HI.out; omega
              case rel => exact ⟨i + 1, by first | rfl | (rw [hwi]), ⟨by have := HI.out; omega, by have := HCI.out; omega⟩, ⟨HNEXT.out HGT.out⟩, by repeat (first | exact Drawn0.refl _ | apply Drawn0.step)⟩
            · have q3 : (lo != op) = true := by simp [p3]
              have q4 := eq_false p3
              clear p3 p1 p0
              go_wp2
              go_upto_region 10 with fail
              go_quiet (first | (go_at_call 6; (with_reducible refine (HLC.out _).mono ?_); rintro e w9 ⟨rfl, ⟨d9, rfl⟩⟩; exact ⟨rfl, _, by rw [World.drewN_drewN, Nat.add_assoc]⟩))
              go_wp2
              go_ret
              exact ⟨by first | rfl | (simp; done), by first | exact pw_below_drewN HB1.out _ | exact pw_below_drewN (pw_below_drewN HB1.out _) _⟩
        · have q1 : decide (op ≤ 78) = false := decide_eq_false p1
          have HGT := Lib.hid (show Good t from fun _ h => absurd (HOP2.out ▸ h) p1)
          clear p1
          go_wp2
          go_upto_region 10 with fail
          go_quiet (fail)
          go_wp2
          go_roundg k1
          case measure => have := HI.out; omega
          case rel => exact ⟨i + 1, by first | rfl | (rw [hwi]), ⟨by have := HI.out; omega, by have := HCI.out; omega⟩, ⟨HNEXT.out HGT.out⟩, by repeat (first | exact Drawn0.refl _ | apply Drawn0.step)⟩
      · have q0 : decide (0 < op) = false := decide_eq_false p0
        have HGT := Lib.hid (show Good t from fun h => absurd (HOP2.out ▸ h) (by omega))
        clear p0
        go_wp2
        go_upto_region 10 with fail
        go_quiet (fail)
        go_wp2
        go_roundg k1
        case measure => have := HI.out; omega
        case rel => exact ⟨i + 1, by first | rfl | (rw [hwi]), ⟨by have := HI.out; omega, by have := HCI.out; omega⟩, ⟨HNEXT.out HGT.out⟩, by repeat (first | exact Drawn0.refl _ | apply Drawn0.step)⟩
    · have ei : i = ts0.length := by have := HI.out; omega
      have HALL := Lib.hid (show ∀ t ∈ ts0, Good t from fun t ht => by
        obtain ⟨j, hj, rfl⟩ := List.mem_iff_getElem.1 ht
        have := HGD.out j (by omega)
        simpa [List.getD_eq_getElem?_getD, hj] using this)
      have cb : decide ((i : Int) < (ts0.length : Int)) = false := decide_eq_false (by omega)
      have cb2 := eq_false ci
      clear ci HGD HI ei HTS
      by_cases hbad : 0 ≤ bad
      · have qb : decide (0 ≤ bad) = true := decide_eq_true hbad
        clear hbad
        go_wp2
        go_ret
        exact ⟨by first | rfl | (simp; done), pw_below_drewN HB1.out _⟩
      · have qb : decide (0 ≤ bad) = false := decide_eq_false hbad
        have hb1 : bad = -1 := by rcases Cut.bad_range HC0.out with h | h; exact h; omega
        subst hb1
        have HACC := Lib.hid (fun j => acc_len HBY.out HC0.out j)
        have HACL := Lib.hid (acc_all HBY.out HC0.out)
        obtain ⟨W, hW⟩ : ∃ W, w1.drewN m = W := ⟨_, rfl⟩
        rw [hW]
        have HB := Aside0.mk (show Below w.heap.size w W from hW ▸ pw_below_drewN HB1.out m)
        have HDIS := Lib.hid (disasm_calls A c l W (Kd.V_mono (Kd.V_step HV0.out (fun k hk _ => HB.out.block k hk.2)) (fun _ _ => trivial)) HBY.out HLN.out ts0 HT.out (fun t ht h1 h2 => by have := (HALL.out t ht h1 h2).1; omega))
        obtain ⟨s, hs⟩ : ∃ s, (⟨(joined (ts0.map txtOf)).toArray⟩ : ByteArray) = s := ⟨_, rfl⟩
        have hsl : s.data.toList = joined (ts0.map txtOf) := by rw [← hs]
        have hbound : ∀ u ∈ ts0.map txtOf, u.length ≤ 10000 := fun u hu => by
          obtain ⟨t, ht, rfl⟩ := List.mem_map.1 hu
          have h1 := HTOK.out t ht
          have h2 := txt_len t h1.1
          have h3 := HLN.out
          omega
        have hjl := joined_len 10000 (ts0.map txtOf) hbound
        obtain ⟨kw, hkw⟩ := words_f s (by rw [size_list, hsl]; rw [List.length_map] at hjl; have := HLEN.out; omega) (ts0.map txtOf) hsl (fun u hu => by
          obtain ⟨t, ht, rfl⟩ := List.mem_map.1 hu
          exact txt_ok (HTOK.out t ht).1 (HALL.out t ht)) (by rw [List.length_map]; have := HLEN.out; omega)
        obtain ⟨ws, hws⟩ : ∃ ws : List ByteArray, ((ts0.map txtOf).map fun t => ⟨t.toArray⟩) = ws := ⟨_, rfl⟩
        rw [hws] at hkw
        rw [hs] at HDIS
        have HWL := Lib.hid (show ws.length = ts0.length by rw [← hws]; simp)
        have HWA := Lib.hid (fun (j : Nat) (hj : j < ts0.length) => show rdOf ByteArray.empty ws (j : Int) = ⟨(txtOf (ts0.getD j z)).toArray⟩ by rw [← hws]; simp [rdOf, List.getD_eq_getElem?_getD, hj])
        have HKW := Lib.hid hkw
        clear hs hsl hbound hjl hkw hws hW HB1 HN1 hbad
        go_wp2_with (first
          | (go_at_call 7; go_must ((with_reducible refine HDIS.out.mono ?_); rintro e w2 ⟨rfl, h1⟩; have HB2 := Aside0.mk (below_step HB.out h1); clear h1))
          | (go_at_call 8; go_must ((with_reducible refine (laws_words.calls kw s ws _ HKW.out).mono ?_); rintro e w3 ⟨v0, rfl, hR, hB⟩; obtain ⟨A3, c3, rfl⟩ := Kd.R_slice hR; have HR3 := Aside0.mk (Kd.R_reads' hR).2.2; have HB3 := Aside0.mk (below_step HB2.out hB); clear hR hB HB2)))
        clear HB HDIS HKW
        go_loopg [9, 11, 12, 13, 14, 15, 81] (ws.length + 1) (fun kq v9 v11 v12 v13 v14 v15 v81 w' => ∃ j : Nat, v81 = .int .i64 (j : Int) ∧ Aside0 (j + kq = ws.length + 1 ∧ j ≤ ws.length) ∧ Aside0 (Kd.R (Kd.int .u8) 5 w' w3.heap.size (fun _ => True) v9 (acc ts0 j)) ∧ Aside0 (Below w3.heap.size w3 w'))
        case atStart => exact ⟨0, rfl, ⟨by omega, by omega⟩, ⟨Kd.R_nil _ _ _ _ _⟩, ⟨Below.refl _ _⟩⟩
        case round =>
          obtain ⟨j, rfl, HJ, HR, HBL⟩ := hrel
          by_cases cj : j < ws.length
          · obtain ⟨k1, rfl⟩ : ∃ k1, gk = k1 + 1 := ⟨gk - 1, by have := HJ.out; omega⟩
            have hj : j < ts0.length := by rw [← HWL.out]; exact cj
            obtain ⟨ad, e, x0⟩ := Kd.at_string (Kd.C_below HR3.out HBL.out) (j : Int) (by omega) (by omega)
            subst e
            rw [HWA.out j hj, Int.toNat_natCast] at x0
            have cjb : decide ((j : Int) < (ws.length : Int)) = true := decide_eq_true (by omega)
            have cjb2 := eq_true cj
            have hwj : wrap64 ((j : Int) + 1) = ((j + 1 : Nat) : Int) := wrap_succ (by have := HLEN.out; omega)
            have HCJ := Lib.hid cj
            have HAS := Lib.hid (acc_succ hj z)
            obtain ⟨t, htk⟩ : ∃ t, ts0.getD j z = t := ⟨_, rfl⟩
            have hmem : t ∈ ts0 := by rw [← htk]; simp [List.getD_eq_getElem?_getD, hj]
            have HTT := Lib.hid (HTOK.out t hmem)
            have HGT := Lib.hid (HALL.out t hmem)
            rw [htk] at x0 HAS
            obtain ⟨a, ha⟩ : ∃ a, acc ts0 j = a := ⟨_, rfl⟩
            have HAL := Lib.hid (show a.length ≤ 4000 from by have h1 := HACC.out j; have h2 := HLN.out; rw [ha] at h1; omega)
            rw [ha] at HR HAS
            clear cj hj htk hmem ha
            by_cases hp : t.op = 0 ∨ 78 < t.op
            · obtain ⟨kop, hkop⟩ := opcode_word (single_of HTT.out.1 hp)
              have ew : txtOf t = wordI t.op.toNat := if_pos hp
              rw [← ew, Int.toNat_of_nonneg HTT.out.1.1] at hkop
              have er := raw_single hp (HTT.out.2.2.2 hp)
              rw [er] at HAS
              obtain ⟨u, hu⟩ : ∃ u, (⟨(txtOf t).toArray⟩ : ByteArray) = u := ⟨_, rfl⟩
              rw [hu] at hkop x0
              obtain ⟨op, hop⟩ : ∃ op, t.op = op := ⟨_, rfl⟩
              rw [hop] at hkop HAS HTT
              have HKOP := Lib.hid hkop
              have h256 : op % 256 = op := by have := HTT.out.1; omega
              have hwu : IntKind.u8.wrap op = op := by rw [IntKind.wrap_u8]; exact h256
              clear hkop ew er hu hop hp
              go_wp2_with (first
                | (go_at_call 9; go_must ((with_reducible refine (laws_opcode.calls kop u op true _ HKOP.out).mono ?_); rintro e w4 ⟨rfl, h1⟩; have n0_ := Aside0.mk (Kd.R_below HR.out h1); have n1_ := Aside0.mk (below_step HBL.out h1); clear HR HBL h1; have HR := n0_; have HBL := n1_; clear n0_ n1_))
                | ((with_reducible refine gate_builtin (b := .append) (xs := #[.tmp 91, .tmp 94]) rfl ?_); at_builtin; go_must (refine Kd.R_append (Kd.int .u8) (w0 := w3) w3.heap.size rfl (.tmp 91) (.tmp 94) 22 5 (.int .u8 0) 1 rfl Try.underlying22 info_u8 rfl (by decide) (by omega) u9 a op [.int .u8 op] (fun _ => True) (fun _ => False) rfl rfl ?aP (fun _ hk => hk.elim) ?aF ?aO ?aB ?aS ?aL ?_); (case aP => exact rfl); (case aB => exact HBL.out); (case aF => exact (fun _ _ => trivial)); (case aO => exact HR.out); (case aS => exact HBL.out.size); (case aL => have := HAL.out; omega); intro v_ w_ ho hb hg hat; have n0_ := Aside0.mk (show Kd.R (Kd.int .u8) 5 w_ w3.heap.size (fun _ => True) v_ (acc ts0 (j + 1)) from HAS.out ▸ ho); have n1_ := Aside0.mk hb; clear HR HBL ho hb hg hat; have HR := n0_; have HBL := n1_; clear n0_ n1_))
              go_roundg k1
              case measure => have := HJ.out; omega
              case rel => exact ⟨j + 1, by first | rfl | (rw [hwj]), ⟨by have := HJ.out; omega, by have := HCJ.out; omega⟩, HR, HBL⟩
            · have hg := HGT.out (by have := HTT.out.1; omega) (by omega)
              have hd := HTT.out.2.1
              have hl := HTT.out.2.2.1
              have hnl := HLN.out
              have hbl : (Lib.bytesOf t.data).length = t.data.length := Lib.bytesOf_length _
              obtain ⟨kop, hkop⟩ := opcode_hex (Lib.bytesOf t.data) (by rw [hbl]; exact hg.1)
              obtain ⟨ku, hku⟩ := unhex_f t.data hd (by omega)
              obtain ⟨kp, hkp⟩ := push_f t.data t.at_ hg.1 (by omega)
              rw [hg.2] at hkp
              have er : raw ⟨t.op, t.data, t.at_⟩ = raw t := rfl
              rw [er] at hkp
              have hrl : (raw t).length ≤ 4000 := by
                have h1 := HACC.out (j + 1)
                rw [HAS.out, List.length_append] at h1
                omega
              have ew : txtOf t = Hx.encode (Lib.bytesOf t.data) := if_neg hp
              rw [← ew] at hkop hku
              obtain ⟨u, hu⟩ : ∃ u, (⟨(txtOf t).toArray⟩ : ByteArray) = u := ⟨_, rfl⟩
              rw [hu] at hkop hku x0
              obtain ⟨dt, hdt⟩ : ∃ d, t.data = d := ⟨_, rfl⟩
              obtain ⟨rw_, hrw⟩ : ∃ r, raw t = r := ⟨_, rfl⟩
              rw [hdt] at hku hkp
              rw [hrw] at hkp HAS hrl
              have HKOP := Lib.hid hkop
              have HKU := Lib.hid hku
              have HKP := Lib.hid hkp
              have HRL := Lib.hid hrl
              clear hkop hku hkp hrl ew hu hdt hrw hp hg hd hl hnl hbl er
              go_wp2_with (first
                | (go_at_call 9; go_must ((with_reducible refine (laws_opcode.calls kop u 0 false _ HKOP.out).mono ?_); rintro e w4 ⟨rfl, h1⟩; have n0_ := Aside0.mk (Kd.R_below HR.out h1); have n1_ := Aside0.mk (below_step HBL.out h1); clear HR HBL h1; have HR := n0_; have HBL := n1_; clear n0_ n1_))
                | (go_at_call 10; go_must ((with_reducible refine (laws_unhex.calls ku u dt true _ HKU.out).mono ?_); rintro e w5 ⟨v1, rfl, hR5, h1⟩; obtain ⟨A5, c5, rfl⟩ := Kd.R_slice hR5; have HC5 := Aside0.mk (Kd.R_reads' hR5).2.2; have HD5 := Aside0.mk (Kd.R_reads' hR5).2.1; have n0_ := Aside0.mk (Kd.R_below HR.out h1); have n1_ := Aside0.mk (below_step HBL.out h1); clear HR HBL h1 hR5; have HR := n0_; have HBL := n1_; clear n0_ n1_))
                | (go_at_call 11; go_must ((with_reducible refine (spec_Push.calls kp A5 c5 dt rw_ _ HC5.out HD5.out HKP.out).mono ?_); rintro e w6 ⟨v2, rfl, hR6, h1⟩; obtain ⟨A6, c6, rfl⟩ := Kd.R_slice hR6; have HC6 := Aside0.mk (Kd.R_reads' hR6).2.2; have n0_ := Aside0.mk (Kd.R_below HR.out h1); have n1_ := Aside0.mk (below_step HBL.out h1); clear HR HBL h1 hR6; have HR := n0_; have HBL := n1_; clear n0_ n1_))
                | ((with_reducible refine gate_builtin (b := .append) (xs := #[.tmp 103, .tmp 105]) rfl ?_); at_builtin; go_must (refine Kd.R_append_rows (Kd.int .u8) (w0 := w3) w3.heap.size rfl (.tmp 103) (.tmp 105) 22 5 (.int .u8 0) 1 rfl Try.underlying22 info_u8 rfl (by decide) (by omega) u9 a rw_ _ _ _ (fun _ => True) (fun _ => False) rfl rfl ?aO ?aR (fun _ _ h => h) (fun _ h => h.elim) ?aF ?aB ?aS ?aL ?_); (case aR => exact HC6.out); (case aB => exact HBL.out); (case aF => exact (fun _ _ => trivial)); (case aO => exact HR.out); (case aS => exact HBL.out.size); (case aL => have := HAL.out; have := HRL.out; omega); intro v_ w_ ho hb hg hat; have n0_ := Aside0.mk (show Kd.R (Kd.int .u8) 5 w_ w3.heap.size (fun _ => True) v_ (acc ts0 (j + 1)) from HAS.out ▸ ho); have n1_ := Aside0.mk hb; clear HR HBL ho hb hg hat; have HR := n0_; have HBL := n1_; clear n0_ n1_))
              go_roundg k1
              case measure => have := HJ.out; omega
              case rel => exact ⟨j + 1, by first | rfl | (rw [hwj]), ⟨by have := HJ.out; omega, by have := HCJ.out; omega⟩, HR, HBL⟩
          · have ej : j = ts0.length := by have := HJ.out; have := HWL.out; omega
            have cjb : decide ((j : Int) < (ws.length : Int)) = false := decide_eq_false (by omega)
            have cjb2 := eq_false cj
            have HR9 := Aside0.mk (show Kd.R (Kd.int .u8) 5 wr w3.heap.size (fun _ => True) u9 l from by have := HR.out; rwa [ej, HACL.out] at this)
            obtain ⟨A9, c9, rfl⟩ := Kd.R_slice HR9.out
            obtain ⟨ks, hks⟩ := same_f l (by have := HLN.out; omega)
            have HKS := Lib.hid hks
            have HBW := Lib.hid (HB3.out.trans (HBL.out.mono HB3.out.size))
            have HVW := Lib.hid (Kd.V_reads' (Kd.V_step HV0.out (fun k hk _ => HBW.out.block k hk.2)))
            have HC9 := Lib.hid (Kd.R_reads' HR9.out)
            clear HR ej hks HR9 cj
            go_wp2_with (go_at_call 12; go_must ((with_reducible refine (laws_same.calls ks A9 c9 l A c l true _ HC9.out.2.2 HC9.out.2.1 HVW.out.2.2 HVW.out.2.1 HKS.out).mono ?_); rintro e w9 ⟨rfl, ⟨d9, rfl⟩⟩))
            go_ret
            exact ⟨rfl, pw_below_drewN HBW.out _⟩
theorem law_walk (A : Option Addr) (c : Nat) (l : List Int) (w : World) (hs : Kd.V (Kd.int .u8) 5 w w.heap.size (fun _ => True) (.slice A l.length c) l) (hb : Tok.Bytes l) :
    Calls Try.prog 3 #[.slice A l.length c] w fun e w' => e = .returned (.bool true) ∧ Below w.heap.size w w' := by
  by_cases h1 : l.length ≤ 4000
  · exact law_near A c l w hs hb h1
  · by_cases h2 : l.length ≤ 2147483647
    · have g1 : decide ((2147483647 : Int) < (l.length : Int)) = false := decide_eq_false (by omega)
      have g2 : decide ((4000 : Int) < (l.length : Int)) = true := decide_eq_true (by omega)
      clear h1 h2 hs
      go_enter Try.func3, Try.ntmps3
      go_wp2
      go_ret
      exact ⟨by first | rfl | (simp; done), Below.refl _ _⟩
    · have g1 : decide ((2147483647 : Int) < (l.length : Int)) = true := decide_eq_true (by omega)
      clear h1 h2 hs
      go_enter Try.func3, Try.ntmps3
      go_wp2
      go_ret
      exact ⟨by first | rfl | (simp; done), Below.refl _ _⟩
theorem row_walk (a : Option Addr) (len cap : Nat) (z : List Int) (w : World) (h : Row.Arg .u8 w a len cap z) (_ : len * 1 ≤ 140737488351232) :
    Calls Try.prog 3 #[.slice a len cap] w fun e w' => e = .returned (.bool true) ∧ Below w.heap.size w w' := by
  obtain ⟨l, rfl, hv, hb⟩ := Row.arg_V h
  exact law_walk a cap l w hv hb
end Go.Proofs.Ytafpmdmmeohmfaa.Dr
