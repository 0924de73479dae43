/-
  MurmurHash3: the walk of the reference's function, and of the law.
-/
import Derived.Test.YtojadhcbjcpifaaMurImpl
import Derived.Test.YtojadhcbjcpifaaPFnBloomOutx1
namespace Go.Proofs.Ytojadhcbjcpifaa.Mur
open Go.RowKit Go.Proofs.YtojadhcbjcpifaaW.PrintWords Go.Proofs.YtojadhcbjcpifaaW.PrintLast Go.Proofs.YtojadhcbjcpifaaW.PrintMore Go.Proofs.Ytojadhcbjcpifaa.Tok
set_option linter.unusedSimpArgs false
set_option linter.unusedVariables false

theorem rot15 (x : Int) : PFnBloomOut.spec_rotate.f x 15 = some (rotL x 32768 131072) := by
  have e : wrap64 (32 - 15) = 17 := by decide +kernel
  unfold PFnBloomOut.spec_rotate.f
  rw [e, if_pos (by decide), if_pos (by decide)]
  rfl
theorem rot13 (x : Int) : PFnBloomOut.spec_rotate.f x 13 = some (rotL x 8192 524288) := by
  have e : wrap64 (32 - 13) = 19 := by decide +kernel
  unfold PFnBloomOut.spec_rotate.f
  rw [e, if_pos (by decide), if_pos (by decide)]
  rfl
set_option maxRecDepth 100000 in
theorem mix_calls (k : Int) (w : World) : Calls Try.prog 16 #[.int .u32 k] w fun e w' => e = .returned (.int .u32 (mixK k)) ∧ Drawn0 w w' := by
  go_enter Try.func16, Try.ntmps16
  go_wp2_with (go_at_call 17; go_must (refine (PFnBloomOut.spec_rotate.calls _ _ _ _ (rot15 _)).mono ?_; rintro e w1 ⟨rfl, ⟨m, rfl⟩⟩))
  go_ret
  refine ⟨?_, ⟨⟨m, rfl⟩⟩⟩
  unfold mixK
  simp only [IntKind.wrap_u32]
  rfl
set_option maxHeartbeats 16000000 in
set_option maxRecDepth 100000 in
theorem spec_calls (A : Option Addr) (c : Nat) (l : List Int) (seed : Int) (w : World) (hV : Kd.C (Kd.int .u8) w A l.length l) (hb : Bytes l) (hl : l.length ≤ 100000) (hsd : 0 ≤ seed ∧ seed < 4294967296) :
    Calls Try.prog 6 #[.int .u32 seed, .slice A l.length c] w fun e w' => e = .returned (.int .u32 (murm seed l)) ∧ Drawn0 w w' := by
  have HC := Lib.hid hV
  have HBY := Lib.hid hb
  have HSD := Lib.hid hsd
  obtain ⟨q, hq⟩ : ∃ q : Nat, l.length / 4 = q := ⟨_, rfl⟩
  obtain ⟨s, hs⟩ : ∃ s : Nat, 4 * q = s := ⟨_, rfl⟩
  have hw : IntKind.u32.wrap (l.length : Int) = (l.length : Int) := w32_id (by omega) (by omega)
  have HQ := Lib.hid hq
  have HS := Lib.hid hs
  have hq3 : q ≤ 25000 := by omega
  have hsl : s ≤ l.length := by omega
  have hsl2 : l.length < s + 4 := by omega
  clear hV hb hsd hq hs
  go_enter Try.func6, Try.ntmps6
  go_wp2
  go_loopg [5, 8, 9] (q + 1) (fun kq v5 v8 v9 w' => ∃ (j s1 : Nat) (h : Int), j ≤ q ∧ q < kq + j ∧ v8 = .int .i64 s1 ∧ v5 = .int .u32 h ∧ Hid (4 * j = s1) ∧ Hid (h = hs seed l j) ∧ Drawn0 w w')
  case atStart => exact ⟨0, 0, seed, Nat.zero_le _, by omega, rfl, rfl, Lib.hid rfl, Lib.hid rfl, Drawn0.refl _⟩
  case round =>
    obtain ⟨j, s1, h, hj, hk, rfl, rfl, HS1, HH, HD⟩ := hrel
    cases gk with
    | zero => omega
    | succ kk =>
      by_cases hlt : j < q
      · have hs1 : s1 + 4 ≤ l.length := by have := HS1.out; have := HQ.out; omega
        have hle : decide ((s1 : Int) + 4 ≤ (l.length : Int)) = true := decide_eq_true (by omega)
        have CC := Kd.C_below HC.out HD.below
        obtain ⟨ad, e_, y0⟩ := Kd.at_int CC (s1 : Int) (by omega) (by omega)
        cases e_
        obtain ⟨ad_, e_, y1⟩ := Kd.at_int CC ((s1 + 1 : Nat) : Int) (by omega) (by omega)
        cases e_
        obtain ⟨ad_, e_, y2⟩ := Kd.at_int CC ((s1 + 2 : Nat) : Int) (by omega) (by omega)
        cases e_
        obtain ⟨ad_, e_, y3⟩ := Kd.at_int CC ((s1 + 3 : Nat) : Int) (by omega) (by omega)
        cases e_
        simp only [Int.toNat_natCast, rd] at y0 y1 y2 y3
        rw [show ad.add (s1 + 1) = ⟨ad.block, ad.off + (s1 + 1), none⟩ from by simp [Addr.add]] at y1
        rw [show ad.add (s1 + 2) = ⟨ad.block, ad.off + (s1 + 2), none⟩ from by simp [Addr.add]] at y2
        rw [show ad.add (s1 + 3) = ⟨ad.block, ad.off + (s1 + 3), none⟩ from by simp [Addr.add]] at y3
        have hd : (l.drop s1).take 4 = [l.getD s1 0, l.getD (s1 + 1) 0, l.getD (s1 + 2) 0, l.getD (s1 + 3) 0] := by
          have e1 : (l.drop s1).take 4 = (l.take (s1 + 4)).drop s1 := by rw [List.drop_take]; congr 1; omega
          have e2 := drop_tail (l.take (s1 + 4)) s1 4 (by rw [List.length_take]; omega)
          rw [e1, e2]
          have e3 : ∀ i, i < 4 → (l.take (s1 + 4)).getD (s1 + i) 0 = l.getD (s1 + i) 0 := fun i hi => by
            rw [List.getD_eq_getElem?_getD, List.getD_eq_getElem?_getD, List.getElem?_take, if_pos (by omega)]
          show [(l.take (s1 + 4)).getD (s1 + 0) 0, (l.take (s1 + 4)).getD (s1 + 1) 0, (l.take (s1 + 4)).getD (s1 + 2) 0, (l.take (s1 + 4)).getD (s1 + 3) 0] = _
          rw [e3 0 (by omega), e3 1 (by omega), e3 2 (by omega), e3 3 (by omega)]
          rfl
        have r0 := HBY.out.getD s1
        have r1 := HBY.out.getD (s1 + 1)
        have r2 := HBY.out.getD (s1 + 2)
        have r3 := HBY.out.getD (s1 + 3)
        obtain ⟨b0, h0⟩ : ∃ b, l.getD s1 0 = b := ⟨_, rfl⟩
        obtain ⟨b1, h1⟩ : ∃ b, l.getD (s1 + 1) 0 = b := ⟨_, rfl⟩
        obtain ⟨b2, h2⟩ : ∃ b, l.getD (s1 + 2) 0 = b := ⟨_, rfl⟩
        obtain ⟨b3, h3⟩ : ∃ b, l.getD (s1 + 3) 0 = b := ⟨_, rfl⟩
        rw [h0] at hd y0 r0
        rw [h1] at hd y1 r1
        rw [h2] at hd y2 r2
        rw [h3] at hd y3 r3
        have HDR := Lib.hid hd
        have l1 : s1 + 1 < l.length := by omega
        have l2 : s1 + 2 < l.length := by omega
        have l3 : s1 + 3 < l.length := by omega
        have l0 : s1 < l.length := by omega
        have w1 : IntKind.i64.wrap ((s1 : Int) + 1) = (s1 : Int) + 1 := (i64_w _).trans (wrap64_id (by omega) (by omega))
        have w2 : IntKind.i64.wrap ((s1 : Int) + 2) = (s1 : Int) + 2 := (i64_w _).trans (wrap64_id (by omega) (by omega))
        have w3 : IntKind.i64.wrap ((s1 : Int) + 3) = (s1 : Int) + 3 := (i64_w _).trans (wrap64_id (by omega) (by omega))
        have t1 : ((s1 : Int) + 1).toNat = s1 + 1 := by omega
        have t2 : ((s1 : Int) + 2).toNat = s1 + 2 := by omega
        have t3 : ((s1 : Int) + 3).toNat = s1 + 3 := by omega
        obtain ⟨x, hx⟩ : ∃ x, b0 + b1 * 256 + b2 * 65536 + b3 * 16777216 = x := ⟨_, rfl⟩
        have m0 : IntKind.u32.wrap b0 = b0 := w32_id (by omega) (by omega)
        have m1 : IntKind.u32.wrap (b1 * 256) = b1 * 256 := w32_id (by omega) (by omega)
        have m2 : IntKind.u32.wrap (b2 * 65536) = b2 * 65536 := w32_id (by omega) (by omega)
        have m3 : IntKind.u32.wrap (b3 * 16777216) = b3 * 16777216 := w32_id (by omega) (by omega)
        have p1 : IntKind.u32.wrap (b0 + b1 * 256) = b0 + b1 * 256 := w32_id (by omega) (by omega)
        have p2 : IntKind.u32.wrap (b0 + b1 * 256 + b2 * 65536) = b0 + b1 * 256 + b2 * 65536 := w32_id (by omega) (by omega)
        have hxr : 0 ≤ x ∧ x < 4294967296 := by omega
        have p3 : IntKind.u32.wrap x = x := w32_id hxr.1 hxr.2
        have HX := Lib.hid hx
        have HXR := Lib.hid hxr
        clear h0 h1 h2 h3 hd CC hxr
        go_wp2
        go_quiet (fail)
        go_wp2_with (first
          | (go_at_call 16; go_must (refine (mix_calls _ _).mono ?_; rintro e w1 ⟨rfl, ⟨ma, rfl⟩⟩))
          | (go_at_call 17; go_must (refine (PFnBloomOut.spec_rotate.calls _ _ _ _ (rot13 _)).mono ?_; rintro e w1 ⟨rfl, ⟨mb, rfl⟩⟩)))
        go_roundg kk
        case measure => omega
        case rel =>
          refine ⟨j + 1, s1 + 4, _, by omega, by omega, by first | rfl | (simp; done), rfl, Lib.hid (by have := HS1.out; omega), Lib.hid ?_, ?_⟩
          · have e1 := HH.out
            have e3 := HX.out
            rw [hs, HS1.out, HDR.out, ← e1]
            have e2 : leV [b0, b1, b2, b3] = x := by rw [← e3]; simp only [leV]; omega
            rw [e2]
            unfold stepM
            simp only [IntKind.wrap_u32]
            first | done | rfl | (simp; done)
          · repeat (first | exact HD | apply Drawn0.step)
      · obtain rfl : j = q := by omega
        obtain rfl : s1 = s := by have := HS1.out; have := HS.out; omega
        have hle : decide ((s1 : Int) + 4 ≤ (l.length : Int)) = false := decide_eq_false (by omega)
        have HHR := Lib.hid (show 0 ≤ h ∧ h < 4294967296 by rw [HH.out]; exact hs_range HSD.out l j)
        have w1 : wrap64 ((l.length : Int) - 1) = (l.length : Int) - 1 := wrap64_id (by omega) (by omega)
        obtain ⟨r, hr⟩ : ∃ r : Nat, l.length = s1 + r := ⟨l.length - s1, by omega⟩
        have hr4 : r < 4 := by omega
        have HR := Lib.hid hr
        clear hk hlt hr
        go_wp2
        go_loopg [10, 11] (r + 1) (fun kq v10 v11 w' => ∃ (t : Nat) (k a : Int), t ≤ r ∧ t < kq ∧ v10 = .int .u32 k ∧ v11 = .int .i64 a ∧ Hid (a = (s1 : Int) + (t : Int) - 1) ∧ Hid (k = leV (l.drop (s1 + t))) ∧ Drawn0 w w')
        case atStart => exact ⟨r, 0, _, Nat.le_refl _, Nat.lt_succ_self _, rfl, rfl, Lib.hid (by have := HR.out; omega), Lib.hid (by rw [← HR.out, List.drop_length]; rfl), HD⟩
        case round =>
          obtain ⟨t, k, a, ht, hk2, rfl, rfl, HA, HK, HD⟩ := hrel
          cases gk with
          | zero => omega
          | succ kk2 =>
            cases t with
            | zero =>
              have hge : decide ((s1 : Int) ≤ a) = false := decide_eq_false (by have := HA.out; omega)
              have HKK := Lib.hid (show mixK k = mixK (leV (l.drop s1)) by rw [HK.out]; rfl)
              clear hr4
              go_wp2_with (go_at_call 16; go_must (refine (mix_calls _ _).mono ?_; rintro e w1 ⟨rfl, ⟨ma, rfl⟩⟩))
              go_ret
              refine ⟨?_, ?_⟩
              · rw [show murm seed l = fin (bits .xor .u32 (hs seed l j) (mixK (leV (l.drop s1)))) l.length from by unfold murm; rw [HQ.out, HS.out], ← HKK.out, ← HH.out]
                unfold fin fin3 fin2 fin1
                simp only [IntKind.wrap_u32]
                first | done | rfl
              · repeat (first | exact HD | apply Drawn0.step)
            | succ t =>
              have e : a = ((s1 + t : Nat) : Int) := by have := HA.out; omega
              obtain ⟨b, hb⟩ : ∃ b : Nat, s1 + t = b := ⟨_, rfl⟩
              rw [hb] at e
              subst e
              have hlt2 : b < l.length := by have := HR.out; omega
              have hge : decide ((s1 : Int) ≤ (b : Int)) = true := decide_eq_true (by omega)
              have hge2 : decide (s1 ≤ b) = true := decide_eq_true (by omega)
              obtain ⟨ad, e_, y0⟩ := Kd.at_int (Kd.C_below HC.out HD.below) (b : Int) (by omega) (by omega)
              cases e_
              simp only [Int.toNat_natCast, rd] at y0
              have r0 := HBY.out.getD b
              obtain ⟨x, hx⟩ : ∃ x, l.getD b 0 = x := ⟨_, rfl⟩
              rw [hx] at y0 r0
              have hdrop : l.drop b = x :: l.drop (b + 1) := by rw [List.drop_eq_getElem_cons hlt2, ← hx]; simp [List.getD_eq_getElem?_getD, hlt2]
              have hkr : 0 ≤ k ∧ k < 65536 := by
                have e1 := HK.out
                have h3 : (l.drop (s1 + (t + 1))).length ≤ 2 := by rw [List.length_drop]; have := HR.out; omega
                have h4 := HBY.out.drop (s1 + (t + 1))
                generalize l.drop (s1 + (t + 1)) = d at e1 h3 h4
                rw [e1]
                match d, h3, h4 with
                | [], _, _ => decide
                | [u], _, h4 => have := h4 u (by simp); simp only [leV]; omega
                | [u, v], _, h4 => have := h4 u (by simp); have := h4 v (by simp); simp only [leV]; omega
              have HKN := Lib.hid (show k * 256 + x = leV (l.drop (s1 + t)) by
                rw [hb, hdrop, leV, HK.out, show s1 + (t + 1) = b + 1 by omega]; omega)
              have hb0 : IntKind.i64.wrap ((b : Int) - 1) = (b : Int) - 1 := (i64_w _).trans (wrap64_id (by omega) (by omega))
              have HBB := Lib.hid hb
              have hk1 := hkr.1
              have hk3 := hkr.2
              have x0 := r0.1
              have x1 := r0.2
              clear hr4 hkr hdrop hx r0 HA HK
              go_wp2
              go_roundg kk2
              case measure => omega
              case rel => exact ⟨t, k * 256 + x, (b : Int) - 1, by omega, by omega, by first | rfl | (simp; done) | skip, by first | rfl | (simp; done), Lib.hid (by have := HBB.out; omega), HKN, by repeat (first | exact HD | apply Drawn0.step)⟩
end Go.Proofs.Ytojadhcbjcpifaa.Mur
