/-
  MurmurHash3: the walk of the package's function.
-/
import Derived.Test.YtojadhcbjcpifaaEnd
import Derived.Test.YtojadhcbjcpifaaMurPure
namespace Go.Proofs.Ytojadhcbjcpifaa.Mur
open Go.RowKit Go.Proofs.YtojadhcbjcpifaaW.PrintWords Go.Proofs.YtojadhcbjcpifaaW.PrintLast Go.Proofs.Ytojadhcbjcpifaa.Tok
set_option linter.unusedSimpArgs false
set_option linter.unusedVariables false

theorem w32_id {x : Int} (h0 : 0 ≤ x) (h1 : x < 4294967296) : IntKind.u32.wrap x = x := by rw [IntKind.wrap_u32]; omega
theorem drop_tail (l : List Int) (s r : Nat) (h : l.length = s + r) : l.drop s = (List.range r).map (fun i => l.getD (s + i) 0) := by
  apply List.ext_getElem?
  intro i
  rw [List.getElem?_drop, List.getElem?_map]
  rcases Nat.lt_or_ge i r with hi | hi
  · rw [List.getElem?_eq_getElem (by omega), List.getElem?_range hi]
    simp only [Option.map_some, List.getD_eq_getElem?_getD]
    rw [List.getElem?_eq_getElem (by omega)]
    rfl
  · rw [List.getElem?_eq_none (by omega), List.getElem?_eq_none (by simp; omega)]
    rfl
set_option maxHeartbeats 16000000 in
set_option maxRecDepth 100000 in
theorem hash_calls (A : Option Addr) (c : Nat) (l : List Int) (seed : Int) (w : World) (hV : Kd.V (Kd.int .u8) 5 w w.heap.size (fun _ => True) (.slice A l.length c) l) (hb : Bytes l) (hl : l.length ≤ 100000) (hsd : 0 ≤ seed ∧ seed < 4294967296) :
    Calls Try.prog 15 #[.int .u32 seed, .slice A l.length c] w fun e w' => e = .returned (.int .u32 (murm seed l)) ∧ Below w.heap.size w w' := by
  have HV := Lib.hid hV
  have HBY := Lib.hid hb
  have HLN := Lib.hid hl
  have HSD := Lib.hid hsd
  have HB0 := Lib.hid (Below.refl w.heap.size w)
  obtain ⟨q, hq⟩ : ∃ q : Nat, l.length / 4 = q := ⟨_, rfl⟩
  have hw : IntKind.u32.wrap (l.length : Int) = (l.length : Int) := w32_id (by omega) (by omega)
  have hq2 : (l.length : Int) / 4 = (q : Int) := by omega
  have HQ := Lib.hid hq
  have hq3 : q ≤ 25000 := by omega
  clear hV hb hsd hq
  go_enter Try.func15, Try.ntmps15
  go_wp2
  go_outline
  go_loopg [6, 7, 9] (q + 1) (fun kq v6 v7 v9 w' => ∃ (j : Nat) (h k : Int), j ≤ q ∧ q < kq + j ∧ v9 = .int .u32 j ∧ v6 = .int .u32 h ∧ v7 = .int .u32 k ∧ Hid (h = hs seed l j) ∧ Hid (Below w.heap.size w w'))
  case atStart => exact ⟨0, seed, 0, Nat.zero_le _, by omega, rfl, rfl, rfl, Lib.hid rfl, HB0⟩
  case round =>
    obtain ⟨j, h, k, hj, hk, rfl, rfl, rfl, HH, HB⟩ := hrel
    cases gk with
    | zero => omega
    | succ kk =>
      by_cases hlt : j < q
      · obtain ⟨s, hs⟩ : ∃ s, 4 * j = s := ⟨_, rfl⟩
        have hs4 : s + 4 ≤ l.length := by have := HQ.out; omega
        obtain ⟨A2, m2, c2, hm2, cut1, hV1⟩ := from_fact .u32 (Kd.V_below HV.out HB.out) s (by omega)
        have hws : IntKind.u32.wrap (s : Int) = (s : Int) := w32_id (by omega) (by omega)
        have hmul2 : (j : Int) * 4 = (s : Int) := by omega
        have HV1 := Lib.hid (show Kd.C (Kd.int .u8) wr.drew A2 m2 (l.drop s) by
          have h := hV1
          have e : m2 = (l.drop s).length := by rw [hm2, List.length_drop]
          rw [e] at h ⊢
          exact Kd.C_drew (Kd.V_reads' h).2.2)
        have HL4 := Lib.hid (show 4 ≤ (l.drop s).length by rw [List.length_drop]; omega)
        obtain ⟨x, hx⟩ : ∃ x, leV ((l.drop s).take 4) = x := ⟨_, rfl⟩
        have HX := Lib.hid hx
        have HS := Lib.hid hs
        have HBD := Lib.hid (show Below w.heap.size w wr.drew from below_drew HB.out)
        have HBY2 := Lib.hid (HBY.out.drop s)
        have jb : (j : Int) + 1 < 4294967296 := by omega
        clear hs hs4 hm2 hV1 hx
        go_wp2
        go_still_tail 5, (by kernel_rfl)
        change wpList _ _ _ _ _ wr.drew
        generalize wr.drew = w2 at HV1 HBD ⊢
        go_wp2_with (go_at_call 26; refine (u32_long _ _ _ _ _ HV1.out HBY2.out HL4.out x HX.out).mono ?_; rintro e w3 ⟨rfl, hB⟩; have HB3 := Lib.hid (below_step HBD.out hB); clear hB)
        go_roundg kk
        case measure => omega
        case rel =>
          refine ⟨j + 1, _, _, by omega, by omega, by first | rfl | (simp; done), rfl, rfl, Lib.hid ?_, HB3⟩
          have e1 := HH.out
          have e2 := HX.out
          rw [← HS.out] at e2
          rw [hs, ← e1, e2]
          unfold stepM mixK rotL
          simp only [IntKind.wrap_u32]
      · -- TAIL
        obtain rfl : j = q := by omega
        obtain ⟨s, hs⟩ : ∃ s, 4 * j = s := ⟨_, rfl⟩
        have hws : IntKind.u32.wrap (s : Int) = (s : Int) := w32_id (by have := HQ.out; omega) (by have := HQ.out; omega)
        have hmul2 : (j : Int) * 4 = (s : Int) := by omega
        have hr_ : l.length = s ∨ l.length = s + 1 ∨ l.length = s + 2 ∨ l.length = s + 3 := by have := HQ.out; omega
        have HS := Lib.hid hs
        have HC0 := Lib.hid (Kd.V_reads' HV.out).2.2
        have HHR := Lib.hid (show 0 ≤ h ∧ h < 4294967296 by rw [HH.out]; exact hs_range HSD.out l j)
        have hs4 : s % 4 = 0 := by omega
        clear hk hj hlt hs
        rcases hr_ with hr_ | hr_ | hr_ | hr_
        · -- 0
            have hand : bits .and .u32 (l.length : Int) 3 = 0 := by
              have h := bits_mask .u32 32 (by decide) wraps_u32 2 (by decide) (l.length : Int) (by omega) (by omega)
              have e : ((2 : Int) ^ 2 - 1) = 3 := by decide
              rw [e] at h
              rw [h]
              omega
            have hd : l.drop s = [] := List.drop_eq_nil_of_le (by omega)
            have HD := Lib.hid hd
            clear hd
            clear hr_
            go_wp2
            go_ret
            refine ⟨?_, HB.out⟩
            have e : murm seed l = murm seed l := rfl
            · rw [show murm seed l = fin (bits .xor .u32 (hs seed l j) (mixK (leV (l.drop s)))) l.length from by unfold murm; rw [HQ.out, HS.out], HD.out, ← HH.out, show leV [] = 0 from rfl, mix_zero, xor_zero h HHR.out.1 HHR.out.2]
              unfold fin fin3 fin2 fin1
              simp only [IntKind.wrap_u32]
              first | done | rfl
        · -- 1
            have hand : bits .and .u32 (l.length : Int) 3 = 1 := by
              have h := bits_mask .u32 32 (by decide) wraps_u32 2 (by decide) (l.length : Int) (by omega) (by omega)
              have e : ((2 : Int) ^ 2 - 1) = 3 := by decide
              rw [e] at h
              rw [h]
              omega
            have hd : l.drop s = [l.getD (s + 0) 0] := drop_tail l s 1 (by omega)
            obtain ⟨ad, e_, _⟩ := Kd.at_int (Kd.C_below HC0.out HB.out) (s : Int) (by omega) (by omega)
            cases e_
            obtain ⟨ad_, e_, y0⟩ := Kd.at_int (Kd.C_below HC0.out HB.out) ((s + 0 : Nat) : Int) (by omega) (by omega)
            cases e_
            simp only [Int.toNat_natCast, rd] at y0
            obtain ⟨b0, hb0⟩ : ∃ b, l.getD (s + 0) 0 = b := ⟨_, rfl⟩
            have hr0 := HBY.out.getD (s + 0)
            rw [hb0] at y0 hd hr0
            have lt0 : s + 0 < l.length := by omega
            simp only [Nat.add_zero] at y0 lt0
            have k1 : bits .xor .u32 0 b0 = b0 := zero_xor _ (by omega) (by omega)
            have hk : b0 = leV (l.drop s) := by rw [hd]; simp [leV]
            have HK := Lib.hid hk
            clear hk hd hb0
            clear hr_
            go_wp2
            go_ret
            refine ⟨?_, HB.out⟩
            have e : murm seed l = murm seed l := rfl
            · rw [show murm seed l = fin (bits .xor .u32 (hs seed l j) (mixK (leV (l.drop s)))) l.length from by unfold murm; rw [HQ.out, HS.out], ← HK.out, ← HH.out]
              unfold fin fin3 fin2 fin1 mixK rotL
              simp only [IntKind.wrap_u32]
              first | done | rfl
        · -- 2
            have hand : bits .and .u32 (l.length : Int) 3 = 2 := by
              have h := bits_mask .u32 32 (by decide) wraps_u32 2 (by decide) (l.length : Int) (by omega) (by omega)
              have e : ((2 : Int) ^ 2 - 1) = 3 := by decide
              rw [e] at h
              rw [h]
              omega
            have hd : l.drop s = [l.getD (s + 0) 0, l.getD (s + 1) 0] := drop_tail l s 2 (by omega)
            obtain ⟨ad, e_, _⟩ := Kd.at_int (Kd.C_below HC0.out HB.out) (s : Int) (by omega) (by omega)
            cases e_
            obtain ⟨ad_, e_, y0⟩ := Kd.at_int (Kd.C_below HC0.out HB.out) ((s + 0 : Nat) : Int) (by omega) (by omega)
            cases e_
            simp only [Int.toNat_natCast, rd] at y0
            obtain ⟨b0, hb0⟩ : ∃ b, l.getD (s + 0) 0 = b := ⟨_, rfl⟩
            have hr0 := HBY.out.getD (s + 0)
            rw [hb0] at y0 hd hr0
            have lt0 : s + 0 < l.length := by omega
            obtain ⟨ad_, e_, y1⟩ := Kd.at_int (Kd.C_below HC0.out HB.out) ((s + 1 : Nat) : Int) (by omega) (by omega)
            cases e_
            simp only [Int.toNat_natCast, rd] at y1
            obtain ⟨b1, hb1⟩ : ∃ b, l.getD (s + 1) 0 = b := ⟨_, rfl⟩
            have hr1 := HBY.out.getD (s + 1)
            rw [hb1] at y1 hd hr1
            have lt1 : s + 1 < l.length := by omega
            rw [show ad.add (s + 1) = ⟨ad.block, ad.off + (s + 1), none⟩ from by simp [Addr.add]] at y1
            simp only [Nat.add_zero] at y0 lt0
            have k2 : bits .xor .u32 0 (b1 * 256) = b1 * 256 := zero_xor _ (by omega) (by omega)
            have k1 : bits .xor .u32 (b1 * 256) b0 = b1 * 256 + b0 := xor_add 8 _ _ (by omega) (by omega) (by omega) (by omega) (by omega) (by omega)
            have hk : b1 * 256 + b0 = leV (l.drop s) := by rw [hd]; simp only [leV]; omega
            have HK := Lib.hid hk
            clear hk hd hb0 hb1
            clear hr_
            go_wp2
            go_ret
            refine ⟨?_, HB.out⟩
            have e : murm seed l = murm seed l := rfl
            · rw [show murm seed l = fin (bits .xor .u32 (hs seed l j) (mixK (leV (l.drop s)))) l.length from by unfold murm; rw [HQ.out, HS.out], ← HK.out, ← HH.out]
              unfold fin fin3 fin2 fin1 mixK rotL
              simp only [IntKind.wrap_u32]
              first | done | rfl
        · -- 3
            have hand : bits .and .u32 (l.length : Int) 3 = 3 := by
              have h := bits_mask .u32 32 (by decide) wraps_u32 2 (by decide) (l.length : Int) (by omega) (by omega)
              have e : ((2 : Int) ^ 2 - 1) = 3 := by decide
              rw [e] at h
              rw [h]
              omega
            have hd : l.drop s = [l.getD (s + 0) 0, l.getD (s + 1) 0, l.getD (s + 2) 0] := drop_tail l s 3 (by omega)
            obtain ⟨ad, e_, _⟩ := Kd.at_int (Kd.C_below HC0.out HB.out) (s : Int) (by omega) (by omega)
            cases e_
            obtain ⟨ad_, e_, y0⟩ := Kd.at_int (Kd.C_below HC0.out HB.out) ((s + 0 : Nat) : Int) (by omega) (by omega)
            cases e_
            simp only [Int.toNat_natCast, rd] at y0
            obtain ⟨b0, hb0⟩ : ∃ b, l.getD (s + 0) 0 = b := ⟨_, rfl⟩
            have hr0 := HBY.out.getD (s + 0)
            rw [hb0] at y0 hd hr0
            have lt0 : s + 0 < l.length := by omega
            obtain ⟨ad_, e_, y1⟩ := Kd.at_int (Kd.C_below HC0.out HB.out) ((s + 1 : Nat) : Int) (by omega) (by omega)
            cases e_
            simp only [Int.toNat_natCast, rd] at y1
            obtain ⟨b1, hb1⟩ : ∃ b, l.getD (s + 1) 0 = b := ⟨_, rfl⟩
            have hr1 := HBY.out.getD (s + 1)
            rw [hb1] at y1 hd hr1
            have lt1 : s + 1 < l.length := by omega
            rw [show ad.add (s + 1) = ⟨ad.block, ad.off + (s + 1), none⟩ from by simp [Addr.add]] at y1
            obtain ⟨ad_, e_, y2⟩ := Kd.at_int (Kd.C_below HC0.out HB.out) ((s + 2 : Nat) : Int) (by omega) (by omega)
            cases e_
            simp only [Int.toNat_natCast, rd] at y2
            obtain ⟨b2, hb2⟩ : ∃ b, l.getD (s + 2) 0 = b := ⟨_, rfl⟩
            have hr2 := HBY.out.getD (s + 2)
            rw [hb2] at y2 hd hr2
            have lt2 : s + 2 < l.length := by omega
            rw [show ad.add (s + 2) = ⟨ad.block, ad.off + (s + 2), none⟩ from by simp [Addr.add]] at y2
            simp only [Nat.add_zero] at y0 lt0
            have k3 : bits .xor .u32 0 (b2 * 65536) = b2 * 65536 := zero_xor _ (by omega) (by omega)
            have k2 : bits .xor .u32 (b2 * 65536) (b1 * 256) = b2 * 65536 + b1 * 256 := xor_add 16 _ _ (by omega) (by omega) (by omega) (by omega) (by omega) (by omega)
            have k1 : bits .xor .u32 (b2 * 65536 + b1 * 256) b0 = b2 * 65536 + b1 * 256 + b0 := xor_add 8 _ _ (by omega) (by omega) (by omega) (by omega) (by omega) (by omega)
            have hk : b2 * 65536 + b1 * 256 + b0 = leV (l.drop s) := by rw [hd]; simp only [leV]; omega
            have HK := Lib.hid hk
            clear hk hd hb0 hb1 hb2
            clear hr_
            go_wp2
            go_ret
            refine ⟨?_, HB.out⟩
            have e : murm seed l = murm seed l := rfl
            · rw [show murm seed l = fin (bits .xor .u32 (hs seed l j) (mixK (leV (l.drop s)))) l.length from by unfold murm; rw [HQ.out, HS.out], ← HK.out, ← HH.out]
              unfold fin fin3 fin2 fin1 mixK rotL
              simp only [IntKind.wrap_u32]
              first | done | rfl
end Go.Proofs.Ytojadhcbjcpifaa.Mur
