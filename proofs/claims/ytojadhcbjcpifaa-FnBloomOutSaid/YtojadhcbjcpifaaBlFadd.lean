/-
  btcutil's filter: add.
-/
import Derived.Test.YtojadhcbjcpifaaBlFlt
namespace Go.Proofs.Ytojadhcbjcpifaa.Bl
open Go.RowKit Go.Proofs.YtojadhcbjcpifaaW.PrintWords Go.Proofs.YtojadhcbjcpifaaW.PrintLast Go.Proofs.Ytojadhcbjcpifaa.Reg Go.Proofs.Ytojadhcbjcpifaa.By Go.Proofs.Ytojadhcbjcpifaa.Tx Go.Proofs.Ytojadhcbjcpifaa.Mur Go.Proofs.Ytojadhcbjcpifaa.Tok
set_option linter.unusedSimpArgs false
set_option linter.unusedVariables false

set_option maxHeartbeats 8000000 in
set_option maxRecDepth 100000 in
theorem fadd_calls (base F M g n c K : Nat) (l : List Int) (t st : Int) (B : Option Addr) (cb : Nat) (b : List Int) (w : World) (hbase : base ≤ w.heap.size) (hF : Flt base F M g n c l (K : Int) t st w) (hC : Kd.C (Kd.int .u8) w B b.length b) (hBg : ∀ ad, B = some ad → 0 < b.length → ad.block ≠ g) (hcb : b.length ≤ cb) (hb : Bytes b) (hl : b.length ≤ 100000) (hn : 1 ≤ n ∧ n ≤ 2000) (hk : 1 ≤ K ∧ K ≤ 50) (ht : 0 ≤ t ∧ t < 4294967296) :
    Calls Try.prog 37 #[.pointer (some ⟨F, 0, none⟩), .slice B b.length cb] w fun e w' => e = .returned (.tuple #[]) ∧ Flt base F M g n c (addB n t b l K) (K : Int) t st w' ∧ Below base w w' := by
  obtain ⟨k, hkk⟩ : ∃ k : Int, (K : Int) = k := ⟨_, rfl⟩
  rw [hkk] at hF ⊢
  have HBIT := Lib.hid (show ∀ W i l', Flt base F M g n c l' k t st W → KeepBut w W g none → 0 ≤ i ∧ i < 4294967296 → Calls Try.prog 45 #[.pointer (some ⟨F, 0, none⟩), .int .u32 i, .slice B b.length cb] W fun e w' => e = .returned (.int .u32 (bitOf n i t b)) ∧ Below W.heap.size W w' from fun W i l' hF' hW hi => fhash_calls base F M g n c l' k t st i B cb b W hF' (Kd.C_keep 0 hC hW hBg) hcb hb hl hn hi ht)
  have HF := Lib.hid hF
  have HN := Lib.hid hn
  have HK0 := Lib.hid hk
  have HKK := Lib.hid hkk
  have HBS := Lib.hid hbase
  have z2 : w.cell? ⟨F, 2, none⟩ = some (.pointer (some ⟨M, 0, none⟩)) := (blk_cell hF.fb 2).trans rfl
  clear hF hC hb hl hn hkk hk hBg hbase
  go_enter Try.func37, Try.ntmps37
  go_wp2
  go_loopg [4] (K + 1) (fun kq v4 w' => ∃ (i : Nat) (xi : Int), v4 = .int .u32 xi ∧ Hid (xi = (i : Int)) ∧ Hid (i + kq = K + 1 ∧ i ≤ K) ∧ Hid (Flt base F M g n c (addB n t b l i) k t st w') ∧ Hid (KeepBut w w' g none) ∧ Hid (Below base w w'))
  case atStart => exact ⟨0, 0, rfl, Lib.hid rfl, Lib.hid ⟨Nat.zero_add _, Nat.zero_le _⟩, HF, Lib.hid (KeepBut.refl _ _ _), Lib.hid (Below.refl _ _)⟩
  case round =>
    clear z2
    obtain ⟨i, xi, rfl, HI, HK, HFR, HKB, HB⟩ := hrel
    have z2 : wr.cell? ⟨F, 2, none⟩ = some (.pointer (some ⟨M, 0, none⟩)) := (blk_cell HFR.out.fb 2).trans rfl
    have m1 : wr.cell? ⟨M, 1, none⟩ = some (.int .u32 k) := (blk_cell HFR.out.mb 1).trans rfl
    by_cases ci : i < K
    · have q0 : xi < k := by rw [HI.out, ← HKK.out]; omega
      have p0 : 0 ≤ xi := by rw [HI.out]; omega
      have r0 : xi < 50 := by rw [HI.out]; have := HK0.out; omega
      have qb : decide (xi < k) = true := decide_eq_true q0
      obtain ⟨k1, rfl⟩ : ∃ k1, gk = k1 + 1 := ⟨gk - 1, by have := HK.out; omega⟩
      have hw1 : IntKind.u32.wrap (xi + 1) = xi + 1 := by unfold IntKind.wrap; simp [IntKind.bits, IntKind.signed]; omega
      have HBI := Lib.hid (HBIT.out wr xi _ HFR.out HKB.out (by omega))
      obtain ⟨x, hx⟩ : ∃ x, bitOf n xi t b = x := ⟨_, rfl⟩
      have hxr := bitOf_range n HN.out.1 xi t b
      rw [hx] at HBI hxr
      have HXR := Lib.hid hxr
      have HX := Lib.hid hx
      have hx8 : x < 16000 := by have := HN.out; omega
      have HA7 := Lib.hid (and7' x hxr.1 (by omega))
      have hq0 : 0 ≤ x / 8 := by omega
      have hq1 : x / 8 < (n : Int) := by omega
      obtain ⟨q, hq⟩ : ∃ q, x / 8 = q := ⟨_, rfl⟩
      obtain ⟨r, hr⟩ : ∃ r, x % 8 = r := ⟨_, rfl⟩
      have hr0 : 0 ≤ r ∧ r < 8 := by omega
      rw [hq] at hq0 hq1
      rw [hr] at HA7
      have HQ2 := Lib.hid hq
      have HR2 := Lib.hid hr
      have HR0 := Lib.hid hr0
      have hr8 : r ≤ 8 := by omega
      have hr1 := hr0.1
      obtain ⟨y, hy⟩ : ∃ y, (addB n t b l i).getD q.toNat 0 = y := ⟨_, rfl⟩
      obtain ⟨p, hp⟩ : ∃ p, IntKind.u8.wrap (2 ^ r.toNat) = p := ⟨_, rfl⟩
      have hp2 : (2 ^ r.toNat : Int) % 256 = p := by rw [← hp, IntKind.wrap_u8]
      have HP := Lib.hid hp
      have HY := Lib.hid hy
      clear hx hq hr hr0 hxr q0 p0 r0 hx8 hy
      go_wp2_with (go_at_call 45; go_must ((with_reducible refine HBI.out.mono ?_); rintro e w3 ⟨rfl, hB3⟩; have HF3 := Lib.hid (HFR.out.below hB3); have HKB3 := Lib.hid (HKB.out.trans (KeepBut.of_below hB3 g none) (.inl rfl)); have HB3 := Lib.hid (below_then HB.out (Nat.le_trans HBS.out HB.out.size) hB3); clear hB3; have z3 : w3.cell? ⟨F, 2, none⟩ = some (.pointer (some ⟨M, 0, none⟩)) := (blk_cell HF3.out.fb 2).trans rfl; have m3 : w3.cell? ⟨M, 0, none⟩ = some (.slice (some ⟨g, 0, none⟩) n c) := (blk_cell HF3.out.mb 0).trans rfl; have y3 : w3.cell? ⟨g, q.toNat, none⟩ = some (.int .u8 y) := (Kd.R_celln 0 HF3.out.row q hq0 hq1).1.trans (congrArg (fun z => some (Value.int .u8 z)) HY.out); have y4 := (Kd.R_celln 0 HF3.out.row q hq0 hq1).2; have hqq := HQ2.out; have hrr := HA7.out))
      go_roundg k1
      case measure => omega
      case rel =>
        have e : (addB n t b l i).set q.toNat (bits .or .u8 y p) = addB n t b l (i + 1) := by rw [addB, setB, ← HI.out, HX.out, HQ2.out, HR2.out, HY.out, orb, HP.out]
        exact ⟨i + 1, xi + 1, rfl, Lib.hid (by rw [HI.out]; omega), Lib.hid (by have := HK.out; omega), Lib.hid (e ▸ HF3.out.put q (bits .or .u8 y p)), Lib.hid (HKB3.out.trans (keep_put _ _ _ _) (.inl rfl)), Lib.hid (HB3.out.setCell HF3.out.bg _)⟩
    · have qb : decide (xi < k) = false := decide_eq_false (by rw [HI.out, ← HKK.out]; omega)
      go_wp2
      have eK : i = K := by have := HK.out; omega
      first | go_end0 | refine bodyPost_ret (results_none rfl _ _ _) rfl ?_
      exact ⟨rfl, eK ▸ HFR.out, HB.out⟩
end Go.Proofs.Ytojadhcbjcpifaa.Bl
