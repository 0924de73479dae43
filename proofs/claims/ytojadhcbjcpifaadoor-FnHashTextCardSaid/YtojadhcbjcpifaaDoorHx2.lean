/-
  encoding/hex.Decode of a hash's digits.
-/
import Derived.Test.YtojadhcbjcpifaaDoorHx1
import Derived.Lib.HexFns2
namespace Go.Proofs.YtojadhcbjcpifaaDoor.Hx
open Go.RowKit Go.Proofs.YtojadhcbjcpifaaDoorW.PrintWords Go.Proofs.YtojadhcbjcpifaaDoorW.PrintLast Go.Proofs.YtojadhcbjcpifaaDoor.Reg Go.Proofs.YtojadhcbjcpifaaDoor.Tok
set_option linter.unusedSimpArgs false
set_option linter.unusedVariables false

/-- The digits of bytes, as numbers. -/
def dgs (r : List Int) : List Int := Lib.Hx.nums (Lib.bytesOf r)
theorem dgs_len (r : List Int) : (dgs r).length = 2 * r.length := by rw [dgs, Lib.Hx.nums_length, Lib.bytesOf_length]
theorem v_digit : ∀ d : Fin 16, Lib.Hx.v (Lib.Hx.digit d.val) = d.val := by decide +kernel
theorem dg_hi (r : List Int) (hb : Bytes r) (k : Nat) (hk : k < r.length) : (dgs r).getD (2 * k) 0 = ((Lib.Hx.digit ((r.getD k 0).toNat / 16)).toNat : Int) ∧ (dgs r).getD (2 * k + 1) 0 = ((Lib.Hx.digit ((r.getD k 0).toNat % 16)).toNat : Int) := by
  have h0 := Lib.Hx.bytes_at r k hk
  have hr : 0 ≤ r.getD k 0 ∧ r.getD k 0 < 256 := by
    rw [List.getD_eq_getElem?_getD, List.getElem?_eq_getElem hk]; exact hb _ (List.getElem_mem _)
  have h1 := Lib.Hx.encode_at (Lib.bytesOf r) k _ h0
  rw [Lib.Hx.byte_toNat _ hr.1 hr.2] at h1
  rw [dgs, Lib.Hx.nums_getD, Lib.Hx.nums_getD, h1.1, h1.2]
  exact ⟨rfl, rfl⟩
theorem v_of (d : Nat) (hd : d < 16) (x : Int) (hx : x = ((Lib.Hx.digit d).toNat : Int)) : Lib.Hx.v (UInt8.ofNat x.toNat) = d := by
  subst hx
  rw [Int.toNat_natCast, UInt8.ofNat_toNat]
  exact v_digit ⟨d, hd⟩
theorem byte_of (n : Int) (h : 0 ≤ n ∧ n < 256) : ((UInt8.ofNat (n.toNat / 16 * 16 + n.toNat % 16)).toNat : Int) = n := by
  rw [show n.toNat / 16 * 16 + n.toNat % 16 = n.toNat by omega, Lib.Hx.byte_toNat n h.1 h.2]
  omega
set_option maxHeartbeats 8000000 in
set_option maxRecDepth 100000 in
theorem dec_calls (D T S cap : Nat) (r : List Int) (w : World) (hl : r.length = 32) (hb : Bytes r) (hsrc : ∀ i, i < 64 → w.cell? ⟨S, i, none⟩ = some (.int .u8 ((dgs r).getD i 0))) (hD : w.rowIs D T 32 (fun _ => .int .u8 0)) (hne : D ≠ S) :
    Calls Tryd.prog 41 #[.slice (some ⟨D, 0, none⟩) 32 32, .slice (some ⟨S, 0, none⟩) 64 cap] w fun e w' => e = .returned (.tuple #[.int .i64 32, .nilIface]) ∧ w'.rowIs D T 32 (fun j => .int .u8 (r.getD j 0)) ∧ w.grownBy w' (some D) := by
  have HS := Lib.hid hsrc
  have HR := Lib.hid hD
  have HL := Lib.hid hl
  have HBY := Lib.hid hb
  have HNE := Lib.hid hne
  clear hsrc hD hl hb hne
  go_enter Tryd.func41, Tryd.ntmps41
  go_wp2
  go_loopg [6, 7] 33 (fun kq v6 v7 w' => ∃ (k : Nat) (xk xj : Int), v6 = .int .i64 xk ∧ v7 = .int .i64 xj ∧ Hid (xk = (k : Int) ∧ xj = 2 * xk) ∧ Hid (k + kq = 33 ∧ k ≤ 32) ∧ Hid (w'.rowIs D T 32 (fun j => .int .u8 (if j < k then r.getD j 0 else 0))) ∧ Hid (w.grownBy w' (some D)))
  case atStart => exact ⟨0, 0, 0, rfl, rfl, Lib.hid ⟨rfl, rfl⟩, Lib.hid ⟨rfl, Nat.zero_le _⟩, Lib.hid (HR.out.congr fun j hj => by simp), Lib.hid (Lib.Hx.grownBy_refl _ _)⟩
  case round =>
    obtain ⟨k, xk, xj, rfl, rfl, HI, HK, HRW, HG⟩ := hrel
    by_cases ck : k < 32
    · obtain ⟨hk1, hk2⟩ := HI.out
      have p0 : 0 ≤ xk := by omega
      have p1 : xk < 32 := by omega
      have j0 : 0 ≤ xj := by omega
      have j1 : xj < 63 := by omega
      have j2 : xj + 1 < 64 := by omega
      have j3 : xj < 64 := by omega
      have j4 : 0 ≤ xj + 1 := by omega
      have hw1 : wrap64 (xk + 1) = xk + 1 := wrap64_id (by omega) (by omega)
      have hw2 : wrap64 (xj + 2) = xj + 2 := wrap64_id (by omega) (by omega)
      have hw3 : wrap64 (xj + 1) = xj + 1 := wrap64_id (by omega) (by omega)
      obtain ⟨k1, rfl⟩ : ∃ k1, gk = k1 + 1 := ⟨gk - 1, by have := HK.out; omega⟩
      have hdg := dg_hi r HBY.out k (by rw [HL.out]; exact ck)
      have hrk : 0 ≤ r.getD k 0 ∧ r.getD k 0 < 256 := by
        rw [List.getD_eq_getElem?_getD, List.getElem?_eq_getElem (by rw [HL.out]; exact ck)]; exact HBY.out _ (List.getElem_mem _)
      obtain ⟨x, hx⟩ : ∃ x, (dgs r).getD (2 * k) 0 = x := ⟨_, rfl⟩
      obtain ⟨y, hy⟩ : ∃ y, (dgs r).getD (2 * k + 1) 0 = y := ⟨_, rfl⟩
      obtain ⟨b, hb⟩ : ∃ b, r.getD k 0 = b := ⟨_, rfl⟩
      have hcx : wr.cell? ⟨S, xj.toNat, none⟩ = some (.int .u8 x) := by
        rw [show xj.toNat = 2 * k by omega, ← hx]; exact HG.out.cell (HS.out _ (by omega)) (by simpa using fun e => HNE.out e.symm)
      have hcy : wr.cell? ⟨S, (xj + 1).toNat, none⟩ = some (.int .u8 y) := by
        rw [show (xj + 1).toNat = 2 * k + 1 by omega, ← hy]; exact HG.out.cell (HS.out _ (by omega)) (by simpa using fun e => HNE.out e.symm)
      rw [hx, hy, hb] at hdg
      rw [hb] at hrk
      have hx0 : 0 ≤ x := by rw [hdg.1]; omega
      have hx1 : x < 256 := by rw [hdg.1]; have := (Lib.Hx.digit (b.toNat / 16)).toNat_lt; omega
      have hy0 : 0 ≤ y := by rw [hdg.2]; omega
      have hy1 : y < 256 := by rw [hdg.2]; have := (Lib.Hx.digit (b.toNat % 16)).toNat_lt; omega
      have HVX := Lib.hid (v_of (b.toNat / 16) (by omega) x hdg.1)
      have HVY := Lib.hid (v_of (b.toNat % 16) (by omega) y hdg.2)
      have hf1 : wr.frozen? ⟨D, xk.toNat, none⟩ = false := HRW.out.frozen _
      have hc1 : wr.cell? ⟨D, xk.toNat, none⟩ = some (.int .u8 (if xk.toNat < k then r.getD xk.toNat 0 else 0)) := HRW.out.cell (by omega)
      have sx : x.toNat < Lib.Hx.rev.size := by rw [Lib.Hx.rev_size]; omega
      have sy : y.toNat < Lib.Hx.rev.size := by rw [Lib.Hx.rev_size]; omega
      have HB := Lib.hid hb
      have HRK := Lib.hid hrk
      have HKX := Lib.hid hk1
      have HKJ := Lib.hid hk2
      clear hx hy hb hdg hrk hk1 hk2
      go_wp2
      · have hv : (15 : Int) < ((Lib.Hx.rev[x.toNat]'sx).toNat : Int) := by assumption
        rw [Lib.Hx.rev_at x hx0 hx1, HVX.out] at hv
        have := HRK.out
        omega
      · have hv : (15 : Int) < ((Lib.Hx.rev[y.toNat]'sy).toNat : Int) := by assumption
        rw [Lib.Hx.rev_at y hy0 hy1, HVY.out] at hv
        have := HRK.out
        omega
      · have ex := Lib.Hx.rev_at x hx0 hx1 sx
        have ey := Lib.Hx.rev_at y hy0 hy1 sy
        rw [HVX.out] at ex
        rw [HVY.out] at ey
        have EX := Lib.hid ex
        have EY := Lib.hid ey
        clear ex ey
        go_roundg k1
        case measure => omega
        case rel =>
          refine ⟨k + 1, xk + 1, xj + 2, rfl, rfl, Lib.hid ⟨by have := HKX.out; omega, by have := HKJ.out; omega⟩, Lib.hid (by have := HK.out; omega), Lib.hid ((HRW.out.set xk.toNat _).congr fun j hj => ?_), Lib.hid (Lib.Hx.grownBy_set HG.out _ rfl _)⟩
          have hxk : xk.toNat = k := by have := HKX.out; omega
          rw [hxk]
          by_cases cj : j = k
          · rw [if_pos cj, if_pos (by omega), cj, HB.out]
            have e := Lib.Hx.or_digits (b.toNat / 16) (b.toNat % 16) (by have := HRK.out; omega) (by omega)
            rw [byte_of b HRK.out, ← EX.out, ← EY.out] at e
            exact congrArg (Value.int .u8) e
          · rw [if_neg cj]
            by_cases cl : j < k
            · rw [if_pos cl, if_pos (by omega)]
            · rw [if_neg cl, if_neg (by omega)]
    · obtain ⟨hk1, hk2⟩ := HI.out
      have ek : k = 32 := by have := HK.out; omega
      obtain rfl : xk = 32 := by omega
      obtain rfl : xj = 64 := by omega
      have EK := Lib.hid ek
      clear hk1 hk2 ek ck
      go_wp2
      go_ret2
      exact ⟨by first | rfl | (simp; done), HRW.out.congr fun j hj => by rw [if_pos (by have := EK.out; omega)], HG.out⟩
end Go.Proofs.YtojadhcbjcpifaaDoor.Hx
