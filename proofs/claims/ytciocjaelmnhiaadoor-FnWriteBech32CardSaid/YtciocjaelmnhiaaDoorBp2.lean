/-
  bech32Polymod.
-/
import Derived.Test.YtciocjaelmnhiaaDoorPFnWriteBech32x1
import Derived.Test.YtciocjaelmnhiaaDoorPFnWriteBech32x2
import Derived.Test.YtciocjaelmnhiaaDoorReg
import Derived.Test.YtciocjaelmnhiaaDoorBp1
import Derived.Deep.DeepMust
import Derived.WalkSpells
namespace Go.Proofs.YtciocjaelmnhiaaDoor.Bp
open Go.RowKit Go.Proofs.YtciocjaelmnhiaaDoorW.PrintWords Go.Proofs.YtciocjaelmnhiaaDoorW.PrintLast Go.Proofs.YtciocjaelmnhiaaDoorW.PrintMore Go.Proofs.YtciocjaelmnhiaaDoor.Reg
set_option linter.unusedSimpArgs false
set_option linter.unusedVariables false

theorem wrap64_id {x : Int} (h0 : -9223372036854775808 ≤ x) (h1 : x ≤ 9223372036854775807) : wrap64 x = x := by unfold wrap64; omega
/-- The generator's numbers lie in the world. -/
def Gen (w : World) : Prop := ∃ (gb go c : Nat), w.cell? ⟨0, 0, none⟩ = some (.slice (some ⟨gb, go, none⟩) 5 c) ∧ ∀ k : Nat, k < 5 → w.cell? ⟨gb, go + k, none⟩ = some (.int .i64 ((gen.getD k 0 : Nat) : Int))
/-- Some of the bits' parts. -/
def gbs (t : Nat) : Nat → Nat → Nat
  | 0, c => c
  | k + 1, c => gb t k (gbs t k c)
theorem gbs_five (t c : Nat) : gbs t 5 c = gm t c := rfl
def hi (s : ByteArray) : List Nat := s.data.toList.map fun b => b.toNat / 32
def lo (s : ByteArray) : List Nat := s.data.toList.map fun b => b.toNat % 32
theorem hi_len (s : ByteArray) : (hi s).length = s.size := by simp [hi]
theorem lo_len (s : ByteArray) : (lo s).length = s.size := by simp [lo]
theorem hi_at (s : ByteArray) (i : Nat) (h : i < s.size) : (hi s).drop i = (s[i]'h).toNat / 32 :: (hi s).drop (i + 1) := by
  rw [List.drop_eq_getElem_cons (by rw [hi_len]; exact h)]
  simp [hi]
  rfl
theorem lo_at (s : ByteArray) (i : Nat) (h : i < s.size) : (lo s).drop i = (s[i]'h).toNat % 32 :: (lo s).drop (i + 1) := by
  rw [List.drop_eq_getElem_cons (by rw [lo_len]; exact h)]
  simp [lo]
  rfl
theorem xor_nat (n m : Nat) (hn : n < 1073741824) (hm : m < 1073741824) : bits .xor .i64 (n : Int) (m : Int) = ((n ^^^ m : Nat) : Int) := by
  have hn' : n % 2 ^ IntKind.i64.bits = n := Nat.mod_eq_of_lt (by simp [IntKind.bits]; omega)
  have hm' : m % 2 ^ IntKind.i64.bits = m := Nat.mod_eq_of_lt (by simp [IntKind.bits]; omega)
  have hx := xor_lt hn hm
  simp only [bits, BitVec.ofInt_natCast, BitVec.toNat_xor, BitVec.toNat_ofNat, hn', hm']
  rw [IntKind.wrap_i64]
  omega
theorem and_nat (n m k : Nat) (hm : m = 2 ^ k - 1) (hk : k ≤ 25) (hn : n < 1073741824) : bits .and .i64 (n : Int) (m : Int) = ((n % 2 ^ k : Nat) : Int) := by
  have h60 : (2 : Nat) ^ k ≤ 2 ^ 25 := Nat.pow_le_pow_right (by decide) hk
  have hn' : n % 2 ^ IntKind.i64.bits = n := Nat.mod_eq_of_lt (by simp [IntKind.bits]; omega)
  have hm' : m % 2 ^ IntKind.i64.bits = m := Nat.mod_eq_of_lt (by simp [IntKind.bits]; omega)
  have hx : n &&& m = n % 2 ^ k := by rw [hm, Nat.and_two_pow_sub_one_eq_mod]
  have hl : n % 2 ^ k ≤ n := Nat.mod_le _ _
  simp only [bits, BitVec.ofInt_natCast, BitVec.toNat_and, BitVec.toNat_ofNat, hn', hm', hx]
  rw [IntKind.wrap_i64]
  omega
theorem gb_lt {t k c : Nat} (h : c < 1073741824) (hk : k < 5) : gb t k c < 1073741824 := by
  have hg : ∀ k : Fin 5, gen.getD k.val 0 < 1073741824 := by decide
  unfold gb
  split
  · exact xor_lt h (hg ⟨k, hk⟩)
  · exact h
theorem gbs_lt (t : Nat) {c : Nat} (h : c < 1073741824) : ∀ k, k ≤ 5 → gbs t k c < 1073741824
  | 0, _ => h
  | k + 1, hk => gb_lt (gbs_lt t h k (by omega)) (by omega)
theorem gb_one {t k x0 : Nat} {Y : Int} (hY : Y = ((gbs t k x0 : Nat) : Int)) (h0 : x0 < 1073741824) (hk : k < 5) (hb : t / 2 ^ k % 2 = 1) : ∃ Y1 : Int, bits .xor .i64 Y ((gen.getD k 0 : Nat) : Int) = Y1 ∧ Y1 = ((gbs t (k + 1) x0 : Nat) : Int) := by
  have hg : ∀ k : Fin 5, gen.getD k.val 0 < 1073741824 := by decide
  refine ⟨_, rfl, ?_⟩
  rw [hY, xor_nat _ _ (gbs_lt t h0 k (by omega)) (hg ⟨k, hk⟩), gbs, gb, if_pos hb]
theorem gb_zero {t k x0 : Nat} {Y : Int} (hY : Y = ((gbs t k x0 : Nat) : Int)) (hb : ¬ t / 2 ^ k % 2 = 1) : Y = ((gbs t (k + 1) x0 : Nat) : Int) := by
  rw [hY, gbs, gb, if_neg hb]
theorem bit_val {t : Nat} {T : Int} (hT : T = (t : Int)) (ht : t < 32) (k : Nat) (P : Int) (hP : P = 2 ^ k) (Z : Int) (hZ : Z = T / P) : bits .and .i64 Z 1 = ((t / 2 ^ k % 2 : Nat) : Int) := by
  have e : Z = ((t / 2 ^ k : Nat) : Int) := by rw [hZ, hT, hP]; push_cast; rfl
  have hl : t / 2 ^ k ≤ t := Nat.div_le_self _ _
  rw [e]
  exact and_nat (t / 2 ^ k) 1 1 rfl (by decide) (by omega)
theorem top_step {X : Int} {x : Nat} (h : X = (x : Int)) (hx : x < 1073741824) : ∃ T X1 : Int, X / 33554432 = T ∧ T = ((x / 33554432 : Nat) : Int) ∧ wrap64 (bits .and .i64 X 33554431 * 32) = X1 ∧ X1 = ((x % 33554432 * 32 : Nat) : Int) := by
  refine ⟨_, _, rfl, by rw [h]; omega, rfl, ?_⟩
  have := and_nat x 33554431 25 (by decide) (by decide) hx
  rw [h, show ((33554431 : Nat) : Int) = 33554431 from rfl] at *
  rw [this]
  exact (wrap64_id (by omega) (by omega)).trans (by omega)
theorem xor_step {X1 V : Int} {x v : Nat} (h : X1 = ((x % 33554432 * 32 : Nat) : Int)) (hV : V = (v : Int)) (hv : v < 32) : ∃ X0 : Int, bits .xor .i64 X1 V = X0 ∧ X0 = (((x % 33554432 * 32) ^^^ v : Nat) : Int) ∧ ((x % 33554432 * 32) ^^^ v) < 1073741824 := by
  refine ⟨_, rfl, ?_, xor_lt (by omega) (by omega)⟩
  rw [h, hV, xor_nat _ _ (by omega) (by omega)]
theorem eq_nil0 (w : World) : (binOp .eql 22 (.slice none 0 0) (.slice none 0 0)).run Tryd.prog w = .ok (.bool true) w := by kernel_rfl
theorem eq_nil1 (a : Addr) (n c : Nat) (w : World) : (binOp .eql 22 (.slice (some a) n c) (.slice none 0 0)).run Tryd.prog w = .ok (.bool false) w := by kernel_rfl
theorem drop_val (l : List Int) (h : ∀ v ∈ l, 0 ≤ v ∧ v < 32) (i : Nat) (hi : i < l.length) (y : Int) (hy : rd l (i : Int) = y) : (0 ≤ y ∧ y < 32) ∧ (l.map Int.toNat).drop i = y.toNat :: (l.map Int.toNat).drop (i + 1) := by
  have e : l[i] = y := by rw [← hy]; simp [rd, hi]
  refine ⟨e ▸ h _ (List.getElem_mem _), ?_⟩
  rw [List.drop_eq_getElem_cons (by simpa using hi)]
  simp [e]
set_option maxHeartbeats 16000000 in
set_option maxRecDepth 100000 in
theorem mod_nil (s : ByteArray) (A : Option Addr) (c1 : Nat) (l : List Int) (w : World) (hg : Gen w) (hs : s.size ≤ 1000) (hl : Kd.C (Kd.int .u8) w A l.length l) (hlv : ∀ v ∈ l, 0 ≤ v ∧ v < 32) (hll : l.length ≤ 1000) :
    Calls Tryd.prog 34 #[.string s, .slice A l.length c1, .slice none 0 0] w fun e w' => e = .returned (.int .i64 ((pm 1 (hi s ++ 0 :: (lo s ++ (l.map Int.toNat ++ [0, 0, 0, 0, 0, 0]))) : Nat) : Int)) ∧ w' = w := by
  obtain ⟨gb, go, cg, z0, hz⟩ := hg
  have g0 : w.cell? ⟨gb, go, none⟩ = some (.int .i64 996825010) := hz 0 (by decide)
  have g1 : w.cell? ⟨gb, go + 1, none⟩ = some (.int .i64 642813549) := hz 1 (by decide)
  have g2 : w.cell? ⟨gb, go + 2, none⟩ = some (.int .i64 513874426) := hz 2 (by decide)
  have g3 : w.cell? ⟨gb, go + 3, none⟩ = some (.int .i64 1027748829) := hz 3 (by decide)
  have g4 : w.cell? ⟨gb, go + 4, none⟩ = some (.int .i64 705979059) := hz 4 (by decide)
  have HS := Lib.hid (show s.size ≤ 1000 ∧ l.length ≤ 1000 from ⟨hs, hll⟩)
  have HLC := Lib.hid hl
  have HLV := Lib.hid hlv
  obtain ⟨R, hR⟩ : ∃ R, pm 1 (hi s ++ 0 :: (lo s ++ (l.map Int.toNat ++ [0, 0, 0, 0, 0, 0]))) = R := ⟨_, rfl⟩
  rw [hR]
  have HR := Aside0.mk (show pm 1 ((hi s).drop 0 ++ 0 :: (lo s ++ (l.map Int.toNat ++ [0, 0, 0, 0, 0, 0]))) = R from hR)
  have heq := eq_nil0
  have HX := Aside0.mk (show (1 : Int) = ((1 : Nat) : Int) ∧ 1 < 1073741824 from ⟨rfl, by decide⟩)
  clear hz hs hl hlv hll hR
  go_enter Tryd.func34, Tryd.ntmps34
  go_wp2
  go_loopg [7, 8] (s.size + 1) (fun kq v7 v8 w' => ∃ (i x : Nat) (X : Int), v8 = .int .i64 (i : Int) ∧ v7 = .int .i64 X ∧ Aside0 (X = (x : Int) ∧ x < 1073741824) ∧ Aside0 (i + kq = s.size + 1 ∧ i ≤ s.size) ∧ Aside0 (pm x ((hi s).drop i ++ 0 :: (lo s ++ (l.map Int.toNat ++ [0, 0, 0, 0, 0, 0]))) = R) ∧ w' = w)
  case atStart => exact ⟨0, _, _, rfl, rfl, HX, ⟨by omega, by omega⟩, HR, rfl⟩
  case round =>
    clear HX HR
    obtain ⟨i, x, X, rfl, rfl, HX, HI, HR, hw⟩ := hrel
    obtain rfl := hw.symm
    by_cases ci : i < s.size
    · obtain ⟨k1, rfl⟩ : ∃ k1, gk = k1 + 1 := ⟨gk - 1, by have := HI.out; omega⟩
      have cb : decide ((i : Int) < (s.size : Int)) = true := decide_eq_true (by omega)
      have cb2 := eq_true ci
      have HC := Aside0.mk ci
      have HYY := Aside0.mk (hi_at s i ci)
      have hby := (s[i]'ci).toNat_lt
      obtain ⟨T, X1, hT, hT2, hX1, hX1b⟩ := top_step HX.out.1 HX.out.2
      obtain ⟨t, ht⟩ : ∃ t, x / 33554432 = t := ⟨_, rfl⟩
      rw [ht] at hT2
      have HT := Aside0.mk (show T = (t : Int) ∧ t < 32 from ⟨hT2, by have := HX.out.2; omega⟩)
      obtain ⟨V, hV⟩ : ∃ V : Int, wrap64 ((s[i]'ci).toNat : Int) / 32 = V := ⟨_, rfl⟩
      obtain ⟨v, hv⟩ : ∃ v : Nat, (s[i]'ci).toNat / 32 = v := ⟨_, rfl⟩
      have hVv : V = (v : Int) := by rw [← hV, ← hv]; rw [wrap64_id (by omega) (by omega)]; omega
      have hv32 : v < 32 := by rw [← hv]; omega
      obtain ⟨X0, hX0, hX0b, hX0l⟩ := xor_step hX1b hVv hv32
      obtain ⟨x0, hx0⟩ : ∃ x0, (x % 33554432 * 32) ^^^ v = x0 := ⟨_, rfl⟩
      rw [hx0] at hX0b hX0l
      have HX0 := Aside0.mk (And.intro hX0b hX0l)
      have HST := Aside0.mk (show stp x v = gm t x0 from by rw [← ht, ← hx0]; rfl)
      have HV := Aside0.mk hv
      have hV2 : ((s[i]'ci).toNat : Int) / 32 = V := by rw [← hV, wrap64_id (by omega) (by omega)]
      clear hT2 hX1b ht hx0 hX0b hX0l hv hVv hv32
      go_wp2
      go_loopg [7, 11] 6 (fun kq v7 v11 w' => ∃ (k : Nat) (Y : Int), v11 = .int .i64 (k : Int) ∧ v7 = .int .i64 Y ∧ Aside0 (k + kq = 6 ∧ k ≤ 5) ∧ Aside0 (Y = ((gbs t k x0 : Nat) : Int)) ∧ w' = w)
      case atStart => exact ⟨0, X0, rfl, rfl, ⟨by omega, by omega⟩, ⟨HX0.out.1⟩, rfl⟩
      case round =>
        obtain ⟨k, Y, rfl, rfl, HK, HY, hw⟩ := hrel
        obtain rfl := hw.symm
        have hk5 : k = 0 ∨ k = 1 ∨ k = 2 ∨ k = 3 ∨ k = 4 ∨ k = 5 := by have := HK.out; omega
        rcases hk5 with rfl | rfl | rfl | rfl | rfl | rfl
        · obtain ⟨kin, rfl⟩ : ∃ kin, gk = kin + 1 := ⟨gk - 1, by have := HK.out; omega⟩
          have hb := bit_val HT.out.1 HT.out.2 0 1 rfl (T) (by first | rfl | (rw [Int.ediv_one]))
          by_cases cb : t / 2 ^ 0 % 2 = 1
          · rw [cb] at hb
            obtain ⟨Y1, hx, hY1⟩ := gb_one HY.out HX0.out.2 (by decide) cb
            rw [show ((gen.getD 0 0 : Nat) : Int) = 996825010 from rfl] at hx
            have HY1 := Aside0.mk hY1
            clear cb hY1
            go_wp2
            go_roundg kin
            case measure => omega
            case rel => exact ⟨1, Y1, by first | rfl | (simp; done), by first | rfl | (simp; done), ⟨by have := HK.out; omega, by decide⟩, HY1, rfl⟩
          · rw [show t / 2 ^ 0 % 2 = 0 by omega] at hb
            have HY1 := Aside0.mk (gb_zero HY.out cb)
            clear cb
            go_wp2
            go_roundg kin
            case measure => omega
            case rel => exact ⟨1, Y, by first | rfl | (simp; done), by first | rfl | (simp; done), ⟨by have := HK.out; omega, by decide⟩, HY1, rfl⟩
        · obtain ⟨kin, rfl⟩ : ∃ kin, gk = kin + 1 := ⟨gk - 1, by have := HK.out; omega⟩
          have hb := bit_val HT.out.1 HT.out.2 1 2 rfl (T / 2) (by first | rfl | (rw [Int.ediv_one]))
          by_cases cb : t / 2 ^ 1 % 2 = 1
          · rw [cb] at hb
            obtain ⟨Y1, hx, hY1⟩ := gb_one HY.out HX0.out.2 (by decide) cb
            rw [show ((gen.getD 1 0 : Nat) : Int) = 642813549 from rfl] at hx
            have HY1 := Aside0.mk hY1
            clear cb hY1
            go_wp2
            go_roundg kin
            case measure => omega
            case rel => exact ⟨2, Y1, by first | rfl | (simp; done), by first | rfl | (simp; done), ⟨by have := HK.out; omega, by decide⟩, HY1, rfl⟩
          · rw [show t / 2 ^ 1 % 2 = 0 by omega] at hb
            have HY1 := Aside0.mk (gb_zero HY.out cb)
            clear cb
            go_wp2
            go_roundg kin
            case measure => omega
            case rel => exact ⟨2, Y, by first | rfl | (simp; done), by first | rfl | (simp; done), ⟨by have := HK.out; omega, by decide⟩, HY1, rfl⟩
        · obtain ⟨kin, rfl⟩ : ∃ kin, gk = kin + 1 := ⟨gk - 1, by have := HK.out; omega⟩
          have hb := bit_val HT.out.1 HT.out.2 2 4 rfl (T / 4) (by first | rfl | (rw [Int.ediv_one]))
          by_cases cb : t / 2 ^ 2 % 2 = 1
          · rw [cb] at hb
            obtain ⟨Y1, hx, hY1⟩ := gb_one HY.out HX0.out.2 (by decide) cb
            rw [show ((gen.getD 2 0 : Nat) : Int) = 513874426 from rfl] at hx
            have HY1 := Aside0.mk hY1
            clear cb hY1
            go_wp2
            go_roundg kin
            case measure => omega
            case rel => exact ⟨3, Y1, by first | rfl | (simp; done), by first | rfl | (simp; done), ⟨by have := HK.out; omega, by decide⟩, HY1, rfl⟩
          · rw [show t / 2 ^ 2 % 2 = 0 by omega] at hb
            have HY1 := Aside0.mk (gb_zero HY.out cb)
            clear cb
            go_wp2
            go_roundg kin
            case measure => omega
            case rel => exact ⟨3, Y, by first | rfl | (simp; done), by first | rfl | (simp; done), ⟨by have := HK.out; omega, by decide⟩, HY1, rfl⟩
        · obtain ⟨kin, rfl⟩ : ∃ kin, gk = kin + 1 := ⟨gk - 1, by have := HK.out; omega⟩
          have hb := bit_val HT.out.1 HT.out.2 3 8 rfl (T / 8) (by first | rfl | (rw [Int.ediv_one]))
          by_cases cb : t / 2 ^ 3 % 2 = 1
          · rw [cb] at hb
            obtain ⟨Y1, hx, hY1⟩ := gb_one HY.out HX0.out.2 (by decide) cb
            rw [show ((gen.getD 3 0 : Nat) : Int) = 1027748829 from rfl] at hx
            have HY1 := Aside0.mk hY1
            clear cb hY1
            go_wp2
            go_roundg kin
            case measure => omega
            case rel => exact ⟨4, Y1, by first | rfl | (simp; done), by first | rfl | (simp; done), ⟨by have := HK.out; omega, by decide⟩, HY1, rfl⟩
          · rw [show t / 2 ^ 3 % 2 = 0 by omega] at hb
            have HY1 := Aside0.mk (gb_zero HY.out cb)
            clear cb
            go_wp2
            go_roundg kin
            case measure => omega
            case rel => exact ⟨4, Y, by first | rfl | (simp; done), by first | rfl | (simp; done), ⟨by have := HK.out; omega, by decide⟩, HY1, rfl⟩
        · obtain ⟨kin, rfl⟩ : ∃ kin, gk = kin + 1 := ⟨gk - 1, by have := HK.out; omega⟩
          have hb := bit_val HT.out.1 HT.out.2 4 16 rfl (T / 16) (by first | rfl | (rw [Int.ediv_one]))
          by_cases cb : t / 2 ^ 4 % 2 = 1
          · rw [cb] at hb
            obtain ⟨Y1, hx, hY1⟩ := gb_one HY.out HX0.out.2 (by decide) cb
            rw [show ((gen.getD 4 0 : Nat) : Int) = 705979059 from rfl] at hx
            have HY1 := Aside0.mk hY1
            clear cb hY1
            go_wp2
            go_roundg kin
            case measure => omega
            case rel => exact ⟨5, Y1, by first | rfl | (simp; done), by first | rfl | (simp; done), ⟨by have := HK.out; omega, by decide⟩, HY1, rfl⟩
          · rw [show t / 2 ^ 4 % 2 = 0 by omega] at hb
            have HY1 := Aside0.mk (gb_zero HY.out cb)
            clear cb
            go_wp2
            go_roundg kin
            case measure => omega
            case rel => exact ⟨5, Y, by first | rfl | (simp; done), by first | rfl | (simp; done), ⟨by have := HK.out; omega, by decide⟩, HY1, rfl⟩
        · have HX := Aside0.mk (show Y = ((gm t x0 : Nat) : Int) ∧ gm t x0 < 1073741824 from ⟨HY.out, gbs_lt t HX0.out.2 5 (Nat.le_refl _)⟩)
          go_wp2
          go_roundg k1
          case measure => have := HI.out; omega
          case rel => exact ⟨i + 1, _, _, by first | rfl | (rw [wrap64_id (by have := HS.out; have := HC.out; omega) (by have := HS.out; have := HC.out; omega)]; push_cast; rfl), rfl, HX, ⟨by have := HI.out; omega, by have := HC.out; omega⟩, ⟨by have := HR.out; rw [HYY.out, HV.out] at this; rw [← HST.out]; exact this⟩, rfl⟩
    · have HE := Aside0.mk (show i = s.size from by have := HI.out; omega)
      have cb : decide ((i : Int) < (s.size : Int)) = false := decide_eq_false (by omega)
      have cb2 := eq_false ci
      clear ci
      have HR2 := Aside0.mk (show pm x (0 :: (lo s ++ (l.map Int.toNat ++ [0, 0, 0, 0, 0, 0]))) = R from by have := HR.out; rw [HE.out, List.drop_of_length_le (by simp [hi]), List.nil_append] at this; exact this)
      clear HR HE
      obtain ⟨T, X1, hT, hT2, hX1, hX1b⟩ := top_step HX.out.1 HX.out.2
      obtain ⟨t, ht⟩ : ∃ t, x / 33554432 = t := ⟨_, rfl⟩
      rw [ht] at hT2
      have HT := Aside0.mk (show T = (t : Int) ∧ t < 32 from ⟨hT2, by have := HX.out.2; omega⟩)
      obtain ⟨x0, hx0⟩ : ∃ x0, (x % 33554432 * 32) ^^^ 0 = x0 := ⟨_, rfl⟩
      have HX0 := Aside0.mk (show X1 = (x0 : Int) ∧ x0 < 1073741824 from ⟨by rw [hX1b, ← hx0, Nat.xor_zero], by rw [← hx0, Nat.xor_zero]; omega⟩)
      have HST := Aside0.mk (show stp x 0 = gm t x0 from by rw [← ht, ← hx0]; rfl)
      clear hT2 hX1b ht hx0
      obtain ⟨X0, hX0⟩ : ∃ X0, X1 = X0 := ⟨_, rfl⟩
      rw [hX0] at HX0
      go_wp2
      go_loopg [7, 13] 6 (fun kq v7 v13 w' => ∃ (k : Nat) (Y : Int), v13 = .int .i64 (k : Int) ∧ v7 = .int .i64 Y ∧ Aside0 (k + kq = 6 ∧ k ≤ 5) ∧ Aside0 (Y = ((gbs t k x0 : Nat) : Int)) ∧ w' = w)
      case atStart => exact ⟨0, X0, rfl, rfl, ⟨by omega, by omega⟩, ⟨HX0.out.1⟩, rfl⟩
      case round =>
        obtain ⟨k, Y, rfl, rfl, HK, HY, hw⟩ := hrel
        obtain rfl := hw.symm
        have hk5 : k = 0 ∨ k = 1 ∨ k = 2 ∨ k = 3 ∨ k = 4 ∨ k = 5 := by have := HK.out; omega
        rcases hk5 with rfl | rfl | rfl | rfl | rfl | rfl
        · obtain ⟨kin, rfl⟩ : ∃ kin, gk = kin + 1 := ⟨gk - 1, by have := HK.out; omega⟩
          have hb := bit_val HT.out.1 HT.out.2 0 1 rfl (T) (by first | rfl | (rw [Int.ediv_one]))
          by_cases cb : t / 2 ^ 0 % 2 = 1
          · rw [cb] at hb
            obtain ⟨Y1, hx, hY1⟩ := gb_one HY.out HX0.out.2 (by decide) cb
            rw [show ((gen.getD 0 0 : Nat) : Int) = 996825010 from rfl] at hx
            have HY1 := Aside0.mk hY1
            clear cb hY1
            go_wp2
            go_roundg kin
            case measure => omega
            case rel => exact ⟨1, Y1, by first | rfl | (simp; done), by first | rfl | (simp; done), ⟨by have := HK.out; omega, by decide⟩, HY1, rfl⟩
          · rw [show t / 2 ^ 0 % 2 = 0 by omega] at hb
            have HY1 := Aside0.mk (gb_zero HY.out cb)
            clear cb
            go_wp2
            go_roundg kin
            case measure => omega
            case rel => exact ⟨1, Y, by first | rfl | (simp; done), by first | rfl | (simp; done), ⟨by have := HK.out; omega, by decide⟩, HY1, rfl⟩
        · obtain ⟨kin, rfl⟩ : ∃ kin, gk = kin + 1 := ⟨gk - 1, by have := HK.out; omega⟩
          have hb := bit_val HT.out.1 HT.out.2 1 2 rfl (T / 2) (by first | rfl | (rw [Int.ediv_one]))
          by_cases cb : t / 2 ^ 1 % 2 = 1
          · rw [cb] at hb
            obtain ⟨Y1, hx, hY1⟩ := gb_one HY.out HX0.out.2 (by decide) cb
            rw [show ((gen.getD 1 0 : Nat) : Int) = 642813549 from rfl] at hx
            have HY1 := Aside0.mk hY1
            clear cb hY1
            go_wp2
            go_roundg kin
            case measure => omega
            case rel => exact ⟨2, Y1, by first | rfl | (simp; done), by first | rfl | (simp; done), ⟨by have := HK.out; omega, by decide⟩, HY1, rfl⟩
          · rw [show t / 2 ^ 1 % 2 = 0 by omega] at hb
            have HY1 := Aside0.mk (gb_zero HY.out cb)
            clear cb
            go_wp2
            go_roundg kin
            case measure => omega
            case rel => exact ⟨2, Y, by first | rfl | (simp; done), by first | rfl | (simp; done), ⟨by have := HK.out; omega, by decide⟩, HY1, rfl⟩
        · obtain ⟨kin, rfl⟩ : ∃ kin, gk = kin + 1 := ⟨gk - 1, by have := HK.out; omega⟩
          have hb := bit_val HT.out.1 HT.out.2 2 4 rfl (T / 4) (by first | rfl | (rw [Int.ediv_one]))
          by_cases cb : t / 2 ^ 2 % 2 = 1
          · rw [cb] at hb
            obtain ⟨Y1, hx, hY1⟩ := gb_one HY.out HX0.out.2 (by decide) cb
            rw [show ((gen.getD 2 0 : Nat) : Int) = 513874426 from rfl] at hx
            have HY1 := Aside0.mk hY1
            clear cb hY1
            go_wp2
            go_roundg kin
            case measure => omega
            case rel => exact ⟨3, Y1, by first | rfl | (simp; done), by first | rfl | (simp; done), ⟨by have := HK.out; omega, by decide⟩, HY1, rfl⟩
          · rw [show t / 2 ^ 2 % 2 = 0 by omega] at hb
            have HY1 := Aside0.mk (gb_zero HY.out cb)
            clear cb
            go_wp2
            go_roundg kin
            case measure => omega
            case rel => exact ⟨3, Y, by first | rfl | (simp; done), by first | rfl | (simp; done), ⟨by have := HK.out; omega, by decide⟩, HY1, rfl⟩
        · obtain ⟨kin, rfl⟩ : ∃ kin, gk = kin + 1 := ⟨gk - 1, by have := HK.out; omega⟩
          have hb := bit_val HT.out.1 HT.out.2 3 8 rfl (T / 8) (by first | rfl | (rw [Int.ediv_one]))
          by_cases cb : t / 2 ^ 3 % 2 = 1
          · rw [cb] at hb
            obtain ⟨Y1, hx, hY1⟩ := gb_one HY.out HX0.out.2 (by decide) cb
            rw [show ((gen.getD 3 0 : Nat) : Int) = 1027748829 from rfl] at hx
            have HY1 := Aside0.mk hY1
            clear cb hY1
            go_wp2
            go_roundg kin
            case measure => omega
            case rel => exact ⟨4, Y1, by first | rfl | (simp; done), by first | rfl | (simp; done), ⟨by have := HK.out; omega, by decide⟩, HY1, rfl⟩
          · rw [show t / 2 ^ 3 % 2 = 0 by omega] at hb
            have HY1 := Aside0.mk (gb_zero HY.out cb)
            clear cb
            go_wp2
            go_roundg kin
            case measure => omega
            case rel => exact ⟨4, Y, by first | rfl | (simp; done), by first | rfl | (simp; done), ⟨by have := HK.out; omega, by decide⟩, HY1, rfl⟩
        · obtain ⟨kin, rfl⟩ : ∃ kin, gk = kin + 1 := ⟨gk - 1, by have := HK.out; omega⟩
          have hb := bit_val HT.out.1 HT.out.2 4 16 rfl (T / 16) (by first | rfl | (rw [Int.ediv_one]))
          by_cases cb : t / 2 ^ 4 % 2 = 1
          · rw [cb] at hb
            obtain ⟨Y1, hx, hY1⟩ := gb_one HY.out HX0.out.2 (by decide) cb
            rw [show ((gen.getD 4 0 : Nat) : Int) = 705979059 from rfl] at hx
            have HY1 := Aside0.mk hY1
            clear cb hY1
            go_wp2
            go_roundg kin
            case measure => omega
            case rel => exact ⟨5, Y1, by first | rfl | (simp; done), by first | rfl | (simp; done), ⟨by have := HK.out; omega, by decide⟩, HY1, rfl⟩
          · rw [show t / 2 ^ 4 % 2 = 0 by omega] at hb
            have HY1 := Aside0.mk (gb_zero HY.out cb)
            clear cb
            go_wp2
            go_roundg kin
            case measure => omega
            case rel => exact ⟨5, Y, by first | rfl | (simp; done), by first | rfl | (simp; done), ⟨by have := HK.out; omega, by decide⟩, HY1, rfl⟩
        · have HX := Aside0.mk (show Y = ((gm t x0 : Nat) : Int) ∧ gm t x0 < 1073741824 from ⟨HY.out, gbs_lt t HX0.out.2 5 (Nat.le_refl _)⟩)
          go_wp2
          have HR := Aside0.mk (show pm (gm t x0) ((lo s).drop 0 ++ (l.map Int.toNat ++ [0, 0, 0, 0, 0, 0])) = R from by rw [← HST.out]; exact HR2.out)
          clear HR2
          go_loopg [7, 14] (s.size + 1) (fun kq v7 v14 w' => ∃ (i x : Nat) (X : Int), v14 = .int .i64 (i : Int) ∧ v7 = .int .i64 X ∧ Aside0 (X = (x : Int) ∧ x < 1073741824) ∧ Aside0 (i + kq = s.size + 1 ∧ i ≤ s.size) ∧ Aside0 (pm x ((lo s).drop i ++ (l.map Int.toNat ++ [0, 0, 0, 0, 0, 0])) = R) ∧ w' = w)
          case atStart => exact ⟨0, _, _, rfl, rfl, HX, ⟨by omega, by omega⟩, HR, rfl⟩
          case round =>
            clear HX HR
            obtain ⟨i, x, X, rfl, rfl, HX, HI, HR, hw⟩ := hrel
            obtain rfl := hw.symm
            by_cases ci : i < s.size
            · obtain ⟨k1, rfl⟩ : ∃ k1, gk = k1 + 1 := ⟨gk - 1, by have := HI.out; omega⟩
              have cb : decide ((i : Int) < (s.size : Int)) = true := decide_eq_true (by omega)
              have cb2 := eq_true ci
              have HC := Aside0.mk ci
              have HYY := Aside0.mk (lo_at s i ci)
              have hby := (s[i]'ci).toNat_lt
              obtain ⟨T, X1, hT, hT2, hX1, hX1b⟩ := top_step HX.out.1 HX.out.2
              obtain ⟨t, ht⟩ : ∃ t, x / 33554432 = t := ⟨_, rfl⟩
              rw [ht] at hT2
              have HT := Aside0.mk (show T = (t : Int) ∧ t < 32 from ⟨hT2, by have := HX.out.2; omega⟩)
              obtain ⟨V, hV⟩ : ∃ V : Int, bits .and .i64 (wrap64 ((s[i]'ci).toNat : Int)) 31 = V := ⟨_, rfl⟩
              obtain ⟨v, hv⟩ : ∃ v : Nat, (s[i]'ci).toNat % 32 = v := ⟨_, rfl⟩
              have hVv : V = (v : Int) := by rw [← hV, ← hv]; rw [wrap64_id (by omega) (by omega)]; exact and_nat _ 31 5 rfl (by decide) (by omega)
              have hv32 : v < 32 := by rw [← hv]; omega
              obtain ⟨X0, hX0, hX0b, hX0l⟩ := xor_step hX1b hVv hv32
              obtain ⟨x0, hx0⟩ : ∃ x0, (x % 33554432 * 32) ^^^ v = x0 := ⟨_, rfl⟩
              rw [hx0] at hX0b hX0l
              have HX0 := Aside0.mk (And.intro hX0b hX0l)
              have HST := Aside0.mk (show stp x v = gm t x0 from by rw [← ht, ← hx0]; rfl)
              have HV := Aside0.mk hv
              have hV2 : bits .and .i64 ((s[i]'ci).toNat : Int) 31 = V := by rw [← hV, wrap64_id (by omega) (by omega)]
              clear hT2 hX1b ht hx0 hX0b hX0l hv hVv hv32
              go_wp2
              go_loopg [7, 17] 6 (fun kq v7 v17 w' => ∃ (k : Nat) (Y : Int), v17 = .int .i64 (k : Int) ∧ v7 = .int .i64 Y ∧ Aside0 (k + kq = 6 ∧ k ≤ 5) ∧ Aside0 (Y = ((gbs t k x0 : Nat) : Int)) ∧ w' = w)
              case atStart => exact ⟨0, X0, rfl, rfl, ⟨by omega, by omega⟩, ⟨HX0.out.1⟩, rfl⟩
              case round =>
                obtain ⟨k, Y, rfl, rfl, HK, HY, hw⟩ := hrel
                obtain rfl := hw.symm
                have hk5 : k = 0 ∨ k = 1 ∨ k = 2 ∨ k = 3 ∨ k = 4 ∨ k = 5 := by have := HK.out; omega
                rcases hk5 with rfl | rfl | rfl | rfl | rfl | rfl
                · obtain ⟨kin, rfl⟩ : ∃ kin, gk = kin + 1 := ⟨gk - 1, by have := HK.out; omega⟩
                  have hb := bit_val HT.out.1 HT.out.2 0 1 rfl (T) (by first | rfl | (rw [Int.ediv_one]))
                  by_cases cb : t / 2 ^ 0 % 2 = 1
                  · rw [cb] at hb
                    obtain ⟨Y1, hx, hY1⟩ := gb_one HY.out HX0.out.2 (by decide) cb
                    rw [show ((gen.getD 0 0 : Nat) : Int) = 996825010 from rfl] at hx
                    have HY1 := Aside0.mk hY1
                    clear cb hY1
                    go_wp2
                    go_roundg kin
                    case measure => omega
                    case rel => exact ⟨1, Y1, by first | rfl | (simp; done), by first | rfl | (simp; done), ⟨by have := HK.out; omega, by decide⟩, HY1, rfl⟩
                  · rw [show t / 2 ^ 0 % 2 = 0 by omega] at hb
                    have HY1 := Aside0.mk (gb_zero HY.out cb)
                    clear cb
                    go_wp2
                    go_roundg kin
                    case measure => omega
                    case rel => exact ⟨1, Y, by first | rfl | (simp; done), by first | rfl | (simp; done), ⟨by have := HK.out; omega, by decide⟩, HY1, rfl⟩
                · obtain ⟨kin, rfl⟩ : ∃ kin, gk = kin + 1 := ⟨gk - 1, by have := HK.out; omega⟩
                  have hb := bit_val HT.out.1 HT.out.2 1 2 rfl (T / 2) (by first | rfl | (rw [Int.ediv_one]))
                  by_cases cb : t / 2 ^ 1 % 2 = 1
                  · rw [cb] at hb
                    obtain ⟨Y1, hx, hY1⟩ := gb_one HY.out HX0.out.2 (by decide) cb
                    rw [show ((gen.getD 1 0 : Nat) : Int) = 642813549 from rfl] at hx
                    have HY1 := Aside0.mk hY1
                    clear cb hY1
                    go_wp2
                    go_roundg kin
                    case measure => omega
                    case rel => exact ⟨2, Y1, by first | rfl | (simp; done), by first | rfl | (simp; done), ⟨by have := HK.out; omega, by decide⟩, HY1, rfl⟩
                  · rw [show t / 2 ^ 1 % 2 = 0 by omega] at hb
                    have HY1 := Aside0.mk (gb_zero HY.out cb)
                    clear cb
                    go_wp2
                    go_roundg kin
                    case measure => omega
                    case rel => exact ⟨2, Y, by first | rfl | (simp; done), by first | rfl | (simp; done), ⟨by have := HK.out; omega, by decide⟩, HY1, rfl⟩
                · obtain ⟨kin, rfl⟩ : ∃ kin, gk = kin + 1 := ⟨gk - 1, by have := HK.out; omega⟩
                  have hb := bit_val HT.out.1 HT.out.2 2 4 rfl (T / 4) (by first | rfl | (rw [Int.ediv_one]))
                  by_cases cb : t / 2 ^ 2 % 2 = 1
                  · rw [cb] at hb
                    obtain ⟨Y1, hx, hY1⟩ := gb_one HY.out HX0.out.2 (by decide) cb
                    rw [show ((gen.getD 2 0 : Nat) : Int) = 513874426 from rfl] at hx
                    have HY1 := Aside0.mk hY1
                    clear cb hY1
                    go_wp2
                    go_roundg kin
                    case measure => omega
                    case rel => exact ⟨3, Y1, by first | rfl | (simp; done), by first | rfl | (simp; done), ⟨by have := HK.out; omega, by decide⟩, HY1, rfl⟩
                  · rw [show t / 2 ^ 2 % 2 = 0 by omega] at hb
                    have HY1 := Aside0.mk (gb_zero HY.out cb)
                    clear cb
                    go_wp2
                    go_roundg kin
                    case measure => omega
                    case rel => exact ⟨3, Y, by first | rfl | (simp; done), by first | rfl | (simp; done), ⟨by have := HK.out; omega, by decide⟩, HY1, rfl⟩
                · obtain ⟨kin, rfl⟩ : ∃ kin, gk = kin + 1 := ⟨gk - 1, by have := HK.out; omega⟩
                  have hb := bit_val HT.out.1 HT.out.2 3 8 rfl (T / 8) (by first | rfl | (rw [Int.ediv_one]))
                  by_cases cb : t / 2 ^ 3 % 2 = 1
                  · rw [cb] at hb
                    obtain ⟨Y1, hx, hY1⟩ := gb_one HY.out HX0.out.2 (by decide) cb
                    rw [show ((gen.getD 3 0 : Nat) : Int) = 1027748829 from rfl] at hx
                    have HY1 := Aside0.mk hY1
                    clear cb hY1
                    go_wp2
                    go_roundg kin
                    case measure => omega
                    case rel => exact ⟨4, Y1, by first | rfl | (simp; done), by first | rfl | (simp; done), ⟨by have := HK.out; omega, by decide⟩, HY1, rfl⟩
                  · rw [show t / 2 ^ 3 % 2 = 0 by omega] at hb
                    have HY1 := Aside0.mk (gb_zero HY.out cb)
                    clear cb
                    go_wp2
                    go_roundg kin
                    case measure => omega
                    case rel => exact ⟨4, Y, by first | rfl | (simp; done), by first | rfl | (simp; done), ⟨by have := HK.out; omega, by decide⟩, HY1, rfl⟩
                · obtain ⟨kin, rfl⟩ : ∃ kin, gk = kin + 1 := ⟨gk - 1, by have := HK.out; omega⟩
                  have hb := bit_val HT.out.1 HT.out.2 4 16 rfl (T / 16) (by first | rfl | (rw [Int.ediv_one]))
                  by_cases cb : t / 2 ^ 4 % 2 = 1
                  · rw [cb] at hb
                    obtain ⟨Y1, hx, hY1⟩ := gb_one HY.out HX0.out.2 (by decide) cb
                    rw [show ((gen.getD 4 0 : Nat) : Int) = 705979059 from rfl] at hx
                    have HY1 := Aside0.mk hY1
                    clear cb hY1
                    go_wp2
                    go_roundg kin
                    case measure => omega
                    case rel => exact ⟨5, Y1, by first | rfl | (simp; done), by first | rfl | (simp; done), ⟨by have := HK.out; omega, by decide⟩, HY1, rfl⟩
                  · rw [show t / 2 ^ 4 % 2 = 0 by omega] at hb
                    have HY1 := Aside0.mk (gb_zero HY.out cb)
                    clear cb
                    go_wp2
                    go_roundg kin
                    case measure => omega
                    case rel => exact ⟨5, Y, by first | rfl | (simp; done), by first | rfl | (simp; done), ⟨by have := HK.out; omega, by decide⟩, HY1, rfl⟩
                · have HX := Aside0.mk (show Y = ((gm t x0 : Nat) : Int) ∧ gm t x0 < 1073741824 from ⟨HY.out, gbs_lt t HX0.out.2 5 (Nat.le_refl _)⟩)
                  go_wp2
                  go_roundg k1
                  case measure => have := HI.out; omega
                  case rel => exact ⟨i + 1, _, _, by first | rfl | (rw [wrap64_id (by have := HS.out; have := HC.out; omega) (by have := HS.out; have := HC.out; omega)]; push_cast; rfl), rfl, HX, ⟨by have := HI.out; omega, by have := HC.out; omega⟩, ⟨by have := HR.out; rw [HYY.out, HV.out] at this; rw [← HST.out]; exact this⟩, rfl⟩
            · have HE := Aside0.mk (show i = s.size from by have := HI.out; omega)
              have cb : decide ((i : Int) < (s.size : Int)) = false := decide_eq_false (by omega)
              have cb2 := eq_false ci
              clear ci
              have HR2 := Aside0.mk (show pm x ((l.map Int.toNat).drop 0 ++ [0, 0, 0, 0, 0, 0]) = R from by have := HR.out; rw [HE.out, List.drop_of_length_le (by simp [lo]), List.nil_append] at this; exact this)
              clear HR HE
              have HR := HR2
              clear HR2
              go_wp2
              go_loopg [7, 120] (l.length + 1) (fun kq v7 v120 w' => ∃ (i x : Nat) (X : Int), v120 = .int .i64 (i : Int) ∧ v7 = .int .i64 X ∧ Aside0 (X = (x : Int) ∧ x < 1073741824) ∧ Aside0 (i + kq = l.length + 1 ∧ i ≤ l.length) ∧ Aside0 (pm x ((l.map Int.toNat).drop i ++ [0, 0, 0, 0, 0, 0]) = R) ∧ w' = w)
              case atStart => exact ⟨0, _, _, rfl, rfl, HX, ⟨by omega, by omega⟩, HR, rfl⟩
              case round =>
                clear HX HR
                obtain ⟨i, x, X, rfl, rfl, HX, HI, HR, hw⟩ := hrel
                obtain rfl := hw.symm
                by_cases ci : i < l.length
                · obtain ⟨k1, rfl⟩ : ∃ k1, gk = k1 + 1 := ⟨gk - 1, by have := HI.out; omega⟩
                  have cb : decide ((i : Int) < (l.length : Int)) = true := decide_eq_true (by omega)
                  have cb2 := eq_true ci
                  have HC := Aside0.mk ci
                  obtain ⟨ad1, hA1, hx1⟩ := Kd.at_int HLC.out (i : Int) (by omega) (by omega)
                  subst hA1
                  rw [Int.toNat_natCast] at hx1
                  obtain ⟨y, hy⟩ : ∃ y, rd l (i : Int) = y := ⟨_, rfl⟩
                  rw [hy] at hx1
                  have HYY := Aside0.mk (show (0 ≤ y ∧ y < 32) ∧ (l.map Int.toNat).drop i = y.toNat :: (l.map Int.toNat).drop (i + 1) from drop_val l HLV.out i ci y hy)
                  clear ci hy
                  obtain ⟨T, X1, hT, hT2, hX1, hX1b⟩ := top_step HX.out.1 HX.out.2
                  obtain ⟨t, ht⟩ : ∃ t, x / 33554432 = t := ⟨_, rfl⟩
                  rw [ht] at hT2
                  have HT := Aside0.mk (show T = (t : Int) ∧ t < 32 from ⟨hT2, by have := HX.out.2; omega⟩)
                  obtain ⟨V, hV⟩ : ∃ V : Int, wrap64 y = V := ⟨_, rfl⟩
                  obtain ⟨v, hv⟩ : ∃ v : Nat, y.toNat = v := ⟨_, rfl⟩
                  have hVv : V = (v : Int) := by rw [← hV, ← hv]; rw [wrap64_id (by have := HYY.out.1; omega) (by have := HYY.out.1; omega)]; have := HYY.out.1; omega
                  have hv32 : v < 32 := by rw [← hv]; have := HYY.out.1; omega
                  obtain ⟨X0, hX0, hX0b, hX0l⟩ := xor_step hX1b hVv hv32
                  obtain ⟨x0, hx0⟩ : ∃ x0, (x % 33554432 * 32) ^^^ v = x0 := ⟨_, rfl⟩
                  rw [hx0] at hX0b hX0l
                  have HX0 := Aside0.mk (And.intro hX0b hX0l)
                  have HST := Aside0.mk (show stp x v = gm t x0 from by rw [← ht, ← hx0]; rfl)
                  have HV := Aside0.mk hv
                  clear hT2 hX1b ht hx0 hX0b hX0l hv hVv hv32
                  go_wp2
                  go_loopg [7, 21] 6 (fun kq v7 v21 w' => ∃ (k : Nat) (Y : Int), v21 = .int .i64 (k : Int) ∧ v7 = .int .i64 Y ∧ Aside0 (k + kq = 6 ∧ k ≤ 5) ∧ Aside0 (Y = ((gbs t k x0 : Nat) : Int)) ∧ w' = w)
                  case atStart => exact ⟨0, X0, rfl, rfl, ⟨by omega, by omega⟩, ⟨HX0.out.1⟩, rfl⟩
                  case round =>
                    obtain ⟨k, Y, rfl, rfl, HK, HY, hw⟩ := hrel
                    obtain rfl := hw.symm
                    have hk5 : k = 0 ∨ k = 1 ∨ k = 2 ∨ k = 3 ∨ k = 4 ∨ k = 5 := by have := HK.out; omega
                    rcases hk5 with rfl | rfl | rfl | rfl | rfl | rfl
                    · obtain ⟨kin, rfl⟩ : ∃ kin, gk = kin + 1 := ⟨gk - 1, by have := HK.out; omega⟩
                      have hb := bit_val HT.out.1 HT.out.2 0 1 rfl (T) (by first | rfl | (rw [Int.ediv_one]))
                      by_cases cb : t / 2 ^ 0 % 2 = 1
                      · rw [cb] at hb
                        obtain ⟨Y1, hx, hY1⟩ := gb_one HY.out HX0.out.2 (by decide) cb
                        rw [show ((gen.getD 0 0 : Nat) : Int) = 996825010 from rfl] at hx
                        have HY1 := Aside0.mk hY1
                        clear cb hY1
                        go_wp2
                        go_roundg kin
                        case measure => omega
                        case rel => exact ⟨1, Y1, by first | rfl | (simp; done), by first | rfl | (simp; done), ⟨by have := HK.out; omega, by decide⟩, HY1, rfl⟩
                      · rw [show t / 2 ^ 0 % 2 = 0 by omega] at hb
                        have HY1 := Aside0.mk (gb_zero HY.out cb)
                        clear cb
                        go_wp2
                        go_roundg kin
                        case measure => omega
                        case rel => exact ⟨1, Y, by first | rfl | (simp; done), by first | rfl | (simp; done), ⟨by have := HK.out; omega, by decide⟩, HY1, rfl⟩
                    · obtain ⟨kin, rfl⟩ : ∃ kin, gk = kin + 1 := ⟨gk - 1, by have := HK.out; omega⟩
                      have hb := bit_val HT.out.1 HT.out.2 1 2 rfl (T / 2) (by first | rfl | (rw [Int.ediv_one]))
                      by_cases cb : t / 2 ^ 1 % 2 = 1
                      · rw [cb] at hb
                        obtain ⟨Y1, hx, hY1⟩ := gb_one HY.out HX0.out.2 (by decide) cb
                        rw [show ((gen.getD 1 0 : Nat) : Int) = 642813549 from rfl] at hx
                        have HY1 := Aside0.mk hY1
                        clear cb hY1
                        go_wp2
                        go_roundg kin
                        case measure => omega
                        case rel => exact ⟨2, Y1, by first | rfl | (simp; done), by first | rfl | (simp; done), ⟨by have := HK.out; omega, by decide⟩, HY1, rfl⟩
                      · rw [show t / 2 ^ 1 % 2 = 0 by omega] at hb
                        have HY1 := Aside0.mk (gb_zero HY.out cb)
                        clear cb
                        go_wp2
                        go_roundg kin
                        case measure => omega
                        case rel => exact ⟨2, Y, by first | rfl | (simp; done), by first | rfl | (simp; done), ⟨by have := HK.out; omega, by decide⟩, HY1, rfl⟩
                    · obtain ⟨kin, rfl⟩ : ∃ kin, gk = kin + 1 := ⟨gk - 1, by have := HK.out; omega⟩
                      have hb := bit_val HT.out.1 HT.out.2 2 4 rfl (T / 4) (by first | rfl | (rw [Int.ediv_one]))
                      by_cases cb : t / 2 ^ 2 % 2 = 1
                      · rw [cb] at hb
                        obtain ⟨Y1, hx, hY1⟩ := gb_one HY.out HX0.out.2 (by decide) cb
                        rw [show ((gen.getD 2 0 : Nat) : Int) = 513874426 from rfl] at hx
                        have HY1 := Aside0.mk hY1
                        clear cb hY1
                        go_wp2
                        go_roundg kin
                        case measure => omega
                        case rel => exact ⟨3, Y1, by first | rfl | (simp; done), by first | rfl | (simp; done), ⟨by have := HK.out; omega, by decide⟩, HY1, rfl⟩
                      · rw [show t / 2 ^ 2 % 2 = 0 by omega] at hb
                        have HY1 := Aside0.mk (gb_zero HY.out cb)
                        clear cb
                        go_wp2
                        go_roundg kin
                        case measure => omega
                        case rel => exact ⟨3, Y, by first | rfl | (simp; done), by first | rfl | (simp; done), ⟨by have := HK.out; omega, by decide⟩, HY1, rfl⟩
                    · obtain ⟨kin, rfl⟩ : ∃ kin, gk = kin + 1 := ⟨gk - 1, by have := HK.out; omega⟩
                      have hb := bit_val HT.out.1 HT.out.2 3 8 rfl (T / 8) (by first | rfl | (rw [Int.ediv_one]))
                      by_cases cb : t / 2 ^ 3 % 2 = 1
                      · rw [cb] at hb
                        obtain ⟨Y1, hx, hY1⟩ := gb_one HY.out HX0.out.2 (by decide) cb
                        rw [show ((gen.getD 3 0 : Nat) : Int) = 1027748829 from rfl] at hx
                        have HY1 := Aside0.mk hY1
                        clear cb hY1
                        go_wp2
                        go_roundg kin
                        case measure => omega
                        case rel => exact ⟨4, Y1, by first | rfl | (simp; done), by first | rfl | (simp; done), ⟨by have := HK.out; omega, by decide⟩, HY1, rfl⟩
                      · rw [show t / 2 ^ 3 % 2 = 0 by omega] at hb
                        have HY1 := Aside0.mk (gb_zero HY.out cb)
                        clear cb
                        go_wp2
                        go_roundg kin
                        case measure => omega
                        case rel => exact ⟨4, Y, by first | rfl | (simp; done), by first | rfl | (simp; done), ⟨by have := HK.out; omega, by decide⟩, HY1, rfl⟩
                    · obtain ⟨kin, rfl⟩ : ∃ kin, gk = kin + 1 := ⟨gk - 1, by have := HK.out; omega⟩
                      have hb := bit_val HT.out.1 HT.out.2 4 16 rfl (T / 16) (by first | rfl | (rw [Int.ediv_one]))
                      by_cases cb : t / 2 ^ 4 % 2 = 1
                      · rw [cb] at hb
                        obtain ⟨Y1, hx, hY1⟩ := gb_one HY.out HX0.out.2 (by decide) cb
                        rw [show ((gen.getD 4 0 : Nat) : Int) = 705979059 from rfl] at hx
                        have HY1 := Aside0.mk hY1
                        clear cb hY1
                        go_wp2
                        go_roundg kin
                        case measure => omega
                        case rel => exact ⟨5, Y1, by first | rfl | (simp; done), by first | rfl | (simp; done), ⟨by have := HK.out; omega, by decide⟩, HY1, rfl⟩
                      · rw [show t / 2 ^ 4 % 2 = 0 by omega] at hb
                        have HY1 := Aside0.mk (gb_zero HY.out cb)
                        clear cb
                        go_wp2
                        go_roundg kin
                        case measure => omega
                        case rel => exact ⟨5, Y, by first | rfl | (simp; done), by first | rfl | (simp; done), ⟨by have := HK.out; omega, by decide⟩, HY1, rfl⟩
                    · have HX := Aside0.mk (show Y = ((gm t x0 : Nat) : Int) ∧ gm t x0 < 1073741824 from ⟨HY.out, gbs_lt t HX0.out.2 5 (Nat.le_refl _)⟩)
                      go_wp2
                      go_roundg k1
                      case measure => have := HI.out; omega
                      case rel => exact ⟨i + 1, _, _, by first | rfl | (rw [wrap64_id (by have := HS.out; have := HC.out; omega) (by have := HS.out; have := HC.out; omega)]; push_cast; rfl), rfl, HX, ⟨by have := HI.out; omega, by have := HC.out; omega⟩, ⟨by have := HR.out; rw [HYY.out.2, HV.out] at this; rw [← HST.out]; exact this⟩, rfl⟩
                · have HE := Aside0.mk (show i = l.length from by have := HI.out; omega)
                  have cb : decide ((i : Int) < (l.length : Int)) = false := decide_eq_false (by omega)
                  have cb2 := eq_false ci
                  clear ci
                  have HR2 := Aside0.mk (show pm x (List.replicate (6 - 0) 0) = R from by have := HR.out; rw [HE.out, List.drop_of_length_le (by simp), List.nil_append] at this; exact this)
                  clear HR HE
                  have HR := HR2
                  clear HR2
                  go_wp2
                  go_loopg [7, 22] (6 + 1) (fun kq v7 v22 w' => ∃ (i x : Nat) (X : Int), v22 = .int .i64 (i : Int) ∧ v7 = .int .i64 X ∧ Aside0 (X = (x : Int) ∧ x < 1073741824) ∧ Aside0 (i + kq = 6 + 1 ∧ i ≤ 6) ∧ Aside0 (pm x (List.replicate (6 - i) 0) = R) ∧ w' = w)
                  case atStart => exact ⟨0, _, _, rfl, rfl, HX, ⟨by omega, by omega⟩, HR, rfl⟩
                  case round =>
                    clear HX HR
                    obtain ⟨i, x, X, rfl, rfl, HX, HI, HR, hw⟩ := hrel
                    obtain rfl := hw.symm
                    by_cases ci : i < 6
                    · obtain ⟨k1, rfl⟩ : ∃ k1, gk = k1 + 1 := ⟨gk - 1, by have := HI.out; omega⟩
                      have cb : decide ((i : Int) < 6) = true := decide_eq_true (by omega)
                      have cb2 := eq_true (show (i : Int) < 6 by omega)
                      have HC := Aside0.mk ci
                      clear ci
                      obtain ⟨T, X1, hT, hT2, hX1, hX1b⟩ := top_step HX.out.1 HX.out.2
                      obtain ⟨t, ht⟩ : ∃ t, x / 33554432 = t := ⟨_, rfl⟩
                      rw [ht] at hT2
                      have HT := Aside0.mk (show T = (t : Int) ∧ t < 32 from ⟨hT2, by have := HX.out.2; omega⟩)
                      obtain ⟨x0, hx0⟩ : ∃ x0, (x % 33554432 * 32) ^^^ 0 = x0 := ⟨_, rfl⟩
                      have HX0 := Aside0.mk (show X1 = (x0 : Int) ∧ x0 < 1073741824 from ⟨by rw [hX1b, ← hx0, Nat.xor_zero], by rw [← hx0, Nat.xor_zero]; omega⟩)
                      have HST := Aside0.mk (show stp x 0 = gm t x0 from by rw [← ht, ← hx0]; rfl)
                      clear hT2 hX1b ht hx0
                      obtain ⟨X0, hX0⟩ : ∃ X0, X1 = X0 := ⟨_, rfl⟩
                      rw [hX0] at HX0
                      go_wp2
                      go_loopg [7, 24] 6 (fun kq v7 v24 w' => ∃ (k : Nat) (Y : Int), v24 = .int .i64 (k : Int) ∧ v7 = .int .i64 Y ∧ Aside0 (k + kq = 6 ∧ k ≤ 5) ∧ Aside0 (Y = ((gbs t k x0 : Nat) : Int)) ∧ w' = w)
                      case atStart => exact ⟨0, X0, rfl, rfl, ⟨by omega, by omega⟩, ⟨HX0.out.1⟩, rfl⟩
                      case round =>
                        obtain ⟨k, Y, rfl, rfl, HK, HY, hw⟩ := hrel
                        obtain rfl := hw.symm
                        have hk5 : k = 0 ∨ k = 1 ∨ k = 2 ∨ k = 3 ∨ k = 4 ∨ k = 5 := by have := HK.out; omega
                        rcases hk5 with rfl | rfl | rfl | rfl | rfl | rfl
                        · obtain ⟨kin, rfl⟩ : ∃ kin, gk = kin + 1 := ⟨gk - 1, by have := HK.out; omega⟩
                          have hb := bit_val HT.out.1 HT.out.2 0 1 rfl (T) (by first | rfl | (rw [Int.ediv_one]))
                          by_cases cb : t / 2 ^ 0 % 2 = 1
                          · rw [cb] at hb
                            obtain ⟨Y1, hx, hY1⟩ := gb_one HY.out HX0.out.2 (by decide) cb
                            rw [show ((gen.getD 0 0 : Nat) : Int) = 996825010 from rfl] at hx
                            have HY1 := Aside0.mk hY1
                            clear cb hY1
                            go_wp2
                            go_roundg kin
                            case measure => omega
                            case rel => exact ⟨1, Y1, by first | rfl | (simp; done), by first | rfl | (simp; done), ⟨by have := HK.out; omega, by decide⟩, HY1, rfl⟩
                          · rw [show t / 2 ^ 0 % 2 = 0 by omega] at hb
                            have HY1 := Aside0.mk (gb_zero HY.out cb)
                            clear cb
                            go_wp2
                            go_roundg kin
                            case measure => omega
                            case rel => exact ⟨1, Y, by first | rfl | (simp; done), by first | rfl | (simp; done), ⟨by have := HK.out; omega, by decide⟩, HY1, rfl⟩
                        · obtain ⟨kin, rfl⟩ : ∃ kin, gk = kin + 1 := ⟨gk - 1, by have := HK.out; omega⟩
                          have hb := bit_val HT.out.1 HT.out.2 1 2 rfl (T / 2) (by first | rfl | (rw [Int.ediv_one]))
                          by_cases cb : t / 2 ^ 1 % 2 = 1
                          · rw [cb] at hb
                            obtain ⟨Y1, hx, hY1⟩ := gb_one HY.out HX0.out.2 (by decide) cb
                            rw [show ((gen.getD 1 0 : Nat) : Int) = 642813549 from rfl] at hx
                            have HY1 := Aside0.mk hY1
                            clear cb hY1
                            go_wp2
                            go_roundg kin
                            case measure => omega
                            case rel => exact ⟨2, Y1, by first | rfl | (simp; done), by first | rfl | (simp; done), ⟨by have := HK.out; omega, by decide⟩, HY1, rfl⟩
                          · rw [show t / 2 ^ 1 % 2 = 0 by omega] at hb
                            have HY1 := Aside0.mk (gb_zero HY.out cb)
                            clear cb
                            go_wp2
                            go_roundg kin
                            case measure => omega
                            case rel => exact ⟨2, Y, by first | rfl | (simp; done), by first | rfl | (simp; done), ⟨by have := HK.out; omega, by decide⟩, HY1, rfl⟩
                        · obtain ⟨kin, rfl⟩ : ∃ kin, gk = kin + 1 := ⟨gk - 1, by have := HK.out; omega⟩
                          have hb := bit_val HT.out.1 HT.out.2 2 4 rfl (T / 4) (by first | rfl | (rw [Int.ediv_one]))
                          by_cases cb : t / 2 ^ 2 % 2 = 1
                          · rw [cb] at hb
                            obtain ⟨Y1, hx, hY1⟩ := gb_one HY.out HX0.out.2 (by decide) cb
                            rw [show ((gen.getD 2 0 : Nat) : Int) = 513874426 from rfl] at hx
                            have HY1 := Aside0.mk hY1
                            clear cb hY1
                            go_wp2
                            go_roundg kin
                            case measure => omega
                            case rel => exact ⟨3, Y1, by first | rfl | (simp; done), by first | rfl | (simp; done), ⟨by have := HK.out; omega, by decide⟩, HY1, rfl⟩
                          · rw [show t / 2 ^ 2 % 2 = 0 by omega] at hb
                            have HY1 := Aside0.mk (gb_zero HY.out cb)
                            clear cb
                            go_wp2
                            go_roundg kin
                            case measure => omega
                            case rel => exact ⟨3, Y, by first | rfl | (simp; done), by first | rfl | (simp; done), ⟨by have := HK.out; omega, by decide⟩, HY1, rfl⟩
                        · obtain ⟨kin, rfl⟩ : ∃ kin, gk = kin + 1 := ⟨gk - 1, by have := HK.out; omega⟩
                          have hb := bit_val HT.out.1 HT.out.2 3 8 rfl (T / 8) (by first | rfl | (rw [Int.ediv_one]))
                          by_cases cb : t / 2 ^ 3 % 2 = 1
                          · rw [cb] at hb
                            obtain ⟨Y1, hx, hY1⟩ := gb_one HY.out HX0.out.2 (by decide) cb
                            rw [show ((gen.getD 3 0 : Nat) : Int) = 1027748829 from rfl] at hx
                            have HY1 := Aside0.mk hY1
                            clear cb hY1
                            go_wp2
                            go_roundg kin
                            case measure => omega
                            case rel => exact ⟨4, Y1, by first | rfl | (simp; done), by first | rfl | (simp; done), ⟨by have := HK.out; omega, by decide⟩, HY1, rfl⟩
                          · rw [show t / 2 ^ 3 % 2 = 0 by omega] at hb
                            have HY1 := Aside0.mk (gb_zero HY.out cb)
                            clear cb
                            go_wp2
                            go_roundg kin
                            case measure => omega
                            case rel => exact ⟨4, Y, by first | rfl | (simp; done), by first | rfl | (simp; done), ⟨by have := HK.out; omega, by decide⟩, HY1, rfl⟩
                        · obtain ⟨kin, rfl⟩ : ∃ kin, gk = kin + 1 := ⟨gk - 1, by have := HK.out; omega⟩
                          have hb := bit_val HT.out.1 HT.out.2 4 16 rfl (T / 16) (by first | rfl | (rw [Int.ediv_one]))
                          by_cases cb : t / 2 ^ 4 % 2 = 1
                          · rw [cb] at hb
                            obtain ⟨Y1, hx, hY1⟩ := gb_one HY.out HX0.out.2 (by decide) cb
                            rw [show ((gen.getD 4 0 : Nat) : Int) = 705979059 from rfl] at hx
                            have HY1 := Aside0.mk hY1
                            clear cb hY1
                            go_wp2
                            go_roundg kin
                            case measure => omega
                            case rel => exact ⟨5, Y1, by first | rfl | (simp; done), by first | rfl | (simp; done), ⟨by have := HK.out; omega, by decide⟩, HY1, rfl⟩
                          · rw [show t / 2 ^ 4 % 2 = 0 by omega] at hb
                            have HY1 := Aside0.mk (gb_zero HY.out cb)
                            clear cb
                            go_wp2
                            go_roundg kin
                            case measure => omega
                            case rel => exact ⟨5, Y, by first | rfl | (simp; done), by first | rfl | (simp; done), ⟨by have := HK.out; omega, by decide⟩, HY1, rfl⟩
                        · have HX := Aside0.mk (show Y = ((gm t x0 : Nat) : Int) ∧ gm t x0 < 1073741824 from ⟨HY.out, gbs_lt t HX0.out.2 5 (Nat.le_refl _)⟩)
                          go_wp2
                          go_roundg k1
                          case measure => have := HI.out; omega
                          case rel => exact ⟨i + 1, _, _, by first | rfl | (rw [wrap64_id (by have := HS.out; have := HC.out; omega) (by have := HS.out; have := HC.out; omega)]; push_cast; rfl), rfl, HX, ⟨by have := HI.out; omega, by have := HC.out; omega⟩, ⟨by have := HR.out; rw [show 6 - i = (6 - (i + 1)) + 1 from by have := HC.out; omega, List.replicate_succ] at this; rw [← HST.out]; exact this⟩, rfl⟩
                    · have HE := Aside0.mk (show i = 6 from by have := HI.out; omega)
                      have cb : decide ((i : Int) < 6) = false := decide_eq_false (by omega)
                      have cb2 := eq_false (show ¬ (i : Int) < 6 by omega)
                      clear ci
                      have HRR := Aside0.mk (show x = R from by have := HR.out; rw [HE.out] at this; rw [show 6 - 6 = 0 from rfl, List.replicate_zero] at this; exact this)
                      clear HR
                      go_wp2
                      go_ret
                      exact ⟨by rw [← HRR.out, ← HX.out.1]; rfl, rfl⟩
end Go.Proofs.YtciocjaelmnhiaaDoor.Bp
