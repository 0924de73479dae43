/-
  The reference's reader of bytes: little.
-/
import Derived.Test.YtclbkinlgjdojaaDoorRv1
namespace Go.Proofs.YtclbkinlgjdojaaDoor.Rv
open Go.RowKit Go.Proofs.YtclbkinlgjdojaaDoorW.PrintWords Go.Proofs.YtclbkinlgjdojaaDoorW.PrintLast Go.Proofs.YtclbkinlgjdojaaDoor.Reg Go.Proofs.YtclbkinlgjdojaaDoor.Tok
set_option linter.unusedSimpArgs false
set_option linter.unusedVariables false

theorem leV_lt : ∀ {l : List Int}, Bytes l → leV l < 256 ^ l.length
  | [], _ => by simp [leV]
  | b :: r, h => by
    have h1 := leV_lt (l := r) (fun x hx => h x (List.mem_cons_of_mem _ hx))
    have h2 := h b List.mem_cons_self
    have e : (256 : Int) ^ (b :: r).length = 256 * 256 ^ r.length := by rw [List.length_cons, Int.pow_succ, Int.mul_comm]
    rw [leV, e]
    omega
theorem leV_drop (d : List Int) (i : Nat) (hi : i < d.length) : leV (d.drop i) = d.getD i 0 + 256 * leV (d.drop (i + 1)) := by
  rw [List.drop_eq_getElem_cons hi, leV, List.getD_eq_getElem?_getD, List.getElem?_eq_getElem hi]
  rfl
theorem bytes_drop {d : List Int} (h : Bytes d) (i : Nat) : Bytes (d.drop i) := fun x hx => h x (List.mem_of_mem_drop hx)
theorem bytes_take {d : List Int} (h : Bytes d) (i : Nat) : Bytes (d.take i) := fun x hx => h x (List.mem_of_mem_take hx)
theorem pow_le {n : Nat} (h : n ≤ 7) : (256 : Int) ^ n ≤ 72057594037927936 := by
  have : ∀ n : Fin 8, (256 : Int) ^ n.val ≤ 72057594037927936 := by decide
  exact this ⟨n, by omega⟩
set_option maxHeartbeats 8000000 in
set_option maxRecDepth 100000 in
theorem lit_bad (g : Nat) (A : Option Addr) (n c : Nat) (p k : Int) (w : World) (h : Wr w g A n c p false) (hp : 0 ≤ p ∧ p ≤ n) (hn : n ≤ 100000) (hk : 1 ≤ k ∧ k ≤ 8) (hf : p + k > n) :
    Calls Tryd.prog 11 #[.pointer (some ⟨g, 0, none⟩), .int .i64 k] w fun e w' => e = .returned (.int .u64 0) ∧ Wr w' g A n c p true ∧ Below g w w' := by
  have HT := Lib.hid (take_bad g A n c p k w h hp hn hk hf)
  have hw1 : IntKind.u64.wrap k = k := u64_id (by omega) (by omega)
  clear h hp hn hk hf
  go_enter Tryd.func11, Tryd.ntmps11
  go_wp2_with (go_at_call 17; go_must ((with_reducible refine HT.out.mono ?_); rintro e w1 ⟨rfl, hW, hB⟩; have HW := Lib.hid hW; have HB := Lib.hid hB; clear hW hB))
  go_loopg [6, 7] 1 (fun kq v6 v7 w' => v6 = .int .u64 0 ∧ v7 = .int .i64 (-1) ∧ w' = w1)
  case atStart => exact ⟨rfl, by first | rfl | (simp; done) | decide, rfl⟩
  case round =>
    obtain ⟨rfl, rfl, rfl⟩ := hrel
    go_wp2
    go_ret
    exact ⟨rfl, HW.out, HB.out⟩
set_option maxHeartbeats 8000000 in
set_option maxRecDepth 100000 in
theorem lit_ok (g : Nat) (A : Option Addr) (c : Nat) (l : List Int) (p k : Int) (w : World) (h : Wr w g A l.length c p false) (hC : Kd.C (Kd.int .u8) w A l.length l) (hc : l.length ≤ c) (hcm : c ≤ 9223372036854775807) (hp : 0 ≤ p) (hn : l.length ≤ 100000) (hk : 1 ≤ k ∧ k ≤ 8) (hf : p + k ≤ l.length) (hne : ∀ ad, A = some ad → ad.block ≠ g) (hb : Bytes l) :
    Calls Tryd.prog 11 #[.pointer (some ⟨g, 0, none⟩), .int .i64 k] w fun e w' => e = .returned (.int .u64 (leV ((l.drop p.toNat).take k.toNat))) ∧ Wr w' g A l.length c (p + k) false ∧ Below g w w' := by
  have HT := Lib.hid (take_ok g A c l p k w h hC hc hcm hp hn hk hf hne)
  have hw1 : IntKind.u64.wrap k = k := u64_id (by omega) (by omega)
  have hw2 : wrap64 (k - 1) = k - 1 := wrap64_id (by omega) (by omega)
  have HGW := Lib.hid (blk_lt h)
  obtain ⟨d, hd⟩ : ∃ d, (l.drop p.toNat).take k.toNat = d := ⟨_, rfl⟩
  have hdl : (d.length : Int) = k := by rw [← hd, List.length_take, List.length_drop]; omega
  have HDL := Lib.hid hdl
  have HDB := Lib.hid (show Bytes d from hd ▸ bytes_take (bytes_drop hb _) _)
  rw [hd] at HT ⊢
  have HK := Lib.hid hk
  clear h hC hc hcm hp hn hk hf hne hb hd hdl
  go_enter Tryd.func11, Tryd.ntmps11
  go_wp2_with (go_at_call 17; go_must ((with_reducible refine HT.out.mono ?_); rintro e w1 ⟨v, rfl, hR, hW, hB⟩; obtain ⟨A1, c1, rfl, _, hC1⟩ := Kd.R_reads hR; have hlen : ((d.length : Nat) : Int) = k := HDL.out; have HC1 := Lib.hid hC1; have HW := Lib.hid hW; have HB := Lib.hid hB; clear hW hB hR hC1))
  clear hlen
  go_loopg [6, 7] (d.length + 1) (fun kq v6 v7 w' => ∃ (m : Nat) (xi u : Int), v7 = .int .i64 xi ∧ v6 = .int .u64 u ∧ Hid (xi = (m : Int) - 1 ∧ u = leV (d.drop m)) ∧ Hid (m + 1 = kq ∧ m ≤ d.length) ∧ Hid (w' = w1))
  case atStart => exact ⟨d.length, k - 1, 0, by rw [hw2], rfl, Lib.hid ⟨by have := HDL.out; omega, by rw [List.drop_of_length_le (Nat.le_refl _)]; rfl⟩, Lib.hid ⟨rfl, Nat.le_refl _⟩, Lib.hid rfl⟩
  case round =>
    clear hw2
    obtain ⟨m, xi, u, rfl, rfl, HI, HK2, HWE⟩ := hrel
    have hwe := HWE.out
    subst hwe
    by_cases ci : 0 < m
    · have hk8 := HK.out
      have hdl := HDL.out
      have hi := HI.out
      have hk2 := HK2.out
      have p0 : 0 ≤ xi := by omega
      have p1 : xi < k := by omega
      have qb : decide (0 ≤ xi) = true := decide_eq_true p0
      obtain ⟨k1, rfl⟩ : ∃ k1, gk = k1 + 1 := ⟨gk - 1, by omega⟩
      have hw3 : wrap64 (xi - 1) = xi - 1 := wrap64_id (by omega) (by omega)
      obtain ⟨ad, rfl, y0⟩ := Kd.at_int HC1.out xi p0 (by omega)
      obtain ⟨b, hb⟩ : ∃ b, rd d xi = b := ⟨_, rfl⟩
      rw [hb] at y0
      have hxn : xi.toNat = m - 1 := by omega
      have hbr : 0 ≤ b ∧ b < 256 := by
        rw [← hb, rd, List.getD_eq_getElem?_getD, List.getElem?_eq_getElem (show xi.toNat < d.length by omega)]
        exact HDB.out _ (List.getElem_mem _)
      have e1 := leV_drop d (m - 1) (by omega)
      rw [show m - 1 + 1 = m by omega, ← hi.2] at e1
      have hbd : d.getD (m - 1) 0 = b := by rw [← hb, rd, hxn]
      rw [hbd] at e1
      have hu0 : 0 ≤ u := by rw [hi.2]; exact leV_nonneg (bytes_drop HDB.out _)
      have hu1 : u < 72057594037927936 := by
        rw [hi.2]
        refine Int.lt_of_lt_of_le (leV_lt (bytes_drop HDB.out _)) (pow_le ?_)
        rw [List.length_drop]; omega
      obtain ⟨u2, hu2⟩ : ∃ u2, leV (d.drop (m - 1)) = u2 := ⟨_, rfl⟩
      rw [hu2] at e1
      have hs1 : IntKind.u64.wrap (u * 256) = u * 256 := u64_id (by omega) (by omega)
      have hs : IntKind.u64.wrap (u * 256 + b) = u2 := by rw [show u * 256 + b = u2 by omega]; exact u64_id (by omega) (by omega)
      have hb64 : IntKind.u64.wrap b = b := u64_id (by omega) (by omega)
      have hxd : xi < (d.length : Int) := by omega
      have HU2 := Lib.hid hu2
      have HM := Lib.hid ci
      clear hk8 hdl hi hk2 hb hxn e1 hbd hu2 ci hu0 hu1
      go_wp2
      go_roundg k1
      case measure => have := HK2.out; omega
      case rel => exact ⟨m - 1, xi - 1, u2, rfl, rfl, Lib.hid ⟨by have := HI.out; have := HM.out; omega, HU2.out.symm⟩, Lib.hid (by have := HK2.out; have := HM.out; omega), Lib.hid rfl⟩
    · have qb : decide (0 ≤ xi) = false := decide_eq_false (by have := HI.out; omega)
      have HU := Lib.hid (show u = leV d by have := HI.out; rw [this.2, show m = 0 by omega]; rfl)
      clear ci
      go_wp2
      go_ret
      exact ⟨by rw [← HU.out]; rfl, HW.out, HB.out⟩
end Go.Proofs.YtclbkinlgjdojaaDoor.Rv
