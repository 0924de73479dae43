/-
  spec.BloomHas: whether all bits that a hash names are set.
-/
import Derived.Test.YtojadhcbjcpifaaBlPure
namespace Go.Proofs.Ytojadhcbjcpifaa.Bl
open Go.RowKit Go.Proofs.YtojadhcbjcpifaaW.PrintWords Go.Proofs.YtojadhcbjcpifaaW.PrintLast Go.Proofs.Ytojadhcbjcpifaa.Reg Go.Proofs.Ytojadhcbjcpifaa.By Go.Proofs.Ytojadhcbjcpifaa.Tx Go.Proofs.Ytojadhcbjcpifaa.Mur Go.Proofs.Ytojadhcbjcpifaa.Tok
set_option linter.unusedSimpArgs false
set_option linter.unusedVariables false

theorem box_list (w : World) (cs : Array Value) (t : TypeId) (g : Nat) (h : w.heap[g]? = some (.cells cs t (0, 0))) : ∀ j v, cs.toList[j]? = some v → w.cell? ((⟨g, 0, none⟩ : Addr).add j) = some v := by
  intro j v hj
  rw [Addr.add_mid, Nat.zero_add, cell_of_row _ _ _ _ _ _ h]
  simpa using hj
/-- The quotient and the rest by eight, as the walk spells them. -/
theorem quo8 (x : Int) (h0 : 0 ≤ x) (h1 : x < 16000) : IntKind.u32.wrap (Int.tdiv x 8) = x / 8 := by
  rw [Int.tdiv_eq_ediv_of_nonneg h0]; unfold IntKind.wrap; simp [IntKind.bits, IntKind.signed]; omega
theorem rem8 (x : Int) (h0 : 0 ≤ x) : Int.tmod x 8 = x % 8 := Int.tmod_eq_emod_of_nonneg h0
theorem hasB_true {n : Nat} {t : Int} {b l : List Int} {k : Nat} (h : ∀ j < k, getB l (bitOf n j t b) = true) : hasB n t b l k = true := decide_eq_true h
theorem hasB_false {n : Nat} {t : Int} {b l : List Int} {k j : Nat} (hj : j < k) (h : getB l (bitOf n j t b) = false) : hasB n t b l k = false := decide_eq_false fun h' => by rw [h' j hj] at h; cases h
set_option maxHeartbeats 8000000 in
set_option maxRecDepth 100000 in
theorem has_calls (A : Option Addr) (l : List Int) (c K : Nat) (t : Int) (B : Option Addr) (cb : Nat) (b : List Int) (w : World) (hA : Kd.C (Kd.int .u8) w A l.length l) (hB : Bytes l) (hC : Kd.C (Kd.int .u8) w B b.length b) (hb : Bytes b) (hl : b.length ≤ 100000) (hn : 1 ≤ l.length ∧ l.length ≤ 2000) (hk : 1 ≤ K ∧ K ≤ 50) (ht : 0 ≤ t ∧ t < 4294967296) :
    Calls Try.prog 14 #[.agg #[.slice A l.length c, .int .u32 (K : Int), .int .u32 t], .slice B b.length cb] w fun e w' => e = .returned (.bool (hasB l.length t b l K)) ∧ Below w.heap.size w w' := by
  obtain ⟨n, hnn⟩ : ∃ n, l.length = n := ⟨_, rfl⟩
  obtain ⟨k, hkk⟩ : ∃ k : Int, (K : Int) = k := ⟨_, rfl⟩
  rw [hnn, hkk]
  rw [hnn] at hA hn
  obtain ⟨W0, hW0⟩ : ∃ W0, w.alloc (.cells #[.slice A n c, .int .u32 k, .int .u32 t] 27) = W0 := ⟨_, rfl⟩
  have hB0 : Below w.heap.size w W0 := hW0 ▸ below_alloc (Below.refl _ _) _
  have hblk : W0.heap[w.heap.size]? = some (.cells #[.slice A n c, .int .u32 k, .int .u32 t] 27 (0, 0)) := hW0 ▸ heap_alloc_new w _
  have hc : ∀ W, Below W0.heap.size W0 W → W.cell? ⟨w.heap.size, 2, none⟩ = some (.int .u32 t) ∧ W.cell? ⟨w.heap.size, 0, none⟩ = some (.slice A n c) ∧ W.cell? ⟨w.heap.size, 1, none⟩ = some (.int .u32 k) := fun W hW =>
    ⟨(blk_cell (blk_below hblk hW) 2).trans rfl, (blk_cell (blk_below hblk hW) 0).trans rfl, (blk_cell (blk_below hblk hW) 1).trans rfl⟩
  have HC := Lib.hid hc
  have hall : w.alloc (.cells #[.slice A n c, .int .u32 k, .int .u32 t] 27) = W0 := hW0
  have HBIT := Lib.hid (show ∀ W i, Below w.heap.size w W → 0 ≤ i ∧ i < 4294967296 → Calls Try.prog 23 #[.agg #[.slice A n c, .int .u32 k, .int .u32 t], .int .u32 i, .slice B b.length cb] W fun e w' => e = .returned (.int .u32 (bitOf n i t b)) ∧ Below W.heap.size W w' from fun W i hW hi => bit_calls A n c k t i B cb b W (Kd.C_below hC hW) hb hl hn hi ht)
  have HN := Lib.hid hn
  have HNN := Lib.hid hnn
  have HK0 := Lib.hid hk
  have HKK := Lib.hid hkk
  have HBY := Lib.hid hB
  have HA := Lib.hid (Kd.C_below hA hB0)
  have HB0 := Lib.hid hB0
  have z0 := (hc W0 (Below.refl _ _)).2.1
  have hn0 : ((n : Int) = 0) = False := eq_false (by omega)
  have hn1 : (n = 0) = False := eq_false (by omega)
  have hn2 : ((n : Int) == 0) = false := by rw [beq_eq_false_iff_ne]; omega
  clear hA hC hb hl hn hc hB0 hW0 hblk hnn hkk hB hk
  go_enter Try.func14, Try.ntmps14
  try rw [hall]
  go_wp2
  try rw [hall]
  go_loopg [5] (K + 1) (fun kq v5 w' => ∃ (i : Nat) (xi : Int), v5 = .int .u32 xi ∧ Hid (xi = (i : Int)) ∧ Hid (i + kq = K + 1) ∧ Hid (∀ j < i, getB l (bitOf n j t b) = true) ∧ Hid (Below W0.heap.size W0 w'))
  case atStart => exact ⟨0, 0, rfl, Lib.hid rfl, Lib.hid (Nat.zero_add _), Lib.hid (fun j hj => absurd hj (Nat.not_lt_zero _)), Lib.hid (by repeat (first | exact Below.refl _ _ | apply below_drew))⟩
  case round =>
    clear hall
    obtain ⟨i, xi, rfl, HI, HK, HS, HB⟩ := hrel
    obtain ⟨ha1, ha2, ha3⟩ := HC.out _ HB.out
    by_cases ci : i < K
    · have q0 : xi < k := by rw [HI.out, ← HKK.out]; omega
      have p0 : 0 ≤ xi := by rw [HI.out]; omega
      have r0 : xi < 50 := by rw [HI.out]; have := HK0.out; omega
      have qb : decide (xi < k) = true := decide_eq_true q0
      obtain ⟨k1, rfl⟩ : ∃ k1, gk = k1 + 1 := ⟨gk - 1, by have := HK.out; omega⟩
      have hw1 : IntKind.u32.wrap (xi + 1) = xi + 1 := by unfold IntKind.wrap; simp [IntKind.bits, IntKind.signed]; omega
      have HBI := Lib.hid (HBIT.out wr xi (below_step HB0.out HB.out) (by omega))
      obtain ⟨x, hx⟩ : ∃ x, bitOf n xi t b = x := ⟨_, rfl⟩
      have hxr := bitOf_range n HN.out.1 xi t b
      rw [hx] at HBI hxr
      obtain ⟨ad, rfl, y0⟩ := Kd.at_int HA.out (x / 8) (by omega) (by omega)
      have HXR := Lib.hid hxr
      have HX := Lib.hid hx
      have hx8 : x < 16000 := by have := HN.out; omega
      have HQ := Lib.hid (quo8 x hxr.1 hx8)
      have HR := Lib.hid (rem8 x hxr.1)
      have hq0 : 0 ≤ x / 8 := by omega
      have hq1 : x / 8 < (n : Int) := by omega
      obtain ⟨q, hq⟩ : ∃ q, x / 8 = q := ⟨_, rfl⟩
      obtain ⟨r, hr⟩ : ∃ r, x % 8 = r := ⟨_, rfl⟩
      have hr0 : 0 ≤ r ∧ r < 8 := by omega
      rw [hq] at HQ hq0 hq1 y0
      rw [hr] at HR
      have HQ2 := Lib.hid hq
      have HR2 := Lib.hid hr
      have HR0 := Lib.hid hr0
      obtain ⟨y, hy⟩ : ∃ y, rd l q = y := ⟨_, rfl⟩
      rw [hy] at y0
      have HY := Lib.hid hy
      have hr8 : r ≤ 8 := by omega
      have hr1 := hr0.1
      clear hx hq hr hr0 hy hxr q0 p0 r0 hx8
      have HG := Lib.hid (show getB l x = decide (bits .and .u8 (y / 2 ^ r.toNat) 1 ≠ 0) by rw [getB, HQ2.out, HR2.out, ← HY.out]; rfl)
      by_cases cg : bits .and .u8 (y / 2 ^ r.toNat) 1 = 0
      · have cg1 : (bits .and .u8 (y / 2 ^ r.toNat) 1 == 0) = true := by rw [beq_iff_eq]; exact cg
        have HGF := Lib.hid (show getB l x = false by rw [HG.out]; exact decide_eq_false fun h => h cg)
        go_wp2_with (first | (go_at_call 23; go_must (refine HBI.out.mono ?_); rintro e w3 ⟨rfl, hB3⟩; have HB3 := Lib.hid (below_step HB.out hB3); clear hB3; have hd2 := (HC.out _ HB3.out).2.1; have hy3 := (HB3.out.cell (World.block_lt_of_cell? W0 _ y0)).trans y0; have hqq := HQ.out; have hrr := HR.out))
        go_ret
        refine ⟨?_, below_step HB0.out HB3.out⟩
        rw [hasB_false ci (by rw [← HI.out, HX.out]; exact HGF.out)]
        rfl
      · have cg1 : (bits .and .u8 (y / 2 ^ r.toNat) 1 == 0) = false := by rw [beq_eq_false_iff_ne]; exact cg
        have HGT := Lib.hid (show getB l x = true by rw [HG.out]; exact decide_eq_true cg)
        go_wp2_with (first | (go_at_call 23; go_must (refine HBI.out.mono ?_); rintro e w3 ⟨rfl, hB3⟩; have HB3 := Lib.hid (below_step HB.out hB3); clear hB3; have hd2 := (HC.out _ HB3.out).2.1; have hy3 := (HB3.out.cell (World.block_lt_of_cell? W0 _ y0)).trans y0; have hqq := HQ.out; have hrr := HR.out))
        go_roundg k1
        case measure => omega
        case rel => exact ⟨i + 1, xi + 1, rfl, Lib.hid (by rw [HI.out]; omega), Lib.hid (by have := HK.out; omega), Lib.hid (fun j hj => by
            by_cases e : j = i
            · subst e; rw [← HI.out, HX.out]; exact HGT.out
            · exact HS.out j (by omega)), HB3⟩
    · have qb : decide (xi < k) = false := decide_eq_false (by rw [HI.out, ← HKK.out]; omega)
      go_wp2
      go_ret
      refine ⟨?_, below_step HB0.out HB.out⟩
      rw [hasB_true fun j hj => HS.out j (by omega)]
      rfl
end Go.Proofs.Ytojadhcbjcpifaa.Bl
