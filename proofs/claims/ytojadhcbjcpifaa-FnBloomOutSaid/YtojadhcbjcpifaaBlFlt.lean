/-
  btcutil's filter: hash, matches, add.
-/
import Derived.Test.YtojadhcbjcpifaaBlAdd
import Derived.Test.YtojadhcbjcpifaaMurImpl
namespace Go.Proofs.Ytojadhcbjcpifaa.Bl
open Go.RowKit Go.Proofs.YtojadhcbjcpifaaW.PrintWords Go.Proofs.YtojadhcbjcpifaaW.PrintLast Go.Proofs.Ytojadhcbjcpifaa.Reg Go.Proofs.Ytojadhcbjcpifaa.By Go.Proofs.Ytojadhcbjcpifaa.Tx Go.Proofs.Ytojadhcbjcpifaa.Mur Go.Proofs.Ytojadhcbjcpifaa.Tok
set_option linter.unusedSimpArgs false
set_option linter.unusedVariables false

/-- btcutil's filter: its block F (the lock's word is st), its message M, its row g. -/
structure Flt (base F M g n c : Nat) (l : List Int) (k t st : Int) (w : World) : Prop where
  fb : w.heap[F]? = some (.cells #[.int .i32 st, .int .u32 0, .pointer (some ⟨M, 0, none⟩)] 71 (0, 0))
  mb : w.heap[M]? = some (.cells #[.slice (some ⟨g, 0, none⟩) n c, .int .u32 k, .int .u32 t, .int .u8 0] 64 (0, 0))
  row : Kd.R (Kd.int .u8) 5 w base (fun _ => True) (.slice (some ⟨g, 0, none⟩) n c) l
  bF : base ≤ F
  bM : base ≤ M
section
variable {base F M g n c : Nat} {l : List Int} {k t st : Int} {w w1 : World}
theorem Flt.below (h : Flt base F M g n c l k t st w) (hb : Below w.heap.size w w1) : Flt base F M g n c l k t st w1 := ⟨blk_below h.fb hb, blk_below h.mb hb, Kd.R_below h.row hb, h.bF, h.bM⟩
theorem Flt.bg (h : Flt base F M g n c l k t st w) : base ≤ g := Kd.R_base h.row g rfl
theorem Flt.lg (h : Flt base F M g n c l k t st w) : g < w.heap.size := Kd.R_lt h.row g rfl
theorem Flt.len (h : Flt base F M g n c l k t st w) : l.length = n := (Kd.R_reads' h.row).1.symm
theorem Flt.Fg (h : Flt base F M g n c l k t st w) : F ≠ g := fun e => by
  obtain ⟨cs, hc⟩ := Kd.R_typed h.row g rfl
  rw [← e, h.fb] at hc
  simp at hc
theorem Flt.Mg (h : Flt base F M g n c l k t st w) : M ≠ g := fun e => by
  obtain ⟨cs, hc⟩ := Kd.R_typed h.row g rfl
  rw [← e, h.mb] at hc
  simp at hc
theorem Flt.FM (h : Flt base F M g n c l k t st w) : F ≠ M := fun e => by
  have := h.mb
  rw [← e, h.fb] at this
  simp at this
/-- A byte is set. -/
theorem Flt.put (h : Flt base F M g n c l k t st w) (i : Int) (x : Int) : Flt base F M g n c (l.set i.toNat x) k t st (w.setCell ⟨g, i.toNat, none⟩ (.int .u8 x)) :=
  ⟨blk_far h.fb h.Fg _, blk_far h.mb h.Mg _, Kd.R_putn h.row i x, h.bF, h.bM⟩
/-- The lock's word is set. -/
theorem Flt.word (h : Flt base F M g n c l k t st w) (s : Int) : Flt base F M g n c l k t s (w.setCell ⟨F, 0, none⟩ (.int .i32 s)) :=
  ⟨blk_set h.fb 0 _, blk_far h.mb h.FM.symm _, Kd.R_set h.row h.fb (by decide) 0 _, h.bF, h.bM⟩
/-- What bytes lie elsewhere lie there still. -/
theorem keep_put (w : World) (g : Nat) (j : Nat) (u : Value) : KeepBut w (w.setCell ⟨g, j, none⟩ u) g none := (KeepBut.refl w g none).set_ j u
theorem V_C {A : Option Addr} {b : List Int} {cb : Nat} (hc : b.length ≤ cb) (h : Kd.C (Kd.int .u8) w A b.length b) : Kd.V (Kd.int .u8) 5 w w.heap.size (fun _ => True) (.slice A b.length cb) b :=
  Kd.V_mk hc fun W' hW => (Kd.heap_int .u8).C (fun k hk => hW k trivial hk) h
end
set_option maxHeartbeats 8000000 in
set_option maxRecDepth 100000 in
theorem fhash_calls (base F M g n c : Nat) (l : List Int) (k t st i : Int) (B : Option Addr) (cb : Nat) (b : List Int) (w : World) (hF : Flt base F M g n c l k t st w) (hC : Kd.C (Kd.int .u8) w B b.length b) (hcb : b.length ≤ cb) (hb : Bytes b) (hl : b.length ≤ 100000) (hn : 1 ≤ n ∧ n ≤ 2000) (hi : 0 ≤ i ∧ i < 4294967296) (ht : 0 ≤ t ∧ t < 4294967296) :
    Calls Try.prog 45 #[.pointer (some ⟨F, 0, none⟩), .int .u32 i, .slice B b.length cb] w fun e w' => e = .returned (.int .u32 (bitOf n i t b)) ∧ Below w.heap.size w w' := by
  obtain ⟨s, hs⟩ : ∃ s, seedOf i t = s := ⟨_, rfl⟩
  have hs0 : 0 ≤ s ∧ s < 4294967296 := by rw [← hs]; unfold seedOf; omega
  have HM := Lib.hid (hash_calls B cb b s w (V_C hcb hC) hb hl hs0)
  have z2 : w.cell? ⟨F, 2, none⟩ = some (.pointer (some ⟨M, 0, none⟩)) := (blk_cell hF.fb 2).trans rfl
  have m0 : w.cell? ⟨M, 0, none⟩ = some (.slice (some ⟨g, 0, none⟩) n c) := (blk_cell hF.mb 0).trans rfl
  have m2 : w.cell? ⟨M, 2, none⟩ = some (.int .u32 t) := (blk_cell hF.mb 2).trans rfl
  have HF := Lib.hid hF
  obtain ⟨m, hm⟩ : ∃ m, murm s b = m := ⟨_, rfl⟩
  rw [bitOf, hs, hm]
  rw [hm] at HM
  have hw1 : (i * 4221880213 + t) % 4294967296 = s := hs
  obtain ⟨q, hq⟩ : ∃ q : Int, 8 * (n : Int) = q := ⟨_, rfl⟩
  rw [hq]
  have HQ0 := Lib.hid (show 8 ≤ q ∧ q ≤ 16000 by omega)
  obtain ⟨p, hp⟩ : ∃ p : Int, (n : Int) = p := ⟨_, rfl⟩
  have hw2 : IntKind.u32.wrap (n : Int) = p := by clear hw1; rw [hp]; unfold IntKind.wrap; simp [IntKind.bits, IntKind.signed]; omega
  have hw3 : IntKind.u32.wrap (p * 8) = q := by clear hw1 hw2; unfold IntKind.wrap; simp [IntKind.bits, IntKind.signed]; omega
  have hz : (q = 0) = False := eq_false (by have := HQ0.out; clear hw1 hw2 hw3; omega)
  have hz2 : (q == 0) = false := by rw [beq_eq_false_iff_ne]; have := HQ0.out; clear hw1 hw2 hw3; omega
  clear hF hC hb hl hn hi ht hs hs0 hm hq hp
  go_enter Try.func45, Try.ntmps45
  go_wp2_with (go_at_call 15; (with_reducible refine HM.out.mono ?_); rintro e w3 ⟨rfl, hB⟩; have y2 := (hB.cell (World.block_lt_of_cell? w _ z2)).trans z2; have y0 := (hB.cell (World.block_lt_of_cell? w _ m0)).trans m0; have HB := Lib.hid hB; clear hB)
  go_ret
  exact ⟨rfl, HB.out⟩
theorem and7 (x : Int) (h0 : 0 ≤ x) (h1 : x < 4294967296) : bits .and .u32 x 7 = x % 8 := bits_mask .u32 32 (by decide) (fun n h0 h1 => by rw [IntKind.wrap_u32]; omega) 3 (by decide) x h0 h1
theorem and7' (x : Int) (h0 : 0 ≤ x) (h1 : x < 4294967296) : bits .and .u32 7 x = x % 8 := by
  rw [← and7 x h0 h1]
  unfold bits
  simp only [BitVec.and_comm]
set_option maxHeartbeats 8000000 in
set_option maxRecDepth 100000 in
theorem matches_calls (base F M g n c K : Nat) (l : List Int) (t st : Int) (B : Option Addr) (cb : Nat) (b : List Int) (w : World) (hF : Flt base F M g n c l (K : Int) t st w) (hC : Kd.C (Kd.int .u8) w B b.length b) (hcb : b.length ≤ cb) (hb : Bytes b) (hl : b.length ≤ 100000) (hn : 1 ≤ n ∧ n ≤ 2000) (hk : 1 ≤ K ∧ K ≤ 50) (ht : 0 ≤ t ∧ t < 4294967296) (hBy : Bytes l) :
    Calls Try.prog 39 #[.pointer (some ⟨F, 0, none⟩), .slice B b.length cb] w fun e w' => e = .returned (.bool (hasB n t b l K)) ∧ Below w.heap.size w w' := by
  obtain ⟨k, hkk⟩ : ∃ k : Int, (K : Int) = k := ⟨_, rfl⟩
  rw [hkk] at hF
  have HBIT := Lib.hid (show ∀ W i, Below w.heap.size w W → 0 ≤ i ∧ i < 4294967296 → Calls Try.prog 45 #[.pointer (some ⟨F, 0, none⟩), .int .u32 i, .slice B b.length cb] W fun e w' => e = .returned (.int .u32 (bitOf n i t b)) ∧ Below W.heap.size W w' from fun W i hW hi => fhash_calls base F M g n c l k t st i B cb b W (hF.below hW) (Kd.C_below hC hW) hcb hb hl hn hi ht)
  have HF := Lib.hid hF
  have HN := Lib.hid hn
  have HK0 := Lib.hid hk
  have HKK := Lib.hid hkk
  have HBY := Lib.hid hBy
  have hk0 : k > 0 := by omega
  have hkp : decide (0 < k) = true := decide_eq_true hk0
  have z2 : w.cell? ⟨F, 2, none⟩ = some (.pointer (some ⟨M, 0, none⟩)) := (blk_cell hF.fb 2).trans rfl
  clear hF hC hb hl hn hkk hBy hk
  go_enter Try.func39, Try.ntmps39
  go_wp2
  go_loopg [5] (K + 1) (fun kq v5 w' => ∃ (i : Nat) (xi : Int), v5 = .int .u32 xi ∧ Hid (xi = (i : Int)) ∧ Hid (i + kq = K + 1 ∧ i ≤ K) ∧ Hid (∀ j < i, getB l (bitOf n j t b) = true) ∧ Hid (Below w.heap.size w w'))
  case atStart => exact ⟨0, 0, rfl, Lib.hid rfl, Lib.hid ⟨Nat.zero_add _, Nat.zero_le _⟩, Lib.hid (fun j hj => absurd hj (Nat.not_lt_zero _)), Lib.hid (by repeat (first | exact Below.refl _ _ | apply below_drew))⟩
  case round =>
    clear z2
    obtain ⟨i, xi, rfl, HI, HK, HS, HB⟩ := hrel
    have HFR := Lib.hid (HF.out.below HB.out)
    have z2 : wr.cell? ⟨F, 2, none⟩ = some (.pointer (some ⟨M, 0, none⟩)) := (blk_cell HFR.out.fb 2).trans rfl
    have m1 : wr.cell? ⟨M, 1, none⟩ = some (.int .u32 k) := (blk_cell HFR.out.mb 1).trans rfl
    by_cases ci : i < K
    · have q0 : xi < k := by rw [HI.out, ← HKK.out]; omega
      have p0 : 0 ≤ xi := by rw [HI.out]; omega
      have r0 : xi < 50 := by rw [HI.out]; have := HK0.out; omega
      have qb : decide (xi < k) = true := decide_eq_true q0
      obtain ⟨k1, rfl⟩ : ∃ k1, gk = k1 + 1 := ⟨gk - 1, by have := HK.out; omega⟩
      have hw1 : IntKind.u32.wrap (xi + 1) = xi + 1 := by unfold IntKind.wrap; simp [IntKind.bits, IntKind.signed]; omega
      have HBI := Lib.hid (HBIT.out wr xi HB.out (by omega))
      obtain ⟨x, hx⟩ : ∃ x, bitOf n xi t b = x := ⟨_, rfl⟩
      have hxr := bitOf_range n HN.out.1 xi t b
      rw [hx] at HBI hxr
      have HXR := Lib.hid hxr
      have HX := Lib.hid hx
      have hx8 : x < 16000 := by have := HN.out; omega
      have HA7 := Lib.hid (and7 x hxr.1 (by omega))
      have hq0 : 0 ≤ x / 8 := by omega
      have hq1 : x / 8 < (n : Int) := by omega
      obtain ⟨q, hq⟩ : ∃ q, x / 8 = q := ⟨_, rfl⟩
      obtain ⟨r, hr⟩ : ∃ r, x % 8 = r := ⟨_, rfl⟩
      have hr0 : 0 ≤ r ∧ r < 8 := by omega
      rw [hq] at hq0 hq1
      rw [hr] at HA7
      have HQ2 := Lib.hid hq
      have HR2 := Lib.hid hr
      have HR0 := Lib.hid hr0
      have hr8 : r ≤ 8 := by omega
      have hr1 := hr0.1
      obtain ⟨y, hy⟩ : ∃ y, l.getD q.toNat 0 = y := ⟨_, rfl⟩
      have hyr := byte_at HBY.out q.toNat
      rw [hy] at hyr
      have HTE := Lib.hid (test_eq y r hyr hr0)
      have HG := Lib.hid (show getB l x = decide (bits .and .u8 (y / 2 ^ r.toNat) 1 ≠ 0) by rw [getB, hq, hr, ← hy])
      obtain ⟨p, hp⟩ : ∃ p, IntKind.u8.wrap (2 ^ r.toNat) = p := ⟨_, rfl⟩
      have hp2 : (2 ^ r.toNat : Int) % 256 = p := by rw [← hp, IntKind.wrap_u8]
      rw [hp] at HTE
      have HY := Lib.hid hy
      clear hx hq hr hr0 hxr q0 p0 r0 hx8 hy hyr
      by_cases cg : bits .and .u8 y p = 0
      · have cg1 : (bits .and .u8 y p == 0) = true := by rw [beq_iff_eq]; exact cg
        have HGF := Lib.hid (show getB l x = false by rw [HG.out]; exact decide_eq_false fun h => h (HTE.out.mp cg))
        go_wp2_with (first | (go_at_call 45; go_must ((with_reducible refine HBI.out.mono ?_); rintro e w3 ⟨rfl, hB3⟩; have HF3 := Lib.hid (HFR.out.below hB3); have HB3 := Lib.hid (below_step HB.out hB3); clear hB3; have z3 : w3.cell? ⟨F, 2, none⟩ = some (.pointer (some ⟨M, 0, none⟩)) := (blk_cell HF3.out.fb 2).trans rfl; have m3 : w3.cell? ⟨M, 0, none⟩ = some (.slice (some ⟨g, 0, none⟩) n c) := (blk_cell HF3.out.mb 0).trans rfl; have m4 : w3.cell? ⟨M, 1, none⟩ = some (.int .u32 k) := (blk_cell HF3.out.mb 1).trans rfl; have y3 : w3.cell? ⟨g, q.toNat, none⟩ = some (.int .u8 y) := (Kd.R_celln 0 HF3.out.row q hq0 hq1).1.trans (congrArg (fun z => some (Value.int .u8 z)) HY.out); have hqq := HQ2.out; have hrr := HA7.out)))
        go_ret
        refine ⟨?_, HB3.out⟩
        rw [hasB_false ci (by rw [← HI.out, HX.out]; exact HGF.out)]
        rfl
      · have cg1 : (bits .and .u8 y p == 0) = false := by rw [beq_eq_false_iff_ne]; exact cg
        have HGT := Lib.hid (show getB l x = true by rw [HG.out]; exact decide_eq_true fun h => cg (HTE.out.mpr h))
        go_wp2_with (first | (go_at_call 45; go_must ((with_reducible refine HBI.out.mono ?_); rintro e w3 ⟨rfl, hB3⟩; have HF3 := Lib.hid (HFR.out.below hB3); have HB3 := Lib.hid (below_step HB.out hB3); clear hB3; have z3 : w3.cell? ⟨F, 2, none⟩ = some (.pointer (some ⟨M, 0, none⟩)) := (blk_cell HF3.out.fb 2).trans rfl; have m3 : w3.cell? ⟨M, 0, none⟩ = some (.slice (some ⟨g, 0, none⟩) n c) := (blk_cell HF3.out.mb 0).trans rfl; have m4 : w3.cell? ⟨M, 1, none⟩ = some (.int .u32 k) := (blk_cell HF3.out.mb 1).trans rfl; have y3 : w3.cell? ⟨g, q.toNat, none⟩ = some (.int .u8 y) := (Kd.R_celln 0 HF3.out.row q hq0 hq1).1.trans (congrArg (fun z => some (Value.int .u8 z)) HY.out); have hqq := HQ2.out; have hrr := HA7.out)))
        go_roundg k1
        case measure => omega
        case rel => exact ⟨i + 1, xi + 1, rfl, Lib.hid (by rw [HI.out]; omega), Lib.hid (by have := HK.out; omega), Lib.hid (fun j hj => by
            by_cases e : j = i
            · subst e; rw [← HI.out, HX.out]; exact HGT.out
            · exact HS.out j (by omega)), HB3⟩
    · have qb : decide (xi < k) = false := decide_eq_false (by rw [HI.out, ← HKK.out]; omega)
      go_wp2
      go_ret
      refine ⟨?_, HB.out⟩
      rw [hasB_true fun j hj => HS.out j (by omega)]
      rfl
end Go.Proofs.Ytojadhcbjcpifaa.Bl
