/-
  big.Int: bigRadix, FillBytes, Bytes.
-/
import Derived.Test.YtojadhcbjcpifaaDoorUb6
import Derived.Test.YtojadhcbjcpifaaDoorUb4
namespace Go.Proofs.YtojadhcbjcpifaaDoor.Ub
open Go.RowKit Go.Proofs.YtojadhcbjcpifaaDoorW.PrintWords Go.Proofs.YtojadhcbjcpifaaDoorW.PrintLast Go.Proofs.YtojadhcbjcpifaaDoorW.PrintMore Go.Proofs.YtojadhcbjcpifaaDoor.Reg
set_option linter.unusedSimpArgs false
set_option linter.unusedVariables false

/-- What bigRadix answers. -/
def Rad (n : Nat) (w : World) (e : Ending) (w' : World) : Prop := ∃ g, w.heap.size ≤ g ∧ e = .returned (.pointer (some ⟨g, 0, none⟩)) ∧ (∃ l, Nrm 4294967296 l ∧ lv 4294967296 l = 58 ^ n ∧ l.length ≤ 2 ∧ Big (fun k => w.heap.size ≤ k ∧ k ≠ g) w' g l) ∧ Below w.heap.size w w'
set_option maxHeartbeats 4000000 in
set_option maxRecDepth 100000 in
theorem radix_1 (w : World) : Calls Tryd.prog 22 #[.int .i64 1] w (Rad 1 w) := by
  have HN := Lib.hid (new_calls 58 w (by decide))
  go_enter Tryd.func22, Tryd.ntmps22
  go_wp2_with (go_at_call 20; go_must ((with_reducible refine HN.out.mono ?_); rintro e w1 ⟨g, hg, rfl, hL, hB⟩; have HG := Lib.hid hg; have HL := Lib.hid hL; have HB := Lib.hid hB; clear hg hL hB))
  go_ret
  obtain ⟨l, h1, h2, h3, h4⟩ := HL.out
  exact ⟨g, HG.out, rfl, ⟨l, h1, h2.trans (by decide), h3, h4⟩, HB.out⟩
set_option maxHeartbeats 4000000 in
set_option maxRecDepth 100000 in
theorem radix_2 (w : World) : Calls Tryd.prog 22 #[.int .i64 2] w (Rad 2 w) := by
  have HN := Lib.hid (new_calls 3364 w (by decide))
  go_enter Tryd.func22, Tryd.ntmps22
  go_wp2_with (go_at_call 20; go_must ((with_reducible refine HN.out.mono ?_); rintro e w1 ⟨g, hg, rfl, hL, hB⟩; have HG := Lib.hid hg; have HL := Lib.hid hL; have HB := Lib.hid hB; clear hg hL hB))
  go_ret
  obtain ⟨l, h1, h2, h3, h4⟩ := HL.out
  exact ⟨g, HG.out, rfl, ⟨l, h1, h2.trans (by decide), h3, h4⟩, HB.out⟩
set_option maxHeartbeats 4000000 in
set_option maxRecDepth 100000 in
theorem radix_3 (w : World) : Calls Tryd.prog 22 #[.int .i64 3] w (Rad 3 w) := by
  have HN := Lib.hid (new_calls 195112 w (by decide))
  go_enter Tryd.func22, Tryd.ntmps22
  go_wp2_with (go_at_call 20; go_must ((with_reducible refine HN.out.mono ?_); rintro e w1 ⟨g, hg, rfl, hL, hB⟩; have HG := Lib.hid hg; have HL := Lib.hid hL; have HB := Lib.hid hB; clear hg hL hB))
  go_ret
  obtain ⟨l, h1, h2, h3, h4⟩ := HL.out
  exact ⟨g, HG.out, rfl, ⟨l, h1, h2.trans (by decide), h3, h4⟩, HB.out⟩
set_option maxHeartbeats 4000000 in
set_option maxRecDepth 100000 in
theorem radix_4 (w : World) : Calls Tryd.prog 22 #[.int .i64 4] w (Rad 4 w) := by
  have HN := Lib.hid (new_calls 11316496 w (by decide))
  go_enter Tryd.func22, Tryd.ntmps22
  go_wp2_with (go_at_call 20; go_must ((with_reducible refine HN.out.mono ?_); rintro e w1 ⟨g, hg, rfl, hL, hB⟩; have HG := Lib.hid hg; have HL := Lib.hid hL; have HB := Lib.hid hB; clear hg hL hB))
  go_ret
  obtain ⟨l, h1, h2, h3, h4⟩ := HL.out
  exact ⟨g, HG.out, rfl, ⟨l, h1, h2.trans (by decide), h3, h4⟩, HB.out⟩
set_option maxHeartbeats 4000000 in
set_option maxRecDepth 100000 in
theorem radix_5 (w : World) : Calls Tryd.prog 22 #[.int .i64 5] w (Rad 5 w) := by
  have HN := Lib.hid (new_calls 656356768 w (by decide))
  go_enter Tryd.func22, Tryd.ntmps22
  go_wp2_with (go_at_call 20; go_must ((with_reducible refine HN.out.mono ?_); rintro e w1 ⟨g, hg, rfl, hL, hB⟩; have HG := Lib.hid hg; have HL := Lib.hid hL; have HB := Lib.hid hB; clear hg hL hB))
  go_ret
  obtain ⟨l, h1, h2, h3, h4⟩ := HL.out
  exact ⟨g, HG.out, rfl, ⟨l, h1, h2.trans (by decide), h3, h4⟩, HB.out⟩
set_option maxHeartbeats 4000000 in
set_option maxRecDepth 100000 in
theorem radix_6 (w : World) : Calls Tryd.prog 22 #[.int .i64 6] w (Rad 6 w) := by
  have HN := Lib.hid (new_calls 38068692544 w (by decide))
  go_enter Tryd.func22, Tryd.ntmps22
  go_wp2_with (go_at_call 20; go_must ((with_reducible refine HN.out.mono ?_); rintro e w1 ⟨g, hg, rfl, hL, hB⟩; have HG := Lib.hid hg; have HL := Lib.hid hL; have HB := Lib.hid hB; clear hg hL hB))
  go_ret
  obtain ⟨l, h1, h2, h3, h4⟩ := HL.out
  exact ⟨g, HG.out, rfl, ⟨l, h1, h2.trans (by decide), h3, h4⟩, HB.out⟩
set_option maxHeartbeats 4000000 in
set_option maxRecDepth 100000 in
theorem radix_7 (w : World) : Calls Tryd.prog 22 #[.int .i64 7] w (Rad 7 w) := by
  have HN := Lib.hid (new_calls 2207984167552 w (by decide))
  go_enter Tryd.func22, Tryd.ntmps22
  go_wp2_with (go_at_call 20; go_must ((with_reducible refine HN.out.mono ?_); rintro e w1 ⟨g, hg, rfl, hL, hB⟩; have HG := Lib.hid hg; have HL := Lib.hid hL; have HB := Lib.hid hB; clear hg hL hB))
  go_ret
  obtain ⟨l, h1, h2, h3, h4⟩ := HL.out
  exact ⟨g, HG.out, rfl, ⟨l, h1, h2.trans (by decide), h3, h4⟩, HB.out⟩
set_option maxHeartbeats 4000000 in
set_option maxRecDepth 100000 in
theorem radix_8 (w : World) : Calls Tryd.prog 22 #[.int .i64 8] w (Rad 8 w) := by
  have HN := Lib.hid (new_calls 128063081718016 w (by decide))
  go_enter Tryd.func22, Tryd.ntmps22
  go_wp2_with (go_at_call 20; go_must ((with_reducible refine HN.out.mono ?_); rintro e w1 ⟨g, hg, rfl, hL, hB⟩; have HG := Lib.hid hg; have HL := Lib.hid hL; have HB := Lib.hid hB; clear hg hL hB))
  go_ret
  obtain ⟨l, h1, h2, h3, h4⟩ := HL.out
  exact ⟨g, HG.out, rfl, ⟨l, h1, h2.trans (by decide), h3, h4⟩, HB.out⟩
set_option maxHeartbeats 4000000 in
set_option maxRecDepth 100000 in
theorem radix_9 (w : World) : Calls Tryd.prog 22 #[.int .i64 9] w (Rad 9 w) := by
  have HN := Lib.hid (new_calls 7427658739644928 w (by decide))
  go_enter Tryd.func22, Tryd.ntmps22
  go_wp2_with (go_at_call 20; go_must ((with_reducible refine HN.out.mono ?_); rintro e w1 ⟨g, hg, rfl, hL, hB⟩; have HG := Lib.hid hg; have HL := Lib.hid hL; have HB := Lib.hid hB; clear hg hL hB))
  go_ret
  obtain ⟨l, h1, h2, h3, h4⟩ := HL.out
  exact ⟨g, HG.out, rfl, ⟨l, h1, h2.trans (by decide), h3, h4⟩, HB.out⟩
set_option maxHeartbeats 4000000 in
set_option maxRecDepth 100000 in
theorem radix_10 (w : World) : Calls Tryd.prog 22 #[.int .i64 10] w (Rad 10 w) := by
  have HN := Lib.hid (new_calls 430804206899405824 w (by decide))
  go_enter Tryd.func22, Tryd.ntmps22
  go_wp2_with (go_at_call 20; go_must ((with_reducible refine HN.out.mono ?_); rintro e w1 ⟨g, hg, rfl, hL, hB⟩; have HG := Lib.hid hg; have HL := Lib.hid hL; have HB := Lib.hid hB; clear hg hL hB))
  go_ret
  obtain ⟨l, h1, h2, h3, h4⟩ := HL.out
  exact ⟨g, HG.out, rfl, ⟨l, h1, h2.trans (by decide), h3, h4⟩, HB.out⟩
theorem radix_calls (n : Nat) (h : 1 ≤ n ∧ n ≤ 10) (w : World) : Calls Tryd.prog 22 #[.int .i64 (n : Int)] w (Rad n w) := by
  obtain rfl | rfl | rfl | rfl | rfl | rfl | rfl | rfl | rfl | rfl : n = 1 ∨ n = 2 ∨ n = 3 ∨ n = 4 ∨ n = 5 ∨ n = 6 ∨ n = 7 ∨ n = 8 ∨ n = 9 ∨ n = 10 := by omega
  · exact radix_1 w
  · exact radix_2 w
  · exact radix_3 w
  · exact radix_4 w
  · exact radix_5 w
  · exact radix_6 w
  · exact radix_7 w
  · exact radix_8 w
  · exact radix_9 w
  · exact radix_10 w
theorem Big.low {Q : Nat → Prop} {w w' : World} {g B : Nat} {l : List Int} (h : Big Q w g l) (hb : Below B w w') (hg : g < B) (hq : ∀ k, Q k → k < B) : Big Q w' g l := by
  obtain ⟨A, c, h1, h2, h3⟩ := h
  exact ⟨A, c, (hb.block g hg).trans h1, h2, Kd.F_step h3 (fun k hk _ => hb.block k (hq k hk))⟩
/-- The byte that FillBytes puts at a place. -/
theorem fill_at (l : List Int) (v n : Nat) (hd : Dg 4294967296 l) (hv : lv 4294967296 l = v) (i : Nat) (hi : i < n) (q r : Nat) (hr : r < 4) (hk : n - 1 - i = 4 * q + r) : (bb v n).getD i 0 = rd l (q : Int) / 2 ^ (8 * r) % 256 := by
  rw [bb_at v n i hi, hk, ← byte_at v q r hr, rd_nat, lv_at l hd v hv q]
  rw [Int.natCast_emod, Int.natCast_ediv, Int.natCast_pow]
  rfl
end Go.Proofs.YtojadhcbjcpifaaDoor.Ub
