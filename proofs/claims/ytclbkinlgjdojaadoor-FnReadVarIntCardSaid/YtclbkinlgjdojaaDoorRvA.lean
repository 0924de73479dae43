/-
  impl.ReadVarInt; the law of ReadVarInt.
-/
import Derived.Test.YtclbkinlgjdojaaDoorRv9
import Derived.Test.YtclbkinlgjdojaaDoorRow
namespace Go.Proofs.YtclbkinlgjdojaaDoor.Rv
open Go.RowKit Go.Proofs.YtclbkinlgjdojaaDoorW.PrintWords Go.Proofs.YtclbkinlgjdojaaDoorW.PrintLast Go.Proofs.YtclbkinlgjdojaaDoor.Reg Go.Proofs.YtclbkinlgjdojaaDoor.Tok
set_option linter.unusedSimpArgs false
set_option linter.unusedVariables false

theorem big_le {k : Nat} {lo : Int} {t : List Int} {v u : Int} (h : big k lo t = some (v, u)) : 0 ≤ u ∧ u ≤ (t.length : Int) + 1 := by
  unfold big at h
  split at h
  · cases h
  · rename_i hc
    injection h with h
    injection h with _ h
    omega
theorem rvi_le {l : List Int} {v u : Int} (h : rvi l = some (v, u)) : 0 ≤ u ∧ u ≤ (l.length : Int) := by
  match l, h with
  | [], h => cases h
  | d :: t, h =>
    rw [List.length_cons]
    by_cases c1 : d < 253
    · rw [show rvi (d :: t) = some (d, 1) from if_pos c1] at h
      injection h with h
      injection h with _ h
      omega
    · rw [show rvi (d :: t) = if d = 253 then big 2 253 t else if d = 254 then big 4 65536 t else big 8 4294967296 t from if_neg c1] at h
      split at h
      · have := big_le h; omega
      · split at h
        · have := big_le h; omega
        · have := big_le h; omega
theorem errs_of {w W : World} {a b : Addr} (h : Errs w a b) (hB : Below w.heap.size w W) : Errs W a b :=
  ⟨(World.cell?_of_block (hB.block 2 (World.block_lt_of_cell? w _ h.eof))).trans h.eof, (World.cell?_of_block (hB.block 3 (World.block_lt_of_cell? w _ h.une))).trans h.une⟩
set_option maxHeartbeats 8000000 in
set_option maxRecDepth 100000 in
theorem iread_calls (A : Option Addr) (c : Nat) (l : List Int) (a b : Addr) (w : World) (hC : Kd.C (Kd.int .u8) w A l.length l) (hc : l.length ≤ c) (hcm : c ≤ 9223372036854775807) (hn : l.length ≤ 100000) (hA : ∀ ad, A = some ad → 0 < l.length → ad.block < w.heap.size) (hby : Bytes l) (hE : Errs w a b) :
    Calls Tryd.prog 5 #[.slice A l.length c] w fun e w' => (match rvi l with | some (v, u) => e = .returned (.tuple #[.int .u64 v, .int .i64 u, .int .i64 0]) | none => ∃ v u, e = .returned (.tuple #[.int .u64 v, .int .i64 u, .int .i64 1])) ∧ Below w.heap.size w w' := by
  have h3 : 3 < w.heap.size := World.block_lt_of_cell? w _ hE.une
  have H := Lib.hid (fun R (W : World) (hR : w.heap.size ≤ R) (h : Rd W R A l.length c 0) (hW : Below w.heap.size w W) => wread_calls w.heap.size R A c l a b W h hc hcm hn (fun ad e hl => Nat.ne_of_lt (Nat.lt_of_lt_of_le (hA ad e hl) hR)) hR h3 hby (fun W2 h2 => Kd.C_below hC (hW.trans h2)) (fun W2 h2 => errs_of hE (hW.trans h2)))
  have HN := Lib.hid (reader_calls A l.length c w)
  have HNL := Lib.hid hn
  have HLE := Lib.hid (fun v u (h : rvi l = some (v, u)) => rvi_le h)
  obtain ⟨n, hnn⟩ : ∃ n, l.length = n := ⟨_, rfl⟩
  rw [hnn] at H HN HNL HLE ⊢
  clear hC hc hcm hn hA hby hE h3 hnn
  rcases ho : rvi l with _ | ⟨v, u⟩
  all_goals rw [ho] at H
  · clear ho HLE
    go_enter Tryd.func5, Tryd.ntmps5
    go_wp2_with (first
      | (go_at_call 7; go_must ((with_reducible refine HN.out.mono ?_); rintro e w1 ⟨R, rfl, hRB, hR, hB⟩; have H1 := Lib.hid (show Calls Tryd.prog 8 #[.iface 33 (.pointer (some ⟨R, 0, none⟩)), .int .u32 0] w1 _ from H.out R w1 hRB hR hB); have HB1 := Lib.hid hB; clear hRB hR hB))
      | (go_at_call 8; go_must ((with_reducible refine H1.out.mono ?_); rintro e w2 ⟨⟨⟨v, T, p, rfl⟩, i, hi0, hi1, hR⟩, hB⟩; have HL := Lib.hid (len_calls R A n c i w2 hR ⟨hi0, hi1⟩ HNL.out); have HB2 := Lib.hid (HB1.out.trans hB); clear hi0 hi1 hR hB))
      | (go_at_call 9; go_must ((with_reducible refine HL.out.mono ?_); rintro e w3 ⟨rfl, hB⟩; have HB3 := Lib.hid (below_step HB2.out hB); clear hB))
      | (go_at_call 10; go_must ((with_reducible refine (one_err _ _ _).mono ?_); rintro e w4 ⟨rfl, rfl⟩)))
    refine bodyPost_ret (results_three (by rfl) _ _) (by rfl) ⟨⟨_, _, rfl⟩, HB3.out⟩
  · have hu := HLE.out v u ho
    have hw1 : wrap64 ((n : Int) - ((n : Int) - u)) = u := by rw [show (n : Int) - ((n : Int) - u) = u by omega]; exact wrap64_id (by have := HNL.out; omega) (by have := HNL.out; omega)
    obtain ⟨q, hq⟩ : ∃ q, (n : Int) - u = q := ⟨_, rfl⟩
    have HL := Lib.hid (fun R W (hR : Rd W R A n c u) => len_calls R A n c u W hR hu HNL.out)
    rw [hq] at HL hw1
    clear ho HLE hu hq
    go_enter Tryd.func5, Tryd.ntmps5
    go_wp2_with (first
      | (go_at_call 7; go_must ((with_reducible refine HN.out.mono ?_); rintro e w1 ⟨R, rfl, hRB, hR, hB⟩; have H1 := Lib.hid (show Calls Tryd.prog 8 #[.iface 33 (.pointer (some ⟨R, 0, none⟩)), .int .u32 0] w1 _ from H.out R w1 hRB hR hB); have HB1 := Lib.hid hB; clear hRB hR hB))
      | (go_at_call 8; go_must ((with_reducible refine H1.out.mono ?_); rintro e w2 ⟨⟨rfl, hR⟩, hB⟩; have HL2 := Lib.hid (HL.out R w2 hR); have HB2 := Lib.hid (HB1.out.trans hB); clear hR hB))
      | (go_at_call 9; go_must ((with_reducible refine HL2.out.mono ?_); rintro e w3 ⟨rfl, hB⟩; have HB3 := Lib.hid (below_step HB2.out hB); clear hB))
      | (go_at_call 10; go_must ((with_reducible refine (one_nil _).mono ?_); rintro e w4 ⟨rfl, rfl⟩)))
    refine bodyPost_ret (results_three (by rfl) _ _) (by rfl) ⟨by first | rfl | (simp [hw1]; done), HB3.out⟩
set_option maxHeartbeats 8000000 in
set_option maxRecDepth 100000 in
theorem law_main (A : Option Addr) (c : Nat) (l : List Int) (a b : Addr) (w : World) (hC : Kd.C (Kd.int .u8) w A l.length l) (hc : l.length ≤ c) (hcm : c ≤ 9223372036854775807) (hn : l.length ≤ 100000) (hA : ∀ ad, A = some ad → 0 < l.length → ad.block < w.heap.size) (hby : Bytes l) (hE : Errs w a b) :
    Calls Tryd.prog 3 #[.slice A l.length c] w fun e w' => e = .returned (.bool true) ∧ Below w.heap.size w w' := by
  have HS := Lib.hid (sread_calls A c l w hC hc hcm hn hA hby)
  have HI := Lib.hid (fun (W : World) (hW : Below w.heap.size w W) => iread_calls A c l a b W (Kd.C_below hC hW) hc hcm hn (fun ad e hl => Nat.lt_of_lt_of_le (hA ad e hl) hW.size) hby (errs_of hE hW))
  have c1 : decide ((2147483647 : Int) < (l.length : Int)) = false := decide_eq_false (by omega)
  have c2 : decide ((100000 : Int) < (l.length : Int)) = false := decide_eq_false (by omega)
  obtain ⟨n, hnn⟩ : ∃ n, l.length = n := ⟨_, rfl⟩
  rw [hnn] at HS HI c1 c2 ⊢
  clear hC hc hcm hn hA hby hE hnn
  rcases ho : rvi l with _ | ⟨v, u⟩
  all_goals rw [ho] at HS HI; clear ho
  · go_enter Tryd.func3, Tryd.ntmps3
    go_wp2_with (first
      | (go_at_call 4; go_must ((with_reducible refine HS.out.mono ?_); rintro e w1 ⟨rfl, hB⟩; unfold sval; have HB := Lib.hid hB; clear hB))
      | (go_at_call 5; go_must ((with_reducible refine (HI.out _ HB.out).mono ?_); rintro e w2 ⟨⟨v, u, rfl⟩, hB⟩; have HB2 := Lib.hid (below_step HB.out hB); clear hB)))
    go_ret
    exact ⟨by first | rfl | (simp; done), HB2.out⟩
  · go_enter Tryd.func3, Tryd.ntmps3
    go_wp2_with (first
      | (go_at_call 4; go_must ((with_reducible refine HS.out.mono ?_); rintro e w1 ⟨rfl, hB⟩; unfold sval; have HB := Lib.hid hB; clear hB))
      | (go_at_call 5; go_must ((with_reducible refine (HI.out _ HB.out).mono ?_); rintro e w2 ⟨rfl, hB⟩; have HB2 := Lib.hid (below_step HB.out hB); clear hB)))
    go_ret
    exact ⟨by first | rfl | (simp; done), HB2.out⟩
end Go.Proofs.YtclbkinlgjdojaaDoor.Rv
