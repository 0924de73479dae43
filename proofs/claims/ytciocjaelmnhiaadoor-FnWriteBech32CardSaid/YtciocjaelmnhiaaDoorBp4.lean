/-
  Texts without capital letters stay as they are.
-/
import Derived.Test.YtciocjaelmnhiaaDoorPFnWriteBech32x1
import Derived.Test.YtciocjaelmnhiaaDoorReg
import Derived.Lib.ConvBytes
import Derived.Laws.IdiomStrings
import Derived.Deep.DeepMust
import Derived.WalkSpells
namespace Go.Proofs.YtciocjaelmnhiaaDoor.Bl
open Go.RowKit Go.Proofs.YtciocjaelmnhiaaDoorW.PrintWords Go.Proofs.YtciocjaelmnhiaaDoorW.PrintLast Go.Proofs.YtciocjaelmnhiaaDoorW.PrintMore Go.Proofs.YtciocjaelmnhiaaDoor.Reg
set_option linter.unusedSimpArgs false
set_option linter.unusedVariables false

theorem wrap64_id {x : Int} (h0 : -9223372036854775808 ≤ x) (h1 : x ≤ 9223372036854775807) : wrap64 x = x := by unfold wrap64; omega
set_option maxHeartbeats 4000000 in
set_option maxRecDepth 100000 in
theorem lower_calls (s : ByteArray) (w : World) (hs : s.size ≤ 1000) (hc : ∀ b ∈ s.data.toList, ¬ (65 ≤ b.toNat ∧ b.toNat ≤ 90)) :
    Calls Tryd.prog 22 #[.string s] w fun e w' => e = .returned (.string s) ∧ Below w.heap.size w w' := by
  have hcv := Lib.run_convert_string_bytes (P := Tryd.prog) w 9 22 5 s Tryd.underlying9 Tryd.underlying22 Tryd.underlying5
  have HC := Lib.hid (show ∀ j (hj : j < s.size), (Lib.bytesWorld w 5 s).cell? ⟨w.heap.size, j, none⟩ = some (.int .u8 ((s.data.toList.getD j 0).toNat : Int)) from fun j hj => Lib.bytesWorld_cell w 5 s j hj)
  have HB := Lib.hid (show Below w.heap.size w (Lib.bytesWorld w 5 s) from ⟨rfl, rfl, rfl, by rw [Lib.bytesWorld_size]; omega, fun k hk => Lib.bytesWorld_at_old w 5 s k hk⟩)
  obtain ⟨cp, hcp⟩ : ∃ cp, grownCap w s.size 0 5 = cp := ⟨_, rfl⟩
  obtain ⟨W1, hW1⟩ : ∃ W1, Lib.bytesWorld w 5 s = W1 := ⟨_, rfl⟩
  obtain ⟨g, hg⟩ : ∃ g, w.heap.size = g := ⟨_, rfl⟩
  rw [hcp, hW1, hg] at hcv
  rw [hW1, hg] at HC
  rw [hW1] at HB
  have hbk := run_convert_bytes_back (P := Tryd.prog) W1 22 9 5 ⟨g, 0, none⟩ cp s.data.toList Tryd.underlying22 Tryd.underlying5 Tryd.underlying9 (fun j hj => by
    rw [add_plain, HC.out j (by simpa using hj)]
    rw [List.getD_eq_getElem?_getD, List.getElem?_eq_getElem hj]
    rfl)
  rw [show s.data.toList.length = s.size by simp, show (⟨s.data.toList.toArray⟩ : ByteArray) = s by cases s; simp] at hbk
  have HS := Lib.hid hs
  have HN := Lib.hid hc
  clear hs hc hcp hW1 hg
  go_enter Tryd.func22, Tryd.ntmps22
  go_wp2
  go_loopg [4] (s.size + 1) (fun kq v4 w' => ∃ i : Nat, v4 = .int .i64 (i : Int) ∧ Aside0 (i + kq = s.size + 1 ∧ i ≤ s.size) ∧ w' = W1)
  case atStart => exact ⟨0, rfl, ⟨by omega, by omega⟩, rfl⟩
  case round =>
    obtain ⟨i, rfl, HI, hw⟩ := hrel
    obtain rfl := hw.symm
    by_cases ci : i < s.size
    · obtain ⟨k1, rfl⟩ : ∃ k1, gk = k1 + 1 := ⟨gk - 1, by have := HI.out; omega⟩
      have cb : decide ((i : Int) < (s.size : Int)) = true := decide_eq_true (by omega)
      have cb2 := eq_true ci
      have hx := HC.out i ci
      have hn := HN.out (s.data.toList.getD i 0) (by rw [List.getD_eq_getElem?_getD, List.getElem?_eq_getElem (by simpa using ci)]; exact List.getElem_mem _)
      obtain ⟨b, hb⟩ : ∃ b : Int, ((s.data.toList.getD i 0).toNat : Int) = b := ⟨_, rfl⟩
      rw [hb] at hx
      have hnb : ¬ (65 ≤ b ∧ b ≤ 90) := by omega
      have HC1 := Aside0.mk ci
      clear ci hn hb
      by_cases c1 : 65 ≤ b
      · have d1 : decide (65 ≤ b) = true := decide_eq_true c1
        have d2 : decide (b ≤ 90) = false := decide_eq_false (by omega)
        clear c1 hnb
        go_wp2
        go_roundg k1
        case measure => have := HI.out; omega
        case rel => exact ⟨i + 1, by first | rfl | (rw [wrap64_id (by have := HS.out; have := HC1.out; omega) (by have := HS.out; have := HC1.out; omega)]; push_cast; rfl), ⟨by have := HI.out; omega, by have := HC1.out; omega⟩, rfl⟩
      · have d1 : decide (65 ≤ b) = false := decide_eq_false c1
        clear c1 hnb
        go_wp2
        go_roundg k1
        case measure => have := HI.out; omega
        case rel => exact ⟨i + 1, by first | rfl | (rw [wrap64_id (by have := HS.out; have := HC1.out; omega) (by have := HS.out; have := HC1.out; omega)]; push_cast; rfl), ⟨by have := HI.out; omega, by have := HC1.out; omega⟩, rfl⟩
    · have cb : decide ((i : Int) < (s.size : Int)) = false := decide_eq_false (by omega)
      have cb2 := eq_false ci
      clear ci
      go_wp2
      go_ret
      exact ⟨rfl, HB.out⟩
set_option maxHeartbeats 4000000 in
set_option maxRecDepth 100000 in
theorem slower_calls (s : ByteArray) (w : World) (hs : s.size ≤ 1000) (hc : ∀ b ∈ s.data.toList, ¬ (65 ≤ b.toNat ∧ b.toNat ≤ 90)) :
    Calls Tryd.prog 17 #[.string s] w fun e w' => e = .returned (.string s) ∧ Below w.heap.size w w' := by
  have hcv := Lib.run_convert_string_bytes (P := Tryd.prog) w 9 22 5 s Tryd.underlying9 Tryd.underlying22 Tryd.underlying5
  have HC := Lib.hid (show ∀ j (hj : j < s.size), (Lib.bytesWorld w 5 s).cell? ⟨w.heap.size, j, none⟩ = some (.int .u8 ((s.data.toList.getD j 0).toNat : Int)) from fun j hj => Lib.bytesWorld_cell w 5 s j hj)
  have HB := Lib.hid (show Below w.heap.size w (Lib.bytesWorld w 5 s) from ⟨rfl, rfl, rfl, by rw [Lib.bytesWorld_size]; omega, fun k hk => Lib.bytesWorld_at_old w 5 s k hk⟩)
  obtain ⟨cp, hcp⟩ : ∃ cp, grownCap w s.size 0 5 = cp := ⟨_, rfl⟩
  obtain ⟨W1, hW1⟩ : ∃ W1, Lib.bytesWorld w 5 s = W1 := ⟨_, rfl⟩
  obtain ⟨g, hg⟩ : ∃ g, w.heap.size = g := ⟨_, rfl⟩
  rw [hcp, hW1, hg] at hcv
  rw [hW1, hg] at HC
  rw [hW1] at HB
  have hbk := run_convert_bytes_back (P := Tryd.prog) W1 22 9 5 ⟨g, 0, none⟩ cp s.data.toList Tryd.underlying22 Tryd.underlying5 Tryd.underlying9 (fun j hj => by
    rw [add_plain, HC.out j (by simpa using hj)]
    rw [List.getD_eq_getElem?_getD, List.getElem?_eq_getElem hj]
    rfl)
  rw [show s.data.toList.length = s.size by simp, show (⟨s.data.toList.toArray⟩ : ByteArray) = s by cases s; simp] at hbk
  have HS := Lib.hid hs
  have HN := Lib.hid hc
  clear hs hc hcp hW1 hg
  go_enter Tryd.func17, Tryd.ntmps17
  go_wp2
  go_loopg [4] (s.size + 1) (fun kq v4 w' => ∃ i : Nat, v4 = .int .i64 (i : Int) ∧ Aside0 (i + kq = s.size + 1 ∧ i ≤ s.size) ∧ w' = W1)
  case atStart => exact ⟨0, rfl, ⟨by omega, by omega⟩, rfl⟩
  case round =>
    obtain ⟨i, rfl, HI, hw⟩ := hrel
    obtain rfl := hw.symm
    by_cases ci : i < s.size
    · obtain ⟨k1, rfl⟩ : ∃ k1, gk = k1 + 1 := ⟨gk - 1, by have := HI.out; omega⟩
      have cb : decide ((i : Int) < (s.size : Int)) = true := decide_eq_true (by omega)
      have cb2 := eq_true ci
      have hx := HC.out i ci
      have hn := HN.out (s.data.toList.getD i 0) (by rw [List.getD_eq_getElem?_getD, List.getElem?_eq_getElem (by simpa using ci)]; exact List.getElem_mem _)
      obtain ⟨b, hb⟩ : ∃ b : Int, ((s.data.toList.getD i 0).toNat : Int) = b := ⟨_, rfl⟩
      rw [hb] at hx
      have hnb : ¬ (65 ≤ b ∧ b ≤ 90) := by omega
      have HC1 := Aside0.mk ci
      clear ci hn hb
      by_cases c1 : 65 ≤ b
      · have d1 : decide (65 ≤ b) = true := decide_eq_true c1
        have d2 : decide (b ≤ 90) = false := decide_eq_false (by omega)
        clear c1 hnb
        go_wp2
        go_roundg k1
        case measure => have := HI.out; omega
        case rel => exact ⟨i + 1, by first | rfl | (rw [wrap64_id (by have := HS.out; have := HC1.out; omega) (by have := HS.out; have := HC1.out; omega)]; push_cast; rfl), ⟨by have := HI.out; omega, by have := HC1.out; omega⟩, rfl⟩
      · have d1 : decide (65 ≤ b) = false := decide_eq_false c1
        clear c1 hnb
        go_wp2
        go_roundg k1
        case measure => have := HI.out; omega
        case rel => exact ⟨i + 1, by first | rfl | (rw [wrap64_id (by have := HS.out; have := HC1.out; omega) (by have := HS.out; have := HC1.out; omega)]; push_cast; rfl), ⟨by have := HI.out; omega, by have := HC1.out; omega⟩, rfl⟩
    · have cb : decide ((i : Int) < (s.size : Int)) = false := decide_eq_false (by omega)
      have cb2 := eq_false ci
      clear ci
      go_wp2
      go_ret
      exact ⟨rfl, HB.out⟩
end Go.Proofs.YtciocjaelmnhiaaDoor.Bl
