/-
  bits.Len of small numbers; pdqsort and Sort of short rows.
-/
import Derived.Test.YthmhojgjkfinlaaMdB
namespace Go.Proofs.Ythmhojgjkfinlaa.Md
open Go.RowKit Go.Proofs.YthmhojgjkfinlaaW.PrintWords Go.Proofs.YthmhojgjkfinlaaW.PrintLast Go.Proofs.YthmhojgjkfinlaaW.PrintMore Go.Proofs.Ythmhojgjkfinlaa.Reg
set_option linter.unusedSimpArgs false
set_option linter.unusedVariables false

set_option maxHeartbeats 4000000 in
set_option maxRecDepth 100000 in
theorem len64_2 (w : World) : Calls Try.prog 40 #[.int .u64 2] w fun e w' => (∃ r : Int, e = .returned (.int .i64 r)) ∧ w' = w := by
  go_enter Try.func40, Try.ntmps40
  go_wp2
  go_ret
  exact ⟨⟨_, rfl⟩, rfl⟩
set_option maxHeartbeats 4000000 in
set_option maxRecDepth 100000 in
theorem len64_3 (w : World) : Calls Try.prog 40 #[.int .u64 3] w fun e w' => (∃ r : Int, e = .returned (.int .i64 r)) ∧ w' = w := by
  go_enter Try.func40, Try.ntmps40
  go_wp2
  go_ret
  exact ⟨⟨_, rfl⟩, rfl⟩
set_option maxHeartbeats 4000000 in
set_option maxRecDepth 100000 in
theorem len64_4 (w : World) : Calls Try.prog 40 #[.int .u64 4] w fun e w' => (∃ r : Int, e = .returned (.int .i64 r)) ∧ w' = w := by
  go_enter Try.func40, Try.ntmps40
  go_wp2
  go_ret
  exact ⟨⟨_, rfl⟩, rfl⟩
set_option maxHeartbeats 4000000 in
set_option maxRecDepth 100000 in
theorem len64_5 (w : World) : Calls Try.prog 40 #[.int .u64 5] w fun e w' => (∃ r : Int, e = .returned (.int .i64 r)) ∧ w' = w := by
  go_enter Try.func40, Try.ntmps40
  go_wp2
  go_ret
  exact ⟨⟨_, rfl⟩, rfl⟩
set_option maxHeartbeats 4000000 in
set_option maxRecDepth 100000 in
theorem len64_6 (w : World) : Calls Try.prog 40 #[.int .u64 6] w fun e w' => (∃ r : Int, e = .returned (.int .i64 r)) ∧ w' = w := by
  go_enter Try.func40, Try.ntmps40
  go_wp2
  go_ret
  exact ⟨⟨_, rfl⟩, rfl⟩
set_option maxHeartbeats 4000000 in
set_option maxRecDepth 100000 in
theorem len64_7 (w : World) : Calls Try.prog 40 #[.int .u64 7] w fun e w' => (∃ r : Int, e = .returned (.int .i64 r)) ∧ w' = w := by
  go_enter Try.func40, Try.ntmps40
  go_wp2
  go_ret
  exact ⟨⟨_, rfl⟩, rfl⟩
set_option maxHeartbeats 4000000 in
set_option maxRecDepth 100000 in
theorem len64_8 (w : World) : Calls Try.prog 40 #[.int .u64 8] w fun e w' => (∃ r : Int, e = .returned (.int .i64 r)) ∧ w' = w := by
  go_enter Try.func40, Try.ntmps40
  go_wp2
  go_ret
  exact ⟨⟨_, rfl⟩, rfl⟩
set_option maxHeartbeats 4000000 in
set_option maxRecDepth 100000 in
theorem len64_9 (w : World) : Calls Try.prog 40 #[.int .u64 9] w fun e w' => (∃ r : Int, e = .returned (.int .i64 r)) ∧ w' = w := by
  go_enter Try.func40, Try.ntmps40
  go_wp2
  go_ret
  exact ⟨⟨_, rfl⟩, rfl⟩
set_option maxHeartbeats 4000000 in
set_option maxRecDepth 100000 in
theorem len64_10 (w : World) : Calls Try.prog 40 #[.int .u64 10] w fun e w' => (∃ r : Int, e = .returned (.int .i64 r)) ∧ w' = w := by
  go_enter Try.func40, Try.ntmps40
  go_wp2
  go_ret
  exact ⟨⟨_, rfl⟩, rfl⟩
set_option maxHeartbeats 4000000 in
set_option maxRecDepth 100000 in
theorem len64_11 (w : World) : Calls Try.prog 40 #[.int .u64 11] w fun e w' => (∃ r : Int, e = .returned (.int .i64 r)) ∧ w' = w := by
  go_enter Try.func40, Try.ntmps40
  go_wp2
  go_ret
  exact ⟨⟨_, rfl⟩, rfl⟩
theorem len64_calls (n : Nat) (h : 2 ≤ n ∧ n ≤ 11) (w : World) : Calls Try.prog 40 #[.int .u64 (n : Int)] w fun e w' => (∃ r : Int, e = .returned (.int .i64 r)) ∧ w' = w := by
  obtain rfl | rfl | rfl | rfl | rfl | rfl | rfl | rfl | rfl | rfl : n = 2 ∨ n = 3 ∨ n = 4 ∨ n = 5 ∨ n = 6 ∨ n = 7 ∨ n = 8 ∨ n = 9 ∨ n = 10 ∨ n = 11 := by omega
  · exact len64_2 w
  · exact len64_3 w
  · exact len64_4 w
  · exact len64_5 w
  · exact len64_6 w
  · exact len64_7 w
  · exact len64_8 w
  · exact len64_9 w
  · exact len64_10 w
  · exact len64_11 w
set_option maxHeartbeats 4000000 in
set_option maxRecDepth 100000 in
theorem len_bits (n : Nat) (h : 2 ≤ n ∧ n ≤ 11) (w : World) : Calls Try.prog 32 #[.int .u64 (n : Int)] w fun e w' => (∃ r : Int, e = .returned (.int .i64 r)) ∧ w' = w := by
  have H := Lib.hid (len64_calls n h)
  clear h
  go_enter Try.func32, Try.ntmps32
  go_wp2_with (first
    | (go_at_call 40; go_must ((with_reducible refine (H.out _).mono ?_); rintro e w1 ⟨⟨r, rfl⟩, rfl⟩)))
  go_ret
  exact ⟨⟨_, rfl⟩, rfl⟩
set_option maxHeartbeats 4000000 in
set_option maxRecDepth 100000 in
theorem pdq_calls (B G n c : Nat) (l : List Int) (r : Int) (w0 w : World) (h : Inv B G n c l w0 w) (hn : 1 ≤ n ∧ n ≤ 11) :
    Calls Try.prog 33 #[.iface 55 (.slice (some ⟨G, 0, none⟩) n c), .int .i64 0, .int .i64 (n : Int), .int .i64 r] w fun e w' => (∃ u, e = .returned u) ∧ Inv B G n c (srt l n) w0 w' := by
  have H := Lib.hid (isort_calls B G n c l w0 w h ⟨hn.1, by omega⟩)
  obtain ⟨N, hN⟩ : ∃ N : Int, (n : Int) = N := ⟨_, rfl⟩
  rw [hN] at H ⊢
  have hw : wrap64 N = N := wrap64_id (by omega) (by omega)
  have hd : decide (N ≤ 12) = true := decide_eq_true (by omega)
  clear h hn hN
  go_enter Try.func33, Try.ntmps33
  go_wp2
  go_loopg [1, 2] 1 (fun kq v1 v2 w' => v1 = .int .i64 0 ∧ v2 = .int .i64 N ∧ w' = w ∧ kq = 1)
  case atStart => exact ⟨rfl, rfl, rfl, rfl⟩
  case round =>
    obtain ⟨rfl, rfl, hw3, rfl⟩ := hrel
    obtain rfl := hw3.symm
    go_wp2_with (first
      | (go_at_call 41; go_must ((with_reducible refine H.out.mono ?_); rintro e w1 ⟨⟨u, rfl⟩, hV⟩; have HV := Aside0.mk hV; clear hV)))
    first | go_end0 | refine bodyPost_ret (results_none rfl _ _ _) rfl ?_
    exact ⟨⟨_, rfl⟩, HV.out⟩
set_option maxHeartbeats 4000000 in
set_option maxRecDepth 100000 in
theorem sort_calls (B G n c : Nat) (l : List Int) (w0 w : World) (h : Inv B G n c l w0 w) (hn : 1 ≤ n ∧ n ≤ 11) :
    Calls Try.prog 24 #[.iface 55 (.slice (some ⟨G, 0, none⟩) n c)] w fun e w' => (∃ u, e = .returned u) ∧ Inv B G n c (srt l n) w0 w' := by
  by_cases h1 : n = 1
  · subst h1
    have H := Lib.hid h
    have hd : decide (((1 : Nat) : Int) ≤ 1) = true := by decide
    clear h hn
    go_enter Try.func24, Try.ntmps24
    go_wp2_with (first
      | ((with_reducible refine gate_invoke (r := .tmp 4) (n := "Len") rfl ?_); go_must (refine inv_0 (v := .iface 55 (.slice (some ⟨G, 0, none⟩) 1 c)) rfl (.tmp 4) #[] rfl rfl (call_len G 1 c _) ?_); go_must ((with_reducible refine (len_calls G 1 c _).mono ?_); rintro e w1 ⟨rfl, rfl⟩; refine ⟨_, rfl, ?_⟩)))
    first | go_end0 | refine bodyPost_ret (results_none rfl _ _ _) rfl ?_
    exact ⟨⟨_, rfl⟩, H.out⟩
  · have H := Lib.hid (fun r => pdq_calls B G n c l r w0 w h hn)
    have HB := Lib.hid (len_bits n ⟨by omega, hn.2⟩)
    have hd : decide ((n : Int) ≤ 1) = false := decide_eq_false (by omega)
    have HL := Lib.hid (len_calls G n c)
    have HC := Lib.hid (call_len G n c)
    obtain ⟨N, hN⟩ : ∃ N : Int, (n : Int) = N := ⟨_, rfl⟩
    rw [hN] at H HB HL hd
    have hu : IntKind.u64.wrap N = N := by
      simp [IntKind.wrap, IntKind.bits, IntKind.signed]
      omega
    clear h hn hN h1
    go_enter Try.func24, Try.ntmps24
    go_wp2_with (first
      | ((with_reducible refine gate_invoke (r := .tmp 4) (n := "Len") rfl ?_); go_must (refine inv_0 (v := .iface 55 (.slice (some ⟨G, 0, none⟩) n c)) rfl (.tmp 4) #[] rfl rfl (HC.out _) ?_); go_must ((with_reducible refine (HL.out _).mono ?_); rintro e w1 ⟨rfl, rfl⟩; refine ⟨_, rfl, ?_⟩))
      | (go_at_call 32; go_must ((with_reducible refine (HB.out _).mono ?_); rintro e w1 ⟨⟨r, rfl⟩, rfl⟩))
      | (go_at_call 33; go_must ((with_reducible refine (H.out r).mono ?_); rintro e w1 ⟨⟨u, rfl⟩, hV⟩; have HV := Aside0.mk hV; clear hV)))
    first | go_end0 | refine bodyPost_ret (results_none rfl _ _ _) rfl ?_
    exact ⟨⟨_, rfl⟩, HV.out⟩
end Go.Proofs.Ythmhojgjkfinlaa.Md
