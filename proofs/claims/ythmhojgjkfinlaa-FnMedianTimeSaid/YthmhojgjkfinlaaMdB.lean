/-
  Methods called by name; insertionSort, pdqsort, Sort.
-/
import Derived.Test.YthmhojgjkfinlaaMdA
namespace Go.Proofs.Ythmhojgjkfinlaa.Md
open Go.RowKit Go.Proofs.YthmhojgjkfinlaaW.PrintWords Go.Proofs.YthmhojgjkfinlaaW.PrintLast Go.Proofs.YthmhojgjkfinlaaW.PrintMore Go.Proofs.Ythmhojgjkfinlaa.Reg
set_option linter.unusedSimpArgs false
set_option linter.unusedVariables false

section
variable {P : Program} {ops : Array Oper} {Q : Exit → Act → World → Prop}
theorem gate_invoke {rest : List Oper} {o : Oper} {a : Act} {w : World} {r : Operand} {xs : Array Operand} {ts : Array TypeId} {n : String} (_ho : o.op = .call { callee := .invoke r n, args := xs, argTypes := ts }) (h : wpList P ops Q (o :: rest) a w) : wpList P ops Q (o :: rest) a w := h
set_option maxRecDepth 100000 in
/-- A call of a method by its name. -/
theorem inv_0 {rest : List Oper} {o : Oper} {a : Act} {w : World} {v : Value} {f : FuncId} {args : Array Value} {nm : String} (hw : Region.wanted o (yielded ops a.tmps) = true) (r : Operand) (ts : Array TypeId) (ho : o.op = .call { callee := .invoke r nm, args := #[], argTypes := ts }) (hr : a.eval r = v)
    (hm : (callMethod v nm #[]).run P w = .ok (.enter f args) w)
    (h : Calls P f args w fun e w' => ∃ u, e = .returned u ∧ wpList P ops Q rest (a.put o.dst u) w') : wpList P ops Q (o :: rest) a w := by
  refine wpList_step fun K hK => ?_
  rw [if_pos hw]
  unfold Oper.wp
  have he : (execOp a.eval o).run P w = .ok (.enter f args) w := by
    unfold execOp
    simp [ho, resolve, invoke, hr, hm]
  rw [he, Oper.upon_enter]
  refine h.mono fun e w'' hh => ?_
  obtain ⟨u, rfl, hk⟩ := hh
  exact hK _ _ hk
set_option maxRecDepth 100000 in
theorem inv_2 {rest : List Oper} {o : Oper} {a : Act} {w : World} {v x1 y1 : Value} {f : FuncId} {args : Array Value} {nm : String} (hw : Region.wanted o (yielded ops a.tmps) = true) (r x y : Operand) (ts : Array TypeId) (ho : o.op = .call { callee := .invoke r nm, args := #[x, y], argTypes := ts }) (hr : a.eval r = v) (hx : a.eval x = x1) (hy : a.eval y = y1)
    (hm : (callMethod v nm #[x1, y1]).run P w = .ok (.enter f args) w)
    (h : Calls P f args w fun e w' => ∃ u, e = .returned u ∧ wpList P ops Q rest (a.put o.dst u) w') : wpList P ops Q (o :: rest) a w := by
  refine wpList_step fun K hK => ?_
  rw [if_pos hw]
  unfold Oper.wp
  have he : (execOp a.eval o).run P w = .ok (.enter f args) w := by
    unfold execOp
    simp [ho, resolve, invoke, hr, hx, hy, hm]
  rw [he, Oper.upon_enter]
  refine h.mono fun e w'' hh => ?_
  obtain ⟨u, rfl, hk⟩ := hh
  exact hK _ _ hk
end
abbrev Ts (G n c : Nat) : Value := .iface 55 (.slice (some ⟨G, 0, none⟩) n c)
theorem call_less (G n c : Nat) (x y : Value) (w : World) : (callMethod (.iface 55 (.slice (some ⟨G, 0, none⟩) n c)) "Less" #[x, y]).run Try.prog w = .ok (.enter 89 #[.slice (some ⟨G, 0, none⟩) n c, x, y]) w := by kernel_rfl
theorem call_swap (G n c : Nat) (x y : Value) (w : World) : (callMethod (.iface 55 (.slice (some ⟨G, 0, none⟩) n c)) "Swap" #[x, y]).run Try.prog w = .ok (.enter 90 #[.slice (some ⟨G, 0, none⟩) n c, x, y]) w := by kernel_rfl
theorem call_len (G n c : Nat) (w : World) : (callMethod (.iface 55 (.slice (some ⟨G, 0, none⟩) n c)) "Len" #[]).run Try.prog w = .ok (.enter 88 #[.slice (some ⟨G, 0, none⟩) n c]) w := by kernel_rfl
theorem len_calls (G n c : Nat) (w : World) : Calls Try.prog 88 #[.slice (some ⟨G, 0, none⟩) n c] w fun e w' => e = .returned (.int .i64 n) ∧ w' = w := by
  go_enter Try.func88, Try.ntmps88
  go_wp2
  go_ret
  exact ⟨rfl, rfl⟩
set_option maxHeartbeats 8000000 in
set_option maxRecDepth 100000 in
theorem isort_calls (B G n c : Nat) (l : List Int) (w0 w : World) (h : Inv B G n c l w0 w) (hn : 1 ≤ n ∧ n ≤ 1000) :
    Calls Try.prog 41 #[.iface 55 (.slice (some ⟨G, 0, none⟩) n c), .int .i64 0, .int .i64 (n : Int)] w fun e w' => (∃ u, e = .returned u) ∧ Inv B G n c (srt l n) w0 w' := by
  have HN := Lib.hid hn
  have H := Lib.hid h
  have hw1 : wrap64 1 = 1 := by decide +kernel
  clear h hn
  go_enter Try.func41, Try.ntmps41
  go_wp2
  go_loopg [6] (n + 1) (fun kq v6 w' => ∃ i : Int, v6 = .int .i64 i ∧ Aside0 (1 ≤ i ∧ i ≤ n ∧ i.toNat + kq = n + 2) ∧ Aside0 (Inv B G n c (srt l i.toNat) w0 w'))
  case atStart => exact ⟨1, by first | rfl | simp [hw1], ⟨by decide, by have := HN.out; omega, by omega⟩, ⟨H.out⟩⟩
  case round =>
    clear H
    obtain ⟨i, rfl, HI, HV⟩ := hrel
    obtain ⟨k1, rfl⟩ : ∃ k1, gk = k1 + 1 := ⟨gk - 1, by have := HI.out; omega⟩
    by_cases ci : i < (n : Int)
    · have cb : decide (i < (n : Int)) = true := decide_eq_true ci
      have q0 := eq_true ci
      have HCI := Aside0.mk ci
      have hwi : wrap64 (i + 1) = i + 1 := wrap64_id (by have := HI.out; have := HN.out; omega) (by have := HI.out; have := HN.out; omega)
      clear ci
      go_wp2
      go_loopg [7] (i.toNat + 1) (fun kq v7 w' => ∃ (j : Int) (x : List Int), v7 = .int .i64 j ∧ Aside0 (0 ≤ j ∧ j ≤ i ∧ j.toNat + 1 ≤ kq) ∧ Aside0 (Inv B G n c x w0 w') ∧ Aside0 (sink x j.toNat = srt l (i + 1).toNat))
      case atStart => exact ⟨i, _, rfl, ⟨by have := HI.out; omega, by omega, by omega⟩, HV, ⟨by rw [show (i + 1).toNat = i.toNat + 1 by have := HI.out; omega]; rfl⟩⟩
      case round =>
        clear HV
        obtain ⟨j, x, rfl, HJ, HV, HS⟩ := hrel
        obtain ⟨k2, rfl⟩ : ∃ k2, gk = k2 + 1 := ⟨gk - 1, by have := HJ.out; omega⟩
        by_cases cj : 0 < j
        · have cjb : decide (0 < j) = true := decide_eq_true cj
          have q1 := eq_true cj
          obtain ⟨j1, hj1⟩ : ∃ j1 : Int, j - 1 = j1 := ⟨_, rfl⟩
          have hwj : wrap64 (j - 1) = j1 := by rw [hj1]; exact wrap64_id (by have := HJ.out; have := HCI.out; have := HN.out; omega) (by have := HJ.out; have := HCI.out; have := HN.out; omega)
          have HJJ := Aside0.mk (And.intro cj hj1)
          have HB := Aside0.mk (show (0 ≤ j ∧ j < (n : Int)) ∧ (0 ≤ j1 ∧ j1 < (n : Int)) from by have := HJ.out; have := HCI.out; omega)
          clear cj hj1
          by_cases cl : rd x j < rd x j1
          · have HSG := Aside0.mk (show sink (swp x j j1) j1.toNat = srt l (i + 1).toNat from by rw [← sink_go x j j1 HJJ.out.1 HJJ.out.2 cl]; exact HS.out)
            have HCL := Aside0.mk (decide_eq_true cl)
            clear cl
            go_wp2_with (first
              | ((with_reducible refine gate_invoke (r := .tmp 20) (n := "Less") rfl ?_); go_must (refine inv_2 (v := .iface 55 (.slice (some ⟨G, 0, none⟩) n c)) (x1 := .int .i64 j) (y1 := .int .i64 j1) ?aW1 (.tmp 20) (.tmp 21) (.tmp 23) #[3, 3] rfl ?aR1 ?aX1 ?aY1 (call_less G n c (.int .i64 j) (.int .i64 j1) _) ?_); go_must (case aW1 => first | rfl | (simp [Region.wanted, yielded]; done)); go_must (case aR1 => first | rfl | (simp; done)); go_must (case aX1 => first | rfl | (simp; done)); go_must (case aY1 => first | exact congrArg (Value.int .i64) hwj | rfl); go_must ((with_reducible refine (less_calls B G n c x w0 j j1 _ HV.out HB.out.1 HB.out.2).mono ?_); rintro e w1 ⟨rfl, rfl⟩; rw [HCL.out]; refine ⟨_, rfl, ?_⟩))
              | ((with_reducible refine gate_invoke (r := .tmp 28) (n := "Swap") rfl ?_); go_must (refine inv_2 (v := .iface 55 (.slice (some ⟨G, 0, none⟩) n c)) (x1 := .int .i64 j) (y1 := .int .i64 j1) ?aW2 (.tmp 28) (.tmp 29) (.tmp 31) #[3, 3] rfl ?aR2 ?aX2 ?aY2 (call_swap G n c (.int .i64 j) (.int .i64 j1) _) ?_); go_must (case aW2 => first | rfl | (simp [Region.wanted, yielded]; done)); go_must (case aR2 => first | rfl | (simp; done)); go_must (case aX2 => first | rfl | (simp; done)); go_must (case aY2 => first | exact congrArg (Value.int .i64) hwj | rfl); go_must ((with_reducible refine (swap_calls B G n c x w0 j j1 _ HV.out.drew HB.out.1 HB.out.2).mono ?_); rintro e w2 ⟨⟨u, rfl⟩, hV2⟩; have HV2 := Aside0.mk hV2; clear hV2; refine ⟨_, rfl, ?_⟩)))
            go_roundg k2
            case measure => have := HJ.out; omega
            case rel => exact ⟨j1, swp x j j1, by first | rfl | (rw [hwj]), ⟨by have := HB.out; omega, by have := HJJ.out; have := HJ.out; omega, by have := HJJ.out; have := HJ.out; omega⟩, HV2, HSG⟩
          · have HSG := Aside0.mk (show x = srt l (i + 1).toNat from by rw [← HS.out]; exact (sink_stop x j j1 HJJ.out.1 HJJ.out.2 cl).symm)
            have HCL := Aside0.mk (decide_eq_false cl)
            clear cl
            go_wp2_with (first
              | ((with_reducible refine gate_invoke (r := .tmp 20) (n := "Less") rfl ?_); go_must (refine inv_2 (v := .iface 55 (.slice (some ⟨G, 0, none⟩) n c)) (x1 := .int .i64 j) (y1 := .int .i64 j1) ?aW3 (.tmp 20) (.tmp 21) (.tmp 23) #[3, 3] rfl ?aR3 ?aX3 ?aY3 (call_less G n c (.int .i64 j) (.int .i64 j1) _) ?_); go_must (case aW3 => first | rfl | (simp [Region.wanted, yielded]; done)); go_must (case aR3 => first | rfl | (simp; done)); go_must (case aX3 => first | rfl | (simp; done)); go_must (case aY3 => first | exact congrArg (Value.int .i64) hwj | rfl); go_must ((with_reducible refine (less_calls B G n c x w0 j j1 _ HV.out HB.out.1 HB.out.2).mono ?_); rintro e w1 ⟨rfl, rfl⟩; rw [HCL.out]; refine ⟨_, rfl, ?_⟩)))
            go_roundg k1
            case measure => have := HI.out; omega
            case rel => exact ⟨i + 1, by first | rfl | (rw [hwi]), ⟨by have := HI.out; omega, by have := HCI.out; omega, by have := HI.out; omega⟩, ⟨by have := HV.out.drew; rwa [HSG.out] at this⟩⟩
        · have cjb : decide (0 < j) = false := decide_eq_false cj
          have HSG := Aside0.mk (show x = srt l (i + 1).toNat from by rw [← HS.out]; exact (sink_zero x j cj).symm)
          clear cj
          go_wp2
          go_roundg k1
          case measure => have := HI.out; omega
          case rel => exact ⟨i + 1, by first | rfl | (rw [hwi]), ⟨by have := HI.out; omega, by have := HCI.out; omega, by have := HI.out; omega⟩, ⟨by have := HV.out; rwa [HSG.out] at this⟩⟩
    · have cb : decide (i < (n : Int)) = false := decide_eq_false ci
      have HE := Aside0.mk (show i.toNat = n from by have := HI.out; omega)
      clear ci
      go_wp2
      first | go_end0 | refine bodyPost_ret (results_none rfl _ _ _) rfl ?_
      exact ⟨⟨_, rfl⟩, by have := HV.out; rwa [HE.out] at this⟩
end Go.Proofs.Ythmhojgjkfinlaa.Md
