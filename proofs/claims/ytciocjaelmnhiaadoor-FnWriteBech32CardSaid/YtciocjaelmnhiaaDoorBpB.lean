/-
  impl.ReadBech32.
-/
import Derived.Test.YtciocjaelmnhiaaDoorBpA
namespace Go.Proofs.YtciocjaelmnhiaaDoor.Bp
open Go.RowKit Go.Proofs.YtciocjaelmnhiaaDoorW.PrintWords Go.Proofs.YtciocjaelmnhiaaDoorW.PrintLast Go.Proofs.YtciocjaelmnhiaaDoorW.PrintMore Go.Proofs.YtciocjaelmnhiaaDoor.Reg
set_option linter.unusedSimpArgs false
set_option linter.unusedVariables false

set_option maxHeartbeats 4000000 in
set_option maxRecDepth 100000 in
theorem dgen_long (s : ByteArray) (w : World) (hs : 90 < s.size) : Calls Tryd.prog 16 #[.string s] w fun e w' => (∃ x y z t v, e = .returned (.tuple #[x, y, z, .iface t v])) ∧ Below w.heap.size w w' := by
  have d1 : decide ((90 : Int) < (s.size : Int)) = true := decide_eq_true (by omega)
  have d2 := eq_true hs
  clear hs
  go_enter Tryd.func16, Tryd.ntmps16
  go_wp2
  (try simp only [Exit.inBlock, Exit.then])
  refine bodyPost_ret (results_tmp4 rfl _ _ _) rfl ?_
  exact ⟨⟨_, _, _, _, _, rfl⟩, by first | exact Below.refl _ _ | exact below_drew (Below.refl _ _)⟩
set_option maxHeartbeats 4000000 in
set_option maxRecDepth 100000 in
theorem dgen_calls (h : ByteArray) (d : List Nat) (w : World) (hh : Readable h) (hd : ∀ v ∈ d, v < 32) (hn : h.size ≤ 500 ∧ 6 ≤ d.length ∧ d.length ≤ 500) (hg : GenB w.heap.size w) (hs : (cat h d).size ≤ 90) :
    Calls Tryd.prog 16 #[.string (cat h d)] w fun e w' => DOut h d w w' e ∧ Below w.heap.size w w' := by
  have H := Lib.hid (dec_calls h d w hh hd hn hg)
  obtain ⟨s, hss⟩ : ∃ s, cat h d = s := ⟨_, rfl⟩
  rw [hss] at H hs ⊢
  have d1 : decide ((90 : Int) < (s.size : Int)) = false := decide_eq_false (by omega)
  have d2 := eq_false (show ¬ 90 < s.size by omega)
  clear hh hd hn hg hs hss
  go_enter Tryd.func16, Tryd.ntmps16
  go_wp2_with (first
    | (go_at_call 21; go_must ((with_reducible refine H.out.mono ?_); rintro e w1 ⟨⟨P, hP, ho⟩, hB⟩; have HB := Aside0.mk (And.intro hP hB); rcases ho with ⟨hp, A, c, rfl, hc, hl⟩ | ⟨hp, A, c, rfl, hc, hl⟩ | ⟨hp, hp2, x, y, z, t, v, rfl⟩ <;> (first | (have HO := Aside0.mk (And.intro hp (And.intro hc hl)); clear hp hc hl) | (have HO := Aside0.mk (And.intro hp hp2); clear hp hp2)) <;> clear hP hB)))
  · (try simp only [Exit.inBlock, Exit.then])
    refine bodyPost_ret (results_tmp4 rfl _ _ _) rfl ?_
    exact ⟨⟨_, HB.out.1, .inl ⟨HO.out.1, _, _, rfl, HO.out.2.1, HO.out.2.2⟩⟩, HB.out.2⟩
  · (try simp only [Exit.inBlock, Exit.then])
    refine bodyPost_ret (results_tmp4 rfl _ _ _) rfl ?_
    exact ⟨⟨_, HB.out.1, .inr (.inl ⟨HO.out.1, _, _, rfl, HO.out.2.1, HO.out.2.2⟩)⟩, HB.out.2⟩
  · (try simp only [Exit.inBlock, Exit.then])
    refine bodyPost_ret (results_tmp4 rfl _ _ _) rfl ?_
    exact ⟨⟨_, HB.out.1, .inr (.inr ⟨HO.out.1, HO.out.2, _, _, _, _, _, rfl⟩)⟩, HB.out.2⟩
/-- What the program's reader answers. -/
def ROut (h : ByteArray) (d : List Nat) (w' : World) (e : Ending) : Prop :=
  ∃ P, pm 1 (hi h ++ 0 :: (lo h ++ d)) = P ∧ ((P = 1 ∧ ∃ A c, e = .returned (.tuple #[.string h, .slice A (d.length - 6) c, .bool false, .int .i64 0]) ∧ Kd.C (Kd.int .u8) w' A (d.length - 6) (ints (d.take (d.length - 6))) ∧ d.length - 6 ≤ c) ∨
    (P = 734539939 ∧ ∃ A c, e = .returned (.tuple #[.string h, .slice A (d.length - 6) c, .bool true, .int .i64 0]) ∧ Kd.C (Kd.int .u8) w' A (d.length - 6) (ints (d.take (d.length - 6))) ∧ d.length - 6 ≤ c) ∨
    (P ≠ 1 ∧ P ≠ 734539939 ∧ ∃ x y z, e = .returned (.tuple #[x, y, z, .int .i64 1])))
set_option maxHeartbeats 4000000 in
set_option maxRecDepth 100000 in
theorem read_long (s : ByteArray) (w : World) (hs : 90 < s.size) : Calls Tryd.prog 8 #[.string s] w fun e w' => (∃ x y z, e = .returned (.tuple #[x, y, z, .int .i64 1])) ∧ Below w.heap.size w w' := by
  have H := Lib.hid (dgen_long s w hs)
  clear hs
  go_enter Tryd.func8, Tryd.ntmps8
  go_wp2_with (first
    | (go_at_call 16; go_must ((with_reducible refine H.out.mono ?_); rintro e w1 ⟨⟨x, y, z, t, v, rfl⟩, hB⟩; have HB := Aside0.mk hB; clear hB)))
  (try simp only [Exit.inBlock, Exit.then])
  refine bodyPost_ret (results_tmp4 rfl _ _ _) rfl ?_
  exact ⟨⟨_, _, _, rfl⟩, HB.out⟩
set_option maxHeartbeats 8000000 in
set_option maxRecDepth 100000 in
theorem read_calls (h : ByteArray) (d : List Nat) (w : World) (hh : Readable h) (hd : ∀ v ∈ d, v < 32) (hn : h.size ≤ 500 ∧ 6 ≤ d.length ∧ d.length ≤ 500) (hg : GenB w.heap.size w) (hs : (cat h d).size ≤ 90) :
    Calls Tryd.prog 8 #[.string (cat h d)] w fun e w' => ROut h d w' e ∧ Below w.heap.size w w' := by
  have H := Lib.hid (dgen_calls h d w hh hd hn hg hs)
  have HL := Lib.hid (show (ints (d.take (d.length - 6))).length = d.length - 6 from by rw [ints_len, List.length_take]; omega)
  have HLL := Lib.hid (show (ints (d.take (d.length - 6))).length ≤ 2147483647 from by rw [ints_len, List.length_take]; omega)
  obtain ⟨s, hss⟩ : ∃ s, cat h d = s := ⟨_, rfl⟩
  rw [hss] at H ⊢
  obtain ⟨q, hq⟩ : ∃ q, d.length - 6 = q := ⟨_, rfl⟩
  have HCP := Lib.hid (fun (A : Option Addr) (c : Nat) (W : World) (hc : Kd.C (Kd.int .u8) W A (ints (d.take (d.length - 6))).length (ints (d.take (d.length - 6)))) (hl : (ints (d.take (d.length - 6))).length ≤ c) => PFnWriteBech32.impl_copied.calls A c _ _ W hc hl (copied_eq _ HLL.out))
  rw [HL.out, hq] at HCP
  have HQ := Lib.hid hq
  rw [hq] at HL
  clear hh hd hn hg hs hss hq
  go_enter Tryd.func8, Tryd.ntmps8
  go_wp2_with (first
    | (go_at_call 16; go_must ((with_reducible refine H.out.mono ?_); rintro e w1 ⟨⟨P, hP, ho⟩, hB⟩; have HB := Aside0.mk (And.intro hP hB); rw [HQ.out] at ho; rcases ho with ⟨hp, A, c, rfl, hc, hl⟩ | ⟨hp, A, c, rfl, hc, hl⟩ | ⟨hp, hp2, x, y, z, t, v, rfl⟩ <;> (first | (have HO := Aside0.mk (And.intro hp (And.intro hc hl)); clear hp hc hl) | (have HO := Aside0.mk (And.intro hp hp2); clear hp hp2)) <;> clear hP hB))
    | (go_at_call 13; go_must ((with_reducible refine (HCP.out A c _ HO.out.2.1 HO.out.2.2).mono ?_); rintro e w2 ⟨v, rfl, hR, hB⟩; obtain ⟨A2, c2, rfl⟩ := Kd.R_slice hR; have H2 := Aside0.mk (And.intro (Kd.R_reads' hR).2 (below_step HB.out.2 hB)); clear hR hB; rw [HL.out] at H2 ⊢)))
  · (try simp only [Exit.inBlock, Exit.then])
    refine bodyPost_ret (results_tmp4 rfl _ _ _) rfl ?_
    refine ⟨⟨_, HB.out.1, .inl ⟨HO.out.1, ?_⟩⟩, H2.out.2⟩
    rw [HQ.out]
    exact ⟨_, _, rfl, H2.out.1.2, H2.out.1.1⟩
  · (try simp only [Exit.inBlock, Exit.then])
    refine bodyPost_ret (results_tmp4 rfl _ _ _) rfl ?_
    refine ⟨⟨_, HB.out.1, .inr (.inl ⟨HO.out.1, ?_⟩)⟩, H2.out.2⟩
    rw [HQ.out]
    exact ⟨_, _, rfl, H2.out.1.2, H2.out.1.1⟩
  · (try simp only [Exit.inBlock, Exit.then])
    refine bodyPost_ret (results_tmp4 rfl _ _ _) rfl ?_
    exact ⟨⟨_, HB.out.1, .inr (.inr ⟨HO.out.1, HO.out.2, _, _, _, rfl⟩)⟩, HB.out.2⟩
end Go.Proofs.YtciocjaelmnhiaaDoor.Bp
