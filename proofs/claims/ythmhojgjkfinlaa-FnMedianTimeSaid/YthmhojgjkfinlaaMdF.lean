/-
  MedianTime: the program, and the law.
-/
import Derived.Test.YthmhojgjkfinlaaMdE
namespace Go.Proofs.Ythmhojgjkfinlaa.Md
open Go.RowKit Go.Proofs.YthmhojgjkfinlaaW.PrintWords Go.Proofs.YthmhojgjkfinlaaW.PrintLast Go.Proofs.YthmhojgjkfinlaaW.PrintMore Go.Proofs.Ythmhojgjkfinlaa.Reg
set_option linter.unusedSimpArgs false
set_option linter.unusedVariables false

set_option maxHeartbeats 4000000 in
set_option maxRecDepth 100000 in
theorem impl_calls (A : Option Addr) (c : Nat) (l : List Int) (w : World) (h : Kd.C (Kd.int .i64) w A l.length l) (hl : 1 ≤ l.length ∧ l.length ≤ 1000) :
    Calls Try.prog 8 #[.slice A l.length c] w fun e w' => e = .returned (.int .i64 (med l)) ∧ Below w.heap.size w w' := by
  have H := Lib.hid (past_calls A c l w h hl)
  obtain ⟨n, hn⟩ : ∃ n, l.length = n := ⟨_, rfl⟩
  obtain ⟨M, hM⟩ : ∃ M, med l = M := ⟨_, rfl⟩
  rw [hn, hM] at H
  rw [hn, hM]
  clear h hl hn hM
  go_enter Try.func8, Try.ntmps8
  go_wp2_with (first
    | (go_at_call 16; go_must ((with_reducible refine H.out.mono ?_); rintro e w1 ⟨rfl, hB⟩; have HB := Aside0.mk hB; clear hB))
    | (go_at_call 17; go_must ((with_reducible refine (tunix_calls M _).mono ?_); rintro e w2 ⟨rfl, hB⟩; have HB2 := Aside0.mk (below_step HB.out hB); clear hB)))
  go_ret
  exact ⟨rfl, HB2.out⟩
set_option maxHeartbeats 4000000 in
set_option maxRecDepth 100000 in
theorem law_big (A : Option Addr) (n c : Nat) (w : World) (hn : n = 0 ∨ 200 < n) :
    Calls Try.prog 4 #[.slice A n c] w fun e w' => e = .returned (.bool true) ∧ Below w.heap.size w w' := by
  rcases hn with rfl | hn
  · go_enter Try.func4, Try.ntmps4
    go_wp2
    go_ret
    exact ⟨rfl, by first | exact Below.refl _ _ | exact below_drew (Below.refl _ _)⟩
  · by_cases h : 2147483647 < n
    · have c1 : decide ((2147483647 : Int) < (n : Int)) = true := decide_eq_true (by omega)
      have c2 := eq_true h
      clear hn h
      go_enter Try.func4, Try.ntmps4
      go_wp2
      go_ret
      exact ⟨rfl, by first | exact Below.refl _ _ | exact below_drew (Below.refl _ _)⟩
    · have c1 : decide ((2147483647 : Int) < (n : Int)) = false := decide_eq_false (by omega)
      have c2 : decide ((200 : Int) < (n : Int)) = true := decide_eq_true (by omega)
      have c3 := eq_false h
      have c4 := eq_true hn
      have c5 : ((n : Int) == 0) = false := by simp; omega
      have c6 : (n == 0) = false := by simp; omega
      have c7 : (n = 0) = False := eq_false (by omega)
      have c8 : decide ((n : Int) = 0) = false := decide_eq_false (by omega)
      clear hn h
      go_enter Try.func4, Try.ntmps4
      go_wp2
      go_ret
      exact ⟨rfl, by first | exact Below.refl _ _ | exact below_drew (Below.refl _ _)⟩
set_option maxHeartbeats 8000000 in
set_option maxRecDepth 100000 in
theorem law_main (A : Option Addr) (c : Nat) (l : List Int) (w : World) (h : Kd.C (Kd.int .i64) w A l.length l) (hc : l.length ≤ c) (hl : 1 ≤ l.length ∧ l.length ≤ 200) :
    Calls Try.prog 4 #[.slice A l.length c] w fun e w' => e = .returned (.bool true) ∧ Below w.heap.size w w' := by
  have HI := Lib.hid (impl_calls A c l w h ⟨hl.1, by omega⟩)
  have HS := Lib.hid (fun (W : World) (hW : Below w.heap.size w W) => spec_calls A c l W (Kd.C_below h hW) hc ⟨hl.1, by omega⟩)
  have HA := Lib.hid (fun (i : Int) (h0 : 0 ≤ i) (h1 : i < l.length) => Kd.at_int h i h0 h1)
  obtain ⟨n, hn⟩ : ∃ n, l.length = n := ⟨_, rfl⟩
  obtain ⟨M, hM⟩ : ∃ M, med l = M := ⟨_, rfl⟩
  rw [hn, hM] at HI HS
  rw [hn] at HA hl ⊢
  have HL := Lib.hid hl
  have c1 : decide ((2147483647 : Int) < (n : Int)) = false := decide_eq_false (by omega)
  have c2 : decide ((200 : Int) < (n : Int)) = false := decide_eq_false (by omega)
  have c3 := eq_false (show ¬ 2147483647 < n by omega)
  have c4 := eq_false (show ¬ 200 < n by omega)
  have c5 : ((n : Int) == 0) = false := by simp; omega
  have c6 : (n == 0) = false := by simp; omega
  have c7 : (n = 0) = False := eq_false (by omega)
  have c8 : decide ((n : Int) = 0) = false := decide_eq_false (by omega)
  clear h hc hl hn hM
  go_enter Try.func4, Try.ntmps4
  go_wp2
  go_loopg [3] (n + 1) (fun kq v3 w' => ∃ i : Int, v3 = .int .i64 i ∧ Aside0 (0 ≤ i ∧ i ≤ n ∧ i.toNat + kq = n + 1) ∧ w' = w)
  case atStart => exact ⟨0, rfl, ⟨by decide, by omega, by show 0 + (n + 1) = n + 1; omega⟩, rfl⟩
  case round =>
    obtain ⟨i, rfl, HK, hw⟩ := hrel
    obtain rfl := hw.symm
    obtain ⟨k1, rfl⟩ : ∃ k1, gk = k1 + 1 := ⟨gk - 1, by have := HK.out; omega⟩
    by_cases ci : i < (n : Int)
    · have cb : decide (i < (n : Int)) = true := decide_eq_true ci
      have q0 := eq_true ci
      have q1 := eq_true HK.out.1
      obtain ⟨ad, hA, hx⟩ := HA.out i HK.out.1 ci
      subst hA
      obtain ⟨x, hxx⟩ : ∃ x, rd l i = x := ⟨_, rfl⟩
      rw [hxx] at hx
      have hwi : wrap64 (i + 1) = i + 1 := wrap64_id (by have := HK.out; omega) (by have := HK.out; have := HL.out; omega)
      have HC := Aside0.mk ci
      clear ci hxx
      by_cases cx : x < 0
      · have cxb : decide (x < 0) = true := decide_eq_true cx
        have cxc := eq_true cx
        clear cx
        go_wp2
        go_ret
        exact ⟨rfl, Below.refl _ _⟩
      · have cxb : decide (x < 0) = false := decide_eq_false cx
        have cxc := eq_false cx
        clear cx
        by_cases cy : 4294967296 ≤ x
        · have cyb : decide (4294967296 ≤ x) = true := decide_eq_true cy
          have cyc := eq_true cy
          clear cy
          go_wp2
          go_ret
          exact ⟨rfl, Below.refl _ _⟩
        · have cyb : decide (4294967296 ≤ x) = false := decide_eq_false cy
          have cyc := eq_false cy
          clear cy
          go_wp2
          go_roundg k1
          case measure => have := HK.out; omega
          case rel => exact ⟨i + 1, by first | rfl | (rw [hwi]), ⟨by have := HK.out; omega, by have := HC.out; omega, by have := HK.out; omega⟩, rfl⟩
    · have cb : decide (i < (n : Int)) = false := decide_eq_false ci
      clear ci
      go_wp2_with (first
        | (go_at_call 8; go_must ((with_reducible refine HI.out.mono ?_); rintro e w1 ⟨rfl, hB⟩; have HB := Aside0.mk hB; clear hB))
        | (go_at_call 9; go_must ((with_reducible refine (HS.out _ HB.out).mono ?_); rintro e w2 ⟨rfl, hB⟩; have HB2 := Aside0.mk (below_step HB.out hB); clear hB)))
      go_ret
      exact ⟨by first | rfl | (simp; done), HB2.out⟩
/-- A row of numbers as an argument lies there. -/
def Arg (k : IntKind) (w : World) (a : Option Addr) (len cap : Nat) (zs : List Int) : Prop :=
  (a = none ∧ len = 0 ∧ cap = 0 ∧ zs = []) ∨
  ∃ x, a = some x ∧ len ≤ cap ∧ cap ≤ maxLen ∧ zs.length = cap ∧ (∀ i, i < zs.length → w.cell? (x.add i) = some (.int k (zs.getD i 0))) ∧ ∀ n ∈ zs, (Lit.int k n).wf = true
/-- The law, for the row. -/
theorem row_walk (A : Option Addr) (len cap : Nat) (z : List Int) (w : World) (h : Arg .i64 w A len cap z) (_ : len * 8 ≤ 140737488351232) :
    Calls Try.prog 4 #[.slice A len cap] w fun e w' => e = .returned (.bool true) ∧ Below w.heap.size w w' := by
  obtain ⟨l, rfl, hr, hm, hw, hc⟩ := ReadsInt.ofRowC h
  by_cases hn : l.length = 0 ∨ 200 < l.length
  · exact law_big A l.length cap w hn
  · exact law_main A cap l w (Kd.C_of_reads (d := (0 : Int)) (h1 := fun _ => rfl) hr) hc (by omega)
end Go.Proofs.Ythmhojgjkfinlaa.Md
