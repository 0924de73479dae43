/-
  Unbase58: the program, and the law.
-/
import Derived.Test.YtojadhcbjcpifaaDoorUbC
import Derived.Test.YtojadhcbjcpifaaDoorRows
import Derived.Lib.LaidTab
import Derived.MakeChecks
import Derived.Stop.LaidErr
namespace Go.Proofs.YtojadhcbjcpifaaDoor.Ub
open Go.RowKit Go.Proofs.YtojadhcbjcpifaaDoorW.PrintWords Go.Proofs.YtojadhcbjcpifaaDoorW.PrintLast Go.Proofs.YtojadhcbjcpifaaDoorW.PrintMore Go.Proofs.YtojadhcbjcpifaaDoor.Reg
set_option linter.unusedSimpArgs false
set_option linter.unusedVariables false

theorem copied_eq (l : List Int) (hl : l.length ≤ 2147483647) : PFnUnbase58.impl_copied.f l = some l := by
  unfold PFnUnbase58.impl_copied.f
  simp; omega
theorem same_loop (a : List Int) (ha : a.length ≤ 9223372036854775806) : ∀ (d i k : Nat), i + d = a.length → d + 1 ≤ k → PFnUnbase58.laws_same.l0 k a a (i : Int) = some true
  | 0, i, k, h, hk => by
    obtain ⟨k, rfl⟩ : ∃ k', k = k' + 1 := ⟨k - 1, by omega⟩
    rw [PFnUnbase58.laws_same.l0, if_neg (by omega)]
  | d + 1, i, k, h, hk => by
    obtain ⟨k, rfl⟩ : ∃ k', k = k' + 1 := ⟨k - 1, by omega⟩
    have hw : wrap64 ((i : Int) + 1) = ((i + 1 : Nat) : Int) := by rw [wrap64_id (by omega) (by omega)]; omega
    rw [PFnUnbase58.laws_same.l0, if_pos (by omega), if_pos (by omega), if_pos (by omega), if_pos rfl, hw, same_loop a ha d (i + 1) k (by omega) (by omega)]
theorem same_eq (a : List Int) (ha : a.length ≤ 9223372036854775806) : PFnUnbase58.laws_same.f (a.length + 1) a a = some true := by
  unfold PFnUnbase58.laws_same.f
  rw [if_pos rfl]
  exact same_loop a ha a.length 0 _ (by omega) (by omega)
set_option maxHeartbeats 4000000 in
set_option maxRecDepth 100000 in
theorem impl_calls (s : ByteArray) (w : World) (hs : s.size ≤ 400) (hT : Tab w) (h0 : 0 < w.heap.size) :
    Calls Tryd.prog 6 #[.string s] w fun e w' => ∃ (A : Option Addr) (c : Nat) (r : List Int), e = .returned (.slice A r.length c) ∧ Kd.C (Kd.int .u8) w' A r.length r ∧ r.length ≤ c ∧ DOut s r ∧ r.length ≤ 100000 ∧ Below w.heap.size w w' := by
  have HD := Lib.hid (decode_calls s w hs hT h0)
  clear hs hT h0
  go_enter Tryd.func6, Tryd.ntmps6
  go_wp2_with (first
    | (go_at_call 15; go_must ((with_reducible refine HD.out.mono ?_); rintro e w1 ⟨A, c, r, rfl, hC, hc, hD, hr, hB⟩; have H1 := Aside0.mk (And.intro hC (And.intro hc (And.intro hD (And.intro hr hB)))); clear hC hc hD hr hB))
    | (go_at_call 14; go_must ((with_reducible refine (PFnUnbase58.impl_copied.calls A c r r w1 H1.out.1 H1.out.2.1 (copied_eq _ (by have := H1.out.2.2.2.1; omega))).mono ?_); rintro e w2 ⟨v, rfl, hR, hB⟩; obtain ⟨A2, c2, rfl⟩ := Kd.R_slice hR; have H2 := Aside0.mk (And.intro (Kd.R_reads' hR).2 (below_step H1.out.2.2.2.2 hB)); clear hR hB)))
  go_ret
  exact ⟨A2, c2, r, rfl, H2.out.1.2, H2.out.1.1, H1.out.2.2.1, H1.out.2.2.2.1, H2.out.2⟩
set_option maxHeartbeats 4000000 in
set_option maxRecDepth 100000 in
theorem law_big (s : ByteArray) (w : World) (hn : 400 < s.size) :
    Calls Tryd.prog 3 #[.string s] w fun e w' => e = .returned (.bool true) ∧ Below w.heap.size w w' := by
  by_cases h : 2147483647 < s.size
  · have c1 : decide ((2147483647 : Int) < (s.size : Int)) = true := decide_eq_true (by omega)
    have c2 := eq_true h
    clear hn h
    go_enter Tryd.func3, Tryd.ntmps3
    go_wp2
    go_ret
    exact ⟨rfl, by first | exact Below.refl _ _ | exact below_drew (Below.refl _ _)⟩
  · have c1 : decide ((2147483647 : Int) < (s.size : Int)) = false := decide_eq_false (by omega)
    have c2 : decide ((400 : Int) < (s.size : Int)) = true := decide_eq_true (by omega)
    have c3 := eq_false h
    have c4 := eq_true hn
    clear hn h
    go_enter Tryd.func3, Tryd.ntmps3
    go_wp2
    go_ret
    exact ⟨rfl, by first | exact Below.refl _ _ | exact below_drew (Below.refl _ _)⟩
/-- The two answer alike. -/
theorem alike {s : ByteArray} {r : List Int} {o : Option (List Int × Bool)} (hS : SOut s 0 [] 0 true o) (hD : DOut s r) : (o = some ([], false) ∧ r = []) ∨ o = some (r, true) := by
  rcases hS with ⟨h1, h2⟩ | ⟨h1, n1, h2, h3, h4, _⟩
  · rcases hD with ⟨_, h⟩ | ⟨h, _⟩
    · exact .inl ⟨h2, h⟩
    · exact absurd h1 h
  · rcases hD with ⟨h, _⟩ | ⟨_, n2, h5, h6, h7⟩
    · exact absurd h h1
    · have e : n1.reverse = n2.reverse := Nrm.eq (by decide) h3 h6 (by
        rw [← bv_rev, ← bv_rev, h4, h7]
        rfl)
      have e2 : n1 = n2 := by rw [← List.reverse_reverse n1, e, List.reverse_reverse]
      right
      rw [h2, h5, e2]
      simp
set_option maxHeartbeats 8000000 in
set_option maxRecDepth 100000 in
theorem law_walk (s : ByteArray) (w : World) (hs : s.size ≤ 400) (hT : Tab w) (h0 : 0 < w.heap.size) :
    Calls Tryd.prog 3 #[.string s] w fun e w' => e = .returned (.bool true) ∧ Below w.heap.size w w' := by
  have c1 : decide ((2147483647 : Int) < (s.size : Int)) = false := decide_eq_false (by omega)
  have c2 : decide ((400 : Int) < (s.size : Int)) = false := decide_eq_false (by omega)
  have c3 := eq_false (show ¬ 2147483647 < s.size by omega)
  have c4 := eq_false (show ¬ 400 < s.size by omega)
  obtain ⟨k, hk⟩ : ∃ k : Nat, 9000 = k := ⟨_, rfl⟩
  have hS := sp_f s k hs (by omega)
  clear hk
  obtain ⟨o, ho⟩ : ∃ o, PFnUnbase58.spec_Unbase58.f k s = o := ⟨_, rfl⟩
  rw [ho] at hS
  have hsp : ∃ l b, o = some (l, b) := by
    rcases hS with ⟨_, h⟩ | ⟨_, n, h, _⟩
    · exact ⟨_, _, h⟩
    · exact ⟨_, _, h⟩
  obtain ⟨l, b, rfl⟩ := hsp
  have HS := Lib.hid hS
  have HO := Lib.hid ho
  have HI := Lib.hid (fun (W : World) (hW : Below w.heap.size w W) => impl_calls s W hs (hT.below h0 hW) (Nat.lt_of_lt_of_le h0 hW.size))
  clear hS ho hs hT h0
  cases b with
  | false =>
    go_enter Tryd.func3, Tryd.ntmps3
    go_wp2_with (first
      | (go_at_call 5; go_must ((with_reducible refine (PFnUnbase58.spec_Unbase58.calls k s l false _ HO.out).mono ?_); rintro e w1 ⟨v, rfl, hR, hB⟩; obtain ⟨A1, d1, rfl⟩ := Kd.R_slice hR; have H1 := Aside0.mk (And.intro (Kd.R_reads' hR).2 hB); clear hR hB))
      | (go_at_call 6; go_must ((with_reducible refine (HI.out _ H1.out.2).mono ?_); rintro e w2 ⟨A, c, r, rfl, hC, hc, hD, hr, hB⟩; obtain rfl : r = [] := (alike HS.out hD).elim (fun h => h.2) (fun h => by cases h); have H2 := Aside0.mk (And.intro hC (And.intro hc (And.intro hr (And.intro (below_step H1.out.2 hB) (Kd.C_below H1.out.1.2 hB))))); clear hC hc hD hr hB)))
    go_ret
    exact ⟨rfl, H2.out.2.2.2.1⟩
  | true =>
    go_enter Tryd.func3, Tryd.ntmps3
    go_wp2_with (first
      | (go_at_call 5; go_must ((with_reducible refine (PFnUnbase58.spec_Unbase58.calls k s l true _ HO.out).mono ?_); rintro e w1 ⟨v, rfl, hR, hB⟩; obtain ⟨A1, d1, rfl⟩ := Kd.R_slice hR; have H1 := Aside0.mk (And.intro (Kd.R_reads' hR).2 hB); clear hR hB))
      | (go_at_call 6; go_must ((with_reducible refine (HI.out _ H1.out.2).mono ?_); rintro e w2 ⟨A, c, r, rfl, hC, hc, hD, hr, hB⟩; obtain rfl : l = r := (alike HS.out hD).elim (fun h => by cases h.1) (fun h => by cases h; rfl); have H2 := Aside0.mk (And.intro hC (And.intro hc (And.intro hr (And.intro (below_step H1.out.2 hB) (Kd.C_below H1.out.1.2 hB))))); clear hC hc hD hr hB))
      | (go_at_call 7; go_must ((with_reducible refine (PFnUnbase58.laws_same.calls (l.length + 1) A c l A1 d1 l true w2 H2.out.1 H2.out.2.1 H2.out.2.2.2.2 H1.out.1.1 (same_eq l (by have := H2.out.2.2.1; omega))).mono ?_); rintro e w3 ⟨rfl, ⟨m1, rfl⟩⟩; have H3 := Aside0.mk (pw_below_drewN H2.out.2.2.2.1 m1))))
    go_ret
    exact ⟨rfl, H3.out⟩
set_option maxRecDepth 100000 in
/-- The table, as the row lists it. -/
theorem tab_laid {W : World} (hL : laidMetH Tryd.prog Rows.fnUnbase58Row.laid W) : Tab W ∧ 0 < W.heap.size := by
  rw [MakeChecks.laidMetH_plain _ _ _ (by kernel_rfl)] at hL
  have g0 : Tryd.prog.globalNamed "pub-mintmark/pub/btcdaddress/base58.b58" = some 0 := by kernel_rfl
  have ht : Lib.TabIs Tryd.prog W "pub-mintmark/pub/btcdaddress/base58.b58" .u8 tb :=
    Lib.tabIs_of_head (rest := []) g0 (by kernel_rfl) Tryd.underlying52 Tryd.underlying5 (by kernel_rfl) (by kernel_rfl) hL
  have hc : Tab W := fun v h0 h1 => by
    have := World.var?_cell g0 ht v.toNat
    rw [this]
    have hv : v.toNat < 256 := by omega
    have hl : tb.length = 256 := by decide
    simp [dg, rd, hv, hl, List.getD]
  exact ⟨hc, Nat.lt_of_le_of_lt (Nat.zero_le _) (World.block_lt_of_cell? _ _ (hc 0 (by decide) (by decide)))⟩
/-- The law, for the row. -/
theorem row_walk (s : ByteArray) (w : World) (_ : s.size ≤ 140737488351232) (hL : Tab w ∧ 0 < w.heap.size) :
    Calls Tryd.prog 3 #[.string s] w fun e w' => e = .returned (.bool true) ∧ Below w.heap.size w w' := by
  by_cases h : 400 < s.size
  · exact law_big s w h
  · exact law_walk s w (by omega) hL.1 hL.2
end Go.Proofs.YtojadhcbjcpifaaDoor.Ub
