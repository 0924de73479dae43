/-
  WriteVarIntBuf: a number of variable length is written.
-/
import Derived.Test.YtkmlpoggbfbnaaaWire
namespace Go.Proofs.Ytkmlpoggbfbnaaa.Wire
open Go.RowKit Go.Proofs.YtkmlpoggbfbnaaaW.PrintWords Go.Proofs.YtkmlpoggbfbnaaaW.PrintLast Go.Proofs.Ytkmlpoggbfbnaaa.Reg Go.Proofs.Ytkmlpoggbfbnaaa.Buf
set_option linter.unusedSimpArgs false
set_option linter.unusedVariables false

/-- A piece of the scratch is written. -/
theorem write_sc {F : Nat → Prop} {B b s : Nat} {v : Value} {l : List Int} {w : World} (h : St F B b s v l w) {cs : Array Value} (hs : w.heap[s]? = some (.cells cs 5 (0, 0))) (k c : Nat) (d : List Int) (hd : d.length = k) (hcs : ∀ j, j < k → cs[j]? = some (.int .u8 (d.getD j 0))) (hk : k ≤ 8) (hlim : l.length + k ≤ 6000000) (hc8 : c = 8 := by rfl) :
    Calls Try.prog 86 #[.pointer (some ⟨b, 0, none⟩), .slice (some ⟨s, 0, none⟩) k c] w fun e w' => e = .returned (.tuple #[.int .i64 k, .nilIface]) ∧ ∃ v', St F B b s v' (l ++ d) w' ∧ Tr F B w w' := by
  subst hd
  exact st_write h _ c (sc_read hs d hcs hk) (fun a ha _ => by cases ha; exact h.sb) (by omega) hlim
set_option maxHeartbeats 8000000 in
set_option maxRecDepth 100000 in
theorem vi_1 {F : Nat → Prop} {B b s : Nat} {v : Value} {l : List Int} {w : World} (h : St F B b s v l w) (p x : Int) (h0 : 0 ≤ x) (h1 : x < 253) (hlim : l.length + 9 ≤ 6000000) :
    Calls Try.prog 55 #[Wr b, .int .u32 p, .int .u64 x, .slice (some ⟨s, 0, none⟩) 8 8] w fun e w' => e = .returned .nilIface ∧ ∃ v', St F B b s v' (l ++ [x]) w' ∧ Tr F B w w' := by
  obtain ⟨c0, c1, c2, c3, c4, c5, c6, c7, hs⟩ := h.sc
  have z0 : w.cell? ⟨s, 0, none⟩ = some c0 := sc_cells hs 0 _ rfl
  have zf := fz hs 0
  have hp := put_set (cs' := #[.int .u8 x, c1, c2, c3, c4, c5, c6, c7]) hs 0 (.int .u8 x) rfl
  obtain ⟨h2, t2⟩ := h.put hp
  have H2 := Lib.hid (h2.below (below_drew (Below.refl _ _)))
  have T2 := Lib.hid (t2.trans (h2.tr_below (below_drew (Below.refl _ _))))
  have HP := Lib.hid (blk_drew hp.blk)
  have HL := Lib.hid hlim
  have H0 := Lib.hid h0
  have H1 := Lib.hid h1
  have q1 : decide (x < 253) = true := decide_eq_true h1
  have hw2 : x % 256 = x := by omega
  clear h hs hp h2 t2 hlim
  go_enter Try.func55, Try.ntmps55
  go_wp2
  refine start_ (n := 12) (S := fun w' => True) (ds := []) #[false, false, false, false, false, false, false, false, false, false, false, false] (by kernel_rfl) rfl rfl trivial (fun hHeld => ?_)
  refine pure_ (i := 0) (N := some 53) (v := ?_) (a' := ?_) #[true, false, false, false, false, false, false, false, false, false, false, false] rfl rfl (by kernel_rfl) (fun _ _ _ h => h) (Or.inl ⟨by rfl, ?_⟩) ?_ ?_
  rotate_left
  · intro w'
    go_simp
    with_reducible rfl
  rotate_left
  · simp only [Act.put, List.setIfInBounds_toArray, List.set_cons_zero, List.set_cons_succ, i64_w, i32_w]
    rfl
  refine pure_ (i := 1) (N := some 54) (v := ?_) (a' := ?_) #[true, true, false, false, false, false, false, false, false, false, false, false] rfl rfl (by kernel_rfl) (fun _ _ _ h => h) (Or.inl ⟨by rfl, ?_⟩) ?_ ?_
  rotate_left
  · intro w'
    go_simp
    with_reducible rfl
  rotate_left
  · simp only [Act.put, List.setIfInBounds_toArray, List.set_cons_zero, List.set_cons_succ, i64_w, i32_w]
    rfl
  refine pure_ (i := 2) (N := some 55) (v := ?_) (a' := ?_) #[true, true, true, false, false, false, false, false, false, false, false, false] rfl rfl (by kernel_rfl) (fun _ _ _ h => h) (Or.inl ⟨by rfl, ?_⟩) ?_ ?_
  rotate_left
  · intro w'
    go_simp
    with_reducible rfl
  rotate_left
  · simp only [Act.put, List.setIfInBounds_toArray, List.set_cons_zero, List.set_cons_succ, i64_w, i32_w]
    rfl
  refine pure_ (i := 3) (N := some 56) (v := ?_) (a' := ?_) #[true, true, true, true, false, false, false, false, false, false, false, false] rfl rfl (by kernel_rfl) (fun _ _ _ h => h) (Or.inl ⟨by rfl, ?_⟩) ?_ ?_
  rotate_left
  · intro w'
    go_simp
    with_reducible rfl
  rotate_left
  · simp only [Act.put, List.setIfInBounds_toArray, List.set_cons_zero, List.set_cons_succ, i64_w, i32_w]
    rfl
  refine pure_ (i := 4) (N := some 57) (v := ?_) (a' := ?_) #[true, true, true, true, true, false, false, false, false, false, false, false] rfl rfl (by kernel_rfl) (fun _ _ _ h => h) (Or.inl ⟨by rfl, ?_⟩) ?_ ?_
  rotate_left
  · intro w'
    refine (exec_nilW w' (b := b) (.tmp 56) (by rfl) (by rfl)).trans ?_
    with_reducible rfl
  rotate_left
  · simp only [Act.put, List.setIfInBounds_toArray, List.set_cons_zero, List.set_cons_succ, i64_w, i32_w]
    rfl
  refine pure_ (i := 5) (N := some 58) (v := ?_) (a' := ?_) #[true, true, true, true, true, true, false, false, false, false, false, false] rfl rfl (by kernel_rfl) (fun _ _ _ h => h) (Or.inl ⟨by rfl, ?_⟩) ?_ ?_
  rotate_left
  · intro w'
    go_simp
    with_reducible rfl
  rotate_left
  · simp only [Act.put, List.setIfInBounds_toArray, List.set_cons_zero, List.set_cons_succ, i64_w, i32_w]
    rfl
  refine one_ (i := 6) (N := some 59) #[true, true, true, true, true, true, true, false, false, false, false, false] rfl rfl (by kernel_rfl) (by decide) (fun K hK => ?_)
  refine call_ (86) #[.pointer (some ⟨b, 0, none⟩), .slice (some ⟨s, 0, none⟩) 1 8] (by rfl) rfl (exec_write (.tmp 58) (.tmp 55) #[40] (by rfl) (by rfl) (by rfl)) ?_
  with_reducible refine (write_sc H2.out HP.out 1 8 ([x]) rfl (fun j hj => by obtain rfl : j = 0 := (by omega); simp [le]) (by omega) (by have := HL.out; omega)).mono ?_
  rintro e w3 ⟨rfl, v3, h3, t3⟩
  refine ⟨_, rfl, ?_⟩
  have H3 := Lib.hid h3; have T3 := Lib.hid (T2.out.trans t3); clear h3 t3 T2
  refine hK.out _ _ trivial (fun hHeld => ?_)
  clear hK K
  refine norm_ (a' := ?_) ?_ ?_
  rotate_left
  · show Act.put _ (some 59) _ = _
    simp only [Act.put, List.setIfInBounds_toArray, List.set_cons_zero, List.set_cons_succ, i64_w, i32_w]
    rfl
  refine pure_ (i := 7) (N := some 52) (v := ?_) (a' := ?_) #[true, true, true, true, true, true, true, true, false, false, false, false] rfl rfl (by kernel_rfl) (fun _ _ _ h => h) (Or.inl ⟨by rfl, ?_⟩) ?_ ?_
  rotate_left
  · intro w'
    go_simp
    with_reducible rfl
  rotate_left
  · simp only [Act.put, List.setIfInBounds_toArray, List.set_cons_zero, List.set_cons_succ, i64_w, i32_w]
    rfl
  refine pure_ (i := 8) (N := some 60) (v := ?_) (a' := ?_) #[true, true, true, true, true, true, true, true, true, false, false, false] rfl rfl (by kernel_rfl) (fun _ _ _ h => h) (Or.inl ⟨by rfl, ?_⟩) ?_ ?_
  rotate_left
  · intro w'
    go_simp
    with_reducible rfl
  rotate_left
  · simp only [Act.put, List.setIfInBounds_toArray, List.set_cons_zero, List.set_cons_succ, i64_w, i32_w]
    rfl
  refine pure_ (i := 9) (N := some 61) (v := ?_) (a' := ?_) #[true, true, true, true, true, true, true, true, true, true, false, false] rfl rfl (by kernel_rfl) (fun _ _ _ h => h) (Or.inl ⟨by rfl, ?_⟩) ?_ ?_
  rotate_left
  · intro w'
    go_simp
    with_reducible rfl
  rotate_left
  · simp only [Act.put, List.setIfInBounds_toArray, List.set_cons_zero, List.set_cons_succ, i64_w, i32_w]
    rfl
  refine pure_ (i := 10) (N := some 9) (v := ?_) (a' := ?_) #[true, true, true, true, true, true, true, true, true, true, true, false] rfl rfl (by kernel_rfl) (fun _ _ _ h => h) (Or.inl ⟨by rfl, ?_⟩) ?_ ?_
  rotate_left
  · intro w'
    go_simp
    with_reducible rfl
  rotate_left
  · simp only [Act.put, List.setIfInBounds_toArray, List.set_cons_zero, List.set_cons_succ, i64_w, i32_w]
    rfl
  refine pure_ (i := 11) (N := some 10) (v := ?_) (a' := ?_) #[true, true, true, true, true, true, true, true, true, true, true, true] rfl rfl (by kernel_rfl) (fun _ _ _ h => h) (Or.inl ⟨by rfl, ?_⟩) ?_ ?_
  rotate_left
  · intro w'
    go_simp
    with_reducible rfl
  rotate_left
  · simp only [Act.put, List.setIfInBounds_toArray, List.set_cons_zero, List.set_cons_succ, i64_w, i32_w]
    rfl
  refine done_ (by kernel_rfl) ?_
  go_wp2
  go_ret
  exact ⟨rfl, v3, H3.out, T3.out⟩
set_option maxHeartbeats 8000000 in
set_option maxRecDepth 100000 in
theorem vi_3 {F : Nat → Prop} {B b s : Nat} {v : Value} {l : List Int} {w : World} (h : St F B b s v l w) (p x : Int) (h0 : 253 ≤ x) (h1 : x < 65536) (hlim : l.length + 9 ≤ 6000000) :
    Calls Try.prog 55 #[Wr b, .int .u32 p, .int .u64 x, .slice (some ⟨s, 0, none⟩) 8 8] w fun e w' => e = .returned .nilIface ∧ ∃ v', St F B b s v' (l ++ (253 :: le 2 x)) w' ∧ Tr F B w w' := by
  obtain ⟨c0, c1, c2, c3, c4, c5, c6, c7, hs⟩ := h.sc
  have z0 : w.cell? ⟨s, 0, none⟩ = some c0 := sc_cells hs 0 _ rfl
  have zf := fz hs 0
  have hp := put_set (cs' := #[.int .u8 253, c1, c2, c3, c4, c5, c6, c7]) hs 0 (.int .u8 253) rfl
  obtain ⟨h2, t2⟩ := h.put hp
  have H2 := Lib.hid (h2.below (below_drew (Below.refl _ _)))
  have T2 := Lib.hid (t2.trans (h2.tr_below (below_drew (Below.refl _ _))))
  have HP := Lib.hid (blk_drew hp.blk)
  have HL := Lib.hid hlim
  have H0 := Lib.hid h0
  have H1 := Lib.hid h1
  have q1 : decide (x < 253) = false := decide_eq_false (by omega)
  have q2 : decide (x ≤ 65535) = true := decide_eq_true (by omega)
  have hw2 : IntKind.u16.wrap x = x := by unfold IntKind.wrap; simp [IntKind.bits, IntKind.signed]; omega
  have hw3 : x % 65536 = x := by omega
  clear h hs hp h2 t2 hlim
  go_enter Try.func55, Try.ntmps55
  go_wp2
  refine start_ (n := 6) (S := fun w' => True) (ds := []) #[false, false, false, false, false, false] (by kernel_rfl) rfl rfl trivial (fun hHeld => ?_)
  refine pure_ (i := 1) (N := some 69) (v := ?_) (a' := ?_) #[false, true, false, false, false, false] rfl rfl (by kernel_rfl) (fun _ _ _ h => h) (Or.inl ⟨by rfl, ?_⟩) ?_ ?_
  rotate_left
  · intro w'
    go_simp
    with_reducible rfl
  rotate_left
  · simp only [Act.put, List.setIfInBounds_toArray, List.set_cons_zero, List.set_cons_succ, i64_w, i32_w]
    rfl
  refine pure_ (i := 2) (N := some 70) (v := ?_) (a' := ?_) #[false, true, true, false, false, false] rfl rfl (by kernel_rfl) (fun _ _ _ h => h) (Or.inl ⟨by rfl, ?_⟩) ?_ ?_
  rotate_left
  · intro w'
    go_simp
    with_reducible rfl
  rotate_left
  · simp only [Act.put, List.setIfInBounds_toArray, List.set_cons_zero, List.set_cons_succ, i64_w, i32_w]
    rfl
  refine pure_ (i := 3) (N := some 71) (v := ?_) (a' := ?_) #[false, true, true, true, false, false] rfl rfl (by kernel_rfl) (fun _ _ _ h => h) (Or.inl ⟨by rfl, ?_⟩) ?_ ?_
  rotate_left
  · intro w'
    go_simp
    with_reducible rfl
  rotate_left
  · simp only [Act.put, List.setIfInBounds_toArray, List.set_cons_zero, List.set_cons_succ, i64_w, i32_w]
    rfl
  refine pure_ (i := 4) (N := some 72) (v := ?_) (a' := ?_) #[false, true, true, true, true, false] rfl rfl (by kernel_rfl) (fun _ _ _ h => h) (Or.inl ⟨by rfl, ?_⟩) ?_ ?_
  rotate_left
  · intro w'
    go_simp
    with_reducible rfl
  rotate_left
  · simp only [Act.put, List.setIfInBounds_toArray, List.set_cons_zero, List.set_cons_succ, i64_w, i32_w]
    rfl
  refine take_ (i := 0) (N := some 68) (v := ?_) (a' := ?_) #[true, true, true, true, true, false] rfl rfl (by kernel_rfl) (fun _ _ _ h => h) (Or.inl ⟨by rfl, ?_⟩) hHeld ?_ ?_
  rotate_left
  · intro w' _
    go_simp
    with_reducible rfl
  rotate_left
  · simp only [Act.put, List.setIfInBounds_toArray, List.set_cons_zero, List.set_cons_succ, i64_w, i32_w]
    rfl
  refine one_ (i := 5) (N := some 73) #[true, true, true, true, true, true] rfl rfl (by kernel_rfl) (by decide) (fun K hK => ?_)
  refine goes_ Try.func59 (by kernel_rfl) rfl #[.agg #[], .slice (some ⟨s, 1, none⟩) 2 7, .int .u16 x] (by rfl) rfl rfl (by simp only [List.map_toArray, List.map_cons, List.map_nil]; rfl) ?_
  with_reducible refine (put16_calls s 2 7 x (.int .u8 253) c1 c2 c3 c4 c5 c6 c7 _ HP.out (by omega) (by have := H0.out; omega) H1.out).mono ?_
  rintro e w3 ⟨rfl, hp⟩
  refine ⟨_, rfl, ?_⟩
  obtain ⟨h3, t3⟩ := H2.out.put hp
  have n0_ := Lib.hid (h3.below (below_drew (Below.refl _ _))); have n1_ := Lib.hid (T2.out.trans (t3.trans (h3.tr_below (below_drew (Below.refl _ _))))); have n2_ := Lib.hid (blk_drew hp.blk)
  clear H2 T2 HP hp h3 t3; have H2 := n0_; have T2 := n1_; have HP := n2_; clear n0_ n1_ n2_
  refine hK.out _ _ trivial (fun hHeld => ?_)
  clear hK K
  refine norm_ (a' := ?_) ?_ ?_
  rotate_left
  · show Act.put _ (some 73) _ = _
    simp only [Act.put, List.setIfInBounds_toArray, List.set_cons_zero, List.set_cons_succ, i64_w, i32_w]
    rfl
  refine done_ (by kernel_rfl) ?_
  go_wp2
  refine start_ (n := 12) (S := fun w' => True) (ds := []) #[false, false, false, false, false, false, false, false, false, false, false, false] (by kernel_rfl) rfl rfl trivial (fun hHeld => ?_)
  refine pure_ (i := 0) (N := some 75) (v := ?_) (a' := ?_) #[true, false, false, false, false, false, false, false, false, false, false, false] rfl rfl (by kernel_rfl) (fun _ _ _ h => h) (Or.inl ⟨by rfl, ?_⟩) ?_ ?_
  rotate_left
  · intro w'
    go_simp
    with_reducible rfl
  rotate_left
  · simp only [Act.put, List.setIfInBounds_toArray, List.set_cons_zero, List.set_cons_succ, i64_w, i32_w]
    rfl
  refine pure_ (i := 1) (N := some 76) (v := ?_) (a' := ?_) #[true, true, false, false, false, false, false, false, false, false, false, false] rfl rfl (by kernel_rfl) (fun _ _ _ h => h) (Or.inl ⟨by rfl, ?_⟩) ?_ ?_
  rotate_left
  · intro w'
    go_simp
    with_reducible rfl
  rotate_left
  · simp only [Act.put, List.setIfInBounds_toArray, List.set_cons_zero, List.set_cons_succ, i64_w, i32_w]
    rfl
  refine pure_ (i := 2) (N := some 77) (v := ?_) (a' := ?_) #[true, true, true, false, false, false, false, false, false, false, false, false] rfl rfl (by kernel_rfl) (fun _ _ _ h => h) (Or.inl ⟨by rfl, ?_⟩) ?_ ?_
  rotate_left
  · intro w'
    go_simp
    with_reducible rfl
  rotate_left
  · simp only [Act.put, List.setIfInBounds_toArray, List.set_cons_zero, List.set_cons_succ, i64_w, i32_w]
    rfl
  refine pure_ (i := 3) (N := some 78) (v := ?_) (a' := ?_) #[true, true, true, true, false, false, false, false, false, false, false, false] rfl rfl (by kernel_rfl) (fun _ _ _ h => h) (Or.inl ⟨by rfl, ?_⟩) ?_ ?_
  rotate_left
  · intro w'
    go_simp
    with_reducible rfl
  rotate_left
  · simp only [Act.put, List.setIfInBounds_toArray, List.set_cons_zero, List.set_cons_succ, i64_w, i32_w]
    rfl
  refine pure_ (i := 4) (N := some 79) (v := ?_) (a' := ?_) #[true, true, true, true, true, false, false, false, false, false, false, false] rfl rfl (by kernel_rfl) (fun _ _ _ h => h) (Or.inl ⟨by rfl, ?_⟩) ?_ ?_
  rotate_left
  · intro w'
    refine (exec_nilW w' (b := b) (.tmp 78) (by rfl) (by rfl)).trans ?_
    with_reducible rfl
  rotate_left
  · simp only [Act.put, List.setIfInBounds_toArray, List.set_cons_zero, List.set_cons_succ, i64_w, i32_w]
    rfl
  refine pure_ (i := 5) (N := some 80) (v := ?_) (a' := ?_) #[true, true, true, true, true, true, false, false, false, false, false, false] rfl rfl (by kernel_rfl) (fun _ _ _ h => h) (Or.inl ⟨by rfl, ?_⟩) ?_ ?_
  rotate_left
  · intro w'
    go_simp
    with_reducible rfl
  rotate_left
  · simp only [Act.put, List.setIfInBounds_toArray, List.set_cons_zero, List.set_cons_succ, i64_w, i32_w]
    rfl
  refine one_ (i := 6) (N := some 81) #[true, true, true, true, true, true, true, false, false, false, false, false] rfl rfl (by kernel_rfl) (by decide) (fun K hK => ?_)
  refine call_ (86) #[.pointer (some ⟨b, 0, none⟩), .slice (some ⟨s, 0, none⟩) 3 8] (by rfl) rfl (exec_write (.tmp 80) (.tmp 77) #[40] (by rfl) (by rfl) (by rfl)) ?_
  with_reducible refine (write_sc H2.out HP.out 3 8 (253 :: le 2 x) rfl (fun j hj => by have hj2 : j = 0 ∨ j = 1 ∨ j = 2 := (by omega); rcases hj2 with rfl | rfl | rfl <;> simp [le]) (by omega) (by have := HL.out; omega)).mono ?_
  rintro e w3 ⟨rfl, v3, h3, t3⟩
  refine ⟨_, rfl, ?_⟩
  have H3 := Lib.hid h3; have T3 := Lib.hid (T2.out.trans t3); clear h3 t3 T2
  refine hK.out _ _ trivial (fun hHeld => ?_)
  clear hK K
  refine norm_ (a' := ?_) ?_ ?_
  rotate_left
  · show Act.put _ (some 81) _ = _
    simp only [Act.put, List.setIfInBounds_toArray, List.set_cons_zero, List.set_cons_succ, i64_w, i32_w]
    rfl
  refine pure_ (i := 7) (N := some 74) (v := ?_) (a' := ?_) #[true, true, true, true, true, true, true, true, false, false, false, false] rfl rfl (by kernel_rfl) (fun _ _ _ h => h) (Or.inl ⟨by rfl, ?_⟩) ?_ ?_
  rotate_left
  · intro w'
    go_simp
    with_reducible rfl
  rotate_left
  · simp only [Act.put, List.setIfInBounds_toArray, List.set_cons_zero, List.set_cons_succ, i64_w, i32_w]
    rfl
  refine pure_ (i := 8) (N := some 82) (v := ?_) (a' := ?_) #[true, true, true, true, true, true, true, true, true, false, false, false] rfl rfl (by kernel_rfl) (fun _ _ _ h => h) (Or.inl ⟨by rfl, ?_⟩) ?_ ?_
  rotate_left
  · intro w'
    go_simp
    with_reducible rfl
  rotate_left
  · simp only [Act.put, List.setIfInBounds_toArray, List.set_cons_zero, List.set_cons_succ, i64_w, i32_w]
    rfl
  refine pure_ (i := 9) (N := some 83) (v := ?_) (a' := ?_) #[true, true, true, true, true, true, true, true, true, true, false, false] rfl rfl (by kernel_rfl) (fun _ _ _ h => h) (Or.inl ⟨by rfl, ?_⟩) ?_ ?_
  rotate_left
  · intro w'
    go_simp
    with_reducible rfl
  rotate_left
  · simp only [Act.put, List.setIfInBounds_toArray, List.set_cons_zero, List.set_cons_succ, i64_w, i32_w]
    rfl
  refine pure_ (i := 10) (N := some 11) (v := ?_) (a' := ?_) #[true, true, true, true, true, true, true, true, true, true, true, false] rfl rfl (by kernel_rfl) (fun _ _ _ h => h) (Or.inl ⟨by rfl, ?_⟩) ?_ ?_
  rotate_left
  · intro w'
    go_simp
    with_reducible rfl
  rotate_left
  · simp only [Act.put, List.setIfInBounds_toArray, List.set_cons_zero, List.set_cons_succ, i64_w, i32_w]
    rfl
  refine pure_ (i := 11) (N := some 12) (v := ?_) (a' := ?_) #[true, true, true, true, true, true, true, true, true, true, true, true] rfl rfl (by kernel_rfl) (fun _ _ _ h => h) (Or.inl ⟨by rfl, ?_⟩) ?_ ?_
  rotate_left
  · intro w'
    go_simp
    with_reducible rfl
  rotate_left
  · simp only [Act.put, List.setIfInBounds_toArray, List.set_cons_zero, List.set_cons_succ, i64_w, i32_w]
    rfl
  refine done_ (by kernel_rfl) ?_
  go_wp2
  go_ret
  exact ⟨rfl, v3, H3.out, T3.out⟩
set_option maxHeartbeats 8000000 in
set_option maxRecDepth 100000 in
theorem vi_5 {F : Nat → Prop} {B b s : Nat} {v : Value} {l : List Int} {w : World} (h : St F B b s v l w) (p x : Int) (h0 : 65536 ≤ x) (h1 : x < 4294967296) (hlim : l.length + 9 ≤ 6000000) :
    Calls Try.prog 55 #[Wr b, .int .u32 p, .int .u64 x, .slice (some ⟨s, 0, none⟩) 8 8] w fun e w' => e = .returned .nilIface ∧ ∃ v', St F B b s v' (l ++ (254 :: le 4 x)) w' ∧ Tr F B w w' := by
  obtain ⟨c0, c1, c2, c3, c4, c5, c6, c7, hs⟩ := h.sc
  have z0 : w.cell? ⟨s, 0, none⟩ = some c0 := sc_cells hs 0 _ rfl
  have zf := fz hs 0
  have hp := put_set (cs' := #[.int .u8 254, c1, c2, c3, c4, c5, c6, c7]) hs 0 (.int .u8 254) rfl
  obtain ⟨h2, t2⟩ := h.put hp
  have H2 := Lib.hid (h2.below (below_drew (Below.refl _ _)))
  have T2 := Lib.hid (t2.trans (h2.tr_below (below_drew (Below.refl _ _))))
  have HP := Lib.hid (blk_drew hp.blk)
  have HL := Lib.hid hlim
  have H0 := Lib.hid h0
  have H1 := Lib.hid h1
  have q1 : decide (x < 253) = false := decide_eq_false (by omega)
  have q2 : decide (x ≤ 65535) = false := decide_eq_false (by omega)
  have q3 : decide (x ≤ 4294967295) = true := decide_eq_true (by omega)
  have hw2 : IntKind.u32.wrap x = x := by unfold IntKind.wrap; simp [IntKind.bits, IntKind.signed]; omega
  have hw3 : x % 4294967296 = x := by omega
  clear h hs hp h2 t2 hlim
  go_enter Try.func55, Try.ntmps55
  go_wp2
  refine start_ (n := 6) (S := fun w' => True) (ds := []) #[false, false, false, false, false, false] (by kernel_rfl) rfl rfl trivial (fun hHeld => ?_)
  refine pure_ (i := 1) (N := some 91) (v := ?_) (a' := ?_) #[false, true, false, false, false, false] rfl rfl (by kernel_rfl) (fun _ _ _ h => h) (Or.inl ⟨by rfl, ?_⟩) ?_ ?_
  rotate_left
  · intro w'
    go_simp
    with_reducible rfl
  rotate_left
  · simp only [Act.put, List.setIfInBounds_toArray, List.set_cons_zero, List.set_cons_succ, i64_w, i32_w]
    rfl
  refine pure_ (i := 2) (N := some 92) (v := ?_) (a' := ?_) #[false, true, true, false, false, false] rfl rfl (by kernel_rfl) (fun _ _ _ h => h) (Or.inl ⟨by rfl, ?_⟩) ?_ ?_
  rotate_left
  · intro w'
    go_simp
    with_reducible rfl
  rotate_left
  · simp only [Act.put, List.setIfInBounds_toArray, List.set_cons_zero, List.set_cons_succ, i64_w, i32_w]
    rfl
  refine pure_ (i := 3) (N := some 93) (v := ?_) (a' := ?_) #[false, true, true, true, false, false] rfl rfl (by kernel_rfl) (fun _ _ _ h => h) (Or.inl ⟨by rfl, ?_⟩) ?_ ?_
  rotate_left
  · intro w'
    go_simp
    with_reducible rfl
  rotate_left
  · simp only [Act.put, List.setIfInBounds_toArray, List.set_cons_zero, List.set_cons_succ, i64_w, i32_w]
    rfl
  refine pure_ (i := 4) (N := some 94) (v := ?_) (a' := ?_) #[false, true, true, true, true, false] rfl rfl (by kernel_rfl) (fun _ _ _ h => h) (Or.inl ⟨by rfl, ?_⟩) ?_ ?_
  rotate_left
  · intro w'
    go_simp
    with_reducible rfl
  rotate_left
  · simp only [Act.put, List.setIfInBounds_toArray, List.set_cons_zero, List.set_cons_succ, i64_w, i32_w]
    rfl
  refine take_ (i := 0) (N := some 90) (v := ?_) (a' := ?_) #[true, true, true, true, true, false] rfl rfl (by kernel_rfl) (fun _ _ _ h => h) (Or.inl ⟨by rfl, ?_⟩) hHeld ?_ ?_
  rotate_left
  · intro w' _
    go_simp
    with_reducible rfl
  rotate_left
  · simp only [Act.put, List.setIfInBounds_toArray, List.set_cons_zero, List.set_cons_succ, i64_w, i32_w]
    rfl
  refine one_ (i := 5) (N := some 95) #[true, true, true, true, true, true] rfl rfl (by kernel_rfl) (by decide) (fun K hK => ?_)
  refine goes_ Try.func54 (by kernel_rfl) rfl #[.agg #[], .slice (some ⟨s, 1, none⟩) 4 7, .int .u32 x] (by rfl) rfl rfl (by simp only [List.map_toArray, List.map_cons, List.map_nil]; rfl) ?_
  with_reducible refine (put32b_calls s 4 7 x (.int .u8 254) c1 c2 c3 c4 c5 c6 c7 _ HP.out (by omega) (by have := H0.out; omega) H1.out).mono ?_
  rintro e w3 ⟨rfl, hp⟩
  refine ⟨_, rfl, ?_⟩
  obtain ⟨h3, t3⟩ := H2.out.put hp
  have n0_ := Lib.hid (h3.below (below_drew (Below.refl _ _))); have n1_ := Lib.hid (T2.out.trans (t3.trans (h3.tr_below (below_drew (Below.refl _ _))))); have n2_ := Lib.hid (blk_drew hp.blk)
  clear H2 T2 HP hp h3 t3; have H2 := n0_; have T2 := n1_; have HP := n2_; clear n0_ n1_ n2_
  refine hK.out _ _ trivial (fun hHeld => ?_)
  clear hK K
  refine norm_ (a' := ?_) ?_ ?_
  rotate_left
  · show Act.put _ (some 95) _ = _
    simp only [Act.put, List.setIfInBounds_toArray, List.set_cons_zero, List.set_cons_succ, i64_w, i32_w]
    rfl
  refine done_ (by kernel_rfl) ?_
  go_wp2
  refine start_ (n := 12) (S := fun w' => True) (ds := []) #[false, false, false, false, false, false, false, false, false, false, false, false] (by kernel_rfl) rfl rfl trivial (fun hHeld => ?_)
  refine pure_ (i := 0) (N := some 97) (v := ?_) (a' := ?_) #[true, false, false, false, false, false, false, false, false, false, false, false] rfl rfl (by kernel_rfl) (fun _ _ _ h => h) (Or.inl ⟨by rfl, ?_⟩) ?_ ?_
  rotate_left
  · intro w'
    go_simp
    with_reducible rfl
  rotate_left
  · simp only [Act.put, List.setIfInBounds_toArray, List.set_cons_zero, List.set_cons_succ, i64_w, i32_w]
    rfl
  refine pure_ (i := 1) (N := some 98) (v := ?_) (a' := ?_) #[true, true, false, false, false, false, false, false, false, false, false, false] rfl rfl (by kernel_rfl) (fun _ _ _ h => h) (Or.inl ⟨by rfl, ?_⟩) ?_ ?_
  rotate_left
  · intro w'
    go_simp
    with_reducible rfl
  rotate_left
  · simp only [Act.put, List.setIfInBounds_toArray, List.set_cons_zero, List.set_cons_succ, i64_w, i32_w]
    rfl
  refine pure_ (i := 2) (N := some 99) (v := ?_) (a' := ?_) #[true, true, true, false, false, false, false, false, false, false, false, false] rfl rfl (by kernel_rfl) (fun _ _ _ h => h) (Or.inl ⟨by rfl, ?_⟩) ?_ ?_
  rotate_left
  · intro w'
    go_simp
    with_reducible rfl
  rotate_left
  · simp only [Act.put, List.setIfInBounds_toArray, List.set_cons_zero, List.set_cons_succ, i64_w, i32_w]
    rfl
  refine pure_ (i := 3) (N := some 100) (v := ?_) (a' := ?_) #[true, true, true, true, false, false, false, false, false, false, false, false] rfl rfl (by kernel_rfl) (fun _ _ _ h => h) (Or.inl ⟨by rfl, ?_⟩) ?_ ?_
  rotate_left
  · intro w'
    go_simp
    with_reducible rfl
  rotate_left
  · simp only [Act.put, List.setIfInBounds_toArray, List.set_cons_zero, List.set_cons_succ, i64_w, i32_w]
    rfl
  refine pure_ (i := 4) (N := some 101) (v := ?_) (a' := ?_) #[true, true, true, true, true, false, false, false, false, false, false, false] rfl rfl (by kernel_rfl) (fun _ _ _ h => h) (Or.inl ⟨by rfl, ?_⟩) ?_ ?_
  rotate_left
  · intro w'
    refine (exec_nilW w' (b := b) (.tmp 100) (by rfl) (by rfl)).trans ?_
    with_reducible rfl
  rotate_left
  · simp only [Act.put, List.setIfInBounds_toArray, List.set_cons_zero, List.set_cons_succ, i64_w, i32_w]
    rfl
  refine pure_ (i := 5) (N := some 102) (v := ?_) (a' := ?_) #[true, true, true, true, true, true, false, false, false, false, false, false] rfl rfl (by kernel_rfl) (fun _ _ _ h => h) (Or.inl ⟨by rfl, ?_⟩) ?_ ?_
  rotate_left
  · intro w'
    go_simp
    with_reducible rfl
  rotate_left
  · simp only [Act.put, List.setIfInBounds_toArray, List.set_cons_zero, List.set_cons_succ, i64_w, i32_w]
    rfl
  refine one_ (i := 6) (N := some 103) #[true, true, true, true, true, true, true, false, false, false, false, false] rfl rfl (by kernel_rfl) (by decide) (fun K hK => ?_)
  refine call_ (86) #[.pointer (some ⟨b, 0, none⟩), .slice (some ⟨s, 0, none⟩) 5 8] (by rfl) rfl (exec_write (.tmp 102) (.tmp 99) #[40] (by rfl) (by rfl) (by rfl)) ?_
  with_reducible refine (write_sc H2.out HP.out 5 8 (254 :: le 4 x) rfl (fun j hj => by have hj2 : j = 0 ∨ j = 1 ∨ j = 2 ∨ j = 3 ∨ j = 4 := (by omega); rcases hj2 with rfl | rfl | rfl | rfl | rfl <;> simp [le]) (by omega) (by have := HL.out; omega)).mono ?_
  rintro e w3 ⟨rfl, v3, h3, t3⟩
  refine ⟨_, rfl, ?_⟩
  have H3 := Lib.hid h3; have T3 := Lib.hid (T2.out.trans t3); clear h3 t3 T2
  refine hK.out _ _ trivial (fun hHeld => ?_)
  clear hK K
  refine norm_ (a' := ?_) ?_ ?_
  rotate_left
  · show Act.put _ (some 103) _ = _
    simp only [Act.put, List.setIfInBounds_toArray, List.set_cons_zero, List.set_cons_succ, i64_w, i32_w]
    rfl
  refine pure_ (i := 7) (N := some 96) (v := ?_) (a' := ?_) #[true, true, true, true, true, true, true, true, false, false, false, false] rfl rfl (by kernel_rfl) (fun _ _ _ h => h) (Or.inl ⟨by rfl, ?_⟩) ?_ ?_
  rotate_left
  · intro w'
    go_simp
    with_reducible rfl
  rotate_left
  · simp only [Act.put, List.setIfInBounds_toArray, List.set_cons_zero, List.set_cons_succ, i64_w, i32_w]
    rfl
  refine pure_ (i := 8) (N := some 104) (v := ?_) (a' := ?_) #[true, true, true, true, true, true, true, true, true, false, false, false] rfl rfl (by kernel_rfl) (fun _ _ _ h => h) (Or.inl ⟨by rfl, ?_⟩) ?_ ?_
  rotate_left
  · intro w'
    go_simp
    with_reducible rfl
  rotate_left
  · simp only [Act.put, List.setIfInBounds_toArray, List.set_cons_zero, List.set_cons_succ, i64_w, i32_w]
    rfl
  refine pure_ (i := 9) (N := some 105) (v := ?_) (a' := ?_) #[true, true, true, true, true, true, true, true, true, true, false, false] rfl rfl (by kernel_rfl) (fun _ _ _ h => h) (Or.inl ⟨by rfl, ?_⟩) ?_ ?_
  rotate_left
  · intro w'
    go_simp
    with_reducible rfl
  rotate_left
  · simp only [Act.put, List.setIfInBounds_toArray, List.set_cons_zero, List.set_cons_succ, i64_w, i32_w]
    rfl
  refine pure_ (i := 10) (N := some 13) (v := ?_) (a' := ?_) #[true, true, true, true, true, true, true, true, true, true, true, false] rfl rfl (by kernel_rfl) (fun _ _ _ h => h) (Or.inl ⟨by rfl, ?_⟩) ?_ ?_
  rotate_left
  · intro w'
    go_simp
    with_reducible rfl
  rotate_left
  · simp only [Act.put, List.setIfInBounds_toArray, List.set_cons_zero, List.set_cons_succ, i64_w, i32_w]
    rfl
  refine pure_ (i := 11) (N := some 14) (v := ?_) (a' := ?_) #[true, true, true, true, true, true, true, true, true, true, true, true] rfl rfl (by kernel_rfl) (fun _ _ _ h => h) (Or.inl ⟨by rfl, ?_⟩) ?_ ?_
  rotate_left
  · intro w'
    go_simp
    with_reducible rfl
  rotate_left
  · simp only [Act.put, List.setIfInBounds_toArray, List.set_cons_zero, List.set_cons_succ, i64_w, i32_w]
    rfl
  refine done_ (by kernel_rfl) ?_
  go_wp2
  go_ret
  exact ⟨rfl, v3, H3.out, T3.out⟩
set_option maxHeartbeats 8000000 in
set_option maxRecDepth 100000 in
theorem vi_9 {F : Nat → Prop} {B b s : Nat} {v : Value} {l : List Int} {w : World} (h : St F B b s v l w) (p x : Int) (h0 : 4294967296 ≤ x) (h1 : x < 18446744073709551616) (hlim : l.length + 9 ≤ 6000000) :
    Calls Try.prog 55 #[Wr b, .int .u32 p, .int .u64 x, .slice (some ⟨s, 0, none⟩) 8 8] w fun e w' => e = .returned .nilIface ∧ ∃ v', St F B b s v' (l ++ (255 :: le 8 x)) w' ∧ Tr F B w w' := by
  obtain ⟨c0, c1, c2, c3, c4, c5, c6, c7, hs⟩ := h.sc
  have z0 : w.cell? ⟨s, 0, none⟩ = some c0 := sc_cells hs 0 _ rfl
  have zf := fz hs 0
  have hp := put_set (cs' := #[.int .u8 255, c1, c2, c3, c4, c5, c6, c7]) hs 0 (.int .u8 255) rfl
  obtain ⟨h2, t2⟩ := h.put hp
  have H2 := Lib.hid (h2.below (below_drew (Below.refl _ _)))
  have T2 := Lib.hid (t2.trans (h2.tr_below (below_drew (Below.refl _ _))))
  have HP := Lib.hid (blk_drew hp.blk)
  have HL := Lib.hid hlim
  have H0 := Lib.hid h0
  have H1 := Lib.hid h1
  have q1 : decide (x < 253) = false := decide_eq_false (by omega)
  have q2 : decide (x ≤ 65535) = false := decide_eq_false (by omega)
  have q3 : decide (x ≤ 4294967295) = false := decide_eq_false (by omega)
  clear h hs hp h2 t2 hlim h0 h1
  go_enter Try.func55, Try.ntmps55
  go_wp2
  refine start_ (n := 12) (S := fun w' => True) (ds := []) #[false, false, false, false, false, false, false, false, false, false, false, false] (by kernel_rfl) rfl rfl trivial (fun hHeld => ?_)
  refine pure_ (i := 0) (N := some 22) (v := ?_) (a' := ?_) #[true, false, false, false, false, false, false, false, false, false, false, false] rfl rfl (by kernel_rfl) (fun _ _ _ h => h) (Or.inl ⟨by rfl, ?_⟩) ?_ ?_
  rotate_left
  · intro w'
    go_simp
    with_reducible rfl
  rotate_left
  · simp only [Act.put, List.setIfInBounds_toArray, List.set_cons_zero, List.set_cons_succ, i64_w, i32_w]
    rfl
  refine pure_ (i := 1) (N := some 23) (v := ?_) (a' := ?_) #[true, true, false, false, false, false, false, false, false, false, false, false] rfl rfl (by kernel_rfl) (fun _ _ _ h => h) (Or.inl ⟨by rfl, ?_⟩) ?_ ?_
  rotate_left
  · intro w'
    go_simp
    with_reducible rfl
  rotate_left
  · simp only [Act.put, List.setIfInBounds_toArray, List.set_cons_zero, List.set_cons_succ, i64_w, i32_w]
    rfl
  refine pure_ (i := 2) (N := some 24) (v := ?_) (a' := ?_) #[true, true, true, false, false, false, false, false, false, false, false, false] rfl rfl (by kernel_rfl) (fun _ _ _ h => h) (Or.inl ⟨by rfl, ?_⟩) ?_ ?_
  rotate_left
  · intro w'
    go_simp
    with_reducible rfl
  rotate_left
  · simp only [Act.put, List.setIfInBounds_toArray, List.set_cons_zero, List.set_cons_succ, i64_w, i32_w]
    rfl
  refine pure_ (i := 3) (N := some 25) (v := ?_) (a' := ?_) #[true, true, true, true, false, false, false, false, false, false, false, false] rfl rfl (by kernel_rfl) (fun _ _ _ h => h) (Or.inl ⟨by rfl, ?_⟩) ?_ ?_
  rotate_left
  · intro w'
    go_simp
    with_reducible rfl
  rotate_left
  · simp only [Act.put, List.setIfInBounds_toArray, List.set_cons_zero, List.set_cons_succ, i64_w, i32_w]
    rfl
  refine pure_ (i := 4) (N := some 26) (v := ?_) (a' := ?_) #[true, true, true, true, true, false, false, false, false, false, false, false] rfl rfl (by kernel_rfl) (fun _ _ _ h => h) (Or.inl ⟨by rfl, ?_⟩) ?_ ?_
  rotate_left
  · intro w'
    refine (exec_nilW w' (b := b) (.tmp 25) (by rfl) (by rfl)).trans ?_
    with_reducible rfl
  rotate_left
  · simp only [Act.put, List.setIfInBounds_toArray, List.set_cons_zero, List.set_cons_succ, i64_w, i32_w]
    rfl
  refine pure_ (i := 5) (N := some 27) (v := ?_) (a' := ?_) #[true, true, true, true, true, true, false, false, false, false, false, false] rfl rfl (by kernel_rfl) (fun _ _ _ h => h) (Or.inl ⟨by rfl, ?_⟩) ?_ ?_
  rotate_left
  · intro w'
    go_simp
    with_reducible rfl
  rotate_left
  · simp only [Act.put, List.setIfInBounds_toArray, List.set_cons_zero, List.set_cons_succ, i64_w, i32_w]
    rfl
  refine one_ (i := 6) (N := some 28) #[true, true, true, true, true, true, true, false, false, false, false, false] rfl rfl (by kernel_rfl) (by decide) (fun K hK => ?_)
  refine call_ (86) #[.pointer (some ⟨b, 0, none⟩), .slice (some ⟨s, 0, none⟩) 1 8] (by rfl) rfl (exec_write (.tmp 27) (.tmp 24) #[40] (by rfl) (by rfl) (by rfl)) ?_
  with_reducible refine (write_sc H2.out HP.out 1 8 ([255]) rfl (fun j hj => by obtain rfl : j = 0 := (by omega); simp [le]) (by omega) (by have := HL.out; omega)).mono ?_
  rintro e w3 ⟨rfl, v3, h3, t3⟩
  refine ⟨_, rfl, ?_⟩
  have H3 := Lib.hid h3; have T3 := Lib.hid (T2.out.trans t3); clear h3 t3 T2
  refine hK.out _ _ trivial (fun hHeld => ?_)
  clear hK K
  refine norm_ (a' := ?_) ?_ ?_
  rotate_left
  · show Act.put _ (some 28) _ = _
    simp only [Act.put, List.setIfInBounds_toArray, List.set_cons_zero, List.set_cons_succ, i64_w, i32_w]
    rfl
  refine pure_ (i := 7) (N := some 21) (v := ?_) (a' := ?_) #[true, true, true, true, true, true, true, true, false, false, false, false] rfl rfl (by kernel_rfl) (fun _ _ _ h => h) (Or.inl ⟨by rfl, ?_⟩) ?_ ?_
  rotate_left
  · intro w'
    go_simp
    with_reducible rfl
  rotate_left
  · simp only [Act.put, List.setIfInBounds_toArray, List.set_cons_zero, List.set_cons_succ, i64_w, i32_w]
    rfl
  refine pure_ (i := 8) (N := some 29) (v := ?_) (a' := ?_) #[true, true, true, true, true, true, true, true, true, false, false, false] rfl rfl (by kernel_rfl) (fun _ _ _ h => h) (Or.inl ⟨by rfl, ?_⟩) ?_ ?_
  rotate_left
  · intro w'
    go_simp
    with_reducible rfl
  rotate_left
  · simp only [Act.put, List.setIfInBounds_toArray, List.set_cons_zero, List.set_cons_succ, i64_w, i32_w]
    rfl
  refine pure_ (i := 9) (N := some 30) (v := ?_) (a' := ?_) #[true, true, true, true, true, true, true, true, true, true, false, false] rfl rfl (by kernel_rfl) (fun _ _ _ h => h) (Or.inl ⟨by rfl, ?_⟩) ?_ ?_
  rotate_left
  · intro w'
    go_simp
    with_reducible rfl
  rotate_left
  · simp only [Act.put, List.setIfInBounds_toArray, List.set_cons_zero, List.set_cons_succ, i64_w, i32_w]
    rfl
  refine pure_ (i := 10) (N := some 15) (v := ?_) (a' := ?_) #[true, true, true, true, true, true, true, true, true, true, true, false] rfl rfl (by kernel_rfl) (fun _ _ _ h => h) (Or.inl ⟨by rfl, ?_⟩) ?_ ?_
  rotate_left
  · intro w'
    go_simp
    with_reducible rfl
  rotate_left
  · simp only [Act.put, List.setIfInBounds_toArray, List.set_cons_zero, List.set_cons_succ, i64_w, i32_w]
    rfl
  refine pure_ (i := 11) (N := some 16) (v := ?_) (a' := ?_) #[true, true, true, true, true, true, true, true, true, true, true, true] rfl rfl (by kernel_rfl) (fun _ _ _ h => h) (Or.inl ⟨by rfl, ?_⟩) ?_ ?_
  rotate_left
  · intro w'
    go_simp
    with_reducible rfl
  rotate_left
  · simp only [Act.put, List.setIfInBounds_toArray, List.set_cons_zero, List.set_cons_succ, i64_w, i32_w]
    rfl
  refine done_ (by kernel_rfl) ?_
  go_wp2_with (first
    | (go_at_call 60; obtain ⟨d0, d1, d2, d3, d4, d5, d6, d7, hs3⟩ := H3.out.sc; refine (put64_calls s 8 8 x d0 d1 d2 d3 d4 d5 d6 d7 _ hs3 (by omega) (by have := H0.out; omega) H1.out).mono ?_; rintro e w4 ⟨rfl, hp⟩; obtain ⟨h4, t4⟩ := H3.out.put hp; have H4 := Lib.hid h4; have T4 := Lib.hid (T3.out.trans t4); have HP4 := Lib.hid hp.blk; clear h4 t4 hs3 hp H3 T3)
    | ((with_reducible refine gate_invoke (r := .tmp 39) (n := "Write") rfl ?_); go_must (refine writes_L (b := b) (v := .slice (some ⟨s, 0, none⟩) 8 8) rfl (.tmp 39) (.tmp 40) #[40] rfl rfl rfl ?_); go_must (refine (write_sc H4.out HP4.out 8 8 (le 8 x) (le_len 8 x) (fun j hj => by have hj2 : j = 0 ∨ j = 1 ∨ j = 2 ∨ j = 3 ∨ j = 4 ∨ j = 5 ∨ j = 6 ∨ j = 7 := (by omega); rcases hj2 with rfl | rfl | rfl | rfl | rfl | rfl | rfl | rfl <;> simp [le, nums]) (by omega) (by have := HL.out; simp; omega)).mono ?_); rintro e w5 ⟨rfl, v5, h5, t5⟩; refine ⟨_, rfl, ?_⟩; have H5 := Lib.hid h5; have T5 := Lib.hid (T4.out.trans t5); clear h5 t5 H4 T4))
  go_ret
  exact ⟨rfl, v5, by have := H5.out; rwa [List.append_assoc] at this, T5.out⟩
theorem vi_calls {F : Nat → Prop} {B b s : Nat} {v : Value} {l : List Int} {w : World} (h : St F B b s v l w) (p x : Int) (h0 : 0 ≤ x) (h1 : x < 18446744073709551616) (hlim : l.length + 9 ≤ 6000000) :
    Calls Try.prog 55 #[Wr b, .int .u32 p, .int .u64 x, .slice (some ⟨s, 0, none⟩) 8 8] w fun e w' => e = .returned .nilIface ∧ ∃ v', St F B b s v' (l ++ vi x) w' ∧ Tr F B w w' := by
  unfold vi
  by_cases c1 : x < 253
  · rw [if_pos c1]; exact vi_1 h p x h0 c1 hlim
  · rw [if_neg c1]
    by_cases c2 : x ≤ 65535
    · rw [if_pos c2]; exact vi_3 h p x (by omega) (by omega) hlim
    · rw [if_neg c2]
      by_cases c3 : x ≤ 4294967295
      · rw [if_pos c3]; exact vi_5 h p x (by omega) (by omega) hlim
      · rw [if_neg c3]; exact vi_9 h p x (by omega) h1 hlim
/-- Bytes that stand lie in a block that stands. -/
theorem F_in {w : World} {F : Nat → Prop} {a : Addr} {d : List Int} (h : Kd.F (Kd.int .u8) w F (some a) d.length d) (hd : 0 < d.length) : F a.block := by
  refine Classical.byContradiction fun hn => ?_
  obtain ⟨W', h1, h2⟩ := Kd.emptied w a.block
  have h3 := h W' (fun k hk _ => h1 k (fun e => hn (e ▸ hk)))
  obtain ⟨a', ha, hL⟩ := KC_cells h3 hd
  cases ha
  obtain ⟨x, r, rfl⟩ : ∃ x r, d = x :: r := by cases d with | nil => simp at hd | cons x r => exact ⟨x, r, rfl⟩
  have := hL 0 (.int .u8 x) rfl
  rw [h2 (a.add 0) (by rw [Lib.block_add])] at this
  cases this
theorem F_tr {w w1 : World} {F : Nat → Prop} {B : Nat} {A : Option Addr} {n : Nat} {d : List Int} (h : Kd.F (Kd.int .u8) w F A n d) (t : Tr F B w w1) : Kd.F (Kd.int .u8) w1 F A n d := Kd.F_step h (fun k hk _ => t.fr k hk)
set_option maxHeartbeats 8000000 in
set_option maxRecDepth 100000 in
theorem vb_calls {F : Nat → Prop} {B b s : Nat} {v : Value} {l : List Int} {w : World} (h : St F B b s v l w) (p : Int) (A : Option Addr) (c : Nat) (d : List Int) (hd : Kd.F (Kd.int .u8) w F A d.length d) (hcap : d.length ≤ c) (hlim : l.length + d.length + 9 ≤ 6000000) :
    Calls Try.prog 62 #[Wr b, .int .u32 p, .slice A d.length c, .slice (some ⟨s, 0, none⟩) 8 8] w fun e w' => e = .returned .nilIface ∧ ∃ v', St F B b s v' (l ++ vb d) w' ∧ Tr F B w w' := by
  have H := Lib.hid h
  have HD := Lib.hid hd
  have HC := Lib.hid hcap
  have HL := Lib.hid hlim
  obtain ⟨n, hn⟩ : ∃ n, d.length = n := ⟨_, rfl⟩
  have HN := Lib.hid hn
  have hn1 : (n : Int) ≤ 6000000 := by omega
  have hw : IntKind.u64.wrap (n : Int) = n := by unfold IntKind.wrap; simp [IntKind.bits, IntKind.signed]; omega
  have hw2 : (n : Int) % 18446744073709551616 = n := by omega
  have HN1 := Lib.hid hn1
  rw [hn]
  clear h hd hcap hlim hn hn1
  go_enter Try.func62, Try.ntmps62
  go_wp2_with (first
    | (go_at_call 55; go_must (refine (vi_calls H.out p (n : Int) (by omega) (by have := HN1.out; omega) (by have := HL.out; omega)).mono ?_); rintro e w1 ⟨rfl, v1, h1, t1⟩; have H1 := Lib.hid h1; have T1 := Lib.hid t1; clear h1 t1)
    | ((with_reducible refine gate_invoke (r := .tmp 23) (n := "Write") rfl ?_); go_must (refine writes_L (b := b) (v := .slice A n c) rfl (.tmp 23) (.tmp 24) #[40] rfl rfl rfl ?_); go_must (rw [← HN.out]); go_must (refine (st_write H1.out A c (d := d) (F_tr HD.out T1.out).now (fun a ha hp => by subst ha; exact (H1.out.hF _ (F_in HD.out hp)).2.1) HC.out (by have := vi_len n; have := HL.out; rw [List.length_append]; omega)).mono ?_); rintro e w2 ⟨rfl, v2, h2, t2⟩; refine ⟨_, rfl, ?_⟩; have H2 := Lib.hid h2; have T2 := Lib.hid (T1.out.trans t2); clear h2 t2 H1 T1))
  go_ret
  exact ⟨rfl, v2, by have := H2.out; rw [List.append_assoc] at this; rw [vb, HN.out]; exact this, T2.out⟩
end Go.Proofs.Ytkmlpoggbfbnaaa.Wire
