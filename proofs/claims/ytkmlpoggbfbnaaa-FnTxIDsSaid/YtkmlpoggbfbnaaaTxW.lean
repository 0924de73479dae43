/-
  Wire's writers of inputs and outputs.
-/
import Derived.Test.YtkmlpoggbfbnaaaVi
import Derived.Test.YtkmlpoggbfbnaaaGd
namespace Go.Proofs.Ytkmlpoggbfbnaaa.Wire
open Go.RowKit Go.Proofs.YtkmlpoggbfbnaaaW.PrintWords Go.Proofs.YtkmlpoggbfbnaaaW.PrintLast Go.Proofs.Ytkmlpoggbfbnaaa.Reg Go.Proofs.Ytkmlpoggbfbnaaa.Buf Go.Proofs.Ytkmlpoggbfbnaaa.Tx
set_option linter.unusedSimpArgs false
set_option linter.unusedVariables false

/-- An output's name as bytes. -/
def opB (h : List Int) (i : Int) : List Int := h ++ le 4 i
set_option maxHeartbeats 8000000 in
set_option maxRecDepth 100000 in
theorem op_calls {F : Nat → Prop} {B b s : Nat} {v : Value} {l : List Int} {w : World} (h : St F B b s v l w) (p q : Int) (g t : Nat) (cs : Array Value) (hh : List Int) (i : Int) (hg : w.heap[g]? = some (.cells cs t (0, 0))) (hF : F g) (hl : hh.length = 32) (hcs : ∀ (j : Nat) (v : Value), (opc hh i)[j]? = some v → cs[j]? = some v) (h0 : 0 ≤ i) (h1 : i < 4294967296) (hlim : l.length + 36 ≤ 6000000) :
    Calls Try.prog 61 #[Wr b, .int .u32 p, .int .i32 q, .pointer (some ⟨g, 0, none⟩), .slice (some ⟨s, 0, none⟩) 8 8] w fun e w' => e = .returned .nilIface ∧ ∃ v', St F B b s v' (l ++ opB hh i) w' ∧ Tr F B w w' := by
  have H2 := Lib.hid (h.below (below_drew (Below.refl _ _)))
  have T2 := Lib.hid (h.tr_below (below_drew (Below.refl _ _)))
  have HG := Lib.hid hg
  have HFg := Lib.hid hF
  have HL := Lib.hid hl
  have HCS := Lib.hid hcs
  have H0 := Lib.hid h0
  have H1 := Lib.hid h1
  have HLIM := Lib.hid hlim
  have hread : ∀ W : World, W.heap[g]? = some (.cells cs t (0, 0)) → Kd.C (Kd.int .u8) W (some ⟨g, 0, none⟩) hh.length hh := fun W hW => by
    refine Kd.C_of_reads (d := (0 : Int)) (h1 := fun _ => rfl) ⟨rfl, by omega, fun hn => ⟨_, rfl, fun j hj => ?_⟩⟩
    rw [add_plain]
    refine (blk_cell hW j).trans (hcs j _ ?_)
    rw [opc, List.getElem?_append_left (by rw [hv_len]; exact hj)]
    simp [hv, List.getD, hj]
  have hidx : ∀ W : World, W.heap[g]? = some (.cells cs t (0, 0)) → W.cell? ⟨g, 32, none⟩ = some (.int .u32 i) := fun W hW => (blk_cell hW 32).trans (hcs 32 _ (by simp [opc, hv_len, List.getElem?_append, hl]))
  have HR := Lib.hid hread
  have HI := Lib.hid hidx
  have hgb : g ≠ b := (h.hF g hF).2.1
  have HGB := Lib.hid hgb
  have HW1 := Lib.hid (show ∀ (W : World) (v : Value) (l : List Int), St F B b s v l W → W.heap[g]? = some (.cells cs t (0, 0)) → l.length + 32 ≤ 6000000 → Calls Try.prog 86 #[.pointer (some ⟨b, 0, none⟩), .slice (some ⟨g, 0, none⟩) 32 32] W fun e w' => e = .returned (.tuple #[.int .i64 32, .nilIface]) ∧ ∃ v', St F B b s v' (l ++ hh) w' ∧ Tr F B W w' from fun W v l hS hW hm => by
    have := st_write hS (some ⟨g, 0, none⟩) 32 (hread _ hW) (fun a ha _ => by cases ha; exact hgb) (by omega) (by omega)
    rwa [hl] at this)
  clear h hg hF hl hcs h0 h1 hlim hread hidx hgb
  go_enter Try.func61, Try.ntmps61
  go_wp2
  refine start_ (n := 14) (S := fun w' => True) (ds := []) #[false, false, false, false, false, false, false, false, false, false, false, false, false, false] (by kernel_rfl) rfl rfl trivial (fun hHeld => ?_)
  refine pure_ (i := 0) (N := some 14) (v := ?_) (a' := ?_) #[true, false, false, false, false, false, false, false, false, false, false, false, false, false] rfl rfl (by kernel_rfl) (fun _ _ _ h => h) (Or.inl ⟨by rfl, ?_⟩) ?_ ?_
  rotate_left
  · intro w'
    go_simp
    with_reducible rfl
  rotate_left
  · simp only [Act.put, List.setIfInBounds_toArray, List.set_cons_zero, List.set_cons_succ, i64_w, i32_w]
    rfl
  refine pure_ (i := 1) (N := some 15) (v := ?_) (a' := ?_) #[true, true, false, false, false, false, false, false, false, false, false, false, false, false] rfl rfl (by kernel_rfl) (fun _ _ _ h => h) (Or.inl ⟨by rfl, ?_⟩) ?_ ?_
  rotate_left
  · intro w'
    go_simp
    with_reducible rfl
  rotate_left
  · simp only [Act.put, List.setIfInBounds_toArray, List.set_cons_zero, List.set_cons_succ, i64_w, i32_w]
    rfl
  refine pure_ (i := 2) (N := some 16) (v := ?_) (a' := ?_) #[true, true, true, false, false, false, false, false, false, false, false, false, false, false] rfl rfl (by kernel_rfl) (fun _ _ _ h => h) (Or.inl ⟨by rfl, ?_⟩) ?_ ?_
  rotate_left
  · intro w'
    go_simp
    with_reducible rfl
  rotate_left
  · simp only [Act.put, List.setIfInBounds_toArray, List.set_cons_zero, List.set_cons_succ, i64_w, i32_w]
    rfl
  refine pure_ (i := 3) (N := some 17) (v := ?_) (a' := ?_) #[true, true, true, true, false, false, false, false, false, false, false, false, false, false] rfl rfl (by kernel_rfl) (fun _ _ _ h => h) (Or.inl ⟨by rfl, ?_⟩) ?_ ?_
  rotate_left
  · intro w'
    go_simp
    with_reducible rfl
  rotate_left
  · simp only [Act.put, List.setIfInBounds_toArray, List.set_cons_zero, List.set_cons_succ, i64_w, i32_w]
    rfl
  refine pure_ (i := 4) (N := some 18) (v := ?_) (a' := ?_) #[true, true, true, true, true, false, false, false, false, false, false, false, false, false] rfl rfl (by kernel_rfl) (fun _ _ _ h => h) (Or.inl ⟨by rfl, ?_⟩) ?_ ?_
  rotate_left
  · intro w'
    go_simp
    with_reducible rfl
  rotate_left
  · simp only [Act.put, List.setIfInBounds_toArray, List.set_cons_zero, List.set_cons_succ, i64_w, i32_w]
    rfl
  refine pure_ (i := 5) (N := some 19) (v := ?_) (a' := ?_) #[true, true, true, true, true, true, false, false, false, false, false, false, false, false] rfl rfl (by kernel_rfl) (fun _ _ _ h => h) (Or.inl ⟨by rfl, ?_⟩) ?_ ?_
  rotate_left
  · intro w'
    go_simp
    with_reducible rfl
  rotate_left
  · simp only [Act.put, List.setIfInBounds_toArray, List.set_cons_zero, List.set_cons_succ, i64_w, i32_w]
    rfl
  refine pure_ (i := 6) (N := some 20) (v := ?_) (a' := ?_) #[true, true, true, true, true, true, true, false, false, false, false, false, false, false] rfl rfl (by kernel_rfl) (fun _ _ _ h => h) (Or.inl ⟨by rfl, ?_⟩) ?_ ?_
  rotate_left
  · intro w'
    refine (exec_nilW w' (b := b) (.tmp 19) (by rfl) (by rfl)).trans ?_
    with_reducible rfl
  rotate_left
  · simp only [Act.put, List.setIfInBounds_toArray, List.set_cons_zero, List.set_cons_succ, i64_w, i32_w]
    rfl
  refine pure_ (i := 7) (N := some 21) (v := ?_) (a' := ?_) #[true, true, true, true, true, true, true, true, false, false, false, false, false, false] rfl rfl (by kernel_rfl) (fun _ _ _ h => h) (Or.inl ⟨by rfl, ?_⟩) ?_ ?_
  rotate_left
  · intro w'
    go_simp
    with_reducible rfl
  rotate_left
  · simp only [Act.put, List.setIfInBounds_toArray, List.set_cons_zero, List.set_cons_succ, i64_w, i32_w]
    rfl
  refine one_ (i := 8) (N := some 22) #[true, true, true, true, true, true, true, true, true, false, false, false, false, false] rfl rfl (by kernel_rfl) (by decide) (fun K hK => ?_)
  refine call_ (86) #[.pointer (some ⟨b, 0, none⟩), .slice (some ⟨g, 0, none⟩) 32 32] (by rfl) rfl (exec_write (.tmp 21) (.tmp 18) #[40] (by rfl) (by rfl) (by rfl)) ?_
  with_reducible refine (HW1.out _ _ _ H2.out (blk_drew HG.out) (by have := HLIM.out; omega)).mono ?_
  rintro e w3 ⟨rfl, v3, h3, t3⟩
  refine ⟨_, rfl, ?_⟩
  have H3 := Lib.hid (h3.below (below_drew (Below.refl _ _))); have T3 := Lib.hid ((T2.out.trans t3).trans (h3.tr_below (below_drew (Below.refl _ _)))); clear h3 t3 T2 H2
  have HG3 := Lib.hid ((T3.out.fr g HFg.out).trans HG.out)
  have z32 := HI.out _ HG3.out
  refine hK.out _ _ trivial (fun hHeld => ?_)
  clear hK K
  refine norm_ (a' := ?_) ?_ ?_
  rotate_left
  · show Act.put _ (some 22) _ = _
    simp only [Act.put, List.setIfInBounds_toArray, List.set_cons_zero, List.set_cons_succ, i64_w, i32_w]
    rfl
  refine pure_ (i := 9) (N := some 13) (v := ?_) (a' := ?_) #[true, true, true, true, true, true, true, true, true, true, false, false, false, false] rfl rfl (by kernel_rfl) (fun _ _ _ h => h) (Or.inl ⟨by rfl, ?_⟩) ?_ ?_
  rotate_left
  · intro w'
    go_simp
    with_reducible rfl
  rotate_left
  · simp only [Act.put, List.setIfInBounds_toArray, List.set_cons_zero, List.set_cons_succ, i64_w, i32_w]
    rfl
  refine pure_ (i := 10) (N := some 23) (v := ?_) (a' := ?_) #[true, true, true, true, true, true, true, true, true, true, true, false, false, false] rfl rfl (by kernel_rfl) (fun _ _ _ h => h) (Or.inl ⟨by rfl, ?_⟩) ?_ ?_
  rotate_left
  · intro w'
    go_simp
    with_reducible rfl
  rotate_left
  · simp only [Act.put, List.setIfInBounds_toArray, List.set_cons_zero, List.set_cons_succ, i64_w, i32_w]
    rfl
  refine pure_ (i := 11) (N := some 24) (v := ?_) (a' := ?_) #[true, true, true, true, true, true, true, true, true, true, true, true, false, false] rfl rfl (by kernel_rfl) (fun _ _ _ h => h) (Or.inl ⟨by rfl, ?_⟩) ?_ ?_
  rotate_left
  · intro w'
    go_simp
    with_reducible rfl
  rotate_left
  · simp only [Act.put, List.setIfInBounds_toArray, List.set_cons_zero, List.set_cons_succ, i64_w, i32_w]
    rfl
  refine pure_ (i := 12) (N := some 11) (v := ?_) (a' := ?_) #[true, true, true, true, true, true, true, true, true, true, true, true, true, false] rfl rfl (by kernel_rfl) (fun _ _ _ h => h) (Or.inl ⟨by rfl, ?_⟩) ?_ ?_
  rotate_left
  · intro w'
    go_simp
    with_reducible rfl
  rotate_left
  · simp only [Act.put, List.setIfInBounds_toArray, List.set_cons_zero, List.set_cons_succ, i64_w, i32_w]
    rfl
  refine pure_ (i := 13) (N := some 12) (v := ?_) (a' := ?_) #[true, true, true, true, true, true, true, true, true, true, true, true, true, true] rfl rfl (by kernel_rfl) (fun _ _ _ h => h) (Or.inl ⟨by rfl, ?_⟩) ?_ ?_
  rotate_left
  · intro w'
    go_simp
    with_reducible rfl
  rotate_left
  · simp only [Act.put, List.setIfInBounds_toArray, List.set_cons_zero, List.set_cons_succ, i64_w, i32_w]
    rfl
  refine done_ (by kernel_rfl) ?_
  go_wp2
  refine start_ (n := 8) (S := fun w' => w'.cell? ⟨g, 32, none⟩ = some (.int .u32 i)) (ds := []) #[false, false, false, false, false, false, false, false] (by kernel_rfl) rfl rfl (z32) (fun hHeld => ?_)
  refine pure_ (i := 1) (N := some 29) (v := ?_) (a' := ?_) #[false, true, false, false, false, false, false, false] rfl rfl (by kernel_rfl) (fun _ _ _ h => h) (Or.inl ⟨by rfl, ?_⟩) ?_ ?_
  rotate_left
  · intro w'
    go_simp
    with_reducible rfl
  rotate_left
  · simp only [Act.put, List.setIfInBounds_toArray, List.set_cons_zero, List.set_cons_succ, i64_w, i32_w]
    rfl
  refine pure_ (i := 2) (N := some 30) (v := ?_) (a' := ?_) #[false, true, true, false, false, false, false, false] rfl rfl (by kernel_rfl) (fun _ _ _ h => h) (Or.inl ⟨by rfl, ?_⟩) ?_ ?_
  rotate_left
  · intro w'
    go_simp
    with_reducible rfl
  rotate_left
  · simp only [Act.put, List.setIfInBounds_toArray, List.set_cons_zero, List.set_cons_succ, i64_w, i32_w]
    rfl
  refine pure_ (i := 3) (N := some 31) (v := ?_) (a' := ?_) #[false, true, true, true, false, false, false, false] rfl rfl (by kernel_rfl) (fun _ _ _ h => h) (Or.inl ⟨by rfl, ?_⟩) ?_ ?_
  rotate_left
  · intro w'
    go_simp
    with_reducible rfl
  rotate_left
  · simp only [Act.put, List.setIfInBounds_toArray, List.set_cons_zero, List.set_cons_succ, i64_w, i32_w]
    rfl
  refine pure_ (i := 4) (N := some 32) (v := ?_) (a' := ?_) #[false, true, true, true, true, false, false, false] rfl rfl (by kernel_rfl) (fun _ _ _ h => h) (Or.inl ⟨by rfl, ?_⟩) ?_ ?_
  rotate_left
  · intro w'
    go_simp
    with_reducible rfl
  rotate_left
  · simp only [Act.put, List.setIfInBounds_toArray, List.set_cons_zero, List.set_cons_succ, i64_w, i32_w]
    rfl
  refine pure_ (i := 5) (N := some 33) (v := ?_) (a' := ?_) #[false, true, true, true, true, true, false, false] rfl rfl (by kernel_rfl) (fun _ _ _ h => h) (Or.inl ⟨by rfl, ?_⟩) ?_ ?_
  rotate_left
  · intro w'
    go_simp
    with_reducible rfl
  rotate_left
  · simp only [Act.put, List.setIfInBounds_toArray, List.set_cons_zero, List.set_cons_succ, i64_w, i32_w]
    rfl
  refine take_ (i := 0) (N := some 28) (v := ?_) (a' := ?_) #[true, true, true, true, true, true, false, false] rfl rfl (by kernel_rfl) (fun _ _ _ h => h) (Or.inl ⟨by rfl, ?_⟩) hHeld ?_ ?_
  rotate_left
  · intro w' s0
    go_simp
    with_reducible rfl
  rotate_left
  · simp only [Act.put, List.setIfInBounds_toArray, List.set_cons_zero, List.set_cons_succ, i64_w, i32_w]
    rfl
  refine take_ (i := 6) (N := some 34) (v := ?_) (a' := ?_) #[true, true, true, true, true, true, true, false] rfl rfl (by kernel_rfl) (fun _ _ _ h => h) (Or.inl ⟨by rfl, ?_⟩) hHeld ?_ ?_
  rotate_left
  · intro w' s0
    go_simp
    with_reducible rfl
  rotate_left
  · simp only [Act.put, List.setIfInBounds_toArray, List.set_cons_zero, List.set_cons_succ, i64_w, i32_w]
    rfl
  refine one_ (i := 7) (N := some 35) #[true, true, true, true, true, true, true, true] rfl rfl (by kernel_rfl) (by decide) (fun K hK => ?_)
  obtain ⟨d0, d1, d2, d3, d4, d5, d6, d7, hs3⟩ := H3.out.sc
  refine goes_ Try.func54 (by kernel_rfl) rfl #[.agg #[], .slice (some ⟨s, 0, none⟩) 4 8, .int .u32 i] (by rfl) rfl rfl (by simp only [List.map_toArray, List.map_cons, List.map_nil]; rfl) ?_
  with_reducible refine (put32_calls s 4 8 i d0 d1 d2 d3 d4 d5 d6 d7 _ hs3 (by omega) H0.out H1.out).mono ?_
  rintro e w4 ⟨rfl, hp⟩
  refine ⟨_, rfl, ?_⟩
  obtain ⟨h4, t4⟩ := H3.out.put hp
  have H4 := Lib.hid (h4.below (below_drew (Below.refl _ _))); have T4 := Lib.hid (T3.out.trans (t4.trans (h4.tr_below (below_drew (Below.refl _ _))))); have HP4 := Lib.hid (blk_drew hp.blk)
  have HG4 := Lib.hid ((t4.fr g HFg.out).trans HG3.out); clear h4 t4 hp hs3 H3 T3
  refine hK.out _ _ ((HI.out _ HG4.out)) (fun hHeld => ?_)
  clear hK K
  refine norm_ (a' := ?_) ?_ ?_
  rotate_left
  · show Act.put _ (some 35) _ = _
    simp only [Act.put, List.setIfInBounds_toArray, List.set_cons_zero, List.set_cons_succ, i64_w, i32_w]
    rfl
  refine done_ (by kernel_rfl) ?_
  go_wp2
  refine start_ (n := 11) (S := fun w' => True) (ds := []) #[false, false, false, false, false, false, false, false, false, false, false] (by kernel_rfl) rfl rfl trivial (fun hHeld => ?_)
  refine pure_ (i := 0) (N := some 37) (v := ?_) (a' := ?_) #[true, false, false, false, false, false, false, false, false, false, false] rfl rfl (by kernel_rfl) (fun _ _ _ h => h) (Or.inl ⟨by rfl, ?_⟩) ?_ ?_
  rotate_left
  · intro w'
    go_simp
    with_reducible rfl
  rotate_left
  · simp only [Act.put, List.setIfInBounds_toArray, List.set_cons_zero, List.set_cons_succ, i64_w, i32_w]
    rfl
  refine pure_ (i := 1) (N := some 38) (v := ?_) (a' := ?_) #[true, true, false, false, false, false, false, false, false, false, false] rfl rfl (by kernel_rfl) (fun _ _ _ h => h) (Or.inl ⟨by rfl, ?_⟩) ?_ ?_
  rotate_left
  · intro w'
    go_simp
    with_reducible rfl
  rotate_left
  · simp only [Act.put, List.setIfInBounds_toArray, List.set_cons_zero, List.set_cons_succ, i64_w, i32_w]
    rfl
  refine pure_ (i := 2) (N := some 39) (v := ?_) (a' := ?_) #[true, true, true, false, false, false, false, false, false, false, false] rfl rfl (by kernel_rfl) (fun _ _ _ h => h) (Or.inl ⟨by rfl, ?_⟩) ?_ ?_
  rotate_left
  · intro w'
    go_simp
    with_reducible rfl
  rotate_left
  · simp only [Act.put, List.setIfInBounds_toArray, List.set_cons_zero, List.set_cons_succ, i64_w, i32_w]
    rfl
  refine pure_ (i := 3) (N := some 40) (v := ?_) (a' := ?_) #[true, true, true, true, false, false, false, false, false, false, false] rfl rfl (by kernel_rfl) (fun _ _ _ h => h) (Or.inl ⟨by rfl, ?_⟩) ?_ ?_
  rotate_left
  · intro w'
    go_simp
    with_reducible rfl
  rotate_left
  · simp only [Act.put, List.setIfInBounds_toArray, List.set_cons_zero, List.set_cons_succ, i64_w, i32_w]
    rfl
  refine pure_ (i := 4) (N := some 41) (v := ?_) (a' := ?_) #[true, true, true, true, true, false, false, false, false, false, false] rfl rfl (by kernel_rfl) (fun _ _ _ h => h) (Or.inl ⟨by rfl, ?_⟩) ?_ ?_
  rotate_left
  · intro w'
    refine (exec_nilW w' (b := b) (.tmp 40) (by rfl) (by rfl)).trans ?_
    with_reducible rfl
  rotate_left
  · simp only [Act.put, List.setIfInBounds_toArray, List.set_cons_zero, List.set_cons_succ, i64_w, i32_w]
    rfl
  refine pure_ (i := 5) (N := some 42) (v := ?_) (a' := ?_) #[true, true, true, true, true, true, false, false, false, false, false] rfl rfl (by kernel_rfl) (fun _ _ _ h => h) (Or.inl ⟨by rfl, ?_⟩) ?_ ?_
  rotate_left
  · intro w'
    go_simp
    with_reducible rfl
  rotate_left
  · simp only [Act.put, List.setIfInBounds_toArray, List.set_cons_zero, List.set_cons_succ, i64_w, i32_w]
    rfl
  refine one_ (i := 6) (N := some 43) #[true, true, true, true, true, true, true, false, false, false, false] rfl rfl (by kernel_rfl) (by decide) (fun K hK => ?_)
  refine call_ (86) #[.pointer (some ⟨b, 0, none⟩), .slice (some ⟨s, 0, none⟩) 4 8] (by rfl) rfl (exec_write (.tmp 42) (.tmp 39) #[40] (by rfl) (by rfl) (by rfl)) ?_
  with_reducible refine (write_sc H4.out HP4.out 4 8 (le 4 i) (le_len 4 i) (fun j hj => by have hj2 : j = 0 ∨ j = 1 ∨ j = 2 ∨ j = 3 := (by omega); rcases hj2 with rfl | rfl | rfl | rfl <;> simp [le]) (by omega) (by have := HLIM.out; have := HL.out; rw [List.length_append]; omega)).mono ?_
  rintro e w5 ⟨rfl, v5, h5, t5⟩
  refine ⟨_, rfl, ?_⟩
  have H5 := Lib.hid h5; have T5 := Lib.hid (T4.out.trans t5); clear h5 t5 H4 T4
  refine hK.out _ _ trivial (fun hHeld => ?_)
  clear hK K
  refine norm_ (a' := ?_) ?_ ?_
  rotate_left
  · show Act.put _ (some 43) _ = _
    simp only [Act.put, List.setIfInBounds_toArray, List.set_cons_zero, List.set_cons_succ, i64_w, i32_w]
    rfl
  refine pure_ (i := 7) (N := some 36) (v := ?_) (a' := ?_) #[true, true, true, true, true, true, true, true, false, false, false] rfl rfl (by kernel_rfl) (fun _ _ _ h => h) (Or.inl ⟨by rfl, ?_⟩) ?_ ?_
  rotate_left
  · intro w'
    go_simp
    with_reducible rfl
  rotate_left
  · simp only [Act.put, List.setIfInBounds_toArray, List.set_cons_zero, List.set_cons_succ, i64_w, i32_w]
    rfl
  refine pure_ (i := 8) (N := some 44) (v := ?_) (a' := ?_) #[true, true, true, true, true, true, true, true, true, false, false] rfl rfl (by kernel_rfl) (fun _ _ _ h => h) (Or.inl ⟨by rfl, ?_⟩) ?_ ?_
  rotate_left
  · intro w'
    go_simp
    with_reducible rfl
  rotate_left
  · simp only [Act.put, List.setIfInBounds_toArray, List.set_cons_zero, List.set_cons_succ, i64_w, i32_w]
    rfl
  refine pure_ (i := 9) (N := some 45) (v := ?_) (a' := ?_) #[true, true, true, true, true, true, true, true, true, true, false] rfl rfl (by kernel_rfl) (fun _ _ _ h => h) (Or.inl ⟨by rfl, ?_⟩) ?_ ?_
  rotate_left
  · intro w'
    go_simp
    with_reducible rfl
  rotate_left
  · simp only [Act.put, List.setIfInBounds_toArray, List.set_cons_zero, List.set_cons_succ, i64_w, i32_w]
    rfl
  refine pure_ (i := 10) (N := some 12) (v := ?_) (a' := ?_) #[true, true, true, true, true, true, true, true, true, true, true] rfl rfl (by kernel_rfl) (fun _ _ _ h => h) (Or.inl ⟨by rfl, ?_⟩) ?_ ?_
  rotate_left
  · intro w'
    go_simp
    with_reducible rfl
  rotate_left
  · simp only [Act.put, List.setIfInBounds_toArray, List.set_cons_zero, List.set_cons_succ, i64_w, i32_w]
    rfl
  refine done_ (by kernel_rfl) ?_
  go_wp2
  go_ret
  exact ⟨rfl, v5, by have := H5.out; rwa [List.append_assoc] at this, T5.out⟩

/-- An input lies in block g, and stands. -/
structure TiF (F : Nat → Prop) (w : World) (g : Nat) (y : TI) (cs : Array Value) (B1 : Option Addr) (d1 : Nat) (B2 : Option Addr) (d2 : Nat) : Prop where
  hF : F g
  blk : w.heap[g]? = some (.cells cs 70 (0, 0))
  cs : cs.toList = tic y B1 d1 B2 d2
  hl : y.h.length = 32
  s : Kd.F (Kd.int .u8) w F B1 y.s.length y.s
  w : Kd.F (Kd.slice 5 (Kd.int .u8)) w F B2 y.w.length y.w
  cap : y.s.length ≤ d1
theorem TiF.tr {F : Nat → Prop} {w w1 : World} {B g : Nat} {y : TI} {cs : Array Value} {B1 : Option Addr} {d1 : Nat} {B2 : Option Addr} {d2 : Nat} (h : TiF F w g y cs B1 d1 B2 d2) (t : Tr F B w w1) : TiF F w1 g y cs B1 d1 B2 d2 :=
  ⟨h.hF, (t.fr g h.hF).trans h.blk, h.cs, h.hl, F_tr h.s t, Kd.F_step h.w (fun k hk _ => t.fr k hk), h.cap⟩
theorem TiF.cell {F : Nat → Prop} {w : World} {g : Nat} {y : TI} {cs : Array Value} {B1 : Option Addr} {d1 : Nat} {B2 : Option Addr} {d2 : Nat} (h : TiF F w g y cs B1 d1 B2 d2) (j : Nat) (v : Value) (hj : (tic y B1 d1 B2 d2)[j]? = some v) : w.cell? ⟨g, j, none⟩ = some v := by
  rw [blk_cell h.blk j, ← Array.getElem?_toList, h.cs]; exact hj
/-- An input as bytes, but for its witness. -/
def inB (y : TI) : List Int := opB y.h y.i ++ vb y.s ++ le 4 y.q
theorem opB_len (h : List Int) (i : Int) (hl : h.length = 32) : (opB h i).length = 36 := by rw [opB, List.length_append, hl, le_len]
theorem vb_len (d : List Int) : (vb d).length ≤ 9 + d.length := by rw [vb, List.length_append]; have := vi_len d.length; omega
set_option maxHeartbeats 8000000 in
set_option maxRecDepth 100000 in
theorem in_calls {F : Nat → Prop} {B b s : Nat} {v : Value} {l : List Int} {w : World} (h : St F B b s v l w) (p q : Int) (g : Nat) (y : TI) {cs : Array Value} {B1 : Option Addr} {d1 : Nat} {B2 : Option Addr} {d2 : Nat} (hy : TiF F w g y cs B1 d1 B2 d2) (hi : 0 ≤ y.i ∧ y.i < 4294967296) (hq : 0 ≤ y.q ∧ y.q < 4294967296) (hlim : l.length + 64 + y.s.length ≤ 6000000) :
    Calls Try.prog 56 #[Wr b, .int .u32 p, .int .i32 q, .pointer (some ⟨g, 0, none⟩), .slice (some ⟨s, 0, none⟩) 8 8] w fun e w' => e = .returned .nilIface ∧ ∃ v', St F B b s v' (l ++ inB y) w' ∧ Tr F B w w' := by
  have H := Lib.hid h
  have HY := Lib.hid hy
  have HI := Lib.hid hi
  have HQ := Lib.hid hq
  have HLIM := Lib.hid hlim
  have hcs : ∀ (j : Nat) (v : Value), (opc y.h y.i)[j]? = some v → cs[j]? = some v := fun j v hj => by
    rw [← Array.getElem?_toList, hy.cs, tic, List.getElem?_append_left ((List.getElem?_eq_some_iff.1 hj).1)]; exact hj
  have HCS := Lib.hid hcs
  have h33 : ∀ W, Tr F B w W → W.cell? ⟨g, 33, none⟩ = some (.slice B1 y.s.length d1) := fun W hW => (hy.tr hW).cell 33 _ (tic_33 _ _ _ _ _ hy.hl)
  have h35 : ∀ W, Tr F B w W → W.cell? ⟨g, 35, none⟩ = some (.int .u32 y.q) := fun W hW => (hy.tr hW).cell 35 _ (tic_35 _ _ _ _ _ hy.hl)
  have H33 := Lib.hid h33
  have H35 := Lib.hid h35
  clear h hy hi hq hlim hcs h33 h35
  go_enter Try.func56, Try.ntmps56
  go_wp2_with (first
    | (go_at_call 61; go_must (refine (op_calls H.out p q g _ cs y.h y.i HY.out.blk HY.out.hF HY.out.hl HCS.out HI.out.1 HI.out.2 (by have := HLIM.out; omega)).mono ?_); rintro e w1 ⟨rfl, v1, h1, t1⟩; have z33 := H33.out _ t1; have H1 := Lib.hid h1; have T1 := Lib.hid t1; clear h1 t1)
    | (go_at_call 62; go_must (refine (vb_calls H1.out p B1 d1 y.s (HY.out.tr T1.out).s HY.out.cap (by have := HLIM.out; have := opB_len y.h y.i HY.out.hl; rw [List.length_append]; omega)).mono ?_); rintro e w2 ⟨rfl, v2, h2, t2⟩; have H2 := Lib.hid (h2.below (below_drew (Below.refl _ _))); have T2 := Lib.hid ((T1.out.trans t2).trans (h2.tr_below (below_drew (Below.refl _ _)))); clear h2 t2 H1 T1))
  refine start_ (n := 8) (S := fun w' => w'.cell? ⟨g, 35, none⟩ = some (.int .u32 y.q)) (ds := []) #[false, false, false, false, false, false, false, false] (by kernel_rfl) rfl rfl ((H35.out _ T2.out)) (fun hHeld => ?_)
  refine pure_ (i := 1) (N := some 35) (v := ?_) (a' := ?_) #[false, true, false, false, false, false, false, false] rfl rfl (by kernel_rfl) (fun _ _ _ h => h) (Or.inl ⟨by rfl, ?_⟩) ?_ ?_
  rotate_left
  · intro w'
    go_simp
    with_reducible rfl
  rotate_left
  · simp only [Act.put, List.setIfInBounds_toArray, List.set_cons_zero, List.set_cons_succ, i64_w, i32_w]
    rfl
  refine pure_ (i := 2) (N := some 36) (v := ?_) (a' := ?_) #[false, true, true, false, false, false, false, false] rfl rfl (by kernel_rfl) (fun _ _ _ h => h) (Or.inl ⟨by rfl, ?_⟩) ?_ ?_
  rotate_left
  · intro w'
    go_simp
    with_reducible rfl
  rotate_left
  · simp only [Act.put, List.setIfInBounds_toArray, List.set_cons_zero, List.set_cons_succ, i64_w, i32_w]
    rfl
  refine pure_ (i := 3) (N := some 37) (v := ?_) (a' := ?_) #[false, true, true, true, false, false, false, false] rfl rfl (by kernel_rfl) (fun _ _ _ h => h) (Or.inl ⟨by rfl, ?_⟩) ?_ ?_
  rotate_left
  · intro w'
    go_simp
    with_reducible rfl
  rotate_left
  · simp only [Act.put, List.setIfInBounds_toArray, List.set_cons_zero, List.set_cons_succ, i64_w, i32_w]
    rfl
  refine pure_ (i := 4) (N := some 38) (v := ?_) (a' := ?_) #[false, true, true, true, true, false, false, false] rfl rfl (by kernel_rfl) (fun _ _ _ h => h) (Or.inl ⟨by rfl, ?_⟩) ?_ ?_
  rotate_left
  · intro w'
    go_simp
    with_reducible rfl
  rotate_left
  · simp only [Act.put, List.setIfInBounds_toArray, List.set_cons_zero, List.set_cons_succ, i64_w, i32_w]
    rfl
  refine pure_ (i := 5) (N := some 39) (v := ?_) (a' := ?_) #[false, true, true, true, true, true, false, false] rfl rfl (by kernel_rfl) (fun _ _ _ h => h) (Or.inl ⟨by rfl, ?_⟩) ?_ ?_
  rotate_left
  · intro w'
    go_simp
    with_reducible rfl
  rotate_left
  · simp only [Act.put, List.setIfInBounds_toArray, List.set_cons_zero, List.set_cons_succ, i64_w, i32_w]
    rfl
  refine take_ (i := 0) (N := some 34) (v := ?_) (a' := ?_) #[true, true, true, true, true, true, false, false] rfl rfl (by kernel_rfl) (fun _ _ _ h => h) (Or.inl ⟨by rfl, ?_⟩) hHeld ?_ ?_
  rotate_left
  · intro w' s0
    go_simp
    with_reducible rfl
  rotate_left
  · simp only [Act.put, List.setIfInBounds_toArray, List.set_cons_zero, List.set_cons_succ, i64_w, i32_w]
    rfl
  refine take_ (i := 6) (N := some 40) (v := ?_) (a' := ?_) #[true, true, true, true, true, true, true, false] rfl rfl (by kernel_rfl) (fun _ _ _ h => h) (Or.inl ⟨by rfl, ?_⟩) hHeld ?_ ?_
  rotate_left
  · intro w' s0
    go_simp
    with_reducible rfl
  rotate_left
  · simp only [Act.put, List.setIfInBounds_toArray, List.set_cons_zero, List.set_cons_succ, i64_w, i32_w]
    rfl
  refine one_ (i := 7) (N := some 41) #[true, true, true, true, true, true, true, true] rfl rfl (by kernel_rfl) (by decide) (fun K hK => ?_)
  obtain ⟨d0, e1, e2, d3, d4, d5, d6, d7, hs3⟩ := H2.out.sc
  refine goes_ Try.func54 (by kernel_rfl) rfl #[.agg #[], .slice (some ⟨s, 0, none⟩) 4 8, .int .u32 y.q] (by rfl) rfl rfl (by simp only [List.map_toArray, List.map_cons, List.map_nil]; rfl) ?_
  with_reducible refine (put32_calls s 4 8 y.q d0 e1 e2 d3 d4 d5 d6 d7 _ hs3 (by omega) HQ.out.1 HQ.out.2).mono ?_
  rintro e w4 ⟨rfl, hp⟩
  refine ⟨_, rfl, ?_⟩
  obtain ⟨h4, t4⟩ := H2.out.put hp
  have H4 := Lib.hid (h4.below (below_drew (Below.refl _ _))); have T40 := Lib.hid (T2.out.trans t4); have T4 := Lib.hid (T2.out.trans (t4.trans (h4.tr_below (below_drew (Below.refl _ _))))); have HP4 := Lib.hid (blk_drew hp.blk)
  clear h4 t4 hp hs3 H2 T2
  refine hK.out _ _ ((H35.out _ T40.out)) (fun hHeld => ?_)
  clear hK K
  refine norm_ (a' := ?_) ?_ ?_
  rotate_left
  · show Act.put _ (some 41) _ = _
    simp only [Act.put, List.setIfInBounds_toArray, List.set_cons_zero, List.set_cons_succ, i64_w, i32_w]
    rfl
  refine done_ (by kernel_rfl) ?_
  go_wp2
  refine start_ (n := 11) (S := fun w' => True) (ds := []) #[false, false, false, false, false, false, false, false, false, false, false] (by kernel_rfl) rfl rfl trivial (fun hHeld => ?_)
  refine pure_ (i := 0) (N := some 43) (v := ?_) (a' := ?_) #[true, false, false, false, false, false, false, false, false, false, false] rfl rfl (by kernel_rfl) (fun _ _ _ h => h) (Or.inl ⟨by rfl, ?_⟩) ?_ ?_
  rotate_left
  · intro w'
    go_simp
    with_reducible rfl
  rotate_left
  · simp only [Act.put, List.setIfInBounds_toArray, List.set_cons_zero, List.set_cons_succ, i64_w, i32_w]
    rfl
  refine pure_ (i := 1) (N := some 44) (v := ?_) (a' := ?_) #[true, true, false, false, false, false, false, false, false, false, false] rfl rfl (by kernel_rfl) (fun _ _ _ h => h) (Or.inl ⟨by rfl, ?_⟩) ?_ ?_
  rotate_left
  · intro w'
    go_simp
    with_reducible rfl
  rotate_left
  · simp only [Act.put, List.setIfInBounds_toArray, List.set_cons_zero, List.set_cons_succ, i64_w, i32_w]
    rfl
  refine pure_ (i := 2) (N := some 45) (v := ?_) (a' := ?_) #[true, true, true, false, false, false, false, false, false, false, false] rfl rfl (by kernel_rfl) (fun _ _ _ h => h) (Or.inl ⟨by rfl, ?_⟩) ?_ ?_
  rotate_left
  · intro w'
    go_simp
    with_reducible rfl
  rotate_left
  · simp only [Act.put, List.setIfInBounds_toArray, List.set_cons_zero, List.set_cons_succ, i64_w, i32_w]
    rfl
  refine pure_ (i := 3) (N := some 46) (v := ?_) (a' := ?_) #[true, true, true, true, false, false, false, false, false, false, false] rfl rfl (by kernel_rfl) (fun _ _ _ h => h) (Or.inl ⟨by rfl, ?_⟩) ?_ ?_
  rotate_left
  · intro w'
    go_simp
    with_reducible rfl
  rotate_left
  · simp only [Act.put, List.setIfInBounds_toArray, List.set_cons_zero, List.set_cons_succ, i64_w, i32_w]
    rfl
  refine pure_ (i := 4) (N := some 47) (v := ?_) (a' := ?_) #[true, true, true, true, true, false, false, false, false, false, false] rfl rfl (by kernel_rfl) (fun _ _ _ h => h) (Or.inl ⟨by rfl, ?_⟩) ?_ ?_
  rotate_left
  · intro w'
    refine (exec_nilW w' (b := b) (.tmp 46) (by rfl) (by rfl)).trans ?_
    with_reducible rfl
  rotate_left
  · simp only [Act.put, List.setIfInBounds_toArray, List.set_cons_zero, List.set_cons_succ, i64_w, i32_w]
    rfl
  refine pure_ (i := 5) (N := some 48) (v := ?_) (a' := ?_) #[true, true, true, true, true, true, false, false, false, false, false] rfl rfl (by kernel_rfl) (fun _ _ _ h => h) (Or.inl ⟨by rfl, ?_⟩) ?_ ?_
  rotate_left
  · intro w'
    go_simp
    with_reducible rfl
  rotate_left
  · simp only [Act.put, List.setIfInBounds_toArray, List.set_cons_zero, List.set_cons_succ, i64_w, i32_w]
    rfl
  refine one_ (i := 6) (N := some 49) #[true, true, true, true, true, true, true, false, false, false, false] rfl rfl (by kernel_rfl) (by decide) (fun K hK => ?_)
  refine call_ (86) #[.pointer (some ⟨b, 0, none⟩), .slice (some ⟨s, 0, none⟩) 4 8] (by rfl) rfl (exec_write (.tmp 48) (.tmp 45) #[40] (by rfl) (by rfl) (by rfl)) ?_
  with_reducible refine (write_sc H4.out HP4.out 4 8 (le 4 y.q) (le_len 4 y.q) (fun j hj => by have hj2 : j = 0 ∨ j = 1 ∨ j = 2 ∨ j = 3 := (by omega); rcases hj2 with rfl | rfl | rfl | rfl <;> simp [le]) (by omega) (by have := HLIM.out; have := opB_len y.h y.i HY.out.hl; have := vb_len y.s; rw [List.length_append, List.length_append]; omega)).mono ?_
  rintro e w5 ⟨rfl, v5, h5, t5⟩
  refine ⟨_, rfl, ?_⟩
  have H5 := Lib.hid h5; have T5 := Lib.hid (T4.out.trans t5); clear h5 t5 H4 T4
  refine hK.out _ _ trivial (fun hHeld => ?_)
  clear hK K
  refine norm_ (a' := ?_) ?_ ?_
  rotate_left
  · show Act.put _ (some 49) _ = _
    simp only [Act.put, List.setIfInBounds_toArray, List.set_cons_zero, List.set_cons_succ, i64_w, i32_w]
    rfl
  refine pure_ (i := 7) (N := some 42) (v := ?_) (a' := ?_) #[true, true, true, true, true, true, true, true, false, false, false] rfl rfl (by kernel_rfl) (fun _ _ _ h => h) (Or.inl ⟨by rfl, ?_⟩) ?_ ?_
  rotate_left
  · intro w'
    go_simp
    with_reducible rfl
  rotate_left
  · simp only [Act.put, List.setIfInBounds_toArray, List.set_cons_zero, List.set_cons_succ, i64_w, i32_w]
    rfl
  refine pure_ (i := 8) (N := some 50) (v := ?_) (a' := ?_) #[true, true, true, true, true, true, true, true, true, false, false] rfl rfl (by kernel_rfl) (fun _ _ _ h => h) (Or.inl ⟨by rfl, ?_⟩) ?_ ?_
  rotate_left
  · intro w'
    go_simp
    with_reducible rfl
  rotate_left
  · simp only [Act.put, List.setIfInBounds_toArray, List.set_cons_zero, List.set_cons_succ, i64_w, i32_w]
    rfl
  refine pure_ (i := 9) (N := some 51) (v := ?_) (a' := ?_) #[true, true, true, true, true, true, true, true, true, true, false] rfl rfl (by kernel_rfl) (fun _ _ _ h => h) (Or.inl ⟨by rfl, ?_⟩) ?_ ?_
  rotate_left
  · intro w'
    go_simp
    with_reducible rfl
  rotate_left
  · simp only [Act.put, List.setIfInBounds_toArray, List.set_cons_zero, List.set_cons_succ, i64_w, i32_w]
    rfl
  refine pure_ (i := 10) (N := some 11) (v := ?_) (a' := ?_) #[true, true, true, true, true, true, true, true, true, true, true] rfl rfl (by kernel_rfl) (fun _ _ _ h => h) (Or.inl ⟨by rfl, ?_⟩) ?_ ?_
  rotate_left
  · intro w'
    go_simp
    with_reducible rfl
  rotate_left
  · simp only [Act.put, List.setIfInBounds_toArray, List.set_cons_zero, List.set_cons_succ, i64_w, i32_w]
    rfl
  refine done_ (by kernel_rfl) ?_
  go_wp2
  go_ret
  exact ⟨rfl, v5, by have := H5.out; rw [List.append_assoc, List.append_assoc] at this; rw [inB, List.append_assoc]; exact this, T5.out⟩

/-- An output lies in block g, and stands. -/
structure ToF (F : Nat → Prop) (w : World) (g : Nat) (y : PFnTxIDs.S45) (B1 : Option Addr) (d1 : Nat) : Prop where
  hF : F g
  blk : w.heap[g]? = some (.cells #[.int .i64 y.f0, .slice B1 y.f1.length d1] 73 (0, 0))
  s : Kd.F (Kd.int .u8) w F B1 y.f1.length y.f1
  cap : y.f1.length ≤ d1
theorem ToF.tr {F : Nat → Prop} {w w1 : World} {B g : Nat} {y : PFnTxIDs.S45} {B1 : Option Addr} {d1 : Nat} (h : ToF F w g y B1 d1) (t : Tr F B w w1) : ToF F w1 g y B1 d1 := ⟨h.hF, (t.fr g h.hF).trans h.blk, F_tr h.s t, h.cap⟩
/-- An output as bytes. -/
def outB (y : PFnTxIDs.S45) : List Int := le 8 (y.f0 % 18446744073709551616) ++ vb y.f1
set_option maxHeartbeats 8000000 in
set_option maxRecDepth 100000 in
theorem out_calls {F : Nat → Prop} {B b s : Nat} {v : Value} {l : List Int} {w : World} (h : St F B b s v l w) (p q : Int) (g : Nat) (y : PFnTxIDs.S45) {B1 : Option Addr} {d1 : Nat} (hy : ToF F w g y B1 d1) (hlim : l.length + 32 + y.f1.length ≤ 6000000) :
    Calls Try.prog 57 #[Wr b, .int .u32 p, .int .i32 q, .pointer (some ⟨g, 0, none⟩), .slice (some ⟨s, 0, none⟩) 8 8] w fun e w' => e = .returned .nilIface ∧ ∃ v', St F B b s v' (l ++ outB y) w' ∧ Tr F B w w' := by
  have H2 := Lib.hid (h.below (below_drew (Below.refl _ _)))
  have T2 := Lib.hid (h.tr_below (below_drew (Below.refl _ _)))
  have HY := Lib.hid hy
  have HLIM := Lib.hid hlim
  have h00 : ∀ W, Tr F B w W → W.cell? ⟨g, 0, none⟩ = some (.int .i64 y.f0) := fun W hW => (blk_cell (hy.tr hW).blk 0).trans rfl
  have h01 : ∀ W, Tr F B w W → W.cell? ⟨g, 1, none⟩ = some (.slice B1 y.f1.length d1) := fun W hW => (blk_cell (hy.tr hW).blk 1).trans rfl
  obtain ⟨x, hx⟩ : ∃ x, y.f0 % 18446744073709551616 = x := ⟨_, rfl⟩
  have hw : IntKind.u64.wrap y.f0 = x := by rw [← hx]; unfold IntKind.wrap; simp [IntKind.bits, IntKind.signed]
  have HX := Lib.hid hx
  have HX0 := Lib.hid (show 0 ≤ x by omega)
  have HX1 := Lib.hid (show x < 18446744073709551616 by omega)
  have H00 := Lib.hid h00
  have H01 := Lib.hid h01
  clear h hy hlim h00 h01 hx
  go_enter Try.func57, Try.ntmps57
  go_wp2
  refine start_ (n := 8) (S := fun w' => w'.cell? ⟨g, 0, none⟩ = some (.int .i64 y.f0)) (ds := []) #[false, false, false, false, false, false, false, false] (by kernel_rfl) rfl rfl ((H00.out _ T2.out)) (fun hHeld => ?_)
  refine pure_ (i := 1) (N := some 14) (v := ?_) (a' := ?_) #[false, true, false, false, false, false, false, false] rfl rfl (by kernel_rfl) (fun _ _ _ h => h) (Or.inl ⟨by rfl, ?_⟩) ?_ ?_
  rotate_left
  · intro w'
    go_simp
    with_reducible rfl
  rotate_left
  · simp only [Act.put, List.setIfInBounds_toArray, List.set_cons_zero, List.set_cons_succ, i64_w, i32_w]
    rfl
  refine pure_ (i := 2) (N := some 15) (v := ?_) (a' := ?_) #[false, true, true, false, false, false, false, false] rfl rfl (by kernel_rfl) (fun _ _ _ h => h) (Or.inl ⟨by rfl, ?_⟩) ?_ ?_
  rotate_left
  · intro w'
    go_simp
    with_reducible rfl
  rotate_left
  · simp only [Act.put, List.setIfInBounds_toArray, List.set_cons_zero, List.set_cons_succ, i64_w, i32_w]
    rfl
  refine pure_ (i := 3) (N := some 16) (v := ?_) (a' := ?_) #[false, true, true, true, false, false, false, false] rfl rfl (by kernel_rfl) (fun _ _ _ h => h) (Or.inl ⟨by rfl, ?_⟩) ?_ ?_
  rotate_left
  · intro w'
    go_simp
    with_reducible rfl
  rotate_left
  · simp only [Act.put, List.setIfInBounds_toArray, List.set_cons_zero, List.set_cons_succ, i64_w, i32_w]
    rfl
  refine pure_ (i := 4) (N := some 17) (v := ?_) (a' := ?_) #[false, true, true, true, true, false, false, false] rfl rfl (by kernel_rfl) (fun _ _ _ h => h) (Or.inl ⟨by rfl, ?_⟩) ?_ ?_
  rotate_left
  · intro w'
    go_simp
    with_reducible rfl
  rotate_left
  · simp only [Act.put, List.setIfInBounds_toArray, List.set_cons_zero, List.set_cons_succ, i64_w, i32_w]
    rfl
  refine take_ (i := 0) (N := some 13) (v := ?_) (a' := ?_) #[true, true, true, true, true, false, false, false] rfl rfl (by kernel_rfl) (fun _ _ _ h => h) (Or.inl ⟨by rfl, ?_⟩) hHeld ?_ ?_
  rotate_left
  · intro w' s0
    go_simp
    with_reducible rfl
  rotate_left
  · simp only [Act.put, List.setIfInBounds_toArray, List.set_cons_zero, List.set_cons_succ, i64_w, i32_w]
    rfl
  refine take_ (i := 5) (N := some 18) (v := ?_) (a' := ?_) #[true, true, true, true, true, true, false, false] rfl rfl (by kernel_rfl) (fun _ _ _ h => h) (Or.inl ⟨by rfl, ?_⟩) hHeld ?_ ?_
  rotate_left
  · intro w' s0
    go_simp
    with_reducible rfl
  rotate_left
  · simp only [Act.put, List.setIfInBounds_toArray, List.set_cons_zero, List.set_cons_succ, i64_w, i32_w]
    rfl
  refine pure_ (i := 6) (N := some 19) (v := ?_) (a' := ?_) #[true, true, true, true, true, true, true, false] rfl rfl (by kernel_rfl) (fun _ _ _ h => h) (Or.inl ⟨by rfl, ?_⟩) ?_ ?_
  rotate_left
  · intro w'
    go_simp
    with_reducible rfl
  rotate_left
  · simp only [Act.put, List.setIfInBounds_toArray, List.set_cons_zero, List.set_cons_succ, i64_w, i32_w]
    rfl
  refine one_ (i := 7) (N := some 20) #[true, true, true, true, true, true, true, true] rfl rfl (by kernel_rfl) (by decide) (fun K hK => ?_)
  obtain ⟨d0, e1, e2, d3, d4, d5, d6, d7, hs3⟩ := H2.out.sc
  refine goes_ Try.func60 (by kernel_rfl) rfl #[.agg #[], .slice (some ⟨s, 0, none⟩) 8 8, .int .u64 x] (by rfl) rfl rfl (by simp only [List.map_toArray, List.map_cons, List.map_nil]; rfl) ?_
  with_reducible refine (put64_calls s 8 8 x d0 e1 e2 d3 d4 d5 d6 d7 _ hs3 (by omega) HX0.out HX1.out).mono ?_
  rintro e w4 ⟨rfl, hp⟩
  refine ⟨_, rfl, ?_⟩
  obtain ⟨h4, t4⟩ := H2.out.put hp
  have H4 := Lib.hid h4; have T4 := Lib.hid (T2.out.trans t4); have HP4 := Lib.hid hp.blk
  clear h4 t4 hp hs3 H2 T2
  refine hK.out _ _ ((H00.out _ T4.out)) (fun hHeld => ?_)
  clear hK K
  refine norm_ (a' := ?_) ?_ ?_
  rotate_left
  · show Act.put _ (some 20) _ = _
    simp only [Act.put, List.setIfInBounds_toArray, List.set_cons_zero, List.set_cons_succ, i64_w, i32_w]
    rfl
  refine done_ (by kernel_rfl) ?_
  go_wp2_with (first
    | ((with_reducible refine gate_invoke (r := .tmp 22) (n := "Write") rfl ?_); go_must (refine writes_L (b := b) (v := .slice (some ⟨s, 0, none⟩) 8 8) rfl (.tmp 22) (.tmp 23) #[40] rfl rfl rfl ?_); go_must (refine (write_sc H4.out HP4.out 8 8 (le 8 x) (le_len 8 x) (fun j hj => by have hj2 : j = 0 ∨ j = 1 ∨ j = 2 ∨ j = 3 ∨ j = 4 ∨ j = 5 ∨ j = 6 ∨ j = 7 := (by omega); rcases hj2 with rfl | rfl | rfl | rfl | rfl | rfl | rfl | rfl <;> simp [le, nums]) (by omega) (by have := HLIM.out; omega)).mono ?_); rintro e w5 ⟨rfl, v5, h5, t5⟩; refine ⟨_, rfl, ?_⟩; have H5 := Lib.hid h5; have T5 := Lib.hid (T4.out.trans t5); have z01 := H01.out _ T5.out; clear h5 t5 H4 T4)
    | (go_at_call 62; go_must (refine (vb_calls H5.out p B1 d1 y.f1 (HY.out.tr T5.out).s HY.out.cap (by have := HLIM.out; rw [List.length_append, le_len]; omega)).mono ?_); rintro e w6 ⟨rfl, v6, h6, t6⟩; have H6 := Lib.hid h6; have T6 := Lib.hid (T5.out.trans t6); clear h6 t6 H5 T5))
  go_ret
  exact ⟨rfl, v6, by have := H6.out; rw [List.append_assoc] at this; rw [outB, HX.out]; exact this, T6.out⟩
end Go.Proofs.Ytkmlpoggbfbnaaa.Wire
