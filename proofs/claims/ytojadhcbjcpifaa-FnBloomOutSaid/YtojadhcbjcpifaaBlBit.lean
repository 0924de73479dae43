/-
  spec.bit: which bit of a filter.
-/
import Derived.Test.YtojadhcbjcpifaaBlSpec
namespace Go.Proofs.Ytojadhcbjcpifaa.Bl
open Go.RowKit Go.Proofs.YtojadhcbjcpifaaW.PrintWords Go.Proofs.YtojadhcbjcpifaaW.PrintLast Go.Proofs.Ytojadhcbjcpifaa.Reg Go.Proofs.Ytojadhcbjcpifaa.By Go.Proofs.Ytojadhcbjcpifaa.Tx Go.Proofs.Ytojadhcbjcpifaa.Mur Go.Proofs.Ytojadhcbjcpifaa.Tok
set_option linter.unusedSimpArgs false
set_option linter.unusedVariables false

/-- The seed of hash i, and the bit that it names among 8n. -/
def seedOf (i t : Int) : Int := (i * 4221880213 + t) % 4294967296
def bitOf (n : Nat) (i t : Int) (b : List Int) : Int := Int.tmod (murm (seedOf i t) b) (8 * (n : Int))
theorem murm_range (s : Int) (b : List Int) : 0 ≤ murm s b ∧ murm s b < 4294967296 := bits_range .xor _ _
theorem bitOf_range (n : Nat) (hn : 1 ≤ n) (i t : Int) (b : List Int) : 0 ≤ bitOf n i t b ∧ bitOf n i t b < 8 * (n : Int) := by
  have h := murm_range (seedOf i t) b
  rw [bitOf, Int.tmod_eq_emod_of_nonneg h.1]
  exact ⟨Int.emod_nonneg _ (by omega), Int.emod_lt_of_pos _ (by omega)⟩
set_option maxHeartbeats 8000000 in
set_option maxRecDepth 100000 in
theorem bit_calls (A : Option Addr) (n c : Nat) (k t i : Int) (B : Option Addr) (cb : Nat) (b : List Int) (w : World) (hC : Kd.C (Kd.int .u8) w B b.length b) (hb : Bytes b) (hl : b.length ≤ 100000) (hn : 1 ≤ n ∧ n ≤ 2000) (hi : 0 ≤ i ∧ i < 4294967296) (ht : 0 ≤ t ∧ t < 4294967296) :
    Calls Try.prog 23 #[.agg #[.slice A n c, .int .u32 k, .int .u32 t], .int .u32 i, .slice B b.length cb] w fun e w' => e = .returned (.int .u32 (bitOf n i t b)) ∧ Below w.heap.size w w' := by
  have hc : ∀ W, Below (w.alloc (.cells #[.slice A n c, .int .u32 k, .int .u32 t] 27)).heap.size (w.alloc (.cells #[.slice A n c, .int .u32 k, .int .u32 t] 27)) W → W.cell? ⟨w.heap.size, 0, none⟩ = some (.slice A n c) ∧ W.cell? ⟨w.heap.size, 2, none⟩ = some (.int .u32 t) := fun W hW =>
    ⟨(blk_cell (blk_below (heap_alloc_new w _) hW) 0).trans rfl, (blk_cell (blk_below (heap_alloc_new w _) hW) 2).trans rfl⟩
  have HC := Lib.hid hc
  obtain ⟨s, hs⟩ : ∃ s, seedOf i t = s := ⟨_, rfl⟩
  have hs0 : 0 ≤ s ∧ s < 4294967296 := by rw [← hs]; unfold seedOf; omega
  have HM := Lib.hid (show ∀ W, Below w.heap.size w W → Calls Try.prog 6 #[.int .u32 s, .slice B b.length cb] W fun e w' => e = .returned (.int .u32 (murm s b)) ∧ Below W.heap.size W w' from fun W hW => (spec_calls B cb b s W (Kd.C_below hC hW) hb hl hs0).mono fun _ _ ⟨h1, h2⟩ => ⟨h1, by obtain ⟨q, rfl⟩ := h2.out; exact pw_below_drewN (Below.refl _ _) q⟩)
  have W0 := Lib.hid (show Below w.heap.size w (w.alloc (.cells #[.slice A n c, .int .u32 k, .int .u32 t] 27)) from below_alloc (Below.refl _ _) _)
  have HB := Lib.hid (below_drew (Below.refl (w.alloc (.cells #[.slice A n c, .int .u32 k, .int .u32 t] 27)).heap.size (w.alloc (.cells #[.slice A n c, .int .u32 k, .int .u32 t] 27))))
  obtain ⟨m, hm⟩ : ∃ m, murm s b = m := ⟨_, rfl⟩
  rw [bitOf, hs, hm]
  rw [hm] at HM
  have hw1 : IntKind.u32.wrap (IntKind.u32.wrap (i * 4221880213) + t) = s := by rw [← hs]; unfold seedOf IntKind.wrap; simp [IntKind.bits, IntKind.signed]
  obtain ⟨q, hq⟩ : ∃ q : Int, 8 * (n : Int) = q := ⟨_, rfl⟩
  rw [hq]
  have HQ0 := Lib.hid (show 8 ≤ q ∧ q ≤ 16000 by omega)
  have hw2 : wrap64 (8 * (n : Int)) = q := by rw [← hq]; exact By.wrap64_id (by omega) (by omega)
  have hw3 : IntKind.u32.wrap q = q := by have := HQ0.out; clear hw1 hw2; unfold IntKind.wrap; simp [IntKind.bits, IntKind.signed]; omega
  have hz : (q = 0) = False := eq_false (by have := HQ0.out; clear hw1 hw2 hw3; omega)
  have hz2 : (q == 0) = false := by rw [beq_eq_false_iff_ne]; have := HQ0.out; clear hw1 hw2 hw3; omega
  have HW1 := Lib.hid hw1
  have HW2 := Lib.hid hw2
  have HW3 := Lib.hid hw3
  clear hc hC hb hl hn hi ht hs hs0 hm hq
  go_enter Try.func23, Try.ntmps23
  go_wp2
  refine start_ (n := 14) (S := fun w' => w'.cell? ⟨w.heap.size, 0, none⟩ = some (.slice A n c) ∧ w'.cell? ⟨w.heap.size, 2, none⟩ = some (.int .u32 t)) (ds := []) #[false, false, false, false, false, false, false, false, false, false, false, false, false, false] (by kernel_rfl) rfl rfl ⟨(HC.out _ HB.out).1, (HC.out _ HB.out).2⟩ (fun hHeld => ?_)
  refine pure_ (i := 0) (N := some 7) (v := ?_) (a' := ?_) #[true, false, false, false, false, false, false, false, false, false, false, false, false, false] rfl rfl (by kernel_rfl) (fun _ _ _ h => h) (Or.inl ⟨by rfl, ?_⟩) ?_ ?_
  rotate_left
  · intro w'
    go_simp
    with_reducible rfl
  rotate_left
  · simp only [Act.put, List.setIfInBounds_toArray, List.set_cons_zero, List.set_cons_succ, i64_w, i32_w]
    rfl
  refine pure_ (i := 1) (N := some 8) (v := ?_) (a' := ?_) #[true, true, false, false, false, false, false, false, false, false, false, false, false, false] rfl rfl (by kernel_rfl) (fun _ _ _ h => h) (Or.inl ⟨by rfl, ?_⟩) ?_ ?_
  rotate_left
  · intro w'
    go_simp
    with_reducible rfl
  rotate_left
  · simp only [Act.put, List.setIfInBounds_toArray, List.set_cons_zero, List.set_cons_succ, i64_w, i32_w]
    rfl
  refine pure_ (i := 2) (N := some 9) (v := ?_) (a' := ?_) #[true, true, true, false, false, false, false, false, false, false, false, false, false, false] rfl rfl (by kernel_rfl) (fun _ _ _ h => h) (Or.inl ⟨by rfl, ?_⟩) ?_ ?_
  rotate_left
  · intro w'
    go_simp
    with_reducible rfl
  rotate_left
  · simp only [Act.put, List.setIfInBounds_toArray, List.set_cons_zero, List.set_cons_succ, i64_w, i32_w]
    rfl
  refine pure_ (i := 5) (N := some 12) (v := ?_) (a' := ?_) #[true, true, true, false, false, true, false, false, false, false, false, false, false, false] rfl rfl (by kernel_rfl) (fun _ _ _ h => h) (Or.inl ⟨by rfl, ?_⟩) ?_ ?_
  rotate_left
  · intro w'
    go_simp
    with_reducible rfl
  rotate_left
  · simp only [Act.put, List.setIfInBounds_toArray, List.set_cons_zero, List.set_cons_succ, i64_w, i32_w]
    rfl
  refine pure_ (i := 7) (N := some 14) (v := ?_) (a' := ?_) #[true, true, true, false, false, true, false, true, false, false, false, false, false, false] rfl rfl (by kernel_rfl) (fun _ _ _ h => h) (Or.inl ⟨by rfl, ?_⟩) ?_ ?_
  rotate_left
  · intro w'
    go_simp
    with_reducible rfl
  rotate_left
  · simp only [Act.put, List.setIfInBounds_toArray, List.set_cons_zero, List.set_cons_succ, i64_w, i32_w]
    rfl
  refine take_ (i := 3) (N := some 10) (v := ?_) (a' := ?_) #[true, true, true, true, false, true, false, true, false, false, false, false, false, false] rfl rfl (by kernel_rfl) (fun _ _ _ h => h) (Or.inl ⟨by rfl, ?_⟩) hHeld ?_ ?_
  rotate_left
  · rintro w' ⟨s0, s1⟩
    go_simp
    with_reducible rfl
  rotate_left
  · simp only [Act.put, List.setIfInBounds_toArray, List.set_cons_zero, List.set_cons_succ, i64_w, i32_w]
    rfl
  refine pure_ (i := 4) (N := some 11) (v := ?_) (a' := ?_) #[true, true, true, true, true, true, false, true, false, false, false, false, false, false] rfl rfl (by kernel_rfl) (fun _ _ _ h => h) (Or.inl ⟨by rfl, ?_⟩) ?_ ?_
  rotate_left
  · intro w'
    go_simp
    with_reducible rfl
  rotate_left
  · simp only [Act.put, List.setIfInBounds_toArray, List.set_cons_zero, List.set_cons_succ, i64_w, i32_w]
    rfl
  refine take_ (i := 8) (N := some 15) (v := ?_) (a' := ?_) #[true, true, true, true, true, true, false, true, true, false, false, false, false, false] rfl rfl (by kernel_rfl) (fun _ _ _ h => h) (Or.inl ⟨by rfl, ?_⟩) hHeld ?_ ?_
  rotate_left
  · rintro w' ⟨s0, s1⟩
    go_simp
    with_reducible rfl
  rotate_left
  · simp only [Act.put, List.setIfInBounds_toArray, List.set_cons_zero, List.set_cons_succ, i64_w, i32_w]
    rfl
  refine pure_ (i := 9) (N := some 16) (v := ?_) (a' := ?_) #[true, true, true, true, true, true, false, true, true, true, false, false, false, false] rfl rfl (by kernel_rfl) (fun _ _ _ h => h) (Or.inl ⟨by rfl, ?_⟩) ?_ ?_
  rotate_left
  · intro w'
    go_simp
    with_reducible rfl
  rotate_left
  · simp only [Act.put, List.setIfInBounds_toArray, List.set_cons_zero, List.set_cons_succ, i64_w, i32_w]
    rfl
  refine pure_ (i := 10) (N := some 17) (v := ?_) (a' := ?_) #[true, true, true, true, true, true, false, true, true, true, true, false, false, false] rfl rfl (by kernel_rfl) (fun _ _ _ h => h) (Or.inl ⟨by rfl, ?_⟩) ?_ ?_
  rotate_left
  · intro w'
    go_simp
    with_reducible rfl
  rotate_left
  · simp only [Act.put, List.setIfInBounds_toArray, List.set_cons_zero, List.set_cons_succ, i64_w, i32_w]
    rfl
  refine pure_ (i := 11) (N := some 18) (v := ?_) (a' := ?_) #[true, true, true, true, true, true, false, true, true, true, true, true, false, false] rfl rfl (by kernel_rfl) (fun _ _ _ h => h) (Or.inl ⟨by rfl, ?_⟩) ?_ ?_
  rotate_left
  · intro w'
    go_simp
    with_reducible rfl
  rotate_left
  · simp only [Act.put, List.setIfInBounds_toArray, List.set_cons_zero, List.set_cons_succ, i64_w, i32_w]
    rfl
  refine one_ (i := 6) (N := some 13) #[true, true, true, true, true, true, true, true, true, true, true, true, false, false] rfl rfl (by kernel_rfl) (by decide) (fun K hK => ?_)
  refine goes_ Try.func6 (by kernel_rfl) rfl #[.int .u32 s, .slice B b.length cb] (by rfl) rfl rfl (by simp only [List.map_toArray, List.map_cons, List.map_nil]; rfl) ?_
  with_reducible refine (HM.out _ (below_step W0.out HB.out)).mono ?_
  rintro e w3 ⟨rfl, hB⟩
  refine ⟨_, rfl, ?_⟩
  have n0_ := Lib.hid (below_step HB.out hB); clear HB hB; have HB := n0_; clear n0_
  refine hK.out _ _ ⟨(HC.out _ HB.out).1, (HC.out _ HB.out).2⟩ (fun hHeld => ?_)
  clear hK K
  refine norm_ (a' := ?_) ?_ ?_
  rotate_left
  · show Act.put _ (some 13) _ = _
    simp only [Act.put, List.setIfInBounds_toArray, List.set_cons_zero, List.set_cons_succ, i64_w, i32_w]
    rfl
  refine pure_ (i := 12) (N := some 19) (v := ?_) (a' := ?_) #[true, true, true, true, true, true, true, true, true, true, true, true, true, false] rfl rfl (by kernel_rfl) (fun _ _ _ h => h) (Or.inl ⟨by rfl, ?_⟩) ?_ ?_
  rotate_left
  · intro w'
    go_simp
    with_reducible rfl
  rotate_left
  · simp only [Act.put, List.setIfInBounds_toArray, List.set_cons_zero, List.set_cons_succ, i64_w, i32_w]
    rfl
  refine pure_ (i := 13) (N := some 6) (v := ?_) (a' := ?_) #[true, true, true, true, true, true, true, true, true, true, true, true, true, true] rfl rfl (by kernel_rfl) (fun _ _ _ h => h) (Or.inl ⟨by rfl, ?_⟩) ?_ ?_
  rotate_left
  · intro w'
    go_simp
    with_reducible rfl
  rotate_left
  · simp only [Act.put, List.setIfInBounds_toArray, List.set_cons_zero, List.set_cons_succ, i64_w, i32_w]
    rfl
  refine done_ (by kernel_rfl) ?_
  go_wp2
  go_ret
  exact ⟨rfl, below_step W0.out HB.out⟩
end Go.Proofs.Ytojadhcbjcpifaa.Bl
