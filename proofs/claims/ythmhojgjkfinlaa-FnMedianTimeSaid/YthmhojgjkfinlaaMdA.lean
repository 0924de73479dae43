/-
  Sorting by sinking; timeSorter's methods.
-/
import Derived.Test.YthmhojgjkfinlaaPFnMedianTimex0
import Derived.Test.YthmhojgjkfinlaaReg
import Derived.Deep.DeepMust
import Derived.WalkSpells
namespace Go.Proofs.Ythmhojgjkfinlaa.Md
open Go.RowKit Go.Proofs.YthmhojgjkfinlaaW.PrintWords Go.Proofs.YthmhojgjkfinlaaW.PrintLast Go.Proofs.YthmhojgjkfinlaaW.PrintMore Go.Proofs.Ythmhojgjkfinlaa.Reg
set_option linter.unusedSimpArgs false
set_option linter.unusedVariables false

theorem wrap64_id {x : Int} (h0 : -9223372036854775808 ≤ x) (h1 : x ≤ 9223372036854775807) : wrap64 x = x := by unfold wrap64; omega
def swp (l : List Int) (i j : Int) : List Int := (l.set i.toNat (rd l j)).set j.toNat (rd l i)
/-- One number sinks to its place. -/
def sink : List Int → Nat → List Int
  | l, 0 => l
  | l, j + 1 => if rd l ((j + 1 : Nat) : Int) < rd l ((j : Nat) : Int) then sink (swp l ((j + 1 : Nat) : Int) ((j : Nat) : Int)) j else l
/-- The first i numbers stand in their order. -/
def srt (l : List Int) : Nat → List Int
  | 0 => l
  | i + 1 => sink (srt l i) i
theorem swp_len (l : List Int) (i j : Int) : (swp l i j).length = l.length := by simp [swp]
theorem sink_len : ∀ (j : Nat) (l : List Int), (sink l j).length = l.length
  | 0, _ => rfl
  | j + 1, l => by
    unfold sink
    split
    · rw [sink_len j, swp_len]
    · rfl
theorem srt_len (l : List Int) : ∀ i, (srt l i).length = l.length
  | 0 => rfl
  | i + 1 => by rw [srt, sink_len, srt_len l i]
theorem srt_one (l : List Int) : srt l 1 = l := rfl
theorem sink_go (l : List Int) (j j1 : Int) (h : 0 < j) (h1 : j - 1 = j1) (hl : rd l j < rd l j1) : sink l j.toNat = sink (swp l j j1) j1.toNat := by
  obtain ⟨n, rfl⟩ : ∃ n : Nat, j = ((n + 1 : Nat) : Int) := ⟨(j - 1).toNat, by omega⟩
  obtain rfl : j1 = (n : Int) := by omega
  rw [Int.toNat_natCast, Int.toNat_natCast, sink, if_pos hl]
theorem sink_stop (l : List Int) (j j1 : Int) (h : 0 < j) (h1 : j - 1 = j1) (hl : ¬ rd l j < rd l j1) : sink l j.toNat = l := by
  obtain ⟨n, rfl⟩ : ∃ n : Nat, j = ((n + 1 : Nat) : Int) := ⟨(j - 1).toNat, by omega⟩
  obtain rfl : j1 = (n : Int) := by omega
  rw [Int.toNat_natCast, sink, if_neg hl]
theorem sink_zero (l : List Int) (j : Int) (h : ¬ 0 < j) : sink l j.toNat = l := by
  rw [show j.toNat = 0 by omega]
  rfl
/-- A row of this call's own. -/
def Inv (B G n c : Nat) (l : List Int) (w0 w : World) : Prop := Kd.R (Kd.int .i64) 2 w B (fun k => B ≤ k) (.slice (some ⟨G, 0, none⟩) n c) l ∧ Below B w0 w ∧ B ≤ G ∧ B ≤ w0.heap.size
theorem Inv.drew {B G n c : Nat} {l : List Int} {w0 w : World} (h : Inv B G n c l w0 w) : Inv B G n c l w0 w.drew := ⟨Kd.R_below h.1 (below_drew (Below.refl _ _)), below_drew h.2.1, h.2.2⟩
theorem Inv.put {B G n c : Nat} {l : List Int} {w0 w : World} (h : Inv B G n c l w0 w) (i : Int) (x : Int) : Inv B G n c (l.set i.toNat x) w0 (w.setCell ⟨G, i.toNat, none⟩ (.int .i64 x)) :=
  ⟨(Kd.R_putg h.1 i x).1, h.2.1.setCell (p := ⟨G, i.toNat, none⟩) h.2.2.1 _, h.2.2⟩
theorem Inv.cell {B G n c : Nat} {l : List Int} {w0 w : World} (h : Inv B G n c l w0 w) (i : Int) (h0 : 0 ≤ i) (h1 : i < n) : w.cell? ⟨G, i.toNat, none⟩ = some (.int .i64 (rd l i)) ∧ w.frozen? ⟨G, i.toNat, none⟩ = false := Kd.R_celln 0 h.1 i h0 h1
theorem Inv.len {B G n c : Nat} {l : List Int} {w0 w : World} (h : Inv B G n c l w0 w) : n = l.length := (Kd.R_reads' h.1).1
theorem Inv.later {B G n c : Nat} {l : List Int} {w0 w w1 : World} (h : Inv B G n c l w0 w) (hb : Below w.heap.size w w1) : Inv B G n c l w0 w1 := ⟨Kd.R_below h.1 hb, h.2.1.trans (hb.mono (Nat.le_trans h.2.2.2 h.2.1.size)), h.2.2⟩
set_option maxHeartbeats 4000000 in
set_option maxRecDepth 100000 in
theorem less_calls (B G n c : Nat) (l : List Int) (w0 : World) (i j : Int) (w : World) (h : Inv B G n c l w0 w) (hi : 0 ≤ i ∧ i < n) (hj : 0 ≤ j ∧ j < n) :
    Calls Try.prog 89 #[.slice (some ⟨G, 0, none⟩) n c, .int .i64 i, .int .i64 j] w fun e w' => e = .returned (.bool (decide (rd l i < rd l j))) ∧ w' = w.drew := by
  have H := Lib.hid h
  have z1 := (h.cell i hi.1 hi.2).1
  have z2 := (h.cell j hj.1 hj.2).1
  have p1 := eq_true hi.1
  have p2 := eq_true hi.2
  have p3 := eq_true hj.1
  have p4 := eq_true hj.2
  obtain ⟨a, ha⟩ : ∃ a, rd l i = a := ⟨_, rfl⟩
  obtain ⟨b, hb⟩ : ∃ b, rd l j = b := ⟨_, rfl⟩
  rw [ha] at z1 ⊢
  rw [hb] at z2 ⊢
  clear h hi hj ha hb
  go_enter Try.func89, Try.ntmps89
  go_wp2
  refine start_ (n := 10) (S := fun w' => w'.cell? ⟨G, i.toNat, none⟩ = some (.int .i64 a) ∧ w'.cell? ⟨G, j.toNat, none⟩ = some (.int .i64 b)) (ds := []) #[false, false, false, false, false, false, false, false, false, false] (by kernel_rfl) rfl rfl ⟨z1, z2⟩ (fun hHeld => ?_)
  refine pure_ (i := 0) (N := some 7) (v := ?_) (a' := ?_) #[true, false, false, false, false, false, false, false, false, false] rfl rfl (by kernel_rfl) (fun _ _ _ h => h) (Or.inl ⟨by rfl, ?_⟩) ?_ ?_
  rotate_left
  · intro w'
    go_simp
    with_reducible rfl
  rotate_left
  · simp only [Act.put, List.setIfInBounds_toArray, List.set_cons_zero, List.set_cons_succ, i64_w, i32_w]
    rfl
  refine pure_ (i := 1) (N := some 8) (v := ?_) (a' := ?_) #[true, true, false, false, false, false, false, false, false, false] rfl rfl (by kernel_rfl) (fun _ _ _ h => h) (Or.inl ⟨by rfl, ?_⟩) ?_ ?_
  rotate_left
  · intro w'
    go_simp
    with_reducible rfl
  rotate_left
  · simp only [Act.put, List.setIfInBounds_toArray, List.set_cons_zero, List.set_cons_succ, i64_w, i32_w]
    rfl
  refine pure_ (i := 2) (N := some 9) (v := ?_) (a' := ?_) #[true, true, true, false, false, false, false, false, false, false] rfl rfl (by kernel_rfl) (fun _ _ _ h => h) (Or.inl ⟨by rfl, ?_⟩) ?_ ?_
  rotate_left
  · intro w'
    go_simp
    with_reducible rfl
  rotate_left
  · simp only [Act.put, List.setIfInBounds_toArray, List.set_cons_zero, List.set_cons_succ, i64_w, i32_w]
    rfl
  refine pure_ (i := 4) (N := some 11) (v := ?_) (a' := ?_) #[true, true, true, false, true, false, false, false, false, false] rfl rfl (by kernel_rfl) (fun _ _ _ h => h) (Or.inl ⟨by rfl, ?_⟩) ?_ ?_
  rotate_left
  · intro w'
    go_simp
    with_reducible rfl
  rotate_left
  · simp only [Act.put, List.setIfInBounds_toArray, List.set_cons_zero, List.set_cons_succ, i64_w, i32_w]
    rfl
  refine pure_ (i := 5) (N := some 12) (v := ?_) (a' := ?_) #[true, true, true, false, true, true, false, false, false, false] rfl rfl (by kernel_rfl) (fun _ _ _ h => h) (Or.inl ⟨by rfl, ?_⟩) ?_ ?_
  rotate_left
  · intro w'
    go_simp
    with_reducible rfl
  rotate_left
  · simp only [Act.put, List.setIfInBounds_toArray, List.set_cons_zero, List.set_cons_succ, i64_w, i32_w]
    rfl
  refine pure_ (i := 6) (N := some 13) (v := ?_) (a' := ?_) #[true, true, true, false, true, true, true, false, false, false] rfl rfl (by kernel_rfl) (fun _ _ _ h => h) (Or.inl ⟨by rfl, ?_⟩) ?_ ?_
  rotate_left
  · intro w'
    go_simp
    with_reducible rfl
  rotate_left
  · simp only [Act.put, List.setIfInBounds_toArray, List.set_cons_zero, List.set_cons_succ, i64_w, i32_w]
    rfl
  refine take_ (i := 3) (N := some 10) (v := ?_) (a' := ?_) #[true, true, true, true, true, true, true, false, false, false] rfl rfl (by kernel_rfl) (fun _ _ _ h => h) (Or.inl ⟨by rfl, ?_⟩) hHeld ?_ ?_
  rotate_left
  · rintro w' ⟨s0, s1⟩
    go_simp
    with_reducible rfl
  rotate_left
  · simp only [Act.put, List.setIfInBounds_toArray, List.set_cons_zero, List.set_cons_succ, i64_w, i32_w]
    rfl
  refine take_ (i := 7) (N := some 14) (v := ?_) (a' := ?_) #[true, true, true, true, true, true, true, true, false, false] rfl rfl (by kernel_rfl) (fun _ _ _ h => h) (Or.inl ⟨by rfl, ?_⟩) hHeld ?_ ?_
  rotate_left
  · rintro w' ⟨s0, s1⟩
    go_simp
    with_reducible rfl
  rotate_left
  · simp only [Act.put, List.setIfInBounds_toArray, List.set_cons_zero, List.set_cons_succ, i64_w, i32_w]
    rfl
  refine pure_ (i := 8) (N := some 15) (v := ?_) (a' := ?_) #[true, true, true, true, true, true, true, true, true, false] rfl rfl (by kernel_rfl) (fun _ _ _ h => h) (Or.inl ⟨by rfl, ?_⟩) ?_ ?_
  rotate_left
  · intro w'
    go_simp
    with_reducible rfl
  rotate_left
  · simp only [Act.put, List.setIfInBounds_toArray, List.set_cons_zero, List.set_cons_succ, i64_w, i32_w]
    rfl
  refine pure_ (i := 9) (N := some 6) (v := ?_) (a' := ?_) #[true, true, true, true, true, true, true, true, true, true] rfl rfl (by kernel_rfl) (fun _ _ _ h => h) (Or.inl ⟨by rfl, ?_⟩) ?_ ?_
  rotate_left
  · intro w'
    go_simp
    with_reducible rfl
  rotate_left
  · simp only [Act.put, List.setIfInBounds_toArray, List.set_cons_zero, List.set_cons_succ, i64_w, i32_w]
    rfl
  refine done_ (by kernel_rfl) ?_
  go_wp2
  go_ret
  exact ⟨rfl, rfl⟩
set_option maxHeartbeats 4000000 in
set_option maxRecDepth 100000 in
theorem swap_calls (B G n c : Nat) (l : List Int) (w0 : World) (i j : Int) (w : World) (h : Inv B G n c l w0 w) (hi : 0 ≤ i ∧ i < n) (hj : 0 ≤ j ∧ j < n) :
    Calls Try.prog 90 #[.slice (some ⟨G, 0, none⟩) n c, .int .i64 i, .int .i64 j] w fun e w' => (∃ u, e = .returned u) ∧ Inv B G n c (swp l i j) w0 w' := by
  obtain ⟨z1, f1⟩ := h.cell i hi.1 hi.2
  obtain ⟨z2, f2⟩ := h.cell j hj.1 hj.2
  have h2 := h.put i (rd l j)
  obtain ⟨z3, f3⟩ := h2.cell j hj.1 hj.2
  have H3 := Lib.hid ((h2.put j (rd l i)).drew)
  have p1 := eq_true hi.1
  have p2 := eq_true hi.2
  have p3 := eq_true hj.1
  have p4 := eq_true hj.2
  rw [show (l.set i.toNat (rd l j)).set j.toNat (rd l i) = swp l i j from rfl] at H3
  obtain ⟨a, ha⟩ : ∃ a, rd l i = a := ⟨_, rfl⟩
  obtain ⟨b, hb⟩ : ∃ b, rd l j = b := ⟨_, rfl⟩
  obtain ⟨L, hL⟩ : ∃ L, swp l i j = L := ⟨_, rfl⟩
  rw [ha] at z1
  rw [hb] at z2
  rw [ha, hb, hL] at H3
  rw [hb] at z3 f3
  rw [hL]
  obtain ⟨x3, hx3⟩ : ∃ x3, rd (l.set i.toNat b) j = x3 := ⟨_, rfl⟩
  rw [hx3] at z3
  clear h hi hj ha hb h2 hL hx3
  go_enter Try.func90, Try.ntmps90
  refine start_ (n := 16) (S := fun w' => w'.cell? ⟨G, i.toNat, none⟩ = some (.int .i64 a) ∧ w'.cell? ⟨G, j.toNat, none⟩ = some (.int .i64 b)) (ds := [13, 15]) #[false, false, false, false, false, false, false, false, false, false, false, false, false, false, false, false] (by kernel_rfl) rfl rfl ⟨z1, z2⟩ (fun hHeld => ?_)
  refine pure_ (i := 0) (N := some 6) (v := ?_) (a' := ?_) #[true, false, false, false, false, false, false, false, false, false, false, false, false, false, false, false] rfl rfl (by kernel_rfl) (fun _ _ _ h => h) (Or.inl ⟨by rfl, ?_⟩) ?_ ?_
  rotate_left
  · intro w'
    go_simp
    with_reducible rfl
  rotate_left
  · simp only [Act.put, List.setIfInBounds_toArray, List.set_cons_zero, List.set_cons_succ, i64_w, i32_w]
    rfl
  refine pure_ (i := 1) (N := some 7) (v := ?_) (a' := ?_) #[true, true, false, false, false, false, false, false, false, false, false, false, false, false, false, false] rfl rfl (by kernel_rfl) (fun _ _ _ h => h) (Or.inl ⟨by rfl, ?_⟩) ?_ ?_
  rotate_left
  · intro w'
    go_simp
    with_reducible rfl
  rotate_left
  · simp only [Act.put, List.setIfInBounds_toArray, List.set_cons_zero, List.set_cons_succ, i64_w, i32_w]
    rfl
  refine pure_ (i := 2) (N := some 8) (v := ?_) (a' := ?_) #[true, true, true, false, false, false, false, false, false, false, false, false, false, false, false, false] rfl rfl (by kernel_rfl) (fun _ _ _ h => h) (Or.inl ⟨by rfl, ?_⟩) ?_ ?_
  rotate_left
  · intro w'
    go_simp
    with_reducible rfl
  rotate_left
  · simp only [Act.put, List.setIfInBounds_toArray, List.set_cons_zero, List.set_cons_succ, i64_w, i32_w]
    rfl
  refine pure_ (i := 3) (N := some 9) (v := ?_) (a' := ?_) #[true, true, true, true, false, false, false, false, false, false, false, false, false, false, false, false] rfl rfl (by kernel_rfl) (fun _ _ _ h => h) (Or.inl ⟨by rfl, ?_⟩) ?_ ?_
  rotate_left
  · intro w'
    go_simp
    with_reducible rfl
  rotate_left
  · simp only [Act.put, List.setIfInBounds_toArray, List.set_cons_zero, List.set_cons_succ, i64_w, i32_w]
    rfl
  refine pure_ (i := 4) (N := some 10) (v := ?_) (a' := ?_) #[true, true, true, true, true, false, false, false, false, false, false, false, false, false, false, false] rfl rfl (by kernel_rfl) (fun _ _ _ h => h) (Or.inl ⟨by rfl, ?_⟩) ?_ ?_
  rotate_left
  · intro w'
    go_simp
    with_reducible rfl
  rotate_left
  · simp only [Act.put, List.setIfInBounds_toArray, List.set_cons_zero, List.set_cons_succ, i64_w, i32_w]
    rfl
  refine pure_ (i := 5) (N := some 11) (v := ?_) (a' := ?_) #[true, true, true, true, true, true, false, false, false, false, false, false, false, false, false, false] rfl rfl (by kernel_rfl) (fun _ _ _ h => h) (Or.inl ⟨by rfl, ?_⟩) ?_ ?_
  rotate_left
  · intro w'
    go_simp
    with_reducible rfl
  rotate_left
  · simp only [Act.put, List.setIfInBounds_toArray, List.set_cons_zero, List.set_cons_succ, i64_w, i32_w]
    rfl
  refine pure_ (i := 6) (N := some 12) (v := ?_) (a' := ?_) #[true, true, true, true, true, true, true, false, false, false, false, false, false, false, false, false] rfl rfl (by kernel_rfl) (fun _ _ _ h => h) (Or.inl ⟨by rfl, ?_⟩) ?_ ?_
  rotate_left
  · intro w'
    go_simp
    with_reducible rfl
  rotate_left
  · simp only [Act.put, List.setIfInBounds_toArray, List.set_cons_zero, List.set_cons_succ, i64_w, i32_w]
    rfl
  refine pure_ (i := 8) (N := some 14) (v := ?_) (a' := ?_) #[true, true, true, true, true, true, true, false, true, false, false, false, false, false, false, false] rfl rfl (by kernel_rfl) (fun _ _ _ h => h) (Or.inl ⟨by rfl, ?_⟩) ?_ ?_
  rotate_left
  · intro w'
    go_simp
    with_reducible rfl
  rotate_left
  · simp only [Act.put, List.setIfInBounds_toArray, List.set_cons_zero, List.set_cons_succ, i64_w, i32_w]
    rfl
  refine pure_ (i := 9) (N := some 15) (v := ?_) (a' := ?_) #[true, true, true, true, true, true, true, false, true, true, false, false, false, false, false, false] rfl rfl (by kernel_rfl) (fun _ _ _ h => h) (Or.inl ⟨by rfl, ?_⟩) ?_ ?_
  rotate_left
  · intro w'
    go_simp
    with_reducible rfl
  rotate_left
  · simp only [Act.put, List.setIfInBounds_toArray, List.set_cons_zero, List.set_cons_succ, i64_w, i32_w]
    rfl
  refine pure_ (i := 10) (N := some 16) (v := ?_) (a' := ?_) #[true, true, true, true, true, true, true, false, true, true, true, false, false, false, false, false] rfl rfl (by kernel_rfl) (fun _ _ _ h => h) (Or.inl ⟨by rfl, ?_⟩) ?_ ?_
  rotate_left
  · intro w'
    go_simp
    with_reducible rfl
  rotate_left
  · simp only [Act.put, List.setIfInBounds_toArray, List.set_cons_zero, List.set_cons_succ, i64_w, i32_w]
    rfl
  refine take_ (i := 7) (N := some 13) (v := ?_) (a' := ?_) #[true, true, true, true, true, true, true, true, true, true, true, false, false, false, false, false] rfl rfl (by kernel_rfl) (fun _ _ _ h => h) (Or.inl ⟨by rfl, ?_⟩) hHeld ?_ ?_
  rotate_left
  · rintro w' ⟨s0, s1⟩
    go_simp
    with_reducible rfl
  rotate_left
  · simp only [Act.put, List.setIfInBounds_toArray, List.set_cons_zero, List.set_cons_succ, i64_w, i32_w]
    rfl
  refine take_ (i := 11) (N := some 17) (v := ?_) (a' := ?_) #[true, true, true, true, true, true, true, true, true, true, true, true, false, false, false, false] rfl rfl (by kernel_rfl) (fun _ _ _ h => h) (Or.inl ⟨by rfl, ?_⟩) hHeld ?_ ?_
  rotate_left
  · rintro w' ⟨s0, s1⟩
    go_simp
    with_reducible rfl
  rotate_left
  · simp only [Act.put, List.setIfInBounds_toArray, List.set_cons_zero, List.set_cons_succ, i64_w, i32_w]
    rfl
  refine pure_ (i := 12) (N := some 18) (v := ?_) (a' := ?_) #[true, true, true, true, true, true, true, true, true, true, true, true, true, false, false, false] rfl rfl (by kernel_rfl) (fun _ _ _ h => h) (Or.inl ⟨by rfl, ?_⟩) ?_ ?_
  rotate_left
  · intro w'
    go_simp
    with_reducible rfl
  rotate_left
  · simp only [Act.put, List.setIfInBounds_toArray, List.set_cons_zero, List.set_cons_succ, i64_w, i32_w]
    rfl
  refine last_ (i := 13) (N := none) #[true, true, true, true, true, true, true, true, true, true, true, true, true, true, false, false] rfl rfl (by kernel_rfl) (by decide) (fun K hK => ?_)
  refine skip_ (w1 := ?_) (by rfl) rfl ?_ ?_
  rotate_left
  · go_simp
    rfl
  refine hK.out _ _ ?_
  clear hK K
  refine pure_ (i := 14) (N := some 19) (v := ?_) (a' := ?_) #[true, true, true, true, true, true, true, true, true, true, true, true, true, true, true, false] rfl rfl (by kernel_rfl) (fun _ _ _ h => h) (Or.inl ⟨by rfl, ?_⟩) ?_ ?_
  rotate_left
  · intro w'
    go_simp
    with_reducible rfl
  rotate_left
  · simp only [Act.put, List.setIfInBounds_toArray, List.set_cons_zero, List.set_cons_succ, i64_w, i32_w]
    rfl
  refine last_ (i := 15) (N := none) #[true, true, true, true, true, true, true, true, true, true, true, true, true, true, true, true] rfl rfl (by kernel_rfl) (by decide) (fun K hK => ?_)
  refine skip_ (w1 := ?_) (by rfl) rfl ?_ ?_
  rotate_left
  · go_simp
    rfl
  refine hK.out _ _ ?_
  clear hK K
  refine done_ (by kernel_rfl) ?_
  go_wp2
  first | go_end0 | refine bodyPost_ret (results_none rfl _ _ _) rfl ?_
  exact ⟨⟨_, rfl⟩, H3.out⟩
end Go.Proofs.Ythmhojgjkfinlaa.Md
