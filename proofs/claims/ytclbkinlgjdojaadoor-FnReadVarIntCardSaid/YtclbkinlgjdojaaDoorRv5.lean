/-
  bytes.Reader: Read.
-/
import Derived.Test.YtclbkinlgjdojaaDoorRv4
import Derived.Laws.CopyRow
namespace Go.Proofs.YtclbkinlgjdojaaDoor.Rv
open Go.RowKit Go.Proofs.YtclbkinlgjdojaaDoorW.PrintWords Go.Proofs.YtclbkinlgjdojaaDoorW.PrintLast Go.Proofs.YtclbkinlgjdojaaDoor.Reg Go.Proofs.YtclbkinlgjdojaaDoor.Tok
set_option linter.unusedSimpArgs false
set_option linter.unusedVariables false

/-- A bytes.Reader. -/
def Rd (w : World) (R : Nat) (A : Option Addr) (n c : Nat) (i : Int) : Prop := ∃ pr : Int, w.heap[R]? = some (.cells #[.slice A n c, .int .i64 i, .int .i64 pr] 52 (0, 0))
theorem Rd.below {w w1 : World} {R : Nat} {A : Option Addr} {n c : Nat} {i : Int} (h : Rd w R A n c i) (hb : Below w.heap.size w w1) : Rd w1 R A n c i := by
  obtain ⟨pr, h⟩ := h
  exact ⟨pr, blk_below h hb⟩
theorem Rd.lt {w : World} {R : Nat} {A : Option Addr} {n c : Nat} {i : Int} (h : Rd w R A n c i) : R < w.heap.size := by
  obtain ⟨pr, h⟩ := h
  exact blk_lt h
/-- Nothing is left to be read. -/
theorem read_end (R : Nat) (A : Option Addr) (n c : Nat) (i : Int) (s : Value) (ev : Value) (w : World) (h : Rd w R A n c i) (hi : (n : Int) ≤ i) (hev : w.cell? ⟨2, 0, none⟩ = some ev) :
    Calls Tryd.prog 40 #[.pointer (some ⟨R, 0, none⟩), s] w fun e w' => e = .returned (.tuple #[.int .i64 0, ev]) ∧ Rd w' R A n c i ∧ Below w.heap.size w w' := by
  obtain ⟨pr, h⟩ := h
  have Z := Lib.hid (And.intro ((blk_cell h 0).trans rfl : w.cell? ⟨R, 0, none⟩ = some (.slice A n c)) ((blk_cell h 1).trans rfl : w.cell? ⟨R, 1, none⟩ = some (.int .i64 i)))
  have E := Lib.hid hev
  have H := Lib.hid h
  have hd : decide ((n : Int) ≤ i) = true := decide_eq_true hi
  clear h hev hi
  go_enter Tryd.func40, Tryd.ntmps40
  go_wp2
  refine start_ (n := 10) (S := fun w' => w'.cell? ⟨R, 0, none⟩ = some (.slice A n c) ∧ w'.cell? ⟨R, 1, none⟩ = some (.int .i64 i)) (ds := []) #[false, false, false, false, false, false, false, false, false, false] (by kernel_rfl) rfl rfl ⟨Z.out.1, Z.out.2⟩ (fun hHeld => ?_)
  refine pure_ (i := 0) (N := some 6) (v := ?_) (a' := ?_) #[true, false, false, false, false, false, false, false, false, false] rfl rfl (by kernel_rfl) (fun _ _ _ h => h) (Or.inl ⟨by rfl, ?_⟩) ?_ ?_
  rotate_left
  · intro w'
    go_simp
    with_reducible rfl
  rotate_left
  · simp only [Act.put, List.setIfInBounds_toArray, List.set_cons_zero, List.set_cons_succ, i64_w, i32_w]
    rfl
  refine pure_ (i := 1) (N := some 7) (v := ?_) (a' := ?_) #[true, true, false, false, false, false, false, false, false, false] rfl rfl (by kernel_rfl) (fun _ _ _ h => h) (Or.inl ⟨by rfl, ?_⟩) ?_ ?_
  rotate_left
  · intro w'
    go_simp
    with_reducible rfl
  rotate_left
  · simp only [Act.put, List.setIfInBounds_toArray, List.set_cons_zero, List.set_cons_succ, i64_w, i32_w]
    rfl
  refine pure_ (i := 2) (N := some 8) (v := ?_) (a' := ?_) #[true, true, true, false, false, false, false, false, false, false] rfl rfl (by kernel_rfl) (fun _ _ _ h => h) (Or.inl ⟨by rfl, ?_⟩) ?_ ?_
  rotate_left
  · intro w'
    go_simp
    with_reducible rfl
  rotate_left
  · simp only [Act.put, List.setIfInBounds_toArray, List.set_cons_zero, List.set_cons_succ, i64_w, i32_w]
    rfl
  refine pure_ (i := 4) (N := some 10) (v := ?_) (a' := ?_) #[true, true, true, false, true, false, false, false, false, false] rfl rfl (by kernel_rfl) (fun _ _ _ h => h) (Or.inl ⟨by rfl, ?_⟩) ?_ ?_
  rotate_left
  · intro w'
    go_simp
    with_reducible rfl
  rotate_left
  · simp only [Act.put, List.setIfInBounds_toArray, List.set_cons_zero, List.set_cons_succ, i64_w, i32_w]
    rfl
  refine pure_ (i := 5) (N := some 11) (v := ?_) (a' := ?_) #[true, true, true, false, true, true, false, false, false, false] rfl rfl (by kernel_rfl) (fun _ _ _ h => h) (Or.inl ⟨by rfl, ?_⟩) ?_ ?_
  rotate_left
  · intro w'
    go_simp
    with_reducible rfl
  rotate_left
  · simp only [Act.put, List.setIfInBounds_toArray, List.set_cons_zero, List.set_cons_succ, i64_w, i32_w]
    rfl
  refine pure_ (i := 6) (N := some 12) (v := ?_) (a' := ?_) #[true, true, true, false, true, true, true, false, false, false] rfl rfl (by kernel_rfl) (fun _ _ _ h => h) (Or.inl ⟨by rfl, ?_⟩) ?_ ?_
  rotate_left
  · intro w'
    go_simp
    with_reducible rfl
  rotate_left
  · simp only [Act.put, List.setIfInBounds_toArray, List.set_cons_zero, List.set_cons_succ, i64_w, i32_w]
    rfl
  refine take_ (i := 3) (N := some 9) (v := ?_) (a' := ?_) #[true, true, true, true, true, true, true, false, false, false] rfl rfl (by kernel_rfl) (fun _ _ _ h => h) (Or.inl ⟨by rfl, ?_⟩) hHeld ?_ ?_
  rotate_left
  · rintro w' ⟨s0, s1⟩
    go_simp
    with_reducible rfl
  rotate_left
  · simp only [Act.put, List.setIfInBounds_toArray, List.set_cons_zero, List.set_cons_succ, i64_w, i32_w]
    rfl
  refine take_ (i := 7) (N := some 13) (v := ?_) (a' := ?_) #[true, true, true, true, true, true, true, true, false, false] rfl rfl (by kernel_rfl) (fun _ _ _ h => h) (Or.inl ⟨by rfl, ?_⟩) hHeld ?_ ?_
  rotate_left
  · rintro w' ⟨s0, s1⟩
    go_simp
    with_reducible rfl
  rotate_left
  · simp only [Act.put, List.setIfInBounds_toArray, List.set_cons_zero, List.set_cons_succ, i64_w, i32_w]
    rfl
  refine pure_ (i := 8) (N := some 14) (v := ?_) (a' := ?_) #[true, true, true, true, true, true, true, true, true, false] rfl rfl (by kernel_rfl) (fun _ _ _ h => h) (Or.inl ⟨by rfl, ?_⟩) ?_ ?_
  rotate_left
  · intro w'
    go_simp
    with_reducible rfl
  rotate_left
  · simp only [Act.put, List.setIfInBounds_toArray, List.set_cons_zero, List.set_cons_succ, i64_w, i32_w]
    rfl
  refine pure_ (i := 9) (N := some 15) (v := ?_) (a' := ?_) #[true, true, true, true, true, true, true, true, true, true] rfl rfl (by kernel_rfl) (fun _ _ _ h => h) (Or.inl ⟨by rfl, ?_⟩) ?_ ?_
  rotate_left
  · intro w'
    go_simp
    with_reducible rfl
  rotate_left
  · simp only [Act.put, List.setIfInBounds_toArray, List.set_cons_zero, List.set_cons_succ, i64_w, i32_w]
    rfl
  refine done_ (by kernel_rfl) ?_
  go_wp2
  refine start_ (n := 3) (S := fun w' => w'.cell? ⟨2, 0, none⟩ = some ev) (ds := []) #[false, false, false] (by kernel_rfl) rfl rfl (E.out) (fun hHeld => ?_)
  refine pure_ (i := 1) (N := some 4) (v := ?_) (a' := ?_) #[false, true, false] rfl rfl (by kernel_rfl) (fun _ _ _ h => h) (Or.inl ⟨by rfl, ?_⟩) ?_ ?_
  rotate_left
  · intro w'
    go_simp
    with_reducible rfl
  rotate_left
  · simp only [Act.put, List.setIfInBounds_toArray, List.set_cons_zero, List.set_cons_succ, i64_w, i32_w]
    rfl
  refine take_ (i := 0) (N := some 16) (v := ?_) (a' := ?_) #[true, true, false] rfl rfl (by kernel_rfl) (fun _ _ _ h => h) (Or.inl ⟨by rfl, ?_⟩) hHeld ?_ ?_
  rotate_left
  · intro w' s0
    go_simp
    with_reducible rfl
  rotate_left
  · simp only [Act.put, List.setIfInBounds_toArray, List.set_cons_zero, List.set_cons_succ, i64_w, i32_w]
    rfl
  refine pure_ (i := 2) (N := some 5) (v := ?_) (a' := ?_) #[true, true, true] rfl rfl (by kernel_rfl) (fun _ _ _ h => h) (Or.inl ⟨by rfl, ?_⟩) ?_ ?_
  rotate_left
  · intro w'
    go_simp
    with_reducible rfl
  rotate_left
  · simp only [Act.put, List.setIfInBounds_toArray, List.set_cons_zero, List.set_cons_succ, i64_w, i32_w]
    rfl
  refine done_ (by kernel_rfl) ?_
  go_wp2
  go_ret2
  exact ⟨rfl, ⟨pr, blk_drew (blk_drew H.out)⟩, below_drew (below_drew (Below.refl _ _))⟩
set_option maxHeartbeats 8000000 in
set_option maxRecDepth 100000 in
theorem read_some (B R S T : Nat) (A : Option Addr) (c : Nat) (l : List Int) (i : Int) (k kc m : Nat) (cs : Array Value) (w : World) (h : Rd w R A l.length c i) (hC : Kd.C (Kd.int .u8) w A l.length l) (hc : l.length ≤ c) (hcm : c ≤ 9223372036854775807) (hn : l.length ≤ 100000) (hi : 0 ≤ i ∧ i < l.length) (hm : m = min (l.length - i.toNat) k) (hk : 1 ≤ k ∧ k ≤ cs.size)
    (hS : w.heap[S]? = some (.cells cs T (0, 0))) (hRS : R ≠ S) (hAR : ∀ ad, A = some ad → ad.block ≠ R) (hB : B ≤ R ∧ B ≤ S) :
    Calls Tryd.prog 40 #[.pointer (some ⟨R, 0, none⟩), .slice (some ⟨S, 0, none⟩) k kc] w fun e w' => e = .returned (.tuple #[.int .i64 (m : Int), .nilIface]) ∧ Rd w' R A l.length c (i + m) ∧ w'.heap[S]? = some (.cells ((((l.drop i.toNat).take m).map (Value.int .u8) ++ cs.toList.drop m).toArray) T (0, 0)) ∧ Below B w w' := by
  obtain ⟨pr, h⟩ := h
  have hmb : 1 ≤ m ∧ m ≤ k ∧ m ≤ l.length - i.toNat := by omega
  obtain ⟨ad, rfl, hy⟩ := Kd.at_int hC i hi.1 hi.2
  have z0 : w.cell? ⟨R, 0, none⟩ = some (.slice (some ad) l.length c) := (blk_cell h 0).trans rfl
  have z1 : w.cell? ⟨R, 1, none⟩ = some (.int .i64 i) := (blk_cell h 1).trans rfl
  have z2 : w.cell? ⟨R, 2, none⟩ = some (.int .i64 pr) := (blk_cell h 2).trans rfl
  have Z := Lib.hid (And.intro z0 (And.intro z1 z2))
  have hf2 := blk_frozen h 2
  have hd : decide ((l.length : Int) ≤ i) = false := decide_eq_false (by omega)
  have hci : ¬ c = i.toNat := by omega
  obtain ⟨W4, hW4⟩ : ∃ W4, ((w.setCell ⟨R, 2, none⟩ (.int .i64 (-1))).drew.drew) = W4 := ⟨_, rfl⟩
  have hR4 : W4.heap[R]? = some (.cells #[.slice (some ad) l.length c, .int .i64 i, .int .i64 (-1)] 52 (0, 0)) := hW4 ▸ blk_drew (blk_drew (blk_set h 2 _))
  have hS4 : W4.heap[S]? = some (.cells cs T (0, 0)) := hW4 ▸ blk_drew (blk_drew (blk_far hS (p := ⟨R, 2, none⟩) hRS.symm _))
  have hC4 : Kd.C (Kd.int .u8) W4 (some ad) l.length l := by
    subst hW4
    exact Kd.C_drew (Kd.C_drew (Kd.C_keep 0 hC ((KeepBut.refl w R none).set_ 2 _) (fun ad_ e _ => hAR ad_ e)))
  have hB4 : Below B w W4 := hW4 ▸ below_drew (below_drew ((Below.refl B w).setCell (p := ⟨R, 2, none⟩) hB.1 _))
  have hcp := run_copy_row (P := Tryd.prog) W4 22 22 3 5 S 0 k kc (ad.add i.toNat) (l.length - i.toNat) (c - i.toNat) cs T (((l.drop i.toNat).take m).map (Value.int .u8)) Tryd.underlying22 (by kernel_rfl) hS4 (by simp [List.length_take, List.length_drop]; show _ = min _ _; omega) (fun j v hj => by
    have hjl : j < m ∧ j < l.length - i.toNat := by
      have := (List.getElem?_eq_some_iff.1 hj).1
      simp [List.length_take, List.length_drop] at this
      omega
    obtain ⟨ad', e, hcc⟩ := Kd.at_int hC4 (i + j) (by omega) (by omega)
    cases e
    have ea : (ad.add i.toNat).add j = ad.add (i + j).toNat := by rw [add_add]; congr 1; omega
    rw [ea, hcc]
    rw [List.getElem?_map, List.getElem?_take_of_lt hjl.1, List.getElem?_drop, List.getElem?_eq_getElem (by omega)] at hj
    rw [← Option.some.inj hj]
    congr 2
    rw [rd, List.getD_eq_getElem?_getD, List.getElem?_eq_getElem (by omega)]
    show l[(i + j).toNat] = l[i.toNat + j]
    congr 1; omega) (by simp [List.length_take, List.length_drop]; omega) (fun v hv => by
    obtain ⟨x, _, rfl⟩ := List.mem_map.1 hv
    rfl)
  rw [show (((l.drop i.toNat).take m).map (Value.int .u8)).length = m by simp [List.length_take, List.length_drop]; omega] at hcp
  rw [show (cs.toList.take 0 ++ ((l.drop i.toNat).take m).map (Value.int .u8) ++ cs.toList.drop (0 + m)) = ((l.drop i.toNat).take m).map (Value.int .u8) ++ cs.toList.drop m by rw [List.take_zero, List.nil_append, Nat.zero_add]] at hcp
  obtain ⟨C1, hC1⟩ : ∃ C1, (((l.drop i.toNat).take m).map (Value.int .u8) ++ cs.toList.drop m).toArray = C1 := ⟨_, rfl⟩
  rw [hC1] at hcp ⊢
  obtain ⟨W5, hW5⟩ : ∃ W5, W4.setRow S C1 = W5 := ⟨_, rfl⟩
  rw [hW5] at hcp
  have hS5 : W5.heap[S]? = some (.cells C1 T (0, 0)) := hW5 ▸ setRow_heap _ _ _ _ _ _ hS4
  have hR5 : W5.heap[R]? = some (.cells #[.slice (some ad) l.length c, .int .i64 i, .int .i64 (-1)] 52 (0, 0)) := hW5 ▸ (setRow_other _ _ _ _ hRS).trans hR4
  have hB5 : Below B w W5 := hW5 ▸ below_setRow hB4 hB.2 _
  have HS5 := Lib.hid hS5
  have HR5 := Lib.hid hR5
  have HB5 := Lib.hid hB5
  have hwi : wrap64 (i + (m : Int)) = i + m := wrap64_id (by omega) (by omega)
  have hz1 : W5.cell? ⟨R, 1, none⟩ = some (.int .i64 i) := (blk_cell hR5 1).trans rfl
  have hf1 := blk_frozen hR5 1
  have HM := Lib.hid hmb
  have HBR := Lib.hid hB.1
  have HRS := Lib.hid hRS
  obtain ⟨N, hN⟩ : ∃ N, l.length = N := ⟨_, rfl⟩
  rw [hN] at hcp Z hd ⊢
  rw [hN] at HR5
  have hi0 : 0 ≤ i := hi.1
  have hiN : i ≤ (N : Int) := by omega
  have z40 : W4.cell? ⟨R, 0, none⟩ = some (.slice (some ad) N c) := (blk_cell hR4 0).trans (by rw [← hN]; rfl)
  have z41 : W4.cell? ⟨R, 1, none⟩ = some (.int .i64 i) := (blk_cell hR4 1).trans rfl
  clear z0 z1 hR4 hS4 hC4 hB4 hS5 hR5 hB5 hC1 hW5 hC hc hn hi hm hk hS hRS hAR hB hy h hmb hN
  subst hW4
  go_enter Tryd.func40, Tryd.ntmps40
  go_wp2
  refine start_ (n := 10) (S := fun w' => w'.cell? ⟨R, 0, none⟩ = some (.slice (some ad) N c) ∧ w'.cell? ⟨R, 1, none⟩ = some (.int .i64 i)) (ds := []) #[false, false, false, false, false, false, false, false, false, false] (by kernel_rfl) rfl rfl ⟨Z.out.1, Z.out.2.1⟩ (fun hHeld => ?_)
  refine pure_ (i := 0) (N := some 6) (v := ?_) (a' := ?_) #[true, false, false, false, false, false, false, false, false, false] rfl rfl (by kernel_rfl) (fun _ _ _ h => h) (Or.inl ⟨by rfl, ?_⟩) ?_ ?_
  rotate_left
  · intro w'
    go_simp
    with_reducible rfl
  rotate_left
  · simp only [Act.put, List.setIfInBounds_toArray, List.set_cons_zero, List.set_cons_succ, i64_w, i32_w]
    rfl
  refine pure_ (i := 1) (N := some 7) (v := ?_) (a' := ?_) #[true, true, false, false, false, false, false, false, false, false] rfl rfl (by kernel_rfl) (fun _ _ _ h => h) (Or.inl ⟨by rfl, ?_⟩) ?_ ?_
  rotate_left
  · intro w'
    go_simp
    with_reducible rfl
  rotate_left
  · simp only [Act.put, List.setIfInBounds_toArray, List.set_cons_zero, List.set_cons_succ, i64_w, i32_w]
    rfl
  refine pure_ (i := 2) (N := some 8) (v := ?_) (a' := ?_) #[true, true, true, false, false, false, false, false, false, false] rfl rfl (by kernel_rfl) (fun _ _ _ h => h) (Or.inl ⟨by rfl, ?_⟩) ?_ ?_
  rotate_left
  · intro w'
    go_simp
    with_reducible rfl
  rotate_left
  · simp only [Act.put, List.setIfInBounds_toArray, List.set_cons_zero, List.set_cons_succ, i64_w, i32_w]
    rfl
  refine pure_ (i := 4) (N := some 10) (v := ?_) (a' := ?_) #[true, true, true, false, true, false, false, false, false, false] rfl rfl (by kernel_rfl) (fun _ _ _ h => h) (Or.inl ⟨by rfl, ?_⟩) ?_ ?_
  rotate_left
  · intro w'
    go_simp
    with_reducible rfl
  rotate_left
  · simp only [Act.put, List.setIfInBounds_toArray, List.set_cons_zero, List.set_cons_succ, i64_w, i32_w]
    rfl
  refine pure_ (i := 5) (N := some 11) (v := ?_) (a' := ?_) #[true, true, true, false, true, true, false, false, false, false] rfl rfl (by kernel_rfl) (fun _ _ _ h => h) (Or.inl ⟨by rfl, ?_⟩) ?_ ?_
  rotate_left
  · intro w'
    go_simp
    with_reducible rfl
  rotate_left
  · simp only [Act.put, List.setIfInBounds_toArray, List.set_cons_zero, List.set_cons_succ, i64_w, i32_w]
    rfl
  refine pure_ (i := 6) (N := some 12) (v := ?_) (a' := ?_) #[true, true, true, false, true, true, true, false, false, false] rfl rfl (by kernel_rfl) (fun _ _ _ h => h) (Or.inl ⟨by rfl, ?_⟩) ?_ ?_
  rotate_left
  · intro w'
    go_simp
    with_reducible rfl
  rotate_left
  · simp only [Act.put, List.setIfInBounds_toArray, List.set_cons_zero, List.set_cons_succ, i64_w, i32_w]
    rfl
  refine take_ (i := 3) (N := some 9) (v := ?_) (a' := ?_) #[true, true, true, true, true, true, true, false, false, false] rfl rfl (by kernel_rfl) (fun _ _ _ h => h) (Or.inl ⟨by rfl, ?_⟩) hHeld ?_ ?_
  rotate_left
  · rintro w' ⟨s0, s1⟩
    go_simp
    with_reducible rfl
  rotate_left
  · simp only [Act.put, List.setIfInBounds_toArray, List.set_cons_zero, List.set_cons_succ, i64_w, i32_w]
    rfl
  refine take_ (i := 7) (N := some 13) (v := ?_) (a' := ?_) #[true, true, true, true, true, true, true, true, false, false] rfl rfl (by kernel_rfl) (fun _ _ _ h => h) (Or.inl ⟨by rfl, ?_⟩) hHeld ?_ ?_
  rotate_left
  · rintro w' ⟨s0, s1⟩
    go_simp
    with_reducible rfl
  rotate_left
  · simp only [Act.put, List.setIfInBounds_toArray, List.set_cons_zero, List.set_cons_succ, i64_w, i32_w]
    rfl
  refine pure_ (i := 8) (N := some 14) (v := ?_) (a' := ?_) #[true, true, true, true, true, true, true, true, true, false] rfl rfl (by kernel_rfl) (fun _ _ _ h => h) (Or.inl ⟨by rfl, ?_⟩) ?_ ?_
  rotate_left
  · intro w'
    go_simp
    with_reducible rfl
  rotate_left
  · simp only [Act.put, List.setIfInBounds_toArray, List.set_cons_zero, List.set_cons_succ, i64_w, i32_w]
    rfl
  refine pure_ (i := 9) (N := some 15) (v := ?_) (a' := ?_) #[true, true, true, true, true, true, true, true, true, true] rfl rfl (by kernel_rfl) (fun _ _ _ h => h) (Or.inl ⟨by rfl, ?_⟩) ?_ ?_
  rotate_left
  · intro w'
    go_simp
    with_reducible rfl
  rotate_left
  · simp only [Act.put, List.setIfInBounds_toArray, List.set_cons_zero, List.set_cons_succ, i64_w, i32_w]
    rfl
  refine done_ (by kernel_rfl) ?_
  go_wp2
  refine start_ (n := 12) (S := fun w' => w'.cell? ⟨R, 0, none⟩ = some (.slice (some ad) N c) ∧ w'.cell? ⟨R, 1, none⟩ = some (.int .i64 i)) (ds := [10]) #[false, false, false, false, false, false, false, false, false, false, false, false] (by kernel_rfl) rfl rfl ⟨z40, z41⟩ (fun hHeld => ?_)
  refine pure_ (i := 0) (N := some 20) (v := ?_) (a' := ?_) #[true, false, false, false, false, false, false, false, false, false, false, false] rfl rfl (by kernel_rfl) (fun _ _ _ h => h) (Or.inl ⟨by rfl, ?_⟩) ?_ ?_
  rotate_left
  · intro w'
    go_simp
    with_reducible rfl
  rotate_left
  · simp only [Act.put, List.setIfInBounds_toArray, List.set_cons_zero, List.set_cons_succ, i64_w, i32_w]
    rfl
  refine pure_ (i := 1) (N := some 21) (v := ?_) (a' := ?_) #[true, true, false, false, false, false, false, false, false, false, false, false] rfl rfl (by kernel_rfl) (fun _ _ _ h => h) (Or.inl ⟨by rfl, ?_⟩) ?_ ?_
  rotate_left
  · intro w'
    go_simp
    with_reducible rfl
  rotate_left
  · simp only [Act.put, List.setIfInBounds_toArray, List.set_cons_zero, List.set_cons_succ, i64_w, i32_w]
    rfl
  refine pure_ (i := 2) (N := some 22) (v := ?_) (a' := ?_) #[true, true, true, false, false, false, false, false, false, false, false, false] rfl rfl (by kernel_rfl) (fun _ _ _ h => h) (Or.inl ⟨by rfl, ?_⟩) ?_ ?_
  rotate_left
  · intro w'
    go_simp
    with_reducible rfl
  rotate_left
  · simp only [Act.put, List.setIfInBounds_toArray, List.set_cons_zero, List.set_cons_succ, i64_w, i32_w]
    rfl
  refine pure_ (i := 3) (N := some 23) (v := ?_) (a' := ?_) #[true, true, true, true, false, false, false, false, false, false, false, false] rfl rfl (by kernel_rfl) (fun _ _ _ h => h) (Or.inl ⟨by rfl, ?_⟩) ?_ ?_
  rotate_left
  · intro w'
    go_simp
    with_reducible rfl
  rotate_left
  · simp only [Act.put, List.setIfInBounds_toArray, List.set_cons_zero, List.set_cons_succ, i64_w, i32_w]
    rfl
  refine pure_ (i := 5) (N := some 25) (v := ?_) (a' := ?_) #[true, true, true, true, false, true, false, false, false, false, false, false] rfl rfl (by kernel_rfl) (fun _ _ _ h => h) (Or.inl ⟨by rfl, ?_⟩) ?_ ?_
  rotate_left
  · intro w'
    go_simp
    with_reducible rfl
  rotate_left
  · simp only [Act.put, List.setIfInBounds_toArray, List.set_cons_zero, List.set_cons_succ, i64_w, i32_w]
    rfl
  refine pure_ (i := 6) (N := some 26) (v := ?_) (a' := ?_) #[true, true, true, true, false, true, true, false, false, false, false, false] rfl rfl (by kernel_rfl) (fun _ _ _ h => h) (Or.inl ⟨by rfl, ?_⟩) ?_ ?_
  rotate_left
  · intro w'
    go_simp
    with_reducible rfl
  rotate_left
  · simp only [Act.put, List.setIfInBounds_toArray, List.set_cons_zero, List.set_cons_succ, i64_w, i32_w]
    rfl
  refine pure_ (i := 7) (N := some 27) (v := ?_) (a' := ?_) #[true, true, true, true, false, true, true, true, false, false, false, false] rfl rfl (by kernel_rfl) (fun _ _ _ h => h) (Or.inl ⟨by rfl, ?_⟩) ?_ ?_
  rotate_left
  · intro w'
    go_simp
    with_reducible rfl
  rotate_left
  · simp only [Act.put, List.setIfInBounds_toArray, List.set_cons_zero, List.set_cons_succ, i64_w, i32_w]
    rfl
  refine take_ (i := 4) (N := some 24) (v := ?_) (a' := ?_) #[true, true, true, true, true, true, true, true, false, false, false, false] rfl rfl (by kernel_rfl) (fun _ _ _ h => h) (Or.inl ⟨by rfl, ?_⟩) hHeld ?_ ?_
  rotate_left
  · rintro w' ⟨s0, s1⟩
    go_simp
    with_reducible rfl
  rotate_left
  · simp only [Act.put, List.setIfInBounds_toArray, List.set_cons_zero, List.set_cons_succ, i64_w, i32_w]
    rfl
  refine take_ (i := 8) (N := some 28) (v := ?_) (a' := ?_) #[true, true, true, true, true, true, true, true, true, false, false, false] rfl rfl (by kernel_rfl) (fun _ _ _ h => h) (Or.inl ⟨by rfl, ?_⟩) hHeld ?_ ?_
  rotate_left
  · rintro w' ⟨s0, s1⟩
    go_simp
    with_reducible rfl
  rotate_left
  · simp only [Act.put, List.setIfInBounds_toArray, List.set_cons_zero, List.set_cons_succ, i64_w, i32_w]
    rfl
  refine pure_ (i := 9) (N := some 29) (v := ?_) (a' := ?_) #[true, true, true, true, true, true, true, true, true, true, false, false] rfl rfl (by kernel_rfl) (fun _ _ _ h => h) (Or.inl ⟨by rfl, ?_⟩) ?_ ?_
  rotate_left
  · intro w'
    go_simp
    with_reducible rfl
  rotate_left
  · simp only [Act.put, List.setIfInBounds_toArray, List.set_cons_zero, List.set_cons_succ, i64_w, i32_w]
    rfl
  refine last_ (i := 10) (N := some 30) #[true, true, true, true, true, true, true, true, true, true, true, false] rfl rfl (by kernel_rfl) (by decide) (fun K hK => ?_)
  refine value_ (w1 := ?_) (v := ?_) (by rfl) rfl ?_ ?_
  rotate_left 2
  · go_simp
    constructor
    · rfl
    · rfl
  refine hK.out _ _ ?_
  clear hK K
  refine norm_ (a' := ?_) ?_ ?_
  rotate_left
  · show Act.put _ (some 30) _ = _
    simp only [Act.put, List.setIfInBounds_toArray, List.set_cons_zero, List.set_cons_succ, i64_w, i32_w]
    rfl
  refine pure_ (i := 11) (N := some 4) (v := ?_) (a' := ?_) #[true, true, true, true, true, true, true, true, true, true, true, true] rfl rfl (by kernel_rfl) (fun _ _ _ h => h) (Or.inl ⟨by rfl, ?_⟩) ?_ ?_
  rotate_left
  · intro w'
    go_simp
    with_reducible rfl
  rotate_left
  · simp only [Act.put, List.setIfInBounds_toArray, List.set_cons_zero, List.set_cons_succ, i64_w, i32_w]
    rfl
  refine done_ (by kernel_rfl) ?_
  go_wp2
  go_ret2
  have h5 := HR5.out
  refine ⟨rfl, ⟨-1, ?_⟩, ?_, ?_⟩
  · exact blk_set h5 1 _
  · exact blk_far HS5.out (p := ⟨R, 1, none⟩) HRS.out.symm _
  · exact HB5.out.setCell HBR.out _
end Go.Proofs.YtclbkinlgjdojaaDoor.Rv
