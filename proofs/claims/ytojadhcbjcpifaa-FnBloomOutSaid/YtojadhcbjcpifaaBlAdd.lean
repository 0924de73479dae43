/-
  spec.BloomAdd: a copy of a filter in which all bits that a hash names are set.
-/
import Derived.Test.YtojadhcbjcpifaaBlHas
namespace Go.Proofs.Ytojadhcbjcpifaa.Bl
open Go.RowKit Go.Proofs.YtojadhcbjcpifaaW.PrintWords Go.Proofs.YtojadhcbjcpifaaW.PrintLast Go.Proofs.Ytojadhcbjcpifaa.Reg Go.Proofs.Ytojadhcbjcpifaa.By Go.Proofs.Ytojadhcbjcpifaa.Tx Go.Proofs.Ytojadhcbjcpifaa.Mur Go.Proofs.Ytojadhcbjcpifaa.Tok
set_option linter.unusedSimpArgs false
set_option linter.unusedVariables false

/-- The reference's filter while bits are set: its box, its result, its row. -/
structure Sb (N : Nat) (w w' : World) (g n c : Nat) (l : List Int) (k t : Int) : Prop where
  box : w'.heap[N]? = some (.cells #[.slice (some ⟨g, 0, none⟩) n c, .int .u32 k, .int .u32 t] 27 (0, 0))
  res : w'.heap[N + 1]? = some (.cells #[.slice none 0 0, .int .u32 0, .int .u32 0] 27 (0, 0))
  row : Kd.R (Kd.int .u8) 5 w' (N + 2) (fun _ => True) (.slice (some ⟨g, 0, none⟩) n c) l
  bel : Below N w w'
theorem Sb.below {N : Nat} {w w1 w2 : World} {g n c : Nat} {l : List Int} {k t : Int} (h : Sb N w w1 g n c l k t) (hb : Below w1.heap.size w1 w2) (hN : N ≤ w1.heap.size) : Sb N w w2 g n c l k t :=
  ⟨blk_below h.box hb, blk_below h.res hb, Kd.R_below h.row hb, below_then h.bel hN hb⟩
theorem Sb.ge {N : Nat} {w w1 : World} {g n c : Nat} {l : List Int} {k t : Int} (h : Sb N w w1 g n c l k t) : N + 2 ≤ g := Kd.R_base h.row g rfl
theorem Sb.put {N : Nat} {w w1 : World} {g n c : Nat} {l : List Int} {k t : Int} (h : Sb N w w1 g n c l k t) (i : Int) (x : Int) : Sb N w (w1.setCell ⟨g, i.toNat, none⟩ (.int .u8 x)) g n c (l.set i.toNat x) k t := by
  have hg := h.ge
  exact ⟨blk_far h.box (by show N ≠ g; omega) _, blk_far h.res (by show N + 1 ≠ g; omega) _, Kd.R_putn h.row i x, h.bel.setCell (by show N ≤ g; omega) _⟩
theorem Sb.len {N : Nat} {w w1 : World} {g n c : Nat} {l : List Int} {k t : Int} (h : Sb N w w1 g n c l k t) : l.length = n := (Kd.R_reads' h.row).1.symm
set_option maxHeartbeats 8000000 in
set_option maxRecDepth 100000 in
theorem add_calls (A : Option Addr) (l : List Int) (c K : Nat) (t : Int) (B : Option Addr) (cb : Nat) (b : List Int) (w : World) (hA : Kd.C (Kd.int .u8) w A l.length l) (hBy : Bytes l) (hC : Kd.C (Kd.int .u8) w B b.length b) (hb : Bytes b) (hl : b.length ≤ 100000) (hn : 1 ≤ l.length ∧ l.length ≤ 2000) (hk : 1 ≤ K ∧ K ≤ 50) (ht : 0 ≤ t ∧ t < 4294967296) :
    Calls Try.prog 11 #[.agg #[.slice A l.length c, .int .u32 (K : Int), .int .u32 t], .slice B b.length cb] w fun e w' => ∃ g c', e = .returned (.agg #[.slice (some ⟨g, 0, none⟩) l.length c', .int .u32 (K : Int), .int .u32 t]) ∧ Own w w' (.slice (some ⟨g, 0, none⟩) l.length c') (addB l.length t b l K) := by
  obtain ⟨n, hnn⟩ : ∃ n, l.length = n := ⟨_, rfl⟩
  obtain ⟨k, hkk⟩ : ∃ k : Int, (K : Int) = k := ⟨_, rfl⟩
  rw [hnn, hkk]
  rw [hnn] at hA hn
  have hc : ∀ W, Below ((w.alloc (.cells #[.slice A n c, .int .u32 k, .int .u32 t] 27)).alloc (.cells #[.slice none 0 0, .int .u32 0, .int .u32 0] 27)).heap.size ((w.alloc (.cells #[.slice A n c, .int .u32 k, .int .u32 t] 27)).alloc (.cells #[.slice none 0 0, .int .u32 0, .int .u32 0] 27)) W → W.heap[w.heap.size]? = some (.cells #[.slice A n c, .int .u32 k, .int .u32 t] 27 (0, 0)) ∧ W.heap[w.heap.size + 1]? = some (.cells #[.slice none 0 0, .int .u32 0, .int .u32 0] 27 (0, 0)) := fun W hW =>
    ⟨blk_below (blk_below (heap_alloc_new w _) (below_alloc (Below.refl _ _) _)) hW, by have := blk_below (heap_alloc_new (w.alloc (.cells #[.slice A n c, .int .u32 k, .int .u32 t] 27)) _) hW; simpa using this⟩
  have HN := Lib.hid hn
  have HNN := Lib.hid hnn
  have HK0 := Lib.hid hk
  have HKK := Lib.hid hkk
  have HBY := Lib.hid hBy
  have HC := Lib.hid hc
  have HBIT := Lib.hid (show ∀ W g c' i, Below w.heap.size w W → 0 ≤ i ∧ i < 4294967296 → Calls Try.prog 23 #[.agg #[.slice (some ⟨g, 0, none⟩) n c', .int .u32 k, .int .u32 t], .int .u32 i, .slice B b.length cb] W fun e w' => e = .returned (.int .u32 (bitOf n i t b)) ∧ Below W.heap.size W w' from fun W g c' i hW hi => bit_calls (some ⟨g, 0, none⟩) n c' k t i B cb b W (Kd.C_below hC hW) hb hl hn hi ht)
  have WB := Lib.hid (show Below w.heap.size w ((w.alloc (.cells #[.slice A n c, .int .u32 k, .int .u32 t] 27)).alloc (.cells #[.slice none 0 0, .int .u32 0, .int .u32 0] 27)) from below_alloc (below_alloc (Below.refl _ _) _) _)
  have WS := Lib.hid (show ((w.alloc (.cells #[.slice A n c, .int .u32 k, .int .u32 t] 27)).alloc (.cells #[.slice none 0 0, .int .u32 0, .int .u32 0] 27)).heap.size = w.heap.size + 2 from by simp)
  have HA := Lib.hid (Kd.C_below hA WB.out)
  have hn0 : ((n : Int) = 0) = False := eq_false (by omega)
  have hn1 : (n = 0) = False := eq_false (by omega)
  have hn2 : ((n : Int) == 0) = false := by rw [beq_eq_false_iff_ne]; omega
  clear hA hC hb hl hn hc hnn hkk hBy hk
  have z0 := (blk_cell (HC.out _ (Below.refl _ _)).1 0).trans rfl
  go_enter Try.func11, Try.ntmps11
  go_wp2_with (first
    | ((with_reducible refine gate_dst (N := 7) rfl ?_); refine Kd.R_lit (Kd.int .u8) _ 5 ?hg (N := 7) ?hd (xs := ([] : List Int)) (inner := []) (ok := fun _ => True) (okp := fun _ => True) ?hr ?hp (fun _ hk => hk) trivial (Below.refl _ _) (Nat.le_refl _) (by simp) ?_; (case hd => rfl); (case hg => rfl); (case hr => first | (go_simp; done) | (go_simp; rfl)); (case hp => exact (Reps.none _ _)); intro v1 w1 h1 hb1 hg_ hnew_; clear hg_ hnew_; have HO := Lib.hid (show Own ((w.alloc (.cells #[.slice A n c, .int .u32 k, .int .u32 t] 27)).alloc (.cells #[.slice none 0 0, .int .u32 0, .int .u32 0] 27)) w1 v1 [] from ⟨h1, hb1⟩); clear h1 hb1; have z1 := (blk_cell (HC.out _ HO.out.2).1 0).trans rfl)
    | ((with_reducible refine gate_builtin (b := .append) (xs := #[.tmp 7, .tmp 9]) rfl ?_); at_builtin; go_must (refine app (w0 := ((w.alloc (.cells #[.slice A n c, .int .u32 k, .int .u32 t] 27)).alloc (.cells #[.slice none 0 0, .int .u32 0, .int .u32 0] 27))) rfl (.tmp 7) (.tmp 9) rfl rfl rfl HO.out (by rw [HNN.out]; exact Kd.C_below HA.out HO.out.2) HNN.out (by have := HN.out; have := HNN.out; simp; omega) ?_); intro v_ w_ ho_ _; have hk_ := HC.out _ ho_.2; obtain ⟨g, c', rfl, hg1, hg2, hg3⟩ := Kd.R_form ho_.1 (by have := HN.out; have := HNN.out; simp; omega); have e_ : (([] : List Int) ++ l).length = n := (by simpa using HNN.out); rw [e_] at ho_ ⊢; have z2 := (blk_cell hk_.1 0).trans rfl; have zf2 := blk_frozen hk_.1 0; have SB := Lib.hid (show Sb w.heap.size w (w_.setCell ⟨w.heap.size, 0, none⟩ (.slice (some ⟨g, 0, none⟩) n c')) g n c' l k t from ⟨blk_set hk_.1 0 _, blk_far hk_.2 (by simp) _, Kd.R_set (Kd.R_lower ho_.1 (by rw [WS.out]; exact Nat.le_refl _)) hk_.1 (by decide) 0 _, (below_step WB.out ho_.2).setCell (Nat.le_refl _) _⟩); have z3 := (blk_cell SB.out.box 0).trans rfl; clear HO ho_ hk_ hg1 hg2 hg3))
  go_loopg [5] (K + 1) (fun kq v5 w' => ∃ (i : Nat) (xi : Int), v5 = .int .u32 xi ∧ Hid (xi = (i : Int)) ∧ Hid (i + kq = K + 1 ∧ i ≤ K) ∧ Hid (Sb w.heap.size w w' g n c' (addB n t b l i) k t))
  case atStart => exact ⟨0, 0, rfl, Lib.hid rfl, Lib.hid ⟨Nat.zero_add _, Nat.zero_le _⟩, SB⟩
  case round =>
    clear SB z0 z1 z2 zf2 z3
    obtain ⟨i, xi, rfl, HI, HK, SB⟩ := hrel
    have ha1 := (blk_cell SB.out.box 0).trans rfl
    have ha2 := (blk_cell SB.out.box 1).trans rfl
    have ha3 := (blk_cell SB.out.box 2).trans rfl
    have hgt : (wr.heap.size : Nat) ≥ w.heap.size := SB.out.bel.size
    by_cases ci : i < K
    · have q0 : xi < k := by rw [HI.out, ← HKK.out]; omega
      have p0 : 0 ≤ xi := by rw [HI.out]; omega
      have r0 : xi < 50 := by rw [HI.out]; have := HK0.out; omega
      have qb : decide (xi < k) = true := decide_eq_true q0
      obtain ⟨k1, rfl⟩ : ∃ k1, gk = k1 + 1 := ⟨gk - 1, by have := HK.out; omega⟩
      have hw1 : IntKind.u32.wrap (xi + 1) = xi + 1 := by unfold IntKind.wrap; simp [IntKind.bits, IntKind.signed]; omega
      have HBI := Lib.hid (HBIT.out wr g c' xi SB.out.bel (by omega))
      obtain ⟨x, hx⟩ : ∃ x, bitOf n xi t b = x := ⟨_, rfl⟩
      have hxr := bitOf_range n HN.out.1 xi t b
      rw [hx] at HBI hxr
      have HXR := Lib.hid hxr
      have HX := Lib.hid hx
      have hx8 : x < 16000 := by have := HN.out; omega
      have HQ := Lib.hid (quo8 x hxr.1 hx8)
      have HR := Lib.hid (rem8 x hxr.1)
      have hq0 : 0 ≤ x / 8 := by omega
      have hq1 : x / 8 < (n : Int) := by omega
      obtain ⟨q, hq⟩ : ∃ q, x / 8 = q := ⟨_, rfl⟩
      obtain ⟨r, hr⟩ : ∃ r, x % 8 = r := ⟨_, rfl⟩
      have hr0 : 0 ≤ r ∧ r < 8 := by omega
      rw [hq] at HQ hq0 hq1
      rw [hr] at HR
      have HQ2 := Lib.hid hq
      have HR2 := Lib.hid hr
      have HR0 := Lib.hid hr0
      have hr8 : r ≤ 8 := by omega
      have hr1 := hr0.1
      clear hx hq hr hr0 hxr q0 p0 r0 hx8
      go_wp2_with (first | (go_at_call 23; go_must (refine HBI.out.mono ?_); rintro e w3 ⟨rfl, hB3⟩; have SB3 := Lib.hid (SB.out.below hB3 hgt); clear hB3; have hqq := HQ.out; have hrr := HR.out; have hd2 := (blk_cell SB3.out.box 0).trans rfl; have hy3 := Kd.R_celln 0 SB3.out.row q hq0 hq1))
      obtain ⟨y, hy⟩ : ∃ y, (addB n t b l i).getD q.toNat 0 = y := ⟨_, rfl⟩
      have hy4 : w3.cell? ⟨g, q.toNat, none⟩ = some (.int .u8 y) := by rw [← hy]; exact hy3.1
      have HY4 := Lib.hid (And.intro hd2 (And.intro hy4 hy3.2))
      have HY := Lib.hid hy
      clear hy hy3 hy4 hd2 ha1 ha2 ha3
      refine start_ (n := 16) (S := fun w' => w'.cell? ⟨w.heap.size, 0, none⟩ = some (.slice (some ⟨g, 0, none⟩) n c') ∧ w'.cell? ⟨g, q.toNat, none⟩ = some (.int .u8 y) ∧ w'.frozen? ⟨g, q.toNat, none⟩ = false) (ds := [15]) #[false, false, false, false, false, false, false, false, false, false, false, false, false, false, false, false] (by kernel_rfl) rfl rfl ⟨HY4.out.1, HY4.out.2.1, HY4.out.2.2⟩ (fun hHeld => ?_)
      refine pure_ (i := 0) (N := some 27) (v := ?_) (a' := ?_) #[true, false, false, false, false, false, false, false, false, false, false, false, false, false, false, false] rfl rfl (by kernel_rfl) (fun _ _ _ h => h) (Or.inl ⟨by rfl, ?_⟩) ?_ ?_
      rotate_left
      · intro w'
        go_simp
        with_reducible rfl
      rotate_left
      · simp only [Act.put, List.setIfInBounds_toArray, List.set_cons_zero, List.set_cons_succ, i64_w, i32_w]
        rfl
      refine pure_ (i := 2) (N := some 29) (v := ?_) (a' := ?_) #[true, false, true, false, false, false, false, false, false, false, false, false, false, false, false, false] rfl rfl (by kernel_rfl) (fun _ _ _ h => h) (Or.inl ⟨by rfl, ?_⟩) ?_ ?_
      rotate_left
      · intro w'
        go_simp
        with_reducible rfl
      rotate_left
      · simp only [Act.put, List.setIfInBounds_toArray, List.set_cons_zero, List.set_cons_succ, i64_w, i32_w]
        rfl
      refine pure_ (i := 3) (N := some 30) (v := ?_) (a' := ?_) #[true, false, true, true, false, false, false, false, false, false, false, false, false, false, false, false] rfl rfl (by kernel_rfl) (fun _ _ _ h => h) (Or.inl ⟨by rfl, ?_⟩) ?_ ?_
      rotate_left
      · intro w'
        go_simp
        with_reducible rfl
      rotate_left
      · simp only [Act.put, List.setIfInBounds_toArray, List.set_cons_zero, List.set_cons_succ, i64_w, i32_w]
        rfl
      refine pure_ (i := 4) (N := some 31) (v := ?_) (a' := ?_) #[true, false, true, true, true, false, false, false, false, false, false, false, false, false, false, false] rfl rfl (by kernel_rfl) (fun _ _ _ h => h) (Or.inl ⟨by rfl, ?_⟩) ?_ ?_
      rotate_left
      · intro w'
        go_simp
        with_reducible rfl
      rotate_left
      · simp only [Act.put, List.setIfInBounds_toArray, List.set_cons_zero, List.set_cons_succ, i64_w, i32_w]
        rfl
      refine pure_ (i := 6) (N := some 33) (v := ?_) (a' := ?_) #[true, false, true, true, true, false, true, false, false, false, false, false, false, false, false, false] rfl rfl (by kernel_rfl) (fun _ _ _ h => h) (Or.inl ⟨by rfl, ?_⟩) ?_ ?_
      rotate_left
      · intro w'
        go_simp
        with_reducible rfl
      rotate_left
      · simp only [Act.put, List.setIfInBounds_toArray, List.set_cons_zero, List.set_cons_succ, i64_w, i32_w]
        rfl
      refine pure_ (i := 7) (N := some 34) (v := ?_) (a' := ?_) #[true, false, true, true, true, false, true, true, false, false, false, false, false, false, false, false] rfl rfl (by kernel_rfl) (fun _ _ _ h => h) (Or.inl ⟨by rfl, ?_⟩) ?_ ?_
      rotate_left
      · intro w'
        go_simp
        with_reducible rfl
      rotate_left
      · simp only [Act.put, List.setIfInBounds_toArray, List.set_cons_zero, List.set_cons_succ, i64_w, i32_w]
        rfl
      refine pure_ (i := 10) (N := some 37) (v := ?_) (a' := ?_) #[true, false, true, true, true, false, true, true, false, false, true, false, false, false, false, false] rfl rfl (by kernel_rfl) (fun _ _ _ h => h) (Or.inl ⟨by rfl, ?_⟩) ?_ ?_
      rotate_left
      · intro w'
        go_simp
        with_reducible rfl
      rotate_left
      · simp only [Act.put, List.setIfInBounds_toArray, List.set_cons_zero, List.set_cons_succ, i64_w, i32_w]
        rfl
      refine pure_ (i := 11) (N := some 38) (v := ?_) (a' := ?_) #[true, false, true, true, true, false, true, true, false, false, true, true, false, false, false, false] rfl rfl (by kernel_rfl) (fun _ _ _ h => h) (Or.inl ⟨by rfl, ?_⟩) ?_ ?_
      rotate_left
      · intro w'
        go_simp
        with_reducible rfl
      rotate_left
      · simp only [Act.put, List.setIfInBounds_toArray, List.set_cons_zero, List.set_cons_succ, i64_w, i32_w]
        rfl
      refine pure_ (i := 12) (N := some 39) (v := ?_) (a' := ?_) #[true, false, true, true, true, false, true, true, false, false, true, true, true, false, false, false] rfl rfl (by kernel_rfl) (fun _ _ _ h => h) (Or.inl ⟨by rfl, ?_⟩) ?_ ?_
      rotate_left
      · intro w'
        go_simp
        with_reducible rfl
      rotate_left
      · simp only [Act.put, List.setIfInBounds_toArray, List.set_cons_zero, List.set_cons_succ, i64_w, i32_w]
        rfl
      refine take_ (i := 1) (N := some 28) (v := ?_) (a' := ?_) #[true, true, true, true, true, false, true, true, false, false, true, true, true, false, false, false] rfl rfl (by kernel_rfl) (fun _ _ _ h => h) (Or.inl ⟨by rfl, ?_⟩) hHeld ?_ ?_
      rotate_left
      · rintro w' ⟨s0, s1, s2⟩
        go_simp
        with_reducible rfl
      rotate_left
      · simp only [Act.put, List.setIfInBounds_toArray, List.set_cons_zero, List.set_cons_succ, i64_w, i32_w]
        rfl
      refine take_ (i := 5) (N := some 32) (v := ?_) (a' := ?_) #[true, true, true, true, true, true, true, true, false, false, true, true, true, false, false, false] rfl rfl (by kernel_rfl) (fun _ _ _ h => h) (Or.inl ⟨by rfl, ?_⟩) hHeld ?_ ?_
      rotate_left
      · rintro w' ⟨s0, s1, s2⟩
        go_simp
        with_reducible rfl
      rotate_left
      · simp only [Act.put, List.setIfInBounds_toArray, List.set_cons_zero, List.set_cons_succ, i64_w, i32_w]
        rfl
      refine pure_ (i := 8) (N := some 35) (v := ?_) (a' := ?_) #[true, true, true, true, true, true, true, true, true, false, true, true, true, false, false, false] rfl rfl (by kernel_rfl) (fun _ _ _ h => h) (Or.inl ⟨by rfl, ?_⟩) ?_ ?_
      rotate_left
      · intro w'
        go_simp
        with_reducible rfl
      rotate_left
      · simp only [Act.put, List.setIfInBounds_toArray, List.set_cons_zero, List.set_cons_succ, i64_w, i32_w]
        rfl
      refine take_ (i := 9) (N := some 36) (v := ?_) (a' := ?_) #[true, true, true, true, true, true, true, true, true, true, true, true, true, false, false, false] rfl rfl (by kernel_rfl) (fun _ _ _ h => h) (Or.inl ⟨by rfl, ?_⟩) hHeld ?_ ?_
      rotate_left
      · rintro w' ⟨s0, s1, s2⟩
        go_simp
        with_reducible rfl
      rotate_left
      · simp only [Act.put, List.setIfInBounds_toArray, List.set_cons_zero, List.set_cons_succ, i64_w, i32_w]
        rfl
      refine pure_ (i := 13) (N := some 40) (v := ?_) (a' := ?_) #[true, true, true, true, true, true, true, true, true, true, true, true, true, true, false, false] rfl rfl (by kernel_rfl) (fun _ _ _ h => h) (Or.inl ⟨by rfl, ?_⟩) ?_ ?_
      rotate_left
      · intro w'
        go_simp
        with_reducible rfl
      rotate_left
      · simp only [Act.put, List.setIfInBounds_toArray, List.set_cons_zero, List.set_cons_succ, i64_w, i32_w]
        rfl
      refine pure_ (i := 14) (N := some 41) (v := ?_) (a' := ?_) #[true, true, true, true, true, true, true, true, true, true, true, true, true, true, true, false] rfl rfl (by kernel_rfl) (fun _ _ _ h => h) (Or.inl ⟨by rfl, ?_⟩) ?_ ?_
      rotate_left
      · intro w'
        go_simp
        with_reducible rfl
      rotate_left
      · simp only [Act.put, List.setIfInBounds_toArray, List.set_cons_zero, List.set_cons_succ, i64_w, i32_w]
        rfl
      refine last_ (i := 15) (N := none) #[true, true, true, true, true, true, true, true, true, true, true, true, true, true, true, true] rfl rfl (by kernel_rfl) (by decide) (fun K hK => ?_)
      refine skip_ (w1 := ?_) (by rfl) rfl ?_ ?_
      rotate_left
      · go_simp
        rfl
      refine hK.out _ _ ?_
      clear hK K
      refine done_ (by kernel_rfl) ?_
      go_wp2
      go_roundg k1
      case measure => omega
      case rel => exact ⟨i + 1, xi + 1, rfl, Lib.hid (by rw [HI.out]; omega), Lib.hid (by have := HK.out; omega), Lib.hid (by
          have hp := (SB3.out.put q (orb y r)).below (below_drew (Below.refl _ _)) (by have := SB3.out.bel.size; simpa using this)
          have e : (addB n t b l i).set q.toNat (orb y r) = addB n t b l (i + 1) := by rw [addB, setB, ← HI.out, HX.out, HQ2.out, HR2.out, HY.out]
          rw [e] at hp
          exact hp)⟩
    · have qb : decide (xi < k) = false := decide_eq_false (by rw [HI.out, ← HKK.out]; omega)
      have rs0 := (blk_cell SB.out.res 0).trans rfl
      have rs1 := (blk_cell SB.out.res 1).trans rfl
      have rs2 := (blk_cell SB.out.res 2).trans rfl
      have fs0 := blk_frozen SB.out.res 0
      have fs1 := blk_frozen SB.out.res 1
      have fs2 := blk_frozen SB.out.res 2
      go_wp2
      have eK : i = K := by have := HK.out; omega
      have hrow := Kd.R_set (Kd.R_set (Kd.R_set SB.out.row SB.out.res (by decide) 0 (.slice (some ⟨g, 0, none⟩) n c')) (blk_set SB.out.res 0 _) (by decide) 1 (.int .u32 k)) (blk_set (blk_set SB.out.res 0 _) 1 _) (by decide) 2 (.int .u32 t)
      have hbel := ((SB.out.bel.setCell (p := ⟨w.heap.size + 1, 0, none⟩) (Nat.le_succ _) (.slice (some ⟨g, 0, none⟩) n c')).setCell (p := ⟨w.heap.size + 1, 1, none⟩) (Nat.le_succ _) (.int .u32 k)).setCell (p := ⟨w.heap.size + 1, 2, none⟩) (Nat.le_succ _) (.int .u32 t)
      have hres : (((wr.setCell ⟨w.heap.size + 1, 0, none⟩ (.slice (some ⟨g, 0, none⟩) n c')).setCell ⟨w.heap.size + 1, 1, none⟩ (.int .u32 k)).setCell ⟨w.heap.size + 1, 2, none⟩ (.int .u32 t)).heap[w.heap.size + 1]? = some (.cells #[.slice (some ⟨g, 0, none⟩) n c', .int .u32 k, .int .u32 t] 27 (0, 0)) := blk_set (blk_set (blk_set SB.out.res 0 _) 1 _) 2 _
      rw [eK] at hrow
      refine bodyPost_ret (results_cell_row (by rfl) _ _ (w.heap.size + 1) 27 #[.slice (some ⟨g, 0, none⟩) n c', .int .u32 k, .int .u32 t] (0, 0) _ (by rfl) hres Try.underlying27 (by rfl) (by kernel_rfl)) (by rfl) ⟨g, c', rfl, Kd.R_lower hrow (by omega), hbel⟩
end Go.Proofs.Ytojadhcbjcpifaa.Bl
