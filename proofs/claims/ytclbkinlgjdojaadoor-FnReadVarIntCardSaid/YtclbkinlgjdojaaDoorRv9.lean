/-
  wire.ReadVarInt, impl.ReadVarInt.
-/
import Derived.Test.YtclbkinlgjdojaaDoorRv8
import Derived.Defers
namespace Go.Proofs.YtclbkinlgjdojaaDoor.Rv
open Go.RowKit Go.Proofs.YtclbkinlgjdojaaDoorW.PrintWords Go.Proofs.YtclbkinlgjdojaaDoorW.PrintLast Go.Proofs.YtclbkinlgjdojaaDoor.Reg Go.Proofs.YtclbkinlgjdojaaDoor.Tok
set_option linter.unusedSimpArgs false
set_option linter.unusedVariables false

theorem buf_calls {B R S : Nat} {A : Option Addr} {c : Nat} {l : List Int} {a b : Addr} {w0 : World} (X : Cx B R S A c l a b w0) (cs : Array Value) (w : World) (hW : Below B w0 w) (h : Rd w R A l.length c 0) (hz : cs.size = 8) (hS : w.heap[S]? = some (.cells cs 5 (0, 0))) :
    Calls Tryd.prog 16 #[Rdv R, .int .u32 0, .slice (some ⟨S, 0, none⟩) 8 8] w fun e w' => BOut R A l.length c (rvi l) e w' ∧ Below B w w' := by
  match l, X, h with
  | [], X, h => exact buf_nil X _ cs w hW h hz hS
  | d :: t, X, h =>
    have hd := X.hby d List.mem_cons_self
    by_cases c1 : d < 253
    · rw [show rvi (d :: t) = some (d, 1) from if_pos c1]
      exact buf_small X _ cs w hW h hz hS c1
    · by_cases c2 : d = 253
      · subst c2
        exact buf_253 X cs w hW h hz hS
      · by_cases c3 : d = 254
        · subst c3
          exact buf_254 X cs w hW h hz hS
        · obtain rfl : d = 255 := by omega
          exact buf_255 X cs w hW h hz hS
set_option maxHeartbeats 4000000 in
set_option maxRecDepth 100000 in
theorem borrow_calls (w : World) : Calls Tryd.prog 14 #[.agg #[]] w fun e w' => ∃ s, e = .returned (.slice (some ⟨s, 0, none⟩) 8 8) ∧ w.heap.size ≤ s ∧ (∃ c0 c1 c2 c3 c4 c5 c6 c7 : Value, w'.heap[s]? = some (.cells #[c0, c1, c2, c3, c4, c5, c6, c7] 5 (0, 0))) ∧ Below w.heap.size w w' := by
  have hmk : ∀ w : World, (Instr.makeSlice 22 (.int .i64 8) (.int .i64 8)).run Tryd.prog w = .ok (.slice (some ⟨w.heap.size, 0, none⟩) 8 8) (w.alloc (.cells #[.int .u8 0, .int .u8 0, .int .u8 0, .int .u8 0, .int .u8 0, .int .u8 0, .int .u8 0, .int .u8 0] 5)) := fun w => by kernel_rfl
  go_enter Tryd.func14, Tryd.ntmps14
  go_wp2
  go_ret
  refine ⟨_, rfl, Nat.le_succ _, ⟨.int .u8 0, .int .u8 0, .int .u8 0, .int .u8 0, .int .u8 0, .int .u8 0, .int .u8 0, .int .u8 0, ?_⟩, below_alloc (below_alloc (Below.refl _ _) _) _⟩
  rw [show w.heap.size + 1 = (w.alloc (.cells #[] 47)).heap.size from by simp]
  exact heap_alloc_new _ _
set_option maxHeartbeats 4000000 in
set_option maxRecDepth 100000 in
theorem return_deferred (v : Value) (w : World) (u : FrameMode) :
    CallsD Tryd.prog 15 #[.agg #[], v] u w fun e u' w' => u' = u ∧ (e = .returned (.tuple #[]) ∧ Below w.heap.size w w') := by
  go_enter_d Tryd.func15, Tryd.ntmps15
  go_wp2
  go_end0
  exact ⟨rfl, below_alloc (Below.refl _ _) _⟩
set_option maxHeartbeats 8000000 in
set_option maxRecDepth 100000 in
theorem wread_calls (B R : Nat) (A : Option Addr) (c : Nat) (l : List Int) (a b : Addr) (w : World) (h : Rd w R A l.length c 0) (hc : l.length ≤ c) (hcm : c ≤ 9223372036854775807) (hn : l.length ≤ 100000) (hAR : ∀ ad, A = some ad → 0 < l.length → ad.block ≠ R) (hB : B ≤ R) (h3 : 3 < B) (hby : Bytes l) (hC : ∀ W, Below B w W → Kd.C (Kd.int .u8) W A l.length l) (hE : ∀ W, Below B w W → Errs W a b) :
    Calls Tryd.prog 8 #[Rdv R, .int .u32 0] w fun e w' => BOut R A l.length c (rvi l) e w' ∧ Below B w w' := by
  have hRl := h.lt
  have hbw : B ≤ w.heap.size := Nat.le_trans hB (Nat.le_of_lt hRl)
  have H := Lib.hid (fun s (W : World) (cs : Array Value) (hs : w.heap.size ≤ s) (hW : Below w.heap.size w W) (hz : cs.size = 8) (hS : W.heap[s]? = some (.cells cs 5 (0, 0))) =>
    buf_calls (S := s) ⟨hc, hcm, hn, by omega, hAR, ⟨hB, by omega⟩, h3, hby, hC, hE⟩ cs W (below_low hbw hW) (h.below hW) hz hS)
  have HBW := Lib.hid hbw
  obtain ⟨n, hnn⟩ : ∃ n, l.length = n := ⟨_, rfl⟩
  rw [hnn] at H ⊢
  clear h hc hcm hn hAR hB h3 hby hC hE hRl hbw hnn
  rcases ho : rvi l with _ | ⟨v, u⟩
  all_goals rw [ho] at H; clear ho
  · go_enter_defers Tryd.func8, Tryd.ntmps8
    go_wp2_with (first
      | (go_at_call 14; go_must ((with_reducible refine (borrow_calls _).mono ?_); rintro e w1 ⟨s, rfl, hs, ⟨d0, d1, d2, d3, d4, d5, d6, d7, hcl⟩, hb⟩; have H1 := Lib.hid (H.out s w1 _ hs hb rfl hcl); have HB1 := Lib.hid (below_low HBW.out hb); have HS1 := Lib.hid (Nat.le_trans HBW.out hb.size); clear hs hcl hb))
      | (go_at_call 16; go_must ((with_reducible refine H1.out.mono ?_); rintro e w2 ⟨⟨⟨v, T, p, rfl⟩, i, hi0, hi1, hR⟩, hB⟩; have HR := Lib.hid (And.intro hi0 (And.intro hi1 hR)); have HS2 := Lib.hid (Nat.le_trans HS1.out hB.size); have HB2 := Lib.hid (HB1.out.trans hB); clear hi0 hi1 hR hB H1)))
    refine leaves_cons (f := 15) (args := #[.agg #[], .slice (some ⟨s, 0, none⟩) 8 8]) (by simp) (by simp [go_sem]) ?_
    refine (return_deferred _ _ _).mono ?_
    rintro e u' w'' ⟨rfl, rfl, hb⟩
    exact ⟨_, results_tmp2 rfl _ _ _, ⟨⟨_, _, _, rfl⟩, i, HR.out.1, HR.out.2.1, HR.out.2.2.below hb⟩, HB2.out.trans (below_low HS2.out hb)⟩
  · go_enter_defers Tryd.func8, Tryd.ntmps8
    go_wp2_with (first
      | (go_at_call 14; go_must ((with_reducible refine (borrow_calls _).mono ?_); rintro e w1 ⟨s, rfl, hs, ⟨d0, d1, d2, d3, d4, d5, d6, d7, hcl⟩, hb⟩; have H1 := Lib.hid (H.out s w1 _ hs hb rfl hcl); have HB1 := Lib.hid (below_low HBW.out hb); have HS1 := Lib.hid (Nat.le_trans HBW.out hb.size); clear hs hcl hb))
      | (go_at_call 16; go_must ((with_reducible refine H1.out.mono ?_); rintro e w2 ⟨⟨rfl, hR⟩, hB⟩; have HR := Lib.hid hR; have HS2 := Lib.hid (Nat.le_trans HS1.out hB.size); have HB2 := Lib.hid (HB1.out.trans hB); clear hR hB H1)))
    refine leaves_cons (f := 15) (args := #[.agg #[], .slice (some ⟨s, 0, none⟩) 8 8]) (by simp) (by simp [go_sem]) ?_
    refine (return_deferred _ _ _).mono ?_
    rintro e u' w'' ⟨rfl, rfl, hb⟩
    exact ⟨_, results_tmp2 rfl _ _ _, ⟨rfl, HR.out.below hb⟩, HB2.out.trans (below_low HS2.out hb)⟩
set_option maxHeartbeats 8000000 in
set_option maxRecDepth 100000 in
theorem reader_calls (A : Option Addr) (n c : Nat) (w : World) :
    Calls Tryd.prog 7 #[.slice A n c] w fun e w' => ∃ R, e = .returned (.pointer (some ⟨R, 0, none⟩)) ∧ w.heap.size ≤ R ∧ Rd w' R A n c 0 ∧ Below w.heap.size w w' := by
  have HN := Lib.hid (show Calls Tryd.prog 13 #[.slice A n c] w fun e w' => e = .returned (.pointer (some ⟨w.heap.size, 0, none⟩)) ∧ w' = w.alloc (.cells #[.slice A n c, .int .i64 0, .int .i64 (-1)] 52) from by
    go_enter Tryd.func13, Tryd.ntmps13
    go_wp2
    go_ret
    exact ⟨rfl, rfl⟩)
  go_enter Tryd.func7, Tryd.ntmps7
  go_wp2_with (go_at_call 13; go_must ((with_reducible refine HN.out.mono ?_); rintro e w1 ⟨rfl, hw⟩; have HW := Lib.hid hw; clear hw))
  go_ret
  refine ⟨_, rfl, Nat.le_refl _, ?_, ?_⟩
  · rw [HW.out]; exact ⟨-1, heap_alloc_new _ _⟩
  · rw [HW.out]; exact below_alloc (Below.refl _ _) _
set_option maxHeartbeats 8000000 in
set_option maxRecDepth 100000 in
theorem len_calls (R : Nat) (A : Option Addr) (n c : Nat) (i : Int) (w : World) (h : Rd w R A n c i) (hi : 0 ≤ i ∧ i ≤ n) (hn : n ≤ 100000) :
    Calls Tryd.prog 9 #[.pointer (some ⟨R, 0, none⟩)] w fun e w' => e = .returned (.int .i64 ((n : Int) - i)) ∧ Below w.heap.size w w' := by
  obtain ⟨pr, h⟩ := h
  have Z := Lib.hid (And.intro ((blk_cell h 0).trans rfl : w.cell? ⟨R, 0, none⟩ = some (.slice A n c)) ((blk_cell h 1).trans rfl : w.cell? ⟨R, 1, none⟩ = some (.int .i64 i)))
  obtain ⟨q, hq⟩ : ∃ q, (n : Int) - i = q := ⟨_, rfl⟩
  rw [hq]
  by_cases ci : (n : Int) ≤ i
  · have hd : decide ((n : Int) ≤ i) = true := decide_eq_true ci
    obtain rfl : q = 0 := by omega
    clear h hi hn hq ci
    go_enter Tryd.func9, Tryd.ntmps9
    go_wp2
    refine start_ (n := 10) (S := fun w' => w'.cell? ⟨R, 0, none⟩ = some (.slice A n c) ∧ w'.cell? ⟨R, 1, none⟩ = some (.int .i64 i)) (ds := []) #[false, false, false, false, false, false, false, false, false, false] (by kernel_rfl) rfl rfl ⟨Z.out.1, Z.out.2⟩ (fun hHeld => ?_)
    refine pure_ (i := 0) (N := some 3) (v := ?_) (a' := ?_) #[true, false, false, false, false, false, false, false, false, false] rfl rfl (by kernel_rfl) (fun _ _ _ h => h) (Or.inl ⟨by rfl, ?_⟩) ?_ ?_
    rotate_left
    · intro w'
      go_simp
      with_reducible rfl
    rotate_left
    · simp only [Act.put, List.setIfInBounds_toArray, List.set_cons_zero, List.set_cons_succ, i64_w, i32_w]
      rfl
    refine pure_ (i := 1) (N := some 4) (v := ?_) (a' := ?_) #[true, true, false, false, false, false, false, false, false, false] rfl rfl (by kernel_rfl) (fun _ _ _ h => h) (Or.inl ⟨by rfl, ?_⟩) ?_ ?_
    rotate_left
    · intro w'
      go_simp
      with_reducible rfl
    rotate_left
    · simp only [Act.put, List.setIfInBounds_toArray, List.set_cons_zero, List.set_cons_succ, i64_w, i32_w]
      rfl
    refine pure_ (i := 2) (N := some 5) (v := ?_) (a' := ?_) #[true, true, true, false, false, false, false, false, false, false] rfl rfl (by kernel_rfl) (fun _ _ _ h => h) (Or.inl ⟨by rfl, ?_⟩) ?_ ?_
    rotate_left
    · intro w'
      go_simp
      with_reducible rfl
    rotate_left
    · simp only [Act.put, List.setIfInBounds_toArray, List.set_cons_zero, List.set_cons_succ, i64_w, i32_w]
      rfl
    refine pure_ (i := 4) (N := some 7) (v := ?_) (a' := ?_) #[true, true, true, false, true, false, false, false, false, false] rfl rfl (by kernel_rfl) (fun _ _ _ h => h) (Or.inl ⟨by rfl, ?_⟩) ?_ ?_
    rotate_left
    · intro w'
      go_simp
      with_reducible rfl
    rotate_left
    · simp only [Act.put, List.setIfInBounds_toArray, List.set_cons_zero, List.set_cons_succ, i64_w, i32_w]
      rfl
    refine pure_ (i := 5) (N := some 8) (v := ?_) (a' := ?_) #[true, true, true, false, true, true, false, false, false, false] rfl rfl (by kernel_rfl) (fun _ _ _ h => h) (Or.inl ⟨by rfl, ?_⟩) ?_ ?_
    rotate_left
    · intro w'
      go_simp
      with_reducible rfl
    rotate_left
    · simp only [Act.put, List.setIfInBounds_toArray, List.set_cons_zero, List.set_cons_succ, i64_w, i32_w]
      rfl
    refine pure_ (i := 6) (N := some 9) (v := ?_) (a' := ?_) #[true, true, true, false, true, true, true, false, false, false] rfl rfl (by kernel_rfl) (fun _ _ _ h => h) (Or.inl ⟨by rfl, ?_⟩) ?_ ?_
    rotate_left
    · intro w'
      go_simp
      with_reducible rfl
    rotate_left
    · simp only [Act.put, List.setIfInBounds_toArray, List.set_cons_zero, List.set_cons_succ, i64_w, i32_w]
      rfl
    refine take_ (i := 3) (N := some 6) (v := ?_) (a' := ?_) #[true, true, true, true, true, true, true, false, false, false] rfl rfl (by kernel_rfl) (fun _ _ _ h => h) (Or.inl ⟨by rfl, ?_⟩) hHeld ?_ ?_
    rotate_left
    · rintro w' ⟨s0, s1⟩
      go_simp
      with_reducible rfl
    rotate_left
    · simp only [Act.put, List.setIfInBounds_toArray, List.set_cons_zero, List.set_cons_succ, i64_w, i32_w]
      rfl
    refine take_ (i := 7) (N := some 10) (v := ?_) (a' := ?_) #[true, true, true, true, true, true, true, true, false, false] rfl rfl (by kernel_rfl) (fun _ _ _ h => h) (Or.inl ⟨by rfl, ?_⟩) hHeld ?_ ?_
    rotate_left
    · rintro w' ⟨s0, s1⟩
      go_simp
      with_reducible rfl
    rotate_left
    · simp only [Act.put, List.setIfInBounds_toArray, List.set_cons_zero, List.set_cons_succ, i64_w, i32_w]
      rfl
    refine pure_ (i := 8) (N := some 11) (v := ?_) (a' := ?_) #[true, true, true, true, true, true, true, true, true, false] rfl rfl (by kernel_rfl) (fun _ _ _ h => h) (Or.inl ⟨by rfl, ?_⟩) ?_ ?_
    rotate_left
    · intro w'
      go_simp
      with_reducible rfl
    rotate_left
    · simp only [Act.put, List.setIfInBounds_toArray, List.set_cons_zero, List.set_cons_succ, i64_w, i32_w]
      rfl
    refine pure_ (i := 9) (N := some 12) (v := ?_) (a' := ?_) #[true, true, true, true, true, true, true, true, true, true] rfl rfl (by kernel_rfl) (fun _ _ _ h => h) (Or.inl ⟨by rfl, ?_⟩) ?_ ?_
    rotate_left
    · intro w'
      go_simp
      with_reducible rfl
    rotate_left
    · simp only [Act.put, List.setIfInBounds_toArray, List.set_cons_zero, List.set_cons_succ, i64_w, i32_w]
      rfl
    refine done_ (by kernel_rfl) ?_
    go_wp2
    go_ret
    exact ⟨rfl, below_drew (Below.refl _ _)⟩
  · have hd : decide ((n : Int) ≤ i) = false := decide_eq_false ci
    have hw : wrap64 ((n : Int) - i) = q := by rw [hq]; exact wrap64_id (by omega) (by omega)
    clear h hi hn hq ci
    go_enter Tryd.func9, Tryd.ntmps9
    go_wp2
    refine start_ (n := 10) (S := fun w' => w'.cell? ⟨R, 0, none⟩ = some (.slice A n c) ∧ w'.cell? ⟨R, 1, none⟩ = some (.int .i64 i)) (ds := []) #[false, false, false, false, false, false, false, false, false, false] (by kernel_rfl) rfl rfl ⟨Z.out.1, Z.out.2⟩ (fun hHeld => ?_)
    refine pure_ (i := 0) (N := some 3) (v := ?_) (a' := ?_) #[true, false, false, false, false, false, false, false, false, false] rfl rfl (by kernel_rfl) (fun _ _ _ h => h) (Or.inl ⟨by rfl, ?_⟩) ?_ ?_
    rotate_left
    · intro w'
      go_simp
      with_reducible rfl
    rotate_left
    · simp only [Act.put, List.setIfInBounds_toArray, List.set_cons_zero, List.set_cons_succ, i64_w, i32_w]
      rfl
    refine pure_ (i := 1) (N := some 4) (v := ?_) (a' := ?_) #[true, true, false, false, false, false, false, false, false, false] rfl rfl (by kernel_rfl) (fun _ _ _ h => h) (Or.inl ⟨by rfl, ?_⟩) ?_ ?_
    rotate_left
    · intro w'
      go_simp
      with_reducible rfl
    rotate_left
    · simp only [Act.put, List.setIfInBounds_toArray, List.set_cons_zero, List.set_cons_succ, i64_w, i32_w]
      rfl
    refine pure_ (i := 2) (N := some 5) (v := ?_) (a' := ?_) #[true, true, true, false, false, false, false, false, false, false] rfl rfl (by kernel_rfl) (fun _ _ _ h => h) (Or.inl ⟨by rfl, ?_⟩) ?_ ?_
    rotate_left
    · intro w'
      go_simp
      with_reducible rfl
    rotate_left
    · simp only [Act.put, List.setIfInBounds_toArray, List.set_cons_zero, List.set_cons_succ, i64_w, i32_w]
      rfl
    refine pure_ (i := 4) (N := some 7) (v := ?_) (a' := ?_) #[true, true, true, false, true, false, false, false, false, false] rfl rfl (by kernel_rfl) (fun _ _ _ h => h) (Or.inl ⟨by rfl, ?_⟩) ?_ ?_
    rotate_left
    · intro w'
      go_simp
      with_reducible rfl
    rotate_left
    · simp only [Act.put, List.setIfInBounds_toArray, List.set_cons_zero, List.set_cons_succ, i64_w, i32_w]
      rfl
    refine pure_ (i := 5) (N := some 8) (v := ?_) (a' := ?_) #[true, true, true, false, true, true, false, false, false, false] rfl rfl (by kernel_rfl) (fun _ _ _ h => h) (Or.inl ⟨by rfl, ?_⟩) ?_ ?_
    rotate_left
    · intro w'
      go_simp
      with_reducible rfl
    rotate_left
    · simp only [Act.put, List.setIfInBounds_toArray, List.set_cons_zero, List.set_cons_succ, i64_w, i32_w]
      rfl
    refine pure_ (i := 6) (N := some 9) (v := ?_) (a' := ?_) #[true, true, true, false, true, true, true, false, false, false] rfl rfl (by kernel_rfl) (fun _ _ _ h => h) (Or.inl ⟨by rfl, ?_⟩) ?_ ?_
    rotate_left
    · intro w'
      go_simp
      with_reducible rfl
    rotate_left
    · simp only [Act.put, List.setIfInBounds_toArray, List.set_cons_zero, List.set_cons_succ, i64_w, i32_w]
      rfl
    refine take_ (i := 3) (N := some 6) (v := ?_) (a' := ?_) #[true, true, true, true, true, true, true, false, false, false] rfl rfl (by kernel_rfl) (fun _ _ _ h => h) (Or.inl ⟨by rfl, ?_⟩) hHeld ?_ ?_
    rotate_left
    · rintro w' ⟨s0, s1⟩
      go_simp
      with_reducible rfl
    rotate_left
    · simp only [Act.put, List.setIfInBounds_toArray, List.set_cons_zero, List.set_cons_succ, i64_w, i32_w]
      rfl
    refine take_ (i := 7) (N := some 10) (v := ?_) (a' := ?_) #[true, true, true, true, true, true, true, true, false, false] rfl rfl (by kernel_rfl) (fun _ _ _ h => h) (Or.inl ⟨by rfl, ?_⟩) hHeld ?_ ?_
    rotate_left
    · rintro w' ⟨s0, s1⟩
      go_simp
      with_reducible rfl
    rotate_left
    · simp only [Act.put, List.setIfInBounds_toArray, List.set_cons_zero, List.set_cons_succ, i64_w, i32_w]
      rfl
    refine pure_ (i := 8) (N := some 11) (v := ?_) (a' := ?_) #[true, true, true, true, true, true, true, true, true, false] rfl rfl (by kernel_rfl) (fun _ _ _ h => h) (Or.inl ⟨by rfl, ?_⟩) ?_ ?_
    rotate_left
    · intro w'
      go_simp
      with_reducible rfl
    rotate_left
    · simp only [Act.put, List.setIfInBounds_toArray, List.set_cons_zero, List.set_cons_succ, i64_w, i32_w]
      rfl
    refine pure_ (i := 9) (N := some 12) (v := ?_) (a' := ?_) #[true, true, true, true, true, true, true, true, true, true] rfl rfl (by kernel_rfl) (fun _ _ _ h => h) (Or.inl ⟨by rfl, ?_⟩) ?_ ?_
    rotate_left
    · intro w'
      go_simp
      with_reducible rfl
    rotate_left
    · simp only [Act.put, List.setIfInBounds_toArray, List.set_cons_zero, List.set_cons_succ, i64_w, i32_w]
      rfl
    refine done_ (by kernel_rfl) ?_
    go_wp2
    refine start_ (n := 11) (S := fun w' => w'.cell? ⟨R, 0, none⟩ = some (.slice A n c) ∧ w'.cell? ⟨R, 1, none⟩ = some (.int .i64 i)) (ds := []) #[false, false, false, false, false, false, false, false, false, false, false] (by kernel_rfl) rfl rfl ⟨Z.out.1, Z.out.2⟩ (fun hHeld => ?_)
    refine pure_ (i := 0) (N := some 13) (v := ?_) (a' := ?_) #[true, false, false, false, false, false, false, false, false, false, false] rfl rfl (by kernel_rfl) (fun _ _ _ h => h) (Or.inl ⟨by rfl, ?_⟩) ?_ ?_
    rotate_left
    · intro w'
      go_simp
      with_reducible rfl
    rotate_left
    · simp only [Act.put, List.setIfInBounds_toArray, List.set_cons_zero, List.set_cons_succ, i64_w, i32_w]
      rfl
    refine pure_ (i := 1) (N := some 14) (v := ?_) (a' := ?_) #[true, true, false, false, false, false, false, false, false, false, false] rfl rfl (by kernel_rfl) (fun _ _ _ h => h) (Or.inl ⟨by rfl, ?_⟩) ?_ ?_
    rotate_left
    · intro w'
      go_simp
      with_reducible rfl
    rotate_left
    · simp only [Act.put, List.setIfInBounds_toArray, List.set_cons_zero, List.set_cons_succ, i64_w, i32_w]
      rfl
    refine pure_ (i := 2) (N := some 15) (v := ?_) (a' := ?_) #[true, true, true, false, false, false, false, false, false, false, false] rfl rfl (by kernel_rfl) (fun _ _ _ h => h) (Or.inl ⟨by rfl, ?_⟩) ?_ ?_
    rotate_left
    · intro w'
      go_simp
      with_reducible rfl
    rotate_left
    · simp only [Act.put, List.setIfInBounds_toArray, List.set_cons_zero, List.set_cons_succ, i64_w, i32_w]
      rfl
    refine pure_ (i := 5) (N := some 18) (v := ?_) (a' := ?_) #[true, true, true, false, false, true, false, false, false, false, false] rfl rfl (by kernel_rfl) (fun _ _ _ h => h) (Or.inl ⟨by rfl, ?_⟩) ?_ ?_
    rotate_left
    · intro w'
      go_simp
      with_reducible rfl
    rotate_left
    · simp only [Act.put, List.setIfInBounds_toArray, List.set_cons_zero, List.set_cons_succ, i64_w, i32_w]
      rfl
    refine pure_ (i := 6) (N := some 19) (v := ?_) (a' := ?_) #[true, true, true, false, false, true, true, false, false, false, false] rfl rfl (by kernel_rfl) (fun _ _ _ h => h) (Or.inl ⟨by rfl, ?_⟩) ?_ ?_
    rotate_left
    · intro w'
      go_simp
      with_reducible rfl
    rotate_left
    · simp only [Act.put, List.setIfInBounds_toArray, List.set_cons_zero, List.set_cons_succ, i64_w, i32_w]
      rfl
    refine pure_ (i := 7) (N := some 20) (v := ?_) (a' := ?_) #[true, true, true, false, false, true, true, true, false, false, false] rfl rfl (by kernel_rfl) (fun _ _ _ h => h) (Or.inl ⟨by rfl, ?_⟩) ?_ ?_
    rotate_left
    · intro w'
      go_simp
      with_reducible rfl
    rotate_left
    · simp only [Act.put, List.setIfInBounds_toArray, List.set_cons_zero, List.set_cons_succ, i64_w, i32_w]
      rfl
    refine take_ (i := 3) (N := some 16) (v := ?_) (a' := ?_) #[true, true, true, true, false, true, true, true, false, false, false] rfl rfl (by kernel_rfl) (fun _ _ _ h => h) (Or.inl ⟨by rfl, ?_⟩) hHeld ?_ ?_
    rotate_left
    · rintro w' ⟨s0, s1⟩
      go_simp
      with_reducible rfl
    rotate_left
    · simp only [Act.put, List.setIfInBounds_toArray, List.set_cons_zero, List.set_cons_succ, i64_w, i32_w]
      rfl
    refine pure_ (i := 4) (N := some 17) (v := ?_) (a' := ?_) #[true, true, true, true, true, true, true, true, false, false, false] rfl rfl (by kernel_rfl) (fun _ _ _ h => h) (Or.inl ⟨by rfl, ?_⟩) ?_ ?_
    rotate_left
    · intro w'
      go_simp
      with_reducible rfl
    rotate_left
    · simp only [Act.put, List.setIfInBounds_toArray, List.set_cons_zero, List.set_cons_succ, i64_w, i32_w]
      rfl
    refine take_ (i := 8) (N := some 21) (v := ?_) (a' := ?_) #[true, true, true, true, true, true, true, true, true, false, false] rfl rfl (by kernel_rfl) (fun _ _ _ h => h) (Or.inl ⟨by rfl, ?_⟩) hHeld ?_ ?_
    rotate_left
    · rintro w' ⟨s0, s1⟩
      go_simp
      with_reducible rfl
    rotate_left
    · simp only [Act.put, List.setIfInBounds_toArray, List.set_cons_zero, List.set_cons_succ, i64_w, i32_w]
      rfl
    refine pure_ (i := 9) (N := some 22) (v := ?_) (a' := ?_) #[true, true, true, true, true, true, true, true, true, true, false] rfl rfl (by kernel_rfl) (fun _ _ _ h => h) (Or.inl ⟨by rfl, ?_⟩) ?_ ?_
    rotate_left
    · intro w'
      go_simp
      with_reducible rfl
    rotate_left
    · simp only [Act.put, List.setIfInBounds_toArray, List.set_cons_zero, List.set_cons_succ, i64_w, i32_w]
      rfl
    refine pure_ (i := 10) (N := some 2) (v := ?_) (a' := ?_) #[true, true, true, true, true, true, true, true, true, true, true] rfl rfl (by kernel_rfl) (fun _ _ _ h => h) (Or.inl ⟨by rfl, ?_⟩) ?_ ?_
    rotate_left
    · intro w'
      go_simp
      with_reducible rfl
    rotate_left
    · simp only [Act.put, List.setIfInBounds_toArray, List.set_cons_zero, List.set_cons_succ, i64_w, i32_w]
      rfl
    refine done_ (by kernel_rfl) ?_
    go_wp2
    go_ret
    exact ⟨by first | rfl | exact congrArg (fun z => Ending.returned (.int .i64 z)) hw, below_drew (below_drew (Below.refl _ _))⟩
theorem one_nil (w : World) : Calls Tryd.prog 10 #[.nilIface] w fun e w' => e = .returned (.int .i64 0) ∧ w' = w := by
  go_enter Tryd.func10, Tryd.ntmps10
  go_wp2
  go_ret
  exact ⟨rfl, rfl⟩
theorem one_err (T : TypeId) (p : Addr) (w : World) : Calls Tryd.prog 10 #[.iface T (.pointer (some p))] w fun e w' => e = .returned (.int .i64 1) ∧ w' = w := by
  go_enter Tryd.func10, Tryd.ntmps10
  go_wp2
  go_ret
  exact ⟨rfl, rfl⟩
end Go.Proofs.YtclbkinlgjdojaaDoor.Rv
