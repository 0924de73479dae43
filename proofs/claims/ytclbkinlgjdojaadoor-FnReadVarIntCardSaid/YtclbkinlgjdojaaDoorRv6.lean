/-
  io.ReadAtLeast, io.ReadFull over a bytes.Reader.
-/
import Derived.Test.YtclbkinlgjdojaaDoorRv5
import Derived.LaidEql
namespace Go.Proofs.YtclbkinlgjdojaaDoor.Rv
open Go.RowKit Go.Proofs.YtclbkinlgjdojaaDoorW.PrintWords Go.Proofs.YtclbkinlgjdojaaDoorW.PrintLast Go.Proofs.YtclbkinlgjdojaaDoor.Reg Go.Proofs.YtclbkinlgjdojaaDoor.Tok
set_option linter.unusedSimpArgs false
set_option linter.unusedVariables false

/-- The reader as an interface value. -/
def Rdv (b : Nat) : Value := .iface 33 (.pointer (some ⟨b, 0, none⟩))
theorem call_write (b : Nat) (v : Value) (w : World) : (callMethod (.iface 33 (.pointer (some ⟨b, 0, none⟩))) "Read" #[v]).run Tryd.prog w = .ok (.enter 40 #[.pointer (some ⟨b, 0, none⟩), v]) w := by kernel_rfl
set_option maxRecDepth 100000 in
theorem exec_write {o : Oper} {ev : Operand → Value} {w : World} {b : Nat} {v : Value} (r x : Operand) (ts : Array TypeId) (ho : o.op = .call { callee := .invoke r "Read", args := #[x], argTypes := ts }) (hr : ev r = Rdv b) (hx : ev x = v) :
    (execOp ev o).run Tryd.prog w = .ok (.enter 40 #[.pointer (some ⟨b, 0, none⟩), v]) w := by
  have h := call_write b v w
  unfold execOp
  have hr' : ev r = .iface 33 (.pointer (some ⟨b, 0, none⟩)) := hr
  simp [ho, resolve, invoke, hr', hx, h]
set_option maxRecDepth 100000 in
theorem exec_nilW {o : Oper} {ev : Operand → Value} (w : World) {b : Nat} (x : Operand) (ho : o.op = .nilCheck x) (hx : ev x = .func (.method "Read") #[Rdv b] #[]) :
    (execOp ev o).run Tryd.prog w = .ok (.value (.func (.method "Read") #[Rdv b] #[])) w := by
  unfold execOp
  simp only [ho, hx, Rdv]
  kernel_rfl
theorem eof_eq (a : Addr) (W : World) : (binOp .eql 36 (.iface 68 (.pointer (some a))) (.iface 68 (.pointer (some a)))).run Tryd.prog W = .ok (.bool true) W := by
  obtain ⟨i, hi⟩ := Option.isSome_iff_exists.1 (show (Tryd.prog.info? 68).isSome = true by kernel_rfl)
  have hc : i.comparable = true := by
    have h : (Tryd.prog.info? 68).map (·.comparable) = some true := by kernel_rfl
    simpa [hi] using h
  obtain ⟨j, hj⟩ := Option.isSome_iff_exists.1 (show (Tryd.prog.info? 86).isSome = true by kernel_rfl)
  exact run_eql_iface_ptr_same W a Tryd.underlying36 Tryd.underlying68 hi hc hj
/-- Two variables of errors: io.EOF, io.ErrUnexpectedEOF. -/
structure Errs (w : World) (a b : Addr) : Prop where
  eof : w.cell? ⟨2, 0, none⟩ = some (.iface 68 (.pointer (some a)))
  une : w.cell? ⟨3, 0, none⟩ = some (.iface 68 (.pointer (some b)))
theorem Errs.below {w w1 : World} {a b : Addr} (h : Errs w a b) {B : Nat} (hB : 3 < B) (hb : Below B w w1) : Errs w1 a b :=
  ⟨(World.cell?_of_block (hb.block 2 (by omega))).trans h.eof, (World.cell?_of_block (hb.block 3 (by omega))).trans h.une⟩
set_option maxHeartbeats 8000000 in
set_option maxRecDepth 100000 in
theorem ral_ok (B R S T : Nat) (A : Option Addr) (c : Nat) (l : List Int) (i : Int) (k kc : Nat) (cs : Array Value) (w : World) (h : Rd w R A l.length c i) (hC : ∀ W, Below B w W → Kd.C (Kd.int .u8) W A l.length l) (hc : l.length ≤ c) (hcm : c ≤ 9223372036854775807) (hn : l.length ≤ 100000) (hi : 0 ≤ i) (hf : i + k ≤ l.length) (hk : 1 ≤ k ∧ k ≤ cs.size) (hk8 : k ≤ 8)
    (hS : w.heap[S]? = some (.cells cs T (0, 0))) (hRS : R ≠ S) (hAR : ∀ ad, A = some ad → ad.block ≠ R) (hB : B ≤ R ∧ B ≤ S) :
    Calls Tryd.prog 24 #[Rdv R, .slice (some ⟨S, 0, none⟩) k kc, .int .i64 (k : Int)] w fun e w' => e = .returned (.tuple #[.int .i64 (k : Int), .nilIface]) ∧ Rd w' R A l.length c (i + k) ∧ w'.heap[S]? = some (.cells ((((l.drop i.toNat).take k).map (Value.int .u8) ++ cs.toList.drop k).toArray) T (0, 0)) ∧ Below B w w' := by
  have HR := Lib.hid (read_some B R S T A c l i k kc k cs w.drew (by obtain ⟨pr, h⟩ := h; exact ⟨pr, h⟩) (hC _ (below_drew (Below.refl _ _))) hc hcm hn (by omega) (by omega) hk hS hRS hAR hB)
  obtain ⟨C1, hC1⟩ : ∃ C1, (((l.drop i.toNat).take k).map (Value.int .u8) ++ cs.toList.drop k).toArray = C1 := ⟨_, rfl⟩
  obtain ⟨N, hN⟩ : ∃ N, l.length = N := ⟨_, rfl⟩
  rw [hC1, hN] at HR ⊢
  have hkp : (0 : Int) < (k : Int) := by omega
  have hkd : decide ((0 : Int) < (k : Int)) = true := decide_eq_true hkp
  have HK := Lib.hid hk
  have hwk : wrap64 (k : Int) = k := wrap64_id (by omega) (by omega)
  clear h hC hc hcm hn hi hf hk hk8 hS hRS hAR hB hC1 hN
  go_enter Tryd.func24, Tryd.ntmps24
  go_wp2
  go_loopg [6, 7, 8] 2 (fun kq v6 v7 v8 w' => (Hid (kq = 2) ∧ v6 = .int .i64 0 ∧ v7 = .nilIface ∧ w' = w) ∨ (Hid (kq = 1) ∧ v6 = .int .i64 (k : Int) ∧ v7 = .nilIface ∧ Hid (Rd w' R A N c (i + k) ∧ w'.heap[S]? = some (.cells C1 T (0, 0)) ∧ Below B w w')))
  case atStart => exact .inl ⟨Lib.hid rfl, rfl, rfl, rfl⟩
  case round =>
    rcases hrel with ⟨HQ, rfl, rfl, rfl⟩ | ⟨HQ, rfl, rfl, HP⟩
    · obtain ⟨k1, rfl⟩ : ∃ k1, gk = k1 + 1 := ⟨gk - 1, by have := HQ.out; omega⟩
      go_wp2
      refine start_ (n := 13) (S := fun w' => True) (ds := []) #[false, false, false, false, false, false, false, false, false, false, false, false, false] (by kernel_rfl) rfl rfl trivial (fun hHeld => ?_)
      refine pure_ (i := 0) (N := some 22) (v := ?_) (a' := ?_) #[true, false, false, false, false, false, false, false, false, false, false, false, false] rfl rfl (by kernel_rfl) (fun _ _ _ h => h) (Or.inl ⟨by rfl, ?_⟩) ?_ ?_
      rotate_left
      · intro w'
        go_simp
        with_reducible rfl
      rotate_left
      · simp only [Act.put, List.setIfInBounds_toArray, List.set_cons_zero, List.set_cons_succ, i64_w, i32_w]
        rfl
      refine pure_ (i := 1) (N := some 23) (v := ?_) (a' := ?_) #[true, true, false, false, false, false, false, false, false, false, false, false, false] rfl rfl (by kernel_rfl) (fun _ _ _ h => h) (Or.inl ⟨by rfl, ?_⟩) ?_ ?_
      rotate_left
      · intro w'
        go_simp
        with_reducible rfl
      rotate_left
      · simp only [Act.put, List.setIfInBounds_toArray, List.set_cons_zero, List.set_cons_succ, i64_w, i32_w]
        rfl
      refine pure_ (i := 2) (N := some 24) (v := ?_) (a' := ?_) #[true, true, true, false, false, false, false, false, false, false, false, false, false] rfl rfl (by kernel_rfl) (fun _ _ _ h => h) (Or.inl ⟨by rfl, ?_⟩) ?_ ?_
      rotate_left
      · intro w'
        go_simp
        with_reducible rfl
      rotate_left
      · simp only [Act.put, List.setIfInBounds_toArray, List.set_cons_zero, List.set_cons_succ, i64_w, i32_w]
        rfl
      refine pure_ (i := 3) (N := some 25) (v := ?_) (a' := ?_) #[true, true, true, true, false, false, false, false, false, false, false, false, false] rfl rfl (by kernel_rfl) (fun _ _ _ h => h) (Or.inl ⟨by rfl, ?_⟩) ?_ ?_
      rotate_left
      · intro w'
        go_simp
        with_reducible rfl
      rotate_left
      · simp only [Act.put, List.setIfInBounds_toArray, List.set_cons_zero, List.set_cons_succ, i64_w, i32_w]
        rfl
      refine pure_ (i := 4) (N := some 26) (v := ?_) (a' := ?_) #[true, true, true, true, true, false, false, false, false, false, false, false, false] rfl rfl (by kernel_rfl) (fun _ _ _ h => h) (Or.inl ⟨by rfl, ?_⟩) ?_ ?_
      rotate_left
      · intro w'
        go_simp
        with_reducible rfl
      rotate_left
      · simp only [Act.put, List.setIfInBounds_toArray, List.set_cons_zero, List.set_cons_succ, i64_w, i32_w]
        rfl
      refine pure_ (i := 5) (N := some 27) (v := ?_) (a' := ?_) #[true, true, true, true, true, true, false, false, false, false, false, false, false] rfl rfl (by kernel_rfl) (fun _ _ _ h => h) (Or.inl ⟨by rfl, ?_⟩) ?_ ?_
      rotate_left
      · intro w'
        refine (exec_nilW w' (b := R) (.tmp 26) (by rfl) (by rfl)).trans ?_
        with_reducible rfl
      rotate_left
      · simp only [Act.put, List.setIfInBounds_toArray, List.set_cons_zero, List.set_cons_succ, i64_w, i32_w]
        rfl
      refine pure_ (i := 6) (N := some 28) (v := ?_) (a' := ?_) #[true, true, true, true, true, true, true, false, false, false, false, false, false] rfl rfl (by kernel_rfl) (fun _ _ _ h => h) (Or.inl ⟨by rfl, ?_⟩) ?_ ?_
      rotate_left
      · intro w'
        go_simp
        with_reducible rfl
      rotate_left
      · simp only [Act.put, List.setIfInBounds_toArray, List.set_cons_zero, List.set_cons_succ, i64_w, i32_w]
        rfl
      refine one_ (i := 7) (N := some 29) #[true, true, true, true, true, true, true, true, false, false, false, false, false] rfl rfl (by kernel_rfl) (by decide) (fun K hK => ?_)
      refine call_ (40) #[.pointer (some ⟨R, 0, none⟩), .slice (some ⟨S, 0, none⟩) k kc] (by rfl) rfl (exec_write (.tmp 28) (.tmp 25) #[22] (by rfl) (by rfl) (by rfl)) ?_
      with_reducible refine (HR.out).mono ?_
      rintro e w3 ⟨rfl, h3, hS3, hB3⟩
      refine ⟨_, rfl, ?_⟩
      have HP := Lib.hid (And.intro h3 (And.intro hS3 ((below_drew (Below.refl B wr)).trans hB3))); clear h3 hS3 hB3
      refine hK.out _ _ trivial (fun hHeld => ?_)
      clear hK K
      refine norm_ (a' := ?_) ?_ ?_
      rotate_left
      · show Act.put _ (some 29) _ = _
        simp only [Act.put, List.setIfInBounds_toArray, List.set_cons_zero, List.set_cons_succ, i64_w, i32_w]
        rfl
      refine pure_ (i := 8) (N := some 21) (v := ?_) (a' := ?_) #[true, true, true, true, true, true, true, true, true, false, false, false, false] rfl rfl (by kernel_rfl) (fun _ _ _ h => h) (Or.inl ⟨by rfl, ?_⟩) ?_ ?_
      rotate_left
      · intro w'
        go_simp
        with_reducible rfl
      rotate_left
      · simp only [Act.put, List.setIfInBounds_toArray, List.set_cons_zero, List.set_cons_succ, i64_w, i32_w]
        rfl
      refine pure_ (i := 9) (N := some 30) (v := ?_) (a' := ?_) #[true, true, true, true, true, true, true, true, true, true, false, false, false] rfl rfl (by kernel_rfl) (fun _ _ _ h => h) (Or.inl ⟨by rfl, ?_⟩) ?_ ?_
      rotate_left
      · intro w'
        go_simp
        with_reducible rfl
      rotate_left
      · simp only [Act.put, List.setIfInBounds_toArray, List.set_cons_zero, List.set_cons_succ, i64_w, i32_w]
        rfl
      refine pure_ (i := 10) (N := some 31) (v := ?_) (a' := ?_) #[true, true, true, true, true, true, true, true, true, true, true, false, false] rfl rfl (by kernel_rfl) (fun _ _ _ h => h) (Or.inl ⟨by rfl, ?_⟩) ?_ ?_
      rotate_left
      · intro w'
        go_simp
        with_reducible rfl
      rotate_left
      · simp only [Act.put, List.setIfInBounds_toArray, List.set_cons_zero, List.set_cons_succ, i64_w, i32_w]
        rfl
      refine pure_ (i := 11) (N := some 8) (v := ?_) (a' := ?_) #[true, true, true, true, true, true, true, true, true, true, true, true, false] rfl rfl (by kernel_rfl) (fun _ _ _ h => h) (Or.inl ⟨by rfl, ?_⟩) ?_ ?_
      rotate_left
      · intro w'
        go_simp
        with_reducible rfl
      rotate_left
      · simp only [Act.put, List.setIfInBounds_toArray, List.set_cons_zero, List.set_cons_succ, i64_w, i32_w]
        rfl
      refine pure_ (i := 12) (N := some 7) (v := ?_) (a' := ?_) #[true, true, true, true, true, true, true, true, true, true, true, true, true] rfl rfl (by kernel_rfl) (fun _ _ _ h => h) (Or.inl ⟨by rfl, ?_⟩) ?_ ?_
      rotate_left
      · intro w'
        go_simp
        with_reducible rfl
      rotate_left
      · simp only [Act.put, List.setIfInBounds_toArray, List.set_cons_zero, List.set_cons_succ, i64_w, i32_w]
        rfl
      refine done_ (by kernel_rfl) ?_
      go_wp2
      go_roundg k1
      case measure => omega
      case rel => exact .inr ⟨Lib.hid (by have := HQ.out; omega), congrArg (Value.int .i64) hwk, rfl, HP⟩
    · go_wp2
      go_ret2
      exact ⟨rfl, HP.out⟩
set_option maxHeartbeats 8000000 in
set_option maxRecDepth 100000 in
theorem ral_end (B R : Nat) (A : Option Addr) (n c : Nat) (i : Int) (S k kc : Nat) (a b : Addr) (w : World) (h : Rd w R A n c i) (hi : (n : Int) ≤ i) (hk : 1 ≤ k ∧ k ≤ 8 ∧ k ≤ kc) (hE : Errs w a b) (hBw : B ≤ w.heap.size) :
    Calls Tryd.prog 24 #[Rdv R, .slice (some ⟨S, 0, none⟩) k kc, .int .i64 (k : Int)] w fun e w' => e = .returned (.tuple #[.int .i64 0, .iface 68 (.pointer (some a))]) ∧ Rd w' R A n c i ∧ Below B w w' := by
  have HR := Lib.hid (fun s => read_end R A n c i s _ w.drew (by obtain ⟨pr, h⟩ := h; exact ⟨pr, h⟩) hi hE.eof)
  have hkp : (0 : Int) < (k : Int) := by omega
  have hkn : ¬ (k : Int) ≤ 0 := by omega
  have hkd : decide ((0 : Int) < (k : Int)) = true := decide_eq_true hkp
  have hkd2 : decide ((k : Int) ≤ 0) = false := decide_eq_false hkn
  have HBW := Lib.hid hBw
  clear h hi hk hE hBw
  go_enter Tryd.func24, Tryd.ntmps24
  go_wp2
  go_loopg [6, 7, 8] 2 (fun kq v6 v7 v8 w' => (Hid (kq = 2) ∧ v6 = .int .i64 0 ∧ v7 = .nilIface ∧ w' = w) ∨ (Hid (kq = 1) ∧ v6 = .int .i64 0 ∧ v7 = .iface 68 (.pointer (some a)) ∧ Hid (Rd w' R A n c i ∧ Below B w w')))
  case atStart => exact .inl ⟨Lib.hid rfl, rfl, rfl, rfl⟩
  case round =>
    rcases hrel with ⟨HQ, rfl, rfl, rfl⟩ | ⟨HQ, rfl, rfl, HP⟩
    · obtain ⟨k1, rfl⟩ : ∃ k1, gk = k1 + 1 := ⟨gk - 1, by have := HQ.out; omega⟩
      go_wp2
      refine start_ (n := 13) (S := fun w' => True) (ds := []) #[false, false, false, false, false, false, false, false, false, false, false, false, false] (by kernel_rfl) rfl rfl trivial (fun hHeld => ?_)
      refine pure_ (i := 0) (N := some 22) (v := ?_) (a' := ?_) #[true, false, false, false, false, false, false, false, false, false, false, false, false] rfl rfl (by kernel_rfl) (fun _ _ _ h => h) (Or.inl ⟨by rfl, ?_⟩) ?_ ?_
      rotate_left
      · intro w'
        go_simp
        with_reducible rfl
      rotate_left
      · simp only [Act.put, List.setIfInBounds_toArray, List.set_cons_zero, List.set_cons_succ, i64_w, i32_w]
        rfl
      refine pure_ (i := 1) (N := some 23) (v := ?_) (a' := ?_) #[true, true, false, false, false, false, false, false, false, false, false, false, false] rfl rfl (by kernel_rfl) (fun _ _ _ h => h) (Or.inl ⟨by rfl, ?_⟩) ?_ ?_
      rotate_left
      · intro w'
        go_simp
        with_reducible rfl
      rotate_left
      · simp only [Act.put, List.setIfInBounds_toArray, List.set_cons_zero, List.set_cons_succ, i64_w, i32_w]
        rfl
      refine pure_ (i := 2) (N := some 24) (v := ?_) (a' := ?_) #[true, true, true, false, false, false, false, false, false, false, false, false, false] rfl rfl (by kernel_rfl) (fun _ _ _ h => h) (Or.inl ⟨by rfl, ?_⟩) ?_ ?_
      rotate_left
      · intro w'
        go_simp
        with_reducible rfl
      rotate_left
      · simp only [Act.put, List.setIfInBounds_toArray, List.set_cons_zero, List.set_cons_succ, i64_w, i32_w]
        rfl
      refine pure_ (i := 3) (N := some 25) (v := ?_) (a' := ?_) #[true, true, true, true, false, false, false, false, false, false, false, false, false] rfl rfl (by kernel_rfl) (fun _ _ _ h => h) (Or.inl ⟨by rfl, ?_⟩) ?_ ?_
      rotate_left
      · intro w'
        go_simp
        with_reducible rfl
      rotate_left
      · simp only [Act.put, List.setIfInBounds_toArray, List.set_cons_zero, List.set_cons_succ, i64_w, i32_w]
        rfl
      refine pure_ (i := 4) (N := some 26) (v := ?_) (a' := ?_) #[true, true, true, true, true, false, false, false, false, false, false, false, false] rfl rfl (by kernel_rfl) (fun _ _ _ h => h) (Or.inl ⟨by rfl, ?_⟩) ?_ ?_
      rotate_left
      · intro w'
        go_simp
        with_reducible rfl
      rotate_left
      · simp only [Act.put, List.setIfInBounds_toArray, List.set_cons_zero, List.set_cons_succ, i64_w, i32_w]
        rfl
      refine pure_ (i := 5) (N := some 27) (v := ?_) (a' := ?_) #[true, true, true, true, true, true, false, false, false, false, false, false, false] rfl rfl (by kernel_rfl) (fun _ _ _ h => h) (Or.inl ⟨by rfl, ?_⟩) ?_ ?_
      rotate_left
      · intro w'
        refine (exec_nilW w' (b := R) (.tmp 26) (by rfl) (by rfl)).trans ?_
        with_reducible rfl
      rotate_left
      · simp only [Act.put, List.setIfInBounds_toArray, List.set_cons_zero, List.set_cons_succ, i64_w, i32_w]
        rfl
      refine pure_ (i := 6) (N := some 28) (v := ?_) (a' := ?_) #[true, true, true, true, true, true, true, false, false, false, false, false, false] rfl rfl (by kernel_rfl) (fun _ _ _ h => h) (Or.inl ⟨by rfl, ?_⟩) ?_ ?_
      rotate_left
      · intro w'
        go_simp
        with_reducible rfl
      rotate_left
      · simp only [Act.put, List.setIfInBounds_toArray, List.set_cons_zero, List.set_cons_succ, i64_w, i32_w]
        rfl
      refine one_ (i := 7) (N := some 29) #[true, true, true, true, true, true, true, true, false, false, false, false, false] rfl rfl (by kernel_rfl) (by decide) (fun K hK => ?_)
      refine call_ (40) #[.pointer (some ⟨R, 0, none⟩), _] (by rfl) rfl (exec_write (.tmp 28) (.tmp 25) #[22] (by rfl) (by rfl) (by rfl)) ?_
      with_reducible refine (HR.out _).mono ?_
      rintro e w3 ⟨rfl, h3, hB3⟩
      refine ⟨_, rfl, ?_⟩
      have HP := Lib.hid (And.intro h3 ((below_drew (Below.refl B wr)).trans (below_low (by have := HBW.out; simpa using this) hB3))); clear h3 hB3
      refine hK.out _ _ trivial (fun hHeld => ?_)
      clear hK K
      refine norm_ (a' := ?_) ?_ ?_
      rotate_left
      · show Act.put _ (some 29) _ = _
        simp only [Act.put, List.setIfInBounds_toArray, List.set_cons_zero, List.set_cons_succ, i64_w, i32_w]
        rfl
      refine pure_ (i := 8) (N := some 21) (v := ?_) (a' := ?_) #[true, true, true, true, true, true, true, true, true, false, false, false, false] rfl rfl (by kernel_rfl) (fun _ _ _ h => h) (Or.inl ⟨by rfl, ?_⟩) ?_ ?_
      rotate_left
      · intro w'
        go_simp
        with_reducible rfl
      rotate_left
      · simp only [Act.put, List.setIfInBounds_toArray, List.set_cons_zero, List.set_cons_succ, i64_w, i32_w]
        rfl
      refine pure_ (i := 9) (N := some 30) (v := ?_) (a' := ?_) #[true, true, true, true, true, true, true, true, true, true, false, false, false] rfl rfl (by kernel_rfl) (fun _ _ _ h => h) (Or.inl ⟨by rfl, ?_⟩) ?_ ?_
      rotate_left
      · intro w'
        go_simp
        with_reducible rfl
      rotate_left
      · simp only [Act.put, List.setIfInBounds_toArray, List.set_cons_zero, List.set_cons_succ, i64_w, i32_w]
        rfl
      refine pure_ (i := 10) (N := some 31) (v := ?_) (a' := ?_) #[true, true, true, true, true, true, true, true, true, true, true, false, false] rfl rfl (by kernel_rfl) (fun _ _ _ h => h) (Or.inl ⟨by rfl, ?_⟩) ?_ ?_
      rotate_left
      · intro w'
        go_simp
        with_reducible rfl
      rotate_left
      · simp only [Act.put, List.setIfInBounds_toArray, List.set_cons_zero, List.set_cons_succ, i64_w, i32_w]
        rfl
      refine pure_ (i := 11) (N := some 8) (v := ?_) (a' := ?_) #[true, true, true, true, true, true, true, true, true, true, true, true, false] rfl rfl (by kernel_rfl) (fun _ _ _ h => h) (Or.inl ⟨by rfl, ?_⟩) ?_ ?_
      rotate_left
      · intro w'
        go_simp
        with_reducible rfl
      rotate_left
      · simp only [Act.put, List.setIfInBounds_toArray, List.set_cons_zero, List.set_cons_succ, i64_w, i32_w]
        rfl
      refine pure_ (i := 12) (N := some 7) (v := ?_) (a' := ?_) #[true, true, true, true, true, true, true, true, true, true, true, true, true] rfl rfl (by kernel_rfl) (fun _ _ _ h => h) (Or.inl ⟨by rfl, ?_⟩) ?_ ?_
      rotate_left
      · intro w'
        go_simp
        with_reducible rfl
      rotate_left
      · simp only [Act.put, List.setIfInBounds_toArray, List.set_cons_zero, List.set_cons_succ, i64_w, i32_w]
        rfl
      refine done_ (by kernel_rfl) ?_
      go_wp2
      go_roundg k1
      case measure => omega
      case rel => exact .inr ⟨Lib.hid (by have := HQ.out; omega), by first | rfl | (simp; done), rfl, HP⟩
    · go_wp2
      go_ret2
      exact ⟨rfl, HP.out⟩
set_option maxHeartbeats 8000000 in
set_option maxRecDepth 100000 in
theorem ral_short (B R S T : Nat) (A : Option Addr) (c : Nat) (l : List Int) (i : Int) (k kc : Nat) (cs : Array Value) (a b : Addr) (w : World) (h : Rd w R A l.length c i) (hC : ∀ W, Below B w W → Kd.C (Kd.int .u8) W A l.length l) (hc : l.length ≤ c) (hcm : c ≤ 9223372036854775807) (hn : l.length ≤ 100000) (hi : 0 ≤ i ∧ i < l.length) (hf : i + k > l.length) (hk : 1 ≤ k ∧ k ≤ cs.size) (hk8 : k ≤ 8 ∧ k ≤ kc)
    (hS : w.heap[S]? = some (.cells cs T (0, 0))) (hRS : R ≠ S) (hAR : ∀ ad, A = some ad → ad.block ≠ R) (hB : B ≤ R ∧ B ≤ S) (hE : Errs w a b) (hB3 : 3 < B) :
    Calls Tryd.prog 24 #[Rdv R, .slice (some ⟨S, 0, none⟩) k kc, .int .i64 (k : Int)] w fun e w' => (∃ m v, e = .returned (.tuple #[.int .i64 m, .iface 68 (.pointer (some v))])) ∧ Rd w' R A l.length c l.length ∧ Below B w w' := by
  obtain ⟨m, hm⟩ : ∃ m, l.length - i.toNat = m := ⟨_, rfl⟩
  have HR := Lib.hid (read_some B R S T A c l i k kc m cs w.drew (by obtain ⟨pr, h⟩ := h; exact ⟨pr, h⟩) (hC _ (below_drew (Below.refl _ _))) hc hcm hn hi (by omega) hk hS hRS hAR hB)
  have HR2 := Lib.hid (fun s W (hR : Rd W R A l.length c (i + m)) (hBW : Below B w W) => read_end R A l.length c (i + m) s _ W.drew (by obtain ⟨pr, h⟩ := hR; exact ⟨pr, h⟩) (by omega) (hE.below hB3 hBW).eof)
  have HEV := Lib.hid (fun W (hBW : Below B w W) => hE.below hB3 hBW)
  have HIM := Lib.hid (show i + (m : Int) = l.length by omega)
  obtain ⟨N, hN⟩ : ∃ N, l.length = N := ⟨_, rfl⟩
  rw [hN] at HR HR2 HIM ⊢
  obtain ⟨q, hq⟩ : ∃ q : Int, (m : Int) = q := ⟨_, rfl⟩
  obtain ⟨kk, hkk⟩ : ∃ kk : Int, (k : Int) = kk := ⟨_, rfl⟩
  have hq1 : 0 < q := by omega
  have hq2 : q < kk := by omega
  have hq3 : q ≤ (k : Int) := by omega
  have hkp : (0 : Int) < kk := by omega
  have hd1 : decide ((0 : Int) < kk) = true := decide_eq_true hkp
  have hd2 : decide (q < kk) = true := decide_eq_true hq2
  have hd3 : decide (kk ≤ q) = false := decide_eq_false (by omega)
  have hd4 : decide ((0 : Int) < q) = true := decide_eq_true hq1
  have hw1 : wrap64 q = q := wrap64_id (by omega) (by omega)
  have hkc : q ≤ (kc : Int) := by omega
  have hq0 : 0 ≤ q := by omega
  have hk0 : 0 ≤ kk := by omega
  have hqk : q ≤ kk := by omega
  have hkcq : ¬ kc = q.toNat := by omega
  have HBS := Lib.hid (show B ≤ w.heap.size from Nat.le_trans hB.1 (Nat.le_of_lt h.lt))
  rw [hq] at HR HR2 HIM
  rw [hkk]
  have HKK := Lib.hid hkk
  clear h hC hc hcm hn hi hf hk hk8 hS hRS hAR hB hE hB3 hm hN hq
  go_enter Tryd.func24, Tryd.ntmps24
  go_wp2
  go_loopg [6, 7, 8] 3 (fun kq v6 v7 v8 w' => (Hid (kq = 3) ∧ v6 = .int .i64 0 ∧ v7 = .nilIface ∧ w' = w) ∨ (Hid (kq = 2) ∧ v6 = .int .i64 q ∧ v7 = .nilIface ∧ Hid (Rd w' R A N c (i + q) ∧ Below B w w')) ∨ (Hid (kq = 1) ∧ v6 = .int .i64 q ∧ v7 = .iface 68 (.pointer (some a)) ∧ Hid (Rd w' R A N c (i + q) ∧ Below B w w')))
  case atStart => exact .inl ⟨Lib.hid rfl, rfl, rfl, rfl⟩
  case round =>
    rcases hrel with ⟨HQ, rfl, rfl, rfl⟩ | ⟨HQ, rfl, rfl, HP⟩ | ⟨HQ, rfl, rfl, HP⟩
    · obtain ⟨k1, rfl⟩ : ∃ k1, gk = k1 + 1 := ⟨gk - 1, by have := HQ.out; omega⟩
      go_wp2
      refine start_ (n := 13) (S := fun w' => True) (ds := []) #[false, false, false, false, false, false, false, false, false, false, false, false, false] (by kernel_rfl) rfl rfl trivial (fun hHeld => ?_)
      refine pure_ (i := 0) (N := some 22) (v := ?_) (a' := ?_) #[true, false, false, false, false, false, false, false, false, false, false, false, false] rfl rfl (by kernel_rfl) (fun _ _ _ h => h) (Or.inl ⟨by rfl, ?_⟩) ?_ ?_
      rotate_left
      · intro w'
        go_simp
        with_reducible rfl
      rotate_left
      · simp only [Act.put, List.setIfInBounds_toArray, List.set_cons_zero, List.set_cons_succ, i64_w, i32_w]
        rfl
      refine pure_ (i := 1) (N := some 23) (v := ?_) (a' := ?_) #[true, true, false, false, false, false, false, false, false, false, false, false, false] rfl rfl (by kernel_rfl) (fun _ _ _ h => h) (Or.inl ⟨by rfl, ?_⟩) ?_ ?_
      rotate_left
      · intro w'
        go_simp
        with_reducible rfl
      rotate_left
      · simp only [Act.put, List.setIfInBounds_toArray, List.set_cons_zero, List.set_cons_succ, i64_w, i32_w]
        rfl
      refine pure_ (i := 2) (N := some 24) (v := ?_) (a' := ?_) #[true, true, true, false, false, false, false, false, false, false, false, false, false] rfl rfl (by kernel_rfl) (fun _ _ _ h => h) (Or.inl ⟨by rfl, ?_⟩) ?_ ?_
      rotate_left
      · intro w'
        go_simp
        with_reducible rfl
      rotate_left
      · simp only [Act.put, List.setIfInBounds_toArray, List.set_cons_zero, List.set_cons_succ, i64_w, i32_w]
        rfl
      refine pure_ (i := 3) (N := some 25) (v := ?_) (a' := ?_) #[true, true, true, true, false, false, false, false, false, false, false, false, false] rfl rfl (by kernel_rfl) (fun _ _ _ h => h) (Or.inl ⟨by rfl, ?_⟩) ?_ ?_
      rotate_left
      · intro w'
        go_simp
        with_reducible rfl
      rotate_left
      · simp only [Act.put, List.setIfInBounds_toArray, List.set_cons_zero, List.set_cons_succ, i64_w, i32_w]
        rfl
      refine pure_ (i := 4) (N := some 26) (v := ?_) (a' := ?_) #[true, true, true, true, true, false, false, false, false, false, false, false, false] rfl rfl (by kernel_rfl) (fun _ _ _ h => h) (Or.inl ⟨by rfl, ?_⟩) ?_ ?_
      rotate_left
      · intro w'
        go_simp
        with_reducible rfl
      rotate_left
      · simp only [Act.put, List.setIfInBounds_toArray, List.set_cons_zero, List.set_cons_succ, i64_w, i32_w]
        rfl
      refine pure_ (i := 5) (N := some 27) (v := ?_) (a' := ?_) #[true, true, true, true, true, true, false, false, false, false, false, false, false] rfl rfl (by kernel_rfl) (fun _ _ _ h => h) (Or.inl ⟨by rfl, ?_⟩) ?_ ?_
      rotate_left
      · intro w'
        refine (exec_nilW w' (b := R) (.tmp 26) (by rfl) (by rfl)).trans ?_
        with_reducible rfl
      rotate_left
      · simp only [Act.put, List.setIfInBounds_toArray, List.set_cons_zero, List.set_cons_succ, i64_w, i32_w]
        rfl
      refine pure_ (i := 6) (N := some 28) (v := ?_) (a' := ?_) #[true, true, true, true, true, true, true, false, false, false, false, false, false] rfl rfl (by kernel_rfl) (fun _ _ _ h => h) (Or.inl ⟨by rfl, ?_⟩) ?_ ?_
      rotate_left
      · intro w'
        go_simp
        with_reducible rfl
      rotate_left
      · simp only [Act.put, List.setIfInBounds_toArray, List.set_cons_zero, List.set_cons_succ, i64_w, i32_w]
        rfl
      refine one_ (i := 7) (N := some 29) #[true, true, true, true, true, true, true, true, false, false, false, false, false] rfl rfl (by kernel_rfl) (by decide) (fun K hK => ?_)
      refine call_ (40) #[.pointer (some ⟨R, 0, none⟩), .slice (some ⟨S, 0, none⟩) k kc] (by rfl) rfl (exec_write (.tmp 28) (.tmp 25) #[22] (by rfl) (by rfl) (by rfl)) ?_
      with_reducible refine (HR.out).mono ?_
      rintro e w3 ⟨rfl, h3, hS3, hB3⟩
      refine ⟨_, rfl, ?_⟩
      have HP := Lib.hid (And.intro h3 ((below_drew (Below.refl B wr)).trans hB3)); clear h3 hS3 hB3
      refine hK.out _ _ trivial (fun hHeld => ?_)
      clear hK K
      refine norm_ (a' := ?_) ?_ ?_
      rotate_left
      · show Act.put _ (some 29) _ = _
        simp only [Act.put, List.setIfInBounds_toArray, List.set_cons_zero, List.set_cons_succ, i64_w, i32_w]
        rfl
      refine pure_ (i := 8) (N := some 21) (v := ?_) (a' := ?_) #[true, true, true, true, true, true, true, true, true, false, false, false, false] rfl rfl (by kernel_rfl) (fun _ _ _ h => h) (Or.inl ⟨by rfl, ?_⟩) ?_ ?_
      rotate_left
      · intro w'
        go_simp
        with_reducible rfl
      rotate_left
      · simp only [Act.put, List.setIfInBounds_toArray, List.set_cons_zero, List.set_cons_succ, i64_w, i32_w]
        rfl
      refine pure_ (i := 9) (N := some 30) (v := ?_) (a' := ?_) #[true, true, true, true, true, true, true, true, true, true, false, false, false] rfl rfl (by kernel_rfl) (fun _ _ _ h => h) (Or.inl ⟨by rfl, ?_⟩) ?_ ?_
      rotate_left
      · intro w'
        go_simp
        with_reducible rfl
      rotate_left
      · simp only [Act.put, List.setIfInBounds_toArray, List.set_cons_zero, List.set_cons_succ, i64_w, i32_w]
        rfl
      refine pure_ (i := 10) (N := some 31) (v := ?_) (a' := ?_) #[true, true, true, true, true, true, true, true, true, true, true, false, false] rfl rfl (by kernel_rfl) (fun _ _ _ h => h) (Or.inl ⟨by rfl, ?_⟩) ?_ ?_
      rotate_left
      · intro w'
        go_simp
        with_reducible rfl
      rotate_left
      · simp only [Act.put, List.setIfInBounds_toArray, List.set_cons_zero, List.set_cons_succ, i64_w, i32_w]
        rfl
      refine pure_ (i := 11) (N := some 8) (v := ?_) (a' := ?_) #[true, true, true, true, true, true, true, true, true, true, true, true, false] rfl rfl (by kernel_rfl) (fun _ _ _ h => h) (Or.inl ⟨by rfl, ?_⟩) ?_ ?_
      rotate_left
      · intro w'
        go_simp
        with_reducible rfl
      rotate_left
      · simp only [Act.put, List.setIfInBounds_toArray, List.set_cons_zero, List.set_cons_succ, i64_w, i32_w]
        rfl
      refine pure_ (i := 12) (N := some 7) (v := ?_) (a' := ?_) #[true, true, true, true, true, true, true, true, true, true, true, true, true] rfl rfl (by kernel_rfl) (fun _ _ _ h => h) (Or.inl ⟨by rfl, ?_⟩) ?_ ?_
      rotate_left
      · intro w'
        go_simp
        with_reducible rfl
      rotate_left
      · simp only [Act.put, List.setIfInBounds_toArray, List.set_cons_zero, List.set_cons_succ, i64_w, i32_w]
        rfl
      refine done_ (by kernel_rfl) ?_
      go_wp2
      go_roundg k1
      case measure => omega
      case rel => exact .inr (.inl ⟨Lib.hid (by have := HQ.out; omega), by first | rfl | exact congrArg (Value.int .i64) hw1 | (simp; done), rfl, HP⟩)
    · obtain ⟨k1, rfl⟩ : ∃ k1, gk = k1 + 1 := ⟨gk - 1, by have := HQ.out; omega⟩
      have hwq : wrap64 (q + 0) = q := by rw [Int.add_zero]; exact hw1
      go_wp2
      refine start_ (n := 13) (S := fun w' => True) (ds := []) #[false, false, false, false, false, false, false, false, false, false, false, false, false] (by kernel_rfl) rfl rfl trivial (fun hHeld => ?_)
      refine pure_ (i := 0) (N := some 22) (v := ?_) (a' := ?_) #[true, false, false, false, false, false, false, false, false, false, false, false, false] rfl rfl (by kernel_rfl) (fun _ _ _ h => h) (Or.inl ⟨by rfl, ?_⟩) ?_ ?_
      rotate_left
      · intro w'
        go_simp
        with_reducible rfl
      rotate_left
      · simp only [Act.put, List.setIfInBounds_toArray, List.set_cons_zero, List.set_cons_succ, i64_w, i32_w]
        rfl
      refine pure_ (i := 1) (N := some 23) (v := ?_) (a' := ?_) #[true, true, false, false, false, false, false, false, false, false, false, false, false] rfl rfl (by kernel_rfl) (fun _ _ _ h => h) (Or.inl ⟨by rfl, ?_⟩) ?_ ?_
      rotate_left
      · intro w'
        go_simp
        with_reducible rfl
      rotate_left
      · simp only [Act.put, List.setIfInBounds_toArray, List.set_cons_zero, List.set_cons_succ, i64_w, i32_w]
        rfl
      refine pure_ (i := 2) (N := some 24) (v := ?_) (a' := ?_) #[true, true, true, false, false, false, false, false, false, false, false, false, false] rfl rfl (by kernel_rfl) (fun _ _ _ h => h) (Or.inl ⟨by rfl, ?_⟩) ?_ ?_
      rotate_left
      · intro w'
        go_simp
        with_reducible rfl
      rotate_left
      · simp only [Act.put, List.setIfInBounds_toArray, List.set_cons_zero, List.set_cons_succ, i64_w, i32_w]
        rfl
      refine pure_ (i := 3) (N := some 25) (v := ?_) (a' := ?_) #[true, true, true, true, false, false, false, false, false, false, false, false, false] rfl rfl (by kernel_rfl) (fun _ _ _ h => h) (Or.inl ⟨by rfl, ?_⟩) ?_ ?_
      rotate_left
      · intro w'
        go_simp
        with_reducible rfl
      rotate_left
      · simp only [Act.put, List.setIfInBounds_toArray, List.set_cons_zero, List.set_cons_succ, i64_w, i32_w]
        rfl
      refine pure_ (i := 4) (N := some 26) (v := ?_) (a' := ?_) #[true, true, true, true, true, false, false, false, false, false, false, false, false] rfl rfl (by kernel_rfl) (fun _ _ _ h => h) (Or.inl ⟨by rfl, ?_⟩) ?_ ?_
      rotate_left
      · intro w'
        go_simp
        with_reducible rfl
      rotate_left
      · simp only [Act.put, List.setIfInBounds_toArray, List.set_cons_zero, List.set_cons_succ, i64_w, i32_w]
        rfl
      refine pure_ (i := 5) (N := some 27) (v := ?_) (a' := ?_) #[true, true, true, true, true, true, false, false, false, false, false, false, false] rfl rfl (by kernel_rfl) (fun _ _ _ h => h) (Or.inl ⟨by rfl, ?_⟩) ?_ ?_
      rotate_left
      · intro w'
        refine (exec_nilW w' (b := R) (.tmp 26) (by rfl) (by rfl)).trans ?_
        with_reducible rfl
      rotate_left
      · simp only [Act.put, List.setIfInBounds_toArray, List.set_cons_zero, List.set_cons_succ, i64_w, i32_w]
        rfl
      refine pure_ (i := 6) (N := some 28) (v := ?_) (a' := ?_) #[true, true, true, true, true, true, true, false, false, false, false, false, false] rfl rfl (by kernel_rfl) (fun _ _ _ h => h) (Or.inl ⟨by rfl, ?_⟩) ?_ ?_
      rotate_left
      · intro w'
        go_simp
        with_reducible rfl
      rotate_left
      · simp only [Act.put, List.setIfInBounds_toArray, List.set_cons_zero, List.set_cons_succ, i64_w, i32_w]
        rfl
      refine one_ (i := 7) (N := some 29) #[true, true, true, true, true, true, true, true, false, false, false, false, false] rfl rfl (by kernel_rfl) (by decide) (fun K hK => ?_)
      refine call_ (40) #[.pointer (some ⟨R, 0, none⟩), _] (by rfl) rfl (exec_write (.tmp 28) (.tmp 25) #[22] (by rfl) (by rfl) (by rfl)) ?_
      with_reducible refine (HR2.out _ _ HP.out.1 HP.out.2).mono ?_
      rintro e w3 ⟨rfl, h3, hB3⟩
      refine ⟨_, rfl, ?_⟩
      have HP2 := Lib.hid (And.intro h3 (HP.out.2.trans ((below_drew (Below.refl B wr)).trans (below_low (by have := HBS.out; have := HP.out.2.size; simp; omega) hB3)))); clear h3 hB3
      refine hK.out _ _ trivial (fun hHeld => ?_)
      clear hK K
      refine norm_ (a' := ?_) ?_ ?_
      rotate_left
      · show Act.put _ (some 29) _ = _
        simp only [Act.put, List.setIfInBounds_toArray, List.set_cons_zero, List.set_cons_succ, i64_w, i32_w]
        rfl
      refine pure_ (i := 8) (N := some 21) (v := ?_) (a' := ?_) #[true, true, true, true, true, true, true, true, true, false, false, false, false] rfl rfl (by kernel_rfl) (fun _ _ _ h => h) (Or.inl ⟨by rfl, ?_⟩) ?_ ?_
      rotate_left
      · intro w'
        go_simp
        with_reducible rfl
      rotate_left
      · simp only [Act.put, List.setIfInBounds_toArray, List.set_cons_zero, List.set_cons_succ, i64_w, i32_w]
        rfl
      refine pure_ (i := 9) (N := some 30) (v := ?_) (a' := ?_) #[true, true, true, true, true, true, true, true, true, true, false, false, false] rfl rfl (by kernel_rfl) (fun _ _ _ h => h) (Or.inl ⟨by rfl, ?_⟩) ?_ ?_
      rotate_left
      · intro w'
        go_simp
        with_reducible rfl
      rotate_left
      · simp only [Act.put, List.setIfInBounds_toArray, List.set_cons_zero, List.set_cons_succ, i64_w, i32_w]
        rfl
      refine pure_ (i := 10) (N := some 31) (v := ?_) (a' := ?_) #[true, true, true, true, true, true, true, true, true, true, true, false, false] rfl rfl (by kernel_rfl) (fun _ _ _ h => h) (Or.inl ⟨by rfl, ?_⟩) ?_ ?_
      rotate_left
      · intro w'
        go_simp
        with_reducible rfl
      rotate_left
      · simp only [Act.put, List.setIfInBounds_toArray, List.set_cons_zero, List.set_cons_succ, i64_w, i32_w]
        rfl
      refine pure_ (i := 11) (N := some 8) (v := ?_) (a' := ?_) #[true, true, true, true, true, true, true, true, true, true, true, true, false] rfl rfl (by kernel_rfl) (fun _ _ _ h => h) (Or.inl ⟨by rfl, ?_⟩) ?_ ?_
      rotate_left
      · intro w'
        go_simp
        with_reducible rfl
      rotate_left
      · simp only [Act.put, List.setIfInBounds_toArray, List.set_cons_zero, List.set_cons_succ, i64_w, i32_w]
        rfl
      refine pure_ (i := 12) (N := some 7) (v := ?_) (a' := ?_) #[true, true, true, true, true, true, true, true, true, true, true, true, true] rfl rfl (by kernel_rfl) (fun _ _ _ h => h) (Or.inl ⟨by rfl, ?_⟩) ?_ ?_
      rotate_left
      · intro w'
        go_simp
        with_reducible rfl
      rotate_left
      · simp only [Act.put, List.setIfInBounds_toArray, List.set_cons_zero, List.set_cons_succ, i64_w, i32_w]
        rfl
      refine done_ (by kernel_rfl) ?_
      go_wp2
      go_roundg k1
      case measure => omega
      case rel => exact .inr (.inr ⟨Lib.hid (by have := HQ.out; omega), by first | rfl | exact congrArg (Value.int .i64) hwq | exact congrArg (Value.int .i64) hw1 | (simp [hw1]; done), rfl, HP2⟩)
    · have E := HEV.out _ HP.out.2
      have ee := E.eof
      have hev := eof_eq a
      have eu := E.une
      clear E
      go_wp2
      go_ret2
      refine ⟨⟨_, _, rfl⟩, ?_, HP.out.2⟩
      have := HP.out.1
      rwa [HIM.out] at this
end Go.Proofs.YtclbkinlgjdojaaDoor.Rv
