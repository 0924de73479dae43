/-
  btcutil's filter under its lock: AddOutPoint, MatchesOutPoint, MsgFilterLoad; how it is made, and read back.
-/
import Derived.Test.YtojadhcbjcpifaaBlFout
import Derived.Test.YtojadhcbjcpifaaLock
namespace Go.Proofs.Ytojadhcbjcpifaa.Bl
open Go.RowKit Go.Proofs.YtojadhcbjcpifaaW.PrintWords Go.Proofs.YtojadhcbjcpifaaW.PrintLast Go.Proofs.Ytojadhcbjcpifaa.Reg Go.Proofs.Ytojadhcbjcpifaa.By Go.Proofs.Ytojadhcbjcpifaa.Tx Go.Proofs.Ytojadhcbjcpifaa.Mur Go.Proofs.Ytojadhcbjcpifaa.Tok
open Go.MuLone
set_option linter.unusedSimpArgs false
set_option linter.unusedVariables false

section
variable {base F M g n c : Nat} {l : List Int} {k t : Int} {w w1 : World}
theorem lock_calls (h : Flt base F M g n c l k t 0 w) : Calls Try.prog 29 #[.pointer (some ⟨F, 0, none⟩)] w fun e w' => e = .returned (.tuple #[]) ∧ w' = w.setCell ⟨F, 0, none⟩ (.int .i32 1) :=
  lock_free Try.muLib ⟨F, 0, none⟩ w ((blk_cell h.fb 0).trans rfl) (blk_frozen h.fb 0)
theorem unlock_calls (h : Flt base F M g n c l k t 1 w) : Calls Try.prog 31 #[.pointer (some ⟨F, 0, none⟩)] w fun e w' => e = .returned (.tuple #[]) ∧ w' = w.setCell ⟨F, 0, none⟩ (.int .i32 0) :=
  unlock_held Try.muLib ⟨F, 0, none⟩ w ((blk_cell h.fb 0).trans rfl) (blk_frozen h.fb 0)
end
set_option maxHeartbeats 8000000 in
set_option maxRecDepth 100000 in
theorem addOut_calls (base F M g n c K : Nat) (l : List Int) (t : Int) (P : Nat) (h : List Int) (i : Int) (w : World) (hbase : base ≤ w.heap.size) (hF : Flt base F M g n c l (K : Int) t 0 w) (hP : w.heap[P]? = some (.cells (opc h i).toArray 46 (0, 0))) (hl : h.length = 32) (hb : Bytes h) (hi : 0 ≤ i ∧ i < 4294967296) (hn : 1 ≤ n ∧ n ≤ 2000) (hk : 1 ≤ K ∧ K ≤ 50) (ht : 0 ≤ t ∧ t < 4294967296) :
    Calls Try.prog 20 #[.pointer (some ⟨F, 0, none⟩), .pointer (some ⟨P, 0, none⟩)] w fun e w' => e = .returned (.tuple #[]) ∧ Flt base F M g n c (addB n t (ob h i) l K) (K : Int) t 0 w' ∧ Below base w w' := by
  have hne : P ≠ F := fun e => by
    have := hF.fb
    rw [← e, hP] at this
    simp at this
  have H1 := Lib.hid (lock_calls hF)
  have H2 := Lib.hid (faddOut_calls base F M g n c K l t 1 P h i (w.setCell ⟨F, 0, none⟩ (.int .i32 1)) (by simpa using hbase) (hF.word 1) (blk_far hP hne _) hl hb hi hn hk ht)
  have HB := Lib.hid ((Below.refl base w).setCell (p := ⟨F, 0, none⟩) hF.bF (.int .i32 1))
  have HBF := Lib.hid hF.bF
  clear hF hP hb hi hn hk ht hne hl hbase
  go_enter Try.func20, Try.ntmps20
  go_wp2_with (first
    | (go_at_call 29; go_must ((with_reducible refine H1.out.mono ?_); rintro e w1 ⟨rfl, rfl⟩))
    | (go_at_call 30; go_must ((with_reducible refine H2.out.mono ?_); rintro e w2 ⟨rfl, hF2, hB2⟩; have HF2 := Lib.hid hF2; have HB2 := Lib.hid (HB.out.trans hB2); clear hF2 hB2))
    | (go_at_call 31; go_must ((with_reducible refine (unlock_calls HF2.out).mono ?_); rintro e w3 ⟨rfl, rfl⟩)))
  first | go_end0 | refine bodyPost_ret (results_none rfl _ _ _) rfl ?_
  exact ⟨rfl, HF2.out.word 0, HB2.out.setCell HBF.out _⟩
set_option maxHeartbeats 8000000 in
set_option maxRecDepth 100000 in
theorem hasOut_calls (base F M g n c K : Nat) (l : List Int) (t : Int) (P : Nat) (h : List Int) (i : Int) (w : World) (hbase : base ≤ w.heap.size) (hF : Flt base F M g n c l (K : Int) t 0 w) (hP : w.heap[P]? = some (.cells (opc h i).toArray 46 (0, 0))) (hl : h.length = 32) (hb : Bytes h) (hi : 0 ≤ i ∧ i < 4294967296) (hn : 1 ≤ n ∧ n ≤ 2000) (hk : 1 ≤ K ∧ K ≤ 50) (ht : 0 ≤ t ∧ t < 4294967296) (hBy : Bytes l) :
    Calls Try.prog 25 #[.pointer (some ⟨F, 0, none⟩), .pointer (some ⟨P, 0, none⟩)] w fun e w' => e = .returned (.bool (hasB n t (ob h i) l K)) ∧ Below base w w' := by
  have hne : P ≠ F := fun e => by
    have := hF.fb
    rw [← e, hP] at this
    simp at this
  have H1 := Lib.hid (lock_calls hF)
  have H2 := Lib.hid (fhasOut_calls base F M g n c K l t 1 P h i (w.setCell ⟨F, 0, none⟩ (.int .i32 1)) (hF.word 1) (blk_far hP hne _) hl hb hi hn hk ht hBy)
  have HB := Lib.hid ((Below.refl base w).setCell (p := ⟨F, 0, none⟩) hF.bF (.int .i32 1))
  have HF := Lib.hid (hF.word 1)
  have HBF := Lib.hid hF.bF
  have HBS := Lib.hid (show base ≤ (w.setCell ⟨F, 0, none⟩ (.int .i32 1)).heap.size by simpa using hbase)
  clear hF hP hb hi hn hk ht hne hl hbase hBy
  obtain ⟨r, hr⟩ : ∃ r, hasB n t (ob h i) l K = r := ⟨_, rfl⟩
  rw [hr] at H2 ⊢
  go_enter Try.func25, Try.ntmps25
  go_wp2_with (first
    | (go_at_call 29; go_must ((with_reducible refine H1.out.mono ?_); rintro e w1 ⟨rfl, rfl⟩))
    | (go_at_call 33; go_must ((with_reducible refine H2.out.mono ?_); rintro e w2 ⟨rfl, hB2⟩; have HF2 := Lib.hid (HF.out.below hB2); have HB2 := Lib.hid (HB.out.trans (below_low HBS.out hB2)); clear hB2))
    | (go_at_call 31; go_must ((with_reducible refine (unlock_calls HF2.out).mono ?_); rintro e w3 ⟨rfl, rfl⟩)))
  go_ret
  exact ⟨rfl, HB2.out.setCell HBF.out _⟩
set_option maxHeartbeats 8000000 in
set_option maxRecDepth 100000 in
theorem msg_calls (base F M g n c : Nat) (l : List Int) (k t : Int) (w : World) (hF : Flt base F M g n c l k t 0 w) :
    Calls Try.prog 32 #[.pointer (some ⟨F, 0, none⟩)] w fun e w' => e = .returned (.pointer (some ⟨M, 0, none⟩)) ∧ Flt base F M g n c l k t 0 w' ∧ Below base w w' ∧ KeepBut w w' F none := by
  have H1 := Lib.hid (lock_calls hF)
  have HF := Lib.hid (hF.word 1)
  have HB := Lib.hid ((Below.refl base w).setCell (p := ⟨F, 0, none⟩) hF.bF (.int .i32 1))
  have HBF := Lib.hid hF.bF
  have z2 := (blk_cell HF.out.fb 2).trans rfl
  clear hF
  go_enter Try.func32, Try.ntmps32
  go_wp2_with (first
    | (go_at_call 29; go_must ((with_reducible refine H1.out.mono ?_); rintro e w1 ⟨rfl, rfl⟩))
    | (go_at_call 31; go_must ((with_reducible refine (unlock_calls HF.out).mono ?_); rintro e w3 ⟨rfl, rfl⟩)))
  go_ret
  exact ⟨rfl, HF.out.word 0, HB.out.setCell HBF.out _, ((KeepBut.refl _ _ _).set_ _ _).set_ _ _⟩
end Go.Proofs.Ytojadhcbjcpifaa.Bl
