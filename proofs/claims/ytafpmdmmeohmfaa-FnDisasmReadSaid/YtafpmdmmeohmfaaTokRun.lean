/-
  The tokenizer's small methods, over what its block holds.
-/
import Derived.Test.YtafpmdmmeohmfaaProg
import Derived.WalkKit
import Derived.KernelRfl
import Derived.Outline
import Derived.BigQuiet
import Derived.WalkSpells
import Derived.StillTailTactics
import Derived.Lib.Hide
import Derived.Lib.EndianBits
import Derived.Test.YtafpmdmmeohmfaaWWords
import Derived.Test.YtafpmdmmeohmfaaWLast
import Derived.Test.YtafpmdmmeohmfaaWMore
import Derived.Test.YtafpmdmmeohmfaaWNEv
import Derived.Test.YtafpmdmmeohmfaaWGuard
import Derived.Test.YtafpmdmmeohmfaaTokCut
import Derived.Test.YtafpmdmmeohmfaaTokSpec
import Derived.Test.YtafpmdmmeohmfaaOpcode
namespace Go.Proofs.Ytafpmdmmeohmfaa.Tok
open Go.RowKit Go.Proofs.YtafpmdmmeohmfaaW.PrintWords Go.Proofs.YtafpmdmmeohmfaaW.PrintLast

/-- A tokenizer's cells. -/
def cellsT (A : Option Addr) (n c : Nat) (off pos : Int) (opv dv err : Value) : Array Value :=
  #[.slice A n c, .int .u16 0, .int .i32 off, .int .i32 pos, opv, dv, err]
/-- Block g is a tokenizer. -/
def Tz (w : World) (g : Nat) (A : Option Addr) (n c : Nat) (off pos : Int) (opv dv err : Value) : Prop :=
  w.heap[g]? = some (.cells (cellsT A n c off pos opv dv err) 64 (0, 0))

section
variable {w : World} {g : Nat} {A : Option Addr} {n c : Nat} {off pos : Int} {opv dv err : Value}
theorem Tz.c0 (h : Tz w g A n c off pos opv dv err) : w.cell? ⟨g, 0, none⟩ = some (.slice A n c) := (blk_cell h 0).trans rfl
theorem Tz.c2 (h : Tz w g A n c off pos opv dv err) : w.cell? ⟨g, 2, none⟩ = some (.int .i32 off) := (blk_cell h 2).trans rfl
theorem Tz.c3 (h : Tz w g A n c off pos opv dv err) : w.cell? ⟨g, 3, none⟩ = some (.int .i32 pos) := (blk_cell h 3).trans rfl
theorem Tz.c4 (h : Tz w g A n c off pos opv dv err) : w.cell? ⟨g, 4, none⟩ = some opv := (blk_cell h 4).trans rfl
theorem Tz.c5 (h : Tz w g A n c off pos opv dv err) : w.cell? ⟨g, 5, none⟩ = some dv := (blk_cell h 5).trans rfl
theorem Tz.c6 (h : Tz w g A n c off pos opv dv err) : w.cell? ⟨g, 6, none⟩ = some err := (blk_cell h 6).trans rfl
theorem Tz.fz (h : Tz w g A n c off pos opv dv err) (i : Nat) : w.frozen? ⟨g, i, none⟩ = false := blk_frozen h i
end

set_option maxRecDepth 100000 in
theorem done_calls (g : Nat) (A : Option Addr) (n c : Nat) (off pos : Int) (opv dv : Value) (w : World) (h : Tz w g A n c off pos opv dv .nilIface)
    (hn : n ≤ 2147483647) (b : Bool) (hb : decide ((n : Int) ≤ off) = b) :
    Calls Try.prog 50 #[.pointer (some ⟨g, 0, none⟩)] w fun e w' => e = .returned (.bool b) ∧ Drawn0 w w' := by
  have z0 := h.c0
  have z2 := h.c2
  have z6 := h.c6
  clear h
  have q62 : ∀ w : World, (binOp .neq 42 .nilIface .nilIface).run Try.prog w = .ok (.bool false) w := fun w => run_neq_nil_nil _ _ (by kernel_rfl)
  have hw : IntKind.i32.wrap (n : Int) = (n : Int) := by rw [IntKind.wrap]; simp [IntKind.bits, IntKind.signed]; omega
  go_enter Try.func50, Try.ntmps50
  go_wp2
  go_quiet (fail)
  go_wp2
  go_ret
  exact ⟨rfl, Drawn0.step (Drawn0.refl _) _⟩


theorem data_calls (g : Nat) (A : Option Addr) (n c : Nat) (off pos : Int) (opv dv err : Value) (w : World) (h : Tz w g A n c off pos opv dv err) :
    Calls Try.prog 37 #[.pointer (some ⟨g, 0, none⟩)] w fun e w' => e = .returned (dv) ∧ w = w' := by
  have z0 := h.c5
  clear h
  go_enter Try.func37, Try.ntmps37
  go_wp2
  go_ret
  exact ⟨rfl, rfl⟩

theorem byteIndex_calls (g : Nat) (A : Option Addr) (n c : Nat) (off pos : Int) (opv dv err : Value) (w : World) (h : Tz w g A n c off pos opv dv err) :
    Calls Try.prog 40 #[.pointer (some ⟨g, 0, none⟩)] w fun e w' => e = .returned (.int .i32 off) ∧ w = w' := by
  have z0 := h.c2
  clear h
  go_enter Try.func40, Try.ntmps40
  go_wp2
  go_ret
  exact ⟨rfl, rfl⟩

theorem err_calls (g : Nat) (A : Option Addr) (n c : Nat) (off pos : Int) (opv dv err : Value) (w : World) (h : Tz w g A n c off pos opv dv err) :
    Calls Try.prog 39 #[.pointer (some ⟨g, 0, none⟩)] w fun e w' => e = .returned (err) ∧ w = w' := by
  have z0 := h.c6
  clear h
  go_enter Try.func39, Try.ntmps39
  go_wp2
  go_ret
  exact ⟨rfl, rfl⟩

theorem opcode_calls (g : Nat) (A : Option Addr) (n c : Nat) (off pos : Int) (dv err : Value) (go : Nat) (b len : Int) (nm : ByteArray) (w : World) (h : Tz w g A n c off pos (.pointer (some ⟨go, 0, none⟩)) dv err)
    (ho : w.heap[go]? = some (.cells #[.int .u8 b, .string nm, .int .i64 len] 88 (0, 0))) :
    Calls Try.prog 76 #[.pointer (some ⟨g, 0, none⟩)] w fun e w' => e = .returned (.int .u8 b) ∧ w = w' := by
  have z0 := h.c4
  have z1 : w.cell? ⟨go, 0, none⟩ = some (.int .u8 b) := (blk_cell ho 0).trans rfl
  clear h ho
  go_enter Try.func76, Try.ntmps76
  go_wp2
  go_ret
  exact ⟨rfl, rfl⟩

theorem u16_calls (A : Option Addr) (m c : Nat) (l : List Int) (w : World) (hr : Kd.C (Kd.int .u8) w A m l) (hb : Bytes l) (hl : l.length = 2) (r : Int) (h : leV l = r) :
    Calls Try.prog 52 #[.agg #[], .slice A m c] w fun e w' => e = .returned (.int .u16 r) ∧ Below w.heap.size w w' := by
  obtain rfl := Kd.C_len hr
  obtain ⟨a0, a1, rfl⟩ : ∃ a0 a1, l = [a0, a1] := by
    match l, hl with
    | [a0, a1], _ => exact ⟨a0, a1, rfl⟩
  obtain ⟨ad, e, _⟩ := Kd.at_int hr 0 (by omega) (by simp)
  cases e
  have at_ : ∀ o : Obj, (w.alloc o).cell? ad = some (.int .u8 a0) ∧ (w.alloc o).cell? ⟨ad.block, ad.off + 1, none⟩ = some (.int .u8 a1) := by
    intro o
    have hq := Kd.C_below hr (below_alloc (Below.refl _ _) o)
    obtain ⟨ad', e, x0⟩ := Kd.at_int hq 0 (by omega) (by simp)
    cases e
    obtain ⟨ad', e, x1⟩ := Kd.at_int hq 1 (by omega) (by simp)
    cases e
    exact ⟨x0, x1⟩
  have x0 := fun o => (at_ o).1
  have x1 := fun o => (at_ o).2
  have h0 := hb a0 (by simp)
  have h1 := hb a1 (by simp)
  have H := Lib.hid h
  clear hr hb h hl at_
  go_enter Try.func52, Try.ntmps52
  go_wp2
  go_quiet (fail)
  go_wp2
  go_ret
  refine ⟨?_, pw_below_drewN (below_alloc (Below.refl _ _) _) _⟩
  have e1 : bits .or .u16 a0 (a1 * 256) = a0 + a1 * 256 := u16_or8 _ _ (by omega) (by omega) (by omega) (by omega) (by omega)
  have e2 : leV [a0, a1] = a0 + a1 * 256 := by simp only [leV]; omega
  rw [← H.out, e2, ← e1]
  rfl
theorem u32_calls (A : Option Addr) (m c : Nat) (l : List Int) (w : World) (hr : Kd.C (Kd.int .u8) w A m l) (hb : Bytes l) (hl : l.length = 4) (r : Int) (h : leV l = r) :
    Calls Try.prog 53 #[.agg #[], .slice A m c] w fun e w' => e = .returned (.int .u32 r) ∧ Below w.heap.size w w' := by
  obtain rfl := Kd.C_len hr
  obtain ⟨a0, a1, a2, a3, rfl⟩ : ∃ a0 a1 a2 a3, l = [a0, a1, a2, a3] := by
    match l, hl with
    | [a0, a1, a2, a3], _ => exact ⟨a0, a1, a2, a3, rfl⟩
  obtain ⟨ad, e, _⟩ := Kd.at_int hr 0 (by omega) (by simp)
  cases e
  have at_ : ∀ o : Obj, (w.alloc o).cell? ad = some (.int .u8 a0) ∧ (w.alloc o).cell? ⟨ad.block, ad.off + 1, none⟩ = some (.int .u8 a1) ∧
      (w.alloc o).cell? ⟨ad.block, ad.off + 2, none⟩ = some (.int .u8 a2) ∧ (w.alloc o).cell? ⟨ad.block, ad.off + 3, none⟩ = some (.int .u8 a3) := by
    intro o
    have hq := Kd.C_below hr (below_alloc (Below.refl _ _) o)
    obtain ⟨ad', e, x0⟩ := Kd.at_int hq 0 (by omega) (by simp)
    cases e
    obtain ⟨ad', e, x1⟩ := Kd.at_int hq 1 (by omega) (by simp)
    cases e
    obtain ⟨ad', e, x2⟩ := Kd.at_int hq 2 (by omega) (by simp)
    cases e
    obtain ⟨ad', e, x3⟩ := Kd.at_int hq 3 (by omega) (by simp)
    cases e
    exact ⟨x0, x1, x2, x3⟩
  have x0 := fun o => (at_ o).1
  have x1 := fun o => (at_ o).2.1
  have x2 := fun o => (at_ o).2.2.1
  have x3 := fun o => (at_ o).2.2.2
  have h0 := hb a0 (by simp)
  have h1 := hb a1 (by simp)
  have h2 := hb a2 (by simp)
  have h3 := hb a3 (by simp)
  have H := Lib.hid h
  clear hr hb h hl at_
  go_enter Try.func53, Try.ntmps53
  go_wp2
  go_quiet (fail)
  go_wp2
  go_ret
  refine ⟨?_, pw_below_drewN (below_alloc (Below.refl _ _) _) _⟩
  have e1 : bits .or .u32 a0 (a1 * 256) = a0 + a1 * 256 := u32_or8 _ _ (by omega) (by omega) (by omega) (by omega) (by omega)
  have e2 : bits .or .u32 (a0 + a1 * 256) (a2 * 65536) = a0 + a1 * 256 + a2 * 65536 := u32_or16 _ _ (by omega) (by omega) (by omega) (by omega) (by omega)
  have e3 : bits .or .u32 (a0 + a1 * 256 + a2 * 65536) (a3 * 16777216) = a0 + a1 * 256 + a2 * 65536 + a3 * 16777216 := u32_or24 _ _ (by omega) (by omega) (by omega) (by omega) (by omega)
  have e4 : leV [a0, a1, a2, a3] = a0 + a1 * 256 + a2 * 65536 + a3 * 16777216 := by simp only [leV]; omega
  rw [← H.out, e4, ← e3, ← e2, ← e1]
  rfl
end Go.Proofs.Ytafpmdmmeohmfaa.Tok
