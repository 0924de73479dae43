/-
  The walks of the functions that tell a script that pays a key, and the anchor. Printed by wip/gen/clkey.py.
-/
import Derived.Test.YtafpmdmmeohmfaaClForms
import Derived.Test.YtafpmdmmeohmfaaTokPure
import Derived.Test.YtafpmdmmeohmfaaQFnClassx7
import Derived.Lib.Bytes
namespace Go.Proofs.Ytafpmdmmeohmfaa.Forms
open Go.RowKit Go.Proofs.YtafpmdmmeohmfaaW.PrintWords Go.Proofs.YtafpmdmmeohmfaaW.PrintLast
set_option linter.unusedVariables false
set_option linter.unusedSimpArgs false

def keyC (l : List Int) : Bool := decide (l.length = 35) && rd l 34 == 172 && rd l 0 == 33 && (rd l 1 == 2 || rd l 1 == 3)
def keyU (l : List Int) : Bool := decide (l.length = 67) && rd l 66 == 172 && rd l 0 == 65 && (rd l 1 == 4 || rd l 1 == 6 || rd l 1 == 7)

set_option maxHeartbeats 4000000 in
set_option maxRecDepth 100000 in
theorem extractCompressedPubKey_calls (A : Option Addr) (m c : Nat) (l : List Int) (w : World) (hr : Kd.C (Kd.int .u8) w A m l) (hc : m ≤ c) (b : Bool) (h : keyC l = b) :
    Calls Try.prog 79 #[.slice A m c] w fun e w' => ((b = false ∧ e = .returned (.slice none 0 0)) ∨ (b = true ∧ ∃ ad n' c', e = .returned (.slice (some ad) n' c'))) ∧ w = w' := by
  have hl := Kd.C_len hr
  obtain rfl := hl
  by_cases h0 : (l.length : Int) = 35
  · obtain ⟨ad0, e0, z0⟩ := Kd.at_int hr 34 (by omega) (by omega)
    obtain ⟨ad1, e1, z1⟩ := Kd.at_int hr 0 (by omega) (by omega)
    obtain ⟨ad2, e2, z2⟩ := Kd.at_int hr 1 (by omega) (by omega)
    cases e0; cases e1; cases e2
    have hd : decide (l.length = 35) = true := decide_eq_true (by omega)
    rw [keyC, hd, Bool.true_and] at h
    replace z0 : w.cell? ⟨ad0.block, ad0.off + 34, none⟩ = some (.int .u8 (rd l 34)) := z0
    replace z1 : w.cell? ad0 = some (.int .u8 (rd l 0)) := z1
    replace z2 : w.cell? ⟨ad0.block, ad0.off + 1, none⟩ = some (.int .u8 (rd l 1)) := z2
    generalize rd l 34 = x0 at z0 h
    generalize rd l 0 = x1 at z1 h
    generalize rd l 1 = x2 at z2 h
    obtain ⟨k0, g0⟩ : ∃ k, (x0 == 172) = k := ⟨_, rfl⟩
    obtain ⟨k1, g1⟩ : ∃ k, (x1 == 33) = k := ⟨_, rfl⟩
    obtain ⟨q0, r0⟩ : ∃ k, (x2 == 2) = k := ⟨_, rfl⟩
    obtain ⟨q1, r1⟩ : ∃ k, (x2 == 3) = k := ⟨_, rfl⟩
    rw [g0, g1, r0, r1] at h
    have H := Lib.hid h
    have b0 : (0 : Int) < (l.length : Int) := by rw [h0]; decide
    have b1 : (1 : Int) < (l.length : Int) := by rw [h0]; decide
    have b2 : (34 : Int) < (l.length : Int) := by rw [h0]; decide
    have hcap : 34 ≤ c := by omega
    have h0b : ((l.length : Int) == 35) = true := beq_iff_eq.2 h0
    clear h h0 hd hr hc
    go_enter Try.func79, Try.ntmps79
    cases k0 <;> cases k1 <;> cases q0 <;> cases q1 <;>
    · go_wp2
      go_ret
      first | exact ⟨.inl ⟨H.out.symm, rfl⟩, rfl⟩ | exact ⟨.inr ⟨H.out.symm, _, _, _, rfl⟩, rfl⟩
  · have hd : decide (l.length = 35) = false := decide_eq_false (by omega)
    rw [keyC, hd, Bool.false_and, Bool.false_and, Bool.false_and] at h
    have H := Lib.hid h
    have h0b : ((l.length : Int) == 35) = false := beq_eq_false_iff_ne.2 h0
    clear h h0 hd hr hc
    go_enter Try.func79, Try.ntmps79
    go_wp2
    go_ret
    exact ⟨.inl ⟨H.out.symm, rfl⟩, rfl⟩

set_option maxHeartbeats 4000000 in
set_option maxRecDepth 100000 in
theorem extractUncompressedPubKey_calls (A : Option Addr) (m c : Nat) (l : List Int) (w : World) (hr : Kd.C (Kd.int .u8) w A m l) (hc : m ≤ c) (b : Bool) (h : keyU l = b) :
    Calls Try.prog 80 #[.slice A m c] w fun e w' => ((b = false ∧ e = .returned (.slice none 0 0)) ∨ (b = true ∧ ∃ ad n' c', e = .returned (.slice (some ad) n' c'))) ∧ w = w' := by
  have hl := Kd.C_len hr
  obtain rfl := hl
  by_cases h0 : (l.length : Int) = 67
  · obtain ⟨ad0, e0, z0⟩ := Kd.at_int hr 66 (by omega) (by omega)
    obtain ⟨ad1, e1, z1⟩ := Kd.at_int hr 0 (by omega) (by omega)
    obtain ⟨ad2, e2, z2⟩ := Kd.at_int hr 1 (by omega) (by omega)
    cases e0; cases e1; cases e2
    have hd : decide (l.length = 67) = true := decide_eq_true (by omega)
    rw [keyU, hd, Bool.true_and] at h
    replace z0 : w.cell? ⟨ad0.block, ad0.off + 66, none⟩ = some (.int .u8 (rd l 66)) := z0
    replace z1 : w.cell? ad0 = some (.int .u8 (rd l 0)) := z1
    replace z2 : w.cell? ⟨ad0.block, ad0.off + 1, none⟩ = some (.int .u8 (rd l 1)) := z2
    generalize rd l 66 = x0 at z0 h
    generalize rd l 0 = x1 at z1 h
    generalize rd l 1 = x2 at z2 h
    obtain ⟨k0, g0⟩ : ∃ k, (x0 == 172) = k := ⟨_, rfl⟩
    obtain ⟨k1, g1⟩ : ∃ k, (x1 == 65) = k := ⟨_, rfl⟩
    obtain ⟨q0, r0⟩ : ∃ k, (x2 == 4) = k := ⟨_, rfl⟩
    obtain ⟨q1, r1⟩ : ∃ k, (x2 == 6) = k := ⟨_, rfl⟩
    obtain ⟨q2, r2⟩ : ∃ k, (x2 == 7) = k := ⟨_, rfl⟩
    rw [g0, g1, r0, r1, r2] at h
    have H := Lib.hid h
    have b0 : (0 : Int) < (l.length : Int) := by rw [h0]; decide
    have b1 : (1 : Int) < (l.length : Int) := by rw [h0]; decide
    have b2 : (66 : Int) < (l.length : Int) := by rw [h0]; decide
    have hcap : 66 ≤ c := by omega
    have h0b : ((l.length : Int) == 67) = true := beq_iff_eq.2 h0
    clear h h0 hd hr hc
    go_enter Try.func80, Try.ntmps80
    cases k0 <;> cases k1 <;> cases q0 <;> cases q1 <;> cases q2 <;>
    · go_wp2
      go_ret
      first | exact ⟨.inl ⟨H.out.symm, rfl⟩, rfl⟩ | exact ⟨.inr ⟨H.out.symm, _, _, _, rfl⟩, rfl⟩
  · have hd : decide (l.length = 67) = false := decide_eq_false (by omega)
    rw [keyU, hd, Bool.false_and, Bool.false_and, Bool.false_and] at h
    have H := Lib.hid h
    have h0b : ((l.length : Int) == 67) = false := beq_eq_false_iff_ne.2 h0
    clear h h0 hd hr hc
    go_enter Try.func80, Try.ntmps80
    go_wp2
    go_ret
    exact ⟨.inl ⟨H.out.symm, rfl⟩, rfl⟩

def isKeyP (l : List Int) : Bool := keyC l || keyU l
set_option maxRecDepth 100000 in
theorem extractPubKey_calls (A : Option Addr) (m c : Nat) (l : List Int) (w : World) (hr : Kd.C (Kd.int .u8) w A m l) (hc : m ≤ c) (b : Bool) (h : isKeyP l = b) :
    Calls Try.prog 69 #[.slice A m c] w fun e w' => ((b = false ∧ e = .returned (.slice none 0 0)) ∨ (b = true ∧ ∃ ad n' c', e = .returned (.slice (some ad) n' c'))) ∧ w = w' := by
  have HR := Lib.hid hr
  have HC := Lib.hid hc
  clear hr hc
  unfold isKeyP at h
  generalize hk : keyC l = k at h
  generalize hu : keyU l = u at h
  have HK := Lib.hid hk
  have HU := Lib.hid hu
  clear hk hu
  have qT : ∀ (w : World) (a : Option Addr) (n c n' c' : Nat), (binOp .neq 22 (.slice a n c) (.slice none n' c')).run Try.prog w = .ok (.bool (!a.isNone)) w := fun w a n c n' c' => run_neq_slice_nil_any w _ _ a n c n' c' Try.underlying22
  go_enter Try.func69, Try.ntmps69
  go_wp2_with (go_at_call 79; refine (extractCompressedPubKey_calls _ _ _ l _ HR.out HC.out k HK.out).mono ?_; rintro e w' ⟨⟨rfl, rfl⟩ | ⟨rfl, ad, n', c', rfl⟩, rfl⟩)
  · go_wp2_with (go_at_call 80; refine (extractUncompressedPubKey_calls _ _ _ l _ HR.out HC.out u HU.out).mono ?_; rintro e w' ⟨⟨rfl, rfl⟩ | ⟨rfl, ad, n', c', rfl⟩, rfl⟩)
    · go_wp2
      go_ret
      exact ⟨.inl ⟨h.symm, rfl⟩, rfl⟩
    · go_wp2
      go_ret
      exact ⟨.inr ⟨h.symm, _, _, _, rfl⟩, rfl⟩
  · go_wp2
    go_ret
    exact ⟨.inr ⟨h.symm, _, _, _, rfl⟩, rfl⟩

set_option maxRecDepth 100000 in
theorem isPubKeyScript_calls (A : Option Addr) (m c : Nat) (l : List Int) (w : World) (hr : Kd.C (Kd.int .u8) w A m l) (hc : m ≤ c) (b : Bool) (h : isKeyP l = b) :
    Calls Try.prog 57 #[.slice A m c] w fun e w' => e = .returned (.bool b) ∧ w = w' := by
  have HR := Lib.hid hr
  have HC := Lib.hid hc
  have H := Lib.hid h
  clear hr hc h
  have qT : ∀ (w : World) (a : Option Addr) (n c n' c' : Nat), (binOp .neq 22 (.slice a n c) (.slice none n' c')).run Try.prog w = .ok (.bool (!a.isNone)) w := fun w a n c n' c' => run_neq_slice_nil_any w _ _ a n c n' c' Try.underlying22
  go_enter Try.func57, Try.ntmps57
  go_wp2_with (go_at_call 69; refine (extractPubKey_calls _ _ _ l _ HR.out HC.out b H.out).mono ?_; rintro e w' ⟨⟨rfl, rfl⟩ | ⟨rfl, ad, n', c', rfl⟩, rfl⟩)
  · go_wp2
    go_ret
    exact ⟨rfl, rfl⟩
  · go_wp2
    go_ret
    exact ⟨rfl, rfl⟩
end Go.Proofs.Ytafpmdmmeohmfaa.Forms
