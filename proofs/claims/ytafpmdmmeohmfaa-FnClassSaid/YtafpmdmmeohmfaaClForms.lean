/-
  The walks of the functions that tell a script's form by its bytes alone. Printed by wip/gen/forms.py and clforms.py.
-/
import Derived.Test.YtafpmdmmeohmfaaProg
import Derived.WalkKit
import Derived.Outline
import Derived.WalkSpells
import Derived.Lib.Hide
import Derived.Test.YtafpmdmmeohmfaaWWords
import Derived.Test.YtafpmdmmeohmfaaWLast
import Derived.Test.YtafpmdmmeohmfaaWMore
namespace Go.Proofs.Ytafpmdmmeohmfaa.Forms
open Go.RowKit Go.Proofs.YtafpmdmmeohmfaaW.PrintWords Go.Proofs.YtafpmdmmeohmfaaW.PrintLast


def isIsPubKeyHash (l : List Int) : Bool := decide (l.length = 25 ∧ rd l 0 = 118 ∧ rd l 1 = 169 ∧ rd l 2 = 20 ∧ rd l 23 = 136 ∧ rd l 24 = 172)
set_option maxHeartbeats 2000000 in
set_option maxRecDepth 100000 in
theorem extractPubKeyHash_calls (A : Option Addr) (m c : Nat) (l : List Int) (w : World) (hr : Kd.C (Kd.int .u8) w A m l) (hc : m ≤ c) (b : Bool) (h : isIsPubKeyHash l = b) :
    Calls Try.prog 70 #[.slice A m c] w fun e w' => ((b = false ∧ e = .returned (.slice none 0 0)) ∨ (b = true ∧ ∃ ad n' c', e = .returned (.slice (some ad) n' c'))) ∧ w = w' := by
  have hl := Kd.C_len hr
  obtain rfl := hl
  have HR := Lib.hid hr
  have HC := Lib.hid hc
  have H := Lib.hid h
  clear hr hc h
  by_cases h0 : (l.length : Int) = 25
  · by_cases h1 : rd l 0 = 118
    · by_cases h2 : rd l 1 = 169
      · by_cases h3 : rd l 2 = 20
        · by_cases h4 : rd l 23 = 136
          · by_cases h5 : rd l 24 = 172
            · have hb : b = true := by rw [← H.out]; simp only [isIsPubKeyHash]; exact decide_eq_true ⟨by omega, h1, h2, h3, h4, h5⟩
              have Hb := Lib.hid hb
              clear hb
              obtain ⟨ad0, e0, x0⟩ := Kd.at_int HR.out 0 (by omega) (by omega)
              cases e0
              rw [h1] at x0
              replace x0 : w.cell? ad0 = some (.int .u8 118) := x0
              obtain ⟨ad1, e1, x1⟩ := Kd.at_int HR.out 1 (by omega) (by omega)
              cases e1
              rw [h2] at x1
              replace x1 : w.cell? ⟨ad0.block, ad0.off + 1, none⟩ = some (.int .u8 169) := x1
              obtain ⟨ad2, e2, x2⟩ := Kd.at_int HR.out 2 (by omega) (by omega)
              cases e2
              rw [h3] at x2
              replace x2 : w.cell? ⟨ad0.block, ad0.off + 2, none⟩ = some (.int .u8 20) := x2
              obtain ⟨ad3, e3, x3⟩ := Kd.at_int HR.out 23 (by omega) (by omega)
              cases e3
              rw [h4] at x3
              replace x3 : w.cell? ⟨ad0.block, ad0.off + 23, none⟩ = some (.int .u8 136) := x3
              obtain ⟨ad4, e4, x4⟩ := Kd.at_int HR.out 24 (by omega) (by omega)
              cases e4
              rw [h5] at x4
              replace x4 : w.cell? ⟨ad0.block, ad0.off + 24, none⟩ = some (.int .u8 172) := x4
              clear h1
              clear h2
              clear h3
              clear h4
              clear h5
              have h0b : ((l.length : Int) == 25) = true := beq_iff_eq.2 h0
              have b0 : (0 : Int) < (l.length : Int) := by rw [h0]; decide
              have b1 : (1 : Int) < (l.length : Int) := by rw [h0]; decide
              have b2 : (2 : Int) < (l.length : Int) := by rw [h0]; decide
              have b3 : (23 : Int) < (l.length : Int) := by rw [h0]; decide
              have b4 : (24 : Int) < (l.length : Int) := by rw [h0]; decide
              have hcap : 25 ≤ c := by have := HC.out; omega
              clear h0
              go_enter Try.func70, Try.ntmps70
              go_wp2
              go_ret
              exact ⟨.inr ⟨Hb.out, _, _, _, rfl⟩, rfl⟩
            · have hb : b = false := by rw [← H.out]; simp only [isIsPubKeyHash]; exact decide_eq_false fun hh => h5 hh.2.2.2.2.2
              have Hb := Lib.hid hb
              clear hb
              obtain ⟨ad0, e0, x0⟩ := Kd.at_int HR.out 0 (by omega) (by omega)
              cases e0
              rw [h1] at x0
              replace x0 : w.cell? ad0 = some (.int .u8 118) := x0
              obtain ⟨ad1, e1, x1⟩ := Kd.at_int HR.out 1 (by omega) (by omega)
              cases e1
              rw [h2] at x1
              replace x1 : w.cell? ⟨ad0.block, ad0.off + 1, none⟩ = some (.int .u8 169) := x1
              obtain ⟨ad2, e2, x2⟩ := Kd.at_int HR.out 2 (by omega) (by omega)
              cases e2
              rw [h3] at x2
              replace x2 : w.cell? ⟨ad0.block, ad0.off + 2, none⟩ = some (.int .u8 20) := x2
              obtain ⟨ad3, e3, x3⟩ := Kd.at_int HR.out 23 (by omega) (by omega)
              cases e3
              rw [h4] at x3
              replace x3 : w.cell? ⟨ad0.block, ad0.off + 23, none⟩ = some (.int .u8 136) := x3
              obtain ⟨ad4, e4, x4⟩ := Kd.at_int HR.out 24 (by omega) (by omega)
              cases e4
              generalize rd l 24 = y at h5 x4
              replace x4 : w.cell? ⟨ad0.block, ad0.off + 24, none⟩ = some (.int .u8 y) := x4
              have hy : (y == 172) = false := by simpa using h5
              clear h5
              clear h1
              clear h2
              clear h3
              clear h4
              have h0b : ((l.length : Int) == 25) = true := beq_iff_eq.2 h0
              have b0 : (0 : Int) < (l.length : Int) := by rw [h0]; decide
              have b1 : (1 : Int) < (l.length : Int) := by rw [h0]; decide
              have b2 : (2 : Int) < (l.length : Int) := by rw [h0]; decide
              have b3 : (23 : Int) < (l.length : Int) := by rw [h0]; decide
              have b4 : (24 : Int) < (l.length : Int) := by rw [h0]; decide
              have hcap : 25 ≤ c := by have := HC.out; omega
              clear h0
              go_enter Try.func70, Try.ntmps70
              go_wp2
              go_ret
              exact ⟨.inl ⟨Hb.out, rfl⟩, rfl⟩
          · have hb : b = false := by rw [← H.out]; simp only [isIsPubKeyHash]; exact decide_eq_false fun hh => h4 hh.2.2.2.2.1
            have Hb := Lib.hid hb
            clear hb
            obtain ⟨ad0, e0, x0⟩ := Kd.at_int HR.out 0 (by omega) (by omega)
            cases e0
            rw [h1] at x0
            replace x0 : w.cell? ad0 = some (.int .u8 118) := x0
            obtain ⟨ad1, e1, x1⟩ := Kd.at_int HR.out 1 (by omega) (by omega)
            cases e1
            rw [h2] at x1
            replace x1 : w.cell? ⟨ad0.block, ad0.off + 1, none⟩ = some (.int .u8 169) := x1
            obtain ⟨ad2, e2, x2⟩ := Kd.at_int HR.out 2 (by omega) (by omega)
            cases e2
            rw [h3] at x2
            replace x2 : w.cell? ⟨ad0.block, ad0.off + 2, none⟩ = some (.int .u8 20) := x2
            obtain ⟨ad3, e3, x3⟩ := Kd.at_int HR.out 23 (by omega) (by omega)
            cases e3
            generalize rd l 23 = y at h4 x3
            replace x3 : w.cell? ⟨ad0.block, ad0.off + 23, none⟩ = some (.int .u8 y) := x3
            have hy : (y == 136) = false := by simpa using h4
            clear h4
            clear h1
            clear h2
            clear h3
            have h0b : ((l.length : Int) == 25) = true := beq_iff_eq.2 h0
            have b0 : (0 : Int) < (l.length : Int) := by rw [h0]; decide
            have b1 : (1 : Int) < (l.length : Int) := by rw [h0]; decide
            have b2 : (2 : Int) < (l.length : Int) := by rw [h0]; decide
            have b3 : (23 : Int) < (l.length : Int) := by rw [h0]; decide
            clear h0
            go_enter Try.func70, Try.ntmps70
            go_wp2
            go_ret
            exact ⟨.inl ⟨Hb.out, rfl⟩, rfl⟩
        · have hb : b = false := by rw [← H.out]; simp only [isIsPubKeyHash]; exact decide_eq_false fun hh => h3 hh.2.2.2.1
          have Hb := Lib.hid hb
          clear hb
          obtain ⟨ad0, e0, x0⟩ := Kd.at_int HR.out 0 (by omega) (by omega)
          cases e0
          rw [h1] at x0
          replace x0 : w.cell? ad0 = some (.int .u8 118) := x0
          obtain ⟨ad1, e1, x1⟩ := Kd.at_int HR.out 1 (by omega) (by omega)
          cases e1
          rw [h2] at x1
          replace x1 : w.cell? ⟨ad0.block, ad0.off + 1, none⟩ = some (.int .u8 169) := x1
          obtain ⟨ad2, e2, x2⟩ := Kd.at_int HR.out 2 (by omega) (by omega)
          cases e2
          generalize rd l 2 = y at h3 x2
          replace x2 : w.cell? ⟨ad0.block, ad0.off + 2, none⟩ = some (.int .u8 y) := x2
          have hy : (y == 20) = false := by simpa using h3
          clear h3
          clear h1
          clear h2
          have h0b : ((l.length : Int) == 25) = true := beq_iff_eq.2 h0
          have b0 : (0 : Int) < (l.length : Int) := by rw [h0]; decide
          have b1 : (1 : Int) < (l.length : Int) := by rw [h0]; decide
          have b2 : (2 : Int) < (l.length : Int) := by rw [h0]; decide
          clear h0
          go_enter Try.func70, Try.ntmps70
          go_wp2
          go_ret
          exact ⟨.inl ⟨Hb.out, rfl⟩, rfl⟩
      · have hb : b = false := by rw [← H.out]; simp only [isIsPubKeyHash]; exact decide_eq_false fun hh => h2 hh.2.2.1
        have Hb := Lib.hid hb
        clear hb
        obtain ⟨ad0, e0, x0⟩ := Kd.at_int HR.out 0 (by omega) (by omega)
        cases e0
        rw [h1] at x0
        replace x0 : w.cell? ad0 = some (.int .u8 118) := x0
        obtain ⟨ad1, e1, x1⟩ := Kd.at_int HR.out 1 (by omega) (by omega)
        cases e1
        generalize rd l 1 = y at h2 x1
        replace x1 : w.cell? ⟨ad0.block, ad0.off + 1, none⟩ = some (.int .u8 y) := x1
        have hy : (y == 169) = false := by simpa using h2
        clear h2
        clear h1
        have h0b : ((l.length : Int) == 25) = true := beq_iff_eq.2 h0
        have b0 : (0 : Int) < (l.length : Int) := by rw [h0]; decide
        have b1 : (1 : Int) < (l.length : Int) := by rw [h0]; decide
        clear h0
        go_enter Try.func70, Try.ntmps70
        go_wp2
        go_ret
        exact ⟨.inl ⟨Hb.out, rfl⟩, rfl⟩
    · have hb : b = false := by rw [← H.out]; simp only [isIsPubKeyHash]; exact decide_eq_false fun hh => h1 hh.2.1
      have Hb := Lib.hid hb
      clear hb
      obtain ⟨ad0, e0, x0⟩ := Kd.at_int HR.out 0 (by omega) (by omega)
      cases e0
      generalize rd l 0 = y at h1 x0
      replace x0 : w.cell? ad0 = some (.int .u8 y) := x0
      have hy : (y == 118) = false := by simpa using h1
      clear h1
      have h0b : ((l.length : Int) == 25) = true := beq_iff_eq.2 h0
      have b0 : (0 : Int) < (l.length : Int) := by rw [h0]; decide
      clear h0
      go_enter Try.func70, Try.ntmps70
      go_wp2
      go_ret
      exact ⟨.inl ⟨Hb.out, rfl⟩, rfl⟩
  · have hb : b = false := by rw [← H.out]; simp only [isIsPubKeyHash]; exact decide_eq_false fun hh => h0 (by omega)
    have Hb := Lib.hid hb
    clear hb
    have h0b : ((l.length : Int) == 25) = false := by simpa using h0
    clear h0
    go_enter Try.func70, Try.ntmps70
    go_wp2
    go_ret
    exact ⟨.inl ⟨Hb.out, rfl⟩, rfl⟩

set_option maxRecDepth 100000 in
theorem isPubKeyHashScript_calls (A : Option Addr) (m c : Nat) (l : List Int) (w : World) (hr : Kd.C (Kd.int .u8) w A m l) (hc : m ≤ c) (b : Bool) (h : isIsPubKeyHash l = b) :
    Calls Try.prog 58 #[.slice A m c] w fun e w' => e = .returned (.bool b) ∧ w = w' := by
  have HR := Lib.hid hr
  have HC := Lib.hid hc
  have H := Lib.hid h
  clear hr hc h
  have qT : ∀ (w : World) (a : Option Addr) (n c n' c' : Nat), (binOp .neq 22 (.slice a n c) (.slice none n' c')).run Try.prog w = .ok (.bool (!a.isNone)) w := fun w a n c n' c' => run_neq_slice_nil_any w _ _ a n c n' c' Try.underlying22
  go_enter Try.func58, Try.ntmps58
  go_wp2_with (go_at_call 70; refine (extractPubKeyHash_calls _ _ _ l _ HR.out HC.out b H.out).mono ?_; rintro e w' ⟨⟨rfl, rfl⟩ | ⟨rfl, ad, n', c', rfl⟩, rfl⟩)
  · go_wp2
    go_ret
    exact ⟨rfl, rfl⟩
  · go_wp2
    go_ret
    exact ⟨rfl, rfl⟩

def isIsScriptHash (l : List Int) : Bool := decide (l.length = 23 ∧ rd l 0 = 169 ∧ rd l 1 = 20 ∧ rd l 22 = 135)
set_option maxHeartbeats 2000000 in
set_option maxRecDepth 100000 in
theorem extractScriptHash_calls (A : Option Addr) (m c : Nat) (l : List Int) (w : World) (hr : Kd.C (Kd.int .u8) w A m l) (hc : m ≤ c) (b : Bool) (h : isIsScriptHash l = b) :
    Calls Try.prog 71 #[.slice A m c] w fun e w' => ((b = false ∧ e = .returned (.slice none 0 0)) ∨ (b = true ∧ ∃ ad n' c', e = .returned (.slice (some ad) n' c'))) ∧ w = w' := by
  have hl := Kd.C_len hr
  obtain rfl := hl
  have HR := Lib.hid hr
  have HC := Lib.hid hc
  have H := Lib.hid h
  clear hr hc h
  by_cases h0 : (l.length : Int) = 23
  · by_cases h1 : rd l 0 = 169
    · by_cases h2 : rd l 1 = 20
      · by_cases h3 : rd l 22 = 135
        · have hb : b = true := by rw [← H.out]; simp only [isIsScriptHash]; exact decide_eq_true ⟨by omega, h1, h2, h3⟩
          have Hb := Lib.hid hb
          clear hb
          obtain ⟨ad0, e0, x0⟩ := Kd.at_int HR.out 0 (by omega) (by omega)
          cases e0
          rw [h1] at x0
          replace x0 : w.cell? ad0 = some (.int .u8 169) := x0
          obtain ⟨ad1, e1, x1⟩ := Kd.at_int HR.out 1 (by omega) (by omega)
          cases e1
          rw [h2] at x1
          replace x1 : w.cell? ⟨ad0.block, ad0.off + 1, none⟩ = some (.int .u8 20) := x1
          obtain ⟨ad2, e2, x2⟩ := Kd.at_int HR.out 22 (by omega) (by omega)
          cases e2
          rw [h3] at x2
          replace x2 : w.cell? ⟨ad0.block, ad0.off + 22, none⟩ = some (.int .u8 135) := x2
          clear h1
          clear h2
          clear h3
          have h0b : ((l.length : Int) == 23) = true := beq_iff_eq.2 h0
          have b0 : (0 : Int) < (l.length : Int) := by rw [h0]; decide
          have b1 : (1 : Int) < (l.length : Int) := by rw [h0]; decide
          have b2 : (22 : Int) < (l.length : Int) := by rw [h0]; decide
          have hcap : 23 ≤ c := by have := HC.out; omega
          clear h0
          go_enter Try.func71, Try.ntmps71
          go_wp2
          go_ret
          exact ⟨.inr ⟨Hb.out, _, _, _, rfl⟩, rfl⟩
        · have hb : b = false := by rw [← H.out]; simp only [isIsScriptHash]; exact decide_eq_false fun hh => h3 hh.2.2.2
          have Hb := Lib.hid hb
          clear hb
          obtain ⟨ad0, e0, x0⟩ := Kd.at_int HR.out 0 (by omega) (by omega)
          cases e0
          rw [h1] at x0
          replace x0 : w.cell? ad0 = some (.int .u8 169) := x0
          obtain ⟨ad1, e1, x1⟩ := Kd.at_int HR.out 1 (by omega) (by omega)
          cases e1
          rw [h2] at x1
          replace x1 : w.cell? ⟨ad0.block, ad0.off + 1, none⟩ = some (.int .u8 20) := x1
          obtain ⟨ad2, e2, x2⟩ := Kd.at_int HR.out 22 (by omega) (by omega)
          cases e2
          generalize rd l 22 = y at h3 x2
          replace x2 : w.cell? ⟨ad0.block, ad0.off + 22, none⟩ = some (.int .u8 y) := x2
          have hy : (y == 135) = false := by simpa using h3
          clear h3
          clear h1
          clear h2
          have h0b : ((l.length : Int) == 23) = true := beq_iff_eq.2 h0
          have b0 : (0 : Int) < (l.length : Int) := by rw [h0]; decide
          have b1 : (1 : Int) < (l.length : Int) := by rw [h0]; decide
          have b2 : (22 : Int) < (l.length : Int) := by rw [h0]; decide
          have hcap : 23 ≤ c := by have := HC.out; omega
          clear h0
          go_enter Try.func71, Try.ntmps71
          go_wp2
          go_ret
          exact ⟨.inl ⟨Hb.out, rfl⟩, rfl⟩
      · have hb : b = false := by rw [← H.out]; simp only [isIsScriptHash]; exact decide_eq_false fun hh => h2 hh.2.2.1
        have Hb := Lib.hid hb
        clear hb
        obtain ⟨ad0, e0, x0⟩ := Kd.at_int HR.out 0 (by omega) (by omega)
        cases e0
        rw [h1] at x0
        replace x0 : w.cell? ad0 = some (.int .u8 169) := x0
        obtain ⟨ad1, e1, x1⟩ := Kd.at_int HR.out 1 (by omega) (by omega)
        cases e1
        generalize rd l 1 = y at h2 x1
        replace x1 : w.cell? ⟨ad0.block, ad0.off + 1, none⟩ = some (.int .u8 y) := x1
        have hy : (y == 20) = false := by simpa using h2
        clear h2
        clear h1
        have h0b : ((l.length : Int) == 23) = true := beq_iff_eq.2 h0
        have b0 : (0 : Int) < (l.length : Int) := by rw [h0]; decide
        have b1 : (1 : Int) < (l.length : Int) := by rw [h0]; decide
        clear h0
        go_enter Try.func71, Try.ntmps71
        go_wp2
        go_ret
        exact ⟨.inl ⟨Hb.out, rfl⟩, rfl⟩
    · have hb : b = false := by rw [← H.out]; simp only [isIsScriptHash]; exact decide_eq_false fun hh => h1 hh.2.1
      have Hb := Lib.hid hb
      clear hb
      obtain ⟨ad0, e0, x0⟩ := Kd.at_int HR.out 0 (by omega) (by omega)
      cases e0
      generalize rd l 0 = y at h1 x0
      replace x0 : w.cell? ad0 = some (.int .u8 y) := x0
      have hy : (y == 169) = false := by simpa using h1
      clear h1
      have h0b : ((l.length : Int) == 23) = true := beq_iff_eq.2 h0
      have b0 : (0 : Int) < (l.length : Int) := by rw [h0]; decide
      clear h0
      go_enter Try.func71, Try.ntmps71
      go_wp2
      go_ret
      exact ⟨.inl ⟨Hb.out, rfl⟩, rfl⟩
  · have hb : b = false := by rw [← H.out]; simp only [isIsScriptHash]; exact decide_eq_false fun hh => h0 (by omega)
    have Hb := Lib.hid hb
    clear hb
    have h0b : ((l.length : Int) == 23) = false := by simpa using h0
    clear h0
    go_enter Try.func71, Try.ntmps71
    go_wp2
    go_ret
    exact ⟨.inl ⟨Hb.out, rfl⟩, rfl⟩

set_option maxRecDepth 100000 in
theorem isScriptHashScript_calls (A : Option Addr) (m c : Nat) (l : List Int) (w : World) (hr : Kd.C (Kd.int .u8) w A m l) (hc : m ≤ c) (b : Bool) (h : isIsScriptHash l = b) :
    Calls Try.prog 59 #[.slice A m c] w fun e w' => e = .returned (.bool b) ∧ w = w' := by
  have HR := Lib.hid hr
  have HC := Lib.hid hc
  have H := Lib.hid h
  clear hr hc h
  have qT : ∀ (w : World) (a : Option Addr) (n c n' c' : Nat), (binOp .neq 22 (.slice a n c) (.slice none n' c')).run Try.prog w = .ok (.bool (!a.isNone)) w := fun w a n c n' c' => run_neq_slice_nil_any w _ _ a n c n' c' Try.underlying22
  go_enter Try.func59, Try.ntmps59
  go_wp2_with (go_at_call 71; refine (extractScriptHash_calls _ _ _ l _ HR.out HC.out b H.out).mono ?_; rintro e w' ⟨⟨rfl, rfl⟩ | ⟨rfl, ad, n', c', rfl⟩, rfl⟩)
  · go_wp2
    go_ret
    exact ⟨rfl, rfl⟩
  · go_wp2
    go_ret
    exact ⟨rfl, rfl⟩

def isIsWitnessPubKeyHash (l : List Int) : Bool := decide (l.length = 22 ∧ rd l 0 = 0 ∧ rd l 1 = 20)
set_option maxHeartbeats 2000000 in
set_option maxRecDepth 100000 in
theorem extractWitnessPubKeyHash_calls (A : Option Addr) (m c : Nat) (l : List Int) (w : World) (hr : Kd.C (Kd.int .u8) w A m l) (hc : m ≤ c) (b : Bool) (h : isIsWitnessPubKeyHash l = b) :
    Calls Try.prog 72 #[.slice A m c] w fun e w' => ((b = false ∧ e = .returned (.slice none 0 0)) ∨ (b = true ∧ ∃ ad n' c', e = .returned (.slice (some ad) n' c'))) ∧ w = w' := by
  have hl := Kd.C_len hr
  obtain rfl := hl
  have HR := Lib.hid hr
  have HC := Lib.hid hc
  have H := Lib.hid h
  clear hr hc h
  by_cases h0 : (l.length : Int) = 22
  · by_cases h1 : rd l 0 = 0
    · by_cases h2 : rd l 1 = 20
      · have hb : b = true := by rw [← H.out]; simp only [isIsWitnessPubKeyHash]; exact decide_eq_true ⟨by omega, h1, h2⟩
        have Hb := Lib.hid hb
        clear hb
        obtain ⟨ad0, e0, x0⟩ := Kd.at_int HR.out 0 (by omega) (by omega)
        cases e0
        rw [h1] at x0
        replace x0 : w.cell? ad0 = some (.int .u8 0) := x0
        obtain ⟨ad1, e1, x1⟩ := Kd.at_int HR.out 1 (by omega) (by omega)
        cases e1
        rw [h2] at x1
        replace x1 : w.cell? ⟨ad0.block, ad0.off + 1, none⟩ = some (.int .u8 20) := x1
        clear h1
        clear h2
        have h0b : ((l.length : Int) == 22) = true := beq_iff_eq.2 h0
        have b0 : (0 : Int) < (l.length : Int) := by rw [h0]; decide
        have b1 : (1 : Int) < (l.length : Int) := by rw [h0]; decide
        have hcap : 22 ≤ c := by have := HC.out; omega
        clear h0
        go_enter Try.func72, Try.ntmps72
        go_wp2
        go_ret
        exact ⟨.inr ⟨Hb.out, _, _, _, rfl⟩, rfl⟩
      · have hb : b = false := by rw [← H.out]; simp only [isIsWitnessPubKeyHash]; exact decide_eq_false fun hh => h2 hh.2.2
        have Hb := Lib.hid hb
        clear hb
        obtain ⟨ad0, e0, x0⟩ := Kd.at_int HR.out 0 (by omega) (by omega)
        cases e0
        rw [h1] at x0
        replace x0 : w.cell? ad0 = some (.int .u8 0) := x0
        obtain ⟨ad1, e1, x1⟩ := Kd.at_int HR.out 1 (by omega) (by omega)
        cases e1
        generalize rd l 1 = y at h2 x1
        replace x1 : w.cell? ⟨ad0.block, ad0.off + 1, none⟩ = some (.int .u8 y) := x1
        have hy : (y == 20) = false := by simpa using h2
        clear h2
        clear h1
        have h0b : ((l.length : Int) == 22) = true := beq_iff_eq.2 h0
        have b0 : (0 : Int) < (l.length : Int) := by rw [h0]; decide
        have b1 : (1 : Int) < (l.length : Int) := by rw [h0]; decide
        have hcap : 22 ≤ c := by have := HC.out; omega
        clear h0
        go_enter Try.func72, Try.ntmps72
        go_wp2
        go_ret
        exact ⟨.inl ⟨Hb.out, rfl⟩, rfl⟩
    · have hb : b = false := by rw [← H.out]; simp only [isIsWitnessPubKeyHash]; exact decide_eq_false fun hh => h1 hh.2.1
      have Hb := Lib.hid hb
      clear hb
      obtain ⟨ad0, e0, x0⟩ := Kd.at_int HR.out 0 (by omega) (by omega)
      cases e0
      generalize rd l 0 = y at h1 x0
      replace x0 : w.cell? ad0 = some (.int .u8 y) := x0
      have hy : (y == 0) = false := by simpa using h1
      clear h1
      have h0b : ((l.length : Int) == 22) = true := beq_iff_eq.2 h0
      have b0 : (0 : Int) < (l.length : Int) := by rw [h0]; decide
      clear h0
      go_enter Try.func72, Try.ntmps72
      go_wp2
      go_ret
      exact ⟨.inl ⟨Hb.out, rfl⟩, rfl⟩
  · have hb : b = false := by rw [← H.out]; simp only [isIsWitnessPubKeyHash]; exact decide_eq_false fun hh => h0 (by omega)
    have Hb := Lib.hid hb
    clear hb
    have h0b : ((l.length : Int) == 22) = false := by simpa using h0
    clear h0
    go_enter Try.func72, Try.ntmps72
    go_wp2
    go_ret
    exact ⟨.inl ⟨Hb.out, rfl⟩, rfl⟩

set_option maxRecDepth 100000 in
theorem isWitnessPubKeyHashScript_calls (A : Option Addr) (m c : Nat) (l : List Int) (w : World) (hr : Kd.C (Kd.int .u8) w A m l) (hc : m ≤ c) (b : Bool) (h : isIsWitnessPubKeyHash l = b) :
    Calls Try.prog 60 #[.slice A m c] w fun e w' => e = .returned (.bool b) ∧ w = w' := by
  have HR := Lib.hid hr
  have HC := Lib.hid hc
  have H := Lib.hid h
  clear hr hc h
  have qT : ∀ (w : World) (a : Option Addr) (n c n' c' : Nat), (binOp .neq 22 (.slice a n c) (.slice none n' c')).run Try.prog w = .ok (.bool (!a.isNone)) w := fun w a n c n' c' => run_neq_slice_nil_any w _ _ a n c n' c' Try.underlying22
  go_enter Try.func60, Try.ntmps60
  go_wp2_with (go_at_call 72; refine (extractWitnessPubKeyHash_calls _ _ _ l _ HR.out HC.out b H.out).mono ?_; rintro e w' ⟨⟨rfl, rfl⟩ | ⟨rfl, ad, n', c', rfl⟩, rfl⟩)
  · go_wp2
    go_ret
    exact ⟨rfl, rfl⟩
  · go_wp2
    go_ret
    exact ⟨rfl, rfl⟩

def isIsWitnessScriptHash (l : List Int) : Bool := decide (l.length = 34 ∧ rd l 0 = 0 ∧ rd l 1 = 32)
set_option maxHeartbeats 2000000 in
set_option maxRecDepth 100000 in
theorem extractWitnessV0ScriptHash_calls (A : Option Addr) (m c : Nat) (l : List Int) (w : World) (hr : Kd.C (Kd.int .u8) w A m l) (hc : m ≤ c) (b : Bool) (h : isIsWitnessScriptHash l = b) :
    Calls Try.prog 73 #[.slice A m c] w fun e w' => ((b = false ∧ e = .returned (.slice none 0 0)) ∨ (b = true ∧ ∃ ad n' c', e = .returned (.slice (some ad) n' c'))) ∧ w = w' := by
  have hl := Kd.C_len hr
  obtain rfl := hl
  have HR := Lib.hid hr
  have HC := Lib.hid hc
  have H := Lib.hid h
  clear hr hc h
  by_cases h0 : (l.length : Int) = 34
  · by_cases h1 : rd l 0 = 0
    · by_cases h2 : rd l 1 = 32
      · have hb : b = true := by rw [← H.out]; simp only [isIsWitnessScriptHash]; exact decide_eq_true ⟨by omega, h1, h2⟩
        have Hb := Lib.hid hb
        clear hb
        obtain ⟨ad0, e0, x0⟩ := Kd.at_int HR.out 0 (by omega) (by omega)
        cases e0
        rw [h1] at x0
        replace x0 : w.cell? ad0 = some (.int .u8 0) := x0
        obtain ⟨ad1, e1, x1⟩ := Kd.at_int HR.out 1 (by omega) (by omega)
        cases e1
        rw [h2] at x1
        replace x1 : w.cell? ⟨ad0.block, ad0.off + 1, none⟩ = some (.int .u8 32) := x1
        clear h1
        clear h2
        have h0b : ((l.length : Int) == 34) = true := beq_iff_eq.2 h0
        have b0 : (0 : Int) < (l.length : Int) := by rw [h0]; decide
        have b1 : (1 : Int) < (l.length : Int) := by rw [h0]; decide
        have hcap : 34 ≤ c := by have := HC.out; omega
        clear h0
        go_enter Try.func73, Try.ntmps73
        go_wp2
        go_ret
        exact ⟨.inr ⟨Hb.out, _, _, _, rfl⟩, rfl⟩
      · have hb : b = false := by rw [← H.out]; simp only [isIsWitnessScriptHash]; exact decide_eq_false fun hh => h2 hh.2.2
        have Hb := Lib.hid hb
        clear hb
        obtain ⟨ad0, e0, x0⟩ := Kd.at_int HR.out 0 (by omega) (by omega)
        cases e0
        rw [h1] at x0
        replace x0 : w.cell? ad0 = some (.int .u8 0) := x0
        obtain ⟨ad1, e1, x1⟩ := Kd.at_int HR.out 1 (by omega) (by omega)
        cases e1
        generalize rd l 1 = y at h2 x1
        replace x1 : w.cell? ⟨ad0.block, ad0.off + 1, none⟩ = some (.int .u8 y) := x1
        have hy : (y == 32) = false := by simpa using h2
        clear h2
        clear h1
        have h0b : ((l.length : Int) == 34) = true := beq_iff_eq.2 h0
        have b0 : (0 : Int) < (l.length : Int) := by rw [h0]; decide
        have b1 : (1 : Int) < (l.length : Int) := by rw [h0]; decide
        have hcap : 34 ≤ c := by have := HC.out; omega
        clear h0
        go_enter Try.func73, Try.ntmps73
        go_wp2
        go_ret
        exact ⟨.inl ⟨Hb.out, rfl⟩, rfl⟩
    · have hb : b = false := by rw [← H.out]; simp only [isIsWitnessScriptHash]; exact decide_eq_false fun hh => h1 hh.2.1
      have Hb := Lib.hid hb
      clear hb
      obtain ⟨ad0, e0, x0⟩ := Kd.at_int HR.out 0 (by omega) (by omega)
      cases e0
      generalize rd l 0 = y at h1 x0
      replace x0 : w.cell? ad0 = some (.int .u8 y) := x0
      have hy : (y == 0) = false := by simpa using h1
      clear h1
      have h0b : ((l.length : Int) == 34) = true := beq_iff_eq.2 h0
      have b0 : (0 : Int) < (l.length : Int) := by rw [h0]; decide
      clear h0
      go_enter Try.func73, Try.ntmps73
      go_wp2
      go_ret
      exact ⟨.inl ⟨Hb.out, rfl⟩, rfl⟩
  · have hb : b = false := by rw [← H.out]; simp only [isIsWitnessScriptHash]; exact decide_eq_false fun hh => h0 (by omega)
    have Hb := Lib.hid hb
    clear hb
    have h0b : ((l.length : Int) == 34) = false := by simpa using h0
    clear h0
    go_enter Try.func73, Try.ntmps73
    go_wp2
    go_ret
    exact ⟨.inl ⟨Hb.out, rfl⟩, rfl⟩

set_option maxRecDepth 100000 in
theorem isWitnessScriptHashScript_calls (A : Option Addr) (m c : Nat) (l : List Int) (w : World) (hr : Kd.C (Kd.int .u8) w A m l) (hc : m ≤ c) (b : Bool) (h : isIsWitnessScriptHash l = b) :
    Calls Try.prog 61 #[.slice A m c] w fun e w' => e = .returned (.bool b) ∧ w = w' := by
  have HR := Lib.hid hr
  have HC := Lib.hid hc
  have H := Lib.hid h
  clear hr hc h
  have qT : ∀ (w : World) (a : Option Addr) (n c n' c' : Nat), (binOp .neq 22 (.slice a n c) (.slice none n' c')).run Try.prog w = .ok (.bool (!a.isNone)) w := fun w a n c n' c' => run_neq_slice_nil_any w _ _ a n c n' c' Try.underlying22
  go_enter Try.func61, Try.ntmps61
  go_wp2_with (go_at_call 73; refine (extractWitnessV0ScriptHash_calls _ _ _ l _ HR.out HC.out b H.out).mono ?_; rintro e w' ⟨⟨rfl, rfl⟩ | ⟨rfl, ad, n', c', rfl⟩, rfl⟩)
  · go_wp2
    go_ret
    exact ⟨rfl, rfl⟩
  · go_wp2
    go_ret
    exact ⟨rfl, rfl⟩

def isIsTaproot (l : List Int) : Bool := decide (l.length = 34 ∧ rd l 0 = 81 ∧ rd l 1 = 32)
set_option maxHeartbeats 2000000 in
set_option maxRecDepth 100000 in
theorem extractWitnessV1KeyBytes_calls (A : Option Addr) (m c : Nat) (l : List Int) (w : World) (hr : Kd.C (Kd.int .u8) w A m l) (hc : m ≤ c) (b : Bool) (h : isIsTaproot l = b) :
    Calls Try.prog 78 #[.slice A m c] w fun e w' => ((b = false ∧ e = .returned (.slice none 0 0)) ∨ (b = true ∧ ∃ ad n' c', e = .returned (.slice (some ad) n' c'))) ∧ w = w' := by
  have hl := Kd.C_len hr
  obtain rfl := hl
  have HR := Lib.hid hr
  have HC := Lib.hid hc
  have H := Lib.hid h
  clear hr hc h
  by_cases h0 : (l.length : Int) = 34
  · by_cases h1 : rd l 0 = 81
    · by_cases h2 : rd l 1 = 32
      · have hb : b = true := by rw [← H.out]; simp only [isIsTaproot]; exact decide_eq_true ⟨by omega, h1, h2⟩
        have Hb := Lib.hid hb
        clear hb
        obtain ⟨ad0, e0, x0⟩ := Kd.at_int HR.out 0 (by omega) (by omega)
        cases e0
        rw [h1] at x0
        replace x0 : w.cell? ad0 = some (.int .u8 81) := x0
        obtain ⟨ad1, e1, x1⟩ := Kd.at_int HR.out 1 (by omega) (by omega)
        cases e1
        rw [h2] at x1
        replace x1 : w.cell? ⟨ad0.block, ad0.off + 1, none⟩ = some (.int .u8 32) := x1
        clear h1
        clear h2
        have h0b : ((l.length : Int) == 34) = true := beq_iff_eq.2 h0
        have b0 : (0 : Int) < (l.length : Int) := by rw [h0]; decide
        have b1 : (1 : Int) < (l.length : Int) := by rw [h0]; decide
        have hcap : 34 ≤ c := by have := HC.out; omega
        clear h0
        go_enter Try.func78, Try.ntmps78
        go_wp2
        go_ret
        exact ⟨.inr ⟨Hb.out, _, _, _, rfl⟩, rfl⟩
      · have hb : b = false := by rw [← H.out]; simp only [isIsTaproot]; exact decide_eq_false fun hh => h2 hh.2.2
        have Hb := Lib.hid hb
        clear hb
        obtain ⟨ad0, e0, x0⟩ := Kd.at_int HR.out 0 (by omega) (by omega)
        cases e0
        rw [h1] at x0
        replace x0 : w.cell? ad0 = some (.int .u8 81) := x0
        obtain ⟨ad1, e1, x1⟩ := Kd.at_int HR.out 1 (by omega) (by omega)
        cases e1
        generalize rd l 1 = y at h2 x1
        replace x1 : w.cell? ⟨ad0.block, ad0.off + 1, none⟩ = some (.int .u8 y) := x1
        have hy : (y == 32) = false := by simpa using h2
        clear h2
        clear h1
        have h0b : ((l.length : Int) == 34) = true := beq_iff_eq.2 h0
        have b0 : (0 : Int) < (l.length : Int) := by rw [h0]; decide
        have b1 : (1 : Int) < (l.length : Int) := by rw [h0]; decide
        have hcap : 34 ≤ c := by have := HC.out; omega
        clear h0
        go_enter Try.func78, Try.ntmps78
        go_wp2
        go_ret
        exact ⟨.inl ⟨Hb.out, rfl⟩, rfl⟩
    · have hb : b = false := by rw [← H.out]; simp only [isIsTaproot]; exact decide_eq_false fun hh => h1 hh.2.1
      have Hb := Lib.hid hb
      clear hb
      obtain ⟨ad0, e0, x0⟩ := Kd.at_int HR.out 0 (by omega) (by omega)
      cases e0
      generalize rd l 0 = y at h1 x0
      replace x0 : w.cell? ad0 = some (.int .u8 y) := x0
      have hy : (y == 81) = false := by simpa using h1
      clear h1
      have h0b : ((l.length : Int) == 34) = true := beq_iff_eq.2 h0
      have b0 : (0 : Int) < (l.length : Int) := by rw [h0]; decide
      clear h0
      go_enter Try.func78, Try.ntmps78
      go_wp2
      go_ret
      exact ⟨.inl ⟨Hb.out, rfl⟩, rfl⟩
  · have hb : b = false := by rw [← H.out]; simp only [isIsTaproot]; exact decide_eq_false fun hh => h0 (by omega)
    have Hb := Lib.hid hb
    clear hb
    have h0b : ((l.length : Int) == 34) = false := by simpa using h0
    clear h0
    go_enter Try.func78, Try.ntmps78
    go_wp2
    go_ret
    exact ⟨.inl ⟨Hb.out, rfl⟩, rfl⟩

set_option maxRecDepth 100000 in
theorem isWitnessTaprootScript_calls (A : Option Addr) (m c : Nat) (l : List Int) (w : World) (hr : Kd.C (Kd.int .u8) w A m l) (hc : m ≤ c) (b : Bool) (h : isIsTaproot l = b) :
    Calls Try.prog 65 #[.slice A m c] w fun e w' => e = .returned (.bool b) ∧ w = w' := by
  have HR := Lib.hid hr
  have HC := Lib.hid hc
  have H := Lib.hid h
  clear hr hc h
  have qT : ∀ (w : World) (a : Option Addr) (n c n' c' : Nat), (binOp .neq 22 (.slice a n c) (.slice none n' c')).run Try.prog w = .ok (.bool (!a.isNone)) w := fun w a n c n' c' => run_neq_slice_nil_any w _ _ a n c n' c' Try.underlying22
  go_enter Try.func65, Try.ntmps65
  go_wp2_with (go_at_call 78; refine (extractWitnessV1KeyBytes_calls _ _ _ l _ HR.out HC.out b H.out).mono ?_; rintro e w' ⟨⟨rfl, rfl⟩ | ⟨rfl, ad, n', c', rfl⟩, rfl⟩)
  · go_wp2
    go_ret
    exact ⟨rfl, rfl⟩
  · go_wp2
    go_ret
    exact ⟨rfl, rfl⟩

end Go.Proofs.Ytafpmdmmeohmfaa.Forms
