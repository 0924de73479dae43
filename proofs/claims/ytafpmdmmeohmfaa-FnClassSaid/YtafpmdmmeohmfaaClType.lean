/-
  The class of a script, as the program tells it. Printed by wip/gen/cltype.py.
-/
import Derived.Test.YtafpmdmmeohmfaaClNull
import Derived.Test.YtafpmdmmeohmfaaClAnchor
namespace Go.Proofs.Ytafpmdmmeohmfaa.Forms
open Go.RowKit Go.Proofs.YtafpmdmmeohmfaaW.PrintWords Go.Proofs.YtafpmdmmeohmfaaW.PrintLast
set_option linter.unusedVariables false
set_option linter.unusedSimpArgs false

def typ0 (b1 b2 b3 b4 b5 b6 b7 : Bool) : Int := if b1 then 1 else if b2 then 2 else if b3 then 4 else if b4 then 3 else if b5 then 5 else if b6 then 6 else if b7 then 7 else 0
def typ1 (b8 b9 : Bool) : Int := if b8 then 9 else if b9 then 8 else 0
def typeI0 (l : List Int) : Int := typ0 (isKeyP l) (isIsPubKeyHash l) (isIsScriptHash l) (isIsWitnessPubKeyHash l) (isIsWitnessScriptHash l) (Tok.multiP l) (Tok.nullP l)
def typeI1 (l : List Int) : Int := typ1 (isAnchorP l) (isIsTaproot l)
def classI (l : List Int) : Int := if typeI0 l = 0 then typeI1 l else typeI0 l

set_option maxHeartbeats 8000000 in
set_option maxRecDepth 100000 in
theorem type0_calls (A : Option Addr) (c : Nat) (l : List Int) (w : World) (hs : Kd.V (Kd.int .u8) 5 w w.heap.size (fun _ => True) (.slice A l.length c) l) (hb : Tok.Bytes l) (hn : l.length ≤ 2147483647) (r : Int) (hr : typeI0 l = r) :
    Calls Try.prog 48 #[.int .u16 0, .slice A l.length c] w fun e w' => e = .returned (.int .u8 r) ∧ Below w.heap.size w w' := by
  have HV := Lib.hid hs
  have HR := Lib.hid (Kd.V_reads' hs).2.2
  have HC := Lib.hid (Kd.V_reads' hs).2.1
  unfold typeI0 at hr
  generalize h0 : isKeyP l = b1 at hr
  have H0 := Lib.hid h0
  generalize h1 : isIsPubKeyHash l = b2 at hr
  have H1 := Lib.hid h1
  generalize h2 : isIsScriptHash l = b3 at hr
  have H2 := Lib.hid h2
  generalize h3 : isIsWitnessPubKeyHash l = b4 at hr
  have H3 := Lib.hid h3
  generalize h4 : isIsWitnessScriptHash l = b5 at hr
  have H4 := Lib.hid h4
  generalize h5 : Tok.multiP l = b6 at hr
  generalize h6 : Tok.nullP l = b7 at hr
  have HM := Lib.hid (fun W (hB : Below w.heap.size w W) => Tok.isMulti_calls A c l W (Kd.V_below hs hB) hb hn b6 h5)
  have HN := Lib.hid (fun W (hB : Below w.heap.size w W) => Tok.isNull_calls A c l W (Kd.V_below hs hB) hb hn b7 h6)
  have HH := Lib.hid hr
  clear hs hb hn hr h0 h1 h2 h3 h4 h5 h6
  go_enter Try.func48, Try.ntmps48
  go_wp2_with (first | (go_at_call 57; refine (isPubKeyScript_calls _ _ _ l _ HR.out HC.out b1 H0.out).mono ?_; rintro e w' ⟨rfl, rfl⟩) | (go_at_call 58; refine (isPubKeyHashScript_calls _ _ _ l _ HR.out HC.out b2 H1.out).mono ?_; rintro e w' ⟨rfl, rfl⟩) | (go_at_call 59; refine (isScriptHashScript_calls _ _ _ l _ HR.out HC.out b3 H2.out).mono ?_; rintro e w' ⟨rfl, rfl⟩) | (go_at_call 60; refine (isWitnessPubKeyHashScript_calls _ _ _ l _ HR.out HC.out b4 H3.out).mono ?_; rintro e w' ⟨rfl, rfl⟩) | (go_at_call 61; refine (isWitnessScriptHashScript_calls _ _ _ l _ HR.out HC.out b5 H4.out).mono ?_; rintro e w' ⟨rfl, rfl⟩) | (go_at_call 62; refine (HM.out _ (Below.refl _ _)).mono ?_; rintro e w1 ⟨rfl, hB1⟩; have HB1 := Lib.hid hB1; clear hB1) | (go_at_call 63; refine (HN.out _ HB1.out).mono ?_; rintro e w2 ⟨rfl, hB2⟩; have HB2 := Lib.hid (below_step HB1.out hB2); clear hB2))
  all_goals
    go_ret
    refine ⟨?_, by first | exact Below.refl _ _ | exact HB1.out | exact HB2.out⟩
    have hh := HH.out
    unfold typ0 at hh
    simp_all
set_option maxHeartbeats 8000000 in
set_option maxRecDepth 100000 in
theorem type1_calls (A : Option Addr) (c : Nat) (l : List Int) (w : World) (hs : Kd.V (Kd.int .u8) 5 w w.heap.size (fun _ => True) (.slice A l.length c) l) (hb : Tok.Bytes l) (hn : l.length ≤ 2147483647) (r : Int) (hr : typeI1 l = r) :
    Calls Try.prog 48 #[.int .u16 1, .slice A l.length c] w fun e w' => e = .returned (.int .u8 r) ∧ Below w.heap.size w w' := by
  unfold typeI1 at hr
  generalize h8 : isAnchorP l = b8 at hr
  generalize h9 : isIsTaproot l = b9 at hr
  have HA := Lib.hid (isAnchor_calls A c l w (Kd.V_reads' hs).2.2 (Kd.V_reads' hs).2.1 hb b8 h8)
  have HT := Lib.hid (fun W (hB : Below w.heap.size w W) => isWitnessTaprootScript_calls A _ c l W (Kd.C_below (Kd.V_reads' hs).2.2 hB) (Kd.V_reads' hs).2.1 b9 h9)
  have HH := Lib.hid hr
  clear hs hb hn hr h8 h9
  go_enter Try.func48, Try.ntmps48
  go_wp2_with (first
    | (go_at_call 64; refine HA.out.mono ?_; rintro e w1 ⟨rfl, hB1⟩; have HB1 := Lib.hid hB1; clear hB1)
    | (go_at_call 65; refine (HT.out _ HB1.out).mono ?_; rintro e w2 ⟨rfl, rfl⟩))
  all_goals
    go_ret
    refine ⟨?_, HB1.out⟩
    have hh := HH.out
    unfold typ1 at hh
    simp_all

set_option maxRecDepth 100000 in
theorem class_calls (A : Option Addr) (c : Nat) (l : List Int) (w : World) (hs : Kd.V (Kd.int .u8) 5 w w.heap.size (fun _ => True) (.slice A l.length c) l) (hb : Tok.Bytes l) (hn : l.length ≤ 2147483647) (r : Int) (hr : classI l = r) :
    Calls Try.prog 33 #[.slice A l.length c] w fun e w' => e = .returned (.int .u8 r) ∧ Below w.heap.size w w' := by
  unfold classI at hr
  have H0 := Lib.hid (type0_calls A c l w hs hb hn _ rfl)
  have H1 := Lib.hid (fun W (hB : Below w.heap.size w W) => type1_calls A c l W (Kd.V_below hs hB) hb hn _ rfl)
  generalize typeI0 l = t0 at hr H0
  generalize typeI1 l = t1 at hr H1
  clear hs hb hn
  by_cases e0 : t0 = 0
  · have e0b : (t0 != 0) = false := by rw [e0]; rfl
    rw [if_pos e0] at hr
    subst hr
    clear e0
    go_enter Try.func33, Try.ntmps33
    go_wp2_with (first
      | (go_at_call 48; refine H0.out.mono ?_; rintro e w1 ⟨rfl, hB1⟩; have HB1 := Lib.hid hB1; clear hB1 H0)
      | (go_at_call 48; refine (H1.out _ HB1.out).mono ?_; rintro e w2 ⟨rfl, hB2⟩; have HB2 := Lib.hid (below_step HB1.out hB2); clear hB2))
    go_ret
    exact ⟨rfl, HB2.out⟩
  · have e0b : (t0 != 0) = true := bne_iff_ne.2 e0
    rw [if_neg e0] at hr
    subst hr
    clear e0
    go_enter Try.func33, Try.ntmps33
    go_wp2_with (go_at_call 48; refine H0.out.mono ?_; rintro e w1 ⟨rfl, hB1⟩; have HB1 := Lib.hid hB1; clear hB1 H0)
    go_ret
    exact ⟨rfl, HB1.out⟩
theorem typ_range (l : List Int) : 0 ≤ classI l ∧ classI l ≤ 9 := by
  unfold classI typeI0 typeI1 typ0 typ1
  repeat' split
  all_goals omega
set_option maxRecDepth 100000 in
theorem implClass_calls (A : Option Addr) (c : Nat) (l : List Int) (w : World) (hs : Kd.V (Kd.int .u8) 5 w w.heap.size (fun _ => True) (.slice A l.length c) l) (hb : Tok.Bytes l) (hn : l.length ≤ 2147483647) (r : Int) (hr : classI l = r) :
    Calls Try.prog 15 #[.slice A l.length c] w fun e w' => e = .returned (.int .i64 r) ∧ Below w.heap.size w w' := by
  have H := Lib.hid (class_calls A c l w hs hb hn r hr)
  have hw : wrap64 r = r := by have := typ_range l; rw [hr] at this; exact Tok.wrap64_id (by omega) (by omega)
  clear hs hb hn hr
  go_enter Try.func15, Try.ntmps15
  go_wp2_with (go_at_call 33; refine H.out.mono ?_; rintro e w1 ⟨rfl, hB1⟩; have HB1 := Lib.hid hB1; clear hB1)
  go_ret
  exact ⟨congrArg (fun x => Ending.returned (.int .i64 x)) hw, HB1.out⟩
end Go.Proofs.Ytafpmdmmeohmfaa.Forms
