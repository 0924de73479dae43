/-
  disasmOpcode, compact: an opcode's word, or what it pushes as hex digits, is written to a builder.
-/
import Derived.Test.YtafpmdmmeohmfaaDrHex
import Derived.Test.YtafpmdmmeohmfaaDsh
import Derived.Test.YtafpmdmmeohmfaaTokMake
import Derived.Test.YtafpmdmmeohmfaaShelf
namespace Go.Proofs.Ytafpmdmmeohmfaa.Dr
open Go.RowKit Go.Proofs.YtafpmdmmeohmfaaW.PrintWords Go.Proofs.YtafpmdmmeohmfaaW.PrintLast Go.Proofs.YtafpmdmmeohmfaaW.PrintMore Go.Proofs.Ytafpmdmmeohmfaa.PFnDisasmRead Go.Proofs.Ytafpmdmmeohmfaa.Tok
open Go.Lib (Hx.encode Hx.digit Hx.encode_length Hx.encode_cons)
set_option linter.unusedSimpArgs false
set_option linter.unusedVariables false

/-- Block b is a builder that holds these bytes. -/
def Bd (B b : Nat) (l : List UInt8) (w : World) : Prop := Lib.IsBuilderF 60 5 B b (Lib.byteCells l) w
/-- What a builder's writer leaves. -/
def Oth (b : Nat) (w w' : World) : Prop := Lib.OthersKept 5 (some b) w w'
theorem Oth.of_below {b : Nat} {w w' : World} (h : Below w.heap.size w w') : Oth b w w' := fun k o hk _ _ => (h.block k (Array.getElem?_eq_some_iff.1 hk).1).trans hk
theorem Oth.trans {b : Nat} {a c d : World} (h : Oth b a c) (k : Oth b c d) : Oth b a d := Lib.OthersKept.trans h k
theorem wb_calls (B b : Nat) (l : List UInt8) (x : UInt8) (w : World) (h : Bd B b l w) (hlen : l.length ≤ 1000000) (hBw : B ≤ w.heap.size) :
    Calls Try.prog 38 #[.pointer (some ⟨b, 0, none⟩), .int .u8 (x.toNat : Int)] w fun e w' => e = .returned .nilIface ∧ Bd B b (l ++ [x]) w' ∧ Below B w w' ∧ Oth b w w' := by
  refine (Ytafpmdmmeohmfaa.writeByte B b (Lib.byteCells l) (x.toNat : Int) w h (by rw [Lib.byteCells_length]; omega) hBw).mono ?_
  rintro e w' ⟨rfl, h1, h2⟩
  refine ⟨rfl, ?_, h2⟩
  unfold Bd
  rw [show Lib.byteCells (l ++ [x]) = Lib.byteCells l ++ [.int .u8 (x.toNat : Int)] by simp [Lib.byteCells]]
  exact h1
theorem ws_calls (B b : Nat) (l : List UInt8) (s : ByteArray) (w : World) (h : Bd B b l w) (hlen : l.length + s.size ≤ 1000000) (hBw : B ≤ w.heap.size) :
    Calls Try.prog 41 #[.pointer (some ⟨b, 0, none⟩), .string s] w fun e w' => (∃ u, e = .returned u) ∧ Bd B b (l ++ s.data.toList) w' ∧ Below B w w' ∧ Oth b w w' := by
  refine (Ytafpmdmmeohmfaa.writeString B b (Lib.byteCells l) s w h (by rw [Lib.byteCells_length]; omega) hBw).mono ?_
  rintro e w' ⟨hu, h1, h2⟩
  refine ⟨hu, ?_, h2⟩
  unfold Bd
  rw [show Lib.byteCells (l ++ s.data.toList) = Lib.byteCells l ++ Lib.strCells s by simp [Lib.byteCells, Lib.strCells]]
  exact h1
theorem bs_calls (B b : Nat) (l : List UInt8) (w : World) (h : Bd B b l w) (hBw : B ≤ w.heap.size) :
    Calls Try.prog 42 #[.pointer (some ⟨b, 0, none⟩)] w fun e w' => e = .returned (.string ⟨l.toArray⟩) ∧ Below B w w' ∧ Oth b w w' :=
  (Try.Builder_String_any_k B b l w h hBw).mono fun _ _ h => ⟨h.1, h.2.2.1, h.2.2.2⟩
theorem Bd.keep {B b g : Nat} {l : List UInt8} {w w' : World} {cs : Array Value} (h : Bd B b l w) (hg : w.heap[g]? = some (.cells cs 64 (0, 0))) (hk : ∀ k o, w.heap[k]? = some o → k ≠ g → w'.heap[k]? = some o) : Bd B b l w' := by
  have one : ∀ p, Lib.BuilderAtF 60 5 B b p (Lib.byteCells l) w → Lib.BuilderAtF 60 5 B b p (Lib.byteCells l) w' := by
    rintro p ⟨hB, v, hb, ⟨hl, hv⟩, hne⟩
    refine ⟨hB, v, hk _ _ hb (fun e => ?_), ⟨hl, ?_⟩, hne⟩
    · subst e
      rw [hg] at hb
      injection hb with hb
      injection hb with _ hb
      cases hb
    · rcases hv with hv | ⟨g', cap, cur, fz, e, h1, h2, h3⟩
      · exact .inl hv
      · refine .inr ⟨g', cap, cur, fz, e, h1, hk _ _ h2 (fun e' => ?_), h3⟩
        subst e'
        rw [hg] at h2
        injection h2 with h2
        injection h2 with _ h2
        cases h2
  exact Or.imp (one _) (one _) h
theorem Bd.below {B b : Nat} {l : List UInt8} {w w' : World} (h : Bd B b l w) (hb : Below w.heap.size w w') : Bd B b l w' := by
  have hk : ∀ k o, w.heap[k]? = some o → w'.heap[k]? = some o := fun k o hk => (hb.block k (Array.getElem?_eq_some_iff.1 hk).1).trans hk
  have one : ∀ p, Lib.BuilderAtF 60 5 B b p (Lib.byteCells l) w → Lib.BuilderAtF 60 5 B b p (Lib.byteCells l) w' := by
    rintro p ⟨hB, v, hb, ⟨hl, hv⟩, hne⟩
    refine ⟨hB, v, hk _ _ hb, ⟨hl, ?_⟩, hne⟩
    rcases hv with hv | ⟨g', cap, cur, fz, e, h1, h2, h3⟩
    · exact .inl hv
    · exact .inr ⟨g', cap, cur, fz, e, h1, hk _ _ h2, h3⟩
  exact Or.imp (one _) (one _) h
set_option maxHeartbeats 8000000 in
set_option maxRecDepth 100000 in
theorem dis_single (B b go : Nat) (l : List UInt8) (op : Int) (nm rp : ByteArray) (is : Bool) (dv : Value) (w : World) (hbd : Bd B b l w) (hB : B ≤ w.heap.size)
    (hgo : w.heap[go]? = some (.cells #[.int .u8 op, .string nm, .int .i64 1] 88 (0, 0))) (hr : btcdtxscript_opcodeOnelineRepls.f nm = some (rp, is)) (hlen : l.length + (if is then rp else nm).size ≤ 1000000) :
    Calls Try.prog 36 #[.pointer (some ⟨b, 0, none⟩), .pointer (some ⟨go, 0, none⟩), dv, .bool true] w fun e w' =>
      (∃ u, e = .returned u) ∧ Bd B b (l ++ (if is then rp else nm).data.toList) w' ∧ Below B w w' ∧ Oth b w w' := by
  have z1 := blk_cell hgo 1
  have z2 := blk_cell hgo 2
  have HBD := Lib.hid hbd
  have HB := Lib.hid hB
  have HR := Lib.hid hr
  have HLEN := Lib.hid hlen
  clear hbd hB hr hlen hgo
  cases is with
  | true =>
    simp only [if_true] at HLEN ⊢
    go_enter Try.func36, Try.ntmps36
    go_wp2_with (first
      | (go_at_call 54; go_must ((with_reducible refine (btcdtxscript_opcodeOnelineRepls.calls nm rp true _ HR.out).mono ?_); rintro e w1 ⟨rfl, ⟨nd, rfl⟩⟩))
      | (go_at_call 41; go_must ((with_reducible refine (ws_calls B b l rp _ (HBD.out.below (pw_below_drewN (Below.refl _ _) _)) HLEN.out (Nat.le_trans HB.out (pw_below_drewN (Below.refl w.heap.size w) _).size)).mono ?_); rintro e w2 ⟨⟨u2, rfl⟩, h1, h2, h3⟩; have HBD2 := Aside0.mk h1; have HB2 := Aside0.mk h2; have HO2 := Aside0.mk h3; clear h1 h2 h3)))
    first | go_end0 | refine bodyPost_ret (results_none rfl _ _ _) rfl ?_
    exact ⟨⟨_, rfl⟩, HBD2.out, ((pw_below_drewN (Below.refl w.heap.size w) _).mono HB.out).trans HB2.out, (Oth.of_below (pw_below_drewN (Below.refl _ _) _)).trans HO2.out⟩
  | false =>
    simp only [Bool.false_eq_true, if_false] at HLEN ⊢
    go_enter Try.func36, Try.ntmps36
    go_wp2_with (first
      | (go_at_call 54; go_must ((with_reducible refine (btcdtxscript_opcodeOnelineRepls.calls nm rp false _ HR.out).mono ?_); rintro e w1 ⟨rfl, ⟨nd, rfl⟩⟩))
      | (go_at_call 41; go_must ((with_reducible refine (ws_calls B b l nm _ (HBD.out.below (pw_below_drewN (Below.refl _ _) _)) HLEN.out (Nat.le_trans HB.out (pw_below_drewN (Below.refl w.heap.size w) _).size)).mono ?_); rintro e w2 ⟨⟨u2, rfl⟩, h1, h2, h3⟩; have HBD2 := Aside0.mk h1; have HB2 := Aside0.mk h2; have HO2 := Aside0.mk h3; clear h1 h2 h3)))
    first | go_end0 | refine bodyPost_ret (results_none rfl _ _ _) rfl ?_
    exact ⟨⟨_, rfl⟩, HBD2.out, ((pw_below_drewN (Below.refl w.heap.size w) _).mono HB.out).trans HB2.out, (Oth.of_below (pw_below_drewN (Below.refl _ _) _)).trans HO2.out⟩
theorem enc_size (d : List Int) : (⟨(Hx.encode (Lib.bytesOf d)).toArray⟩ : ByteArray).size = 2 * d.length := by
  rw [size_list]
  exact (Hx.encode_length _).trans (by rw [Lib.bytesOf_length])
set_option maxHeartbeats 8000000 in
set_option maxRecDepth 100000 in
theorem dis_push (B b go : Nat) (l : List UInt8) (op len : Int) (nm rp : ByteArray) (is : Bool) (P0 : Nat → Prop) (dv : Value) (d : List Int) (w : World) (hbd : Bd B b l w) (hB : B ≤ w.heap.size)
    (hgo : w.heap[go]? = some (.cells #[.int .u8 op, .string nm, .int .i64 len] 88 (0, 0))) (hne : ¬ len = 1) (hr : btcdtxscript_opcodeOnelineRepls.f nm = some (rp, is))
    {bs : Nat} (hd : Kd.V (Kd.int .u8) 5 w bs P0 dv d) (hby : Bytes d) (h0 : 0 < d.length) (hd2 : d.length ≤ 10000) (hlen : l.length ≤ 900000) :
    Calls Try.prog 36 #[.pointer (some ⟨b, 0, none⟩), .pointer (some ⟨go, 0, none⟩), dv, .bool true] w fun e w' =>
      (∃ u, e = .returned u) ∧ Bd B b (l ++ Hx.encode (Lib.bytesOf d)) w' ∧ Below B w w' ∧ Oth b w w' := by
  obtain ⟨A, c, rfl⟩ := Kd.V_slice hd
  obtain ⟨_, hc, hC⟩ := Kd.V_reads' hd
  obtain ⟨kh, hkh⟩ := hex_f d hby hd2
  have z1 := blk_cell hgo 1
  have z2 := blk_cell hgo 2
  have HBD := Lib.hid hbd
  have HB := Lib.hid hB
  have HR := Lib.hid hr
  have HLEN := Lib.hid hlen
  have HC := Lib.hid hC
  have HCN := Lib.hid hc
  have HKH := Lib.hid hkh
  have HSZ := Lib.hid (show l.length + (⟨(Hx.encode (Lib.bytesOf d)).toArray⟩ : ByteArray).size ≤ 1000000 by rw [enc_size]; omega)
  have q1 := eq_false hne
  have q2 : (len == 1) = false := by rw [beq_eq_false_iff_ne]; exact hne
  have hed : Hx.encode (Lib.bytesOf d) = (⟨(Hx.encode (Lib.bytesOf d)).toArray⟩ : ByteArray).data.toList := rfl
  have HED := Lib.hid hed
  obtain ⟨s, hs⟩ : ∃ s, (⟨(Hx.encode (Lib.bytesOf d)).toArray⟩ : ByteArray) = s := ⟨_, rfl⟩
  rw [hs] at HSZ HKH HED
  clear hbd hB hr hlen hgo hd hC hc hkh hby h0 hd2 hed hs hne
  rw [HED.out]
  clear HED
  cases is with
  | true =>
    go_enter Try.func36, Try.ntmps36
    go_wp2_with (first
      | (go_at_call 54; go_must ((with_reducible refine (btcdtxscript_opcodeOnelineRepls.calls nm rp true _ HR.out).mono ?_); rintro e w1 ⟨rfl, ⟨nd, rfl⟩⟩))
      | (go_at_call 55; go_must ((with_reducible refine (hex_EncodeToString.calls kh A c d s _ (Kd.C_below HC.out (pw_below_drewN (Below.refl _ _) _)) HCN.out HKH.out).mono ?_); rintro e w2 ⟨rfl, h1⟩; have HB1 := Aside0.mk ((pw_below_drewN (Below.refl w.heap.size w) nd).trans h1); clear h1))
      | (go_at_call 41; go_must ((with_reducible refine (ws_calls B b l s _ (HBD.out.below HB1.out) HSZ.out (Nat.le_trans HB.out HB1.out.size)).mono ?_); rintro e w3 ⟨⟨u2, rfl⟩, h1, h2, h3⟩; have HBD2 := Aside0.mk h1; have HB2 := Aside0.mk h2; have HO2 := Aside0.mk h3; clear h1 h2 h3)))
    first | go_end0 | refine bodyPost_ret (results_none rfl _ _ _) rfl ?_
    exact ⟨⟨_, rfl⟩, HBD2.out, (HB1.out.mono HB.out).trans HB2.out, (Oth.of_below HB1.out).trans HO2.out⟩
  | false =>
    go_enter Try.func36, Try.ntmps36
    go_wp2_with (first
      | (go_at_call 54; go_must ((with_reducible refine (btcdtxscript_opcodeOnelineRepls.calls nm rp false _ HR.out).mono ?_); rintro e w1 ⟨rfl, ⟨nd, rfl⟩⟩))
      | (go_at_call 55; go_must ((with_reducible refine (hex_EncodeToString.calls kh A c d s _ (Kd.C_below HC.out (pw_below_drewN (Below.refl _ _) _)) HCN.out HKH.out).mono ?_); rintro e w2 ⟨rfl, h1⟩; have HB1 := Aside0.mk ((pw_below_drewN (Below.refl w.heap.size w) nd).trans h1); clear h1))
      | (go_at_call 41; go_must ((with_reducible refine (ws_calls B b l s _ (HBD.out.below HB1.out) HSZ.out (Nat.le_trans HB.out HB1.out.size)).mono ?_); rintro e w3 ⟨⟨u2, rfl⟩, h1, h2, h3⟩; have HBD2 := Aside0.mk h1; have HB2 := Aside0.mk h2; have HO2 := Aside0.mk h3; clear h1 h2 h3)))
    first | go_end0 | refine bodyPost_ret (results_none rfl _ _ _) rfl ?_
    exact ⟨⟨_, rfl⟩, HBD2.out, (HB1.out.mono HB.out).trans HB2.out, (Oth.of_below HB1.out).trans HO2.out⟩
end Go.Proofs.Ytafpmdmmeohmfaa.Dr
