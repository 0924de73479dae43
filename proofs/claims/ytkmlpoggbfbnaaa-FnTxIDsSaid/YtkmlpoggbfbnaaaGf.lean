/-
  The double hash of what a function writes.
  BtcEncode and Serialize: eight bytes of scratch are borrowed, a transaction is encoded.
  The names of a transaction: what DoubleHashRaw makes of its writers; and what the reference makes of its bytes.
  impl.TxID, impl.WitnessID; spec.TxID, spec.WitnessID over impl.Hash.
-/
import Derived.Test.YtkmlpoggbfbnaaaGc
import Derived.Laws.Cover3
import Derived.Test.YtkmlpoggbfbnaaaTxE
import Derived.Defers
import Derived.Test.YtkmlpoggbfbnaaaGe
import Derived.Test.YtkmlpoggbfbnaaaTxSp
namespace Go.Proofs.Ytkmlpoggbfbnaaa.Sh
open Go.RowKit Go.Proofs.YtkmlpoggbfbnaaaW.PrintWords Go.Proofs.YtkmlpoggbfbnaaaW.PrintLast Go.Proofs.Ytkmlpoggbfbnaaa.Reg Go.Proofs.Ytkmlpoggbfbnaaa.Tok
set_option linter.unusedSimpArgs false
set_option linter.unusedVariables false

set_option maxRecDepth 100000 in
theorem exec_reset {o : Oper} {ev : Operand → Value} {w : World} {b : Nat} (r : Operand) (ho : o.op = .call { callee := .invoke r "Reset", args := #[], argTypes := #[] }) (hr : ev r = Hs b) :
    (execOp ev o).run Try.prog w = .ok (.enter 53 #[.pointer (some ⟨b, 0, none⟩)]) w := by
  have h := call_reset b w
  unfold execOp
  have hr' : ev r = .iface 98 (.pointer (some ⟨b, 0, none⟩)) := hr
  simp [ho, resolve, invoke, hr', h]
set_option maxRecDepth 100000 in
theorem exec_value {o : Oper} {ev : Operand → Value} {w : World} {f : Nat} {first cap : Array Value} {v : Value} (r x : Operand) (ts : Array TypeId) (ho : o.op = .call { callee := .value r, args := #[x], argTypes := ts }) (hr : ev r = .func (.func f) first cap) (hx : ev x = v) (hf : ∀ (args : Array Value) (w : World), (callFunc f args).run Try.prog w = .ok (.enter f args) w) :
    (execOp ev o).run Try.prog w = .ok (.enter f (first ++ #[v] ++ cap)) w := by
  unfold execOp
  simp [ho, resolve, hr, hx, Deferred.ofValue, invoke, hf]
section
variable {ops : Array Oper} {Q : Exit → Act → World → Prop}
theorem gate_value {P : Program} {rest : List Oper} {o : Oper} {a : Act} {w : World} {r x : Operand} {ts : Array TypeId} (_ho : o.op = .call { callee := .value r, args := #[x], argTypes := ts }) (h : wpList P ops Q (o :: rest) a w) : wpList P ops Q (o :: rest) a w := h
/-- A call in a plain region, by what it enters. -/
theorem by_exec {rest : List Oper} {o : Oper} {a : Act} {w : World} {f : Nat} {args : Array Value} (hg : o.guard = none) (he : (execOp a.eval o).run Try.prog w = .ok (.enter f args) w)
    (h : Calls Try.prog f args w fun e w' => ∃ u, e = .returned u ∧ wpList Try.prog ops Q rest (a.put o.dst u) w') : wpList Try.prog ops Q (o :: rest) a w := by
  refine wpList_plain hg fun K hK => ?_
  unfold Oper.wp
  rw [he, Oper.upon_enter]
  refine h.mono fun e w'' hh => ?_
  obtain ⟨u, rfl, hk⟩ := hh
  exact hK _ _ hk
end
theorem info_u8b : (Try.prog.info? 5).map (fun i => (i.zero, i.size, i.bytes)) = some (some (.int .u8 0), 1, 1) := by kernel_rfl
theorem make32 : ∃ M : Array Value, M.size = 32 ∧ ∀ W : World, (Instr.makeSlice 40 (.int .i64 0) (.int .i64 32)).run Try.prog W = .ok (.slice (some ⟨W.heap.size, 0, none⟩) 0 32) (W.alloc (.cells M 5)) := by
  obtain ⟨i0, hi, hz0, hz1, hz2⟩ := info_parts info_u8b
  refine ⟨madeCells (Value.int .u8 0).cells ((32 : Int).toNat * i0.size), by rw [size_madeCells, hz1]; rfl, fun W => ?_⟩
  have h := run_makeSlice (P := Try.prog) W 40 5 i0 (.int .u8 0) Try.underlying40 hi hz0 .i64 .i64 0 32 (by omega) (by omega) (by rw [hz1]; decide) (by rw [hz2]; decide) (by decide)
  simpa using h
set_option maxHeartbeats 16000000 in
set_option maxRecDepth 100000 in
theorem raw_calls (K d : List Int) (f : Nat) (first cap : Array Value) (w : World) (hK : KT K w) (hl : d.length ≤ 6000000) (hf : ∀ (args : Array Value) (w : World), (callFunc f args).run Try.prog w = .ok (.enter f args) w)
    (hS : ∀ W b, Below w.heap.size w W → w.heap.size ≤ b → Dg b (dcs iv (List.replicate 64 0) 0 0) W → Calls Try.prog f (first ++ #[Hs b] ++ cap) W fun e w' => (∃ u, e = .returned u) ∧ (∃ X', Sta K d d.length X' ∧ Dg b (cells K d d.length X') w') ∧ Below b W w') :
    Calls Try.prog 29 #[.func (.func f) first cap] w fun e w' => e = .returned (.agg (nums .u8 (dsha K d)).toArray) ∧ Below w.heap.size w w' := by
  have HK := Lib.hid hK
  have HL := Lib.hid hl
  have HSER := Lib.hid hS
  have HF := Lib.hid hf
  clear hK hl hS hf
  obtain ⟨M, hM, hmk⟩ := make32
  have HM := Lib.hid hM
  clear hM
  go_enter Try.func29, Try.ntmps29
  go_upto_region 1 with fail
  refine wp_world (fun W0 hW => ?_)
  obtain ⟨c0, hc, hc1⟩ : ∃ c0 : Array Value, w.alloc (.cells c0 46) = W0 ∧ c0 = (nums .u8 (List.replicate 32 0)).toArray := ⟨_, hW, by kernel_rfl⟩
  have HB0 := Lib.hid (show Below w.heap.size w W0 from hc ▸ below_alloc (Below.refl _ _) _)
  have G2 := Lib.hid (show W0.heap[w.heap.size]? = some (.cells c0 46 (0, 0)) ∧ c0.size = 32 from ⟨hc ▸ heap_alloc_new _ _, by rw [hc1]; rfl⟩)
  have hsz : W0.heap.size = w.heap.size + 1 := by rw [← hc]; simp
  obtain ⟨b, hbb⟩ : ∃ b, W0.heap.size = b := ⟨_, rfl⟩
  have HBB := Lib.hid (show b = w.heap.size + 1 from hbb ▸ hsz)
  have HNEW := Lib.hid (new_calls W0)
  rw [hbb] at HNEW
  clear hW hc hc1 hsz
  go_upto_region 3 with (first
    | (go_at_call 42; go_must ((with_reducible refine HNEW.out.mono ?_); rintro e w1 ⟨rfl, h1, h2⟩; have H1 := Aside0.mk h1; have H2 := Aside0.mk h2; clear h1 h2))
    | ((with_reducible refine gate_value rfl ?_); go_must (refine by_exec rfl (exec_value (v := Hs b) (.tmp 8) (.tmp 9) #[94] rfl rfl rfl HF.out) ?_; (with_reducible refine (HSER.out w1 b (HB0.out.trans (H2.out.mono (by have := HBB.out; omega))) (by have := HBB.out; omega) H1.out).mono ?_); rintro e w3 ⟨⟨u3, rfl⟩, ⟨X3, h3, h4⟩, h5⟩; refine ⟨_, rfl, ?_⟩; have H3 := Aside0.mk h3; have H4 := Aside0.mk h4; have H5 := Aside0.mk h5; clear h3 h4 h5)))
  have hl3 : W0.heap.size ≤ w3.heap.size := Nat.le_trans H2.out.size H5.out.size
  have HB3 := Lib.hid (show Below b W0 w3 from H2.out.trans H5.out)
  have HK3 := Lib.hid (show KT K w3 from HK.out.of_block ((HB0.out.trans (HB3.out.mono (by have := HBB.out; omega))).block _ HK.out.lt))
  have hb3 : b < w3.heap.size := blk_lt H4.out
  go_upto_region 4 with fail
  refine wp_world (fun W4 hW => ?_)
  obtain ⟨g, hg⟩ : ∃ g, w3.heap.size = g := ⟨_, rfl⟩
  rw [hg] at hb3 ⊢
  have HB4 := Lib.hid (show Below g w3 W4 from hW ▸ hg ▸ below_alloc (Below.refl _ _) _)
  have hG4 : W4.heap[g]? = some (.cells M 5 (0, 0)) := hW ▸ hg ▸ heap_alloc_new _ _
  have hD4 : Dg b (cells K d d.length X3) W4 := (HB4.out.block b hb3).trans H4.out
  have hK4 : KT K W4 := HK3.out.of_block (HB4.out.block _ (hg ▸ HK3.out.lt))
  have HSUM := Lib.hid (sum_calls K b g d X3 M 5 W4 hK4 H3.out hD4 (by have := HL.out; omega) hG4 HM.out)
  have HBG := Lib.hid (And.intro hb3 (HB3.out.trans (HB4.out.mono (Nat.le_of_lt hb3))))
  have HKB := Lib.hid (fun (W : World) (h : Below b W4 W) => (show KT K W from hK4.of_block (h.block _ (Nat.lt_of_lt_of_le HK.out.lt (by have := HBB.out; omega)))))
  have HRS := Lib.hid (fun (w5 : World) (o5 : On g W4 w5) => (show Calls Try.prog 53 #[.pointer (some ⟨b, 0, none⟩)] w5 fun e w' => (∃ u, e = .returned u) ∧ Dg b (dcs iv X3 0 0) w' ∧ On b w5 w' from
    reset_calls b _ X3 _ _ w5 ((o5.1.block b HBG.out.1).trans hD4) H3.out.len))
  have HWR := Lib.hid (fun (w6 : World) (h6 : Dg b (dcs iv X3 0 0) w6) (hg6 : w6.heap[g]? = some (.cells (nums .u8 (sha K d)).toArray 5 (0, 0))) (hk6 : KT K w6) => (show Calls Try.prog 86 #[.pointer (some ⟨b, 0, none⟩), .slice (some ⟨g, 0, none⟩) 32 32] w6 fun e w' => (∃ u, e = .returned u) ∧
      (∃ X', Sta K (sha K d) ((32 : Nat) : Int) X' ∧ Dg b (cells K (sha K d) ((32 : Nat) : Int) X') w') ∧ On b w6 w' from by
    have hv := blk_V hg6 (by rw [sha_len]; omega) 0
    have := write_calls K b [] 0 X3 0 (fun k => k = g) (some ⟨g, 0, none⟩) (sha K d).length (sha K d) w6 hk6 (sta_nil K _ H3.out.len (any _)) h6 ⟨by omega, by rw [sha_len]; omega⟩ hv (fun k hk => by have := HBG.out.1; omega) (any _) (by rw [sha_len]; omega)
    rw [List.nil_append, Int.zero_add, sha_len] at this
    exact this.mono fun e w' hh => ⟨⟨_, hh.1⟩, hh.2⟩))
  have HSM := Lib.hid (fun (w7 : World) (X7 : List Int) (h7 : Sta K (sha K d) ((32 : Nat) : Int) X7) (h8 : Dg b (cells K (sha K d) ((32 : Nat) : Int) X7) w7) (hg7 : w7.heap[g]? = some (.cells (nums .u8 (sha K d)).toArray 5 (0, 0))) (hk7 : KT K w7) => (show Calls Try.prog 85 #[.pointer (some ⟨b, 0, none⟩), .slice (some ⟨g, 0, none⟩) 0 32] w7 fun e w' => e = .returned (.slice (some ⟨g, 0, none⟩) 32 32) ∧
      w'.heap[g]? = some (.cells (nums .u8 (dsha K d)).toArray 5 (0, 0)) ∧ On g w7 w' from by
    have e : ((32 : Nat) : Int) = ((sha K d).length : Int) := by rw [sha_len]
    rw [e] at h7 h8
    exact sum_calls K b g (sha K d) X7 _ 5 w7 hk7 h7 h8 (by rw [sha_len]; omega) hg7 (by rw [List.size_toArray, nums_length, sha_len])))
  clear hW hD4 hK4 hG4 hb3 hl3
  have hgb : g ≠ b := by have := HBG.out.1; omega
  go_upto_region 8 with (first
    | ((with_reducible refine gate_invoke (n := "Sum") (r := .tmp 12) rfl ?_); go_must (refine by_exec rfl (exec_sum (b := b) (v := .slice (some ⟨g, 0, none⟩) 0 32) (.tmp 12) (.tmp 13) #[40] rfl rfl rfl) ?_; (with_reducible refine HSUM.out.mono ?_); rintro e w5 ⟨rfl, h5, o5⟩; refine ⟨_, rfl, ?_⟩; have H5G := Aside0.mk h5; have O5 := Aside0.mk o5; clear h5 o5))
    | ((with_reducible refine gate_invoke (n := "Reset") rfl ?_); go_must (refine by_exec rfl (exec_reset (b := b) (.tmp 15) rfl rfl) ?_; (with_reducible refine (HRS.out w5 O5.out).mono ?_); rintro e w6 ⟨⟨u6, rfl⟩, h6, o6⟩; refine ⟨_, rfl, ?_⟩; have H6 := Aside0.mk h6; have H6G := Aside0.mk ((o6.2.2 g (blk_lt H5G.out) hgb (by simp)).trans H5G.out); have O6 := Aside0.mk (show Below b W4 w6 from (O5.out.1.mono (Nat.le_of_lt HBG.out.1)).trans o6.1); clear h6 o6))
    | ((with_reducible refine gate_invoke (n := "Write") rfl ?_); go_must (refine by_exec rfl (exec_write (b := b) (v := .slice (some ⟨g, 0, none⟩) 32 32) (.tmp 17) (.tmp 18) #[40] rfl rfl rfl) ?_; (with_reducible refine (HWR.out w6 H6.out H6G.out (HKB.out _ O6.out)).mono ?_); rintro e w7 ⟨⟨u7, rfl⟩, ⟨X7, h7, h8⟩, o7⟩; refine ⟨_, rfl, ?_⟩; have H7 := Aside0.mk h7; have H8 := Aside0.mk h8; have H7G := Aside0.mk ((o7.2.2 g (blk_lt H6G.out) hgb (by simp)).trans H6G.out); have O7 := Aside0.mk (show Below b W4 w7 from O6.out.trans o7.1); clear h7 h8 o7))
    | ((with_reducible refine gate_invoke (n := "Sum") (r := .tmp 20) rfl ?_); go_must (refine by_exec rfl (exec_sum (b := b) (v := .slice (some ⟨g, 0, none⟩) 0 32) (.tmp 20) (.tmp 21) #[40] rfl rfl rfl) ?_; (with_reducible refine (HSM.out w7 X7 H7.out H8.out H7G.out (HKB.out _ O7.out)).mono ?_); rintro e w8 ⟨rfl, h8, o8⟩; refine ⟨_, rfl, ?_⟩; have H8G := Aside0.mk h8; have O8 := Aside0.mk (show Below b W4 w8 from O7.out.trans (o8.1.mono (Nat.le_of_lt HBG.out.1))); clear h8 o8)))
  have HRG := Lib.hid (show w8.rangeAt g 0 (nums .u8 (dsha K d)) from fun j v hj => by
    rw [Nat.zero_add]
    exact (blk_cell H8G.out j).trans (by simpa using hj))
  have hb8 : Below b W0 w8 := HBG.out.2.trans O8.out
  have hlt : w.heap.size < b := by have := HBB.out; omega
  have HG8 := Lib.hid (show w8.heap[w.heap.size]? = some (.cells c0 46 (0, 0)) from (hb8.block _ hlt).trans G2.out.1)
  have HBE := Lib.hid (show Below w.heap.size w w8 from HB0.out.trans (hb8.mono (Nat.le_of_lt hlt)))
  clear hb8 hlt hgb
  have hptr : ∀ W : World, (Instr.arrayAt 46 (.slice (some ⟨g, 0, none⟩) 32 32)).run Try.prog W = .ok (.pointer (some ⟨g, 0, none⟩)) W := fun W => run_arrayAt (w := W) 46 _ 32 (some ⟨g, 0, none⟩) 32 32 Try.underlying46 (Nat.le_refl _)
  go_wp2_with (first
    | (refine wpList_load_mid rfl 46 (.tmp 25) rfl g 0 rfl (nums .u8 (dsha K d)) _ HRG.out Try.underlying46 rfl ?aI ?_; go_must (case aI => rw [nums_length, dsha, sha_len]; exact info46))
    | (refine wpList_store_row rfl 46 (.tmp 2) (.tmp 26) rfl w.heap.size (nums .u8 (dsha K d)).toArray rfl rfl 46 _ HG8.out ?aS ?aL ?aO ?_; go_must (case aS => rw [List.size_toArray, nums_length, dsha, sha_len]; exact info46); go_must (case aL => exact Eq.trans (b := 32) G2.out.2 (by rw [List.size_toArray, nums_length, dsha, sha_len])); go_must (case aO => exact all_oneCell_toArray (nums_one _))))
  refine bodyPost_ret (results_cell_row (by rfl) _ _ w.heap.size 46 (nums .u8 (dsha K d)).toArray (0, 0) _ (by rfl) (setRow_heap _ _ _ _ _ _ HG8.out) Try.underlying46 (by rfl) (by rw [List.size_toArray, nums_length, dsha, sha_len]; exact info46)) (by rfl) ?_
  exact ⟨rfl, below_setRow HBE.out (Nat.le_refl _) _⟩
end Go.Proofs.Ytkmlpoggbfbnaaa.Sh
namespace Go.Proofs.Ytkmlpoggbfbnaaa.Wire
open Go.RowKit Go.Proofs.YtkmlpoggbfbnaaaW.PrintWords Go.Proofs.YtkmlpoggbfbnaaaW.PrintLast Go.Proofs.Ytkmlpoggbfbnaaa.Reg Go.Proofs.Ytkmlpoggbfbnaaa.Buf Go.Proofs.Ytkmlpoggbfbnaaa.Tx
set_option linter.unusedSimpArgs false
set_option linter.unusedVariables false

/-- A writer without scratch; F are blocks that stand. -/
structure Sw (F : Nat → Prop) (B b : Nat) (v : Value) (l : List Int) (w : World) : Prop where
  buf : Bf B b v l w
  hF : ∀ k, F k → k < w.heap.size ∧ k ≠ b ∧ some k ≠ v.ownBlock
  hB : B ≤ w.heap.size
section
variable {F : Nat → Prop} {B b s : Nat} {v : Value} {l : List Int} {w w1 : World}
theorem St.drop (h : St F B b s v l w) : Sw F B b v l w := ⟨h.buf, fun k hk => ⟨(h.hF k hk).1, (h.hF k hk).2.1, (h.hF k hk).2.2.2⟩, h.hB⟩
theorem Sw.below (h : Sw F B b v l w) (hb : Below w.heap.size w w1) : Sw F B b v l w1 := ⟨Bf.below h.buf hb, fun k hk => ⟨Nat.lt_of_lt_of_le (h.hF k hk).1 hb.size, (h.hF k hk).2⟩, Nat.le_trans h.hB hb.size⟩
theorem Sw.tr_below (h : Sw F B b v l w) (hb : Below w.heap.size w w1) : Tr F B w w1 := ⟨fun k hk => hb.block k (h.hF k hk).1, hb.mono h.hB⟩
theorem Sw.with (h : Sw F B b v l w) (hb : Below w.heap.size w w1) (hs : w.heap.size ≤ s) {c0 c1 c2 c3 c4 c5 c6 c7 : Value} (hc : w1.heap[s]? = some (.cells #[c0, c1, c2, c3, c4, c5, c6, c7] 5 (0, 0))) : St F B b s v l w1 := by
  have h1 := h.below hb
  have hl := h.buf.lt
  refine ⟨h1.buf, ⟨c0, c1, c2, c3, c4, c5, c6, c7, hc⟩, fun e => ?_, fun e => ?_, fun k hk => ⟨(h1.hF k hk).1, (h1.hF k hk).2.1, fun e => ?_, (h1.hF k hk).2.2⟩, h1.hB, Nat.le_trans h.hB hs⟩
  · omega
  · have := h.buf.own_lt s e.symm; omega
  · have := (h.hF k hk).1; omega
end
set_option maxHeartbeats 4000000 in
set_option maxRecDepth 100000 in
theorem borrow_calls (w : World) : Calls Try.prog 49 #[.agg #[]] w fun e w' => ∃ s, e = .returned (.slice (some ⟨s, 0, none⟩) 8 8) ∧ w.heap.size ≤ s ∧ (∃ c0 c1 c2 c3 c4 c5 c6 c7 : Value, w'.heap[s]? = some (.cells #[c0, c1, c2, c3, c4, c5, c6, c7] 5 (0, 0))) ∧ Below w.heap.size w w' := by
  have hmk : ∀ w : World, (Instr.makeSlice 40 (.int .i64 8) (.int .i64 8)).run Try.prog w = .ok (.slice (some ⟨w.heap.size, 0, none⟩) 8 8) (w.alloc (.cells #[.int .u8 0, .int .u8 0, .int .u8 0, .int .u8 0, .int .u8 0, .int .u8 0, .int .u8 0, .int .u8 0] 5)) := fun w => by kernel_rfl
  go_enter Try.func49, Try.ntmps49
  go_wp2
  go_ret
  refine ⟨_, rfl, Nat.le_succ _, ⟨.int .u8 0, .int .u8 0, .int .u8 0, .int .u8 0, .int .u8 0, .int .u8 0, .int .u8 0, .int .u8 0, ?_⟩, below_alloc (below_alloc (Below.refl _ _) _) _⟩
  rw [show w.heap.size + 1 = (w.alloc (.cells #[] 101)).heap.size from by simp]
  exact heap_alloc_new _ _
set_option maxHeartbeats 4000000 in
set_option maxRecDepth 100000 in
theorem return_deferred (v : Value) (w : World) (u : FrameMode) :
    CallsD Try.prog 50 #[.agg #[], v] u w fun e u' w' => u' = u ∧ (e = .returned (.tuple #[]) ∧ Below w.heap.size w w') := by
  go_enter_d Try.func50, Try.ntmps50
  go_wp2
  go_end0
  exact ⟨rfl, below_alloc (Below.refl _ _) _⟩
set_option maxHeartbeats 8000000 in
set_option maxRecDepth 100000 in
theorem btcEnc_calls {F : Nat → Prop} {B b : Nat} {v : Value} {l : List Int} {w : World} (h : Sw F B b v l w) (p : Int) (wit : Bool) (g : Nat) (x : TX) {A1 : Option Addr} {c1 : Nat} {A2 : Option Addr} {c2 : Nat} (hx : TxF F w g x A1 c1 A2 c2) (hg : Nums x) (hlim : l.length + txN x + 256 ≤ 6000000) :
    Calls Try.prog 43 #[.pointer (some ⟨g, 0, none⟩), Wr b, .int .u32 p, .int .u32 (if wit then 2 else 1)] w fun e w' => e = .returned .nilIface ∧ ∃ v', Sw F B b v' (l ++ txB x (wit && hasW x.ins)) w' ∧ Tr F B w w' := by
  obtain ⟨d, hd⟩ : ∃ d, txB x (wit && hasW x.ins) = d := ⟨_, rfl⟩
  obtain ⟨e, he⟩ : ∃ e : Int, (if wit then (2 : Int) else 1) = e := ⟨_, rfl⟩
  have H := Lib.hid h
  have HE := Lib.hid (show ∀ (w : World) (s : Nat), St F B b s v l w → TxF F w g x A1 c1 A2 c2 → Calls Try.prog 51 #[.pointer (some ⟨g, 0, none⟩), Wr b, .int .u32 p, .int .u32 e, .slice (some ⟨s, 0, none⟩) 8 8] w fun e' w' => e' = .returned .nilIface ∧ ∃ v', St F B b s v' (l ++ d) w' ∧ Tr F B w w' from fun w s h hx => he ▸ hd ▸ enc_calls h p wit g x hx hg hlim)
  have HX := Lib.hid hx
  rw [hd, he]
  clear h hx hg hlim hd he
  go_enter_defers Try.func43, Try.ntmps43
  go_wp2_with (first
    | (go_at_call 49; go_must (refine (borrow_calls _).mono ?_); rintro e w1 ⟨s, rfl, hs, ⟨d0, d1, d2, d3, d4, d5, d6, d7, hc⟩, hb⟩; have H1 := Lib.hid (H.out.with hb hs hc); have T1 := Lib.hid (H.out.tr_below hb); clear hs hc hb)
    | (go_at_call 51; go_must (refine (HE.out _ s H1.out (HX.out.tr T1.out)).mono ?_); rintro e w2 ⟨rfl, v2, h2, t2⟩; have H2 := Lib.hid h2; have T2 := Lib.hid (T1.out.trans t2); clear h2 t2 H1 T1))
  refine leaves_cons (f := 50) (args := #[.agg #[], .slice (some ⟨s, 0, none⟩) 8 8]) (by simp) (by simp [go_sem]) ?_
  refine (return_deferred _ _ _).mono ?_
  rintro e u' w'' ⟨rfl, rfl, hb⟩
  exact ⟨_, results_tmp rfl _ _ _, rfl, v2, H2.out.drop.below hb, T2.out.trans (H2.out.drop.tr_below hb)⟩
set_option maxHeartbeats 4000000 in
set_option maxRecDepth 100000 in
theorem ser_calls {F : Nat → Prop} {B b : Nat} {v : Value} {l : List Int} {w : World} (h : Sw F B b v l w) (g : Nat) (x : TX) {A1 : Option Addr} {c1 : Nat} {A2 : Option Addr} {c2 : Nat} (hx : TxF F w g x A1 c1 A2 c2) (hg : Nums x) (hlim : l.length + txN x + 256 ≤ 6000000) :
    Calls Try.prog 39 #[.pointer (some ⟨g, 0, none⟩), Wr b] w fun e w' => e = .returned .nilIface ∧ ∃ v', Sw F B b v' (l ++ txB x (hasW x.ins)) w' ∧ Tr F B w w' := by
  have HE := Lib.hid (show Calls Try.prog 43 #[.pointer (some ⟨g, 0, none⟩), Wr b, .int .u32 0, .int .u32 2] w _ from btcEnc_calls h 0 true g x hx hg hlim)
  obtain ⟨d, hd⟩ : ∃ d, txB x (hasW x.ins) = d := ⟨_, rfl⟩
  rw [Bool.true_and, hd] at HE
  rw [hd]
  clear h hx hg hlim hd
  go_enter Try.func39, Try.ntmps39
  go_wp2_with (go_at_call 43; go_must (refine HE.out.mono ?_); rintro e w2 ⟨rfl, hr⟩)
  go_ret
  exact ⟨rfl, hr⟩
set_option maxHeartbeats 4000000 in
set_option maxRecDepth 100000 in
theorem serN_calls {F : Nat → Prop} {B b : Nat} {v : Value} {l : List Int} {w : World} (h : Sw F B b v l w) (g : Nat) (x : TX) {A1 : Option Addr} {c1 : Nat} {A2 : Option Addr} {c2 : Nat} (hx : TxF F w g x A1 c1 A2 c2) (hg : Nums x) (hlim : l.length + txN x + 256 ≤ 6000000) :
    Calls Try.prog 30 #[.pointer (some ⟨g, 0, none⟩), Wr b] w fun e w' => e = .returned .nilIface ∧ ∃ v', Sw F B b v' (l ++ txB x false) w' ∧ Tr F B w w' := by
  have HE := Lib.hid (show Calls Try.prog 43 #[.pointer (some ⟨g, 0, none⟩), Wr b, .int .u32 0, .int .u32 1] w _ from btcEnc_calls h 0 false g x hx hg hlim)
  obtain ⟨d, hd⟩ : ∃ d, txB x false = d := ⟨_, rfl⟩
  rw [Bool.false_and, hd] at HE
  rw [hd]
  clear h hx hg hlim hd
  go_enter Try.func30, Try.ntmps30
  go_wp2_with (go_at_call 43; go_must (refine HE.out.mono ?_); rintro e w2 ⟨rfl, hr⟩)
  go_ret
  exact ⟨rfl, hr⟩
end Go.Proofs.Ytkmlpoggbfbnaaa.Wire
namespace Go.Proofs.Ytkmlpoggbfbnaaa.Wire
open Go.RowKit Go.Proofs.YtkmlpoggbfbnaaaW.PrintWords Go.Proofs.YtkmlpoggbfbnaaaW.PrintLast Go.Proofs.Ytkmlpoggbfbnaaa.Reg Go.Proofs.Ytkmlpoggbfbnaaa.Buf Go.Proofs.Ytkmlpoggbfbnaaa.Tx Go.Proofs.Ytkmlpoggbfbnaaa.Sh
set_option linter.unusedSimpArgs false
set_option linter.unusedVariables false

theorem enters_serN (args : Array Value) (w : World) : (callFunc 30 args).run Try.prog w = .ok (.enter 30 args) w := by kernel_rfl
theorem enters_ser (args : Array Value) (w : World) : (callFunc 39 args).run Try.prog w = .ok (.enter 39 args) w := by kernel_rfl
/-- A new digest is a writer that holds nothing. -/
theorem Sw.new {F : Nat → Prop} {w W : World} {b : Nat} (hK : KT (Kof W) W) (hb : Dg b (dcs iv (List.replicate 64 0) 0 0) W) (hwb : w.heap.size ≤ b) (hg : 1 < w.heap.size) (hF : ∀ k, F k → k < w.heap.size) (hW : Below w.heap.size w W) :
    Sw F b b (.slice none 0 0) [] W :=
  ⟨⟨Nat.le_refl _, rfl, Nat.lt_of_lt_of_le hg hwb, hK, List.replicate 64 0, sta_nil _ _ (by simp) (rep_bytes 64), hb⟩,
    fun k hk => ⟨Nat.lt_of_lt_of_le (hF k hk) hW.size, fun e => by have := hF k hk; omega, by simp [Value.ownBlock]⟩, Nat.le_of_lt (blk_lt hb)⟩
theorem Kof_below {w W : World} (hK : KT (Kof w) w) (hW : Below w.heap.size w W) : Kof W = Kof w := Kof_step (hW.block _ hK.lt)
theorem KT_below {w W : World} (hK : KT (Kof w) w) (hW : Below w.heap.size w W) : KT (Kof W) W := by
  rw [Kof_below hK hW]; exact hK.of_block (hW.block _ hK.lt)
/-- What the digest is behind a writer that began with nothing. -/
theorem Sw.done {F : Nat → Prop} {W w' : World} {b : Nat} {v : Value} {d : List Int} (hK : KT (Kof W) W) (hgb : 1 < b) (h : Sw F b b v ([] ++ d) w') (t : Tr F b W w') :
    (∃ X', Sta (Kof W) d d.length X' ∧ Dg b (cells (Kof W) d d.length X') w') ∧ Below b W w' := by
  have e : Kof w' = Kof W := Kof_step (t.B.block _ hgb)
  obtain ⟨X, h1, h2⟩ := h.buf.st
  rw [e, List.nil_append] at h1 h2
  exact ⟨⟨X, h1, h2⟩, t.B⟩
theorem rawN_calls {F : Nat → Prop} {w : World} {g : Nat} {x : TX} {A1 : Option Addr} {c1 : Nat} {A2 : Option Addr} {c2 : Nat} (hx : TxF F w g x A1 c1 A2 c2) (hF : ∀ k, F k → k < w.heap.size) (hg : Nums x) (hK : KT (Kof w) w) (hlim : txN x + 256 ≤ 6000000) (hd : (txB x false).length ≤ 6000000) :
    Calls Try.prog 29 #[.func (.func 30) #[.pointer (some ⟨g, 0, none⟩)] #[]] w fun e w' => e = .returned (.agg (nums .u8 (dsha (Kof w) (txB x false))).toArray) ∧ Below w.heap.size w w' := by
  refine raw_calls (Kof w) (txB x false) _ _ _ w hK hd enters_serN ?_
  intro W b hW hwb hb
  have hKW := KT_below hK hW
  have e := Kof_below hK hW
  refine (serN_calls (Sw.new hKW hb hwb hK.lt hF hW) g x (hx.below hW) hg (by simpa using hlim)).mono ?_
  rintro e' w' ⟨rfl, v', h1, h2⟩
  refine ⟨⟨_, rfl⟩, ?_⟩
  have := Sw.done hKW (Nat.lt_of_lt_of_le hK.lt hwb) h1 h2
  rwa [e] at this
theorem rawS_calls {F : Nat → Prop} {w : World} {g : Nat} {x : TX} {A1 : Option Addr} {c1 : Nat} {A2 : Option Addr} {c2 : Nat} (hx : TxF F w g x A1 c1 A2 c2) (hF : ∀ k, F k → k < w.heap.size) (hg : Nums x) (hK : KT (Kof w) w) (hlim : txN x + 256 ≤ 6000000) (hd : (txB x (hasW x.ins)).length ≤ 6000000) :
    Calls Try.prog 29 #[.func (.func 39) #[.pointer (some ⟨g, 0, none⟩)] #[]] w fun e w' => e = .returned (.agg (nums .u8 (dsha (Kof w) (txB x (hasW x.ins)))).toArray) ∧ Below w.heap.size w w' := by
  refine raw_calls (Kof w) (txB x (hasW x.ins)) _ _ _ w hK hd enters_ser ?_
  intro W b hW hwb hb
  have hKW := KT_below hK hW
  have e := Kof_below hK hW
  refine (ser_calls (Sw.new hKW hb hwb hK.lt hF hW) g x (hx.below hW) hg (by simpa using hlim)).mono ?_
  rintro e' w' ⟨rfl, v', h1, h2⟩
  refine ⟨⟨_, rfl⟩, ?_⟩
  have := Sw.done hKW (Nat.lt_of_lt_of_le hK.lt hwb) h1 h2
  rwa [e] at this
theorem txB_len (x : TX) (b : Bool) : (txB x b).length ≤ txN x + 64 := by
  have := vi_len x.ins.length
  have := vi_len x.outs.length
  unfold txB txN
  cases b <;> simp only [List.length_append, le_len, if_true, if_false, Bool.false_eq_true, List.length_cons, List.length_nil] <;> omega
set_option maxHeartbeats 8000000 in
set_option maxRecDepth 100000 in
theorem txHash_calls {F : Nat → Prop} {w : World} {g : Nat} {x : TX} {A1 : Option Addr} {c1 : Nat} {A2 : Option Addr} {c2 : Nat} (hx : TxF F w g x A1 c1 A2 c2) (hF : ∀ k, F k → k < w.heap.size) (hg : Nums x) (hK : KT (Kof w) w) (hlim : txN x + 256 ≤ 6000000) :
    Calls Try.prog 17 #[.pointer (some ⟨g, 0, none⟩)] w fun e w' => e = .returned (.agg (nums .u8 (dsha (Kof w) (txB x false))).toArray) ∧ Below w.heap.size w w' := by
  have HMV := Lib.hid (fun (W : World) (hW : Below w.heap.size w W) => And.intro (hx.below hW) (And.intro (fun k hk => Nat.lt_of_lt_of_le (hF k hk) hW.size) (And.intro (KT_below hK hW) (Kof_below hK hW))))
  have hdl := txB_len x false
  obtain ⟨d, hd⟩ : ∃ d, txB x false = d := ⟨_, rfl⟩
  obtain ⟨K, hKK⟩ : ∃ K, Kof w = K := ⟨_, rfl⟩
  have HR := Lib.hid (fun (W : World) (hW : Below w.heap.size w W) => (show Calls Try.prog 29 #[.func (.func 30) #[.pointer (some ⟨g, 0, none⟩)] #[]] W fun e w' => e = .returned (.agg (nums .u8 (dsha K d)).toArray) ∧ Below W.heap.size W w' from by
    have h := HMV.out W hW
    have := rawN_calls h.1 h.2.1 hg h.2.2.1 hlim (by omega)
    rwa [h.2.2.2, hKK, hd] at this))
  rw [hd, hKK]
  clear hx hF hg hK hlim hdl hd hKK HMV
  go_enter Try.func17, Try.ntmps17
  go_upto_region 1 with fail
  refine wp_world (fun W0 hW => ?_)
  obtain ⟨c0, hc, hc1⟩ : ∃ c0 : Array Value, w.alloc (.cells c0 46) = W0 ∧ c0 = (nums .u8 (List.replicate 32 0)).toArray := ⟨_, hW, by kernel_rfl⟩
  have HB0 := Lib.hid (show Below w.heap.size w W0 from hc ▸ below_alloc (Below.refl _ _) _)
  have G2 := Lib.hid (show W0.heap[w.heap.size]? = some (.cells c0 46 (0, 0)) ∧ c0.size = 32 from ⟨hc ▸ heap_alloc_new _ _, by rw [hc1]; rfl⟩)
  clear hW hc hc1
  go_wp2_with (first
    | (go_at_call 29; go_must ((with_reducible refine (HR.out W0 HB0.out).mono ?_); rintro e w4 ⟨rfl, h1⟩; have H4 := Aside0.mk h1; clear h1))
    | (refine wpList_store_row rfl 46 (.tmp 2) (.tmp 5) rfl w.heap.size (nums .u8 (dsha K d)).toArray rfl rfl 46 _ ((H4.out.block _ (blk_lt G2.out.1)).trans G2.out.1) ?aS ?aL ?aO ?_; go_must (case aS => rw [List.size_toArray, nums_length, dsha, sha_len]; exact info46); go_must (case aL => exact Eq.trans (b := 32) G2.out.2 (by rw [List.size_toArray, nums_length, dsha, sha_len])); go_must (case aO => exact all_oneCell_toArray (nums_one _))))
  refine bodyPost_ret (results_cell_row (by rfl) _ _ w.heap.size 46 (nums .u8 (dsha K d)).toArray (0, 0) _ (by rfl) (setRow_heap _ _ _ _ _ _ ((H4.out.block _ (blk_lt G2.out.1)).trans G2.out.1)) Try.underlying46 (by rfl) (by rw [List.size_toArray, nums_length, dsha, sha_len]; exact info46)) (by rfl) ?_
  exact ⟨rfl, below_setRow (below_step HB0.out H4.out) (Nat.le_refl _) _⟩
set_option maxHeartbeats 8000000 in
set_option maxRecDepth 100000 in
theorem witHash_calls {F : Nat → Prop} {w : World} {g : Nat} {x : TX} {A1 : Option Addr} {c1 : Nat} {A2 : Option Addr} {c2 : Nat} (hx : TxF F w g x A1 c1 A2 c2) (hF : ∀ k, F k → k < w.heap.size) (hg : Nums x) (hK : KT (Kof w) w) (hlim : txN x + 256 ≤ 6000000) :
    Calls Try.prog 20 #[.pointer (some ⟨g, 0, none⟩)] w fun e w' => e = .returned (.agg (nums .u8 (dsha (Kof w) (txB x (hasW x.ins)))).toArray) ∧ Below w.heap.size w w' := by
  have HMV := Lib.hid (fun (W : World) (hW : Below w.heap.size w W) => And.intro (hx.below hW) (And.intro (fun k hk => Nat.lt_of_lt_of_le (hF k hk) hW.size) (And.intro (KT_below hK hW) (Kof_below hK hW))))
  have hdl := txB_len x (hasW x.ins)
  obtain ⟨K, hKK⟩ : ∃ K, Kof w = K := ⟨_, rfl⟩
  have HW := Lib.hid (fun (W : World) (hW : Below w.heap.size w W) => has_calls (HMV.out W hW).1 hg.n1)
  obtain ⟨wb, hwb⟩ : ∃ wb, hasW x.ins = wb := ⟨_, rfl⟩
  obtain ⟨d, hd⟩ : ∃ d, txB x wb = d := ⟨_, rfl⟩
  rw [hwb] at HW
  rw [hwb, hd, hKK]
  rw [hwb, hd] at hdl
  cases wb
  · have HR := Lib.hid (fun (W : World) (hW : Below w.heap.size w W) => (show Calls Try.prog 17 #[.pointer (some ⟨g, 0, none⟩)] W fun e w' => e = .returned (.agg (nums .u8 (dsha K d)).toArray) ∧ Below W.heap.size W w' from by
      have h := HMV.out W hW
      have := txHash_calls h.1 h.2.1 hg h.2.2.1 hlim
      rwa [h.2.2.2, hKK, hd] at this))
    clear hx hF hg hK hlim hdl hd hKK HMV hwb
    go_enter Try.func20, Try.ntmps20
    go_upto_region 1 with fail
    refine wp_world (fun W0 hW => ?_)
    obtain ⟨c0, hc, hc1⟩ : ∃ c0 : Array Value, w.alloc (.cells c0 46) = W0 ∧ c0 = (nums .u8 (List.replicate 32 0)).toArray := ⟨_, hW, by kernel_rfl⟩
    have HB0 := Lib.hid (show Below w.heap.size w W0 from hc ▸ below_alloc (Below.refl _ _) _)
    have G2 := Lib.hid (show W0.heap[w.heap.size]? = some (.cells c0 46 (0, 0)) ∧ c0.size = 32 from ⟨hc ▸ heap_alloc_new _ _, by rw [hc1]; rfl⟩)
    clear hW hc hc1
    go_wp2_with (first
      | (go_at_call 38; go_must ((with_reducible refine (HW.out W0 HB0.out).mono ?_); rintro e w2 ⟨rfl, h1⟩; have H2 := Aside0.mk (below_step HB0.out h1); have H3 := Aside0.mk h1; clear h1))
      | (go_at_call 17; go_must ((with_reducible refine (HR.out w2 H2.out).mono ?_); rintro e w4 ⟨rfl, h1⟩; have H4 := Aside0.mk (show Below W0.heap.size W0 w4 from below_step H3.out h1); clear h1))
      | (refine wpList_store_row rfl 46 (.tmp 2) (.tmp 9) rfl w.heap.size (nums .u8 (dsha K d)).toArray rfl rfl 46 _ ((H4.out.block _ (blk_lt G2.out.1)).trans G2.out.1) ?aS ?aL ?aO ?_; go_must (case aS => rw [List.size_toArray, nums_length, dsha, sha_len]; exact info46); go_must (case aL => exact Eq.trans (b := 32) G2.out.2 (by rw [List.size_toArray, nums_length, dsha, sha_len])); go_must (case aO => exact all_oneCell_toArray (nums_one _))))
    refine bodyPost_ret (results_cell_row (by rfl) _ _ w.heap.size 46 (nums .u8 (dsha K d)).toArray (0, 0) _ (by rfl) (setRow_heap _ _ _ _ _ _ ((H4.out.block _ (blk_lt G2.out.1)).trans G2.out.1)) Try.underlying46 (by rfl) (by rw [List.size_toArray, nums_length, dsha, sha_len]; exact info46)) (by rfl) ?_
    exact ⟨rfl, below_setRow (below_step HB0.out H4.out) (Nat.le_refl _) _⟩
  · have HR := Lib.hid (fun (W : World) (hW : Below w.heap.size w W) => (show Calls Try.prog 29 #[.func (.func 39) #[.pointer (some ⟨g, 0, none⟩)] #[]] W fun e w' => e = .returned (.agg (nums .u8 (dsha K d)).toArray) ∧ Below W.heap.size W w' from by
      have h := HMV.out W hW
      have := rawS_calls h.1 h.2.1 hg h.2.2.1 hlim (by rw [hwb, hd]; omega)
      rwa [h.2.2.2, hKK, hwb, hd] at this))
    clear hx hF hg hK hlim hdl hd hKK HMV hwb
    go_enter Try.func20, Try.ntmps20
    go_upto_region 1 with fail
    refine wp_world (fun W0 hW => ?_)
    obtain ⟨c0, hc, hc1⟩ : ∃ c0 : Array Value, w.alloc (.cells c0 46) = W0 ∧ c0 = (nums .u8 (List.replicate 32 0)).toArray := ⟨_, hW, by kernel_rfl⟩
    have HB0 := Lib.hid (show Below w.heap.size w W0 from hc ▸ below_alloc (Below.refl _ _) _)
    have G2 := Lib.hid (show W0.heap[w.heap.size]? = some (.cells c0 46 (0, 0)) ∧ c0.size = 32 from ⟨hc ▸ heap_alloc_new _ _, by rw [hc1]; rfl⟩)
    clear hW hc hc1
    go_wp2_with (first
      | (go_at_call 38; go_must ((with_reducible refine (HW.out W0 HB0.out).mono ?_); rintro e w2 ⟨rfl, h1⟩; have H2 := Aside0.mk (below_step HB0.out h1); have H3 := Aside0.mk h1; clear h1))
      | (go_at_call 29; go_must ((with_reducible refine (HR.out w2 H2.out).mono ?_); rintro e w4 ⟨rfl, h1⟩; have H4 := Aside0.mk (show Below W0.heap.size W0 w4 from below_step H3.out h1); clear h1))
      | (refine wpList_store_row rfl 46 (.tmp 2) (.tmp 7) rfl w.heap.size (nums .u8 (dsha K d)).toArray rfl rfl 46 _ ((H4.out.block _ (blk_lt G2.out.1)).trans G2.out.1) ?aS ?aL ?aO ?_; go_must (case aS => rw [List.size_toArray, nums_length, dsha, sha_len]; exact info46); go_must (case aL => exact Eq.trans (b := 32) G2.out.2 (by rw [List.size_toArray, nums_length, dsha, sha_len])); go_must (case aO => exact all_oneCell_toArray (nums_one _))))
    refine bodyPost_ret (results_cell_row (by rfl) _ _ w.heap.size 46 (nums .u8 (dsha K d)).toArray (0, 0) _ (by rfl) (setRow_heap _ _ _ _ _ _ ((H4.out.block _ (blk_lt G2.out.1)).trans G2.out.1)) Try.underlying46 (by rfl) (by rw [List.size_toArray, nums_length, dsha, sha_len]; exact info46)) (by rfl) ?_
    exact ⟨rfl, below_setRow (below_step HB0.out H4.out) (Nat.le_refl _) _⟩
end Go.Proofs.Ytkmlpoggbfbnaaa.Wire
namespace Go.Proofs.Ytkmlpoggbfbnaaa.Wire
open Go.RowKit Go.Proofs.YtkmlpoggbfbnaaaW.PrintWords Go.Proofs.YtkmlpoggbfbnaaaW.PrintLast Go.Proofs.Ytkmlpoggbfbnaaa.Reg Go.Proofs.Ytkmlpoggbfbnaaa.Buf Go.Proofs.Ytkmlpoggbfbnaaa.Tx Go.Proofs.Ytkmlpoggbfbnaaa.Sh
set_option linter.unusedSimpArgs false
set_option linter.unusedVariables false

theorem enters_hash (args : Array Value) (w : World) : (callFunc 8 args).run Try.prog w = .ok (.enter 8 args) w := by kernel_rfl
theorem hash_C {w : World} {A : Option Addr} {c : Nat} {d : List Int} (hK : KT (Kof w) w) (h : Kd.C (Kd.int .u8) w A d.length d) (hc : d.length ≤ c) (hl : d.length ≤ 6000000) :
    Calls Try.prog 8 #[.slice A d.length c] w fun e w' => e = .returned (.agg (nums .u8 (dsha (Kof w) d)).toArray) ∧ Below w.heap.size w w' := by
  refine hash_calls (Kof w) 0 _ A c d w hK (C_V h hc 0) ?_ (any _) hl
  rintro k ⟨a, rfl, hn, rfl⟩
  obtain ⟨a', ha, hL⟩ := KC_cells h hn
  obtain rfl := Option.some.inj ha
  obtain ⟨v, hv⟩ : ∃ v, (nums .u8 d)[0]? = some v := by
    refine ⟨(nums .u8 d)[0]'(by rw [nums_length]; exact hn), List.getElem?_eq_getElem _⟩
  have := World.block_lt_of_cell? w _ (hL 0 v hv)
  rwa [Lib.block_add] at this
set_option maxHeartbeats 8000000 in
set_option maxRecDepth 100000 in
theorem txid_calls (x : TX) (A1 : Option Addr) (c1 : Nat) (A2 : Option Addr) (c2 : Nat) (w : World) (h : TxIn w x A1 c1 A2 c2) (hf : fit2 x = true) (hg : Nums x) (hK : KT (Kof w) w) (hlim : txN x + 256 ≤ 6000000) :
    Calls Try.prog 6 #[.agg (txc x A1 c1 A2 c2)] w fun e w' => e = .returned (.agg (nums .u8 (dsha (Kof w) (txB x false))).toArray) ∧ Below w.heap.size w w' := by
  obtain ⟨cs, hcs⟩ : ∃ cs, txc x A1 c1 A2 c2 = cs := ⟨_, rfl⟩
  have HZ := Lib.hid (show cs.size = 4 from by rw [← hcs]; rfl)
  obtain ⟨d, hd⟩ : ∃ d, txB x false = d := ⟨_, rfl⟩
  obtain ⟨K, hKK⟩ : ∃ K, Kof w = K := ⟨_, rfl⟩
  have HO := Lib.hid (show ∀ W, Below w.heap.size w W → Calls Try.prog 16 #[.agg cs] W fun e w' => ∃ g v1 v2, e = .returned (.pointer (some ⟨g, 0, none⟩)) ∧ Wx w' W.heap.size g x v1 v2 ∧ Below W.heap.size W w' from fun W hW => hcs ▸ of_calls x A1 c1 A2 c2 W (h.below hW) hf)
  have HH := Lib.hid (show ∀ (W : World) (base g : Nat) (v1 v2 : Value), Below w.heap.size w W → Wx W base g x v1 v2 → Calls Try.prog 17 #[.pointer (some ⟨g, 0, none⟩)] W fun e w' => e = .returned (.agg (nums .u8 (dsha K d)).toArray) ∧ Below W.heap.size W w' from fun W base g v1 v2 hW hX => by
    obtain ⟨X1, y1, X2, y2, hS⟩ := Wx.stands hX
    have := txHash_calls hS (fun k hk => hk.2) hg (KT_below hK hW) hlim
    rwa [Kof_below hK hW, hKK, hd] at this)
  rw [hcs, hd, hKK]
  clear hcs h hf hg hlim hd hKK hK
  go_enter Try.func6, Try.ntmps6
  go_upto_region 1 with fail
  refine wp_world (fun W0 hW => ?_)
  obtain ⟨c0, hc, hc1⟩ : ∃ c0 : Array Value, (w.alloc (.cells cs 26)).alloc (.cells c0 29) = W0 ∧ c0 = (nums .u8 (List.replicate 32 0)).toArray := ⟨_, hW, by kernel_rfl⟩
  have HB0 := Lib.hid (show Below w.heap.size w W0 from hc ▸ below_alloc (below_alloc (Below.refl _ _) _) _)
  have G2 := Lib.hid (show W0.heap[w.heap.size + 1]? = some (.cells c0 29 (0, 0)) ∧ c0.size = 32 from ⟨hc ▸ (by rw [show w.heap.size + 1 = (w.alloc (.cells cs 26)).heap.size from by simp]; exact heap_alloc_new _ _), by rw [hc1]; rfl⟩)
  have HLI := Lib.hid (show Lies W0 ⟨w.heap.size, 0, none⟩ cs.toList from hc ▸ box_lies (below_alloc (Below.refl _ _) _))
  have HLE := Lib.hid (show w.heap.size + 1 < W0.heap.size from blk_lt G2.out.1)
  clear hW hc hc1
  go_wp2_with (first
    | (refine wpList_load_list rfl 26 (.tmp 1) rfl ⟨w.heap.size, 0, none⟩ rfl cs.toList _ (HLI.out) Try.underlying26 rfl ?aI ?_; go_must (case aI => rw [Array.length_toList, HZ.out]; rfl); go_must (simp only [Array.toArray_toList]))
    | (go_at_call 16; go_must (refine (HO.out W0 HB0.out).mono ?_); rintro e w1 ⟨g, v1, v2, rfl, hX, hB⟩; have HX := Lib.hid hX; have HB1 := Aside0.mk hB; have HB2 := Aside0.mk (below_step HB0.out hB); clear hX hB)
    | (go_at_call 17; go_must ((with_reducible refine (HH.out w1 _ g v1 v2 HB2.out HX.out).mono ?_); rintro e w4 ⟨rfl, h1⟩; have H4 := Aside0.mk (show Below W0.heap.size W0 w4 from below_step HB1.out h1); clear h1))
    | (refine wpList_store_row rfl 29 (.tmp 2) (.tmp 5) rfl (w.heap.size + 1) (nums .u8 (dsha K d)).toArray rfl rfl 29 _ ((H4.out.block _ HLE.out).trans G2.out.1) ?aS ?aL ?aO ?_; go_must (case aS => rw [List.size_toArray, nums_length, dsha, sha_len]; exact info32); go_must (case aL => exact Eq.trans (b := 32) G2.out.2 (by rw [List.size_toArray, nums_length, dsha, sha_len])); go_must (case aO => exact all_oneCell_toArray (nums_one _))))
  refine bodyPost_ret (results_cell_row (by rfl) _ _ (w.heap.size + 1) 29 (nums .u8 (dsha K d)).toArray (0, 0) _ (by rfl) (setRow_heap _ _ _ _ _ _ ((H4.out.block _ HLE.out).trans G2.out.1)) Try.underlying29 (by rfl) (by rw [List.size_toArray, nums_length, dsha, sha_len]; exact info32)) (by rfl) ?_
  exact ⟨rfl, below_setRow (below_step HB0.out H4.out) (Nat.le_succ _) _⟩
set_option maxHeartbeats 8000000 in
set_option maxRecDepth 100000 in
theorem witid_calls (x : TX) (A1 : Option Addr) (c1 : Nat) (A2 : Option Addr) (c2 : Nat) (w : World) (h : TxIn w x A1 c1 A2 c2) (hf : fit2 x = true) (hg : Nums x) (hK : KT (Kof w) w) (hlim : txN x + 256 ≤ 6000000) :
    Calls Try.prog 9 #[.agg (txc x A1 c1 A2 c2)] w fun e w' => e = .returned (.agg (nums .u8 (dsha (Kof w) (txB x (hasW x.ins)))).toArray) ∧ Below w.heap.size w w' := by
  obtain ⟨cs, hcs⟩ : ∃ cs, txc x A1 c1 A2 c2 = cs := ⟨_, rfl⟩
  have HZ := Lib.hid (show cs.size = 4 from by rw [← hcs]; rfl)
  obtain ⟨d, hd⟩ : ∃ d, txB x (hasW x.ins) = d := ⟨_, rfl⟩
  obtain ⟨K, hKK⟩ : ∃ K, Kof w = K := ⟨_, rfl⟩
  have HO := Lib.hid (show ∀ W, Below w.heap.size w W → Calls Try.prog 16 #[.agg cs] W fun e w' => ∃ g v1 v2, e = .returned (.pointer (some ⟨g, 0, none⟩)) ∧ Wx w' W.heap.size g x v1 v2 ∧ Below W.heap.size W w' from fun W hW => hcs ▸ of_calls x A1 c1 A2 c2 W (h.below hW) hf)
  have HH := Lib.hid (show ∀ (W : World) (base g : Nat) (v1 v2 : Value), Below w.heap.size w W → Wx W base g x v1 v2 → Calls Try.prog 20 #[.pointer (some ⟨g, 0, none⟩)] W fun e w' => e = .returned (.agg (nums .u8 (dsha K d)).toArray) ∧ Below W.heap.size W w' from fun W base g v1 v2 hW hX => by
    obtain ⟨X1, y1, X2, y2, hS⟩ := Wx.stands hX
    have := witHash_calls hS (fun k hk => hk.2) hg (KT_below hK hW) hlim
    rwa [Kof_below hK hW, hKK, hd] at this)
  rw [hcs, hd, hKK]
  clear hcs h hf hg hlim hd hKK hK
  go_enter Try.func9, Try.ntmps9
  go_upto_region 1 with fail
  refine wp_world (fun W0 hW => ?_)
  obtain ⟨c0, hc, hc1⟩ : ∃ c0 : Array Value, (w.alloc (.cells cs 26)).alloc (.cells c0 29) = W0 ∧ c0 = (nums .u8 (List.replicate 32 0)).toArray := ⟨_, hW, by kernel_rfl⟩
  have HB0 := Lib.hid (show Below w.heap.size w W0 from hc ▸ below_alloc (below_alloc (Below.refl _ _) _) _)
  have G2 := Lib.hid (show W0.heap[w.heap.size + 1]? = some (.cells c0 29 (0, 0)) ∧ c0.size = 32 from ⟨hc ▸ (by rw [show w.heap.size + 1 = (w.alloc (.cells cs 26)).heap.size from by simp]; exact heap_alloc_new _ _), by rw [hc1]; rfl⟩)
  have HLI := Lib.hid (show Lies W0 ⟨w.heap.size, 0, none⟩ cs.toList from hc ▸ box_lies (below_alloc (Below.refl _ _) _))
  have HLE := Lib.hid (show w.heap.size + 1 < W0.heap.size from blk_lt G2.out.1)
  clear hW hc hc1
  go_wp2_with (first
    | (refine wpList_load_list rfl 26 (.tmp 1) rfl ⟨w.heap.size, 0, none⟩ rfl cs.toList _ (HLI.out) Try.underlying26 rfl ?aI ?_; go_must (case aI => rw [Array.length_toList, HZ.out]; rfl); go_must (simp only [Array.toArray_toList]))
    | (go_at_call 16; go_must (refine (HO.out W0 HB0.out).mono ?_); rintro e w1 ⟨g, v1, v2, rfl, hX, hB⟩; have HX := Lib.hid hX; have HB1 := Aside0.mk hB; have HB2 := Aside0.mk (below_step HB0.out hB); clear hX hB)
    | (go_at_call 20; go_must ((with_reducible refine (HH.out w1 _ g v1 v2 HB2.out HX.out).mono ?_); rintro e w4 ⟨rfl, h1⟩; have H4 := Aside0.mk (show Below W0.heap.size W0 w4 from below_step HB1.out h1); clear h1))
    | (refine wpList_store_row rfl 29 (.tmp 2) (.tmp 5) rfl (w.heap.size + 1) (nums .u8 (dsha K d)).toArray rfl rfl 29 _ ((H4.out.block _ HLE.out).trans G2.out.1) ?aS ?aL ?aO ?_; go_must (case aS => rw [List.size_toArray, nums_length, dsha, sha_len]; exact info32); go_must (case aL => exact Eq.trans (b := 32) G2.out.2 (by rw [List.size_toArray, nums_length, dsha, sha_len])); go_must (case aO => exact all_oneCell_toArray (nums_one _))))
  refine bodyPost_ret (results_cell_row (by rfl) _ _ (w.heap.size + 1) 29 (nums .u8 (dsha K d)).toArray (0, 0) _ (by rfl) (setRow_heap _ _ _ _ _ _ ((H4.out.block _ HLE.out).trans G2.out.1)) Try.underlying29 (by rfl) (by rw [List.size_toArray, nums_length, dsha, sha_len]; exact info32)) (by rfl) ?_
  exact ⟨rfl, below_setRow (below_step HB0.out H4.out) (Nat.le_succ _) _⟩
set_option maxHeartbeats 8000000 in
set_option maxRecDepth 100000 in
theorem stxid_calls (x : TX) (A1 : Option Addr) (c1 : Nat) (A2 : Option Addr) (c2 : Nat) (w : World) (h : TxIn w x A1 c1 A2 c2) (hf : fit2 x = true) (hg : Nums x) (hK : KT (Kof w) w) (hlim : txN x + 256 ≤ 6000000) :
    Calls Try.prog 7 #[.func (.func 8) #[] #[], .agg (txc x A1 c1 A2 c2)] w fun e w' => e = .returned (.agg (nums .u8 (dsha (Kof w) (txB x (false && hasW x.ins)))).toArray) ∧ Below w.heap.size w w' := by
  obtain ⟨cs, hcs⟩ : ∃ cs, txc x A1 c1 A2 c2 = cs := ⟨_, rfl⟩
  have HZ := Lib.hid (show cs.size = 4 from by rw [← hcs]; rfl)
  have hdl := txB_len x (false && hasW x.ins)
  have HS := Lib.hid (show ∀ W, Below w.heap.size w W → Calls Try.prog 18 #[.agg cs, .bool false] W fun e w' => ∃ v, e = .returned v ∧ Own W w' v (txB x (false && hasW x.ins)) from fun W hW => hcs ▸ spec_calls x false A1 c1 A2 c2 W (h.below hW) hf hg (by omega))
  obtain ⟨d, hd⟩ : ∃ d, txB x (false && hasW x.ins) = d := ⟨_, rfl⟩
  obtain ⟨K, hKK⟩ : ∃ K, Kof w = K := ⟨_, rfl⟩
  rw [hd] at HS hdl
  have HH := Lib.hid (show ∀ (W : World) (A : Option Addr) (c : Nat), Below w.heap.size w W → Kd.C (Kd.int .u8) W A d.length d → d.length ≤ c → Calls Try.prog 8 (#[] ++ #[.slice A d.length c] ++ #[]) W fun e w' => e = .returned (.agg (nums .u8 (dsha K d)).toArray) ∧ Below W.heap.size W w' from fun W A c hW hC hl => by
    have := hash_C (KT_below hK hW) hC hl (by omega)
    rwa [Kof_below hK hW, hKK] at this)
  rw [hcs, hd, hKK]
  clear hcs h hf hg hlim hd hKK hdl hK
  go_enter Try.func7, Try.ntmps7
  go_upto_region 1 with fail
  refine wp_world (fun W0 hW => ?_)
  obtain ⟨c0, hc, hc1⟩ : ∃ c0 : Array Value, (w.alloc (.cells cs 26)).alloc (.cells c0 29) = W0 ∧ c0 = (nums .u8 (List.replicate 32 0)).toArray := ⟨_, hW, by kernel_rfl⟩
  have HB0 := Lib.hid (show Below w.heap.size w W0 from hc ▸ below_alloc (below_alloc (Below.refl _ _) _) _)
  have G2 := Lib.hid (show W0.heap[w.heap.size + 1]? = some (.cells c0 29 (0, 0)) ∧ c0.size = 32 from ⟨hc ▸ (by rw [show w.heap.size + 1 = (w.alloc (.cells cs 26)).heap.size from by simp]; exact heap_alloc_new _ _), by rw [hc1]; rfl⟩)
  have HLI := Lib.hid (show Lies W0 ⟨w.heap.size, 0, none⟩ cs.toList from hc ▸ box_lies (below_alloc (Below.refl _ _) _))
  have HLE := Lib.hid (show w.heap.size + 1 < W0.heap.size from blk_lt G2.out.1)
  clear hW hc hc1
  go_wp2_with (first
    | (refine wpList_load_list rfl 26 (.tmp 3) rfl ⟨w.heap.size, 0, none⟩ rfl cs.toList _ (HLI.out) Try.underlying26 rfl ?aI ?_; go_must (case aI => rw [Array.length_toList, HZ.out]; rfl); go_must (simp only [Array.toArray_toList]))
    | (go_at_call 18; go_must (refine (HS.out W0 HB0.out).mono ?_); rintro e w1 ⟨v, rfl, hO⟩; obtain ⟨B2, d2, rfl, hl, hC⟩ := Kd.R_reads hO.1; have HC := Aside0.mk hC; have HL := Aside0.mk hl; have HB1 := Aside0.mk hO.2; have HB2 := Aside0.mk (below_step HB0.out hO.2); clear hC hl hO)
    | ((with_reducible refine gate_value rfl ?_); go_must (refine by_exec rfl (exec_value (v := .slice B2 d.length d2) (.tmp 5) (.tmp 7) #[40] rfl rfl rfl enters_hash) ?_; (with_reducible refine (HH.out w1 B2 d2 HB2.out HC.out HL.out).mono ?_); rintro e w4 ⟨rfl, h1⟩; refine ⟨_, rfl, ?_⟩; have H4 := Aside0.mk (show Below W0.heap.size W0 w4 from below_step HB1.out h1); clear h1))
    | (refine wpList_store_row rfl 29 (.tmp 4) (.tmp 8) rfl (w.heap.size + 1) (nums .u8 (dsha K d)).toArray rfl rfl 29 _ ((H4.out.block _ HLE.out).trans G2.out.1) ?aS ?aL ?aO ?_; go_must (case aS => rw [List.size_toArray, nums_length, dsha, sha_len]; exact info32); go_must (case aL => exact Eq.trans (b := 32) G2.out.2 (by rw [List.size_toArray, nums_length, dsha, sha_len])); go_must (case aO => exact all_oneCell_toArray (nums_one _))))
  refine bodyPost_ret (results_cell_row (by rfl) _ _ (w.heap.size + 1) 29 (nums .u8 (dsha K d)).toArray (0, 0) _ (by rfl) (setRow_heap _ _ _ _ _ _ ((H4.out.block _ HLE.out).trans G2.out.1)) Try.underlying29 (by rfl) (by rw [List.size_toArray, nums_length, dsha, sha_len]; exact info32)) (by rfl) ?_
  exact ⟨rfl, below_setRow (below_step HB0.out H4.out) (Nat.le_succ _) _⟩
set_option maxHeartbeats 8000000 in
set_option maxRecDepth 100000 in
theorem switid_calls (x : TX) (A1 : Option Addr) (c1 : Nat) (A2 : Option Addr) (c2 : Nat) (w : World) (h : TxIn w x A1 c1 A2 c2) (hf : fit2 x = true) (hg : Nums x) (hK : KT (Kof w) w) (hlim : txN x + 256 ≤ 6000000) :
    Calls Try.prog 10 #[.func (.func 8) #[] #[], .agg (txc x A1 c1 A2 c2)] w fun e w' => e = .returned (.agg (nums .u8 (dsha (Kof w) (txB x (true && hasW x.ins)))).toArray) ∧ Below w.heap.size w w' := by
  obtain ⟨cs, hcs⟩ : ∃ cs, txc x A1 c1 A2 c2 = cs := ⟨_, rfl⟩
  have HZ := Lib.hid (show cs.size = 4 from by rw [← hcs]; rfl)
  have hdl := txB_len x (true && hasW x.ins)
  have HS := Lib.hid (show ∀ W, Below w.heap.size w W → Calls Try.prog 18 #[.agg cs, .bool true] W fun e w' => ∃ v, e = .returned v ∧ Own W w' v (txB x (true && hasW x.ins)) from fun W hW => hcs ▸ spec_calls x true A1 c1 A2 c2 W (h.below hW) hf hg (by omega))
  obtain ⟨d, hd⟩ : ∃ d, txB x (true && hasW x.ins) = d := ⟨_, rfl⟩
  obtain ⟨K, hKK⟩ : ∃ K, Kof w = K := ⟨_, rfl⟩
  rw [hd] at HS hdl
  have HH := Lib.hid (show ∀ (W : World) (A : Option Addr) (c : Nat), Below w.heap.size w W → Kd.C (Kd.int .u8) W A d.length d → d.length ≤ c → Calls Try.prog 8 (#[] ++ #[.slice A d.length c] ++ #[]) W fun e w' => e = .returned (.agg (nums .u8 (dsha K d)).toArray) ∧ Below W.heap.size W w' from fun W A c hW hC hl => by
    have := hash_C (KT_below hK hW) hC hl (by omega)
    rwa [Kof_below hK hW, hKK] at this)
  rw [hcs, hd, hKK]
  clear hcs h hf hg hlim hd hKK hdl hK
  go_enter Try.func10, Try.ntmps10
  go_upto_region 1 with fail
  refine wp_world (fun W0 hW => ?_)
  obtain ⟨c0, hc, hc1⟩ : ∃ c0 : Array Value, (w.alloc (.cells cs 26)).alloc (.cells c0 29) = W0 ∧ c0 = (nums .u8 (List.replicate 32 0)).toArray := ⟨_, hW, by kernel_rfl⟩
  have HB0 := Lib.hid (show Below w.heap.size w W0 from hc ▸ below_alloc (below_alloc (Below.refl _ _) _) _)
  have G2 := Lib.hid (show W0.heap[w.heap.size + 1]? = some (.cells c0 29 (0, 0)) ∧ c0.size = 32 from ⟨hc ▸ (by rw [show w.heap.size + 1 = (w.alloc (.cells cs 26)).heap.size from by simp]; exact heap_alloc_new _ _), by rw [hc1]; rfl⟩)
  have HLI := Lib.hid (show Lies W0 ⟨w.heap.size, 0, none⟩ cs.toList from hc ▸ box_lies (below_alloc (Below.refl _ _) _))
  have HLE := Lib.hid (show w.heap.size + 1 < W0.heap.size from blk_lt G2.out.1)
  clear hW hc hc1
  go_wp2_with (first
    | (refine wpList_load_list rfl 26 (.tmp 3) rfl ⟨w.heap.size, 0, none⟩ rfl cs.toList _ (HLI.out) Try.underlying26 rfl ?aI ?_; go_must (case aI => rw [Array.length_toList, HZ.out]; rfl); go_must (simp only [Array.toArray_toList]))
    | (go_at_call 18; go_must (refine (HS.out W0 HB0.out).mono ?_); rintro e w1 ⟨v, rfl, hO⟩; obtain ⟨B2, d2, rfl, hl, hC⟩ := Kd.R_reads hO.1; have HC := Aside0.mk hC; have HL := Aside0.mk hl; have HB1 := Aside0.mk hO.2; have HB2 := Aside0.mk (below_step HB0.out hO.2); clear hC hl hO)
    | ((with_reducible refine gate_value rfl ?_); go_must (refine by_exec rfl (exec_value (v := .slice B2 d.length d2) (.tmp 5) (.tmp 7) #[40] rfl rfl rfl enters_hash) ?_; (with_reducible refine (HH.out w1 B2 d2 HB2.out HC.out HL.out).mono ?_); rintro e w4 ⟨rfl, h1⟩; refine ⟨_, rfl, ?_⟩; have H4 := Aside0.mk (show Below W0.heap.size W0 w4 from below_step HB1.out h1); clear h1))
    | (refine wpList_store_row rfl 29 (.tmp 4) (.tmp 8) rfl (w.heap.size + 1) (nums .u8 (dsha K d)).toArray rfl rfl 29 _ ((H4.out.block _ HLE.out).trans G2.out.1) ?aS ?aL ?aO ?_; go_must (case aS => rw [List.size_toArray, nums_length, dsha, sha_len]; exact info32); go_must (case aL => exact Eq.trans (b := 32) G2.out.2 (by rw [List.size_toArray, nums_length, dsha, sha_len])); go_must (case aO => exact all_oneCell_toArray (nums_one _))))
  refine bodyPost_ret (results_cell_row (by rfl) _ _ (w.heap.size + 1) 29 (nums .u8 (dsha K d)).toArray (0, 0) _ (by rfl) (setRow_heap _ _ _ _ _ _ ((H4.out.block _ HLE.out).trans G2.out.1)) Try.underlying29 (by rfl) (by rw [List.size_toArray, nums_length, dsha, sha_len]; exact info32)) (by rfl) ?_
  exact ⟨rfl, below_setRow (below_step HB0.out H4.out) (Nat.le_succ _) _⟩
end Go.Proofs.Ytkmlpoggbfbnaaa.Wire
