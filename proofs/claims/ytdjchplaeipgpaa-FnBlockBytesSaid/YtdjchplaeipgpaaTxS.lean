/-
  BtcEncode and Serialize: eight bytes of scratch are borrowed, a transaction is encoded.
-/
import Derived.Test.YtdjchplaeipgpaaTxE
import Derived.Defers
namespace Go.Proofs.Ytdjchplaeipgpaa.Wire
open Go.RowKit Go.Proofs.YtdjchplaeipgpaaW.PrintWords Go.Proofs.YtdjchplaeipgpaaW.PrintLast Go.Proofs.Ytdjchplaeipgpaa.Reg Go.Proofs.Ytdjchplaeipgpaa.Buf Go.Proofs.Ytdjchplaeipgpaa.Tx
set_option linter.unusedSimpArgs false
set_option linter.unusedVariables false

/-- A writer without scratch; F are blocks that stand. -/
structure Sw (F : Nat → Prop) (B b : Nat) (v : Value) (l : List Int) (w : World) : Prop where
  buf : Bf B b v l w
  hF : ∀ k, F k → k < w.heap.size ∧ k ≠ b ∧ some k ≠ v.ownBlock
  hB : B ≤ w.heap.size
section
variable {F : Nat → Prop} {B b s : Nat} {v : Value} {l : List Int} {w w1 : World}
theorem St.drop (h : St F B b s v l w) : Sw F B b v l w := ⟨h.buf, fun k hk => ⟨(h.hF k hk).1, (h.hF k hk).2.1, (h.hF k hk).2.2.2⟩, h.hB⟩
theorem Sw.below (h : Sw F B b v l w) (hb : Below w.heap.size w w1) : Sw F B b v l w1 := ⟨Bf.below h.buf hb, fun k hk => ⟨Nat.lt_of_lt_of_le (h.hF k hk).1 hb.size, (h.hF k hk).2⟩, Nat.le_trans h.hB hb.size⟩
theorem Sw.tr_below (h : Sw F B b v l w) (hb : Below w.heap.size w w1) : Tr F B w w1 := ⟨fun k hk => hb.block k (h.hF k hk).1, hb.mono h.hB⟩
theorem Sw.with (h : Sw F B b v l w) (hb : Below w.heap.size w w1) (hs : w.heap.size ≤ s) {c0 c1 c2 c3 c4 c5 c6 c7 : Value} (hc : w1.heap[s]? = some (.cells #[c0, c1, c2, c3, c4, c5, c6, c7] 5 (0, 0))) : St F B b s v l w1 := by
  have h1 := h.below hb
  obtain ⟨lr, hl⟩ := h.buf.blk
  refine ⟨h1.buf, ⟨c0, c1, c2, c3, c4, c5, c6, c7, hc⟩, fun e => ?_, fun e => ?_, fun k hk => ⟨(h1.hF k hk).1, (h1.hF k hk).2.1, fun e => ?_, (h1.hF k hk).2.2⟩, h1.hB, Nat.le_trans h.hB hs⟩
  · have := blk_lt hl; omega
  · have := own_lt h.buf.row s e.symm; omega
  · have := (h.hF k hk).1; omega
end
set_option maxHeartbeats 4000000 in
set_option maxRecDepth 100000 in
theorem borrow_calls (w : World) : Calls Try.prog 49 #[.agg #[]] w fun e w' => ∃ s, e = .returned (.slice (some ⟨s, 0, none⟩) 8 8) ∧ w.heap.size ≤ s ∧ (∃ c0 c1 c2 c3 c4 c5 c6 c7 : Value, w'.heap[s]? = some (.cells #[c0, c1, c2, c3, c4, c5, c6, c7] 5 (0, 0))) ∧ Below w.heap.size w w' := by
  have hmk : ∀ w : World, (Instr.makeSlice 30 (.int .i64 8) (.int .i64 8)).run Try.prog w = .ok (.slice (some ⟨w.heap.size, 0, none⟩) 8 8) (w.alloc (.cells #[.int .u8 0, .int .u8 0, .int .u8 0, .int .u8 0, .int .u8 0, .int .u8 0, .int .u8 0, .int .u8 0] 5)) := fun w => by kernel_rfl
  go_enter Try.func49, Try.ntmps49
  go_wp2
  go_ret
  refine ⟨_, rfl, Nat.le_succ _, ⟨.int .u8 0, .int .u8 0, .int .u8 0, .int .u8 0, .int .u8 0, .int .u8 0, .int .u8 0, .int .u8 0, ?_⟩, below_alloc (below_alloc (Below.refl _ _) _) _⟩
  rw [show w.heap.size + 1 = (w.alloc (.cells #[] 112)).heap.size from by simp]
  exact heap_alloc_new _ _
set_option maxHeartbeats 4000000 in
set_option maxRecDepth 100000 in
theorem return_deferred (v : Value) (w : World) (u : FrameMode) :
    CallsD Try.prog 50 #[.agg #[], v] u w fun e u' w' => u' = u ∧ (e = .returned (.tuple #[]) ∧ Below w.heap.size w w') := by
  go_enter_d Try.func50, Try.ntmps50
  go_wp2
  go_end0
  exact ⟨rfl, below_alloc (Below.refl _ _) _⟩
set_option maxHeartbeats 8000000 in
set_option maxRecDepth 100000 in
theorem btcEnc_calls {F : Nat → Prop} {B b : Nat} {v : Value} {l : List Int} {w : World} (h : Sw F B b v l w) (p : Int) (wit : Bool) (g : Nat) (x : TX) {A1 : Option Addr} {c1 : Nat} {A2 : Option Addr} {c2 : Nat} (hx : TxF F w g x A1 c1 A2 c2) (hg : Nums x) (hlim : l.length + txN x + 256 ≤ 140737488355328) :
    Calls Try.prog 40 #[.pointer (some ⟨g, 0, none⟩), Wr b, .int .u32 p, .int .u32 (if wit then 2 else 1)] w fun e w' => e = .returned .nilIface ∧ ∃ v', Sw F B b v' (l ++ txB x (wit && hasW x.ins)) w' ∧ Tr F B w w' := by
  obtain ⟨d, hd⟩ : ∃ d, txB x (wit && hasW x.ins) = d := ⟨_, rfl⟩
  obtain ⟨e, he⟩ : ∃ e : Int, (if wit then (2 : Int) else 1) = e := ⟨_, rfl⟩
  have H := Lib.hid h
  have HE := Lib.hid (show ∀ (w : World) (s : Nat), St F B b s v l w → TxF F w g x A1 c1 A2 c2 → Calls Try.prog 51 #[.pointer (some ⟨g, 0, none⟩), Wr b, .int .u32 p, .int .u32 e, .slice (some ⟨s, 0, none⟩) 8 8] w fun e' w' => e' = .returned .nilIface ∧ ∃ v', St F B b s v' (l ++ d) w' ∧ Tr F B w w' from fun w s h hx => he ▸ hd ▸ enc_calls h p wit g x hx hg hlim)
  have HX := Lib.hid hx
  rw [hd, he]
  clear h hx hg hlim hd he
  go_enter_defers Try.func40, Try.ntmps40
  go_wp2_with (first
    | (go_at_call 49; go_must (refine (borrow_calls _).mono ?_); rintro e w1 ⟨s, rfl, hs, ⟨d0, d1, d2, d3, d4, d5, d6, d7, hc⟩, hb⟩; have H1 := Lib.hid (H.out.with hb hs hc); have T1 := Lib.hid (H.out.tr_below hb); clear hs hc hb)
    | (go_at_call 51; go_must (refine (HE.out _ s H1.out (HX.out.tr T1.out)).mono ?_); rintro e w2 ⟨rfl, v2, h2, t2⟩; have H2 := Lib.hid h2; have T2 := Lib.hid (T1.out.trans t2); clear h2 t2 H1 T1))
  refine leaves_cons (f := 50) (args := #[.agg #[], .slice (some ⟨s, 0, none⟩) 8 8]) (by simp) (by simp [go_sem]) ?_
  refine (return_deferred _ _ _).mono ?_
  rintro e u' w'' ⟨rfl, rfl, hb⟩
  exact ⟨_, results_tmp rfl _ _ _, rfl, v2, H2.out.drop.below hb, T2.out.trans (H2.out.drop.tr_below hb)⟩
set_option maxHeartbeats 4000000 in
set_option maxRecDepth 100000 in
theorem ser_calls {F : Nat → Prop} {B b : Nat} {v : Value} {l : List Int} {w : World} (h : Sw F B b v l w) (g : Nat) (x : TX) {A1 : Option Addr} {c1 : Nat} {A2 : Option Addr} {c2 : Nat} (hx : TxF F w g x A1 c1 A2 c2) (hg : Nums x) (hlim : l.length + txN x + 256 ≤ 140737488355328) :
    Calls Try.prog 19 #[.pointer (some ⟨g, 0, none⟩), Wr b] w fun e w' => e = .returned .nilIface ∧ ∃ v', Sw F B b v' (l ++ txB x (hasW x.ins)) w' ∧ Tr F B w w' := by
  have HE := Lib.hid (show Calls Try.prog 40 #[.pointer (some ⟨g, 0, none⟩), Wr b, .int .u32 0, .int .u32 2] w _ from btcEnc_calls h 0 true g x hx hg hlim)
  obtain ⟨d, hd⟩ : ∃ d, txB x (hasW x.ins) = d := ⟨_, rfl⟩
  rw [Bool.true_and, hd] at HE
  rw [hd]
  clear h hx hg hlim hd
  go_enter Try.func19, Try.ntmps19
  go_wp2_with (go_at_call 40; go_must (refine HE.out.mono ?_); rintro e w2 ⟨rfl, hr⟩)
  go_ret
  exact ⟨rfl, hr⟩
set_option maxHeartbeats 4000000 in
set_option maxRecDepth 100000 in
theorem serN_calls {F : Nat → Prop} {B b : Nat} {v : Value} {l : List Int} {w : World} (h : Sw F B b v l w) (g : Nat) (x : TX) {A1 : Option Addr} {c1 : Nat} {A2 : Option Addr} {c2 : Nat} (hx : TxF F w g x A1 c1 A2 c2) (hg : Nums x) (hlim : l.length + txN x + 256 ≤ 140737488355328) :
    Calls Try.prog 20 #[.pointer (some ⟨g, 0, none⟩), Wr b] w fun e w' => e = .returned .nilIface ∧ ∃ v', Sw F B b v' (l ++ txB x false) w' ∧ Tr F B w w' := by
  have HE := Lib.hid (show Calls Try.prog 40 #[.pointer (some ⟨g, 0, none⟩), Wr b, .int .u32 0, .int .u32 1] w _ from btcEnc_calls h 0 false g x hx hg hlim)
  obtain ⟨d, hd⟩ : ∃ d, txB x false = d := ⟨_, rfl⟩
  rw [Bool.false_and, hd] at HE
  rw [hd]
  clear h hx hg hlim hd
  go_enter Try.func20, Try.ntmps20
  go_wp2_with (go_at_call 40; go_must (refine HE.out.mono ?_); rintro e w2 ⟨rfl, hr⟩)
  go_ret
  exact ⟨rfl, hr⟩
end Go.Proofs.Ytdjchplaeipgpaa.Wire
