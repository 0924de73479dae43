/-
  impl.TxBytes: a transaction is made wire's, and serialized into a buffer.
-/
import Derived.Test.YtdjchplaeipgpaaTxS
import Derived.Test.YtdjchplaeipgpaaTxArg
namespace Go.Proofs.Ytdjchplaeipgpaa.Wire
open Go.RowKit Go.Proofs.YtdjchplaeipgpaaW.PrintWords Go.Proofs.YtdjchplaeipgpaaW.PrintLast Go.Proofs.Ytdjchplaeipgpaa.Reg Go.Proofs.Ytdjchplaeipgpaa.Buf Go.Proofs.Ytdjchplaeipgpaa.Tx
set_option linter.unusedSimpArgs false
set_option linter.unusedVariables false

theorem own_C {w : World} {B : Nat} {v : Value} {l : List Int} (h : w.ownsRow B 5 1 v l.length (nums .u8 l)) : ∃ A c, v = .slice A l.length c ∧ l.length ≤ c ∧ Kd.C (Kd.int .u8) w A l.length l := by
  rcases h.2 with ⟨rfl, h0⟩ | ⟨g, cap, cur, rfl, _, hg, h1, h2, h3, h4⟩
  · obtain rfl : l = [] := List.eq_nil_of_length_eq_zero h0
    exact ⟨none, 0, rfl, Nat.le_refl _, Kd.C_nil _ _⟩
  · have hm : maxLen ≤ 9223372036854775807 := by decide
    refine ⟨some ⟨g, 0, none⟩, cap, rfl, h1, Kd.C_of_reads (d := (0 : Int)) (h1 := fun _ => rfl) ⟨rfl, by omega, fun hn => ⟨_, rfl, fun j hj => ?_⟩⟩⟩
    rw [add_plain, blk_cell hg j]
    have e : (cur.toList.take (l.length * 1))[j]? = (nums .u8 l)[j]? := by rw [h4]
    rw [List.getElem?_take, if_pos (by omega), Array.getElem?_toList] at e
    rw [e]
    simp [nums, List.getD, hj]
theorem bytes_calls {B b : Nat} {v : Value} {l : List Int} {w : World} (h : Bf B b v l w) :
    Calls Try.prog 21 #[.pointer (some ⟨b, 0, none⟩)] w fun e w' => ∃ A c, e = .returned (.slice A l.length c) ∧ l.length ≤ c ∧ Kd.C (Kd.int .u8) w' A l.length l ∧ Below w.heap.size w w' := by
  obtain ⟨lr, hb⟩ := h.blk
  refine (Try.Buffer_Bytes B b (nums .u8 l) w ⟨h.lo, v, lr, hb, by rw [nums_length]; exact h.row, h.ne⟩).mono ?_
  rintro e w' ⟨u, rfl, hr, n, rfl⟩
  rw [nums_length] at hr
  obtain ⟨A, c, rfl, hl, hC⟩ := own_C hr
  exact ⟨A, c, rfl, hl, hC, pw_below_drewN (Below.refl _ _) n⟩
theorem Bf.fresh {w : World} {b B : Nat} (lo : B ≤ b) (h : w.heap[b]? = some (.cells #[.slice none 0 0, .int .i64 0, .int .i8 0] 58 (0, 0))) : Bf B b (.slice none 0 0) [] w :=
  ⟨lo, ⟨0, h⟩, ⟨rfl, .inl ⟨rfl, rfl⟩⟩, by simp [Value.ownBlock]⟩
/-- A new writer, and a transaction that was made behind it. -/
theorem Sw.fresh {w0 w1 w2 : World} {b B g : Nat} {x : TX} {v1 v2 : Value} (lo : B ≤ b) (h : w1.heap[b]? = some (.cells #[.slice none 0 0, .int .i64 0, .int .i8 0] 58 (0, 0))) (hB : B ≤ w1.heap.size) (hb : Below w1.heap.size w1 w2) :
    Sw (fun k => w1.heap.size ≤ k ∧ k < w2.heap.size) B b (.slice none 0 0) [] w2 :=
  ⟨Bf.fresh lo ((hb.block b (blk_lt h)).trans h), fun k hk => ⟨hk.2, fun e => by have := blk_lt h; omega, by simp [Value.ownBlock]⟩, Nat.le_trans hB hb.size⟩
theorem u32_in {n : Int} (h : (Lit.int .u32 n).wf = true) : 0 ≤ n ∧ n < 4294967296 := by
  have h1 : IntKind.u32.min ≤ n ∧ n ≤ IntKind.u32.max := by simpa [Lit.wf] using h
  have e1 : IntKind.u32.min = 0 := rfl
  have e2 : IntKind.u32.max = 4294967295 := rfl
  omega
theorem nums_of {x : TX} (h : GoodTX x) (hf : fit2 x = true) : Nums x := by
  simp only [fit2, fit3, fit4, fit5, fit6, Bool.and_eq_true, decide_eq_true_eq, List.all_eq_true] at hf
  refine ⟨fun y hy => ⟨?_, ?_, (hf.1.2 y hy).2.1⟩, ?_, hf.1.1, hf.2.1⟩
  · exact u32_in ((h.2.1 y hy).1.2)
  · exact u32_in ((h.2.1 y hy).2.2.2)
  · exact u32_in (h.2.2.2)
set_option maxHeartbeats 8000000 in
set_option maxRecDepth 100000 in
theorem impl_calls (x : TX) (wit : Bool) (A1 : Option Addr) (c1 : Nat) (A2 : Option Addr) (c2 : Nat) (w : World) (h : TxIn w x A1 c1 A2 c2) (hf : fit2 x = true) (hg : Nums x) (hlim : txN x + 256 ≤ 140737488355328) :
    Calls Try.prog 8 #[.agg (txc x A1 c1 A2 c2), .bool wit] w fun e w' => ∃ A c, e = .returned (.slice A (txB x (wit && hasW x.ins)).length c) ∧ (txB x (wit && hasW x.ins)).length ≤ c ∧ Kd.C (Kd.int .u8) w' A (txB x (wit && hasW x.ins)).length (txB x (wit && hasW x.ins)) ∧ Below w.heap.size w w' := by
  obtain ⟨cs, hcs⟩ : ∃ cs, txc x A1 c1 A2 c2 = cs := ⟨_, rfl⟩
  have HZ := Lib.hid (show cs.size = 4 from by rw [← hcs]; rfl)
  have HO := Lib.hid (show ∀ W, Below w.heap.size w W → Calls Try.prog 18 #[.agg cs] W fun e w' => ∃ g v1 v2, e = .returned (.pointer (some ⟨g, 0, none⟩)) ∧ Wx w' W.heap.size g x v1 v2 ∧ Below W.heap.size W w' from fun W hW => hcs ▸ of_calls x A1 c1 A2 c2 W (h.below hW) hf)
  have HG := Lib.hid hg
  have HL := Lib.hid hlim
  rw [hcs]
  clear hcs h hf hg hlim
  have hbk : ∀ (ob : Obj), ((w.alloc ob).alloc (.cells #[.slice none 0 0, .int .i64 0, .int .i8 0] 58)).heap[w.heap.size + 1]? = some (.cells #[.slice none 0 0, .int .i64 0, .int .i8 0] 58 (0, 0)) := by
    intro ob
    rw [show w.heap.size + 1 = (w.alloc ob).heap.size from by simp]; exact heap_alloc_new _ _
  have HBK := Lib.hid hbk
  clear hbk
  have HB0 := Lib.hid (fun (o1 o2 : Obj) => (below_alloc (below_alloc (Below.refl w.heap.size w) o1) o2))
  have hlies : ∀ (ob : Obj), Lies ((w.alloc (.cells cs 26)).alloc ob) ⟨w.heap.size, 0, none⟩ cs.toList := fun ob => box_lies (below_alloc (Below.refl _ _) ob)
  have HLI := Lib.hid hlies
  clear hlies
  obtain ⟨d, hd⟩ : ∃ d, txB x (wit && hasW x.ins) = d := ⟨_, rfl⟩
  rw [hd]
  have HD := Lib.hid hd
  clear hd
  cases wit
  all_goals
    go_enter Try.func8, Try.ntmps8
    go_wp2_with (first
      | (refine wpList_load_list rfl 26 (.tmp 2) rfl ⟨w.heap.size, 0, none⟩ rfl cs.toList _ (HLI.out _) Try.underlying26 rfl ?aI ?_; go_must (case aI => rw [Array.length_toList, HZ.out]; rfl); go_must (simp only [Array.toArray_toList]))
      | (go_at_call 18; go_must (refine (HO.out _ (HB0.out _ _)).mono ?_); rintro e w1 ⟨g, v1, v2, rfl, hW, hB⟩; obtain ⟨X1, y1, X2, y2, hS⟩ := Wx.stands hW; have HS := Lib.hid hS; have HSw := Lib.hid (Sw.fresh (B := w.heap.size) (x := x) (g := g) (v1 := v1) (v2 := v2) (w0 := w) (Nat.le_succ _) (HBK.out _) (HB0.out _ _).size hB); have HB := Lib.hid (below_step (HB0.out _ _) hB); clear hW hB hS)
      | (go_at_call 19; go_must (refine (ser_calls HSw.out g x HS.out HG.out (by have := HL.out; simp; omega)).mono ?_); rintro e w2 ⟨rfl, v3, h3, t3⟩; have H3 := Lib.hid h3; have HB2 := Lib.hid (HB.out.trans t3.B); clear h3 t3 HSw HS HB)
      | (go_at_call 20; go_must (refine (serN_calls HSw.out g x HS.out HG.out (by have := HL.out; simp; omega)).mono ?_); rintro e w2 ⟨rfl, v3, h3, t3⟩; have H3 := Lib.hid h3; have HB2 := Lib.hid (HB.out.trans t3.B); clear h3 t3 HSw HS HB)
      | (go_at_call 21; go_must (refine (bytes_calls H3.out.buf).mono ?_); rintro e w4 ⟨A, c, rfl, hl, hC, hB⟩; have HR := Lib.hid (And.intro hl (And.intro hC (below_step HB2.out hB))); clear hl hC hB))
    go_ret
    have hd := HD.out
    simp only [Bool.true_and, Bool.false_and] at hd
    have e : ∀ l, [] ++ l = d → l = d := fun l h => h
    refine ⟨A, c, ?_, ?_⟩
    · simp [hd]
    · have := HR.out
      rw [List.nil_append, hd] at this
      exact this
end Go.Proofs.Ytdjchplaeipgpaa.Wire
