/-
  The law of HashText: its walk over the functions' contracts.
-/
import Derived.Test.YtojadhcbjcpifaaDoorHx6
import Derived.Test.YtojadhcbjcpifaaDoorOpen
import Derived.Test.YtojadhcbjcpifaaDoorWArr
import Derived.Laws.StructEq
namespace Go.Proofs.YtojadhcbjcpifaaDoor.Hx
open Go.RowKit Go.Proofs.YtojadhcbjcpifaaDoorW.PrintWords Go.Proofs.YtojadhcbjcpifaaDoorW.PrintLast Go.Proofs.YtojadhcbjcpifaaDoor.Reg Go.Proofs.YtojadhcbjcpifaaDoor.Tok
set_option linter.unusedSimpArgs false
set_option linter.unusedVariables false

/-- Element by element: is the one list the other? -/
theorem all_places (xs ys : List Int) (n : Nat) (hx : xs.length = n) (hy : ys.length = n) : ((List.range' 0 n 1).all fun i => xs.getD i 0 == ys.getD i 0) = decide (xs = ys) := by
  rw [Bool.eq_iff_iff, List.all_eq_true, decide_eq_true_eq]
  constructor
  · intro h
    refine List.ext_getElem (hx.trans hy.symm) (fun i h1 h2 => ?_)
    have := h i (List.mem_range'_1.2 ⟨Nat.zero_le _, by omega⟩)
    simpa [List.getD, List.getElem?_eq_getElem h1, List.getElem?_eq_getElem h2] using this
  · rintro rfl i _
    simp
theorem equal_hv {P : Program} (w : World) (d : Nat) (t e : TypeId) (n : Nat) (ht : P.underlying t = some (.array n e)) (he : P.underlying e = some (.int .u8)) (hsz : ∀ w, (sizeOf e).run P w = .ok 1 w)
    (xs ys : List Int) (hx : xs.length = n) (hy : ys.length = n) :
    (Op.equalIn (d + 2) t (.agg (hv xs).toArray) (.agg (hv ys).toArray)).run P w = .ok (decide (xs = ys)) w := by
  rw [← all_places xs ys n hx hy, Op.equalIn]
  simp only [Sem.run_bind, run_underlying ht, Result.andThen_ok, hsz, Std.Legacy.Range.forIn_eq_forIn_range', Std.Legacy.Range.size, Nat.sub_zero, Nat.add_sub_cancel, Nat.div_one]
  have hin : ∀ i ∈ List.range' 0 n 1, i < n := fun i hi => by simpa using (List.mem_range'_1.1 hi).2
  have one : ∀ (zs : List Int), zs.length = n → ∀ i, i < n → (part e (hv zs).toArray (i * 1)).run P w = .ok (.int .u8 (zs.getD i 0)) w := by
    intro zs hz i hi
    simp [hv, part, isAgg, run_underlying he, List.getD, List.getElem?_eq_getElem (show i < zs.length by omega)]
  generalize List.range' 0 n 1 = l at hin ⊢
  induction l with
  | nil => simp
  | cons i l ih =>
    have hi := hin i List.mem_cons_self
    simp only [List.forIn_cons, Sem.run_bind, one xs hx i hi, one ys hy i hi, Result.andThen_ok, List.all_cons, run_equalIn_int w d e .u8 .u8 _ _ he]
    by_cases hb : xs.getD i 0 = ys.getD i 0
    · rw [show (xs.getD i 0 == ys.getD i 0) = true from beq_iff_eq.2 hb]
      simp only [Bool.not_true, Bool.false_eq_true, if_false, Sem.run_pure, Result.andThen_ok, Bool.true_and]
      exact ih fun j hj => hin j (List.mem_cons_of_mem _ hj)
    · rw [show (xs.getD i 0 == ys.getD i 0) = false from by rw [beq_eq_false_iff_ne]; exact hb]
      simp
/-- An operation whose guard lets it be. -/
theorem wpList_let {P : Program} {ops : Array Oper} {Q : Exit → Act → World → Prop} {a : Act} {w : World} {rest : List Oper} {o : Oper} (hw : Region.wanted o (yielded ops a.tmps) = true)
    (h : ∀ K : Act → World → Prop, (∀ a w, wpList P ops Q rest a w → K a w) → o.wp P a w K Q) : wpList P ops Q (o :: rest) a w :=
  wpList_step fun K hK => by rw [if_pos hw]; exact h K hK
theorem wp_load_list {P : Program} {op : Oper} {a : Act} {w : World} {K : Act → World → Prop} {Q : Exit → Act → World → Prop} (ty : TypeId) (x : Operand) (ho : op.op = .load ty x)
    (ad : Addr) (hx : a.eval x = .pointer (some ad)) (cs : List Value) (d : TypeDesc) (hc : ∀ j v, cs[j]? = some v → w.cell? (ad.add j) = some v)
    (hu : P.underlying ty = some d) (hd : d.isRow = true) (hi : (P.info? ty).map (·.size) = some cs.length)
    (h : K (a.put op.dst (.agg cs.toArray)) w) : Oper.wp P op a w K Q := by
  unfold Oper.wp execOp
  simp only [ho, hx, Sem.run_bind, Sem.run_pure, Result.andThen_ok, run_loadAt_list w ad ty cs d hc hu hd hi]
  exact h
theorem box_list (w : World) (cs : Array Value) (t : TypeId) (g : Nat) (h : w.heap[g]? = some (.cells cs t (0, 0))) : ∀ j v, cs.toList[j]? = some v → w.cell? ((⟨g, 0, none⟩ : Addr).add j) = some v := by
  intro j v hj
  rw [Addr.add_mid, Nat.zero_add, cell_of_row _ _ _ _ _ _ h]
  simpa using hj
set_option maxHeartbeats 8000000 in
set_option maxRecDepth 100000 in
theorem law_walk (h : List Int) (w : World) (hl : h.length = 32) (hb : Bytes h) :
    Calls Tryd.prog 4 #[.agg (hv h).toArray] w fun e w' => e = .returned (.bool true) ∧ Below w.heap.size w w' := by
  obtain ⟨W0, hW0⟩ : ∃ W0, w.alloc (.cells (hv h).toArray 28) = W0 := ⟨_, rfl⟩
  have hB0 : Below w.heap.size w W0 := hW0 ▸ below_alloc (Below.refl _ _) _
  have HB0 := Lib.hid hB0
  have hr0 : W0.rowIs w.heap.size 28 32 (fun j => .int .u8 (h.getD j 0)) := hW0 ▸ hv_row w h hl _
  have HLI := Lib.hid (fun (W : World) (hW : Below W0.heap.size W0 W) => row_lies hl (hr0.of_block (hW.block _ hr0.lt)))
  have HT := Lib.hid (text_calls h W0 hl hb)
  have HR := Lib.hid (fun W => read_calls h W hl hb)
  have HS := Lib.hid (fun W => stext_calls h W hl hb)
  have hcmp : ∀ W : World, (binOp .eql 28 (.agg (hv h).toArray) (.agg (hv h).toArray)).run Tryd.prog W = .ok (.bool true) W := fun W => by
    rw [run_eql_struct, equal_hv W 9998 28 5 32 Tryd.underlying28 Tryd.underlying5 (fun w => by rfl) h h hl hl]
    simp
  have H1 := Lib.hid (all_oneCell_toArray (hv_one h))
  have HVL := Lib.hid (show (hv h).toArray.size = 32 by simp [hv, hl])
  obtain ⟨s, hs⟩ : ∃ s, txt h = s := ⟨_, rfl⟩
  rw [hs] at HT HR HS
  obtain ⟨cs, hcs⟩ : ∃ cs, hv h = cs := ⟨_, rfl⟩
  rw [hcs] at H1 HVL HLI HT HR HS hW0 hcmp ⊢
  have hall := hW0
  clear hW0 hs hcs hl hb hr0 hB0
  go_enter Tryd.func4, Tryd.ntmps4
  go_wp2_with (first
    | ((with_reducible refine gate_dst (N := 6) rfl ?_); refine wpList_load_list rfl 28 (.tmp 1) rfl ⟨w.heap.size, 0, none⟩ rfl cs _ (HLI.out _ (Below.refl _ _)) Tryd.underlying28 rfl ?aI ?_; go_must (case aI => rw [← List.size_toArray, HVL.out]; rfl))
    | (go_at_call 8; go_must ((with_reducible refine HT.out.mono ?_); rintro e w1 ⟨rfl, hB⟩; have HB := Lib.hid hB; clear hB))
    | (go_at_call 9; go_must ((with_reducible refine (HR.out _).mono ?_); rintro e w2 ⟨rfl, hB⟩; have HB2 := Lib.hid (below_step HB.out hB); clear hB HB))
    | (refine wpList_store_row rfl 28 (.tmp 4) (.tmp 11) rfl _ cs.toArray rfl rfl 28 _ (heap_alloc_new _ _) ?aS ?aL H1.out ?_; go_must (case aS => rw [HVL.out]; rfl); go_must (case aL => rw [HVL.out]; rfl); go_must (have hp3 := setRow_heap (w2.alloc (.cells #[.int .u8 0, .int .u8 0, .int .u8 0, .int .u8 0, .int .u8 0, .int .u8 0, .int .u8 0, .int .u8 0, .int .u8 0, .int .u8 0, .int .u8 0, .int .u8 0, .int .u8 0, .int .u8 0, .int .u8 0, .int .u8 0, .int .u8 0, .int .u8 0, .int .u8 0, .int .u8 0, .int .u8 0, .int .u8 0, .int .u8 0, .int .u8 0, .int .u8 0, .int .u8 0, .int .u8 0, .int .u8 0, .int .u8 0, .int .u8 0, .int .u8 0, .int .u8 0] 28)) w2.heap.size _ cs.toArray _ _ (heap_alloc_new w2 _); have hb3 := below_setRow (below_alloc (Below.refl w2.heap.size w2) (.cells #[.int .u8 0, .int .u8 0, .int .u8 0, .int .u8 0, .int .u8 0, .int .u8 0, .int .u8 0, .int .u8 0, .int .u8 0, .int .u8 0, .int .u8 0, .int .u8 0, .int .u8 0, .int .u8 0, .int .u8 0, .int .u8 0, .int .u8 0, .int .u8 0, .int .u8 0, .int .u8 0, .int .u8 0, .int .u8 0, .int .u8 0, .int .u8 0, .int .u8 0, .int .u8 0, .int .u8 0, .int .u8 0, .int .u8 0, .int .u8 0, .int .u8 0, .int .u8 0] 28)) (Nat.le_refl _) cs.toArray; generalize hW3 : World.setRow (w2.alloc (.cells #[.int .u8 0, .int .u8 0, .int .u8 0, .int .u8 0, .int .u8 0, .int .u8 0, .int .u8 0, .int .u8 0, .int .u8 0, .int .u8 0, .int .u8 0, .int .u8 0, .int .u8 0, .int .u8 0, .int .u8 0, .int .u8 0, .int .u8 0, .int .u8 0, .int .u8 0, .int .u8 0, .int .u8 0, .int .u8 0, .int .u8 0, .int .u8 0, .int .u8 0, .int .u8 0, .int .u8 0, .int .u8 0, .int .u8 0, .int .u8 0, .int .u8 0, .int .u8 0] 28)) w2.heap.size cs.toArray = W3 at hp3 hb3 ⊢; have HP3 := Lib.hid hp3; have HB3 := Lib.hid (below_step HB2.out hb3); clear hp3 hb3 hW3))
    | ((with_reducible refine gate_dst (N := 14) rfl ?_); refine wpList_load_list rfl 28 (.tmp 1) rfl ⟨w.heap.size, 0, none⟩ rfl cs _ (HLI.out _ HB3.out) Tryd.underlying28 rfl ?aI ?_; go_must (case aI => rw [← List.size_toArray, HVL.out]; rfl))
    | (go_at_call 10; go_must ((with_reducible refine (HS.out _).mono ?_); rintro e w4 ⟨rfl, hB⟩; have HB4 := Lib.hid (below_step HB3.out hB); have HP4 := Lib.hid (blk_below HP3.out hB); clear hB))
    | ((with_reducible refine gate_dst (N := 22) rfl ?_); go_must (refine wpList_let ?aW (fun K hK => wp_load_list 28 (.tmp 4) rfl ⟨w2.heap.size, 0, none⟩ rfl cs _ (box_list _ cs.toArray _ _ HP4.out) Tryd.underlying28 rfl ?aI (hK _ _ ?_))); go_must (case aW => first | rfl | (simp [Region.wanted, yielded]; done)); go_must (case aI => rw [← List.size_toArray, HVL.out]; rfl))
    | ((with_reducible refine gate_dst (N := 23) rfl ?_); go_must (refine wpList_let ?aW (fun K hK => wp_load_list 28 (.tmp 1) rfl ⟨w.heap.size, 0, none⟩ rfl cs _ (HLI.out _ HB4.out) Tryd.underlying28 rfl ?aI (hK _ _ ?_))); go_must (case aW => first | rfl | (simp [Region.wanted, yielded]; done)); go_must (case aI => rw [← List.size_toArray, HVL.out]; rfl)))
  go_ret
  exact ⟨rfl, below_step HB0.out HB4.out⟩
theorem opens_h : Open.Opens Tryd.prog 28 (Kd.arr 32 (Kd.int .u8) (by decide)) (fun xs => ∀ x ∈ xs, (Lit.int .u8 x).wf = true) :=
  Open.opens_array (Open.opens_int Tryd.underlying5 (by kernel_rfl)) Tryd.underlying28 (by kernel_rfl)
/-- The law, for the row. -/
theorem row_walk (cs : Array Value) (z : List Int) (W : World) (h : (Kd.arr 32 (Kd.int .u8) (by decide)).K W z cs.toList ∧ ∀ x ∈ z, (Lit.int .u8 x).wf = true) :
    Calls Tryd.prog 4 #[.agg cs] W fun e w' => e = .returned (.bool true) ∧ Below W.heap.size W w' := by
  obtain ⟨hl, e⟩ := Kd.arr_cells h.1
  have e2 : cs = (hv z).toArray := by
    rw [← Array.toArray_toList (xs := cs), e]
    rfl
  rw [e2]
  refine law_walk z W hl fun y hy => ?_
  have := h.2 y hy
  simp [Lit.wf, IntKind.min, IntKind.max, IntKind.bits, IntKind.signed] at this
  omega
end Go.Proofs.YtojadhcbjcpifaaDoor.Hx
