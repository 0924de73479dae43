/-
  Arrays of bytes are compared; an output's name that is none.
-/
import Derived.Test.YtclbkinlgjdojaaTxPtr
import Derived.Laws.StructEq
namespace Go.Proofs.Ytclbkinlgjdojaa.Tx
open Go.RowKit Go.Proofs.YtclbkinlgjdojaaW.PrintWords Go.Proofs.YtclbkinlgjdojaaW.PrintLast
set_option linter.unusedSimpArgs false
set_option linter.unusedVariables false

/-- Element by element: is the one list the other? -/
theorem all_places (xs ys : List Int) (n : Nat) (hx : xs.length = n) (hy : ys.length = n) : ((List.range' 0 n 1).all fun i => xs.getD i 0 == ys.getD i 0) = decide (xs = ys) := by
  rw [Bool.eq_iff_iff, List.all_eq_true, decide_eq_true_eq]
  constructor
  · intro h
    refine List.ext_getElem (hx.trans hy.symm) (fun i h1 h2 => ?_)
    have := h i (List.mem_range'_1.2 ⟨Nat.zero_le _, by omega⟩)
    simpa [List.getD, List.getElem?_eq_getElem h1, List.getElem?_eq_getElem h2] using this
  · rintro rfl i _
    simp
theorem equal_hv {P : Program} (w : World) (d : Nat) (t e : TypeId) (n : Nat) (ht : P.underlying t = some (.array n e)) (he : P.underlying e = some (.int .u8)) (hsz : ∀ w, (sizeOf e).run P w = .ok 1 w)
    (xs ys : List Int) (hx : xs.length = n) (hy : ys.length = n) :
    (Op.equalIn (d + 2) t (.agg (hv xs).toArray) (.agg (hv ys).toArray)).run P w = .ok (decide (xs = ys)) w := by
  rw [← all_places xs ys n hx hy, Op.equalIn]
  simp only [Sem.run_bind, run_underlying ht, Result.andThen_ok, hsz, Std.Legacy.Range.forIn_eq_forIn_range', Std.Legacy.Range.size, Nat.sub_zero, Nat.add_sub_cancel, Nat.div_one]
  have hin : ∀ i ∈ List.range' 0 n 1, i < n := fun i hi => by simpa using (List.mem_range'_1.1 hi).2
  have one : ∀ (zs : List Int), zs.length = n → ∀ i, i < n → (part e (hv zs).toArray (i * 1)).run P w = .ok (.int .u8 (zs.getD i 0)) w := by
    intro zs hz i hi
    simp [hv, part, isAgg, run_underlying he, List.getD, List.getElem?_eq_getElem (show i < zs.length by omega)]
  generalize List.range' 0 n 1 = l at hin ⊢
  induction l with
  | nil => simp
  | cons i l ih =>
    have hi := hin i List.mem_cons_self
    simp only [List.forIn_cons, Sem.run_bind, one xs hx i hi, one ys hy i hi, Result.andThen_ok, List.all_cons, run_equalIn_int w d e .u8 .u8 _ _ he]
    by_cases hb : xs.getD i 0 = ys.getD i 0
    · rw [show (xs.getD i 0 == ys.getD i 0) = true from beq_iff_eq.2 hb]
      simp only [Bool.not_true, Bool.false_eq_true, if_false, Sem.run_pure, Result.andThen_ok, Bool.true_and]
      exact ih fun j hj => hin j (List.mem_cons_of_mem _ hj)
    · rw [show (xs.getD i 0 == ys.getD i 0) = false from by rw [beq_eq_false_iff_ne]; exact hb]
      simp
def zero32 : List Int := List.replicate 32 0
theorem zero_len : zero32.length = 32 := rfl
theorem built_zero : Try.prog.built 32 [] = some (hv zero32).toArray := by kernel_rfl
theorem built_zeroH : Try.prog.built 52 [] = some (hv zero32).toArray := by kernel_rfl
theorem eq_zero (h : List Int) (hl : h.length = 32) (w : World) : (binOp .eql 32 (.agg (hv h).toArray) (.agg (hv zero32).toArray)).run Try.prog w = .ok (.bool (decide (h = zero32))) w := by
  rw [run_eql_struct, equal_hv w 9998 32 5 32 Try.underlying32 Try.underlying5 (fun w => by rfl) h zero32 hl zero_len]
  rfl
theorem neq_zero (h : List Int) (hl : h.length = 32) (w : World) : (binOp .neq 52 (.agg (hv h).toArray) (.agg (hv zero32).toArray)).run Try.prog w = .ok (.bool (!decide (h = zero32))) w := by
  rw [run_neq_struct, equal_hv w 9998 52 5 32 Try.underlying52 Try.underlying5 (fun w => by rfl) h zero32 hl zero_len]
  rfl
/-- No output. -/
def isNone (x : TI) : Bool := decide (x.i = 4294967295) && decide (x.h = zero32)

/-- An operation whose guard lets it be. -/
theorem wpList_let {P : Program} {ops : Array Oper} {Q : Exit → Act → World → Prop} {a : Act} {w : World} {rest : List Oper} {o : Oper} (hw : Region.wanted o (yielded ops a.tmps) = true)
    (h : ∀ K : Act → World → Prop, (∀ a w, wpList P ops Q rest a w → K a w) → o.wp P a w K Q) : wpList P ops Q (o :: rest) a w :=
  wpList_step fun K hK => by rw [if_pos hw]; exact h K hK
theorem wp_load_list {P : Program} {op : Oper} {a : Act} {w : World} {K : Act → World → Prop} {Q : Exit → Act → World → Prop} (ty : TypeId) (x : Operand) (ho : op.op = .load ty x)
    (ad : Addr) (hx : a.eval x = .pointer (some ad)) (cs : List Value) (d : TypeDesc) (hc : ∀ j v, cs[j]? = some v → w.cell? (ad.add j) = some v)
    (hu : P.underlying ty = some d) (hd : d.isRow = true) (hi : (P.info? ty).map (·.size) = some cs.length)
    (h : K (a.put op.dst (.agg cs.toArray)) w) : Oper.wp P op a w K Q := by
  unfold Oper.wp execOp
  simp only [ho, hx, Sem.run_bind, Sem.run_pure, Result.andThen_ok, run_loadAt_list w ad ty cs d hc hu hd hi]
  exact h
theorem wp_made {P : Program} {o : Oper} {a : Act} {w : World} {K : Act → World → Prop} {Q : Exit → Act → World → Prop} (t : TypeId) (parts : Array (Nat × Operand)) (ho : o.op = .build t parts)
    (vs : List (Nat × Value)) (hx : (parts.map fun (i, x) => (i, a.eval x)).toList = vs) (cells : Array Value) (hb : P.built t vs = some cells)
    (h : K (a.put o.dst (.agg cells)) w) : Oper.wp P o a w K Q := by
  refine wp_build t parts ho ?_ ?_
  · rw [hx, hb]; rfl
  · rw [hx, hb]; exact h
set_option maxHeartbeats 8000000 in
set_option maxRecDepth 100000 in
theorem none_calls (h : List Int) (i : Int) (w : World) (hl : h.length = 32) :
    Calls Try.prog 13 #[.agg (opc h i).toArray] w fun e w' => e = .returned (.bool (decide (i = 4294967295) && decide (h = zero32))) ∧ Below w.heap.size w w' := by
  obtain ⟨cs, hcs⟩ : ∃ cs, (opc h i).toArray = cs := ⟨_, rfl⟩
  have k32 : (w.alloc (.cells cs 34)).cell? ⟨w.heap.size, 32, none⟩ = some (.int .u32 i) := by
    rw [cell_of_row _ _ _ _ _ _ (heap_alloc_new w _), ← hcs]
    simp [opc, hv_len, List.getElem?_append, hl]
  have hh : ∀ j v, (hv h)[j]? = some v → (w.alloc (.cells cs 34)).cell? ((⟨w.heap.size, 0, none⟩ : Addr).add j) = some v := by
    intro j v hj
    rw [Addr.add_mid, Nat.zero_add, cell_of_row _ _ _ _ _ _ (heap_alloc_new w _), ← hcs]
    have hjl := (List.getElem?_eq_some_iff.1 hj).1
    simp only [opc, List.getElem?_toArray]
    rw [List.getElem?_append_left hjl]; exact hj
  rw [hcs]
  have HH := Lib.hid hh
  have HL := Lib.hid hl
  have heq := fun W => eq_zero h hl W
  obtain ⟨z, hz⟩ : ∃ z, decide (h = zero32) = z := ⟨_, rfl⟩
  obtain ⟨V, hV⟩ : ∃ V, (hv h).toArray = V := ⟨_, rfl⟩
  rw [hz]
  simp only [hz, hV] at heq
  have HV := Lib.hid hV
  have BZ := Lib.hid built_zero
  obtain ⟨Z, hZ⟩ : ∃ Z, (hv zero32).toArray = Z := ⟨_, rfl⟩
  simp only [hZ] at heq
  have BZ := Lib.hid (show Try.prog.built 32 [] = some Z from hZ ▸ built_zero)
  clear hcs hh hl hz hV hZ
  by_cases c : i = 4294967295
  · have cb : decide (i = 4294967295) = true := decide_eq_true c
    rw [cb, Bool.true_and]
    have cb2 : (i == 4294967295) = true := beq_iff_eq.2 c
    clear c
    go_enter Try.func13, Try.ntmps13
    go_wp2_with (first | ((with_reducible refine gate_dst (N := 8) rfl ?_); go_must (refine wpList_let ?aW (fun K hK => wp_load_list 32 (.tmp 7) rfl ⟨w.heap.size, 0, none⟩ rfl (hv h) _ HH.out Try.underlying32 rfl ?aI (hK _ _ ?_))); go_must (case aW => first | rfl | (simp [Region.wanted, yielded]; done)); go_must (case aI => rw [hv_len, HL.out]; rfl); go_must (rw [HV.out])) | ((with_reducible refine gate_dst (N := 9) rfl ?_); go_must (refine wpList_let ?aW (fun K hK => wp_made 32 #[] rfl [] (by simp) _ BZ.out (hK _ _ ?_))); go_must (case aW => first | rfl | (simp [Region.wanted, yielded]; done))))
    go_ret
    exact ⟨rfl, below_alloc (Below.refl _ _) _⟩
  · have cb : decide (i = 4294967295) = false := decide_eq_false c
    rw [cb, Bool.false_and]
    have cb2 : (i == 4294967295) = false := by rw [beq_eq_false_iff_ne]; exact c
    clear c
    go_enter Try.func13, Try.ntmps13
    go_wp2
    go_ret
    exact ⟨rfl, below_alloc (Below.refl _ _) _⟩
end Go.Proofs.Ytclbkinlgjdojaa.Tx
