/-
  impl.ReadHashText, impl.HashText.
-/
import Derived.Test.YtojadhcbjcpifaaDoorHx4
import Derived.Laws.CopyOwn
namespace Go.Proofs.YtojadhcbjcpifaaDoor.Hx
open Go.RowKit Go.Proofs.YtojadhcbjcpifaaDoorW.PrintWords Go.Proofs.YtojadhcbjcpifaaDoorW.PrintLast Go.Proofs.YtojadhcbjcpifaaDoor.Reg Go.Proofs.YtojadhcbjcpifaaDoor.Tok
set_option linter.unusedSimpArgs false
set_option linter.unusedVariables false

theorem results_row_tmp {P : Program} {fn : Func} {p u : Tmp} {ty : TypeId} (h : fn.results = #[.cell p ty, .tmp u]) (tmps : Array Value) (w : World) (g : Nat) (t : TypeId) (cs : Array Value) (fr : Nat × Nat) (d : TypeDesc)
    (hp : tmps.getD p undef = .pointer (some ⟨g, 0, none⟩)) (hg : w.heap[g]? = some (.cells cs t fr))
    (hu : P.underlying ty = some d) (hd : (match d with | .struct _ | .array _ _ => true | _ => false) = true) (hi : (P.info? ty).map (·.size) = some cs.size) :
    (results fn tmps).run P w = .ok (.tuple #[.agg cs, tmps.getD u undef]) w := by
  have hp' : tmps[p]?.getD undef = .pointer (some ⟨g, 0, none⟩) := by simpa using hp
  simp [results, h, hp', asAddr, run_loadVar_row w g t ty cs fr d hg hu hd hi]
/-- Many cells are read at once, wherever they lie. -/
theorem run_loadAt_list {P : Program} (w : World) (ad : Addr) (ty : TypeId) (cs : List Value) (d : TypeDesc) (hc : ∀ j v, cs[j]? = some v → w.cell? (ad.add j) = some v)
    (hu : P.underlying ty = some d) (hd : d.isRow = true) (hi : (P.info? ty).map (·.size) = some cs.length) :
    (Instr.loadAt ty (.pointer (some ad))).run P w = .ok (.agg cs.toArray) w := by
  have hl := run_loadCells_list (P := P) w ad cs hc
  obtain ⟨inf, hq, hs⟩ := Option.map_eq_some_iff.1 hi
  have hagg : (isAgg ty).run P w = .ok true w := by
    unfold isAgg
    rw [Sem.run_bind, run_underlying hu w]
    cases d <;> simp_all
  simp [Instr.loadAt, Instr.sureAddr, loadVar, Sem.run_bind, hagg, sizeOf, typeInfo, hq, hs, hl]
theorem wpList_load_list {P : Program} {ops : Array Oper} {rest : List Oper} {op : Oper} {a : Act} {w : World} {Q : Exit → Act → World → Prop} (hgd : op.guard = none) (ty : TypeId) (x : Operand) (ho : op.op = .load ty x)
    (ad : Addr) (hx : a.eval x = .pointer (some ad)) (cs : List Value) (d : TypeDesc) (hc : ∀ j v, cs[j]? = some v → w.cell? (ad.add j) = some v)
    (hu : P.underlying ty = some d) (hd : d.isRow = true) (hi : (P.info? ty).map (·.size) = some cs.length)
    (h : wpList P ops Q rest (a.put op.dst (.agg cs.toArray)) w) : wpList P ops Q (op :: rest) a w :=
  wpList_plain hgd fun _ hK => by
    unfold Oper.wp execOp
    simp only [ho, hx, Sem.run_bind, Sem.run_pure, Result.andThen_ok, run_loadAt_list w ad ty cs d hc hu hd hi]
    exact hK _ _ h
theorem hv_one (h : List Int) : ∀ v ∈ hv h, v.oneCell' = true := by
  intro v hv_
  obtain ⟨x, _, rfl⟩ := List.mem_map.1 hv_
  rfl
theorem row_lies {w : World} {G : Nat} {t : TypeId} {h : List Int} (hl : h.length = 32) (hR : w.rowIs G t 32 (fun j => .int .u8 (h.getD j 0))) : Lies w ⟨G, 0, none⟩ (hv h) := by
  intro j v hj
  have hjl : j < h.length := by have := (List.getElem?_eq_some_iff.1 hj).1; rwa [hv_len] at this
  rw [Addr.add_mid, Nat.zero_add, hR.cell (by omega), ← hj]
  simp [hv, hjl, List.getD]
set_option maxHeartbeats 8000000 in
set_option maxRecDepth 100000 in
theorem read_calls (h : List Int) (w : World) (hl : h.length = 32) (hb : Bytes h) :
    Calls Tryd.prog 9 #[.string (txt h)] w fun e w' => e = .returned (.tuple #[.agg (hv h).toArray, .int .i64 0]) ∧ Below w.heap.size w w' := by
  obtain ⟨Z, hZ⟩ : ∃ Z : Array Value, #[.int .u8 0, .int .u8 0, .int .u8 0, .int .u8 0, .int .u8 0, .int .u8 0, .int .u8 0, .int .u8 0, .int .u8 0, .int .u8 0, .int .u8 0, .int .u8 0, .int .u8 0, .int .u8 0, .int .u8 0, .int .u8 0, .int .u8 0, .int .u8 0, .int .u8 0, .int .u8 0, .int .u8 0, .int .u8 0, .int .u8 0, .int .u8 0, .int .u8 0, .int .u8 0, .int .u8 0, .int .u8 0, .int .u8 0, .int .u8 0, .int .u8 0, .int .u8 0] = Z := ⟨_, rfl⟩
  obtain ⟨W0, hW0⟩ : ∃ W0, w.alloc (.cells Z 28) = W0 := ⟨_, rfl⟩
  have hB0 : Below w.heap.size w W0 := hW0 ▸ below_alloc (Below.refl _ _) _
  have hblk : W0.heap[w.heap.size]? = some (.cells Z 28 (0, 0)) := hW0 ▸ heap_alloc_new w _
  have HZ := Lib.hid (show Z.size = 32 by rw [← hZ]; rfl)
  have hall : w.alloc (.cells #[.int .u8 0, .int .u8 0, .int .u8 0, .int .u8 0, .int .u8 0, .int .u8 0, .int .u8 0, .int .u8 0, .int .u8 0, .int .u8 0, .int .u8 0, .int .u8 0, .int .u8 0, .int .u8 0, .int .u8 0, .int .u8 0, .int .u8 0, .int .u8 0, .int .u8 0, .int .u8 0, .int .u8 0, .int .u8 0, .int .u8 0, .int .u8 0, .int .u8 0, .int .u8 0, .int .u8 0, .int .u8 0, .int .u8 0, .int .u8 0, .int .u8 0, .int .u8 0] 28) = W0 := hZ ▸ hW0
  have HD := Lib.hid (fromStr_calls h W0 hl hb)
  have HB0 := Lib.hid hB0
  have HBK := Lib.hid hblk
  have HL := Lib.hid hl
  have H1 := Lib.hid (all_oneCell_toArray (hv_one h))
  have HVL := Lib.hid (show (hv h).toArray.size = 32 by simp [hv, hl])
  have HLI := Lib.hid (fun (W : World) (G : Nat) (hR : W.rowIs G 38 32 (fun j => .int .u8 (h.getD j 0))) => row_lies hl hR)
  obtain ⟨s, hs⟩ : ∃ s, txt h = s := ⟨_, rfl⟩
  rw [hs] at HD ⊢
  obtain ⟨cs, hcs⟩ : ∃ cs, hv h = cs := ⟨_, rfl⟩
  rw [hcs] at H1 HVL HLI ⊢
  clear hB0 hW0 hs hb hl hblk hcs hZ
  go_enter Tryd.func9, Tryd.ntmps9
  go_wp2_with (first
    | (go_at_call 17; go_must ((with_reducible refine HD.out.mono ?_); rintro e w1 ⟨G, rfl, hR, hB⟩; have HR := Lib.hid hR; have HB := Lib.hid hB; clear hR hB))
    | (refine wpList_load_list rfl 38 (.tmp 15) rfl ⟨G, 0, none⟩ rfl cs _ (HLI.out _ G HR.out) Tryd.underlying38 rfl ?aI ?_; go_must (case aI => rw [← List.size_toArray, HVL.out]; rfl))
    | (refine wpList_store_row rfl 28 (.tmp 2) (.tmp 16) rfl _ cs.toArray rfl rfl 28 _ (blk_below HBK.out HB.out) ?aS ?aL H1.out ?_; go_must (case aS => rw [HVL.out]; rfl); go_must (case aL => rw [HVL.out, HZ.out])))
  refine bodyPost_ret (results_row_tmp (by rfl) _ _ w.heap.size 28 cs.toArray (0, 0) _ (by rfl) (setRow_heap _ _ _ _ _ _ (blk_below HBK.out HB.out)) Tryd.underlying28 (by rfl) (by rw [HVL.out]; rfl)) (by rfl) ⟨by first | rfl | (simp; done), below_setRow (below_step HB0.out HB.out) (Nat.le_refl _) _⟩
set_option maxHeartbeats 8000000 in
set_option maxRecDepth 100000 in
theorem text_calls (h : List Int) (w : World) (hl : h.length = 32) (hb : Bytes h) :
    Calls Tryd.prog 8 #[.agg (hv h).toArray] w fun e w' => e = .returned (.string (txt h)) ∧ Below w.heap.size w w' := by
  obtain ⟨W0, hW0⟩ : ∃ W0, w.alloc (.cells (hv h).toArray 28) = W0 := ⟨_, rfl⟩
  have HB0 := Lib.hid (show Below w.heap.size w W0 from hW0 ▸ below_alloc (Below.refl _ _) _)
  have HS := Lib.hid (string_calls h W0 hl hb)
  have HLI := Lib.hid (show Lies W0 ⟨w.heap.size, 0, none⟩ (hv h) from row_lies hl (hW0 ▸ hv_row w h hl _))
  have HVL := Lib.hid (show (hv h).toArray.size = 32 by simp [hv, hl])
  obtain ⟨s, hs⟩ : ∃ s, txt h = s := ⟨_, rfl⟩
  obtain ⟨cs, hcs⟩ : ∃ cs, hv h = cs := ⟨_, rfl⟩
  rw [hs] at HS ⊢
  rw [hcs] at HS hW0 HLI HVL ⊢
  have hall := hW0
  clear hW0 hs hcs hl hb
  go_enter Tryd.func8, Tryd.ntmps8
  go_wp2_with (first
    | (refine wpList_load_list rfl 28 (.tmp 1) rfl ⟨w.heap.size, 0, none⟩ rfl cs _ HLI.out Tryd.underlying28 rfl ?aI ?_; go_must (case aI => rw [← List.size_toArray, HVL.out]; rfl))
    | (go_at_call 16; go_must ((with_reducible refine HS.out.mono ?_); rintro e w1 ⟨rfl, hB⟩; have HB := Lib.hid hB; clear hB)))
  go_ret
  exact ⟨rfl, below_step HB0.out HB.out⟩
end Go.Proofs.YtojadhcbjcpifaaDoor.Hx
