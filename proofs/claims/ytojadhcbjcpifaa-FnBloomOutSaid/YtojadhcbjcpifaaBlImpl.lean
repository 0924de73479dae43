/-
  impl.BloomAddOut, impl.BloomHasOut.
-/
import Derived.Test.YtojadhcbjcpifaaBlLoad
namespace Go.Proofs.Ytojadhcbjcpifaa.Bl
open Go.RowKit Go.Proofs.YtojadhcbjcpifaaW.PrintWords Go.Proofs.YtojadhcbjcpifaaW.PrintLast Go.Proofs.Ytojadhcbjcpifaa.Reg Go.Proofs.Ytojadhcbjcpifaa.By Go.Proofs.Ytojadhcbjcpifaa.Tx Go.Proofs.Ytojadhcbjcpifaa.Mur Go.Proofs.Ytojadhcbjcpifaa.Tok
set_option linter.unusedSimpArgs false
set_option linter.unusedVariables false

/-- Many cells are read at once, wherever they lie. -/
theorem run_loadAt_list {P : Program} (w : World) (ad : Addr) (ty : TypeId) (cs : List Value) (d : TypeDesc) (hc : ∀ j v, cs[j]? = some v → w.cell? (ad.add j) = some v)
    (hu : P.underlying ty = some d) (hd : d.isRow = true) (hi : (P.info? ty).map (·.size) = some cs.length) :
    (Instr.loadAt ty (.pointer (some ad))).run P w = .ok (.agg cs.toArray) w := by
  have hl := run_loadCells_list (P := P) w ad cs hc
  obtain ⟨inf, hq, hs⟩ := Option.map_eq_some_iff.1 hi
  have hagg : (isAgg ty).run P w = .ok true w := by
    unfold isAgg
    rw [Sem.run_bind, run_underlying hu w]
    cases d <;> simp_all
  simp [Instr.loadAt, Instr.sureAddr, loadVar, Sem.run_bind, hagg, sizeOf, typeInfo, hq, hs, hl]
theorem wpList_load_list {P : Program} {ops : Array Oper} {rest : List Oper} {op : Oper} {a : Act} {w : World} {Q : Exit → Act → World → Prop} (hgd : op.guard = none) (ty : TypeId) (x : Operand) (ho : op.op = .load ty x)
    (ad : Addr) (hx : a.eval x = .pointer (some ad)) (cs : List Value) (d : TypeDesc) (hc : ∀ j v, cs[j]? = some v → w.cell? (ad.add j) = some v)
    (hu : P.underlying ty = some d) (hd : d.isRow = true) (hi : (P.info? ty).map (·.size) = some cs.length)
    (h : wpList P ops Q rest (a.put op.dst (.agg cs.toArray)) w) : wpList P ops Q (op :: rest) a w :=
  wpList_plain hgd fun _ hK => by
    unfold Oper.wp execOp
    simp only [ho, hx, Sem.run_bind, Sem.run_pure, Result.andThen_ok, run_loadAt_list w ad ty cs d hc hu hd hi]
    exact hK _ _ h
set_option maxHeartbeats 8000000 in
set_option maxRecDepth 100000 in
theorem implAdd_calls (A : Option Addr) (c : Nat) (l : List Int) (K : Nat) (t : Int) (h : List Int) (i : Int) (w : World) (hA : Kd.C (Kd.int .u8) w A l.length l) (hc : l.length ≤ c) (hn : 1 ≤ l.length ∧ l.length ≤ 2000) (hk : 1 ≤ K ∧ K ≤ 50) (ht : 0 ≤ t ∧ t < 4294967296) (hl : h.length = 32) (hb : Bytes h) (hi : 0 ≤ i ∧ i < 4294967296) :
    Calls Try.prog 9 #[.agg #[.slice A l.length c, .int .u32 (K : Int), .int .u32 t], .agg (opc h i).toArray] w fun e w' => ∃ g' c', e = .returned (.agg #[.slice (some ⟨g', 0, none⟩) l.length c', .int .u32 (K : Int), .int .u32 t]) ∧ Own w w' (.slice (some ⟨g', 0, none⟩) l.length c') (addB l.length t (ob h i) l K) := by
  have hopc := outPoint_calls h i
  have haddo := fun base F M g n c l k t P w (hbase : base ≤ w.heap.size) => addOut_calls base F M g n c k l t P h i w hbase
  obtain ⟨cs, hcs⟩ : ∃ cs, (opc h i).toArray = cs := ⟨_, rfl⟩
  have hz : cs.size = 33 := by rw [← hcs]; simp [opc_len, hl]
  have hone : cs.all (·.oneCell') = true := by rw [← hcs]; exact all_oneCell_toArray (opc_one h i)
  obtain ⟨n, hnn⟩ : ∃ n, l.length = n := ⟨_, rfl⟩
  obtain ⟨k, hkk⟩ : ∃ k : Int, (K : Int) = k := ⟨_, rfl⟩
  rw [hcs] at hopc ⊢
  have hB0 : Below w.heap.size w (((w.alloc (.cells #[.slice A n c, .int .u32 k, .int .u32 t] 27)).alloc (.cells cs 30)).alloc (.cells #[.slice none 0 0, .int .u32 0, .int .u32 0] 27)) := below_alloc (below_alloc (below_alloc (Below.refl _ _) _) _) _
  have hc0 : ∀ W, Below (((w.alloc (.cells #[.slice A n c, .int .u32 k, .int .u32 t] 27)).alloc (.cells cs 30)).alloc (.cells #[.slice none 0 0, .int .u32 0, .int .u32 0] 27)).heap.size (((w.alloc (.cells #[.slice A n c, .int .u32 k, .int .u32 t] 27)).alloc (.cells cs 30)).alloc (.cells #[.slice none 0 0, .int .u32 0, .int .u32 0] 27)) W → W.heap[w.heap.size]? = some (.cells #[.slice A n c, .int .u32 k, .int .u32 t] 27 (0, 0)) ∧ W.heap[w.heap.size + 1]? = some (.cells cs 30 (0, 0)) ∧ W.heap[w.heap.size + 2]? = some (.cells #[.slice none 0 0, .int .u32 0, .int .u32 0] 27 (0, 0)) := fun W hW =>
    ⟨blk_below (blk_below (heap_alloc_new w _) (below_alloc (below_alloc (Below.refl _ _) _) _)) hW, by have := blk_below (blk_below (heap_alloc_new (w.alloc (.cells #[.slice A n c, .int .u32 k, .int .u32 t] 27)) (.cells cs 30)) (below_alloc (Below.refl _ _) (.cells #[.slice none 0 0, .int .u32 0, .int .u32 0] 27))) hW; simpa using this, by have := blk_below (heap_alloc_new ((w.alloc (.cells #[.slice A n c, .int .u32 k, .int .u32 t] 27)).alloc (.cells cs 30)) (.cells #[.slice none 0 0, .int .u32 0, .int .u32 0] 27)) hW; simpa using this⟩
  have HC := Lib.hid hc0
  have WS := Lib.hid (show (((w.alloc (.cells #[.slice A n c, .int .u32 k, .int .u32 t] 27)).alloc (.cells cs 30)).alloc (.cells #[.slice none 0 0, .int .u32 0, .int .u32 0] 27)).heap.size = w.heap.size + 3 from by simp)
  have HBW := Lib.hid hB0
  have HFO := Lib.hid (show Calls Try.prog 18 #[.agg #[.slice A n c, .int .u32 k, .int .u32 t], .int .u8 0] (((w.alloc (.cells #[.slice A n c, .int .u32 k, .int .u32 t] 27)).alloc (.cells cs 30)).alloc (.cells #[.slice none 0 0, .int .u32 0, .int .u32 0] 27)) fun e w' => ∃ F M g c', e = .returned (.pointer (some ⟨F, 0, none⟩)) ∧ Flt (((w.alloc (.cells #[.slice A n c, .int .u32 k, .int .u32 t] 27)).alloc (.cells cs 30)).alloc (.cells #[.slice none 0 0, .int .u32 0, .int .u32 0] 27)).heap.size F M g n c' l k t 0 w' ∧ Below (((w.alloc (.cells #[.slice A n c, .int .u32 k, .int .u32 t] 27)).alloc (.cells cs 30)).alloc (.cells #[.slice none 0 0, .int .u32 0, .int .u32 0] 27)).heap.size (((w.alloc (.cells #[.slice A n c, .int .u32 k, .int .u32 t] 27)).alloc (.cells cs 30)).alloc (.cells #[.slice none 0 0, .int .u32 0, .int .u32 0] 27)) w' from by
    have := filterOf_calls A c l k t (((w.alloc (.cells #[.slice A n c, .int .u32 k, .int .u32 t] 27)).alloc (.cells cs 30)).alloc (.cells #[.slice none 0 0, .int .u32 0, .int .u32 0] 27)) (Kd.C_below hA hB0) hc hn
    rwa [hnn] at this)
  have HOP := Lib.hid (fun w => hopc w hl)
  have HADD := Lib.hid (show ∀ W F M g c' P, (((w.alloc (.cells #[.slice A n c, .int .u32 k, .int .u32 t] 27)).alloc (.cells cs 30)).alloc (.cells #[.slice none 0 0, .int .u32 0, .int .u32 0] 27)).heap.size ≤ W.heap.size → Flt (((w.alloc (.cells #[.slice A n c, .int .u32 k, .int .u32 t] 27)).alloc (.cells cs 30)).alloc (.cells #[.slice none 0 0, .int .u32 0, .int .u32 0] 27)).heap.size F M g n c' l k t 0 W → W.heap[P]? = some (.cells cs 46 (0, 0)) → Calls Try.prog 20 #[.pointer (some ⟨F, 0, none⟩), .pointer (some ⟨P, 0, none⟩)] W fun e w' => e = .returned (.tuple #[]) ∧ Flt (((w.alloc (.cells #[.slice A n c, .int .u32 k, .int .u32 t] 27)).alloc (.cells cs 30)).alloc (.cells #[.slice none 0 0, .int .u32 0, .int .u32 0] 27)).heap.size F M g n c' (addB n t (ob h i) l K) k t 0 w' ∧ Below (((w.alloc (.cells #[.slice A n c, .int .u32 k, .int .u32 t] 27)).alloc (.cells cs 30)).alloc (.cells #[.slice none 0 0, .int .u32 0, .int .u32 0] 27)).heap.size W w' from fun W F M g c' P h1 h2 h3 => by
    subst hkk
    exact haddo _ F M g n c' l K t P W h1 h2 (by rw [hcs]; exact h3) hl hb hi (by rw [← hnn]; exact hn) hk ht)
  have HN := Lib.hid (show 1 ≤ n ∧ n ≤ 2000 by rw [← hnn]; exact hn)
  have HZ := Lib.hid hz
  have H1 := Lib.hid hone
  obtain ⟨L', hL'⟩ : ∃ L', addB n t (ob h i) l K = L' := ⟨_, rfl⟩
  rw [hnn, hkk, hL']
  rw [hL'] at HADD
  have z0 := (blk_cell (HC.out _ (Below.refl _ _)).1 0).trans rfl
  have z1 := (blk_cell (HC.out _ (Below.refl _ _)).1 1).trans rfl
  have z2 := (blk_cell (HC.out _ (Below.refl _ _)).1 2).trans rfl
  clear hA hc hn hk ht hl hb hi hopc haddo hcs hz hone hnn hkk hB0 hc0 hL'
  go_enter Try.func9, Try.ntmps9
  go_wp2_with (first
    | (go_at_call 18; go_must ((with_reducible refine HFO.out.mono ?_); rintro e w1 ⟨F, M, g, c', rfl, hF1, hB1⟩; have HF1 := Lib.hid hF1; have HB1 := Lib.hid hB1; clear hF1 hB1 z0 z1 z2))
    | (refine wpList_load_list rfl 30 (.tmp 3) rfl ⟨_, 0, none⟩ rfl cs.toList _ (box_list _ cs 30 _ (HC.out _ HB1.out).2.1) Try.underlying30 rfl ?aI ?_; go_must (case aI => rw [Array.length_toList, HZ.out]; rfl); go_must (simp only [Array.toArray_toList]))
    | (go_at_call 19; go_must ((with_reducible refine (HOP.out _).mono ?_); rintro e w2 ⟨rfl, hB2⟩; have HB2 := Lib.hid (below_step HB1.out hB2); have HF2 := Lib.hid (HF1.out.below hB2); clear hB2))
    | (refine wpList_store_row rfl 46 (.tmp 6) (.tmp 10) rfl _ cs rfl rfl 46 _ (heap_alloc_new _ _) ?aS ?aL H1.out ?_; go_must (case aS => rw [HZ.out]; rfl); go_must (case aL => rw [HZ.out]; rfl))
    | (go_at_call 20; go_must ((with_reducible refine Calls.mono (HADD.out _ F M g c' _ ?ha1 ?ha2 ?ha3) ?_); (case ha1 => exact Nat.le_trans HB2.out.size (below_setRow (below_alloc (Below.refl w2.heap.size w2) _) (Nat.le_refl _) cs).size); (case ha2 => exact HF2.out.below (below_setRow (below_alloc (Below.refl w2.heap.size w2) _) (Nat.le_refl _) cs)); (case ha3 => exact setRow_heap _ _ _ cs _ _ (heap_alloc_new w2 _)); rintro e w4 ⟨rfl, hF4, hB4⟩; have HF4 := Lib.hid hF4; have HB4 := Lib.hid ((below_step HB2.out (below_setRow (below_alloc (Below.refl w2.heap.size w2) _) (Nat.le_refl _) cs)).trans hB4); clear hF4 hB4))
    | (go_at_call 21; go_must ((with_reducible refine (ofFilter_calls _ F M g n c' L' k t _ HB4.out.size HF4.out HN.out).mono ?_); rintro e w5 ⟨g', c2, rfl, hR5, hB5⟩; have HR5 := Lib.hid hR5; have HB5 := Lib.hid (HB4.out.trans hB5); clear hR5 hB5; have hb3 := (HC.out _ HB5.out).2.2; have rs0 := (blk_cell hb3 0).trans rfl; have rs1 := (blk_cell hb3 1).trans rfl; have rs2 := (blk_cell hb3 2).trans rfl; have fs0 := blk_frozen hb3 0; have fs1 := blk_frozen hb3 1; have fs2 := blk_frozen hb3 2)))
  have hrow := Kd.R_set (Kd.R_set (Kd.R_set HR5.out hb3 (by decide) 0 (.slice (some ⟨g', 0, none⟩) n c2)) (blk_set hb3 0 _) (by decide) 1 (.int .u32 k)) (blk_set (blk_set hb3 0 _) 1 _) (by decide) 2 (.int .u32 t)
  have hlow : w.heap.size ≤ w.heap.size + 1 + 1 := by omega
  have hbel := (((below_step HBW.out HB5.out).setCell (p := ⟨w.heap.size + 1 + 1, 0, none⟩) hlow (.slice (some ⟨g', 0, none⟩) n c2)).setCell (p := ⟨w.heap.size + 1 + 1, 1, none⟩) hlow (.int .u32 k)).setCell (p := ⟨w.heap.size + 1 + 1, 2, none⟩) hlow (.int .u32 t)
  have hres : (((w5.setCell ⟨w.heap.size + 1 + 1, 0, none⟩ (.slice (some ⟨g', 0, none⟩) n c2)).setCell ⟨w.heap.size + 1 + 1, 1, none⟩ (.int .u32 k)).setCell ⟨w.heap.size + 1 + 1, 2, none⟩ (.int .u32 t)).heap[w.heap.size + 1 + 1]? = some (.cells #[.slice (some ⟨g', 0, none⟩) n c2, .int .u32 k, .int .u32 t] 27 (0, 0)) := blk_set (blk_set (blk_set hb3 0 _) 1 _) 2 _
  refine bodyPost_ret (results_cell_row (by rfl) _ _ (w.heap.size + 1 + 1) 27 #[.slice (some ⟨g', 0, none⟩) n c2, .int .u32 k, .int .u32 t] (0, 0) _ (by rfl) hres Try.underlying27 (by rfl) (by kernel_rfl)) (by rfl) ⟨g', c2, rfl, Kd.R_lower hrow (by rw [WS.out]; omega), hbel⟩
set_option maxHeartbeats 8000000 in
set_option maxRecDepth 100000 in
theorem implHas_calls (A : Option Addr) (c : Nat) (l : List Int) (K : Nat) (t : Int) (h : List Int) (i : Int) (w : World) (hA : Kd.C (Kd.int .u8) w A l.length l) (hc : l.length ≤ c) (hn : 1 ≤ l.length ∧ l.length ≤ 2000) (hk : 1 ≤ K ∧ K ≤ 50) (ht : 0 ≤ t ∧ t < 4294967296) (hl : h.length = 32) (hb : Bytes h) (hi : 0 ≤ i ∧ i < 4294967296) (hBy : Bytes l) :
    Calls Try.prog 13 #[.agg #[.slice A l.length c, .int .u32 (K : Int), .int .u32 t], .agg (opc h i).toArray] w fun e w' => e = .returned (.bool (hasB l.length t (ob h i) l K)) ∧ Below w.heap.size w w' := by
  have hopc := outPoint_calls h i
  have hhaso := fun base F M g n c l k t P w (hbase : base ≤ w.heap.size) => hasOut_calls base F M g n c k l t P h i w hbase
  obtain ⟨cs, hcs⟩ : ∃ cs, (opc h i).toArray = cs := ⟨_, rfl⟩
  have hz : cs.size = 33 := by rw [← hcs]; simp [opc_len, hl]
  have hone : cs.all (·.oneCell') = true := by rw [← hcs]; exact all_oneCell_toArray (opc_one h i)
  obtain ⟨n, hnn⟩ : ∃ n, l.length = n := ⟨_, rfl⟩
  obtain ⟨k, hkk⟩ : ∃ k : Int, (K : Int) = k := ⟨_, rfl⟩
  rw [hcs] at hopc ⊢
  have hB0 : Below w.heap.size w ((w.alloc (.cells #[.slice A n c, .int .u32 k, .int .u32 t] 27)).alloc (.cells cs 30)) := below_alloc (below_alloc (Below.refl _ _) _) _
  have hc0 : ∀ W, Below ((w.alloc (.cells #[.slice A n c, .int .u32 k, .int .u32 t] 27)).alloc (.cells cs 30)).heap.size ((w.alloc (.cells #[.slice A n c, .int .u32 k, .int .u32 t] 27)).alloc (.cells cs 30)) W → W.heap[w.heap.size]? = some (.cells #[.slice A n c, .int .u32 k, .int .u32 t] 27 (0, 0)) ∧ W.heap[w.heap.size + 1]? = some (.cells cs 30 (0, 0)) := fun W hW =>
    ⟨blk_below (blk_below (heap_alloc_new w _) (below_alloc (Below.refl _ _) _)) hW, by have := blk_below (heap_alloc_new (w.alloc (.cells #[.slice A n c, .int .u32 k, .int .u32 t] 27)) (.cells cs 30)) hW; simpa using this⟩
  have HC := Lib.hid hc0
  have HBW := Lib.hid hB0
  have HFO := Lib.hid (show ∀ W, Below ((w.alloc (.cells #[.slice A n c, .int .u32 k, .int .u32 t] 27)).alloc (.cells cs 30)).heap.size ((w.alloc (.cells #[.slice A n c, .int .u32 k, .int .u32 t] 27)).alloc (.cells cs 30)) W → Calls Try.prog 18 #[.agg #[.slice A n c, .int .u32 k, .int .u32 t], .int .u8 0] W fun e w' => ∃ F M g c', e = .returned (.pointer (some ⟨F, 0, none⟩)) ∧ Flt W.heap.size F M g n c' l k t 0 w' ∧ Below W.heap.size W w' from fun W hW => by
    have := filterOf_calls A c l k t W (Kd.C_below (Kd.C_below hA hB0) hW) hc hn
    rwa [hnn] at this)
  have HOP := Lib.hid (fun w => hopc w hl)
  have HHAS := Lib.hid (show ∀ W base F M g c' P, base ≤ W.heap.size → Flt base F M g n c' l k t 0 W → W.heap[P]? = some (.cells cs 46 (0, 0)) → Calls Try.prog 25 #[.pointer (some ⟨F, 0, none⟩), .pointer (some ⟨P, 0, none⟩)] W fun e w' => e = .returned (.bool (hasB n t (ob h i) l K)) ∧ Below base W w' from fun W base F M g c' P h1 h2 h3 => by
    subst hkk
    exact hhaso _ F M g n c' l K t P W h1 h2 (by rw [hcs]; exact h3) hl hb hi (by rw [← hnn]; exact hn) hk ht hBy)
  have HZ := Lib.hid hz
  have H1 := Lib.hid hone
  obtain ⟨r, hr⟩ : ∃ r, hasB n t (ob h i) l K = r := ⟨_, rfl⟩
  rw [hnn, hkk, hr]
  rw [hr] at HHAS
  clear hA hc hn hk ht hl hb hi hopc hhaso hcs hz hone hnn hkk hB0 hc0 hr hBy
  go_enter Try.func13, Try.ntmps13
  go_wp2_with (first
    | (refine wpList_load_list rfl 30 (.tmp 3) rfl ⟨_, 0, none⟩ rfl cs.toList _ (box_list _ cs 30 _ (HC.out _ (Below.refl _ _)).2) Try.underlying30 rfl ?aI ?_; go_must (case aI => rw [Array.length_toList, HZ.out]; rfl); go_must (simp only [Array.toArray_toList]))
    | (go_at_call 19; go_must ((with_reducible refine (HOP.out _).mono ?_); rintro e w2 ⟨rfl, hB2⟩; have HB2 := Lib.hid hB2; clear hB2))
    | (refine wpList_store_row rfl 46 (.tmp 5) (.tmp 7) rfl _ cs rfl rfl 46 _ (heap_alloc_new _ _) ?aS ?aL H1.out ?_; go_must (case aS => rw [HZ.out]; rfl); go_must (case aL => rw [HZ.out]; rfl); go_must (have hp3 := setRow_heap (w2.alloc (.cells #[.int .u8 0, .int .u8 0, .int .u8 0, .int .u8 0, .int .u8 0, .int .u8 0, .int .u8 0, .int .u8 0, .int .u8 0, .int .u8 0, .int .u8 0, .int .u8 0, .int .u8 0, .int .u8 0, .int .u8 0, .int .u8 0, .int .u8 0, .int .u8 0, .int .u8 0, .int .u8 0, .int .u8 0, .int .u8 0, .int .u8 0, .int .u8 0, .int .u8 0, .int .u8 0, .int .u8 0, .int .u8 0, .int .u8 0, .int .u8 0, .int .u8 0, .int .u8 0, .int .u32 0] 46)) w2.heap.size _ cs _ _ (heap_alloc_new w2 _); have hb3 := below_setRow (below_alloc (Below.refl w2.heap.size w2) (.cells #[.int .u8 0, .int .u8 0, .int .u8 0, .int .u8 0, .int .u8 0, .int .u8 0, .int .u8 0, .int .u8 0, .int .u8 0, .int .u8 0, .int .u8 0, .int .u8 0, .int .u8 0, .int .u8 0, .int .u8 0, .int .u8 0, .int .u8 0, .int .u8 0, .int .u8 0, .int .u8 0, .int .u8 0, .int .u8 0, .int .u8 0, .int .u8 0, .int .u8 0, .int .u8 0, .int .u8 0, .int .u8 0, .int .u8 0, .int .u8 0, .int .u8 0, .int .u8 0, .int .u32 0] 46)) (Nat.le_refl _) cs; generalize hW3 : World.setRow (w2.alloc (.cells #[.int .u8 0, .int .u8 0, .int .u8 0, .int .u8 0, .int .u8 0, .int .u8 0, .int .u8 0, .int .u8 0, .int .u8 0, .int .u8 0, .int .u8 0, .int .u8 0, .int .u8 0, .int .u8 0, .int .u8 0, .int .u8 0, .int .u8 0, .int .u8 0, .int .u8 0, .int .u8 0, .int .u8 0, .int .u8 0, .int .u8 0, .int .u8 0, .int .u8 0, .int .u8 0, .int .u8 0, .int .u8 0, .int .u8 0, .int .u8 0, .int .u8 0, .int .u8 0, .int .u32 0] 46)) w2.heap.size cs = W3 at hp3 hb3 ⊢; have HP3 := Lib.hid hp3; have HB3 := Lib.hid (below_step HB2.out hb3); clear hp3 hb3 hW3; have hh_ := HC.out _ HB3.out; have z0 := (blk_cell hh_.1 0).trans rfl; have z1 := (blk_cell hh_.1 1).trans rfl; have z2 := (blk_cell hh_.1 2).trans rfl; clear hh_))
    | (go_at_call 18; go_must ((with_reducible refine (HFO.out _ HB3.out).mono ?_); rintro e w4 ⟨F, M, g, c', rfl, hF4, hB4⟩; have HF4 := Lib.hid hF4; have HP4 := Lib.hid (blk_below HP3.out hB4); have HB4 := Lib.hid (below_step HB3.out hB4); have HS4 := Lib.hid (Nat.le_trans HB3.out.size hB4.size); have HL4 := Lib.hid hB4.size; clear hF4 hB4 z0 z1 z2))
    | (go_at_call 25; go_must ((with_reducible refine (HHAS.out _ _ F M g c' _ HL4.out HF4.out HP4.out).mono ?_); rintro e w5 ⟨rfl, hB5⟩; have HB5 := Lib.hid hB5; clear hB5)))
  go_ret
  exact ⟨rfl, below_step HBW.out (HB4.out.trans (below_low HB3.out.size HB5.out))⟩
end Go.Proofs.Ytojadhcbjcpifaa.Bl
