/-
  impl.txOf: a transaction of wire's is made of one by value.
-/
import Derived.Test.YtkmlpoggbfbnaaaGd
import Derived.Test.YtkmlpoggbfbnaaaGa
namespace Go.Proofs.Ytkmlpoggbfbnaaa.Tx
open Go.RowKit Go.Proofs.YtkmlpoggbfbnaaaW.PrintWords Go.Proofs.YtkmlpoggbfbnaaaW.PrintLast Go.Proofs.Ytkmlpoggbfbnaaa.Reg
set_option linter.unusedSimpArgs false
set_option linter.unusedVariables false

/-- On the way: the box B0 of the argument, the transaction M that is being made. -/
structure Wp (w0 w : World) (B0 M : Nat) (cs : Array Value) (x : TX) (v1 v2 : Value) (l1 : List TI) (l2 : List PFnTxIDs.S45) : Prop where
  B : Below w0.heap.size w0 w
  tx : w.heap[B0]? = some (.cells cs 26 (0, 0))
  blk : w.heap[M]? = some (.cells #[.int .i32 x.v, v1, v2, .int .u32 x.k] 61 (0, 0))
  ins : kPI.R 62 w w0.heap.size (fun k => k ≠ M ∧ k ≠ B0) v1 l1
  outs : kPO.R 71 w w0.heap.size (fun k => k ≠ M ∧ k ≠ B0) v2 l2
theorem Wp.below {w0 w w1 : World} {B0 M : Nat} {cs : Array Value} {x : TX} {v1 v2 : Value} {l1 : List TI} {l2 : List PFnTxIDs.S45} (h : Wp w0 w B0 M cs x v1 v2 l1 l2) (hb : Below w.heap.size w w1) : Wp w0 w1 B0 M cs x v1 v2 l1 l2 :=
  ⟨below_then h.B h.B.size hb, (hb.block _ (blk_lt h.tx)).trans h.tx, (hb.block _ (blk_lt h.blk)).trans h.blk, Kd.R_below h.ins hb, Kd.R_below h.outs hb⟩
theorem info_pi : (Try.prog.info? 62).map (fun i => (i.zero, i.size, i.bytes)) = some (some (.pointer none), kPI.sz, 8) := by kernel_rfl
theorem info_po : (Try.prog.info? 71).map (fun i => (i.zero, i.size, i.bytes)) = some (some (.pointer none), kPO.sz, 8) := by kernel_rfl
/-- An input that was boxed just now, as an element of a row of pointers. -/
theorem boxI_made {w8 : World} {y : TI} {v7 v8 : Value} {base lo : Nat} {c : Array Value} (h0 : base ≤ lo) (hlt : lo < w8.heap.size) (h7 : (Kd.int .u8).R 5 w8 lo (fun _ => True) v7 y.s)
    (h8 : (Kd.slice 5 (Kd.int .u8)).R 40 w8 lo (fun _ => True) v8 y.w) (hc : c = (opc y.h y.i ++ ([v7, v8, .int .u32 y.q] : List Value)).toArray) (hl : y.h.length = 32) :
    kPI.M (w8.alloc (.cells c 70)) base (fun k => lo ≤ k) y [.pointer (some ⟨w8.heap.size, 0, none⟩)] := by
  refine ⟨w8.heap.size, c, rfl, by omega, by show lo ≤ w8.heap.size; omega, heap_alloc_new _ _, ?_⟩
  rw [hc]
  exact kTI_mkM _ _ _ _ hl (Kd.R_alloc (Kd.R_lower (Kd.R_mono (Kd.R_bound h7) (fun k hk => ⟨hk.2.1, by have := hk.2.2.1; omega⟩)) h0) _) (Kd.R_alloc (Kd.R_lower (Kd.R_mono (Kd.R_bound h8) (fun k hk => ⟨hk.2.1, by have := hk.2.2.1; omega⟩)) h0) _)
theorem nameRI {w : World} {e base : Nat} {ok : Nat → Prop} {v : Value} {α : Type} {d : Kd α} {xs : List α} (h : d.R e w base ok v xs) : ∃ y, y = xs ∧ d.R e w base ok v y := ⟨xs, rfl, h⟩
theorem Wp.ne {w0 w : World} {B0 M : Nat} {cs : Array Value} {x : TX} {v1 v2 : Value} {l1 : List TI} {l2 : List PFnTxIDs.S45} (h : Wp w0 w B0 M cs x v1 v2 l1 l2) : some M ≠ v1.ownBlock ∧ some B0 ≠ v1.ownBlock ∧ some M ≠ v2.ownBlock ∧ some B0 ≠ v2.ownBlock :=
  ⟨fun e => (h.ins.1 _ e.symm).1 rfl, fun e => (h.ins.1 _ e.symm).2 rfl, fun e => (h.outs.1 _ e.symm).1 rfl, fun e => (h.outs.1 _ e.symm).2 rfl⟩
/-- Behind the append to the inputs, and the store. -/
theorem Wp.push1 {w0 w W w1 : World} {B0 M : Nat} {cs : Array Value} {x : TX} {v1 v1' : Value} {l1 l1' : List TI} (h : Wp w0 w B0 M cs x v1 (.slice none 0 0) l1 []) (hW : Below w.heap.size w W)
    (hR : kPI.R 62 w1 w0.heap.size (fun k => k ≠ M ∧ k ≠ B0) v1' l1') (hB : Below w0.heap.size w0 w1) (hg : W.grownBy w1 v1.ownBlock) (hM : w0.heap.size ≤ M) (hne : B0 ≠ M) : Wp w0 (w1.setCell ⟨M, 1, none⟩ v1') B0 M cs x v1' (.slice none 0 0) l1' [] :=
  ⟨below_set hB hM, blk_far (blk_grown (blk_below h.tx hW) hg h.ne.2.1) hne _, blk_put (blk_grown (blk_below h.blk hW) hg h.ne.1) 1 v1' rfl, Kd.R_far hR (fun k hk => hk.1) v1', Kd.R_nil _ _ _ _ _⟩
theorem Wp.push2 {w0 w W w1 : World} {B0 M : Nat} {cs : Array Value} {x : TX} {v1 v2 v2' : Value} {l1 : List TI} {l2 l2' : List PFnTxIDs.S45} (h : Wp w0 w B0 M cs x v1 v2 l1 l2) (hW : Below w.heap.size w W)
    (hR : kPO.R 71 w1 w0.heap.size (fun k => k ≠ M ∧ k ≠ B0) v2' l2') (hB : Below w0.heap.size w0 w1) (hg : W.grownBy w1 v2.ownBlock) (hM : w0.heap.size ≤ M) (hne : B0 ≠ M) : Wp w0 (w1.setCell ⟨M, 2, none⟩ v2') B0 M cs x v1 v2' l1 l2' :=
  ⟨below_set hB hM, blk_far (blk_grown (blk_below h.tx hW) hg h.ne.2.2.2) hne _, blk_put (blk_grown (blk_below h.blk hW) hg h.ne.2.2.1) 2 v2' rfl,
    Kd.R_far (Kd.R_over' (Kd.R_below h.ins hW) (Kd.R_typed (Kd.R_below h.outs hW)) (by decide) hg) (fun k hk => hk.1) v2', Kd.R_far hR (fun k hk => hk.1) v2'⟩
theorem built_ti (h : List Int) (i : Int) (hl : h.length = 32) (A : Option Addr) (n c : Nat) (A' : Option Addr) (n' c' : Nat) (q : Int) : Try.prog.built 70 [(0, .agg (opc h i).toArray), (1, .slice A n c), (2, .slice A' n' c'), (3, .int .u32 q)] = some (opc h i ++ ([Value.slice A n c, Value.slice A' n' c', Value.int .u32 q] : List Value)).toArray := by
  obtain ⟨a0, a1, a2, a3, a4, a5, a6, a7, a8, a9, a10, a11, a12, a13, a14, a15, a16, a17, a18, a19, a20, a21, a22, a23, a24, a25, a26, a27, a28, a29, a30, a31, rfl⟩ := list32 h hl
  kernel_rfl
theorem boxO_made {w8 : World} {y : PFnTxIDs.S45} {v7 : Value} {base lo : Nat} (h0 : base ≤ lo) (hlt : lo ≤ w8.heap.size) (h7 : (Kd.int .u8).R 5 w8 lo (fun _ => True) v7 y.f1) :
    kPO.M (w8.alloc (.cells #[.int .i64 y.f0, v7] 73)) base (fun k => lo ≤ k) y [.pointer (some ⟨w8.heap.size, 0, none⟩)] := by
  refine ⟨w8.heap.size, _, rfl, by omega, by show lo ≤ w8.heap.size; omega, heap_alloc_new _ _, ?_⟩
  exact PFnTxIDs.k45_mkM _ _ _ y (Kd.R_alloc (Kd.R_lower (Kd.R_mono (Kd.R_bound h7) (fun k hk => ⟨hk.2.1, by have := hk.2.2.1; omega⟩)) h0) _)
theorem copied_eq (l : List Int) (hl : l.length ≤ 2147483647) : PFnTxIDs.impl_copied.f l = some l := by
  unfold PFnTxIDs.impl_copied.f
  show (if ([] : List Int).length + l.length < 140737488355328 then some ([] ++ l) else none) = some l
  rw [if_pos (by simp only [List.length_nil]; omega)]; rfl
theorem copies_loop (l : List (List Int)) (hl : l.length ≤ 2147483647) (hs : ∀ u ∈ l, u.length ≤ 2147483647) : ∀ d i, i + d = l.length → PFnTxIDs.impl_copies.l0 (d + 1) l (l.take i) (i : Int) = some l
  | 0, i, h => by
    rw [PFnTxIDs.impl_copies.l0, if_neg (by omega), List.take_of_length_le (by omega)]
  | d + 1, i, h => by
    have hi : i < l.length := by omega
    have hw : wrap64 ((i : Int) + 1) = ((i + 1 : Nat) : Int) := by rw [wrap64_id (by omega) (by omega)]; omega
    have hr : PFnTxIDs.rd_L1 l (i : Int) = l[i] := by simp [PFnTxIDs.rd_L1, hi]
    have ih := copies_loop l hl hs d (i + 1) (by omega)
    have ht : l.take (i + 1) = l.take i ++ [l[i]] := by rw [List.take_add_one]; simp [hi]
    rw [PFnTxIDs.impl_copies.l0, if_pos (by omega), if_pos (by omega), hr, copied_eq _ (hs _ (List.getElem_mem _))]
    show (if (l.take i).length < 5864062014805 then _ else none) = some l
    rw [if_pos (by rw [List.length_take]; omega), hw, ← ht, ih]
theorem copies_eq (l : List (List Int)) (hl : l.length ≤ 2147483647) (hs : ∀ u ∈ l, u.length ≤ 2147483647) : PFnTxIDs.impl_copies.f (l.length + 1) l = some l := by
  have := copies_loop l hl hs l.length 0 (by omega)
  simpa [PFnTxIDs.impl_copies.f] using this
/-- A new box is written whole: the world behind it by a letter. -/
theorem wpList_box_letter {P : Program} {ops : Array Oper} {rest : List Oper} {o : Oper} {a : Act} {w : World} {Q : Exit → Act → World → Prop} (hgd : o.guard = none) (ty : TypeId) (x y : Operand) (ho : o.op = .store ty x y)
    (cells old : Array Value) (t : TypeId) (hx : a.eval x = .pointer (some ⟨w.heap.size, 0, none⟩)) (hy : a.eval y = .agg cells) (hi : (P.info? ty).map (·.size) = some cells.size)
    (hold : old.size = cells.size) (h1 : cells.all (·.oneCell') = true)
    (h : ∀ W, W.heap[w.heap.size]? = some (.cells cells t (0, 0)) → Below w.heap.size w W → W.heap.size = w.heap.size + 1 → wpList P ops Q rest (a.put o.dst undef) W) : wpList P ops Q (o :: rest) a (w.alloc (.cells old t)) := by
  refine wpList_store_row hgd ty x y ho w.heap.size cells hx hy t old (heap_alloc_new _ _) hi hold h1 (h _ (setRow_heap _ _ _ _ _ _ (heap_alloc_new _ _)) (below_setRow (below_alloc (Below.refl _ _) _) (Nat.le_refl _) _) ?_)
  simp [World.setRow]
set_option maxHeartbeats 8000000 in
set_option maxRecDepth 100000 in
theorem of_calls (x : TX) (A1 : Option Addr) (c1 : Nat) (A2 : Option Addr) (c2 : Nat) (w : World) (h : TxIn w x A1 c1 A2 c2) (hf : fit2 x = true) :
    Calls Try.prog 16 #[.agg (txc x A1 c1 A2 c2)] w fun e w' => ∃ g v1 v2, e = .returned (.pointer (some ⟨g, 0, none⟩)) ∧ Wx w' w.heap.size g x v1 v2 ∧ Below w.heap.size w w' := by
  obtain ⟨cs, hcs⟩ : ∃ cs, txc x A1 c1 A2 c2 = cs := ⟨_, rfl⟩
  have k0 : (w.alloc (.cells cs 26)).cell? ⟨w.heap.size, 0, none⟩ = some (.int .i32 x.v) := by rw [cell_of_row _ _ _ _ _ _ (heap_alloc_new w _), ← hcs]; rfl
  have k3 : (w.alloc (.cells cs 26)).cell? ⟨w.heap.size, 3, none⟩ = some (.int .u32 x.k) := by rw [cell_of_row _ _ _ _ _ _ (heap_alloc_new w _), ← hcs]; rfl
  rw [hcs]
  have H := Lib.hid h
  have HCS := Lib.hid hcs
  have HF := Lib.hid hf
  have bm : Try.prog.built 61 [(0, .int .i32 x.v), (3, .int .u32 x.k)] = some #[.int .i32 x.v, .slice none 0 0, .slice none 0 0, .int .u32 x.k] := by kernel_rfl
  have BM := Lib.hid bm
  clear h hcs hf bm
  go_enter Try.func16, Try.ntmps16
  go_wp2
  go_loopg [4] (x.ins.length + 1) (fun kq v4 w' => ∃ (i : Nat) (xi : Int) (v1 : Value), v4 = .int .i64 xi ∧ Hid (xi = (i : Int)) ∧ Hid (i + kq = x.ins.length + 1) ∧ Hid (Wp w w' w.heap.size (w.heap.size + 1) cs x v1 (.slice none 0 0) (x.ins.take i) []))
  case atStart =>
    refine ⟨0, 0, .slice none 0 0, rfl, Lib.hid rfl, Lib.hid (Nat.zero_add _), Lib.hid ⟨?_, ?_, ?_, Kd.R_nil _ _ _ _ _, Kd.R_nil _ _ _ _ _⟩⟩
    · exact below_alloc (below_alloc (Below.refl _ _) _) _
    · rw [(below_alloc (Below.refl _ _) _ : Below (w.alloc (.cells cs 26)).heap.size (w.alloc (.cells cs 26)) _).block _ (blk_lt (heap_alloc_new w _))]
      exact heap_alloc_new w _
    · rw [show w.heap.size + 1 = (w.alloc (.cells cs 26)).heap.size from by simp]; exact heap_alloc_new _ _
  case round =>
    obtain ⟨i, xi, v1, rfl, HI, HK, HP⟩ := hrel
    have c1_ : wr.cell? ⟨w.heap.size, 1, none⟩ = some (.slice A1 x.ins.length c1) := by rw [cell_of_row _ _ _ _ _ _ HP.out.tx, ← HCS.out]; rfl
    by_cases ci : i < x.ins.length
    · have p0 : 0 ≤ xi := by rw [HI.out]; omega
      have q0 : xi < (x.ins.length : Int) := by rw [HI.out]; omega
      obtain ⟨ad, ds, B1, d1, B2, d2, rfl, hz, h1, hds, hl, l1, l2, g1, g2, hce⟩ := at_step H.out.g1 xi p0 q0
      have hfi : x.ins.length ≤ 2147483647 ∧ (∀ y ∈ x.ins, y.s.length ≤ 2147483647 ∧ y.w.length ≤ 2147483647 ∧ ∀ u ∈ y.w, u.length ≤ 2147483647) := by
        have hf := HF.out
        simp only [fit2, fit3, fit4, fit5, Bool.and_eq_true, decide_eq_true_eq, List.all_eq_true] at hf
        exact ⟨hf.1.1, fun y hy => ⟨(hf.1.2 y hy).1, (hf.1.2 y hy).2.1, (hf.1.2 y hy).2.2⟩⟩
      have hw1 : wrap64 (xi + 1) = xi + 1 := by have := hfi.1; exact wrap64_id (by omega) (by omega)
      have hyf := hfi.2 (rdT x.ins xi) (by
        rw [rdT, List.getD_eq_getElem?_getD, List.getElem?_eq_getElem (show xi.toNat < x.ins.length by omega)]
        exact List.getElem_mem _)
      have htk : x.ins.take (i + 1) = x.ins.take i ++ [rdT x.ins xi] := by
        rw [List.take_add_one, HI.out, rdT]; simp [ci]
      obtain ⟨y, hy⟩ : ∃ y, rdT x.ins xi = y := ⟨_, rfl⟩
      rw [hy] at hds hl l1 l2 g1 g2 hyf htk
      obtain ⟨k1, rfl⟩ : ∃ k1, gk = k1 + 1 := ⟨gk - 1, by have := HK.out; omega⟩
      have pp := eq_true p0
      have qq := eq_true q0
      have qb : decide (xi < (x.ins.length : Int)) = true := decide_eq_true q0
      have HCE := Lib.hid hce
      have HZ := Lib.hid hz
      have H1 := Lib.hid h1
      have HL := Lib.hid hl
      have L1 := Lib.hid l1
      have L2 := Lib.hid l2
      have G1 := Lib.hid g1
      have G2 := Lib.hid g2
      have HDS := Lib.hid hds
      have HYF := Lib.hid hyf
      have HTK := Lib.hid htk
      have CI := Lib.hid ci
      have HFI := Lib.hid hfi.1
      have HB := Lib.hid HP.out.B
      clear hce hz h1 p0 q0 hy hds hl l1 l2 g1 g2 hyf htk ci hfi
      go_wp2_with (first | (refine wpList_load_list rfl 43 (.tmp 23) rfl (ad.add (xi.toNat * 36)) rfl ds.toList _ (HCE.out _ HB.out) Try.underlying43 rfl ?aI ?_; go_must (case aI => rw [Array.length_toList, HZ.out]; rfl); go_must (simp only [Array.toArray_toList])) | (refine wpList_box_letter rfl 43 (.tmp 5) (.tmp 24) rfl ds _ 43 rfl rfl ?aS ?aL H1.out ?_; go_must (case aS => rw [HZ.out]; rfl); go_must (case aL => rw [HZ.out]; rfl); go_must (intro W5 hg5 hb5 hs5); have HG5 := Lib.hid hg5; have HB5 := Lib.hid hb5; have HS5 := Lib.hid hs5; clear hg5 hb5 hs5))
      have HP5 := Lib.hid (HP.out.below HB5.out)
      have HOK := Lib.hid (show ∀ k, wr.heap.size ≤ k → (k ≠ w.heap.size + 1 ∧ k ≠ w.heap.size) ∧ some k ≠ v1.ownBlock from fun k hk => ⟨⟨by have := blk_lt HP.out.blk; omega, by have := blk_lt HP.out.blk; omega⟩, fun e => by have := Kd.R_lt HP.out.ins k e.symm; omega⟩)
      have HOK2 := Lib.hid (show ∀ k, wr.heap.size ≤ k → (k ≠ w.heap.size + 1 ∧ k ≠ w.heap.size) from fun k hk => (HOK.out k hk).1)
      have HWR := Lib.hid (below_size HB.out)
      have HNE := Lib.hid ((HOK.out wr.heap.size (Nat.le_refl _)).2)
      have HGM := Lib.hid (show wr.heap.size ≠ w.heap.size + 1 from Nat.ne_of_gt (blk_lt HP.out.blk))
      have HP6 := Lib.hid (HP5.out.below (below_drew (Below.refl _ _)))
      have HG6 := Lib.hid (blk_drew HG5.out)
      have hs : ∀ W' : World, W'.heap[w.heap.size + 1]? = some (.cells #[.int .i32 x.v, v1, .slice none 0 0, .int .u32 x.k] 61 (0, 0)) → W'.heap[wr.heap.size]? = some (.cells ds 43 (0, 0)) →
          W'.cell? ⟨w.heap.size + 1, 1, none⟩ = some v1 ∧ Lies W' ⟨wr.heap.size, 0, none⟩ (opc y.h y.i) ∧ W'.cell? ⟨wr.heap.size, 33, none⟩ = some (.slice B1 y.s.length d1) ∧ W'.cell? ⟨wr.heap.size, 34, none⟩ = some (.slice B2 y.w.length d2) ∧ W'.cell? ⟨wr.heap.size, 35, none⟩ = some (.int .u32 y.q) := by
        intro W' h1 h2
        have hcell : ∀ j v, (tic y B1 d1 B2 d2)[j]? = some v → W'.cell? ⟨wr.heap.size, j, none⟩ = some v := by
          intro j v hj
          rw [cell_of_row _ _ _ _ _ _ h2, ← HDS.out]; simpa using hj
        refine ⟨by rw [cell_of_row _ _ _ _ _ _ h1]; rfl, ?_, hcell 33 _ (tic_33 _ _ _ _ _ HL.out), hcell 34 _ (tic_34 _ _ _ _ _ HL.out), hcell 35 _ (tic_35 _ _ _ _ _ HL.out)⟩
        intro j v hj
        have hjl := (List.getElem?_eq_some_iff.1 hj).1
        rw [Addr.add_mid, Nat.zero_add]
        exact hcell j v (by rw [tic, List.getElem?_append_left hjl]; exact hj)
      have HS := Lib.hid hs
      have HCP := Lib.hid (show ∀ W : World, Below w.heap.size w W → Calls Try.prog 27 #[.slice B1 y.s.length d1] W fun e w' => ∃ v0, e = .returned v0 ∧ Kd.R (Kd.int .u8) 5 w' W.heap.size (fun _ => True) v0 y.s ∧ Below W.heap.size W w' from fun W hW => PFnTxIDs.impl_copied.calls B1 d1 y.s y.s W (Kd.C_below G1.out hW) L1.out (copied_eq _ HYF.out.1))
      have HCS8 := Lib.hid (show ∀ W : World, Below w.heap.size w W → Calls Try.prog 28 #[.slice B2 y.w.length d2] W fun e w' => ∃ v0, e = .returned v0 ∧ Kd.R (Kd.slice 5 (Kd.int .u8)) 40 w' W.heap.size (fun _ => True) v0 y.w ∧ Below W.heap.size W w' from fun W hW => (PFnTxIDs.impl_copies.calls (y.w.length + 1) B2 d2 y.w y.w W (Kd.C_below G2.out hW) L2.out (copies_eq _ HYF.out.2.1 HYF.out.2.2)).mono fun _ _ ⟨v, h1, h2, h3⟩ => ⟨v, h1, Kd.S_R h2, h3⟩)
      clear hs HP5 HG5 HB5 HS5
      refine start_ (n := 23) (S := fun w' => w'.cell? ⟨w.heap.size + 1, 1, none⟩ = some v1 ∧ Lies w' ⟨wr.heap.size, 0, none⟩ (opc y.h y.i) ∧ w'.cell? ⟨wr.heap.size, 33, none⟩ = some (.slice B1 y.s.length d1) ∧ w'.cell? ⟨wr.heap.size, 34, none⟩ = some (.slice B2 y.w.length d2) ∧ w'.cell? ⟨wr.heap.size, 35, none⟩ = some (.int .u32 y.q)) (ds := [22]) #[false, false, false, false, false, false, false, false, false, false, false, false, false, false, false, false, false, false, false, false, false, false, false] (by kernel_rfl) rfl rfl ⟨(HS.out _ HP6.out.blk HG6.out).1, (HS.out _ HP6.out.blk HG6.out).2.1, (HS.out _ HP6.out.blk HG6.out).2.2.1, (HS.out _ HP6.out.blk HG6.out).2.2.2.1, (HS.out _ HP6.out.blk HG6.out).2.2.2.2⟩ (fun hHeld => ?_)
      refine pure_ (i := 0) (N := some 25) (v := ?_) (a' := ?_) #[true, false, false, false, false, false, false, false, false, false, false, false, false, false, false, false, false, false, false, false, false, false, false] rfl rfl (by kernel_rfl) (fun _ _ _ h => h) (Or.inl ⟨by rfl, ?_⟩) ?_ ?_
      rotate_left
      · intro w'
        go_simp
        with_reducible rfl
      rotate_left
      · simp only [Act.put, List.setIfInBounds_toArray, List.set_cons_zero, List.set_cons_succ, i64_w, i32_w]
        rfl
      refine pure_ (i := 1) (N := some 26) (v := ?_) (a' := ?_) #[true, true, false, false, false, false, false, false, false, false, false, false, false, false, false, false, false, false, false, false, false, false, false] rfl rfl (by kernel_rfl) (fun _ _ _ h => h) (Or.inl ⟨by rfl, ?_⟩) ?_ ?_
      rotate_left
      · intro w'
        go_simp
        with_reducible rfl
      rotate_left
      · simp only [Act.put, List.setIfInBounds_toArray, List.set_cons_zero, List.set_cons_succ, i64_w, i32_w]
        rfl
      refine pure_ (i := 2) (N := some 27) (v := ?_) (a' := ?_) #[true, true, true, false, false, false, false, false, false, false, false, false, false, false, false, false, false, false, false, false, false, false, false] rfl rfl (by kernel_rfl) (fun _ _ _ h => h) (Or.inl ⟨by rfl, ?_⟩) ?_ ?_
      rotate_left
      · intro w'
        go_simp
        with_reducible rfl
      rotate_left
      · simp only [Act.put, List.setIfInBounds_toArray, List.set_cons_zero, List.set_cons_succ, i64_w, i32_w]
        rfl
      refine pure_ (i := 3) (N := some 28) (v := ?_) (a' := ?_) #[true, true, true, true, false, false, false, false, false, false, false, false, false, false, false, false, false, false, false, false, false, false, false] rfl rfl (by kernel_rfl) (fun _ _ _ h => h) (Or.inl ⟨by rfl, ?_⟩) ?_ ?_
      rotate_left
      · intro w'
        go_simp
        with_reducible rfl
      rotate_left
      · simp only [Act.put, List.setIfInBounds_toArray, List.set_cons_zero, List.set_cons_succ, i64_w, i32_w]
        rfl
      refine pure_ (i := 5) (N := some 30) (v := ?_) (a' := ?_) #[true, true, true, true, false, true, false, false, false, false, false, false, false, false, false, false, false, false, false, false, false, false, false] rfl rfl (by kernel_rfl) (fun _ _ _ h => h) (Or.inl ⟨by rfl, ?_⟩) ?_ ?_
      rotate_left
      · intro w'
        go_simp
        with_reducible rfl
      rotate_left
      · simp only [Act.put, List.setIfInBounds_toArray, List.set_cons_zero, List.set_cons_succ, i64_w, i32_w]
        rfl
      refine pure_ (i := 8) (N := some 33) (v := ?_) (a' := ?_) #[true, true, true, true, false, true, false, false, true, false, false, false, false, false, false, false, false, false, false, false, false, false, false] rfl rfl (by kernel_rfl) (fun _ _ _ h => h) (Or.inl ⟨by rfl, ?_⟩) ?_ ?_
      rotate_left
      · intro w'
        go_simp
        with_reducible rfl
      rotate_left
      · simp only [Act.put, List.setIfInBounds_toArray, List.set_cons_zero, List.set_cons_succ, i64_w, i32_w]
        rfl
      refine pure_ (i := 11) (N := some 36) (v := ?_) (a' := ?_) #[true, true, true, true, false, true, false, false, true, false, false, true, false, false, false, false, false, false, false, false, false, false, false] rfl rfl (by kernel_rfl) (fun _ _ _ h => h) (Or.inl ⟨by rfl, ?_⟩) ?_ ?_
      rotate_left
      · intro w'
        go_simp
        with_reducible rfl
      rotate_left
      · simp only [Act.put, List.setIfInBounds_toArray, List.set_cons_zero, List.set_cons_succ, i64_w, i32_w]
        rfl
      refine pure_ (i := 14) (N := some 39) (v := ?_) (a' := ?_) #[true, true, true, true, false, true, false, false, true, false, false, true, false, false, true, false, false, false, false, false, false, false, false] rfl rfl (by kernel_rfl) (fun _ _ _ h => h) (Or.inl ⟨by rfl, ?_⟩) ?_ ?_
      rotate_left
      · intro w'
        go_simp
        with_reducible rfl
      rotate_left
      · simp only [Act.put, List.setIfInBounds_toArray, List.set_cons_zero, List.set_cons_succ, i64_w, i32_w]
        rfl
      refine take_ (i := 4) (N := some 29) (v := ?_) (a' := ?_) #[true, true, true, true, true, true, false, false, true, false, false, true, false, false, true, false, false, false, false, false, false, false, false] rfl rfl (by kernel_rfl) (fun _ _ _ h => h) (Or.inl ⟨by rfl, ?_⟩) hHeld ?_ ?_
      rotate_left
      · rintro w' ⟨s0, s1, s2, s3, s4⟩
        go_simp
        with_reducible rfl
      rotate_left
      · simp only [Act.put, List.setIfInBounds_toArray, List.set_cons_zero, List.set_cons_succ, i64_w, i32_w]
        rfl
      refine take_ (i := 6) (N := some 31) (v := ?_) (a' := ?_) #[true, true, true, true, true, true, true, false, true, false, false, true, false, false, true, false, false, false, false, false, false, false, false] rfl rfl (by kernel_rfl) (fun _ _ _ h => h) (Or.inl ⟨by rfl, ?_⟩) hHeld ?_ ?_
      rotate_left
      · rintro w' ⟨s0, s1, s2, s3, s4⟩
        refine (exec_load_list 39 (.tmp 30) (by rfl) ⟨wr.heap.size, 0, none⟩ (by rfl) (opc y.h y.i) _ s1 Try.underlying39 rfl (by rw [opc_len, HL.out]; rfl)).trans ?_
        with_reducible rfl
      rotate_left
      · simp only [Act.put, List.setIfInBounds_toArray, List.set_cons_zero, List.set_cons_succ, i64_w, i32_w]
        rfl
      refine take_ (i := 9) (N := some 34) (v := ?_) (a' := ?_) #[true, true, true, true, true, true, true, false, true, true, false, true, false, false, true, false, false, false, false, false, false, false, false] rfl rfl (by kernel_rfl) (fun _ _ _ h => h) (Or.inl ⟨by rfl, ?_⟩) hHeld ?_ ?_
      rotate_left
      · rintro w' ⟨s0, s1, s2, s3, s4⟩
        go_simp
        with_reducible rfl
      rotate_left
      · simp only [Act.put, List.setIfInBounds_toArray, List.set_cons_zero, List.set_cons_succ, i64_w, i32_w]
        rfl
      refine take_ (i := 12) (N := some 37) (v := ?_) (a' := ?_) #[true, true, true, true, true, true, true, false, true, true, false, true, true, false, true, false, false, false, false, false, false, false, false] rfl rfl (by kernel_rfl) (fun _ _ _ h => h) (Or.inl ⟨by rfl, ?_⟩) hHeld ?_ ?_
      rotate_left
      · rintro w' ⟨s0, s1, s2, s3, s4⟩
        go_simp
        with_reducible rfl
      rotate_left
      · simp only [Act.put, List.setIfInBounds_toArray, List.set_cons_zero, List.set_cons_succ, i64_w, i32_w]
        rfl
      refine take_ (i := 15) (N := some 40) (v := ?_) (a' := ?_) #[true, true, true, true, true, true, true, false, true, true, false, true, true, false, true, true, false, false, false, false, false, false, false] rfl rfl (by kernel_rfl) (fun _ _ _ h => h) (Or.inl ⟨by rfl, ?_⟩) hHeld ?_ ?_
      rotate_left
      · rintro w' ⟨s0, s1, s2, s3, s4⟩
        go_simp
        with_reducible rfl
      rotate_left
      · simp only [Act.put, List.setIfInBounds_toArray, List.set_cons_zero, List.set_cons_succ, i64_w, i32_w]
        rfl
      refine one_ (i := 7) (N := some 32) #[true, true, true, true, true, true, true, true, true, true, false, true, true, false, true, true, false, false, false, false, false, false, false] rfl rfl (by kernel_rfl) (by decide) (fun K hK => ?_)
      refine goes_ Try.func26 (by kernel_rfl) rfl #[.agg (opc y.h y.i).toArray] (by rfl) rfl rfl (by simp only [List.map_toArray, List.map_cons, List.map_nil]; rfl) ?_
      with_reducible refine (outPoint_calls y.h y.i _ HL.out).mono ?_
      rintro e w6 ⟨rfl, hB⟩
      refine ⟨_, rfl, ?_⟩
      have n0_ := Lib.hid (HP6.out.below hB); have n1_ := Lib.hid (blk_below HG6.out hB)
      clear HP6 HG6 hB; have HP6 := n0_; have HG6 := n1_; clear n0_ n1_
      refine hK.out _ _ ⟨(HS.out _ HP6.out.blk HG6.out).1, (HS.out _ HP6.out.blk HG6.out).2.1, (HS.out _ HP6.out.blk HG6.out).2.2.1, (HS.out _ HP6.out.blk HG6.out).2.2.2.1, (HS.out _ HP6.out.blk HG6.out).2.2.2.2⟩ (fun hHeld => ?_)
      clear hK K
      refine norm_ (a' := ?_) ?_ ?_
      rotate_left
      · show Act.put _ (some 32) _ = _
        simp only [Act.put, List.setIfInBounds_toArray, List.set_cons_zero, List.set_cons_succ, i64_w, i32_w]
        rfl
      refine one_ (i := 10) (N := some 35) #[true, true, true, true, true, true, true, true, true, true, true, true, true, false, true, true, false, false, false, false, false, false, false] rfl rfl (by kernel_rfl) (by decide) (fun K hK => ?_)
      refine goes_ Try.func27 (by kernel_rfl) rfl #[.slice B1 y.s.length d1] (by rfl) rfl rfl (by simp only [List.map_toArray, List.map_cons, List.map_nil]; rfl) ?_
      with_reducible refine (HCP.out _ HP6.out.B).mono ?_
      rintro e w7 ⟨v7, rfl, hR, hB⟩
      refine ⟨_, rfl, ?_⟩
      obtain ⟨A7, c7, rfl⟩ := Kd.R_slice hR
      have HR7 := Lib.hid (Kd.R_lower (base' := wr.heap.size) hR (Nat.le_of_lt (blk_lt HG6.out)))
      have n0_ := Lib.hid (HP6.out.below hB); have n1_ := Lib.hid (blk_below HG6.out hB)
      clear hR
      clear HP6 HG6 hB; have HP6 := n0_; have HG6 := n1_; clear n0_ n1_
      refine hK.out _ _ ⟨(HS.out _ HP6.out.blk HG6.out).1, (HS.out _ HP6.out.blk HG6.out).2.1, (HS.out _ HP6.out.blk HG6.out).2.2.1, (HS.out _ HP6.out.blk HG6.out).2.2.2.1, (HS.out _ HP6.out.blk HG6.out).2.2.2.2⟩ (fun hHeld => ?_)
      clear hK K
      refine norm_ (a' := ?_) ?_ ?_
      rotate_left
      · show Act.put _ (some 35) _ = _
        simp only [Act.put, List.setIfInBounds_toArray, List.set_cons_zero, List.set_cons_succ, i64_w, i32_w]
        rfl
      refine one_ (i := 13) (N := some 38) #[true, true, true, true, true, true, true, true, true, true, true, true, true, true, true, true, false, false, false, false, false, false, false] rfl rfl (by kernel_rfl) (by decide) (fun K hK => ?_)
      refine goes_ Try.func28 (by kernel_rfl) rfl #[.slice B2 y.w.length d2] (by rfl) rfl rfl (by simp only [List.map_toArray, List.map_cons, List.map_nil]; rfl) ?_
      with_reducible refine (HCS8.out _ HP6.out.B).mono ?_
      rintro e w8 ⟨v8, rfl, hR, hB⟩
      refine ⟨_, rfl, ?_⟩
      obtain ⟨A8, c8, rfl⟩ := Kd.R_slice hR
      have HR8 := Lib.hid (Kd.R_lower (base' := wr.heap.size) hR (Nat.le_of_lt (blk_lt HG6.out)))
      have n2_ := Lib.hid (Kd.R_below HR7.out hB); clear HR7; have HR7 := n2_; clear n2_
      have n0_ := Lib.hid (HP6.out.below hB); have n1_ := Lib.hid (blk_below HG6.out hB)
      clear hR
      clear HP6 HG6 hB; have HP6 := n0_; have HG6 := n1_; clear n0_ n1_
      have hbt := built_ti y.h y.i HL.out A7 y.s.length c7 A8 y.w.length c8 y.q
      obtain ⟨D, hD⟩ : ∃ D, (opc y.h y.i ++ ([Value.slice A7 y.s.length c7, Value.slice A8 y.w.length c8, Value.int .u32 y.q] : List Value)).toArray = D := ⟨_, rfl⟩
      rw [hD] at hbt
      have HBT := Lib.hid hbt; have HD := Lib.hid hD; clear hbt hD
      have HPM_ := Lib.hid (boxI_made HWR.out (blk_lt HG6.out) HR7.out HR8.out HD.out.symm HL.out : kPI.M _ w.heap.size _ y _)
      have HLO := Lib.hid (Nat.le_of_lt (blk_lt HG6.out))
      refine hK.out _ _ ⟨(HS.out _ HP6.out.blk HG6.out).1, (HS.out _ HP6.out.blk HG6.out).2.1, (HS.out _ HP6.out.blk HG6.out).2.2.1, (HS.out _ HP6.out.blk HG6.out).2.2.2.1, (HS.out _ HP6.out.blk HG6.out).2.2.2.2⟩ (fun hHeld => ?_)
      clear hK K
      refine norm_ (a' := ?_) ?_ ?_
      rotate_left
      · show Act.put _ (some 38) _ = _
        simp only [Act.put, List.setIfInBounds_toArray, List.set_cons_zero, List.set_cons_succ, i64_w, i32_w]
        rfl
      refine pure_ (i := 16) (N := some 41) (v := ?_) (a' := ?_) #[true, true, true, true, true, true, true, true, true, true, true, true, true, true, true, true, true, false, false, false, false, false, false] rfl rfl (by kernel_rfl) (fun _ _ _ h => h) (Or.inl ⟨by rfl, ?_⟩) ?_ ?_
      rotate_left
      · intro w'
        refine (exec_made w' 70 #[(0, .tmp 32), (1, .tmp 35), (2, .tmp 38), (3, .tmp 40)] (by rfl) _ (by simp [Act.eval]) D HBT.out).trans ?_
        with_reducible rfl
      rotate_left
      · simp only [Act.put, List.setIfInBounds_toArray, List.set_cons_zero, List.set_cons_succ, i64_w, i32_w]
        rfl
      refine one_ (i := 17) (N := some 42) #[true, true, true, true, true, true, true, true, true, true, true, true, true, true, true, true, true, true, false, false, false, false, false] rfl rfl (by kernel_rfl) (by decide) (fun K hK => ?_)
      refine value_ (w1 := ?_) (v := ?_) (by rfl) rfl ?_ ?_
      rotate_left 2
      · go_simp
        constructor
        · rfl
        · rfl
      have n0_ := Lib.hid (HP6.out.below (below_alloc (Below.refl _ _) (.cells D 70))); have n1_ := Lib.hid (blk_alloc HG6.out (.cells D 70))
      clear HP6 HG6; have HP6 := n0_; have HG6 := n1_; clear n0_ n1_
      refine hK.out _ _ ⟨(HS.out _ HP6.out.blk HG6.out).1, (HS.out _ HP6.out.blk HG6.out).2.1, (HS.out _ HP6.out.blk HG6.out).2.2.1, (HS.out _ HP6.out.blk HG6.out).2.2.2.1, (HS.out _ HP6.out.blk HG6.out).2.2.2.2⟩ (fun hHeld => ?_)
      clear hK K
      refine norm_ (a' := ?_) ?_ ?_
      rotate_left
      · show Act.put _ (some 42) _ = _
        simp only [Act.put, List.setIfInBounds_toArray, List.set_cons_zero, List.set_cons_succ, i64_w, i32_w]
        rfl
      refine one_ (i := 18) (N := some 43) #[true, true, true, true, true, true, true, true, true, true, true, true, true, true, true, true, true, true, true, false, false, false, false] rfl rfl (by kernel_rfl) (by decide) (fun K hK => ?_)
      refine value_ (w1 := ?_) (v := ?_) (by rfl) rfl ?_ ?_
      rotate_left 2
      · go_simp
        constructor
        · rfl
        · rfl
      refine hK.out _ _ ⟨(HS.out _ (blk_alloc HP6.out.blk _) (blk_alloc HG6.out _)).1, (HS.out _ (blk_alloc HP6.out.blk _) (blk_alloc HG6.out _)).2.1, (HS.out _ (blk_alloc HP6.out.blk _) (blk_alloc HG6.out _)).2.2.1, (HS.out _ (blk_alloc HP6.out.blk _) (blk_alloc HG6.out _)).2.2.2.1, (HS.out _ (blk_alloc HP6.out.blk _) (blk_alloc HG6.out _)).2.2.2.2⟩ (fun hHeld => ?_)
      clear hK K
      refine norm_ (a' := ?_) ?_ ?_
      rotate_left
      · show Act.put _ (some 43) _ = _
        simp only [Act.put, List.setIfInBounds_toArray, List.set_cons_zero, List.set_cons_succ, i64_w, i32_w]
        rfl
      refine one_ (i := 19) (N := some 44) #[true, true, true, true, true, true, true, true, true, true, true, true, true, true, true, true, true, true, true, true, false, false, false] rfl rfl (by kernel_rfl) (by decide) (fun K hK => ?_)
      refine Kd.R_append_step kPI (w0 := w) w.heap.size (by rfl) (.tmp 29) (.tmp 43) 58 62 (.pointer none) 8 rfl Try.underlying58 info_pi rfl (by decide) (by omega) v1 (x.ins.take i) y [.pointer (some ⟨w8.heap.size, 0, none⟩)] (fun k => k ≠ w.heap.size + 1 ∧ k ≠ w.heap.size) (fun k => wr.heap.size ≤ k) (by rfl) (by simp [Act.eval]) HPM_.out (fun k hk => HOK.out k hk) (fun k hk => HOK2.out k (Nat.le_trans HLO.out (Nat.le_trans (Nat.le_succ _) (by simpa using hk)))) HP6.out.ins HP6.out.B (below_size HP6.out.B) (by have := HFI.out; rw [List.length_take]; omega) ?_
      intro v_ w_ ho_ hb hg hat
      obtain ⟨l_, hq, ho⟩ := nameRI ho_; have N1 := Lib.hid hq; clear hq ho_; obtain ⟨A_, c_, rfl⟩ := Kd.R_slice ho
      have hM_ := blk_grown HP6.out.blk hg HP6.out.ne.1
      have z0_ : w_.cell? ⟨w.heap.size + 1, 1, none⟩ = some v1 := (blk_cell hM_ 1).trans rfl
      have zf_ := blk_frozen hM_ 1
      have HM_ := Lib.hid hM_; have HG_ := Lib.hid (blk_grown HG6.out hg HNE.out)
      have HPN := Lib.hid (HP6.out.push1 (Below.refl _ _) ho hb hg (Nat.le_succ _) (Nat.ne_of_lt (Nat.lt_succ_self _)))
      clear HP6 HG6 HR7 HR8 ho hb hg hat hM_
      refine hK.out _ _ ⟨(HS.out _ HM_.out HG_.out).1, (HS.out _ HM_.out HG_.out).2.1, (HS.out _ HM_.out HG_.out).2.2.1, (HS.out _ HM_.out HG_.out).2.2.2.1, (HS.out _ HM_.out HG_.out).2.2.2.2⟩ (fun hHeld => ?_)
      clear hK K
      refine norm_ (a' := ?_) ?_ ?_
      rotate_left
      · show Act.put _ (some 44) _ = _
        simp only [Act.put, List.setIfInBounds_toArray, List.set_cons_zero, List.set_cons_succ, i64_w, i32_w]
        rfl
      refine pure_ (i := 20) (N := some 45) (v := ?_) (a' := ?_) #[true, true, true, true, true, true, true, true, true, true, true, true, true, true, true, true, true, true, true, true, true, false, false] rfl rfl (by kernel_rfl) (fun _ _ _ h => h) (Or.inl ⟨by rfl, ?_⟩) ?_ ?_
      rotate_left
      · intro w'
        go_simp
        with_reducible rfl
      rotate_left
      · simp only [Act.put, List.setIfInBounds_toArray, List.set_cons_zero, List.set_cons_succ, i64_w, i32_w]
        rfl
      refine pure_ (i := 21) (N := some 46) (v := ?_) (a' := ?_) #[true, true, true, true, true, true, true, true, true, true, true, true, true, true, true, true, true, true, true, true, true, true, false] rfl rfl (by kernel_rfl) (fun _ _ _ h => h) (Or.inl ⟨by rfl, ?_⟩) ?_ ?_
      rotate_left
      · intro w'
        go_simp
        with_reducible rfl
      rotate_left
      · simp only [Act.put, List.setIfInBounds_toArray, List.set_cons_zero, List.set_cons_succ, i64_w, i32_w]
        rfl
      refine last_ (i := 22) (N := none) #[true, true, true, true, true, true, true, true, true, true, true, true, true, true, true, true, true, true, true, true, true, true, true] rfl rfl (by kernel_rfl) (by decide) (fun K hK => ?_)
      refine skip_ (w1 := ?_) (by rfl) rfl ?_ ?_
      rotate_left
      · go_simp
        rfl
      refine hK.out _ _ ?_
      clear hK K
      refine done_ (by kernel_rfl) ?_
      have HPM := Lib.hid (show Wp w _ w.heap.size (w.heap.size + 1) cs x _ (.slice none 0 0) (x.ins.take (i + 1)) [] from by rw [HTK.out, ← N1.out]; exact HPN.out)
      clear HPN N1 HM_ HG_ HS HP HPM_ HLO z0_ zf_
      go_wp2
      go_roundg k1
      case measure => exact Nat.lt_succ_self _
      case rel => exact ⟨i + 1, xi + 1, _, (by first | rfl | (simp [hw1]; done)), Lib.hid (by rw [HI.out]; omega), Lib.hid (by have := HK.out; omega), HPM⟩
    · have qb : decide (xi < (x.ins.length : Int)) = false := decide_eq_false (by rw [HI.out]; omega)
      have HP2 := Lib.hid (show Wp w wr w.heap.size (w.heap.size + 1) cs x v1 (.slice none 0 0) x.ins [] from by
        have := HP.out
        rwa [List.take_of_length_le (by omega)] at this)
      clear ci HI HK HP
      have c2_ : wr.cell? ⟨w.heap.size, 2, none⟩ = some (.slice A2 x.outs.length c2) := by rw [cell_of_row _ _ _ _ _ _ HP2.out.tx, ← HCS.out]; rfl
      go_wp2
      have HB0 := Lib.hid HP2.out
      clear c1_ c2_ qb k0 k3 HP2
      obtain ⟨wo, rfl⟩ : ∃ wo : World, wo = wr := ⟨_, rfl⟩
      go_loopg [6] (x.outs.length + 1) (fun kq v6 w' => ∃ (i : Nat) (xi : Int) (v2 : Value), v6 = .int .i64 xi ∧ Hid (xi = (i : Int)) ∧ Hid (i + kq = x.outs.length + 1) ∧ Hid (Wp w w' w.heap.size (w.heap.size + 1) cs x v1 v2 x.ins (x.outs.take i)))
      case atStart => exact ⟨0, 0, .slice none 0 0, rfl, Lib.hid rfl, Lib.hid (Nat.zero_add _), HB0⟩
      case round =>
        obtain ⟨i, xi, v2, rfl, HI, HK, HP⟩ := hrel
        have c2_ : wr.cell? ⟨w.heap.size, 2, none⟩ = some (.slice A2 x.outs.length c2) := by rw [cell_of_row _ _ _ _ _ _ HP.out.tx, ← HCS.out]; rfl
        by_cases ci : i < x.outs.length
        · have p0 : 0 ≤ xi := by rw [HI.out]; omega
          have q0 : xi < (x.outs.length : Int) := by rw [HI.out]; omega
          obtain ⟨ad, B1, d1, rfl, hx0, hx1, l1, g1⟩ := PFnTxIDs.at_T45 H.out.g2 xi p0 q0
          have hfi : x.outs.length ≤ 2147483647 ∧ ∀ y ∈ x.outs, y.f1.length ≤ 2147483647 := by
            have hf := HF.out
            simp only [fit2, fit6, Bool.and_eq_true, decide_eq_true_eq, List.all_eq_true] at hf
            exact ⟨hf.2.1, hf.2.2⟩
          have hw1 : wrap64 (xi + 1) = xi + 1 := by have := hfi.1; exact wrap64_id (by omega) (by omega)
          have hyf := hfi.2 (PFnTxIDs.rd_T45 x.outs xi) (by
            rw [PFnTxIDs.rd_T45, List.getD_eq_getElem?_getD, List.getElem?_eq_getElem (show xi.toNat < x.outs.length by omega)]
            exact List.getElem_mem _)
          have htk : x.outs.take (i + 1) = x.outs.take i ++ [PFnTxIDs.rd_T45 x.outs xi] := by
            rw [List.take_add_one, HI.out, PFnTxIDs.rd_T45]; simp [ci]
          obtain ⟨y, hy⟩ : ∃ y, PFnTxIDs.rd_T45 x.outs xi = y := ⟨_, rfl⟩
          rw [hy] at hx0 hx1 l1 g1 hyf htk
          obtain ⟨k1, rfl⟩ : ∃ k1, gk = k1 + 1 := ⟨gk - 1, by have := HK.out; omega⟩
          have pp := eq_true p0
          have qq := eq_true q0
          have qb : decide (xi < (x.outs.length : Int)) = true := decide_eq_true q0
          have L1 := Lib.hid l1
          have G1 := Lib.hid g1
          have HYF := Lib.hid hyf
          have HTK := Lib.hid htk
          have CI := Lib.hid ci
          have HFI := Lib.hid hfi.1
          have HOK := Lib.hid (show ∀ k, wr.heap.size ≤ k → (k ≠ w.heap.size + 1 ∧ k ≠ w.heap.size) ∧ some k ≠ v2.ownBlock from fun k hk => ⟨⟨by have := blk_lt HP.out.blk; omega, by have := blk_lt HP.out.blk; omega⟩, fun e => by have := Kd.R_lt HP.out.outs k e.symm; omega⟩)
          have HOK2 := Lib.hid (show ∀ k, wr.heap.size ≤ k → (k ≠ w.heap.size + 1 ∧ k ≠ w.heap.size) from fun k hk => (HOK.out k hk).1)
          have HWR := Lib.hid (below_size HP.out.B)
          have HP6 := Lib.hid (HP.out.below (below_drew (Below.refl _ _)))
          have HSZ := Lib.hid (show wr.heap.size ≤ wr.drew.heap.size from Nat.le_refl _)
          have hs : ∀ W' : World, Below w.heap.size w W' → W'.heap[w.heap.size + 1]? = some (.cells #[.int .i32 x.v, v1, v2, .int .u32 x.k] 61 (0, 0)) → W'.heap[w.heap.size]? = some (.cells cs 26 (0, 0)) →
              W'.cell? ⟨w.heap.size + 1, 2, none⟩ = some v2 ∧ W'.cell? ⟨w.heap.size, 2, none⟩ = some (.slice (some ad) x.outs.length c2) ∧ W'.cell? (ad.add (xi.toNat * 2)) = some (.int .i64 y.f0) ∧ W'.cell? ⟨(ad.add (xi.toNat * 2)).block, (ad.add (xi.toNat * 2)).off + 1, none⟩ = some (.slice B1 y.f1.length d1) := by
            intro W' hb h1 h2
            exact ⟨by rw [cell_of_row _ _ _ _ _ _ h1]; rfl, by rw [cell_of_row _ _ _ _ _ _ h2, ← HCS.out]; rfl, pw_cell_below hb hx0, pw_cell_below hb hx1⟩
          have HS := Lib.hid hs
          have HCP := Lib.hid (show ∀ W : World, Below w.heap.size w W → Calls Try.prog 27 #[.slice B1 y.f1.length d1] W fun e w' => ∃ v0, e = .returned v0 ∧ Kd.R (Kd.int .u8) 5 w' W.heap.size (fun _ => True) v0 y.f1 ∧ Below W.heap.size W w' from fun W hW => PFnTxIDs.impl_copied.calls B1 d1 y.f1 y.f1 W (Kd.C_below G1.out hW) L1.out (copied_eq _ HYF.out))
          clear hs hx0 hx1 l1 g1 hy hyf htk p0 q0 ci hfi
          go_wp2
          refine start_ (n := 25) (S := fun w' => w'.cell? ⟨w.heap.size + 1, 2, none⟩ = some v2 ∧ w'.cell? ⟨w.heap.size, 2, none⟩ = some (.slice (some ad) x.outs.length c2) ∧ w'.cell? (ad.add (xi.toNat * 2)) = some (.int .i64 y.f0) ∧ w'.cell? ⟨(ad.add (xi.toNat * 2)).block, (ad.add (xi.toNat * 2)).off + 1, none⟩ = some (.slice B1 y.f1.length d1)) (ds := [24]) #[false, false, false, false, false, false, false, false, false, false, false, false, false, false, false, false, false, false, false, false, false, false, false, false, false] (by kernel_rfl) rfl rfl ⟨(HS.out _ HP6.out.B HP6.out.blk HP6.out.tx).1, (HS.out _ HP6.out.B HP6.out.blk HP6.out.tx).2.1, (HS.out _ HP6.out.B HP6.out.blk HP6.out.tx).2.2.1, (HS.out _ HP6.out.B HP6.out.blk HP6.out.tx).2.2.2⟩ (fun hHeld => ?_)
          refine pure_ (i := 0) (N := some 54) (v := ?_) (a' := ?_) #[true, false, false, false, false, false, false, false, false, false, false, false, false, false, false, false, false, false, false, false, false, false, false, false, false] rfl rfl (by kernel_rfl) (fun _ _ _ h => h) (Or.inl ⟨by rfl, ?_⟩) ?_ ?_
          rotate_left
          · intro w'
            go_simp
            with_reducible rfl
          rotate_left
          · simp only [Act.put, List.setIfInBounds_toArray, List.set_cons_zero, List.set_cons_succ, i64_w, i32_w]
            rfl
          refine pure_ (i := 1) (N := some 55) (v := ?_) (a' := ?_) #[true, true, false, false, false, false, false, false, false, false, false, false, false, false, false, false, false, false, false, false, false, false, false, false, false] rfl rfl (by kernel_rfl) (fun _ _ _ h => h) (Or.inl ⟨by rfl, ?_⟩) ?_ ?_
          rotate_left
          · intro w'
            go_simp
            with_reducible rfl
          rotate_left
          · simp only [Act.put, List.setIfInBounds_toArray, List.set_cons_zero, List.set_cons_succ, i64_w, i32_w]
            rfl
          refine pure_ (i := 2) (N := some 56) (v := ?_) (a' := ?_) #[true, true, true, false, false, false, false, false, false, false, false, false, false, false, false, false, false, false, false, false, false, false, false, false, false] rfl rfl (by kernel_rfl) (fun _ _ _ h => h) (Or.inl ⟨by rfl, ?_⟩) ?_ ?_
          rotate_left
          · intro w'
            go_simp
            with_reducible rfl
          rotate_left
          · simp only [Act.put, List.setIfInBounds_toArray, List.set_cons_zero, List.set_cons_succ, i64_w, i32_w]
            rfl
          refine pure_ (i := 3) (N := some 57) (v := ?_) (a' := ?_) #[true, true, true, true, false, false, false, false, false, false, false, false, false, false, false, false, false, false, false, false, false, false, false, false, false] rfl rfl (by kernel_rfl) (fun _ _ _ h => h) (Or.inl ⟨by rfl, ?_⟩) ?_ ?_
          rotate_left
          · intro w'
            go_simp
            with_reducible rfl
          rotate_left
          · simp only [Act.put, List.setIfInBounds_toArray, List.set_cons_zero, List.set_cons_succ, i64_w, i32_w]
            rfl
          refine pure_ (i := 5) (N := some 59) (v := ?_) (a' := ?_) #[true, true, true, true, false, true, false, false, false, false, false, false, false, false, false, false, false, false, false, false, false, false, false, false, false] rfl rfl (by kernel_rfl) (fun _ _ _ h => h) (Or.inl ⟨by rfl, ?_⟩) ?_ ?_
          rotate_left
          · intro w'
            go_simp
            with_reducible rfl
          rotate_left
          · simp only [Act.put, List.setIfInBounds_toArray, List.set_cons_zero, List.set_cons_succ, i64_w, i32_w]
            rfl
          refine pure_ (i := 7) (N := some 61) (v := ?_) (a' := ?_) #[true, true, true, true, false, true, false, true, false, false, false, false, false, false, false, false, false, false, false, false, false, false, false, false, false] rfl rfl (by kernel_rfl) (fun _ _ _ h => h) (Or.inl ⟨by rfl, ?_⟩) ?_ ?_
          rotate_left
          · intro w'
            go_simp
            with_reducible rfl
          rotate_left
          · simp only [Act.put, List.setIfInBounds_toArray, List.set_cons_zero, List.set_cons_succ, i64_w, i32_w]
            rfl
          refine pure_ (i := 11) (N := some 65) (v := ?_) (a' := ?_) #[true, true, true, true, false, true, false, true, false, false, false, true, false, false, false, false, false, false, false, false, false, false, false, false, false] rfl rfl (by kernel_rfl) (fun _ _ _ h => h) (Or.inl ⟨by rfl, ?_⟩) ?_ ?_
          rotate_left
          · intro w'
            go_simp
            with_reducible rfl
          rotate_left
          · simp only [Act.put, List.setIfInBounds_toArray, List.set_cons_zero, List.set_cons_succ, i64_w, i32_w]
            rfl
          refine pure_ (i := 13) (N := some 67) (v := ?_) (a' := ?_) #[true, true, true, true, false, true, false, true, false, false, false, true, false, true, false, false, false, false, false, false, false, false, false, false, false] rfl rfl (by kernel_rfl) (fun _ _ _ h => h) (Or.inl ⟨by rfl, ?_⟩) ?_ ?_
          rotate_left
          · intro w'
            go_simp
            with_reducible rfl
          rotate_left
          · simp only [Act.put, List.setIfInBounds_toArray, List.set_cons_zero, List.set_cons_succ, i64_w, i32_w]
            rfl
          refine take_ (i := 4) (N := some 58) (v := ?_) (a' := ?_) #[true, true, true, true, true, true, false, true, false, false, false, true, false, true, false, false, false, false, false, false, false, false, false, false, false] rfl rfl (by kernel_rfl) (fun _ _ _ h => h) (Or.inl ⟨by rfl, ?_⟩) hHeld ?_ ?_
          rotate_left
          · rintro w' ⟨s0, s1, s2, s3⟩
            go_simp
            with_reducible rfl
          rotate_left
          · simp only [Act.put, List.setIfInBounds_toArray, List.set_cons_zero, List.set_cons_succ, i64_w, i32_w]
            rfl
          refine take_ (i := 6) (N := some 60) (v := ?_) (a' := ?_) #[true, true, true, true, true, true, true, true, false, false, false, true, false, true, false, false, false, false, false, false, false, false, false, false, false] rfl rfl (by kernel_rfl) (fun _ _ _ h => h) (Or.inl ⟨by rfl, ?_⟩) hHeld ?_ ?_
          rotate_left
          · rintro w' ⟨s0, s1, s2, s3⟩
            go_simp
            with_reducible rfl
          rotate_left
          · simp only [Act.put, List.setIfInBounds_toArray, List.set_cons_zero, List.set_cons_succ, i64_w, i32_w]
            rfl
          refine pure_ (i := 8) (N := some 62) (v := ?_) (a' := ?_) #[true, true, true, true, true, true, true, true, true, false, false, true, false, true, false, false, false, false, false, false, false, false, false, false, false] rfl rfl (by kernel_rfl) (fun _ _ _ h => h) (Or.inl ⟨by rfl, ?_⟩) ?_ ?_
          rotate_left
          · intro w'
            go_simp
            with_reducible rfl
          rotate_left
          · simp only [Act.put, List.setIfInBounds_toArray, List.set_cons_zero, List.set_cons_succ, i64_w, i32_w]
            rfl
          refine pure_ (i := 9) (N := some 63) (v := ?_) (a' := ?_) #[true, true, true, true, true, true, true, true, true, true, false, true, false, true, false, false, false, false, false, false, false, false, false, false, false] rfl rfl (by kernel_rfl) (fun _ _ _ h => h) (Or.inl ⟨by rfl, ?_⟩) ?_ ?_
          rotate_left
          · intro w'
            go_simp
            with_reducible rfl
          rotate_left
          · simp only [Act.put, List.setIfInBounds_toArray, List.set_cons_zero, List.set_cons_succ, i64_w, i32_w]
            rfl
          refine take_ (i := 10) (N := some 64) (v := ?_) (a' := ?_) #[true, true, true, true, true, true, true, true, true, true, true, true, false, true, false, false, false, false, false, false, false, false, false, false, false] rfl rfl (by kernel_rfl) (fun _ _ _ h => h) (Or.inl ⟨by rfl, ?_⟩) hHeld ?_ ?_
          rotate_left
          · rintro w' ⟨s0, s1, s2, s3⟩
            go_simp
            with_reducible rfl
          rotate_left
          · simp only [Act.put, List.setIfInBounds_toArray, List.set_cons_zero, List.set_cons_succ, i64_w, i32_w]
            rfl
          refine take_ (i := 12) (N := some 66) (v := ?_) (a' := ?_) #[true, true, true, true, true, true, true, true, true, true, true, true, true, true, false, false, false, false, false, false, false, false, false, false, false] rfl rfl (by kernel_rfl) (fun _ _ _ h => h) (Or.inl ⟨by rfl, ?_⟩) hHeld ?_ ?_
          rotate_left
          · rintro w' ⟨s0, s1, s2, s3⟩
            go_simp
            with_reducible rfl
          rotate_left
          · simp only [Act.put, List.setIfInBounds_toArray, List.set_cons_zero, List.set_cons_succ, i64_w, i32_w]
            rfl
          refine pure_ (i := 14) (N := some 68) (v := ?_) (a' := ?_) #[true, true, true, true, true, true, true, true, true, true, true, true, true, true, true, false, false, false, false, false, false, false, false, false, false] rfl rfl (by kernel_rfl) (fun _ _ _ h => h) (Or.inl ⟨by rfl, ?_⟩) ?_ ?_
          rotate_left
          · intro w'
            go_simp
            with_reducible rfl
          rotate_left
          · simp only [Act.put, List.setIfInBounds_toArray, List.set_cons_zero, List.set_cons_succ, i64_w, i32_w]
            rfl
          refine pure_ (i := 15) (N := some 69) (v := ?_) (a' := ?_) #[true, true, true, true, true, true, true, true, true, true, true, true, true, true, true, true, false, false, false, false, false, false, false, false, false] rfl rfl (by kernel_rfl) (fun _ _ _ h => h) (Or.inl ⟨by rfl, ?_⟩) ?_ ?_
          rotate_left
          · intro w'
            go_simp
            with_reducible rfl
          rotate_left
          · simp only [Act.put, List.setIfInBounds_toArray, List.set_cons_zero, List.set_cons_succ, i64_w, i32_w]
            rfl
          refine take_ (i := 16) (N := some 70) (v := ?_) (a' := ?_) #[true, true, true, true, true, true, true, true, true, true, true, true, true, true, true, true, true, false, false, false, false, false, false, false, false] rfl rfl (by kernel_rfl) (fun _ _ _ h => h) (Or.inl ⟨by rfl, ?_⟩) hHeld ?_ ?_
          rotate_left
          · rintro w' ⟨s0, s1, s2, s3⟩
            go_simp
            with_reducible rfl
          rotate_left
          · simp only [Act.put, List.setIfInBounds_toArray, List.set_cons_zero, List.set_cons_succ, i64_w, i32_w]
            rfl
          refine one_ (i := 17) (N := some 71) #[true, true, true, true, true, true, true, true, true, true, true, true, true, true, true, true, true, true, false, false, false, false, false, false, false] rfl rfl (by kernel_rfl) (by decide) (fun K hK => ?_)
          refine goes_ Try.func27 (by kernel_rfl) rfl #[.slice B1 y.f1.length d1] (by rfl) rfl rfl (by simp only [List.map_toArray, List.map_cons, List.map_nil]; rfl) ?_
          with_reducible refine (HCP.out _ HP6.out.B).mono ?_
          rintro e w7 ⟨v7, rfl, hR, hB⟩
          refine ⟨_, rfl, ?_⟩
          obtain ⟨A7, c7, rfl⟩ := Kd.R_slice hR
          have HLO := Lib.hid (show wr.heap.size ≤ w7.heap.size from hB.size)
          have HR7 := Lib.hid (Kd.R_lower (base' := wr.heap.size) hR HSZ.out)
          have n0_ := Lib.hid (HP6.out.below hB)
          clear HP6 hR hB; have HP6 := n0_; clear n0_
          refine hK.out _ _ ⟨(HS.out _ HP6.out.B HP6.out.blk HP6.out.tx).1, (HS.out _ HP6.out.B HP6.out.blk HP6.out.tx).2.1, (HS.out _ HP6.out.B HP6.out.blk HP6.out.tx).2.2.1, (HS.out _ HP6.out.B HP6.out.blk HP6.out.tx).2.2.2⟩ (fun hHeld => ?_)
          clear hK K
          refine norm_ (a' := ?_) ?_ ?_
          rotate_left
          · show Act.put _ (some 71) _ = _
            simp only [Act.put, List.setIfInBounds_toArray, List.set_cons_zero, List.set_cons_succ, i64_w, i32_w]
            rfl
          refine pure_ (i := 18) (N := some 72) (v := ?_) (a' := ?_) #[true, true, true, true, true, true, true, true, true, true, true, true, true, true, true, true, true, true, true, false, false, false, false, false, false] rfl rfl (by kernel_rfl) (fun _ _ _ h => h) (Or.inl ⟨by rfl, ?_⟩) ?_ ?_
          rotate_left
          · intro w'
            go_simp
            with_reducible rfl
          rotate_left
          · simp only [Act.put, List.setIfInBounds_toArray, List.set_cons_zero, List.set_cons_succ, i64_w, i32_w]
            rfl
          refine one_ (i := 19) (N := some 73) #[true, true, true, true, true, true, true, true, true, true, true, true, true, true, true, true, true, true, true, true, false, false, false, false, false] rfl rfl (by kernel_rfl) (by decide) (fun K hK => ?_)
          refine value_ (w1 := ?_) (v := ?_) (by rfl) rfl ?_ ?_
          rotate_left 2
          · go_simp
            constructor
            · rfl
            · rfl
          have n0_ := Lib.hid (HP6.out.below (below_alloc (Below.refl _ _) (.cells #[.int .i64 y.f0, .slice A7 y.f1.length c7] 73)))
          clear HP6; have HP6 := n0_; clear n0_
          refine hK.out _ _ ⟨(HS.out _ HP6.out.B HP6.out.blk HP6.out.tx).1, (HS.out _ HP6.out.B HP6.out.blk HP6.out.tx).2.1, (HS.out _ HP6.out.B HP6.out.blk HP6.out.tx).2.2.1, (HS.out _ HP6.out.B HP6.out.blk HP6.out.tx).2.2.2⟩ (fun hHeld => ?_)
          clear hK K
          refine norm_ (a' := ?_) ?_ ?_
          rotate_left
          · show Act.put _ (some 73) _ = _
            simp only [Act.put, List.setIfInBounds_toArray, List.set_cons_zero, List.set_cons_succ, i64_w, i32_w]
            rfl
          refine one_ (i := 20) (N := some 74) #[true, true, true, true, true, true, true, true, true, true, true, true, true, true, true, true, true, true, true, true, true, false, false, false, false] rfl rfl (by kernel_rfl) (by decide) (fun K hK => ?_)
          refine value_ (w1 := ?_) (v := ?_) (by rfl) rfl ?_ ?_
          rotate_left 2
          · go_simp
            constructor
            · rfl
            · rfl
          refine hK.out _ _ ⟨(HS.out _ (below_alloc HP6.out.B _) (blk_alloc HP6.out.blk _) (blk_alloc HP6.out.tx _)).1, (HS.out _ (below_alloc HP6.out.B _) (blk_alloc HP6.out.blk _) (blk_alloc HP6.out.tx _)).2.1, (HS.out _ (below_alloc HP6.out.B _) (blk_alloc HP6.out.blk _) (blk_alloc HP6.out.tx _)).2.2.1, (HS.out _ (below_alloc HP6.out.B _) (blk_alloc HP6.out.blk _) (blk_alloc HP6.out.tx _)).2.2.2⟩ (fun hHeld => ?_)
          clear hK K
          refine norm_ (a' := ?_) ?_ ?_
          rotate_left
          · show Act.put _ (some 74) _ = _
            simp only [Act.put, List.setIfInBounds_toArray, List.set_cons_zero, List.set_cons_succ, i64_w, i32_w]
            rfl
          refine one_ (i := 21) (N := some 75) #[true, true, true, true, true, true, true, true, true, true, true, true, true, true, true, true, true, true, true, true, true, true, false, false, false] rfl rfl (by kernel_rfl) (by decide) (fun K hK => ?_)
          refine Kd.R_append_step kPO (w0 := w) w.heap.size (by rfl) (.tmp 58) (.tmp 74) 59 71 (.pointer none) 8 rfl Try.underlying59 info_po rfl (by decide) (by omega) v2 (x.outs.take i) y [.pointer (some ⟨w7.heap.size, 0, none⟩)] (fun k => k ≠ w.heap.size + 1 ∧ k ≠ w.heap.size) (fun k => wr.heap.size ≤ k) (by rfl) (by simp [Act.eval]) (boxO_made HWR.out HLO.out HR7.out) (fun k hk => HOK.out k hk) (fun k hk => HOK2.out k (Nat.le_trans HLO.out (Nat.le_trans (Nat.le_succ _) (by simpa using hk)))) HP6.out.outs HP6.out.B (below_size HP6.out.B) (by have := HFI.out; rw [List.length_take]; omega) ?_
          intro v_ w_ ho_ hb hg hat
          obtain ⟨l_, hq, ho⟩ := nameRI ho_; have N1 := Lib.hid hq; clear hq ho_; obtain ⟨A_, c_, rfl⟩ := Kd.R_slice ho
          have hM_ := blk_grown HP6.out.blk hg HP6.out.ne.2.2.1
          have z0_ : w_.cell? ⟨w.heap.size + 1, 2, none⟩ = some v2 := (blk_cell hM_ 2).trans rfl
          have zf_ := blk_frozen hM_ 2
          have HM_ := Lib.hid hM_; have HG_ := Lib.hid (blk_grown HP6.out.tx hg HP6.out.ne.2.2.2); have HB_ := Lib.hid hb
          have HPN := Lib.hid (HP6.out.push2 (Below.refl _ _) ho hb hg (Nat.le_succ _) (Nat.ne_of_lt (Nat.lt_succ_self _)))
          clear HP6 HR7 ho hb hg hat hM_
          refine hK.out _ _ ⟨(HS.out _ HB_.out HM_.out HG_.out).1, (HS.out _ HB_.out HM_.out HG_.out).2.1, (HS.out _ HB_.out HM_.out HG_.out).2.2.1, (HS.out _ HB_.out HM_.out HG_.out).2.2.2⟩ (fun hHeld => ?_)
          clear hK K
          refine norm_ (a' := ?_) ?_ ?_
          rotate_left
          · show Act.put _ (some 75) _ = _
            simp only [Act.put, List.setIfInBounds_toArray, List.set_cons_zero, List.set_cons_succ, i64_w, i32_w]
            rfl
          refine pure_ (i := 22) (N := some 76) (v := ?_) (a' := ?_) #[true, true, true, true, true, true, true, true, true, true, true, true, true, true, true, true, true, true, true, true, true, true, true, false, false] rfl rfl (by kernel_rfl) (fun _ _ _ h => h) (Or.inl ⟨by rfl, ?_⟩) ?_ ?_
          rotate_left
          · intro w'
            go_simp
            with_reducible rfl
          rotate_left
          · simp only [Act.put, List.setIfInBounds_toArray, List.set_cons_zero, List.set_cons_succ, i64_w, i32_w]
            rfl
          refine pure_ (i := 23) (N := some 77) (v := ?_) (a' := ?_) #[true, true, true, true, true, true, true, true, true, true, true, true, true, true, true, true, true, true, true, true, true, true, true, true, false] rfl rfl (by kernel_rfl) (fun _ _ _ h => h) (Or.inl ⟨by rfl, ?_⟩) ?_ ?_
          rotate_left
          · intro w'
            go_simp
            with_reducible rfl
          rotate_left
          · simp only [Act.put, List.setIfInBounds_toArray, List.set_cons_zero, List.set_cons_succ, i64_w, i32_w]
            rfl
          refine last_ (i := 24) (N := none) #[true, true, true, true, true, true, true, true, true, true, true, true, true, true, true, true, true, true, true, true, true, true, true, true, true] rfl rfl (by kernel_rfl) (by decide) (fun K hK => ?_)
          refine skip_ (w1 := ?_) (by rfl) rfl ?_ ?_
          rotate_left
          · go_simp
            rfl
          refine hK.out _ _ ?_
          clear hK K
          refine done_ (by kernel_rfl) ?_
          have HPM := Lib.hid (show Wp w _ w.heap.size (w.heap.size + 1) cs x v1 _ x.ins (x.outs.take (i + 1)) from by rw [HTK.out, ← N1.out]; exact HPN.out)
          clear HPN N1 HM_ HG_ HB_ HS HP HLO z0_ zf_
          go_wp2
          go_roundg k1
          case measure => exact Nat.lt_succ_self _
          case rel => exact ⟨i + 1, xi + 1, _, (by first | rfl | (simp [hw1]; done)), Lib.hid (by rw [HI.out]; omega), Lib.hid (by have := HK.out; omega), HPM⟩
        · have qb : decide (xi < (x.outs.length : Int)) = false := decide_eq_false (by rw [HI.out]; omega)
          have HP2 := Lib.hid (show Wp w wr w.heap.size (w.heap.size + 1) cs x v1 v2 x.ins x.outs from by
            have := HP.out
            rwa [List.take_of_length_le (by omega)] at this)
          clear ci HI HK HP
          go_wp2
          go_ret
          exact ⟨w.heap.size + 1, v1, v2, rfl, ⟨Nat.le_succ _, HP2.out.blk, Kd.R_mono HP2.out.ins (fun _ hk => hk.1), Kd.R_mono HP2.out.outs (fun _ hk => hk.1)⟩, HP2.out.B⟩
end Go.Proofs.Ytkmlpoggbfbnaaa.Tx
