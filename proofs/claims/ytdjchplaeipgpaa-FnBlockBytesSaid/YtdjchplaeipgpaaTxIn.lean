/-
  Transactions' inputs: 36 cells each; a reading for rows of them, and the walks over them that only look.
-/
import Derived.Test.YtdjchplaeipgpaaTxOut
import Derived.Test.YtdjchplaeipgpaaPFnBlockBytesx
import Derived.Test.YtdjchplaeipgpaaTokPure
namespace Go.Proofs.Ytdjchplaeipgpaa.Tx
open Go.RowKit Go.Proofs.YtdjchplaeipgpaaW.PrintWords Go.Proofs.YtdjchplaeipgpaaW.PrintLast
set_option linter.unusedSimpArgs false
set_option linter.unusedVariables false

/-- An input: its output's name (a hash and an index), a script, a witness, a sequence. -/
structure TI where
  h : List Int
  i : Int
  s : List Int
  w : List (List Int)
  q : Int
def zTI : TI := ⟨[], 0, [], [], 0⟩
def kTI : Kd TI := Kd.iso (Kd.pair (Kd.arr 32 (Kd.int .u8) (by decide)) (Kd.pair (Kd.int .u32) (Kd.pair (Kd.slice 5 (Kd.int .u8)) (Kd.pair (Kd.slice 30 (Kd.slice 5 (Kd.int .u8))) (Kd.int .u32))))) (fun x : TI => (x.h, x.i, x.s, x.w, x.q))
/-- An input's cells. -/
def tic (x : TI) (A1 : Option Addr) (c1 : Nat) (A2 : Option Addr) (c2 : Nat) : List Value := opc x.h x.i ++ [.slice A1 x.s.length c1, .slice A2 x.w.length c2, .int .u32 x.q]
theorem kTI_sz : kTI.sz = 36 := rfl
theorem kTI_open {w : World} {x : TI} {cs : List Value} (h : kTI.K w x cs) : ∃ A1 c1 A2 c2, x.h.length = 32 ∧ cs = tic x A1 c1 A2 c2 ∧ x.s.length ≤ c1 ∧ (Kd.int .u8).C w A1 x.s.length x.s ∧ x.w.length ≤ c2 ∧ (Kd.slice 5 (Kd.int .u8)).C w A2 x.w.length x.w := by
  obtain ⟨c0, r0, rfl, h0, c3, r3, rfl, h3, c4, r4, rfl, h4, c5, r5, rfl, h5, h6⟩ := h
  obtain ⟨hl, rfl⟩ := Kd.arr_cells h0
  obtain ⟨A1, k1, rfl, l1, g1⟩ := h4
  obtain ⟨A2, k2, rfl, l2, g2⟩ := h5
  cases h3
  cases h6
  exact ⟨A1, k1, A2, k2, hl, by simp [tic, opc, hv, encs], l1, g1, l2, g2⟩
theorem tic_len (x : TI) (A1 : Option Addr) (c1 : Nat) (A2 : Option Addr) (c2 : Nat) (hl : x.h.length = 32) : (tic x A1 c1 A2 c2).length = 36 := by simp [tic, opc_len, hl]
theorem tic_one (x : TI) (A1 : Option Addr) (c1 : Nat) (A2 : Option Addr) (c2 : Nat) : ∀ v ∈ tic x A1 c1 A2 c2, v.oneCell' = true := by
  intro v hv_
  rcases List.mem_append.1 hv_ with h1 | h1
  · exact opc_one _ _ v h1
  · simp only [List.mem_cons, List.not_mem_nil, or_false] at h1
    rcases h1 with rfl | rfl | rfl <;> rfl
theorem tic_33 (x : TI) (A1 : Option Addr) (c1 : Nat) (A2 : Option Addr) (c2 : Nat) (hl : x.h.length = 32) : (tic x A1 c1 A2 c2)[33]? = some (.slice A1 x.s.length c1) := by
  simp [tic, List.getElem?_append, opc_len, hl]
theorem tic_34 (x : TI) (A1 : Option Addr) (c1 : Nat) (A2 : Option Addr) (c2 : Nat) (hl : x.h.length = 32) : (tic x A1 c1 A2 c2)[34]? = some (.slice A2 x.w.length c2) := by
  simp [tic, List.getElem?_append, opc_len, hl]
theorem tic_35 (x : TI) (A1 : Option Addr) (c1 : Nat) (A2 : Option Addr) (c2 : Nat) (hl : x.h.length = 32) : (tic x A1 c1 A2 c2)[35]? = some (.int .u32 x.q) := by
  simp [tic, List.getElem?_append, opc_len, hl]
theorem tic_32 (x : TI) (A1 : Option Addr) (c1 : Nat) (A2 : Option Addr) (c2 : Nat) (hl : x.h.length = 32) : (tic x A1 c1 A2 c2)[32]? = some (.int .u32 x.i) := by
  simp [tic, List.getElem?_append, opc_len, hl, opc, hv_len]
theorem tic_take (x : TI) (A1 : Option Addr) (c1 : Nat) (A2 : Option Addr) (c2 : Nat) (hl : x.h.length = 32) : (tic x A1 c1 A2 c2).take 33 = opc x.h x.i := by
  rw [tic, List.take_left' (by rw [opc_len, hl])]

def rdT (l : List TI) (i : Int) : TI := l.getD i.toNat zTI
/-- An input in a row of inputs. -/
theorem kTI_at {w : World} {A : Option Addr} {n : Nat} {xs : List TI} (h : Kd.C kTI w A n xs) (i : Int) (h0 : 0 ≤ i) (h1 : i < n) : ∃ ad A1 c1 A2 c2, A = some ad ∧ (rdT xs i).h.length = 32 ∧
    (∀ j u, (tic (rdT xs i) A1 c1 A2 c2)[j]? = some u → w.cell? (ad.add (i.toNat * 36 + j)) = some u) ∧ (rdT xs i).s.length ≤ c1 ∧ (Kd.int .u8).C w A1 (rdT xs i).s.length (rdT xs i).s ∧ (rdT xs i).w.length ≤ c2 ∧ (Kd.slice 5 (Kd.int .u8)).C w A2 (rdT xs i).w.length (rdT xs i).w := by
  obtain ⟨ad, c, e, _, hK, hc⟩ := Kd.C_get h zTI i h0 h1
  obtain ⟨A1, c1, A2, c2, hl, rfl, l1, g1, l2, g2⟩ := kTI_open hK
  exact ⟨ad, A1, c1, A2, c2, e, hl, hc, l1, g1, l2, g2⟩

/-- Many cells are read at once, wherever they lie. -/
theorem run_loadAt_list {P : Program} (w : World) (ad : Addr) (ty : TypeId) (cs : List Value) (d : TypeDesc) (hc : ∀ j v, cs[j]? = some v → w.cell? (ad.add j) = some v)
    (hu : P.underlying ty = some d) (hd : d.isRow = true) (hi : (P.info? ty).map (·.size) = some cs.length) :
    (Instr.loadAt ty (.pointer (some ad))).run P w = .ok (.agg cs.toArray) w := by
  have hl := run_loadCells_list (P := P) w ad cs hc
  obtain ⟨inf, hq, hs⟩ := Option.map_eq_some_iff.1 hi
  have hagg : (isAgg ty).run P w = .ok true w := by
    unfold isAgg
    rw [Sem.run_bind, run_underlying hu w]
    cases d <;> simp_all
  simp [Instr.loadAt, Instr.sureAddr, loadVar, Sem.run_bind, hagg, sizeOf, typeInfo, hq, hs, hl]
theorem wpList_load_list {P : Program} {ops : Array Oper} {rest : List Oper} {op : Oper} {a : Act} {w : World} {Q : Exit → Act → World → Prop} (hgd : op.guard = none) (ty : TypeId) (x : Operand) (ho : op.op = .load ty x)
    (ad : Addr) (hx : a.eval x = .pointer (some ad)) (cs : List Value) (d : TypeDesc) (hc : ∀ j v, cs[j]? = some v → w.cell? (ad.add j) = some v)
    (hu : P.underlying ty = some d) (hd : d.isRow = true) (hi : (P.info? ty).map (·.size) = some cs.length)
    (h : wpList P ops Q rest (a.put op.dst (.agg cs.toArray)) w) : wpList P ops Q (op :: rest) a w :=
  wpList_plain hgd fun _ hK => by
    unfold Oper.wp execOp
    simp only [ho, hx, Sem.run_bind, Sem.run_pure, Result.andThen_ok, run_loadAt_list w ad ty cs d hc hu hd hi]
    exact hK _ _ h
/-- The cells of a box that was made just now. -/
theorem box_cell (w : World) (cs : List Value) (t : TypeId) (j : Nat) (v : Value) (h : cs[j]? = some v) : (w.alloc (.cells cs.toArray t)).cell? ⟨w.heap.size, j, none⟩ = some v := by
  rw [cell_of_row _ _ _ _ _ _ (heap_alloc_new w _)]
  simpa using h

theorem wrap64_id {x : Int} (h0 : -9223372036854775808 ≤ x) (h1 : x ≤ 9223372036854775807) : wrap64 x = x := by unfold wrap64; omega
def fit5 (l : List (List Int)) : Bool := decide (l.length ≤ 2147483647) && l.all (fun s => decide (s.length ≤ 2147483647))
theorem fit5_loop (l : List (List Int)) (hl : l.length ≤ 2147483647) : ∀ d i, i + d = l.length → PFnBlockBytes.laws_zzFits5.l0 (d + 1) l (l.length : Int) (i : Int) = some ((l.drop i).all (fun s => decide (s.length ≤ 2147483647)))
  | 0, i, h => by
    rw [PFnBlockBytes.laws_zzFits5.l0, if_neg (by omega), List.drop_of_length_le (by omega)]; rfl
  | d + 1, i, h => by
    have hi : i < l.length := by omega
    have hw : wrap64 ((i : Int) + 1) = ((i + 1 : Nat) : Int) := by rw [wrap64_id (by omega) (by omega)]; omega
    have hr : PFnBlockBytes.rd_L1 l (i : Int) = l[i] := by simp [PFnBlockBytes.rd_L1, hi]
    have ih := fit5_loop l hl d (i + 1) (by omega)
    rw [PFnBlockBytes.laws_zzFits5.l0, if_pos (by omega), if_pos (by omega), if_pos (by omega), hr, hw, ih, List.drop_eq_getElem_cons hi, List.all_cons]
    by_cases c : (l[i].length : Int) > 2147483647
    · rw [if_pos c, decide_eq_false (by omega)]; rfl
    · rw [if_neg c, decide_eq_true (by omega)]; rfl
theorem fit5_eq (l : List (List Int)) : PFnBlockBytes.laws_zzFits5.f (l.length + 1) l = some (fit5 l) := by
  unfold PFnBlockBytes.laws_zzFits5.f fit5
  by_cases c : (l.length : Int) > 2147483647
  · rw [if_pos c, decide_eq_false (by omega)]; rfl
  · rw [if_neg c, decide_eq_true (by omega)]
    have := fit5_loop l (by omega) l.length 0 (by omega)
    simpa using this

/-- An input fits. -/
def fit4 (x : TI) : Bool := decide (x.s.length ≤ 2147483647) && fit5 x.w
set_option maxHeartbeats 8000000 in
set_option maxRecDepth 100000 in
theorem fit4_calls (x : TI) (A1 : Option Addr) (c1 : Nat) (A2 : Option Addr) (c2 : Nat) (w : World) (hl : x.h.length = 32) (l1 : x.s.length ≤ c1) (l2 : x.w.length ≤ c2) (g2 : (Kd.slice 5 (Kd.int .u8)).C w A2 x.w.length x.w) :
    Calls Try.prog 35 #[.agg (tic x A1 c1 A2 c2).toArray] w fun e w' => e = .returned (.bool (fit4 x)) ∧ Below w.heap.size w w' := by
  have h33 := box_cell w _ 52 33 _ (tic_33 x A1 c1 A2 c2 hl)
  have h34 := box_cell w _ 52 34 _ (tic_34 x A1 c1 A2 c2 hl)
  have G2 := Lib.hid g2
  have L2 := Lib.hid l2
  obtain ⟨b, hb⟩ : ∃ b, fit5 x.w = b := ⟨_, rfl⟩
  have H5 := Lib.hid (show PFnBlockBytes.laws_zzFits5.f (x.w.length + 1) x.w = some b from by rw [fit5_eq, hb])
  obtain ⟨cs, hcs⟩ : ∃ cs, (tic x A1 c1 A2 c2).toArray = cs := ⟨_, rfl⟩
  rw [hcs] at h33 h34 ⊢
  have e4 : fit4 x = (decide (x.s.length ≤ 2147483647) && b) := by rw [fit4, hb]
  rw [e4]
  clear hcs e4 hb l1 l2 g2 hl
  by_cases c : x.s.length ≤ 2147483647
  · have cb : decide ((2147483647 : Int) < (x.s.length : Int)) = false := decide_eq_false (by omega)
    have cb1 : decide (2147483647 < x.s.length) = false := decide_eq_false (by omega)
    rw [decide_eq_true c, Bool.true_and]
    clear c
    cases b
    · go_enter Try.func35, Try.ntmps35
      go_wp2_with (go_at_call 48; refine (PFnBlockBytes.laws_zzFits5.calls (x.w.length + 1) A2 c2 x.w false (w.alloc (Obj.cells cs 52)) (Kd.C_below G2.out (below_alloc (Below.refl _ _) _)) L2.out H5.out).mono ?_; rintro e w1 ⟨rfl, ⟨m1, rfl⟩⟩)
      go_ret
      exact ⟨rfl, pw_below_drewN (below_alloc (Below.refl _ _) _) _⟩
    · go_enter Try.func35, Try.ntmps35
      go_wp2_with (go_at_call 48; refine (PFnBlockBytes.laws_zzFits5.calls (x.w.length + 1) A2 c2 x.w true (w.alloc (Obj.cells cs 52)) (Kd.C_below G2.out (below_alloc (Below.refl _ _) _)) L2.out H5.out).mono ?_; rintro e w1 ⟨rfl, ⟨m1, rfl⟩⟩)
      go_ret
      exact ⟨rfl, pw_below_drewN (below_alloc (Below.refl _ _) _) _⟩
  · have cb : decide ((2147483647 : Int) < (x.s.length : Int)) = true := decide_eq_true (by omega)
    have cb1 : decide (2147483647 < x.s.length) = true := decide_eq_true (by omega)
    rw [decide_eq_false c, Bool.false_and]
    clear c
    go_enter Try.func35, Try.ntmps35
    go_wp2
    go_ret
    exact ⟨rfl, below_alloc (Below.refl _ _) _⟩
end Go.Proofs.Ytdjchplaeipgpaa.Tx
