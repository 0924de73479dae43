/-
  What spec writes: numbers, bytes, outputs, witnesses. No walk stands in this text.
  laws.same, and spec.sameBytes, of equal rows.
  Arrays of bytes are compared; an output's name that is none.
  Arguments of any plain type: what reads there is of a kind of the print's words. No program stands in this text.
  A transaction as an argument: its kind, what opens it.
  Rows of bytes that grow: append, and a tuple of words for walks that append; spec.inBytes.
  How many bytes a transaction has at most.
-/
import Derived.Test.YtkmlpoggbfbnaaaTxE
import Derived.Test.YtkmlpoggbfbnaaaGd
import Derived.Laws.StructEq
import Derived.Test.YtkmlpoggbfbnaaaWWords
import Derived.Test.YtkmlpoggbfbnaaaWArr
import Derived.ChangeArms
import Derived.OpenShut
import Derived.Test.YtkmlpoggbfbnaaaTxOf
namespace Go.Proofs.Ytkmlpoggbfbnaaa.Wire
open Go.RowKit Go.Proofs.YtkmlpoggbfbnaaaW.PrintWords Go.Proofs.YtkmlpoggbfbnaaaW.PrintLast Go.Proofs.Ytkmlpoggbfbnaaa.Tx
set_option linter.unusedSimpArgs false
set_option linter.unusedVariables false
set_option maxRecDepth 100000

theorem u64_id {x : Int} (h0 : 0 ≤ x) (h1 : x < 18446744073709551616) : IntKind.u64.wrap x = x := by unfold IntKind.wrap; simp [IntKind.bits, IntKind.signed]; omega
theorem u64_mod (x : Int) : IntKind.u64.wrap x = x % 18446744073709551616 := by unfold IntKind.wrap; simp [IntKind.bits, IntKind.signed]
theorem u32_mod (x : Int) : IntKind.u32.wrap x = x % 4294967296 := by unfold IntKind.wrap; simp [IntKind.bits, IntKind.signed]
theorem little_loop (n : Nat) (hn : n ≤ 100) (d : Nat) : ∀ (i k : Nat) (x : Int) (acc : List Int), i + d = n → d + 1 ≤ k → 0 ≤ x → x < 18446744073709551616 → acc.length = i → PFnTxIDs.spec_little.l0 k x acc (n : Int) (i : Int) = some (acc ++ le d x) := by
  induction d with
  | zero =>
    intro i k x acc h hk h0 h1 ha
    obtain ⟨k, rfl⟩ : ∃ k', k = k' + 1 := ⟨k - 1, by omega⟩
    rw [PFnTxIDs.spec_little.l0, if_neg (show ¬ (i : Int) < n by omega), le, List.append_nil]
  | succ d ih =>
    intro i k x acc h hk h0 h1 ha
    obtain ⟨k, rfl⟩ : ∃ k', k = k' + 1 := ⟨k - 1, by omega⟩
    have c1 : (i : Int) < n := by omega
    have c2 : acc.length < 140737488355328 := by omega
    have this := ih (i + 1) k (x / 256) (acc ++ [x % 256]) (by omega) (by omega) (by omega) (by omega) (by simp [ha])
    have hw : wrap64 ((i : Int) + 1) = ((i + 1 : Nat) : Int) := by rw [wrap64_id (by omega) (by omega)]; omega
    have e2 : Int.tmod x 256 % 256 = x % 256 := by clear hw; rw [Int.tmod_eq_emod_of_nonneg h0]; omega
    have e1 : IntKind.u64.wrap (Int.tdiv x 256) = x / 256 := by
      clear hw
      rw [Int.tdiv_eq_ediv_of_nonneg h0, u64_id (by omega) (by omega)]
    rw [PFnTxIDs.spec_little.l0]
    rw [if_pos c1]
    rw [if_pos c2]
    rw [e1, e2, hw, this, le, List.append_assoc]
    rfl
theorem little_eq (n k : Nat) (hn : n ≤ 100) (hk : n + 1 ≤ k) (x : Int) (h0 : 0 ≤ x) (h1 : x < 18446744073709551616) : PFnTxIDs.spec_little.f k x (n : Int) = some (le n x) := by
  have := little_loop n hn n 0 k x [] (by omega) hk h0 h1 rfl
  simpa [PFnTxIDs.spec_little.f] using this
theorem varint_eq (k : Nat) (hk : 9 ≤ k) (x : Int) (h0 : 0 ≤ x) (h1 : x < 18446744073709551616) : PFnTxIDs.spec_VarInt.f k x = some (vi x) := by
  have l2 := little_eq 2 k (by omega) (by omega) x h0 h1
  have l4 := little_eq 4 k (by omega) (by omega) x h0 h1
  have l8 := little_eq 8 k (by omega) (by omega) x h0 h1
  unfold PFnTxIDs.spec_VarInt.f vi
  by_cases c1 : x < 253
  · rw [if_pos c1, if_pos c1, show x % 256 = x by omega]
  · rw [if_neg c1, if_neg c1]
    by_cases c2 : x < 65536
    · rw [if_pos c2, if_pos (show x ≤ 65535 by omega)]
      rw [show ((2 : Nat) : Int) = 2 from rfl] at l2
      rw [l2]
      show (if (([253] : List Int)).length + (le 2 x).length < 140737488355328 then some ([253] ++ le 2 x) else none) = _
      rw [if_pos (by rw [le_len]; decide)]; rfl
    · rw [if_neg c2, if_neg (show ¬ x ≤ 65535 by omega)]
      by_cases c3 : x < 4294967296
      · rw [if_pos c3, if_pos (show x ≤ 4294967295 by omega)]
        rw [show ((4 : Nat) : Int) = 4 from rfl] at l4
        rw [l4]
        show (if (([254] : List Int)).length + (le 4 x).length < 140737488355328 then some ([254] ++ le 4 x) else none) = _
        rw [if_pos (by rw [le_len]; decide)]; rfl
      · rw [if_neg c3, if_neg (show ¬ x ≤ 4294967295 by omega)]
        rw [show ((8 : Nat) : Int) = 8 from rfl] at l8
        rw [l8]
        show (if (([255] : List Int)).length + (le 8 x).length < 140737488355328 then some ([255] ++ le 8 x) else none) = _
        rw [if_pos (by rw [le_len]; decide)]; rfl
theorem varbytes_eq (k : Nat) (hk : 9 ≤ k) (l : List Int) (hl : l.length + 16 ≤ 140737488355328) : PFnTxIDs.spec_VarBytes.f k l = some (vb l) := by
  have hv := vi_len l.length
  unfold PFnTxIDs.spec_VarBytes.f vb
  rw [u64_id (by omega) (by omega), varint_eq k hk _ (by omega) (by omega)]
  show (if (vi l.length).length + l.length < 140737488355328 then some (vi l.length ++ l) else none) = _
  rw [if_pos (by omega)]
theorem outbytes_eq (k : Nat) (hk : 9 ≤ k) (y : PFnTxIDs.S45) (hl : y.f1.length + 64 ≤ 140737488355328) : PFnTxIDs.spec_outBytes.f k y.f0 y.f1 = some (outB y) := by
  have hv := vb_len y.f1
  have l8 := little_eq 8 k (by omega) (by omega) (y.f0 % 18446744073709551616) (by omega) (by omega)
  rw [show ((8 : Nat) : Int) = 8 from rfl] at l8
  unfold PFnTxIDs.spec_outBytes.f outB
  rw [u64_mod, l8]
  show ((PFnTxIDs.spec_VarBytes.f k y.f1).bind fun t => if (le 8 (y.f0 % 18446744073709551616)).length + t.length < 140737488355328 then some (le 8 (y.f0 % 18446744073709551616) ++ t) else none) = _
  rw [varbytes_eq k hk _ (by omega)]
  show (if (le 8 (y.f0 % 18446744073709551616)).length + (vb y.f1).length < 140737488355328 then some (le 8 (y.f0 % 18446744073709551616) ++ vb y.f1) else none) = _
  rw [if_pos (by rw [le_len]; omega)]
theorem wit_loop (ws : List (List Int)) (a0 : List Int) (hl : a0.length + (ws.map vb).flatten.length + 64 ≤ 140737488355328) (hn : ws.length ≤ 2147483647) : ∀ (d i k : Nat), i + d = ws.length → d + 10 ≤ k → PFnTxIDs.spec_witnessBytes.l0 k ws (a0 ++ ((ws.take i).map vb).flatten) (i : Int) = some (a0 ++ (ws.map vb).flatten)
  | 0, i, k, h, hk => by
    obtain ⟨k, rfl⟩ : ∃ k', k = k' + 1 := ⟨k - 1, by omega⟩
    rw [PFnTxIDs.spec_witnessBytes.l0, if_neg (by omega), List.take_of_length_le (by omega)]
  | d + 1, i, k, h, hk => by
    obtain ⟨k, rfl⟩ : ∃ k', k = k' + 1 := ⟨k - 1, by omega⟩
    have hi : i < ws.length := by omega
    have hw : wrap64 ((i : Int) + 1) = ((i + 1 : Nat) : Int) := by rw [wrap64_id (by omega) (by omega)]; omega
    have htf := take_flat vb ws ([] : List Int) i hi
    have htl := take_len vb ws ([] : List Int) i hi
    have hr : PFnTxIDs.rd_L1 ws (i : Int) = ws.getD i [] := by simp [PFnTxIDs.rd_L1]
    obtain ⟨u, hu⟩ : ∃ u, ws.getD i [] = u := ⟨_, rfl⟩
    rw [hu] at htf htl hr
    have hvl : (vb u).length = (vi u.length).length + u.length := by rw [vb, List.length_append]
    rw [PFnTxIDs.spec_witnessBytes.l0, if_pos (by omega), if_pos (by omega), hr, varbytes_eq k (by omega) u (by omega)]
    show (if (a0 ++ ((ws.take i).map vb).flatten).length + (vb u).length < 140737488355328 then PFnTxIDs.spec_witnessBytes.l0 k ws ((a0 ++ ((ws.take i).map vb).flatten) ++ vb u) (wrap64 ((i : Int) + 1)) else none) = _
    rw [if_pos (by rw [List.length_append]; omega), hw, List.append_assoc, ← htf, wit_loop ws a0 hl hn d (i + 1) k (by omega) (by omega)]
theorem witbytes_eq (k : Nat) (ws : List (List Int)) (hk : ws.length + 10 ≤ k) (hl : (witB ws).length + 64 ≤ 140737488355328) (hn : ws.length ≤ 2147483647) : PFnTxIDs.spec_witnessBytes.f k ws = some (witB ws) := by
  have hv := vi_len ws.length
  have hwl : (witB ws).length = (vi ws.length).length + ((ws.map vb).flatten).length := by rw [witB, List.length_append]
  unfold PFnTxIDs.spec_witnessBytes.f
  rw [u64_id (by omega) (by omega), varint_eq k (by omega) _ (by omega) (by omega)]
  have := wit_loop ws (vi ws.length) (by omega) hn ws.length 0 k (by omega) hk
  simpa [witB] using this
end Go.Proofs.Ytkmlpoggbfbnaaa.Wire
namespace Go.Proofs.Ytkmlpoggbfbnaaa.Wire
open Go.RowKit Go.Proofs.YtkmlpoggbfbnaaaW.PrintWords Go.Proofs.YtkmlpoggbfbnaaaW.PrintLast Go.Proofs.Ytkmlpoggbfbnaaa.Reg Go.Proofs.Ytkmlpoggbfbnaaa.Tx
set_option linter.unusedSimpArgs false
set_option linter.unusedVariables false

/-- Rows of numbers are the same, as spec.sameBytes finds. -/
theorem sameB_loop (a : List Int) (ha : a.length ≤ 9223372036854775806) : ∀ (d i k : Nat), i + d = a.length → d + 1 ≤ k → PFnTxIDs.spec_sameBytes.l0 k a a (i : Int) = some true
  | 0, i, k, h, hk => by
    obtain ⟨k, rfl⟩ : ∃ k', k = k' + 1 := ⟨k - 1, by omega⟩
    rw [PFnTxIDs.spec_sameBytes.l0, if_neg (by omega)]
  | d + 1, i, k, h, hk => by
    obtain ⟨k, rfl⟩ : ∃ k', k = k' + 1 := ⟨k - 1, by omega⟩
    have hw : wrap64 ((i : Int) + 1) = ((i + 1 : Nat) : Int) := by rw [wrap64_id (by omega) (by omega)]; omega
    rw [PFnTxIDs.spec_sameBytes.l0, if_pos (by omega), if_pos (by omega), if_pos (by omega), if_pos rfl, hw, sameB_loop a ha d (i + 1) k (by omega) (by omega)]
theorem sameB_eq (a : List Int) (ha : a.length ≤ 9223372036854775806) : PFnTxIDs.spec_sameBytes.f (a.length + 1) a a = some true := by
  unfold PFnTxIDs.spec_sameBytes.f
  rw [if_pos rfl]
  exact sameB_loop a ha a.length 0 _ (by omega) (by omega)
end Go.Proofs.Ytkmlpoggbfbnaaa.Wire
namespace Go.Proofs.Ytkmlpoggbfbnaaa.Tx
open Go.RowKit Go.Proofs.YtkmlpoggbfbnaaaW.PrintWords Go.Proofs.YtkmlpoggbfbnaaaW.PrintLast
set_option linter.unusedSimpArgs false
set_option linter.unusedVariables false

/-- Element by element: is the one list the other? -/
theorem all_places (xs ys : List Int) (n : Nat) (hx : xs.length = n) (hy : ys.length = n) : ((List.range' 0 n 1).all fun i => xs.getD i 0 == ys.getD i 0) = decide (xs = ys) := by
  rw [Bool.eq_iff_iff, List.all_eq_true, decide_eq_true_eq]
  constructor
  · intro h
    refine List.ext_getElem (hx.trans hy.symm) (fun i h1 h2 => ?_)
    have := h i (List.mem_range'_1.2 ⟨Nat.zero_le _, by omega⟩)
    simpa [List.getD, List.getElem?_eq_getElem h1, List.getElem?_eq_getElem h2] using this
  · rintro rfl i _
    simp
theorem equal_hv {P : Program} (w : World) (d : Nat) (t e : TypeId) (n : Nat) (ht : P.underlying t = some (.array n e)) (he : P.underlying e = some (.int .u8)) (hsz : ∀ w, (sizeOf e).run P w = .ok 1 w)
    (xs ys : List Int) (hx : xs.length = n) (hy : ys.length = n) :
    (Op.equalIn (d + 2) t (.agg (hv xs).toArray) (.agg (hv ys).toArray)).run P w = .ok (decide (xs = ys)) w := by
  rw [← all_places xs ys n hx hy, Op.equalIn]
  simp only [Sem.run_bind, run_underlying ht, Result.andThen_ok, hsz, Std.Legacy.Range.forIn_eq_forIn_range', Std.Legacy.Range.size, Nat.sub_zero, Nat.add_sub_cancel, Nat.div_one]
  have hin : ∀ i ∈ List.range' 0 n 1, i < n := fun i hi => by simpa using (List.mem_range'_1.1 hi).2
  have one : ∀ (zs : List Int), zs.length = n → ∀ i, i < n → (part e (hv zs).toArray (i * 1)).run P w = .ok (.int .u8 (zs.getD i 0)) w := by
    intro zs hz i hi
    simp [hv, part, isAgg, run_underlying he, List.getD, List.getElem?_eq_getElem (show i < zs.length by omega)]
  generalize List.range' 0 n 1 = l at hin ⊢
  induction l with
  | nil => simp
  | cons i l ih =>
    have hi := hin i List.mem_cons_self
    simp only [List.forIn_cons, Sem.run_bind, one xs hx i hi, one ys hy i hi, Result.andThen_ok, List.all_cons, run_equalIn_int w d e .u8 .u8 _ _ he]
    by_cases hb : xs.getD i 0 = ys.getD i 0
    · rw [show (xs.getD i 0 == ys.getD i 0) = true from beq_iff_eq.2 hb]
      simp only [Bool.not_true, Bool.false_eq_true, if_false, Sem.run_pure, Result.andThen_ok, Bool.true_and]
      exact ih fun j hj => hin j (List.mem_cons_of_mem _ hj)
    · rw [show (xs.getD i 0 == ys.getD i 0) = false from by rw [beq_eq_false_iff_ne]; exact hb]
      simp
/-- An operation whose guard lets it be. -/
theorem wpList_let {P : Program} {ops : Array Oper} {Q : Exit → Act → World → Prop} {a : Act} {w : World} {rest : List Oper} {o : Oper} (hw : Region.wanted o (yielded ops a.tmps) = true)
    (h : ∀ K : Act → World → Prop, (∀ a w, wpList P ops Q rest a w → K a w) → o.wp P a w K Q) : wpList P ops Q (o :: rest) a w :=
  wpList_step fun K hK => by rw [if_pos hw]; exact h K hK
theorem wp_load_list {P : Program} {op : Oper} {a : Act} {w : World} {K : Act → World → Prop} {Q : Exit → Act → World → Prop} (ty : TypeId) (x : Operand) (ho : op.op = .load ty x)
    (ad : Addr) (hx : a.eval x = .pointer (some ad)) (cs : List Value) (d : TypeDesc) (hc : ∀ j v, cs[j]? = some v → w.cell? (ad.add j) = some v)
    (hu : P.underlying ty = some d) (hd : d.isRow = true) (hi : (P.info? ty).map (·.size) = some cs.length)
    (h : K (a.put op.dst (.agg cs.toArray)) w) : Oper.wp P op a w K Q := by
  unfold Oper.wp execOp
  simp only [ho, hx, Sem.run_bind, Sem.run_pure, Result.andThen_ok, run_loadAt_list w ad ty cs d hc hu hd hi]
  exact h
end Go.Proofs.Ytkmlpoggbfbnaaa.Tx
namespace Go.Proofs.Ytkmlpoggbfbnaaa.Open
open Go.RowKit Go.Proofs.YtkmlpoggbfbnaaaW.PrintWords
set_option linter.unusedVariables false

/-- What reads at type t is of kind d, and G. -/
def Opens (P : Program) (t : TypeId) {α : Type} (d : Kd α) (G : α → Prop) : Prop :=
  P.cellsOf t = d.sz ∧ ∀ (H : Type) (enc : TypeId × Value → H) (w : World) (fuel : Nat) (cs : List Value) (x : DataW H × List MemPlace),
    DataW.trod enc P w 0 (fun _ => true) true fuel t cs = some x → ∃ a, d.K w a cs ∧ G a

section
variable {P : Program} {t e : TypeId} {α β : Type} {d : Kd α} {G : α → Prop}
theorem opens_int {k : IntKind} (ht : P.underlying t = some (.int k)) (hc : P.cellsOf t = 1) : Opens P t (Kd.int k) (fun n => (Lit.int k n).wf = true) :=
  ⟨hc, fun _ _ _ _ _ _ h => by
    obtain ⟨n, rfl, _, hw⟩ := DataW.trod_int ht h
    exact ⟨n, rfl, hw⟩⟩
theorem opens_slice (h : Opens P e d G) (ht : P.underlying t = some (.slice e)) (hc : P.cellsOf t = 1) : Opens P t (Kd.slice e d) (fun xs => ∀ x ∈ xs, G x) :=
  ⟨hc, fun H enc w fuel cs x hx => by
    rcases DataW.trod_slice ht hx with ⟨rfl, _⟩ | ⟨a, len, cap, elems, rest, n, rfl, rfl, _, _, hl, hm, hlen, hel, _, _⟩
    · exact ⟨[], ⟨none, 0, rfl, Nat.le_refl _, Kd.C_nil d w⟩, fun _ hx => by cases hx⟩
    · have key : ∀ m, m ≤ len → ∃ xs : List α, xs.length = m ∧ (∀ j p, xs[j]? = some p → ∃ c, c.length = d.sz ∧ d.K w p c ∧ ∀ i u, c[i]? = some u → w.cell? (a.add (j * d.sz + i)) = some u) ∧ ∀ p ∈ xs, G p := by
        intro m
        induction m with
        | zero => exact fun _ => ⟨[], rfl, fun j p hp => by simp at hp, fun p hp => by cases hp⟩
        | succ m ih =>
          intro hm'
          obtain ⟨xs, hx1, hx2, hx3⟩ := ih (by omega)
          have h1 := hel m (by omega)
          rw [List.getElem?_eq_getElem (by omega), Option.bind_eq_some_iff] at h1
          obtain ⟨c, hc1, hc2⟩ := h1
          obtain ⟨_, hc3, hc4⟩ := World.cells?_some hc1
          obtain ⟨p, hp1, hp2⟩ := h.2 H enc w n c _ hc2
          rw [h.1] at hc3 hc4
          refine ⟨xs ++ [p], by simp [hx1], fun j q hq => ?_, fun q hq => ?_⟩
          · rcases Nat.lt_or_ge j xs.length with hj | hj
            · rw [List.getElem?_append_left hj] at hq
              exact hx2 j q hq
            · have hj' : j = xs.length := by
                have := (List.getElem?_eq_some_iff.1 hq).1
                rw [List.length_append, List.length_singleton] at this
                omega
              subst hj'
              have hq' : p = q := by simpa using hq
              subst hq'
              refine ⟨c, hc3, hp1, fun i u hu => ?_⟩
              have hi : i < d.sz := by have := (List.getElem?_eq_some_iff.1 hu).1; omega
              have := hc4 i hi
              rw [add_add, hx1.symm] at this
              rw [this, hu]
          · rcases List.mem_append.1 hq with hq | hq
            · exact hx3 q hq
            · rw [List.mem_singleton.1 hq]; exact hp2
      obtain ⟨xs, hx1, hx2, hx3⟩ := key len (Nat.le_refl _)
      unfold maxLen at hm
      refine ⟨xs, ⟨some a, cap, by rw [hx1], by omega, rfl, by omega, fun _ => ⟨a, rfl, hx2⟩⟩, hx3⟩⟩
theorem opens_array {n : Nat} {hs : 0 < d.sz} (h : Opens P e d G) (ht : P.underlying t = some (.array n e)) (hc : P.cellsOf t = n * d.sz) : Opens P t (Kd.arr n d hs) (fun xs => ∀ x ∈ xs, G x) :=
  ⟨hc, fun H enc w fuel cs x hx => by
    obtain ⟨ys, m, rfl, _, hl, hyl, hy⟩ := DataW.trod_array ht hx
    have key : ∀ m', m' ≤ n → ∃ xs : List α, xs.length = m' ∧ (∀ j p, xs[j]? = some p → d.K w p ((cs.drop (j * d.sz)).take d.sz)) ∧ ∀ p ∈ xs, G p := by
      intro m'
      induction m' with
      | zero => exact fun _ => ⟨[], rfl, fun j p hp => by simp at hp, fun p hp => by cases hp⟩
      | succ m' ih =>
        intro hm'
        obtain ⟨xs, hx1, hx2, hx3⟩ := ih (by omega)
        have h1 := hy m' (by omega)
        rw [List.getElem?_eq_getElem (by omega), h.1] at h1
        obtain ⟨p, hp1, hp2⟩ := h.2 H enc w m _ _ h1
        refine ⟨xs ++ [p], by simp [hx1], fun j q hq => ?_, fun q hq => ?_⟩
        · rcases Nat.lt_or_ge j xs.length with hj | hj
          · rw [List.getElem?_append_left hj] at hq
            exact hx2 j q hq
          · have hj' : j = xs.length := by
              have := (List.getElem?_eq_some_iff.1 hq).1
              rw [List.length_append, List.length_singleton] at this
              omega
            subst hj'
            have hq' : p = q := by simpa using hq
            subst hq'
            rw [hx1]
            exact hp1
        · rcases List.mem_append.1 hq with hq | hq
          · exact hx3 q hq
          · rw [List.mem_singleton.1 hq]; exact hp2
    obtain ⟨xs, hx1, hx2, hx3⟩ := key n (Nat.le_refl _)
    exact ⟨xs, ⟨hx1, by rw [hl, hc, hx1], hx2⟩, hx3⟩⟩

/-- The fields from an offset on. -/
def OpensF (P : Program) (fs : List Field) (off : Nat) {α : Type} (d : Kd α) (G : α → Prop) : Prop :=
  ∀ (H : Type) (enc : TypeId × Value → H) (w : World) (fuel : Nat) (cs : List Value) (xs : List (DataW H × List MemPlace)), off + d.sz ≤ cs.length →
    (∀ (i : Nat) (f : Field), fs[i]? = some f → ∃ x, DataW.trod enc P w 0 (fun _ => true) true fuel f.type ((cs.drop f.offset).take (P.cellsOf f.type)) = some x) →
    ∃ a, d.K w a ((cs.drop off).take d.sz) ∧ G a
theorem opensF_one {f : Field} {off : Nat} (h : Opens P f.type d G) (ho : f.offset = off) : OpensF P [f] off d G := by
  intro H enc w fuel cs xs hl hx
  obtain ⟨x, hx⟩ := hx 0 f rfl
  rw [ho, h.1] at hx
  exact h.2 H enc w fuel _ x hx
theorem opensF_cons {f : Field} {fs : List Field} {off : Nat} {d' : Kd β} {G' : β → Prop} (h : Opens P f.type d G) (ho : f.offset = off) (hr : OpensF P fs (off + d.sz) d' G') :
    OpensF P (f :: fs) off (Kd.pair d d') (fun x => G x.1 ∧ G' x.2) := by
  intro H enc w fuel cs xs hl hx
  have hl' : off + (d.sz + d'.sz) ≤ cs.length := hl
  obtain ⟨x, hx0⟩ := hx 0 f rfl
  rw [ho, h.1] at hx0
  obtain ⟨a, ha, ga⟩ := h.2 H enc w fuel _ x hx0
  obtain ⟨b, hb, gb⟩ := hr H enc w fuel cs xs (by omega) (fun i g hg => hx (i + 1) g (by simpa using hg))
  refine ⟨(a, b), ⟨_, _, ?_, ha, hb⟩, ga, gb⟩
  show (cs.drop off).take (d.sz + d'.sz) = _
  rw [List.take_add, List.drop_drop]
theorem opens_struct {fs : Array Field} {f : β → α} {g : α → β} (hfg : ∀ a, f (g a) = a) (h : OpensF P fs.toList 0 d G) (ht : P.underlying t = some (.struct fs)) (hc : P.cellsOf t = d.sz) : Opens P t (Kd.iso d f) (fun b => G (f b)) :=
  ⟨hc, fun H enc w fuel cs x hx => by
    obtain ⟨xs, n, rfl, _, hl, hxl, hy⟩ := DataW.trod_struct ht hx
    obtain ⟨a, ha, ga⟩ := h H enc w n cs xs (by omega) (fun i f hf => by
      have hf' : fs[i]? = some f := by simpa using hf
      have h1 := hy i f hf'
      have hi : i < fs.size := (Array.getElem?_eq_some_iff.1 hf').1
      rw [List.getElem?_eq_getElem (by omega)] at h1
      exact ⟨_, h1⟩)
    rw [List.drop_zero, List.take_of_length_le (by omega)] at ha
    exact ⟨g a, by show d.K w (f (g a)) cs; rw [hfg]; exact ha, by show G (f (g a)); rw [hfg]; exact ga⟩⟩
theorem opens_imp {G' : α → Prop} (h : Opens P t d G) (hi : ∀ a, G a → G' a) : Opens P t d G' :=
  ⟨h.1, fun H enc w fuel cs x hx => by
    obtain ⟨a, ha, ga⟩ := h.2 H enc w fuel cs x hx
    exact ⟨a, ha, hi a ga⟩⟩
/-- A struct or an array as an argument. -/
theorem arg_agg {H : Type} {enc : TypeId × Value → H} {w : World} {cs : Array Value} {x : DataW H} {ps : List MemPlace} (h : Opens P t d G)
    (hx : DataW.Trod enc P w 0 (fun _ => true) true t (.agg cs) x ps) : ∃ a, d.K w a cs.toList ∧ G a := by
  obtain ⟨fuel, hf⟩ := hx
  exact h.2 H enc w fuel _ _ hf
end
end Go.Proofs.Ytkmlpoggbfbnaaa.Open
namespace Go.Proofs.Ytkmlpoggbfbnaaa.Tx
open Go.RowKit Go.Proofs.YtkmlpoggbfbnaaaW.PrintWords Go.Proofs.YtkmlpoggbfbnaaaW.PrintLast Go.Proofs.Ytkmlpoggbfbnaaa.Reg
set_option linter.unusedSimpArgs false
set_option linter.unusedVariables false
set_option maxRecDepth 100000

theorem Wx.below {w w1 : World} {base g : Nat} {x : TX} {v1 v2 : Value} (h : Wx w base g x v1 v2) (hb : Below w.heap.size w w1) : Wx w1 base g x v1 v2 := ⟨h.lo, blk_below h.blk hb, Kd.R_below h.ins hb, Kd.R_below h.outs hb⟩
theorem box_lies {w w' : World} {cs : Array Value} {t : Nat} (h : Below (w.alloc (.cells cs t)).heap.size (w.alloc (.cells cs t)) w') : Lies w' ⟨w.heap.size, 0, none⟩ cs.toList := by
  intro j v hj
  rw [Addr.add_mid, Nat.zero_add, cell_of_row _ _ _ _ _ _ (blk_below (heap_alloc_new w _) h)]
  simpa using hj
theorem opens_bytes : Open.Opens Try.prog 40 (Kd.slice 5 (Kd.int .u8)) (fun xs => ∀ x ∈ xs, (Lit.int .u8 x).wf = true) :=
  Open.opens_slice (Open.opens_int Try.underlying5 (by kernel_rfl)) Try.underlying40 (by kernel_rfl)
theorem opens_wit : Open.Opens Try.prog 41 (Kd.slice 40 (Kd.slice 5 (Kd.int .u8))) (fun xs => ∀ y ∈ xs, ∀ x ∈ y, (Lit.int .u8 x).wf = true) :=
  Open.opens_slice opens_bytes Try.underlying41 (by kernel_rfl)
theorem opens_op : Open.Opens Try.prog 39 (Kd.iso (Kd.pair (Kd.arr 32 (Kd.int .u8) (by decide)) (Kd.int .u32)) (fun x : List Int × Int => x)) (fun x => (∀ y ∈ x.1, (Lit.int .u8 y).wf = true) ∧ (Lit.int .u32 x.2).wf = true) :=
  Open.opens_struct (g := fun y => y) (fun _ => rfl) (Open.opensF_cons (Open.opens_array (Open.opens_int Try.underlying5 (by kernel_rfl)) Try.underlying29 (by kernel_rfl)) rfl (Open.opensF_one (Open.opens_int Try.underlying24 (by kernel_rfl)) rfl)) Try.underlying39 (by kernel_rfl)
def GoodTI (x : TI) : Prop := ((∀ y ∈ x.h, (Lit.int .u8 y).wf = true) ∧ (Lit.int .u32 x.i).wf = true) ∧ (∀ y ∈ x.s, (Lit.int .u8 y).wf = true) ∧ (∀ y ∈ x.w, ∀ z ∈ y, (Lit.int .u8 z).wf = true) ∧ (Lit.int .u32 x.q).wf = true
def kTI2 : Kd TI := Kd.iso (Kd.pair (Kd.iso (Kd.pair (Kd.arr 32 (Kd.int .u8) (by decide)) (Kd.int .u32)) (fun x : List Int × Int => x)) (Kd.pair (Kd.slice 5 (Kd.int .u8)) (Kd.pair (Kd.slice 40 (Kd.slice 5 (Kd.int .u8))) (Kd.int .u32)))) (fun x : TI => ((x.h, x.i), x.s, x.w, x.q))
theorem opens_ti2 : Open.Opens Try.prog 43 kTI2 GoodTI := by
  have h0 := Open.opens_struct (f := fun x : TI => ((x.h, x.i), x.s, x.w, x.q)) (g := fun y : (List Int × Int) × List Int × List (List Int) × Int => (⟨y.1.1, y.1.2, y.2.1, y.2.2.1, y.2.2.2⟩ : TI)) (fun _ => rfl)
    (Open.opensF_cons opens_op rfl (Open.opensF_cons opens_bytes rfl (Open.opensF_cons opens_wit rfl (Open.opensF_one (Open.opens_int Try.underlying24 (by kernel_rfl)) rfl)))) Try.underlying43 (by kernel_rfl)
  exact Open.opens_imp h0 (fun _ h => h)
theorem opens_ti : Open.Opens Try.prog 43 kTI GoodTI :=
  ⟨by kernel_rfl, fun H enc w fuel cs x hx => by
    obtain ⟨a, ⟨c0, r0, e0, ⟨c1, r1, e1, h1, h2⟩, h3⟩, g⟩ := opens_ti2.2 H enc w fuel cs x hx
    exact ⟨a, ⟨c1, r1 ++ r0, by rw [e0, e1, List.append_assoc], h1, r1, r0, rfl, h2, h3⟩, g⟩⟩
theorem opens_out : Open.Opens Try.prog 45 PFnTxIDs.k45 (fun x => (Lit.int .i64 x.f0).wf = true ∧ ∀ y ∈ x.f1, (Lit.int .u8 y).wf = true) := by
  have h0 := Open.opens_struct (f := fun x : PFnTxIDs.S45 => (x.f0, x.f1)) (g := fun y => ⟨y.1, y.2⟩) (fun _ => rfl) (Open.opensF_cons (Open.opens_int Try.underlying2 (by kernel_rfl)) rfl (Open.opensF_one opens_bytes rfl)) Try.underlying45 (by kernel_rfl)
  exact Open.opens_imp h0 (fun _ h => h)
def kTX : Kd TX := Kd.iso (Kd.pair (Kd.int .i32) (Kd.pair (Kd.slice 43 kTI) (Kd.pair (Kd.slice 45 PFnTxIDs.k45) (Kd.int .u32)))) (fun x : TX => (x.v, x.ins, x.outs, x.k))
def GoodTX (x : TX) : Prop := (Lit.int .i32 x.v).wf = true ∧ (∀ y ∈ x.ins, GoodTI y) ∧ (∀ y ∈ x.outs, (Lit.int .i64 y.f0).wf = true ∧ ∀ z ∈ y.f1, (Lit.int .u8 z).wf = true) ∧ (Lit.int .u32 x.k).wf = true
theorem opens_tx : Open.Opens Try.prog 26 kTX GoodTX := by
  have h0 := Open.opens_struct (f := fun x : TX => (x.v, x.ins, x.outs, x.k)) (g := fun y => ⟨y.1, y.2.1, y.2.2.1, y.2.2.2⟩) (fun _ => rfl)
    (Open.opensF_cons (Open.opens_int Try.underlying21 (by kernel_rfl)) rfl (Open.opensF_cons (Open.opens_slice opens_ti Try.underlying22 (by kernel_rfl)) rfl (Open.opensF_cons (Open.opens_slice opens_out Try.underlying23 (by kernel_rfl)) rfl (Open.opensF_one (Open.opens_int Try.underlying24 (by kernel_rfl)) rfl)))) Try.underlying26 (by kernel_rfl)
  exact Open.opens_imp h0 (fun _ h => h)
theorem kTX_open {w : World} {x : TX} {cs : Array Value} (h : kTX.K w x cs.toList) : ∃ A1 c1 A2 c2, cs = txc x A1 c1 A2 c2 ∧ TxIn w x A1 c1 A2 c2 := by
  obtain ⟨_, _, e, rfl, _, _, rfl, ⟨A1, c1, rfl, l1, g1⟩, _, _, rfl, ⟨A2, c2, rfl, l2, g2⟩, rfl⟩ := h
  refine ⟨A1, c1, A2, c2, ?_, l1, l2, g1, g2⟩
  rw [← Array.toArray_toList (xs := cs), e]
  rfl
end Go.Proofs.Ytkmlpoggbfbnaaa.Tx
namespace Go.Proofs.Ytkmlpoggbfbnaaa.Wire
open Go.RowKit Go.Proofs.YtkmlpoggbfbnaaaW.PrintWords Go.Proofs.YtkmlpoggbfbnaaaW.PrintLast Go.Proofs.Ytkmlpoggbfbnaaa.Tx Go.Proofs.Ytkmlpoggbfbnaaa.Reg
set_option linter.unusedSimpArgs false
set_option linter.unusedVariables false

/-- A row of bytes of this call's own. -/
abbrev Own (w0 w : World) (v : Value) (l : List Int) : Prop := Kd.R (Kd.int .u8) 5 w w0.heap.size (fun _ => True) v l ∧ Below w0.heap.size w0 w
theorem Own.below {w0 w w1 : World} {v : Value} {l : List Int} (h : Own w0 w v l) (hb : Below w.heap.size w w1) : Own w0 w1 v l := ⟨Kd.R_below h.1 hb, below_then h.2 h.2.size hb⟩
theorem Own.eq {w0 w : World} {v : Value} {l l' : List Int} (h : Own w0 w v l) (e : l = l') : Own w0 w v l' := e ▸ h
section
variable {ops : Array Oper} {Q : Exit → Act → World → Prop} {a : Act} {rest : List Oper} {o : Oper}
/-- append(v, ys...), both bytes. -/
theorem app {w0 W : World} (hgd : o.guard = none) (s x : Operand) (ho : o.op = .call { callee := .builtin .append, args := #[s, x], argTypes := #[40, 40] }) {v : Value} {xs ys : List Int} {A : Option Addr} {c : Nat} {n : Nat} (hs : a.eval s = v) (hx : a.eval x = .slice A n c)
    (HO : Own w0 W v xs) (HR : Kd.C (Kd.int .u8) W A ys.length ys) (hn : ys.length = n) (hl : xs.length + ys.length ≤ 140737488355328)
    (h : ∀ v1 w1, Own w0 w1 v1 (xs ++ ys) → W.grownBy w1 v.ownBlock → wpList Try.prog ops Q rest (a.put o.dst v1) w1) : wpList Try.prog ops Q (o :: rest) a W := by
  subst hn
  exact Kd.R_append_rows (Kd.int .u8) w0.heap.size hgd s x 40 5 (.int .u8 0) 1 ho Try.underlying40 PFnTxIDs.info5 rfl (by decide) (by decide) v xs ys A ys.length c (fun _ => True) (fun _ => False) hs hx HO.1 HR (fun _ _ h => h) (fun _ h => h.elim) (fun _ _ => trivial) HO.2 HO.2.size (by omega) (fun v1 w1 h1 h2 h3 _ => h v1 w1 ⟨h1, h2⟩ h3)
end
/-- What a call made, as bytes that are read. -/
theorem made_C {w0 w w1 : World} {l d : List Int} {v u : Value} {base : Nat} {ok : Nat → Prop} (h : Own w0 w v l) (hr : Kd.R (Kd.int .u8) 5 w1 base ok u d) (hb : Below w.heap.size w w1) : Own w0 w1 v l ∧ ∃ A c, u = .slice A d.length c ∧ Kd.C (Kd.int .u8) w1 A d.length d := by
  obtain ⟨A, c, e, _, hC⟩ := Kd.R_reads hr
  exact ⟨h.below hb, A, c, e, hC⟩
set_option maxHeartbeats 8000000 in
set_option maxRecDepth 100000 in
theorem specIn_calls (y : TI) (A1 : Option Addr) (c1 : Nat) (A2 : Option Addr) (c2 : Nat) (w : World) (hl : y.h.length = 32) (l1 : y.s.length ≤ c1) (g1 : (Kd.int .u8).C w A1 y.s.length y.s) (hi : 0 ≤ y.i ∧ y.i < 4294967296) (hq : 0 ≤ y.q ∧ y.q < 4294967296) (hs : y.s.length ≤ 2147483647) :
    Calls Try.prog 34 #[.agg (tic y A1 c1 A2 c2).toArray] w fun e w' => ∃ v, e = .returned v ∧ Own w w' v (inB y) := by
  have hW0 : Below w.heap.size w (w.alloc (.cells (tic y A1 c1 A2 c2).toArray 43)) := below_alloc (Below.refl _ _) _
  have hcell : ∀ (W : World), Below (w.alloc (.cells (tic y A1 c1 A2 c2).toArray 43)).heap.size (w.alloc (.cells (tic y A1 c1 A2 c2).toArray 43)) W → ∀ j v, (tic y A1 c1 A2 c2)[j]? = some v → W.cell? ⟨w.heap.size, j, none⟩ = some v := by
    intro W hW j v hj
    have := box_cell w _ 43 j v hj
    exact (hW.cell (World.block_lt_of_cell? _ _ this)).trans this
  have hhash : ∀ (W : World), Below (w.alloc (.cells (tic y A1 c1 A2 c2).toArray 43)).heap.size (w.alloc (.cells (tic y A1 c1 A2 c2).toArray 43)) W → Kd.C (Kd.int .u8) W (some ⟨w.heap.size, 0, none⟩) y.h.length y.h := fun W hW => by
    refine Kd.C_of_reads (d := (0 : Int)) (h1 := fun _ => rfl) ⟨rfl, by omega, fun hn => ⟨_, rfl, fun j hj => ?_⟩⟩
    rw [add_plain]
    refine hcell W hW j _ ?_
    rw [tic, opc, List.append_assoc, List.getElem?_append_left (by rw [hv_len]; exact hj)]
    simp [hv, List.getD, hj]
  obtain ⟨cs, hcs⟩ : ∃ cs, (tic y A1 c1 A2 c2).toArray = cs := ⟨_, rfl⟩
  rw [hcs] at hhash hW0 ⊢
  have hc : ∀ W, Below (w.alloc (.cells cs 43)).heap.size (w.alloc (.cells cs 43)) W → W.cell? ⟨w.heap.size, 32, none⟩ = some (.int .u32 y.i) ∧ W.cell? ⟨w.heap.size, 33, none⟩ = some (.slice A1 y.s.length c1) ∧ W.cell? ⟨w.heap.size, 35, none⟩ = some (.int .u32 y.q) := by
    intro W hW
    rw [hcs] at hcell
    exact ⟨hcell W hW 32 _ (tic_32 _ _ _ _ _ hl), hcell W hW 33 _ (tic_33 _ _ _ _ _ hl), hcell W hW 35 _ (tic_35 _ _ _ _ _ hl)⟩
  have HH := Lib.hid hhash
  have HC := Lib.hid hc
  have HL := Lib.hid hl
  have L1 := Lib.hid l1
  have G1 := Lib.hid g1
  have HI := Lib.hid hi
  have HQ := Lib.hid hq
  have HS := Lib.hid hs
  have W0 := Lib.hid hW0
  have hw1 : IntKind.u64.wrap y.i = y.i := u64_id hi.1 (by omega)
  have hw2 : y.i % 18446744073709551616 = y.i := by omega
  have hw3 : IntKind.u64.wrap y.q = y.q := u64_id hq.1 (by omega)
  have hw4 : y.q % 18446744073709551616 = y.q := by omega
  obtain ⟨di, hdi⟩ : ∃ d, le 4 y.i = d := ⟨_, rfl⟩
  obtain ⟨dq, hdq⟩ : ∃ d, le 4 y.q = d := ⟨_, rfl⟩
  obtain ⟨ds, hds⟩ : ∃ d, vb y.s = d := ⟨_, rfl⟩
  have KI := Lib.hid (hdi ▸ little_eq 4 9 (by omega) (by omega) y.i hi.1 (by omega))
  have KQ := Lib.hid (hdq ▸ little_eq 4 9 (by omega) (by omega) y.q hq.1 (by omega))
  have KV := Lib.hid (hds ▸ varbytes_eq 9 (by omega) y.s (by omega))
  have HD := Lib.hid (show inB y = y.h ++ di ++ ds ++ dq from by rw [inB, opB, hdi, hdq, hds])
  have LI := Lib.hid (show di.length = 4 from by rw [← hdi, le_len])
  have LQ := Lib.hid (show dq.length = 4 from by rw [← hdq, le_len])
  have LS := Lib.hid (show ds.length ≤ 3000000000 from by rw [← hds]; have := vb_len y.s; omega)
  rw [HD.out]
  clear hhash hcell hc hl l1 g1 hi hq hs hW0 hcs hdi hdq hds
  go_enter Try.func34, Try.ntmps34
  go_wp2_with (first
    | ((with_reducible refine gate_dst (N := 4) rfl ?_); refine Kd.R_lit (Kd.int .u8) _ 5 ?hg (N := 4) ?hd (xs := ([] : List Int)) (inner := []) (ok := fun _ => True) (okp := fun _ => True) ?hr ?hp (fun _ hk => hk) trivial (Below.refl _ _) (Nat.le_refl _) (by simp) ?_; (case hd => rfl); (case hg => rfl); (case hr => first | (go_simp; done) | (go_simp; rfl)); (case hp => exact (Reps.none _ _)); intro v1 w1 h1 hb1 hg_ hnew_; clear hg_ hnew_; have HO := Lib.hid (show Own (w.alloc (.cells cs 43)) w1 v1 [] from ⟨h1, hb1⟩); clear h1 hb1)
    | ((with_reducible refine gate_builtin (b := .append) (xs := #[.tmp 4, .tmp 7]) rfl ?_); at_builtin; go_must (refine app (w0 := (w.alloc (.cells cs 43))) rfl (.tmp 4) (.tmp 7) rfl rfl rfl HO.out (HH.out _ HO.out.2) HL.out (by have := HL.out; simp; omega) ?_); intro v_ w_ ho_ _; have n0_ := Lib.hid ho_; clear HO  ho_; have HO := n0_; clear n0_; have k_ := HC.out _ HO.out.2; have k32 := k_.1; have k33 := k_.2.1; have k35 := k_.2.2; clear k_)
    | (go_at_call 32; (with_reducible refine (PFnTxIDs.spec_little.calls 9 y.i 4 _ _ KI.out).mono ?_); rintro e w_ ⟨u, rfl, hr, hb⟩; obtain ⟨ho_, A, c, rfl, hC⟩ := made_C HO.out hr hb; have n0_ := Lib.hid ho_; have HCx := Lib.hid hC; clear HO hr hb ho_ hC; have HO := n0_; clear n0_)
    | ((with_reducible refine gate_builtin (b := .append) (xs := #[.tmp 9, .tmp 14]) rfl ?_); at_builtin; go_must (refine app (w0 := (w.alloc (.cells cs 43))) rfl (.tmp 9) (.tmp 14) rfl rfl rfl HO.out HCx.out rfl (by have := HL.out; have := LI.out; simp; omega) ?_); intro v_ w_ ho_ _; have n0_ := Lib.hid ho_; clear HO HCx ho_; have HO := n0_; clear n0_; have k_ := HC.out _ HO.out.2; have k32 := k_.1; have k33 := k_.2.1; have k35 := k_.2.2; clear k_)
    | (go_at_call 44; (with_reducible refine (PFnTxIDs.spec_VarBytes.calls 9 A1 c1 y.s _ _ (Kd.C_below (Kd.C_below G1.out W0.out) HO.out.2) L1.out KV.out).mono ?_); rintro e w_ ⟨u, rfl, hr, hb⟩; obtain ⟨ho_, A, c, rfl, hC⟩ := made_C HO.out hr hb; have n0_ := Lib.hid ho_; have HCx := Lib.hid hC; clear HO hr hb ho_ hC; have HO := n0_; clear n0_)
    | ((with_reducible refine gate_builtin (b := .append) (xs := #[.tmp 16, .tmp 19]) rfl ?_); at_builtin; go_must (refine app (w0 := (w.alloc (.cells cs 43))) rfl (.tmp 16) (.tmp 19) rfl rfl rfl HO.out HCx.out rfl (by have := HL.out; have := LI.out; have := LQ.out; have := LS.out; simp; omega) ?_); intro v_ w_ ho_ _; have n0_ := Lib.hid ho_; clear HO HCx ho_; have HO := n0_; clear n0_; have k_ := HC.out _ HO.out.2; have k32 := k_.1; have k33 := k_.2.1; have k35 := k_.2.2; clear k_)
    | (go_at_call 32; (with_reducible refine (PFnTxIDs.spec_little.calls 9 y.q 4 _ _ KQ.out).mono ?_); rintro e w_ ⟨u, rfl, hr, hb⟩; obtain ⟨ho_, A, c, rfl, hC⟩ := made_C HO.out hr hb; have n0_ := Lib.hid ho_; have HCx := Lib.hid hC; clear HO hr hb ho_ hC; have HO := n0_; clear n0_)
    | ((with_reducible refine gate_builtin (b := .append) (xs := #[.tmp 21, .tmp 25]) rfl ?_); at_builtin; go_must (refine app (w0 := (w.alloc (.cells cs 43))) rfl (.tmp 21) (.tmp 25) rfl rfl rfl HO.out HCx.out rfl (by have := HL.out; have := LI.out; have := LQ.out; have := LS.out; simp; omega) ?_); intro v_ w_ ho_ _; have n0_ := Lib.hid ho_; clear HO HCx ho_; have HO := n0_; clear n0_; have k_ := HC.out _ HO.out.2; have k32 := k_.1; have k33 := k_.2.1; have k35 := k_.2.2; clear k_))
  go_ret
  refine ⟨_, rfl, Kd.R_lower (by have := HO.out.1; simpa using this) W0.out.size, below_then W0.out W0.out.size HO.out.2⟩
end Go.Proofs.Ytkmlpoggbfbnaaa.Wire
namespace Go.Proofs.Ytkmlpoggbfbnaaa.Wire
open Go.RowKit Go.Proofs.YtkmlpoggbfbnaaaW.PrintWords Go.Proofs.YtkmlpoggbfbnaaaW.PrintLast Go.Proofs.Ytkmlpoggbfbnaaa.Reg Go.Proofs.Ytkmlpoggbfbnaaa.Tx
set_option linter.unusedSimpArgs false
set_option linter.unusedVariables false

theorem flat_le {α : Type} (f : α → List Int) (g : α → Nat) : ∀ (xs : List α), (∀ y ∈ xs, (f y).length ≤ g y) → (xs.map f).flatten.length ≤ (xs.map g).sum
  | [], _ => Nat.le_refl _
  | y :: xs, h => by
    have h1 := h y List.mem_cons_self
    have h2 := flat_le f g xs (fun z hz => h z (List.mem_cons_of_mem _ hz))
    simp only [List.map_cons, List.flatten_cons, List.length_append, List.sum_cons]
    omega
theorem hash_len {w : World} {x : TX} {A1 : Option Addr} {c1 : Nat} {A2 : Option Addr} {c2 : Nat} (h : TxIn w x A1 c1 A2 c2) : ∀ y ∈ x.ins, y.h.length = 32 := by
  intro y hy
  obtain ⟨i, hi, rfl⟩ := List.getElem_of_mem hy
  obtain ⟨_, _, _, _, _, _, hl, _⟩ := kTI_at h.g1 (i : Int) (by omega) (by omega)
  rw [rdT, List.getD_eq_getElem?_getD, Int.toNat_natCast, List.getElem?_eq_getElem hi] at hl
  exact hl
theorem txN_le (x : TX) (h : ∀ y ∈ x.ins, y.h.length = 32) : txN x ≤ 2 * txSz x := by
  have h1 := flat_le inB inSz x.ins (fun y hy => by
    have := vb_len y.s
    rw [inB, List.length_append, List.length_append, opB_len _ _ (h y hy), le_len, inSz]; omega)
  have h2 := flat_le (fun y : TI => witB y.w) inSz x.ins (fun y hy => by
    have e1 := vi_len y.w.length
    have e2 := flat_le vb (fun u => 9 + u.length) y.w (fun u _ => vb_len u)
    show (witB y.w).length ≤ _
    rw [witB, List.length_append, inSz]; omega)
  have h3 := flat_le outB outSz x.outs (fun y _ => by
    have := vb_len y.f1
    rw [outB, List.length_append, le_len, outSz]; omega)
  unfold txN txSz
  omega
theorem u32_in {n : Int} (h : (Lit.int .u32 n).wf = true) : 0 ≤ n ∧ n < 4294967296 := by
  have h1 : IntKind.u32.min ≤ n ∧ n ≤ IntKind.u32.max := by simpa [Lit.wf] using h
  have e1 : IntKind.u32.min = 0 := rfl
  have e2 : IntKind.u32.max = 4294967295 := rfl
  omega
end Go.Proofs.Ytkmlpoggbfbnaaa.Wire
