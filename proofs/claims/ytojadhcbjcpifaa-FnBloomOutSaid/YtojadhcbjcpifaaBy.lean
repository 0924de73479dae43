/-
  Rows of bytes that grow; a number's bytes. (The words of Wire, TxP, TxQ that no transaction stands in, for seats without transactions.)
-/
import Derived.Test.YtojadhcbjcpifaaReg
import Derived.Test.YtojadhcbjcpifaaPFnBloomOutx1
import Derived.Test.YtojadhcbjcpifaaWGuard
import Derived.WalkSpells
import Derived.Deep.DeepMust
namespace Go.Proofs.Ytojadhcbjcpifaa.By
open Go.RowKit Go.Proofs.YtojadhcbjcpifaaW.PrintWords Go.Proofs.YtojadhcbjcpifaaW.PrintLast Go.Proofs.Ytojadhcbjcpifaa.Reg
set_option linter.unusedSimpArgs false
set_option linter.unusedVariables false
set_option maxRecDepth 100000

theorem wrap64_id {x : Int} (h0 : -9223372036854775808 ≤ x) (h1 : x ≤ 9223372036854775807) : wrap64 x = x := by unfold wrap64; omega
/-- A number's lowest bytes, the lowest first. -/
def le : Nat → Int → List Int
  | 0, _ => []
  | n + 1, x => x % 256 :: le n (x / 256)
theorem le_len : ∀ (n : Nat) (x : Int), (le n x).length = n
  | 0, _ => rfl
  | n + 1, x => by rw [le, List.length_cons, le_len n]
theorem u64_id {x : Int} (h0 : 0 ≤ x) (h1 : x < 18446744073709551616) : IntKind.u64.wrap x = x := by unfold IntKind.wrap; simp [IntKind.bits, IntKind.signed]; omega
theorem u64_mod (x : Int) : IntKind.u64.wrap x = x % 18446744073709551616 := by unfold IntKind.wrap; simp [IntKind.bits, IntKind.signed]
theorem u32_mod (x : Int) : IntKind.u32.wrap x = x % 4294967296 := by unfold IntKind.wrap; simp [IntKind.bits, IntKind.signed]
theorem little_loop (n : Nat) (hn : n ≤ 100) (d : Nat) : ∀ (i k : Nat) (x : Int) (acc : List Int), i + d = n → d + 1 ≤ k → 0 ≤ x → x < 18446744073709551616 → acc.length = i → PFnBloomOut.spec_little.l0 k x acc (n : Int) (i : Int) = some (acc ++ le d x) := by
  induction d with
  | zero =>
    intro i k x acc h hk h0 h1 ha
    obtain ⟨k, rfl⟩ : ∃ k', k = k' + 1 := ⟨k - 1, by omega⟩
    rw [PFnBloomOut.spec_little.l0, if_neg (show ¬ (i : Int) < n by omega), le, List.append_nil]
  | succ d ih =>
    intro i k x acc h hk h0 h1 ha
    obtain ⟨k, rfl⟩ : ∃ k', k = k' + 1 := ⟨k - 1, by omega⟩
    have c1 : (i : Int) < n := by omega
    have c2 : acc.length < 140737488355328 := by omega
    have this := ih (i + 1) k (x / 256) (acc ++ [x % 256]) (by omega) (by omega) (by omega) (by omega) (by simp [ha])
    have hw : wrap64 ((i : Int) + 1) = ((i + 1 : Nat) : Int) := by rw [wrap64_id (by omega) (by omega)]; omega
    have e2 : Int.tmod x 256 % 256 = x % 256 := by clear hw; rw [Int.tmod_eq_emod_of_nonneg h0]; omega
    have e1 : IntKind.u64.wrap (Int.tdiv x 256) = x / 256 := by
      clear hw
      rw [Int.tdiv_eq_ediv_of_nonneg h0, u64_id (by omega) (by omega)]
    rw [PFnBloomOut.spec_little.l0]
    rw [if_pos c1]
    rw [if_pos c2]
    rw [e1, e2, hw, this, le, List.append_assoc]
    rfl
theorem little_eq (n k : Nat) (hn : n ≤ 100) (hk : n + 1 ≤ k) (x : Int) (h0 : 0 ≤ x) (h1 : x < 18446744073709551616) : PFnBloomOut.spec_little.f k x (n : Int) = some (le n x) := by
  have := little_loop n hn n 0 k x [] (by omega) hk h0 h1 rfl
  simpa [PFnBloomOut.spec_little.f] using this
/-- A row of bytes of this call's own. -/
abbrev Own (w0 w : World) (v : Value) (l : List Int) : Prop := Kd.R (Kd.int .u8) 5 w w0.heap.size (fun _ => True) v l ∧ Below w0.heap.size w0 w
theorem Own.below {w0 w w1 : World} {v : Value} {l : List Int} (h : Own w0 w v l) (hb : Below w.heap.size w w1) : Own w0 w1 v l := ⟨Kd.R_below h.1 hb, below_then h.2 h.2.size hb⟩
theorem Own.eq {w0 w : World} {v : Value} {l l' : List Int} (h : Own w0 w v l) (e : l = l') : Own w0 w v l' := e ▸ h
section
variable {ops : Array Oper} {Q : Exit → Act → World → Prop} {a : Act} {rest : List Oper} {o : Oper}
/-- append(v, ys...), both bytes. -/
theorem app {w0 W : World} (hgd : o.guard = none) (s x : Operand) (ho : o.op = .call { callee := .builtin .append, args := #[s, x], argTypes := #[23, 23] }) {v : Value} {xs ys : List Int} {A : Option Addr} {c : Nat} {n : Nat} (hs : a.eval s = v) (hx : a.eval x = .slice A n c)
    (HO : Own w0 W v xs) (HR : Kd.C (Kd.int .u8) W A ys.length ys) (hn : ys.length = n) (hl : xs.length + ys.length ≤ 140737488355328)
    (h : ∀ v1 w1, Own w0 w1 v1 (xs ++ ys) → W.grownBy w1 v.ownBlock → wpList Try.prog ops Q rest (a.put o.dst v1) w1) : wpList Try.prog ops Q (o :: rest) a W := by
  subst hn
  exact Kd.R_append_rows (Kd.int .u8) w0.heap.size hgd s x 23 5 (.int .u8 0) 1 ho Try.underlying23 PFnBloomOut.info5 rfl (by decide) (by decide) v xs ys A ys.length c (fun _ => True) (fun _ => False) hs hx HO.1 HR (fun _ _ h => h) (fun _ h => h.elim) (fun _ _ => trivial) HO.2 HO.2.size (by omega) (fun v1 w1 h1 h2 h3 _ => h v1 w1 ⟨h1, h2⟩ h3)
end
/-- What a call made, as bytes that are read. -/
theorem made_C {w0 w w1 : World} {l d : List Int} {v u : Value} {base : Nat} {ok : Nat → Prop} (h : Own w0 w v l) (hr : Kd.R (Kd.int .u8) 5 w1 base ok u d) (hb : Below w.heap.size w w1) : Own w0 w1 v l ∧ ∃ A c, u = .slice A d.length c ∧ Kd.C (Kd.int .u8) w1 A d.length d := by
  obtain ⟨A, c, e, _, hC⟩ := Kd.R_reads hr
  exact ⟨h.below hb, A, c, e, hC⟩
section
variable {ops : Array Oper} {Kc : Act → World → Prop} {Q : Exit → Act → World → Prop} {a : Act} {o : Oper}
/-- append(v, ys...), both bytes, in a region that draws. -/
theorem app_step {w0 W : World} (hw : Region.wanted o (yielded ops a.tmps) = true) (s x : Operand) (ho : o.op = .call { callee := .builtin .append, args := #[s, x], argTypes := #[23, 23] }) {v : Value} {xs ys : List Int} {A : Option Addr} {c : Nat} {n : Nat} (hs : a.eval s = v) (hx : a.eval x = .slice A n c)
    (HO : Own w0 W v xs) (HR : Kd.C (Kd.int .u8) W A ys.length ys) (hn : ys.length = n) (hl : xs.length + ys.length ≤ 140737488355328)
    (h : ∀ v1 w1, Own w0 w1 v1 (xs ++ ys) → W.grownBy w1 v.ownBlock → Kc (a.put o.dst v1) w1) : if Region.wanted o (yielded ops a.tmps) = true then Oper.wp Try.prog o a W Kc Q else Kc (a.put o.dst undef) W := by
  subst hn
  exact Kd.R_append_rows_step (Kd.int .u8) w0.heap.size hw s x 23 5 (.int .u8 0) 1 ho Try.underlying23 PFnBloomOut.info5 rfl (by decide) (by decide) v xs ys A ys.length c (fun _ => True) (fun _ => False) hs hx HO.1 HR (fun _ _ h => h) (fun _ h => h.elim) (fun _ _ => trivial) HO.2 HO.2.size (by omega) (fun v1 w1 h1 h2 h3 _ => h v1 w1 ⟨h1, h2⟩ h3)
end
/-- Rows of numbers are the same, as laws.same finds. -/
theorem same_loop (a : List Int) (ha : a.length ≤ 9223372036854775806) : ∀ (d i k : Nat), i + d = a.length → d + 1 ≤ k → PFnBloomOut.laws_same.l0 k a a (i : Int) = some true
  | 0, i, k, h, hk => by
    obtain ⟨k, rfl⟩ : ∃ k', k = k' + 1 := ⟨k - 1, by omega⟩
    rw [PFnBloomOut.laws_same.l0, if_neg (by omega)]
  | d + 1, i, k, h, hk => by
    obtain ⟨k, rfl⟩ : ∃ k', k = k' + 1 := ⟨k - 1, by omega⟩
    have hw : wrap64 ((i : Int) + 1) = ((i + 1 : Nat) : Int) := by rw [wrap64_id (by omega) (by omega)]; omega
    rw [PFnBloomOut.laws_same.l0, if_pos (by omega), if_pos (by omega), if_pos (by omega), if_pos rfl, hw, same_loop a ha d (i + 1) k (by omega) (by omega)]
theorem same_eq (a : List Int) (ha : a.length ≤ 9223372036854775806) : PFnBloomOut.laws_same.f (a.length + 1) a a = some true := by
  unfold PFnBloomOut.laws_same.f
  rw [if_pos rfl]
  exact same_loop a ha a.length 0 _ (by omega) (by omega)
/-- What a call made is this call's own. -/
theorem Own.of {w0 w w1 : World} {d : List Int} {u : Value} {base : Nat} {ok : Nat → Prop} (hb0 : Below w0.heap.size w0 w) (hr : Kd.R (Kd.int .u8) 5 w1 base ok u d) (hbase : w0.heap.size ≤ base) (hb : Below w.heap.size w w1) : Own w0 w1 u d :=
  ⟨Kd.R_lower (Kd.R_mono hr (fun _ _ => trivial)) hbase, below_then hb0 hb0.size hb⟩
end Go.Proofs.Ytojadhcbjcpifaa.By
