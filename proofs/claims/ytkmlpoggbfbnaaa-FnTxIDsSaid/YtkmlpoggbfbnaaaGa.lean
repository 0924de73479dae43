/-
  Words for regions that are walked operation by operation: loads of many cells, builds by a closed equation. No function of the program stands in this text.
  SHA-256's turns of a number.
  Plain words on scripts: which token begins at a place, and the tokens of a script. No program stands in this text.
  Cuts of a row of bytes.
-/
import Derived.Test.YtkmlpoggbfbnaaaWWords
import Derived.Test.YtkmlpoggbfbnaaaWLast
import Derived.Test.YtkmlpoggbfbnaaaWMore
import Derived.Lib.Hide
import Derived.Deep.MidRow
import Derived.Laws.Tables
import Derived.Test.YtkmlpoggbfbnaaaProg
import Derived.Test.YtkmlpoggbfbnaaaWFour
import Derived.KernelRfl
import Derived.Deep.DeepMust
import Derived.BigQuiet
import Derived.WalkSpells
import Derived.Below
import Derived.WalkKit
import Derived.Outline
import Derived.Test.YtkmlpoggbfbnaaaWNEv
import Derived.Test.YtkmlpoggbfbnaaaWGuard
namespace Go.Proofs.Ytkmlpoggbfbnaaa.Reg
open Go.RowKit Go.Proofs.YtkmlpoggbfbnaaaW.PrintWords Go.Proofs.YtkmlpoggbfbnaaaW.PrintLast
set_option linter.unusedVariables false

/-- Cells lie at an address. -/
def Lies (w : World) (ad : Addr) (cs : List Value) : Prop := ∀ j v, cs[j]? = some v → w.cell? (ad.add j) = some v
theorem Lies.below {w w1 : World} {ad : Addr} {cs : List Value} (h : Lies w ad cs) (hb : Below w.heap.size w w1) : Lies w1 ad cs := fun j v hj => pw_cell_below hb (h j v hj)
theorem exec_load_list {P : Program} {o : Oper} {ev : Operand → Value} {w : World} (ty : TypeId) (x : Operand) (ho : o.op = .load ty x) (ad : Addr) (hx : ev x = .pointer (some ad)) (cs : List Value) (d : TypeDesc) (hc : Lies w ad cs)
    (hu : P.underlying ty = some d) (hd : d.isRow = true) (hi : (P.info? ty).map (·.size) = some cs.length) : (execOp ev o).run P w = .ok (.value (.agg cs.toArray)) w := by
  have hl := run_loadCells_list (P := P) w ad cs hc
  obtain ⟨inf, hq, hs⟩ := Option.map_eq_some_iff.1 hi
  have hagg : (isAgg ty).run P w = .ok true w := by
    unfold isAgg
    rw [Sem.run_bind, run_underlying hu w]
    cases d <;> simp_all
  unfold execOp
  simp [ho, hx, Instr.loadAt, Instr.sureAddr, loadVar, Sem.run_bind, hagg, sizeOf, typeInfo, hq, hs, hl]
theorem exec_made {P : Program} {o : Oper} {ev : Operand → Value} (w : World) (t : TypeId) (parts : Array (Nat × Operand)) (ho : o.op = .build t parts)
    (vs : List (Nat × Value)) (hx : (parts.map fun (i, x) => (i, ev x)).toList = vs) (cells : Array Value) (hb : P.built t vs = some cells) : (execOp ev o).run P w = .ok (.value (.agg cells)) w := by
  unfold execOp
  have hx' : (parts.map fun (i, x) => (i, ev x)) = vs.toArray := by rw [← hx]
  have := run_build (P := P) w t vs.toArray cells hb
  simp only [ho, hx', Sem.run_bind, this, Result.andThen_ok]
  rfl
end Go.Proofs.Ytkmlpoggbfbnaaa.Reg
namespace Go.Proofs.Ytkmlpoggbfbnaaa.Sh
open Go.RowKit Go.Proofs.YtkmlpoggbfbnaaaW.PrintWords Go.Proofs.YtkmlpoggbfbnaaaW.PrintLast Go.Proofs.Ytkmlpoggbfbnaaa.Reg
set_option linter.unusedSimpArgs false
set_option linter.unusedVariables false

/-- A number turned to the left. -/
def rl (x s : Int) : Int := Go.bits .or .u32 (x * 2 ^ s.toNat % 4294967296) (x / 2 ^ (32 - s).toNat)
set_option maxHeartbeats 4000000 in
theorem rot_calls (x k s : Int) (w : World) (hk : Go.bits .and .u64 (IntKind.u64.wrap k) 31 = s) (h0 : 0 ≤ s) (h1 : s < 32) :
    Calls Try.prog 94 #[.int .u32 x, .int .i64 k] w fun e w' => e = .returned (.int .u32 (rl x s)) ∧ w' = w := by
  have hs : IntKind.u64.wrap (32 - s) = 32 - s := by rw [IntKind.wrap_u64]; omega
  go_enter Try.func94, Try.ntmps94
  go_wp2
  go_ret
  exact ⟨rfl, rfl⟩
/-- The turns that SHA-256 makes, by their counts to the right. -/
theorem rot_at (x : Int) (k s : Int) (w : World) (hk : decide (Go.bits .and .u64 (IntKind.u64.wrap k) 31 = s ∧ 0 ≤ s ∧ s < 32) = true) :
    Calls Try.prog 94 #[.int .u32 x, .int .i64 k] w fun e w' => e = .returned (.int .u32 (rl x s)) ∧ w' = w := by
  have h := of_decide_eq_true hk
  exact rot_calls x k s w h.1 h.2.1 h.2.2
end Go.Proofs.Ytkmlpoggbfbnaaa.Sh
namespace Go.Proofs.Ytkmlpoggbfbnaaa.Tok

/-- The number that bytes are, the least first. -/
def leV : List Int → Int
  | [] => 0
  | b :: r => b + 256 * leV r

/-- Bytes: each from 0 to 255. -/
def Bytes (l : List Int) : Prop := ∀ x, x ∈ l → 0 ≤ x ∧ x < 256

theorem Bytes.getD {l : List Int} (h : Bytes l) (i : Nat) : 0 ≤ l.getD i 0 ∧ l.getD i 0 < 256 := by
  rw [List.getD_eq_getElem?_getD]
  rcases Nat.lt_or_ge i l.length with hi | hi
  · rw [List.getElem?_eq_getElem hi]
    exact h _ (List.getElem_mem hi)
  · rw [List.getElem?_eq_none hi]
    simp
theorem Bytes.drop {l : List Int} (h : Bytes l) (i : Nat) : Bytes (l.drop i) := fun x hx => h x (List.mem_of_mem_drop hx)
theorem Bytes.take {l : List Int} (h : Bytes l) (i : Nat) : Bytes (l.take i) := fun x hx => h x (List.mem_of_mem_take hx)

/-- A token's push, if the opcode counts the bytes in 'w' bytes behind it. -/
def shapeW (l : List Int) (at_ w : Nat) : Option (Nat × Nat) :=
  if w ≤ l.length - (at_ + 1) then
    if (leV ((l.drop (at_ + 1)).take w)).toNat ≤ l.length - (at_ + 1) - w then some (w, (leV ((l.drop (at_ + 1)).take w)).toNat) else none
  else none

/-- How many bytes tell the length, and how many are pushed, of the token at a place; none: the script is not whole there. -/
def shape (l : List Int) (at_ : Nat) : Option (Nat × Nat) :=
  if 1 ≤ l.getD at_ 0 ∧ l.getD at_ 0 < 76 then
    if (l.getD at_ 0).toNat ≤ l.length - (at_ + 1) then some (0, (l.getD at_ 0).toNat) else none
  else if l.getD at_ 0 = 76 then shapeW l at_ 1
  else if l.getD at_ 0 = 77 then shapeW l at_ 2
  else if l.getD at_ 0 = 78 then shapeW l at_ 4
  else some (0, 0)

/-- A token: its opcode, what it pushes, where it begins. -/
structure T where
  op : Int
  data : List Int
  at_ : Nat

/-- The tokens from a place on, behind those that there are; and where the script is not whole (-1: it is). n: rounds at most. -/
def toks (l : List Int) : Nat → Nat → List T → List T × Int
  | 0, _, acc => (acc, -1)
  | n + 1, at_, acc =>
    if at_ < l.length then
      match shape l at_ with
      | none => (acc, (at_ : Int))
      | some (w, c) => toks l n (at_ + 1 + w + c) (acc ++ [⟨l.getD at_ 0, (l.drop (at_ + 1 + w)).take c, at_⟩])
    else (acc, -1)

/-- The tokens of a script. -/
def tokens (l : List Int) : List T × Int := toks l (l.length + 1) 0 []

end Go.Proofs.Ytkmlpoggbfbnaaa.Tok
namespace Go.Proofs.Ytkmlpoggbfbnaaa.Tok
open Go.RowKit Go.Proofs.YtkmlpoggbfbnaaaW.PrintWords Go.Proofs.YtkmlpoggbfbnaaaW.PrintLast

theorem info_u8 : (Try.prog.info? 5).map (fun i => (i.zero, i.size, i.bytes)) = some (some (.int .u8 0), 1, 1) := by kernel_rfl
theorem wrap64_id {x : Int} (h0 : -9223372036854775808 ≤ x) (h1 : x < 9223372036854775808) : wrap64 x = x := by unfold wrap64; omega
theorem from_fact (kl : IntKind) {W : World} {base : Nat} {P0 : Nat → Prop} {A : Option Addr} {c : Nat} {l : List Int} (hs : Kd.V (Kd.int .u8) 5 W base P0 (.slice A l.length c) l) (j : Nat) (hj : j ≤ l.length) :
    ∃ A2 m2 c2, m2 = l.length - j ∧ (∀ W', (Instr.slice 40 (.slice A l.length c) (some (.int kl j)) none none).run Try.prog W' = .ok (.slice A2 m2 c2) W') ∧ Kd.V (Kd.int .u8) 5 W base P0 (.slice A2 m2 c2) (l.drop j) := by
  obtain ⟨_, hc, hF⟩ := Kd.V_at hs
  obtain ⟨i0, hi0, _, hsz, _⟩ := info_parts info_u8
  have h1 := cut_from (P := Try.prog) 40 5 kl Try.underlying40 hi0 1 hsz A l.length c (j : Int) (by omega) (by omega)
  have h2 := Kd.F_cut (m := j) (c := c) hF hj hc
  refine ⟨_, _, _, rfl, h1, ?_⟩
  have e : l.length - j = (l.drop j).length := by rw [List.length_drop]
  rw [e]
  exact Kd.V_mk (by rw [List.length_drop, Int.toNat_natCast]; omega) h2
theorem to_fact (kh : IntKind) {W : World} {base : Nat} {P0 : Nat → Prop} {A : Option Addr} {n c : Nat} {l : List Int} (hs : Kd.V (Kd.int .u8) 5 W base P0 (.slice A n c) l) (j : Nat) (hj : j ≤ l.length) :
    (∀ W', (Instr.slice 40 (.slice A n c) none (some (.int kh j)) none).run Try.prog W' = .ok (.slice A j c) W') ∧ Kd.V (Kd.int .u8) 5 W base P0 (.slice A j c) (l.take j) := by
  obtain ⟨rfl, hc, hF⟩ := Kd.V_at hs
  obtain ⟨i0, hi0, _, hsz, _⟩ := info_parts info_u8
  have h1 := cut_to (P := Try.prog) 40 5 kh Try.underlying40 hi0 A l.length c (j : Int) (by omega) (by omega) hc
  refine ⟨h1, ?_⟩
  have e : j = (l.take j).length := by rw [List.length_take]; omega
  refine ⟨A, c, by rw [← e], by rw [← e]; omega, ?_⟩
  rw [← e]
  exact Kd.F_imp hF (fun _ hC => by have := Kd.C_take hC hj; rwa [← e] at this)

end Go.Proofs.Ytkmlpoggbfbnaaa.Tok
