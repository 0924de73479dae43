/-
  A digest as a writer: what it has taken in, and that a write turns no other block.
-/
import Derived.Test.YtkmlpoggbfbnaaaGc
import Derived.BigQuiet
import Derived.Deep.DeepMust
import Derived.Deep.RegionHeld3
import Derived.Lib.BufferSrc
import Derived.Test.YtkmlpoggbfbnaaaShelf
import Derived.WalkSpells
import Derived.Laws.CopyRow
import Derived.Laws.IdiomCopy
namespace Go.Proofs.Ytkmlpoggbfbnaaa.Buf
open Go.RowKit Go.Proofs.YtkmlpoggbfbnaaaW.PrintWords Go.Proofs.YtkmlpoggbfbnaaaW.PrintLast Go.Proofs.Ytkmlpoggbfbnaaa.Reg Go.Proofs.Ytkmlpoggbfbnaaa.Sh
set_option linter.unusedSimpArgs false
set_option linter.unusedVariables false

theorem fz {w : World} {b t : Nat} {cs : Array Value} (h : w.heap[b]? = some (.cells cs t (0, 0))) (i : Nat) : w.frozen? ⟨b, i, none⟩ = false := blk_frozen h i
theorem KC_cells {w : World} {A : Option Addr} {d : List Int} (h : Kd.C (Kd.int .u8) w A d.length d) (hd : 0 < d.length) : ∃ a, A = some a ∧ Lies w a (nums .u8 d) := C_lies h hd
/-- A number in a cell. -/
def numOf : Option Value → Int
  | some (.int _ x) => x
  | _ => 0
/-- The table of constants, as it lies in a world. -/
def Kof (w : World) : List Int := (List.range 64).map (fun j => numOf (w.cell? ⟨1, j, none⟩))
theorem Kof_getD (w : World) {j : Nat} (h : j < 64) : (Kof w).getD j 0 = numOf (w.cell? ⟨1, j, none⟩) := by
  simp [Kof, List.getD_eq_getElem?_getD, h]
theorem Kof_step {w w1 : World} (h : w1.heap[1]? = w.heap[1]?) : Kof w1 = Kof w := by
  unfold Kof
  refine List.map_congr_left (fun j hj => ?_)
  rw [World.cell?_of_block (a := ⟨1, j, none⟩) h]
/-- Block b is a writer that has taken in l. -/
structure Bf (B b : Nat) (v : Value) (l : List Int) (w : World) : Prop where
  lo : B ≤ b
  v0 : v = .slice none 0 0
  gk : 1 < B
  kt : KT (Kof w) w
  st : ∃ X, Sta (Kof w) l l.length X ∧ Dg b (cells (Kof w) l l.length X) w
/-- What a write turns. -/
structure Wrote (B b : Nat) (v v' : Value) (w w' : World) : Prop where
  B : Below B w w'
  fr : ∀ k, k < w.heap.size → k ≠ b → some k ≠ v.ownBlock → w'.heap[k]? = w.heap[k]?
  at_ : v'.ownBlock = v.ownBlock ∨ ∃ g, v'.ownBlock = some g ∧ w.heap.size ≤ g
theorem Bf.lt {B b : Nat} {v : Value} {l : List Int} {w : World} (h : Bf B b v l w) : b < w.heap.size := by obtain ⟨_, _, hb⟩ := h.st; exact blk_lt hb
theorem Bf.own_lt {B b : Nat} {v : Value} {l : List Int} {w : World} (h : Bf B b v l w) (k : Nat) (hk : v.ownBlock = some k) : k < w.heap.size := by
  rw [h.v0] at hk; cases hk
/-- What a writer is, stands with its blocks. -/
theorem Bf.moved {B b : Nat} {v : Value} {l : List Int} {w w1 : World} (h : Bf B b v l w) (hm : ∀ k, k < w.heap.size → k < B ∨ k = b ∨ v.ownBlock = some k → w1.heap[k]? = w.heap[k]?) : Bf B b v l w1 := by
  have hk := hm 1 h.kt.lt (.inl h.gk)
  have e := Kof_step hk
  obtain ⟨X, h1, h2⟩ := h.st
  refine ⟨h.lo, h.v0, h.gk, by rw [e]; exact h.kt.of_block hk, X, by rw [e]; exact h1, ?_⟩
  rw [e]
  exact (hm b (blk_lt h2) (.inr (.inl rfl))).trans h2
theorem C_V {w : World} {A : Option Addr} {c : Nat} {d : List Int} (h : Kd.C (Kd.int .u8) w A d.length d) (hc : d.length ≤ c) (base : Nat) : Kd.V (Kd.int .u8) 5 w base (fun k => ∃ a, A = some a ∧ 0 < d.length ∧ a.block = k) (.slice A d.length c) d := by
  refine Kd.V_mk hc (fun W' hW => ?_)
  obtain ⟨h1, h2, h3⟩ := h
  refine ⟨h1, h2, fun hn => ?_⟩
  obtain ⟨a, ha, hx⟩ := h3 hn
  refine ⟨a, ha, fun j x hj => ?_⟩
  obtain ⟨cs, hl, hK, hcell⟩ := hx j x hj
  refine ⟨cs, hl, hK, fun i v hv => ?_⟩
  have := hcell i v hv
  have hb := World.block_lt_of_cell? w _ this
  rw [Lib.block_add] at hb
  refine (World.cell?_of_block (show W'.heap[(a.add _).block]? = w.heap[(a.add _).block]? by rw [Lib.block_add]; exact hW a.block ⟨a, ha, hn, rfl⟩ hb)).trans this
theorem write_calls (B b : Nat) (v : Value) (l : List Int) (w : World) (h : Bf B b v l w) (A : Option Addr) (c : Nat) (d : List Int) (hC : Kd.C (Kd.int .u8) w A d.length d) (hab : ∀ a, A = some a → 0 < d.length → a.block ≠ b) (hcap : d.length ≤ c) (hBw : B ≤ w.heap.size) (hlim : l.length + d.length ≤ 6000000) :
    Calls Try.prog 86 #[.pointer (some ⟨b, 0, none⟩), .slice A d.length c] w fun e w' => e = .returned (.tuple #[.int .i64 d.length, .nilIface]) ∧ ∃ v', Bf B b v' (l ++ d) w' ∧ Wrote B b v v' w w' := by
  obtain ⟨X, h1, h2⟩ := h.st
  have hv := C_V hC hcap 0
  refine (Sh.write_calls (Kof w) b l l.length X 0 _ A c d w h.kt h1 h2 ⟨by omega, by omega⟩ hv (fun k hk => by obtain ⟨a, ha, hn, rfl⟩ := hk; exact hab a ha hn) (any _) (by omega)).mono ?_
  rintro e w' ⟨rfl, ⟨X', k1, k2⟩, hon⟩
  refine ⟨rfl, v, ?_, ⟨hon.1.mono h.lo, fun k hk hkb _ => hon.2.2 k hk hkb (by simp), .inl rfl⟩⟩
  have hk : w'.heap[1]? = w.heap[1]? := hon.1.block _ (Nat.lt_of_lt_of_le h.gk h.lo)
  have e := Kof_step hk
  have hl : ((l ++ d).length : Int) = (l.length : Int) + d.length := by simp
  refine ⟨h.lo, h.v0, h.gk, by rw [e]; exact h.kt.of_block hk, X', by rw [e, hl]; exact k1, by rw [e, hl]; exact k2⟩
/-- The writer as an interface value. -/
def Wr (b : Nat) : Value := Hs b
set_option maxRecDepth 100000 in
theorem exec_write {o : Oper} {ev : Operand → Value} {w : World} {b : Nat} {v : Value} (r x : Operand) (ts : Array TypeId) (ho : o.op = .call { callee := .invoke r "Write", args := #[x], argTypes := ts }) (hr : ev r = Wr b) (hx : ev x = v) :
    (execOp ev o).run Try.prog w = .ok (.enter 86 #[.pointer (some ⟨b, 0, none⟩), v]) w := Sh.exec_write r x ts ho hr hx
set_option maxRecDepth 100000 in
theorem exec_nilW {o : Oper} {ev : Operand → Value} (w : World) {b : Nat} (x : Operand) (ho : o.op = .nilCheck x) (hx : ev x = .func (.method "Write") #[Wr b] #[]) :
    (execOp ev o).run Try.prog w = .ok (.value (.func (.method "Write") #[Wr b] #[])) w := by
  unfold execOp
  simp only [ho, hx, Wr, Hs]
  kernel_rfl
section
variable {P : Program} {ops : Array Oper} {Q : Exit → Act → World → Prop}
theorem gate_invoke {rest : List Oper} {o : Oper} {a : Act} {w : World} {r : Operand} {xs : Array Operand} {ts : Array TypeId} {n : String} (_ho : o.op = .call { callee := .invoke r n, args := xs, argTypes := ts }) (h : wpList P ops Q (o :: rest) a w) : wpList P ops Q (o :: rest) a w := h
/-- A call of Write in a plain region. -/
theorem writes_L {rest : List Oper} {o : Oper} {a : Act} {w : World} {b : Nat} {v : Value} (hg : o.guard = none) (r x : Operand) (ts : Array TypeId) (ho : o.op = .call { callee := .invoke r "Write", args := #[x], argTypes := ts }) (hr : a.eval r = Wr b) (hx : a.eval x = v)
    (h : Calls Try.prog 86 #[.pointer (some ⟨b, 0, none⟩), v] w fun e w' => ∃ u, e = .returned u ∧ wpList Try.prog ops Q rest (a.put o.dst u) w') : wpList Try.prog ops Q (o :: rest) a w := Sh.writes_L hg r x ts ho hr hx h
end
end Go.Proofs.Ytkmlpoggbfbnaaa.Buf
