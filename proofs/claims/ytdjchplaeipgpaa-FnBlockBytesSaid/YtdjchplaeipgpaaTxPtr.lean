/-
  A kind for pointers to boxes; wire's inputs and outputs behind pointers.
-/
import Derived.Test.YtdjchplaeipgpaaTxFits
namespace Go.Proofs.Ytdjchplaeipgpaa.Tx
open Go.RowKit Go.Proofs.YtdjchplaeipgpaaW.PrintWords Go.Proofs.YtdjchplaeipgpaaW.PrintLast
set_option linter.unusedSimpArgs false
set_option linter.unusedVariables false

/-- A pointer to a box (type T) that holds an x. -/
def ptr {α : Type} (T : Nat) (d : Kd α) : Kd α where
  sz := 1
  E := T :: d.E
  K := fun w x cs => ∃ (g : Nat) (c : Array Value), cs = [.pointer (some ⟨g, 0, none⟩)] ∧ w.heap[g]? = some (.cells c T (0, 0)) ∧ d.K w x c.toList
  M := fun w base ok x cs => ∃ (g : Nat) (c : Array Value), cs = [.pointer (some ⟨g, 0, none⟩)] ∧ base ≤ g ∧ ok g ∧ w.heap[g]? = some (.cells c T (0, 0)) ∧ d.M w base (fun k => ok k ∧ k ≠ g) x c.toList
  K_len := by
    rintro w x cs ⟨g, c, rfl, _⟩
    rfl
  K_one := by
    rintro w x cs ⟨g, c, rfl, _⟩ u hu
    rw [List.mem_singleton.1 hu]
    rfl
  K_below := by
    rintro w w1 x cs hb ⟨g, c, rfl, hg, hd⟩
    exact ⟨g, c, rfl, (hb.block g (blk_lt hg)).trans hg, d.K_below hb hd⟩
  K_of_M := by
    rintro w base ok x cs ⟨g, c, rfl, _, _, hg, hd⟩
    exact ⟨g, c, rfl, hg, d.K_of_M hd⟩
  M_mono := by
    rintro w base ok ok' x cs hok ⟨g, c, rfl, hb, ho, hg, hd⟩
    exact ⟨g, c, rfl, hb, hok g ho, hg, d.M_mono (fun k hk => ⟨hok k hk.1, hk.2⟩) hd⟩
  M_bound := by
    rintro w base ok x cs ⟨g, c, rfl, hb, ho, hg, hd⟩
    refine ⟨g, c, rfl, hb, ⟨ho, hb, blk_lt hg, T, List.mem_cons_self, c, hg⟩, hg, d.M_mono (fun k hk => ?_) (d.M_bound hd)⟩
    obtain ⟨⟨h1, h2⟩, h3, h4, q, hq, hc⟩ := hk
    exact ⟨⟨h1, h3, h4, q, List.mem_cons_of_mem _ hq, hc⟩, h2⟩
  M_move := by
    rintro w w1 base ok x cs hm ⟨g, c, rfl, hb, ho, hg, hd⟩
    exact ⟨g, c, rfl, hb, ho, (hm g ho).trans hg, d.M_move (fun k hk => hm k hk.1) hd⟩
  M_lower := by
    rintro w base base' ok x cs hl ⟨g, c, rfl, hb, ho, hg, hd⟩
    exact ⟨g, c, rfl, Nat.le_trans hl hb, ho, hg, d.M_lower hl hd⟩
theorem ptr_open {α : Type} {T : Nat} {d : Kd α} {w : World} {x : α} {cs : List Value} (h : (ptr T d).K w x cs) : ∃ (g : Nat) (c : Array Value), cs = [.pointer (some ⟨g, 0, none⟩)] ∧ w.heap[g]? = some (.cells c T (0, 0)) ∧ d.K w x c.toList := h
/-- The pointer at a place in a row of pointers. -/
theorem ptr_at {α : Type} {T : Nat} {d : Kd α} {w : World} {A : Option Addr} {n : Nat} {xs : List α} (h : Kd.C (ptr T d) w A n xs) (z : α) (i : Int) (h0 : 0 ≤ i) (h1 : i < n) : ∃ (ad : Addr) (g : Nat) (c : Array Value), A = some ad ∧ w.cell? (ad.add i.toNat) = some (.pointer (some ⟨g, 0, none⟩)) ∧ w.heap[g]? = some (.cells c T (0, 0)) ∧ d.K w (xs.getD i.toNat z) c.toList := by
  obtain ⟨ad, c, e, _, hK, hc⟩ := Kd.C_get h z i h0 h1
  obtain ⟨g, b, rfl, hg, hd⟩ := hK
  have := hc 0 _ rfl
  rw [show i.toNat * (ptr T d).sz + 0 = i.toNat from Nat.mul_one _] at this
  exact ⟨ad, g, b, e, this, hg, hd⟩
/-- An input that was made: its cells. -/
theorem kTI_mkM (w : World) (base : Nat) (ok : Nat → Prop) (x : TI) {v1 v2 : Value} (hl : x.h.length = 32) (g1 : (Kd.int .u8).R 5 w base ok v1 x.s) (g2 : (Kd.slice 5 (Kd.int .u8)).R 30 w base ok v2 x.w) :
    kTI.M w base ok x (opc x.h x.i ++ [v1, v2, .int .u32 x.q]) :=
  ⟨hv x.h, [.int .u32 x.i, v1, v2, .int .u32 x.q], by simp [opc], Kd.arr_of_cells hl, [.int .u32 x.i], [v1, v2, .int .u32 x.q], rfl, rfl, [v1], [v2, .int .u32 x.q], rfl, ⟨v1, rfl, g1⟩, [v2], [.int .u32 x.q], rfl, ⟨v2, rfl, g2⟩, rfl⟩
/-- wire's inputs and outputs. -/
def kPI : Kd TI := ptr 92 kTI
def kPO : Kd PFnBlockBytes.S54 := ptr 95 PFnBlockBytes.k54
/-- A transaction of wire's lies in block g. -/
structure Wx (w : World) (base g : Nat) (x : TX) (v1 v2 : Value) : Prop where
  lo : base ≤ g
  blk : w.heap[g]? = some (.cells #[.int .i32 x.v, v1, v2, .int .u32 x.k] 82 (0, 0))
  ins : kPI.R 83 w base (fun k => k ≠ g) v1 x.ins
  outs : kPO.R 93 w base (fun k => k ≠ g) v2 x.outs
end Go.Proofs.Ytdjchplaeipgpaa.Tx
