/-
  A transaction as an argument: its kind, what opens it.
-/
import Derived.Test.YtdjchplaeipgpaaTxOf
import Derived.Test.YtdjchplaeipgpaaTxSize
import Derived.Test.YtdjchplaeipgpaaOpen
namespace Go.Proofs.Ytdjchplaeipgpaa.Tx
open Go.RowKit Go.Proofs.YtdjchplaeipgpaaW.PrintWords Go.Proofs.YtdjchplaeipgpaaW.PrintLast Go.Proofs.Ytdjchplaeipgpaa.Reg
set_option linter.unusedSimpArgs false
set_option linter.unusedVariables false
set_option maxRecDepth 100000

theorem Wx.below {w w1 : World} {base g : Nat} {x : TX} {v1 v2 : Value} (h : Wx w base g x v1 v2) (hb : Below w.heap.size w w1) : Wx w1 base g x v1 v2 := ⟨h.lo, blk_below h.blk hb, Kd.R_below h.ins hb, Kd.R_below h.outs hb⟩
theorem box_lies {w w' : World} {cs : Array Value} {t : Nat} (h : Below (w.alloc (.cells cs t)).heap.size (w.alloc (.cells cs t)) w') : Lies w' ⟨w.heap.size, 0, none⟩ cs.toList := by
  intro j v hj
  rw [Addr.add_mid, Nat.zero_add, cell_of_row _ _ _ _ _ _ (blk_below (heap_alloc_new w _) h)]
  simpa using hj
theorem opens_bytes : Open.Opens Try.prog 30 (Kd.slice 5 (Kd.int .u8)) (fun xs => ∀ x ∈ xs, (Lit.int .u8 x).wf = true) :=
  Open.opens_slice (Open.opens_int Try.underlying5 (by kernel_rfl)) Try.underlying30 (by kernel_rfl)
theorem opens_wit : Open.Opens Try.prog 50 (Kd.slice 30 (Kd.slice 5 (Kd.int .u8))) (fun xs => ∀ y ∈ xs, ∀ x ∈ y, (Lit.int .u8 x).wf = true) :=
  Open.opens_slice opens_bytes Try.underlying50 (by kernel_rfl)
theorem opens_op : Open.Opens Try.prog 49 (Kd.iso (Kd.pair (Kd.arr 32 (Kd.int .u8) (by decide)) (Kd.int .u32)) (fun x : List Int × Int => x)) (fun x => (∀ y ∈ x.1, (Lit.int .u8 y).wf = true) ∧ (Lit.int .u32 x.2).wf = true) :=
  Open.opens_struct (g := fun y => y) (fun _ => rfl) (Open.opensF_cons (Open.opens_array (Open.opens_int Try.underlying5 (by kernel_rfl)) Try.underlying33 (by kernel_rfl)) rfl (Open.opensF_one (Open.opens_int Try.underlying24 (by kernel_rfl)) rfl)) Try.underlying49 (by kernel_rfl)
def GoodTI (x : TI) : Prop := ((∀ y ∈ x.h, (Lit.int .u8 y).wf = true) ∧ (Lit.int .u32 x.i).wf = true) ∧ (∀ y ∈ x.s, (Lit.int .u8 y).wf = true) ∧ (∀ y ∈ x.w, ∀ z ∈ y, (Lit.int .u8 z).wf = true) ∧ (Lit.int .u32 x.q).wf = true
def kTI2 : Kd TI := Kd.iso (Kd.pair (Kd.iso (Kd.pair (Kd.arr 32 (Kd.int .u8) (by decide)) (Kd.int .u32)) (fun x : List Int × Int => x)) (Kd.pair (Kd.slice 5 (Kd.int .u8)) (Kd.pair (Kd.slice 30 (Kd.slice 5 (Kd.int .u8))) (Kd.int .u32)))) (fun x : TI => ((x.h, x.i), x.s, x.w, x.q))
theorem opens_ti2 : Open.Opens Try.prog 52 kTI2 GoodTI := by
  have h0 := Open.opens_struct (f := fun x : TI => ((x.h, x.i), x.s, x.w, x.q)) (g := fun y : (List Int × Int) × List Int × List (List Int) × Int => (⟨y.1.1, y.1.2, y.2.1, y.2.2.1, y.2.2.2⟩ : TI)) (fun _ => rfl)
    (Open.opensF_cons opens_op rfl (Open.opensF_cons opens_bytes rfl (Open.opensF_cons opens_wit rfl (Open.opensF_one (Open.opens_int Try.underlying24 (by kernel_rfl)) rfl)))) Try.underlying52 (by kernel_rfl)
  exact Open.opens_imp h0 (fun _ h => h)
theorem opens_ti : Open.Opens Try.prog 52 kTI GoodTI :=
  ⟨by kernel_rfl, fun H enc w fuel cs x hx => by
    obtain ⟨a, ⟨c0, r0, e0, ⟨c1, r1, e1, h1, h2⟩, h3⟩, g⟩ := opens_ti2.2 H enc w fuel cs x hx
    exact ⟨a, ⟨c1, r1 ++ r0, by rw [e0, e1, List.append_assoc], h1, r1, r0, rfl, h2, h3⟩, g⟩⟩
theorem opens_out : Open.Opens Try.prog 54 PFnBlockBytes.k54 (fun x => (Lit.int .i64 x.f0).wf = true ∧ ∀ y ∈ x.f1, (Lit.int .u8 y).wf = true) := by
  have h0 := Open.opens_struct (f := fun x : PFnBlockBytes.S54 => (x.f0, x.f1)) (g := fun y => ⟨y.1, y.2⟩) (fun _ => rfl) (Open.opensF_cons (Open.opens_int Try.underlying2 (by kernel_rfl)) rfl (Open.opensF_one opens_bytes rfl)) Try.underlying54 (by kernel_rfl)
  exact Open.opens_imp h0 (fun _ h => h)
def kTX : Kd TX := Kd.iso (Kd.pair (Kd.int .i32) (Kd.pair (Kd.slice 52 kTI) (Kd.pair (Kd.slice 54 PFnBlockBytes.k54) (Kd.int .u32)))) (fun x : TX => (x.v, x.ins, x.outs, x.k))
def GoodTX (x : TX) : Prop := (Lit.int .i32 x.v).wf = true ∧ (∀ y ∈ x.ins, GoodTI y) ∧ (∀ y ∈ x.outs, (Lit.int .i64 y.f0).wf = true ∧ ∀ z ∈ y.f1, (Lit.int .u8 z).wf = true) ∧ (Lit.int .u32 x.k).wf = true
theorem opens_tx : Open.Opens Try.prog 26 kTX GoodTX := by
  have h0 := Open.opens_struct (f := fun x : TX => (x.v, x.ins, x.outs, x.k)) (g := fun y => ⟨y.1, y.2.1, y.2.2.1, y.2.2.2⟩) (fun _ => rfl)
    (Open.opensF_cons (Open.opens_int Try.underlying21 (by kernel_rfl)) rfl (Open.opensF_cons (Open.opens_slice opens_ti Try.underlying22 (by kernel_rfl)) rfl (Open.opensF_cons (Open.opens_slice opens_out Try.underlying23 (by kernel_rfl)) rfl (Open.opensF_one (Open.opens_int Try.underlying24 (by kernel_rfl)) rfl)))) Try.underlying26 (by kernel_rfl)
  exact Open.opens_imp h0 (fun _ h => h)
theorem kTX_open {w : World} {x : TX} {cs : Array Value} (h : kTX.K w x cs.toList) : ∃ A1 c1 A2 c2, cs = txc x A1 c1 A2 c2 ∧ TxIn w x A1 c1 A2 c2 := by
  obtain ⟨_, _, e, rfl, _, _, rfl, ⟨A1, c1, rfl, l1, g1⟩, _, _, rfl, ⟨A2, c2, rfl, l2, g2⟩, rfl⟩ := h
  refine ⟨A1, c1, A2, c2, ?_, l1, l2, g1, g2⟩
  rw [← Array.toArray_toList (xs := cs), e]
  rfl
end Go.Proofs.Ytdjchplaeipgpaa.Tx
