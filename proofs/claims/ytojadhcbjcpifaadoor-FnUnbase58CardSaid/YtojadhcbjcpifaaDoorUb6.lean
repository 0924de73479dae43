/-
  big.Int: SetUint64, SetInt64, NewInt, Mul, Add.
-/
import Derived.Test.YtojadhcbjcpifaaDoorUb2
import Derived.Test.YtojadhcbjcpifaaDoorUb5
import Derived.Test.YtojadhcbjcpifaaDoorReg
import Derived.Deep.DeepMust
namespace Go.Proofs.YtojadhcbjcpifaaDoor.Ub
open Go.RowKit Go.Proofs.YtojadhcbjcpifaaDoorW.PrintWords Go.Proofs.YtojadhcbjcpifaaDoorW.PrintLast Go.Proofs.YtojadhcbjcpifaaDoorW.PrintMore Go.Proofs.YtojadhcbjcpifaaDoor.Reg
set_option linter.unusedSimpArgs false
set_option linter.unusedVariables false

/-- Only block g may have changed. -/
def One (g : Nat) (w w' : World) : Prop := KeepBut w w' g none ∧ Below g w w'
/-- A number that is not below zero, in block g; its digits lie in blocks of Q. -/
def Big (Q : Nat → Prop) (w : World) (g : Nat) (l : List Int) : Prop := ∃ A c, w.heap[g]? = some (.cells #[.bool false, .slice A l.length c] 51 (0, 0)) ∧ l.length ≤ c ∧ Kd.F (Kd.int .u32) w Q A l.length l
theorem Big.lt {Q : Nat → Prop} {w : World} {g : Nat} {l : List Int} (h : Big Q w g l) : g < w.heap.size := by
  obtain ⟨A, c, h, _⟩ := h
  exact blk_lt h
theorem Big.mono {Q Q' : Nat → Prop} {w : World} {g : Nat} {l : List Int} (h : Big Q w g l) (hq : ∀ k, Q k → Q' k) : Big Q' w g l := by
  obtain ⟨A, c, h1, h2, h3⟩ := h
  exact ⟨A, c, h1, h2, Kd.F_mono h3 hq⟩
theorem Big.one {Q : Nat → Prop} {w w' : World} {g f : Nat} {l : List Int} (h : Big Q w g l) (ho : One f w w') (hg : g ≠ f) (hq : ∀ k, Q k → k ≠ f) : Big Q w' g l := by
  obtain ⟨A, c, h1, h2, h3⟩ := h
  exact ⟨A, c, ho.1.blk h1 hg (by simp), h2, Kd.F_keep h3 ho.1 hq⟩
theorem Big.below {Q : Nat → Prop} {w w' : World} {g : Nat} {l : List Int} (h : Big Q w g l) (hb : Below w.heap.size w w') : Big Q w' g l := by
  obtain ⟨A, c, h1, h2, h3⟩ := h
  exact ⟨A, c, blk_below h1 hb, h2, Kd.F_below h3 hb⟩
theorem One.of_below {g : Nat} {w w1 w' : World} (hb : Below w.heap.size w w1) (h : One g w1 w') (hg : g < w.heap.size) : One g w w' :=
  ⟨(KeepBut.of_below hb g none).trans h.1 (.inl rfl), (hb.mono (Nat.le_of_lt hg)).trans h.2⟩
theorem natOf_f (v : Int) (hv : 0 ≤ v ∧ v < 18446744073709551616) : ∃ l, PFnUnbase58.smallbig_natOf.f 10 v = some l ∧ Nrm 4294967296 l ∧ lv 4294967296 l = v ∧ l.length ≤ 2 := by
  obtain ⟨r, h1, h2, h3, h4⟩ := norm_f 10 [v % 4294967296, v / 4294967296 % 4294967296] (by simp) (by simp) (fun d hd => by
    simp at hd; rcases hd with rfl | rfl <;> omega)
  refine ⟨r, ?_, h2, ?_, h4⟩
  · unfold PFnUnbase58.smallbig_natOf.f
    rw [h1]; rfl
  · rw [h3]; simp [lv]; omega
theorem set_two {g : Nat} {b s x : Value} {w w1 : World} {A : Option Addr} {c : Nat} {l : List Int} (hlt : g < w.heap.size) (hM : w1.heap[g]? = some (.cells #[b, s] 51 (0, 0))) (hB : Below w.heap.size w w1) (hV : Kd.V (Kd.int .u32) 66 w1 w.heap.size (fun k => w.heap.size ≤ k) (.slice A l.length c) l) :
    Big (fun k => w.heap.size ≤ k) ((w1.setCell ⟨g, 1, none⟩ (.slice A l.length c)).setCell ⟨g, 0, none⟩ (.bool false)) g l ∧ One g w ((w1.setCell ⟨g, 1, none⟩ (.slice A l.length c)).setCell ⟨g, 0, none⟩ (.bool false)) := by
  have hne : ∀ k, w.heap.size ≤ k → k ≠ g := fun k hk => by omega
  refine ⟨⟨A, c, blk_set (blk_set hM 1 _) 0 _, (Kd.V_at hV).2.1, Kd.F_far (p := ⟨g, 0, none⟩) (Kd.F_far (p := ⟨g, 1, none⟩) (Kd.V_F hV) hne _) hne _⟩, ((KeepBut.of_below hB g none).set_ 1 _).set_ 0 _, ?_⟩
  exact ((hB.mono (Nat.le_of_lt hlt)).setCell (p := ⟨g, 1, none⟩) (Nat.le_refl _) _).setCell (p := ⟨g, 0, none⟩) (Nat.le_refl _) _
/-- What the setters answer. -/
def Set (g : Nat) (v : Int) (n : Nat) (w : World) (e : Ending) (w' : World) : Prop := e = .returned (.pointer (some ⟨g, 0, none⟩)) ∧ (∃ l, Nrm 4294967296 l ∧ lv 4294967296 l = v ∧ l.length ≤ n ∧ Big (fun k => w.heap.size ≤ k) w' g l) ∧ One g w w'
set_option maxHeartbeats 4000000 in
set_option maxRecDepth 100000 in
theorem setU_calls (g : Nat) (b s : Value) (v : Int) (w : World) (h : w.heap[g]? = some (.cells #[b, s] 51 (0, 0))) (hv : 0 ≤ v ∧ v < 18446744073709551616) :
    Calls Tryd.prog 23 #[.pointer (some ⟨g, 0, none⟩), .int .u64 v] w (Set g v 2 w) := by
  obtain ⟨l, hf, hN, hlv, hll⟩ := natOf_f v hv
  have HF := Lib.hid hf
  have HBK := Lib.hid h
  have HO := Lib.hid (fun (w' : World) (hx : Big (fun k => w.heap.size ≤ k) w' g l ∧ One g w w') => show Set g v 2 w (.returned (.pointer (some ⟨g, 0, none⟩))) w' from ⟨rfl, ⟨l, hN, hlv, hll, hx.1⟩, hx.2⟩)
  clear h hf hN hlv hll hv
  go_enter Tryd.func23, Tryd.ntmps23
  go_wp2_with (go_at_call 30; go_must ((with_reducible refine (PFnUnbase58.smallbig_natOf.calls 10 v l _ HF.out).mono ?_); rintro e w1 ⟨x, rfl, hV, hB⟩; obtain ⟨A, c, rfl⟩ := Kd.V_slice hV; have hM := blk_below HBK.out hB; have HS := Lib.hid (set_two (x := .bool false) (blk_lt HBK.out) hM hB hV); have z0 := (blk_cell hM 0).trans rfl; have z1 := (blk_cell hM 1).trans rfl; have f0 := blk_frozen hM 0; have f1 := blk_frozen hM 1; clear hV hB hM))
  go_ret
  exact HO.out _ HS.out
set_option maxHeartbeats 4000000 in
set_option maxRecDepth 100000 in
theorem setI_calls (g : Nat) (b s : Value) (v : Int) (w : World) (h : w.heap[g]? = some (.cells #[b, s] 51 (0, 0))) (hv : 0 ≤ v ∧ v < 9223372036854775808) :
    Calls Tryd.prog 28 #[.pointer (some ⟨g, 0, none⟩), .int .i64 v] w (Set g v 2 w) := by
  obtain ⟨l, hf, hN, hlv, hll⟩ := natOf_f v (by omega)
  have HF := Lib.hid hf
  have HBK := Lib.hid h
  have HO := Lib.hid (fun (w' : World) (hx : Big (fun k => w.heap.size ≤ k) w' g l ∧ One g w w') => show Set g v 2 w (.returned (.pointer (some ⟨g, 0, none⟩))) w' from ⟨rfl, ⟨l, hN, hlv, hll, hx.1⟩, hx.2⟩)
  have hw : IntKind.u64.wrap v = v := u64_id (by omega) (by omega)
  have hd : decide (v < 0) = false := decide_eq_false (by omega)
  clear h hf hN hlv hll hv
  go_enter Tryd.func28, Tryd.ntmps28
  go_wp2_with (go_at_call 30; go_must ((with_reducible refine (PFnUnbase58.smallbig_natOf.calls 10 v l _ HF.out).mono ?_); rintro e w1 ⟨x, rfl, hV, hB⟩; obtain ⟨A, c, rfl⟩ := Kd.V_slice hV; have hM := blk_below HBK.out hB; have HS := Lib.hid (set_two (x := .bool false) (blk_lt HBK.out) hM hB hV); have z0 := (blk_cell hM 0).trans rfl; have z1 := (blk_cell hM 1).trans rfl; have f0 := blk_frozen hM 0; have f1 := blk_frozen hM 1; clear hV hB hM))
  go_ret
  exact HO.out _ HS.out
set_option maxHeartbeats 4000000 in
set_option maxRecDepth 100000 in
theorem new_calls (v : Int) (w : World) (hv : 0 ≤ v ∧ v < 9223372036854775808) :
    Calls Tryd.prog 20 #[.int .i64 v] w fun e w' => ∃ g, w.heap.size ≤ g ∧ e = .returned (.pointer (some ⟨g, 0, none⟩)) ∧ (∃ l, Nrm 4294967296 l ∧ lv 4294967296 l = v ∧ l.length ≤ 2 ∧ Big (fun k => w.heap.size ≤ k ∧ k ≠ g) w' g l) ∧ Below w.heap.size w w' := by
  have HS := Lib.hid (setI_calls w.heap.size (.bool false) (.slice none 0 0) v _ (heap_alloc_new w (.cells #[.bool false, .slice none 0 0] 51)) hv)
  clear hv
  go_enter Tryd.func20, Tryd.ntmps20
  go_wp2_with (go_at_call 28; go_must ((with_reducible refine HS.out.mono ?_); rintro e w1 ⟨rfl, hL, hO⟩; have HL := Lib.hid hL; have HO := Lib.hid hO; clear hL hO))
  go_ret
  refine ⟨_, Nat.le_refl _, rfl, ?_, (below_alloc (Below.refl _ _) _).trans HO.out.2⟩
  obtain ⟨l, h1, h2, h3, h4⟩ := HL.out
  exact ⟨l, h1, h2, h3, h4.mono fun k hk => by simp at hk; omega⟩
end Go.Proofs.YtojadhcbjcpifaaDoor.Ub
