/-
  What the rows give: the generator's numbers, a row of bytes.
-/
import Derived.Test.YtciocjaelmnhiaaDoorBpB
import Derived.Test.YtciocjaelmnhiaaDoorRows
import Derived.ChangeSlices
import Derived.LaidLaws
import Derived.MakeChecks
namespace Go.Proofs.YtciocjaelmnhiaaDoor.Bp
open Go.RowKit Go.ChangeShapes Go.Proofs.YtciocjaelmnhiaaDoorW.PrintWords Go.Proofs.YtciocjaelmnhiaaDoorW.PrintLast Go.Proofs.YtciocjaelmnhiaaDoorW.PrintMore Go.Proofs.YtciocjaelmnhiaaDoor.Reg
set_option linter.unusedSimpArgs false
set_option linter.unusedVariables false

theorem cell_spot {w : World} {b o : Nat} {sp : Option Nat} {v : Value} (h : w.cell? ⟨b, o, sp⟩ = some v) : sp = none := by
  cases sp with
  | none => rfl
  | some x =>
    unfold World.cell? at h
    split at h <;> simp at h
theorem addp (gb go k : Nat) : (⟨gb, go, none⟩ : Addr).add k = ⟨gb, go + k, none⟩ := by unfold Addr.add; split <;> simp_all
theorem wf_u8 {x : Int} (h : (Lit.int .u8 x).wf = true) : 0 ≤ x ∧ x < 256 := by
  simp [Lit.wf, IntKind.min, IntKind.max, IntKind.bits, IntKind.signed] at h
  omega
/-- A row of bytes as an argument lies there. -/
def Arg (k : IntKind) (w : World) (a : Option Addr) (len cap : Nat) (zs : List Int) : Prop :=
  (a = none ∧ len = 0 ∧ cap = 0 ∧ zs = []) ∨
  ∃ x, a = some x ∧ len ≤ cap ∧ cap ≤ maxLen ∧ zs.length = cap ∧ (∀ i, i < zs.length → w.cell? (x.add i) = some (.int k (zs.getD i 0))) ∧ ∀ n ∈ zs, (Lit.int k n).wf = true
theorem arg_row {w : World} {a : Option Addr} {len cap : Nat} {zs : List Int} (h : Arg .u8 w a len cap zs) : ∃ l : List Int, len = l.length ∧ Kd.C (Kd.int .u8) w a l.length l ∧ l.length ≤ cap ∧ ∀ v ∈ l, 0 ≤ v ∧ v < 256 := by
  obtain ⟨l, rfl, hr, hm, hw, hc⟩ := ReadsInt.ofRowC h
  exact ⟨l, rfl, Kd.C_of_reads (d := (0 : Int)) (h1 := fun _ => rfl) hr, hc, fun v hv => wf_u8 (hw v hv)⟩
set_option maxRecDepth 100000 in
theorem gen_laid {W : World} (hL : laidMetH Tryd.prog [("pub-mintmark/pub/btcdaddress/bech32.gen", Rows.laid_pub_mintmark_pub_btcdaddress_bech32_gen)] W) : GenB W.heap.size W := by
  rw [MakeChecks.laidMetH_plain _ _ _ (by kernel_rfl)] at hL
  have g0 : Tryd.prog.globalNamed "pub-mintmark/pub/btcdaddress/bech32.gen" = some 0 := by kernel_rfl
  have t0 : (Tryd.prog.globals[0]?).map (·.type) = some 81 := by kernel_rfl
  obtain ⟨ps, ⟨g, t, cs, fuel, p, q, hg, ht, hvar, hd, _, _⟩, _⟩ := hL
  obtain rfl := Option.some.inj (g0.symm.trans hg)
  obtain rfl := Option.some.inj (t0.symm.trans ht)
  rcases open_ints Tryd.underlying81 Tryd.underlying3 (by kernel_rfl) hd with ⟨_, hx⟩ | ⟨a, len, cap, zs, hcs, _, hlc, _, hlz, hx, hcell, _⟩
  · cases hx
  · have hx1 := congrArg Prod.fst hx
    have hx2 : [(DataW.lit (.int .i64 996825010) : DataW Unit), .lit (.int .i64 642813549), .lit (.int .i64 513874426), .lit (.int .i64 1027748829), .lit (.int .i64 705979059)] = lits .i64 (zs.take len) ∧ ([] : List (DataW Unit)) = lits .i64 (zs.drop len) := by
      injection hx1 with e1 e2
      exact ⟨e1, e2⟩
    have e2 : zs.drop len = [] := by
      have := hx2.2.symm
      simpa [lits] using this
    have e3 : zs = zs.take len := by
      have := List.take_append_drop len zs
      rw [e2, List.append_nil] at this
      exact this.symm
    have e1 : zs = [996825010, 642813549, 513874426, 1027748829, 705979059] := by
      rw [e3]
      have h := hx2.1.symm
      generalize zs.take len = ys at h
      match ys, h with
      | [a, b, c, d, e], h =>
        simp [lits] at h
        obtain ⟨rfl, rfl, rfl, rfl, rfl⟩ := h
        rfl
    subst e1
    have hlen : len = 5 := by
      have h5 := congrArg List.length e3
      simp only [List.length_take, List.length_cons, List.length_nil] at h5 hlz
      split at hlz <;> omega
    subst hlen
    have hc0 : W.cell? ⟨0, 0, none⟩ = some (.slice (some a) 5 cap) := by
      have h1 := World.var?_cell g0 hvar 0
      have h2 : cs = #[.slice (some a) 5 cap] := by
        rw [← Array.toArray_toList (xs := cs), hcs]
      rw [h2] at h1
      exact h1
    obtain ⟨gb, go, sp⟩ := a
    have hsp : sp = none := by
      cases sp with
      | none => rfl
      | some x =>
        have h1 := hcell 0 (by decide)
        unfold Addr.add at h1
        have h2 := cell_spot h1
        cases h2
    subst hsp
    have hc : ∀ k : Nat, k < 5 → W.cell? ⟨gb, go + k, none⟩ = some (.int .i64 ((gen.getD k 0 : Nat) : Int)) := by
      intro k hk
      have h1 := hcell k hk
      rw [addp] at h1
      rw [show go + k = go + k from rfl]
      obtain rfl | rfl | rfl | rfl | rfl : k = 0 ∨ k = 1 ∨ k = 2 ∨ k = 3 ∨ k = 4 := by omega
      all_goals exact h1
    exact ⟨gb, go, cap, Nat.lt_of_le_of_lt (Nat.zero_le _) (World.block_lt_of_cell? _ _ hc0), World.block_lt_of_cell? _ _ (hc 0 (by decide)), hc0, hc⟩
end Go.Proofs.YtciocjaelmnhiaaDoor.Bp
