/-
  A slice of bytes that is an argument: read with any footprint; its numbers are bytes.
-/
import Derived.Test.YtafpmdmmeohmfaaTokPure
import Derived.Test.YtafpmdmmeohmfaaWWords
import Derived.Test.YtafpmdmmeohmfaaWShare
import Derived.Test.YtafpmdmmeohmfaaWMore
namespace Go.Proofs.Ytafpmdmmeohmfaa.Row
open Go.RowKit Go.Proofs.YtafpmdmmeohmfaaW.PrintWords Go.Proofs.YtafpmdmmeohmfaaW.PrintLast Go.Proofs.YtafpmdmmeohmfaaW.PrintMore

/-- A row of bytes as an argument lies there. -/
def Arg (k : IntKind) (w : World) (a : Option Addr) (len cap : Nat) (zs : List Int) : Prop :=
  (a = none ∧ len = 0 ∧ cap = 0 ∧ zs = []) ∨
  ∃ x, a = some x ∧ len ≤ cap ∧ cap ≤ maxLen ∧ zs.length = cap ∧ (∀ i, i < zs.length → w.cell? (x.add i) = some (.int k (zs.getD i 0))) ∧ ∀ n ∈ zs, (Lit.int k n).wf = true

theorem C_foot {w : World} {k : IntKind} {A : Option Addr} {n : Nat} {l : List Int} (h : Kd.C (Kd.int k) w A n l) : Kd.F (Kd.int k) w (fun _ => True) A n l := by
  intro W' hW
  have hr := (Kd.reads_of_C (d := (0 : Int)) h)
  refine Kd.C_of_reads (d := (0 : Int)) (h1 := fun _ => rfl) ⟨hr.1, hr.2.1, fun hn => ?_⟩
  obtain ⟨ad, e, hc⟩ := hr.2.2 hn
  refine ⟨ad, e, fun j hj => ?_⟩
  have h1 := hc j hj
  have h2 := World.block_lt_of_cell? w _ h1
  have h3 := hW _ trivial h2
  unfold World.cell? at h1 ⊢
  rw [h3]
  exact h1

theorem arg_V {t : Nat} {w : World} {a : Option Addr} {len cap : Nat} {zs : List Int} (h : Arg .u8 w a len cap zs) :
    ∃ l : List Int, len = l.length ∧ Kd.V (Kd.int .u8) t w w.heap.size (fun _ => True) (.slice a l.length cap) l ∧ Tok.Bytes l := by
  obtain ⟨l, e, hr, hm, hw, hc⟩ := ReadsInt.ofRowC h
  have h2 := Kd.C_of_reads (d := (0 : Int)) (h1 := fun _ => rfl) hr
  refine ⟨l, e, Kd.V_mk hc (C_foot h2), fun x hx => ?_⟩
  have h3 := hw x hx
  simp [Lit.wf, IntKind.min, IntKind.max, IntKind.signed, IntKind.bits] at h3
  omega
end Go.Proofs.Ytafpmdmmeohmfaa.Row
