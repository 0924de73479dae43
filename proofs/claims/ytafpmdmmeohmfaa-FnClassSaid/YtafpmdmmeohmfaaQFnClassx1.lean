import Derived.Test.YtafpmdmmeohmfaaPFnClassx0
import Derived.Test.YtafpmdmmeohmfaaTokSpec
namespace Go.Proofs.Ytafpmdmmeohmfaa.PFnClass
open Go.RowKit Go.Proofs.YtafpmdmmeohmfaaW.PrintWords Go.Proofs.YtafpmdmmeohmfaaW.PrintLast Go.Proofs.YtafpmdmmeohmfaaW.PrintMore
attribute [local go_sem] max2_int min2_int max_two min_two max_three min_three max_four min_four   -- for this text's walks alone
set_option linter.unusedVariables false
set_option linter.unusedSimpArgs false


/-! ### spec_Tokens: over the own contract -/
noncomputable def toS (t : Tok.T) : S27 := ⟨t.op, t.data, (t.at_ : Int)⟩
open Classical in
noncomputable def spec_Tokens.f (_k : Nat) (l0 : List Int) : Option ((List (S27)) × Int) := if Tok.Bytes l0 ∧ l0.length ≤ 2147483647 then some ((Tok.tokens l0).1.map toS, (Tok.tokens l0).2) else none
theorem spec_Tokens.mono : ∀ a0 k, LeO (spec_Tokens.f k a0) (spec_Tokens.f (k + 1) a0) := fun _ _ => LeO.refl _
theorem N_toS {e : Nat} {w : World} {base : Nat} {ok : Nat → Prop} {v : Value} {xs : List Tok.T} (h : Kd.N Tok.kT e w base ok v xs) : Kd.N k27 e w base ok v (xs.map toS) := by
  obtain ⟨h0, rows, hl, hR, hf⟩ := h
  refine ⟨h0, rows, by simpa using hl, hR, fun j x c hx hc => ?_⟩
  rw [List.getElem?_map] at hx
  cases hj : xs[j]? with
  | none => rw [hj] at hx; cases hx
  | some y =>
    rw [hj] at hx
    injection hx with hx
    subst hx
    exact hf j y c hj hc
theorem spec_Tokens.calls (k : Nat) (P0_ : Nat → Prop) (A0 : Option Addr) (c0 : Nat) (l0 : List Int) (r1 : List (S27)) (r2 : Int) (w : World) (hs0 : Kd.V (Kd.int .u8) 5 w w.heap.size (fun k_ => P0_ k_) (.slice A0 l0.length c0) l0) (h : spec_Tokens.f k l0 = some (r1, r2)) :
    Calls Try.prog 5 #[.slice A0 l0.length c0] w fun e w' => ∃ v0_ : Value, e = .returned (.tuple #[v0_, .int .i64 r2]) ∧ Kd.N k27 27 w' w.heap.size (fun k_ => (P0_ k_ ∨ w.heap.size ≤ k_)) v0_ r1 ∧ Below w.heap.size w w' := by
  unfold spec_Tokens.f at h
  split at h
  · rename_i hb
    simp only [Option.some.injEq, Prod.mk.injEq] at h
    obtain ⟨rfl, rfl⟩ := h
    refine (Tok.specTokens_calls P0_ A0 c0 l0 _ _ w hs0 hb.1 hb.2 rfl).mono ?_
    rintro e w' ⟨v, rfl, hn, hw⟩
    exact ⟨v, rfl, N_toS hn, hw⟩
  · cases h
end Go.Proofs.Ytafpmdmmeohmfaa.PFnClass
