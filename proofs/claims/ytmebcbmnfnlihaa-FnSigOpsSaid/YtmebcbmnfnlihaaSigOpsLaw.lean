/-
  The law on signature checks: what both sides count.
-/
import Derived.Test.YtmebcbmnfnlihaaQFnSigOpsx2
import Derived.Test.YtmebcbmnfnlihaaSigOps
import Derived.Test.YtmebcbmnfnlihaaRow
namespace Go.Proofs.Ytmebcbmnfnlihaa.PFnSigOps
open Go.RowKit Go.Proofs.YtmebcbmnfnlihaaW.PrintWords Go.Proofs.YtmebcbmnfnlihaaW.PrintLast Go.Proofs.YtmebcbmnfnlihaaW.PrintMore

def sumF : List S49 → Int
  | [] => 0
  | t :: ts => Tok.opOps t.f0 + sumF ts
theorem sumF_map (ts : List Tok.T) : sumF (ts.map toS) = Tok.sumOps ts := by
  induction ts with
  | nil => rfl
  | cons t ts ih => simp only [List.map_cons, sumF, Tok.sumOps, ih]; rfl
theorem sumF_step (xs : List S49) (i : Nat) (h : i < xs.length) : sumF (xs.drop i) = Tok.opOps (rd_T49 xs i).f0 + sumF (xs.drop (i + 1)) := by
  rw [List.drop_eq_getElem_cons h]
  simp only [sumF, rd_T49, Int.toNat_natCast, List.getD_eq_getElem?_getD, List.getElem?_eq_getElem h, Option.getD_some]

theorem l0_eq (xs : List S49) (hx : xs.length ≤ 2147483647) : ∀ (m i K : Nat) (n : Int), xs.length = i + m → 0 ≤ n → n ≤ 20 * i → 3 * m + 1 ≤ K →
    spec_SigOps.l0 K false xs n i = some (n + sumF (xs.drop i))
  | 0, i, K, n, hi, h0, h1, hK => by
    obtain ⟨k, rfl⟩ : ∃ k, K = k + 1 := ⟨K - 1, by omega⟩
    rw [spec_SigOps.l0, if_neg (by omega), List.drop_of_length_le (by omega)]
    simp [sumF]
  | m + 1, i, K, n, hi, h0, h1, hK => by
    obtain ⟨k, rfl⟩ : ∃ k, K = k + 1 + 1 + 1 := ⟨K - 3, by omega⟩
    have e1 : wrap64 ((i : Int) + 1) = ((i + 1 : Nat) : Int) := by rw [Tok.wrap64_id (by omega) (by omega)]; omega
    have e2 : wrap64 (n + 1) = n + 1 := Tok.wrap64_id (by omega) (by omega)
    have e3 : wrap64 (n + 20) = n + 20 := Tok.wrap64_id (by omega) (by omega)
    have hs := sumF_step xs i (by omega)
    rw [spec_SigOps.l0, if_pos (by omega), if_pos (by omega)]
    generalize (rd_T49 xs i).f0 = x at hs ⊢
    have tail : ∀ b : Bool, (x = 172 ∨ x = 173 ↔ b = true) → spec_SigOps.j1 (k + 1 + 1) false xs n i x b = some (n + sumF (xs.drop i)) := by
      intro b hb
      rw [spec_SigOps.j1, hs]
      cases b with
      | true =>
        rw [if_pos rfl, e1, e2, l0_eq xs hx m (i + 1) (k + 1) (n + 1) (by omega) (by omega) (by omega) (by omega)]
        rw [Tok.opOps, if_pos (hb.2 rfl)]
        congr 1
        omega
      | false =>
        have h172 : ¬ (x = 172 ∨ x = 173) := fun h => by have := hb.1 h; cases this
        rw [if_neg (by simp)]
        have tail2 : ∀ b : Bool, (x = 174 ∨ x = 175 ↔ b = true) → spec_SigOps.j2 (k + 1) false xs n i b = some (n + (Tok.opOps x + sumF (xs.drop (i + 1)))) := by
          intro b hb
          rw [spec_SigOps.j2]
          cases b with
          | true =>
            rw [if_pos rfl, if_neg (by simp), e1, e3, l0_eq xs hx m (i + 1) k (n + 20) (by omega) (by omega) (by omega) (by omega)]
            rw [Tok.opOps, if_neg h172, if_pos (hb.2 rfl)]
            congr 1
            omega
          | false =>
            have h174 : ¬ (x = 174 ∨ x = 175) := fun h => by have := hb.1 h; cases this
            rw [if_neg (by simp), e1, l0_eq xs hx m (i + 1) k n (by omega) (by omega) (by omega) (by omega)]
            rw [Tok.opOps, if_neg h172, if_neg h174]
            congr 1
            omega
        by_cases h4 : x = 174
        · rw [if_pos h4]
          exact tail2 _ (by simp [h4])
        · rw [if_neg h4]
          exact tail2 _ (by simp [h4])
    by_cases h2 : x = 172
    · rw [if_pos h2]
      exact tail _ (by simp [h2])
    · rw [if_neg h2]
      exact tail _ (by simp [h2])

theorem spec_f (l : List Int) (hb : Tok.Bytes l) (hl : l.length ≤ 2147483647) : ∃ K, spec_SigOps.f K l false = some (Tok.sumOps (Tok.tokens l).1) := by
  have hlen := (Tok.tokens_cut l).len
  refine ⟨3 * (Tok.tokens l).1.length + 1, ?_⟩
  have e : spec_Tokens.f (3 * (Tok.tokens l).1.length + 1) l = some ((Tok.tokens l).1.map toS, (Tok.tokens l).2) := if_pos ⟨hb, hl⟩
  unfold spec_SigOps.f
  rw [e, Option.bind_some]
  have h := l0_eq ((Tok.tokens l).1.map toS) (by rw [List.length_map]; omega) (Tok.tokens l).1.length 0 (3 * (Tok.tokens l).1.length + 1) 0 (by rw [List.length_map]; omega) (by omega) (by omega) (by omega)
  rw [List.drop_zero, sumF_map, Int.zero_add] at h
  exact h

set_option maxHeartbeats 4000000 in
set_option maxRecDepth 100000 in
theorem law_walk (A : Option Addr) (c : Nat) (l : List Int) (w : World) (hs : Kd.V (Kd.int .u8) 5 w w.heap.size (fun _ => True) (.slice A l.length c) l) (hb : Tok.Bytes l) :
    Calls Try.prog 7 #[.slice A l.length c] w fun e w' => e = .returned (.bool true) ∧ Below w.heap.size w w' := by
  by_cases hl : l.length ≤ 100000
  · have hl1 : decide ((2147483647 : Int) < (l.length : Int)) = false := decide_eq_false (by omega)
    have hl2 : decide ((100000 : Int) < (l.length : Int)) = false := decide_eq_false (by omega)
    obtain ⟨K, hK⟩ := spec_f l hb (by omega)
    have HK := Lib.hid hK
    have H1 := Lib.hid (Tok.sigops_calls A c l w hs hb (by omega) _ rfl)
    have HC := Lib.hid (Kd.V_reads' hs).2.1
    have HR := Lib.hid (show ∀ w', Below w.heap.size w w' → Kd.C (Kd.int .u8) w' A l.length l from fun w' hw => Kd.C_below (Kd.V_reads' hs).2.2 hw)
    generalize Tok.sumOps (Tok.tokens l).1 = r at HK H1
    clear hs hb hl hK
    go_enter Try.func7, Try.ntmps7
    go_wp2_with (first
      | (go_at_call 27; refine H1.out.mono ?_; rintro e w1 ⟨rfl, hB⟩; have HR1 := Lib.hid (HR.out _ hB); have HB := Lib.hid hB; clear hB)
      | (go_at_call 28; refine (spec_SigOps.calls K _ _ l false r _ HR1.out HC.out HK.out).mono ?_; rintro e w2 ⟨rfl, hB2⟩; have HB2 := Lib.hid hB2; clear hB2))
    go_ret
    exact ⟨by first | rfl | (simp; done), below_step HB.out HB2.out⟩
  · by_cases hl3 : l.length ≤ 2147483647
    · have hl1 : decide ((2147483647 : Int) < (l.length : Int)) = false := decide_eq_false (by omega)
      have hl2 : decide ((100000 : Int) < (l.length : Int)) = true := decide_eq_true (by omega)
      clear hs hb hl hl3
      go_enter Try.func7, Try.ntmps7
      go_wp2
      go_ret
      exact ⟨rfl, Below.refl _ _⟩
    · have hl1 : decide ((2147483647 : Int) < (l.length : Int)) = true := decide_eq_true (by omega)
      clear hs hb hl hl3
      go_enter Try.func7, Try.ntmps7
      go_wp2
      go_ret
      exact ⟨rfl, Below.refl _ _⟩

theorem row_walk (a : Option Addr) (len cap : Nat) (z : List Int) (w : World) (h : Row.Arg .u8 w a len cap z) (_ : len * 1 ≤ 140737488351232) :
    Calls Try.prog 7 #[.slice a len cap] w fun e w' => e = .returned (.bool true) ∧ Below w.heap.size w w' := by
  obtain ⟨l, rfl, hv, hb⟩ := Row.arg_V h
  exact law_walk a cap l w hv hb
end Go.Proofs.Ytmebcbmnfnlihaa.PFnSigOps
