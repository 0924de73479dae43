/-
  Behind a whole script another one has its checks, too. Printed by wip/gen/sigsum.py.
-/
import Derived.Test.YtmebcbmnfnlihaaQFnSigOpsSumx1
import Derived.Test.YtmebcbmnfnlihaaSigOps
import Derived.Test.YtmebcbmnfnlihaaRow
namespace Go.Proofs.Ytmebcbmnfnlihaa.Tok

theorem shape_front {a : List Int} (b : List Int) {i w c : Nat} (hi : i < a.length) (h : shape a i = some (w, c)) : shape (a ++ b) i = some (w, c) := by
  have e0 : (a ++ b).getD i 0 = a.getD i 0 := by
    rw [List.getD_eq_getElem?_getD, List.getD_eq_getElem?_getD, List.getElem?_append_left hi]
  have hl : (a ++ b).length = a.length + b.length := List.length_append
  have hW : ∀ n, shapeW a i n = some (w, c) → shapeW (a ++ b) i n = some (w, c) := by
    intro n h
    unfold shapeW at h ⊢
    split at h
    · rename_i h1
      have e1 : ((a ++ b).drop (i + 1)).take n = (a.drop (i + 1)).take n := by
        rw [List.drop_append_of_le_length (by omega), List.take_append_of_le_length (by rw [List.length_drop]; omega)]
      rw [if_pos (by omega), e1]
      split at h
      · rename_i h2
        rw [if_pos (by omega)]
        exact h
      · cases h
    · cases h
  unfold shape at h ⊢
  rw [e0]
  split at h
  · rename_i h1
    rw [if_pos h1]
    split at h
    · rename_i h2
      rw [if_pos (by omega)]
      exact h
    · cases h
  · rename_i h1
    rw [if_neg h1]
    split at h
    · rename_i h2
      rw [if_pos h2]
      exact hW _ h
    · rename_i h2
      rw [if_neg h2]
      split at h
      · rename_i h3
        rw [if_pos h3]
        exact hW _ h
      · rename_i h3
        rw [if_neg h3]
        split at h
        · rename_i h4
          rw [if_pos h4]
          exact hW _ h
        · rename_i h4
          rw [if_neg h4]
          exact h
theorem shape_back (a b : List Int) (i : Nat) : shape (a ++ b) (a.length + i) = shape b i := by
  have e0 : (a ++ b).getD (a.length + i) 0 = b.getD i 0 := by
    rw [List.getD_eq_getElem?_getD, List.getD_eq_getElem?_getD, List.getElem?_append_right (by omega)]
    congr 2
    omega
  have e1 : (a ++ b).length - (a.length + i + 1) = b.length - (i + 1) := by rw [List.length_append]; omega
  have e2 : (a ++ b).drop (a.length + i + 1) = b.drop (i + 1) := by
    rw [Nat.add_assoc, ← List.drop_drop, List.drop_left]
  unfold shape shapeW
  rw [e0, e1, e2]
theorem cut_back (a : List Int) {b : List Int} {i : Nat} {ts : List T} {r : Int} (h : Cut b i ts r) : ∃ us r', Cut (a ++ b) (a.length + i) us r' ∧ sumOps us = sumOps ts := by
  induction h with
  | done h1 => exact ⟨[], -1, .done (by rw [List.length_append]; omega), rfl⟩
  | bad h1 h2 => exact ⟨[], _, .bad (by rw [List.length_append]; omega) (by rw [shape_back]; exact h2), rfl⟩
  | @step i w c ts r h1 h2 _ ih =>
    obtain ⟨us, r', h3, h4⟩ := ih
    have e0 : (a ++ b).getD (a.length + i) 0 = b.getD i 0 := by
      rw [List.getD_eq_getElem?_getD, List.getD_eq_getElem?_getD, List.getElem?_append_right (by omega)]
      congr 2
      omega
    refine ⟨_, r', .step (by rw [List.length_append]; omega) (by rw [shape_back]; exact h2) (ts := us) ?_, ?_⟩
    · have : a.length + i + 1 + w + c = a.length + (i + 1 + w + c) := by omega
      rw [this]
      exact h3
    · simp only [sumOps, h4, e0]
theorem cut_sum {a : List Int} (b : List Int) {i : Nat} {ts : List T} {r : Int} (h : Cut a i ts r) (hr : r = -1) (hi : i ≤ a.length) {us : List T} {r2 : Int} (h2 : Cut b 0 us r2) :
    ∃ vs r', Cut (a ++ b) i vs r' ∧ sumOps vs = sumOps ts + sumOps us := by
  induction h with
  | done h1 =>
    obtain ⟨vs, r', h3, h4⟩ := cut_back a h2
    refine ⟨vs, r', ?_, by rw [h4]; simp [sumOps]⟩
    rename_i i0
    have : a.length + 0 = i0 := by omega
    rwa [this] at h3
  | bad h1 => omega
  | @step i w c ts r h1 h3 _ ih =>
    have hf := shape_fits h3
    obtain ⟨vs, r', h4, h5⟩ := ih hr (by omega)
    have e0 : (a ++ b).getD i 0 = a.getD i 0 := by
      rw [List.getD_eq_getElem?_getD, List.getD_eq_getElem?_getD, List.getElem?_append_left h1]
    exact ⟨_, r', .step (by rw [List.length_append]; omega) (shape_front b h1 h3) h4, by simp only [sumOps, h5, e0]; omega⟩
theorem sum_append (a b : List Int) (h : (tokens a).2 < 0) : sumOps (tokens (a ++ b)).1 = sumOps (tokens a).1 + sumOps (tokens b).1 := by
  have h1 := tokens_cut a
  have hr := h1.bad_range
  obtain ⟨vs, r', h3, h4⟩ := cut_sum b h1 (by omega) (Nat.zero_le _) (tokens_cut b)
  rw [cut_tokens h3]
  exact h4
end Go.Proofs.Ytmebcbmnfnlihaa.Tok
namespace Go.Proofs.Ytmebcbmnfnlihaa.PFnSigOpsSum
open Go.RowKit Go.Proofs.YtmebcbmnfnlihaaW.PrintWords Go.Proofs.YtmebcbmnfnlihaaW.PrintLast Go.Proofs.YtmebcbmnfnlihaaW.PrintMore
set_option linter.unusedSimpArgs false
set_option linter.unusedVariables false

theorem info_u8 : (Try.prog.info? 5).map (fun i => (i.zero, i.size, i.bytes)) = some (some (.int .u8 0), 1, 1) := by kernel_rfl
theorem sig_v (v : Value) (l : List Int) (w : World) (base : Nat) (hs : Kd.V (Kd.int .u8) 5 w base (fun _ => True) v l) (hb : Tok.Bytes l) (hn : l.length ≤ 2147483647)
    (r : Int) (hr : Tok.sumOps (Tok.tokens l).1 = r) :
    Calls Try.prog 27 #[v] w fun e w' => e = .returned (.int .i64 r) ∧ Below w.heap.size w w' := by
  obtain ⟨A, c, rfl⟩ := Kd.V_slice hs
  exact Tok.sigops_calls A c l w hs hb hn r hr
theorem sum_one : Tok.sumOps (Tok.tokens [172]).1 = 1 := by decide
set_option maxHeartbeats 4000000 in
set_option maxRecDepth 100000 in
theorem awake_calls (w : World) : Calls Try.prog 29 #[] w fun e w' => e = .returned (.bool true) ∧ Below w.heap.size w w' := by
  have HB := Aside0.mk (Below.refl w.heap.size w)
  go_enter Try.func29, Try.ntmps29
  go_wp2_with (first
    | ((with_reducible refine gate_dst (N := 1) rfl ?_); refine Kd.R_lit (Kd.int .u8) _ 5 ?hg (N := 1) ?hd (xs := ([172] : List Int)) (inner := [.int .u8 172]) (ok := fun _ => True) (okp := fun _ => True) ?hr ?hp (fun _ hk => hk) trivial (Below.refl _ _) (Nat.le_refl _) (by simp) ?_; (case hd => rfl); (case hg => rfl); (case hr => first | (go_simp; done) | (go_simp; rfl)); (case hp => exact (Reps.one (show Kd.M (Kd.int .u8) _ _ _ 172 [.int .u8 172] from rfl) (Reps.none _ _))); intro v1 w_ ho_ hb_ hg_ hnew_; clear hg_ hnew_; have n0_ := Aside0.mk (Kd.R_lower ho_ (below_size HB.out)); have n1_ := Aside0.mk (below_step HB.out hb_); clear HB; have HO := n0_; have HB := n1_; clear n0_ n1_ hb_ ho_)
    | (go_at_call 27; refine (sig_v v1 [172] _ w.heap.size (Kd.R_V HO.out) (by intro x hx; simp at hx; omega) (by simp) 1 sum_one).mono ?_; rintro e w2 ⟨rfl, hB2⟩; have HB2 := Aside0.mk hB2; clear hB2))
  go_ret
  exact ⟨by first | rfl | (simp; done), below_step HB.out HB2.out⟩
theorem whole_f (k : Nat) (l : List Int) (hb : Tok.Bytes l) (hl : l.length ≤ 2147483647) : spec_Whole.f k l = some (decide ((Tok.tokens l).2 < 0)) := by
  have e : spec_Tokens.f k l = some ((Tok.tokens l).1.map toS, (Tok.tokens l).2) := if_pos ⟨hb, hl⟩
  unfold spec_Whole.f
  rw [e, Option.bind_some]

set_option maxHeartbeats 4000000 in
set_option maxRecDepth 100000 in
theorem law_walk (A : Option Addr) (c : Nat) (l : List Int) (A2 : Option Addr) (c2 : Nat) (l2 : List Int) (w : World)
    (hs : Kd.V (Kd.int .u8) 5 w w.heap.size (fun _ => True) (.slice A l.length c) l) (hb : Tok.Bytes l)
    (hs2 : Kd.V (Kd.int .u8) 5 w w.heap.size (fun _ => True) (.slice A2 l2.length c2) l2) (hb2 : Tok.Bytes l2) :
    Calls Try.prog 8 #[.slice A l.length c, .slice A2 l2.length c2] w fun e w' => e = .returned (.bool true) ∧ Below w.heap.size w w' := by
  have HB := Aside0.mk (Below.refl w.heap.size w)
  have HC := Lib.hid (Kd.V_reads' hs).2.1
  have HR := Lib.hid (show ∀ w', Below w.heap.size w w' → Kd.V (Kd.int .u8) 5 w' w.heap.size (fun _ => True) (.slice A l.length c) l from fun w' hw => Kd.V_mono (Kd.V_below (Kd.V_bound hs) hw) (fun _ _ => trivial))
  have HR2 := Lib.hid (show ∀ w', Below w.heap.size w w' → Kd.V (Kd.int .u8) 5 w' w.heap.size (fun _ => True) (.slice A2 l2.length c2) l2 from fun w' hw => Kd.V_mono (Kd.V_below (Kd.V_bound hs2) hw) (fun _ _ => trivial))
  clear hs hs2
  by_cases hl : l.length ≤ 2147483647
  · have hla : decide ((2147483647 : Int) < (l.length : Int)) = false := decide_eq_false (by omega)
    by_cases hl2 : l2.length ≤ 2147483647
    · have hlb : decide ((2147483647 : Int) < (l2.length : Int)) = false := decide_eq_false (by omega)
      by_cases hs3 : l.length + l2.length ≤ 100000
      · have hsw : wrap64 ((l.length : Int) + (l2.length : Int)) = (l.length : Int) + (l2.length : Int) := Tok.wrap64_id (by omega) (by omega)
        have hlc : decide ((100000 : Int) < (l.length : Int) + (l2.length : Int)) = false := decide_eq_false (by omega)
        have HWH := Lib.hid (whole_f 0 l hb hl)
        by_cases hbad : (Tok.tokens l).2 < 0
        · rw [decide_eq_true hbad] at HWH
          have hsum := Tok.sum_append l l2 hbad
          have hr1 := Tok.sumOps_range (Tok.tokens l).1
          have hr2 := Tok.sumOps_range (Tok.tokens l2).1
          have hc1 := (Tok.tokens_cut l).len
          have hc2 := (Tok.tokens_cut l2).len
          obtain ⟨r1, e1⟩ : ∃ r, Tok.sumOps (Tok.tokens l).1 = r := ⟨_, rfl⟩
          obtain ⟨r2, e2⟩ : ∃ r, Tok.sumOps (Tok.tokens l2).1 = r := ⟨_, rfl⟩
          rw [e1, e2] at hsum
          have hrw : wrap64 (r1 + r2) = r1 + r2 := Tok.wrap64_id (by omega) (by omega)
          have E1 := Lib.hid e1
          have E2 := Lib.hid e2
          have ES := Lib.hid hsum
          have HL := Lib.hid hl
          have HL2 := Lib.hid hl2
          have HL3 := Lib.hid hs3
          have HBY := Lib.hid hb
          have HBY2 := Lib.hid hb2
          have HBY3 := Lib.hid (show Tok.Bytes (l ++ l2) from fun x hx => (List.mem_append.1 hx).elim (hb x) (hb2 x))
          clear hb hb2 hl hl2 hs3 hbad hsum hr1 hr2 hc1 hc2 e1 e2
          go_enter Try.func8, Try.ntmps8
          go_wp2_with (first
            | (go_at_call 29; refine (awake_calls _).mono ?_; rintro e wa ⟨rfl, ha⟩; have n1_ := Aside0.mk (below_step HB.out ha); clear HB; have HB := n1_; clear n1_ ha)
            | (go_at_call 30; refine (spec_Whole.calls 0 _ _ l true _ (Kd.V_reads' (HR.out _ HB.out)).2.2 HC.out HWH.out).mono ?_; rintro e wb ⟨rfl, hb_⟩; have n1_ := Aside0.mk (below_step HB.out hb_); clear HB; have HB := n1_; clear n1_ hb_)
            | ((with_reducible refine gate_dst (N := 26) rfl ?_); refine Kd.R_lit (Kd.int .u8) _ 5 ?hg (N := 26) ?hd (xs := ([] : List Int)) (inner := []) (ok := fun _ => True) (okp := fun _ => True) ?hr ?hp (fun _ hk => hk) trivial (Below.refl _ _) (Nat.le_refl _) (by simp) ?_; (case hd => rfl); (case hg => rfl); (case hr => first | (go_simp; done) | (go_simp; rfl)); (case hp => exact (Reps.none _ _)); intro v26 w_ ho_ hb_ hg_ hnew_; clear hg_ hnew_; have n0_ := Aside0.mk (Kd.R_lower ho_ (below_size HB.out)); have n1_ := Aside0.mk (below_step HB.out hb_); clear HB; have HO1 := n0_; have HB := n1_; clear n0_ n1_ hb_ ho_)
            | ((with_reducible refine gate_builtin (b := .append) (xs := #[.tmp 26, .tmp 27]) rfl ?_); at_builtin; refine Kd.R_append_rows (Kd.int .u8) (w0 := w) w.heap.size rfl (.tmp 26) (.tmp 27) 22 5 (.int .u8 0) 1 rfl Try.underlying22 info_u8 rfl (by decide) (by omega) v26 [] l _ _ _ (fun _ => True) (fun _ => False) rfl rfl ?aO ?aR (fun _ _ h => h) (fun _ h => h.elim) ?aF ?aB ?aS ?aL ?_; (case aR => exact (Kd.V_reads' (HR.out _ HB.out)).2.2); (case aB => exact HB.out); (case aF => exact (fun _ _ => trivial)); (case aO => exact HO1.out); (case aS => exact below_size HB.out); (case aL => have := HL3.out; first | omega | (simp only [List.length_append, List.length_nil] at *; omega)); intro v28 w_ ho_ hb_ hg_ hat_; have n0_ := Aside0.mk hb_; have n1_ := Aside0.mk ho_; clear HB; clear HO1; have HB := n0_; have HO2 := n1_; clear n0_ n1_ ho_ hb_ hg_ hat_)
            | ((with_reducible refine gate_builtin (b := .append) (xs := #[.tmp 28, .tmp 29]) rfl ?_); at_builtin; refine Kd.R_append_rows (Kd.int .u8) (w0 := w) w.heap.size rfl (.tmp 28) (.tmp 29) 22 5 (.int .u8 0) 1 rfl Try.underlying22 info_u8 rfl (by decide) (by omega) v28 ([] ++ l) l2 _ _ _ (fun _ => True) (fun _ => False) rfl rfl ?aO ?aR (fun _ _ h => h) (fun _ h => h.elim) ?aF ?aB ?aS ?aL ?_; (case aR => exact (Kd.V_reads' (HR2.out _ HB.out)).2.2); (case aB => exact HB.out); (case aF => exact (fun _ _ => trivial)); (case aO => exact HO2.out); (case aS => exact below_size HB.out); (case aL => have := HL3.out; first | omega | (simp only [List.length_append, List.length_nil] at *; omega)); intro v30 w_ ho_ hb_ hg_ hat_; have n0_ := Aside0.mk hb_; have n1_ := Aside0.mk ho_; clear HB; clear HO2; have HB := n0_; have HO3 := n1_; clear n0_ n1_ ho_ hb_ hg_ hat_)
            | (go_at_call 27; (with_reducible refine (sig_v v30 (l ++ l2) _ w.heap.size (Kd.R_V HO3.out) HBY3.out (by rw [List.length_append]; have := HL3.out; omega) _ ES.out).mono ?_); rintro e wc ⟨rfl, hc_⟩; have n1_ := Aside0.mk (below_step HB.out hc_); clear HB; have HB := n1_; clear n1_ hc_)
            | (go_at_call 27; (with_reducible refine (sig_v _ l _ w.heap.size (HR.out _ HB.out) HBY.out HL.out r1 E1.out).mono ?_); rintro e wc ⟨rfl, hc_⟩; have n1_ := Aside0.mk (below_step HB.out hc_); clear HB; have HB := n1_; clear n1_ hc_)
            | (go_at_call 27; (with_reducible refine (sig_v _ l2 _ w.heap.size (HR2.out _ HB.out) HBY2.out HL2.out r2 E2.out).mono ?_); rintro e wc ⟨rfl, hc_⟩; have n1_ := Aside0.mk (below_step HB.out hc_); clear HB; have HB := n1_; clear n1_ hc_))
          go_ret
          exact ⟨by first | rfl | (simp; done), HB.out⟩
        · rw [decide_eq_false hbad] at HWH
          clear hb hb2 hl hl2 hs3 hbad
          go_enter Try.func8, Try.ntmps8
          go_wp2_with (first
            | (go_at_call 29; refine (awake_calls _).mono ?_; rintro e wa ⟨rfl, ha⟩; have n1_ := Aside0.mk (below_step HB.out ha); clear HB; have HB := n1_; clear n1_ ha)
            | (go_at_call 30; refine (spec_Whole.calls 0 _ _ l false _ (Kd.V_reads' (HR.out _ HB.out)).2.2 HC.out HWH.out).mono ?_; rintro e wb ⟨rfl, hb_⟩; have n1_ := Aside0.mk (below_step HB.out hb_); clear HB; have HB := n1_; clear n1_ hb_))
          go_ret
          exact ⟨rfl, HB.out⟩
      · have hsw : wrap64 ((l.length : Int) + (l2.length : Int)) = (l.length : Int) + (l2.length : Int) := Tok.wrap64_id (by omega) (by omega)
        have hlc : decide ((100000 : Int) < (l.length : Int) + (l2.length : Int)) = true := decide_eq_true (by omega)
        clear hb hb2 hl hl2 hs3
        go_enter Try.func8, Try.ntmps8
        go_wp2_with (go_at_call 29; refine (awake_calls _).mono ?_; rintro e wa ⟨rfl, ha⟩; have n1_ := Aside0.mk (below_step HB.out ha); clear HB; have HB := n1_; clear n1_ ha)
        go_ret
        exact ⟨rfl, HB.out⟩
    · have hlb : decide ((2147483647 : Int) < (l2.length : Int)) = true := decide_eq_true (by omega)
      clear hb hb2 hl hl2
      go_enter Try.func8, Try.ntmps8
      go_wp2
      go_ret
      exact ⟨rfl, HB.out⟩
  · have hla : decide ((2147483647 : Int) < (l.length : Int)) = true := decide_eq_true (by omega)
    clear hb hb2 hl
    go_enter Try.func8, Try.ntmps8
    go_wp2
    go_ret
    exact ⟨rfl, HB.out⟩

theorem row_walk (a : Option Addr) (len cap : Nat) (z : List Int) (a2 : Option Addr) (len2 cap2 : Nat) (z2 : List Int) (w : World) (h : Row.Arg .u8 w a len cap z) (_ : len * 1 ≤ 140737488351232) (h2 : Row.Arg .u8 w a2 len2 cap2 z2) (_ : len2 * 1 ≤ 140737488351232) :
    Calls Try.prog 8 #[.slice a len cap, .slice a2 len2 cap2] w fun e w' => e = .returned (.bool true) ∧ Below w.heap.size w w' := by
  obtain ⟨l, rfl, hv, hb⟩ := Row.arg_V h
  obtain ⟨l2, rfl, hv2, hb2⟩ := Row.arg_V h2
  exact law_walk a cap l a2 cap2 l2 w hv hb hv2 hb2
end Go.Proofs.Ytmebcbmnfnlihaa.PFnSigOpsSum
