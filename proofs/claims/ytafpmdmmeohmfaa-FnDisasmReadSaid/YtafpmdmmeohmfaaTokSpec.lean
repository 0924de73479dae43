/-
  The reference's tokens of a script: what spec.word and spec.Tokens compute.
-/
import Derived.Test.YtafpmdmmeohmfaaProg
import Derived.WalkKit
import Derived.KernelRfl
import Derived.Deep.LoopGhost
import Derived.Deep.DeepCutAuto
import Derived.Deep.CutBlock
import Derived.Outline
import Derived.Lib.Hide
import Derived.Test.YtafpmdmmeohmfaaWWords
import Derived.Test.YtafpmdmmeohmfaaWLast
import Derived.Test.YtafpmdmmeohmfaaWMore
import Derived.Test.YtafpmdmmeohmfaaWNEv
import Derived.Test.YtafpmdmmeohmfaaWGuard
import Derived.Test.YtafpmdmmeohmfaaTokPure
namespace Go.Proofs.Ytafpmdmmeohmfaa.Tok
open Go.RowKit Go.Proofs.YtafpmdmmeohmfaaW.PrintWords Go.Proofs.YtafpmdmmeohmfaaW.PrintLast

theorem getD_drop_cons (l : List Int) (i : Nat) (h : i < l.length) : l.drop i = l.getD i 0 :: l.drop (i + 1) := by
  rw [List.drop_eq_getElem_cons h, List.getD_eq_getElem?_getD, List.getElem?_eq_getElem h]
  rfl
theorem leV_step (l : List Int) (i : Nat) (h : i < l.length) : leV (l.drop i) = l.getD i 0 + 256 * leV (l.drop (i + 1)) := by
  rw [getD_drop_cons l i h, leV]
theorem leV_lt {l : List Int} (h : Bytes l) : leV l < ((256 ^ l.length : Nat) : Int) := by
  induction l with
  | nil => simp [leV]
  | cons b r ih =>
    have h1 := h b (List.mem_cons_self ..)
    have h2 := ih (fun x hx => h x (List.mem_cons_of_mem _ hx))
    simp only [leV, List.length_cons, Nat.pow_succ, Int.natCast_mul]
    omega
theorem leV_ltN {l : List Int} (h : Bytes l) {n : Nat} (hl : l.length ≤ n) : leV l < ((256 ^ n : Nat) : Int) := by
  have h1 := leV_lt h
  have h2 : 256 ^ l.length ≤ 256 ^ n := Nat.pow_le_pow_right (by omega) hl
  omega
theorem leV_lt4 {l : List Int} (h : Bytes l) (hl : l.length ≤ 4) : leV l < 4294967296 := by
  have h1 := leV_ltN h hl
  have h3 : 256 ^ 4 = 4294967296 := by decide
  omega
theorem leV_lt3 {l : List Int} (h : Bytes l) (hl : l.length ≤ 3) : leV l < 16777216 := by
  have h1 := leV_ltN h hl
  have h3 : 256 ^ 3 = 16777216 := by decide
  omega
theorem getD_take (l : List Int) (n i : Nat) (h : i < n) : (l.take n).getD i 0 = l.getD i 0 := by
  rw [List.getD_eq_getElem?_getD, List.getD_eq_getElem?_getD, List.getElem?_take, if_pos h]

theorem wrap64_id {x : Int} (h0 : -9223372036854775808 ≤ x) (h1 : x ≤ 9223372036854775807) : wrap64 x = x := by unfold wrap64; omega

theorem lenOf {w : World} {A : Option Addr} {n : Nat} {l : List Int} (h : Kd.C (Kd.int .u8) w A n l) : l.length ≤ 9223372036854775807 := by
  have := Kd.C_len h; have := Kd.C_max h; omega

/-- What spec.word comes to, for up to four bytes. -/
def wordF (l : List Int) (n : Nat) : Int × Bool := if l.length < n then (0, false) else (leV (l.take n), true)

set_option maxHeartbeats 2000000 in
set_option maxRecDepth 100000 in
theorem word_calls (A : Option Addr) (m c : Nat) (l : List Int) (n : Nat) (r : Int) (b : Bool) (w : World) (hr : Kd.C (Kd.int .u8) w A m l) (hb : Bytes l) (hn : n ≤ 4) (h : wordF l n = (r, b)) :
    Calls Try.prog 16 #[.slice A m c, .int .i64 n] w fun e w' => e = .returned (.tuple #[.int .i64 r, .bool b]) ∧ w = w' := by
  obtain rfl := Kd.C_len hr
  have HR := Lib.hid hr
  have hm := lenOf hr
  clear hr
  unfold wordF at h
  by_cases hc : l.length < n
  · rw [if_pos hc] at h
    obtain ⟨rfl, rfl⟩ := Prod.mk.inj h
    clear h
    have h1 : decide (l.length < n) = true := decide_eq_true hc
    clear hc
    go_enter Try.func16, Try.ntmps16
    go_wp2
    go_ret2
    exact ⟨rfl, rfl⟩
  · rw [if_neg hc] at h
    obtain ⟨hr1, rfl⟩ := Prod.mk.inj h
    clear h
    have HF := Lib.hid hr1
    clear hr1
    have h1 : decide (l.length < n) = false := decide_eq_false hc
    have hlt : n ≤ l.length := by omega
    clear hc
    have HB := Lib.hid hb
    have HT := Lib.hid (hb.take n)
    clear hb
    go_enter Try.func16, Try.ntmps16
    go_wp2
    go_loop [6, 7] (fun s i => ∃ k : Nat, k ≤ n ∧ i = .int .i64 ((k : Int) - 1) ∧ s = .int .i64 (leV ((l.take n).drop k))) (fun _ i => (intOf i + 1).toNat)
    case atStart => exact ⟨n, Nat.le_refl _, rfl, by rw [List.drop_of_length_le (by simp; omega)]; rfl⟩
    case round =>
      obtain ⟨k, hk, rfl, rfl⟩ := hrel
      rcases Nat.eq_zero_or_pos k with h0 | h0
      · subst h0
        go_wp2
        go_ret2
        exact ⟨by rw [← HF.out]; rfl, rfl⟩
      · obtain ⟨j, rfl⟩ : ∃ j, k = j + 1 := ⟨k - 1, by omega⟩
        have hj : j < l.length := by omega
        have hs := leV_step (l.take n) j (by simp; omega)
        rw [getD_take l n j (by omega)] at hs
        have h6 := leV_nonneg (HT.out.drop (j + 1))
        have h7 := HB.out.getD j
        have h8 := leV_lt3 (HT.out.drop (j + 1)) (by simp; omega)
        obtain ⟨ad, e, hx⟩ := Kd.at_int HR.out (j : Int) (by omega) (by omega)
        cases e
        have HS := Lib.hid hs
        clear hs
        simp only [rd, Int.toNat_natCast] at hx
        generalize l.getD j 0 = x at HS h7 hx
        go_wp2
        go_round
        case rel => exact ⟨j, by omega, by go_num, by rw [HS.out]; go_num⟩
        case measure => simp [intOf] <;> omega

/-! The kind of a token's cells. -/
def kT : Kd T := Kd.iso (Kd.pair (Kd.int .i64) (Kd.pair (Kd.slice 5 (Kd.int .u8)) (Kd.int .i64))) (fun x : T => (x.op, x.data, (x.at_ : Int)))
theorem kT_open {w : World} {x : T} {cs : List Value} (h : kT.K w x cs) : ∃ A1 c1, cs = [.int .i64 x.op, .slice A1 x.data.length c1, .int .i64 x.at_] ∧ x.data.length ≤ c1 ∧ (Kd.int .u8).C w A1 x.data.length x.data := by
  obtain ⟨_, _, rfl, rfl, ⟨_, _, rfl, ⟨A1, c1, rfl, l1, g1⟩, rfl⟩⟩ := h
  exact ⟨A1, c1, rfl, l1, g1⟩
theorem kT_mk (w : World) (x : T) {A1 : Option Addr} {c1 : Nat} (l1 : x.data.length ≤ c1) (g1 : (Kd.int .u8).C w A1 x.data.length x.data) : kT.K w x [.int .i64 x.op, .slice A1 x.data.length c1, .int .i64 x.at_] :=
  ⟨[.int .i64 x.op], [.slice A1 x.data.length c1, .int .i64 x.at_], rfl, rfl, ⟨[.slice A1 x.data.length c1], [.int .i64 x.at_], rfl, ⟨A1, c1, rfl, l1, g1⟩, rfl⟩⟩
theorem kT_openF {W : World} {ok : Nat → Prop} {x : T} {cs : List Value} (h : Kd.FK kT W ok x cs) : ∃ A1 c1, cs = [.int .i64 x.op, .slice A1 x.data.length c1, .int .i64 x.at_] ∧ x.data.length ≤ c1 ∧ Kd.F (Kd.int .u8) W ok A1 x.data.length x.data := by
  obtain ⟨A1, c1, rfl, l1, _⟩ := kT_open (Kd.FK_now h)
  refine ⟨A1, c1, rfl, l1, fun W' hW => ?_⟩
  obtain ⟨A2, c2, he, l2, g2⟩ := kT_open (h W' hW)
  injection (Option.some.inj (show some (Value.slice A1 x.data.length c1) = some (Value.slice A2 x.data.length c2) from congrArg (fun l => l[1]?) he)) with ha _ _
  rw [ha]
  exact g2
theorem kT_mkF (W : World) (ok : Nat → Prop) (x : T) {A1 : Option Addr} {c1 : Nat} (l1 : x.data.length ≤ c1) (g1 : Kd.F (Kd.int .u8) W ok A1 x.data.length x.data) : Kd.FK kT W ok x [.int .i64 x.op, .slice A1 x.data.length c1, .int .i64 x.at_] := fun W2 hW => kT_mk W2 x l1 (g1 W2 hW)

theorem info_T : (Try.prog.info? 27).map (fun i => (i.zero, i.size, i.bytes)) = some (some (.agg #[.int .i64 0, .slice none 0 0, .int .i64 0]), 3, 40) := by kernel_rfl
theorem info_u8 : (Try.prog.info? 5).map (fun i => (i.zero, i.size, i.bytes)) = some (some (.int .u8 0), 1, 1) := by kernel_rfl

set_option maxHeartbeats 4000000 in
set_option maxRecDepth 100000 in
theorem specTokens_calls (P0 : Nat → Prop) (A : Option Addr) (c : Nat) (l : List Int) (r1 : List T) (r2 : Int) (w : World) (hs : Kd.V (Kd.int .u8) 5 w w.heap.size P0 (.slice A l.length c) l) (hb : Bytes l) (hlen : l.length ≤ 2147483647) (h : tokens l = (r1, r2)) :
    Calls Try.prog 5 #[.slice A l.length c] w fun e w' => ∃ v, e = .returned (.tuple #[v, .int .i64 r2]) ∧ Kd.N kT 27 w' w.heap.size (fun k => P0 k ∨ w.heap.size ≤ k) v r1 ∧ Below w.heap.size w w' := by
  have HS := Lib.hid (Kd.V_bound hs)
  have HB := Lib.hid hb
  have H := Lib.hid h
  have hc := (Kd.V_at hs).2.1
  clear hs hb h
  obtain ⟨i0, hi0, _, hsz, _⟩ := info_parts info_u8
  go_enter Try.func5, Try.ntmps5
  go_wp2
  go_loopg [2, 4] (l.length + 1) (fun kq v2 v4 w' => ∃ (at_ : Nat) (acc : List T), v4 = .int .i64 at_ ∧ at_ ≤ l.length ∧ l.length < kq + at_ ∧ acc.length ≤ at_ ∧ Hid (toks l kq at_ acc = (r1, r2)) ∧ Hid (Kd.N kT 27 w' w.heap.size (fun k => P0 k ∨ w.heap.size ≤ k) v2 acc) ∧ Hid (Below w.heap.size w w'))
  case atStart => exact ⟨0, [], rfl, Nat.zero_le _, by omega, Nat.le_refl _, H, Kd.N_nil _ _ _ _ _, Below.refl _ _⟩
  case round =>
    obtain ⟨at_, acc, rfl, hat, hk, hacc, HT, HN, HW⟩ := hrel
    cases gk with
    | zero => omega
    | succ k =>
      by_cases hlt : at_ < l.length
      · have HT2 : toks l (k + 1) at_ acc = (r1, r2) := HT.out
        rw [toks, if_pos hlt] at HT2
        have H2 := Lib.hid HT2
        clear HT2
        have HV := Kd.V_below HS.out HW.out
        obtain ⟨ad, e, hx⟩ := Kd.at_int (Kd.V_reads' HV).2.2 (at_ : Int) (by omega) (by omega)
        cases e
        have hxb := HB.out.getD at_
        simp only [rd, Int.toNat_natCast] at hx
        obtain ⟨x, hxx⟩ : ∃ x, l.getD at_ 0 = x := ⟨_, rfl⟩
        rw [hxx] at hx hxb
        have HX := Lib.hid hxx
        have HVV := Lib.hid HV
        clear hxx HV HT
        have hc1 := cut_from (P := Try.prog) 22 5 .i64 Try.underlying22 hi0 1 hsz (some ad) l.length c ((at_ : Int) + 1) (by omega) (by omega)
        rw [show ((at_ : Int) + 1).toNat = at_ + 1 from by omega] at hc1
        have hlt2 : (at_ : Int) < (l.length : Int) := by omega
        obtain ⟨A2, hA2⟩ : ∃ A2, A2 = (if c = at_ + 1 then some ad else (some ad).map (·.add ((at_ + 1) * 1))) := ⟨_, rfl⟩
        rw [← hA2] at hc1
        have HA2 := Lib.hid hA2
        clear hA2
        obtain ⟨m, hm⟩ : ∃ m, l.length - (at_ + 1) = m := ⟨_, rfl⟩
        rw [hm] at hc1
        have hm1 : at_ + 1 + m ≤ l.length := by omega
        have hm2 : l.length ≤ at_ + 1 + m := by omega
        have HM := Lib.hid hm
        clear hm
        rcases (show x ≤ 0 ∨ 78 < x ∨ (1 ≤ x ∧ x < 76) ∨ x = 76 ∨ x = 77 ∨ x = 78 from by omega) with hcl | hcl | hcl | hcl | hcl | hcl
        · have hsh : shape l at_ = some (0, 0) := by
            unfold shape
            rw [HX.out]
            rw [if_neg (by omega), if_neg (by omega), if_neg (by omega), if_neg (by omega)]
          have H3 := H2.out
          rw [hsh] at H3
          obtain ⟨dt, hdt⟩ : ∃ dt, (l.drop (at_ + 1 + 0)).take 0 = dt := ⟨_, rfl⟩
          have H4 : toks l k (at_ + 1 + 0 + 0) (acc ++ [⟨l.getD at_ 0, (l.drop (at_ + 1 + 0)).take 0, at_⟩]) = (r1, r2) := H3
          rw [HX.out, hdt] at H4
          have H5 := Lib.hid H4
          clear H3 H4 hsh H2
          have hdl : dt.length = 0 := by
            rw [← hdt]
            simp <;> omega
          have hF2 : Kd.F (Kd.int .u8) wr (fun k => P0 k ∧ k < w.heap.size) A2 (l.drop (at_ + 1)).length (l.drop (at_ + 1)) := by
            have h9 := Kd.F_cut (c := c) (m := at_ + 1) (Kd.V_F HVV.out) (by omega) hc
            rw [HA2.out]
            exact h9
          have hm3 : (l.drop (at_ + 1)).length = m := by rw [List.length_drop, HM.out]
          have hF3 := Kd.F_mid (lo := 0) (hi := 0 + 0) (c := c - (at_ + 1)) hF2 (by omega) (by omega) (by omega)
          rw [show ((l.drop (at_ + 1)).take (0 + 0)).drop 0 = dt from by rw [List.drop_take, List.drop_drop, ← hdt] <;> (congr 1 <;> omega), hdl] at hF3
          have hc2 := cut_mid (P := Try.prog) 22 5 .i64 .i64 Try.underlying22 hi0 1 hsz A2 m (c - (at_ + 1)) 0 0 (by omega) (by omega) (by omega) (by omega)
          rw [show (0 : Int).toNat - (0 : Int).toNat = 0 from by omega, show (0 : Int).toNat = 0 from rfl] at hc2
          obtain ⟨A3, hA3⟩ : ∃ A3, A3 = (if c - (at_ + 1) = 0 then A2 else A2.map (·.add (0 * 1))) := ⟨_, rfl⟩
          rw [← hA3] at hc2
          have hF4 : Kd.FK kT wr (fun k => P0 k ∧ k < w.heap.size) (⟨x, dt, at_⟩ : T) [.int .i64 x, .slice A3 0 (c - (at_ + 1) - 0), .int .i64 at_] := by
            have h9 := kT_mkF wr (fun k => P0 k ∧ k < w.heap.size) (⟨x, dt, at_⟩ : T) (A1 := A3) (c1 := c - (at_ + 1) - 0) (show dt.length ≤ c - (at_ + 1) - 0 by omega) (by rw [hA3]; show Kd.F _ _ _ _ dt.length dt; rw [hdl]; exact hF3)
            rw [show (⟨x, dt, at_⟩ : T).data.length = 0 from hdl] at h9
            exact h9
          have HF4 := Lib.hid hF4
          clear hF4 hF3 hF2 hA3 hdl hdt hm3
          go_wp2_with (first | ((with_reducible refine gate_builtin (b := .append) (xs := #[.tmp 59, .tmp 69]) rfl ?_); at_builtin; refine Kd.N_append kT (w0 := w) w.heap.size rfl (.tmp 59) (.tmp 69) 23 27 (.agg #[.int .i64 0, .slice none 0 0, .int .i64 0]) 40 rfl Try.underlying23 info_T rfl (by decide) (by omega) u2 acc (⟨x, dt, at_⟩ : T) [.int .i64 x, .slice A3 0 (c - (at_ + 1) - 0), .int .i64 at_] (fun k => P0 k ∨ w.heap.size ≤ k) (fun k => P0 k ∧ k < w.heap.size) rfl rfl ?aP ?aK ?aF ?aO ?aB ?aS ?aL ?_; (case aP => exact HF4.out); (case aK => exact fun k hk => ⟨.inl hk.1, fun he => Nat.lt_irrefl _ (Nat.lt_of_lt_of_le hk.2 (Kd.N_base HN.out k he.symm))⟩); (case aF => exact fun k hk => .inr (Nat.le_trans HW.out.size hk)); (case aO => exact HN.out); (case aB => exact HW.out); (case aS => exact HW.out.size); (case aL => omega); intro v1 w1 ho hb _ _; have HN1 := Lib.hid ho; have HW1 := Lib.hid hb; clear ho hb))
          go_roundg k
          case measure => omega
          case rel => exact ⟨at_ + 1 + 0 + 0, acc ++ [⟨x, dt, at_⟩], by go_num, by omega, by omega, by simp; omega, H5, HN1, HW1⟩
        · have hsh : shape l at_ = some (0, 0) := by
            unfold shape
            rw [HX.out]
            rw [if_neg (by omega), if_neg (by omega), if_neg (by omega), if_neg (by omega)]
          have H3 := H2.out
          rw [hsh] at H3
          obtain ⟨dt, hdt⟩ : ∃ dt, (l.drop (at_ + 1 + 0)).take 0 = dt := ⟨_, rfl⟩
          have H4 : toks l k (at_ + 1 + 0 + 0) (acc ++ [⟨l.getD at_ 0, (l.drop (at_ + 1 + 0)).take 0, at_⟩]) = (r1, r2) := H3
          rw [HX.out, hdt] at H4
          have H5 := Lib.hid H4
          clear H3 H4 hsh H2
          have hdl : dt.length = 0 := by
            rw [← hdt]
            simp <;> omega
          have hF2 : Kd.F (Kd.int .u8) wr (fun k => P0 k ∧ k < w.heap.size) A2 (l.drop (at_ + 1)).length (l.drop (at_ + 1)) := by
            have h9 := Kd.F_cut (c := c) (m := at_ + 1) (Kd.V_F HVV.out) (by omega) hc
            rw [HA2.out]
            exact h9
          have hm3 : (l.drop (at_ + 1)).length = m := by rw [List.length_drop, HM.out]
          have hF3 := Kd.F_mid (lo := 0) (hi := 0 + 0) (c := c - (at_ + 1)) hF2 (by omega) (by omega) (by omega)
          rw [show ((l.drop (at_ + 1)).take (0 + 0)).drop 0 = dt from by rw [List.drop_take, List.drop_drop, ← hdt] <;> (congr 1 <;> omega), hdl] at hF3
          have hc2 := cut_mid (P := Try.prog) 22 5 .i64 .i64 Try.underlying22 hi0 1 hsz A2 m (c - (at_ + 1)) 0 0 (by omega) (by omega) (by omega) (by omega)
          rw [show (0 : Int).toNat - (0 : Int).toNat = 0 from by omega, show (0 : Int).toNat = 0 from rfl] at hc2
          obtain ⟨A3, hA3⟩ : ∃ A3, A3 = (if c - (at_ + 1) = 0 then A2 else A2.map (·.add (0 * 1))) := ⟨_, rfl⟩
          rw [← hA3] at hc2
          have hF4 : Kd.FK kT wr (fun k => P0 k ∧ k < w.heap.size) (⟨x, dt, at_⟩ : T) [.int .i64 x, .slice A3 0 (c - (at_ + 1) - 0), .int .i64 at_] := by
            have h9 := kT_mkF wr (fun k => P0 k ∧ k < w.heap.size) (⟨x, dt, at_⟩ : T) (A1 := A3) (c1 := c - (at_ + 1) - 0) (show dt.length ≤ c - (at_ + 1) - 0 by omega) (by rw [hA3]; show Kd.F _ _ _ _ dt.length dt; rw [hdl]; exact hF3)
            rw [show (⟨x, dt, at_⟩ : T).data.length = 0 from hdl] at h9
            exact h9
          have HF4 := Lib.hid hF4
          clear hF4 hF3 hF2 hA3 hdl hdt hm3
          go_wp2_with (first | ((with_reducible refine gate_builtin (b := .append) (xs := #[.tmp 59, .tmp 69]) rfl ?_); at_builtin; refine Kd.N_append kT (w0 := w) w.heap.size rfl (.tmp 59) (.tmp 69) 23 27 (.agg #[.int .i64 0, .slice none 0 0, .int .i64 0]) 40 rfl Try.underlying23 info_T rfl (by decide) (by omega) u2 acc (⟨x, dt, at_⟩ : T) [.int .i64 x, .slice A3 0 (c - (at_ + 1) - 0), .int .i64 at_] (fun k => P0 k ∨ w.heap.size ≤ k) (fun k => P0 k ∧ k < w.heap.size) rfl rfl ?aP ?aK ?aF ?aO ?aB ?aS ?aL ?_; (case aP => exact HF4.out); (case aK => exact fun k hk => ⟨.inl hk.1, fun he => Nat.lt_irrefl _ (Nat.lt_of_lt_of_le hk.2 (Kd.N_base HN.out k he.symm))⟩); (case aF => exact fun k hk => .inr (Nat.le_trans HW.out.size hk)); (case aO => exact HN.out); (case aB => exact HW.out); (case aS => exact HW.out.size); (case aL => omega); intro v1 w1 ho hb _ _; have HN1 := Lib.hid ho; have HW1 := Lib.hid hb; clear ho hb))
          go_roundg k
          case measure => omega
          case rel => exact ⟨at_ + 1 + 0 + 0, acc ++ [⟨x, dt, at_⟩], by go_num, by omega, by omega, by simp; omega, H5, HN1, HW1⟩
        · obtain ⟨X, rfl⟩ : ∃ X : Nat, x = (X : Int) := ⟨x.toNat, by omega⟩
          by_cases hw2 : X ≤ m
          · have hsh : shape l at_ = some (0, X) := by
              unfold shape
              rw [HX.out]
              rw [if_pos hcl, if_pos (by simp; omega)]
              rfl
            have H3 := H2.out
            rw [hsh] at H3
            obtain ⟨dt, hdt⟩ : ∃ dt, (l.drop (at_ + 1 + 0)).take X = dt := ⟨_, rfl⟩
            have H4 : toks l k (at_ + 1 + 0 + X) (acc ++ [⟨l.getD at_ 0, (l.drop (at_ + 1 + 0)).take X, at_⟩]) = (r1, r2) := H3
            rw [HX.out, hdt] at H4
            have H5 := Lib.hid H4
            clear H3 H4 hsh H2
            have hdl : dt.length = X := by
              rw [← hdt]
              simp <;> omega
            have hF2 : Kd.F (Kd.int .u8) wr (fun k => P0 k ∧ k < w.heap.size) A2 (l.drop (at_ + 1)).length (l.drop (at_ + 1)) := by
              have h9 := Kd.F_cut (c := c) (m := at_ + 1) (Kd.V_F HVV.out) (by omega) hc
              rw [HA2.out]
              exact h9
            have hm3 : (l.drop (at_ + 1)).length = m := by rw [List.length_drop, HM.out]
            have hF3 := Kd.F_mid (lo := 0) (hi := 0 + X) (c := c - (at_ + 1)) hF2 (by omega) (by omega) (by omega)
            rw [show ((l.drop (at_ + 1)).take (0 + X)).drop 0 = dt from by rw [List.drop_take, List.drop_drop, ← hdt] <;> (congr 1 <;> omega), hdl] at hF3
            have hc2 := cut_mid (P := Try.prog) 22 5 .i64 .i64 Try.underlying22 hi0 1 hsz A2 m (c - (at_ + 1)) 0 (X : Int) (by omega) (by omega) (by omega) (by omega)
            rw [show ((X : Int) : Int).toNat - (0 : Int).toNat = X from by omega, show (0 : Int).toNat = 0 from rfl] at hc2
            obtain ⟨A3, hA3⟩ : ∃ A3, A3 = (if c - (at_ + 1) = 0 then A2 else A2.map (·.add (0 * 1))) := ⟨_, rfl⟩
            rw [← hA3] at hc2
            have hF4 : Kd.FK kT wr (fun k => P0 k ∧ k < w.heap.size) (⟨(X : Int), dt, at_⟩ : T) [.int .i64 X, .slice A3 X (c - (at_ + 1) - 0), .int .i64 at_] := by
              have h9 := kT_mkF wr (fun k => P0 k ∧ k < w.heap.size) (⟨(X : Int), dt, at_⟩ : T) (A1 := A3) (c1 := c - (at_ + 1) - 0) (show dt.length ≤ c - (at_ + 1) - 0 by omega) (by rw [hA3]; show Kd.F _ _ _ _ dt.length dt; rw [hdl]; exact hF3)
              rw [show (⟨(X : Int), dt, at_⟩ : T).data.length = X from hdl] at h9
              exact h9
            have HF4 := Lib.hid hF4
            clear hF4 hF3 hF2 hA3 hdl hdt hm3
            go_wp2_with (first | ((with_reducible refine gate_builtin (b := .append) (xs := #[.tmp 59, .tmp 69]) rfl ?_); at_builtin; refine Kd.N_append kT (w0 := w) w.heap.size rfl (.tmp 59) (.tmp 69) 23 27 (.agg #[.int .i64 0, .slice none 0 0, .int .i64 0]) 40 rfl Try.underlying23 info_T rfl (by decide) (by omega) u2 acc (⟨(X : Int), dt, at_⟩ : T) [.int .i64 X, .slice A3 X (c - (at_ + 1) - 0), .int .i64 at_] (fun k => P0 k ∨ w.heap.size ≤ k) (fun k => P0 k ∧ k < w.heap.size) rfl rfl ?aP ?aK ?aF ?aO ?aB ?aS ?aL ?_; (case aP => exact HF4.out); (case aK => exact fun k hk => ⟨.inl hk.1, fun he => Nat.lt_irrefl _ (Nat.lt_of_lt_of_le hk.2 (Kd.N_base HN.out k he.symm))⟩); (case aF => exact fun k hk => .inr (Nat.le_trans HW.out.size hk)); (case aO => exact HN.out); (case aB => exact HW.out); (case aS => exact HW.out.size); (case aL => omega); intro v1 w1 ho hb _ _; have HN1 := Lib.hid ho; have HW1 := Lib.hid hb; clear ho hb))
            go_roundg k
            case measure => omega
            case rel => exact ⟨at_ + 1 + 0 + X, acc ++ [⟨(X : Int), dt, at_⟩], by go_num, by omega, by omega, by simp; omega, H5, HN1, HW1⟩
          · have hsh : shape l at_ = none := by
              unfold shape
              rw [HX.out]
              rw [if_pos hcl, if_neg (by simp; omega)]
            have H3 := H2.out
            rw [hsh] at H3
            obtain ⟨rfl, rfl⟩ := Prod.mk.inj H3
            clear H3 hsh H2
            go_wp2
            go_ret2
            exact ⟨_, rfl, HN.out, HW.out⟩
        · subst hcl
          have hwc : Kd.C (Kd.int .u8) wr A2 m (l.drop (at_ + 1)) := by
            have h9 := Kd.C_drop (Kd.V_reads' HVV.out).2.2 (show at_ + 1 ≤ l.length by omega) hc
            rw [List.length_drop, HM.out] at h9
            rw [HA2.out]
            exact h9
          have HWC := Lib.hid hwc
          have HBD := Lib.hid (HB.out.drop (at_ + 1))
          clear hwc
          by_cases hw1 : m < 1
          · have hsh : shape l at_ = none := by
              unfold shape shapeW
              rw [HX.out]
              rw [if_neg (by omega)]
              simp
              omega
            have H3 := H2.out
            rw [hsh] at H3
            obtain ⟨rfl, rfl⟩ := Prod.mk.inj H3
            clear H3 hsh H2
            go_wp2_with (go_at_call 16; refine (word_calls _ _ _ (l.drop (at_ + 1)) 1 0 false _ HWC.out HBD.out (by omega) (by unfold wordF; rw [if_pos (by rw [List.length_drop]; omega)])).mono ?_; rintro e w' ⟨rfl, rfl⟩)
            go_ret2
            exact ⟨_, rfl, HN.out, HW.out⟩
          · obtain ⟨C, hC⟩ : ∃ C, C = (leV ((l.drop (at_ + 1)).take 1)).toNat := ⟨_, rfl⟩
            have hCi : leV ((l.drop (at_ + 1)).take 1) = (C : Int) := by
              have := leV_nonneg (HBD.out.take 1)
              omega
            have hwf : wordF (l.drop (at_ + 1)) 1 = ((C : Int), true) := by
              unfold wordF
              rw [if_neg (by rw [List.length_drop]; omega), hCi]
            have HWF := Lib.hid hwf
            clear hwf
            by_cases hw2 : C + 1 ≤ m
            · have hsh : shape l at_ = some (1, C) := by
                unfold shape shapeW
                rw [HX.out]
                rw [if_neg (by omega)]
                simp [← hC]
                omega
              clear hC hCi
              have H3 := H2.out
              rw [hsh] at H3
              obtain ⟨dt, hdt⟩ : ∃ dt, (l.drop (at_ + 1 + 1)).take C = dt := ⟨_, rfl⟩
              have H4 : toks l k (at_ + 1 + 1 + C) (acc ++ [⟨l.getD at_ 0, (l.drop (at_ + 1 + 1)).take C, at_⟩]) = (r1, r2) := H3
              rw [HX.out, hdt] at H4
              have H5 := Lib.hid H4
              clear H3 H4 hsh H2
              have hdl : dt.length = C := by
                rw [← hdt]
                simp <;> omega
              have hF2 : Kd.F (Kd.int .u8) wr (fun k => P0 k ∧ k < w.heap.size) A2 (l.drop (at_ + 1)).length (l.drop (at_ + 1)) := by
                have h9 := Kd.F_cut (c := c) (m := at_ + 1) (Kd.V_F HVV.out) (by omega) hc
                rw [HA2.out]
                exact h9
              have hm3 : (l.drop (at_ + 1)).length = m := by rw [List.length_drop, HM.out]
              have hF3 := Kd.F_mid (lo := 1) (hi := 1 + C) (c := c - (at_ + 1)) hF2 (by omega) (by omega) (by omega)
              rw [show ((l.drop (at_ + 1)).take (1 + C)).drop 1 = dt from by rw [List.drop_take, List.drop_drop, ← hdt] <;> (congr 1 <;> omega), hdl] at hF3
              have hc2 := cut_mid (P := Try.prog) 22 5 .i64 .i64 Try.underlying22 hi0 1 hsz A2 m (c - (at_ + 1)) 1 (1 + (C : Int)) (by omega) (by omega) (by omega) (by omega)
              rw [show ((1 + (C : Int)) : Int).toNat - (1 : Int).toNat = C from by omega, show (1 : Int).toNat = 1 from rfl] at hc2
              obtain ⟨A3, hA3⟩ : ∃ A3, A3 = (if c - (at_ + 1) = 1 then A2 else A2.map (·.add (1 * 1))) := ⟨_, rfl⟩
              rw [← hA3] at hc2
              have hF4 : Kd.FK kT wr (fun k => P0 k ∧ k < w.heap.size) (⟨76, dt, at_⟩ : T) [.int .i64 76, .slice A3 C (c - (at_ + 1) - 1), .int .i64 at_] := by
                have h9 := kT_mkF wr (fun k => P0 k ∧ k < w.heap.size) (⟨76, dt, at_⟩ : T) (A1 := A3) (c1 := c - (at_ + 1) - 1) (show dt.length ≤ c - (at_ + 1) - 1 by omega) (by rw [hA3]; show Kd.F _ _ _ _ dt.length dt; rw [hdl]; exact hF3)
                rw [show (⟨76, dt, at_⟩ : T).data.length = C from hdl] at h9
                exact h9
              have HF4 := Lib.hid hF4
              clear hF4 hF3 hF2 hA3 hdl hdt hm3
              go_wp2_with (first | (go_at_call 16; refine (word_calls _ _ _ (l.drop (at_ + 1)) 1 C true _ HWC.out HBD.out (by omega) HWF.out).mono ?_; rintro e w' ⟨rfl, rfl⟩) | ((with_reducible refine gate_builtin (b := .append) (xs := #[.tmp 59, .tmp 69]) rfl ?_); at_builtin; refine Kd.N_append kT (w0 := w) w.heap.size rfl (.tmp 59) (.tmp 69) 23 27 (.agg #[.int .i64 0, .slice none 0 0, .int .i64 0]) 40 rfl Try.underlying23 info_T rfl (by decide) (by omega) u2 acc (⟨76, dt, at_⟩ : T) [.int .i64 76, .slice A3 C (c - (at_ + 1) - 1), .int .i64 at_] (fun k => P0 k ∨ w.heap.size ≤ k) (fun k => P0 k ∧ k < w.heap.size) rfl rfl ?aP ?aK ?aF ?aO ?aB ?aS ?aL ?_; (case aP => exact HF4.out); (case aK => exact fun k hk => ⟨.inl hk.1, fun he => Nat.lt_irrefl _ (Nat.lt_of_lt_of_le hk.2 (Kd.N_base HN.out k he.symm))⟩); (case aF => exact fun k hk => .inr (Nat.le_trans HW.out.size hk)); (case aO => exact HN.out); (case aB => exact HW.out); (case aS => exact HW.out.size); (case aL => omega); intro v1 w1 ho hb _ _; have HN1 := Lib.hid ho; have HW1 := Lib.hid hb; clear ho hb))
              go_roundg k
              case measure => omega
              case rel => exact ⟨at_ + 1 + 1 + C, acc ++ [⟨76, dt, at_⟩], by go_num, by omega, by omega, by simp; omega, H5, HN1, HW1⟩
            · have hsh : shape l at_ = none := by
                unfold shape shapeW
                rw [HX.out]
                rw [if_neg (by omega)]
                simp [← hC]
                omega
              clear hC hCi
              have H3 := H2.out
              rw [hsh] at H3
              obtain ⟨rfl, rfl⟩ := Prod.mk.inj H3
              clear H3 hsh H2
              go_wp2_with (go_at_call 16; refine (word_calls _ _ _ (l.drop (at_ + 1)) 1 C true _ HWC.out HBD.out (by omega) HWF.out).mono ?_; rintro e w' ⟨rfl, rfl⟩)
              go_ret2
              exact ⟨_, rfl, HN.out, HW.out⟩
        · subst hcl
          have hwc : Kd.C (Kd.int .u8) wr A2 m (l.drop (at_ + 1)) := by
            have h9 := Kd.C_drop (Kd.V_reads' HVV.out).2.2 (show at_ + 1 ≤ l.length by omega) hc
            rw [List.length_drop, HM.out] at h9
            rw [HA2.out]
            exact h9
          have HWC := Lib.hid hwc
          have HBD := Lib.hid (HB.out.drop (at_ + 1))
          clear hwc
          by_cases hw1 : m < 2
          · have hsh : shape l at_ = none := by
              unfold shape shapeW
              rw [HX.out]
              rw [if_neg (by omega)]
              simp
              omega
            have H3 := H2.out
            rw [hsh] at H3
            obtain ⟨rfl, rfl⟩ := Prod.mk.inj H3
            clear H3 hsh H2
            go_wp2_with (go_at_call 16; refine (word_calls _ _ _ (l.drop (at_ + 1)) 2 0 false _ HWC.out HBD.out (by omega) (by unfold wordF; rw [if_pos (by rw [List.length_drop]; omega)])).mono ?_; rintro e w' ⟨rfl, rfl⟩)
            go_ret2
            exact ⟨_, rfl, HN.out, HW.out⟩
          · obtain ⟨C, hC⟩ : ∃ C, C = (leV ((l.drop (at_ + 1)).take 2)).toNat := ⟨_, rfl⟩
            have hCi : leV ((l.drop (at_ + 1)).take 2) = (C : Int) := by
              have := leV_nonneg (HBD.out.take 2)
              omega
            have hwf : wordF (l.drop (at_ + 1)) 2 = ((C : Int), true) := by
              unfold wordF
              rw [if_neg (by rw [List.length_drop]; omega), hCi]
            have HWF := Lib.hid hwf
            clear hwf
            by_cases hw2 : C + 2 ≤ m
            · have hsh : shape l at_ = some (2, C) := by
                unfold shape shapeW
                rw [HX.out]
                rw [if_neg (by omega)]
                simp [← hC]
                omega
              clear hC hCi
              have H3 := H2.out
              rw [hsh] at H3
              obtain ⟨dt, hdt⟩ : ∃ dt, (l.drop (at_ + 1 + 2)).take C = dt := ⟨_, rfl⟩
              have H4 : toks l k (at_ + 1 + 2 + C) (acc ++ [⟨l.getD at_ 0, (l.drop (at_ + 1 + 2)).take C, at_⟩]) = (r1, r2) := H3
              rw [HX.out, hdt] at H4
              have H5 := Lib.hid H4
              clear H3 H4 hsh H2
              have hdl : dt.length = C := by
                rw [← hdt]
                simp <;> omega
              have hF2 : Kd.F (Kd.int .u8) wr (fun k => P0 k ∧ k < w.heap.size) A2 (l.drop (at_ + 1)).length (l.drop (at_ + 1)) := by
                have h9 := Kd.F_cut (c := c) (m := at_ + 1) (Kd.V_F HVV.out) (by omega) hc
                rw [HA2.out]
                exact h9
              have hm3 : (l.drop (at_ + 1)).length = m := by rw [List.length_drop, HM.out]
              have hF3 := Kd.F_mid (lo := 2) (hi := 2 + C) (c := c - (at_ + 1)) hF2 (by omega) (by omega) (by omega)
              rw [show ((l.drop (at_ + 1)).take (2 + C)).drop 2 = dt from by rw [List.drop_take, List.drop_drop, ← hdt] <;> (congr 1 <;> omega), hdl] at hF3
              have hc2 := cut_mid (P := Try.prog) 22 5 .i64 .i64 Try.underlying22 hi0 1 hsz A2 m (c - (at_ + 1)) 2 (2 + (C : Int)) (by omega) (by omega) (by omega) (by omega)
              rw [show ((2 + (C : Int)) : Int).toNat - (2 : Int).toNat = C from by omega, show (2 : Int).toNat = 2 from rfl] at hc2
              obtain ⟨A3, hA3⟩ : ∃ A3, A3 = (if c - (at_ + 1) = 2 then A2 else A2.map (·.add (2 * 1))) := ⟨_, rfl⟩
              rw [← hA3] at hc2
              have hF4 : Kd.FK kT wr (fun k => P0 k ∧ k < w.heap.size) (⟨77, dt, at_⟩ : T) [.int .i64 77, .slice A3 C (c - (at_ + 1) - 2), .int .i64 at_] := by
                have h9 := kT_mkF wr (fun k => P0 k ∧ k < w.heap.size) (⟨77, dt, at_⟩ : T) (A1 := A3) (c1 := c - (at_ + 1) - 2) (show dt.length ≤ c - (at_ + 1) - 2 by omega) (by rw [hA3]; show Kd.F _ _ _ _ dt.length dt; rw [hdl]; exact hF3)
                rw [show (⟨77, dt, at_⟩ : T).data.length = C from hdl] at h9
                exact h9
              have HF4 := Lib.hid hF4
              clear hF4 hF3 hF2 hA3 hdl hdt hm3
              go_wp2_with (first | (go_at_call 16; refine (word_calls _ _ _ (l.drop (at_ + 1)) 2 C true _ HWC.out HBD.out (by omega) HWF.out).mono ?_; rintro e w' ⟨rfl, rfl⟩) | ((with_reducible refine gate_builtin (b := .append) (xs := #[.tmp 59, .tmp 69]) rfl ?_); at_builtin; refine Kd.N_append kT (w0 := w) w.heap.size rfl (.tmp 59) (.tmp 69) 23 27 (.agg #[.int .i64 0, .slice none 0 0, .int .i64 0]) 40 rfl Try.underlying23 info_T rfl (by decide) (by omega) u2 acc (⟨77, dt, at_⟩ : T) [.int .i64 77, .slice A3 C (c - (at_ + 1) - 2), .int .i64 at_] (fun k => P0 k ∨ w.heap.size ≤ k) (fun k => P0 k ∧ k < w.heap.size) rfl rfl ?aP ?aK ?aF ?aO ?aB ?aS ?aL ?_; (case aP => exact HF4.out); (case aK => exact fun k hk => ⟨.inl hk.1, fun he => Nat.lt_irrefl _ (Nat.lt_of_lt_of_le hk.2 (Kd.N_base HN.out k he.symm))⟩); (case aF => exact fun k hk => .inr (Nat.le_trans HW.out.size hk)); (case aO => exact HN.out); (case aB => exact HW.out); (case aS => exact HW.out.size); (case aL => omega); intro v1 w1 ho hb _ _; have HN1 := Lib.hid ho; have HW1 := Lib.hid hb; clear ho hb))
              go_roundg k
              case measure => omega
              case rel => exact ⟨at_ + 1 + 2 + C, acc ++ [⟨77, dt, at_⟩], by go_num, by omega, by omega, by simp; omega, H5, HN1, HW1⟩
            · have hsh : shape l at_ = none := by
                unfold shape shapeW
                rw [HX.out]
                rw [if_neg (by omega)]
                simp [← hC]
                omega
              clear hC hCi
              have H3 := H2.out
              rw [hsh] at H3
              obtain ⟨rfl, rfl⟩ := Prod.mk.inj H3
              clear H3 hsh H2
              go_wp2_with (go_at_call 16; refine (word_calls _ _ _ (l.drop (at_ + 1)) 2 C true _ HWC.out HBD.out (by omega) HWF.out).mono ?_; rintro e w' ⟨rfl, rfl⟩)
              go_ret2
              exact ⟨_, rfl, HN.out, HW.out⟩
        · subst hcl
          have hwc : Kd.C (Kd.int .u8) wr A2 m (l.drop (at_ + 1)) := by
            have h9 := Kd.C_drop (Kd.V_reads' HVV.out).2.2 (show at_ + 1 ≤ l.length by omega) hc
            rw [List.length_drop, HM.out] at h9
            rw [HA2.out]
            exact h9
          have HWC := Lib.hid hwc
          have HBD := Lib.hid (HB.out.drop (at_ + 1))
          clear hwc
          by_cases hw1 : m < 4
          · have hsh : shape l at_ = none := by
              unfold shape shapeW
              rw [HX.out]
              rw [if_neg (by omega)]
              simp
              omega
            have H3 := H2.out
            rw [hsh] at H3
            obtain ⟨rfl, rfl⟩ := Prod.mk.inj H3
            clear H3 hsh H2
            go_wp2_with (go_at_call 16; refine (word_calls _ _ _ (l.drop (at_ + 1)) 4 0 false _ HWC.out HBD.out (by omega) (by unfold wordF; rw [if_pos (by rw [List.length_drop]; omega)])).mono ?_; rintro e w' ⟨rfl, rfl⟩)
            go_ret2
            exact ⟨_, rfl, HN.out, HW.out⟩
          · obtain ⟨C, hC⟩ : ∃ C, C = (leV ((l.drop (at_ + 1)).take 4)).toNat := ⟨_, rfl⟩
            have hCi : leV ((l.drop (at_ + 1)).take 4) = (C : Int) := by
              have := leV_nonneg (HBD.out.take 4)
              omega
            have hwf : wordF (l.drop (at_ + 1)) 4 = ((C : Int), true) := by
              unfold wordF
              rw [if_neg (by rw [List.length_drop]; omega), hCi]
            have HWF := Lib.hid hwf
            clear hwf
            by_cases hw2 : C + 4 ≤ m
            · have hsh : shape l at_ = some (4, C) := by
                unfold shape shapeW
                rw [HX.out]
                rw [if_neg (by omega)]
                simp [← hC]
                omega
              clear hC hCi
              have H3 := H2.out
              rw [hsh] at H3
              obtain ⟨dt, hdt⟩ : ∃ dt, (l.drop (at_ + 1 + 4)).take C = dt := ⟨_, rfl⟩
              have H4 : toks l k (at_ + 1 + 4 + C) (acc ++ [⟨l.getD at_ 0, (l.drop (at_ + 1 + 4)).take C, at_⟩]) = (r1, r2) := H3
              rw [HX.out, hdt] at H4
              have H5 := Lib.hid H4
              clear H3 H4 hsh H2
              have hdl : dt.length = C := by
                rw [← hdt]
                simp <;> omega
              have hF2 : Kd.F (Kd.int .u8) wr (fun k => P0 k ∧ k < w.heap.size) A2 (l.drop (at_ + 1)).length (l.drop (at_ + 1)) := by
                have h9 := Kd.F_cut (c := c) (m := at_ + 1) (Kd.V_F HVV.out) (by omega) hc
                rw [HA2.out]
                exact h9
              have hm3 : (l.drop (at_ + 1)).length = m := by rw [List.length_drop, HM.out]
              have hF3 := Kd.F_mid (lo := 4) (hi := 4 + C) (c := c - (at_ + 1)) hF2 (by omega) (by omega) (by omega)
              rw [show ((l.drop (at_ + 1)).take (4 + C)).drop 4 = dt from by rw [List.drop_take, List.drop_drop, ← hdt] <;> (congr 1 <;> omega), hdl] at hF3
              have hc2 := cut_mid (P := Try.prog) 22 5 .i64 .i64 Try.underlying22 hi0 1 hsz A2 m (c - (at_ + 1)) 4 (4 + (C : Int)) (by omega) (by omega) (by omega) (by omega)
              rw [show ((4 + (C : Int)) : Int).toNat - (4 : Int).toNat = C from by omega, show (4 : Int).toNat = 4 from rfl] at hc2
              obtain ⟨A3, hA3⟩ : ∃ A3, A3 = (if c - (at_ + 1) = 4 then A2 else A2.map (·.add (4 * 1))) := ⟨_, rfl⟩
              rw [← hA3] at hc2
              have hF4 : Kd.FK kT wr (fun k => P0 k ∧ k < w.heap.size) (⟨78, dt, at_⟩ : T) [.int .i64 78, .slice A3 C (c - (at_ + 1) - 4), .int .i64 at_] := by
                have h9 := kT_mkF wr (fun k => P0 k ∧ k < w.heap.size) (⟨78, dt, at_⟩ : T) (A1 := A3) (c1 := c - (at_ + 1) - 4) (show dt.length ≤ c - (at_ + 1) - 4 by omega) (by rw [hA3]; show Kd.F _ _ _ _ dt.length dt; rw [hdl]; exact hF3)
                rw [show (⟨78, dt, at_⟩ : T).data.length = C from hdl] at h9
                exact h9
              have HF4 := Lib.hid hF4
              clear hF4 hF3 hF2 hA3 hdl hdt hm3
              go_wp2_with (first | (go_at_call 16; refine (word_calls _ _ _ (l.drop (at_ + 1)) 4 C true _ HWC.out HBD.out (by omega) HWF.out).mono ?_; rintro e w' ⟨rfl, rfl⟩) | ((with_reducible refine gate_builtin (b := .append) (xs := #[.tmp 59, .tmp 69]) rfl ?_); at_builtin; refine Kd.N_append kT (w0 := w) w.heap.size rfl (.tmp 59) (.tmp 69) 23 27 (.agg #[.int .i64 0, .slice none 0 0, .int .i64 0]) 40 rfl Try.underlying23 info_T rfl (by decide) (by omega) u2 acc (⟨78, dt, at_⟩ : T) [.int .i64 78, .slice A3 C (c - (at_ + 1) - 4), .int .i64 at_] (fun k => P0 k ∨ w.heap.size ≤ k) (fun k => P0 k ∧ k < w.heap.size) rfl rfl ?aP ?aK ?aF ?aO ?aB ?aS ?aL ?_; (case aP => exact HF4.out); (case aK => exact fun k hk => ⟨.inl hk.1, fun he => Nat.lt_irrefl _ (Nat.lt_of_lt_of_le hk.2 (Kd.N_base HN.out k he.symm))⟩); (case aF => exact fun k hk => .inr (Nat.le_trans HW.out.size hk)); (case aO => exact HN.out); (case aB => exact HW.out); (case aS => exact HW.out.size); (case aL => omega); intro v1 w1 ho hb _ _; have HN1 := Lib.hid ho; have HW1 := Lib.hid hb; clear ho hb))
              go_roundg k
              case measure => omega
              case rel => exact ⟨at_ + 1 + 4 + C, acc ++ [⟨78, dt, at_⟩], by go_num, by omega, by omega, by simp; omega, H5, HN1, HW1⟩
            · have hsh : shape l at_ = none := by
                unfold shape shapeW
                rw [HX.out]
                rw [if_neg (by omega)]
                simp [← hC]
                omega
              clear hC hCi
              have H3 := H2.out
              rw [hsh] at H3
              obtain ⟨rfl, rfl⟩ := Prod.mk.inj H3
              clear H3 hsh H2
              go_wp2_with (go_at_call 16; refine (word_calls _ _ _ (l.drop (at_ + 1)) 4 C true _ HWC.out HBD.out (by omega) HWF.out).mono ?_; rintro e w' ⟨rfl, rfl⟩)
              go_ret2
              exact ⟨_, rfl, HN.out, HW.out⟩
      · have HT2 : toks l (k + 1) at_ acc = (r1, r2) := HT.out
        rw [toks, if_neg hlt] at HT2
        obtain ⟨rfl, rfl⟩ := Prod.mk.inj HT2
        have hl2 : decide (at_ < l.length) = false := decide_eq_false hlt
        go_wp2
        go_ret2
        exact ⟨_, rfl, HN.out, HW.out⟩
end Go.Proofs.Ytafpmdmmeohmfaa.Tok
