/-
  The reference's reader of bytes: varInt.
-/
import Derived.Test.YtclbkinlgjdojaaDoorRv2
namespace Go.Proofs.YtclbkinlgjdojaaDoor.Rv
open Go.RowKit Go.Proofs.YtclbkinlgjdojaaDoorW.PrintWords Go.Proofs.YtclbkinlgjdojaaDoorW.PrintLast Go.Proofs.YtclbkinlgjdojaaDoor.Reg Go.Proofs.YtclbkinlgjdojaaDoor.Tok
set_option linter.unusedSimpArgs false
set_option linter.unusedVariables false

/-- A number's lowest bytes, the lowest first. -/
def le : Nat → Int → List Int
  | 0, _ => []
  | n + 1, x => x % 256 :: le n (x / 256)
theorem le_len : ∀ (n : Nat) (x : Int), (le n x).length = n
  | 0, _ => rfl
  | n + 1, x => by rw [le, List.length_cons, le_len n]
theorem little_loop (n : Nat) (hn : n ≤ 100) (d : Nat) : ∀ (i k : Nat) (x : Int) (acc : List Int), i + d = n → d + 1 ≤ k → 0 ≤ x → x < 18446744073709551616 → acc.length = i → PFnReadVarInt.spec_little.l0 k x acc (n : Int) (i : Int) = some (acc ++ le d x) := by
  induction d with
  | zero =>
    intro i k x acc h hk h0 h1 ha
    obtain ⟨k, rfl⟩ : ∃ k', k = k' + 1 := ⟨k - 1, by omega⟩
    rw [PFnReadVarInt.spec_little.l0, if_neg (show ¬ (i : Int) < n by omega), le, List.append_nil]
  | succ d ih =>
    intro i k x acc h hk h0 h1 ha
    obtain ⟨k, rfl⟩ : ∃ k', k = k' + 1 := ⟨k - 1, by omega⟩
    have c1 : (i : Int) < n := by omega
    have c2 : acc.length < 140737488355328 := by omega
    have this := ih (i + 1) k (x / 256) (acc ++ [x % 256]) (by omega) (by omega) (by omega) (by omega) (by simp [ha])
    have hw : wrap64 ((i : Int) + 1) = ((i + 1 : Nat) : Int) := by rw [wrap64_id (by omega) (by omega)]; omega
    have e2 : Int.tmod x 256 % 256 = x % 256 := by clear hw; rw [Int.tmod_eq_emod_of_nonneg h0]; omega
    have e1 : IntKind.u64.wrap (Int.tdiv x 256) = x / 256 := by
      clear hw
      rw [Int.tdiv_eq_ediv_of_nonneg h0, u64_id (by omega) (by omega)]
    rw [PFnReadVarInt.spec_little.l0]
    rw [if_pos c1]
    rw [if_pos c2]
    rw [e1, e2, hw, this, le, List.append_assoc]
    rfl
theorem little_eq (n k : Nat) (hn : n ≤ 100) (hk : n + 1 ≤ k) (x : Int) (h0 : 0 ≤ x) (h1 : x < 18446744073709551616) : PFnReadVarInt.spec_little.f k x (n : Int) = some (le n x) := by
  have := little_loop n hn n 0 k x [] (by omega) hk h0 h1 rfl
  simpa [PFnReadVarInt.spec_little.f] using this
/-- The first byte of a number of variable length. -/
def vfst (v : Int) : Int := if v < 253 then v else if v < 65536 then 253 else if v < 4294967296 then 254 else 255
theorem varint_fst (v : Int) (h0 : 0 ≤ v) (h1 : v < 18446744073709551616) : ∃ r, PFnReadVarInt.spec_VarInt.f 9 v = some (vfst v :: r) := by
  unfold PFnReadVarInt.spec_VarInt.f vfst
  have l2 := little_eq 2 9 (by omega) (by omega) v h0 h1
  have l4 := little_eq 4 9 (by omega) (by omega) v h0 h1
  have l8 := little_eq 8 9 (by omega) (by omega) v h0 h1
  by_cases c1 : v < 253
  · rw [if_pos c1, if_pos c1, show v % 256 = v by omega]; exact ⟨_, rfl⟩
  · rw [if_neg c1, if_neg c1]
    by_cases c2 : v < 65536
    · rw [if_pos c2, if_pos c2]
      exact ⟨le 2 v, by
        show ((PFnReadVarInt.spec_little.f 9 v ((2 : Nat) : Int)).bind fun t110 => if [(253 : Int)].length + t110.length < 140737488355328 then some ([253] ++ t110) else none) = _
        rw [l2]; show (if [(253 : Int)].length + (le 2 v).length < 140737488355328 then some ([253] ++ le 2 v) else none) = _
        rw [if_pos (by simp [le_len])]; rfl⟩
    · rw [if_neg c2, if_neg c2]
      by_cases c3 : v < 4294967296
      · rw [if_pos c3, if_pos c3]
        exact ⟨le 4 v, by
          show ((PFnReadVarInt.spec_little.f 9 v ((4 : Nat) : Int)).bind fun t110 => if [(254 : Int)].length + t110.length < 140737488355328 then some ([254] ++ t110) else none) = _
          rw [l4]; show (if [(254 : Int)].length + (le 4 v).length < 140737488355328 then some ([254] ++ le 4 v) else none) = _
          rw [if_pos (by simp [le_len])]; rfl⟩
      · rw [if_neg c3, if_neg c3]
        exact ⟨le 8 v, by
          show ((PFnReadVarInt.spec_little.f 9 v ((8 : Nat) : Int)).bind fun t110 => if [(255 : Int)].length + t110.length < 140737488355328 then some ([255] ++ t110) else none) = _
          rw [l8]; show (if [(255 : Int)].length + (le 8 v).length < 140737488355328 then some ([255] ++ le 8 v) else none) = _
          rw [if_pos (by simp [le_len])]; rfl⟩
/-- A number behind its first byte: k bytes, no less than lo. -/
def big (k : Nat) (lo : Int) (t : List Int) : Option (Int × Int) := if t.length < k ∨ leV (t.take k) < lo then none else some (leV (t.take k), (k : Int) + 1)
/-- What the reference's reader answers. -/
def VOut (g : Nat) (A : Option Addr) (n c : Nat) : Option (Int × Int) → Ending → World → Prop
  | none, e, w => (∃ v, e = .returned (.int .u64 v)) ∧ ∃ p, Wr w g A n c p true
  | some (v, u), e, w => e = .returned (.int .u64 v) ∧ Wr w g A n c u false
set_option maxHeartbeats 8000000 in
set_option maxRecDepth 100000 in
theorem vi_nil (g : Nat) (A : Option Addr) (c : Nat) (w : World) (h : Wr w g A 0 c 0 false) :
    Calls Tryd.prog 6 #[.pointer (some ⟨g, 0, none⟩)] w fun e w' => (∃ v, e = .returned (.int .u64 v)) ∧ (∃ p, Wr w' g A 0 c p true) ∧ Below g w w' := by
  have H1 := Lib.hid (lit_bad g A 0 c 0 1 w h ⟨Int.le_refl _, Int.le_refl _⟩ (by decide) (by decide) (by decide))
  clear h
  go_enter Tryd.func6, Tryd.ntmps6
  go_wp2_with (go_at_call 11; go_must ((with_reducible refine H1.out.mono ?_); rintro e w1 ⟨rfl, hW, hB⟩; have HW := Lib.hid hW; have HB := Lib.hid hB; clear hW hB))
  go_ret
  exact ⟨⟨_, rfl⟩, ⟨_, HW.out⟩, HB.out⟩
set_option maxHeartbeats 8000000 in
set_option maxRecDepth 100000 in
theorem vi_small (g : Nat) (A : Option Addr) (c : Nat) (d : Int) (t : List Int) (w : World) (h : Wr w g A (d :: t).length c 0 false) (hC : ∀ W, Below g w W → Kd.C (Kd.int .u8) W A (d :: t).length (d :: t)) (hc : (d :: t).length ≤ c) (hcm : c ≤ 9223372036854775807) (hn : (d :: t).length ≤ 100000) (hne : ∀ ad, A = some ad → ad.block ≠ g) (hb : Bytes (d :: t)) (hd : d < 253) :
    Calls Tryd.prog 6 #[.pointer (some ⟨g, 0, none⟩)] w fun e w' => e = .returned (.int .u64 d) ∧ Wr w' g A (d :: t).length c 1 false ∧ Below g w w' := by
  have H1 := lit_ok g A c (d :: t) 0 1 w h (hC w (Below.refl _ _)) hc hcm (Int.le_refl _) hn (by decide) (by simp; omega) hne hb
  rw [show leV (((d :: t).drop (0 : Int).toNat).take (1 : Int).toNat) = d by simp [leV]] at H1
  have H1 := Lib.hid H1
  have e1 : (d == 253) = false := by rw [beq_eq_false_iff_ne]; omega
  have e2 : (d == 254) = false := by rw [beq_eq_false_iff_ne]; omega
  have e3 : (d == 255) = false := by rw [beq_eq_false_iff_ne]; omega
  clear h hC hc hcm hn hne hb hd
  go_enter Tryd.func6, Tryd.ntmps6
  go_wp2_with (go_at_call 11; go_must ((with_reducible refine H1.out.mono ?_); rintro e w1 ⟨rfl, hW, hB⟩; have HW := Lib.hid hW; have HB := Lib.hid hB; clear hW hB))
  go_ret
  exact ⟨rfl, HW.out, HB.out⟩
set_option maxHeartbeats 8000000 in
set_option maxRecDepth 100000 in
theorem vi_253 (g : Nat) (A : Option Addr) (c : Nat) (t : List Int) (w : World) (h : Wr w g A ((253 : Int) :: t).length c 0 false) (hC : ∀ W, Below g w W → Kd.C (Kd.int .u8) W A ((253 : Int) :: t).length (253 :: t)) (hc : ((253 : Int) :: t).length ≤ c) (hcm : c ≤ 9223372036854775807) (hn : ((253 : Int) :: t).length ≤ 100000) (hne : ∀ ad, A = some ad → ad.block ≠ g) (hb : Bytes (253 :: t)) :
    Calls Tryd.prog 6 #[.pointer (some ⟨g, 0, none⟩)] w fun e w' => VOut g A ((253 : Int) :: t).length c (big 2 253 t) e w' ∧ Below g w w' := by
  have H1 := lit_ok g A c (253 :: t) 0 1 w h (hC w (Below.refl _ _)) hc hcm (Int.le_refl _) hn (by decide) (by simp; omega) hne hb
  rw [show leV ((((253 : Int) :: t).drop (0 : Int).toNat).take (1 : Int).toNat) = 253 by simp [leV]] at H1
  have H1 := Lib.hid H1
  have HLN := Lib.hid (show ((253 : Int) :: t).length = t.length + 1 from rfl)
  by_cases cs : t.length < 2
  · rw [show big 2 253 t = none from if_pos (.inl cs)]
    have H2 := Lib.hid (show ∀ W, Wr W g A ((253 : Int) :: t).length c (0 + 1) false → Calls Tryd.prog 11 #[.pointer (some ⟨g, 0, none⟩), .int .i64 2] W fun e w' => e = .returned (.int .u64 0) ∧ Wr w' g A ((253 : Int) :: t).length c (0 + 1) true ∧ Below g W w' from fun W hW => lit_bad g A _ c (0 + 1) 2 W hW (by have := HLN.out; omega) hn (by decide) (by have := HLN.out; omega))
    obtain ⟨n, hnn⟩ : ∃ n, ((253 : Int) :: t).length = n := ⟨_, rfl⟩
    rw [hnn] at H1 H2 ⊢
    clear h hC hc hcm hn hne hb hnn cs
    go_enter Tryd.func6, Tryd.ntmps6
    go_wp2_with (first
      | (go_at_call 11; (with_reducible refine H1.out.mono ?_); rintro e w1 ⟨rfl, hW, hB⟩; have HW := Lib.hid hW; have HB := Lib.hid hB; clear hW hB)
      | (go_at_call 11; (with_reducible refine (H2.out _ HW.out).mono ?_); rintro e w2 ⟨rfl, hW, hB⟩; have HW2 := Lib.hid hW; have HB2 := Lib.hid (HB.out.trans hB); have z2 := (blk_cell hW 2).trans rfl; clear hW hB))
    go_ret
    exact ⟨⟨⟨_, rfl⟩, ⟨_, HW2.out⟩⟩, HB2.out⟩
  · obtain ⟨v, hv⟩ : ∃ v, leV (t.take 2) = v := ⟨_, rfl⟩
    have htb : Bytes (t.take 2) := bytes_take (fun x hx => hb x (List.mem_cons_of_mem _ hx)) _
    have hv0 : 0 ≤ v := by rw [← hv]; exact leV_nonneg htb
    have hv1 : v < 65536 := by
      rw [← hv]
      have := leV_lt htb
      rw [List.length_take, Nat.min_eq_left (by omega)] at this
      exact this
    have H2 := Lib.hid (show ∀ W, Wr W g A ((253 : Int) :: t).length c (0 + 1) false → Below g w W → Calls Tryd.prog 11 #[.pointer (some ⟨g, 0, none⟩), .int .i64 2] W fun e w' => e = .returned (.int .u64 v) ∧ Wr w' g A ((253 : Int) :: t).length c (0 + 1 + 2) false ∧ Below g W w' from fun W hW hB => by
      have := lit_ok g A c (253 :: t) (0 + 1) 2 W hW (hC W hB) hc hcm (by decide) hn (by decide) (by have := HLN.out; omega) hne hb
      rwa [show leV ((((253 : Int) :: t).drop (0 + 1 : Int).toNat).take (2 : Int).toNat) = v from hv] at this)
    obtain ⟨r, hr⟩ := varint_fst v hv0 (by omega)
    obtain ⟨x, hx⟩ : ∃ x, vfst v = x := ⟨_, rfl⟩
    rw [hx] at hr
    have HV := Lib.hid (show ∀ W, Calls Tryd.prog 12 #[.int .u64 v] W fun e w' => ∃ A1 c1, e = .returned (.slice A1 (r.length + 1) c1) ∧ (∃ ad, A1 = some ad ∧ w'.cell? ad = some (.int .u8 x)) ∧ Below W.heap.size W w' from fun W => (PFnReadVarInt.spec_VarInt.calls 9 v _ W hr).mono fun e w' hh => by
      obtain ⟨v0, rfl, hR, hB⟩ := hh
      obtain ⟨A1, c1, rfl, _, hC1⟩ := Kd.R_reads hR
      obtain ⟨ad, rfl, hy⟩ := Kd.at_int hC1 0 (Int.le_refl _) (by simp <;> omega)
      refine ⟨_, _, rfl, ⟨ad, rfl, ?_⟩, hB⟩
      have e0 : ad.add (0 : Int).toNat = ad := by simp [Addr.add]
      rw [e0] at hy
      exact hy)
    have HGW := Lib.hid (blk_lt h)
    by_cases cl : v < 253
    · rw [show big 2 253 t = none from if_pos (.inr (by rw [hv]; exact cl))]
      have hxe : (x == 253) = false := by rw [beq_eq_false_iff_ne, ← hx, vfst]; split <;> (try split) <;> (try split) <;> omega
      obtain ⟨n, hnn⟩ : ∃ n, ((253 : Int) :: t).length = n := ⟨_, rfl⟩
      rw [hnn] at H1 H2 ⊢
      clear h hC hc hcm hn hne hb hnn cs cl hx hr hv htb hv0 hv1
      go_enter Tryd.func6, Tryd.ntmps6
      go_wp2_with (first
        | (go_at_call 11; (with_reducible refine H1.out.mono ?_); rintro e w1 ⟨rfl, hW, hB⟩; have HW := Lib.hid hW; have HB := Lib.hid hB; clear hW hB)
        | (go_at_call 11; (with_reducible refine (H2.out _ HW.out HB.out).mono ?_); rintro e w2 ⟨rfl, hW, hB⟩; have HW2 := Lib.hid hW; have HB2 := Lib.hid (HB.out.trans hB); have z2 := (blk_cell hW 2).trans rfl; clear hW hB)
        | (go_at_call 12; go_must ((with_reducible refine (HV.out _).mono ?_); rintro e w3 ⟨A1, c1, rfl, ⟨ad, rfl, y0⟩, hB⟩; have hW3 := blk_below HW2.out hB; have HW3 := Lib.hid hW3; have HB3 := Lib.hid (HB2.out.trans (below_low (Nat.le_of_lt (blk_lt HW2.out)) hB)); have f2 := blk_frozen hW3 2; have z3 := (blk_cell hW3 2).trans rfl; clear hW3 hB z2)))
      go_ret
      exact ⟨⟨⟨_, rfl⟩, ⟨_, blk_set HW3.out 2 _⟩⟩, HB3.out.setCell (Nat.le_refl _) _⟩
    · rw [show big 2 253 t = some (v, 0 + 1 + 2) from by rw [big, if_neg (by rw [hv]; omega), hv]; rfl]
      have hxe : (x == 253) = true := by rw [beq_iff_eq, ← hx, vfst]; split <;> (try split) <;> (try split) <;> omega
      rw [beq_iff_eq] at hxe
      subst hxe
      obtain ⟨n, hnn⟩ : ∃ n, ((253 : Int) :: t).length = n := ⟨_, rfl⟩
      rw [hnn] at H1 H2 ⊢
      clear h hC hc hcm hn hne hb hnn cs cl hx hr hv htb hv0 hv1
      go_enter Tryd.func6, Tryd.ntmps6
      go_wp2_with (first
        | (go_at_call 11; (with_reducible refine H1.out.mono ?_); rintro e w1 ⟨rfl, hW, hB⟩; have HW := Lib.hid hW; have HB := Lib.hid hB; clear hW hB)
        | (go_at_call 11; (with_reducible refine (H2.out _ HW.out HB.out).mono ?_); rintro e w2 ⟨rfl, hW, hB⟩; have HW2 := Lib.hid hW; have HB2 := Lib.hid (HB.out.trans hB); have z2 := (blk_cell hW 2).trans rfl; clear hW hB)
        | (go_at_call 12; go_must ((with_reducible refine (HV.out _).mono ?_); rintro e w3 ⟨A1, c1, rfl, ⟨ad, rfl, y0⟩, hB⟩; have HW3 := Lib.hid (blk_below HW2.out hB); have HB3 := Lib.hid (HB2.out.trans (below_low (Nat.le_of_lt (blk_lt HW2.out)) hB)); clear hB z2)))
      go_ret
      exact ⟨⟨rfl, HW3.out⟩, HB3.out⟩
set_option maxHeartbeats 8000000 in
set_option maxRecDepth 100000 in
theorem vi_254 (g : Nat) (A : Option Addr) (c : Nat) (t : List Int) (w : World) (h : Wr w g A ((254 : Int) :: t).length c 0 false) (hC : ∀ W, Below g w W → Kd.C (Kd.int .u8) W A ((254 : Int) :: t).length (254 :: t)) (hc : ((254 : Int) :: t).length ≤ c) (hcm : c ≤ 9223372036854775807) (hn : ((254 : Int) :: t).length ≤ 100000) (hne : ∀ ad, A = some ad → ad.block ≠ g) (hb : Bytes (254 :: t)) :
    Calls Tryd.prog 6 #[.pointer (some ⟨g, 0, none⟩)] w fun e w' => VOut g A ((254 : Int) :: t).length c (big 4 65536 t) e w' ∧ Below g w w' := by
  have H1 := lit_ok g A c (254 :: t) 0 1 w h (hC w (Below.refl _ _)) hc hcm (Int.le_refl _) hn (by decide) (by simp; omega) hne hb
  rw [show leV ((((254 : Int) :: t).drop (0 : Int).toNat).take (1 : Int).toNat) = 254 by simp [leV]] at H1
  have H1 := Lib.hid H1
  have HLN := Lib.hid (show ((254 : Int) :: t).length = t.length + 1 from rfl)
  by_cases cs : t.length < 4
  · rw [show big 4 65536 t = none from if_pos (.inl cs)]
    have H2 := Lib.hid (show ∀ W, Wr W g A ((254 : Int) :: t).length c (0 + 1) false → Calls Tryd.prog 11 #[.pointer (some ⟨g, 0, none⟩), .int .i64 4] W fun e w' => e = .returned (.int .u64 0) ∧ Wr w' g A ((254 : Int) :: t).length c (0 + 1) true ∧ Below g W w' from fun W hW => lit_bad g A _ c (0 + 1) 4 W hW (by have := HLN.out; omega) hn (by decide) (by have := HLN.out; omega))
    obtain ⟨n, hnn⟩ : ∃ n, ((254 : Int) :: t).length = n := ⟨_, rfl⟩
    rw [hnn] at H1 H2 ⊢
    clear h hC hc hcm hn hne hb hnn cs
    go_enter Tryd.func6, Tryd.ntmps6
    go_wp2_with (first
      | (go_at_call 11; (with_reducible refine H1.out.mono ?_); rintro e w1 ⟨rfl, hW, hB⟩; have HW := Lib.hid hW; have HB := Lib.hid hB; clear hW hB)
      | (go_at_call 11; (with_reducible refine (H2.out _ HW.out).mono ?_); rintro e w2 ⟨rfl, hW, hB⟩; have HW2 := Lib.hid hW; have HB2 := Lib.hid (HB.out.trans hB); have z2 := (blk_cell hW 2).trans rfl; clear hW hB))
    go_ret
    exact ⟨⟨⟨_, rfl⟩, ⟨_, HW2.out⟩⟩, HB2.out⟩
  · obtain ⟨v, hv⟩ : ∃ v, leV (t.take 4) = v := ⟨_, rfl⟩
    have htb : Bytes (t.take 4) := bytes_take (fun x hx => hb x (List.mem_cons_of_mem _ hx)) _
    have hv0 : 0 ≤ v := by rw [← hv]; exact leV_nonneg htb
    have hv1 : v < 4294967296 := by
      rw [← hv]
      have := leV_lt htb
      rw [List.length_take, Nat.min_eq_left (by omega)] at this
      exact this
    have H2 := Lib.hid (show ∀ W, Wr W g A ((254 : Int) :: t).length c (0 + 1) false → Below g w W → Calls Tryd.prog 11 #[.pointer (some ⟨g, 0, none⟩), .int .i64 4] W fun e w' => e = .returned (.int .u64 v) ∧ Wr w' g A ((254 : Int) :: t).length c (0 + 1 + 4) false ∧ Below g W w' from fun W hW hB => by
      have := lit_ok g A c (254 :: t) (0 + 1) 4 W hW (hC W hB) hc hcm (by decide) hn (by decide) (by have := HLN.out; omega) hne hb
      rwa [show leV ((((254 : Int) :: t).drop (0 + 1 : Int).toNat).take (4 : Int).toNat) = v from hv] at this)
    obtain ⟨r, hr⟩ := varint_fst v hv0 (by omega)
    obtain ⟨x, hx⟩ : ∃ x, vfst v = x := ⟨_, rfl⟩
    rw [hx] at hr
    have HV := Lib.hid (show ∀ W, Calls Tryd.prog 12 #[.int .u64 v] W fun e w' => ∃ A1 c1, e = .returned (.slice A1 (r.length + 1) c1) ∧ (∃ ad, A1 = some ad ∧ w'.cell? ad = some (.int .u8 x)) ∧ Below W.heap.size W w' from fun W => (PFnReadVarInt.spec_VarInt.calls 9 v _ W hr).mono fun e w' hh => by
      obtain ⟨v0, rfl, hR, hB⟩ := hh
      obtain ⟨A1, c1, rfl, _, hC1⟩ := Kd.R_reads hR
      obtain ⟨ad, rfl, hy⟩ := Kd.at_int hC1 0 (Int.le_refl _) (by simp <;> omega)
      refine ⟨_, _, rfl, ⟨ad, rfl, ?_⟩, hB⟩
      have e0 : ad.add (0 : Int).toNat = ad := by simp [Addr.add]
      rw [e0] at hy
      exact hy)
    have HGW := Lib.hid (blk_lt h)
    by_cases cl : v < 65536
    · rw [show big 4 65536 t = none from if_pos (.inr (by rw [hv]; exact cl))]
      have hxe : (x == 254) = false := by rw [beq_eq_false_iff_ne, ← hx, vfst]; split <;> (try split) <;> (try split) <;> omega
      obtain ⟨n, hnn⟩ : ∃ n, ((254 : Int) :: t).length = n := ⟨_, rfl⟩
      rw [hnn] at H1 H2 ⊢
      clear h hC hc hcm hn hne hb hnn cs cl hx hr hv htb hv0 hv1
      go_enter Tryd.func6, Tryd.ntmps6
      go_wp2_with (first
        | (go_at_call 11; (with_reducible refine H1.out.mono ?_); rintro e w1 ⟨rfl, hW, hB⟩; have HW := Lib.hid hW; have HB := Lib.hid hB; clear hW hB)
        | (go_at_call 11; (with_reducible refine (H2.out _ HW.out HB.out).mono ?_); rintro e w2 ⟨rfl, hW, hB⟩; have HW2 := Lib.hid hW; have HB2 := Lib.hid (HB.out.trans hB); have z2 := (blk_cell hW 2).trans rfl; clear hW hB)
        | (go_at_call 12; go_must ((with_reducible refine (HV.out _).mono ?_); rintro e w3 ⟨A1, c1, rfl, ⟨ad, rfl, y0⟩, hB⟩; have hW3 := blk_below HW2.out hB; have HW3 := Lib.hid hW3; have HB3 := Lib.hid (HB2.out.trans (below_low (Nat.le_of_lt (blk_lt HW2.out)) hB)); have f2 := blk_frozen hW3 2; have z3 := (blk_cell hW3 2).trans rfl; clear hW3 hB z2)))
      go_ret
      exact ⟨⟨⟨_, rfl⟩, ⟨_, blk_set HW3.out 2 _⟩⟩, HB3.out.setCell (Nat.le_refl _) _⟩
    · rw [show big 4 65536 t = some (v, 0 + 1 + 4) from by rw [big, if_neg (by rw [hv]; omega), hv]; rfl]
      have hxe : (x == 254) = true := by rw [beq_iff_eq, ← hx, vfst]; split <;> (try split) <;> (try split) <;> omega
      rw [beq_iff_eq] at hxe
      subst hxe
      obtain ⟨n, hnn⟩ : ∃ n, ((254 : Int) :: t).length = n := ⟨_, rfl⟩
      rw [hnn] at H1 H2 ⊢
      clear h hC hc hcm hn hne hb hnn cs cl hx hr hv htb hv0 hv1
      go_enter Tryd.func6, Tryd.ntmps6
      go_wp2_with (first
        | (go_at_call 11; (with_reducible refine H1.out.mono ?_); rintro e w1 ⟨rfl, hW, hB⟩; have HW := Lib.hid hW; have HB := Lib.hid hB; clear hW hB)
        | (go_at_call 11; (with_reducible refine (H2.out _ HW.out HB.out).mono ?_); rintro e w2 ⟨rfl, hW, hB⟩; have HW2 := Lib.hid hW; have HB2 := Lib.hid (HB.out.trans hB); have z2 := (blk_cell hW 2).trans rfl; clear hW hB)
        | (go_at_call 12; go_must ((with_reducible refine (HV.out _).mono ?_); rintro e w3 ⟨A1, c1, rfl, ⟨ad, rfl, y0⟩, hB⟩; have HW3 := Lib.hid (blk_below HW2.out hB); have HB3 := Lib.hid (HB2.out.trans (below_low (Nat.le_of_lt (blk_lt HW2.out)) hB)); clear hB z2)))
      go_ret
      exact ⟨⟨rfl, HW3.out⟩, HB3.out⟩
set_option maxHeartbeats 8000000 in
set_option maxRecDepth 100000 in
theorem vi_255 (g : Nat) (A : Option Addr) (c : Nat) (t : List Int) (w : World) (h : Wr w g A ((255 : Int) :: t).length c 0 false) (hC : ∀ W, Below g w W → Kd.C (Kd.int .u8) W A ((255 : Int) :: t).length (255 :: t)) (hc : ((255 : Int) :: t).length ≤ c) (hcm : c ≤ 9223372036854775807) (hn : ((255 : Int) :: t).length ≤ 100000) (hne : ∀ ad, A = some ad → ad.block ≠ g) (hb : Bytes (255 :: t)) :
    Calls Tryd.prog 6 #[.pointer (some ⟨g, 0, none⟩)] w fun e w' => VOut g A ((255 : Int) :: t).length c (big 8 4294967296 t) e w' ∧ Below g w w' := by
  have H1 := lit_ok g A c (255 :: t) 0 1 w h (hC w (Below.refl _ _)) hc hcm (Int.le_refl _) hn (by decide) (by simp; omega) hne hb
  rw [show leV ((((255 : Int) :: t).drop (0 : Int).toNat).take (1 : Int).toNat) = 255 by simp [leV]] at H1
  have H1 := Lib.hid H1
  have HLN := Lib.hid (show ((255 : Int) :: t).length = t.length + 1 from rfl)
  by_cases cs : t.length < 8
  · rw [show big 8 4294967296 t = none from if_pos (.inl cs)]
    have H2 := Lib.hid (show ∀ W, Wr W g A ((255 : Int) :: t).length c (0 + 1) false → Calls Tryd.prog 11 #[.pointer (some ⟨g, 0, none⟩), .int .i64 8] W fun e w' => e = .returned (.int .u64 0) ∧ Wr w' g A ((255 : Int) :: t).length c (0 + 1) true ∧ Below g W w' from fun W hW => lit_bad g A _ c (0 + 1) 8 W hW (by have := HLN.out; omega) hn (by decide) (by have := HLN.out; omega))
    obtain ⟨n, hnn⟩ : ∃ n, ((255 : Int) :: t).length = n := ⟨_, rfl⟩
    rw [hnn] at H1 H2 ⊢
    clear h hC hc hcm hn hne hb hnn cs
    go_enter Tryd.func6, Tryd.ntmps6
    go_wp2_with (first
      | (go_at_call 11; (with_reducible refine H1.out.mono ?_); rintro e w1 ⟨rfl, hW, hB⟩; have HW := Lib.hid hW; have HB := Lib.hid hB; clear hW hB)
      | (go_at_call 11; (with_reducible refine (H2.out _ HW.out).mono ?_); rintro e w2 ⟨rfl, hW, hB⟩; have HW2 := Lib.hid hW; have HB2 := Lib.hid (HB.out.trans hB); have z2 := (blk_cell hW 2).trans rfl; clear hW hB))
    go_ret
    exact ⟨⟨⟨_, rfl⟩, ⟨_, HW2.out⟩⟩, HB2.out⟩
  · obtain ⟨v, hv⟩ : ∃ v, leV (t.take 8) = v := ⟨_, rfl⟩
    have htb : Bytes (t.take 8) := bytes_take (fun x hx => hb x (List.mem_cons_of_mem _ hx)) _
    have hv0 : 0 ≤ v := by rw [← hv]; exact leV_nonneg htb
    have hv1 : v < 18446744073709551616 := by
      rw [← hv]
      have := leV_lt htb
      rw [List.length_take, Nat.min_eq_left (by omega)] at this
      exact this
    have H2 := Lib.hid (show ∀ W, Wr W g A ((255 : Int) :: t).length c (0 + 1) false → Below g w W → Calls Tryd.prog 11 #[.pointer (some ⟨g, 0, none⟩), .int .i64 8] W fun e w' => e = .returned (.int .u64 v) ∧ Wr w' g A ((255 : Int) :: t).length c (0 + 1 + 8) false ∧ Below g W w' from fun W hW hB => by
      have := lit_ok g A c (255 :: t) (0 + 1) 8 W hW (hC W hB) hc hcm (by decide) hn (by decide) (by have := HLN.out; omega) hne hb
      rwa [show leV ((((255 : Int) :: t).drop (0 + 1 : Int).toNat).take (8 : Int).toNat) = v from hv] at this)
    obtain ⟨r, hr⟩ := varint_fst v hv0 (by omega)
    obtain ⟨x, hx⟩ : ∃ x, vfst v = x := ⟨_, rfl⟩
    rw [hx] at hr
    have HV := Lib.hid (show ∀ W, Calls Tryd.prog 12 #[.int .u64 v] W fun e w' => ∃ A1 c1, e = .returned (.slice A1 (r.length + 1) c1) ∧ (∃ ad, A1 = some ad ∧ w'.cell? ad = some (.int .u8 x)) ∧ Below W.heap.size W w' from fun W => (PFnReadVarInt.spec_VarInt.calls 9 v _ W hr).mono fun e w' hh => by
      obtain ⟨v0, rfl, hR, hB⟩ := hh
      obtain ⟨A1, c1, rfl, _, hC1⟩ := Kd.R_reads hR
      obtain ⟨ad, rfl, hy⟩ := Kd.at_int hC1 0 (Int.le_refl _) (by simp <;> omega)
      refine ⟨_, _, rfl, ⟨ad, rfl, ?_⟩, hB⟩
      have e0 : ad.add (0 : Int).toNat = ad := by simp [Addr.add]
      rw [e0] at hy
      exact hy)
    have HGW := Lib.hid (blk_lt h)
    by_cases cl : v < 4294967296
    · rw [show big 8 4294967296 t = none from if_pos (.inr (by rw [hv]; exact cl))]
      have hxe : (x == 255) = false := by rw [beq_eq_false_iff_ne, ← hx, vfst]; split <;> (try split) <;> (try split) <;> omega
      obtain ⟨n, hnn⟩ : ∃ n, ((255 : Int) :: t).length = n := ⟨_, rfl⟩
      rw [hnn] at H1 H2 ⊢
      clear h hC hc hcm hn hne hb hnn cs cl hx hr hv htb hv0 hv1
      go_enter Tryd.func6, Tryd.ntmps6
      go_wp2_with (first
        | (go_at_call 11; (with_reducible refine H1.out.mono ?_); rintro e w1 ⟨rfl, hW, hB⟩; have HW := Lib.hid hW; have HB := Lib.hid hB; clear hW hB)
        | (go_at_call 11; (with_reducible refine (H2.out _ HW.out HB.out).mono ?_); rintro e w2 ⟨rfl, hW, hB⟩; have HW2 := Lib.hid hW; have HB2 := Lib.hid (HB.out.trans hB); have z2 := (blk_cell hW 2).trans rfl; clear hW hB)
        | (go_at_call 12; go_must ((with_reducible refine (HV.out _).mono ?_); rintro e w3 ⟨A1, c1, rfl, ⟨ad, rfl, y0⟩, hB⟩; have hW3 := blk_below HW2.out hB; have HW3 := Lib.hid hW3; have HB3 := Lib.hid (HB2.out.trans (below_low (Nat.le_of_lt (blk_lt HW2.out)) hB)); have f2 := blk_frozen hW3 2; have z3 := (blk_cell hW3 2).trans rfl; clear hW3 hB z2)))
      go_ret
      exact ⟨⟨⟨_, rfl⟩, ⟨_, blk_set HW3.out 2 _⟩⟩, HB3.out.setCell (Nat.le_refl _) _⟩
    · rw [show big 8 4294967296 t = some (v, 0 + 1 + 8) from by rw [big, if_neg (by rw [hv]; omega), hv]; rfl]
      have hxe : (x == 255) = true := by rw [beq_iff_eq, ← hx, vfst]; split <;> (try split) <;> (try split) <;> omega
      rw [beq_iff_eq] at hxe
      subst hxe
      obtain ⟨n, hnn⟩ : ∃ n, ((255 : Int) :: t).length = n := ⟨_, rfl⟩
      rw [hnn] at H1 H2 ⊢
      clear h hC hc hcm hn hne hb hnn cs cl hx hr hv htb hv0 hv1
      go_enter Tryd.func6, Tryd.ntmps6
      go_wp2_with (first
        | (go_at_call 11; (with_reducible refine H1.out.mono ?_); rintro e w1 ⟨rfl, hW, hB⟩; have HW := Lib.hid hW; have HB := Lib.hid hB; clear hW hB)
        | (go_at_call 11; (with_reducible refine (H2.out _ HW.out HB.out).mono ?_); rintro e w2 ⟨rfl, hW, hB⟩; have HW2 := Lib.hid hW; have HB2 := Lib.hid (HB.out.trans hB); have z2 := (blk_cell hW 2).trans rfl; clear hW hB)
        | (go_at_call 12; go_must ((with_reducible refine (HV.out _).mono ?_); rintro e w3 ⟨A1, c1, rfl, ⟨ad, rfl, y0⟩, hB⟩; have HW3 := Lib.hid (blk_below HW2.out hB); have HB3 := Lib.hid (HB2.out.trans (below_low (Nat.le_of_lt (blk_lt HW2.out)) hB)); clear hB z2)))
      go_ret
      exact ⟨⟨rfl, HW3.out⟩, HB3.out⟩
end Go.Proofs.YtclbkinlgjdojaaDoor.Rv
