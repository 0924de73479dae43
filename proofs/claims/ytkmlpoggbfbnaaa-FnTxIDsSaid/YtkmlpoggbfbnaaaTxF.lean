/-
  Transactions that stand: their inputs and outputs behind pointers; witnesses as bytes.
-/
import Derived.Test.YtkmlpoggbfbnaaaTxW
namespace Go.Proofs.Ytkmlpoggbfbnaaa.Wire
open Go.RowKit Go.Proofs.YtkmlpoggbfbnaaaW.PrintWords Go.Proofs.YtkmlpoggbfbnaaaW.PrintLast Go.Proofs.Ytkmlpoggbfbnaaa.Reg Go.Proofs.Ytkmlpoggbfbnaaa.Buf Go.Proofs.Ytkmlpoggbfbnaaa.Tx
set_option linter.unusedSimpArgs false
set_option linter.unusedVariables false

theorem take_flat {α : Type} (f : α → List Int) (xs : List α) (z : α) (i : Nat) (h : i < xs.length) : ((xs.take (i + 1)).map f).flatten = ((xs.take i).map f).flatten ++ f (xs.getD i z) := by
  rw [List.take_add_one, List.getElem?_eq_getElem h, List.getD_eq_getElem?_getD, List.getElem?_eq_getElem h]
  simp only [Option.toList_some, List.map_append, List.flatten_append, List.map_cons, List.map_nil, List.flatten_cons, List.flatten_nil, List.append_nil, Option.getD_some]
theorem take_len {α : Type} (f : α → List Int) (xs : List α) (z : α) (i : Nat) (h : i < xs.length) : ((xs.take i).map f).flatten.length + (f (xs.getD i z)).length ≤ (xs.map f).flatten.length := by
  have e : (xs.map f).flatten = ((xs.take (i + 1)).map f).flatten ++ ((xs.drop (i + 1)).map f).flatten := by rw [← List.flatten_append, ← List.map_append, List.take_append_drop]
  rw [e, take_flat f xs z i h, List.length_append, List.length_append]; omega
/-- A pointer that stands leads to a block that stands. -/
theorem FK_ptr_open {α : Type} {T : Nat} {d : Kd α} {w : World} {F : Nat → Prop} {x : α} {cs : List Value} (h : Kd.FK (ptr T d) w F x cs) (hs : 0 < d.sz) : ∃ (g : Nat) (c : Array Value), cs = [.pointer (some ⟨g, 0, none⟩)] ∧ F g ∧ w.heap[g]? = some (.cells c T (0, 0)) ∧ Kd.FK d w F x c.toList := by
  obtain ⟨g, c, rfl, hg, hd⟩ := Kd.FK_now h
  have hF : F g := by
    refine Classical.byContradiction fun hn => ?_
    obtain ⟨W', h1, h2⟩ := Kd.emptied w g
    obtain ⟨g', c', he, hg', hd'⟩ := h W' (fun k hk _ => h1 k (fun e => hn (e ▸ hk)))
    cases he
    have hl : c'.toList.length = d.sz := d.K_len hd'
    have h3 := blk_cell hg' 0
    rw [h2 ⟨g, 0, none⟩ rfl] at h3
    have := Array.getElem?_eq_none_iff.1 h3.symm
    rw [Array.length_toList] at hl
    omega
  refine ⟨g, c, rfl, hF, hg, fun W' hW => ?_⟩
  obtain ⟨g', c', he, hg', hd'⟩ := h W' hW
  cases he
  rw [hW g hF (blk_lt hg), hg] at hg'
  cases hg'
  exact hd'
theorem FK_ti_open {w : World} {F : Nat → Prop} {y : TI} {cs : List Value} (h : Kd.FK kTI w F y cs) : ∃ A1 c1 A2 c2, y.h.length = 32 ∧ cs = tic y A1 c1 A2 c2 ∧ y.s.length ≤ c1 ∧ Kd.F (Kd.int .u8) w F A1 y.s.length y.s ∧ y.w.length ≤ c2 ∧ Kd.F (Kd.slice 5 (Kd.int .u8)) w F A2 y.w.length y.w := by
  obtain ⟨A1, c1, A2, c2, hl, rfl, l1, _, l2, _⟩ := kTI_open (Kd.FK_now h)
  have key : ∀ W', (∀ k, F k → k < w.heap.size → W'.heap[k]? = w.heap[k]?) → (Kd.int .u8).C W' A1 y.s.length y.s ∧ (Kd.slice 5 (Kd.int .u8)).C W' A2 y.w.length y.w := by
    intro W' hW
    obtain ⟨B1, d1, B2, d2, _, he, _, g1, _, g2⟩ := kTI_open (h W' hW)
    have := List.append_cancel_left he
    injection this with e1 this
    injection this with e2 _
    injection e1 with e1 _ _
    injection e2 with e2 _ _
    rw [e1, e2]
    exact ⟨g1, g2⟩
  exact ⟨A1, c1, A2, c2, hl, rfl, l1, fun W' hW => (key W' hW).1, l2, fun W' hW => (key W' hW).2⟩
theorem FK_to_open {w : World} {F : Nat → Prop} {y : PFnTxIDs.S45} {cs : List Value} (h : Kd.FK PFnTxIDs.k45 w F y cs) : ∃ A1 c1, cs = [.int .i64 y.f0, .slice A1 y.f1.length c1] ∧ y.f1.length ≤ c1 ∧ Kd.F (Kd.int .u8) w F A1 y.f1.length y.f1 := by
  obtain ⟨A1, c1, rfl, l1, _⟩ := PFnTxIDs.k45_open (Kd.FK_now h)
  refine ⟨A1, c1, rfl, l1, fun W' hW => ?_⟩
  obtain ⟨B1, d1, he, _, g1⟩ := PFnTxIDs.k45_open (h W' hW)
  injection he with _ he
  injection he with he _
  injection he with he _ _
  rw [he]
  exact g1
/-- An input in a row of pointers that stands. -/
theorem in_at {F : Nat → Prop} {w : World} {A : Option Addr} {n : Nat} {xs : List TI} (h : Kd.F kPI w F A n xs) (i : Int) (h0 : 0 ≤ i) (h1 : i < n) : ∃ (ad : Addr) (g : Nat) (cs : Array Value) (B1 : Option Addr) (d1 : Nat) (B2 : Option Addr) (d2 : Nat), A = some ad ∧ w.cell? (ad.add i.toNat) = some (.pointer (some ⟨g, 0, none⟩)) ∧ TiF F w g (rdT xs i) cs B1 d1 B2 d2 ∧ (rdT xs i).w.length ≤ d2 := by
  obtain ⟨ad, c, e, _, hK, hc, _⟩ := Kd.F_get h zTI i h0 h1
  obtain ⟨g, b, rfl, hF, hg, hd⟩ := FK_ptr_open hK (by decide)
  obtain ⟨B1, d1, B2, d2, hl, hb, l1, f1, l2, f2⟩ := FK_ti_open hd
  have := hc 0 _ rfl
  rw [show i.toNat * kPI.sz + 0 = i.toNat from Nat.mul_one _] at this
  exact ⟨ad, g, b, B1, d1, B2, d2, e, this, ⟨hF, hg, hb, hl, f1, f2, l1⟩, l2⟩
def rdO (l : List PFnTxIDs.S45) (i : Int) : PFnTxIDs.S45 := l.getD i.toNat PFnTxIDs.z45
theorem out_at {F : Nat → Prop} {w : World} {A : Option Addr} {n : Nat} {xs : List PFnTxIDs.S45} (h : Kd.F kPO w F A n xs) (i : Int) (h0 : 0 ≤ i) (h1 : i < n) : ∃ (ad : Addr) (g : Nat) (B1 : Option Addr) (d1 : Nat), A = some ad ∧ w.cell? (ad.add i.toNat) = some (.pointer (some ⟨g, 0, none⟩)) ∧ ToF F w g (rdO xs i) B1 d1 := by
  obtain ⟨ad, c, e, _, hK, hc, _⟩ := Kd.F_get h PFnTxIDs.z45 i h0 h1
  obtain ⟨g, b, rfl, hF, hg, hd⟩ := FK_ptr_open hK (by decide)
  obtain ⟨B1, d1, hb, l1, f1⟩ := FK_to_open hd
  have := hc 0 _ rfl
  rw [show i.toNat * kPO.sz + 0 = i.toNat from Nat.mul_one _] at this
  exact ⟨ad, g, B1, d1, e, this, ⟨hF, by rw [hg, ← Array.toArray_toList (xs := b), hb]; rfl, f1, l1⟩⟩
/-- A transaction of wire's that stands. -/
structure TxF (F : Nat → Prop) (w : World) (g : Nat) (x : TX) (A1 : Option Addr) (c1 : Nat) (A2 : Option Addr) (c2 : Nat) : Prop where
  hF : F g
  blk : w.heap[g]? = some (.cells #[.int .i32 x.v, .slice A1 x.ins.length c1, .slice A2 x.outs.length c2, .int .u32 x.k] 61 (0, 0))
  ins : Kd.F kPI w F A1 x.ins.length x.ins
  outs : Kd.F kPO w F A2 x.outs.length x.outs
theorem TxF.step {F : Nat → Prop} {w w1 : World} {g : Nat} {x : TX} {A1 : Option Addr} {c1 : Nat} {A2 : Option Addr} {c2 : Nat} (h : TxF F w g x A1 c1 A2 c2) (hm : ∀ k, F k → k < w.heap.size → w1.heap[k]? = w.heap[k]?) : TxF F w1 g x A1 c1 A2 c2 :=
  ⟨h.hF, (hm g h.hF (blk_lt h.blk)).trans h.blk, Kd.F_step h.ins hm, Kd.F_step h.outs hm⟩
theorem TxF.tr {F : Nat → Prop} {w w1 : World} {B g : Nat} {x : TX} {A1 : Option Addr} {c1 : Nat} {A2 : Option Addr} {c2 : Nat} (h : TxF F w g x A1 c1 A2 c2) (t : Tr F B w w1) : TxF F w1 g x A1 c1 A2 c2 := h.step (fun k hk _ => t.fr k hk)
theorem TxF.below {F : Nat → Prop} {w w1 : World} {g : Nat} {x : TX} {A1 : Option Addr} {c1 : Nat} {A2 : Option Addr} {c2 : Nat} (h : TxF F w g x A1 c1 A2 c2) (hb : Below w.heap.size w w1) : TxF F w1 g x A1 c1 A2 c2 := h.step (fun k _ hk => hb.block k hk)
/-- What txOf made, stands: in the blocks that it made. -/
theorem Wx.stands {w : World} {base g : Nat} {x : TX} {v1 v2 : Value} (h : Wx w base g x v1 v2) : ∃ A1 c1 A2 c2, TxF (fun k => base ≤ k ∧ k < w.heap.size) w g x A1 c1 A2 c2 := by
  obtain ⟨A1, c1, rfl, _, _⟩ := Kd.R_reads h.ins
  obtain ⟨A2, c2, rfl, _, _⟩ := Kd.R_reads h.outs
  exact ⟨A1, c1, A2, c2, ⟨h.lo, blk_lt h.blk⟩, h.blk, Kd.F_mono (Kd.R_F (Kd.R_bound h.ins)) (fun k hk => ⟨hk.2.1, hk.2.2.1⟩), Kd.F_mono (Kd.R_F (Kd.R_bound h.outs)) (fun k hk => ⟨hk.2.1, hk.2.2.1⟩)⟩

/-- Is there a witness? -/
def hasW (l : List TI) : Bool := l.any (fun y => decide (0 < y.w.length))
set_option maxHeartbeats 8000000 in
set_option maxRecDepth 100000 in
theorem has_calls {F : Nat → Prop} {w : World} {g : Nat} {x : TX} {A1 : Option Addr} {c1 : Nat} {A2 : Option Addr} {c2 : Nat} (h : TxF F w g x A1 c1 A2 c2) (hn : x.ins.length ≤ 2147483647) :
    Calls Try.prog 38 #[.pointer (some ⟨g, 0, none⟩)] w fun e w' => e = .returned (.bool (hasW x.ins)) ∧ Below w.heap.size w w' := by
  have z1 : w.cell? ⟨g, 1, none⟩ = some (.slice A1 x.ins.length c1) := (blk_cell h.blk 1).trans rfl
  have H := Lib.hid h
  have HN := Lib.hid hn
  obtain ⟨b, hb⟩ : ∃ b, hasW x.ins = b := ⟨_, rfl⟩
  have HB := Lib.hid hb
  rw [hb]
  clear h hn hb
  go_enter Try.func38, Try.ntmps38
  go_wp2
  go_loopg [10] (x.ins.length + 1) (fun kq v10 w' => ∃ (i : Nat) (xi : Int), v10 = .int .i64 xi ∧ Hid (xi = (i : Int)) ∧ Hid (i + kq = x.ins.length + 1) ∧ Hid (b = hasW (x.ins.drop i)) ∧ Hid (Below w.heap.size w w'))
  case atStart => exact ⟨0, 0, rfl, Lib.hid rfl, Lib.hid (Nat.zero_add _), Lib.hid HB.out.symm, Lib.hid (Below.refl _ _)⟩
  case round =>
    clear z1
    obtain ⟨i, xi, rfl, HI, HK, HD, HW⟩ := hrel
    by_cases ci : i < x.ins.length
    · have p0 : 0 ≤ xi := by rw [HI.out]; omega
      have q0 : xi < (x.ins.length : Int) := by rw [HI.out]; omega
      obtain ⟨ad, g1, cs, B1, d1, B2, d2, rfl, hp, hT, hl⟩ := in_at (H.out.below HW.out).ins xi p0 q0
      have hw1 : wrap64 (xi + 1) = xi + 1 := by have := HN.out; exact wrap64_id (by omega) (by omega)
      have hdr : hasW (x.ins.drop i) = (decide (0 < (rdT x.ins xi).w.length) || hasW (x.ins.drop (i + 1))) := by
        have e : rdT x.ins xi = x.ins[i] := by rw [rdT, HI.out]; simp [List.getD, List.getElem?_eq_getElem ci]
        rw [List.drop_eq_getElem_cons ci, e]; rfl
      obtain ⟨y, hy⟩ : ∃ y, rdT x.ins xi = y := ⟨_, rfl⟩
      rw [hy] at hT hdr hl
      have z34 : wr.cell? ⟨g1, 34, none⟩ = some (.slice B2 y.w.length d2) := hT.cell 34 _ (tic_34 _ _ _ _ _ hT.hl)
      obtain ⟨m, hm⟩ : ∃ m, y.w.length = m := ⟨_, rfl⟩
      rw [hm] at z34 hdr
      obtain ⟨k1, rfl⟩ : ∃ k1, gk = k1 + 1 := ⟨gk - 1, by have := HK.out; omega⟩
      have pp := eq_true p0
      have qq := eq_true q0
      have qb : decide (xi < (x.ins.length : Int)) = true := decide_eq_true q0
      have HDR := Lib.hid hdr
      have CI := Lib.hid ci
      clear p0 q0 hy hT hdr hl hm ci
      by_cases cm : m = 0
      · subst cm
        go_wp2
        go_roundg k1
        case measure => exact Nat.lt_succ_self _
        case rel => exact ⟨i + 1, xi + 1, (by first | rfl | (simp [hw1]; done)), Lib.hid (by rw [HI.out]; omega), Lib.hid (by have := HK.out; omega), Lib.hid (by rw [HD.out, HDR.out]; rfl), HW⟩
      · have cb : decide (m = 0) = false := decide_eq_false cm
        have cb1 : decide ((m : Int) = 0) = false := decide_eq_false (by omega)
        have cb2 : ((m : Int) == 0) = false := by rw [beq_eq_false_iff_ne]; omega
        have cb3 : ((m : Int) != 0) = true := by rw [bne, cb2]; rfl
        have cb4 : decide ((m : Int) ≠ 0) = true := decide_eq_true (by omega)
        have hbt : b = true := by rw [HD.out, HDR.out, decide_eq_true (by omega), Bool.true_or]
        subst hbt
        clear cm
        go_wp2
        go_ret
        exact ⟨rfl, HW.out⟩
    · have qb : decide (xi < (x.ins.length : Int)) = false := decide_eq_false (by rw [HI.out]; omega)
      have : b = false := by rw [HD.out, List.drop_of_length_le (by omega)]; rfl
      subst this
      clear ci HD HI HK
      go_wp2
      go_ret
      exact ⟨rfl, HW.out⟩

/-- A witness as bytes. -/
def witB (ws : List (List Int)) : List Int := vi ws.length ++ (ws.map vb).flatten
set_option maxHeartbeats 8000000 in
set_option maxRecDepth 100000 in
theorem wit_calls {F : Nat → Prop} {B b s : Nat} {v : Value} {l : List Int} {w : World} (h : St F B b s v l w) (p q : Int) (A : Option Addr) (c : Nat) (ws : List (List Int)) (hw : Kd.F (Kd.slice 5 (Kd.int .u8)) w F A ws.length ws) (hn : ws.length ≤ 2147483647) (hlim : l.length + (witB ws).length + 64 ≤ 6000000) :
    Calls Try.prog 58 #[Wr b, .int .u32 p, .int .i32 q, .slice A ws.length c, .slice (some ⟨s, 0, none⟩) 8 8] w fun e w' => e = .returned .nilIface ∧ ∃ v', St F B b s v' (l ++ witB ws) w' ∧ Tr F B w w' := by
  have H := Lib.hid h
  have HW := Lib.hid hw
  have HL := Lib.hid hlim
  obtain ⟨n, hn1⟩ : ∃ n, ws.length = n := ⟨_, rfl⟩
  have HN := Lib.hid hn1
  have hn2 : (n : Int) ≤ 2147483647 := by omega
  have hw : IntKind.u64.wrap (n : Int) = n := by unfold IntKind.wrap; simp [IntKind.bits, IntKind.signed]; omega
  have hw2 : (n : Int) % 18446744073709551616 = n := by omega
  have HN1 := Lib.hid hn2
  have hwl : (witB ws).length = (vi n).length + ((ws.map vb).flatten).length := by rw [witB, List.length_append, hn1]
  have HWL := Lib.hid hwl
  rw [hn1]
  clear h hlim hn hn1 hn2 hwl
  go_enter Try.func58, Try.ntmps58
  go_wp2_with (go_at_call 55; go_must (refine (vi_calls H.out p (n : Int) (by omega) (by have := HN1.out; omega) (by have := HL.out; have := HWL.out; omega)).mono ?_); rintro e w1 ⟨rfl, v1, h1, t1⟩; have H1 := Lib.hid h1; have T1 := Lib.hid t1; clear h1 t1)
  go_loopg [26] (n + 1) (fun kq v26 w' => ∃ (j : Nat) (xj : Int) (v2 : Value), v26 = .int .i64 xj ∧ Hid (xj = (j : Int)) ∧ Hid (j + kq = n + 1) ∧ Hid (St F B b s v2 (l ++ vi n ++ ((ws.take j).map vb).flatten) w') ∧ Hid (Tr F B w w'))
  case atStart => exact ⟨0, 0, v1, rfl, Lib.hid rfl, Lib.hid (Nat.zero_add _), Lib.hid (by simpa using H1.out), T1⟩
  case round =>
    clear H1 T1
    obtain ⟨j, xj, v2, rfl, HJ, HK, H2, T2⟩ := hrel
    by_cases cj : j < n
    · have p0 : 0 ≤ xj := by rw [HJ.out]; omega
      have q0 : xj < (n : Int) := by rw [HJ.out]; omega
      have hw1 : wrap64 (xj + 1) = xj + 1 := by have := HN1.out; exact wrap64_id (by omega) (by omega)
      obtain ⟨ad, cc, rfl, _, hK, hc, _⟩ := Kd.F_get (Kd.F_step HW.out (fun k hk _ => T2.out.fr k hk)) ([] : List Int) xj p0 (by rw [HN.out]; exact q0)
      have htf := take_flat vb ws ([] : List Int) j (by rw [HN.out]; exact cj)
      have htl := take_len vb ws ([] : List Int) j (by rw [HN.out]; exact cj)
      rw [show xj.toNat = j from by rw [HJ.out]; rfl] at hK
      obtain ⟨d, hd⟩ : ∃ d, ws.getD j [] = d := ⟨_, rfl⟩
      rw [hd] at hK htf htl
      obtain ⟨A2, c2, rfl, l2, f2⟩ := Kd.FK_slice_open hK
      have hcell : wr.cell? (ad.add xj.toNat) = some (.slice A2 d.length c2) := by
        have := hc 0 _ rfl
        rwa [show xj.toNat * (Kd.slice 5 (Kd.int .u8)).sz + 0 = xj.toNat from Nat.mul_one _] at this
      obtain ⟨k1, rfl⟩ : ∃ k1, gk = k1 + 1 := ⟨gk - 1, by have := HK.out; omega⟩
      have pp := eq_true p0
      have qq := eq_true q0
      have qb : decide (xj < (n : Int)) = true := decide_eq_true q0
      have HTF := Lib.hid htf
      have HTL := Lib.hid htl
      have F2 := Lib.hid f2
      have L2 := Lib.hid l2
      clear p0 q0 hK hc htf htl hd l2 f2
      go_wp2_with (go_at_call 62; go_must (refine (vb_calls H2.out p A2 c2 d F2.out L2.out (by have := HL.out; have := HWL.out; have := HTL.out; have : (vb d).length = (vi d.length).length + d.length := (by rw [vb, List.length_append]); rw [List.length_append, List.length_append]; omega)).mono ?_); rintro e w3 ⟨rfl, v3, h3, t3⟩; have H3 := Lib.hid h3; have T3 := Lib.hid (T2.out.trans t3); clear h3 t3)
      go_roundg k1
      case measure => exact Nat.lt_succ_self _
      case rel => exact ⟨j + 1, xj + 1, v3, (by first | rfl | (simp [hw1]; done)), Lib.hid (by rw [HJ.out]; omega), Lib.hid (by have := HK.out; omega), Lib.hid (by rw [HTF.out, ← List.append_assoc]; exact H3.out), T3⟩
    · have qb : decide (xj < (n : Int)) = false := decide_eq_false (by rw [HJ.out]; omega)
      have H3 := Lib.hid (show St F B b s v2 (l ++ witB ws) wr from by have := H2.out; rw [List.take_of_length_le (by rw [HN.out]; omega), List.append_assoc] at this; rw [witB, HN.out]; exact this)
      clear cj HJ HK H2
      go_wp2
      go_ret
      exact ⟨rfl, v2, H3.out, T2.out⟩
end Go.Proofs.Ytkmlpoggbfbnaaa.Wire
