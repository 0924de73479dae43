/-
  spec.reversed, spec.HashText.
-/
import Derived.Test.YtojadhcbjcpifaaDoorHx5
namespace Go.Proofs.YtojadhcbjcpifaaDoor.Hx
open Go.RowKit Go.Proofs.YtojadhcbjcpifaaDoorW.PrintWords Go.Proofs.YtojadhcbjcpifaaDoorW.PrintLast Go.Proofs.YtojadhcbjcpifaaDoor.Reg Go.Proofs.YtojadhcbjcpifaaDoor.Tok
set_option linter.unusedSimpArgs false
set_option linter.unusedVariables false

/-- A row of bytes of this call's own. -/
abbrev Own (w0 w : World) (v : Value) (l : List Int) : Prop := Kd.R (Kd.int .u8) 5 w w0.heap.size (fun _ => True) v l ∧ Below w0.heap.size w0 w
theorem Own.below {w0 w w1 : World} {v : Value} {l : List Int} (h : Own w0 w v l) (hb : Below w.heap.size w w1) : Own w0 w1 v l := ⟨Kd.R_below h.1 hb, below_then h.2 h.2.size hb⟩
section
variable {ops : Array Oper} {Q : Exit → Act → World → Prop} {a : Act} {rest : List Oper} {o : Oper}
/-- append(v, ys...), both bytes. -/
theorem app {w0 W : World} (hgd : o.guard = none) (s x : Operand) (ho : o.op = .call { callee := .builtin .append, args := #[s, x], argTypes := #[22, 22] }) {v : Value} {xs ys : List Int} {A : Option Addr} {c : Nat} {n : Nat} (hs : a.eval s = v) (hx : a.eval x = .slice A n c)
    (HO : Own w0 W v xs) (HR : Kd.C (Kd.int .u8) W A ys.length ys) (hn : ys.length = n) (hl : xs.length + ys.length ≤ 140737488355328)
    (h : ∀ v1 w1, Own w0 w1 v1 (xs ++ ys) → W.grownBy w1 v.ownBlock → wpList Tryd.prog ops Q rest (a.put o.dst v1) w1) : wpList Tryd.prog ops Q (o :: rest) a W := by
  subst hn
  exact Kd.R_append_rows (Kd.int .u8) w0.heap.size hgd s x 22 5 (.int .u8 0) 1 ho Tryd.underlying22 PFnHashText.info5 rfl (by decide) (by decide) v xs ys A ys.length c (fun _ => True) (fun _ => False) hs hx HO.1 HR (fun _ _ h => h) (fun _ h => h.elim) (fun _ _ => trivial) HO.2 HO.2.size (by omega) (fun v1 w1 h1 h2 h3 _ => h v1 w1 ⟨h1, h2⟩ h3)
end
theorem take_rev (h : List Int) (hl : h.length = 32) (m : Nat) (hm : m < 32) : h.reverse.take (m + 1) = h.reverse.take m ++ [h.getD (31 - m) 0] := by
  rw [List.take_add_one, List.getElem?_reverse (by omega), hl, List.getD_eq_getElem?_getD]
  rw [show 32 - 1 - m = 31 - m by omega, List.getElem?_eq_getElem (show 31 - m < h.length by omega)]
  simp
set_option maxHeartbeats 8000000 in
set_option maxRecDepth 100000 in
theorem rev_calls (h : List Int) (w : World) (hl : h.length = 32) :
    Calls Tryd.prog 18 #[.agg (hv h).toArray] w fun e w' => ∃ v, e = .returned v ∧ Own w w' v h.reverse := by
  obtain ⟨W0, hW0⟩ : ∃ W0, w.alloc (.cells (hv h).toArray 28) = W0 := ⟨_, rfl⟩
  have HB0 := Lib.hid (show Below w.heap.size w W0 from hW0 ▸ below_alloc (Below.refl _ _) _)
  have HR0 := Lib.hid (show W0.rowIs w.heap.size 28 32 (fun j => .int .u8 (h.getD j 0)) from hW0 ▸ hv_row w h hl _)
  have HL := Lib.hid hl
  obtain ⟨cs, hcs⟩ : ∃ cs, (hv h).toArray = cs := ⟨_, rfl⟩
  rw [hcs] at hW0 ⊢
  have hall := hW0
  clear hW0 hcs hl
  go_enter Tryd.func18, Tryd.ntmps18
  go_wp2
  go_loopg [3, 4] 33 (fun kq v3 v4 w' => ∃ (m : Nat) (xi : Int), v4 = .int .i64 xi ∧ Hid (xi = 31 - (m : Int)) ∧ Hid (m + kq = 33 ∧ m ≤ 32) ∧ Hid (Own W0 w' v3 (h.reverse.take m)))
  case atStart => exact ⟨0, 31, rfl, Lib.hid rfl, Lib.hid ⟨rfl, Nat.zero_le _⟩, Lib.hid ⟨Kd.R_nil _ _ _ _ _, Below.refl _ _⟩⟩
  case round =>
    clear hall
    obtain ⟨m, xi, rfl, HI, HK, HO⟩ := hrel
    by_cases ci : m < 32
    · have p0 : 0 ≤ xi := by rw [HI.out]; omega
      have p1 : xi < 32 := by rw [HI.out]; omega
      have qb : decide (0 ≤ xi) = true := decide_eq_true p0
      obtain ⟨k1, rfl⟩ : ∃ k1, gk = k1 + 1 := ⟨gk - 1, by have := HK.out; omega⟩
      have hw1 : wrap64 (xi - 1) = xi - 1 := wrap64_id (by omega) (by omega)
      obtain ⟨x, hx⟩ : ∃ x, h.getD (31 - m) 0 = x := ⟨_, rfl⟩
      have cx : wr.cell? ⟨w.heap.size, xi.toNat, none⟩ = some (.int .u8 x) := by
        rw [show xi.toNat = 31 - m by rw [HI.out]; omega, ← hx]
        have := HR0.out.cell (i := 31 - m) (by omega)
        exact (HO.out.2.cell (World.block_lt_of_cell? W0 _ this)).trans this
      have HX := Lib.hid hx
      have HCI := Lib.hid ci
      clear hx ci
      go_wp2_with (first
        | ((with_reducible refine gate_dst (N := 13) rfl ?_); refine Kd.R_lit (Kd.int .u8) _ 5 ?hg (N := 13) ?hd (xs := ([x] : List Int)) (inner := [.int .u8 x]) (ok := fun _ => True) (okp := fun _ => True) ?hr ?hp (fun _ hk => hk) trivial (Below.refl _ _) (Nat.le_refl _) (by simp) ?_; (case hd => rfl); (case hg => rfl); (case hr => first | (go_simp; done) | (go_simp; rfl)); (case hp => exact (Reps.one (show Kd.M (Kd.int .u8) _ _ _ x [.int .u8 x] from rfl) (Reps.none _ _))); intro v1 w_ ho_ hb_ hg_ hnew_; obtain ⟨A1, c1, rfl, _, hC1⟩ := Kd.R_reads ho_; have HC1 := Lib.hid hC1; have n0_ := Lib.hid (HO.out.below hb_); clear HO ho_ hb_ hg_ hnew_ hC1; have HO := n0_; clear n0_)
        | ((with_reducible refine gate_builtin (b := .append) (xs := #[.tmp 9, .tmp 13]) rfl ?_); at_builtin; go_must (refine app (w0 := W0) rfl (.tmp 9) (.tmp 13) rfl rfl rfl HO.out HC1.out rfl (by simp [List.length_take, HL.out]; omega) ?_); intro v_ w_ ho_ _; have n0_ := Lib.hid ho_; clear HO ho_; have HO := n0_; clear n0_))
      go_roundg k1
      case measure => omega
      case rel => exact ⟨m + 1, xi - 1, rfl, Lib.hid (by rw [HI.out]; omega), Lib.hid (by have := HK.out; have := HCI.out; omega), Lib.hid (by rw [take_rev h HL.out m HCI.out, HX.out]; exact HO.out)⟩
    · have qb : decide (0 ≤ xi) = false := decide_eq_false (by rw [HI.out]; omega)
      have EM := Lib.hid (show m = 32 by have := HK.out; omega)
      clear ci
      go_wp2
      go_ret
      have e : h.reverse.take m = h.reverse := by rw [EM.out]; exact List.take_of_length_le (by simp [HL.out])
      exact ⟨_, rfl, by have := HO.out.1; rw [e] at this; exact Kd.R_lower this HB0.out.size, below_step HB0.out HO.out.2⟩
/-- The text of the first bytes. -/
def tx (r : List Int) : ByteArray := ⟨(Lib.Hx.encode (Lib.bytesOf r)).toArray⟩
theorem tx_size (r : List Int) : (tx r).size = 2 * r.length := by
  show (Lib.Hx.encode (Lib.bytesOf r)).toArray.size = _
  rw [List.size_toArray, Lib.Hx.encode_length, Lib.bytesOf_length]
theorem dig_ext (p : Int) (h0 : 0 ≤ p) (h1 : p < 16) : ({ data := #[48, 49, 50, 51, 52, 53, 54, 55, 56, 57, 97, 98, 99, 100, 101, 102] } : ByteArray).extract p.toNat (p + 1).toNat = ⟨#[Lib.Hx.digit p.toNat]⟩ := by
  obtain ⟨n, rfl⟩ := Int.eq_ofNat_of_zero_le h0
  have h : ∀ n : Fin 16, ({ data := #[48, 49, 50, 51, 52, 53, 54, 55, 56, 57, 97, 98, 99, 100, 101, 102] } : ByteArray).extract n.val (n.val + 1) = ⟨#[Lib.Hx.digit n.val]⟩ := by decide +kernel
  exact h ⟨n, by omega⟩
theorem tx_step (r : List Int) (i : Nat) (hi : i < r.length) (b : Int) (hb : r.getD i 0 = b) (hr : 0 ≤ b ∧ b < 256) (p : Int) (hp : b / 16 = p) (q : Int) (hq : b % 16 = q) : tx (r.take (i + 1)) = tx (r.take i) ++ ⟨#[Lib.Hx.digit p.toNat]⟩ ++ ⟨#[Lib.Hx.digit q.toNat]⟩ := by
  have e : Lib.Hx.encode (Lib.bytesOf (r.take (i + 1))) = Lib.Hx.encode (Lib.bytesOf (r.take i)) ++ [Lib.Hx.digit p.toNat, Lib.Hx.digit q.toNat] := by
    rw [List.take_add_one, List.getElem?_eq_getElem hi]
    have hb' : r[i] = b := by rw [← hb, List.getD_eq_getElem?_getD, List.getElem?_eq_getElem hi]; rfl
    rw [hb']
    have h2 : (UInt8.ofNat b.toNat).toNat = b.toNat := Lib.Hx.byte_toNat b hr.1 hr.2
    simp only [Lib.bytesOf, Lib.Hx.encode, Option.toList_some, List.map_append, List.map_cons, List.map_nil, List.flatMap_append, List.flatMap_cons, List.flatMap_nil, List.append_nil, h2]
    rw [show b.toNat / 16 = p.toNat by omega, show b.toNat % 16 = q.toNat by omega]
  apply ByteArray.ext
  show (Lib.Hx.encode (Lib.bytesOf (r.take (i + 1)))).toArray = _
  rw [e]
  simp [tx, ByteArray.data_append]
set_option maxHeartbeats 8000000 in
set_option maxRecDepth 100000 in
theorem stext_calls (h : List Int) (w : World) (hl : h.length = 32) (hb : Bytes h) :
    Calls Tryd.prog 10 #[.agg (hv h).toArray] w fun e w' => e = .returned (.string (txt h)) ∧ Below w.heap.size w w' := by
  obtain ⟨W0, hW0⟩ : ∃ W0, w.alloc (.cells (hv h).toArray 28) = W0 := ⟨_, rfl⟩
  have HB0 := Lib.hid (show Below w.heap.size w W0 from hW0 ▸ below_alloc (Below.refl _ _) _)
  have HS := Lib.hid (rev_calls h W0 hl)
  have HLI := Lib.hid (show Lies W0 ⟨w.heap.size, 0, none⟩ (hv h) from row_lies hl (hW0 ▸ hv_row w h hl _))
  have HVL := Lib.hid (show (hv h).toArray.size = 32 by simp [hv, hl])
  have HT := Lib.hid (show txt h = tx h.reverse from rfl)
  obtain ⟨r, hr⟩ : ∃ r, h.reverse = r := ⟨_, rfl⟩
  have HRL := Lib.hid (show r.length = 32 by rw [← hr, List.length_reverse, hl])
  have HRB := Lib.hid (show Bytes r from fun x hx => hb x (List.mem_reverse.1 (hr ▸ hx)))
  rw [HT.out]
  obtain ⟨cs, hcs⟩ : ∃ cs, hv h = cs := ⟨_, rfl⟩
  rw [hr] at HS ⊢
  rw [hcs] at HS hW0 HLI HVL ⊢
  have hall := hW0
  clear HT hW0 hr hcs hl hb
  go_enter Tryd.func10, Tryd.ntmps10
  go_wp2_with (first
    | (refine wpList_load_list rfl 28 (.tmp 1) rfl ⟨w.heap.size, 0, none⟩ rfl cs _ HLI.out Tryd.underlying28 rfl ?aI ?_; go_must (case aI => rw [← List.size_toArray, HVL.out]; rfl))
    | (go_at_call 18; go_must ((with_reducible refine HS.out.mono ?_); rintro e w1 ⟨v, rfl, hO⟩; obtain ⟨A, c, rfl, _, hC⟩ := Kd.R_reads hO.1; have e32 := HRL.out; have HC := Lib.hid (show Kd.C (Kd.int .u8) w1 A r.length r from hC); rw [HRL.out]; have HB := Lib.hid (below_step HB0.out hO.2); clear hO hC e32)))
  go_loopg [3, 5, 9] 33 (fun kq v3 v5 v9 w' => ∃ (i : Nat) (xi : Int), v9 = .int .i64 xi ∧ v3 = .string (tx (r.take i)) ∧ Hid (xi = (i : Int)) ∧ Hid (i + kq = 33 ∧ i ≤ 32) ∧ Hid (Below w1.heap.size w1 w'))
  case atStart => exact ⟨0, 0, rfl, rfl, Lib.hid rfl, Lib.hid ⟨rfl, Nat.zero_le _⟩, Lib.hid (Below.refl _ _)⟩
  case round =>
    clear hall
    obtain ⟨i, xi, rfl, rfl, HI, HK, HX⟩ := hrel
    by_cases ci : i < 32
    · have p0 : 0 ≤ xi := by rw [HI.out]; omega
      have p1 : xi < 32 := by rw [HI.out]; omega
      have qb : decide (xi < 32) = true := decide_eq_true p1
      obtain ⟨k1, rfl⟩ : ∃ k1, gk = k1 + 1 := ⟨gk - 1, by have := HK.out; omega⟩
      have hw1 : wrap64 (xi + 1) = xi + 1 := wrap64_id (by omega) (by omega)
      obtain ⟨ad, rfl, y0⟩ := Kd.at_int (Kd.C_below HC.out HX.out) xi p0 (by rw [HRL.out]; exact p1)
      obtain ⟨b, hb⟩ : ∃ b, rd r xi = b := ⟨_, rfl⟩
      rw [hb] at y0
      have hbr : 0 ≤ b ∧ b < 256 := by
        rw [← hb, rd, List.getD_eq_getElem?_getD, List.getElem?_eq_getElem (show xi.toNat < r.length by rw [HRL.out]; omega)]
        exact HRB.out _ (List.getElem_mem _)
      have hq := Lib.hid (show IntKind.u8.wrap (Int.tdiv b 16) = b / 16 by rw [Int.tdiv_eq_ediv_of_nonneg hbr.1, IntKind.wrap_u8]; omega)
      have hm := Lib.hid (show Int.tmod b 16 = b % 16 from Int.tmod_eq_emod_of_nonneg hbr.1)
      obtain ⟨p, hp⟩ : ∃ p, b / 16 = p := ⟨_, rfl⟩
      obtain ⟨q, hq_⟩ : ∃ q, b % 16 = q := ⟨_, rfl⟩
      rw [hp] at hq
      rw [hq_] at hm
      have hp0 : 0 ≤ p ∧ p < 16 := by omega
      have hq0 : 0 ≤ q ∧ q < 16 := by omega
      have hw2 : IntKind.u8.wrap (p + 1) = p + 1 := by rw [IntKind.wrap_u8]; omega
      have hw3 : IntKind.u8.wrap (q + 1) = q + 1 := by rw [IntKind.wrap_u8]; omega
      have HBB := Lib.hid hb
      have HP := Lib.hid hp
      have HQ := Lib.hid hq_
      have hq1 := hq.out
      have hm1 := hm.out
      have hp1 := hp0.1
      have hp2 := hp0.2
      have hq2 := hq0.1
      have hq3 := hq0.2
      have hp4 : p ≤ p + 1 := by omega
      have hq4 : q ≤ q + 1 := by omega
      have hp5 : p + 1 ≤ 16 := by omega
      have hq5 : q + 1 ≤ 16 := by omega
      have hd1 := dig_ext p hp0.1 hp0.2
      have hd2 := dig_ext q hq0.1 hq0.2
      obtain ⟨d1, hd1_⟩ : ∃ d1, (⟨#[Lib.Hx.digit p.toNat]⟩ : ByteArray) = d1 := ⟨_, rfl⟩
      obtain ⟨d2, hd2_⟩ : ∃ d2, (⟨#[Lib.Hx.digit q.toNat]⟩ : ByteArray) = d2 := ⟨_, rfl⟩
      rw [hd1_] at hd1
      rw [hd2_] at hd2
      have sz1 : d1.size = 1 := by rw [← hd1_]; rfl
      have sz2 : d2.size = 1 := by rw [← hd2_]; rfl
      obtain ⟨u, hu⟩ : ∃ u, tx (r.take i) = u := ⟨_, rfl⟩
      obtain ⟨u1, hu1⟩ : ∃ u1, u ++ d1 = u1 := ⟨_, rfl⟩
      have szu : u.size ≤ 64 := by rw [← hu, tx_size, List.length_take, HRL.out]; omega
      have szu1 : u1.size = u.size + 1 := by rw [← hu1, ByteArray.size_append, sz1]
      have hs1 : ¬ 9223372036854775807 < u.size + 1 := by omega
      have hs2 : ¬ 9223372036854775807 < u1.size + 1 := by omega
      have HTX := Lib.hid (show tx (r.take (i + 1)) = u1 ++ d2 by
        rw [← hu1, ← hu, ← hd1_, ← hd2_]
        exact tx_step r i (by rw [HRL.out]; exact ci) b (by rw [← hb, rd]; congr 1; rw [HI.out]; rfl) hbr p hp q hq_)
      have HCI := Lib.hid ci
      clear hb hp hq_ hp0 hq0 hd1_ hd2_ szu szu1 ci
      go_wp2
      refine start_ (n := 16) (S := fun w' => True) (ds := []) #[false, false, false, false, false, false, false, false, false, false, false, false, false, false, false, false] (by kernel_rfl) rfl rfl trivial (fun hHeld => ?_)
      refine pure_ (i := 0) (N := some 13) (v := ?_) (a' := ?_) #[true, false, false, false, false, false, false, false, false, false, false, false, false, false, false, false] rfl rfl (by kernel_rfl) (fun _ _ _ h => h) (Or.inl ⟨by rfl, ?_⟩) ?_ ?_
      rotate_left
      · intro w'
        go_simp
        with_reducible rfl
      rotate_left
      · simp only [Act.put, List.setIfInBounds_toArray, List.set_cons_zero, List.set_cons_succ, i64_w, i32_w]
        rfl
      refine pure_ (i := 1) (N := some 14) (v := ?_) (a' := ?_) #[true, true, false, false, false, false, false, false, false, false, false, false, false, false, false, false] rfl rfl (by kernel_rfl) (fun _ _ _ h => h) (Or.inl ⟨by rfl, ?_⟩) ?_ ?_
      rotate_left
      · intro w'
        go_simp
        with_reducible rfl
      rotate_left
      · simp only [Act.put, List.setIfInBounds_toArray, List.set_cons_zero, List.set_cons_succ, i64_w, i32_w]
        rfl
      refine pure_ (i := 2) (N := some 15) (v := ?_) (a' := ?_) #[true, true, true, false, false, false, false, false, false, false, false, false, false, false, false, false] rfl rfl (by kernel_rfl) (fun _ _ _ h => h) (Or.inl ⟨by rfl, ?_⟩) ?_ ?_
      rotate_left
      · intro w'
        go_simp
        with_reducible rfl
      rotate_left
      · simp only [Act.put, List.setIfInBounds_toArray, List.set_cons_zero, List.set_cons_succ, i64_w, i32_w]
        rfl
      refine pure_ (i := 3) (N := some 16) (v := ?_) (a' := ?_) #[true, true, true, true, false, false, false, false, false, false, false, false, false, false, false, false] rfl rfl (by kernel_rfl) (fun _ _ _ h => h) (Or.inl ⟨by rfl, ?_⟩) ?_ ?_
      rotate_left
      · intro w'
        go_simp
        with_reducible rfl
      rotate_left
      · simp only [Act.put, List.setIfInBounds_toArray, List.set_cons_zero, List.set_cons_succ, i64_w, i32_w]
        rfl
      refine pure_ (i := 4) (N := some 17) (v := ?_) (a' := ?_) #[true, true, true, true, true, false, false, false, false, false, false, false, false, false, false, false] rfl rfl (by kernel_rfl) (fun _ _ _ h => h) (Or.inl ⟨by rfl, ?_⟩) ?_ ?_
      rotate_left
      · intro w'
        go_simp
        with_reducible rfl
      rotate_left
      · simp only [Act.put, List.setIfInBounds_toArray, List.set_cons_zero, List.set_cons_succ, i64_w, i32_w]
        rfl
      refine pure_ (i := 5) (N := some 18) (v := ?_) (a' := ?_) #[true, true, true, true, true, true, false, false, false, false, false, false, false, false, false, false] rfl rfl (by kernel_rfl) (fun _ _ _ h => h) (Or.inl ⟨by rfl, ?_⟩) ?_ ?_
      rotate_left
      · intro w'
        go_simp
        with_reducible rfl
      rotate_left
      · simp only [Act.put, List.setIfInBounds_toArray, List.set_cons_zero, List.set_cons_succ, i64_w, i32_w]
        rfl
      refine pure_ (i := 6) (N := some 19) (v := ?_) (a' := ?_) #[true, true, true, true, true, true, true, false, false, false, false, false, false, false, false, false] rfl rfl (by kernel_rfl) (fun _ _ _ h => h) (Or.inl ⟨by rfl, ?_⟩) ?_ ?_
      rotate_left
      · intro w'
        go_simp
        with_reducible rfl
      rotate_left
      · simp only [Act.put, List.setIfInBounds_toArray, List.set_cons_zero, List.set_cons_succ, i64_w, i32_w]
        rfl
      refine pure_ (i := 7) (N := some 20) (v := ?_) (a' := ?_) #[true, true, true, true, true, true, true, true, false, false, false, false, false, false, false, false] rfl rfl (by kernel_rfl) (fun _ _ _ h => h) (Or.inl ⟨by rfl, ?_⟩) ?_ ?_
      rotate_left
      · intro w'
        go_simp
        with_reducible rfl
      rotate_left
      · simp only [Act.put, List.setIfInBounds_toArray, List.set_cons_zero, List.set_cons_succ, i64_w, i32_w]
        rfl
      refine pure_ (i := 8) (N := some 21) (v := ?_) (a' := ?_) #[true, true, true, true, true, true, true, true, true, false, false, false, false, false, false, false] rfl rfl (by kernel_rfl) (fun _ _ _ h => h) (Or.inl ⟨by rfl, ?_⟩) ?_ ?_
      rotate_left
      · intro w'
        go_simp
        with_reducible rfl
      rotate_left
      · simp only [Act.put, List.setIfInBounds_toArray, List.set_cons_zero, List.set_cons_succ, i64_w, i32_w]
        rfl
      refine pure_ (i := 9) (N := some 22) (v := ?_) (a' := ?_) #[true, true, true, true, true, true, true, true, true, true, false, false, false, false, false, false] rfl rfl (by kernel_rfl) (fun _ _ _ h => h) (Or.inl ⟨by rfl, ?_⟩) ?_ ?_
      rotate_left
      · intro w'
        go_simp
        with_reducible rfl
      rotate_left
      · simp only [Act.put, List.setIfInBounds_toArray, List.set_cons_zero, List.set_cons_succ, i64_w, i32_w]
        rfl
      refine pure_ (i := 10) (N := some 23) (v := ?_) (a' := ?_) #[true, true, true, true, true, true, true, true, true, true, true, false, false, false, false, false] rfl rfl (by kernel_rfl) (fun _ _ _ h => h) (Or.inl ⟨by rfl, ?_⟩) ?_ ?_
      rotate_left
      · intro w'
        go_simp
        with_reducible rfl
      rotate_left
      · simp only [Act.put, List.setIfInBounds_toArray, List.set_cons_zero, List.set_cons_succ, i64_w, i32_w]
        rfl
      refine pure_ (i := 11) (N := some 24) (v := ?_) (a' := ?_) #[true, true, true, true, true, true, true, true, true, true, true, true, false, false, false, false] rfl rfl (by kernel_rfl) (fun _ _ _ h => h) (Or.inl ⟨by rfl, ?_⟩) ?_ ?_
      rotate_left
      · intro w'
        go_simp
        with_reducible rfl
      rotate_left
      · simp only [Act.put, List.setIfInBounds_toArray, List.set_cons_zero, List.set_cons_succ, i64_w, i32_w]
        rfl
      refine pure_ (i := 12) (N := some 25) (v := ?_) (a' := ?_) #[true, true, true, true, true, true, true, true, true, true, true, true, true, false, false, false] rfl rfl (by kernel_rfl) (fun _ _ _ h => h) (Or.inl ⟨by rfl, ?_⟩) ?_ ?_
      rotate_left
      · intro w'
        go_simp
        with_reducible rfl
      rotate_left
      · simp only [Act.put, List.setIfInBounds_toArray, List.set_cons_zero, List.set_cons_succ, i64_w, i32_w]
        rfl
      refine pure_ (i := 13) (N := some 26) (v := ?_) (a' := ?_) #[true, true, true, true, true, true, true, true, true, true, true, true, true, true, false, false] rfl rfl (by kernel_rfl) (fun _ _ _ h => h) (Or.inl ⟨by rfl, ?_⟩) ?_ ?_
      rotate_left
      · intro w'
        go_simp
        with_reducible rfl
      rotate_left
      · simp only [Act.put, List.setIfInBounds_toArray, List.set_cons_zero, List.set_cons_succ, i64_w, i32_w]
        rfl
      refine pure_ (i := 14) (N := some 27) (v := ?_) (a' := ?_) #[true, true, true, true, true, true, true, true, true, true, true, true, true, true, true, false] rfl rfl (by kernel_rfl) (fun _ _ _ h => h) (Or.inl ⟨by rfl, ?_⟩) ?_ ?_
      rotate_left
      · intro w'
        go_simp
        with_reducible rfl
      rotate_left
      · simp only [Act.put, List.setIfInBounds_toArray, List.set_cons_zero, List.set_cons_succ, i64_w, i32_w]
        rfl
      refine pure_ (i := 15) (N := some 3) (v := ?_) (a' := ?_) #[true, true, true, true, true, true, true, true, true, true, true, true, true, true, true, true] rfl rfl (by kernel_rfl) (fun _ _ _ h => h) (Or.inl ⟨by rfl, ?_⟩) ?_ ?_
      rotate_left
      · intro w'
        go_simp
        with_reducible rfl
      rotate_left
      · simp only [Act.put, List.setIfInBounds_toArray, List.set_cons_zero, List.set_cons_succ, i64_w, i32_w]
        rfl
      refine done_ (by kernel_rfl) ?_
      go_wp2
      go_roundg k1
      case measure => omega
      case rel => exact ⟨i + 1, xi + 1, rfl, by rw [HTX.out], Lib.hid (by rw [HI.out]; omega), Lib.hid (by have := HK.out; have := HCI.out; omega), Lib.hid (below_drew HX.out)⟩
    · have qb : decide (xi < 32) = false := decide_eq_false (by rw [HI.out]; omega)
      have EI := Lib.hid (show r.take i = r by have := HK.out; exact List.take_of_length_le (by rw [HRL.out]; omega))
      clear ci
      go_wp2
      go_ret
      exact ⟨by rw [EI.out]; rfl, below_step HB.out HX.out⟩
end Go.Proofs.YtojadhcbjcpifaaDoor.Hx
