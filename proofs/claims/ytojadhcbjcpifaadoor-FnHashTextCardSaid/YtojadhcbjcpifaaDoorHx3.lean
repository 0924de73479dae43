/-
  chainhash's reading of a hash: decodeHash.
-/
import Derived.Test.YtojadhcbjcpifaaDoorHx2
namespace Go.Proofs.YtojadhcbjcpifaaDoor.Hx
open Go.RowKit Go.Proofs.YtojadhcbjcpifaaDoorW.PrintWords Go.Proofs.YtojadhcbjcpifaaDoorW.PrintLast Go.Proofs.YtojadhcbjcpifaaDoor.Reg Go.Proofs.YtojadhcbjcpifaaDoor.Tok
set_option linter.unusedSimpArgs false
set_option linter.unusedVariables false

/-- The hash of which i bytes at each end are copied, turned. -/
def dw (r : List Int) (i j : Nat) : Int := if j < i ∨ 32 ≤ i + j then r.getD (31 - j) 0 else 0
theorem dw_step (r : List Int) (i j : Nat) (hi : i < 16) (hj : j < 32) : (if j = 31 - i then r.getD i 0 else if j = i then r.getD (31 - i) 0 else dw r i j) = dw r (i + 1) j := by
  unfold dw
  by_cases c1 : j = 31 - i
  · rw [if_pos c1, if_pos (by omega), c1]; congr 1; omega
  · rw [if_neg c1]
    by_cases c2 : j = i
    · rw [if_pos c2, if_pos (by omega), c2]
    · rw [if_neg c2]
      by_cases c3 : j < i ∨ 32 ≤ i + j
      · rw [if_pos c3, if_pos (by omega)]
      · rw [if_neg c3, if_neg (by omega)]
theorem dw_end (r : List Int) (hl : r.length = 32) (j : Nat) (hj : j < 32) : dw r 16 j = r.reverse.getD j 0 := by
  rw [dw, if_pos (by omega), List.getD_eq_getElem?_getD, List.getD_eq_getElem?_getD, List.getElem?_reverse (by omega), hl]
theorem zero_row (w : World) (t : TypeId) : (w.alloc (.cells #[.int .u8 0, .int .u8 0, .int .u8 0, .int .u8 0, .int .u8 0, .int .u8 0, .int .u8 0, .int .u8 0, .int .u8 0, .int .u8 0, .int .u8 0, .int .u8 0, .int .u8 0, .int .u8 0, .int .u8 0, .int .u8 0, .int .u8 0, .int .u8 0, .int .u8 0, .int .u8 0, .int .u8 0, .int .u8 0, .int .u8 0, .int .u8 0, .int .u8 0, .int .u8 0, .int .u8 0, .int .u8 0, .int .u8 0, .int .u8 0, .int .u8 0, .int .u8 0] t)).rowIs w.heap.size t 32 (fun _ => .int .u8 0) :=
  World.rowIs_alloc w #[.int .u8 0, .int .u8 0, .int .u8 0, .int .u8 0, .int .u8 0, .int .u8 0, .int .u8 0, .int .u8 0, .int .u8 0, .int .u8 0, .int .u8 0, .int .u8 0, .int .u8 0, .int .u8 0, .int .u8 0, .int .u8 0, .int .u8 0, .int .u8 0, .int .u8 0, .int .u8 0, .int .u8 0, .int .u8 0, .int .u8 0, .int .u8 0, .int .u8 0, .int .u8 0, .int .u8 0, .int .u8 0, .int .u8 0, .int .u8 0, .int .u8 0, .int .u8 0] t (fun _ => .int .u8 0) (fun i hi => by
    have : i < 32 := hi
    have e : (#[.int .u8 0, .int .u8 0, .int .u8 0, .int .u8 0, .int .u8 0, .int .u8 0, .int .u8 0, .int .u8 0, .int .u8 0, .int .u8 0, .int .u8 0, .int .u8 0, .int .u8 0, .int .u8 0, .int .u8 0, .int .u8 0, .int .u8 0, .int .u8 0, .int .u8 0, .int .u8 0, .int .u8 0, .int .u8 0, .int .u8 0, .int .u8 0, .int .u8 0, .int .u8 0, .int .u8 0, .int .u8 0, .int .u8 0, .int .u8 0, .int .u8 0, .int .u8 0] : Array Value) = Array.replicate 32 (.int .u8 0) := rfl
    rw [e, Array.getElem?_replicate, if_pos this])
set_option maxHeartbeats 8000000 in
set_option maxRecDepth 100000 in
theorem decHash_calls (B G S cap : Nat) (r : List Int) (w : World) (hBG : B ≤ G) (hBS : B ≤ w.heap.size) (hl : r.length = 32) (hb : Bytes r) (hsrc : ∀ i, i < 64 → w.cell? ⟨S, i, none⟩ = some (.int .u8 ((dgs r).getD i 0))) (hG : w.rowIs G 38 32 (fun _ => .int .u8 0)) :
    Calls Tryd.prog 36 #[.pointer (some ⟨G, 0, none⟩), .slice (some ⟨S, 0, none⟩) 64 cap] w fun e w' => e = .returned .nilIface ∧ w'.rowIs G 38 32 (fun j => .int .u8 (r.reverse.getD j 0)) ∧ Below B w w' := by
  have hsl : S < w.heap.size := World.block_lt_of_cell? w _ (hsrc 0 (by decide))
  obtain ⟨W0, hW0⟩ : ∃ W0, w.alloc (.cells #[.int .u8 0, .int .u8 0, .int .u8 0, .int .u8 0, .int .u8 0, .int .u8 0, .int .u8 0, .int .u8 0, .int .u8 0, .int .u8 0, .int .u8 0, .int .u8 0, .int .u8 0, .int .u8 0, .int .u8 0, .int .u8 0, .int .u8 0, .int .u8 0, .int .u8 0, .int .u8 0, .int .u8 0, .int .u8 0, .int .u8 0, .int .u8 0, .int .u8 0, .int .u8 0, .int .u8 0, .int .u8 0, .int .u8 0, .int .u8 0, .int .u8 0, .int .u8 0] 38) = W0 := ⟨_, rfl⟩
  have hB0 : Below w.heap.size w W0 := hW0 ▸ below_alloc (Below.refl _ _) _
  have hGl : G < w.heap.size := hG.lt
  have HD := Lib.hid (dec_calls w.heap.size 38 S cap r W0 hl hb (fun i hi => (hB0.cell (World.block_lt_of_cell? w _ (hsrc i hi))).trans (hsrc i hi)) (hW0 ▸ zero_row w _) (Nat.ne_of_gt hsl))
  have HG0 := Lib.hid (show W0.rowIs G 38 32 (fun _ => .int .u8 0) from hG.of_block (hB0.block G hGl))
  have HB0 := Lib.hid (show Below B w W0 from ⟨hB0.os, hB0.tape, hB0.output, hB0.size, fun k hk => hB0.block k (Nat.lt_of_lt_of_le hk hBS)⟩)
  have HGL := Lib.hid hGl
  have HBG := Lib.hid hBG
  have HBS := Lib.hid (show B ≤ W0.heap.size from Nat.le_trans hBS hB0.size)
  have HBS0 := Lib.hid hBS
  have HL := Lib.hid hl
  have HDL := Lib.hid (fun w => Tryd.hex_DecodedLen 64 (by decide) (by decide) w)
  have hall := hW0
  clear hsl hB0 hGl hl hb hsrc hG hBG hBS hW0
  go_enter Tryd.func36, Tryd.ntmps36
  go_wp2_with (first
    | (go_at_call 42; go_must ((with_reducible refine (HDL.out _).mono ?_); rintro e w1 ⟨rfl, rfl⟩))
    | (go_at_call 41; go_must ((with_reducible refine HD.out.mono ?_); rintro e w2 ⟨rfl, hE, hg⟩; have HE := Lib.hid hE; have HG2 := Lib.hid (show w2.rowIs G 38 32 (fun _ => .int .u8 0) from HG0.out.of_block (hg.block G HG0.out.lt (by have := HGL.out; simp; omega))); have HB2 := Lib.hid (pw_below_grown HB0.out (some w.heap.size) HBS.out hg (fun k hk => by cases hk; exact HBS0.out)); clear hE hg)))
  go_loopg [8, 9, 25] 17 (fun kq v8 v9 v25 w' => ∃ (i : Nat) (xi : Int), v25 = .int .i64 xi ∧ Hid (xi = (i : Int)) ∧ Hid (i + kq = 17 ∧ i ≤ 16) ∧ Hid (w'.rowIs w.heap.size 38 32 (fun j => .int .u8 (r.getD j 0))) ∧ Hid (w'.rowIs G 38 32 (fun j => .int .u8 (dw r i j))) ∧ Hid (Below B w w'))
  case atStart => exact ⟨0, 0, rfl, Lib.hid rfl, Lib.hid ⟨rfl, Nat.zero_le _⟩, HE, Lib.hid (HG2.out.congr fun j hj => by rw [dw, if_neg (by omega)]), HB2⟩
  case round =>
    clear hall HE HG2 HB2
    obtain ⟨i, xi, rfl, HI, HK, HE, HRW, HB⟩ := hrel
    by_cases ci : i < 16
    · have q0 : xi < 16 := by rw [HI.out]; omega
      have p0 : 0 ≤ xi := by rw [HI.out]; omega
      have qb : decide (xi < 16) = true := decide_eq_true q0
      obtain ⟨k1, rfl⟩ : ∃ k1, gk = k1 + 1 := ⟨gk - 1, by have := HK.out; omega⟩
      obtain ⟨y, hy⟩ : ∃ y, 31 - xi = y := ⟨_, rfl⟩
      have hw1 : wrap64 (xi + 1) = xi + 1 := wrap64_id (by omega) (by omega)
      have hw2 : wrap64 (31 - xi) = y := by rw [hy]; exact wrap64_id (by omega) (by omega)
      have hy0 : 0 ≤ y := by omega
      have hy1 : y < 32 := by omega
      have hx1 : xi < 32 := by omega
      have hxn : xi.toNat = i := by rw [HI.out]; exact Int.toNat_natCast i
      have hyn : y.toNat = 31 - i := by rw [← hy, HI.out]; omega
      have hne : y.toNat ≠ xi.toNat := by rw [hxn, hyn]; omega
      obtain ⟨u, hu⟩ : ∃ u, r.getD i 0 = u := ⟨_, rfl⟩
      obtain ⟨v, hv_⟩ : ∃ v, r.getD (31 - i) 0 = v := ⟨_, rfl⟩
      have ex : wr.cell? ⟨w.heap.size, xi.toNat, none⟩ = some (.int .u8 u) := by rw [hxn, ← hu]; exact HE.out.cell (by omega)
      have EY := Lib.hid (show wr.cell? ⟨w.heap.size, y.toNat, none⟩ = some (.int .u8 v) by rw [hyn, ← hv_]; exact HE.out.cell (by omega))
      have GX := Lib.hid (HRW.out.cell (i := xi.toNat) (by omega))
      have hne2 : (⟨G, xi.toNat, none⟩ : Addr) ≠ ⟨G, y.toNat, none⟩ := fun e => hne (by injection e with _ e2 _; exact e2.symm)
      have C2 := Lib.hid (show (wr.setCell ⟨G, xi.toNat, none⟩ (.int .u8 v)).cell? ⟨G, y.toNat, none⟩ = _ from (World.cell?_setCell_other _ _ _ _ hne2).trans (HRW.out.cell (i := y.toNat) (by omega)))
      have fx := HRW.out.frozen xi.toNat
      have fy := HRW.out.frozen y.toNat
      have HU := Lib.hid hu
      have HV := Lib.hid hv_
      have HXN := Lib.hid hxn
      have HYN := Lib.hid hyn
      clear hu hv_ hxn hyn hy hne hne2
      go_wp2
      refine start_ (n := 16) (S := fun w' => w'.cell? ⟨w.heap.size, y.toNat, none⟩ = some (.int .u8 v)) (ds := [12, 15]) #[false, false, false, false, false, false, false, false, false, false, false, false, false, false, false, false] (by kernel_rfl) rfl rfl (EY.out) (fun hHeld => ?_)
      refine pure_ (i := 0) (N := some 30) (v := ?_) (a' := ?_) #[true, false, false, false, false, false, false, false, false, false, false, false, false, false, false, false] rfl rfl (by kernel_rfl) (fun _ _ _ h => h) (Or.inl ⟨by rfl, ?_⟩) ?_ ?_
      rotate_left
      · intro w'
        go_simp
        with_reducible rfl
      rotate_left
      · simp only [Act.put, List.setIfInBounds_toArray, List.set_cons_zero, List.set_cons_succ, i64_w, i32_w]
        rfl
      refine pure_ (i := 1) (N := some 31) (v := ?_) (a' := ?_) #[true, true, false, false, false, false, false, false, false, false, false, false, false, false, false, false] rfl rfl (by kernel_rfl) (fun _ _ _ h => h) (Or.inl ⟨by rfl, ?_⟩) ?_ ?_
      rotate_left
      · intro w'
        go_simp
        with_reducible rfl
      rotate_left
      · simp only [Act.put, List.setIfInBounds_toArray, List.set_cons_zero, List.set_cons_succ, i64_w, i32_w]
        rfl
      refine pure_ (i := 2) (N := some 32) (v := ?_) (a' := ?_) #[true, true, true, false, false, false, false, false, false, false, false, false, false, false, false, false] rfl rfl (by kernel_rfl) (fun _ _ _ h => h) (Or.inl ⟨by rfl, ?_⟩) ?_ ?_
      rotate_left
      · intro w'
        go_simp
        with_reducible rfl
      rotate_left
      · simp only [Act.put, List.setIfInBounds_toArray, List.set_cons_zero, List.set_cons_succ, i64_w, i32_w]
        rfl
      refine pure_ (i := 3) (N := some 33) (v := ?_) (a' := ?_) #[true, true, true, true, false, false, false, false, false, false, false, false, false, false, false, false] rfl rfl (by kernel_rfl) (fun _ _ _ h => h) (Or.inl ⟨by rfl, ?_⟩) ?_ ?_
      rotate_left
      · intro w'
        go_simp
        with_reducible rfl
      rotate_left
      · simp only [Act.put, List.setIfInBounds_toArray, List.set_cons_zero, List.set_cons_succ, i64_w, i32_w]
        rfl
      refine pure_ (i := 4) (N := some 34) (v := ?_) (a' := ?_) #[true, true, true, true, true, false, false, false, false, false, false, false, false, false, false, false] rfl rfl (by kernel_rfl) (fun _ _ _ h => h) (Or.inl ⟨by rfl, ?_⟩) ?_ ?_
      rotate_left
      · intro w'
        go_simp
        with_reducible rfl
      rotate_left
      · simp only [Act.put, List.setIfInBounds_toArray, List.set_cons_zero, List.set_cons_succ, i64_w, i32_w]
        rfl
      refine pure_ (i := 5) (N := some 35) (v := ?_) (a' := ?_) #[true, true, true, true, true, true, false, false, false, false, false, false, false, false, false, false] rfl rfl (by kernel_rfl) (fun _ _ _ h => h) (Or.inl ⟨by rfl, ?_⟩) ?_ ?_
      rotate_left
      · intro w'
        go_simp
        with_reducible rfl
      rotate_left
      · simp only [Act.put, List.setIfInBounds_toArray, List.set_cons_zero, List.set_cons_succ, i64_w, i32_w]
        rfl
      refine pure_ (i := 6) (N := some 36) (v := ?_) (a' := ?_) #[true, true, true, true, true, true, true, false, false, false, false, false, false, false, false, false] rfl rfl (by kernel_rfl) (fun _ _ _ h => h) (Or.inl ⟨by rfl, ?_⟩) ?_ ?_
      rotate_left
      · intro w'
        go_simp
        with_reducible rfl
      rotate_left
      · simp only [Act.put, List.setIfInBounds_toArray, List.set_cons_zero, List.set_cons_succ, i64_w, i32_w]
        rfl
      refine pure_ (i := 7) (N := some 37) (v := ?_) (a' := ?_) #[true, true, true, true, true, true, true, true, false, false, false, false, false, false, false, false] rfl rfl (by kernel_rfl) (fun _ _ _ h => h) (Or.inl ⟨by rfl, ?_⟩) ?_ ?_
      rotate_left
      · intro w'
        go_simp
        with_reducible rfl
      rotate_left
      · simp only [Act.put, List.setIfInBounds_toArray, List.set_cons_zero, List.set_cons_succ, i64_w, i32_w]
        rfl
      refine pure_ (i := 9) (N := some 39) (v := ?_) (a' := ?_) #[true, true, true, true, true, true, true, true, false, true, false, false, false, false, false, false] rfl rfl (by kernel_rfl) (fun _ _ _ h => h) (Or.inl ⟨by rfl, ?_⟩) ?_ ?_
      rotate_left
      · intro w'
        go_simp
        with_reducible rfl
      rotate_left
      · simp only [Act.put, List.setIfInBounds_toArray, List.set_cons_zero, List.set_cons_succ, i64_w, i32_w]
        rfl
      refine pure_ (i := 10) (N := some 40) (v := ?_) (a' := ?_) #[true, true, true, true, true, true, true, true, false, true, true, false, false, false, false, false] rfl rfl (by kernel_rfl) (fun _ _ _ h => h) (Or.inl ⟨by rfl, ?_⟩) ?_ ?_
      rotate_left
      · intro w'
        go_simp
        with_reducible rfl
      rotate_left
      · simp only [Act.put, List.setIfInBounds_toArray, List.set_cons_zero, List.set_cons_succ, i64_w, i32_w]
        rfl
      refine pure_ (i := 13) (N := some 42) (v := ?_) (a' := ?_) #[true, true, true, true, true, true, true, true, false, true, true, false, false, true, false, false] rfl rfl (by kernel_rfl) (fun _ _ _ h => h) (Or.inl ⟨by rfl, ?_⟩) ?_ ?_
      rotate_left
      · intro w'
        go_simp
        with_reducible rfl
      rotate_left
      · simp only [Act.put, List.setIfInBounds_toArray, List.set_cons_zero, List.set_cons_succ, i64_w, i32_w]
        rfl
      refine take_ (i := 8) (N := some 38) (v := ?_) (a' := ?_) #[true, true, true, true, true, true, true, true, true, true, true, false, false, true, false, false] rfl rfl (by kernel_rfl) (fun _ _ _ h => h) (Or.inl ⟨by rfl, ?_⟩) hHeld ?_ ?_
      rotate_left
      · intro w' s0
        go_simp
        with_reducible rfl
      rotate_left
      · simp only [Act.put, List.setIfInBounds_toArray, List.set_cons_zero, List.set_cons_succ, i64_w, i32_w]
        rfl
      refine pure_ (i := 11) (N := some 41) (v := ?_) (a' := ?_) #[true, true, true, true, true, true, true, true, true, true, true, true, false, true, false, false] rfl rfl (by kernel_rfl) (fun _ _ _ h => h) (Or.inl ⟨by rfl, ?_⟩) ?_ ?_
      rotate_left
      · intro w'
        go_simp
        with_reducible rfl
      rotate_left
      · simp only [Act.put, List.setIfInBounds_toArray, List.set_cons_zero, List.set_cons_succ, i64_w, i32_w]
        rfl
      refine last_ (i := 12) (N := none) #[true, true, true, true, true, true, true, true, true, true, true, true, true, true, false, false] rfl rfl (by kernel_rfl) (by decide) (fun K hK => ?_)
      have cx_ := GX.out
      refine skip_ (w1 := ?_) (by rfl) rfl ?_ ?_
      rotate_left
      · go_simp
        rfl
      refine hK.out _ _ ?_
      clear hK K
      refine pure_ (i := 14) (N := some 43) (v := ?_) (a' := ?_) #[true, true, true, true, true, true, true, true, true, true, true, true, true, true, true, false] rfl rfl (by kernel_rfl) (fun _ _ _ h => h) (Or.inl ⟨by rfl, ?_⟩) ?_ ?_
      rotate_left
      · intro w'
        go_simp
        with_reducible rfl
      rotate_left
      · simp only [Act.put, List.setIfInBounds_toArray, List.set_cons_zero, List.set_cons_succ, i64_w, i32_w]
        rfl
      refine last_ (i := 15) (N := none) #[true, true, true, true, true, true, true, true, true, true, true, true, true, true, true, true] rfl rfl (by kernel_rfl) (by decide) (fun K hK => ?_)
      have c2_ := C2.out
      refine skip_ (w1 := ?_) (by rfl) rfl ?_ ?_
      rotate_left
      · go_simp
        rfl
      refine hK.out _ _ ?_
      clear hK K
      refine done_ (by kernel_rfl) ?_
      go_wp2
      go_roundg k1
      case measure => omega
      case rel =>
        refine ⟨i + 1, xi + 1, rfl, Lib.hid (by rw [HI.out]; omega), Lib.hid (by have := HK.out; omega), Lib.hid ((HE.out.setOther (a := ⟨G, xi.toNat, none⟩) (Nat.ne_of_gt HGL.out) _).setOther (a := ⟨G, y.toNat, none⟩) (Nat.ne_of_gt HGL.out) _).drew, Lib.hid ((((HRW.out.set xi.toNat _).set y.toNat _).drew).congr fun j hj => ?_), Lib.hid (below_drew ((HB.out.setCell (p := ⟨G, xi.toNat, none⟩) HBG.out _).setCell (p := ⟨G, y.toNat, none⟩) HBG.out _))⟩
        have e := dw_step r i j ci hj
        rw [HU.out, HV.out] at e
        rw [HXN.out, HYN.out, ← e]
        split
        · rfl
        · split <;> rfl
    · have qb : decide (xi < 16) = false := decide_eq_false (by rw [HI.out]; omega)
      have EI := Lib.hid (show i = 16 by have := HK.out; omega)
      clear ci
      go_wp2
      go_ret
      exact ⟨rfl, HRW.out.congr fun j hj => by rw [EI.out, dw_end r HL.out j hj], HB.out⟩
end Go.Proofs.YtojadhcbjcpifaaDoor.Hx
