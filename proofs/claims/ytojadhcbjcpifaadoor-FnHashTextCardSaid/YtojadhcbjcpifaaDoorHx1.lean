/-
  chainhash's text of a hash: String.
-/
import Derived.Test.YtojadhcbjcpifaaDoorReg
import Derived.Test.YtojadhcbjcpifaaDoorTokPure
import Derived.Test.YtojadhcbjcpifaaDoorShelf
import Derived.Test.YtojadhcbjcpifaaDoorPFnHashTextx1
import Derived.Test.YtojadhcbjcpifaaDoorWGuard
import Derived.Deep.DeepMust
import Derived.Deep.OwnRows
import Derived.WalkSpells
namespace Go.Proofs.YtojadhcbjcpifaaDoor.Hx
open Go.RowKit Go.Proofs.YtojadhcbjcpifaaDoorW.PrintWords Go.Proofs.YtojadhcbjcpifaaDoorW.PrintLast Go.Proofs.YtojadhcbjcpifaaDoor.Reg Go.Proofs.YtojadhcbjcpifaaDoor.Tok
set_option linter.unusedSimpArgs false
set_option linter.unusedVariables false

theorem wrap64_id {x : Int} (h0 : -9223372036854775808 ≤ x) (h1 : x ≤ 9223372036854775807) : wrap64 x = x := by unfold wrap64; omega
/-- The cells of a hash. -/
def hv (h : List Int) : List Value := h.map (Value.int .u8)
theorem hv_len (h : List Int) : (hv h).length = h.length := by simp [hv]
/-- A hash of which the first i bytes and the last i have changed places. -/
def sw (h : List Int) (i j : Nat) : Int := if j < i ∨ 32 ≤ i + j then h.getD (31 - j) 0 else h.getD j 0
theorem sw_zero (h : List Int) (j : Nat) (hj : j < 32) : sw h 0 j = h.getD j 0 := by rw [sw, if_neg (by omega)]
theorem sw_step (h : List Int) (i j : Nat) (hi : i < 16) (hj : j < 32) : (if j = 31 - i then h.getD i 0 else if j = i then h.getD (31 - i) 0 else sw h i j) = sw h (i + 1) j := by
  unfold sw
  by_cases c1 : j = 31 - i
  · rw [if_pos c1, if_pos (by omega), c1]; congr 1; omega
  · rw [if_neg c1]
    by_cases c2 : j = i
    · rw [if_pos c2, if_pos (by omega), c2]
    · rw [if_neg c2]
      by_cases c3 : j < i ∨ 32 ≤ i + j
      · rw [if_pos c3, if_pos (by omega)]
      · rw [if_neg c3, if_neg (by omega)]
theorem sw_at1 (h : List Int) (i : Nat) (hi : i < 16) : sw h i i = h.getD i 0 := by rw [sw, if_neg (by omega)]
theorem sw_at2 (h : List Int) (i : Nat) (hi : i < 16) : sw h i (31 - i) = h.getD (31 - i) 0 := by rw [sw, if_neg (by omega)]
theorem sw_end (h : List Int) (hl : h.length = 32) (j : Nat) (hj : j < 32) : sw h 16 j = h.reverse.getD j 0 := by
  rw [sw, if_pos (by omega), List.getD_eq_getElem?_getD, List.getD_eq_getElem?_getD, List.getElem?_reverse (by omega), hl]
/-- The text. -/
def txt (h : List Int) : ByteArray := ⟨(Lib.Hx.encode (Lib.bytesOf h.reverse)).toArray⟩
theorem hv_row (w : World) (h : List Int) (hl : h.length = 32) (t : TypeId) : (w.alloc (.cells (hv h).toArray t)).rowIs w.heap.size t 32 (fun j => .int .u8 (h.getD j 0)) := by
  have := World.rowIs_alloc w (hv h).toArray t (fun j => .int .u8 (h.getD j 0)) (fun i hi => by
    have hi' : i < h.length := by simpa [hv] using hi
    simp [hv, hi', List.getD])
  rwa [show (hv h).toArray.size = 32 by simp [hv, hl]] at this
set_option maxHeartbeats 8000000 in
set_option maxRecDepth 100000 in
theorem string_calls (h : List Int) (w : World) (hl : h.length = 32) (hb : Bytes h) :
    Calls Tryd.prog 16 #[.agg (hv h).toArray] w fun e w' => e = .returned (.string (txt h)) ∧ Below w.heap.size w w' := by
  obtain ⟨W0, hW0⟩ : ∃ W0, w.alloc (.cells (hv h).toArray 38) = W0 := ⟨_, rfl⟩
  have HB0 := Lib.hid (show Below w.heap.size w W0 from hW0 ▸ below_alloc (Below.refl _ _) _)
  have HR0 := Lib.hid (show W0.rowIs w.heap.size 38 32 (fun j => .int .u8 (h.getD j 0)) from hW0 ▸ hv_row w h hl _)
  have HL := Lib.hid hl
  have HBY := Lib.hid hb
  obtain ⟨cs, hcs⟩ : ∃ cs, (hv h).toArray = cs := ⟨_, rfl⟩
  rw [hcs] at hW0 ⊢
  have hall := hW0
  clear hb hl hcs hW0
  go_enter Tryd.func16, Tryd.ntmps16
  go_wp2
  go_loopg [3] 17 (fun kq v3 w' => ∃ (i : Nat) (xi : Int), v3 = .int .i64 xi ∧ Hid (xi = (i : Int)) ∧ Hid (i + kq = 17 ∧ i ≤ 16) ∧ Hid (w'.rowIs w.heap.size 38 32 (fun j => .int .u8 (sw h i j))) ∧ Hid (Below w.heap.size w w'))
  case atStart => exact ⟨0, 0, rfl, Lib.hid rfl, Lib.hid ⟨rfl, Nat.zero_le _⟩, Lib.hid (HR0.out.congr fun j hj => by rw [sw_zero h j hj]), HB0⟩
  case round =>
    clear hall
    obtain ⟨i, xi, rfl, HI, HK, HRW, HB⟩ := hrel
    by_cases ci : i < 16
    · have q0 : xi < 16 := by rw [HI.out]; omega
      have p0 : 0 ≤ xi := by rw [HI.out]; omega
      have qb : decide (xi < 16) = true := decide_eq_true q0
      obtain ⟨k1, rfl⟩ : ∃ k1, gk = k1 + 1 := ⟨gk - 1, by have := HK.out; omega⟩
      obtain ⟨y, hy⟩ : ∃ y, 31 - xi = y := ⟨_, rfl⟩
      have hw1 : wrap64 (xi + 1) = xi + 1 := wrap64_id (by omega) (by omega)
      have hw2 : wrap64 (31 - xi) = y := by rw [hy]; exact wrap64_id (by omega) (by omega)
      have HY := Lib.hid hy
      have hy0 : 0 ≤ y := by omega
      have hy1 : y < 32 := by omega
      have hx1 : xi < 32 := by omega
      have hxn : xi.toNat = i := by rw [HI.out]; exact Int.toNat_natCast i
      have hyn : y.toNat = 31 - i := by rw [← hy, HI.out]; omega
      have hne : y.toNat ≠ xi.toNat := by rw [hxn, hyn]; omega
      obtain ⟨u, hu⟩ : ∃ u, sw h i i = u := ⟨_, rfl⟩
      obtain ⟨v, hv_⟩ : ∃ v, sw h i (31 - i) = v := ⟨_, rfl⟩
      have cx : wr.cell? ⟨w.heap.size, xi.toNat, none⟩ = some (.int .u8 u) := by rw [hxn, ← hu]; exact HRW.out.cell (by omega)
      have cy : wr.cell? ⟨w.heap.size, y.toNat, none⟩ = some (.int .u8 v) := by rw [hyn, ← hv_]; exact HRW.out.cell (by omega)
      have FX := Lib.hid (HRW.out.frozen xi.toNat)
      have FY := Lib.hid (HRW.out.frozen y.toNat)
      have CX := Lib.hid cx
      have CY := Lib.hid cy
      have HU := Lib.hid hu
      have HV := Lib.hid hv_
      have HXN := Lib.hid hxn
      have HYN := Lib.hid hyn
      clear hu hv_ hxn hyn hy cx cy
      go_wp2
      have fx := FX.out
      have hne2 : (⟨w.heap.size, xi.toNat, none⟩ : Addr) ≠ ⟨w.heap.size, y.toNat, none⟩ := fun e => hne (by injection e with _ e2 _; exact e2.symm)
      have c2 : (wr.setCell ⟨w.heap.size, xi.toNat, none⟩ (.int .u8 v)).cell? ⟨w.heap.size, y.toNat, none⟩ = some (.int .u8 v) := (World.cell?_setCell_other _ _ _ _ hne2).trans CY.out
      have f2 : wr.frozen? ⟨w.heap.size, y.toNat, none⟩ = false := FY.out
      have C2 := Lib.hid c2
      have F2 := Lib.hid f2
      clear c2 f2 hne hne2
      refine start_ (n := 14) (S := fun w' => w'.cell? ⟨w.heap.size, xi.toNat, none⟩ = some (.int .u8 u) ∧ w'.cell? ⟨w.heap.size, y.toNat, none⟩ = some (.int .u8 v)) (ds := [11, 13]) #[false, false, false, false, false, false, false, false, false, false, false, false, false, false] (by kernel_rfl) rfl rfl ⟨CX.out, CY.out⟩ (fun hHeld => ?_)
      refine pure_ (i := 0) (N := some 8) (v := ?_) (a' := ?_) #[true, false, false, false, false, false, false, false, false, false, false, false, false, false] rfl rfl (by kernel_rfl) (fun _ _ _ h => h) (Or.inl ⟨by rfl, ?_⟩) ?_ ?_
      rotate_left
      · intro w'
        go_simp
        with_reducible rfl
      rotate_left
      · simp only [Act.put, List.setIfInBounds_toArray, List.set_cons_zero, List.set_cons_succ, i64_w, i32_w]
        rfl
      refine pure_ (i := 1) (N := some 9) (v := ?_) (a' := ?_) #[true, true, false, false, false, false, false, false, false, false, false, false, false, false] rfl rfl (by kernel_rfl) (fun _ _ _ h => h) (Or.inl ⟨by rfl, ?_⟩) ?_ ?_
      rotate_left
      · intro w'
        go_simp
        with_reducible rfl
      rotate_left
      · simp only [Act.put, List.setIfInBounds_toArray, List.set_cons_zero, List.set_cons_succ, i64_w, i32_w]
        rfl
      refine pure_ (i := 2) (N := some 10) (v := ?_) (a' := ?_) #[true, true, true, false, false, false, false, false, false, false, false, false, false, false] rfl rfl (by kernel_rfl) (fun _ _ _ h => h) (Or.inl ⟨by rfl, ?_⟩) ?_ ?_
      rotate_left
      · intro w'
        go_simp
        with_reducible rfl
      rotate_left
      · simp only [Act.put, List.setIfInBounds_toArray, List.set_cons_zero, List.set_cons_succ, i64_w, i32_w]
        rfl
      refine pure_ (i := 3) (N := some 11) (v := ?_) (a' := ?_) #[true, true, true, true, false, false, false, false, false, false, false, false, false, false] rfl rfl (by kernel_rfl) (fun _ _ _ h => h) (Or.inl ⟨by rfl, ?_⟩) ?_ ?_
      rotate_left
      · intro w'
        go_simp
        with_reducible rfl
      rotate_left
      · simp only [Act.put, List.setIfInBounds_toArray, List.set_cons_zero, List.set_cons_succ, i64_w, i32_w]
        rfl
      refine pure_ (i := 4) (N := some 12) (v := ?_) (a' := ?_) #[true, true, true, true, true, false, false, false, false, false, false, false, false, false] rfl rfl (by kernel_rfl) (fun _ _ _ h => h) (Or.inl ⟨by rfl, ?_⟩) ?_ ?_
      rotate_left
      · intro w'
        go_simp
        with_reducible rfl
      rotate_left
      · simp only [Act.put, List.setIfInBounds_toArray, List.set_cons_zero, List.set_cons_succ, i64_w, i32_w]
        rfl
      refine pure_ (i := 5) (N := some 13) (v := ?_) (a' := ?_) #[true, true, true, true, true, true, false, false, false, false, false, false, false, false] rfl rfl (by kernel_rfl) (fun _ _ _ h => h) (Or.inl ⟨by rfl, ?_⟩) ?_ ?_
      rotate_left
      · intro w'
        go_simp
        with_reducible rfl
      rotate_left
      · simp only [Act.put, List.setIfInBounds_toArray, List.set_cons_zero, List.set_cons_succ, i64_w, i32_w]
        rfl
      refine pure_ (i := 7) (N := some 15) (v := ?_) (a' := ?_) #[true, true, true, true, true, true, false, true, false, false, false, false, false, false] rfl rfl (by kernel_rfl) (fun _ _ _ h => h) (Or.inl ⟨by rfl, ?_⟩) ?_ ?_
      rotate_left
      · intro w'
        go_simp
        with_reducible rfl
      rotate_left
      · simp only [Act.put, List.setIfInBounds_toArray, List.set_cons_zero, List.set_cons_succ, i64_w, i32_w]
        rfl
      refine pure_ (i := 8) (N := some 16) (v := ?_) (a' := ?_) #[true, true, true, true, true, true, false, true, true, false, false, false, false, false] rfl rfl (by kernel_rfl) (fun _ _ _ h => h) (Or.inl ⟨by rfl, ?_⟩) ?_ ?_
      rotate_left
      · intro w'
        go_simp
        with_reducible rfl
      rotate_left
      · simp only [Act.put, List.setIfInBounds_toArray, List.set_cons_zero, List.set_cons_succ, i64_w, i32_w]
        rfl
      refine take_ (i := 6) (N := some 14) (v := ?_) (a' := ?_) #[true, true, true, true, true, true, true, true, true, false, false, false, false, false] rfl rfl (by kernel_rfl) (fun _ _ _ h => h) (Or.inl ⟨by rfl, ?_⟩) hHeld ?_ ?_
      rotate_left
      · rintro w' ⟨s0, s1⟩
        go_simp
        with_reducible rfl
      rotate_left
      · simp only [Act.put, List.setIfInBounds_toArray, List.set_cons_zero, List.set_cons_succ, i64_w, i32_w]
        rfl
      refine take_ (i := 9) (N := some 17) (v := ?_) (a' := ?_) #[true, true, true, true, true, true, true, true, true, true, false, false, false, false] rfl rfl (by kernel_rfl) (fun _ _ _ h => h) (Or.inl ⟨by rfl, ?_⟩) hHeld ?_ ?_
      rotate_left
      · rintro w' ⟨s0, s1⟩
        go_simp
        with_reducible rfl
      rotate_left
      · simp only [Act.put, List.setIfInBounds_toArray, List.set_cons_zero, List.set_cons_succ, i64_w, i32_w]
        rfl
      refine pure_ (i := 10) (N := some 18) (v := ?_) (a' := ?_) #[true, true, true, true, true, true, true, true, true, true, true, false, false, false] rfl rfl (by kernel_rfl) (fun _ _ _ h => h) (Or.inl ⟨by rfl, ?_⟩) ?_ ?_
      rotate_left
      · intro w'
        go_simp
        with_reducible rfl
      rotate_left
      · simp only [Act.put, List.setIfInBounds_toArray, List.set_cons_zero, List.set_cons_succ, i64_w, i32_w]
        rfl
      refine last_ (i := 11) (N := none) #[true, true, true, true, true, true, true, true, true, true, true, true, false, false] rfl rfl (by kernel_rfl) (by decide) (fun K hK => ?_)
      have cx_ : wr.cell? ⟨w.heap.size, xi.toNat, none⟩ = some (.int .u8 u) := CX.out
      refine skip_ (w1 := ?_) (by rfl) rfl ?_ ?_
      rotate_left
      · go_simp
        rfl
      refine hK.out _ _ ?_
      clear hK K
      refine pure_ (i := 12) (N := some 19) (v := ?_) (a' := ?_) #[true, true, true, true, true, true, true, true, true, true, true, true, true, false] rfl rfl (by kernel_rfl) (fun _ _ _ h => h) (Or.inl ⟨by rfl, ?_⟩) ?_ ?_
      rotate_left
      · intro w'
        go_simp
        with_reducible rfl
      rotate_left
      · simp only [Act.put, List.setIfInBounds_toArray, List.set_cons_zero, List.set_cons_succ, i64_w, i32_w]
        rfl
      refine last_ (i := 13) (N := none) #[true, true, true, true, true, true, true, true, true, true, true, true, true, true] rfl rfl (by kernel_rfl) (by decide) (fun K hK => ?_)
      have c2_ := C2.out
      have f2_ := F2.out
      refine skip_ (w1 := ?_) (by rfl) rfl ?_ ?_
      rotate_left
      · go_simp
        rfl
      refine hK.out _ _ ?_
      clear hK K
      refine done_ (by kernel_rfl) ?_
      go_wp2
      go_roundg k1
      case measure => omega
      case rel =>
        refine ⟨i + 1, xi + 1, rfl, Lib.hid (by rw [HI.out]; omega), Lib.hid (by have := HK.out; omega), Lib.hid ((((HRW.out.set xi.toNat _).set y.toNat _).drew).congr fun j hj => ?_), Lib.hid (below_drew ((HB.out.setCell (Nat.le_refl _) _).setCell (Nat.le_refl _) _))⟩
        have e := sw_step h i j ci hj
        rw [← sw_at1 h i ci, ← sw_at2 h i ci, HU.out, HV.out] at e
        rw [HXN.out, HYN.out, ← e]
        split
        · rfl
        · split <;> rfl
    · have qb : decide (xi < 16) = false := decide_eq_false (by rw [HI.out]; omega)
      have ei : i = 16 := by have := HK.out; omega
      have HE := Lib.hid (Tryd.hex_EncodeToString w.heap.size 0 32 32 h.reverse wr (by simp [HL.out]) (fun j hj => by
        have : h.reverse.getD j 0 ∈ h := by
          rw [List.getD_eq_getElem?_getD, List.getElem?_eq_getElem (by simp [HL.out]; omega)]
          exact List.mem_reverse.1 (List.getElem_mem _)
        exact HBY.out _ this) (fun j hj => by
        rw [Nat.zero_add, HRW.out.cell hj, ei, sw_end h HL.out j hj]) HRW.out.lt (by decide))
      go_wp2_with (go_at_call 26; go_must ((with_reducible refine HE.out.mono ?_); rintro e w3 ⟨rfl, hB⟩; have HB3 := Lib.hid (below_step HB.out hB); clear hB))
      go_ret
      exact ⟨rfl, HB3.out⟩
end Go.Proofs.YtojadhcbjcpifaaDoor.Hx
