/-
  spec.WriteBech32.
-/
import Derived.Test.YtciocjaelmnhiaaDoorBpH
namespace Go.Proofs.YtciocjaelmnhiaaDoor.Bp
open Go.RowKit Go.Proofs.YtciocjaelmnhiaaDoorW.PrintWords Go.Proofs.YtciocjaelmnhiaaDoorW.PrintLast Go.Proofs.YtciocjaelmnhiaaDoorW.PrintMore Go.Proofs.YtciocjaelmnhiaaDoor.Reg
set_option linter.unusedSimpArgs false
set_option linter.unusedVariables false

theorem ints_app (a b : List Nat) : ints (a ++ b) = ints a ++ ints b := by simp [ints]
theorem ints_of (l : List Int) (h : ∀ v ∈ l, 0 ≤ v) : ints (l.map Int.toNat) = l := by
  rw [ints, List.map_map]
  exact (List.map_congr_left fun x hx => by show ((x.toNat : Nat) : Int) = x; have := h x hx; omega).trans (List.map_id l)
theorem zeros_C (w : World) : Kd.C (Kd.int .u8) (w.alloc (.cells #[.int .u8 0, .int .u8 0, .int .u8 0, .int .u8 0, .int .u8 0, .int .u8 0] 5)) (some ⟨w.heap.size, 0, none⟩) 6 [0, 0, 0, 0, 0, 0] := by
  refine Kd.C_of_reads (d := (0 : Int)) (h1 := fun _ => rfl) ⟨rfl, by decide, fun hn => ⟨_, rfl, fun j hj => ?_⟩⟩
  rw [add_plain]
  refine (blk_cell (heap_alloc_new _ _) _).trans ?_
  obtain rfl | rfl | rfl | rfl | rfl | rfl : j = 0 ∨ j = 1 ∨ j = 2 ∨ j = 3 ∨ j = 4 ∨ j = 5 := by omega
  all_goals rfl
theorem cat_fits (D : Int) (z d : Nat) (h : D = (d : Int)) (hd : d < 32) (hz : z ≤ 3000) : (9223372036854775807 < z + (min (D + 1).toNat 32 - D.toNat)) = False := eq_false (by omega)
theorem cat_fits2 (z c : Nat) (hz : z ≤ 3000) (hc : c = 1) : (9223372036854775807 < z + c) = False := eq_false (by omega)
theorem dig_u {q P : Nat} {Q Z : Int} (hQ : Q = (q : Int)) (hq : q < 1073741824) (hP : 0 < P) (hZ : Z = Q / (P : Int)) : ∃ (D D1 : Int) (d : Nat), Z % 32 = D ∧ Int.tmod Z 32 = D ∧ (D + 1) % 4294967296 = D1 ∧ (D = (d : Int) ∧ d < 32 ∧ D1 = D + 1 ∧ d = q / P % 32) ∧ (0 ≤ D) = True ∧ (D ≤ D1) = True ∧ (D1 ≤ 32) = True ∧ (0 ≤ D1) = True := by
  have e : Z = ((q / P : Nat) : Int) := by rw [hZ, hQ]; push_cast; rfl
  refine ⟨((q / P % 32 : Nat) : Int), ((q / P % 32 : Nat) : Int) + 1, q / P % 32, by rw [e]; push_cast; rfl, by rw [e, Int.tmod_eq_emod_of_nonneg (Int.natCast_nonneg _)]; push_cast; rfl, by omega, ⟨rfl, by omega, rfl, rfl⟩, eq_true (by omega), eq_true (by omega), eq_true (by omega), eq_true (by omega)⟩
theorem one_chr (y y1 : Int) (v : Nat) (hy : y = (v : Int)) (hv : v < 32) (h1 : y1 = y + 1) : (abc.extract y.toNat y1.toNat).data.toList = [chr v] := by
  subst h1; subst hy
  have := (show ∀ v : Fin 32, (abc.extract ((v.val : Nat) : Int).toNat (((v.val : Nat) : Int) + 1).toNat).data.toList = [chr v.val] by decide +kernel) ⟨v, hv⟩
  exact this
theorem app_list (a b : ByteArray) : (a ++ b).data.toList = a.data.toList ++ b.data.toList := by
  simp
set_option maxHeartbeats 8000000 in
set_option maxRecDepth 100000 in
theorem sp_calls (s : ByteArray) (A : Option Addr) (c1 : Nat) (l : List Int) (K : Nat) (w : World) (hs : s.size ≤ 1000) (hcap : ∀ b ∈ s.data.toList, ¬ (65 ≤ b.toNat ∧ b.toNat ≤ 90)) (hl : Kd.C (Kd.int .u8) w A l.length l) (hlc : l.length ≤ c1) (hlv : ∀ v ∈ l, 0 ≤ v ∧ v < 32) (hll : l.length ≤ 1000) (hK : K < 1073741824) :
    Calls Tryd.prog 9 #[.string s, .slice A l.length c1, .int .u32 (K : Int)] w fun e w' => e = .returned (.string (enc s l K)) ∧ Below w.heap.size w w' := by
  obtain ⟨E, hE⟩ : ∃ E, hi s ++ 0 :: lo s = E := ⟨_, rfl⟩
  have HEL : E.length = 2 * s.size + 1 := by rw [← hE]; simp [hi_len, lo_len]; omega
  obtain ⟨Z, hZ⟩ : ∃ Z, E ++ l.map Int.toNat ++ [0, 0, 0, 0, 0, 0] = Z := ⟨_, rfl⟩
  have hZ32 : ∀ v ∈ Z, v < 32 := by
    rw [← hZ, ← hE]
    intro v hv
    rw [List.mem_append, List.mem_append, List.mem_append, List.mem_cons] at hv
    rcases hv with ((hv | rfl | hv) | hv) | hv
    · obtain ⟨x, _, rfl⟩ := List.mem_map.1 hv
      have := x.toNat_lt; omega
    · decide
    · obtain ⟨x, _, rfl⟩ := List.mem_map.1 hv
      have := x.toNat_lt; omega
    · obtain ⟨x, hx, rfl⟩ := List.mem_map.1 hv
      have := hlv x hx; omega
    · simp at hv; omega
  have hZl : Z.length ≤ 100000 := by rw [← hZ, List.length_append, List.length_append, List.length_map]; show _ + 6 ≤ 100000; omega
  have HR : pm 1 Z = pm 1 (hi s ++ 0 :: (lo s ++ (l.map Int.toNat ++ [0, 0, 0, 0, 0, 0]))) := by rw [← hZ, ← hE]; simp
  have hRl : pm 1 Z < 1073741824 := pm_lt _ (by decide) hZ32
  obtain ⟨q, hq⟩ : ∃ q, pm 1 Z ^^^ K = q := ⟨_, rfl⟩
  have hsum : (six q).map chr = (sumd s l K).map chr := by rw [sumd, ← HR, hq]
  obtain ⟨Q, hQ⟩ : ∃ Q : Int, bits .xor .u32 ((pm 1 Z : Nat) : Int) (K : Int) = Q := ⟨_, rfl⟩
  have HQ := Aside0.mk (show Q = (q : Int) ∧ q < 1073741824 from ⟨by rw [← hQ, xor_u32 _ _ (by omega) (by omega), hq], by rw [← hq]; exact xor_lt hRl hK⟩)
  have HZI : ints Z = ints E ++ l ++ [0, 0, 0, 0, 0, 0] := by rw [← hZ, ints_app, ints_app, ints_of l fun v hv => (hlv v hv).1]; rfl
  obtain ⟨R, hR⟩ : ∃ R : Nat, pm 1 Z = R := ⟨_, rfl⟩
  have HPOL := Lib.hid (pol_f Z hZ32 hZl)
  rw [hR] at HPOL hQ
  have HEX := Lib.hid (ex_f s hs)
  rw [hE] at HEX
  have HLOW := Lib.hid (Bl.slower_calls s w hs hcap)
  have HLC := Lib.hid (fun (W : World) (hW : Below w.heap.size w W) => Kd.C_below hl hW)
  have HLV := Lib.hid (And.intro hlv hll)
  have HS := Lib.hid (And.intro hs HEL)
  have HSM := Lib.hid hsum
  have hcat0 := eq_false (show ¬ 9223372036854775807 < s.size + 1 by omega)
  have HZZ := Lib.hid HZI
  obtain ⟨n, hnn⟩ : ∃ n, l.length = n := ⟨_, rfl⟩
  rw [hnn] at HLC ⊢
  have HN := Lib.hid hnn
  clear hE HEL hZ hZ32 hZl HR hRl hq hsum HZI hR hs hcap hl hlc hlv hll hK hnn
  go_enter Tryd.func9, Tryd.ntmps9
  go_wp2_with (first
    | (go_at_call 17; go_must ((with_reducible refine HLOW.out.mono ?_); rintro e w1 ⟨rfl, hB⟩; have HB := Aside0.mk hB; clear hB))
    | (go_at_call 18; go_must ((with_reducible refine (PFnWriteBech32.spec_expand.calls _ s _ _ HEX.out).mono ?_); rintro e w2 ⟨v2, rfl, hR2, hB⟩; have n0_ := Aside0.mk (below_step HB.out hB); have HO2 := Aside0.mk (Kd.R_lower hR2 HB.out.size); clear HB hR2 hB; have HB := n0_; clear n0_))
    | ((with_reducible refine gate_builtin (b := .append) (xs := #[.tmp 16, .tmp 17]) rfl ?_); at_builtin; go_must (refine Kd.R_append_rows (Kd.int .u8) (w0 := w) w.heap.size rfl (.tmp 16) (.tmp 17) 22 5 (.int .u8 0) 1 rfl Tryd.underlying22 PFnWriteBech32.info5 rfl (by decide) (by omega) v2 (ints E) l A n c1 (fun _ => True) (fun _ => False) rfl rfl HO2.out ?aR1 (fun _ _ h => h) (fun _ h => h.elim) (fun _ _ => trivial) HB.out HB.out.size ?aL1 ?_); go_must (case aR1 => exact HLC.out _ HB.out); go_must (case aL1 => have h1 := HS.out; have h2 := HLV.out.2; rw [ints_len]; have h3 := HN.out; omega); intro v3 w3 ho hb hg hat; have HO3 := Aside0.mk ho; clear HB; have HB := Aside0.mk hb; clear ho hb hg hat)
    | ((with_reducible refine gate_builtin (b := .append) (xs := #[.tmp 18, .tmp 19]) rfl ?_); at_builtin; have hba : Below w3.heap.size w3 (w3.alloc (.cells #[.int .u8 0, .int .u8 0, .int .u8 0, .int .u8 0, .int .u8 0, .int .u8 0] 5)) := below_alloc (Below.refl _ _) _; have HBA := Aside0.mk (below_step HB.out hba); have HOA := Aside0.mk (Kd.R_below HO3.out hba); clear hba; go_must (refine Kd.R_append_rows (Kd.int .u8) (w0 := w) w.heap.size rfl (.tmp 18) (.tmp 19) 22 5 (.int .u8 0) 1 rfl Tryd.underlying22 PFnWriteBech32.info5 rfl (by decide) (by omega) v3 (ints E ++ l) [0, 0, 0, 0, 0, 0] (some ⟨w3.heap.size, 0, none⟩) 6 6 (fun _ => True) (fun _ => False) rfl rfl HOA.out ?aR2 (fun _ _ h => h) (fun _ h => h.elim) (fun _ _ => trivial) HBA.out HBA.out.size ?aL2 ?_); go_must (case aR2 => exact zeros_C w3); go_must (case aL2 => have h1 := HS.out; have h2 := HLV.out.2; simp [ints]; omega); intro v4 w4 ho hb hg hat; rw [← HZZ.out] at ho; obtain ⟨A4, c4, rfl⟩ := Kd.R_slice ho; have H4 := Aside0.mk (And.intro (Kd.R_reads' ho).2 hb); clear HB ho hb hg hat)
    | (go_at_call 19; go_must ((with_reducible refine (PFnWriteBech32.spec_polymod.calls _ A4 c4 (ints Z) _ w4 H4.out.1.2 H4.out.1.1 HPOL.out).mono ?_); rintro e w5 ⟨rfl, hB⟩; have HB5 := Aside0.mk (below_step H4.out.2 hB); clear hB)))
  have HOUT := Aside0.mk (show (s ++ sep).data.toList = s.data.toList ++ 49 :: ((l.map Int.toNat).take 0).map chr from by rw [app_list]; rfl)
  clear HO2 HO3 HBA HOA H4
  go_loopg [9, 10] (n + 1) (fun kq v9 v10 w' => ∃ (i : Nat) (out : ByteArray), v10 = .int .i64 (i : Int) ∧ v9 = .string out ∧ Aside0 (i + kq = n + 1 ∧ i ≤ n) ∧ Aside0 (out.data.toList = s.data.toList ++ 49 :: ((l.map Int.toNat).take i).map chr) ∧ Aside0 (Below w.heap.size w w'))
  case atStart => exact ⟨0, _, rfl, rfl, ⟨by omega, by omega⟩, HOUT, HB5⟩
  case round =>
    clear HOUT HB5
    obtain ⟨i, out, rfl, rfl, HI, HOUT, HB⟩ := hrel
    by_cases ci : i < n
    · obtain ⟨k1, rfl⟩ : ∃ k1, gk = k1 + 1 := ⟨gk - 1, by have := HI.out; omega⟩
      have cb : decide ((i : Int) < (n : Int)) = true := decide_eq_true (by omega)
      have cb2 := eq_true ci
      obtain ⟨ad, hA, hx⟩ := Kd.at_int (HLC.out _ HB.out) (i : Int) (by omega) (by omega)
      subst hA
      rw [Int.toNat_natCast] at hx
      obtain ⟨y, hy⟩ : ∃ y, rd l (i : Int) = y := ⟨_, rfl⟩
      rw [hy] at hx
      have HT := Aside0.mk (take_val l (fun v hv => (HLV.out.1 v hv).1) i (by have := HN.out; omega) y hy)
      have hyb := HLV.out.1 y HT.out.2
      obtain ⟨y1, hy1⟩ : ∃ y1, y + 1 = y1 := ⟨_, rfl⟩
      have hym : (y + 1) % 256 = y1 := by omega
      have hyw : IntKind.u8.wrap (y + 1) = y1 := by rw [← hym]; simp [IntKind.wrap, IntKind.bits, IntKind.signed]
      have p0 := eq_true hyb.1
      have p1 := eq_true (show y ≤ y1 by omega)
      have p2 := eq_true (show y1 ≤ 32 by omega)
      have p3 := eq_true (show 0 ≤ y1 by omega)
      obtain ⟨C, hC⟩ : ∃ C, abc.extract y.toNat y1.toNat = C := ⟨_, rfl⟩
      have HCL := Aside0.mk (show (out ++ C).data.toList = s.data.toList ++ 49 :: ((l.map Int.toNat).take (i + 1)).map chr from by
        rw [app_list, HOUT.out, ← hC, one_chr y y1 y.toNat (by omega) (by omega) hy1.symm, HT.out.1]; simp)
      have hcat := eq_false (show ¬ 9223372036854775807 < out.size + C.size from by
        have h1 := congrArg List.length HCL.out
        rw [app_list, List.length_append, ← size_list, ← size_list] at h1
        have h2 := HS.out.1
        have h3 := HLV.out.2
        simp at h1
        clear hx hcat0 HCL
        omega)
      have HC := Aside0.mk ci
      clear ci hy hyb hy1
      go_wp2
      refine start_ (n := 13) (S := fun w' => w'.cell? (ad.add i) = some (.int .u8 y)) (ds := []) #[false, false, false, false, false, false, false, false, false, false, false, false, false] (by kernel_rfl) rfl rfl (hx) (fun hHeld => ?_)
      refine pure_ (i := 0) (N := some 33) (v := ?_) (a' := ?_) #[true, false, false, false, false, false, false, false, false, false, false, false, false] rfl rfl (by kernel_rfl) (fun _ _ _ h => h) (Or.inl ⟨by rfl, ?_⟩) ?_ ?_
      rotate_left
      · intro w'
        go_simp
        with_reducible rfl
      rotate_left
      · simp only [Act.put, List.setIfInBounds_toArray, List.set_cons_zero, List.set_cons_succ, i64_w, i32_w]
        rfl
      refine pure_ (i := 1) (N := some 34) (v := ?_) (a' := ?_) #[true, true, false, false, false, false, false, false, false, false, false, false, false] rfl rfl (by kernel_rfl) (fun _ _ _ h => h) (Or.inl ⟨by rfl, ?_⟩) ?_ ?_
      rotate_left
      · intro w'
        go_simp
        with_reducible rfl
      rotate_left
      · simp only [Act.put, List.setIfInBounds_toArray, List.set_cons_zero, List.set_cons_succ, i64_w, i32_w]
        rfl
      refine pure_ (i := 2) (N := some 35) (v := ?_) (a' := ?_) #[true, true, true, false, false, false, false, false, false, false, false, false, false] rfl rfl (by kernel_rfl) (fun _ _ _ h => h) (Or.inl ⟨by rfl, ?_⟩) ?_ ?_
      rotate_left
      · intro w'
        go_simp
        with_reducible rfl
      rotate_left
      · simp only [Act.put, List.setIfInBounds_toArray, List.set_cons_zero, List.set_cons_succ, i64_w, i32_w]
        rfl
      refine pure_ (i := 3) (N := some 36) (v := ?_) (a' := ?_) #[true, true, true, true, false, false, false, false, false, false, false, false, false] rfl rfl (by kernel_rfl) (fun _ _ _ h => h) (Or.inl ⟨by rfl, ?_⟩) ?_ ?_
      rotate_left
      · intro w'
        go_simp
        with_reducible rfl
      rotate_left
      · simp only [Act.put, List.setIfInBounds_toArray, List.set_cons_zero, List.set_cons_succ, i64_w, i32_w]
        rfl
      refine pure_ (i := 5) (N := some 38) (v := ?_) (a' := ?_) #[true, true, true, true, false, true, false, false, false, false, false, false, false] rfl rfl (by kernel_rfl) (fun _ _ _ h => h) (Or.inl ⟨by rfl, ?_⟩) ?_ ?_
      rotate_left
      · intro w'
        go_simp
        with_reducible rfl
      rotate_left
      · simp only [Act.put, List.setIfInBounds_toArray, List.set_cons_zero, List.set_cons_succ, i64_w, i32_w]
        rfl
      refine pure_ (i := 6) (N := some 39) (v := ?_) (a' := ?_) #[true, true, true, true, false, true, true, false, false, false, false, false, false] rfl rfl (by kernel_rfl) (fun _ _ _ h => h) (Or.inl ⟨by rfl, ?_⟩) ?_ ?_
      rotate_left
      · intro w'
        go_simp
        with_reducible rfl
      rotate_left
      · simp only [Act.put, List.setIfInBounds_toArray, List.set_cons_zero, List.set_cons_succ, i64_w, i32_w]
        rfl
      refine pure_ (i := 7) (N := some 40) (v := ?_) (a' := ?_) #[true, true, true, true, false, true, true, true, false, false, false, false, false] rfl rfl (by kernel_rfl) (fun _ _ _ h => h) (Or.inl ⟨by rfl, ?_⟩) ?_ ?_
      rotate_left
      · intro w'
        go_simp
        with_reducible rfl
      rotate_left
      · simp only [Act.put, List.setIfInBounds_toArray, List.set_cons_zero, List.set_cons_succ, i64_w, i32_w]
        rfl
      refine take_ (i := 4) (N := some 37) (v := ?_) (a' := ?_) #[true, true, true, true, true, true, true, true, false, false, false, false, false] rfl rfl (by kernel_rfl) (fun _ _ _ h => h) (Or.inl ⟨by rfl, ?_⟩) hHeld ?_ ?_
      rotate_left
      · intro w' s0
        go_simp
        with_reducible rfl
      rotate_left
      · simp only [Act.put, List.setIfInBounds_toArray, List.set_cons_zero, List.set_cons_succ, i64_w, i32_w]
        rfl
      refine take_ (i := 8) (N := some 41) (v := ?_) (a' := ?_) #[true, true, true, true, true, true, true, true, true, false, false, false, false] rfl rfl (by kernel_rfl) (fun _ _ _ h => h) (Or.inl ⟨by rfl, ?_⟩) hHeld ?_ ?_
      rotate_left
      · intro w' s0
        go_simp
        with_reducible rfl
      rotate_left
      · simp only [Act.put, List.setIfInBounds_toArray, List.set_cons_zero, List.set_cons_succ, i64_w, i32_w]
        rfl
      refine pure_ (i := 9) (N := some 42) (v := ?_) (a' := ?_) #[true, true, true, true, true, true, true, true, true, true, false, false, false] rfl rfl (by kernel_rfl) (fun _ _ _ h => h) (Or.inl ⟨by rfl, ?_⟩) ?_ ?_
      rotate_left
      · intro w'
        go_simp
        with_reducible rfl
      rotate_left
      · simp only [Act.put, List.setIfInBounds_toArray, List.set_cons_zero, List.set_cons_succ, i64_w, i32_w]
        rfl
      refine pure_ (i := 10) (N := some 43) (v := ?_) (a' := ?_) #[true, true, true, true, true, true, true, true, true, true, true, false, false] rfl rfl (by kernel_rfl) (fun _ _ _ h => h) (Or.inl ⟨by rfl, ?_⟩) ?_ ?_
      rotate_left
      · intro w'
        go_simp
        with_reducible rfl
      rotate_left
      · simp only [Act.put, List.setIfInBounds_toArray, List.set_cons_zero, List.set_cons_succ, i64_w, i32_w]
        rfl
      refine pure_ (i := 11) (N := some 44) (v := ?_) (a' := ?_) #[true, true, true, true, true, true, true, true, true, true, true, true, false] rfl rfl (by kernel_rfl) (fun _ _ _ h => h) (Or.inl ⟨by rfl, ?_⟩) ?_ ?_
      rotate_left
      · intro w'
        go_simp
        with_reducible rfl
      rotate_left
      · simp only [Act.put, List.setIfInBounds_toArray, List.set_cons_zero, List.set_cons_succ, i64_w, i32_w]
        rfl
      refine pure_ (i := 12) (N := some 9) (v := ?_) (a' := ?_) #[true, true, true, true, true, true, true, true, true, true, true, true, true] rfl rfl (by kernel_rfl) (fun _ _ _ h => h) (Or.inl ⟨by rfl, ?_⟩) ?_ ?_
      rotate_left
      · intro w'
        go_simp
        with_reducible rfl
      rotate_left
      · simp only [Act.put, List.setIfInBounds_toArray, List.set_cons_zero, List.set_cons_succ, i64_w, i32_w]
        rfl
      refine done_ (by kernel_rfl) ?_
      go_wp2
      go_roundg k1
      case measure => have := HI.out; omega
      case rel => exact ⟨i + 1, out ++ C, by first | rfl | (rw [wrap64_id (by have := HLV.out.2; have := HN.out; have := HC.out; omega) (by have := HLV.out.2; have := HN.out; have := HC.out; omega)]; push_cast; rfl), rfl, ⟨by have := HI.out; omega, by have := HC.out; omega⟩, HCL, ⟨below_drew HB.out⟩⟩
    · have cb : decide ((i : Int) < (n : Int)) = false := decide_eq_false (by omega)
      have cb2 := eq_false ci
      have HO1 := Aside0.mk (show out.data.toList = (s.data.toList ++ 49 :: (l.map Int.toNat).map chr) ++ ((six q).take 0).map chr from by
        have := HOUT.out
        rw [List.take_of_length_le (by have := HI.out; have := HN.out; simp; omega)] at this
        rw [this]; simp)
      clear ci HOUT
      go_wp2
      go_loopg [9, 45] 7 (fun kq v9 v45 w' => ∃ (k : Nat) (out : ByteArray), v45 = .int .i64 (k : Int) ∧ v9 = .string out ∧ Aside0 (k + kq = 7 ∧ k ≤ 6) ∧ Aside0 (out.data.toList = (s.data.toList ++ 49 :: (l.map Int.toNat).map chr) ++ ((six q).take k).map chr) ∧ Aside0 (Below w.heap.size w w'))
      case atStart => exact ⟨0, _, rfl, rfl, ⟨by omega, by omega⟩, HO1, HB⟩
      case round =>
        clear HO1 HB
        obtain ⟨k, out, rfl, rfl, HK, HO1, HB⟩ := hrel
        have hk5 : k = 0 ∨ k = 1 ∨ k = 2 ∨ k = 3 ∨ k = 4 ∨ k = 5 ∨ k = 6 := by have := HK.out; omega
        rcases hk5 with rfl | rfl | rfl | rfl | rfl | rfl | rfl
        · obtain ⟨D, D1, d, hD, hDt, hD1, hDd, h0, h1, h2, h3⟩ := dig_u (P := 33554432) (Z := Q / 33554432) HQ.out.1 HQ.out.2 (by decide) (by first | rfl | (rw [show (((1 : Nat) : Int)) = 1 from rfl, Int.ediv_one]))
          obtain ⟨kin, rfl⟩ : ∃ kin, gk = kin + 1 := ⟨gk - 1, by have := HK.out; omega⟩
          obtain rfl := hDd.2.2.1
          obtain ⟨C, hC⟩ : ∃ C, abc.extract D.toNat (D + 1).toNat = C := ⟨_, rfl⟩
          have HCL := Aside0.mk (show (out ++ C).data.toList = (s.data.toList ++ 49 :: (l.map Int.toNat).map chr) ++ ((six q).take 1).map chr from by
            rw [app_list, HO1.out, ← hC, one_chr D (D + 1) d hDd.1 hDd.2.1 rfl, hDd.2.2.2, List.append_assoc]
            first | rfl | (rw [Nat.div_one]; rfl))
          have hos : out.size ≤ 3000 := by
            have h1 := congrArg List.length HO1.out
            rw [← size_list] at h1
            have h2 := HS.out.1
            have h3 := HLV.out.2
            simp [six] at h1
            clear hcat0 HCL hD hDt hD1 h0 hDd
            omega
          have hcat := cat_fits D out.size d hDd.1 hDd.2.1 hos
          have hCs : C.size = 1 := by rw [size_list, ← hC, one_chr D (D + 1) d hDd.1 hDd.2.1 rfl]; rfl
          have hcat2 := cat_fits2 out.size C.size hos hCs
          clear hCs
          clear hos
          clear hDd
          go_wp2
          go_roundg kin
          case measure => omega
          case rel => exact ⟨1, out ++ C, by first | rfl | (simp; done), rfl, ⟨by have := HK.out; omega, by decide⟩, HCL, HB⟩
        · obtain ⟨D, D1, d, hD, hDt, hD1, hDd, h0, h1, h2, h3⟩ := dig_u (P := 1048576) (Z := Q / 1048576) HQ.out.1 HQ.out.2 (by decide) (by first | rfl | (rw [show (((1 : Nat) : Int)) = 1 from rfl, Int.ediv_one]))
          obtain ⟨kin, rfl⟩ : ∃ kin, gk = kin + 1 := ⟨gk - 1, by have := HK.out; omega⟩
          obtain rfl := hDd.2.2.1
          obtain ⟨C, hC⟩ : ∃ C, abc.extract D.toNat (D + 1).toNat = C := ⟨_, rfl⟩
          have HCL := Aside0.mk (show (out ++ C).data.toList = (s.data.toList ++ 49 :: (l.map Int.toNat).map chr) ++ ((six q).take 2).map chr from by
            rw [app_list, HO1.out, ← hC, one_chr D (D + 1) d hDd.1 hDd.2.1 rfl, hDd.2.2.2, List.append_assoc]
            first | rfl | (rw [Nat.div_one]; rfl))
          have hos : out.size ≤ 3000 := by
            have h1 := congrArg List.length HO1.out
            rw [← size_list] at h1
            have h2 := HS.out.1
            have h3 := HLV.out.2
            simp [six] at h1
            clear hcat0 HCL hD hDt hD1 h0 hDd
            omega
          have hcat := cat_fits D out.size d hDd.1 hDd.2.1 hos
          have hCs : C.size = 1 := by rw [size_list, ← hC, one_chr D (D + 1) d hDd.1 hDd.2.1 rfl]; rfl
          have hcat2 := cat_fits2 out.size C.size hos hCs
          clear hCs
          clear hos
          clear hDd
          go_wp2
          go_roundg kin
          case measure => omega
          case rel => exact ⟨2, out ++ C, by first | rfl | (simp; done), rfl, ⟨by have := HK.out; omega, by decide⟩, HCL, HB⟩
        · obtain ⟨D, D1, d, hD, hDt, hD1, hDd, h0, h1, h2, h3⟩ := dig_u (P := 32768) (Z := Q / 32768) HQ.out.1 HQ.out.2 (by decide) (by first | rfl | (rw [show (((1 : Nat) : Int)) = 1 from rfl, Int.ediv_one]))
          obtain ⟨kin, rfl⟩ : ∃ kin, gk = kin + 1 := ⟨gk - 1, by have := HK.out; omega⟩
          obtain rfl := hDd.2.2.1
          obtain ⟨C, hC⟩ : ∃ C, abc.extract D.toNat (D + 1).toNat = C := ⟨_, rfl⟩
          have HCL := Aside0.mk (show (out ++ C).data.toList = (s.data.toList ++ 49 :: (l.map Int.toNat).map chr) ++ ((six q).take 3).map chr from by
            rw [app_list, HO1.out, ← hC, one_chr D (D + 1) d hDd.1 hDd.2.1 rfl, hDd.2.2.2, List.append_assoc]
            first | rfl | (rw [Nat.div_one]; rfl))
          have hos : out.size ≤ 3000 := by
            have h1 := congrArg List.length HO1.out
            rw [← size_list] at h1
            have h2 := HS.out.1
            have h3 := HLV.out.2
            simp [six] at h1
            clear hcat0 HCL hD hDt hD1 h0 hDd
            omega
          have hcat := cat_fits D out.size d hDd.1 hDd.2.1 hos
          have hCs : C.size = 1 := by rw [size_list, ← hC, one_chr D (D + 1) d hDd.1 hDd.2.1 rfl]; rfl
          have hcat2 := cat_fits2 out.size C.size hos hCs
          clear hCs
          clear hos
          clear hDd
          go_wp2
          go_roundg kin
          case measure => omega
          case rel => exact ⟨3, out ++ C, by first | rfl | (simp; done), rfl, ⟨by have := HK.out; omega, by decide⟩, HCL, HB⟩
        · obtain ⟨D, D1, d, hD, hDt, hD1, hDd, h0, h1, h2, h3⟩ := dig_u (P := 1024) (Z := Q / 1024) HQ.out.1 HQ.out.2 (by decide) (by first | rfl | (rw [show (((1 : Nat) : Int)) = 1 from rfl, Int.ediv_one]))
          obtain ⟨kin, rfl⟩ : ∃ kin, gk = kin + 1 := ⟨gk - 1, by have := HK.out; omega⟩
          obtain rfl := hDd.2.2.1
          obtain ⟨C, hC⟩ : ∃ C, abc.extract D.toNat (D + 1).toNat = C := ⟨_, rfl⟩
          have HCL := Aside0.mk (show (out ++ C).data.toList = (s.data.toList ++ 49 :: (l.map Int.toNat).map chr) ++ ((six q).take 4).map chr from by
            rw [app_list, HO1.out, ← hC, one_chr D (D + 1) d hDd.1 hDd.2.1 rfl, hDd.2.2.2, List.append_assoc]
            first | rfl | (rw [Nat.div_one]; rfl))
          have hos : out.size ≤ 3000 := by
            have h1 := congrArg List.length HO1.out
            rw [← size_list] at h1
            have h2 := HS.out.1
            have h3 := HLV.out.2
            simp [six] at h1
            clear hcat0 HCL hD hDt hD1 h0 hDd
            omega
          have hcat := cat_fits D out.size d hDd.1 hDd.2.1 hos
          have hCs : C.size = 1 := by rw [size_list, ← hC, one_chr D (D + 1) d hDd.1 hDd.2.1 rfl]; rfl
          have hcat2 := cat_fits2 out.size C.size hos hCs
          clear hCs
          clear hos
          clear hDd
          go_wp2
          go_roundg kin
          case measure => omega
          case rel => exact ⟨4, out ++ C, by first | rfl | (simp; done), rfl, ⟨by have := HK.out; omega, by decide⟩, HCL, HB⟩
        · obtain ⟨D, D1, d, hD, hDt, hD1, hDd, h0, h1, h2, h3⟩ := dig_u (P := 32) (Z := Q / 32) HQ.out.1 HQ.out.2 (by decide) (by first | rfl | (rw [show (((1 : Nat) : Int)) = 1 from rfl, Int.ediv_one]))
          obtain ⟨kin, rfl⟩ : ∃ kin, gk = kin + 1 := ⟨gk - 1, by have := HK.out; omega⟩
          obtain rfl := hDd.2.2.1
          obtain ⟨C, hC⟩ : ∃ C, abc.extract D.toNat (D + 1).toNat = C := ⟨_, rfl⟩
          have HCL := Aside0.mk (show (out ++ C).data.toList = (s.data.toList ++ 49 :: (l.map Int.toNat).map chr) ++ ((six q).take 5).map chr from by
            rw [app_list, HO1.out, ← hC, one_chr D (D + 1) d hDd.1 hDd.2.1 rfl, hDd.2.2.2, List.append_assoc]
            first | rfl | (rw [Nat.div_one]; rfl))
          have hos : out.size ≤ 3000 := by
            have h1 := congrArg List.length HO1.out
            rw [← size_list] at h1
            have h2 := HS.out.1
            have h3 := HLV.out.2
            simp [six] at h1
            clear hcat0 HCL hD hDt hD1 h0 hDd
            omega
          have hcat := cat_fits D out.size d hDd.1 hDd.2.1 hos
          have hCs : C.size = 1 := by rw [size_list, ← hC, one_chr D (D + 1) d hDd.1 hDd.2.1 rfl]; rfl
          have hcat2 := cat_fits2 out.size C.size hos hCs
          clear hCs
          clear hos
          clear hDd
          go_wp2
          go_roundg kin
          case measure => omega
          case rel => exact ⟨5, out ++ C, by first | rfl | (simp; done), rfl, ⟨by have := HK.out; omega, by decide⟩, HCL, HB⟩
        · obtain ⟨D, D1, d, hD, hDt, hD1, hDd, h0, h1, h2, h3⟩ := dig_u (P := 1) (Z := Q) HQ.out.1 HQ.out.2 (by decide) (by first | rfl | (rw [show (((1 : Nat) : Int)) = 1 from rfl, Int.ediv_one]))
          obtain ⟨kin, rfl⟩ : ∃ kin, gk = kin + 1 := ⟨gk - 1, by have := HK.out; omega⟩
          obtain rfl := hDd.2.2.1
          obtain ⟨C, hC⟩ : ∃ C, abc.extract D.toNat (D + 1).toNat = C := ⟨_, rfl⟩
          have HCL := Aside0.mk (show (out ++ C).data.toList = (s.data.toList ++ 49 :: (l.map Int.toNat).map chr) ++ ((six q).take 6).map chr from by
            rw [app_list, HO1.out, ← hC, one_chr D (D + 1) d hDd.1 hDd.2.1 rfl, hDd.2.2.2, List.append_assoc]
            first | rfl | (rw [Nat.div_one]; rfl))
          have hos : out.size ≤ 3000 := by
            have h1 := congrArg List.length HO1.out
            rw [← size_list] at h1
            have h2 := HS.out.1
            have h3 := HLV.out.2
            simp [six] at h1
            clear hcat0 HCL hD hDt hD1 h0 hDd
            omega
          have hcat := cat_fits D out.size d hDd.1 hDd.2.1 hos
          have hCs : C.size = 1 := by rw [size_list, ← hC, one_chr D (D + 1) d hDd.1 hDd.2.1 rfl]; rfl
          have hcat2 := cat_fits2 out.size C.size hos hCs
          clear hCs
          clear hos
          clear hDd
          go_wp2
          go_roundg kin
          case measure => omega
          case rel => exact ⟨6, out ++ C, by first | rfl | (simp; done), rfl, ⟨by have := HK.out; omega, by decide⟩, HCL, HB⟩
        · have HFIN := Aside0.mk (show out = enc s l K from list_ext (by
            rw [HO1.out, show (six q).take 6 = six q from rfl, HSM.out]
            unfold enc
            rw [cat_list, List.map_append]
            simp))
          go_wp2
          go_ret
          exact ⟨by rw [← HFIN.out]; rfl, HB.out⟩
end Go.Proofs.YtciocjaelmnhiaaDoor.Bp
