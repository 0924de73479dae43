/-
  The law of Bech32Spoilt.
-/
import Derived.Test.YtciocjaelmnhiaaDoorBpC
import Derived.Lib.SlicesS
namespace Go.Proofs.YtciocjaelmnhiaaDoor.Bp
open Go.RowKit Go.Proofs.YtciocjaelmnhiaaDoorW.PrintWords Go.Proofs.YtciocjaelmnhiaaDoorW.PrintLast Go.Proofs.YtciocjaelmnhiaaDoorW.PrintMore Go.Proofs.YtciocjaelmnhiaaDoor.Reg
set_option linter.unusedSimpArgs false
set_option linter.unusedVariables false

theorem snums (z n sz dl : Nat) (N1 N2 F NN : Int) (h1 : (z : Int) + (n : Int) = N1) (h2 : N1 + 7 = N2) (h3 : (z : Int) + 1 = F) (h4 : (sz : Int) - F = NN) (h5 : z + n + 7 ≤ 90) (h6 : sz = z + 1 + (n + 6)) (h7 : dl = n + 6) :
    decide ((2147483647 : Int) < (z : Int)) = false ∧ decide ((2147483647 : Int) < (n : Int)) = false ∧ (2147483647 < z) = False ∧ (2147483647 < n) = False ∧ decide ((90 : Int) < N2) = false ∧ ((sz : Int) != N2) = false ∧
      wrap64 ((z : Int) + (n : Int)) = N1 ∧ wrap64 (N1 + 7) = N2 ∧ wrap64 ((z : Int) + 1) = F ∧ wrap64 ((sz : Int) - F) = NN ∧ (NN = (dl : Int) ∧ dl = n + 6 ∧ z + n + 7 ≤ 90 ∧ sz = z + 1 + dl ∧ F = (z : Int) + 1) := by
  have e6 : (sz : Int) = N2 := by omega
  refine ⟨decide_eq_false (by omega), decide_eq_false (by omega), eq_false (by omega), eq_false (by omega), decide_eq_false (by omega), by rw [e6]; simp, ?_, ?_, ?_, ?_, by omega⟩
  · exact (wrap64_id (by omega) (by omega)).trans (by omega)
  · exact (wrap64_id (by omega) (by omega)).trans (by omega)
  · exact (wrap64_id (by omega) (by omega)).trans (by omega)
  · exact (wrap64_id (by omega) (by omega)).trans (by omega)
theorem wrapU (a : Int) : 0 ≤ IntKind.u64.wrap a := by simp [IntKind.wrap, IntKind.bits, IntKind.signed]; omega
theorem wrapN {NN : Int} {dl n z sz : Nat} {F : Int} (h : NN = (dl : Int) ∧ dl = n + 6 ∧ z + n + 7 ≤ 90 ∧ sz = z + 1 + dl ∧ F = (z : Int) + 1) : IntKind.u64.wrap NN = NN := by
  simp [IntKind.wrap, IntKind.bits, IntKind.signed]; omega
theorem ne0 {NN : Int} {dl n z sz : Nat} {F : Int} (h : NN = (dl : Int) ∧ dl = n + 6 ∧ z + n + 7 ≤ 90 ∧ sz = z + 1 + dl ∧ F = (z : Int) + 1) : (NN = 0) = False := eq_false (by omega)
theorem bound {NN : Int} {dl n z sz : Nat} {F : Int} (h : NN = (dl : Int) ∧ dl = n + 6 ∧ z + n + 7 ≤ 90 ∧ sz = z + 1 + dl ∧ F = (z : Int) + 1) : 2 ≤ dl ∧ dl ≤ 90 := by omega
theorem place (z n sz dl : Nat) (NN F U x : Int) (h : NN = (dl : Int) ∧ dl = n + 6 ∧ z + n + 7 ≤ 90 ∧ sz = z + 1 + dl ∧ F = (z : Int) + 1) (hU : 0 ≤ U) (hx : 0 ≤ x ∧ x < 256) :
    ∃ (r p x1 : Int) (v i : Nat), Int.tmod U NN = r ∧ U % NN = r ∧ wrap64 r = r ∧ wrap64 (F + r) = p ∧ Int.tmod x 32 = x1 ∧ x % 32 = x1 ∧ (0 ≤ p) = True ∧ (p < (sz : Int)) = True ∧ (0 ≤ x1) = True ∧ (x1 < 32) = True ∧ (x1 = (v : Int) ∧ v < 32 ∧ i < dl ∧ p.toNat = z + 1 + i ∧ p.toNat < sz) ∧ x1.toNat < abc.size := by
  have hN : 0 < NN := by omega
  have h1 := Int.emod_nonneg U (show NN ≠ 0 by omega)
  have h2 := Int.emod_lt_of_pos U hN
  obtain ⟨r, hr⟩ : ∃ r, U % NN = r := ⟨_, rfl⟩
  rw [hr] at h1 h2
  refine ⟨r, F + r, x % 32, (x % 32).toNat, r.toNat, by rw [Int.tmod_eq_emod_of_nonneg hU]; exact hr, hr, wrap64_id (by omega) (by omega), wrap64_id (by omega) (by omega), Int.tmod_eq_emod_of_nonneg hx.1, rfl, eq_true (by omega), eq_true (by omega), eq_true (by omega), eq_true (by omega), ⟨by omega, by omega, by omega, by omega, by omega⟩, by show (x % 32).toNat < 32; omega⟩
theorem sumd_len (h : ByteArray) (l : List Int) (K : Nat) : (sumd h l K).length = 6 := rfl
theorem pm_lt' (h : ByteArray) (l : List Int) (hl : ∀ v ∈ l, 0 ≤ v ∧ v < 32) : pm 1 (hi h ++ 0 :: (lo h ++ l.map Int.toNat)) < 1073741824 := by
  refine pm_lt _ (by decide) fun v hv => ?_
  rw [List.mem_append, List.mem_cons, List.mem_append] at hv
  rcases hv with hv | rfl | hv | hv
  · obtain ⟨x, _, rfl⟩ := List.mem_map.1 hv
    have := x.toNat_lt; omega
  · decide
  · obtain ⟨x, _, rfl⟩ := List.mem_map.1 hv
    have := x.toNat_lt; omega
  · obtain ⟨x, hx, rfl⟩ := List.mem_map.1 hv
    have := hl x hx; omega
/-- What is written has the sum's constant. -/
theorem enc_sum (h : ByteArray) (l : List Int) (K : Nat) (hl : ∀ v ∈ l, 0 ≤ v ∧ v < 32) (hK : K < 1073741824) : pm 1 (hi h ++ 0 :: (lo h ++ (l.map Int.toNat ++ sumd h l K))) = K := by
  have hc := pm_lt' h l hl
  obtain ⟨X, hX⟩ : ∃ X, hi h ++ 0 :: (lo h ++ l.map Int.toNat) = X := ⟨_, rfl⟩
  have e : ∀ z, hi h ++ 0 :: (lo h ++ (l.map Int.toNat ++ z)) = X ++ z := fun z => by rw [← hX]; simp
  rw [hX] at hc
  unfold sumd
  rw [e, e, pm_app, pm_app]
  generalize pm 1 X = c at hc ⊢
  exact sum_ok hc hK
theorem dig_lt (h : ByteArray) (l : List Int) (K : Nat) (hl : ∀ v ∈ l, 0 ≤ v ∧ v < 32) : ∀ v ∈ l.map Int.toNat ++ sumd h l K, v < 32 := by
  intro v hv
  rcases List.mem_append.1 hv with hv | hv
  · obtain ⟨x, hx, rfl⟩ := List.mem_map.1 hv
    have := hl x hx; omega
  · exact six_lt _ v hv
theorem spoilt (h : ByteArray) (D : List Nat) (i j x y K : Nat) (hD : ∀ v ∈ D, v < 32) (hn : 2 ≤ D.length ∧ D.length ≤ 90) (hi' : i < D.length) (hj : j < D.length) (hx : x < 32) (hy : y < 32) (hK : pm 1 (hi h ++ 0 :: (lo h ++ D)) = K)
    (hne : (D.set i x).set j y ≠ D) : pm 1 (hi h ++ 0 :: (lo h ++ (D.set i x).set j y)) ≠ K := by
  have hc : pm 1 (hi h ++ 0 :: lo h) < 1073741824 := by
    have := pm_lt' h [] (fun v hv => by cases hv)
    simpa using this
  obtain ⟨X, hX⟩ : ∃ X, hi h ++ 0 :: lo h = X := ⟨_, rfl⟩
  have e : ∀ z, hi h ++ 0 :: (lo h ++ z) = X ++ z := fun z => by rw [← hX]; simp
  rw [hX] at hc
  rw [← hK, e, e, pm_app, pm_app]
  generalize pm 1 X = c at hc ⊢
  refine fun heq => differ D ((D.set i x).set j y) c hc (by simp) hn hD (fun v hv => ?_) (fun h => hne h.symm) i j hi' hj (fun k h1 h2 => ?_) heq.symm
  · rcases List.mem_or_eq_of_mem_set hv with hv | rfl
    · rcases List.mem_or_eq_of_mem_set hv with hv | rfl
      · exact hD v hv
      · exact hx
    · exact hy
  · rw [List.getElem?_set_ne (by omega), List.getElem?_set_ne (by omega)]
set_option maxHeartbeats 16000000 in
set_option maxRecDepth 100000 in
theorem spoilt_false (h : ByteArray) (A : Option Addr) (c1 : Nat) (l : List Int) (a b x y : Int) (w : World) (hr : PFnWriteBech32.laws_readable.f (h.size + 1) h = some true) (hdg : PFnWriteBech32.laws_digits.f (l.length + 1) l = some true) (hh : Readable h) (hsm : Small l)
    (hg : GenB w.heap.size w) (hl : Kd.C (Kd.int .u8) w A l.length l) (hlc : l.length ≤ c1) (hlv : ∀ v ∈ l, 0 ≤ v ∧ v < 256) (hn : h.size + l.length + 7 ≤ 90) (hx : 0 ≤ x ∧ x < 256) (hy : 0 ≤ y ∧ y < 256) :
    Calls Tryd.prog 3 #[.string h, .slice A l.length c1, .bool false, .int .i64 a, .int .i64 b, .int .u8 x, .int .u8 y] w fun e w' => e = .returned (.bool true) ∧ Below w.heap.size w w' := by
  have hl32 : ∀ v ∈ l, 0 ≤ v ∧ v < 32 := fun v hv => ⟨(hlv v hv).1, hsm v hv⟩
  have HSUM := Lib.hid (enc_sum h l 1 hl32 (by decide))
  have HDL := Lib.hid (dig_lt h l 1 hl32)
  have HSM := Lib.hid hsm
  have HW := Lib.hid (fun (W : World) (hW : Below w.heap.size w W) => w0_calls h A c1 l W ((hg.below hW (Nat.le_refl _)).up hW.size) (by omega) (fun z hz => (hh.2 z hz).2.2) (Kd.C_below hl hW) hlc hlv (by omega))
  have HRD := Lib.hid (PFnWriteBech32.laws_readable.calls (h.size + 1) h true w hr)
  have HDG := Lib.hid (fun (W : World) (hW : Below w.heap.size w W) => PFnWriteBech32.laws_digits.calls (l.length + 1) A c1 l true W (Kd.C_below hl hW) hlc hdg)
  have hDlen : (l.map Int.toNat ++ sumd h l 1).length = l.length + 6 := by rw [List.length_append, sumd_len, List.length_map]
  have HRE := Lib.hid (fun (d : List Nat) (W : World) (hW : Below w.heap.size w W) (hd : ∀ v ∈ d, v < 32) (hdl : d.length = l.length + 6) => read_calls h d W hh hd ⟨by omega, by omega, by omega⟩ ((hg.below hW (Nat.le_refl _)).up hW.size) (by rw [cat_size]; omega))
  have HEN : enc h l 1 = cat h (l.map Int.toNat ++ sumd h l 1) := rfl
  have hsz : (enc h l 1).size = h.size + 1 + (l.length + 6) := by rw [HEN, cat_size, hDlen]
  obtain ⟨D, hD⟩ : ∃ D, l.map Int.toNat ++ sumd h l 1 = D := ⟨_, rfl⟩
  rw [hD] at HSUM HDL HEN hDlen
  obtain ⟨s, hs⟩ : ∃ s, enc h l 1 = s := ⟨_, rfl⟩
  unfold IOut at HW
  rw [hs] at HW HEN hsz
  obtain ⟨n, hnn⟩ : ∃ n, l.length = n := ⟨_, rfl⟩
  rw [hnn] at HW HDG hsz hDlen hn HRE ⊢
  obtain ⟨N1, hN1⟩ : ∃ N1 : Int, (h.size : Int) + (n : Int) = N1 := ⟨_, rfl⟩
  obtain ⟨N2, hN2⟩ : ∃ N2 : Int, N1 + 7 = N2 := ⟨_, rfl⟩
  obtain ⟨F, hF⟩ : ∃ F : Int, (h.size : Int) + 1 = F := ⟨_, rfl⟩
  obtain ⟨NN, hNN⟩ : ∃ NN : Int, (s.size : Int) - F = NN := ⟨_, rfl⟩
  obtain ⟨q1, q2, q3, q4, q5, q6, u1, u2, u3, u4, hnum⟩ := snums h.size n s.size D.length N1 N2 F NN hN1 hN2 hF hNN hn hsz hDlen
  have HNUM := Aside0.mk hnum
  have HX := Lib.hid (And.intro hx hy)
  have HENH := Lib.hid HEN
  clear HEN
  obtain ⟨U, hU, hU0⟩ : ∃ U : Int, IntKind.u64.wrap a = U ∧ 0 ≤ U := ⟨_, rfl, wrapU _⟩
  obtain ⟨V, hV, hV0⟩ : ∃ V : Int, IntKind.u64.wrap b = V ∧ 0 ≤ V := ⟨_, rfl, wrapU _⟩
  obtain ⟨r1, p1, x1, v1, i1, hr1, hr1b, hr1c, hp1, hx1, hx1b, hp1a, hp1b, hx1a, hx1c, HI1, hx1d⟩ := place h.size n s.size D.length NN F U x HNUM.out hU0 HX.out.1
  obtain ⟨r2, p2, x2, v2, i2, hr2, hr2b, hr2c, hp2, hx2, hx2b, hp2a, hp2b, hx2a, hx2c, HI2, hx2d⟩ := place h.size n s.size D.length NN F V y HNUM.out hV0 HX.out.2
  have hNNu : IntKind.u64.wrap NN = NN := wrapN HNUM.out
  have hN0 := ne0 HNUM.out
  have HI1H := Lib.hid HI1
  have HI2H := Lib.hid HI2
  obtain ⟨C1, hC1⟩ : ∃ C1 : Int, ((abc[x1.toNat]'hx1d).toNat : Int) = C1 := ⟨_, rfl⟩
  obtain ⟨C2, hC2⟩ : ∃ C2 : Int, ((abc[x2.toNat]'hx2d).toNat : Int) = C2 := ⟨_, rfl⟩
  have HC1 := Lib.hid (show C1 = ((chr v1).toNat : Int) from by rw [← hC1, chr_at x1 v1 HI1.1])
  have HC2 := Lib.hid (show C2 = ((chr v2).toNat : Int) from by rw [← hC2, chr_at x2 v2 HI2.1])
  clear hU0 hV0 HI1 HI2
  clear hnum hr hdg hh hsm hg hl hlc hlv hn hx hy hl32 hsz hD hs hnn hN1 hN2 hF hNN hDlen
  go_enter Tryd.func3, Tryd.ntmps3
  go_wp2_with (first
    | (go_at_call 5; go_must ((with_reducible refine HRD.out.mono ?_); rintro e w1 ⟨rfl, ⟨m1, rfl⟩⟩; have HB1 := Aside0.mk (pw_below_drewN (Below.refl w.heap.size w) m1)))
    | (go_at_call 6; go_must ((with_reducible refine (HDG.out _ HB1.out).mono ?_); rintro e w1 ⟨rfl, ⟨m2, rfl⟩⟩; have HB2 := Aside0.mk (pw_below_drewN (Below.refl w.heap.size w) (m1 + m2))))
    | (go_at_call 7; go_must ((with_reducible refine (HW.out _ HB2.out).mono ?_); rintro e w3 ⟨ho, hB⟩; have HB3 := Aside0.mk (below_step HB2.out hB); obtain rfl : e = .returned (.tuple #[.string s, .int .i64 0]) := ho.elim (fun z => z.2) (fun z => absurd HSM.out z.1); have hcv := Lib.run_convert_string_bytes (P := Tryd.prog) w3 9 22 5 s Tryd.underlying9 Tryd.underlying22 Tryd.underlying5; have hrw := Rw.conv w3 s; have hbw : Below w.heap.size w (Lib.bytesWorld w3 5 s) := HB3.out.trans ⟨rfl, rfl, rfl, by rw [Lib.bytesWorld_size]; omega, fun k hk => Lib.bytesWorld_at_old w3 5 s k (Nat.lt_of_lt_of_le hk HB3.out.size)⟩; have HWG := Aside0.mk (show w.heap.size ≤ w3.heap.size from HB3.out.size); obtain ⟨cp, hcp⟩ : ∃ cp, grownCap w3 s.size 0 5 = cp := ⟨_, rfl⟩; obtain ⟨W4, hW4⟩ : ∃ W4, Lib.bytesWorld w3 5 s = W4 := ⟨_, rfl⟩; rw [hcp, hW4] at hcv; rw [hW4] at hrw hbw; have HRW := Aside0.mk hrw; have HB4 := Aside0.mk hbw; clear ho hB hrw hbw hcp hW4)))
  have HLZ := Aside0.mk (show s.data.toList.length = s.size from by simp)
  have HP1 := Aside0.mk (show p1.toNat < s.data.toList.length from by rw [HLZ.out]; exact HI1H.out.2.2.2.2)
  have HP2 := Aside0.mk (show p2.toNat < s.data.toList.length from by rw [HLZ.out]; exact HI2H.out.2.2.2.2)
  obtain ⟨zc1, zf1⟩ := HRW.out p1.toNat HP1.out
  have HRW5 := Aside0.mk ((HRW.out.put p1.toNat HP1.out (chr v1)).drew)
  have HB5 := Aside0.mk (show Below w.heap.size w (W4.setCell ⟨w3.heap.size, p1.toNat, none⟩ (.int .u8 C1)).drew from below_drew (HB4.out.setCell (p := ⟨w3.heap.size, p1.toNat, none⟩) HWG.out _))
  rw [← HC1.out] at HRW5
  refine start_ (n := 14) (S := fun w' => True) (ds := [13]) #[false, false, false, false, false, false, false, false, false, false, false, false, false, false] (by kernel_rfl) rfl rfl trivial (fun hHeld => ?_)
  refine pure_ (i := 0) (N := some 77) (v := ?_) (a' := ?_) #[true, false, false, false, false, false, false, false, false, false, false, false, false, false] rfl rfl (by kernel_rfl) (fun _ _ _ h => h) (Or.inl ⟨by rfl, ?_⟩) ?_ ?_
  rotate_left
  · intro w'
    go_simp
    with_reducible rfl
  rotate_left
  · simp only [Act.put, List.setIfInBounds_toArray, List.set_cons_zero, List.set_cons_succ, i64_w, i32_w]
    rfl
  refine pure_ (i := 1) (N := some 78) (v := ?_) (a' := ?_) #[true, true, false, false, false, false, false, false, false, false, false, false, false, false] rfl rfl (by kernel_rfl) (fun _ _ _ h => h) (Or.inl ⟨by rfl, ?_⟩) ?_ ?_
  rotate_left
  · intro w'
    go_simp
    with_reducible rfl
  rotate_left
  · simp only [Act.put, List.setIfInBounds_toArray, List.set_cons_zero, List.set_cons_succ, i64_w, i32_w]
    rfl
  refine pure_ (i := 2) (N := some 79) (v := ?_) (a' := ?_) #[true, true, true, false, false, false, false, false, false, false, false, false, false, false] rfl rfl (by kernel_rfl) (fun _ _ _ h => h) (Or.inl ⟨by rfl, ?_⟩) ?_ ?_
  rotate_left
  · intro w'
    go_simp
    with_reducible rfl
  rotate_left
  · simp only [Act.put, List.setIfInBounds_toArray, List.set_cons_zero, List.set_cons_succ, i64_w, i32_w]
    rfl
  refine pure_ (i := 3) (N := some 80) (v := ?_) (a' := ?_) #[true, true, true, true, false, false, false, false, false, false, false, false, false, false] rfl rfl (by kernel_rfl) (fun _ _ _ h => h) (Or.inl ⟨by rfl, ?_⟩) ?_ ?_
  rotate_left
  · intro w'
    go_simp
    with_reducible rfl
  rotate_left
  · simp only [Act.put, List.setIfInBounds_toArray, List.set_cons_zero, List.set_cons_succ, i64_w, i32_w]
    rfl
  refine pure_ (i := 4) (N := some 81) (v := ?_) (a' := ?_) #[true, true, true, true, true, false, false, false, false, false, false, false, false, false] rfl rfl (by kernel_rfl) (fun _ _ _ h => h) (Or.inl ⟨by rfl, ?_⟩) ?_ ?_
  rotate_left
  · intro w'
    go_simp
    with_reducible rfl
  rotate_left
  · simp only [Act.put, List.setIfInBounds_toArray, List.set_cons_zero, List.set_cons_succ, i64_w, i32_w]
    rfl
  refine pure_ (i := 5) (N := some 82) (v := ?_) (a' := ?_) #[true, true, true, true, true, true, false, false, false, false, false, false, false, false] rfl rfl (by kernel_rfl) (fun _ _ _ h => h) (Or.inl ⟨by rfl, ?_⟩) ?_ ?_
  rotate_left
  · intro w'
    go_simp
    with_reducible rfl
  rotate_left
  · simp only [Act.put, List.setIfInBounds_toArray, List.set_cons_zero, List.set_cons_succ, i64_w, i32_w]
    rfl
  refine pure_ (i := 6) (N := some 83) (v := ?_) (a' := ?_) #[true, true, true, true, true, true, true, false, false, false, false, false, false, false] rfl rfl (by kernel_rfl) (fun _ _ _ h => h) (Or.inl ⟨by rfl, ?_⟩) ?_ ?_
  rotate_left
  · intro w'
    go_simp
    with_reducible rfl
  rotate_left
  · simp only [Act.put, List.setIfInBounds_toArray, List.set_cons_zero, List.set_cons_succ, i64_w, i32_w]
    rfl
  refine pure_ (i := 7) (N := some 84) (v := ?_) (a' := ?_) #[true, true, true, true, true, true, true, true, false, false, false, false, false, false] rfl rfl (by kernel_rfl) (fun _ _ _ h => h) (Or.inl ⟨by rfl, ?_⟩) ?_ ?_
  rotate_left
  · intro w'
    go_simp
    with_reducible rfl
  rotate_left
  · simp only [Act.put, List.setIfInBounds_toArray, List.set_cons_zero, List.set_cons_succ, i64_w, i32_w]
    rfl
  refine pure_ (i := 8) (N := some 85) (v := ?_) (a' := ?_) #[true, true, true, true, true, true, true, true, true, false, false, false, false, false] rfl rfl (by kernel_rfl) (fun _ _ _ h => h) (Or.inl ⟨by rfl, ?_⟩) ?_ ?_
  rotate_left
  · intro w'
    go_simp
    with_reducible rfl
  rotate_left
  · simp only [Act.put, List.setIfInBounds_toArray, List.set_cons_zero, List.set_cons_succ, i64_w, i32_w]
    rfl
  refine pure_ (i := 9) (N := some 86) (v := ?_) (a' := ?_) #[true, true, true, true, true, true, true, true, true, true, false, false, false, false] rfl rfl (by kernel_rfl) (fun _ _ _ h => h) (Or.inl ⟨by rfl, ?_⟩) ?_ ?_
  rotate_left
  · intro w'
    go_simp
    with_reducible rfl
  rotate_left
  · simp only [Act.put, List.setIfInBounds_toArray, List.set_cons_zero, List.set_cons_succ, i64_w, i32_w]
    rfl
  refine pure_ (i := 10) (N := some 87) (v := ?_) (a' := ?_) #[true, true, true, true, true, true, true, true, true, true, true, false, false, false] rfl rfl (by kernel_rfl) (fun _ _ _ h => h) (Or.inl ⟨by rfl, ?_⟩) ?_ ?_
  rotate_left
  · intro w'
    go_simp
    with_reducible rfl
  rotate_left
  · simp only [Act.put, List.setIfInBounds_toArray, List.set_cons_zero, List.set_cons_succ, i64_w, i32_w]
    rfl
  refine take_ (i := 11) (N := some 88) (v := ?_) (a' := ?_) #[true, true, true, true, true, true, true, true, true, true, true, true, false, false] rfl rfl (by kernel_rfl) (fun _ _ _ h => h) (Or.inl ⟨by rfl, ?_⟩) hHeld ?_ ?_
  rotate_left
  · intro w' _
    go_simp
    with_reducible rfl
  rotate_left
  · simp only [Act.put, List.setIfInBounds_toArray, List.set_cons_zero, List.set_cons_succ, i64_w, i32_w]
    rfl
  refine pure_ (i := 12) (N := some 89) (v := ?_) (a' := ?_) #[true, true, true, true, true, true, true, true, true, true, true, true, true, false] rfl rfl (by kernel_rfl) (fun _ _ _ h => h) (Or.inl ⟨by rfl, ?_⟩) ?_ ?_
  rotate_left
  · intro w'
    go_simp
    with_reducible rfl
  rotate_left
  · simp only [Act.put, List.setIfInBounds_toArray, List.set_cons_zero, List.set_cons_succ, i64_w, i32_w]
    rfl
  refine last_ (i := 13) (N := none) #[true, true, true, true, true, true, true, true, true, true, true, true, true, true] rfl rfl (by kernel_rfl) (by decide) (fun K hK => ?_)
  refine skip_ (w1 := ?_) (by rfl) rfl ?_ ?_
  rotate_left
  · go_simp
    rfl
  refine hK.out _ _ ?_
  clear hK K
  refine done_ (by kernel_rfl) ?_
  generalize (W4.setCell ⟨w3.heap.size, p1.toNat, none⟩ (.int .u8 C1)).drew = W5 at HRW5 HB5 ⊢
  clear zc1 zf1
  obtain ⟨zc2, zf2⟩ := HRW5.out p2.toNat (by rw [List.length_set]; exact HP2.out)
  have HRW6 := Aside0.mk ((HRW5.out.put p2.toNat (by rw [List.length_set]; exact HP2.out) (chr v2)).drew)
  have HB6 := Aside0.mk (show Below w.heap.size w (W5.setCell ⟨w3.heap.size, p2.toNat, none⟩ (.int .u8 C2)).drew from below_drew (HB5.out.setCell (p := ⟨w3.heap.size, p2.toNat, none⟩) HWG.out _))
  rw [← HC2.out] at HRW6
  go_wp2
  refine start_ (n := 14) (S := fun w' => True) (ds := [13]) #[false, false, false, false, false, false, false, false, false, false, false, false, false, false] (by kernel_rfl) rfl rfl trivial (fun hHeld => ?_)
  refine pure_ (i := 0) (N := some 90) (v := ?_) (a' := ?_) #[true, false, false, false, false, false, false, false, false, false, false, false, false, false] rfl rfl (by kernel_rfl) (fun _ _ _ h => h) (Or.inl ⟨by rfl, ?_⟩) ?_ ?_
  rotate_left
  · intro w'
    go_simp
    with_reducible rfl
  rotate_left
  · simp only [Act.put, List.setIfInBounds_toArray, List.set_cons_zero, List.set_cons_succ, i64_w, i32_w]
    rfl
  refine pure_ (i := 1) (N := some 91) (v := ?_) (a' := ?_) #[true, true, false, false, false, false, false, false, false, false, false, false, false, false] rfl rfl (by kernel_rfl) (fun _ _ _ h => h) (Or.inl ⟨by rfl, ?_⟩) ?_ ?_
  rotate_left
  · intro w'
    go_simp
    with_reducible rfl
  rotate_left
  · simp only [Act.put, List.setIfInBounds_toArray, List.set_cons_zero, List.set_cons_succ, i64_w, i32_w]
    rfl
  refine pure_ (i := 2) (N := some 92) (v := ?_) (a' := ?_) #[true, true, true, false, false, false, false, false, false, false, false, false, false, false] rfl rfl (by kernel_rfl) (fun _ _ _ h => h) (Or.inl ⟨by rfl, ?_⟩) ?_ ?_
  rotate_left
  · intro w'
    go_simp
    with_reducible rfl
  rotate_left
  · simp only [Act.put, List.setIfInBounds_toArray, List.set_cons_zero, List.set_cons_succ, i64_w, i32_w]
    rfl
  refine pure_ (i := 3) (N := some 93) (v := ?_) (a' := ?_) #[true, true, true, true, false, false, false, false, false, false, false, false, false, false] rfl rfl (by kernel_rfl) (fun _ _ _ h => h) (Or.inl ⟨by rfl, ?_⟩) ?_ ?_
  rotate_left
  · intro w'
    go_simp
    with_reducible rfl
  rotate_left
  · simp only [Act.put, List.setIfInBounds_toArray, List.set_cons_zero, List.set_cons_succ, i64_w, i32_w]
    rfl
  refine pure_ (i := 4) (N := some 94) (v := ?_) (a' := ?_) #[true, true, true, true, true, false, false, false, false, false, false, false, false, false] rfl rfl (by kernel_rfl) (fun _ _ _ h => h) (Or.inl ⟨by rfl, ?_⟩) ?_ ?_
  rotate_left
  · intro w'
    go_simp
    with_reducible rfl
  rotate_left
  · simp only [Act.put, List.setIfInBounds_toArray, List.set_cons_zero, List.set_cons_succ, i64_w, i32_w]
    rfl
  refine pure_ (i := 5) (N := some 95) (v := ?_) (a' := ?_) #[true, true, true, true, true, true, false, false, false, false, false, false, false, false] rfl rfl (by kernel_rfl) (fun _ _ _ h => h) (Or.inl ⟨by rfl, ?_⟩) ?_ ?_
  rotate_left
  · intro w'
    go_simp
    with_reducible rfl
  rotate_left
  · simp only [Act.put, List.setIfInBounds_toArray, List.set_cons_zero, List.set_cons_succ, i64_w, i32_w]
    rfl
  refine pure_ (i := 6) (N := some 96) (v := ?_) (a' := ?_) #[true, true, true, true, true, true, true, false, false, false, false, false, false, false] rfl rfl (by kernel_rfl) (fun _ _ _ h => h) (Or.inl ⟨by rfl, ?_⟩) ?_ ?_
  rotate_left
  · intro w'
    go_simp
    with_reducible rfl
  rotate_left
  · simp only [Act.put, List.setIfInBounds_toArray, List.set_cons_zero, List.set_cons_succ, i64_w, i32_w]
    rfl
  refine pure_ (i := 7) (N := some 97) (v := ?_) (a' := ?_) #[true, true, true, true, true, true, true, true, false, false, false, false, false, false] rfl rfl (by kernel_rfl) (fun _ _ _ h => h) (Or.inl ⟨by rfl, ?_⟩) ?_ ?_
  rotate_left
  · intro w'
    go_simp
    with_reducible rfl
  rotate_left
  · simp only [Act.put, List.setIfInBounds_toArray, List.set_cons_zero, List.set_cons_succ, i64_w, i32_w]
    rfl
  refine pure_ (i := 8) (N := some 98) (v := ?_) (a' := ?_) #[true, true, true, true, true, true, true, true, true, false, false, false, false, false] rfl rfl (by kernel_rfl) (fun _ _ _ h => h) (Or.inl ⟨by rfl, ?_⟩) ?_ ?_
  rotate_left
  · intro w'
    go_simp
    with_reducible rfl
  rotate_left
  · simp only [Act.put, List.setIfInBounds_toArray, List.set_cons_zero, List.set_cons_succ, i64_w, i32_w]
    rfl
  refine pure_ (i := 9) (N := some 99) (v := ?_) (a' := ?_) #[true, true, true, true, true, true, true, true, true, true, false, false, false, false] rfl rfl (by kernel_rfl) (fun _ _ _ h => h) (Or.inl ⟨by rfl, ?_⟩) ?_ ?_
  rotate_left
  · intro w'
    go_simp
    with_reducible rfl
  rotate_left
  · simp only [Act.put, List.setIfInBounds_toArray, List.set_cons_zero, List.set_cons_succ, i64_w, i32_w]
    rfl
  refine pure_ (i := 10) (N := some 100) (v := ?_) (a' := ?_) #[true, true, true, true, true, true, true, true, true, true, true, false, false, false] rfl rfl (by kernel_rfl) (fun _ _ _ h => h) (Or.inl ⟨by rfl, ?_⟩) ?_ ?_
  rotate_left
  · intro w'
    go_simp
    with_reducible rfl
  rotate_left
  · simp only [Act.put, List.setIfInBounds_toArray, List.set_cons_zero, List.set_cons_succ, i64_w, i32_w]
    rfl
  refine take_ (i := 11) (N := some 101) (v := ?_) (a' := ?_) #[true, true, true, true, true, true, true, true, true, true, true, true, false, false] rfl rfl (by kernel_rfl) (fun _ _ _ h => h) (Or.inl ⟨by rfl, ?_⟩) hHeld ?_ ?_
  rotate_left
  · intro w' _
    go_simp
    with_reducible rfl
  rotate_left
  · simp only [Act.put, List.setIfInBounds_toArray, List.set_cons_zero, List.set_cons_succ, i64_w, i32_w]
    rfl
  refine pure_ (i := 12) (N := some 102) (v := ?_) (a' := ?_) #[true, true, true, true, true, true, true, true, true, true, true, true, true, false] rfl rfl (by kernel_rfl) (fun _ _ _ h => h) (Or.inl ⟨by rfl, ?_⟩) ?_ ?_
  rotate_left
  · intro w'
    go_simp
    with_reducible rfl
  rotate_left
  · simp only [Act.put, List.setIfInBounds_toArray, List.set_cons_zero, List.set_cons_succ, i64_w, i32_w]
    rfl
  refine last_ (i := 13) (N := none) #[true, true, true, true, true, true, true, true, true, true, true, true, true, true] rfl rfl (by kernel_rfl) (by decide) (fun K hK => ?_)
  refine skip_ (w1 := ?_) (by rfl) rfl ?_ ?_
  rotate_left
  · go_simp
    rfl
  refine hK.out _ _ ?_
  clear hK K
  refine done_ (by kernel_rfl) ?_
  generalize (W5.setCell ⟨w3.heap.size, p2.toNat, none⟩ (.int .u8 C2)).drew = W6 at HRW6 HB6 ⊢
  clear zc2 zf2
  obtain ⟨D2, hD2⟩ : ∃ D2, (D.set i1 v1).set i2 v2 = D2 := ⟨_, rfl⟩
  have hD2l : D2.length = D.length := by rw [← hD2, List.length_set, List.length_set]
  have hl6 : (s.data.toList.set p1.toNat (chr v1)).set p2.toNat (chr v2) = (cat h D2).data.toList := by
    rw [HENH.out, HI1H.out.2.2.2.1, HI2H.out.2.2.2.1, cat_set, cat_set, hD2]
  have hd32 : ∀ v ∈ D2, v < 32 := fun v hv => by
    rw [← hD2] at hv
    rcases List.mem_or_eq_of_mem_set hv with hv | rfl
    · rcases List.mem_or_eq_of_mem_set hv with hv | rfl
      · exact HDL.out v hv
      · exact HI1H.out.2.1
    · exact HI2H.out.2.1
  have HNE := Lib.hid (fun hne : D2 ≠ D => spoilt h D i1 i2 v1 v2 1 HDL.out (bound HNUM.out) HI1H.out.2.2.1 HI2H.out.2.2.1 HI1H.out.2.1 HI2H.out.2.1 HSUM.out (by rw [hD2]; exact hne))
  rw [hD2] at HNE
  rw [hl6] at HRW6
  have hlen6 : (cat h D2).data.toList.length = s.size := by rw [← hl6, List.length_set, List.length_set, HLZ.out]
  have hbk := run_convert_bytes_back (P := Tryd.prog) W6 22 9 5 ⟨w3.heap.size, 0, none⟩ cp (cat h D2).data.toList Tryd.underlying22 Tryd.underlying5 Tryd.underlying9 (fun j hj => by
    rw [add_plain, (HRW6.out j hj).1]
    rw [List.getD_eq_getElem?_getD, List.getElem?_eq_getElem hj]
    rfl)
  rw [hlen6, show (⟨(cat h D2).data.toList.toArray⟩ : ByteArray) = cat h D2 from by cases (cat h D2); simp] at hbk
  have HR6 := Lib.hid (HRE.out D2 W6 HB6.out hd32 (hD2l.trans HNUM.out.2.1))
  have HSS := Lib.hid (show cat h D2 ≠ s → D2 ≠ D from fun hne he => hne (by rw [he, HENH.out]))
  obtain ⟨s2, hs2⟩ : ∃ s2, cat h D2 = s2 := ⟨_, rfl⟩
  rw [hs2] at hbk HR6 HSS
  clear hD2 hD2l hl6 hd32 hlen6 hs2 HRW6 HRW5 HRW
  unfold ROut at HR6
  by_cases hc : s2 = s
  · subst hc
    go_wp2
    go_ret
    exact ⟨rfl, by first | exact HB6.out | exact below_drew HB6.out⟩
  · have hc1 := decide_eq_false hc
    have hc2 := eq_false hc
    have hc3 := (Lib.bytes_beq_false_iff s2 s).2 hc
    have HP := Aside0.mk (HNE.out (HSS.out hc))
    clear hc
    go_wp2_with (first
      | (go_at_call 8; go_must ((with_reducible refine HR6.out.mono ?_); rintro e w7 ⟨⟨P, hP, ho⟩, hB⟩; have HB7 := Aside0.mk (HB6.out.trans (hB.mono HB6.out.size)); rcases ho with ⟨hp, A7, c7, rfl, _, _⟩ | ⟨hp, A7, c7, rfl, _, _⟩ | ⟨hp, hp2, x7, y7, z7, rfl⟩ <;> (have HPP := Aside0.mk (And.intro hP hp)) <;> clear hP hB)))
    · exact absurd (HPP.out.1.trans HPP.out.2) HP.out
    · go_ret
      exact ⟨by first | rfl | (simp; done), HB7.out⟩
    · go_ret
      exact ⟨by first | rfl | (simp; done), HB7.out⟩
set_option maxHeartbeats 16000000 in
set_option maxRecDepth 100000 in
theorem spoilt_true (h : ByteArray) (A : Option Addr) (c1 : Nat) (l : List Int) (a b x y : Int) (w : World) (hr : PFnWriteBech32.laws_readable.f (h.size + 1) h = some true) (hdg : PFnWriteBech32.laws_digits.f (l.length + 1) l = some true) (hh : Readable h) (hsm : Small l)
    (hg : GenB w.heap.size w) (hl : Kd.C (Kd.int .u8) w A l.length l) (hlc : l.length ≤ c1) (hlv : ∀ v ∈ l, 0 ≤ v ∧ v < 256) (hn : h.size + l.length + 7 ≤ 90) (hx : 0 ≤ x ∧ x < 256) (hy : 0 ≤ y ∧ y < 256) :
    Calls Tryd.prog 3 #[.string h, .slice A l.length c1, .bool true, .int .i64 a, .int .i64 b, .int .u8 x, .int .u8 y] w fun e w' => e = .returned (.bool true) ∧ Below w.heap.size w w' := by
  have hl32 : ∀ v ∈ l, 0 ≤ v ∧ v < 32 := fun v hv => ⟨(hlv v hv).1, hsm v hv⟩
  have HSUM := Lib.hid (enc_sum h l 734539939 hl32 (by decide))
  have HDL := Lib.hid (dig_lt h l 734539939 hl32)
  have HSM := Lib.hid hsm
  have HW := Lib.hid (fun (W : World) (hW : Below w.heap.size w W) => w1_calls h A c1 l W ((hg.below hW (Nat.le_refl _)).up hW.size) (by omega) (fun z hz => (hh.2 z hz).2.2) (Kd.C_below hl hW) hlc hlv (by omega))
  have HRD := Lib.hid (PFnWriteBech32.laws_readable.calls (h.size + 1) h true w hr)
  have HDG := Lib.hid (fun (W : World) (hW : Below w.heap.size w W) => PFnWriteBech32.laws_digits.calls (l.length + 1) A c1 l true W (Kd.C_below hl hW) hlc hdg)
  have hDlen : (l.map Int.toNat ++ sumd h l 734539939).length = l.length + 6 := by rw [List.length_append, sumd_len, List.length_map]
  have HRE := Lib.hid (fun (d : List Nat) (W : World) (hW : Below w.heap.size w W) (hd : ∀ v ∈ d, v < 32) (hdl : d.length = l.length + 6) => read_calls h d W hh hd ⟨by omega, by omega, by omega⟩ ((hg.below hW (Nat.le_refl _)).up hW.size) (by rw [cat_size]; omega))
  have HEN : enc h l 734539939 = cat h (l.map Int.toNat ++ sumd h l 734539939) := rfl
  have hsz : (enc h l 734539939).size = h.size + 1 + (l.length + 6) := by rw [HEN, cat_size, hDlen]
  obtain ⟨D, hD⟩ : ∃ D, l.map Int.toNat ++ sumd h l 734539939 = D := ⟨_, rfl⟩
  rw [hD] at HSUM HDL HEN hDlen
  obtain ⟨s, hs⟩ : ∃ s, enc h l 734539939 = s := ⟨_, rfl⟩
  unfold IOut at HW
  rw [hs] at HW HEN hsz
  obtain ⟨n, hnn⟩ : ∃ n, l.length = n := ⟨_, rfl⟩
  rw [hnn] at HW HDG hsz hDlen hn HRE ⊢
  obtain ⟨N1, hN1⟩ : ∃ N1 : Int, (h.size : Int) + (n : Int) = N1 := ⟨_, rfl⟩
  obtain ⟨N2, hN2⟩ : ∃ N2 : Int, N1 + 7 = N2 := ⟨_, rfl⟩
  obtain ⟨F, hF⟩ : ∃ F : Int, (h.size : Int) + 1 = F := ⟨_, rfl⟩
  obtain ⟨NN, hNN⟩ : ∃ NN : Int, (s.size : Int) - F = NN := ⟨_, rfl⟩
  obtain ⟨q1, q2, q3, q4, q5, q6, u1, u2, u3, u4, hnum⟩ := snums h.size n s.size D.length N1 N2 F NN hN1 hN2 hF hNN hn hsz hDlen
  have HNUM := Aside0.mk hnum
  have HX := Lib.hid (And.intro hx hy)
  have HENH := Lib.hid HEN
  clear HEN
  obtain ⟨U, hU, hU0⟩ : ∃ U : Int, IntKind.u64.wrap a = U ∧ 0 ≤ U := ⟨_, rfl, wrapU _⟩
  obtain ⟨V, hV, hV0⟩ : ∃ V : Int, IntKind.u64.wrap b = V ∧ 0 ≤ V := ⟨_, rfl, wrapU _⟩
  obtain ⟨r1, p1, x1, v1, i1, hr1, hr1b, hr1c, hp1, hx1, hx1b, hp1a, hp1b, hx1a, hx1c, HI1, hx1d⟩ := place h.size n s.size D.length NN F U x HNUM.out hU0 HX.out.1
  obtain ⟨r2, p2, x2, v2, i2, hr2, hr2b, hr2c, hp2, hx2, hx2b, hp2a, hp2b, hx2a, hx2c, HI2, hx2d⟩ := place h.size n s.size D.length NN F V y HNUM.out hV0 HX.out.2
  have hNNu : IntKind.u64.wrap NN = NN := wrapN HNUM.out
  have hN0 := ne0 HNUM.out
  have HI1H := Lib.hid HI1
  have HI2H := Lib.hid HI2
  obtain ⟨C1, hC1⟩ : ∃ C1 : Int, ((abc[x1.toNat]'hx1d).toNat : Int) = C1 := ⟨_, rfl⟩
  obtain ⟨C2, hC2⟩ : ∃ C2 : Int, ((abc[x2.toNat]'hx2d).toNat : Int) = C2 := ⟨_, rfl⟩
  have HC1 := Lib.hid (show C1 = ((chr v1).toNat : Int) from by rw [← hC1, chr_at x1 v1 HI1.1])
  have HC2 := Lib.hid (show C2 = ((chr v2).toNat : Int) from by rw [← hC2, chr_at x2 v2 HI2.1])
  clear hU0 hV0 HI1 HI2
  clear hnum hr hdg hh hsm hg hl hlc hlv hn hx hy hl32 hsz hD hs hnn hN1 hN2 hF hNN hDlen
  go_enter Tryd.func3, Tryd.ntmps3
  go_wp2_with (first
    | (go_at_call 5; go_must ((with_reducible refine HRD.out.mono ?_); rintro e w1 ⟨rfl, ⟨m1, rfl⟩⟩; have HB1 := Aside0.mk (pw_below_drewN (Below.refl w.heap.size w) m1)))
    | (go_at_call 6; go_must ((with_reducible refine (HDG.out _ HB1.out).mono ?_); rintro e w1 ⟨rfl, ⟨m2, rfl⟩⟩; have HB2 := Aside0.mk (pw_below_drewN (Below.refl w.heap.size w) (m1 + m2))))
    | (go_at_call 7; go_must ((with_reducible refine (HW.out _ HB2.out).mono ?_); rintro e w3 ⟨ho, hB⟩; have HB3 := Aside0.mk (below_step HB2.out hB); obtain rfl : e = .returned (.tuple #[.string s, .int .i64 0]) := ho.elim (fun z => z.2) (fun z => absurd HSM.out z.1); have hcv := Lib.run_convert_string_bytes (P := Tryd.prog) w3 9 22 5 s Tryd.underlying9 Tryd.underlying22 Tryd.underlying5; have hrw := Rw.conv w3 s; have hbw : Below w.heap.size w (Lib.bytesWorld w3 5 s) := HB3.out.trans ⟨rfl, rfl, rfl, by rw [Lib.bytesWorld_size]; omega, fun k hk => Lib.bytesWorld_at_old w3 5 s k (Nat.lt_of_lt_of_le hk HB3.out.size)⟩; have HWG := Aside0.mk (show w.heap.size ≤ w3.heap.size from HB3.out.size); obtain ⟨cp, hcp⟩ : ∃ cp, grownCap w3 s.size 0 5 = cp := ⟨_, rfl⟩; obtain ⟨W4, hW4⟩ : ∃ W4, Lib.bytesWorld w3 5 s = W4 := ⟨_, rfl⟩; rw [hcp, hW4] at hcv; rw [hW4] at hrw hbw; have HRW := Aside0.mk hrw; have HB4 := Aside0.mk hbw; clear ho hB hrw hbw hcp hW4)))
  have HLZ := Aside0.mk (show s.data.toList.length = s.size from by simp)
  have HP1 := Aside0.mk (show p1.toNat < s.data.toList.length from by rw [HLZ.out]; exact HI1H.out.2.2.2.2)
  have HP2 := Aside0.mk (show p2.toNat < s.data.toList.length from by rw [HLZ.out]; exact HI2H.out.2.2.2.2)
  obtain ⟨zc1, zf1⟩ := HRW.out p1.toNat HP1.out
  have HRW5 := Aside0.mk ((HRW.out.put p1.toNat HP1.out (chr v1)).drew)
  have HB5 := Aside0.mk (show Below w.heap.size w (W4.setCell ⟨w3.heap.size, p1.toNat, none⟩ (.int .u8 C1)).drew from below_drew (HB4.out.setCell (p := ⟨w3.heap.size, p1.toNat, none⟩) HWG.out _))
  rw [← HC1.out] at HRW5
  refine start_ (n := 14) (S := fun w' => True) (ds := [13]) #[false, false, false, false, false, false, false, false, false, false, false, false, false, false] (by kernel_rfl) rfl rfl trivial (fun hHeld => ?_)
  refine pure_ (i := 0) (N := some 77) (v := ?_) (a' := ?_) #[true, false, false, false, false, false, false, false, false, false, false, false, false, false] rfl rfl (by kernel_rfl) (fun _ _ _ h => h) (Or.inl ⟨by rfl, ?_⟩) ?_ ?_
  rotate_left
  · intro w'
    go_simp
    with_reducible rfl
  rotate_left
  · simp only [Act.put, List.setIfInBounds_toArray, List.set_cons_zero, List.set_cons_succ, i64_w, i32_w]
    rfl
  refine pure_ (i := 1) (N := some 78) (v := ?_) (a' := ?_) #[true, true, false, false, false, false, false, false, false, false, false, false, false, false] rfl rfl (by kernel_rfl) (fun _ _ _ h => h) (Or.inl ⟨by rfl, ?_⟩) ?_ ?_
  rotate_left
  · intro w'
    go_simp
    with_reducible rfl
  rotate_left
  · simp only [Act.put, List.setIfInBounds_toArray, List.set_cons_zero, List.set_cons_succ, i64_w, i32_w]
    rfl
  refine pure_ (i := 2) (N := some 79) (v := ?_) (a' := ?_) #[true, true, true, false, false, false, false, false, false, false, false, false, false, false] rfl rfl (by kernel_rfl) (fun _ _ _ h => h) (Or.inl ⟨by rfl, ?_⟩) ?_ ?_
  rotate_left
  · intro w'
    go_simp
    with_reducible rfl
  rotate_left
  · simp only [Act.put, List.setIfInBounds_toArray, List.set_cons_zero, List.set_cons_succ, i64_w, i32_w]
    rfl
  refine pure_ (i := 3) (N := some 80) (v := ?_) (a' := ?_) #[true, true, true, true, false, false, false, false, false, false, false, false, false, false] rfl rfl (by kernel_rfl) (fun _ _ _ h => h) (Or.inl ⟨by rfl, ?_⟩) ?_ ?_
  rotate_left
  · intro w'
    go_simp
    with_reducible rfl
  rotate_left
  · simp only [Act.put, List.setIfInBounds_toArray, List.set_cons_zero, List.set_cons_succ, i64_w, i32_w]
    rfl
  refine pure_ (i := 4) (N := some 81) (v := ?_) (a' := ?_) #[true, true, true, true, true, false, false, false, false, false, false, false, false, false] rfl rfl (by kernel_rfl) (fun _ _ _ h => h) (Or.inl ⟨by rfl, ?_⟩) ?_ ?_
  rotate_left
  · intro w'
    go_simp
    with_reducible rfl
  rotate_left
  · simp only [Act.put, List.setIfInBounds_toArray, List.set_cons_zero, List.set_cons_succ, i64_w, i32_w]
    rfl
  refine pure_ (i := 5) (N := some 82) (v := ?_) (a' := ?_) #[true, true, true, true, true, true, false, false, false, false, false, false, false, false] rfl rfl (by kernel_rfl) (fun _ _ _ h => h) (Or.inl ⟨by rfl, ?_⟩) ?_ ?_
  rotate_left
  · intro w'
    go_simp
    with_reducible rfl
  rotate_left
  · simp only [Act.put, List.setIfInBounds_toArray, List.set_cons_zero, List.set_cons_succ, i64_w, i32_w]
    rfl
  refine pure_ (i := 6) (N := some 83) (v := ?_) (a' := ?_) #[true, true, true, true, true, true, true, false, false, false, false, false, false, false] rfl rfl (by kernel_rfl) (fun _ _ _ h => h) (Or.inl ⟨by rfl, ?_⟩) ?_ ?_
  rotate_left
  · intro w'
    go_simp
    with_reducible rfl
  rotate_left
  · simp only [Act.put, List.setIfInBounds_toArray, List.set_cons_zero, List.set_cons_succ, i64_w, i32_w]
    rfl
  refine pure_ (i := 7) (N := some 84) (v := ?_) (a' := ?_) #[true, true, true, true, true, true, true, true, false, false, false, false, false, false] rfl rfl (by kernel_rfl) (fun _ _ _ h => h) (Or.inl ⟨by rfl, ?_⟩) ?_ ?_
  rotate_left
  · intro w'
    go_simp
    with_reducible rfl
  rotate_left
  · simp only [Act.put, List.setIfInBounds_toArray, List.set_cons_zero, List.set_cons_succ, i64_w, i32_w]
    rfl
  refine pure_ (i := 8) (N := some 85) (v := ?_) (a' := ?_) #[true, true, true, true, true, true, true, true, true, false, false, false, false, false] rfl rfl (by kernel_rfl) (fun _ _ _ h => h) (Or.inl ⟨by rfl, ?_⟩) ?_ ?_
  rotate_left
  · intro w'
    go_simp
    with_reducible rfl
  rotate_left
  · simp only [Act.put, List.setIfInBounds_toArray, List.set_cons_zero, List.set_cons_succ, i64_w, i32_w]
    rfl
  refine pure_ (i := 9) (N := some 86) (v := ?_) (a' := ?_) #[true, true, true, true, true, true, true, true, true, true, false, false, false, false] rfl rfl (by kernel_rfl) (fun _ _ _ h => h) (Or.inl ⟨by rfl, ?_⟩) ?_ ?_
  rotate_left
  · intro w'
    go_simp
    with_reducible rfl
  rotate_left
  · simp only [Act.put, List.setIfInBounds_toArray, List.set_cons_zero, List.set_cons_succ, i64_w, i32_w]
    rfl
  refine pure_ (i := 10) (N := some 87) (v := ?_) (a' := ?_) #[true, true, true, true, true, true, true, true, true, true, true, false, false, false] rfl rfl (by kernel_rfl) (fun _ _ _ h => h) (Or.inl ⟨by rfl, ?_⟩) ?_ ?_
  rotate_left
  · intro w'
    go_simp
    with_reducible rfl
  rotate_left
  · simp only [Act.put, List.setIfInBounds_toArray, List.set_cons_zero, List.set_cons_succ, i64_w, i32_w]
    rfl
  refine take_ (i := 11) (N := some 88) (v := ?_) (a' := ?_) #[true, true, true, true, true, true, true, true, true, true, true, true, false, false] rfl rfl (by kernel_rfl) (fun _ _ _ h => h) (Or.inl ⟨by rfl, ?_⟩) hHeld ?_ ?_
  rotate_left
  · intro w' _
    go_simp
    with_reducible rfl
  rotate_left
  · simp only [Act.put, List.setIfInBounds_toArray, List.set_cons_zero, List.set_cons_succ, i64_w, i32_w]
    rfl
  refine pure_ (i := 12) (N := some 89) (v := ?_) (a' := ?_) #[true, true, true, true, true, true, true, true, true, true, true, true, true, false] rfl rfl (by kernel_rfl) (fun _ _ _ h => h) (Or.inl ⟨by rfl, ?_⟩) ?_ ?_
  rotate_left
  · intro w'
    go_simp
    with_reducible rfl
  rotate_left
  · simp only [Act.put, List.setIfInBounds_toArray, List.set_cons_zero, List.set_cons_succ, i64_w, i32_w]
    rfl
  refine last_ (i := 13) (N := none) #[true, true, true, true, true, true, true, true, true, true, true, true, true, true] rfl rfl (by kernel_rfl) (by decide) (fun K hK => ?_)
  refine skip_ (w1 := ?_) (by rfl) rfl ?_ ?_
  rotate_left
  · go_simp
    rfl
  refine hK.out _ _ ?_
  clear hK K
  refine done_ (by kernel_rfl) ?_
  generalize (W4.setCell ⟨w3.heap.size, p1.toNat, none⟩ (.int .u8 C1)).drew = W5 at HRW5 HB5 ⊢
  clear zc1 zf1
  obtain ⟨zc2, zf2⟩ := HRW5.out p2.toNat (by rw [List.length_set]; exact HP2.out)
  have HRW6 := Aside0.mk ((HRW5.out.put p2.toNat (by rw [List.length_set]; exact HP2.out) (chr v2)).drew)
  have HB6 := Aside0.mk (show Below w.heap.size w (W5.setCell ⟨w3.heap.size, p2.toNat, none⟩ (.int .u8 C2)).drew from below_drew (HB5.out.setCell (p := ⟨w3.heap.size, p2.toNat, none⟩) HWG.out _))
  rw [← HC2.out] at HRW6
  go_wp2
  refine start_ (n := 14) (S := fun w' => True) (ds := [13]) #[false, false, false, false, false, false, false, false, false, false, false, false, false, false] (by kernel_rfl) rfl rfl trivial (fun hHeld => ?_)
  refine pure_ (i := 0) (N := some 90) (v := ?_) (a' := ?_) #[true, false, false, false, false, false, false, false, false, false, false, false, false, false] rfl rfl (by kernel_rfl) (fun _ _ _ h => h) (Or.inl ⟨by rfl, ?_⟩) ?_ ?_
  rotate_left
  · intro w'
    go_simp
    with_reducible rfl
  rotate_left
  · simp only [Act.put, List.setIfInBounds_toArray, List.set_cons_zero, List.set_cons_succ, i64_w, i32_w]
    rfl
  refine pure_ (i := 1) (N := some 91) (v := ?_) (a' := ?_) #[true, true, false, false, false, false, false, false, false, false, false, false, false, false] rfl rfl (by kernel_rfl) (fun _ _ _ h => h) (Or.inl ⟨by rfl, ?_⟩) ?_ ?_
  rotate_left
  · intro w'
    go_simp
    with_reducible rfl
  rotate_left
  · simp only [Act.put, List.setIfInBounds_toArray, List.set_cons_zero, List.set_cons_succ, i64_w, i32_w]
    rfl
  refine pure_ (i := 2) (N := some 92) (v := ?_) (a' := ?_) #[true, true, true, false, false, false, false, false, false, false, false, false, false, false] rfl rfl (by kernel_rfl) (fun _ _ _ h => h) (Or.inl ⟨by rfl, ?_⟩) ?_ ?_
  rotate_left
  · intro w'
    go_simp
    with_reducible rfl
  rotate_left
  · simp only [Act.put, List.setIfInBounds_toArray, List.set_cons_zero, List.set_cons_succ, i64_w, i32_w]
    rfl
  refine pure_ (i := 3) (N := some 93) (v := ?_) (a' := ?_) #[true, true, true, true, false, false, false, false, false, false, false, false, false, false] rfl rfl (by kernel_rfl) (fun _ _ _ h => h) (Or.inl ⟨by rfl, ?_⟩) ?_ ?_
  rotate_left
  · intro w'
    go_simp
    with_reducible rfl
  rotate_left
  · simp only [Act.put, List.setIfInBounds_toArray, List.set_cons_zero, List.set_cons_succ, i64_w, i32_w]
    rfl
  refine pure_ (i := 4) (N := some 94) (v := ?_) (a' := ?_) #[true, true, true, true, true, false, false, false, false, false, false, false, false, false] rfl rfl (by kernel_rfl) (fun _ _ _ h => h) (Or.inl ⟨by rfl, ?_⟩) ?_ ?_
  rotate_left
  · intro w'
    go_simp
    with_reducible rfl
  rotate_left
  · simp only [Act.put, List.setIfInBounds_toArray, List.set_cons_zero, List.set_cons_succ, i64_w, i32_w]
    rfl
  refine pure_ (i := 5) (N := some 95) (v := ?_) (a' := ?_) #[true, true, true, true, true, true, false, false, false, false, false, false, false, false] rfl rfl (by kernel_rfl) (fun _ _ _ h => h) (Or.inl ⟨by rfl, ?_⟩) ?_ ?_
  rotate_left
  · intro w'
    go_simp
    with_reducible rfl
  rotate_left
  · simp only [Act.put, List.setIfInBounds_toArray, List.set_cons_zero, List.set_cons_succ, i64_w, i32_w]
    rfl
  refine pure_ (i := 6) (N := some 96) (v := ?_) (a' := ?_) #[true, true, true, true, true, true, true, false, false, false, false, false, false, false] rfl rfl (by kernel_rfl) (fun _ _ _ h => h) (Or.inl ⟨by rfl, ?_⟩) ?_ ?_
  rotate_left
  · intro w'
    go_simp
    with_reducible rfl
  rotate_left
  · simp only [Act.put, List.setIfInBounds_toArray, List.set_cons_zero, List.set_cons_succ, i64_w, i32_w]
    rfl
  refine pure_ (i := 7) (N := some 97) (v := ?_) (a' := ?_) #[true, true, true, true, true, true, true, true, false, false, false, false, false, false] rfl rfl (by kernel_rfl) (fun _ _ _ h => h) (Or.inl ⟨by rfl, ?_⟩) ?_ ?_
  rotate_left
  · intro w'
    go_simp
    with_reducible rfl
  rotate_left
  · simp only [Act.put, List.setIfInBounds_toArray, List.set_cons_zero, List.set_cons_succ, i64_w, i32_w]
    rfl
  refine pure_ (i := 8) (N := some 98) (v := ?_) (a' := ?_) #[true, true, true, true, true, true, true, true, true, false, false, false, false, false] rfl rfl (by kernel_rfl) (fun _ _ _ h => h) (Or.inl ⟨by rfl, ?_⟩) ?_ ?_
  rotate_left
  · intro w'
    go_simp
    with_reducible rfl
  rotate_left
  · simp only [Act.put, List.setIfInBounds_toArray, List.set_cons_zero, List.set_cons_succ, i64_w, i32_w]
    rfl
  refine pure_ (i := 9) (N := some 99) (v := ?_) (a' := ?_) #[true, true, true, true, true, true, true, true, true, true, false, false, false, false] rfl rfl (by kernel_rfl) (fun _ _ _ h => h) (Or.inl ⟨by rfl, ?_⟩) ?_ ?_
  rotate_left
  · intro w'
    go_simp
    with_reducible rfl
  rotate_left
  · simp only [Act.put, List.setIfInBounds_toArray, List.set_cons_zero, List.set_cons_succ, i64_w, i32_w]
    rfl
  refine pure_ (i := 10) (N := some 100) (v := ?_) (a' := ?_) #[true, true, true, true, true, true, true, true, true, true, true, false, false, false] rfl rfl (by kernel_rfl) (fun _ _ _ h => h) (Or.inl ⟨by rfl, ?_⟩) ?_ ?_
  rotate_left
  · intro w'
    go_simp
    with_reducible rfl
  rotate_left
  · simp only [Act.put, List.setIfInBounds_toArray, List.set_cons_zero, List.set_cons_succ, i64_w, i32_w]
    rfl
  refine take_ (i := 11) (N := some 101) (v := ?_) (a' := ?_) #[true, true, true, true, true, true, true, true, true, true, true, true, false, false] rfl rfl (by kernel_rfl) (fun _ _ _ h => h) (Or.inl ⟨by rfl, ?_⟩) hHeld ?_ ?_
  rotate_left
  · intro w' _
    go_simp
    with_reducible rfl
  rotate_left
  · simp only [Act.put, List.setIfInBounds_toArray, List.set_cons_zero, List.set_cons_succ, i64_w, i32_w]
    rfl
  refine pure_ (i := 12) (N := some 102) (v := ?_) (a' := ?_) #[true, true, true, true, true, true, true, true, true, true, true, true, true, false] rfl rfl (by kernel_rfl) (fun _ _ _ h => h) (Or.inl ⟨by rfl, ?_⟩) ?_ ?_
  rotate_left
  · intro w'
    go_simp
    with_reducible rfl
  rotate_left
  · simp only [Act.put, List.setIfInBounds_toArray, List.set_cons_zero, List.set_cons_succ, i64_w, i32_w]
    rfl
  refine last_ (i := 13) (N := none) #[true, true, true, true, true, true, true, true, true, true, true, true, true, true] rfl rfl (by kernel_rfl) (by decide) (fun K hK => ?_)
  refine skip_ (w1 := ?_) (by rfl) rfl ?_ ?_
  rotate_left
  · go_simp
    rfl
  refine hK.out _ _ ?_
  clear hK K
  refine done_ (by kernel_rfl) ?_
  generalize (W5.setCell ⟨w3.heap.size, p2.toNat, none⟩ (.int .u8 C2)).drew = W6 at HRW6 HB6 ⊢
  clear zc2 zf2
  obtain ⟨D2, hD2⟩ : ∃ D2, (D.set i1 v1).set i2 v2 = D2 := ⟨_, rfl⟩
  have hD2l : D2.length = D.length := by rw [← hD2, List.length_set, List.length_set]
  have hl6 : (s.data.toList.set p1.toNat (chr v1)).set p2.toNat (chr v2) = (cat h D2).data.toList := by
    rw [HENH.out, HI1H.out.2.2.2.1, HI2H.out.2.2.2.1, cat_set, cat_set, hD2]
  have hd32 : ∀ v ∈ D2, v < 32 := fun v hv => by
    rw [← hD2] at hv
    rcases List.mem_or_eq_of_mem_set hv with hv | rfl
    · rcases List.mem_or_eq_of_mem_set hv with hv | rfl
      · exact HDL.out v hv
      · exact HI1H.out.2.1
    · exact HI2H.out.2.1
  have HNE := Lib.hid (fun hne : D2 ≠ D => spoilt h D i1 i2 v1 v2 734539939 HDL.out (bound HNUM.out) HI1H.out.2.2.1 HI2H.out.2.2.1 HI1H.out.2.1 HI2H.out.2.1 HSUM.out (by rw [hD2]; exact hne))
  rw [hD2] at HNE
  rw [hl6] at HRW6
  have hlen6 : (cat h D2).data.toList.length = s.size := by rw [← hl6, List.length_set, List.length_set, HLZ.out]
  have hbk := run_convert_bytes_back (P := Tryd.prog) W6 22 9 5 ⟨w3.heap.size, 0, none⟩ cp (cat h D2).data.toList Tryd.underlying22 Tryd.underlying5 Tryd.underlying9 (fun j hj => by
    rw [add_plain, (HRW6.out j hj).1]
    rw [List.getD_eq_getElem?_getD, List.getElem?_eq_getElem hj]
    rfl)
  rw [hlen6, show (⟨(cat h D2).data.toList.toArray⟩ : ByteArray) = cat h D2 from by cases (cat h D2); simp] at hbk
  have HR6 := Lib.hid (HRE.out D2 W6 HB6.out hd32 (hD2l.trans HNUM.out.2.1))
  have HSS := Lib.hid (show cat h D2 ≠ s → D2 ≠ D from fun hne he => hne (by rw [he, HENH.out]))
  obtain ⟨s2, hs2⟩ : ∃ s2, cat h D2 = s2 := ⟨_, rfl⟩
  rw [hs2] at hbk HR6 HSS
  clear hD2 hD2l hl6 hd32 hlen6 hs2 HRW6 HRW5 HRW
  unfold ROut at HR6
  by_cases hc : s2 = s
  · subst hc
    go_wp2
    go_ret
    exact ⟨rfl, by first | exact HB6.out | exact below_drew HB6.out⟩
  · have hc1 := decide_eq_false hc
    have hc2 := eq_false hc
    have hc3 := (Lib.bytes_beq_false_iff s2 s).2 hc
    have HP := Aside0.mk (HNE.out (HSS.out hc))
    clear hc
    go_wp2_with (first
      | (go_at_call 8; go_must ((with_reducible refine HR6.out.mono ?_); rintro e w7 ⟨⟨P, hP, ho⟩, hB⟩; have HB7 := Aside0.mk (HB6.out.trans (hB.mono HB6.out.size)); rcases ho with ⟨hp, A7, c7, rfl, _, _⟩ | ⟨hp, A7, c7, rfl, _, _⟩ | ⟨hp, hp2, x7, y7, z7, rfl⟩ <;> (have HPP := Aside0.mk (And.intro hP hp)) <;> clear hP hB)))
    · go_ret
      exact ⟨by first | rfl | (simp; done), HB7.out⟩
    · exact absurd (HPP.out.1.trans HPP.out.2) HP.out
    · go_ret
      exact ⟨by first | rfl | (simp; done), HB7.out⟩
set_option maxHeartbeats 8000000 in
set_option maxRecDepth 100000 in
theorem spoilt_big (h : ByteArray) (A : Option Addr) (n c1 : Nat) (m : Bool) (a b x y : Int) (w : World) (hb : 2147483647 < h.size ∨ 2147483647 < n) :
    Calls Tryd.prog 3 #[.string h, .slice A n c1, .bool m, .int .i64 a, .int .i64 b, .int .u8 x, .int .u8 y] w fun e w' => e = .returned (.bool true) ∧ Below w.heap.size w w' := by
  by_cases h1 : 2147483647 < h.size
  · have q1 : decide ((2147483647 : Int) < (h.size : Int)) = true := decide_eq_true (by omega)
    have q2 := eq_true h1
    clear h1 hb
    go_enter Tryd.func3, Tryd.ntmps3
    go_wp2
    go_ret
    exact ⟨rfl, by first | exact Below.refl _ _ | exact below_drew (Below.refl _ _)⟩
  · have q1 : decide ((2147483647 : Int) < (h.size : Int)) = false := decide_eq_false (by omega)
    have q2 := eq_false h1
    have q3 : decide ((2147483647 : Int) < (n : Int)) = true := decide_eq_true (by omega)
    have q4 := eq_true (show 2147483647 < n by omega)
    clear h1 hb
    go_enter Tryd.func3, Tryd.ntmps3
    go_wp2
    go_ret
    exact ⟨rfl, by first | exact Below.refl _ _ | exact below_drew (Below.refl _ _)⟩
set_option maxHeartbeats 8000000 in
set_option maxRecDepth 100000 in
theorem spoilt_unread (h : ByteArray) (A : Option Addr) (n c1 : Nat) (m : Bool) (a b x y : Int) (w : World) (hz : h.size ≤ 2147483647 ∧ n ≤ 2147483647) (k : Nat) (hr : PFnWriteBech32.laws_readable.f k h = some false) :
    Calls Tryd.prog 3 #[.string h, .slice A n c1, .bool m, .int .i64 a, .int .i64 b, .int .u8 x, .int .u8 y] w fun e w' => e = .returned (.bool true) ∧ Below w.heap.size w w' := by
  have HRD := Lib.hid (PFnWriteBech32.laws_readable.calls k h false w hr)
  have q1 : decide ((2147483647 : Int) < (h.size : Int)) = false := decide_eq_false (by omega)
  have q2 := eq_false (show ¬ 2147483647 < h.size by omega)
  have q3 : decide ((2147483647 : Int) < (n : Int)) = false := decide_eq_false (by omega)
  have q4 := eq_false (show ¬ 2147483647 < n by omega)
  clear hz hr
  go_enter Tryd.func3, Tryd.ntmps3
  go_wp2_with (first
    | (go_at_call 5; go_must ((with_reducible refine HRD.out.mono ?_); rintro e w1 ⟨rfl, ⟨m1, rfl⟩⟩; have HB1 := Aside0.mk (pw_below_drewN (Below.refl w.heap.size w) m1))))
  go_ret
  exact ⟨rfl, HB1.out⟩
set_option maxHeartbeats 8000000 in
set_option maxRecDepth 100000 in
theorem spoilt_undig (h : ByteArray) (A : Option Addr) (c1 : Nat) (l : List Int) (m : Bool) (a b x y : Int) (w : World) (hl : Kd.C (Kd.int .u8) w A l.length l) (hlc : l.length ≤ c1) (hz : h.size ≤ 2147483647 ∧ l.length ≤ 2147483647) (k k2 : Nat) (hr : PFnWriteBech32.laws_readable.f k h = some true) (hd : PFnWriteBech32.laws_digits.f k2 l = some false) :
    Calls Tryd.prog 3 #[.string h, .slice A l.length c1, .bool m, .int .i64 a, .int .i64 b, .int .u8 x, .int .u8 y] w fun e w' => e = .returned (.bool true) ∧ Below w.heap.size w w' := by
  have HRD := Lib.hid (PFnWriteBech32.laws_readable.calls k h true w hr)
  have HDG := Lib.hid (fun (W : World) (hW : Below w.heap.size w W) => PFnWriteBech32.laws_digits.calls k2 A c1 l false W (Kd.C_below hl hW) hlc hd)
  obtain ⟨n, hnn⟩ : ∃ n, l.length = n := ⟨_, rfl⟩
  rw [hnn] at HDG hz ⊢
  have q1 : decide ((2147483647 : Int) < (h.size : Int)) = false := decide_eq_false (by omega)
  have q2 := eq_false (show ¬ 2147483647 < h.size by omega)
  have q3 : decide ((2147483647 : Int) < (n : Int)) = false := decide_eq_false (by omega)
  have q4 := eq_false (show ¬ 2147483647 < n by omega)
  clear hz hr hd hl hlc hnn
  go_enter Tryd.func3, Tryd.ntmps3
  go_wp2_with (first
    | (go_at_call 5; go_must ((with_reducible refine HRD.out.mono ?_); rintro e w1 ⟨rfl, ⟨m1, rfl⟩⟩; have HB1 := Aside0.mk (pw_below_drewN (Below.refl w.heap.size w) m1)))
    | (go_at_call 6; go_must ((with_reducible refine (HDG.out _ HB1.out).mono ?_); rintro e w1 ⟨rfl, ⟨m2, rfl⟩⟩; have HB2 := Aside0.mk (pw_below_drewN (Below.refl w.heap.size w) (m1 + m2)))))
  go_ret
  exact ⟨rfl, HB2.out⟩
set_option maxHeartbeats 8000000 in
set_option maxRecDepth 100000 in
theorem spoilt_long (h : ByteArray) (A : Option Addr) (c1 : Nat) (l : List Int) (m : Bool) (a b x y : Int) (w : World) (hl : Kd.C (Kd.int .u8) w A l.length l) (hlc : l.length ≤ c1) (hz : h.size ≤ 2147483647 ∧ l.length ≤ 2147483647) (k k2 : Nat) (hr : PFnWriteBech32.laws_readable.f k h = some true) (hd : PFnWriteBech32.laws_digits.f k2 l = some true) (hb : 90 < h.size + l.length + 7) :
    Calls Tryd.prog 3 #[.string h, .slice A l.length c1, .bool m, .int .i64 a, .int .i64 b, .int .u8 x, .int .u8 y] w fun e w' => e = .returned (.bool true) ∧ Below w.heap.size w w' := by
  have HRD := Lib.hid (PFnWriteBech32.laws_readable.calls k h true w hr)
  have HDG := Lib.hid (fun (W : World) (hW : Below w.heap.size w W) => PFnWriteBech32.laws_digits.calls k2 A c1 l true W (Kd.C_below hl hW) hlc hd)
  obtain ⟨n, hnn⟩ : ∃ n, l.length = n := ⟨_, rfl⟩
  rw [hnn] at HDG hz hb ⊢
  have q1 : decide ((2147483647 : Int) < (h.size : Int)) = false := decide_eq_false (by omega)
  have q2 := eq_false (show ¬ 2147483647 < h.size by omega)
  have q3 : decide ((2147483647 : Int) < (n : Int)) = false := decide_eq_false (by omega)
  have q4 := eq_false (show ¬ 2147483647 < n by omega)
  obtain ⟨N1, hN1⟩ : ∃ N1 : Int, (h.size : Int) + (n : Int) = N1 := ⟨_, rfl⟩
  obtain ⟨N2, hN2⟩ : ∃ N2 : Int, N1 + 7 = N2 := ⟨_, rfl⟩
  have q5 : decide ((90 : Int) < N2) = true := decide_eq_true (by omega)
  have u1 : wrap64 ((h.size : Int) + (n : Int)) = N1 := (wrap64_id (by omega) (by omega)).trans hN1
  have hu : -9223372036854775808 ≤ N1 + 7 ∧ N1 + 7 ≤ 9223372036854775807 := by clear u1 q1 q3 q5; omega
  have u2 : wrap64 (N1 + 7) = N2 := (wrap64_id hu.1 hu.2).trans hN2
  clear hz hr hd hl hlc hnn hb hN1 hN2 hu
  go_enter Tryd.func3, Tryd.ntmps3
  go_wp2_with (first
    | (go_at_call 5; go_must ((with_reducible refine HRD.out.mono ?_); rintro e w1 ⟨rfl, ⟨m1, rfl⟩⟩; have HB1 := Aside0.mk (pw_below_drewN (Below.refl w.heap.size w) m1)))
    | (go_at_call 6; go_must ((with_reducible refine (HDG.out _ HB1.out).mono ?_); rintro e w1 ⟨rfl, ⟨m2, rfl⟩⟩; have HB2 := Aside0.mk (pw_below_drewN (Below.refl w.heap.size w) (m1 + m2)))))
  go_ret
  exact ⟨rfl, HB2.out⟩
/-- The law. -/
theorem spoilt_law (h : ByteArray) (A : Option Addr) (c1 : Nat) (l : List Int) (m : Bool) (a b x y : Int) (w : World) (hg : GenB w.heap.size w) (hl : Kd.C (Kd.int .u8) w A l.length l) (hlc : l.length ≤ c1) (hlv : ∀ v ∈ l, 0 ≤ v ∧ v < 256) (hx : 0 ≤ x ∧ x < 256) (hy : 0 ≤ y ∧ y < 256) :
    Calls Tryd.prog 3 #[.string h, .slice A l.length c1, .bool m, .int .i64 a, .int .i64 b, .int .u8 x, .int .u8 y] w fun e w' => e = .returned (.bool true) ∧ Below w.heap.size w w' := by
  by_cases hb : 2147483647 < h.size ∨ 2147483647 < l.length
  · exact spoilt_big h A l.length c1 m a b x y w hb
  have hz : h.size ≤ 2147483647 ∧ l.length ≤ 2147483647 := by omega
  obtain ⟨r1, hr1, hr2⟩ := readable_f h hz.1
  cases r1 with
  | false => exact spoilt_unread h A l.length c1 m a b x y w hz _ hr1
  | true =>
    obtain ⟨r2, hd1, hd2, hd3⟩ := digits_f l hz.2
    cases r2 with
    | false => exact spoilt_undig h A c1 l m a b x y w hl hlc hz _ _ hr1 hd1
    | true =>
      by_cases hn : 90 < h.size + l.length + 7
      · exact spoilt_long h A c1 l m a b x y w hl hlc hz _ _ hr1 hd1 hn
      · cases m with
        | false => exact spoilt_false h A c1 l a b x y w hr1 hd1 (hr2 rfl) (hd2 rfl) hg hl hlc hlv (by omega) hx hy
        | true => exact spoilt_true h A c1 l a b x y w hr1 hd1 (hr2 rfl) (hd2 rfl) hg hl hlc hlv (by omega) hx hy
end Go.Proofs.YtciocjaelmnhiaaDoor.Bp
