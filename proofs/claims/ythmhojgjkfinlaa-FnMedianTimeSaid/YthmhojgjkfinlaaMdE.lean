/-
  spec.MedianTime.
-/
import Derived.Test.YthmhojgjkfinlaaMdD
namespace Go.Proofs.Ythmhojgjkfinlaa.Md
open Go.RowKit Go.Proofs.YthmhojgjkfinlaaW.PrintWords Go.Proofs.YthmhojgjkfinlaaW.PrintLast Go.Proofs.YthmhojgjkfinlaaW.PrintMore Go.Proofs.Ythmhojgjkfinlaa.Reg
set_option linter.unusedSimpArgs false
set_option linter.unusedVariables false

set_option maxHeartbeats 8000000 in
set_option maxRecDepth 100000 in
theorem spec_calls (A : Option Addr) (c : Nat) (l : List Int) (w : World) (h : Kd.C (Kd.int .i64) w A l.length l) (hc : l.length ≤ c) (hl : 1 ≤ l.length ∧ l.length ≤ 1000) :
    Calls Try.prog 9 #[.slice A l.length c] w fun e w' => e = .returned (.int .i64 (med l)) ∧ Below w.heap.size w w' := by
  obtain ⟨ji, hji⟩ : ∃ j : Int, (if 11 < (l.length : Int) then 11 else (l.length : Int)) = j := ⟨_, rfl⟩
  obtain ⟨m, hm⟩ : ∃ m, ji.toNat = m := ⟨_, rfl⟩
  have hj : ji = ((min l.length 11 : Nat) : Int) := by rw [← hji]; split <;> omega
  have HMJ := Aside0.mk (show m = min l.length 11 ∧ 1 ≤ m ∧ m ≤ 11 ∧ ji = (m : Int) from by omega)
  have j0 : 0 ≤ ji := by omega
  have j1 : ji ≤ (l.length : Int) := by omega
  obtain ⟨i08, hi08, hz8⟩ := Option.map_eq_some_iff.1 PFnMedianTime.info2
  simp only [Prod.mk.injEq] at hz8
  obtain ⟨hz1, hsz8, hz3⟩ := hz8
  obtain ⟨hcut8, hA8, hC8⟩ := print_take_of (P := Try.prog) (Value.int .i64) 0 27 2 .i64 Try.underlying27 hi08 hsz8 A c l ji j0 j1 hc
  have HR := Aside0.mk (Kd.C_of_reads (h1 := fun _ => rfl) (hA8 _ (Kd.reads_of_C h)))
  have HX := Aside0.mk (show l.take ji.toNat = l.take m ∧ (l.take m).length = m from ⟨by rw [hm], by rw [List.length_take]; omega⟩)
  have HB := Aside0.mk (Below.refl w.heap.size w)
  rw [HX.out.1, HX.out.2] at hcut8
  rw [HX.out.1, HX.out.2] at HR
  have HLM := Aside0.mk HX.out.2
  have hcut := hcut8
  obtain ⟨y, hy⟩ : ∃ y, l.take m = y := ⟨_, rfl⟩
  rw [hy] at HR HLM
  have HMD := Aside0.mk (show rd (srt y m) ((m / 2 : Nat) : Int) = med l from by rw [← hy, HMJ.out.1]; rfl)
  clear hA8 hC8 hi08 hsz8 hj h hc hl j0 j1 hz1 hz3 hcut8 HX hy hm
  have HL2 := Aside0.mk (show m = min l.length 11 from HMJ.out.1)
  obtain ⟨n, hn⟩ : ∃ n, l.length = n := ⟨_, rfl⟩
  rw [hn] at hcut hji ⊢
  clear hn
  go_enter Try.func9, Try.ntmps9
  go_wp2_with (first
    | ((with_reducible refine gate_dst (N := 5) rfl ?_); go_must (refine Kd.R_lit (Kd.int .i64) _ 2 ?hg (N := 5) ?hd (xs := ([] : List Int)) (inner := []) (ok := fun _ => True) (okp := fun _ => True) ?hr ?hp (fun _ hk => hk) trivial (Below.refl _ _) (Nat.le_refl _) (by simp) ?_); (case hd => rfl); (case hg => rfl); (case hr => first | (go_simp; done) | (go_simp; rfl)); (case hp => exact (Reps.none _ _)); intro v6 w6 ho hb hg_ hnew_; clear hg_ hnew_; have HO := Aside0.mk (Kd.R_lower ho (Nat.le_refl _)); have n1_ := Aside0.mk (below_step HB.out hb); clear HB ho hb; have HB := n1_; clear n1_)
    | ((with_reducible refine gate_builtin (b := .append) (xs := #[.tmp 5, .tmp 10]) rfl ?_); at_builtin; go_must (refine Kd.R_append_rows (Kd.int .i64) (w0 := w) w.heap.size rfl (.tmp 5) (.tmp 10) 27 2 (.int .i64 0) 8 rfl Try.underlying27 PFnMedianTime.info2 rfl (by decide) (by omega) v6 [] y A m c (fun _ => True) (fun _ => False) rfl rfl HO.out ?aR (fun _ _ h => h) (fun _ h => h.elim) (fun _ _ => trivial) HB.out HB.out.size ?aL ?_); go_must (case aR => first | exact (Kd.C_below HR.out HB.out) | (rw [HLM.out]; exact (Kd.C_below HR.out HB.out))); go_must (case aL => have := HMJ.out; have := HLM.out; simp; omega); intro v9 w9 ho hb hg hat; rw [List.nil_append] at ho; obtain ⟨G, cc, rfl, hG1, hG2, hG3⟩ := Kd.R_form ho (by have := HMJ.out; have := HLM.out; omega); have ho2 := Kd.R_mono (ok' := fun k => w.heap.size ≤ k) (Kd.R_bound ho) (fun k hk => hk.2.1); rw [HLM.out] at ho2; have HV := Aside0.mk (show Inv w.heap.size G m cc y w w9 from ⟨ho2, hb, hG1, Nat.le_refl _⟩); clear ho ho2 hb hg hat hG1 hG2 hG3; go_must (rw [HLM.out])))
  clear HO HR hcut hji HB
  go_loopg [14] (m + 1) (fun kq v14 w' => ∃ i : Int, v14 = .int .i64 i ∧ Aside0 (0 ≤ i ∧ i ≤ m ∧ i.toNat + kq = m + 1) ∧ Aside0 (Inv w.heap.size G m cc (srt y i.toNat) w w'))
  case atStart => exact ⟨0, rfl, ⟨by decide, by omega, by show 0 + (m + 1) = m + 1; omega⟩, ⟨HV.out⟩⟩
  case round =>
    clear HV
    obtain ⟨i, rfl, HI, HV⟩ := hrel
    obtain ⟨k1, rfl⟩ : ∃ k1, gk = k1 + 1 := ⟨gk - 1, by have := HI.out; omega⟩
    by_cases ci : i < (m : Int)
    · have cb : decide (i < (m : Int)) = true := decide_eq_true ci
      have q0 := eq_true ci
      have HCI := Aside0.mk ci
      have hwi : wrap64 (i + 1) = i + 1 := wrap64_id (by have := HI.out; have := HMJ.out; omega) (by have := HI.out; have := HMJ.out; omega)
      clear ci
      go_wp2
      go_loopg [4] (i.toNat + 1) (fun kq v7 w' => ∃ (j : Int) (x : List Int), v7 = .int .i64 j ∧ Aside0 (0 ≤ j ∧ j ≤ i ∧ j.toNat + 1 ≤ kq) ∧ Aside0 (Inv w.heap.size G m cc x w w') ∧ Aside0 (sink x j.toNat = srt y (i + 1).toNat))
      case atStart => exact ⟨i, _, rfl, ⟨by have := HI.out; omega, by omega, by omega⟩, HV, ⟨by rw [show (i + 1).toNat = i.toNat + 1 by have := HI.out; omega]; rfl⟩⟩
      case round =>
        clear HV
        obtain ⟨j, x, rfl, HJ, HV, HS⟩ := hrel
        obtain ⟨k2, rfl⟩ : ∃ k2, gk = k2 + 1 := ⟨gk - 1, by have := HJ.out; omega⟩
        by_cases cj : 0 < j
        · have cjb : decide (0 < j) = true := decide_eq_true cj
          have q1 := eq_true cj
          obtain ⟨j1, hj1⟩ : ∃ j1 : Int, j - 1 = j1 := ⟨_, rfl⟩
          have hwj : wrap64 (j - 1) = j1 := by rw [hj1]; exact wrap64_id (by have := HJ.out; have := HCI.out; have := HMJ.out; omega) (by have := HJ.out; have := HCI.out; have := HMJ.out; omega)
          have HJJ := Aside0.mk (And.intro cj hj1)
          have HB := Aside0.mk (show (0 ≤ j ∧ j < (m : Int)) ∧ (0 ≤ j1 ∧ j1 < (m : Int)) from by have := HJ.out; have := HCI.out; omega)
          have p1 := eq_true HB.out.1.1
          have p2 := eq_true HB.out.1.2
          have p3 := eq_true HB.out.2.1
          have p4 := eq_true HB.out.2.2
          obtain ⟨z1, f1⟩ := HV.out.cell j HB.out.1.1 HB.out.1.2
          obtain ⟨z2, f2⟩ := HV.out.cell j1 HB.out.2.1 HB.out.2.2
          clear cj hj1
          by_cases cl : rd x j < rd x j1
          · have HSG := Aside0.mk (show sink (swp x j j1) j1.toNat = srt y (i + 1).toNat from by rw [← sink_go x j j1 HJJ.out.1 HJJ.out.2 cl]; exact HS.out)
            have hcl := decide_eq_true cl
            have hcl2 := eq_true cl
            have H2 := HV.out.put j (rd x j1)
            obtain ⟨z3, f3⟩ := H2.cell j1 HB.out.2.1 HB.out.2.2
            have H3 := Aside0.mk (H2.put j1 (rd x j))
            rw [show (x.set j.toNat (rd x j1)).set j1.toNat (rd x j) = swp x j j1 from rfl] at H3
            obtain ⟨a, ha⟩ : ∃ a, rd x j = a := ⟨_, rfl⟩
            obtain ⟨b, hb⟩ : ∃ b, rd x j1 = b := ⟨_, rfl⟩
            obtain ⟨x3, hx3⟩ : ∃ x3, rd (x.set j.toNat (rd x j1)) j1 = x3 := ⟨_, rfl⟩
            rw [hx3] at z3
            rw [ha] at z1 hcl hcl2 H3
            rw [hb] at z2 hcl hcl2 H3 z3 f3
            have HW := Aside0.mk (And.intro z1 (And.intro z2 (And.intro f1 (And.intro f2 (And.intro z3 f3)))))
            clear cl H2 ha hb hx3
            go_wp2
            refine start_ (n := 14) (S := fun w' => w'.cell? ⟨G, j.toNat, none⟩ = some (.int .i64 a) ∧ w'.cell? ⟨G, j1.toNat, none⟩ = some (.int .i64 b)) (ds := []) #[false, false, false, false, false, false, false, false, false, false, false, false, false, false] (by kernel_rfl) rfl rfl ⟨z1, z2⟩ (fun hHeld => ?_)
            refine pure_ (i := 0) (N := some 18) (v := ?_) (a' := ?_) #[true, false, false, false, false, false, false, false, false, false, false, false, false, false] rfl rfl (by kernel_rfl) (fun _ _ _ h => h) (Or.inl ⟨by rfl, ?_⟩) ?_ ?_
            rotate_left
            · intro w'
              go_simp
              with_reducible rfl
            rotate_left
            · simp only [Act.put, List.setIfInBounds_toArray, List.set_cons_zero, List.set_cons_succ, i64_w, i32_w]
              rfl
            refine pure_ (i := 1) (N := some 19) (v := ?_) (a' := ?_) #[true, true, false, false, false, false, false, false, false, false, false, false, false, false] rfl rfl (by kernel_rfl) (fun _ _ _ h => h) (Or.inl ⟨by rfl, ?_⟩) ?_ ?_
            rotate_left
            · intro w'
              go_simp
              with_reducible rfl
            rotate_left
            · simp only [Act.put, List.setIfInBounds_toArray, List.set_cons_zero, List.set_cons_succ, i64_w, i32_w]
              rfl
            refine pure_ (i := 2) (N := some 20) (v := ?_) (a' := ?_) #[true, true, true, false, false, false, false, false, false, false, false, false, false, false] rfl rfl (by kernel_rfl) (fun _ _ _ h => h) (Or.inl ⟨by rfl, ?_⟩) ?_ ?_
            rotate_left
            · intro w'
              go_simp
              with_reducible rfl
            rotate_left
            · simp only [Act.put, List.setIfInBounds_toArray, List.set_cons_zero, List.set_cons_succ, i64_w, i32_w]
              rfl
            refine pure_ (i := 3) (N := some 21) (v := ?_) (a' := ?_) #[true, true, true, true, false, false, false, false, false, false, false, false, false, false] rfl rfl (by kernel_rfl) (fun _ _ _ h => h) (Or.inl ⟨by rfl, ?_⟩) ?_ ?_
            rotate_left
            · intro w'
              go_simp
              with_reducible rfl
            rotate_left
            · simp only [Act.put, List.setIfInBounds_toArray, List.set_cons_zero, List.set_cons_succ, i64_w, i32_w]
              rfl
            refine pure_ (i := 4) (N := some 22) (v := ?_) (a' := ?_) #[true, true, true, true, true, false, false, false, false, false, false, false, false, false] rfl rfl (by kernel_rfl) (fun _ _ _ h => h) (Or.inl ⟨by rfl, ?_⟩) ?_ ?_
            rotate_left
            · intro w'
              go_simp
              with_reducible rfl
            rotate_left
            · simp only [Act.put, List.setIfInBounds_toArray, List.set_cons_zero, List.set_cons_succ, i64_w, i32_w]
              rfl
            refine pure_ (i := 5) (N := some 23) (v := ?_) (a' := ?_) #[true, true, true, true, true, true, false, false, false, false, false, false, false, false] rfl rfl (by kernel_rfl) (fun _ _ _ h => h) (Or.inl ⟨by rfl, ?_⟩) ?_ ?_
            rotate_left
            · intro w'
              go_simp
              with_reducible rfl
            rotate_left
            · simp only [Act.put, List.setIfInBounds_toArray, List.set_cons_zero, List.set_cons_succ, i64_w, i32_w]
              rfl
            refine pure_ (i := 7) (N := some 25) (v := ?_) (a' := ?_) #[true, true, true, true, true, true, false, true, false, false, false, false, false, false] rfl rfl (by kernel_rfl) (fun _ _ _ h => h) (Or.inl ⟨by rfl, ?_⟩) ?_ ?_
            rotate_left
            · intro w'
              go_simp
              with_reducible rfl
            rotate_left
            · simp only [Act.put, List.setIfInBounds_toArray, List.set_cons_zero, List.set_cons_succ, i64_w, i32_w]
              rfl
            refine pure_ (i := 8) (N := some 26) (v := ?_) (a' := ?_) #[true, true, true, true, true, true, false, true, true, false, false, false, false, false] rfl rfl (by kernel_rfl) (fun _ _ _ h => h) (Or.inl ⟨by rfl, ?_⟩) ?_ ?_
            rotate_left
            · intro w'
              go_simp
              with_reducible rfl
            rotate_left
            · simp only [Act.put, List.setIfInBounds_toArray, List.set_cons_zero, List.set_cons_succ, i64_w, i32_w]
              rfl
            refine pure_ (i := 9) (N := some 27) (v := ?_) (a' := ?_) #[true, true, true, true, true, true, false, true, true, true, false, false, false, false] rfl rfl (by kernel_rfl) (fun _ _ _ h => h) (Or.inl ⟨by rfl, ?_⟩) ?_ ?_
            rotate_left
            · intro w'
              go_simp
              with_reducible rfl
            rotate_left
            · simp only [Act.put, List.setIfInBounds_toArray, List.set_cons_zero, List.set_cons_succ, i64_w, i32_w]
              rfl
            refine pure_ (i := 10) (N := some 28) (v := ?_) (a' := ?_) #[true, true, true, true, true, true, false, true, true, true, true, false, false, false] rfl rfl (by kernel_rfl) (fun _ _ _ h => h) (Or.inl ⟨by rfl, ?_⟩) ?_ ?_
            rotate_left
            · intro w'
              go_simp
              with_reducible rfl
            rotate_left
            · simp only [Act.put, List.setIfInBounds_toArray, List.set_cons_zero, List.set_cons_succ, i64_w, i32_w]
              rfl
            refine take_ (i := 6) (N := some 24) (v := ?_) (a' := ?_) #[true, true, true, true, true, true, true, true, true, true, true, false, false, false] rfl rfl (by kernel_rfl) (fun _ _ _ h => h) (Or.inl ⟨by rfl, ?_⟩) hHeld ?_ ?_
            rotate_left
            · rintro w' ⟨s0, s1⟩
              go_simp
              with_reducible rfl
            rotate_left
            · simp only [Act.put, List.setIfInBounds_toArray, List.set_cons_zero, List.set_cons_succ, i64_w, i32_w]
              rfl
            refine take_ (i := 11) (N := some 29) (v := ?_) (a' := ?_) #[true, true, true, true, true, true, true, true, true, true, true, true, false, false] rfl rfl (by kernel_rfl) (fun _ _ _ h => h) (Or.inl ⟨by rfl, ?_⟩) hHeld ?_ ?_
            rotate_left
            · rintro w' ⟨s0, s1⟩
              go_simp
              with_reducible rfl
            rotate_left
            · simp only [Act.put, List.setIfInBounds_toArray, List.set_cons_zero, List.set_cons_succ, i64_w, i32_w]
              rfl
            refine pure_ (i := 12) (N := some 30) (v := ?_) (a' := ?_) #[true, true, true, true, true, true, true, true, true, true, true, true, true, false] rfl rfl (by kernel_rfl) (fun _ _ _ h => h) (Or.inl ⟨by rfl, ?_⟩) ?_ ?_
            rotate_left
            · intro w'
              go_simp
              with_reducible rfl
            rotate_left
            · simp only [Act.put, List.setIfInBounds_toArray, List.set_cons_zero, List.set_cons_succ, i64_w, i32_w]
              rfl
            refine pure_ (i := 13) (N := some 31) (v := ?_) (a' := ?_) #[true, true, true, true, true, true, true, true, true, true, true, true, true, true] rfl rfl (by kernel_rfl) (fun _ _ _ h => h) (Or.inl ⟨by rfl, ?_⟩) ?_ ?_
            rotate_left
            · intro w'
              go_simp
              with_reducible rfl
            rotate_left
            · simp only [Act.put, List.setIfInBounds_toArray, List.set_cons_zero, List.set_cons_succ, i64_w, i32_w]
              rfl
            refine done_ (by kernel_rfl) ?_
            go_wp2
            refine start_ (n := 18) (S := fun w' => w'.cell? ⟨G, j.toNat, none⟩ = some (.int .i64 a) ∧ w'.cell? ⟨G, j1.toNat, none⟩ = some (.int .i64 b)) (ds := [15, 17]) #[false, false, false, false, false, false, false, false, false, false, false, false, false, false, false, false, false, false] (by kernel_rfl) rfl rfl ⟨z1, z2⟩ (fun hHeld => ?_)
            refine pure_ (i := 0) (N := some 34) (v := ?_) (a' := ?_) #[true, false, false, false, false, false, false, false, false, false, false, false, false, false, false, false, false, false] rfl rfl (by kernel_rfl) (fun _ _ _ h => h) (Or.inl ⟨by rfl, ?_⟩) ?_ ?_
            rotate_left
            · intro w'
              go_simp
              with_reducible rfl
            rotate_left
            · simp only [Act.put, List.setIfInBounds_toArray, List.set_cons_zero, List.set_cons_succ, i64_w, i32_w]
              rfl
            refine pure_ (i := 1) (N := some 35) (v := ?_) (a' := ?_) #[true, true, false, false, false, false, false, false, false, false, false, false, false, false, false, false, false, false] rfl rfl (by kernel_rfl) (fun _ _ _ h => h) (Or.inl ⟨by rfl, ?_⟩) ?_ ?_
            rotate_left
            · intro w'
              go_simp
              with_reducible rfl
            rotate_left
            · simp only [Act.put, List.setIfInBounds_toArray, List.set_cons_zero, List.set_cons_succ, i64_w, i32_w]
              rfl
            refine pure_ (i := 2) (N := some 36) (v := ?_) (a' := ?_) #[true, true, true, false, false, false, false, false, false, false, false, false, false, false, false, false, false, false] rfl rfl (by kernel_rfl) (fun _ _ _ h => h) (Or.inl ⟨by rfl, ?_⟩) ?_ ?_
            rotate_left
            · intro w'
              go_simp
              with_reducible rfl
            rotate_left
            · simp only [Act.put, List.setIfInBounds_toArray, List.set_cons_zero, List.set_cons_succ, i64_w, i32_w]
              rfl
            refine pure_ (i := 3) (N := some 37) (v := ?_) (a' := ?_) #[true, true, true, true, false, false, false, false, false, false, false, false, false, false, false, false, false, false] rfl rfl (by kernel_rfl) (fun _ _ _ h => h) (Or.inl ⟨by rfl, ?_⟩) ?_ ?_
            rotate_left
            · intro w'
              go_simp
              with_reducible rfl
            rotate_left
            · simp only [Act.put, List.setIfInBounds_toArray, List.set_cons_zero, List.set_cons_succ, i64_w, i32_w]
              rfl
            refine pure_ (i := 4) (N := some 38) (v := ?_) (a' := ?_) #[true, true, true, true, true, false, false, false, false, false, false, false, false, false, false, false, false, false] rfl rfl (by kernel_rfl) (fun _ _ _ h => h) (Or.inl ⟨by rfl, ?_⟩) ?_ ?_
            rotate_left
            · intro w'
              go_simp
              with_reducible rfl
            rotate_left
            · simp only [Act.put, List.setIfInBounds_toArray, List.set_cons_zero, List.set_cons_succ, i64_w, i32_w]
              rfl
            refine pure_ (i := 5) (N := some 39) (v := ?_) (a' := ?_) #[true, true, true, true, true, true, false, false, false, false, false, false, false, false, false, false, false, false] rfl rfl (by kernel_rfl) (fun _ _ _ h => h) (Or.inl ⟨by rfl, ?_⟩) ?_ ?_
            rotate_left
            · intro w'
              go_simp
              with_reducible rfl
            rotate_left
            · simp only [Act.put, List.setIfInBounds_toArray, List.set_cons_zero, List.set_cons_succ, i64_w, i32_w]
              rfl
            refine pure_ (i := 6) (N := some 40) (v := ?_) (a' := ?_) #[true, true, true, true, true, true, true, false, false, false, false, false, false, false, false, false, false, false] rfl rfl (by kernel_rfl) (fun _ _ _ h => h) (Or.inl ⟨by rfl, ?_⟩) ?_ ?_
            rotate_left
            · intro w'
              go_simp
              with_reducible rfl
            rotate_left
            · simp only [Act.put, List.setIfInBounds_toArray, List.set_cons_zero, List.set_cons_succ, i64_w, i32_w]
              rfl
            refine pure_ (i := 7) (N := some 41) (v := ?_) (a' := ?_) #[true, true, true, true, true, true, true, true, false, false, false, false, false, false, false, false, false, false] rfl rfl (by kernel_rfl) (fun _ _ _ h => h) (Or.inl ⟨by rfl, ?_⟩) ?_ ?_
            rotate_left
            · intro w'
              go_simp
              with_reducible rfl
            rotate_left
            · simp only [Act.put, List.setIfInBounds_toArray, List.set_cons_zero, List.set_cons_succ, i64_w, i32_w]
              rfl
            refine pure_ (i := 8) (N := some 42) (v := ?_) (a' := ?_) #[true, true, true, true, true, true, true, true, true, false, false, false, false, false, false, false, false, false] rfl rfl (by kernel_rfl) (fun _ _ _ h => h) (Or.inl ⟨by rfl, ?_⟩) ?_ ?_
            rotate_left
            · intro w'
              go_simp
              with_reducible rfl
            rotate_left
            · simp only [Act.put, List.setIfInBounds_toArray, List.set_cons_zero, List.set_cons_succ, i64_w, i32_w]
              rfl
            refine pure_ (i := 10) (N := some 44) (v := ?_) (a' := ?_) #[true, true, true, true, true, true, true, true, true, false, true, false, false, false, false, false, false, false] rfl rfl (by kernel_rfl) (fun _ _ _ h => h) (Or.inl ⟨by rfl, ?_⟩) ?_ ?_
            rotate_left
            · intro w'
              go_simp
              with_reducible rfl
            rotate_left
            · simp only [Act.put, List.setIfInBounds_toArray, List.set_cons_zero, List.set_cons_succ, i64_w, i32_w]
              rfl
            refine pure_ (i := 11) (N := some 45) (v := ?_) (a' := ?_) #[true, true, true, true, true, true, true, true, true, false, true, true, false, false, false, false, false, false] rfl rfl (by kernel_rfl) (fun _ _ _ h => h) (Or.inl ⟨by rfl, ?_⟩) ?_ ?_
            rotate_left
            · intro w'
              go_simp
              with_reducible rfl
            rotate_left
            · simp only [Act.put, List.setIfInBounds_toArray, List.set_cons_zero, List.set_cons_succ, i64_w, i32_w]
              rfl
            refine pure_ (i := 12) (N := some 46) (v := ?_) (a' := ?_) #[true, true, true, true, true, true, true, true, true, false, true, true, true, false, false, false, false, false] rfl rfl (by kernel_rfl) (fun _ _ _ h => h) (Or.inl ⟨by rfl, ?_⟩) ?_ ?_
            rotate_left
            · intro w'
              go_simp
              with_reducible rfl
            rotate_left
            · simp only [Act.put, List.setIfInBounds_toArray, List.set_cons_zero, List.set_cons_succ, i64_w, i32_w]
              rfl
            refine take_ (i := 9) (N := some 43) (v := ?_) (a' := ?_) #[true, true, true, true, true, true, true, true, true, true, true, true, true, false, false, false, false, false] rfl rfl (by kernel_rfl) (fun _ _ _ h => h) (Or.inl ⟨by rfl, ?_⟩) hHeld ?_ ?_
            rotate_left
            · rintro w' ⟨s0, s1⟩
              go_simp
              with_reducible rfl
            rotate_left
            · simp only [Act.put, List.setIfInBounds_toArray, List.set_cons_zero, List.set_cons_succ, i64_w, i32_w]
              rfl
            refine take_ (i := 13) (N := some 47) (v := ?_) (a' := ?_) #[true, true, true, true, true, true, true, true, true, true, true, true, true, true, false, false, false, false] rfl rfl (by kernel_rfl) (fun _ _ _ h => h) (Or.inl ⟨by rfl, ?_⟩) hHeld ?_ ?_
            rotate_left
            · rintro w' ⟨s0, s1⟩
              go_simp
              with_reducible rfl
            rotate_left
            · simp only [Act.put, List.setIfInBounds_toArray, List.set_cons_zero, List.set_cons_succ, i64_w, i32_w]
              rfl
            refine pure_ (i := 14) (N := some 48) (v := ?_) (a' := ?_) #[true, true, true, true, true, true, true, true, true, true, true, true, true, true, true, false, false, false] rfl rfl (by kernel_rfl) (fun _ _ _ h => h) (Or.inl ⟨by rfl, ?_⟩) ?_ ?_
            rotate_left
            · intro w'
              go_simp
              with_reducible rfl
            rotate_left
            · simp only [Act.put, List.setIfInBounds_toArray, List.set_cons_zero, List.set_cons_succ, i64_w, i32_w]
              rfl
            refine last_ (i := 15) (N := none) #[true, true, true, true, true, true, true, true, true, true, true, true, true, true, true, true, false, false] rfl rfl (by kernel_rfl) (by decide) (fun K hK => ?_)
            refine skip_ (w1 := ?_) (by rfl) rfl ?_ ?_
            rotate_left
            · go_simp
              rfl
            refine hK.out _ _ ?_
            clear hK K
            refine pure_ (i := 16) (N := some 49) (v := ?_) (a' := ?_) #[true, true, true, true, true, true, true, true, true, true, true, true, true, true, true, true, true, false] rfl rfl (by kernel_rfl) (fun _ _ _ h => h) (Or.inl ⟨by rfl, ?_⟩) ?_ ?_
            rotate_left
            · intro w'
              go_simp
              with_reducible rfl
            rotate_left
            · simp only [Act.put, List.setIfInBounds_toArray, List.set_cons_zero, List.set_cons_succ, i64_w, i32_w]
              rfl
            refine last_ (i := 17) (N := none) #[true, true, true, true, true, true, true, true, true, true, true, true, true, true, true, true, true, true] rfl rfl (by kernel_rfl) (by decide) (fun K hK => ?_)
            refine skip_ (w1 := ?_) (by rfl) rfl ?_ ?_
            rotate_left
            · go_simp
              rfl
            refine hK.out _ _ ?_
            clear hK K
            refine done_ (by kernel_rfl) ?_
            go_wp2
            go_roundg k2
            case measure => have := HJ.out; omega
            case rel => exact ⟨j1, swp x j j1, by first | rfl | (rw [hwj]), ⟨by have := HB.out; omega, by have := HJJ.out; have := HJ.out; omega, by have := HJJ.out; have := HJ.out; omega⟩, ⟨by first | exact H3.out.drew.drew | exact H3.out.drew⟩, HSG⟩
          · have HSG := Aside0.mk (show x = srt y (i + 1).toNat from by rw [← HS.out]; exact (sink_stop x j j1 HJJ.out.1 HJJ.out.2 cl).symm)
            have hcl := decide_eq_false cl
            have hcl2 := eq_false cl
            obtain ⟨a, ha⟩ : ∃ a, rd x j = a := ⟨_, rfl⟩
            obtain ⟨b, hb⟩ : ∃ b, rd x j1 = b := ⟨_, rfl⟩
            rw [ha] at z1 hcl hcl2
            rw [hb] at z2 hcl hcl2
            clear cl ha hb
            go_wp2
            refine start_ (n := 14) (S := fun w' => w'.cell? ⟨G, j.toNat, none⟩ = some (.int .i64 a) ∧ w'.cell? ⟨G, j1.toNat, none⟩ = some (.int .i64 b)) (ds := []) #[false, false, false, false, false, false, false, false, false, false, false, false, false, false] (by kernel_rfl) rfl rfl ⟨z1, z2⟩ (fun hHeld => ?_)
            refine pure_ (i := 0) (N := some 18) (v := ?_) (a' := ?_) #[true, false, false, false, false, false, false, false, false, false, false, false, false, false] rfl rfl (by kernel_rfl) (fun _ _ _ h => h) (Or.inl ⟨by rfl, ?_⟩) ?_ ?_
            rotate_left
            · intro w'
              go_simp
              with_reducible rfl
            rotate_left
            · simp only [Act.put, List.setIfInBounds_toArray, List.set_cons_zero, List.set_cons_succ, i64_w, i32_w]
              rfl
            refine pure_ (i := 1) (N := some 19) (v := ?_) (a' := ?_) #[true, true, false, false, false, false, false, false, false, false, false, false, false, false] rfl rfl (by kernel_rfl) (fun _ _ _ h => h) (Or.inl ⟨by rfl, ?_⟩) ?_ ?_
            rotate_left
            · intro w'
              go_simp
              with_reducible rfl
            rotate_left
            · simp only [Act.put, List.setIfInBounds_toArray, List.set_cons_zero, List.set_cons_succ, i64_w, i32_w]
              rfl
            refine pure_ (i := 2) (N := some 20) (v := ?_) (a' := ?_) #[true, true, true, false, false, false, false, false, false, false, false, false, false, false] rfl rfl (by kernel_rfl) (fun _ _ _ h => h) (Or.inl ⟨by rfl, ?_⟩) ?_ ?_
            rotate_left
            · intro w'
              go_simp
              with_reducible rfl
            rotate_left
            · simp only [Act.put, List.setIfInBounds_toArray, List.set_cons_zero, List.set_cons_succ, i64_w, i32_w]
              rfl
            refine pure_ (i := 3) (N := some 21) (v := ?_) (a' := ?_) #[true, true, true, true, false, false, false, false, false, false, false, false, false, false] rfl rfl (by kernel_rfl) (fun _ _ _ h => h) (Or.inl ⟨by rfl, ?_⟩) ?_ ?_
            rotate_left
            · intro w'
              go_simp
              with_reducible rfl
            rotate_left
            · simp only [Act.put, List.setIfInBounds_toArray, List.set_cons_zero, List.set_cons_succ, i64_w, i32_w]
              rfl
            refine pure_ (i := 4) (N := some 22) (v := ?_) (a' := ?_) #[true, true, true, true, true, false, false, false, false, false, false, false, false, false] rfl rfl (by kernel_rfl) (fun _ _ _ h => h) (Or.inl ⟨by rfl, ?_⟩) ?_ ?_
            rotate_left
            · intro w'
              go_simp
              with_reducible rfl
            rotate_left
            · simp only [Act.put, List.setIfInBounds_toArray, List.set_cons_zero, List.set_cons_succ, i64_w, i32_w]
              rfl
            refine pure_ (i := 5) (N := some 23) (v := ?_) (a' := ?_) #[true, true, true, true, true, true, false, false, false, false, false, false, false, false] rfl rfl (by kernel_rfl) (fun _ _ _ h => h) (Or.inl ⟨by rfl, ?_⟩) ?_ ?_
            rotate_left
            · intro w'
              go_simp
              with_reducible rfl
            rotate_left
            · simp only [Act.put, List.setIfInBounds_toArray, List.set_cons_zero, List.set_cons_succ, i64_w, i32_w]
              rfl
            refine pure_ (i := 7) (N := some 25) (v := ?_) (a' := ?_) #[true, true, true, true, true, true, false, true, false, false, false, false, false, false] rfl rfl (by kernel_rfl) (fun _ _ _ h => h) (Or.inl ⟨by rfl, ?_⟩) ?_ ?_
            rotate_left
            · intro w'
              go_simp
              with_reducible rfl
            rotate_left
            · simp only [Act.put, List.setIfInBounds_toArray, List.set_cons_zero, List.set_cons_succ, i64_w, i32_w]
              rfl
            refine pure_ (i := 8) (N := some 26) (v := ?_) (a' := ?_) #[true, true, true, true, true, true, false, true, true, false, false, false, false, false] rfl rfl (by kernel_rfl) (fun _ _ _ h => h) (Or.inl ⟨by rfl, ?_⟩) ?_ ?_
            rotate_left
            · intro w'
              go_simp
              with_reducible rfl
            rotate_left
            · simp only [Act.put, List.setIfInBounds_toArray, List.set_cons_zero, List.set_cons_succ, i64_w, i32_w]
              rfl
            refine pure_ (i := 9) (N := some 27) (v := ?_) (a' := ?_) #[true, true, true, true, true, true, false, true, true, true, false, false, false, false] rfl rfl (by kernel_rfl) (fun _ _ _ h => h) (Or.inl ⟨by rfl, ?_⟩) ?_ ?_
            rotate_left
            · intro w'
              go_simp
              with_reducible rfl
            rotate_left
            · simp only [Act.put, List.setIfInBounds_toArray, List.set_cons_zero, List.set_cons_succ, i64_w, i32_w]
              rfl
            refine pure_ (i := 10) (N := some 28) (v := ?_) (a' := ?_) #[true, true, true, true, true, true, false, true, true, true, true, false, false, false] rfl rfl (by kernel_rfl) (fun _ _ _ h => h) (Or.inl ⟨by rfl, ?_⟩) ?_ ?_
            rotate_left
            · intro w'
              go_simp
              with_reducible rfl
            rotate_left
            · simp only [Act.put, List.setIfInBounds_toArray, List.set_cons_zero, List.set_cons_succ, i64_w, i32_w]
              rfl
            refine take_ (i := 6) (N := some 24) (v := ?_) (a' := ?_) #[true, true, true, true, true, true, true, true, true, true, true, false, false, false] rfl rfl (by kernel_rfl) (fun _ _ _ h => h) (Or.inl ⟨by rfl, ?_⟩) hHeld ?_ ?_
            rotate_left
            · rintro w' ⟨s0, s1⟩
              go_simp
              with_reducible rfl
            rotate_left
            · simp only [Act.put, List.setIfInBounds_toArray, List.set_cons_zero, List.set_cons_succ, i64_w, i32_w]
              rfl
            refine take_ (i := 11) (N := some 29) (v := ?_) (a' := ?_) #[true, true, true, true, true, true, true, true, true, true, true, true, false, false] rfl rfl (by kernel_rfl) (fun _ _ _ h => h) (Or.inl ⟨by rfl, ?_⟩) hHeld ?_ ?_
            rotate_left
            · rintro w' ⟨s0, s1⟩
              go_simp
              with_reducible rfl
            rotate_left
            · simp only [Act.put, List.setIfInBounds_toArray, List.set_cons_zero, List.set_cons_succ, i64_w, i32_w]
              rfl
            refine pure_ (i := 12) (N := some 30) (v := ?_) (a' := ?_) #[true, true, true, true, true, true, true, true, true, true, true, true, true, false] rfl rfl (by kernel_rfl) (fun _ _ _ h => h) (Or.inl ⟨by rfl, ?_⟩) ?_ ?_
            rotate_left
            · intro w'
              go_simp
              with_reducible rfl
            rotate_left
            · simp only [Act.put, List.setIfInBounds_toArray, List.set_cons_zero, List.set_cons_succ, i64_w, i32_w]
              rfl
            refine pure_ (i := 13) (N := some 31) (v := ?_) (a' := ?_) #[true, true, true, true, true, true, true, true, true, true, true, true, true, true] rfl rfl (by kernel_rfl) (fun _ _ _ h => h) (Or.inl ⟨by rfl, ?_⟩) ?_ ?_
            rotate_left
            · intro w'
              go_simp
              with_reducible rfl
            rotate_left
            · simp only [Act.put, List.setIfInBounds_toArray, List.set_cons_zero, List.set_cons_succ, i64_w, i32_w]
              rfl
            refine done_ (by kernel_rfl) ?_
            go_wp2
            go_roundg k1
            case measure => have := HI.out; omega
            case rel => exact ⟨i + 1, by first | rfl | (rw [hwi]), ⟨by have := HI.out; omega, by have := HCI.out; omega, by have := HI.out; omega⟩, ⟨by have := HV.out.drew; rwa [HSG.out] at this⟩⟩
        · have cjb : decide (0 < j) = false := decide_eq_false cj
          have q1 := eq_false cj
          have HSG := Aside0.mk (show x = srt y (i + 1).toNat from by rw [← HS.out]; exact (sink_zero x j cj).symm)
          clear cj
          go_wp2
          refine start_ (n := 14) (S := fun w' => True) (ds := []) #[false, false, false, false, false, false, false, false, false, false, false, false, false, false] (by kernel_rfl) rfl rfl trivial (fun hHeld => ?_)
          refine pure_ (i := 0) (N := some 18) (v := ?_) (a' := ?_) #[true, false, false, false, false, false, false, false, false, false, false, false, false, false] rfl rfl (by kernel_rfl) (fun _ _ _ h => h) (Or.inl ⟨by rfl, ?_⟩) ?_ ?_
          rotate_left
          · intro w'
            go_simp
            with_reducible rfl
          rotate_left
          · simp only [Act.put, List.setIfInBounds_toArray, List.set_cons_zero, List.set_cons_succ, i64_w, i32_w]
            rfl
          refine pure_ (i := 1) (N := some 19) (v := ?_) (a' := ?_) #[true, true, false, false, false, false, false, false, false, false, false, false, false, false] rfl rfl (by kernel_rfl) (fun _ _ _ h => h) (Or.inl ⟨by rfl, ?_⟩) ?_ ?_
          rotate_left
          · intro w'
            go_simp
            with_reducible rfl
          rotate_left
          · simp only [Act.put, List.setIfInBounds_toArray, List.set_cons_zero, List.set_cons_succ, i64_w, i32_w]
            rfl
          refine pure_ (i := 2) (N := some 20) (v := ?_) (a' := ?_) #[true, true, true, false, false, false, false, false, false, false, false, false, false, false] rfl rfl (by kernel_rfl) (fun _ _ _ h => h) (Or.inl ⟨by rfl, ?_⟩) ?_ ?_
          rotate_left
          · intro w'
            go_simp
            with_reducible rfl
          rotate_left
          · simp only [Act.put, List.setIfInBounds_toArray, List.set_cons_zero, List.set_cons_succ, i64_w, i32_w]
            rfl
          refine pure_ (i := 3) (N := some 21) (v := undef) (a' := ?_) #[true, true, true, true, false, false, false, false, false, false, false, false, false, false] rfl rfl (by kernel_rfl) (fun _ _ _ h => h) (Or.inr ⟨by rfl, rfl⟩) ?_ ?_
          rotate_left
          · simp only [Act.put, List.setIfInBounds_toArray, List.set_cons_zero, List.set_cons_succ, i64_w, i32_w]
            rfl
          refine pure_ (i := 4) (N := some 22) (v := undef) (a' := ?_) #[true, true, true, true, true, false, false, false, false, false, false, false, false, false] rfl rfl (by kernel_rfl) (fun _ _ _ h => h) (Or.inr ⟨by rfl, rfl⟩) ?_ ?_
          rotate_left
          · simp only [Act.put, List.setIfInBounds_toArray, List.set_cons_zero, List.set_cons_succ, i64_w, i32_w]
            rfl
          refine pure_ (i := 5) (N := some 23) (v := undef) (a' := ?_) #[true, true, true, true, true, true, false, false, false, false, false, false, false, false] rfl rfl (by kernel_rfl) (fun _ _ _ h => h) (Or.inr ⟨by rfl, rfl⟩) ?_ ?_
          rotate_left
          · simp only [Act.put, List.setIfInBounds_toArray, List.set_cons_zero, List.set_cons_succ, i64_w, i32_w]
            rfl
          refine pure_ (i := 6) (N := some 24) (v := undef) (a' := ?_) #[true, true, true, true, true, true, true, false, false, false, false, false, false, false] rfl rfl (by kernel_rfl) (fun _ _ _ h => h) (Or.inr ⟨by rfl, rfl⟩) ?_ ?_
          rotate_left
          · simp only [Act.put, List.setIfInBounds_toArray, List.set_cons_zero, List.set_cons_succ, i64_w, i32_w]
            rfl
          refine pure_ (i := 7) (N := some 25) (v := undef) (a' := ?_) #[true, true, true, true, true, true, true, true, false, false, false, false, false, false] rfl rfl (by kernel_rfl) (fun _ _ _ h => h) (Or.inr ⟨by rfl, rfl⟩) ?_ ?_
          rotate_left
          · simp only [Act.put, List.setIfInBounds_toArray, List.set_cons_zero, List.set_cons_succ, i64_w, i32_w]
            rfl
          refine pure_ (i := 8) (N := some 26) (v := undef) (a' := ?_) #[true, true, true, true, true, true, true, true, true, false, false, false, false, false] rfl rfl (by kernel_rfl) (fun _ _ _ h => h) (Or.inr ⟨by rfl, rfl⟩) ?_ ?_
          rotate_left
          · simp only [Act.put, List.setIfInBounds_toArray, List.set_cons_zero, List.set_cons_succ, i64_w, i32_w]
            rfl
          refine pure_ (i := 9) (N := some 27) (v := undef) (a' := ?_) #[true, true, true, true, true, true, true, true, true, true, false, false, false, false] rfl rfl (by kernel_rfl) (fun _ _ _ h => h) (Or.inr ⟨by rfl, rfl⟩) ?_ ?_
          rotate_left
          · simp only [Act.put, List.setIfInBounds_toArray, List.set_cons_zero, List.set_cons_succ, i64_w, i32_w]
            rfl
          refine pure_ (i := 10) (N := some 28) (v := undef) (a' := ?_) #[true, true, true, true, true, true, true, true, true, true, true, false, false, false] rfl rfl (by kernel_rfl) (fun _ _ _ h => h) (Or.inr ⟨by rfl, rfl⟩) ?_ ?_
          rotate_left
          · simp only [Act.put, List.setIfInBounds_toArray, List.set_cons_zero, List.set_cons_succ, i64_w, i32_w]
            rfl
          refine pure_ (i := 11) (N := some 29) (v := undef) (a' := ?_) #[true, true, true, true, true, true, true, true, true, true, true, true, false, false] rfl rfl (by kernel_rfl) (fun _ _ _ h => h) (Or.inr ⟨by rfl, rfl⟩) ?_ ?_
          rotate_left
          · simp only [Act.put, List.setIfInBounds_toArray, List.set_cons_zero, List.set_cons_succ, i64_w, i32_w]
            rfl
          refine pure_ (i := 12) (N := some 30) (v := undef) (a' := ?_) #[true, true, true, true, true, true, true, true, true, true, true, true, true, false] rfl rfl (by kernel_rfl) (fun _ _ _ h => h) (Or.inr ⟨by rfl, rfl⟩) ?_ ?_
          rotate_left
          · simp only [Act.put, List.setIfInBounds_toArray, List.set_cons_zero, List.set_cons_succ, i64_w, i32_w]
            rfl
          refine pure_ (i := 13) (N := some 31) (v := ?_) (a' := ?_) #[true, true, true, true, true, true, true, true, true, true, true, true, true, true] rfl rfl (by kernel_rfl) (fun _ _ _ h => h) (Or.inl ⟨by rfl, ?_⟩) ?_ ?_
          rotate_left
          · intro w'
            go_simp
            with_reducible rfl
          rotate_left
          · simp only [Act.put, List.setIfInBounds_toArray, List.set_cons_zero, List.set_cons_succ, i64_w, i32_w]
            rfl
          refine done_ (by kernel_rfl) ?_
          go_wp2
          go_roundg k1
          case measure => have := HI.out; omega
          case rel => exact ⟨i + 1, by first | rfl | (rw [hwi]), ⟨by have := HI.out; omega, by have := HCI.out; omega, by have := HI.out; omega⟩, ⟨by have := HV.out.drew; rwa [HSG.out] at this⟩⟩
    · have cb : decide (i < (m : Int)) = false := decide_eq_false ci
      have hE : i.toNat = m := by have := HI.out; omega
      have HV2 := Aside0.mk (show Inv w.heap.size G m cc (srt y m) w wr from by have := HV.out; rwa [hE] at this)
      have kh1 := eq_true (show m / 2 < m from by have := HMJ.out; omega)
      have kh2 := eq_true (show (m : Int) / 2 < (m : Int) from by have := HMJ.out; omega)
      have kh3 := eq_true (show 0 ≤ (m : Int) / 2 from by have := HMJ.out; omega)
      obtain ⟨z4, f4⟩ := HV2.out.cell ((m / 2 : Nat) : Int) (by omega) (by have := HMJ.out; omega)
      rw [HMD.out, Int.toNat_natCast] at z4
      have hwq2 : wrap64 ((m : Int) / 2) = (m : Int) / 2 := wrap64_id (by omega) (by have := HMJ.out; omega)
      have hwq : wrap64 (Int.tdiv (m : Int) 2) = (m : Int) / 2 := by rw [Int.tdiv_eq_ediv_of_nonneg (by omega)]; exact wrap64_id (by omega) (by have := HMJ.out; omega)
      clear ci hE f4
      go_wp2
      go_ret
      exact ⟨rfl, HV2.out.bel⟩
end Go.Proofs.Ythmhojgjkfinlaa.Md
