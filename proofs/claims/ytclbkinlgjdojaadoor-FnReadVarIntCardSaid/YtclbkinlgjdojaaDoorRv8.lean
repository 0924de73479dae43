/-
  wire.ReadVarIntBuf.
-/
import Derived.Test.YtclbkinlgjdojaaDoorRv7
namespace Go.Proofs.YtclbkinlgjdojaaDoor.Rv
open Go.RowKit Go.Proofs.YtclbkinlgjdojaaDoorW.PrintWords Go.Proofs.YtclbkinlgjdojaaDoorW.PrintLast Go.Proofs.YtclbkinlgjdojaaDoor.Reg Go.Proofs.YtclbkinlgjdojaaDoor.Tok
set_option linter.unusedSimpArgs false
set_option linter.unusedVariables false

set_option maxHeartbeats 8000000 in
set_option maxRecDepth 100000 in
theorem buf_small {B R S : Nat} {A : Option Addr} {c : Nat} {d : Int} {t : List Int} {a b : Addr} {w0 : World} (X : Cx B R S A c (d :: t) a b w0) (T : Nat) (cs : Array Value) (w : World) (hW : Below B w0 w) (h : Rd w R A (d :: t).length c 0) (hz : cs.size = 8) (hS : w.heap[S]? = some (.cells cs T (0, 0))) (hd : d < 253) :
    Calls Tryd.prog 16 #[Rdv R, .int .u32 0, .slice (some ⟨S, 0, none⟩) 8 8] w fun e w' => BOut R A (d :: t).length c (some (d, 1)) e w' ∧ Below B w w' := by
  have H := rf_ok X T 0 1 8 cs w hW h (Int.le_refl _) (by simp; omega) (by omega) (by omega) hS
  rw [show ((((d :: t).drop (0 : Int).toNat).take 1).map (Value.int .u8) ++ cs.toList.drop 1) = ([d].map (Value.int .u8) ++ cs.toList.drop 1) by simp] at H
  have H := Lib.hid H
  have hd0 := (X.hby d List.mem_cons_self).1
  have hwd : IntKind.u64.wrap d = d := u64_id hd0 (by omega)
  have e1 : (d == 253) = false := by rw [beq_eq_false_iff_ne]; omega
  have e2 : (d == 254) = false := by rw [beq_eq_false_iff_ne]; omega
  have e3 : (d == 255) = false := by rw [beq_eq_false_iff_ne]; omega
  obtain ⟨n, hnn⟩ : ∃ n, (d :: t).length = n := ⟨_, rfl⟩
  rw [hnn] at H ⊢
  clear X hW h hz hS hd hnn
  go_enter Tryd.func16, Tryd.ntmps16
  go_wp2_with (go_at_call 19; go_must ((with_reducible refine H.out.mono ?_); rintro e w1 ⟨rfl, hR, hS1, hB⟩; have hz0 := cell_read hS1 0 (by simp); have HR := Lib.hid hR; have HB := Lib.hid hB; clear hR hB hS1))
  go_ret2
  exact ⟨⟨by first | rfl | (simp; done) | (simp [hwd]; done), HR.out⟩, HB.out⟩
set_option maxHeartbeats 8000000 in
set_option maxRecDepth 100000 in
theorem buf_253 {B R S : Nat} {A : Option Addr} {c : Nat} {t : List Int} {a b : Addr} {w0 : World} (X : Cx B R S A c (253 :: t) a b w0) (cs : Array Value) (w : World) (hW : Below B w0 w) (h : Rd w R A ((253 : Int) :: t).length c 0) (hz : cs.size = 8) (hS : w.heap[S]? = some (.cells cs 5 (0, 0))) :
    Calls Tryd.prog 16 #[Rdv R, .int .u32 0, .slice (some ⟨S, 0, none⟩) 8 8] w fun e w' => BOut R A ((253 : Int) :: t).length c (big 2 253 t) e w' ∧ Below B w w' := by
  have H := rf_ok X 5 0 1 8 cs w hW h (Int.le_refl _) (by simp; omega) (by omega) (by omega) hS
  rw [show ((((253 : Int) :: t).drop (0 : Int).toNat).take 1).map (Value.int .u8) ++ cs.toList.drop 1 = ([(253 : Int)].map (Value.int .u8) ++ cs.toList.drop 1) by simp] at H
  have H := Lib.hid H
  have hz1 : (([(253 : Int)].map (Value.int .u8) ++ cs.toList.drop 1).toArray).size = 8 := by simp [hz]
  obtain ⟨C1, hC1⟩ : ∃ C1, ([(253 : Int)].map (Value.int .u8) ++ cs.toList.drop 1).toArray = C1 := ⟨_, rfl⟩
  have HC0 := Lib.hid (fun (W : World) (hh : W.heap[S]? = some (.cells C1 5 (0, 0))) => (cell_read (zs := [(253 : Int)]) (rest := cs.toList.drop 1) (by rw [hC1]; exact hh) 0 (by simp) : W.cell? ⟨S, 0, none⟩ = _))
  rw [hC1] at H hz1
  have HBW := Lib.hid (show B ≤ w.heap.size from Nat.le_trans X.hB.1 (Nat.le_of_lt h.lt))
  have HLN := Lib.hid (show ((253 : Int) :: t).length = t.length + 1 from rfl)
  by_cases cs_ : t.length < 2
  · rw [show big 2 253 t = none from if_pos (.inl cs_)]
    have H2 := Lib.hid (fun W (hB : Below B w W) (hR : Rd W R A ((253 : Int) :: t).length c (0 + ((1 : Nat) : Int))) (hSS : W.heap[S]? = some (.cells C1 5 (0, 0))) => rf_bad X 5 (0 + ((1 : Nat) : Int)) 2 8 C1 W (hW.trans hB) hR (by have := HLN.out; omega) (by have := HLN.out; omega) (by omega) (by omega) hSS)
    obtain ⟨n, hnn⟩ : ∃ n, ((253 : Int) :: t).length = n := ⟨_, rfl⟩
    rw [hnn] at H H2 ⊢
    clear X hW h hz hS hnn hz1 hC1 cs_
    go_enter Tryd.func16, Tryd.ntmps16
    go_wp2_with (first
      | (go_at_call 19; (with_reducible refine H.out.mono ?_); rintro e w1 ⟨rfl, hR, hS1, hB⟩; have hz0 := HC0.out _ hS1; have HS1 := Lib.hid hS1; have HR := Lib.hid hR; have HB := Lib.hid hB; clear hR hB hS1)
      | (go_at_call 19; (with_reducible refine (H2.out _ HB.out HR.out HS1.out).mono ?_); rintro e w2 ⟨⟨m, v, rfl⟩, hR, hB⟩; have HR2 := Lib.hid hR; have HB2 := Lib.hid (HB.out.trans hB); clear hR hB))
    go_ret2
    exact ⟨⟨⟨_, _, _, rfl⟩, _, by omega, Int.le_refl _, HR2.out⟩, HB2.out⟩
  · obtain ⟨v, hv⟩ : ∃ v, leV (t.take 2) = v := ⟨_, rfl⟩
    have htb : Bytes (t.take 2) := bytes_take (fun x hx => X.hby x (List.mem_cons_of_mem _ hx)) _
    have hv0 : 0 ≤ v := by rw [← hv]; exact leV_nonneg htb
    have htl : (t.take 2).length = 2 := by rw [List.length_take]; omega
    have hv1 : v < 65536 := by
      rw [← hv]
      have := leV_lt htb
      rw [htl] at this
      exact this
    have H2 := fun W (hB : Below B w W) (hR : Rd W R A ((253 : Int) :: t).length c (0 + ((1 : Nat) : Int))) (hSS : W.heap[S]? = some (.cells C1 5 (0, 0))) => rf_ok X 5 (0 + ((1 : Nat) : Int)) 2 8 C1 W (hW.trans hB) hR (by decide) (by have := HLN.out; omega) (by omega) (by omega) hSS
    obtain ⟨C2, hC2⟩ : ∃ C2, ((((253 : Int) :: t).drop (0 + ((1 : Nat) : Int)).toNat).take 2).map (Value.int .u8) ++ C1.toList.drop 2 = C2 := ⟨_, rfl⟩
    simp only [hC2] at H2
    have H2 := Lib.hid H2
    have HU := Lib.hid (show ∀ W, W.heap[S]? = some (.cells C2.toArray 5 (0, 0)) → Calls Tryd.prog 23 #[.agg #[], .slice (some ⟨S, 0, none⟩) 2 8] W fun e w' => e = .returned (.int .u16 v) ∧ Below W.heap.size W w' from fun W hh => by
      have := Tryd.binary_LE_Uint16_z ⟨S, 0, none⟩ 2 8 (t.take 2) W (Nat.le_refl _) (by rw [htl]; exact Nat.le_refl _) (fun i hi => by
        rw [Addr.add_mid, Nat.zero_add]
        exact cell_read (rest := C1.toList.drop 2) (by rw [show (t.take 2).map (Value.int .u8) ++ C1.toList.drop 2 = C2 from hC2]; exact hh) i hi) (bytes_wf htb)
      rw [List.take_of_length_le (by rw [htl]; exact Nat.le_refl _), leZ_eq, hv] at this
      exact this)
    have hw1 : IntKind.u64.wrap v = v := u64_id hv0 (by omega)
    by_cases cl : v < 253
    · rw [show big 2 253 t = none from if_pos (.inr (by rw [hv]; exact cl))]
      have hcl : decide (v < 253) = true := decide_eq_true cl
      have HI1 := Lib.hid (show (0 : Int) ≤ 0 + ((1 : Nat) : Int) + ((2 : Nat) : Int) ∧ 0 + ((1 : Nat) : Int) + ((2 : Nat) : Int) ≤ (((253 : Int) :: t).length : Int) by have := HLN.out; omega)
      obtain ⟨n, hnn⟩ : ∃ n, ((253 : Int) :: t).length = n := ⟨_, rfl⟩
      simp only [hnn] at H H2 HI1 ⊢
      clear X hW h hz hS hnn hz1 hC1 cs_ cl hC2 htb htl hv0 hv1 hv
      go_enter Tryd.func16, Tryd.ntmps16
      go_wp2_with (first
        | (go_at_call 19; (with_reducible refine H.out.mono ?_); rintro e w1 ⟨rfl, hR, hS1, hB⟩; have hz0 := HC0.out _ hS1; have HS1 := Lib.hid hS1; have HR := Lib.hid hR; have HB := Lib.hid hB; clear hR hB hS1)
        | (go_at_call 19; (with_reducible refine (H2.out _ HB.out HR.out HS1.out).mono ?_); rintro e w2 ⟨rfl, hR, hS2, hB⟩; have HS2 := Lib.hid hS2; have HR2 := Lib.hid hR; have HB2 := Lib.hid (HB.out.trans hB); clear hR hB hS2))
      refine start_ (n := 6) (S := fun w' => True) (ds := []) #[false, false, false, false, false, false] (by kernel_rfl) rfl rfl trivial (fun hHeld => ?_)
      refine pure_ (i := 1) (N := some 91) (v := ?_) (a' := ?_) #[false, true, false, false, false, false] rfl rfl (by kernel_rfl) (fun _ _ _ h => h) (Or.inl ⟨by rfl, ?_⟩) ?_ ?_
      rotate_left
      · intro w'
        go_simp
        with_reducible rfl
      rotate_left
      · simp only [Act.put, List.setIfInBounds_toArray, List.set_cons_zero, List.set_cons_succ, i64_w, i32_w]
        rfl
      refine pure_ (i := 2) (N := some 92) (v := ?_) (a' := ?_) #[false, true, true, false, false, false] rfl rfl (by kernel_rfl) (fun _ _ _ h => h) (Or.inl ⟨by rfl, ?_⟩) ?_ ?_
      rotate_left
      · intro w'
        go_simp
        with_reducible rfl
      rotate_left
      · simp only [Act.put, List.setIfInBounds_toArray, List.set_cons_zero, List.set_cons_succ, i64_w, i32_w]
        rfl
      refine take_ (i := 0) (N := some 90) (v := ?_) (a' := ?_) #[true, true, true, false, false, false] rfl rfl (by kernel_rfl) (fun _ _ _ h => h) (Or.inl ⟨by rfl, ?_⟩) hHeld ?_ ?_
      rotate_left
      · intro w' _
        go_simp
        with_reducible rfl
      rotate_left
      · simp only [Act.put, List.setIfInBounds_toArray, List.set_cons_zero, List.set_cons_succ, i64_w, i32_w]
        rfl
      refine one_ (i := 3) (N := some 93) #[true, true, true, true, false, false] rfl rfl (by kernel_rfl) (by decide) (fun K hK => ?_)
      refine goes_ Tryd.func23 (by kernel_rfl) rfl #[.agg #[], .slice (some ⟨S, 0, none⟩) 2 8] (by rfl) rfl rfl (by simp only [List.map_toArray, List.map_cons, List.map_nil]; rfl) ?_
      with_reducible refine (HU.out _ (blk_drew HS2.out)).mono ?_
      rintro e w3 ⟨rfl, hB⟩
      refine ⟨_, rfl, ?_⟩
      have HB3 := Lib.hid ((below_drew (Below.refl w2.heap.size w2)).trans hB); have HB4 := Lib.hid (HB2.out.trans (below_low (Nat.le_trans HBW.out (HB2.out.size)) ((below_drew (Below.refl w2.heap.size w2)).trans hB))); clear hB
      refine hK.out _ _ trivial (fun hHeld => ?_)
      clear hK K
      refine norm_ (a' := ?_) ?_ ?_
      rotate_left
      · show Act.put _ (some 93) _ = _
        simp only [Act.put, List.setIfInBounds_toArray, List.set_cons_zero, List.set_cons_succ, i64_w, i32_w]
        rfl
      refine pure_ (i := 4) (N := some 94) (v := ?_) (a' := ?_) #[true, true, true, true, true, false] rfl rfl (by kernel_rfl) (fun _ _ _ h => h) (Or.inl ⟨by rfl, ?_⟩) ?_ ?_
      rotate_left
      · intro w'
        go_simp
        with_reducible rfl
      rotate_left
      · simp only [Act.put, List.setIfInBounds_toArray, List.set_cons_zero, List.set_cons_succ, i64_w, i32_w]
        rfl
      refine pure_ (i := 5) (N := some 11) (v := ?_) (a' := ?_) #[true, true, true, true, true, true] rfl rfl (by kernel_rfl) (fun _ _ _ h => h) (Or.inl ⟨by rfl, ?_⟩) ?_ ?_
      rotate_left
      · intro w'
        go_simp
        with_reducible rfl
      rotate_left
      · simp only [Act.put, List.setIfInBounds_toArray, List.set_cons_zero, List.set_cons_succ, i64_w, i32_w]
        rfl
      refine done_ (by kernel_rfl) ?_
      go_wp2_with (go_at_call 21; (with_reducible refine (PFnReadVarInt.btcdwire_messageError.calls _ _ _ _ _ _ (Below.refl _ _) rfl).mono ?_); rintro e w4 ⟨gm, rfl, _, hB, _⟩; have HB5 := Lib.hid (below_step HB3.out hB); have HB6 := Lib.hid hB; clear hB)
      go_ret2
      exact ⟨⟨⟨_, _, _, rfl⟩, _, HI1.out.1, HI1.out.2, HR2.out.below HB5.out⟩, HB4.out.trans (below_low (Nat.le_trans (Nat.le_trans HBW.out HB2.out.size) HB3.out.size) HB6.out)⟩
    · rw [show big 2 253 t = some (v, 0 + ((1 : Nat) : Int) + ((2 : Nat) : Int)) from by rw [big, if_neg (by rw [hv]; omega), hv]; rfl]
      have hcl : decide (v < 253) = false := decide_eq_false cl
      obtain ⟨n, hnn⟩ : ∃ n, ((253 : Int) :: t).length = n := ⟨_, rfl⟩
      simp only [hnn] at H H2 ⊢
      clear X hW h hz hS hnn hz1 hC1 cs_ cl hC2 htb htl hv0 hv1 hv
      go_enter Tryd.func16, Tryd.ntmps16
      go_wp2_with (first
        | (go_at_call 19; (with_reducible refine H.out.mono ?_); rintro e w1 ⟨rfl, hR, hS1, hB⟩; have hz0 := HC0.out _ hS1; have HS1 := Lib.hid hS1; have HR := Lib.hid hR; have HB := Lib.hid hB; clear hR hB hS1)
        | (go_at_call 19; (with_reducible refine (H2.out _ HB.out HR.out HS1.out).mono ?_); rintro e w2 ⟨rfl, hR, hS2, hB⟩; have HS2 := Lib.hid hS2; have HR2 := Lib.hid hR; have HB2 := Lib.hid (HB.out.trans hB); clear hR hB hS2))
      refine start_ (n := 6) (S := fun w' => True) (ds := []) #[false, false, false, false, false, false] (by kernel_rfl) rfl rfl trivial (fun hHeld => ?_)
      refine pure_ (i := 1) (N := some 91) (v := ?_) (a' := ?_) #[false, true, false, false, false, false] rfl rfl (by kernel_rfl) (fun _ _ _ h => h) (Or.inl ⟨by rfl, ?_⟩) ?_ ?_
      rotate_left
      · intro w'
        go_simp
        with_reducible rfl
      rotate_left
      · simp only [Act.put, List.setIfInBounds_toArray, List.set_cons_zero, List.set_cons_succ, i64_w, i32_w]
        rfl
      refine pure_ (i := 2) (N := some 92) (v := ?_) (a' := ?_) #[false, true, true, false, false, false] rfl rfl (by kernel_rfl) (fun _ _ _ h => h) (Or.inl ⟨by rfl, ?_⟩) ?_ ?_
      rotate_left
      · intro w'
        go_simp
        with_reducible rfl
      rotate_left
      · simp only [Act.put, List.setIfInBounds_toArray, List.set_cons_zero, List.set_cons_succ, i64_w, i32_w]
        rfl
      refine take_ (i := 0) (N := some 90) (v := ?_) (a' := ?_) #[true, true, true, false, false, false] rfl rfl (by kernel_rfl) (fun _ _ _ h => h) (Or.inl ⟨by rfl, ?_⟩) hHeld ?_ ?_
      rotate_left
      · intro w' _
        go_simp
        with_reducible rfl
      rotate_left
      · simp only [Act.put, List.setIfInBounds_toArray, List.set_cons_zero, List.set_cons_succ, i64_w, i32_w]
        rfl
      refine one_ (i := 3) (N := some 93) #[true, true, true, true, false, false] rfl rfl (by kernel_rfl) (by decide) (fun K hK => ?_)
      refine goes_ Tryd.func23 (by kernel_rfl) rfl #[.agg #[], .slice (some ⟨S, 0, none⟩) 2 8] (by rfl) rfl rfl (by simp only [List.map_toArray, List.map_cons, List.map_nil]; rfl) ?_
      with_reducible refine (HU.out _ (blk_drew HS2.out)).mono ?_
      rintro e w3 ⟨rfl, hB⟩
      refine ⟨_, rfl, ?_⟩
      have HB3 := Lib.hid ((below_drew (Below.refl w2.heap.size w2)).trans hB); have HB4 := Lib.hid (HB2.out.trans (below_low (Nat.le_trans HBW.out (HB2.out.size)) ((below_drew (Below.refl w2.heap.size w2)).trans hB))); clear hB
      refine hK.out _ _ trivial (fun hHeld => ?_)
      clear hK K
      refine norm_ (a' := ?_) ?_ ?_
      rotate_left
      · show Act.put _ (some 93) _ = _
        simp only [Act.put, List.setIfInBounds_toArray, List.set_cons_zero, List.set_cons_succ, i64_w, i32_w]
        rfl
      refine pure_ (i := 4) (N := some 94) (v := ?_) (a' := ?_) #[true, true, true, true, true, false] rfl rfl (by kernel_rfl) (fun _ _ _ h => h) (Or.inl ⟨by rfl, ?_⟩) ?_ ?_
      rotate_left
      · intro w'
        go_simp
        with_reducible rfl
      rotate_left
      · simp only [Act.put, List.setIfInBounds_toArray, List.set_cons_zero, List.set_cons_succ, i64_w, i32_w]
        rfl
      refine pure_ (i := 5) (N := some 11) (v := ?_) (a' := ?_) #[true, true, true, true, true, true] rfl rfl (by kernel_rfl) (fun _ _ _ h => h) (Or.inl ⟨by rfl, ?_⟩) ?_ ?_
      rotate_left
      · intro w'
        go_simp
        with_reducible rfl
      rotate_left
      · simp only [Act.put, List.setIfInBounds_toArray, List.set_cons_zero, List.set_cons_succ, i64_w, i32_w]
        rfl
      refine done_ (by kernel_rfl) ?_
      go_wp2
      go_ret2
      exact ⟨⟨by first | rfl | (simp; done), HR2.out.below HB3.out⟩, HB4.out⟩
set_option maxHeartbeats 8000000 in
set_option maxRecDepth 100000 in
theorem buf_254 {B R S : Nat} {A : Option Addr} {c : Nat} {t : List Int} {a b : Addr} {w0 : World} (X : Cx B R S A c (254 :: t) a b w0) (cs : Array Value) (w : World) (hW : Below B w0 w) (h : Rd w R A ((254 : Int) :: t).length c 0) (hz : cs.size = 8) (hS : w.heap[S]? = some (.cells cs 5 (0, 0))) :
    Calls Tryd.prog 16 #[Rdv R, .int .u32 0, .slice (some ⟨S, 0, none⟩) 8 8] w fun e w' => BOut R A ((254 : Int) :: t).length c (big 4 65536 t) e w' ∧ Below B w w' := by
  have H := rf_ok X 5 0 1 8 cs w hW h (Int.le_refl _) (by simp; omega) (by omega) (by omega) hS
  rw [show ((((254 : Int) :: t).drop (0 : Int).toNat).take 1).map (Value.int .u8) ++ cs.toList.drop 1 = ([(254 : Int)].map (Value.int .u8) ++ cs.toList.drop 1) by simp] at H
  have H := Lib.hid H
  have hz1 : (([(254 : Int)].map (Value.int .u8) ++ cs.toList.drop 1).toArray).size = 8 := by simp [hz]
  obtain ⟨C1, hC1⟩ : ∃ C1, ([(254 : Int)].map (Value.int .u8) ++ cs.toList.drop 1).toArray = C1 := ⟨_, rfl⟩
  have HC0 := Lib.hid (fun (W : World) (hh : W.heap[S]? = some (.cells C1 5 (0, 0))) => (cell_read (zs := [(254 : Int)]) (rest := cs.toList.drop 1) (by rw [hC1]; exact hh) 0 (by simp) : W.cell? ⟨S, 0, none⟩ = _))
  rw [hC1] at H hz1
  have HBW := Lib.hid (show B ≤ w.heap.size from Nat.le_trans X.hB.1 (Nat.le_of_lt h.lt))
  have HLN := Lib.hid (show ((254 : Int) :: t).length = t.length + 1 from rfl)
  by_cases cs_ : t.length < 4
  · rw [show big 4 65536 t = none from if_pos (.inl cs_)]
    have H2 := Lib.hid (fun W (hB : Below B w W) (hR : Rd W R A ((254 : Int) :: t).length c (0 + ((1 : Nat) : Int))) (hSS : W.heap[S]? = some (.cells C1 5 (0, 0))) => rf_bad X 5 (0 + ((1 : Nat) : Int)) 4 8 C1 W (hW.trans hB) hR (by have := HLN.out; omega) (by have := HLN.out; omega) (by omega) (by omega) hSS)
    obtain ⟨n, hnn⟩ : ∃ n, ((254 : Int) :: t).length = n := ⟨_, rfl⟩
    rw [hnn] at H H2 ⊢
    clear X hW h hz hS hnn hz1 hC1 cs_
    go_enter Tryd.func16, Tryd.ntmps16
    go_wp2_with (first
      | (go_at_call 19; (with_reducible refine H.out.mono ?_); rintro e w1 ⟨rfl, hR, hS1, hB⟩; have hz0 := HC0.out _ hS1; have HS1 := Lib.hid hS1; have HR := Lib.hid hR; have HB := Lib.hid hB; clear hR hB hS1)
      | (go_at_call 19; (with_reducible refine (H2.out _ HB.out HR.out HS1.out).mono ?_); rintro e w2 ⟨⟨m, v, rfl⟩, hR, hB⟩; have HR2 := Lib.hid hR; have HB2 := Lib.hid (HB.out.trans hB); clear hR hB))
    go_ret2
    exact ⟨⟨⟨_, _, _, rfl⟩, _, by omega, Int.le_refl _, HR2.out⟩, HB2.out⟩
  · obtain ⟨v, hv⟩ : ∃ v, leV (t.take 4) = v := ⟨_, rfl⟩
    have htb : Bytes (t.take 4) := bytes_take (fun x hx => X.hby x (List.mem_cons_of_mem _ hx)) _
    have hv0 : 0 ≤ v := by rw [← hv]; exact leV_nonneg htb
    have htl : (t.take 4).length = 4 := by rw [List.length_take]; omega
    have hv1 : v < 4294967296 := by
      rw [← hv]
      have := leV_lt htb
      rw [htl] at this
      exact this
    have H2 := fun W (hB : Below B w W) (hR : Rd W R A ((254 : Int) :: t).length c (0 + ((1 : Nat) : Int))) (hSS : W.heap[S]? = some (.cells C1 5 (0, 0))) => rf_ok X 5 (0 + ((1 : Nat) : Int)) 4 8 C1 W (hW.trans hB) hR (by decide) (by have := HLN.out; omega) (by omega) (by omega) hSS
    obtain ⟨C2, hC2⟩ : ∃ C2, ((((254 : Int) :: t).drop (0 + ((1 : Nat) : Int)).toNat).take 4).map (Value.int .u8) ++ C1.toList.drop 4 = C2 := ⟨_, rfl⟩
    simp only [hC2] at H2
    have H2 := Lib.hid H2
    have HU := Lib.hid (show ∀ W, W.heap[S]? = some (.cells C2.toArray 5 (0, 0)) → Calls Tryd.prog 22 #[.agg #[], .slice (some ⟨S, 0, none⟩) 4 8] W fun e w' => e = .returned (.int .u32 v) ∧ Below W.heap.size W w' from fun W hh => by
      have := Tryd.binary_LE_Uint32_z ⟨S, 0, none⟩ 4 8 (t.take 4) W (Nat.le_refl _) (by rw [htl]; exact Nat.le_refl _) (fun i hi => by
        rw [Addr.add_mid, Nat.zero_add]
        exact cell_read (rest := C1.toList.drop 4) (by rw [show (t.take 4).map (Value.int .u8) ++ C1.toList.drop 4 = C2 from hC2]; exact hh) i hi) (bytes_wf htb)
      rw [List.take_of_length_le (by rw [htl]; exact Nat.le_refl _), leZ_eq, hv] at this
      exact this)
    have hw1 : IntKind.u64.wrap v = v := u64_id hv0 (by omega)
    by_cases cl : v < 65536
    · rw [show big 4 65536 t = none from if_pos (.inr (by rw [hv]; exact cl))]
      have hcl : decide (v < 65536) = true := decide_eq_true cl
      have HI1 := Lib.hid (show (0 : Int) ≤ 0 + ((1 : Nat) : Int) + ((4 : Nat) : Int) ∧ 0 + ((1 : Nat) : Int) + ((4 : Nat) : Int) ≤ (((254 : Int) :: t).length : Int) by have := HLN.out; omega)
      obtain ⟨n, hnn⟩ : ∃ n, ((254 : Int) :: t).length = n := ⟨_, rfl⟩
      simp only [hnn] at H H2 HI1 ⊢
      clear X hW h hz hS hnn hz1 hC1 cs_ cl hC2 htb htl hv0 hv1 hv
      go_enter Tryd.func16, Tryd.ntmps16
      go_wp2_with (first
        | (go_at_call 19; (with_reducible refine H.out.mono ?_); rintro e w1 ⟨rfl, hR, hS1, hB⟩; have hz0 := HC0.out _ hS1; have HS1 := Lib.hid hS1; have HR := Lib.hid hR; have HB := Lib.hid hB; clear hR hB hS1)
        | (go_at_call 19; (with_reducible refine (H2.out _ HB.out HR.out HS1.out).mono ?_); rintro e w2 ⟨rfl, hR, hS2, hB⟩; have HS2 := Lib.hid hS2; have HR2 := Lib.hid hR; have HB2 := Lib.hid (HB.out.trans hB); clear hR hB hS2))
      refine start_ (n := 6) (S := fun w' => True) (ds := []) #[false, false, false, false, false, false] (by kernel_rfl) rfl rfl trivial (fun hHeld => ?_)
      refine pure_ (i := 1) (N := some 69) (v := ?_) (a' := ?_) #[false, true, false, false, false, false] rfl rfl (by kernel_rfl) (fun _ _ _ h => h) (Or.inl ⟨by rfl, ?_⟩) ?_ ?_
      rotate_left
      · intro w'
        go_simp
        with_reducible rfl
      rotate_left
      · simp only [Act.put, List.setIfInBounds_toArray, List.set_cons_zero, List.set_cons_succ, i64_w, i32_w]
        rfl
      refine pure_ (i := 2) (N := some 70) (v := ?_) (a' := ?_) #[false, true, true, false, false, false] rfl rfl (by kernel_rfl) (fun _ _ _ h => h) (Or.inl ⟨by rfl, ?_⟩) ?_ ?_
      rotate_left
      · intro w'
        go_simp
        with_reducible rfl
      rotate_left
      · simp only [Act.put, List.setIfInBounds_toArray, List.set_cons_zero, List.set_cons_succ, i64_w, i32_w]
        rfl
      refine take_ (i := 0) (N := some 68) (v := ?_) (a' := ?_) #[true, true, true, false, false, false] rfl rfl (by kernel_rfl) (fun _ _ _ h => h) (Or.inl ⟨by rfl, ?_⟩) hHeld ?_ ?_
      rotate_left
      · intro w' _
        go_simp
        with_reducible rfl
      rotate_left
      · simp only [Act.put, List.setIfInBounds_toArray, List.set_cons_zero, List.set_cons_succ, i64_w, i32_w]
        rfl
      refine one_ (i := 3) (N := some 71) #[true, true, true, true, false, false] rfl rfl (by kernel_rfl) (by decide) (fun K hK => ?_)
      refine goes_ Tryd.func22 (by kernel_rfl) rfl #[.agg #[], .slice (some ⟨S, 0, none⟩) 4 8] (by rfl) rfl rfl (by simp only [List.map_toArray, List.map_cons, List.map_nil]; rfl) ?_
      with_reducible refine (HU.out _ (blk_drew HS2.out)).mono ?_
      rintro e w3 ⟨rfl, hB⟩
      refine ⟨_, rfl, ?_⟩
      have HB3 := Lib.hid ((below_drew (Below.refl w2.heap.size w2)).trans hB); have HB4 := Lib.hid (HB2.out.trans (below_low (Nat.le_trans HBW.out (HB2.out.size)) ((below_drew (Below.refl w2.heap.size w2)).trans hB))); clear hB
      refine hK.out _ _ trivial (fun hHeld => ?_)
      clear hK K
      refine norm_ (a' := ?_) ?_ ?_
      rotate_left
      · show Act.put _ (some 71) _ = _
        simp only [Act.put, List.setIfInBounds_toArray, List.set_cons_zero, List.set_cons_succ, i64_w, i32_w]
        rfl
      refine pure_ (i := 4) (N := some 72) (v := ?_) (a' := ?_) #[true, true, true, true, true, false] rfl rfl (by kernel_rfl) (fun _ _ _ h => h) (Or.inl ⟨by rfl, ?_⟩) ?_ ?_
      rotate_left
      · intro w'
        go_simp
        with_reducible rfl
      rotate_left
      · simp only [Act.put, List.setIfInBounds_toArray, List.set_cons_zero, List.set_cons_succ, i64_w, i32_w]
        rfl
      refine pure_ (i := 5) (N := some 11) (v := ?_) (a' := ?_) #[true, true, true, true, true, true] rfl rfl (by kernel_rfl) (fun _ _ _ h => h) (Or.inl ⟨by rfl, ?_⟩) ?_ ?_
      rotate_left
      · intro w'
        go_simp
        with_reducible rfl
      rotate_left
      · simp only [Act.put, List.setIfInBounds_toArray, List.set_cons_zero, List.set_cons_succ, i64_w, i32_w]
        rfl
      refine done_ (by kernel_rfl) ?_
      go_wp2_with (go_at_call 21; (with_reducible refine (PFnReadVarInt.btcdwire_messageError.calls _ _ _ _ _ _ (Below.refl _ _) rfl).mono ?_); rintro e w4 ⟨gm, rfl, _, hB, _⟩; have HB5 := Lib.hid (below_step HB3.out hB); have HB6 := Lib.hid hB; clear hB)
      go_ret2
      exact ⟨⟨⟨_, _, _, rfl⟩, _, HI1.out.1, HI1.out.2, HR2.out.below HB5.out⟩, HB4.out.trans (below_low (Nat.le_trans (Nat.le_trans HBW.out HB2.out.size) HB3.out.size) HB6.out)⟩
    · rw [show big 4 65536 t = some (v, 0 + ((1 : Nat) : Int) + ((4 : Nat) : Int)) from by rw [big, if_neg (by rw [hv]; omega), hv]; rfl]
      have hcl : decide (v < 65536) = false := decide_eq_false cl
      obtain ⟨n, hnn⟩ : ∃ n, ((254 : Int) :: t).length = n := ⟨_, rfl⟩
      simp only [hnn] at H H2 ⊢
      clear X hW h hz hS hnn hz1 hC1 cs_ cl hC2 htb htl hv0 hv1 hv
      go_enter Tryd.func16, Tryd.ntmps16
      go_wp2_with (first
        | (go_at_call 19; (with_reducible refine H.out.mono ?_); rintro e w1 ⟨rfl, hR, hS1, hB⟩; have hz0 := HC0.out _ hS1; have HS1 := Lib.hid hS1; have HR := Lib.hid hR; have HB := Lib.hid hB; clear hR hB hS1)
        | (go_at_call 19; (with_reducible refine (H2.out _ HB.out HR.out HS1.out).mono ?_); rintro e w2 ⟨rfl, hR, hS2, hB⟩; have HS2 := Lib.hid hS2; have HR2 := Lib.hid hR; have HB2 := Lib.hid (HB.out.trans hB); clear hR hB hS2))
      refine start_ (n := 6) (S := fun w' => True) (ds := []) #[false, false, false, false, false, false] (by kernel_rfl) rfl rfl trivial (fun hHeld => ?_)
      refine pure_ (i := 1) (N := some 69) (v := ?_) (a' := ?_) #[false, true, false, false, false, false] rfl rfl (by kernel_rfl) (fun _ _ _ h => h) (Or.inl ⟨by rfl, ?_⟩) ?_ ?_
      rotate_left
      · intro w'
        go_simp
        with_reducible rfl
      rotate_left
      · simp only [Act.put, List.setIfInBounds_toArray, List.set_cons_zero, List.set_cons_succ, i64_w, i32_w]
        rfl
      refine pure_ (i := 2) (N := some 70) (v := ?_) (a' := ?_) #[false, true, true, false, false, false] rfl rfl (by kernel_rfl) (fun _ _ _ h => h) (Or.inl ⟨by rfl, ?_⟩) ?_ ?_
      rotate_left
      · intro w'
        go_simp
        with_reducible rfl
      rotate_left
      · simp only [Act.put, List.setIfInBounds_toArray, List.set_cons_zero, List.set_cons_succ, i64_w, i32_w]
        rfl
      refine take_ (i := 0) (N := some 68) (v := ?_) (a' := ?_) #[true, true, true, false, false, false] rfl rfl (by kernel_rfl) (fun _ _ _ h => h) (Or.inl ⟨by rfl, ?_⟩) hHeld ?_ ?_
      rotate_left
      · intro w' _
        go_simp
        with_reducible rfl
      rotate_left
      · simp only [Act.put, List.setIfInBounds_toArray, List.set_cons_zero, List.set_cons_succ, i64_w, i32_w]
        rfl
      refine one_ (i := 3) (N := some 71) #[true, true, true, true, false, false] rfl rfl (by kernel_rfl) (by decide) (fun K hK => ?_)
      refine goes_ Tryd.func22 (by kernel_rfl) rfl #[.agg #[], .slice (some ⟨S, 0, none⟩) 4 8] (by rfl) rfl rfl (by simp only [List.map_toArray, List.map_cons, List.map_nil]; rfl) ?_
      with_reducible refine (HU.out _ (blk_drew HS2.out)).mono ?_
      rintro e w3 ⟨rfl, hB⟩
      refine ⟨_, rfl, ?_⟩
      have HB3 := Lib.hid ((below_drew (Below.refl w2.heap.size w2)).trans hB); have HB4 := Lib.hid (HB2.out.trans (below_low (Nat.le_trans HBW.out (HB2.out.size)) ((below_drew (Below.refl w2.heap.size w2)).trans hB))); clear hB
      refine hK.out _ _ trivial (fun hHeld => ?_)
      clear hK K
      refine norm_ (a' := ?_) ?_ ?_
      rotate_left
      · show Act.put _ (some 71) _ = _
        simp only [Act.put, List.setIfInBounds_toArray, List.set_cons_zero, List.set_cons_succ, i64_w, i32_w]
        rfl
      refine pure_ (i := 4) (N := some 72) (v := ?_) (a' := ?_) #[true, true, true, true, true, false] rfl rfl (by kernel_rfl) (fun _ _ _ h => h) (Or.inl ⟨by rfl, ?_⟩) ?_ ?_
      rotate_left
      · intro w'
        go_simp
        with_reducible rfl
      rotate_left
      · simp only [Act.put, List.setIfInBounds_toArray, List.set_cons_zero, List.set_cons_succ, i64_w, i32_w]
        rfl
      refine pure_ (i := 5) (N := some 11) (v := ?_) (a' := ?_) #[true, true, true, true, true, true] rfl rfl (by kernel_rfl) (fun _ _ _ h => h) (Or.inl ⟨by rfl, ?_⟩) ?_ ?_
      rotate_left
      · intro w'
        go_simp
        with_reducible rfl
      rotate_left
      · simp only [Act.put, List.setIfInBounds_toArray, List.set_cons_zero, List.set_cons_succ, i64_w, i32_w]
        rfl
      refine done_ (by kernel_rfl) ?_
      go_wp2
      go_ret2
      exact ⟨⟨by first | rfl | (simp; done), HR2.out.below HB3.out⟩, HB4.out⟩
set_option maxHeartbeats 8000000 in
set_option maxRecDepth 100000 in
theorem buf_255 {B R S : Nat} {A : Option Addr} {c : Nat} {t : List Int} {a b : Addr} {w0 : World} (X : Cx B R S A c (255 :: t) a b w0) (cs : Array Value) (w : World) (hW : Below B w0 w) (h : Rd w R A ((255 : Int) :: t).length c 0) (hz : cs.size = 8) (hS : w.heap[S]? = some (.cells cs 5 (0, 0))) :
    Calls Tryd.prog 16 #[Rdv R, .int .u32 0, .slice (some ⟨S, 0, none⟩) 8 8] w fun e w' => BOut R A ((255 : Int) :: t).length c (big 8 4294967296 t) e w' ∧ Below B w w' := by
  have H := rf_ok X 5 0 1 8 cs w hW h (Int.le_refl _) (by simp; omega) (by omega) (by omega) hS
  rw [show ((((255 : Int) :: t).drop (0 : Int).toNat).take 1).map (Value.int .u8) ++ cs.toList.drop 1 = ([(255 : Int)].map (Value.int .u8) ++ cs.toList.drop 1) by simp] at H
  have H := Lib.hid H
  have hz1 : (([(255 : Int)].map (Value.int .u8) ++ cs.toList.drop 1).toArray).size = 8 := by simp [hz]
  obtain ⟨C1, hC1⟩ : ∃ C1, ([(255 : Int)].map (Value.int .u8) ++ cs.toList.drop 1).toArray = C1 := ⟨_, rfl⟩
  have HC0 := Lib.hid (fun (W : World) (hh : W.heap[S]? = some (.cells C1 5 (0, 0))) => (cell_read (zs := [(255 : Int)]) (rest := cs.toList.drop 1) (by rw [hC1]; exact hh) 0 (by simp) : W.cell? ⟨S, 0, none⟩ = _))
  rw [hC1] at H hz1
  have HBW := Lib.hid (show B ≤ w.heap.size from Nat.le_trans X.hB.1 (Nat.le_of_lt h.lt))
  have HLN := Lib.hid (show ((255 : Int) :: t).length = t.length + 1 from rfl)
  by_cases cs_ : t.length < 8
  · rw [show big 8 4294967296 t = none from if_pos (.inl cs_)]
    have H2 := Lib.hid (fun W (hB : Below B w W) (hR : Rd W R A ((255 : Int) :: t).length c (0 + ((1 : Nat) : Int))) (hSS : W.heap[S]? = some (.cells C1 5 (0, 0))) => rf_bad X 5 (0 + ((1 : Nat) : Int)) 8 8 C1 W (hW.trans hB) hR (by have := HLN.out; omega) (by have := HLN.out; omega) (by omega) (by omega) hSS)
    obtain ⟨n, hnn⟩ : ∃ n, ((255 : Int) :: t).length = n := ⟨_, rfl⟩
    rw [hnn] at H H2 ⊢
    clear X hW h hz hS hnn hz1 hC1 cs_
    go_enter Tryd.func16, Tryd.ntmps16
    go_wp2_with (first
      | (go_at_call 19; (with_reducible refine H.out.mono ?_); rintro e w1 ⟨rfl, hR, hS1, hB⟩; have hz0 := HC0.out _ hS1; have HS1 := Lib.hid hS1; have HR := Lib.hid hR; have HB := Lib.hid hB; clear hR hB hS1)
      | (go_at_call 19; (with_reducible refine (H2.out _ HB.out HR.out HS1.out).mono ?_); rintro e w2 ⟨⟨m, v, rfl⟩, hR, hB⟩; have HR2 := Lib.hid hR; have HB2 := Lib.hid (HB.out.trans hB); clear hR hB))
    go_ret2
    exact ⟨⟨⟨_, _, _, rfl⟩, _, by omega, Int.le_refl _, HR2.out⟩, HB2.out⟩
  · obtain ⟨v, hv⟩ : ∃ v, leV (t.take 8) = v := ⟨_, rfl⟩
    have htb : Bytes (t.take 8) := bytes_take (fun x hx => X.hby x (List.mem_cons_of_mem _ hx)) _
    have hv0 : 0 ≤ v := by rw [← hv]; exact leV_nonneg htb
    have htl : (t.take 8).length = 8 := by rw [List.length_take]; omega
    have hv1 : v < 18446744073709551616 := by
      rw [← hv]
      have := leV_lt htb
      rw [htl] at this
      exact this
    have H2 := fun W (hB : Below B w W) (hR : Rd W R A ((255 : Int) :: t).length c (0 + ((1 : Nat) : Int))) (hSS : W.heap[S]? = some (.cells C1 5 (0, 0))) => rf_ok X 5 (0 + ((1 : Nat) : Int)) 8 8 C1 W (hW.trans hB) hR (by decide) (by have := HLN.out; omega) (by omega) (by omega) hSS
    obtain ⟨C2, hC2⟩ : ∃ C2, ((((255 : Int) :: t).drop (0 + ((1 : Nat) : Int)).toNat).take 8).map (Value.int .u8) ++ C1.toList.drop 8 = C2 := ⟨_, rfl⟩
    simp only [hC2] at H2
    have H2 := Lib.hid H2
    have HU := Lib.hid (show ∀ W, W.heap[S]? = some (.cells C2.toArray 5 (0, 0)) → Calls Tryd.prog 20 #[.agg #[], .slice (some ⟨S, 0, none⟩) 8 8] W fun e w' => e = .returned (.int .u64 v) ∧ Below W.heap.size W w' from fun W hh => by
      have := Tryd.binary_LE_Uint64_z ⟨S, 0, none⟩ 8 8 (t.take 8) W (Nat.le_refl _) (by rw [htl]; exact Nat.le_refl _) (fun i hi => by
        rw [Addr.add_mid, Nat.zero_add]
        exact cell_read (rest := C1.toList.drop 8) (by rw [show (t.take 8).map (Value.int .u8) ++ C1.toList.drop 8 = C2 from hC2]; exact hh) i hi) (bytes_wf htb)
      rw [List.take_of_length_le (by rw [htl]; exact Nat.le_refl _), leZ_eq, hv] at this
      exact this)
    have hw1 : IntKind.u64.wrap v = v := u64_id hv0 (by omega)
    by_cases cl : v < 4294967296
    · rw [show big 8 4294967296 t = none from if_pos (.inr (by rw [hv]; exact cl))]
      have hcl : decide (v < 4294967296) = true := decide_eq_true cl
      have HI1 := Lib.hid (show (0 : Int) ≤ 0 + ((1 : Nat) : Int) + ((8 : Nat) : Int) ∧ 0 + ((1 : Nat) : Int) + ((8 : Nat) : Int) ≤ (((255 : Int) :: t).length : Int) by have := HLN.out; omega)
      obtain ⟨n, hnn⟩ : ∃ n, ((255 : Int) :: t).length = n := ⟨_, rfl⟩
      simp only [hnn] at H H2 HI1 ⊢
      clear X hW h hz hS hnn hz1 hC1 cs_ cl hC2 htb htl hv0 hv1 hv
      go_enter Tryd.func16, Tryd.ntmps16
      go_wp2_with (first
        | (go_at_call 19; (with_reducible refine H.out.mono ?_); rintro e w1 ⟨rfl, hR, hS1, hB⟩; have hz0 := HC0.out _ hS1; have HS1 := Lib.hid hS1; have HR := Lib.hid hR; have HB := Lib.hid hB; clear hR hB hS1)
        | (go_at_call 19; (with_reducible refine (H2.out _ HB.out HR.out HS1.out).mono ?_); rintro e w2 ⟨rfl, hR, hS2, hB⟩; have HS2 := Lib.hid hS2; have HR2 := Lib.hid hR; have HB2 := Lib.hid (HB.out.trans hB); clear hR hB hS2)
        | (go_at_call 20; go_must ((with_reducible refine (HU.out _ HS2.out).mono ?_); rintro e w3 ⟨rfl, hB⟩; have HB3 := Lib.hid hB; have HB4 := Lib.hid (HB2.out.trans (below_low (Nat.le_trans HBW.out (HB2.out.size)) hB)); clear hB))
        | (go_at_call 21; (with_reducible refine (PFnReadVarInt.btcdwire_messageError.calls _ _ _ _ _ _ (Below.refl _ _) rfl).mono ?_); rintro e w4 ⟨gm, rfl, _, hB, _⟩; have HB5 := Lib.hid (below_step HB3.out hB); have HB6 := Lib.hid hB; clear hB))
      go_ret2
      exact ⟨⟨⟨_, _, _, rfl⟩, _, HI1.out.1, HI1.out.2, HR2.out.below HB5.out⟩, HB4.out.trans (below_low (Nat.le_trans (Nat.le_trans HBW.out HB2.out.size) HB3.out.size) HB6.out)⟩
    · rw [show big 8 4294967296 t = some (v, 0 + ((1 : Nat) : Int) + ((8 : Nat) : Int)) from by rw [big, if_neg (by rw [hv]; omega), hv]; rfl]
      have hcl : decide (v < 4294967296) = false := decide_eq_false cl
      obtain ⟨n, hnn⟩ : ∃ n, ((255 : Int) :: t).length = n := ⟨_, rfl⟩
      simp only [hnn] at H H2 ⊢
      clear X hW h hz hS hnn hz1 hC1 cs_ cl hC2 htb htl hv0 hv1 hv
      go_enter Tryd.func16, Tryd.ntmps16
      go_wp2_with (first
        | (go_at_call 19; (with_reducible refine H.out.mono ?_); rintro e w1 ⟨rfl, hR, hS1, hB⟩; have hz0 := HC0.out _ hS1; have HS1 := Lib.hid hS1; have HR := Lib.hid hR; have HB := Lib.hid hB; clear hR hB hS1)
        | (go_at_call 19; (with_reducible refine (H2.out _ HB.out HR.out HS1.out).mono ?_); rintro e w2 ⟨rfl, hR, hS2, hB⟩; have HS2 := Lib.hid hS2; have HR2 := Lib.hid hR; have HB2 := Lib.hid (HB.out.trans hB); clear hR hB hS2)
        | (go_at_call 20; go_must ((with_reducible refine (HU.out _ HS2.out).mono ?_); rintro e w3 ⟨rfl, hB⟩; have HB3 := Lib.hid hB; have HB4 := Lib.hid (HB2.out.trans (below_low (Nat.le_trans HBW.out (HB2.out.size)) hB)); clear hB)))
      go_ret2
      exact ⟨⟨by first | rfl | (simp; done), HR2.out.below HB3.out⟩, HB4.out⟩
end Go.Proofs.YtclbkinlgjdojaaDoor.Rv
