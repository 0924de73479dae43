/-
  big.Int: FillBytes, Bytes.
-/
import Derived.Test.YtojadhcbjcpifaaDoorUb9
namespace Go.Proofs.YtojadhcbjcpifaaDoor.Ub
open Go.RowKit Go.Proofs.YtojadhcbjcpifaaDoorW.PrintWords Go.Proofs.YtojadhcbjcpifaaDoorW.PrintLast Go.Proofs.YtojadhcbjcpifaaDoorW.PrintMore Go.Proofs.YtojadhcbjcpifaaDoor.Reg
set_option linter.unusedSimpArgs false
set_option linter.unusedVariables false

theorem fill_step0 (x T : List Int) (n : Nat) (i d : Int) (hl : x.length = n) (hi : 0 ≤ i ∧ i < n) (h : ∀ j : Nat, (j : Int) < i → x.getD j 0 = T.getD j 0) (hd : T.getD i.toNat 0 = d) : ∀ j : Nat, (j : Int) < i + 1 → (x.set i.toNat d).getD j 0 = T.getD j 0 := fun j hj => by
  by_cases hji : j = i.toNat
  · subst hji
    rw [hd, List.getD_eq_getElem?_getD, List.getElem?_set_self (by omega)]; rfl
  · rw [getD_set_ne _ _ _ _ (by omega)]
    exact h j (by omega)
theorem fill_step (x T : List Int) (n : Nat) (i d : Int) (hl : x.length = n) (hi : 0 ≤ i ∧ i < n) (h : ∀ j : Nat, (j : Int) < i → x.getD j 0 = T.getD j 0) (hd : T.getD i.toNat 0 = d) : ∀ j : Nat, (j : Int) < i + 1 → ((x.set i.toNat 0).set i.toNat d).getD j 0 = T.getD j 0 := by
  rw [List.set_set]
  exact fill_step0 x T n i d hl hi h hd
theorem fill_end (x T : List Int) (n : Nat) (i : Int) (hl : x.length = n) (hT : T.length = n) (hi : ¬ i < n) (h : ∀ j : Nat, (j : Int) < i → x.getD j 0 = T.getD j 0) : x = T := by
  refine List.ext_getElem (hl.trans hT.symm) fun j h1 h2 => ?_
  have := h j (by omega)
  simpa [h1, h2] using this
set_option maxHeartbeats 8000000 in
set_option maxRecDepth 100000 in
theorem fill_calls (Q : Nat → Prop) (kf B g G n cp v b : Nat) (l L : List Int) (w : World) (hx : Big Q w g l) (hd : Dg 4294967296 l) (hv : lv 4294967296 l = v) (hbl : PFnUnbase58.smallbig_nat_bitLen.f kf l = some (b : Int)) (hb1 : b ≤ 32 * l.length) (hn : n = (b + 7) / 8) (hll : l.length ≤ 2000) (hg : g < B) (hq : ∀ k, Q k → k < B)
    (hR : Kd.R (Kd.int .u8) 5 w B (fun k => B ≤ k) (.slice (some ⟨G, 0, none⟩) n cp) L) (hL : L.length = n) (hBG : B ≤ G) :
    Calls Tryd.prog 32 #[.pointer (some ⟨g, 0, none⟩), .slice (some ⟨G, 0, none⟩) n cp] w fun e w' => e = .returned (.slice (some ⟨G, 0, none⟩) n cp) ∧ Kd.R (Kd.int .u8) 5 w' B (fun k => B ≤ k) (.slice (some ⟨G, 0, none⟩) n cp) (bb v n) ∧ Below B w w' := by
  obtain ⟨A1, c1, hbx, hcx, hFx⟩ := hx
  have HC := Lib.hid (show ∀ W, Below B w W → W.cell? ⟨g, 1, none⟩ = some (.slice A1 l.length c1) from fun W hW => (blk_cell (((hW.block g hg)).trans hbx) 1).trans rfl)
  have HD := Lib.hid (fun W (hW : Below B w W) => Kd.F_now (Kd.F_step hFx (fun k hk _ => hW.block k (hq k hk))))
  have HBL := Lib.hid (PFnUnbase58.smallbig_nat_bitLen.calls kf A1 c1 l b w (Kd.F_now hFx) hcx hbl)
  clear hbl
  have HFA := Lib.hid (fun i hi q r => fill_at l v n hd hv i hi q r)
  clear hv
  have hnn : n ≤ 8000 := by omega
  have h1 : wrap64 ((b : Int) + 7) = (b : Int) + 7 := wrap64_id (by omega) (by omega)
  have h2 : wrap64 (Int.tdiv ((b : Int) + 7) 8) = (n : Int) := by rw [Int.tdiv_eq_ediv_of_nonneg (by omega), wrap64_id (by omega) (by omega)]; omega
  have HNN := Lib.hid hnn
  have HLL := Lib.hid hll
  have HBG := Lib.hid hBG
  have HR := Aside0.mk hR
  have HB := Aside0.mk (Below.refl B w)
  have HN0 := Lib.hid hL
  obtain ⟨bi, hbi⟩ : ∃ bi : Int, (b : Int) = bi := ⟨_, rfl⟩
  obtain ⟨ni, hni⟩ : ∃ ni : Int, (n : Int) = ni := ⟨_, rfl⟩
  rw [hbi] at HBL h1 h2
  rw [hni] at h2
  have z1 := HC.out w (Below.refl B w)
  have hd0 : decide ((n : Int) < ni) = false := decide_eq_false (by omega)
  have HNI := Lib.hid hni
  have HDG := Lib.hid hd
  clear hbx hcx hFx hd hb1 hn hll hg hq hR hL hBG hnn hbi hni
  go_enter Tryd.func32, Tryd.ntmps32
  go_wp2_with (go_at_call 33; go_must ((with_reducible refine HBL.out.mono ?_); rintro e w1 ⟨rfl, ⟨m1, rfl⟩⟩; have n0_ := Aside0.mk (pw_below_drewN HB.out m1); have n1_ := Aside0.mk (Kd.R_drewN HR.out m1); clear HB HR z1; have HB := n0_; have HR := n1_; clear n0_ n1_))
  go_loopg [20] (n + 1) (fun kq v20 w' => ∃ (i : Int) (x : List Int), v20 = .int .i64 i ∧ Aside0 (0 ≤ i ∧ i + kq = n + 1 ∧ i ≤ n) ∧ Aside0 (x.length = n ∧ ∀ j : Nat, (j : Int) < i → x.getD j 0 = (bb v n).getD j 0) ∧ Aside0 (Kd.R (Kd.int .u8) 5 w' B (fun k => B ≤ k) (.slice (some ⟨G, 0, none⟩) n cp) x) ∧ Aside0 (Below B w w'))
  case atStart => exact ⟨0, L, rfl, ⟨by decide, by omega, by omega⟩, ⟨HN0.out, fun j hj => absurd hj (by omega)⟩, HR, HB⟩
  case round =>
    clear HR HB h1 h2 HBL
    obtain ⟨i, x, rfl, HI, HX, HO_5, HB⟩ := hrel
    obtain ⟨k1, rfl⟩ : ∃ k1, gk = k1 + 1 := by
      exact ⟨gk - 1, by have := HI.out; omega⟩
    by_cases ci : i < (n : Int)
    · have cb : decide (i < (n : Int)) = true := decide_eq_true ci
      have hi0 := HI.out.1
      obtain ⟨n1, hn1⟩ : ∃ n1 : Int, (n : Int) - 1 = n1 := ⟨_, rfl⟩
      obtain ⟨kk, hkk⟩ : ∃ kk : Int, n1 - i = kk := ⟨_, rfl⟩
      obtain ⟨q, hq⟩ : ∃ q : Int, kk / 4 = q := ⟨_, rfl⟩
      obtain ⟨r, hr⟩ : ∃ r : Int, kk % 4 = r := ⟨_, rfl⟩
      have hnn := HNN.out
      have w1 : wrap64 ((n : Int) - 1) = n1 := by rw [hn1]; exact wrap64_id (by omega) (by omega)
      have w2 : wrap64 (n1 - i) = kk := by rw [hkk]; exact wrap64_id (by omega) (by omega)
      have w3 : wrap64 (Int.tdiv kk 4) = q := by rw [Int.tdiv_eq_ediv_of_nonneg (by omega), hq]; exact wrap64_id (by omega) (by omega)
      have w4 : Int.tmod kk 4 = r := by rw [Int.tmod_eq_emod_of_nonneg (by omega), hr]
      have w6 : wrap64 (i + 1) = i + 1 := wrap64_id (by omega) (by omega)
      have w5 : wrap64 (8 * r) = 8 * r := wrap64_id (by omega) (by omega)
      have hT : (bb v n).getD i.toNat 0 = rd l q / 2 ^ (8 * r.toNat) % 256 := by
        have := HFA.out i.toNat (by omega) q.toNat r.toNat (by omega) (by omega)
        rwa [show ((q.toNat : Nat) : Int) = q by omega] at this
      have HT := Aside0.mk hT
      have p12 : 0 ≤ i := hi0
      obtain ⟨hx0, hf0⟩ := Kd.R_celln 0 HO_5.out i p12 ci
      have HP0 := (Kd.R_putg HO_5.out i 0).1
      obtain ⟨hx1, hf1⟩ := Kd.R_celln 0 HP0 i p12 ci
      have HB1 := Aside0.mk (HB.out.setCell (p := ⟨G, i.toNat, none⟩) HBG.out (.int .u8 0))
      have hz1 := HC.out _ HB1.out
      have HX1 := Aside0.mk (show (x.set i.toNat 0).length = n ∧ (x.set i.toNat 0).getD i.toNat 0 = 0 from ⟨by rw [List.length_set]; exact HX.out.1, by have := HX.out.1; rw [List.getD_eq_getElem?_getD, List.getElem?_set_self (by omega)]; rfl⟩)
      have HP := Aside0.mk HP0
      have HK := Aside0.mk (And.intro hkk (And.intro hn1 (And.intro hq hr)))
      have HCI := Aside0.mk ci
      have q12 := eq_true ci
      have p0 := Aside0.mk p12
      replace p12 := eq_true p12
      have rr : r = 0 ∨ r = 1 ∨ r = 2 ∨ r = 3 := by omega
      have hq0 : 0 ≤ q := by omega
      clear hkk hn1 hnn hi0 hT HP0 ci hq hr
      by_cases cq : q < (l.length : Int)
      · have cqb : decide (q < (l.length : Int)) = true := decide_eq_true cq
        obtain ⟨ad, ead, hqx⟩ := Kd.at_int (HD.out _ HB1.out) q hq0 cq
        cases ead
        have q13 := eq_true cq
        replace hq0 := eq_true hq0
        clear cq
        rcases rr with rfl | rfl | rfl | rfl
        · have HD_ := Aside0.mk (show (bb v n).getD i.toNat 0 = rd l q % 256 from HT.out.trans (by rw [show ((2 : Int) ^ (8 * (0 : Int).toNat)) = 1 from by decide, Int.ediv_one]))
          clear HT
          go_wp2
          go_roundg k1
          case measure => have := HI.out; omega
          case rel => exact ⟨i + 1, (x.set i.toNat 0).set i.toNat (rd l q % 256), by rw [w6], ⟨by have := p0.out; omega, by have := HI.out; push_cast at this; omega, by have := HCI.out; omega⟩, ⟨by simp [HX.out.1], fill_step x (bb v n) n i _ HX.out.1 ⟨p0.out, HCI.out⟩ HX.out.2 HD_.out⟩, ⟨(Kd.R_putg HP.out i (rd l q % 256)).1⟩, ⟨HB1.out.setCell (p := ⟨G, i.toNat, none⟩) HBG.out _⟩⟩
        · have HD_ := Aside0.mk (show (bb v n).getD i.toNat 0 = rd l q / 256 % 256 from HT.out.trans (by rw [show ((2 : Int) ^ (8 * (1 : Int).toNat)) = 256 from by decide]))
          clear HT
          go_wp2
          go_roundg k1
          case measure => have := HI.out; omega
          case rel => exact ⟨i + 1, (x.set i.toNat 0).set i.toNat (rd l q / 256 % 256), by rw [w6], ⟨by have := p0.out; omega, by have := HI.out; push_cast at this; omega, by have := HCI.out; omega⟩, ⟨by simp [HX.out.1], fill_step x (bb v n) n i _ HX.out.1 ⟨p0.out, HCI.out⟩ HX.out.2 HD_.out⟩, ⟨(Kd.R_putg HP.out i (rd l q / 256 % 256)).1⟩, ⟨HB1.out.setCell (p := ⟨G, i.toNat, none⟩) HBG.out _⟩⟩
        · have HD_ := Aside0.mk (show (bb v n).getD i.toNat 0 = rd l q / 65536 % 256 from HT.out.trans (by rw [show ((2 : Int) ^ (8 * (2 : Int).toNat)) = 65536 from by decide]))
          clear HT
          go_wp2
          go_roundg k1
          case measure => have := HI.out; omega
          case rel => exact ⟨i + 1, (x.set i.toNat 0).set i.toNat (rd l q / 65536 % 256), by rw [w6], ⟨by have := p0.out; omega, by have := HI.out; push_cast at this; omega, by have := HCI.out; omega⟩, ⟨by simp [HX.out.1], fill_step x (bb v n) n i _ HX.out.1 ⟨p0.out, HCI.out⟩ HX.out.2 HD_.out⟩, ⟨(Kd.R_putg HP.out i (rd l q / 65536 % 256)).1⟩, ⟨HB1.out.setCell (p := ⟨G, i.toNat, none⟩) HBG.out _⟩⟩
        · have HD_ := Aside0.mk (show (bb v n).getD i.toNat 0 = rd l q / 16777216 % 256 from HT.out.trans (by rw [show ((2 : Int) ^ (8 * (3 : Int).toNat)) = 16777216 from by decide]))
          clear HT
          go_wp2
          go_roundg k1
          case measure => have := HI.out; omega
          case rel => exact ⟨i + 1, (x.set i.toNat 0).set i.toNat (rd l q / 16777216 % 256), by rw [w6], ⟨by have := p0.out; omega, by have := HI.out; push_cast at this; omega, by have := HCI.out; omega⟩, ⟨by simp [HX.out.1], fill_step x (bb v n) n i _ HX.out.1 ⟨p0.out, HCI.out⟩ HX.out.2 HD_.out⟩, ⟨(Kd.R_putg HP.out i (rd l q / 16777216 % 256)).1⟩, ⟨HB1.out.setCell (p := ⟨G, i.toNat, none⟩) HBG.out _⟩⟩
      · have cqb : decide (q < (l.length : Int)) = false := decide_eq_false cq
        have HD_ := Aside0.mk (show (bb v n).getD i.toNat 0 = 0 from HT.out.trans (by
          have e : rd l q = 0 := by
            unfold rd
            rw [List.getD_eq_getElem?_getD, List.getElem?_eq_none (by omega)]; rfl
          rw [e]; simp))
        clear cq rr HT
        go_wp2
        go_roundg k1
        case measure => have := HI.out; omega
        case rel => exact ⟨i + 1, x.set i.toNat 0, by rw [w6], ⟨by have := p0.out; omega, by have := HI.out; push_cast at this; omega, by have := HCI.out; omega⟩, ⟨by simp [HX.out.1], fill_step0 x (bb v n) n i _ HX.out.1 ⟨p0.out, HCI.out⟩ HX.out.2 HD_.out⟩, ⟨HP.out⟩, ⟨HB1.out⟩⟩
    · have cb : decide (i < (n : Int)) = false := decide_eq_false ci
      have HE := Aside0.mk (fill_end x (bb v n) n i HX.out.1 (bb_len v n) ci HX.out.2)
      clear ci
      go_wp2
      go_ret
      exact ⟨rfl, by rw [← HE.out]; exact HO_5.out, HB.out⟩
set_option maxHeartbeats 8000000 in
set_option maxRecDepth 100000 in
theorem fill0_calls (Q : Nat → Prop) (kf g c : Nat) (A : Option Addr) (l : List Int) (w : World) (hx : Big Q w g l) (hbl : PFnUnbase58.smallbig_nat_bitLen.f kf l = some 0) :
    Calls Tryd.prog 32 #[.pointer (some ⟨g, 0, none⟩), .slice A 0 c] w fun e w' => e = .returned (.slice A 0 c) ∧ Below w.heap.size w w' := by
  obtain ⟨A1, c1, hbx, hcx, hFx⟩ := hx
  have z1 : w.cell? ⟨g, 1, none⟩ = some (.slice A1 l.length c1) := (blk_cell hbx 1).trans rfl
  have HBL := Lib.hid (PFnUnbase58.smallbig_nat_bitLen.calls kf A1 c1 l 0 w (Kd.F_now hFx) hcx hbl)
  have HB := Aside0.mk (Below.refl w.heap.size w)
  have h1 : wrap64 ((0 : Int) + 7) = 7 := by decide +kernel
  have h2 : wrap64 (Int.tdiv 7 8) = 0 := by decide +kernel
  clear hbx hcx hFx hbl
  go_enter Tryd.func32, Tryd.ntmps32
  go_wp2_with (go_at_call 33; go_must ((with_reducible refine HBL.out.mono ?_); rintro e w1 ⟨rfl, ⟨m1, rfl⟩⟩; have n0_ := Aside0.mk (pw_below_drewN HB.out m1); clear HB z1; have HB := n0_; clear n0_))
  go_loopg [20] 1 (fun kq v20 w' => v20 = .int .i64 0 ∧ kq = 1 ∧ Aside0 (Below w.heap.size w w'))
  case atStart => exact ⟨rfl, rfl, HB⟩
  case round =>
    clear HB h1 h2 HBL
    obtain ⟨rfl, rfl, HB⟩ := hrel
    go_wp2
    go_ret
    exact ⟨rfl, HB.out⟩
set_option maxHeartbeats 8000000 in
set_option maxRecDepth 100000 in
theorem bytes_calls (Q : Nat → Prop) (g v : Nat) (l : List Int) (w : World) (hx : Big Q w g l) (hN : Nrm 4294967296 l) (hv : lv 4294967296 l = v) (hll : l.length ≤ 2000) :
    ∃ r, Nrm 256 r.reverse ∧ bv 256 r = (v : Int) ∧ r.length ≤ 8000 ∧ Calls Tryd.prog 25 #[.pointer (some ⟨g, 0, none⟩)] w fun e w' => ∃ x, e = .returned x ∧ Kd.R (Kd.int .u8) 5 w' w.heap.size (fun k => w.heap.size ≤ k) x r ∧ Below w.heap.size w w' := by
  obtain ⟨b, hb1, hb2, hb3, hb4⟩ := bitLen_f l 40 (Nat.le_refl _) hll hN
  obtain ⟨kf, hkf⟩ : ∃ kf, 40 = kf := ⟨_, rfl⟩
  rw [hkf] at hb1
  clear hkf
  have hok := bytes_ok v b (by rw [hv] at hb3; exact_mod_cast hb3) (fun h => by have := hb4 h; rw [hv] at this; exact_mod_cast this)
  clear hb3 hb4
  refine ⟨bb v ((b + 7) / 8), hok.1, hok.2, by rw [bb_len]; clear hv hok hb1; omega, ?_⟩
  have HV := Lib.hid hv
  clear hok hv
  have hgl := hx.lt
  have hx2 : Big (fun k => Q k ∧ k < w.heap.size) w g l := by
    obtain ⟨A, c, h1, h2, h3⟩ := hx
    exact ⟨A, c, h1, h2, Kd.F_bound h3⟩
  have hx3 := hx2
  obtain ⟨A1, c1, hbx, hcx, hFx⟩ := hx3
  obtain ⟨n, hn⟩ : ∃ n, (b + 7) / 8 = n := ⟨_, rfl⟩
  rw [hn]
  have z1 : w.cell? ⟨g, 1, none⟩ = some (.slice A1 l.length c1) := (blk_cell hbx 1).trans rfl
  have HBL := Lib.hid (PFnUnbase58.smallbig_nat_bitLen.calls kf A1 c1 l b w (Kd.F_now hFx) hcx hb1)
  have HX := Lib.hid hx2
  have HB1 := Lib.hid hb1
  clear hb1
  have HB := Aside0.mk (Below.refl w.heap.size w)
  have HGL := Lib.hid hgl
  rcases Nat.eq_zero_or_pos n with hz | hz
  · obtain rfl : b = 0 := by omega
    subst hz
    have h1 : wrap64 ((0 : Int) + 7) = 7 := by decide +kernel
    have h2 : wrap64 (Int.tdiv 7 8) = 0 := by decide +kernel
    have HN0 := Lib.hid (show (0 : Int) ≤ 0 from Int.le_refl _)
    have HN4 := Lib.hid (show (0 : Int).toNat * 1 ≤ 281474976710656 from by decide)
    clear hbx hcx hFx hx hx2 hgl hn hb2 hN hll
    go_enter Tryd.func25, Tryd.ntmps25
    go_wp2_with (first
      | (go_at_call 33; go_must ((with_reducible refine HBL.out.mono ?_); rintro e w1 ⟨rfl, ⟨m1, rfl⟩⟩; have n0_ := Aside0.mk (pw_below_drewN HB.out m1); clear HB z1; have HB := n0_; clear n0_))
      | ((with_reducible refine gate_dst (N := 11) rfl ?_); go_must (refine Kd.R_make (Kd.int .u8) w.heap.size 5 rfl (N := 11) rfl 22 _ _ rfl 0 rfl rfl Tryd.underlying22 (.int .u8 0) 1 PFnUnbase58.info5 rfl (by decide) (by omega) 0 (ok := fun k => w.heap.size ≤ k) (okp := fun k => w.heap.size ≤ k) rfl (fun _ hk => hk) HB.out.size HN0.out HN4.out HB.out HB.out.size ?_); intro v1 w2 ho hb hg_ hnew_; clear hg_ hnew_ HB; have HB := Aside0.mk hb; clear hb; obtain ⟨A, c, rfl⟩ := Kd.R_slice ho; have HO := Aside0.mk ho; clear ho)
      | (go_at_call 32; go_must ((with_reducible refine (fill0_calls _ kf g c A l _ (HX.out.low HB.out HGL.out (fun k hk => hk.2)) (HB1.out.trans (rfl : some ((0 : Nat) : Int) = some 0))).mono ?_); rintro e w3 ⟨rfl, hb⟩; have HO3 := Aside0.mk (Kd.R_below HO.out hb); have HB3 := Aside0.mk (below_step HB.out hb); clear hb)))
    go_ret
    exact ⟨_, rfl, HO3.out, HB3.out⟩
  · have h1 : wrap64 ((b : Int) + 7) = (b : Int) + 7 := wrap64_id (by omega) (by omega)
    obtain ⟨ni, hni⟩ : ∃ ni : Int, (n : Int) = ni := ⟨_, rfl⟩
    have h2 : wrap64 (Int.tdiv ((b : Int) + 7) 8) = ni := by rw [Int.tdiv_eq_ediv_of_nonneg (by omega), wrap64_id (by omega) (by omega)]; omega
    have HN0 := Lib.hid (show (0 : Int) ≤ ni from by omega)
    have HN4 := Lib.hid (show ni.toNat * 1 ≤ 281474976710656 from by omega)
    have HNI := Lib.hid (show ni.toNat = n from by omega)
    have HNP := Lib.hid hz
    have hg2 : ∀ k, (Q k ∧ k < w.heap.size) → k < w.heap.size := fun k hk => hk.2
    have HFC := Lib.hid (fun (G cp : Nat) (W : World) (hW : Below w.heap.size w W) (hR : Kd.R (Kd.int .u8) 5 W w.heap.size (fun k => w.heap.size ≤ k) (.slice (some ⟨G, 0, none⟩) n cp) (List.replicate n 0)) (hG : w.heap.size ≤ G) =>
      fill_calls _ kf w.heap.size g G n cp v b l (List.replicate n 0) W (hx2.low hW hgl hg2) hN.dg HV.out HB1.out hb2 hn.symm hll hgl hg2 hR (by simp) hG)
    obtain ⟨bi, hbi⟩ : ∃ bi : Int, (b : Int) = bi := ⟨_, rfl⟩
    rw [hbi] at HBL h1 h2
    clear hbx hcx hFx hx hx2 hgl hn hb2 hN hll hz hni hbi hg2
    go_enter Tryd.func25, Tryd.ntmps25
    go_wp2_with (first
      | (go_at_call 33; go_must ((with_reducible refine HBL.out.mono ?_); rintro e w1 ⟨rfl, ⟨m1, rfl⟩⟩; have n0_ := Aside0.mk (pw_below_drewN HB.out m1); clear HB z1; have HB := n0_; clear n0_))
      | ((with_reducible refine gate_dst (N := 11) rfl ?_); go_must (refine Kd.R_make (Kd.int .u8) w.heap.size 5 rfl (N := 11) rfl 22 _ _ rfl ni (congrArg (Value.int .i64) h2) (congrArg (Value.int .i64) h2) Tryd.underlying22 (.int .u8 0) 1 PFnUnbase58.info5 rfl (by decide) (by omega) 0 (ok := fun k => w.heap.size ≤ k) (okp := fun k => w.heap.size ≤ k) rfl (fun _ hk => hk) HB.out.size HN0.out HN4.out HB.out HB.out.size ?_); intro v1 w2 ho hb hg_ hnew_; clear hg_ hnew_ HB; have HB := Aside0.mk hb; clear hb; rw [HNI.out] at ho; obtain ⟨G, c, rfl, hG1, hG2, hG3⟩ := Kd.R_form ho (by rw [List.length_replicate]; exact HNP.out); rw [List.length_replicate] at ho ⊢; have HO := Aside0.mk ho; have HG := Aside0.mk hG1; clear ho hG1 hG2 hG3)
      | (go_at_call 32; go_must ((with_reducible refine (HFC.out G c _ HB.out HO.out HG.out).mono ?_); rintro e w3 ⟨rfl, hO, hb⟩; have HO3 := Aside0.mk hO; have HB3 := Aside0.mk (HB.out.trans hb); clear hO hb)))
    go_ret
    exact ⟨_, rfl, HO3.out, HB3.out⟩
end Go.Proofs.YtojadhcbjcpifaaDoor.Ub
