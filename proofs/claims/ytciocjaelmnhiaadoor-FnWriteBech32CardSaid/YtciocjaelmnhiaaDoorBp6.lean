/-
  encodeGeneric.
-/
import Derived.Test.YtciocjaelmnhiaaDoorBp4
import Derived.Test.YtciocjaelmnhiaaDoorBp5
namespace Go.Proofs.YtciocjaelmnhiaaDoor.Bp
open Go.RowKit Go.Proofs.YtciocjaelmnhiaaDoorW.PrintWords Go.Proofs.YtciocjaelmnhiaaDoorW.PrintLast Go.Proofs.YtciocjaelmnhiaaDoorW.PrintMore Go.Proofs.YtciocjaelmnhiaaDoor.Reg
set_option linter.unusedSimpArgs false
set_option linter.unusedVariables false

theorem C_foot {w : World} {k : IntKind} {A : Option Addr} {n : Nat} {l : List Int} (h : Kd.C (Kd.int k) w A n l) : Kd.F (Kd.int k) w (fun _ => True) A n l := by
  intro W' hW
  have hr := (Kd.reads_of_C (d := (0 : Int)) h)
  refine Kd.C_of_reads (d := (0 : Int)) (h1 := fun _ => rfl) ⟨hr.1, hr.2.1, fun hn => ?_⟩
  obtain ⟨ad, e, hc⟩ := hr.2.2 hn
  refine ⟨ad, e, fun j hj => ?_⟩
  have h1 := hc j hj
  have h2 := World.block_lt_of_cell? w _ h1
  have h3 := hW _ trivial h2
  unfold World.cell? at h1 ⊢
  rw [h3]
  exact h1
theorem Dat.of_C {w : World} {A : Option Addr} {l : List Int} (h : Kd.C (Kd.int .u8) w A l.length l) : Dat w.heap.size w A l := Kd.F_mono (Kd.F_bound (C_foot h)) fun k hk => hk.2
theorem Dat.up {B B' : Nat} {w : World} {A : Option Addr} {l : List Int} (h : Dat B w A l) (hB : B ≤ B') : Dat B' w A l := Kd.F_mono h fun k hk => Nat.lt_of_lt_of_le hk hB
theorem GenB.up {B B' : Nat} {w : World} (h : GenB B w) (hB : B ≤ B') : GenB B' w := by
  obtain ⟨gb, go, c, h0, h1, h2, h3⟩ := h
  exact ⟨gb, go, c, by omega, by omega, h2, h3⟩
theorem bs_calls (B b : Nat) (l : List UInt8) (w : World) (h : Bd B b l w) (h0 : l ≠ []) :
    Calls Tryd.prog 27 #[.pointer (some ⟨b, 0, none⟩)] w fun e w' => e = .returned (.string ⟨l.toArray⟩) ∧ Bd B b l w' ∧ Below B w w' := YtciocjaelmnhiaaDoor.string B b l w h h0
abbrev sep : ByteArray := ⟨#[49]⟩
theorem sep_size : sep.size = 1 := rfl
/-- All numbers are below 32. -/
def Small (l : List Int) : Prop := ∀ v ∈ l, v < 32
/-- A readable part, the mark, letters. -/
def cat (s : ByteArray) (l : List Nat) : ByteArray := ⟨(s.data.toList ++ 49 :: l.map chr).toArray⟩
/-- The sum's numbers. -/
def sumd (s : ByteArray) (l : List Int) (K : Nat) : List Nat := six (pm 1 (hi s ++ 0 :: (lo s ++ (l.map Int.toNat ++ [0, 0, 0, 0, 0, 0]))) ^^^ K)
/-- What is written. -/
def enc (s : ByteArray) (l : List Int) (K : Nat) : ByteArray := cat s (l.map Int.toNat ++ sumd s l K)
theorem take_val (l : List Int) (h : ∀ v ∈ l, 0 ≤ v) (i : Nat) (hi : i < l.length) (y : Int) (hy : rd l (i : Int) = y) : (l.map Int.toNat).take (i + 1) = (l.map Int.toNat).take i ++ [y.toNat] ∧ y ∈ l := by
  have e : l[i] = y := by rw [← hy]; simp [rd, hi]
  refine ⟨?_, e ▸ List.getElem_mem _⟩
  rw [List.take_add_one, List.getElem?_eq_getElem (by simpa using hi)]
  simp [e]
set_option maxHeartbeats 8000000 in
set_option maxRecDepth 100000 in
theorem gen_calls (s : ByteArray) (A : Option Addr) (c1 : Nat) (l : List Int) (ver : Int) (K : Nat) (w : World) (hver : PFnWriteBech32.bech32_VersionToConsts.f ver = some (K : Int)) (hK : K < 1073741824)
    (hg : GenB w.heap.size w) (hs : s.size ≤ 1000) (hcap : ∀ b ∈ s.data.toList, ¬ (65 ≤ b.toNat ∧ b.toNat ≤ 90)) (hl : Kd.C (Kd.int .u8) w A l.length l) (hlv : ∀ v ∈ l, 0 ≤ v ∧ v < 256) (hll : l.length ≤ 1000) :
    Calls Tryd.prog 20 #[.string s, .slice A l.length c1, .int .u8 ver] w fun e w' =>
      ((Small l ∧ e = .returned (.tuple #[.string (enc s l K), .nilIface])) ∨ ((¬ Small l) ∧ ∃ v, e = .returned (.tuple #[.string ⟨#[]⟩, .iface 57 v]))) ∧ Below w.heap.size w w' := by
  have HLOW := Lib.hid (Bl.lower_calls s w hs hcap)
  have HV := Lib.hid hlv
  have HD := Lib.hid (Dat.of_C hl)
  have HG := Lib.hid hg
  have HS := Lib.hid (And.intro hs hll)
  have HVER := Lib.hid (And.intro hver hK)
  obtain ⟨n, hn⟩ : ∃ n, l.length = n := ⟨_, rfl⟩
  obtain ⟨N1, hN1⟩ : ∃ N1 : Int, (s.size : Int) + 1 = N1 := ⟨_, rfl⟩
  obtain ⟨N2, hN2⟩ : ∃ N2 : Int, N1 + (n : Int) = N2 := ⟨_, rfl⟩
  obtain ⟨m, hm⟩ : ∃ m : Nat, N2 + 6 = (m : Int) := ⟨(N2 + 6).toNat, by omega⟩
  have h1 : wrap64 ((s.size : Int) + 1) = N1 := by rw [hN1]; exact wrap64_id (by omega) (by omega)
  have h2 : wrap64 (N1 + (n : Int)) = N2 := by rw [hN2]; exact wrap64_id (by omega) (by omega)
  have h3 : wrap64 (N2 + 6) = (m : Int) := by rw [hm]; exact wrap64_id (by omega) (by omega)
  have HM := Lib.hid (show m ≤ 281474976710656 from by omega)
  have HN := Lib.hid hn
  rw [hn]
  clear hver hK hg hs hcap hl hlv hll hn hN1 hN2 hm
  go_enter Tryd.func20, Tryd.ntmps20
  go_wp2_with (first
    | (go_at_call 22; go_must ((with_reducible refine HLOW.out.mono ?_); rintro e w1 ⟨rfl, hB⟩; have HB1 := Aside0.mk hB; clear hB))
    | (go_at_call 23; go_must ((with_reducible refine (YtciocjaelmnhiaaDoor.grow w1.heap.size w1.heap.size m _ (Nat.le_refl _) (heap_alloc_new _ _) (by simp) HM.out).mono ?_); rintro e w2 ⟨⟨u0, rfl⟩, h4, h5⟩; have HB2 := Aside0.mk (show Below w1.heap.size w1 w2 from (below_alloc (Below.refl _ _) _).trans h5); have HBD2 := Aside0.mk (show Bd w1.heap.size w1.heap.size [] w2 from h4); clear h4 h5))
    | (go_at_call 24; go_must (first
        | ((with_reducible refine (ws_calls w1.heap.size w1.heap.size [] s w2 HBD2.out (by have := HS.out; simp; omega) HB2.out.size).mono ?_); rintro e w3 ⟨⟨u, rfl⟩, h4, h5⟩; rw [List.nil_append] at h4; have HB3 := Aside0.mk (HB2.out.trans h5); have HBD3 := Aside0.mk h4; clear h4 h5)
        | ((with_reducible refine (ws_calls w1.heap.size w1.heap.size s.data.toList sep w3 HBD3.out (by have := HS.out; rw [sep_size]; simp; omega) HB3.out.size).mono ?_); rintro e w4 ⟨⟨u2, rfl⟩, h4, h5⟩; have HB4 := Aside0.mk (HB3.out.trans h5); have HBD4 := Aside0.mk h4; clear h4 h5))))
  obtain ⟨b, hb⟩ : ∃ b, w1.heap.size = b := ⟨_, rfl⟩
  rw [hb] at HB4 HBD4
  have HW := Aside0.mk (show w.heap.size ≤ b from hb ▸ HB1.out.size)
  have HG1 := Lib.hid (show GenB b w1 from (HG.out.below HB1.out (Nat.le_refl _)).up HW.out)
  have HD1 := Lib.hid (show Dat b w1 A l from (HD.out.below HB1.out (Nat.le_refl _)).up HW.out)
  have HBW := Lib.hid (show b ≤ w1.heap.size from Nat.le_of_eq hb.symm)
  clear HB2 HBD2 HB3 HBD3 HG HD h1 h2 h3 HLOW
  try rw [hb]
  clear hb
  go_loopg [26] (n + 1) (fun kq v26 w' => ∃ i : Nat, v26 = .int .i64 (i : Int) ∧ Aside0 (i + kq = n + 1 ∧ i ≤ n) ∧ Aside0 (Bd b b (s.data.toList ++ 49 :: ((l.map Int.toNat).take i).map chr) w') ∧ Aside0 (Below b w1 w') ∧ Aside0 (∀ j : Nat, j < i → l.getD j 0 < 32))
  case atStart => exact ⟨0, rfl, ⟨by omega, by omega⟩, ⟨by simpa using HBD4.out⟩, HB4, ⟨fun j hj => absurd hj (by omega)⟩⟩
  case round =>
    clear HB4 HBD4
    obtain ⟨i, rfl, HI, HBD, HB, HP⟩ := hrel
    by_cases ci : i < n
    · obtain ⟨k1, rfl⟩ : ∃ k1, gk = k1 + 1 := ⟨gk - 1, by have := HI.out; omega⟩
      have cb : decide ((i : Int) < (n : Int)) = true := decide_eq_true (by omega)
      have cb2 := eq_true ci
      obtain ⟨ad, hA, hx⟩ := Kd.at_int (Kd.F_now (HD1.out.below HB.out (Nat.le_refl _))) (i : Int) (by omega) (by have := HN.out; omega)
      subst hA
      rw [Int.toNat_natCast] at hx
      obtain ⟨y, hy⟩ : ∃ y, rd l (i : Int) = y := ⟨_, rfl⟩
      rw [hy] at hx
      have HT := Aside0.mk (take_val l (fun v hv => (HV.out v hv).1) i (by have := HN.out; omega) y hy)
      have hy2 := HV.out y HT.out.2
      have HYI := Aside0.mk (show l.getD i 0 = y from by rw [← hy]; simp [rd])
      have HC := Aside0.mk ci
      have hwi : wrap64 ((i : Int) + 1) = ((i + 1 : Nat) : Int) := by rw [wrap64_id (by omega) (by have := HS.out; have := HN.out; omega)]; push_cast; rfl
      have HWI := Lib.hid hwi
      have hwy : wrap64 y = y := wrap64_id (by omega) (by omega)
      clear ci hy hwi
      by_cases c32 : y < 32
      · have d1 : decide (32 ≤ y) = false := decide_eq_false (by omega)
        have p0 := eq_true hy2.1
        have p1 := eq_true c32
        have HY := Aside0.mk (And.intro hy2.1 c32)
        clear hy2 c32
        go_wp2_with (first
          | (go_at_call 25; go_must ((with_reducible refine (wb_calls b b _ _ _ HBD.out (by have := HS.out; have := HI.out; have := HN.out; simp; omega) (Nat.le_trans HBW.out HB.out.size)).mono ?_); rintro e w5 ⟨rfl, h1, h2⟩; rw [chr_at y y.toNat (by have := HY.out; omega)] at h1; have HBD5 := Aside0.mk h1; have HB5 := Aside0.mk (HB.out.trans h2); clear h1 h2)))
        go_roundg k1
        case measure => have := HI.out; omega
        case rel => exact ⟨i + 1, by first | rfl | (rw [HWI.out]), ⟨by have := HI.out; omega, by have := HC.out; omega⟩, ⟨by have := HBD5.out; rw [HT.out.1, List.map_append, List.map_cons, List.map_nil, ← List.cons_append, ← List.append_assoc]; exact this⟩, HB5, ⟨fun j hj => by
          by_cases h : j = i
          · subst h; rw [HYI.out]; exact HY.out.2
          · exact HP.out j (by omega)⟩⟩
      · have d1 : decide (32 ≤ y) = true := decide_eq_true (by omega)
        have HY := Aside0.mk (show ¬ y < 32 from c32)
        clear c32 hy2
        go_wp2
        go_ret2
        exact ⟨.inr ⟨by intro h; have h1 := h y HT.out.2; have h2 := HY.out; omega, _, rfl⟩, HB1.out.trans (HB.out.mono HW.out)⟩
    · have cb : decide ((i : Int) < (n : Int)) = false := decide_eq_false (by omega)
      have cb2 := eq_false ci
      have HE := Aside0.mk (show i = l.length from by have := HI.out; have := HN.out; omega)
      have HALL := Aside0.mk (show ∀ v ∈ l, v < 32 from fun v hv => by
        obtain ⟨j, hj, rfl⟩ := List.mem_iff_getElem.1 hv
        have := HP.out j (by rw [HE.out]; exact hj)
        simpa [hj] using this)
      have HBD2 := Aside0.mk (show Bd b b (s.data.toList ++ 49 :: (l.map Int.toNat).map chr) wr from by
        have := HBD.out
        rwa [HE.out, List.take_of_length_le (by simp)] at this)
      have HSUM := Lib.hid (fun (W : World) (hW : Below b w1 W) (hbd : Bd b b (s.data.toList ++ 49 :: (l.map Int.toNat).map chr) W) => sum_calls b b _ s A c1 l ver K W HVER.out.1 HVER.out.2 (HG1.out.below hW (Nat.le_refl _)) HS.out.1 (HD1.out.below hW (Nat.le_refl _)) (fun v hv => ⟨(HV.out v hv).1, HALL.out v hv⟩) HS.out.2 hbd (by have := HS.out; simp; omega) (Nat.le_trans HBW.out hW.size))
      rw [HN.out] at HSUM
      clear ci HBD
      go_wp2_with (first
        | (go_at_call 26; go_must ((with_reducible refine (HSUM.out _ HB.out HBD2.out).mono ?_); rintro e w6 ⟨⟨u3, rfl⟩, h1, h2⟩; have HB6 := Aside0.mk (HB.out.trans h2); have HBD6 := Aside0.mk h1; clear h1 h2))
        | (go_at_call 27; go_must ((with_reducible refine (bs_calls b b _ _ HBD6.out (by simp)).mono ?_); rintro e w7 ⟨rfl, _, h2⟩; have HB7 := Aside0.mk (HB6.out.trans h2); clear h2)))
      go_ret2
      refine ⟨.inl ⟨HALL.out, ?_⟩, HB1.out.trans (HB7.out.mono HW.out)⟩
      first | rfl | (simp [enc, cat, sumd]; done) | (unfold enc cat sumd; rw [List.map_append, ← List.cons_append, ← List.append_assoc]; rfl)
end Go.Proofs.YtciocjaelmnhiaaDoor.Bp
