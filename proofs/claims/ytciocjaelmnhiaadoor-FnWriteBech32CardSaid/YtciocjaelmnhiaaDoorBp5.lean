/-
  writeBech32Checksum.
-/
import Derived.Test.YtciocjaelmnhiaaDoorBp2
import Derived.Test.YtciocjaelmnhiaaDoorBsh
namespace Go.Proofs.YtciocjaelmnhiaaDoor.Bp
open Go.RowKit Go.Proofs.YtciocjaelmnhiaaDoorW.PrintWords Go.Proofs.YtciocjaelmnhiaaDoorW.PrintLast Go.Proofs.YtciocjaelmnhiaaDoorW.PrintMore Go.Proofs.YtciocjaelmnhiaaDoor.Reg
set_option linter.unusedSimpArgs false
set_option linter.unusedVariables false

abbrev abc : ByteArray := ⟨#[113, 112, 122, 114, 121, 57, 120, 56, 103, 102, 50, 116, 118, 100, 119, 48, 115, 51, 106, 110, 53, 52, 107, 104, 99, 101, 54, 109, 117, 97, 55, 108]⟩
/-- A number's letter. -/
def chr (v : Nat) : UInt8 := abc.data.getD v 0
/-- The generator in blocks below B. -/
def GenB (B : Nat) (w : World) : Prop := ∃ (gb go c : Nat), 0 < B ∧ gb < B ∧ w.cell? ⟨0, 0, none⟩ = some (.slice (some ⟨gb, go, none⟩) 5 c) ∧ ∀ k : Nat, k < 5 → w.cell? ⟨gb, go + k, none⟩ = some (.int .i64 ((gen.getD k 0 : Nat) : Int))
theorem GenB.gen {B : Nat} {w : World} (h : GenB B w) : Gen w := by
  obtain ⟨gb, go, c, h0, h1, h2, h3⟩ := h
  exact ⟨gb, go, c, h2, h3⟩
theorem GenB.below {B B' : Nat} {w w' : World} (h : GenB B w) (hb : Below B' w w') (hB : B ≤ B') : GenB B w' := by
  obtain ⟨gb, go, c, h0, h1, h2, h3⟩ := h
  exact ⟨gb, go, c, h0, h1, (World.cell?_of_block (hb.block 0 (by omega))).trans h2, fun k hk => (World.cell?_of_block (hb.block gb (by omega))).trans (h3 k hk)⟩
/-- Numbers that lie in blocks below B. -/
def Dat (B : Nat) (w : World) (A : Option Addr) (l : List Int) : Prop := Kd.F (Kd.int .u8) w (fun k => k < B) A l.length l
theorem Dat.below {B B' : Nat} {w w' : World} {A : Option Addr} {l : List Int} (h : Dat B w A l) (hb : Below B' w w') (hB : B ≤ B') : Dat B w' A l := Kd.F_step h fun k hk _ => hb.block k (by omega)
/-- A builder that holds bytes. -/
def Bd (B b : Nat) (l : List UInt8) (w : World) : Prop := Lib.IsBuilderF 53 5 B b (Lib.byteCells l) w
theorem wb_calls (B b : Nat) (l : List UInt8) (x : UInt8) (w : World) (h : Bd B b l w) (hlen : l.length ≤ 100000) (hBw : B ≤ w.heap.size) :
    Calls Tryd.prog 25 #[.pointer (some ⟨b, 0, none⟩), .int .u8 (x.toNat : Int)] w fun e w' => e = .returned .nilIface ∧ Bd B b (l ++ [x]) w' ∧ Below B w w' := by
  refine (YtciocjaelmnhiaaDoor.writeByte B b (Lib.byteCells l) (x.toNat : Int) w h (by rw [Lib.byteCells_length]; omega) hBw).mono ?_
  rintro e w' ⟨rfl, h1, h2⟩
  refine ⟨rfl, ?_, h2⟩
  unfold Bd
  rw [show Lib.byteCells (l ++ [x]) = Lib.byteCells l ++ [.int .u8 (x.toNat : Int)] by simp [Lib.byteCells]]
  exact h1
theorem ws_calls (B b : Nat) (l : List UInt8) (s : ByteArray) (w : World) (h : Bd B b l w) (hlen : l.length + s.size ≤ 100000) (hBw : B ≤ w.heap.size) :
    Calls Tryd.prog 24 #[.pointer (some ⟨b, 0, none⟩), .string s] w fun e w' => (∃ u, e = .returned u) ∧ Bd B b (l ++ s.data.toList) w' ∧ Below B w w' := by
  refine (YtciocjaelmnhiaaDoor.writeString B b (Lib.byteCells l) s w h (by rw [Lib.byteCells_length]; omega) hBw).mono ?_
  rintro e w' ⟨hu, h1, h2⟩
  refine ⟨hu, ?_, h2⟩
  unfold Bd
  rw [show Lib.byteCells (l ++ s.data.toList) = Lib.byteCells l ++ Lib.strCells s by simp [Lib.byteCells, Lib.strCells]]
  exact h1
theorem chr_at (D : Int) (d : Nat) (h : D = (d : Int)) (hp : D.toNat < abc.size) : abc[D.toNat]'hp = chr d := by
  subst h
  simp only [Int.toNat_natCast] at hp ⊢
  unfold chr
  show abc.data[d]'hp = _
  rw [Array.getD, dif_pos (by exact hp)]
  rfl
theorem dig_val {q P : Nat} {Q Z : Int} (hQ : Q = (q : Int)) (hq : q < 1073741824) (hZ : Z = Q / (P : Int)) : ∃ D : Int, bits .and .i64 Z 31 % 256 = D ∧ D = ((q / P % 32 : Nat) : Int) := by
  have e : Z = ((q / P : Nat) : Int) := by rw [hZ, hQ]; push_cast; rfl
  have hl : q / P ≤ q := Nat.div_le_self _ _
  refine ⟨_, rfl, ?_⟩
  rw [e, show (31 : Int) = ((31 : Nat) : Int) from rfl, and_nat (q / P) 31 5 rfl (by decide) (by omega)]
  omega
set_option maxHeartbeats 8000000 in
set_option maxRecDepth 100000 in
theorem sum_calls (B b : Nat) (out : List UInt8) (s : ByteArray) (A : Option Addr) (c1 : Nat) (l : List Int) (ver : Int) (K : Nat) (w : World) (hver : PFnWriteBech32.bech32_VersionToConsts.f ver = some (K : Int)) (hK : K < 1073741824)
    (hg : GenB B w) (hs : s.size ≤ 1000) (hd : Dat B w A l) (hlv : ∀ v ∈ l, 0 ≤ v ∧ v < 32) (hll : l.length ≤ 1000) (hb : Bd B b out w) (ho : out.length ≤ 90000) (hBw : B ≤ w.heap.size) :
    Calls Tryd.prog 26 #[.string s, .slice A l.length c1, .pointer (some ⟨b, 0, none⟩), .int .u8 ver] w fun e w' => (∃ u, e = .returned u) ∧ Bd B b (out ++ (six (pm 1 (hi s ++ 0 :: (lo s ++ (l.map Int.toNat ++ [0, 0, 0, 0, 0, 0]))) ^^^ K)).map chr) w' ∧ Below B w w' := by
  obtain ⟨R, hR⟩ : ∃ R, pm 1 (hi s ++ 0 :: (lo s ++ (l.map Int.toNat ++ [0, 0, 0, 0, 0, 0]))) = R := ⟨_, rfl⟩
  have HM := Lib.hid (fun (W : World) (hW : Below B w W) => mod_nil s A c1 l W (hg.below hW (Nat.le_refl _)).gen hs (Kd.F_now (hd.below hW (Nat.le_refl _))) hlv hll)
  rw [hR] at HM ⊢
  have hRl : R < 1073741824 := by
    rw [← hR]
    refine pm_lt _ (by decide) fun v hv => ?_
    rw [List.mem_append, List.mem_cons, List.mem_append, List.mem_append] at hv
    rcases hv with hv | rfl | hv | hv | hv
    · obtain ⟨x, _, rfl⟩ := List.mem_map.1 hv
      have := x.toNat_lt; omega
    · decide
    · obtain ⟨x, _, rfl⟩ := List.mem_map.1 hv
      have := x.toNat_lt; omega
    · obtain ⟨x, hx, rfl⟩ := List.mem_map.1 hv
      have := hlv x hx; omega
    · simp at hv; omega
  obtain ⟨q, hq⟩ : ∃ q, R ^^^ K = q := ⟨_, rfl⟩
  rw [hq]
  obtain ⟨Q, hQ⟩ : ∃ Q : Int, bits .xor .i64 (R : Int) (K : Int) = Q := ⟨_, rfl⟩
  have HQ := Aside0.mk (show Q = (q : Int) ∧ q < 1073741824 from ⟨by rw [← hQ, xor_nat R K hRl hK, hq], by rw [← hq]; exact xor_lt hRl hK⟩)
  have HVER := Lib.hid hver
  have HB := Aside0.mk (Below.refl B w)
  have HBD := Aside0.mk hb
  have HO := Lib.hid ho
  have HBW := Lib.hid hBw
  obtain ⟨n, hn⟩ : ∃ n, l.length = n := ⟨_, rfl⟩
  rw [hn] at HM ⊢
  clear hg hs hd hlv hll hb ho hBw hR hRl hq hK hver hn
  go_enter Tryd.func26, Tryd.ntmps26
  go_wp2_with (first
    | (go_at_call 33; go_must ((with_reducible refine (PFnWriteBech32.bech32_VersionToConsts.calls ver K _ HVER.out).mono ?_); rintro e w1 ⟨rfl, ⟨m1, rfl⟩⟩; have n0_ := Aside0.mk (pw_below_drewN HB.out m1); have n1_ := Aside0.mk (show Bd B b out (w.drewN m1) from HBD.out); clear HB HBD; have HB := n0_; have HBD := n1_; clear n0_ n1_))
    | (go_at_call 34; go_must ((with_reducible refine (HM.out _ HB.out).mono ?_); rintro e w2 ⟨rfl, hw2⟩; obtain rfl := hw2.symm)))
  go_loopg [10] 7 (fun kq v10 w' => ∃ k : Nat, v10 = .int .i64 (k : Int) ∧ Aside0 (k + kq = 7 ∧ k ≤ 6) ∧ Aside0 (Bd B b (out ++ ((six q).take k).map chr) w') ∧ Aside0 (Below B w w'))
  case atStart => exact ⟨0, rfl, ⟨by omega, by omega⟩, ⟨by simpa using HBD.out⟩, HB⟩
  case round =>
    clear HB HBD
    obtain ⟨k, rfl, HK, HBD, HB⟩ := hrel
    have hk5 : k = 0 ∨ k = 1 ∨ k = 2 ∨ k = 3 ∨ k = 4 ∨ k = 5 ∨ k = 6 := by have := HK.out; omega
    rcases hk5 with rfl | rfl | rfl | rfl | rfl | rfl | rfl
    · obtain ⟨D, hD, hDd⟩ := dig_val (P := 33554432) (Z := Q / 33554432) HQ.out.1 HQ.out.2 (by first | rfl | (rw [show (((1 : Nat) : Int)) = 1 from rfl, Int.ediv_one]))
      obtain ⟨kin, rfl⟩ : ∃ kin, gk = kin + 1 := ⟨gk - 1, by have := HK.out; omega⟩
      obtain ⟨d, hd⟩ : ∃ d : Nat, q / 33554432 % 32 = d := ⟨_, rfl⟩
      rw [hd] at hDd
      have hd32 : d < 32 := by omega
      have p0 := eq_true (show 0 ≤ D by omega)
      have p1 := eq_true (show D < 32 by omega)
      have HD := Aside0.mk (And.intro hd hDd)
      clear hd hDd hd32
      go_wp2_with (first
        | (go_at_call 25; go_must ((with_reducible refine (wb_calls B b _ _ _ HBD.out (by have := HO.out; simp [six]; omega) (Nat.le_trans HBW.out HB.out.size)).mono ?_); rintro e w3 ⟨rfl, h1, h2⟩; rw [chr_at D d HD.out.2] at h1; have HBD3 := Aside0.mk h1; have HB3 := Aside0.mk (HB.out.trans h2); clear h1 h2)))
      go_roundg kin
      case measure => omega
      case rel => exact ⟨1, by first | rfl | (simp; done), ⟨by have := HK.out; omega, by decide⟩, ⟨by have := HBD3.out; rw [← HD.out.1, List.append_assoc] at this; first | exact this | (rw [Nat.div_one] at this; exact this)⟩, HB3⟩
    · obtain ⟨D, hD, hDd⟩ := dig_val (P := 1048576) (Z := Q / 1048576) HQ.out.1 HQ.out.2 (by first | rfl | (rw [show (((1 : Nat) : Int)) = 1 from rfl, Int.ediv_one]))
      obtain ⟨kin, rfl⟩ : ∃ kin, gk = kin + 1 := ⟨gk - 1, by have := HK.out; omega⟩
      obtain ⟨d, hd⟩ : ∃ d : Nat, q / 1048576 % 32 = d := ⟨_, rfl⟩
      rw [hd] at hDd
      have hd32 : d < 32 := by omega
      have p0 := eq_true (show 0 ≤ D by omega)
      have p1 := eq_true (show D < 32 by omega)
      have HD := Aside0.mk (And.intro hd hDd)
      clear hd hDd hd32
      go_wp2_with (first
        | (go_at_call 25; go_must ((with_reducible refine (wb_calls B b _ _ _ HBD.out (by have := HO.out; simp [six]; omega) (Nat.le_trans HBW.out HB.out.size)).mono ?_); rintro e w3 ⟨rfl, h1, h2⟩; rw [chr_at D d HD.out.2] at h1; have HBD3 := Aside0.mk h1; have HB3 := Aside0.mk (HB.out.trans h2); clear h1 h2)))
      go_roundg kin
      case measure => omega
      case rel => exact ⟨2, by first | rfl | (simp; done), ⟨by have := HK.out; omega, by decide⟩, ⟨by have := HBD3.out; rw [← HD.out.1, List.append_assoc] at this; first | exact this | (rw [Nat.div_one] at this; exact this)⟩, HB3⟩
    · obtain ⟨D, hD, hDd⟩ := dig_val (P := 32768) (Z := Q / 32768) HQ.out.1 HQ.out.2 (by first | rfl | (rw [show (((1 : Nat) : Int)) = 1 from rfl, Int.ediv_one]))
      obtain ⟨kin, rfl⟩ : ∃ kin, gk = kin + 1 := ⟨gk - 1, by have := HK.out; omega⟩
      obtain ⟨d, hd⟩ : ∃ d : Nat, q / 32768 % 32 = d := ⟨_, rfl⟩
      rw [hd] at hDd
      have hd32 : d < 32 := by omega
      have p0 := eq_true (show 0 ≤ D by omega)
      have p1 := eq_true (show D < 32 by omega)
      have HD := Aside0.mk (And.intro hd hDd)
      clear hd hDd hd32
      go_wp2_with (first
        | (go_at_call 25; go_must ((with_reducible refine (wb_calls B b _ _ _ HBD.out (by have := HO.out; simp [six]; omega) (Nat.le_trans HBW.out HB.out.size)).mono ?_); rintro e w3 ⟨rfl, h1, h2⟩; rw [chr_at D d HD.out.2] at h1; have HBD3 := Aside0.mk h1; have HB3 := Aside0.mk (HB.out.trans h2); clear h1 h2)))
      go_roundg kin
      case measure => omega
      case rel => exact ⟨3, by first | rfl | (simp; done), ⟨by have := HK.out; omega, by decide⟩, ⟨by have := HBD3.out; rw [← HD.out.1, List.append_assoc] at this; first | exact this | (rw [Nat.div_one] at this; exact this)⟩, HB3⟩
    · obtain ⟨D, hD, hDd⟩ := dig_val (P := 1024) (Z := Q / 1024) HQ.out.1 HQ.out.2 (by first | rfl | (rw [show (((1 : Nat) : Int)) = 1 from rfl, Int.ediv_one]))
      obtain ⟨kin, rfl⟩ : ∃ kin, gk = kin + 1 := ⟨gk - 1, by have := HK.out; omega⟩
      obtain ⟨d, hd⟩ : ∃ d : Nat, q / 1024 % 32 = d := ⟨_, rfl⟩
      rw [hd] at hDd
      have hd32 : d < 32 := by omega
      have p0 := eq_true (show 0 ≤ D by omega)
      have p1 := eq_true (show D < 32 by omega)
      have HD := Aside0.mk (And.intro hd hDd)
      clear hd hDd hd32
      go_wp2_with (first
        | (go_at_call 25; go_must ((with_reducible refine (wb_calls B b _ _ _ HBD.out (by have := HO.out; simp [six]; omega) (Nat.le_trans HBW.out HB.out.size)).mono ?_); rintro e w3 ⟨rfl, h1, h2⟩; rw [chr_at D d HD.out.2] at h1; have HBD3 := Aside0.mk h1; have HB3 := Aside0.mk (HB.out.trans h2); clear h1 h2)))
      go_roundg kin
      case measure => omega
      case rel => exact ⟨4, by first | rfl | (simp; done), ⟨by have := HK.out; omega, by decide⟩, ⟨by have := HBD3.out; rw [← HD.out.1, List.append_assoc] at this; first | exact this | (rw [Nat.div_one] at this; exact this)⟩, HB3⟩
    · obtain ⟨D, hD, hDd⟩ := dig_val (P := 32) (Z := Q / 32) HQ.out.1 HQ.out.2 (by first | rfl | (rw [show (((1 : Nat) : Int)) = 1 from rfl, Int.ediv_one]))
      obtain ⟨kin, rfl⟩ : ∃ kin, gk = kin + 1 := ⟨gk - 1, by have := HK.out; omega⟩
      obtain ⟨d, hd⟩ : ∃ d : Nat, q / 32 % 32 = d := ⟨_, rfl⟩
      rw [hd] at hDd
      have hd32 : d < 32 := by omega
      have p0 := eq_true (show 0 ≤ D by omega)
      have p1 := eq_true (show D < 32 by omega)
      have HD := Aside0.mk (And.intro hd hDd)
      clear hd hDd hd32
      go_wp2_with (first
        | (go_at_call 25; go_must ((with_reducible refine (wb_calls B b _ _ _ HBD.out (by have := HO.out; simp [six]; omega) (Nat.le_trans HBW.out HB.out.size)).mono ?_); rintro e w3 ⟨rfl, h1, h2⟩; rw [chr_at D d HD.out.2] at h1; have HBD3 := Aside0.mk h1; have HB3 := Aside0.mk (HB.out.trans h2); clear h1 h2)))
      go_roundg kin
      case measure => omega
      case rel => exact ⟨5, by first | rfl | (simp; done), ⟨by have := HK.out; omega, by decide⟩, ⟨by have := HBD3.out; rw [← HD.out.1, List.append_assoc] at this; first | exact this | (rw [Nat.div_one] at this; exact this)⟩, HB3⟩
    · obtain ⟨D, hD, hDd⟩ := dig_val (P := 1) (Z := Q) HQ.out.1 HQ.out.2 (by first | rfl | (rw [show (((1 : Nat) : Int)) = 1 from rfl, Int.ediv_one]))
      obtain ⟨kin, rfl⟩ : ∃ kin, gk = kin + 1 := ⟨gk - 1, by have := HK.out; omega⟩
      obtain ⟨d, hd⟩ : ∃ d : Nat, q / 1 % 32 = d := ⟨_, rfl⟩
      rw [hd] at hDd
      have hd32 : d < 32 := by omega
      have p0 := eq_true (show 0 ≤ D by omega)
      have p1 := eq_true (show D < 32 by omega)
      have HD := Aside0.mk (And.intro hd hDd)
      clear hd hDd hd32
      go_wp2_with (first
        | (go_at_call 25; go_must ((with_reducible refine (wb_calls B b _ _ _ HBD.out (by have := HO.out; simp [six]; omega) (Nat.le_trans HBW.out HB.out.size)).mono ?_); rintro e w3 ⟨rfl, h1, h2⟩; rw [chr_at D d HD.out.2] at h1; have HBD3 := Aside0.mk h1; have HB3 := Aside0.mk (HB.out.trans h2); clear h1 h2)))
      go_roundg kin
      case measure => omega
      case rel => exact ⟨6, by first | rfl | (simp; done), ⟨by have := HK.out; omega, by decide⟩, ⟨by have := HBD3.out; rw [← HD.out.1, List.append_assoc] at this; first | exact this | (rw [Nat.div_one] at this; exact this)⟩, HB3⟩
    · go_wp2
      first | go_end0 | refine bodyPost_ret (results_none rfl _ _ _) rfl ?_
      exact ⟨⟨_, rfl⟩, HBD.out, HB.out⟩
end Go.Proofs.YtciocjaelmnhiaaDoor.Bp
