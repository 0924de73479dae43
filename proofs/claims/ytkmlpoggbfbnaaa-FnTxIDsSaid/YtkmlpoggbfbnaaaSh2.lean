/-
  SHA-256's block function, read off its walk.
-/
import Derived.Test.YtkmlpoggbfbnaaaGa
import Derived.Deep.OwnRows
namespace Go.Proofs.Ytkmlpoggbfbnaaa.Sh
open Go.RowKit Go.Proofs.YtkmlpoggbfbnaaaW.PrintWords Go.Proofs.YtkmlpoggbfbnaaaW.PrintLast Go.Proofs.Ytkmlpoggbfbnaaa.Reg Go.Proofs.Ytkmlpoggbfbnaaa.Tok
set_option linter.unusedSimpArgs false
set_option linter.unusedVariables false

theorem w64 {x : Int} (h0 : -9223372036854775808 ≤ x) (h1 : x ≤ 9223372036854775807) : wrap64 x = x := by unfold wrap64; omega
/-- The eight numbers. -/
structure H8 where
  a : Int
  b : Int
  c : Int
  d : Int
  e : Int
  f : Int
  g : Int
  h : Int
/-- Four bytes of a block, as a number. -/
def be32 (p : Nat → Int) (i : Nat) : Int := Go.bits .or .u32 (Go.bits .or .u32 (Go.bits .or .u32 (IntKind.u32.wrap (p (4 * i) * 16777216)) (IntKind.u32.wrap (p (4 * i + 1) * 65536))) (IntKind.u32.wrap (p (4 * i + 2) * 256))) (p (4 * i + 3))
/-- The next number of the schedule. -/
def sg0 (x : Int) : Int := Go.bits .xor .u32 (Go.bits .xor .u32 (rl x 15) (rl x 13)) (x / 1024)
def sg1 (x : Int) : Int := Go.bits .xor .u32 (Go.bits .xor .u32 (rl x 25) (rl x 14)) (x / 8)
def nxt (l : List Int) (i : Nat) : Int := IntKind.u32.wrap (IntKind.u32.wrap (IntKind.u32.wrap (sg0 (l.getD (i - 2) 0) + l.getD (i - 7) 0) + sg1 (l.getD (i - 15) 0)) + l.getD (i - 16) 0)
/-- The schedule. -/
def sch (p : Nat → Int) : Nat → List Int
  | 0 => []
  | i + 1 => sch p i ++ [if i < 16 then be32 p i else nxt (sch p i) i]
theorem sch_len (p : Nat → Int) : ∀ i, (sch p i).length = i
  | 0 => rfl
  | i + 1 => by rw [sch, List.length_append, sch_len p i]; rfl
def t1 (s : H8) (k w : Int) : Int := s.h + Go.bits .xor .u32 (Go.bits .xor .u32 (rl s.e 26) (rl s.e 21)) (rl s.e 7) + Go.bits .xor .u32 (Go.bits .and .u32 s.e s.f) (Go.bits .and .u32 (Go.bits .xor .u32 IntKind.u32.max s.e) s.g) + k + w
def t2 (s : H8) : Int := Go.bits .xor .u32 (Go.bits .xor .u32 (rl s.a 30) (rl s.a 19)) (rl s.a 10) + Go.bits .xor .u32 (Go.bits .xor .u32 (Go.bits .and .u32 s.a s.b) (Go.bits .and .u32 s.a s.c)) (Go.bits .and .u32 s.b s.c)
def rnd (s : H8) (k w : Int) : H8 := ⟨(t1 s k w + t2 s) % 4294967296, s.a, s.b, s.c, (s.d + t1 s k w) % 4294967296, s.e, s.f, s.g⟩
def rounds (K : List Int) (p : Nat → Int) (s : H8) : Nat → H8
  | 0 => s
  | i + 1 => rnd (rounds K p s i) (K.getD i 0) ((sch p (i + 1)).getD i 0)
def plus (s t : H8) : H8 := ⟨(s.a + t.a) % 4294967296, (s.b + t.b) % 4294967296, (s.c + t.c) % 4294967296, (s.d + t.d) % 4294967296, (s.e + t.e) % 4294967296, (s.f + t.f) % 4294967296, (s.g + t.g) % 4294967296, (s.h + t.h) % 4294967296⟩
/-- A block is taken in. -/
def comp (K : List Int) (s : H8) (p : Nat → Int) : H8 := plus s (rounds K p s 64)
/-- The first m blocks of a text are taken in. -/
def blks (K : List Int) (s : H8) (l : List Int) : Nat → H8
  | 0 => s
  | j + 1 => comp K (blks K s l j) (fun k => IntKind.u32.wrap (l.getD (64 * j + k) 0))
/-- The table of constants, wherever it came from. -/
def KT (K : List Int) (w : World) : Prop := w.rowIs 1 145 64 (fun j => .int .u32 (K.getD j 0))
/-- Block b is a digest with these cells. -/
def Dg (b : Nat) (cs : Array Value) (w : World) : Prop := w.heap[b]? = some (.cells cs 111 (0, 0))
/-- A digest's eight numbers. -/
def H8.at (s : H8) (cs : Array Value) : Prop := cs[0]? = some (.int .u32 s.a) ∧ cs[1]? = some (.int .u32 s.b) ∧ cs[2]? = some (.int .u32 s.c) ∧ cs[3]? = some (.int .u32 s.d) ∧
  cs[4]? = some (.int .u32 s.e) ∧ cs[5]? = some (.int .u32 s.f) ∧ cs[6]? = some (.int .u32 s.g) ∧ cs[7]? = some (.int .u32 s.h)
/-- The eight numbers are put into a digest. -/
def H8.into (s : H8) (cs : Array Value) : Array Value := (((((((cs.setIfInBounds 0 (.int .u32 s.a)).setIfInBounds 1 (.int .u32 s.b)).setIfInBounds 2 (.int .u32 s.c)).setIfInBounds 3 (.int .u32 s.d)).setIfInBounds 4 (.int .u32 s.e)).setIfInBounds 5 (.int .u32 s.f)).setIfInBounds 6 (.int .u32 s.g)).setIfInBounds 7 (.int .u32 s.h)
/-- Only block b may have changed, and what is new. -/
def On (b : Nat) (w w' : World) : Prop := Below b w w' ∧ KeepBut w w' b none
theorem On.refl (b : Nat) (w : World) : On b w w := ⟨Below.refl _ _, KeepBut.refl _ _ _⟩
theorem On.of_below {b : Nat} {w w' : World} (hb : b < w.heap.size) (h : Below w.heap.size w w') : On b w w' := ⟨h.mono (Nat.le_of_lt hb), KeepBut.of_below h _ _⟩
theorem On.set {b : Nat} {w w' : World} (h : On b w w') (j : Nat) (u : Value) : On b w (w'.setCell ⟨b, j, none⟩ u) := ⟨h.1.setCell (Nat.le_refl _) u, h.2.set_ j u⟩
theorem On.drew {b : Nat} {w w' : World} (h : On b w w') : On b w w'.drew := ⟨h.1.drew, keep_drew h.2⟩
theorem On.drewN {b : Nat} {w w' : World} (h : On b w w') (n : Nat) : On b w (w'.drewN n) := ⟨pw_below_drewN h.1 n, keep_drewN h.2 n⟩
theorem On.trans {b : Nat} {w w1 w2 : World} (h : On b w w1) (k : On b w1 w2) : On b w w2 := ⟨h.1.trans k.1, h.2.trans k.2 (.inl rfl)⟩
theorem On.below {b : Nat} {w w1 w2 : World} (hb : b < w.heap.size) (h : On b w w1) (k : Below w1.heap.size w1 w2) : On b w w2 := h.trans (On.of_below (Nat.lt_of_lt_of_le hb h.1.size) k)
theorem dg_set {b : Nat} {cs : Array Value} {w : World} (h : Dg b cs w) (i : Nat) (v : Value) : Dg b (cs.setIfInBounds i v) (w.setCell ⟨b, i, none⟩ v) := blk_put h i v rfl
theorem dg_cell {b : Nat} {cs : Array Value} {w : World} {v : Value} (h : Dg b cs w) (i : Nat) (e : cs[i]? = some v) : w.cell? ⟨b, i, none⟩ = some v := (blk_cell h i).trans e
theorem wp_world {P : Program} {c : Code} {Q : Exit → Act → World → Prop} {a : Act} {w0 : World} (h : ∀ W, w0 = W → c.wp P Q a W) : c.wp P Q a w0 := h _ rfl
theorem rep_at {z : Value} {n i : Nat} (h : i < n) : (List.replicate n z).toArray[i]? = some z := by simp [h]
theorem rep_size (z : Value) (n : Nat) : (List.replicate n z).toArray.size = n := by simp
theorem rep_row (w : World) (z : Value) (n : Nat) (t : TypeId) : (w.alloc (.cells (List.replicate n z).toArray t)).rowIs w.heap.size t n (fun _ => z) := by
  have := World.rowIs_alloc w (List.replicate n z).toArray t (fun _ => z) (fun i hi => rep_at (by rwa [rep_size] at hi))
  rwa [rep_size] at this
theorem sch_old (p : Nat → Int) {i q : Nat} (h : q < i) : (sch p (i + 1)).getD q 0 = (sch p i).getD q 0 := by
  rw [sch, List.getD_eq_getElem?_getD, List.getElem?_append_left (by rw [sch_len]; exact h), List.getD_eq_getElem?_getD]
theorem sch_new (p : Nat → Int) (i : Nat) : (sch p (i + 1)).getD i 0 = if i < 16 then be32 p i else nxt (sch p i) i := by
  rw [sch, List.getD_eq_getElem?_getD, List.getElem?_append_right (by rw [sch_len]; exact Nat.le_refl _), sch_len, Nat.sub_self]
  rfl
set_option maxHeartbeats 32000000 in
set_option maxRecDepth 100000 in
theorem block_calls (K : List Int) (b : Nat) (cs : Array Value) (s0 : H8) (P0 : Nat → Prop) (A : Option Addr) (c : Nat) (l : List Int) (m : Nat) (w : World) (hK : KT K w) (hd : Dg b cs w) (hs : s0.at cs)
    (hp : Kd.V (Kd.int .u8) 5 w w.heap.size P0 (.slice A l.length c) l) (hl : l.length = 64 * m) (hm : m ≤ 100000) :
    Calls Try.prog 52 #[.pointer (some ⟨b, 0, none⟩), .slice A l.length c] w fun e w' => (∃ u, e = .returned u) ∧ Dg b ((blks K s0 l m).into cs) w' ∧ On b w w' := by
  have HS0 := Lib.hid hs
  obtain ⟨z0, z1, z2, z3, z4, z5, z6, z7⟩ := hs
  have HP := Lib.hid (Kd.V_bound hp)
  have HL := Lib.hid hl
  have HM := Lib.hid hm
  have HK := Lib.hid hK
  have HD := Lib.hid hd
  have hb : b < w.heap.size := blk_lt hd
  have HBL := Lib.hid hb
  clear hp hl hm hK hd
  go_enter Try.func52, Try.ntmps52
  go_wp2
  refine wp_world (fun W0 hW0 => ?_)
  obtain ⟨c0, hc0, hc1⟩ : ∃ c0 : Array Value, w.alloc (.cells c0 145) = W0 ∧ c0 = (List.replicate 64 (Value.int .u32 0)).toArray := ⟨_, hW0, by kernel_rfl⟩
  clear hW0
  have HB0 := Lib.hid (show Below w.heap.size w W0 from hc0 ▸ below_alloc (Below.refl _ _) _)
  have HR0 := Lib.hid (show W0.rowIs w.heap.size 145 64 (fun _ => .int .u32 0) from by
    rw [← hc0, hc1]
    exact rep_row w (.int .u32 0) 64 _)
  clear hc0 hc1
  have y0 : W0.cell? ⟨b, 0, none⟩ = some (.int .u32 s0.a) := (HB0.out.cell (p := ⟨b, 0, none⟩) hb).trans (dg_cell HD.out 0 z0)
  have y1 : W0.cell? ⟨b, 1, none⟩ = some (.int .u32 s0.b) := (HB0.out.cell (p := ⟨b, 1, none⟩) hb).trans (dg_cell HD.out 1 z1)
  have y2 : W0.cell? ⟨b, 2, none⟩ = some (.int .u32 s0.c) := (HB0.out.cell (p := ⟨b, 2, none⟩) hb).trans (dg_cell HD.out 2 z2)
  have y3 : W0.cell? ⟨b, 3, none⟩ = some (.int .u32 s0.d) := (HB0.out.cell (p := ⟨b, 3, none⟩) hb).trans (dg_cell HD.out 3 z3)
  have y4 : W0.cell? ⟨b, 4, none⟩ = some (.int .u32 s0.e) := (HB0.out.cell (p := ⟨b, 4, none⟩) hb).trans (dg_cell HD.out 4 z4)
  have y5 : W0.cell? ⟨b, 5, none⟩ = some (.int .u32 s0.f) := (HB0.out.cell (p := ⟨b, 5, none⟩) hb).trans (dg_cell HD.out 5 z5)
  have y6 : W0.cell? ⟨b, 6, none⟩ = some (.int .u32 s0.g) := (HB0.out.cell (p := ⟨b, 6, none⟩) hb).trans (dg_cell HD.out 6 z6)
  have y7 : W0.cell? ⟨b, 7, none⟩ = some (.int .u32 s0.h) := (HB0.out.cell (p := ⟨b, 7, none⟩) hb).trans (dg_cell HD.out 7 z7)
  clear z0 z1 z2 z3 z4 z5 z6 z7
  go_upto_region 1 with fail
  go_quiet (fail)
  go_wp2
  go_loopg [1, 5, 6, 7, 8, 9, 10, 11, 12, 13, 14, 15, 16, 17, 18, 19, 20, 21, 22, 23, 24, 25, 26, 27, 28, 80] (m + 1) (fun kq v1 v5 v6 v7 v8 v9 v10 v11 v12 v13 v14 v15 v16 v17 v18 v19 v20 v21 v22 v23 v24 v25 v26 v27 v28 v80 w' => ∃ (j : Nat) (s : H8) (A1 : Option Addr) (n1 c1 : Nat) (f : Nat → Value), Aside0 (j + kq = m + 1 ∧ j ≤ m) ∧ Aside0 (s = blks K s0 l j) ∧ v1 = .slice A1 n1 c1 ∧ Aside0 (n1 + 64 * j = 64 * m) ∧ Aside0 (Kd.V (Kd.int .u8) 5 w' w.heap.size (fun k => P0 k ∧ k < w.heap.size) (.slice A1 n1 c1) (l.drop (64 * j))) ∧
    v5 = .int .u32 s.a ∧ v6 = .int .u32 s.b ∧ v7 = .int .u32 s.c ∧ v8 = .int .u32 s.d ∧ v9 = .int .u32 s.e ∧ v10 = .int .u32 s.f ∧ v11 = .int .u32 s.g ∧ v12 = .int .u32 s.h ∧ Aside0 (w'.rowIs w.heap.size 145 64 f) ∧ Aside0 (Below w.heap.size w w'))
  case atStart => exact ⟨0, s0, A, l.length, c, _, ⟨by omega, by omega⟩, ⟨rfl⟩, rfl, ⟨by rw [HL.out, Nat.mul_zero, Nat.add_zero]⟩, ⟨Kd.V_step HP.out (fun k hk _ => (pw_below_drewN HB0.out _).block k hk.2)⟩, rfl, rfl, rfl, rfl, rfl, rfl, rfl, rfl, ⟨HR0.out.of_block (by rfl)⟩, ⟨pw_below_drewN HB0.out _⟩⟩
  case round =>
    clear HR0 HB0 HP y0 y1 y2 y3 y4 y5 y6 y7
    obtain ⟨j, s, A1, n1, c1, f0, HJ, HS, rfl, HN, HV, rfl, rfl, rfl, rfl, rfl, rfl, rfl, rfl, HR, HB⟩ := hrel
    by_cases cj : j < m
    · obtain ⟨k1, rfl⟩ : ∃ k1, gk = k1 + 1 := ⟨gk - 1, by have := HJ.out; omega⟩
      have q0 : decide ((64 : Int) ≤ (n1 : Int)) = true := decide_eq_true (by have := HN.out; omega)
      have q1 : decide (64 ≤ n1) = true := decide_eq_true (by have := HN.out; omega)
      obtain ⟨p, hp⟩ : ∃ p : Nat → Int, (fun k => IntKind.u32.wrap (l.getD (64 * j + k) 0)) = p := ⟨_, rfl⟩
      have HP := Lib.hid hp
      have HCJ := Lib.hid cj
      have HFIT := Lib.hid (show 64 ≤ n1 ∧ n1 ≤ 6400000 from by have := HN.out; have := HM.out; omega)
      have HNL := Lib.hid (show n1 = (l.drop (64 * j)).length from by rw [List.length_drop, HL.out]; have := HN.out; omega)
      have HPX := Lib.hid (show ∀ k, IntKind.u32.wrap ((l.drop (64 * j)).getD k 0) = p k from fun k => by rw [← hp]; simp [List.getD_eq_getElem?_getD])
      clear cj hp
      go_wp2
      go_loopg [13, 14, 15, 16, 17, 18, 19, 20, 21, 22, 23, 24, 25, 26, 27, 28, 80] 65 (fun kq v13 v14 v15 v16 v17 v18 v19 v20 v21 v22 v23 v24 v25 v26 v27 v28 v80 w' => ∃ (i : Nat) (t : H8) (f : Nat → Value), Aside0 (i + kq = 65 ∧ i ≤ 64) ∧ Aside0 (t = rounds K p s i) ∧ v80 = .int .i64 (i : Int) ∧ v13 = .int .u32 t.a ∧ v14 = .int .u32 t.b ∧ v15 = .int .u32 t.c ∧ v16 = .int .u32 t.d ∧ v17 = .int .u32 t.e ∧ v18 = .int .u32 t.f ∧ v19 = .int .u32 t.g ∧ v20 = .int .u32 t.h ∧ Aside0 (w'.rowIs w.heap.size 145 64 f) ∧ Aside0 (∀ q, q < i → f q = .int .u32 ((sch p i).getD q 0)) ∧ Aside0 (Below w.heap.size w w'))
      case atStart => exact ⟨0, s, f0, ⟨by omega, by omega⟩, ⟨rfl⟩, rfl, rfl, rfl, rfl, rfl, rfl, rfl, rfl, rfl, HR, ⟨fun q hq => absurd hq (by omega)⟩, HB⟩
      case round =>
        clear HR
        have HB9 := HB
        clear HB
        obtain ⟨i, t, f, HI, HT, rfl, rfl, rfl, rfl, rfl, rfl, rfl, rfl, rfl, HR, HW, HBI⟩ := hrel
        by_cases ci : i < 64
        · obtain ⟨k2, rfl⟩ : ∃ k2, gk = k2 + 1 := ⟨gk - 1, by have := HI.out; omega⟩
          have c0 : decide ((i : Int) < 64) = true := decide_eq_true (by omega)
          have c1 : decide (i < 64) = true := decide_eq_true ci
          have c2 := eq_true ci
          have c3 := eq_true (show (i : Int) < 64 by omega)
          have HCI := Lib.hid ci
          have hwi : wrap64 ((i : Int) + 1) = ((i + 1 : Nat) : Int) := by rw [w64 (by omega) (by omega)]; push_cast; rfl
          obtain ⟨ta, tb, tc, td, te, tf, tg, th⟩ := t
          by_cases c16 : i < 16
          · as_aux_lemma =>
            have d0 : decide ((i : Int) < 16) = true := decide_eq_true (by omega)
            have d1 : decide (i < 16) = true := decide_eq_true c16
            obtain ⟨J, hJ⟩ : ∃ J : Int, wrap64 ((i : Int) * 4) = J := ⟨_, rfl⟩
            have hj0 : J = 4 * (i : Int) := by rw [← hJ]; exact (w64 (by omega) (by omega)).trans (by omega)
            obtain ⟨J1, hJ1⟩ : ∃ J1 : Int, wrap64 (J + 1) = J1 := ⟨_, rfl⟩
            obtain ⟨J2, hJ2⟩ : ∃ J1 : Int, wrap64 (J + 2) = J1 := ⟨_, rfl⟩
            obtain ⟨J3, hJ3⟩ : ∃ J1 : Int, wrap64 (J + 3) = J1 := ⟨_, rfl⟩
            have hj1 : J1 = J + 1 := by rw [← hJ1]; exact w64 (by omega) (by omega)
            have hj2 : J2 = J + 2 := by rw [← hJ2]; exact w64 (by omega) (by omega)
            have hj3 : J3 = J + 3 := by rw [← hJ3]; exact w64 (by omega) (by omega)
            have hfit := HFIT.out
            have hnl := HNL.out
            have hC := Kd.F_now (Kd.V_F (Kd.V_step HV.out (fun k hk _ => (HBI.out.block k hk.2).trans (HB9.out.block k hk.2).symm)))
            obtain ⟨ad, e, x0⟩ := Kd.at_int hC J (by omega) (by omega)
            subst e
            obtain ⟨ad1, e, x1⟩ := Kd.at_int hC J1 (by omega) (by omega)
            cases e
            obtain ⟨ad2, e, x2⟩ := Kd.at_int hC J2 (by omega) (by omega)
            cases e
            obtain ⟨ad3, e, x3⟩ := Kd.at_int hC J3 (by omega) (by omega)
            cases e
            simp only [rd] at x0 x1 x2 x3
            have p00 := eq_true (show 0 ≤ J by omega)
            have p01 := eq_true (show J < (n1 : Int) by omega)
            have p10 := eq_true (show 0 ≤ J1 by omega)
            have p11 := eq_true (show J1 < (n1 : Int) by omega)
            have p20 := eq_true (show 0 ≤ J2 by omega)
            have p21 := eq_true (show J2 < (n1 : Int) by omega)
            have p30 := eq_true (show 0 ≤ J3 by omega)
            have p31 := eq_true (show J3 < (n1 : Int) by omega)
            have r0 := HPX.out J.toNat
            have r1 := HPX.out J1.toNat
            have r2 := HPX.out J2.toNat
            have r3 := HPX.out J3.toNat
            obtain ⟨y0, e0⟩ : ∃ y, p J.toNat = y := ⟨_, rfl⟩
            obtain ⟨u0, hu0⟩ : ∃ u, (l.drop (64 * j)).getD J.toNat 0 = u := ⟨_, rfl⟩
            obtain ⟨y1, e1⟩ : ∃ y, p J1.toNat = y := ⟨_, rfl⟩
            obtain ⟨u1, hu1⟩ : ∃ u, (l.drop (64 * j)).getD J1.toNat 0 = u := ⟨_, rfl⟩
            obtain ⟨y2, e2⟩ : ∃ y, p J2.toNat = y := ⟨_, rfl⟩
            obtain ⟨u2, hu2⟩ : ∃ u, (l.drop (64 * j)).getD J2.toNat 0 = u := ⟨_, rfl⟩
            obtain ⟨y3, e3⟩ : ∃ y, p J3.toNat = y := ⟨_, rfl⟩
            obtain ⟨u3, hu3⟩ : ∃ u, (l.drop (64 * j)).getD J3.toNat 0 = u := ⟨_, rfl⟩
            rw [hu0] at x0 r0
            rw [e0] at r0
            rw [hu1] at x1 r1
            rw [e1] at r1
            rw [hu2] at x2 r2
            rw [e2] at r2
            rw [hu3] at x3 r3
            rw [e3] at r3
            have o0 : IntKind.u32.wrap u0 = y0 := r0
            have o1 : IntKind.u32.wrap u1 = y1 := r1
            have o2 : IntKind.u32.wrap u2 = y2 := r2
            have o3 : IntKind.u32.wrap u3 = y3 := r3
            have HE := Lib.hid (show p (4 * i) = y0 ∧ p (4 * i + 1) = y1 ∧ p (4 * i + 2) = y2 ∧ p (4 * i + 3) = y3 from ⟨by rw [← e0]; congr 1; omega, by rw [← e1]; congr 1; omega, by rw [← e2]; congr 1; omega, by rw [← e3]; congr 1; omega⟩)
            have H16 := Lib.hid c16
            have zw := HR.out.cell ci
            have fw := HR.out.frozen i
            clear hC hfit hnl r0 r1 r2 r3 e0 e1 e2 e3 hu0 hu1 hu2 hu3 hj0 hj1 hj2 hj3 c16 ci
            go_wp2
            refine start_ (n := 32) (S := fun w' => w'.cell? (ad.add J.toNat) = some (.int .u8 u0) ∧ w'.cell? (ad.add J1.toNat) = some (.int .u8 u1) ∧ w'.cell? (ad.add J2.toNat) = some (.int .u8 u2) ∧ w'.cell? (ad.add J3.toNat) = some (.int .u8 u3)) (ds := [31]) #[false, false, false, false, false, false, false, false, false, false, false, false, false, false, false, false, false, false, false, false, false, false, false, false, false, false, false, false, false, false, false, false] (by kernel_rfl) rfl rfl ⟨x0, x1, x2, x3⟩ (fun hHeld => ?_)
            refine pure_ (i := 0) (N := some 87) (v := ?_) (a' := ?_) #[true, false, false, false, false, false, false, false, false, false, false, false, false, false, false, false, false, false, false, false, false, false, false, false, false, false, false, false, false, false, false, false] rfl rfl (by kernel_rfl) (fun _ _ _ h => h) (Or.inl ⟨by rfl, ?_⟩) ?_ ?_
            rotate_left
            · intro w'
              go_simp
              with_reducible rfl
            rotate_left
            · simp only [Act.put, List.setIfInBounds_toArray, List.set_cons_zero, List.set_cons_succ, i64_w, i32_w]
              rfl
            refine pure_ (i := 1) (N := some 88) (v := ?_) (a' := ?_) #[true, true, false, false, false, false, false, false, false, false, false, false, false, false, false, false, false, false, false, false, false, false, false, false, false, false, false, false, false, false, false, false] rfl rfl (by kernel_rfl) (fun _ _ _ h => h) (Or.inl ⟨by rfl, ?_⟩) ?_ ?_
            rotate_left
            · intro w'
              go_simp
              with_reducible rfl
            rotate_left
            · simp only [Act.put, List.setIfInBounds_toArray, List.set_cons_zero, List.set_cons_succ, i64_w, i32_w]
              rfl
            refine pure_ (i := 2) (N := some 89) (v := ?_) (a' := ?_) #[true, true, true, false, false, false, false, false, false, false, false, false, false, false, false, false, false, false, false, false, false, false, false, false, false, false, false, false, false, false, false, false] rfl rfl (by kernel_rfl) (fun _ _ _ h => h) (Or.inl ⟨by rfl, ?_⟩) ?_ ?_
            rotate_left
            · intro w'
              go_simp
              with_reducible rfl
            rotate_left
            · simp only [Act.put, List.setIfInBounds_toArray, List.set_cons_zero, List.set_cons_succ, i64_w, i32_w]
              rfl
            refine pure_ (i := 3) (N := some 90) (v := ?_) (a' := ?_) #[true, true, true, true, false, false, false, false, false, false, false, false, false, false, false, false, false, false, false, false, false, false, false, false, false, false, false, false, false, false, false, false] rfl rfl (by kernel_rfl) (fun _ _ _ h => h) (Or.inl ⟨by rfl, ?_⟩) ?_ ?_
            rotate_left
            · intro w'
              go_simp
              with_reducible rfl
            rotate_left
            · simp only [Act.put, List.setIfInBounds_toArray, List.set_cons_zero, List.set_cons_succ, i64_w, i32_w]
              rfl
            refine pure_ (i := 7) (N := some 94) (v := ?_) (a' := ?_) #[true, true, true, true, false, false, false, true, false, false, false, false, false, false, false, false, false, false, false, false, false, false, false, false, false, false, false, false, false, false, false, false] rfl rfl (by kernel_rfl) (fun _ _ _ h => h) (Or.inl ⟨by rfl, ?_⟩) ?_ ?_
            rotate_left
            · intro w'
              go_simp
              with_reducible rfl
            rotate_left
            · simp only [Act.put, List.setIfInBounds_toArray, List.set_cons_zero, List.set_cons_succ, i64_w, i32_w]
              rfl
            refine pure_ (i := 8) (N := some 95) (v := ?_) (a' := ?_) #[true, true, true, true, false, false, false, true, true, false, false, false, false, false, false, false, false, false, false, false, false, false, false, false, false, false, false, false, false, false, false, false] rfl rfl (by kernel_rfl) (fun _ _ _ h => h) (Or.inl ⟨by rfl, ?_⟩) ?_ ?_
            rotate_left
            · intro w'
              go_simp
              with_reducible rfl
            rotate_left
            · simp only [Act.put, List.setIfInBounds_toArray, List.set_cons_zero, List.set_cons_succ, i64_w, i32_w]
              rfl
            refine pure_ (i := 9) (N := some 96) (v := ?_) (a' := ?_) #[true, true, true, true, false, false, false, true, true, true, false, false, false, false, false, false, false, false, false, false, false, false, false, false, false, false, false, false, false, false, false, false] rfl rfl (by kernel_rfl) (fun _ _ _ h => h) (Or.inl ⟨by rfl, ?_⟩) ?_ ?_
            rotate_left
            · intro w'
              go_simp
              with_reducible rfl
            rotate_left
            · simp only [Act.put, List.setIfInBounds_toArray, List.set_cons_zero, List.set_cons_succ, i64_w, i32_w]
              rfl
            refine pure_ (i := 10) (N := some 97) (v := ?_) (a' := ?_) #[true, true, true, true, false, false, false, true, true, true, true, false, false, false, false, false, false, false, false, false, false, false, false, false, false, false, false, false, false, false, false, false] rfl rfl (by kernel_rfl) (fun _ _ _ h => h) (Or.inl ⟨by rfl, ?_⟩) ?_ ?_
            rotate_left
            · intro w'
              go_simp
              with_reducible rfl
            rotate_left
            · simp only [Act.put, List.setIfInBounds_toArray, List.set_cons_zero, List.set_cons_succ, i64_w, i32_w]
              rfl
            refine pure_ (i := 15) (N := some 102) (v := ?_) (a' := ?_) #[true, true, true, true, false, false, false, true, true, true, true, false, false, false, false, true, false, false, false, false, false, false, false, false, false, false, false, false, false, false, false, false] rfl rfl (by kernel_rfl) (fun _ _ _ h => h) (Or.inl ⟨by rfl, ?_⟩) ?_ ?_
            rotate_left
            · intro w'
              go_simp
              with_reducible rfl
            rotate_left
            · simp only [Act.put, List.setIfInBounds_toArray, List.set_cons_zero, List.set_cons_succ, i64_w, i32_w]
              rfl
            refine pure_ (i := 16) (N := some 103) (v := ?_) (a' := ?_) #[true, true, true, true, false, false, false, true, true, true, true, false, false, false, false, true, true, false, false, false, false, false, false, false, false, false, false, false, false, false, false, false] rfl rfl (by kernel_rfl) (fun _ _ _ h => h) (Or.inl ⟨by rfl, ?_⟩) ?_ ?_
            rotate_left
            · intro w'
              go_simp
              with_reducible rfl
            rotate_left
            · simp only [Act.put, List.setIfInBounds_toArray, List.set_cons_zero, List.set_cons_succ, i64_w, i32_w]
              rfl
            refine pure_ (i := 17) (N := some 104) (v := ?_) (a' := ?_) #[true, true, true, true, false, false, false, true, true, true, true, false, false, false, false, true, true, true, false, false, false, false, false, false, false, false, false, false, false, false, false, false] rfl rfl (by kernel_rfl) (fun _ _ _ h => h) (Or.inl ⟨by rfl, ?_⟩) ?_ ?_
            rotate_left
            · intro w'
              go_simp
              with_reducible rfl
            rotate_left
            · simp only [Act.put, List.setIfInBounds_toArray, List.set_cons_zero, List.set_cons_succ, i64_w, i32_w]
              rfl
            refine pure_ (i := 18) (N := some 105) (v := ?_) (a' := ?_) #[true, true, true, true, false, false, false, true, true, true, true, false, false, false, false, true, true, true, true, false, false, false, false, false, false, false, false, false, false, false, false, false] rfl rfl (by kernel_rfl) (fun _ _ _ h => h) (Or.inl ⟨by rfl, ?_⟩) ?_ ?_
            rotate_left
            · intro w'
              go_simp
              with_reducible rfl
            rotate_left
            · simp only [Act.put, List.setIfInBounds_toArray, List.set_cons_zero, List.set_cons_succ, i64_w, i32_w]
              rfl
            refine pure_ (i := 23) (N := some 110) (v := ?_) (a' := ?_) #[true, true, true, true, false, false, false, true, true, true, true, false, false, false, false, true, true, true, true, false, false, false, false, true, false, false, false, false, false, false, false, false] rfl rfl (by kernel_rfl) (fun _ _ _ h => h) (Or.inl ⟨by rfl, ?_⟩) ?_ ?_
            rotate_left
            · intro w'
              go_simp
              with_reducible rfl
            rotate_left
            · simp only [Act.put, List.setIfInBounds_toArray, List.set_cons_zero, List.set_cons_succ, i64_w, i32_w]
              rfl
            refine pure_ (i := 24) (N := some 111) (v := ?_) (a' := ?_) #[true, true, true, true, false, false, false, true, true, true, true, false, false, false, false, true, true, true, true, false, false, false, false, true, true, false, false, false, false, false, false, false] rfl rfl (by kernel_rfl) (fun _ _ _ h => h) (Or.inl ⟨by rfl, ?_⟩) ?_ ?_
            rotate_left
            · intro w'
              go_simp
              with_reducible rfl
            rotate_left
            · simp only [Act.put, List.setIfInBounds_toArray, List.set_cons_zero, List.set_cons_succ, i64_w, i32_w]
              rfl
            refine pure_ (i := 25) (N := some 112) (v := ?_) (a' := ?_) #[true, true, true, true, false, false, false, true, true, true, true, false, false, false, false, true, true, true, true, false, false, false, false, true, true, true, false, false, false, false, false, false] rfl rfl (by kernel_rfl) (fun _ _ _ h => h) (Or.inl ⟨by rfl, ?_⟩) ?_ ?_
            rotate_left
            · intro w'
              go_simp
              with_reducible rfl
            rotate_left
            · simp only [Act.put, List.setIfInBounds_toArray, List.set_cons_zero, List.set_cons_succ, i64_w, i32_w]
              rfl
            refine pure_ (i := 26) (N := some 113) (v := ?_) (a' := ?_) #[true, true, true, true, false, false, false, true, true, true, true, false, false, false, false, true, true, true, true, false, false, false, false, true, true, true, true, false, false, false, false, false] rfl rfl (by kernel_rfl) (fun _ _ _ h => h) (Or.inl ⟨by rfl, ?_⟩) ?_ ?_
            rotate_left
            · intro w'
              go_simp
              with_reducible rfl
            rotate_left
            · simp only [Act.put, List.setIfInBounds_toArray, List.set_cons_zero, List.set_cons_succ, i64_w, i32_w]
              rfl
            refine take_ (i := 4) (N := some 91) (v := ?_) (a' := ?_) #[true, true, true, true, true, false, false, true, true, true, true, false, false, false, false, true, true, true, true, false, false, false, false, true, true, true, true, false, false, false, false, false] rfl rfl (by kernel_rfl) (fun _ _ _ h => h) (Or.inl ⟨by rfl, ?_⟩) hHeld ?_ ?_
            rotate_left
            · rintro w' ⟨s0, s1, s2, s3⟩
              go_simp
              with_reducible rfl
            rotate_left
            · simp only [Act.put, List.setIfInBounds_toArray, List.set_cons_zero, List.set_cons_succ, i64_w, i32_w]
              rfl
            refine pure_ (i := 5) (N := some 92) (v := ?_) (a' := ?_) #[true, true, true, true, true, true, false, true, true, true, true, false, false, false, false, true, true, true, true, false, false, false, false, true, true, true, true, false, false, false, false, false] rfl rfl (by kernel_rfl) (fun _ _ _ h => h) (Or.inl ⟨by rfl, ?_⟩) ?_ ?_
            rotate_left
            · intro w'
              go_simp
              with_reducible rfl
            rotate_left
            · simp only [Act.put, List.setIfInBounds_toArray, List.set_cons_zero, List.set_cons_succ, i64_w, i32_w]
              rfl
            refine pure_ (i := 6) (N := some 93) (v := ?_) (a' := ?_) #[true, true, true, true, true, true, true, true, true, true, true, false, false, false, false, true, true, true, true, false, false, false, false, true, true, true, true, false, false, false, false, false] rfl rfl (by kernel_rfl) (fun _ _ _ h => h) (Or.inl ⟨by rfl, ?_⟩) ?_ ?_
            rotate_left
            · intro w'
              go_simp
              with_reducible rfl
            rotate_left
            · simp only [Act.put, List.setIfInBounds_toArray, List.set_cons_zero, List.set_cons_succ, i64_w, i32_w]
              rfl
            refine take_ (i := 11) (N := some 98) (v := ?_) (a' := ?_) #[true, true, true, true, true, true, true, true, true, true, true, true, false, false, false, true, true, true, true, false, false, false, false, true, true, true, true, false, false, false, false, false] rfl rfl (by kernel_rfl) (fun _ _ _ h => h) (Or.inl ⟨by rfl, ?_⟩) hHeld ?_ ?_
            rotate_left
            · rintro w' ⟨s0, s1, s2, s3⟩
              go_simp
              with_reducible rfl
            rotate_left
            · simp only [Act.put, List.setIfInBounds_toArray, List.set_cons_zero, List.set_cons_succ, i64_w, i32_w]
              rfl
            refine pure_ (i := 12) (N := some 99) (v := ?_) (a' := ?_) #[true, true, true, true, true, true, true, true, true, true, true, true, true, false, false, true, true, true, true, false, false, false, false, true, true, true, true, false, false, false, false, false] rfl rfl (by kernel_rfl) (fun _ _ _ h => h) (Or.inl ⟨by rfl, ?_⟩) ?_ ?_
            rotate_left
            · intro w'
              go_simp
              with_reducible rfl
            rotate_left
            · simp only [Act.put, List.setIfInBounds_toArray, List.set_cons_zero, List.set_cons_succ, i64_w, i32_w]
              rfl
            refine pure_ (i := 13) (N := some 100) (v := ?_) (a' := ?_) #[true, true, true, true, true, true, true, true, true, true, true, true, true, true, false, true, true, true, true, false, false, false, false, true, true, true, true, false, false, false, false, false] rfl rfl (by kernel_rfl) (fun _ _ _ h => h) (Or.inl ⟨by rfl, ?_⟩) ?_ ?_
            rotate_left
            · intro w'
              go_simp
              with_reducible rfl
            rotate_left
            · simp only [Act.put, List.setIfInBounds_toArray, List.set_cons_zero, List.set_cons_succ, i64_w, i32_w]
              rfl
            refine pure_ (i := 14) (N := some 101) (v := ?_) (a' := ?_) #[true, true, true, true, true, true, true, true, true, true, true, true, true, true, true, true, true, true, true, false, false, false, false, true, true, true, true, false, false, false, false, false] rfl rfl (by kernel_rfl) (fun _ _ _ h => h) (Or.inl ⟨by rfl, ?_⟩) ?_ ?_
            rotate_left
            · intro w'
              go_simp
              with_reducible rfl
            rotate_left
            · simp only [Act.put, List.setIfInBounds_toArray, List.set_cons_zero, List.set_cons_succ, i64_w, i32_w]
              rfl
            refine take_ (i := 19) (N := some 106) (v := ?_) (a' := ?_) #[true, true, true, true, true, true, true, true, true, true, true, true, true, true, true, true, true, true, true, true, false, false, false, true, true, true, true, false, false, false, false, false] rfl rfl (by kernel_rfl) (fun _ _ _ h => h) (Or.inl ⟨by rfl, ?_⟩) hHeld ?_ ?_
            rotate_left
            · rintro w' ⟨s0, s1, s2, s3⟩
              go_simp
              with_reducible rfl
            rotate_left
            · simp only [Act.put, List.setIfInBounds_toArray, List.set_cons_zero, List.set_cons_succ, i64_w, i32_w]
              rfl
            refine pure_ (i := 20) (N := some 107) (v := ?_) (a' := ?_) #[true, true, true, true, true, true, true, true, true, true, true, true, true, true, true, true, true, true, true, true, true, false, false, true, true, true, true, false, false, false, false, false] rfl rfl (by kernel_rfl) (fun _ _ _ h => h) (Or.inl ⟨by rfl, ?_⟩) ?_ ?_
            rotate_left
            · intro w'
              go_simp
              with_reducible rfl
            rotate_left
            · simp only [Act.put, List.setIfInBounds_toArray, List.set_cons_zero, List.set_cons_succ, i64_w, i32_w]
              rfl
            refine pure_ (i := 21) (N := some 108) (v := ?_) (a' := ?_) #[true, true, true, true, true, true, true, true, true, true, true, true, true, true, true, true, true, true, true, true, true, true, false, true, true, true, true, false, false, false, false, false] rfl rfl (by kernel_rfl) (fun _ _ _ h => h) (Or.inl ⟨by rfl, ?_⟩) ?_ ?_
            rotate_left
            · intro w'
              go_simp
              with_reducible rfl
            rotate_left
            · simp only [Act.put, List.setIfInBounds_toArray, List.set_cons_zero, List.set_cons_succ, i64_w, i32_w]
              rfl
            refine pure_ (i := 22) (N := some 109) (v := ?_) (a' := ?_) #[true, true, true, true, true, true, true, true, true, true, true, true, true, true, true, true, true, true, true, true, true, true, true, true, true, true, true, false, false, false, false, false] rfl rfl (by kernel_rfl) (fun _ _ _ h => h) (Or.inl ⟨by rfl, ?_⟩) ?_ ?_
            rotate_left
            · intro w'
              go_simp
              with_reducible rfl
            rotate_left
            · simp only [Act.put, List.setIfInBounds_toArray, List.set_cons_zero, List.set_cons_succ, i64_w, i32_w]
              rfl
            refine take_ (i := 27) (N := some 114) (v := ?_) (a' := ?_) #[true, true, true, true, true, true, true, true, true, true, true, true, true, true, true, true, true, true, true, true, true, true, true, true, true, true, true, true, false, false, false, false] rfl rfl (by kernel_rfl) (fun _ _ _ h => h) (Or.inl ⟨by rfl, ?_⟩) hHeld ?_ ?_
            rotate_left
            · rintro w' ⟨s0, s1, s2, s3⟩
              go_simp
              with_reducible rfl
            rotate_left
            · simp only [Act.put, List.setIfInBounds_toArray, List.set_cons_zero, List.set_cons_succ, i64_w, i32_w]
              rfl
            refine pure_ (i := 28) (N := some 115) (v := ?_) (a' := ?_) #[true, true, true, true, true, true, true, true, true, true, true, true, true, true, true, true, true, true, true, true, true, true, true, true, true, true, true, true, true, false, false, false] rfl rfl (by kernel_rfl) (fun _ _ _ h => h) (Or.inl ⟨by rfl, ?_⟩) ?_ ?_
            rotate_left
            · intro w'
              go_simp
              with_reducible rfl
            rotate_left
            · simp only [Act.put, List.setIfInBounds_toArray, List.set_cons_zero, List.set_cons_succ, i64_w, i32_w]
              rfl
            refine pure_ (i := 29) (N := some 116) (v := ?_) (a' := ?_) #[true, true, true, true, true, true, true, true, true, true, true, true, true, true, true, true, true, true, true, true, true, true, true, true, true, true, true, true, true, true, false, false] rfl rfl (by kernel_rfl) (fun _ _ _ h => h) (Or.inl ⟨by rfl, ?_⟩) ?_ ?_
            rotate_left
            · intro w'
              go_simp
              with_reducible rfl
            rotate_left
            · simp only [Act.put, List.setIfInBounds_toArray, List.set_cons_zero, List.set_cons_succ, i64_w, i32_w]
              rfl
            refine pure_ (i := 30) (N := some 117) (v := ?_) (a' := ?_) #[true, true, true, true, true, true, true, true, true, true, true, true, true, true, true, true, true, true, true, true, true, true, true, true, true, true, true, true, true, true, true, false] rfl rfl (by kernel_rfl) (fun _ _ _ h => h) (Or.inl ⟨by rfl, ?_⟩) ?_ ?_
            rotate_left
            · intro w'
              go_simp
              with_reducible rfl
            rotate_left
            · simp only [Act.put, List.setIfInBounds_toArray, List.set_cons_zero, List.set_cons_succ, i64_w, i32_w]
              rfl
            refine last_ (i := 31) (N := none) #[true, true, true, true, true, true, true, true, true, true, true, true, true, true, true, true, true, true, true, true, true, true, true, true, true, true, true, true, true, true, true, true] rfl rfl (by kernel_rfl) (by decide) (fun K hK => ?_)
            have zw_ : wr.cell? ⟨w.heap.size, i, none⟩ = some (f i) := zw
            refine skip_ (w1 := ?_) (by rfl) rfl ?_ ?_
            rotate_left
            · go_simp
              rfl
            refine hK.out _ _ ?_
            clear hK K
            refine done_ (by kernel_rfl) ?_
            go_wp2
            refine wp_world (fun W1 hW1 => ?_)
            obtain ⟨v, hv⟩ : ∃ v, Go.bits .or .u32 (Go.bits .or .u32 (Go.bits .or .u32 (IntKind.u32.wrap (y0 * 16777216)) (IntKind.u32.wrap (y1 * 65536))) (IntKind.u32.wrap (y2 * 256))) y3 = v := ⟨_, rfl⟩
            have HR1 := Lib.hid (show W1.rowIs w.heap.size 145 64 (fun q => if q = i then .int .u32 v else f q) from hv ▸ hW1 ▸ ((HR.out.set i _).drew))
            have HB1 := Lib.hid (show Below w.heap.size w W1 from hW1 ▸ below_drew (HBI.out.setCell (Nat.le_refl _) _))
            have HV1 := Lib.hid (show (sch p (i + 1)).getD i 0 = v from by rw [sch_new, if_pos H16.out, ← hv]; unfold be32; rw [HE.out.1, HE.out.2.1, HE.out.2.2.1, HE.out.2.2.2])
            have HF1 := Lib.hid (show ∀ q, q < i + 1 → (fun q => if q = i then Value.int .u32 v else f q) q = .int .u32 ((sch p (i + 1)).getD q 0) from fun q hq => by
              by_cases e : q = i
              · subst e; simp only [if_pos]; rw [HV1.out]
              · simp only [if_neg e]; rw [sch_old p (by omega)]; exact HW.out q (by omega))
            obtain ⟨kk, hkk⟩ : ∃ kk, K.getD i 0 = kk := ⟨_, rfl⟩
            have HKK := Lib.hid hkk
            have kx : W1.cell? ⟨1, i, none⟩ = some (.int .u32 kk) := hkk ▸ (World.rowIs.of_block HK.out (HB1.out.block _ HK.out.lt)).cell HCI.out
            have wx : W1.cell? ⟨w.heap.size, i, none⟩ = some (.int .u32 v) := by have := HR1.out.cell HCI.out; simpa using this
            clear hW1 hv hkk x0 x1 x2 x3 zw fw hJ hJ1 hJ2 hJ3
            as_aux_lemma =>
            refine start_ (n := 28) (S := fun w' => w'.cell? ⟨1, i, none⟩ = some (.int .u32 kk) ∧ w'.cell? ⟨w.heap.size, i, none⟩ = some (.int .u32 v)) (ds := []) #[false, false, false, false, false, false, false, false, false, false, false, false, false, false, false, false, false, false, false, false, false, false, false, false, false, false, false, false] (by kernel_rfl) rfl rfl ⟨kx, wx⟩ (fun hHeld => ?_)
            refine pure_ (i := 0) (N := some 157) (v := ?_) (a' := ?_) #[true, false, false, false, false, false, false, false, false, false, false, false, false, false, false, false, false, false, false, false, false, false, false, false, false, false, false, false] rfl rfl (by kernel_rfl) (fun _ _ _ h => h) (Or.inl ⟨by rfl, ?_⟩) ?_ ?_
            rotate_left
            · intro w'
              go_simp
              with_reducible rfl
            rotate_left
            · simp only [Act.put, List.setIfInBounds_toArray, List.set_cons_zero, List.set_cons_succ, i64_w, i32_w]
              rfl
            refine pure_ (i := 1) (N := some 158) (v := ?_) (a' := ?_) #[true, true, false, false, false, false, false, false, false, false, false, false, false, false, false, false, false, false, false, false, false, false, false, false, false, false, false, false] rfl rfl (by kernel_rfl) (fun _ _ _ h => h) (Or.inl ⟨by rfl, ?_⟩) ?_ ?_
            rotate_left
            · intro w'
              go_simp
              with_reducible rfl
            rotate_left
            · simp only [Act.put, List.setIfInBounds_toArray, List.set_cons_zero, List.set_cons_succ, i64_w, i32_w]
              rfl
            refine pure_ (i := 3) (N := some 160) (v := ?_) (a' := ?_) #[true, true, false, true, false, false, false, false, false, false, false, false, false, false, false, false, false, false, false, false, false, false, false, false, false, false, false, false] rfl rfl (by kernel_rfl) (fun _ _ _ h => h) (Or.inl ⟨by rfl, ?_⟩) ?_ ?_
            rotate_left
            · intro w'
              go_simp
              with_reducible rfl
            rotate_left
            · simp only [Act.put, List.setIfInBounds_toArray, List.set_cons_zero, List.set_cons_succ, i64_w, i32_w]
              rfl
            refine pure_ (i := 6) (N := some 163) (v := ?_) (a' := ?_) #[true, true, false, true, false, false, true, false, false, false, false, false, false, false, false, false, false, false, false, false, false, false, false, false, false, false, false, false] rfl rfl (by kernel_rfl) (fun _ _ _ h => h) (Or.inl ⟨by rfl, ?_⟩) ?_ ?_
            rotate_left
            · intro w'
              go_simp
              with_reducible rfl
            rotate_left
            · simp only [Act.put, List.setIfInBounds_toArray, List.set_cons_zero, List.set_cons_succ, i64_w, i32_w]
              rfl
            refine pure_ (i := 10) (N := some 167) (v := ?_) (a' := ?_) #[true, true, false, true, false, false, true, false, false, false, true, false, false, false, false, false, false, false, false, false, false, false, false, false, false, false, false, false] rfl rfl (by kernel_rfl) (fun _ _ _ h => h) (Or.inl ⟨by rfl, ?_⟩) ?_ ?_
            rotate_left
            · intro w'
              go_simp
              with_reducible rfl
            rotate_left
            · simp only [Act.put, List.setIfInBounds_toArray, List.set_cons_zero, List.set_cons_succ, i64_w, i32_w]
              rfl
            refine pure_ (i := 11) (N := some 168) (v := ?_) (a' := ?_) #[true, true, false, true, false, false, true, false, false, false, true, true, false, false, false, false, false, false, false, false, false, false, false, false, false, false, false, false] rfl rfl (by kernel_rfl) (fun _ _ _ h => h) (Or.inl ⟨by rfl, ?_⟩) ?_ ?_
            rotate_left
            · intro w'
              go_simp
              with_reducible rfl
            rotate_left
            · simp only [Act.put, List.setIfInBounds_toArray, List.set_cons_zero, List.set_cons_succ, i64_w, i32_w]
              rfl
            refine pure_ (i := 12) (N := some 169) (v := ?_) (a' := ?_) #[true, true, false, true, false, false, true, false, false, false, true, true, true, false, false, false, false, false, false, false, false, false, false, false, false, false, false, false] rfl rfl (by kernel_rfl) (fun _ _ _ h => h) (Or.inl ⟨by rfl, ?_⟩) ?_ ?_
            rotate_left
            · intro w'
              go_simp
              with_reducible rfl
            rotate_left
            · simp only [Act.put, List.setIfInBounds_toArray, List.set_cons_zero, List.set_cons_succ, i64_w, i32_w]
              rfl
            refine pure_ (i := 13) (N := some 170) (v := ?_) (a' := ?_) #[true, true, false, true, false, false, true, false, false, false, true, true, true, true, false, false, false, false, false, false, false, false, false, false, false, false, false, false] rfl rfl (by kernel_rfl) (fun _ _ _ h => h) (Or.inl ⟨by rfl, ?_⟩) ?_ ?_
            rotate_left
            · intro w'
              go_simp
              with_reducible rfl
            rotate_left
            · simp only [Act.put, List.setIfInBounds_toArray, List.set_cons_zero, List.set_cons_succ, i64_w, i32_w]
              rfl
            refine pure_ (i := 14) (N := some 171) (v := ?_) (a' := ?_) #[true, true, false, true, false, false, true, false, false, false, true, true, true, true, true, false, false, false, false, false, false, false, false, false, false, false, false, false] rfl rfl (by kernel_rfl) (fun _ _ _ h => h) (Or.inl ⟨by rfl, ?_⟩) ?_ ?_
            rotate_left
            · intro w'
              go_simp
              with_reducible rfl
            rotate_left
            · simp only [Act.put, List.setIfInBounds_toArray, List.set_cons_zero, List.set_cons_succ, i64_w, i32_w]
              rfl
            refine pure_ (i := 15) (N := some 172) (v := ?_) (a' := ?_) #[true, true, false, true, false, false, true, false, false, false, true, true, true, true, true, true, false, false, false, false, false, false, false, false, false, false, false, false] rfl rfl (by kernel_rfl) (fun _ _ _ h => h) (Or.inl ⟨by rfl, ?_⟩) ?_ ?_
            rotate_left
            · intro w'
              go_simp
              with_reducible rfl
            rotate_left
            · simp only [Act.put, List.setIfInBounds_toArray, List.set_cons_zero, List.set_cons_succ, i64_w, i32_w]
              rfl
            refine pure_ (i := 16) (N := some 173) (v := ?_) (a' := ?_) #[true, true, false, true, false, false, true, false, false, false, true, true, true, true, true, true, true, false, false, false, false, false, false, false, false, false, false, false] rfl rfl (by kernel_rfl) (fun _ _ _ h => h) (Or.inl ⟨by rfl, ?_⟩) ?_ ?_
            rotate_left
            · intro w'
              go_simp
              with_reducible rfl
            rotate_left
            · simp only [Act.put, List.setIfInBounds_toArray, List.set_cons_zero, List.set_cons_succ, i64_w, i32_w]
              rfl
            refine pure_ (i := 17) (N := some 174) (v := ?_) (a' := ?_) #[true, true, false, true, false, false, true, false, false, false, true, true, true, true, true, true, true, true, false, false, false, false, false, false, false, false, false, false] rfl rfl (by kernel_rfl) (fun _ _ _ h => h) (Or.inl ⟨by rfl, ?_⟩) ?_ ?_
            rotate_left
            · intro w'
              go_simp
              with_reducible rfl
            rotate_left
            · simp only [Act.put, List.setIfInBounds_toArray, List.set_cons_zero, List.set_cons_succ, i64_w, i32_w]
              rfl
            refine pure_ (i := 19) (N := some 176) (v := ?_) (a' := ?_) #[true, true, false, true, false, false, true, false, false, false, true, true, true, true, true, true, true, true, false, true, false, false, false, false, false, false, false, false] rfl rfl (by kernel_rfl) (fun _ _ _ h => h) (Or.inl ⟨by rfl, ?_⟩) ?_ ?_
            rotate_left
            · intro w'
              go_simp
              with_reducible rfl
            rotate_left
            · simp only [Act.put, List.setIfInBounds_toArray, List.set_cons_zero, List.set_cons_succ, i64_w, i32_w]
              rfl
            refine pure_ (i := 20) (N := some 177) (v := ?_) (a' := ?_) #[true, true, false, true, false, false, true, false, false, false, true, true, true, true, true, true, true, true, false, true, true, false, false, false, false, false, false, false] rfl rfl (by kernel_rfl) (fun _ _ _ h => h) (Or.inl ⟨by rfl, ?_⟩) ?_ ?_
            rotate_left
            · intro w'
              go_simp
              with_reducible rfl
            rotate_left
            · simp only [Act.put, List.setIfInBounds_toArray, List.set_cons_zero, List.set_cons_succ, i64_w, i32_w]
              rfl
            refine pure_ (i := 23) (N := some 180) (v := ?_) (a' := ?_) #[true, true, false, true, false, false, true, false, false, false, true, true, true, true, true, true, true, true, false, true, true, false, false, true, false, false, false, false] rfl rfl (by kernel_rfl) (fun _ _ _ h => h) (Or.inl ⟨by rfl, ?_⟩) ?_ ?_
            rotate_left
            · intro w'
              go_simp
              with_reducible rfl
            rotate_left
            · simp only [Act.put, List.setIfInBounds_toArray, List.set_cons_zero, List.set_cons_succ, i64_w, i32_w]
              rfl
            refine pure_ (i := 24) (N := some 181) (v := ?_) (a' := ?_) #[true, true, false, true, false, false, true, false, false, false, true, true, true, true, true, true, true, true, false, true, true, false, false, true, true, false, false, false] rfl rfl (by kernel_rfl) (fun _ _ _ h => h) (Or.inl ⟨by rfl, ?_⟩) ?_ ?_
            rotate_left
            · intro w'
              go_simp
              with_reducible rfl
            rotate_left
            · simp only [Act.put, List.setIfInBounds_toArray, List.set_cons_zero, List.set_cons_succ, i64_w, i32_w]
              rfl
            refine take_ (i := 21) (N := some 178) (v := ?_) (a' := ?_) #[true, true, false, true, false, false, true, false, false, false, true, true, true, true, true, true, true, true, false, true, true, true, false, true, true, false, false, false] rfl rfl (by kernel_rfl) (fun _ _ _ h => h) (Or.inl ⟨by rfl, ?_⟩) hHeld ?_ ?_
            rotate_left
            · rintro w' ⟨s0, s1⟩
              go_simp
              with_reducible rfl
            rotate_left
            · simp only [Act.put, List.setIfInBounds_toArray, List.set_cons_zero, List.set_cons_succ, i64_w, i32_w]
              rfl
            refine take_ (i := 25) (N := some 182) (v := ?_) (a' := ?_) #[true, true, false, true, false, false, true, false, false, false, true, true, true, true, true, true, true, true, false, true, true, true, false, true, true, true, false, false] rfl rfl (by kernel_rfl) (fun _ _ _ h => h) (Or.inl ⟨by rfl, ?_⟩) hHeld ?_ ?_
            rotate_left
            · rintro w' ⟨s0, s1⟩
              go_simp
              with_reducible rfl
            rotate_left
            · simp only [Act.put, List.setIfInBounds_toArray, List.set_cons_zero, List.set_cons_succ, i64_w, i32_w]
              rfl
            refine one_ (i := 2) (N := some 159) #[true, true, true, true, false, false, true, false, false, false, true, true, true, true, true, true, true, true, false, true, true, true, false, true, true, true, false, false] rfl rfl (by kernel_rfl) (by decide) (fun K hK => ?_)
            refine goes_ Try.func94 (by kernel_rfl) rfl #[.int .u32 te, .int .i64 (-6)] (by rfl) rfl rfl (by simp only [List.map_toArray, List.map_cons, List.map_nil]; rfl) ?_
            with_reducible refine (rot_at te (-6) 26 _ (by decide +kernel)).mono ?_
            rintro e w9 ⟨rfl, rfl⟩
            refine ⟨_, rfl, ?_⟩
            refine hK.out _ _ ⟨kx, wx⟩ (fun hHeld => ?_)
            clear hK K
            refine norm_ (a' := ?_) ?_ ?_
            rotate_left
            · show Act.put _ (some 159) _ = _
              simp only [Act.put, List.setIfInBounds_toArray, List.set_cons_zero, List.set_cons_succ, i64_w, i32_w]
              rfl
            refine one_ (i := 4) (N := some 161) #[true, true, true, true, true, false, true, false, false, false, true, true, true, true, true, true, true, true, false, true, true, true, false, true, true, true, false, false] rfl rfl (by kernel_rfl) (by decide) (fun K hK => ?_)
            refine goes_ Try.func94 (by kernel_rfl) rfl #[.int .u32 te, .int .i64 (-11)] (by rfl) rfl rfl (by simp only [List.map_toArray, List.map_cons, List.map_nil]; rfl) ?_
            with_reducible refine (rot_at te (-11) 21 _ (by decide +kernel)).mono ?_
            rintro e w9 ⟨rfl, rfl⟩
            refine ⟨_, rfl, ?_⟩
            refine hK.out _ _ ⟨kx, wx⟩ (fun hHeld => ?_)
            clear hK K
            refine norm_ (a' := ?_) ?_ ?_
            rotate_left
            · show Act.put _ (some 161) _ = _
              simp only [Act.put, List.setIfInBounds_toArray, List.set_cons_zero, List.set_cons_succ, i64_w, i32_w]
              rfl
            refine pure_ (i := 5) (N := some 162) (v := ?_) (a' := ?_) #[true, true, true, true, true, true, true, false, false, false, true, true, true, true, true, true, true, true, false, true, true, true, false, true, true, true, false, false] rfl rfl (by kernel_rfl) (fun _ _ _ h => h) (Or.inl ⟨by rfl, ?_⟩) ?_ ?_
            rotate_left
            · intro w'
              go_simp
              with_reducible rfl
            rotate_left
            · simp only [Act.put, List.setIfInBounds_toArray, List.set_cons_zero, List.set_cons_succ, i64_w, i32_w]
              rfl
            refine one_ (i := 7) (N := some 164) #[true, true, true, true, true, true, true, true, false, false, true, true, true, true, true, true, true, true, false, true, true, true, false, true, true, true, false, false] rfl rfl (by kernel_rfl) (by decide) (fun K hK => ?_)
            refine goes_ Try.func94 (by kernel_rfl) rfl #[.int .u32 te, .int .i64 (-25)] (by rfl) rfl rfl (by simp only [List.map_toArray, List.map_cons, List.map_nil]; rfl) ?_
            with_reducible refine (rot_at te (-25) 7 _ (by decide +kernel)).mono ?_
            rintro e w9 ⟨rfl, rfl⟩
            refine ⟨_, rfl, ?_⟩
            refine hK.out _ _ ⟨kx, wx⟩ (fun hHeld => ?_)
            clear hK K
            refine norm_ (a' := ?_) ?_ ?_
            rotate_left
            · show Act.put _ (some 164) _ = _
              simp only [Act.put, List.setIfInBounds_toArray, List.set_cons_zero, List.set_cons_succ, i64_w, i32_w]
              rfl
            refine pure_ (i := 8) (N := some 165) (v := ?_) (a' := ?_) #[true, true, true, true, true, true, true, true, true, false, true, true, true, true, true, true, true, true, false, true, true, true, false, true, true, true, false, false] rfl rfl (by kernel_rfl) (fun _ _ _ h => h) (Or.inl ⟨by rfl, ?_⟩) ?_ ?_
            rotate_left
            · intro w'
              go_simp
              with_reducible rfl
            rotate_left
            · simp only [Act.put, List.setIfInBounds_toArray, List.set_cons_zero, List.set_cons_succ, i64_w, i32_w]
              rfl
            refine pure_ (i := 9) (N := some 166) (v := ?_) (a' := ?_) #[true, true, true, true, true, true, true, true, true, true, true, true, true, true, true, true, true, true, false, true, true, true, false, true, true, true, false, false] rfl rfl (by kernel_rfl) (fun _ _ _ h => h) (Or.inl ⟨by rfl, ?_⟩) ?_ ?_
            rotate_left
            · intro w'
              go_simp
              with_reducible rfl
            rotate_left
            · simp only [Act.put, List.setIfInBounds_toArray, List.set_cons_zero, List.set_cons_succ, i64_w, i32_w]
              rfl
            refine pure_ (i := 18) (N := some 175) (v := ?_) (a' := ?_) #[true, true, true, true, true, true, true, true, true, true, true, true, true, true, true, true, true, true, true, true, true, true, false, true, true, true, false, false] rfl rfl (by kernel_rfl) (fun _ _ _ h => h) (Or.inl ⟨by rfl, ?_⟩) ?_ ?_
            rotate_left
            · intro w'
              go_simp
              with_reducible rfl
            rotate_left
            · simp only [Act.put, List.setIfInBounds_toArray, List.set_cons_zero, List.set_cons_succ, i64_w, i32_w]
              rfl
            refine pure_ (i := 22) (N := some 179) (v := ?_) (a' := ?_) #[true, true, true, true, true, true, true, true, true, true, true, true, true, true, true, true, true, true, true, true, true, true, true, true, true, true, false, false] rfl rfl (by kernel_rfl) (fun _ _ _ h => h) (Or.inl ⟨by rfl, ?_⟩) ?_ ?_
            rotate_left
            · intro w'
              go_simp
              with_reducible rfl
            rotate_left
            · simp only [Act.put, List.setIfInBounds_toArray, List.set_cons_zero, List.set_cons_succ, i64_w, i32_w]
              rfl
            refine pure_ (i := 26) (N := some 183) (v := ?_) (a' := ?_) #[true, true, true, true, true, true, true, true, true, true, true, true, true, true, true, true, true, true, true, true, true, true, true, true, true, true, true, false] rfl rfl (by kernel_rfl) (fun _ _ _ h => h) (Or.inl ⟨by rfl, ?_⟩) ?_ ?_
            rotate_left
            · intro w'
              go_simp
              with_reducible rfl
            rotate_left
            · simp only [Act.put, List.setIfInBounds_toArray, List.set_cons_zero, List.set_cons_succ, i64_w, i32_w]
              rfl
            refine pure_ (i := 27) (N := some 27) (v := ?_) (a' := ?_) #[true, true, true, true, true, true, true, true, true, true, true, true, true, true, true, true, true, true, true, true, true, true, true, true, true, true, true, true] rfl rfl (by kernel_rfl) (fun _ _ _ h => h) (Or.inl ⟨by rfl, ?_⟩) ?_ ?_
            rotate_left
            · intro w'
              go_simp
              with_reducible rfl
            rotate_left
            · simp only [Act.put, List.setIfInBounds_toArray, List.set_cons_zero, List.set_cons_succ, i64_w, i32_w]
              rfl
            refine done_ (by kernel_rfl) ?_
            go_wp2_with (go_at_call 94; go_must (first
              | ((with_reducible refine (rot_at ta (-2) 30 _ (by decide +kernel)).mono ?_); rintro e w9 ⟨rfl, rfl⟩)
              | ((with_reducible refine (rot_at ta (-13) 19 _ (by decide +kernel)).mono ?_); rintro e w9 ⟨rfl, rfl⟩)
              | ((with_reducible refine (rot_at ta (-22) 10 _ (by decide +kernel)).mono ?_); rintro e w9 ⟨rfl, rfl⟩)))
            go_roundg k2
            case measure => have := HI.out; omega
            case rel => exact ⟨i + 1, rnd ⟨ta, tb, tc, td, te, tf, tg, th⟩ kk v, _, ⟨by have := HI.out; omega, by have := HCI.out; omega⟩, ⟨by rw [rounds, HKK.out, HV1.out, ← HT.out]⟩, by first | rfl | (rw [hwi]), rfl, rfl, rfl, rfl, rfl, rfl, rfl, rfl, ⟨HR1.out.drew⟩, ⟨HF1.out⟩, ⟨below_drew HB1.out⟩⟩
          · as_aux_lemma =>
            have d0 : decide ((i : Int) < 16) = false := decide_eq_false (by omega)
            have d1 : decide (i < 16) = false := decide_eq_false c16
            have H16 := Lib.hid c16
            obtain ⟨I2, hI2⟩ : ∃ J : Int, wrap64 ((i : Int) - 2) = J := ⟨_, rfl⟩
            have hi2 : I2 = (i : Int) - 2 := by rw [← hI2]; exact w64 (by omega) (by omega)
            have y2 := HR.out.cell (i := I2.toNat) (by omega)
            obtain ⟨x2, e2⟩ : ∃ x, (sch p i).getD (i - 2) 0 = x := ⟨_, rfl⟩
            rw [HW.out I2.toNat (by omega), show (sch p i).getD I2.toNat 0 = x2 by rw [← e2]; congr 1; omega] at y2
            have p20 := eq_true (show 0 ≤ I2 by omega)
            have p21 := eq_true (show I2 < 64 by omega)
            obtain ⟨I15, hI15⟩ : ∃ J : Int, wrap64 ((i : Int) - 15) = J := ⟨_, rfl⟩
            have hi15 : I15 = (i : Int) - 15 := by rw [← hI15]; exact w64 (by omega) (by omega)
            have y15 := HR.out.cell (i := I15.toNat) (by omega)
            obtain ⟨x15, e15⟩ : ∃ x, (sch p i).getD (i - 15) 0 = x := ⟨_, rfl⟩
            rw [HW.out I15.toNat (by omega), show (sch p i).getD I15.toNat 0 = x15 by rw [← e15]; congr 1; omega] at y15
            have p150 := eq_true (show 0 ≤ I15 by omega)
            have p151 := eq_true (show I15 < 64 by omega)
            obtain ⟨I7, hI7⟩ : ∃ J : Int, wrap64 ((i : Int) - 7) = J := ⟨_, rfl⟩
            have hi7 : I7 = (i : Int) - 7 := by rw [← hI7]; exact w64 (by omega) (by omega)
            have y7 := HR.out.cell (i := I7.toNat) (by omega)
            obtain ⟨x7, e7⟩ : ∃ x, (sch p i).getD (i - 7) 0 = x := ⟨_, rfl⟩
            rw [HW.out I7.toNat (by omega), show (sch p i).getD I7.toNat 0 = x7 by rw [← e7]; congr 1; omega] at y7
            have p70 := eq_true (show 0 ≤ I7 by omega)
            have p71 := eq_true (show I7 < 64 by omega)
            obtain ⟨I16, hI16⟩ : ∃ J : Int, wrap64 ((i : Int) - 16) = J := ⟨_, rfl⟩
            have hi16 : I16 = (i : Int) - 16 := by rw [← hI16]; exact w64 (by omega) (by omega)
            have y16 := HR.out.cell (i := I16.toNat) (by omega)
            obtain ⟨x16, e16⟩ : ∃ x, (sch p i).getD (i - 16) 0 = x := ⟨_, rfl⟩
            rw [HW.out I16.toNat (by omega), show (sch p i).getD I16.toNat 0 = x16 by rw [← e16]; congr 1; omega] at y16
            have p160 := eq_true (show 0 ≤ I16 by omega)
            have p161 := eq_true (show I16 < 64 by omega)
            have HE := Lib.hid (And.intro e2 (And.intro e7 (And.intro e15 e16)))
            have zw := HR.out.cell ci
            have fw := HR.out.frozen i
            clear hi2 hi7 hi15 hi16 e2 e7 e15 e16 c16 ci
            go_wp2_with (go_at_call 94; go_must (first
              | ((with_reducible refine (rot_at x2 (-17) 15 _ (by decide +kernel)).mono ?_); rintro e w9 ⟨rfl, hw9⟩; obtain rfl := hw9.symm)
              | ((with_reducible refine (rot_at x2 (-19) 13 _ (by decide +kernel)).mono ?_); rintro e w9 ⟨rfl, hw9⟩; obtain rfl := hw9.symm)
              | ((with_reducible refine (rot_at x15 (-7) 25 _ (by decide +kernel)).mono ?_); rintro e w9 ⟨rfl, hw9⟩; obtain rfl := hw9.symm)
              | ((with_reducible refine (rot_at x15 (-18) 14 _ (by decide +kernel)).mono ?_); rintro e w9 ⟨rfl, hw9⟩; obtain rfl := hw9.symm)))
            refine start_ (n := 16) (S := fun w' => w'.cell? ⟨w.heap.size, I7.toNat, none⟩ = some (.int .u32 x7) ∧ w'.cell? ⟨w.heap.size, I16.toNat, none⟩ = some (.int .u32 x16)) (ds := [15]) #[false, false, false, false, false, false, false, false, false, false, false, false, false, false, false, false] (by kernel_rfl) rfl rfl ⟨y7, y16⟩ (fun hHeld => ?_)
            refine pure_ (i := 0) (N := some 142) (v := ?_) (a' := ?_) #[true, false, false, false, false, false, false, false, false, false, false, false, false, false, false, false] rfl rfl (by kernel_rfl) (fun _ _ _ h => h) (Or.inl ⟨by rfl, ?_⟩) ?_ ?_
            rotate_left
            · intro w'
              go_simp
              with_reducible rfl
            rotate_left
            · simp only [Act.put, List.setIfInBounds_toArray, List.set_cons_zero, List.set_cons_succ, i64_w, i32_w]
              rfl
            refine pure_ (i := 1) (N := some 143) (v := ?_) (a' := ?_) #[true, true, false, false, false, false, false, false, false, false, false, false, false, false, false, false] rfl rfl (by kernel_rfl) (fun _ _ _ h => h) (Or.inl ⟨by rfl, ?_⟩) ?_ ?_
            rotate_left
            · intro w'
              go_simp
              with_reducible rfl
            rotate_left
            · simp only [Act.put, List.setIfInBounds_toArray, List.set_cons_zero, List.set_cons_succ, i64_w, i32_w]
              rfl
            refine pure_ (i := 2) (N := some 144) (v := ?_) (a' := ?_) #[true, true, true, false, false, false, false, false, false, false, false, false, false, false, false, false] rfl rfl (by kernel_rfl) (fun _ _ _ h => h) (Or.inl ⟨by rfl, ?_⟩) ?_ ?_
            rotate_left
            · intro w'
              go_simp
              with_reducible rfl
            rotate_left
            · simp only [Act.put, List.setIfInBounds_toArray, List.set_cons_zero, List.set_cons_succ, i64_w, i32_w]
              rfl
            refine pure_ (i := 3) (N := some 145) (v := ?_) (a' := ?_) #[true, true, true, true, false, false, false, false, false, false, false, false, false, false, false, false] rfl rfl (by kernel_rfl) (fun _ _ _ h => h) (Or.inl ⟨by rfl, ?_⟩) ?_ ?_
            rotate_left
            · intro w'
              go_simp
              with_reducible rfl
            rotate_left
            · simp only [Act.put, List.setIfInBounds_toArray, List.set_cons_zero, List.set_cons_succ, i64_w, i32_w]
              rfl
            refine pure_ (i := 4) (N := some 146) (v := ?_) (a' := ?_) #[true, true, true, true, true, false, false, false, false, false, false, false, false, false, false, false] rfl rfl (by kernel_rfl) (fun _ _ _ h => h) (Or.inl ⟨by rfl, ?_⟩) ?_ ?_
            rotate_left
            · intro w'
              go_simp
              with_reducible rfl
            rotate_left
            · simp only [Act.put, List.setIfInBounds_toArray, List.set_cons_zero, List.set_cons_succ, i64_w, i32_w]
              rfl
            refine pure_ (i := 7) (N := some 149) (v := ?_) (a' := ?_) #[true, true, true, true, true, false, false, true, false, false, false, false, false, false, false, false] rfl rfl (by kernel_rfl) (fun _ _ _ h => h) (Or.inl ⟨by rfl, ?_⟩) ?_ ?_
            rotate_left
            · intro w'
              go_simp
              with_reducible rfl
            rotate_left
            · simp only [Act.put, List.setIfInBounds_toArray, List.set_cons_zero, List.set_cons_succ, i64_w, i32_w]
              rfl
            refine pure_ (i := 9) (N := some 151) (v := ?_) (a' := ?_) #[true, true, true, true, true, false, false, true, false, true, false, false, false, false, false, false] rfl rfl (by kernel_rfl) (fun _ _ _ h => h) (Or.inl ⟨by rfl, ?_⟩) ?_ ?_
            rotate_left
            · intro w'
              go_simp
              with_reducible rfl
            rotate_left
            · simp only [Act.put, List.setIfInBounds_toArray, List.set_cons_zero, List.set_cons_succ, i64_w, i32_w]
              rfl
            refine pure_ (i := 10) (N := some 152) (v := ?_) (a' := ?_) #[true, true, true, true, true, false, false, true, false, true, true, false, false, false, false, false] rfl rfl (by kernel_rfl) (fun _ _ _ h => h) (Or.inl ⟨by rfl, ?_⟩) ?_ ?_
            rotate_left
            · intro w'
              go_simp
              with_reducible rfl
            rotate_left
            · simp only [Act.put, List.setIfInBounds_toArray, List.set_cons_zero, List.set_cons_succ, i64_w, i32_w]
              rfl
            refine pure_ (i := 11) (N := some 153) (v := ?_) (a' := ?_) #[true, true, true, true, true, false, false, true, false, true, true, true, false, false, false, false] rfl rfl (by kernel_rfl) (fun _ _ _ h => h) (Or.inl ⟨by rfl, ?_⟩) ?_ ?_
            rotate_left
            · intro w'
              go_simp
              with_reducible rfl
            rotate_left
            · simp only [Act.put, List.setIfInBounds_toArray, List.set_cons_zero, List.set_cons_succ, i64_w, i32_w]
              rfl
            refine take_ (i := 5) (N := some 147) (v := ?_) (a' := ?_) #[true, true, true, true, true, true, false, true, false, true, true, true, false, false, false, false] rfl rfl (by kernel_rfl) (fun _ _ _ h => h) (Or.inl ⟨by rfl, ?_⟩) hHeld ?_ ?_
            rotate_left
            · rintro w' ⟨s0, s1⟩
              go_simp
              with_reducible rfl
            rotate_left
            · simp only [Act.put, List.setIfInBounds_toArray, List.set_cons_zero, List.set_cons_succ, i64_w, i32_w]
              rfl
            refine pure_ (i := 6) (N := some 148) (v := ?_) (a' := ?_) #[true, true, true, true, true, true, true, true, false, true, true, true, false, false, false, false] rfl rfl (by kernel_rfl) (fun _ _ _ h => h) (Or.inl ⟨by rfl, ?_⟩) ?_ ?_
            rotate_left
            · intro w'
              go_simp
              with_reducible rfl
            rotate_left
            · simp only [Act.put, List.setIfInBounds_toArray, List.set_cons_zero, List.set_cons_succ, i64_w, i32_w]
              rfl
            refine pure_ (i := 8) (N := some 150) (v := ?_) (a' := ?_) #[true, true, true, true, true, true, true, true, true, true, true, true, false, false, false, false] rfl rfl (by kernel_rfl) (fun _ _ _ h => h) (Or.inl ⟨by rfl, ?_⟩) ?_ ?_
            rotate_left
            · intro w'
              go_simp
              with_reducible rfl
            rotate_left
            · simp only [Act.put, List.setIfInBounds_toArray, List.set_cons_zero, List.set_cons_succ, i64_w, i32_w]
              rfl
            refine take_ (i := 12) (N := some 154) (v := ?_) (a' := ?_) #[true, true, true, true, true, true, true, true, true, true, true, true, true, false, false, false] rfl rfl (by kernel_rfl) (fun _ _ _ h => h) (Or.inl ⟨by rfl, ?_⟩) hHeld ?_ ?_
            rotate_left
            · rintro w' ⟨s0, s1⟩
              go_simp
              with_reducible rfl
            rotate_left
            · simp only [Act.put, List.setIfInBounds_toArray, List.set_cons_zero, List.set_cons_succ, i64_w, i32_w]
              rfl
            refine pure_ (i := 13) (N := some 155) (v := ?_) (a' := ?_) #[true, true, true, true, true, true, true, true, true, true, true, true, true, true, false, false] rfl rfl (by kernel_rfl) (fun _ _ _ h => h) (Or.inl ⟨by rfl, ?_⟩) ?_ ?_
            rotate_left
            · intro w'
              go_simp
              with_reducible rfl
            rotate_left
            · simp only [Act.put, List.setIfInBounds_toArray, List.set_cons_zero, List.set_cons_succ, i64_w, i32_w]
              rfl
            refine pure_ (i := 14) (N := some 156) (v := ?_) (a' := ?_) #[true, true, true, true, true, true, true, true, true, true, true, true, true, true, true, false] rfl rfl (by kernel_rfl) (fun _ _ _ h => h) (Or.inl ⟨by rfl, ?_⟩) ?_ ?_
            rotate_left
            · intro w'
              go_simp
              with_reducible rfl
            rotate_left
            · simp only [Act.put, List.setIfInBounds_toArray, List.set_cons_zero, List.set_cons_succ, i64_w, i32_w]
              rfl
            refine last_ (i := 15) (N := none) #[true, true, true, true, true, true, true, true, true, true, true, true, true, true, true, true] rfl rfl (by kernel_rfl) (by decide) (fun K hK => ?_)
            have zw_ : wr.cell? ⟨w.heap.size, i, none⟩ = some (f i) := zw
            refine skip_ (w1 := ?_) (by rfl) rfl ?_ ?_
            rotate_left
            · go_simp
              rfl
            refine hK.out _ _ ?_
            clear hK K
            refine done_ (by kernel_rfl) ?_
            go_wp2
            refine wp_world (fun W1 hW1 => ?_)
            obtain ⟨v, hv⟩ : ∃ v, IntKind.u32.wrap (IntKind.u32.wrap (IntKind.u32.wrap (Go.bits .xor .u32 (Go.bits .xor .u32 (rl x2 15) (rl x2 13)) (x2 / 1024) + x7) + Go.bits .xor .u32 (Go.bits .xor .u32 (rl x15 25) (rl x15 14)) (x15 / 8)) + x16) = v := ⟨_, rfl⟩
            have HR1 := Lib.hid (show W1.rowIs w.heap.size 145 64 (fun q => if q = i then .int .u32 v else f q) from hv ▸ hW1 ▸ ((HR.out.set i _).drew))
            have HB1 := Lib.hid (show Below w.heap.size w W1 from hW1 ▸ below_drew (HBI.out.setCell (Nat.le_refl _) _))
            have HV1 := Lib.hid (show (sch p (i + 1)).getD i 0 = v from by rw [sch_new, if_neg H16.out, ← hv]; unfold nxt sg0 sg1; rw [HE.out.1, HE.out.2.1, HE.out.2.2.1, HE.out.2.2.2])
            have HF1 := Lib.hid (show ∀ q, q < i + 1 → (fun q => if q = i then Value.int .u32 v else f q) q = .int .u32 ((sch p (i + 1)).getD q 0) from fun q hq => by
              by_cases e : q = i
              · subst e; simp only [if_pos]; rw [HV1.out]
              · simp only [if_neg e]; rw [sch_old p (by omega)]; exact HW.out q (by omega))
            obtain ⟨kk, hkk⟩ : ∃ kk, K.getD i 0 = kk := ⟨_, rfl⟩
            have HKK := Lib.hid hkk
            have kx : W1.cell? ⟨1, i, none⟩ = some (.int .u32 kk) := hkk ▸ (World.rowIs.of_block HK.out (HB1.out.block _ HK.out.lt)).cell HCI.out
            have wx : W1.cell? ⟨w.heap.size, i, none⟩ = some (.int .u32 v) := by have := HR1.out.cell HCI.out; simpa using this
            clear hW1 hv hkk y2 y7 y15 y16 zw fw hI2 hI7 hI15 hI16
            as_aux_lemma =>
            refine start_ (n := 28) (S := fun w' => w'.cell? ⟨1, i, none⟩ = some (.int .u32 kk) ∧ w'.cell? ⟨w.heap.size, i, none⟩ = some (.int .u32 v)) (ds := []) #[false, false, false, false, false, false, false, false, false, false, false, false, false, false, false, false, false, false, false, false, false, false, false, false, false, false, false, false] (by kernel_rfl) rfl rfl ⟨kx, wx⟩ (fun hHeld => ?_)
            refine pure_ (i := 0) (N := some 157) (v := ?_) (a' := ?_) #[true, false, false, false, false, false, false, false, false, false, false, false, false, false, false, false, false, false, false, false, false, false, false, false, false, false, false, false] rfl rfl (by kernel_rfl) (fun _ _ _ h => h) (Or.inl ⟨by rfl, ?_⟩) ?_ ?_
            rotate_left
            · intro w'
              go_simp
              with_reducible rfl
            rotate_left
            · simp only [Act.put, List.setIfInBounds_toArray, List.set_cons_zero, List.set_cons_succ, i64_w, i32_w]
              rfl
            refine pure_ (i := 1) (N := some 158) (v := ?_) (a' := ?_) #[true, true, false, false, false, false, false, false, false, false, false, false, false, false, false, false, false, false, false, false, false, false, false, false, false, false, false, false] rfl rfl (by kernel_rfl) (fun _ _ _ h => h) (Or.inl ⟨by rfl, ?_⟩) ?_ ?_
            rotate_left
            · intro w'
              go_simp
              with_reducible rfl
            rotate_left
            · simp only [Act.put, List.setIfInBounds_toArray, List.set_cons_zero, List.set_cons_succ, i64_w, i32_w]
              rfl
            refine pure_ (i := 3) (N := some 160) (v := ?_) (a' := ?_) #[true, true, false, true, false, false, false, false, false, false, false, false, false, false, false, false, false, false, false, false, false, false, false, false, false, false, false, false] rfl rfl (by kernel_rfl) (fun _ _ _ h => h) (Or.inl ⟨by rfl, ?_⟩) ?_ ?_
            rotate_left
            · intro w'
              go_simp
              with_reducible rfl
            rotate_left
            · simp only [Act.put, List.setIfInBounds_toArray, List.set_cons_zero, List.set_cons_succ, i64_w, i32_w]
              rfl
            refine pure_ (i := 6) (N := some 163) (v := ?_) (a' := ?_) #[true, true, false, true, false, false, true, false, false, false, false, false, false, false, false, false, false, false, false, false, false, false, false, false, false, false, false, false] rfl rfl (by kernel_rfl) (fun _ _ _ h => h) (Or.inl ⟨by rfl, ?_⟩) ?_ ?_
            rotate_left
            · intro w'
              go_simp
              with_reducible rfl
            rotate_left
            · simp only [Act.put, List.setIfInBounds_toArray, List.set_cons_zero, List.set_cons_succ, i64_w, i32_w]
              rfl
            refine pure_ (i := 10) (N := some 167) (v := ?_) (a' := ?_) #[true, true, false, true, false, false, true, false, false, false, true, false, false, false, false, false, false, false, false, false, false, false, false, false, false, false, false, false] rfl rfl (by kernel_rfl) (fun _ _ _ h => h) (Or.inl ⟨by rfl, ?_⟩) ?_ ?_
            rotate_left
            · intro w'
              go_simp
              with_reducible rfl
            rotate_left
            · simp only [Act.put, List.setIfInBounds_toArray, List.set_cons_zero, List.set_cons_succ, i64_w, i32_w]
              rfl
            refine pure_ (i := 11) (N := some 168) (v := ?_) (a' := ?_) #[true, true, false, true, false, false, true, false, false, false, true, true, false, false, false, false, false, false, false, false, false, false, false, false, false, false, false, false] rfl rfl (by kernel_rfl) (fun _ _ _ h => h) (Or.inl ⟨by rfl, ?_⟩) ?_ ?_
            rotate_left
            · intro w'
              go_simp
              with_reducible rfl
            rotate_left
            · simp only [Act.put, List.setIfInBounds_toArray, List.set_cons_zero, List.set_cons_succ, i64_w, i32_w]
              rfl
            refine pure_ (i := 12) (N := some 169) (v := ?_) (a' := ?_) #[true, true, false, true, false, false, true, false, false, false, true, true, true, false, false, false, false, false, false, false, false, false, false, false, false, false, false, false] rfl rfl (by kernel_rfl) (fun _ _ _ h => h) (Or.inl ⟨by rfl, ?_⟩) ?_ ?_
            rotate_left
            · intro w'
              go_simp
              with_reducible rfl
            rotate_left
            · simp only [Act.put, List.setIfInBounds_toArray, List.set_cons_zero, List.set_cons_succ, i64_w, i32_w]
              rfl
            refine pure_ (i := 13) (N := some 170) (v := ?_) (a' := ?_) #[true, true, false, true, false, false, true, false, false, false, true, true, true, true, false, false, false, false, false, false, false, false, false, false, false, false, false, false] rfl rfl (by kernel_rfl) (fun _ _ _ h => h) (Or.inl ⟨by rfl, ?_⟩) ?_ ?_
            rotate_left
            · intro w'
              go_simp
              with_reducible rfl
            rotate_left
            · simp only [Act.put, List.setIfInBounds_toArray, List.set_cons_zero, List.set_cons_succ, i64_w, i32_w]
              rfl
            refine pure_ (i := 14) (N := some 171) (v := ?_) (a' := ?_) #[true, true, false, true, false, false, true, false, false, false, true, true, true, true, true, false, false, false, false, false, false, false, false, false, false, false, false, false] rfl rfl (by kernel_rfl) (fun _ _ _ h => h) (Or.inl ⟨by rfl, ?_⟩) ?_ ?_
            rotate_left
            · intro w'
              go_simp
              with_reducible rfl
            rotate_left
            · simp only [Act.put, List.setIfInBounds_toArray, List.set_cons_zero, List.set_cons_succ, i64_w, i32_w]
              rfl
            refine pure_ (i := 15) (N := some 172) (v := ?_) (a' := ?_) #[true, true, false, true, false, false, true, false, false, false, true, true, true, true, true, true, false, false, false, false, false, false, false, false, false, false, false, false] rfl rfl (by kernel_rfl) (fun _ _ _ h => h) (Or.inl ⟨by rfl, ?_⟩) ?_ ?_
            rotate_left
            · intro w'
              go_simp
              with_reducible rfl
            rotate_left
            · simp only [Act.put, List.setIfInBounds_toArray, List.set_cons_zero, List.set_cons_succ, i64_w, i32_w]
              rfl
            refine pure_ (i := 16) (N := some 173) (v := ?_) (a' := ?_) #[true, true, false, true, false, false, true, false, false, false, true, true, true, true, true, true, true, false, false, false, false, false, false, false, false, false, false, false] rfl rfl (by kernel_rfl) (fun _ _ _ h => h) (Or.inl ⟨by rfl, ?_⟩) ?_ ?_
            rotate_left
            · intro w'
              go_simp
              with_reducible rfl
            rotate_left
            · simp only [Act.put, List.setIfInBounds_toArray, List.set_cons_zero, List.set_cons_succ, i64_w, i32_w]
              rfl
            refine pure_ (i := 17) (N := some 174) (v := ?_) (a' := ?_) #[true, true, false, true, false, false, true, false, false, false, true, true, true, true, true, true, true, true, false, false, false, false, false, false, false, false, false, false] rfl rfl (by kernel_rfl) (fun _ _ _ h => h) (Or.inl ⟨by rfl, ?_⟩) ?_ ?_
            rotate_left
            · intro w'
              go_simp
              with_reducible rfl
            rotate_left
            · simp only [Act.put, List.setIfInBounds_toArray, List.set_cons_zero, List.set_cons_succ, i64_w, i32_w]
              rfl
            refine pure_ (i := 19) (N := some 176) (v := ?_) (a' := ?_) #[true, true, false, true, false, false, true, false, false, false, true, true, true, true, true, true, true, true, false, true, false, false, false, false, false, false, false, false] rfl rfl (by kernel_rfl) (fun _ _ _ h => h) (Or.inl ⟨by rfl, ?_⟩) ?_ ?_
            rotate_left
            · intro w'
              go_simp
              with_reducible rfl
            rotate_left
            · simp only [Act.put, List.setIfInBounds_toArray, List.set_cons_zero, List.set_cons_succ, i64_w, i32_w]
              rfl
            refine pure_ (i := 20) (N := some 177) (v := ?_) (a' := ?_) #[true, true, false, true, false, false, true, false, false, false, true, true, true, true, true, true, true, true, false, true, true, false, false, false, false, false, false, false] rfl rfl (by kernel_rfl) (fun _ _ _ h => h) (Or.inl ⟨by rfl, ?_⟩) ?_ ?_
            rotate_left
            · intro w'
              go_simp
              with_reducible rfl
            rotate_left
            · simp only [Act.put, List.setIfInBounds_toArray, List.set_cons_zero, List.set_cons_succ, i64_w, i32_w]
              rfl
            refine pure_ (i := 23) (N := some 180) (v := ?_) (a' := ?_) #[true, true, false, true, false, false, true, false, false, false, true, true, true, true, true, true, true, true, false, true, true, false, false, true, false, false, false, false] rfl rfl (by kernel_rfl) (fun _ _ _ h => h) (Or.inl ⟨by rfl, ?_⟩) ?_ ?_
            rotate_left
            · intro w'
              go_simp
              with_reducible rfl
            rotate_left
            · simp only [Act.put, List.setIfInBounds_toArray, List.set_cons_zero, List.set_cons_succ, i64_w, i32_w]
              rfl
            refine pure_ (i := 24) (N := some 181) (v := ?_) (a' := ?_) #[true, true, false, true, false, false, true, false, false, false, true, true, true, true, true, true, true, true, false, true, true, false, false, true, true, false, false, false] rfl rfl (by kernel_rfl) (fun _ _ _ h => h) (Or.inl ⟨by rfl, ?_⟩) ?_ ?_
            rotate_left
            · intro w'
              go_simp
              with_reducible rfl
            rotate_left
            · simp only [Act.put, List.setIfInBounds_toArray, List.set_cons_zero, List.set_cons_succ, i64_w, i32_w]
              rfl
            refine take_ (i := 21) (N := some 178) (v := ?_) (a' := ?_) #[true, true, false, true, false, false, true, false, false, false, true, true, true, true, true, true, true, true, false, true, true, true, false, true, true, false, false, false] rfl rfl (by kernel_rfl) (fun _ _ _ h => h) (Or.inl ⟨by rfl, ?_⟩) hHeld ?_ ?_
            rotate_left
            · rintro w' ⟨s0, s1⟩
              go_simp
              with_reducible rfl
            rotate_left
            · simp only [Act.put, List.setIfInBounds_toArray, List.set_cons_zero, List.set_cons_succ, i64_w, i32_w]
              rfl
            refine take_ (i := 25) (N := some 182) (v := ?_) (a' := ?_) #[true, true, false, true, false, false, true, false, false, false, true, true, true, true, true, true, true, true, false, true, true, true, false, true, true, true, false, false] rfl rfl (by kernel_rfl) (fun _ _ _ h => h) (Or.inl ⟨by rfl, ?_⟩) hHeld ?_ ?_
            rotate_left
            · rintro w' ⟨s0, s1⟩
              go_simp
              with_reducible rfl
            rotate_left
            · simp only [Act.put, List.setIfInBounds_toArray, List.set_cons_zero, List.set_cons_succ, i64_w, i32_w]
              rfl
            refine one_ (i := 2) (N := some 159) #[true, true, true, true, false, false, true, false, false, false, true, true, true, true, true, true, true, true, false, true, true, true, false, true, true, true, false, false] rfl rfl (by kernel_rfl) (by decide) (fun K hK => ?_)
            refine goes_ Try.func94 (by kernel_rfl) rfl #[.int .u32 te, .int .i64 (-6)] (by rfl) rfl rfl (by simp only [List.map_toArray, List.map_cons, List.map_nil]; rfl) ?_
            with_reducible refine (rot_at te (-6) 26 _ (by decide +kernel)).mono ?_
            rintro e w9 ⟨rfl, rfl⟩
            refine ⟨_, rfl, ?_⟩
            refine hK.out _ _ ⟨kx, wx⟩ (fun hHeld => ?_)
            clear hK K
            refine norm_ (a' := ?_) ?_ ?_
            rotate_left
            · show Act.put _ (some 159) _ = _
              simp only [Act.put, List.setIfInBounds_toArray, List.set_cons_zero, List.set_cons_succ, i64_w, i32_w]
              rfl
            refine one_ (i := 4) (N := some 161) #[true, true, true, true, true, false, true, false, false, false, true, true, true, true, true, true, true, true, false, true, true, true, false, true, true, true, false, false] rfl rfl (by kernel_rfl) (by decide) (fun K hK => ?_)
            refine goes_ Try.func94 (by kernel_rfl) rfl #[.int .u32 te, .int .i64 (-11)] (by rfl) rfl rfl (by simp only [List.map_toArray, List.map_cons, List.map_nil]; rfl) ?_
            with_reducible refine (rot_at te (-11) 21 _ (by decide +kernel)).mono ?_
            rintro e w9 ⟨rfl, rfl⟩
            refine ⟨_, rfl, ?_⟩
            refine hK.out _ _ ⟨kx, wx⟩ (fun hHeld => ?_)
            clear hK K
            refine norm_ (a' := ?_) ?_ ?_
            rotate_left
            · show Act.put _ (some 161) _ = _
              simp only [Act.put, List.setIfInBounds_toArray, List.set_cons_zero, List.set_cons_succ, i64_w, i32_w]
              rfl
            refine pure_ (i := 5) (N := some 162) (v := ?_) (a' := ?_) #[true, true, true, true, true, true, true, false, false, false, true, true, true, true, true, true, true, true, false, true, true, true, false, true, true, true, false, false] rfl rfl (by kernel_rfl) (fun _ _ _ h => h) (Or.inl ⟨by rfl, ?_⟩) ?_ ?_
            rotate_left
            · intro w'
              go_simp
              with_reducible rfl
            rotate_left
            · simp only [Act.put, List.setIfInBounds_toArray, List.set_cons_zero, List.set_cons_succ, i64_w, i32_w]
              rfl
            refine one_ (i := 7) (N := some 164) #[true, true, true, true, true, true, true, true, false, false, true, true, true, true, true, true, true, true, false, true, true, true, false, true, true, true, false, false] rfl rfl (by kernel_rfl) (by decide) (fun K hK => ?_)
            refine goes_ Try.func94 (by kernel_rfl) rfl #[.int .u32 te, .int .i64 (-25)] (by rfl) rfl rfl (by simp only [List.map_toArray, List.map_cons, List.map_nil]; rfl) ?_
            with_reducible refine (rot_at te (-25) 7 _ (by decide +kernel)).mono ?_
            rintro e w9 ⟨rfl, rfl⟩
            refine ⟨_, rfl, ?_⟩
            refine hK.out _ _ ⟨kx, wx⟩ (fun hHeld => ?_)
            clear hK K
            refine norm_ (a' := ?_) ?_ ?_
            rotate_left
            · show Act.put _ (some 164) _ = _
              simp only [Act.put, List.setIfInBounds_toArray, List.set_cons_zero, List.set_cons_succ, i64_w, i32_w]
              rfl
            refine pure_ (i := 8) (N := some 165) (v := ?_) (a' := ?_) #[true, true, true, true, true, true, true, true, true, false, true, true, true, true, true, true, true, true, false, true, true, true, false, true, true, true, false, false] rfl rfl (by kernel_rfl) (fun _ _ _ h => h) (Or.inl ⟨by rfl, ?_⟩) ?_ ?_
            rotate_left
            · intro w'
              go_simp
              with_reducible rfl
            rotate_left
            · simp only [Act.put, List.setIfInBounds_toArray, List.set_cons_zero, List.set_cons_succ, i64_w, i32_w]
              rfl
            refine pure_ (i := 9) (N := some 166) (v := ?_) (a' := ?_) #[true, true, true, true, true, true, true, true, true, true, true, true, true, true, true, true, true, true, false, true, true, true, false, true, true, true, false, false] rfl rfl (by kernel_rfl) (fun _ _ _ h => h) (Or.inl ⟨by rfl, ?_⟩) ?_ ?_
            rotate_left
            · intro w'
              go_simp
              with_reducible rfl
            rotate_left
            · simp only [Act.put, List.setIfInBounds_toArray, List.set_cons_zero, List.set_cons_succ, i64_w, i32_w]
              rfl
            refine pure_ (i := 18) (N := some 175) (v := ?_) (a' := ?_) #[true, true, true, true, true, true, true, true, true, true, true, true, true, true, true, true, true, true, true, true, true, true, false, true, true, true, false, false] rfl rfl (by kernel_rfl) (fun _ _ _ h => h) (Or.inl ⟨by rfl, ?_⟩) ?_ ?_
            rotate_left
            · intro w'
              go_simp
              with_reducible rfl
            rotate_left
            · simp only [Act.put, List.setIfInBounds_toArray, List.set_cons_zero, List.set_cons_succ, i64_w, i32_w]
              rfl
            refine pure_ (i := 22) (N := some 179) (v := ?_) (a' := ?_) #[true, true, true, true, true, true, true, true, true, true, true, true, true, true, true, true, true, true, true, true, true, true, true, true, true, true, false, false] rfl rfl (by kernel_rfl) (fun _ _ _ h => h) (Or.inl ⟨by rfl, ?_⟩) ?_ ?_
            rotate_left
            · intro w'
              go_simp
              with_reducible rfl
            rotate_left
            · simp only [Act.put, List.setIfInBounds_toArray, List.set_cons_zero, List.set_cons_succ, i64_w, i32_w]
              rfl
            refine pure_ (i := 26) (N := some 183) (v := ?_) (a' := ?_) #[true, true, true, true, true, true, true, true, true, true, true, true, true, true, true, true, true, true, true, true, true, true, true, true, true, true, true, false] rfl rfl (by kernel_rfl) (fun _ _ _ h => h) (Or.inl ⟨by rfl, ?_⟩) ?_ ?_
            rotate_left
            · intro w'
              go_simp
              with_reducible rfl
            rotate_left
            · simp only [Act.put, List.setIfInBounds_toArray, List.set_cons_zero, List.set_cons_succ, i64_w, i32_w]
              rfl
            refine pure_ (i := 27) (N := some 27) (v := ?_) (a' := ?_) #[true, true, true, true, true, true, true, true, true, true, true, true, true, true, true, true, true, true, true, true, true, true, true, true, true, true, true, true] rfl rfl (by kernel_rfl) (fun _ _ _ h => h) (Or.inl ⟨by rfl, ?_⟩) ?_ ?_
            rotate_left
            · intro w'
              go_simp
              with_reducible rfl
            rotate_left
            · simp only [Act.put, List.setIfInBounds_toArray, List.set_cons_zero, List.set_cons_succ, i64_w, i32_w]
              rfl
            refine done_ (by kernel_rfl) ?_
            go_wp2_with (go_at_call 94; go_must (first
              | ((with_reducible refine (rot_at ta (-2) 30 _ (by decide +kernel)).mono ?_); rintro e w9 ⟨rfl, rfl⟩)
              | ((with_reducible refine (rot_at ta (-13) 19 _ (by decide +kernel)).mono ?_); rintro e w9 ⟨rfl, rfl⟩)
              | ((with_reducible refine (rot_at ta (-22) 10 _ (by decide +kernel)).mono ?_); rintro e w9 ⟨rfl, rfl⟩)))
            go_roundg k2
            case measure => have := HI.out; omega
            case rel => exact ⟨i + 1, rnd ⟨ta, tb, tc, td, te, tf, tg, th⟩ kk v, _, ⟨by have := HI.out; omega, by have := HCI.out; omega⟩, ⟨by rw [rounds, HKK.out, HV1.out, ← HT.out]⟩, by first | rfl | (rw [hwi]), rfl, rfl, rfl, rfl, rfl, rfl, rfl, rfl, ⟨HR1.out.drew⟩, ⟨HF1.out⟩, ⟨below_drew HB1.out⟩⟩
        · have ei : i = 64 := by have := HI.out; omega
          subst ei
          have cc0 : decide (((64 : Nat) : Int) < 64) = false := by decide
          have cc1 : decide ((64 : Nat) < 64) = false := by decide
          have cc2 := eq_false ci
          have cc3 := eq_false (show ¬ (((64 : Nat) : Int) < 64) by decide)
          obtain ⟨A2, m2, c2_, hm2, hrun, hv2⟩ := from_fact .i64 (show Kd.V (Kd.int .u8) 5 wr w.heap.size (fun k => P0 k ∧ k < w.heap.size) (.slice A1 (l.drop (64 * j)).length c1) (l.drop (64 * j)) from by
            rw [← HNL.out]
            exact Kd.V_step HV.out (fun k hk _ => (HBI.out.block k hk.2).trans (HB9.out.block k hk.2).symm)) 64 (by have := HNL.out; have := HFIT.out; omega)
          rw [← HNL.out] at hrun hm2
          rw [show ((64 : Nat) : Int) = 64 by rfl] at hrun
          rw [List.drop_drop] at hv2
          have HV2 := Lib.hid hv2
          have HM2 := Lib.hid hm2
          clear hv2 ci hm2
          go_wp2
          go_roundg k1
          case measure => have := HJ.out; omega
          case rel => exact ⟨j + 1, plus s t, _, _, _, f, ⟨by have := HJ.out; omega, by have := HCJ.out; omega⟩, ⟨by rw [blks, ← HS.out, comp, HP.out, ← HT.out]⟩, rfl, ⟨by have := HN.out; have := HM2.out; have := HFIT.out; omega⟩, ⟨by have := HV2.out; rwa [show 64 * j + 64 = 64 * (j + 1) by omega] at this⟩, rfl, rfl, rfl, rfl, rfl, rfl, rfl, rfl, HR, HBI⟩
    · have ej : j = m := by have := HJ.out; omega
      subst ej
      have en : n1 = 0 := by have := HN.out; omega
      subst en
      have q0 : decide ((64 : Int) ≤ ((0 : Nat) : Int)) = false := by decide
      have q1 : decide (64 ≤ (0 : Nat)) = false := by decide
      have HSJ := Lib.hid HS.out
      obtain ⟨sa, sb, sc, sd, se, sf, sg, sh⟩ := s
      have d0 : Dg b cs wr := (HB.out.block b hb).trans HD.out
      obtain ⟨z0, z1, z2, z3, z4, z5, z6, z7⟩ := HS0.out
      have o0 : On b w wr := On.of_below hb HB.out
      have c0 : wr.cell? ⟨b, 0, none⟩ = some (.int .u32 s0.a) := dg_cell d0 0 z0
      have f0 : wr.frozen? ⟨b, 0, none⟩ = false := blk_frozen d0 0
      obtain ⟨W1, hW1⟩ : ∃ W', wr.setCell ⟨b, 0, none⟩ (.int .u32 sa) = W' := ⟨_, rfl⟩
      obtain ⟨cs1, hs1⟩ : ∃ c', cs.setIfInBounds 0 (.int .u32 sa) = c' := ⟨_, rfl⟩
      have d1 : Dg b cs1 W1 := hs1 ▸ hW1 ▸ dg_set d0 0 _
      have o1 : On b w W1 := hW1 ▸ o0.set 0 _
      replace z1 : cs1[1]? = some (.int .u32 s0.b) := by rw [← hs1]; simpa using z1
      replace z2 : cs1[2]? = some (.int .u32 s0.c) := by rw [← hs1]; simpa using z2
      replace z3 : cs1[3]? = some (.int .u32 s0.d) := by rw [← hs1]; simpa using z3
      replace z4 : cs1[4]? = some (.int .u32 s0.e) := by rw [← hs1]; simpa using z4
      replace z5 : cs1[5]? = some (.int .u32 s0.f) := by rw [← hs1]; simpa using z5
      replace z6 : cs1[6]? = some (.int .u32 s0.g) := by rw [← hs1]; simpa using z6
      replace z7 : cs1[7]? = some (.int .u32 s0.h) := by rw [← hs1]; simpa using z7
      have c1 : W1.cell? ⟨b, 1, none⟩ = some (.int .u32 s0.b) := dg_cell d1 1 z1
      have f1 : W1.frozen? ⟨b, 1, none⟩ = false := blk_frozen d1 1
      obtain ⟨W2, hW2⟩ : ∃ W', W1.setCell ⟨b, 1, none⟩ (.int .u32 sb) = W' := ⟨_, rfl⟩
      obtain ⟨cs2, hs2⟩ : ∃ c', cs1.setIfInBounds 1 (.int .u32 sb) = c' := ⟨_, rfl⟩
      have d2 : Dg b cs2 W2 := hs2 ▸ hW2 ▸ dg_set d1 1 _
      have o2 : On b w W2 := hW2 ▸ o1.set 1 _
      replace z2 : cs2[2]? = some (.int .u32 s0.c) := by rw [← hs2]; simpa using z2
      replace z3 : cs2[3]? = some (.int .u32 s0.d) := by rw [← hs2]; simpa using z3
      replace z4 : cs2[4]? = some (.int .u32 s0.e) := by rw [← hs2]; simpa using z4
      replace z5 : cs2[5]? = some (.int .u32 s0.f) := by rw [← hs2]; simpa using z5
      replace z6 : cs2[6]? = some (.int .u32 s0.g) := by rw [← hs2]; simpa using z6
      replace z7 : cs2[7]? = some (.int .u32 s0.h) := by rw [← hs2]; simpa using z7
      have c2 : W2.cell? ⟨b, 2, none⟩ = some (.int .u32 s0.c) := dg_cell d2 2 z2
      have f2 : W2.frozen? ⟨b, 2, none⟩ = false := blk_frozen d2 2
      obtain ⟨W3, hW3⟩ : ∃ W', W2.setCell ⟨b, 2, none⟩ (.int .u32 sc) = W' := ⟨_, rfl⟩
      obtain ⟨cs3, hs3⟩ : ∃ c', cs2.setIfInBounds 2 (.int .u32 sc) = c' := ⟨_, rfl⟩
      have d3 : Dg b cs3 W3 := hs3 ▸ hW3 ▸ dg_set d2 2 _
      have o3 : On b w W3 := hW3 ▸ o2.set 2 _
      replace z3 : cs3[3]? = some (.int .u32 s0.d) := by rw [← hs3]; simpa using z3
      replace z4 : cs3[4]? = some (.int .u32 s0.e) := by rw [← hs3]; simpa using z4
      replace z5 : cs3[5]? = some (.int .u32 s0.f) := by rw [← hs3]; simpa using z5
      replace z6 : cs3[6]? = some (.int .u32 s0.g) := by rw [← hs3]; simpa using z6
      replace z7 : cs3[7]? = some (.int .u32 s0.h) := by rw [← hs3]; simpa using z7
      have c3 : W3.cell? ⟨b, 3, none⟩ = some (.int .u32 s0.d) := dg_cell d3 3 z3
      have f3 : W3.frozen? ⟨b, 3, none⟩ = false := blk_frozen d3 3
      obtain ⟨W4, hW4⟩ : ∃ W', W3.setCell ⟨b, 3, none⟩ (.int .u32 sd) = W' := ⟨_, rfl⟩
      obtain ⟨cs4, hs4⟩ : ∃ c', cs3.setIfInBounds 3 (.int .u32 sd) = c' := ⟨_, rfl⟩
      have d4 : Dg b cs4 W4 := hs4 ▸ hW4 ▸ dg_set d3 3 _
      have o4 : On b w W4 := hW4 ▸ o3.set 3 _
      replace z4 : cs4[4]? = some (.int .u32 s0.e) := by rw [← hs4]; simpa using z4
      replace z5 : cs4[5]? = some (.int .u32 s0.f) := by rw [← hs4]; simpa using z5
      replace z6 : cs4[6]? = some (.int .u32 s0.g) := by rw [← hs4]; simpa using z6
      replace z7 : cs4[7]? = some (.int .u32 s0.h) := by rw [← hs4]; simpa using z7
      have c4 : W4.cell? ⟨b, 4, none⟩ = some (.int .u32 s0.e) := dg_cell d4 4 z4
      have f4 : W4.frozen? ⟨b, 4, none⟩ = false := blk_frozen d4 4
      obtain ⟨W5, hW5⟩ : ∃ W', W4.setCell ⟨b, 4, none⟩ (.int .u32 se) = W' := ⟨_, rfl⟩
      obtain ⟨cs5, hs5⟩ : ∃ c', cs4.setIfInBounds 4 (.int .u32 se) = c' := ⟨_, rfl⟩
      have d5 : Dg b cs5 W5 := hs5 ▸ hW5 ▸ dg_set d4 4 _
      have o5 : On b w W5 := hW5 ▸ o4.set 4 _
      replace z5 : cs5[5]? = some (.int .u32 s0.f) := by rw [← hs5]; simpa using z5
      replace z6 : cs5[6]? = some (.int .u32 s0.g) := by rw [← hs5]; simpa using z6
      replace z7 : cs5[7]? = some (.int .u32 s0.h) := by rw [← hs5]; simpa using z7
      have c5 : W5.cell? ⟨b, 5, none⟩ = some (.int .u32 s0.f) := dg_cell d5 5 z5
      have f5 : W5.frozen? ⟨b, 5, none⟩ = false := blk_frozen d5 5
      obtain ⟨W6, hW6⟩ : ∃ W', W5.setCell ⟨b, 5, none⟩ (.int .u32 sf) = W' := ⟨_, rfl⟩
      obtain ⟨cs6, hs6⟩ : ∃ c', cs5.setIfInBounds 5 (.int .u32 sf) = c' := ⟨_, rfl⟩
      have d6 : Dg b cs6 W6 := hs6 ▸ hW6 ▸ dg_set d5 5 _
      have o6 : On b w W6 := hW6 ▸ o5.set 5 _
      replace z6 : cs6[6]? = some (.int .u32 s0.g) := by rw [← hs6]; simpa using z6
      replace z7 : cs6[7]? = some (.int .u32 s0.h) := by rw [← hs6]; simpa using z7
      have c6 : W6.cell? ⟨b, 6, none⟩ = some (.int .u32 s0.g) := dg_cell d6 6 z6
      have f6 : W6.frozen? ⟨b, 6, none⟩ = false := blk_frozen d6 6
      obtain ⟨W7, hW7⟩ : ∃ W', W6.setCell ⟨b, 6, none⟩ (.int .u32 sg) = W' := ⟨_, rfl⟩
      obtain ⟨cs7, hs7⟩ : ∃ c', cs6.setIfInBounds 6 (.int .u32 sg) = c' := ⟨_, rfl⟩
      have d7 : Dg b cs7 W7 := hs7 ▸ hW7 ▸ dg_set d6 6 _
      have o7 : On b w W7 := hW7 ▸ o6.set 6 _
      replace z7 : cs7[7]? = some (.int .u32 s0.h) := by rw [← hs7]; simpa using z7
      have c7 : W7.cell? ⟨b, 7, none⟩ = some (.int .u32 s0.h) := dg_cell d7 7 z7
      have f7 : W7.frozen? ⟨b, 7, none⟩ = false := blk_frozen d7 7
      obtain ⟨W8, hW8⟩ : ∃ W', W7.setCell ⟨b, 7, none⟩ (.int .u32 sh) = W' := ⟨_, rfl⟩
      obtain ⟨cs8, hs8⟩ : ∃ c', cs7.setIfInBounds 7 (.int .u32 sh) = c' := ⟨_, rfl⟩
      have d8 : Dg b cs8 W8 := hs8 ▸ hW8 ▸ dg_set d7 7 _
      have o8 : On b w W8 := hW8 ▸ o7.set 7 _
      have HEND := Lib.hid (show Dg b ((blks K s0 l j).into cs) W8 ∧ On b w W8 from ⟨by rw [← HSJ.out]; unfold H8.into; simp only; rw [hs1, hs2, hs3, hs4, hs5, hs6, hs7, hs8]; exact d8, o8⟩)
      clear d1 d2 d3 d4 d5 d6 d7 d8 o0 o1 o2 o3 o4 o5 o6 o7 o8 hs1 hs2 hs3 hs4 hs5 hs6 hs7 hs8
      clear d0 z0 z1 z2 z3 z4 z5 z6 z7
      go_wp2
      as_aux_lemma =>
      refine start_ (n := 48) (S := fun w' => True) (ds := [19, 23, 27, 31, 35, 39, 43, 47]) #[false, false, false, false, false, false, false, false, false, false, false, false, false, false, false, false, false, false, false, false, false, false, false, false, false, false, false, false, false, false, false, false, false, false, false, false, false, false, false, false, false, false, false, false, false, false, false, false] (by kernel_rfl) rfl rfl trivial (fun hHeld => ?_)
      refine pure_ (i := 0) (N := some 243) (v := ?_) (a' := ?_) #[true, false, false, false, false, false, false, false, false, false, false, false, false, false, false, false, false, false, false, false, false, false, false, false, false, false, false, false, false, false, false, false, false, false, false, false, false, false, false, false, false, false, false, false, false, false, false, false] rfl rfl (by kernel_rfl) (fun _ _ _ h => h) (Or.inl ⟨by rfl, ?_⟩) ?_ ?_
      rotate_left
      · intro w'
        go_simp
        with_reducible rfl
      rotate_left
      · simp only [Act.put, List.setIfInBounds_toArray, List.set_cons_zero, List.set_cons_succ, i64_w, i32_w]
        rfl
      refine pure_ (i := 1) (N := some 244) (v := ?_) (a' := ?_) #[true, true, false, false, false, false, false, false, false, false, false, false, false, false, false, false, false, false, false, false, false, false, false, false, false, false, false, false, false, false, false, false, false, false, false, false, false, false, false, false, false, false, false, false, false, false, false, false] rfl rfl (by kernel_rfl) (fun _ _ _ h => h) (Or.inl ⟨by rfl, ?_⟩) ?_ ?_
      rotate_left
      · intro w'
        go_simp
        with_reducible rfl
      rotate_left
      · simp only [Act.put, List.setIfInBounds_toArray, List.set_cons_zero, List.set_cons_succ, i64_w, i32_w]
        rfl
      refine pure_ (i := 2) (N := some 245) (v := ?_) (a' := ?_) #[true, true, true, false, false, false, false, false, false, false, false, false, false, false, false, false, false, false, false, false, false, false, false, false, false, false, false, false, false, false, false, false, false, false, false, false, false, false, false, false, false, false, false, false, false, false, false, false] rfl rfl (by kernel_rfl) (fun _ _ _ h => h) (Or.inl ⟨by rfl, ?_⟩) ?_ ?_
      rotate_left
      · intro w'
        go_simp
        with_reducible rfl
      rotate_left
      · simp only [Act.put, List.setIfInBounds_toArray, List.set_cons_zero, List.set_cons_succ, i64_w, i32_w]
        rfl
      refine pure_ (i := 3) (N := some 246) (v := ?_) (a' := ?_) #[true, true, true, true, false, false, false, false, false, false, false, false, false, false, false, false, false, false, false, false, false, false, false, false, false, false, false, false, false, false, false, false, false, false, false, false, false, false, false, false, false, false, false, false, false, false, false, false] rfl rfl (by kernel_rfl) (fun _ _ _ h => h) (Or.inl ⟨by rfl, ?_⟩) ?_ ?_
      rotate_left
      · intro w'
        go_simp
        with_reducible rfl
      rotate_left
      · simp only [Act.put, List.setIfInBounds_toArray, List.set_cons_zero, List.set_cons_succ, i64_w, i32_w]
        rfl
      refine pure_ (i := 4) (N := some 247) (v := ?_) (a' := ?_) #[true, true, true, true, true, false, false, false, false, false, false, false, false, false, false, false, false, false, false, false, false, false, false, false, false, false, false, false, false, false, false, false, false, false, false, false, false, false, false, false, false, false, false, false, false, false, false, false] rfl rfl (by kernel_rfl) (fun _ _ _ h => h) (Or.inl ⟨by rfl, ?_⟩) ?_ ?_
      rotate_left
      · intro w'
        go_simp
        with_reducible rfl
      rotate_left
      · simp only [Act.put, List.setIfInBounds_toArray, List.set_cons_zero, List.set_cons_succ, i64_w, i32_w]
        rfl
      refine pure_ (i := 5) (N := some 248) (v := ?_) (a' := ?_) #[true, true, true, true, true, true, false, false, false, false, false, false, false, false, false, false, false, false, false, false, false, false, false, false, false, false, false, false, false, false, false, false, false, false, false, false, false, false, false, false, false, false, false, false, false, false, false, false] rfl rfl (by kernel_rfl) (fun _ _ _ h => h) (Or.inl ⟨by rfl, ?_⟩) ?_ ?_
      rotate_left
      · intro w'
        go_simp
        with_reducible rfl
      rotate_left
      · simp only [Act.put, List.setIfInBounds_toArray, List.set_cons_zero, List.set_cons_succ, i64_w, i32_w]
        rfl
      refine pure_ (i := 6) (N := some 249) (v := ?_) (a' := ?_) #[true, true, true, true, true, true, true, false, false, false, false, false, false, false, false, false, false, false, false, false, false, false, false, false, false, false, false, false, false, false, false, false, false, false, false, false, false, false, false, false, false, false, false, false, false, false, false, false] rfl rfl (by kernel_rfl) (fun _ _ _ h => h) (Or.inl ⟨by rfl, ?_⟩) ?_ ?_
      rotate_left
      · intro w'
        go_simp
        with_reducible rfl
      rotate_left
      · simp only [Act.put, List.setIfInBounds_toArray, List.set_cons_zero, List.set_cons_succ, i64_w, i32_w]
        rfl
      refine pure_ (i := 7) (N := some 250) (v := ?_) (a' := ?_) #[true, true, true, true, true, true, true, true, false, false, false, false, false, false, false, false, false, false, false, false, false, false, false, false, false, false, false, false, false, false, false, false, false, false, false, false, false, false, false, false, false, false, false, false, false, false, false, false] rfl rfl (by kernel_rfl) (fun _ _ _ h => h) (Or.inl ⟨by rfl, ?_⟩) ?_ ?_
      rotate_left
      · intro w'
        go_simp
        with_reducible rfl
      rotate_left
      · simp only [Act.put, List.setIfInBounds_toArray, List.set_cons_zero, List.set_cons_succ, i64_w, i32_w]
        rfl
      refine pure_ (i := 8) (N := some 251) (v := ?_) (a' := ?_) #[true, true, true, true, true, true, true, true, true, false, false, false, false, false, false, false, false, false, false, false, false, false, false, false, false, false, false, false, false, false, false, false, false, false, false, false, false, false, false, false, false, false, false, false, false, false, false, false] rfl rfl (by kernel_rfl) (fun _ _ _ h => h) (Or.inl ⟨by rfl, ?_⟩) ?_ ?_
      rotate_left
      · intro w'
        go_simp
        with_reducible rfl
      rotate_left
      · simp only [Act.put, List.setIfInBounds_toArray, List.set_cons_zero, List.set_cons_succ, i64_w, i32_w]
        rfl
      refine pure_ (i := 9) (N := some 252) (v := ?_) (a' := ?_) #[true, true, true, true, true, true, true, true, true, true, false, false, false, false, false, false, false, false, false, false, false, false, false, false, false, false, false, false, false, false, false, false, false, false, false, false, false, false, false, false, false, false, false, false, false, false, false, false] rfl rfl (by kernel_rfl) (fun _ _ _ h => h) (Or.inl ⟨by rfl, ?_⟩) ?_ ?_
      rotate_left
      · intro w'
        go_simp
        with_reducible rfl
      rotate_left
      · simp only [Act.put, List.setIfInBounds_toArray, List.set_cons_zero, List.set_cons_succ, i64_w, i32_w]
        rfl
      refine pure_ (i := 10) (N := some 253) (v := ?_) (a' := ?_) #[true, true, true, true, true, true, true, true, true, true, true, false, false, false, false, false, false, false, false, false, false, false, false, false, false, false, false, false, false, false, false, false, false, false, false, false, false, false, false, false, false, false, false, false, false, false, false, false] rfl rfl (by kernel_rfl) (fun _ _ _ h => h) (Or.inl ⟨by rfl, ?_⟩) ?_ ?_
      rotate_left
      · intro w'
        go_simp
        with_reducible rfl
      rotate_left
      · simp only [Act.put, List.setIfInBounds_toArray, List.set_cons_zero, List.set_cons_succ, i64_w, i32_w]
        rfl
      refine pure_ (i := 11) (N := some 254) (v := ?_) (a' := ?_) #[true, true, true, true, true, true, true, true, true, true, true, true, false, false, false, false, false, false, false, false, false, false, false, false, false, false, false, false, false, false, false, false, false, false, false, false, false, false, false, false, false, false, false, false, false, false, false, false] rfl rfl (by kernel_rfl) (fun _ _ _ h => h) (Or.inl ⟨by rfl, ?_⟩) ?_ ?_
      rotate_left
      · intro w'
        go_simp
        with_reducible rfl
      rotate_left
      · simp only [Act.put, List.setIfInBounds_toArray, List.set_cons_zero, List.set_cons_succ, i64_w, i32_w]
        rfl
      refine pure_ (i := 12) (N := some 255) (v := ?_) (a' := ?_) #[true, true, true, true, true, true, true, true, true, true, true, true, true, false, false, false, false, false, false, false, false, false, false, false, false, false, false, false, false, false, false, false, false, false, false, false, false, false, false, false, false, false, false, false, false, false, false, false] rfl rfl (by kernel_rfl) (fun _ _ _ h => h) (Or.inl ⟨by rfl, ?_⟩) ?_ ?_
      rotate_left
      · intro w'
        go_simp
        with_reducible rfl
      rotate_left
      · simp only [Act.put, List.setIfInBounds_toArray, List.set_cons_zero, List.set_cons_succ, i64_w, i32_w]
        rfl
      refine pure_ (i := 13) (N := some 256) (v := ?_) (a' := ?_) #[true, true, true, true, true, true, true, true, true, true, true, true, true, true, false, false, false, false, false, false, false, false, false, false, false, false, false, false, false, false, false, false, false, false, false, false, false, false, false, false, false, false, false, false, false, false, false, false] rfl rfl (by kernel_rfl) (fun _ _ _ h => h) (Or.inl ⟨by rfl, ?_⟩) ?_ ?_
      rotate_left
      · intro w'
        go_simp
        with_reducible rfl
      rotate_left
      · simp only [Act.put, List.setIfInBounds_toArray, List.set_cons_zero, List.set_cons_succ, i64_w, i32_w]
        rfl
      refine pure_ (i := 14) (N := some 257) (v := ?_) (a' := ?_) #[true, true, true, true, true, true, true, true, true, true, true, true, true, true, true, false, false, false, false, false, false, false, false, false, false, false, false, false, false, false, false, false, false, false, false, false, false, false, false, false, false, false, false, false, false, false, false, false] rfl rfl (by kernel_rfl) (fun _ _ _ h => h) (Or.inl ⟨by rfl, ?_⟩) ?_ ?_
      rotate_left
      · intro w'
        go_simp
        with_reducible rfl
      rotate_left
      · simp only [Act.put, List.setIfInBounds_toArray, List.set_cons_zero, List.set_cons_succ, i64_w, i32_w]
        rfl
      refine pure_ (i := 15) (N := some 258) (v := ?_) (a' := ?_) #[true, true, true, true, true, true, true, true, true, true, true, true, true, true, true, true, false, false, false, false, false, false, false, false, false, false, false, false, false, false, false, false, false, false, false, false, false, false, false, false, false, false, false, false, false, false, false, false] rfl rfl (by kernel_rfl) (fun _ _ _ h => h) (Or.inl ⟨by rfl, ?_⟩) ?_ ?_
      rotate_left
      · intro w'
        go_simp
        with_reducible rfl
      rotate_left
      · simp only [Act.put, List.setIfInBounds_toArray, List.set_cons_zero, List.set_cons_succ, i64_w, i32_w]
        rfl
      refine pure_ (i := 16) (N := some 259) (v := ?_) (a' := ?_) #[true, true, true, true, true, true, true, true, true, true, true, true, true, true, true, true, true, false, false, false, false, false, false, false, false, false, false, false, false, false, false, false, false, false, false, false, false, false, false, false, false, false, false, false, false, false, false, false] rfl rfl (by kernel_rfl) (fun _ _ _ h => h) (Or.inl ⟨by rfl, ?_⟩) ?_ ?_
      rotate_left
      · intro w'
        go_simp
        with_reducible rfl
      rotate_left
      · simp only [Act.put, List.setIfInBounds_toArray, List.set_cons_zero, List.set_cons_succ, i64_w, i32_w]
        rfl
      refine pure_ (i := 17) (N := some 260) (v := ?_) (a' := ?_) #[true, true, true, true, true, true, true, true, true, true, true, true, true, true, true, true, true, true, false, false, false, false, false, false, false, false, false, false, false, false, false, false, false, false, false, false, false, false, false, false, false, false, false, false, false, false, false, false] rfl rfl (by kernel_rfl) (fun _ _ _ h => h) (Or.inl ⟨by rfl, ?_⟩) ?_ ?_
      rotate_left
      · intro w'
        go_simp
        with_reducible rfl
      rotate_left
      · simp only [Act.put, List.setIfInBounds_toArray, List.set_cons_zero, List.set_cons_succ, i64_w, i32_w]
        rfl
      refine pure_ (i := 18) (N := some 261) (v := ?_) (a' := ?_) #[true, true, true, true, true, true, true, true, true, true, true, true, true, true, true, true, true, true, true, false, false, false, false, false, false, false, false, false, false, false, false, false, false, false, false, false, false, false, false, false, false, false, false, false, false, false, false, false] rfl rfl (by kernel_rfl) (fun _ _ _ h => h) (Or.inl ⟨by rfl, ?_⟩) ?_ ?_
      rotate_left
      · intro w'
        go_simp
        with_reducible rfl
      rotate_left
      · simp only [Act.put, List.setIfInBounds_toArray, List.set_cons_zero, List.set_cons_succ, i64_w, i32_w]
        rfl
      refine pure_ (i := 20) (N := some 262) (v := ?_) (a' := ?_) #[true, true, true, true, true, true, true, true, true, true, true, true, true, true, true, true, true, true, true, false, true, false, false, false, false, false, false, false, false, false, false, false, false, false, false, false, false, false, false, false, false, false, false, false, false, false, false, false] rfl rfl (by kernel_rfl) (fun _ _ _ h => h) (Or.inl ⟨by rfl, ?_⟩) ?_ ?_
      rotate_left
      · intro w'
        go_simp
        with_reducible rfl
      rotate_left
      · simp only [Act.put, List.setIfInBounds_toArray, List.set_cons_zero, List.set_cons_succ, i64_w, i32_w]
        rfl
      refine pure_ (i := 21) (N := some 263) (v := ?_) (a' := ?_) #[true, true, true, true, true, true, true, true, true, true, true, true, true, true, true, true, true, true, true, false, true, true, false, false, false, false, false, false, false, false, false, false, false, false, false, false, false, false, false, false, false, false, false, false, false, false, false, false] rfl rfl (by kernel_rfl) (fun _ _ _ h => h) (Or.inl ⟨by rfl, ?_⟩) ?_ ?_
      rotate_left
      · intro w'
        go_simp
        with_reducible rfl
      rotate_left
      · simp only [Act.put, List.setIfInBounds_toArray, List.set_cons_zero, List.set_cons_succ, i64_w, i32_w]
        rfl
      refine pure_ (i := 24) (N := some 265) (v := ?_) (a' := ?_) #[true, true, true, true, true, true, true, true, true, true, true, true, true, true, true, true, true, true, true, false, true, true, false, false, true, false, false, false, false, false, false, false, false, false, false, false, false, false, false, false, false, false, false, false, false, false, false, false] rfl rfl (by kernel_rfl) (fun _ _ _ h => h) (Or.inl ⟨by rfl, ?_⟩) ?_ ?_
      rotate_left
      · intro w'
        go_simp
        with_reducible rfl
      rotate_left
      · simp only [Act.put, List.setIfInBounds_toArray, List.set_cons_zero, List.set_cons_succ, i64_w, i32_w]
        rfl
      refine pure_ (i := 25) (N := some 266) (v := ?_) (a' := ?_) #[true, true, true, true, true, true, true, true, true, true, true, true, true, true, true, true, true, true, true, false, true, true, false, false, true, true, false, false, false, false, false, false, false, false, false, false, false, false, false, false, false, false, false, false, false, false, false, false] rfl rfl (by kernel_rfl) (fun _ _ _ h => h) (Or.inl ⟨by rfl, ?_⟩) ?_ ?_
      rotate_left
      · intro w'
        go_simp
        with_reducible rfl
      rotate_left
      · simp only [Act.put, List.setIfInBounds_toArray, List.set_cons_zero, List.set_cons_succ, i64_w, i32_w]
        rfl
      refine pure_ (i := 28) (N := some 268) (v := ?_) (a' := ?_) #[true, true, true, true, true, true, true, true, true, true, true, true, true, true, true, true, true, true, true, false, true, true, false, false, true, true, false, false, true, false, false, false, false, false, false, false, false, false, false, false, false, false, false, false, false, false, false, false] rfl rfl (by kernel_rfl) (fun _ _ _ h => h) (Or.inl ⟨by rfl, ?_⟩) ?_ ?_
      rotate_left
      · intro w'
        go_simp
        with_reducible rfl
      rotate_left
      · simp only [Act.put, List.setIfInBounds_toArray, List.set_cons_zero, List.set_cons_succ, i64_w, i32_w]
        rfl
      refine pure_ (i := 29) (N := some 269) (v := ?_) (a' := ?_) #[true, true, true, true, true, true, true, true, true, true, true, true, true, true, true, true, true, true, true, false, true, true, false, false, true, true, false, false, true, true, false, false, false, false, false, false, false, false, false, false, false, false, false, false, false, false, false, false] rfl rfl (by kernel_rfl) (fun _ _ _ h => h) (Or.inl ⟨by rfl, ?_⟩) ?_ ?_
      rotate_left
      · intro w'
        go_simp
        with_reducible rfl
      rotate_left
      · simp only [Act.put, List.setIfInBounds_toArray, List.set_cons_zero, List.set_cons_succ, i64_w, i32_w]
        rfl
      refine pure_ (i := 32) (N := some 271) (v := ?_) (a' := ?_) #[true, true, true, true, true, true, true, true, true, true, true, true, true, true, true, true, true, true, true, false, true, true, false, false, true, true, false, false, true, true, false, false, true, false, false, false, false, false, false, false, false, false, false, false, false, false, false, false] rfl rfl (by kernel_rfl) (fun _ _ _ h => h) (Or.inl ⟨by rfl, ?_⟩) ?_ ?_
      rotate_left
      · intro w'
        go_simp
        with_reducible rfl
      rotate_left
      · simp only [Act.put, List.setIfInBounds_toArray, List.set_cons_zero, List.set_cons_succ, i64_w, i32_w]
        rfl
      refine pure_ (i := 33) (N := some 272) (v := ?_) (a' := ?_) #[true, true, true, true, true, true, true, true, true, true, true, true, true, true, true, true, true, true, true, false, true, true, false, false, true, true, false, false, true, true, false, false, true, true, false, false, false, false, false, false, false, false, false, false, false, false, false, false] rfl rfl (by kernel_rfl) (fun _ _ _ h => h) (Or.inl ⟨by rfl, ?_⟩) ?_ ?_
      rotate_left
      · intro w'
        go_simp
        with_reducible rfl
      rotate_left
      · simp only [Act.put, List.setIfInBounds_toArray, List.set_cons_zero, List.set_cons_succ, i64_w, i32_w]
        rfl
      refine pure_ (i := 36) (N := some 274) (v := ?_) (a' := ?_) #[true, true, true, true, true, true, true, true, true, true, true, true, true, true, true, true, true, true, true, false, true, true, false, false, true, true, false, false, true, true, false, false, true, true, false, false, true, false, false, false, false, false, false, false, false, false, false, false] rfl rfl (by kernel_rfl) (fun _ _ _ h => h) (Or.inl ⟨by rfl, ?_⟩) ?_ ?_
      rotate_left
      · intro w'
        go_simp
        with_reducible rfl
      rotate_left
      · simp only [Act.put, List.setIfInBounds_toArray, List.set_cons_zero, List.set_cons_succ, i64_w, i32_w]
        rfl
      refine pure_ (i := 37) (N := some 275) (v := ?_) (a' := ?_) #[true, true, true, true, true, true, true, true, true, true, true, true, true, true, true, true, true, true, true, false, true, true, false, false, true, true, false, false, true, true, false, false, true, true, false, false, true, true, false, false, false, false, false, false, false, false, false, false] rfl rfl (by kernel_rfl) (fun _ _ _ h => h) (Or.inl ⟨by rfl, ?_⟩) ?_ ?_
      rotate_left
      · intro w'
        go_simp
        with_reducible rfl
      rotate_left
      · simp only [Act.put, List.setIfInBounds_toArray, List.set_cons_zero, List.set_cons_succ, i64_w, i32_w]
        rfl
      refine pure_ (i := 40) (N := some 277) (v := ?_) (a' := ?_) #[true, true, true, true, true, true, true, true, true, true, true, true, true, true, true, true, true, true, true, false, true, true, false, false, true, true, false, false, true, true, false, false, true, true, false, false, true, true, false, false, true, false, false, false, false, false, false, false] rfl rfl (by kernel_rfl) (fun _ _ _ h => h) (Or.inl ⟨by rfl, ?_⟩) ?_ ?_
      rotate_left
      · intro w'
        go_simp
        with_reducible rfl
      rotate_left
      · simp only [Act.put, List.setIfInBounds_toArray, List.set_cons_zero, List.set_cons_succ, i64_w, i32_w]
        rfl
      refine pure_ (i := 41) (N := some 278) (v := ?_) (a' := ?_) #[true, true, true, true, true, true, true, true, true, true, true, true, true, true, true, true, true, true, true, false, true, true, false, false, true, true, false, false, true, true, false, false, true, true, false, false, true, true, false, false, true, true, false, false, false, false, false, false] rfl rfl (by kernel_rfl) (fun _ _ _ h => h) (Or.inl ⟨by rfl, ?_⟩) ?_ ?_
      rotate_left
      · intro w'
        go_simp
        with_reducible rfl
      rotate_left
      · simp only [Act.put, List.setIfInBounds_toArray, List.set_cons_zero, List.set_cons_succ, i64_w, i32_w]
        rfl
      refine pure_ (i := 44) (N := some 280) (v := ?_) (a' := ?_) #[true, true, true, true, true, true, true, true, true, true, true, true, true, true, true, true, true, true, true, false, true, true, false, false, true, true, false, false, true, true, false, false, true, true, false, false, true, true, false, false, true, true, false, false, true, false, false, false] rfl rfl (by kernel_rfl) (fun _ _ _ h => h) (Or.inl ⟨by rfl, ?_⟩) ?_ ?_
      rotate_left
      · intro w'
        go_simp
        with_reducible rfl
      rotate_left
      · simp only [Act.put, List.setIfInBounds_toArray, List.set_cons_zero, List.set_cons_succ, i64_w, i32_w]
        rfl
      refine pure_ (i := 45) (N := some 281) (v := ?_) (a' := ?_) #[true, true, true, true, true, true, true, true, true, true, true, true, true, true, true, true, true, true, true, false, true, true, false, false, true, true, false, false, true, true, false, false, true, true, false, false, true, true, false, false, true, true, false, false, true, true, false, false] rfl rfl (by kernel_rfl) (fun _ _ _ h => h) (Or.inl ⟨by rfl, ?_⟩) ?_ ?_
      rotate_left
      · intro w'
        go_simp
        with_reducible rfl
      rotate_left
      · simp only [Act.put, List.setIfInBounds_toArray, List.set_cons_zero, List.set_cons_succ, i64_w, i32_w]
        rfl
      refine last_ (i := 19) (N := none) #[true, true, true, true, true, true, true, true, true, true, true, true, true, true, true, true, true, true, true, true, true, true, false, false, true, true, false, false, true, true, false, false, true, true, false, false, true, true, false, false, true, true, false, false, true, true, false, false] rfl rfl (by kernel_rfl) (by decide) (fun K hK => ?_)
      refine skip_ (w1 := ?_) (by rfl) rfl ?_ ?_
      rotate_left
      · go_simp
        rfl
      refine hK.out _ _ ?_
      clear hK K
      refine pure_ (i := 22) (N := some 264) (v := ?_) (a' := ?_) #[true, true, true, true, true, true, true, true, true, true, true, true, true, true, true, true, true, true, true, true, true, true, true, false, true, true, false, false, true, true, false, false, true, true, false, false, true, true, false, false, true, true, false, false, true, true, false, false] rfl rfl (by kernel_rfl) (fun _ _ _ h => h) (Or.inl ⟨by rfl, ?_⟩) ?_ ?_
      rotate_left
      · intro w'
        go_simp
        with_reducible rfl
      rotate_left
      · simp only [Act.put, List.setIfInBounds_toArray, List.set_cons_zero, List.set_cons_succ, i64_w, i32_w]
        rfl
      refine last_ (i := 23) (N := none) #[true, true, true, true, true, true, true, true, true, true, true, true, true, true, true, true, true, true, true, true, true, true, true, true, true, true, false, false, true, true, false, false, true, true, false, false, true, true, false, false, true, true, false, false, true, true, false, false] rfl rfl (by kernel_rfl) (by decide) (fun K hK => ?_)
      refine skip_ (w1 := ?_) (by rfl) rfl ?_ ?_
      rotate_left
      · go_simp
        rfl
      refine hK.out _ _ ?_
      clear hK K
      refine pure_ (i := 26) (N := some 267) (v := ?_) (a' := ?_) #[true, true, true, true, true, true, true, true, true, true, true, true, true, true, true, true, true, true, true, true, true, true, true, true, true, true, true, false, true, true, false, false, true, true, false, false, true, true, false, false, true, true, false, false, true, true, false, false] rfl rfl (by kernel_rfl) (fun _ _ _ h => h) (Or.inl ⟨by rfl, ?_⟩) ?_ ?_
      rotate_left
      · intro w'
        go_simp
        with_reducible rfl
      rotate_left
      · simp only [Act.put, List.setIfInBounds_toArray, List.set_cons_zero, List.set_cons_succ, i64_w, i32_w]
        rfl
      refine last_ (i := 27) (N := none) #[true, true, true, true, true, true, true, true, true, true, true, true, true, true, true, true, true, true, true, true, true, true, true, true, true, true, true, true, true, true, false, false, true, true, false, false, true, true, false, false, true, true, false, false, true, true, false, false] rfl rfl (by kernel_rfl) (by decide) (fun K hK => ?_)
      refine skip_ (w1 := ?_) (by rfl) rfl ?_ ?_
      rotate_left
      · go_simp
        rfl
      refine hK.out _ _ ?_
      clear hK K
      refine pure_ (i := 30) (N := some 270) (v := ?_) (a' := ?_) #[true, true, true, true, true, true, true, true, true, true, true, true, true, true, true, true, true, true, true, true, true, true, true, true, true, true, true, true, true, true, true, false, true, true, false, false, true, true, false, false, true, true, false, false, true, true, false, false] rfl rfl (by kernel_rfl) (fun _ _ _ h => h) (Or.inl ⟨by rfl, ?_⟩) ?_ ?_
      rotate_left
      · intro w'
        go_simp
        with_reducible rfl
      rotate_left
      · simp only [Act.put, List.setIfInBounds_toArray, List.set_cons_zero, List.set_cons_succ, i64_w, i32_w]
        rfl
      refine last_ (i := 31) (N := none) #[true, true, true, true, true, true, true, true, true, true, true, true, true, true, true, true, true, true, true, true, true, true, true, true, true, true, true, true, true, true, true, true, true, true, false, false, true, true, false, false, true, true, false, false, true, true, false, false] rfl rfl (by kernel_rfl) (by decide) (fun K hK => ?_)
      refine skip_ (w1 := ?_) (by rfl) rfl ?_ ?_
      rotate_left
      · go_simp
        rfl
      refine hK.out _ _ ?_
      clear hK K
      refine pure_ (i := 34) (N := some 273) (v := ?_) (a' := ?_) #[true, true, true, true, true, true, true, true, true, true, true, true, true, true, true, true, true, true, true, true, true, true, true, true, true, true, true, true, true, true, true, true, true, true, true, false, true, true, false, false, true, true, false, false, true, true, false, false] rfl rfl (by kernel_rfl) (fun _ _ _ h => h) (Or.inl ⟨by rfl, ?_⟩) ?_ ?_
      rotate_left
      · intro w'
        go_simp
        with_reducible rfl
      rotate_left
      · simp only [Act.put, List.setIfInBounds_toArray, List.set_cons_zero, List.set_cons_succ, i64_w, i32_w]
        rfl
      refine last_ (i := 35) (N := none) #[true, true, true, true, true, true, true, true, true, true, true, true, true, true, true, true, true, true, true, true, true, true, true, true, true, true, true, true, true, true, true, true, true, true, true, true, true, true, false, false, true, true, false, false, true, true, false, false] rfl rfl (by kernel_rfl) (by decide) (fun K hK => ?_)
      refine skip_ (w1 := ?_) (by rfl) rfl ?_ ?_
      rotate_left
      · go_simp
        rfl
      refine hK.out _ _ ?_
      clear hK K
      refine pure_ (i := 38) (N := some 276) (v := ?_) (a' := ?_) #[true, true, true, true, true, true, true, true, true, true, true, true, true, true, true, true, true, true, true, true, true, true, true, true, true, true, true, true, true, true, true, true, true, true, true, true, true, true, true, false, true, true, false, false, true, true, false, false] rfl rfl (by kernel_rfl) (fun _ _ _ h => h) (Or.inl ⟨by rfl, ?_⟩) ?_ ?_
      rotate_left
      · intro w'
        go_simp
        with_reducible rfl
      rotate_left
      · simp only [Act.put, List.setIfInBounds_toArray, List.set_cons_zero, List.set_cons_succ, i64_w, i32_w]
        rfl
      refine last_ (i := 39) (N := none) #[true, true, true, true, true, true, true, true, true, true, true, true, true, true, true, true, true, true, true, true, true, true, true, true, true, true, true, true, true, true, true, true, true, true, true, true, true, true, true, true, true, true, false, false, true, true, false, false] rfl rfl (by kernel_rfl) (by decide) (fun K hK => ?_)
      refine skip_ (w1 := ?_) (by rfl) rfl ?_ ?_
      rotate_left
      · go_simp
        rfl
      refine hK.out _ _ ?_
      clear hK K
      refine pure_ (i := 42) (N := some 279) (v := ?_) (a' := ?_) #[true, true, true, true, true, true, true, true, true, true, true, true, true, true, true, true, true, true, true, true, true, true, true, true, true, true, true, true, true, true, true, true, true, true, true, true, true, true, true, true, true, true, true, false, true, true, false, false] rfl rfl (by kernel_rfl) (fun _ _ _ h => h) (Or.inl ⟨by rfl, ?_⟩) ?_ ?_
      rotate_left
      · intro w'
        go_simp
        with_reducible rfl
      rotate_left
      · simp only [Act.put, List.setIfInBounds_toArray, List.set_cons_zero, List.set_cons_succ, i64_w, i32_w]
        rfl
      refine last_ (i := 43) (N := none) #[true, true, true, true, true, true, true, true, true, true, true, true, true, true, true, true, true, true, true, true, true, true, true, true, true, true, true, true, true, true, true, true, true, true, true, true, true, true, true, true, true, true, true, true, true, true, false, false] rfl rfl (by kernel_rfl) (by decide) (fun K hK => ?_)
      refine skip_ (w1 := ?_) (by rfl) rfl ?_ ?_
      rotate_left
      · go_simp
        rfl
      refine hK.out _ _ ?_
      clear hK K
      refine pure_ (i := 46) (N := some 282) (v := ?_) (a' := ?_) #[true, true, true, true, true, true, true, true, true, true, true, true, true, true, true, true, true, true, true, true, true, true, true, true, true, true, true, true, true, true, true, true, true, true, true, true, true, true, true, true, true, true, true, true, true, true, true, false] rfl rfl (by kernel_rfl) (fun _ _ _ h => h) (Or.inl ⟨by rfl, ?_⟩) ?_ ?_
      rotate_left
      · intro w'
        go_simp
        with_reducible rfl
      rotate_left
      · simp only [Act.put, List.setIfInBounds_toArray, List.set_cons_zero, List.set_cons_succ, i64_w, i32_w]
        rfl
      refine last_ (i := 47) (N := none) #[true, true, true, true, true, true, true, true, true, true, true, true, true, true, true, true, true, true, true, true, true, true, true, true, true, true, true, true, true, true, true, true, true, true, true, true, true, true, true, true, true, true, true, true, true, true, true, true] rfl rfl (by kernel_rfl) (by decide) (fun K hK => ?_)
      refine skip_ (w1 := ?_) (by rfl) rfl ?_ ?_
      rotate_left
      · go_simp
        rfl
      refine hK.out _ _ ?_
      clear hK K
      refine done_ (by kernel_rfl) ?_
      go_wp2
      first | go_end0 | refine bodyPost_ret (results_none rfl _ _ _) rfl ?_
      exact ⟨⟨_, rfl⟩, blk_drew HEND.out.1, HEND.out.2.drew⟩
end Go.Proofs.Ytkmlpoggbfbnaaa.Sh
