/-
  A digest's sum: checkSum.
  A digest's Sum; SHA-256 of bytes.
  SHA-256 of bytes: Sum256, twice.
  SHA-256 twice.
-/
import Derived.Test.YtkmlpoggbfbnaaaGb
import Derived.Deep.MidRow
namespace Go.Proofs.Ytkmlpoggbfbnaaa.Sh
open Go.RowKit Go.Proofs.YtkmlpoggbfbnaaaW.PrintWords Go.Proofs.YtkmlpoggbfbnaaaW.PrintLast Go.Proofs.Ytkmlpoggbfbnaaa.Reg Go.Proofs.Ytkmlpoggbfbnaaa.Tok
set_option linter.unusedSimpArgs false
set_option linter.unusedVariables false

/-- How many bytes stand ahead of the length. -/
def padT (n : Nat) : Nat := if n % 64 < 56 then 56 - n % 64 else 120 - n % 64
/-- What is written behind a text. -/
def pad (n : Nat) : List Int := (128 :: List.replicate (padT n - 1) 0) ++ be8 ((n : Int) * 8)
theorem padT_pos (n : Nat) : 1 ≤ padT n ∧ padT n ≤ 64 ∧ (n + padT n + 8) % 64 = 0 := by
  unfold padT
  split <;> omega
theorem pad_len (n : Nat) : (pad n).length = padT n + 8 := by
  have := padT_pos n
  simp [pad, be8]
  omega
/-- The eight numbers as bytes. -/
def H8.bytes (s : H8) : List Int := be4 s.a ++ (be4 s.b ++ (be4 s.c ++ (be4 s.d ++ (be4 s.e ++ (be4 s.f ++ (be4 s.g ++ be4 s.h))))))
/-- SHA-256, over a table. -/
def sha (K l : List Int) : List Int := (blks K iv (l ++ pad l.length) ((l ++ pad l.length).length / 64)).bytes
theorem dg_other {b g : Nat} {cs : Array Value} {w w' : World} (h : Dg b cs w) (hne : b ≠ g) (ho : On g w w') : Dg b cs w' := (ho.2.2 b (blk_lt h) hne (by simp)).trans h
/-- The sum's bytes as they are put. -/
def putAt (s : H8) : Nat → Value := over (over (over (over (over (over (over (over (fun j => .int .u8 ((List.replicate 32 0).getD j 0)) 0 (be4 s.a)) 4 (be4 s.b)) 8 (be4 s.c)) 12 (be4 s.d)) 16 (be4 s.e)) 20 (be4 s.f)) 24 (be4 s.g)) 28 (be4 s.h)
theorem putAt_at (s : H8) : ∀ j, j < 32 → putAt s j = .int .u8 (s.bytes.getD j 0) := by
  intro j hj
  match j, hj with
  | 0, _ => rfl
  | 1, _ => rfl
  | 2, _ => rfl
  | 3, _ => rfl
  | 4, _ => rfl
  | 5, _ => rfl
  | 6, _ => rfl
  | 7, _ => rfl
  | 8, _ => rfl
  | 9, _ => rfl
  | 10, _ => rfl
  | 11, _ => rfl
  | 12, _ => rfl
  | 13, _ => rfl
  | 14, _ => rfl
  | 15, _ => rfl
  | 16, _ => rfl
  | 17, _ => rfl
  | 18, _ => rfl
  | 19, _ => rfl
  | 20, _ => rfl
  | 21, _ => rfl
  | 22, _ => rfl
  | 23, _ => rfl
  | 24, _ => rfl
  | 25, _ => rfl
  | 26, _ => rfl
  | 27, _ => rfl
  | 28, _ => rfl
  | 29, _ => rfl
  | 30, _ => rfl
  | 31, _ => rfl
  | n + 32, h => exact absurd h (by omega)
theorem bytes_len (s : H8) : s.bytes.length = 32 := rfl
/-- What is new may be written. -/
theorem On.far {b g : Nat} {w w1 w2 : World} (h : On b w w1) (k : On g w1 w2) (hb : b < w.heap.size) (hg : w.heap.size ≤ g) : On b w w2 :=
  ⟨h.1.trans (k.1.mono (by omega)), Nat.le_trans h.2.1 k.2.1, fun i hi hne hr => (k.2.2 i (Nat.lt_of_lt_of_le hi h.2.1) (by omega) (by simp)).trans (h.2.2 i hi hne hr)⟩
theorem info32 : (Try.prog.info? 29).map (·.size) = some 32 := by kernel_rfl
theorem nums_row (w : World) (xs : List Int) (t : TypeId) : (w.alloc (.cells (nums .u8 xs).toArray t)).rowIs w.heap.size t xs.length (fun j => .int .u8 (xs.getD j 0)) := by
  have := World.rowIs_alloc w (nums .u8 xs).toArray t (fun j => .int .u8 (xs.getD j 0)) (fun i hi => by
    have hi2 : i < xs.length := by simpa [nums_length] using hi
    simp [nums, List.getD_eq_getElem?_getD, hi2])
  simpa [nums_length] using this
/-- A row's first bytes as a slice. -/
theorem row_V {w : World} {g t N m c : Nat} {f : Nat → Value} {xs : List Int} (h : w.rowIs g t N f) (hm : xs.length = m) (hbig : m ≤ 1000000) (hN : m ≤ N) (hc : m ≤ c) (hx : ∀ j, j < m → f j = .int .u8 (xs.getD j 0)) (base : Nat) :
    Kd.V (Kd.int .u8) 5 w base (fun k => k = g) (.slice (some ⟨g, 0, none⟩) m c) xs := by
  subst hm
  refine Kd.V_mk hc ?_
  intro W' hW
  refine Kd.C_of_reads (d := (0 : Int)) (h1 := fun _ => rfl) ⟨rfl, by omega, fun _ => ⟨_, rfl, fun j hj => ?_⟩⟩
  rw [Addr.add_mid, Nat.zero_add]
  have h2 : W'.rowIs g t N f := h.of_block (hW g rfl h.lt)
  rw [h2.cell (by omega), hx j hj]
theorem rep0 (n j : Nat) : (List.replicate n (0 : Int))[j]?.getD 0 = 0 := by
  rw [List.getElem?_replicate]
  split <;> rfl
theorem pad_at {n t : Nat} (ht : padT n = t) (j : Nat) (hj : j < t + 8) : over (fun j => .int .u8 ((128 :: List.replicate 71 0).getD j 0)) t (be8 ((n : Int) * 8)) j = .int .u8 ((pad n).getD j 0) := by
  have htp := padT_pos n
  rw [ht] at htp
  unfold over pad
  rw [ht]
  have hl : (128 :: List.replicate (t - 1) (0 : Int)).length = t := by simp; omega
  have h8 : (be8 ((n : Int) * 8)).length = 8 := rfl
  rw [h8]
  by_cases h : t ≤ j
  · rw [if_pos ⟨h, hj⟩]
    simp only [List.getD_eq_getElem?_getD]
    rw [List.getElem?_append_right (by omega), hl]
  · rw [if_neg (by omega)]
    simp only [List.getD_eq_getElem?_getD]
    rw [List.getElem?_append_left (by omega)]
    cases j with
    | zero => rfl
    | succ j => rw [List.getElem?_cons_succ, List.getElem?_cons_succ, rep0, rep0]
theorem pad_bytes (n : Nat) : Any (pad n) := any _
set_option maxHeartbeats 16000000 in
set_option maxRecDepth 100000 in
theorem check_calls (K : List Int) (b : Nat) (l X : List Int) (w : World) (hK : KT K w) (hS : Sta K l l.length X) (hD : Dg b (cells K l l.length X) w) (hl : l.length ≤ 10000000) :
    Calls Try.prog 88 #[.pointer (some ⟨b, 0, none⟩)] w fun e w' => e = .returned (.agg (nums .u8 (sha K l)).toArray) ∧ On b w w' ∧ ∃ s X n, X.length = 64 ∧ Dg b (dcs s X 0 n) w' := by
  obtain ⟨n, hn⟩ : ∃ n, l.length = n := ⟨_, rfl⟩
  obtain ⟨q, hq⟩ : ∃ q, n % 64 = q := ⟨_, rfl⟩
  obtain ⟨t, ht⟩ : ∃ t, padT n = t := ⟨_, rfl⟩
  have htp := padT_pos n
  rw [ht] at htp
  rw [hn] at hD hS hl
  have e1 : (n : Int) % 64 = (q : Int) := by omega
  obtain ⟨cq, hcq⟩ : ∃ c, decide ((q : Int) < 56) = c := ⟨_, rfl⟩
  have hcq2 : decide (q < 56) = cq := by rw [← hcq, decide_eq_decide]; omega
  have e2 : cq = true → IntKind.u64.wrap (56 - (q : Int)) = (t : Int) := fun h => by
    have h1 := of_decide_eq_true (hcq.trans h)
    rw [IntKind.wrap_u64, ← ht, padT, if_pos (by omega)]; omega
  have e3 : cq = false → IntKind.u64.wrap (120 - (q : Int)) = (t : Int) := fun h => by
    have h1 := of_decide_eq_false (hcq.trans h)
    rw [IntKind.wrap_u64, ← ht, padT, if_neg (by omega)]; omega
  have zn := dg_cell hD 73 (dcs_n _ _ _ _ hS.len)
  have hb := blk_lt hD
  have HE := Lib.hid (And.intro e2 e3)
  have HT := Lib.hid (And.intro ht htp)
  have HN := Lib.hid (And.intro hn hl)
  have HS := Lib.hid hS
  have HD := Lib.hid hD
  have HK := Lib.hid hK
  clear hK hS hD hl hn hq ht htp e2 e3
  go_enter Try.func88, Try.ntmps88
  go_upto_if 15 with fail
  refine wp_world (fun W2 hW => ?_)
  obtain ⟨c1, c2, hW2, hc1, hc2⟩ : ∃ c1 c2 : Array Value, (w.alloc (.cells c1 29)).alloc (.cells c2 144) = W2 ∧ c1 = (nums .u8 (List.replicate 32 0)).toArray ∧ c2 = (nums .u8 (128 :: List.replicate 71 0)).toArray := ⟨_, _, hW, by kernel_rfl, by kernel_rfl⟩
  clear hW
  have HB2 := Lib.hid (show Below w.heap.size w W2 from hW2 ▸ below_alloc (below_alloc (Below.refl _ _) _) _)
  have HR1 := Lib.hid (show W2.rowIs w.heap.size 29 32 (fun j => .int .u8 ((List.replicate 32 0).getD j 0)) from by
    rw [← hW2, hc1]
    exact (nums_row w (List.replicate 32 0) _).alloc _)
  have HR2 := Lib.hid (show W2.rowIs (w.heap.size + 1) 144 72 (fun j => .int .u8 ((128 :: List.replicate 71 0).getD j 0)) from by
    rw [← hW2, hc2]
    have := nums_row (w.alloc (.cells c1 29)) (128 :: List.replicate 71 0) 144
    rwa [show (w.alloc (.cells c1 29)).heap.size = w.heap.size + 1 by simp] at this)
  have HSZ := Lib.hid (show W2.heap.size = w.heap.size + 2 from by rw [← hW2]; simp)
  clear hW2 hc1 hc2
  go_cut [5] (fun v5 wx => v5 = .int .u64 (t : Int) ∧ wx = W2)
  case first =>
    cases cq with
    | true =>
      have h1 := HE.out.1 rfl
      have h2 : (56 - (q : Int)) % 18446744073709551616 = (t : Int) := by rw [← IntKind.wrap_u64]; exact h1
      go_wp2
      go_meet
      case rel => exact ⟨rfl, rfl⟩
    | false =>
      have h1 := HE.out.2 rfl
      have h2 : (120 - (q : Int)) % 18446744073709551616 = (t : Int) := by rw [← IntKind.wrap_u64]; exact h1
      go_wp2
      go_meet
      case rel => exact ⟨rfl, rfl⟩
  case rest =>
    obtain ⟨rfl, rfl⟩ := hcut
    obtain ⟨T, hT⟩ : ∃ T, t = T := ⟨_, rfl⟩
    have ht64 := HT.out
    have hn := HN.out.2
    have s1 : IntKind.u64.wrap ((n : Int) * 8) = (n : Int) * 8 := by rw [IntKind.wrap_u64]; omega
    have s2 : ((n : Int) * 8) % 18446744073709551616 = (n : Int) * 8 := by omega
    have s3 : IntKind.u64.wrap ((t : Int) + 8) = (t : Int) + 8 := by rw [IntKind.wrap_u64]; omega
    have s4 : ((t : Int) + 8) % 18446744073709551616 = (t : Int) + 8 := by omega
    have s5 : IntKind.u64.wrap (t : Int) = (t : Int) := by rw [IntKind.wrap_u64]; omega
    have s6 : (t : Int) % 18446744073709551616 = (t : Int) := by omega
    have p0 := eq_true (show (0 : Int) ≤ (t : Int) + 8 by omega)
    have p1 := eq_true (show (t : Int) + 8 ≤ 72 by omega)
    have p2 := eq_true (show (0 : Int) ≤ (t : Int) by omega)
    have p3 := eq_true (show (t : Int) ≤ (t : Int) + 8 by omega)
    have p4 := eq_false (show ¬ 72 = t by omega)
    have hK2 : KT K wc := HK.out.on HD.out (On.of_below hb HB2.out)
    have hD2 : Dg b (cells K l (n : Int) X) wc := (HB2.out.block b hb).trans HD.out
    have HK2 := Lib.hid hK2
    have HD2 := Lib.hid hD2
    have HP64 := Lib.hid (put64_calls (w.heap.size + 1) 144 72 t 8 (72 - t) ((n : Int) * 8) _ wc HR2.out (by omega) (by omega))
    have HWR := Lib.hid (fun (W3 : World) (h1 : W3.rowIs (w.heap.size + 1) 144 72 (over (fun j => .int .u8 ((128 :: List.replicate 71 0).getD j 0)) t (be8 ((n : Int) * 8)))) (h2 : On (w.heap.size + 1) wc W3) =>
      (show Calls Try.prog 86 #[.pointer (some ⟨b, 0, none⟩), .slice (some ⟨w.heap.size + 1, 0, none⟩) (t + 8) 72] W3 fun e w' => (∃ u, e = .returned u) ∧
        (∃ X', Sta K (l ++ pad n) ((n : Int) + (pad n).length) X' ∧ Dg b (cells K (l ++ pad n) ((n : Int) + (pad n).length) X') w') ∧ On b W3 w' from by
        have hne : b ≠ w.heap.size + 1 := by omega
        have hD3 : Dg b (cells K l (n : Int) X) W3 := (h2.2.2 b (blk_lt HD2.out) hne (by simp)).trans HD2.out
        have hK3 : KT K W3 := HK2.out.of_block (h2.2.2 _ HK2.out.lt (by have := HK.out.lt; omega) (by simp))
        have hpl := pad_len n
        rw [HT.out.1] at hpl
        have hv := row_V (c := 72) h1 hpl (by have := HT.out; omega) (by have := HT.out; omega) (by have := HT.out; omega) (fun j hj => pad_at HT.out.1 j hj) 0
        have := write_calls K b l n X 0 _ (some ⟨w.heap.size + 1, 0, none⟩) 72 (pad n) W3 hK3 HS.out hD3 (by have := HN.out; have := HT.out; rw [hpl]; omega) (by rw [hpl]; exact hv) (fun k hk => by omega) (pad_bytes n) (by rw [hpl]; have := HT.out; omega)
        rw [hpl] at this ⊢
        exact this.mono fun e w' h => ⟨⟨_, h.1⟩, h.2⟩))
    clear ht64 hn hT HE e1 hcq hcq2 hK2 hD2
    go_wp2_with (first
      | (go_at_call 92; go_must ((with_reducible refine HP64.out.mono ?_); rintro e W3 ⟨⟨u3, rfl⟩, h1, h2⟩; have H1 := Aside0.mk h1; have H2 := Aside0.mk h2; clear h1 h2))
      | (go_at_call 86; go_must ((with_reducible refine (HWR.out _ H1.out H2.out).mono ?_); rintro e W4 ⟨⟨u4, rfl⟩, ⟨X4, h3, h4⟩, h5⟩; have H3 := Aside0.mk h3; have H4 := Aside0.mk h4; have H5 := Aside0.mk h5; have hz : ((l ++ pad n).length % 64 : Nat) = 0 := (by rw [List.length_append, pad_len, HN.out.1]; have := padT_pos n; omega); have zx4 := dg_cell h4 72 (dcs_nx _ _ _ _ h3.len); rw [hz] at zx4; clear h3 h4 h5 hz)))
    refine wp_world (fun W5 hW => ?_)
    obtain ⟨c3, hW3, hc3⟩ : ∃ c3 : Array Value, W4.alloc (.cells c3 29) = W5 ∧ c3 = (nums .u8 (List.replicate 32 0)).toArray := ⟨_, hW, by kernel_rfl⟩
    clear hW
    obtain ⟨g, hg⟩ : ∃ g, W4.heap.size = g := ⟨_, rfl⟩
    obtain ⟨s4, hs4⟩ : ∃ s, blks K iv (l ++ pad n) ((l ++ pad n).length / 64) = s := ⟨_, rfl⟩
    have hz : ((l ++ pad n).length % 64 : Nat) = 0 := by rw [List.length_append, pad_len, HN.out.1]; have := padT_pos n; omega
    have hd4 := H4.out
    rw [cells_zero hz, hs4] at hd4
    obtain ⟨N4, hN4⟩ : ∃ N4, (n : Int) + (pad n).length = N4 := ⟨_, rfl⟩
    rw [hN4] at hd4
    have HG := Lib.hid (show b ≠ g ∧ w.heap.size + 1 < g from by
      have h1 := blk_lt hd4
      have h2 := H5.out.1.size
      have h3 := H2.out.1.size
      have h4 := HSZ.out
      exact ⟨by omega, by omega⟩)
    have D0 := Aside0.mk (show Dg b (dcs s4 X4 0 N4) W5 from hW3 ▸ blk_alloc hd4 _)
    have R0 := Aside0.mk (show W5.rowIs g 29 32 (fun j => .int .u8 ((List.replicate 32 0).getD j 0)) from by
      rw [← hW3, hc3, ← hg]
      exact nums_row W4 (List.replicate 32 0) _)
    have HS4 := Lib.hid hs4
    have OA := Aside0.mk (show Below W4.heap.size W4 W5 from hW3 ▸ below_alloc (Below.refl _ _) _)
    have HXL := Lib.hid H3.out.len
    have O0 := Aside0.mk (On.refl g W5)
    have z0 : W5.cell? ⟨b, 0, none⟩ = some (.int .u32 s4.a) := dg_cell D0.out 0 rfl
    have zb0 := dg_cell D0.out 74 (dcs_b _ _ _ _ HXL.out)
    rw [hg]
    clear hW3 hc3 hd4 hz hs4 hN4 zx4 H3 H4
    have hgg := hg
    refine start_ (n := 7) (S := fun w' => w'.cell? ⟨b, 0, none⟩ = some (.int .u32 s4.a)) (ds := []) #[false, false, false, false, false, false, false] (by kernel_rfl) rfl rfl (z0) (fun hHeld => ?_)
    refine pure_ (i := 0) (N := some 42) (v := ?_) (a' := ?_) #[true, false, false, false, false, false, false] rfl rfl (by kernel_rfl) (fun _ _ _ h => h) (Or.inl ⟨by rfl, ?_⟩) ?_ ?_
    rotate_left
    · intro w'
      go_simp
      with_reducible rfl
    rotate_left
    · simp only [Act.put, List.setIfInBounds_toArray, List.set_cons_zero, List.set_cons_succ, i64_w, i32_w]
      rfl
    refine pure_ (i := 1) (N := some 43) (v := ?_) (a' := ?_) #[true, true, false, false, false, false, false] rfl rfl (by kernel_rfl) (fun _ _ _ h => h) (Or.inl ⟨by rfl, ?_⟩) ?_ ?_
    rotate_left
    · intro w'
      go_simp
      with_reducible rfl
    rotate_left
    · simp only [Act.put, List.setIfInBounds_toArray, List.set_cons_zero, List.set_cons_succ, i64_w, i32_w]
      rfl
    refine pure_ (i := 2) (N := some 44) (v := ?_) (a' := ?_) #[true, true, true, false, false, false, false] rfl rfl (by kernel_rfl) (fun _ _ _ h => h) (Or.inl ⟨by rfl, ?_⟩) ?_ ?_
    rotate_left
    · intro w'
      go_simp
      with_reducible rfl
    rotate_left
    · simp only [Act.put, List.setIfInBounds_toArray, List.set_cons_zero, List.set_cons_succ, i64_w, i32_w]
      rfl
    refine pure_ (i := 3) (N := some 45) (v := ?_) (a' := ?_) #[true, true, true, true, false, false, false] rfl rfl (by kernel_rfl) (fun _ _ _ h => h) (Or.inl ⟨by rfl, ?_⟩) ?_ ?_
    rotate_left
    · intro w'
      go_simp
      with_reducible rfl
    rotate_left
    · simp only [Act.put, List.setIfInBounds_toArray, List.set_cons_zero, List.set_cons_succ, i64_w, i32_w]
      rfl
    refine pure_ (i := 4) (N := some 46) (v := ?_) (a' := ?_) #[true, true, true, true, true, false, false] rfl rfl (by kernel_rfl) (fun _ _ _ h => h) (Or.inl ⟨by rfl, ?_⟩) ?_ ?_
    rotate_left
    · intro w'
      go_simp
      with_reducible rfl
    rotate_left
    · simp only [Act.put, List.setIfInBounds_toArray, List.set_cons_zero, List.set_cons_succ, i64_w, i32_w]
      rfl
    refine take_ (i := 5) (N := some 47) (v := ?_) (a' := ?_) #[true, true, true, true, true, true, false] rfl rfl (by kernel_rfl) (fun _ _ _ h => h) (Or.inl ⟨by rfl, ?_⟩) hHeld ?_ ?_
    rotate_left
    · intro w' s0
      go_simp
      with_reducible rfl
    rotate_left
    · simp only [Act.put, List.setIfInBounds_toArray, List.set_cons_zero, List.set_cons_succ, i64_w, i32_w]
      rfl
    refine one_ (i := 6) (N := some 48) #[true, true, true, true, true, true, true] rfl rfl (by kernel_rfl) (by decide) (fun K hK => ?_)
    refine goes_ Try.func93 (by kernel_rfl) rfl #[.slice (some ⟨g, 0, none⟩) 32 32, .int .u32 s4.a] (by rfl) rfl rfl (by simp only [List.map_toArray, List.map_cons, List.map_nil]; rfl) ?_
    with_reducible refine (put32_calls g 29 32 0 32 32 s4.a _ _ (World.rowIs.drew R0.out) (by decide) (by decide)).mono ?_
    rintro e Y1 ⟨⟨v0, rfl⟩, h1, h2⟩
    refine ⟨_, rfl, ?_⟩
    have R1 := Aside0.mk h1; have O1 := Aside0.mk ((O0.out.drew).trans h2); have D1 := Aside0.mk (dg_other (blk_drew D0.out) HG.out.1 h2); have z1 : Y1.cell? ⟨b, 1, none⟩ = some (.int .u32 s4.b) := dg_cell D1.out 1 rfl; have zc1 : Y1.cell? ⟨b, 0, none⟩ = some (.int .u32 s4.a) := dg_cell D1.out 0 rfl; have zb1 := dg_cell D1.out 74 (dcs_b _ _ _ _ HXL.out); clear h1 h2
    refine hK.out _ _ (zc1) (fun hHeld => ?_)
    clear hK K
    refine norm_ (a' := ?_) ?_ ?_
    rotate_left
    · show Act.put _ (some 48) _ = _
      simp only [Act.put, List.setIfInBounds_toArray, List.set_cons_zero, List.set_cons_succ, i64_w, i32_w]
      rfl
    refine done_ (by kernel_rfl) ?_
    go_wp2
    refine start_ (n := 7) (S := fun w' => w'.cell? ⟨b, 1, none⟩ = some (.int .u32 s4.b)) (ds := []) #[false, false, false, false, false, false, false] (by kernel_rfl) rfl rfl (z1) (fun hHeld => ?_)
    refine pure_ (i := 0) (N := some 49) (v := ?_) (a' := ?_) #[true, false, false, false, false, false, false] rfl rfl (by kernel_rfl) (fun _ _ _ h => h) (Or.inl ⟨by rfl, ?_⟩) ?_ ?_
    rotate_left
    · intro w'
      go_simp
      with_reducible rfl
    rotate_left
    · simp only [Act.put, List.setIfInBounds_toArray, List.set_cons_zero, List.set_cons_succ, i64_w, i32_w]
      rfl
    refine pure_ (i := 1) (N := some 50) (v := ?_) (a' := ?_) #[true, true, false, false, false, false, false] rfl rfl (by kernel_rfl) (fun _ _ _ h => h) (Or.inl ⟨by rfl, ?_⟩) ?_ ?_
    rotate_left
    · intro w'
      go_simp
      with_reducible rfl
    rotate_left
    · simp only [Act.put, List.setIfInBounds_toArray, List.set_cons_zero, List.set_cons_succ, i64_w, i32_w]
      rfl
    refine pure_ (i := 2) (N := some 51) (v := ?_) (a' := ?_) #[true, true, true, false, false, false, false] rfl rfl (by kernel_rfl) (fun _ _ _ h => h) (Or.inl ⟨by rfl, ?_⟩) ?_ ?_
    rotate_left
    · intro w'
      go_simp
      with_reducible rfl
    rotate_left
    · simp only [Act.put, List.setIfInBounds_toArray, List.set_cons_zero, List.set_cons_succ, i64_w, i32_w]
      rfl
    refine pure_ (i := 3) (N := some 52) (v := ?_) (a' := ?_) #[true, true, true, true, false, false, false] rfl rfl (by kernel_rfl) (fun _ _ _ h => h) (Or.inl ⟨by rfl, ?_⟩) ?_ ?_
    rotate_left
    · intro w'
      go_simp
      with_reducible rfl
    rotate_left
    · simp only [Act.put, List.setIfInBounds_toArray, List.set_cons_zero, List.set_cons_succ, i64_w, i32_w]
      rfl
    refine pure_ (i := 4) (N := some 53) (v := ?_) (a' := ?_) #[true, true, true, true, true, false, false] rfl rfl (by kernel_rfl) (fun _ _ _ h => h) (Or.inl ⟨by rfl, ?_⟩) ?_ ?_
    rotate_left
    · intro w'
      go_simp
      with_reducible rfl
    rotate_left
    · simp only [Act.put, List.setIfInBounds_toArray, List.set_cons_zero, List.set_cons_succ, i64_w, i32_w]
      rfl
    refine take_ (i := 5) (N := some 54) (v := ?_) (a' := ?_) #[true, true, true, true, true, true, false] rfl rfl (by kernel_rfl) (fun _ _ _ h => h) (Or.inl ⟨by rfl, ?_⟩) hHeld ?_ ?_
    rotate_left
    · intro w' s0
      go_simp
      with_reducible rfl
    rotate_left
    · simp only [Act.put, List.setIfInBounds_toArray, List.set_cons_zero, List.set_cons_succ, i64_w, i32_w]
      rfl
    refine one_ (i := 6) (N := some 55) #[true, true, true, true, true, true, true] rfl rfl (by kernel_rfl) (by decide) (fun K hK => ?_)
    refine goes_ Try.func93 (by kernel_rfl) rfl #[.slice (some ⟨g, 4, none⟩) 28 28, .int .u32 s4.b] (by rfl) rfl rfl (by simp only [List.map_toArray, List.map_cons, List.map_nil]; rfl) ?_
    with_reducible refine (put32_calls g 29 32 4 28 28 s4.b _ _ (World.rowIs.drew R1.out) (by decide) (by decide)).mono ?_
    rintro e Y2 ⟨⟨v1, rfl⟩, h1, h2⟩
    refine ⟨_, rfl, ?_⟩
    have R2 := Aside0.mk h1; have O2 := Aside0.mk ((O1.out.drew).trans h2); have D2 := Aside0.mk (dg_other (blk_drew D1.out) HG.out.1 h2); have z2 : Y2.cell? ⟨b, 2, none⟩ = some (.int .u32 s4.c) := dg_cell D2.out 2 rfl; have zc2 : Y2.cell? ⟨b, 1, none⟩ = some (.int .u32 s4.b) := dg_cell D2.out 1 rfl; have zb2 := dg_cell D2.out 74 (dcs_b _ _ _ _ HXL.out); clear h1 h2
    refine hK.out _ _ (zc2) (fun hHeld => ?_)
    clear hK K
    refine norm_ (a' := ?_) ?_ ?_
    rotate_left
    · show Act.put _ (some 55) _ = _
      simp only [Act.put, List.setIfInBounds_toArray, List.set_cons_zero, List.set_cons_succ, i64_w, i32_w]
      rfl
    refine done_ (by kernel_rfl) ?_
    go_wp2
    refine start_ (n := 7) (S := fun w' => w'.cell? ⟨b, 2, none⟩ = some (.int .u32 s4.c)) (ds := []) #[false, false, false, false, false, false, false] (by kernel_rfl) rfl rfl (z2) (fun hHeld => ?_)
    refine pure_ (i := 0) (N := some 56) (v := ?_) (a' := ?_) #[true, false, false, false, false, false, false] rfl rfl (by kernel_rfl) (fun _ _ _ h => h) (Or.inl ⟨by rfl, ?_⟩) ?_ ?_
    rotate_left
    · intro w'
      go_simp
      with_reducible rfl
    rotate_left
    · simp only [Act.put, List.setIfInBounds_toArray, List.set_cons_zero, List.set_cons_succ, i64_w, i32_w]
      rfl
    refine pure_ (i := 1) (N := some 57) (v := ?_) (a' := ?_) #[true, true, false, false, false, false, false] rfl rfl (by kernel_rfl) (fun _ _ _ h => h) (Or.inl ⟨by rfl, ?_⟩) ?_ ?_
    rotate_left
    · intro w'
      go_simp
      with_reducible rfl
    rotate_left
    · simp only [Act.put, List.setIfInBounds_toArray, List.set_cons_zero, List.set_cons_succ, i64_w, i32_w]
      rfl
    refine pure_ (i := 2) (N := some 58) (v := ?_) (a' := ?_) #[true, true, true, false, false, false, false] rfl rfl (by kernel_rfl) (fun _ _ _ h => h) (Or.inl ⟨by rfl, ?_⟩) ?_ ?_
    rotate_left
    · intro w'
      go_simp
      with_reducible rfl
    rotate_left
    · simp only [Act.put, List.setIfInBounds_toArray, List.set_cons_zero, List.set_cons_succ, i64_w, i32_w]
      rfl
    refine pure_ (i := 3) (N := some 59) (v := ?_) (a' := ?_) #[true, true, true, true, false, false, false] rfl rfl (by kernel_rfl) (fun _ _ _ h => h) (Or.inl ⟨by rfl, ?_⟩) ?_ ?_
    rotate_left
    · intro w'
      go_simp
      with_reducible rfl
    rotate_left
    · simp only [Act.put, List.setIfInBounds_toArray, List.set_cons_zero, List.set_cons_succ, i64_w, i32_w]
      rfl
    refine pure_ (i := 4) (N := some 60) (v := ?_) (a' := ?_) #[true, true, true, true, true, false, false] rfl rfl (by kernel_rfl) (fun _ _ _ h => h) (Or.inl ⟨by rfl, ?_⟩) ?_ ?_
    rotate_left
    · intro w'
      go_simp
      with_reducible rfl
    rotate_left
    · simp only [Act.put, List.setIfInBounds_toArray, List.set_cons_zero, List.set_cons_succ, i64_w, i32_w]
      rfl
    refine take_ (i := 5) (N := some 61) (v := ?_) (a' := ?_) #[true, true, true, true, true, true, false] rfl rfl (by kernel_rfl) (fun _ _ _ h => h) (Or.inl ⟨by rfl, ?_⟩) hHeld ?_ ?_
    rotate_left
    · intro w' s0
      go_simp
      with_reducible rfl
    rotate_left
    · simp only [Act.put, List.setIfInBounds_toArray, List.set_cons_zero, List.set_cons_succ, i64_w, i32_w]
      rfl
    refine one_ (i := 6) (N := some 62) #[true, true, true, true, true, true, true] rfl rfl (by kernel_rfl) (by decide) (fun K hK => ?_)
    refine goes_ Try.func93 (by kernel_rfl) rfl #[.slice (some ⟨g, 8, none⟩) 24 24, .int .u32 s4.c] (by rfl) rfl rfl (by simp only [List.map_toArray, List.map_cons, List.map_nil]; rfl) ?_
    with_reducible refine (put32_calls g 29 32 8 24 24 s4.c _ _ (World.rowIs.drew R2.out) (by decide) (by decide)).mono ?_
    rintro e Y3 ⟨⟨v2, rfl⟩, h1, h2⟩
    refine ⟨_, rfl, ?_⟩
    have R3 := Aside0.mk h1; have O3 := Aside0.mk ((O2.out.drew).trans h2); have D3 := Aside0.mk (dg_other (blk_drew D2.out) HG.out.1 h2); have z3 : Y3.cell? ⟨b, 3, none⟩ = some (.int .u32 s4.d) := dg_cell D3.out 3 rfl; have zc3 : Y3.cell? ⟨b, 2, none⟩ = some (.int .u32 s4.c) := dg_cell D3.out 2 rfl; have zb3 := dg_cell D3.out 74 (dcs_b _ _ _ _ HXL.out); clear h1 h2
    refine hK.out _ _ (zc3) (fun hHeld => ?_)
    clear hK K
    refine norm_ (a' := ?_) ?_ ?_
    rotate_left
    · show Act.put _ (some 62) _ = _
      simp only [Act.put, List.setIfInBounds_toArray, List.set_cons_zero, List.set_cons_succ, i64_w, i32_w]
      rfl
    refine done_ (by kernel_rfl) ?_
    go_wp2
    refine start_ (n := 7) (S := fun w' => w'.cell? ⟨b, 3, none⟩ = some (.int .u32 s4.d)) (ds := []) #[false, false, false, false, false, false, false] (by kernel_rfl) rfl rfl (z3) (fun hHeld => ?_)
    refine pure_ (i := 0) (N := some 63) (v := ?_) (a' := ?_) #[true, false, false, false, false, false, false] rfl rfl (by kernel_rfl) (fun _ _ _ h => h) (Or.inl ⟨by rfl, ?_⟩) ?_ ?_
    rotate_left
    · intro w'
      go_simp
      with_reducible rfl
    rotate_left
    · simp only [Act.put, List.setIfInBounds_toArray, List.set_cons_zero, List.set_cons_succ, i64_w, i32_w]
      rfl
    refine pure_ (i := 1) (N := some 64) (v := ?_) (a' := ?_) #[true, true, false, false, false, false, false] rfl rfl (by kernel_rfl) (fun _ _ _ h => h) (Or.inl ⟨by rfl, ?_⟩) ?_ ?_
    rotate_left
    · intro w'
      go_simp
      with_reducible rfl
    rotate_left
    · simp only [Act.put, List.setIfInBounds_toArray, List.set_cons_zero, List.set_cons_succ, i64_w, i32_w]
      rfl
    refine pure_ (i := 2) (N := some 65) (v := ?_) (a' := ?_) #[true, true, true, false, false, false, false] rfl rfl (by kernel_rfl) (fun _ _ _ h => h) (Or.inl ⟨by rfl, ?_⟩) ?_ ?_
    rotate_left
    · intro w'
      go_simp
      with_reducible rfl
    rotate_left
    · simp only [Act.put, List.setIfInBounds_toArray, List.set_cons_zero, List.set_cons_succ, i64_w, i32_w]
      rfl
    refine pure_ (i := 3) (N := some 66) (v := ?_) (a' := ?_) #[true, true, true, true, false, false, false] rfl rfl (by kernel_rfl) (fun _ _ _ h => h) (Or.inl ⟨by rfl, ?_⟩) ?_ ?_
    rotate_left
    · intro w'
      go_simp
      with_reducible rfl
    rotate_left
    · simp only [Act.put, List.setIfInBounds_toArray, List.set_cons_zero, List.set_cons_succ, i64_w, i32_w]
      rfl
    refine pure_ (i := 4) (N := some 67) (v := ?_) (a' := ?_) #[true, true, true, true, true, false, false] rfl rfl (by kernel_rfl) (fun _ _ _ h => h) (Or.inl ⟨by rfl, ?_⟩) ?_ ?_
    rotate_left
    · intro w'
      go_simp
      with_reducible rfl
    rotate_left
    · simp only [Act.put, List.setIfInBounds_toArray, List.set_cons_zero, List.set_cons_succ, i64_w, i32_w]
      rfl
    refine take_ (i := 5) (N := some 68) (v := ?_) (a' := ?_) #[true, true, true, true, true, true, false] rfl rfl (by kernel_rfl) (fun _ _ _ h => h) (Or.inl ⟨by rfl, ?_⟩) hHeld ?_ ?_
    rotate_left
    · intro w' s0
      go_simp
      with_reducible rfl
    rotate_left
    · simp only [Act.put, List.setIfInBounds_toArray, List.set_cons_zero, List.set_cons_succ, i64_w, i32_w]
      rfl
    refine one_ (i := 6) (N := some 69) #[true, true, true, true, true, true, true] rfl rfl (by kernel_rfl) (by decide) (fun K hK => ?_)
    refine goes_ Try.func93 (by kernel_rfl) rfl #[.slice (some ⟨g, 12, none⟩) 20 20, .int .u32 s4.d] (by rfl) rfl rfl (by simp only [List.map_toArray, List.map_cons, List.map_nil]; rfl) ?_
    with_reducible refine (put32_calls g 29 32 12 20 20 s4.d _ _ (World.rowIs.drew R3.out) (by decide) (by decide)).mono ?_
    rintro e Y4 ⟨⟨v3, rfl⟩, h1, h2⟩
    refine ⟨_, rfl, ?_⟩
    have R4 := Aside0.mk h1; have O4 := Aside0.mk ((O3.out.drew).trans h2); have D4 := Aside0.mk (dg_other (blk_drew D3.out) HG.out.1 h2); have z4 : Y4.cell? ⟨b, 4, none⟩ = some (.int .u32 s4.e) := dg_cell D4.out 4 rfl; have zc4 : Y4.cell? ⟨b, 3, none⟩ = some (.int .u32 s4.d) := dg_cell D4.out 3 rfl; have zb4 := dg_cell D4.out 74 (dcs_b _ _ _ _ HXL.out); clear h1 h2
    refine hK.out _ _ (zc4) (fun hHeld => ?_)
    clear hK K
    refine norm_ (a' := ?_) ?_ ?_
    rotate_left
    · show Act.put _ (some 69) _ = _
      simp only [Act.put, List.setIfInBounds_toArray, List.set_cons_zero, List.set_cons_succ, i64_w, i32_w]
      rfl
    refine done_ (by kernel_rfl) ?_
    go_wp2
    refine start_ (n := 7) (S := fun w' => w'.cell? ⟨b, 4, none⟩ = some (.int .u32 s4.e)) (ds := []) #[false, false, false, false, false, false, false] (by kernel_rfl) rfl rfl (z4) (fun hHeld => ?_)
    refine pure_ (i := 0) (N := some 70) (v := ?_) (a' := ?_) #[true, false, false, false, false, false, false] rfl rfl (by kernel_rfl) (fun _ _ _ h => h) (Or.inl ⟨by rfl, ?_⟩) ?_ ?_
    rotate_left
    · intro w'
      go_simp
      with_reducible rfl
    rotate_left
    · simp only [Act.put, List.setIfInBounds_toArray, List.set_cons_zero, List.set_cons_succ, i64_w, i32_w]
      rfl
    refine pure_ (i := 1) (N := some 71) (v := ?_) (a' := ?_) #[true, true, false, false, false, false, false] rfl rfl (by kernel_rfl) (fun _ _ _ h => h) (Or.inl ⟨by rfl, ?_⟩) ?_ ?_
    rotate_left
    · intro w'
      go_simp
      with_reducible rfl
    rotate_left
    · simp only [Act.put, List.setIfInBounds_toArray, List.set_cons_zero, List.set_cons_succ, i64_w, i32_w]
      rfl
    refine pure_ (i := 2) (N := some 72) (v := ?_) (a' := ?_) #[true, true, true, false, false, false, false] rfl rfl (by kernel_rfl) (fun _ _ _ h => h) (Or.inl ⟨by rfl, ?_⟩) ?_ ?_
    rotate_left
    · intro w'
      go_simp
      with_reducible rfl
    rotate_left
    · simp only [Act.put, List.setIfInBounds_toArray, List.set_cons_zero, List.set_cons_succ, i64_w, i32_w]
      rfl
    refine pure_ (i := 3) (N := some 73) (v := ?_) (a' := ?_) #[true, true, true, true, false, false, false] rfl rfl (by kernel_rfl) (fun _ _ _ h => h) (Or.inl ⟨by rfl, ?_⟩) ?_ ?_
    rotate_left
    · intro w'
      go_simp
      with_reducible rfl
    rotate_left
    · simp only [Act.put, List.setIfInBounds_toArray, List.set_cons_zero, List.set_cons_succ, i64_w, i32_w]
      rfl
    refine pure_ (i := 4) (N := some 74) (v := ?_) (a' := ?_) #[true, true, true, true, true, false, false] rfl rfl (by kernel_rfl) (fun _ _ _ h => h) (Or.inl ⟨by rfl, ?_⟩) ?_ ?_
    rotate_left
    · intro w'
      go_simp
      with_reducible rfl
    rotate_left
    · simp only [Act.put, List.setIfInBounds_toArray, List.set_cons_zero, List.set_cons_succ, i64_w, i32_w]
      rfl
    refine take_ (i := 5) (N := some 75) (v := ?_) (a' := ?_) #[true, true, true, true, true, true, false] rfl rfl (by kernel_rfl) (fun _ _ _ h => h) (Or.inl ⟨by rfl, ?_⟩) hHeld ?_ ?_
    rotate_left
    · intro w' s0
      go_simp
      with_reducible rfl
    rotate_left
    · simp only [Act.put, List.setIfInBounds_toArray, List.set_cons_zero, List.set_cons_succ, i64_w, i32_w]
      rfl
    refine one_ (i := 6) (N := some 76) #[true, true, true, true, true, true, true] rfl rfl (by kernel_rfl) (by decide) (fun K hK => ?_)
    refine goes_ Try.func93 (by kernel_rfl) rfl #[.slice (some ⟨g, 16, none⟩) 16 16, .int .u32 s4.e] (by rfl) rfl rfl (by simp only [List.map_toArray, List.map_cons, List.map_nil]; rfl) ?_
    with_reducible refine (put32_calls g 29 32 16 16 16 s4.e _ _ (World.rowIs.drew R4.out) (by decide) (by decide)).mono ?_
    rintro e Y5 ⟨⟨v4, rfl⟩, h1, h2⟩
    refine ⟨_, rfl, ?_⟩
    have R5 := Aside0.mk h1; have O5 := Aside0.mk ((O4.out.drew).trans h2); have D5 := Aside0.mk (dg_other (blk_drew D4.out) HG.out.1 h2); have z5 : Y5.cell? ⟨b, 5, none⟩ = some (.int .u32 s4.f) := dg_cell D5.out 5 rfl; have zc5 : Y5.cell? ⟨b, 4, none⟩ = some (.int .u32 s4.e) := dg_cell D5.out 4 rfl; have zb5 := dg_cell D5.out 74 (dcs_b _ _ _ _ HXL.out); clear h1 h2
    refine hK.out _ _ (zc5) (fun hHeld => ?_)
    clear hK K
    refine norm_ (a' := ?_) ?_ ?_
    rotate_left
    · show Act.put _ (some 76) _ = _
      simp only [Act.put, List.setIfInBounds_toArray, List.set_cons_zero, List.set_cons_succ, i64_w, i32_w]
      rfl
    refine done_ (by kernel_rfl) ?_
    go_wp2
    refine start_ (n := 7) (S := fun w' => w'.cell? ⟨b, 5, none⟩ = some (.int .u32 s4.f)) (ds := []) #[false, false, false, false, false, false, false] (by kernel_rfl) rfl rfl (z5) (fun hHeld => ?_)
    refine pure_ (i := 0) (N := some 77) (v := ?_) (a' := ?_) #[true, false, false, false, false, false, false] rfl rfl (by kernel_rfl) (fun _ _ _ h => h) (Or.inl ⟨by rfl, ?_⟩) ?_ ?_
    rotate_left
    · intro w'
      go_simp
      with_reducible rfl
    rotate_left
    · simp only [Act.put, List.setIfInBounds_toArray, List.set_cons_zero, List.set_cons_succ, i64_w, i32_w]
      rfl
    refine pure_ (i := 1) (N := some 78) (v := ?_) (a' := ?_) #[true, true, false, false, false, false, false] rfl rfl (by kernel_rfl) (fun _ _ _ h => h) (Or.inl ⟨by rfl, ?_⟩) ?_ ?_
    rotate_left
    · intro w'
      go_simp
      with_reducible rfl
    rotate_left
    · simp only [Act.put, List.setIfInBounds_toArray, List.set_cons_zero, List.set_cons_succ, i64_w, i32_w]
      rfl
    refine pure_ (i := 2) (N := some 79) (v := ?_) (a' := ?_) #[true, true, true, false, false, false, false] rfl rfl (by kernel_rfl) (fun _ _ _ h => h) (Or.inl ⟨by rfl, ?_⟩) ?_ ?_
    rotate_left
    · intro w'
      go_simp
      with_reducible rfl
    rotate_left
    · simp only [Act.put, List.setIfInBounds_toArray, List.set_cons_zero, List.set_cons_succ, i64_w, i32_w]
      rfl
    refine pure_ (i := 3) (N := some 80) (v := ?_) (a' := ?_) #[true, true, true, true, false, false, false] rfl rfl (by kernel_rfl) (fun _ _ _ h => h) (Or.inl ⟨by rfl, ?_⟩) ?_ ?_
    rotate_left
    · intro w'
      go_simp
      with_reducible rfl
    rotate_left
    · simp only [Act.put, List.setIfInBounds_toArray, List.set_cons_zero, List.set_cons_succ, i64_w, i32_w]
      rfl
    refine pure_ (i := 4) (N := some 81) (v := ?_) (a' := ?_) #[true, true, true, true, true, false, false] rfl rfl (by kernel_rfl) (fun _ _ _ h => h) (Or.inl ⟨by rfl, ?_⟩) ?_ ?_
    rotate_left
    · intro w'
      go_simp
      with_reducible rfl
    rotate_left
    · simp only [Act.put, List.setIfInBounds_toArray, List.set_cons_zero, List.set_cons_succ, i64_w, i32_w]
      rfl
    refine take_ (i := 5) (N := some 82) (v := ?_) (a' := ?_) #[true, true, true, true, true, true, false] rfl rfl (by kernel_rfl) (fun _ _ _ h => h) (Or.inl ⟨by rfl, ?_⟩) hHeld ?_ ?_
    rotate_left
    · intro w' s0
      go_simp
      with_reducible rfl
    rotate_left
    · simp only [Act.put, List.setIfInBounds_toArray, List.set_cons_zero, List.set_cons_succ, i64_w, i32_w]
      rfl
    refine one_ (i := 6) (N := some 83) #[true, true, true, true, true, true, true] rfl rfl (by kernel_rfl) (by decide) (fun K hK => ?_)
    refine goes_ Try.func93 (by kernel_rfl) rfl #[.slice (some ⟨g, 20, none⟩) 12 12, .int .u32 s4.f] (by rfl) rfl rfl (by simp only [List.map_toArray, List.map_cons, List.map_nil]; rfl) ?_
    with_reducible refine (put32_calls g 29 32 20 12 12 s4.f _ _ (World.rowIs.drew R5.out) (by decide) (by decide)).mono ?_
    rintro e Y6 ⟨⟨v5, rfl⟩, h1, h2⟩
    refine ⟨_, rfl, ?_⟩
    have R6 := Aside0.mk h1; have O6 := Aside0.mk ((O5.out.drew).trans h2); have D6 := Aside0.mk (dg_other (blk_drew D5.out) HG.out.1 h2); have z6 : Y6.cell? ⟨b, 6, none⟩ = some (.int .u32 s4.g) := dg_cell D6.out 6 rfl; have zc6 : Y6.cell? ⟨b, 5, none⟩ = some (.int .u32 s4.f) := dg_cell D6.out 5 rfl; have zb6 := dg_cell D6.out 74 (dcs_b _ _ _ _ HXL.out); clear h1 h2
    refine hK.out _ _ (zc6) (fun hHeld => ?_)
    clear hK K
    refine norm_ (a' := ?_) ?_ ?_
    rotate_left
    · show Act.put _ (some 83) _ = _
      simp only [Act.put, List.setIfInBounds_toArray, List.set_cons_zero, List.set_cons_succ, i64_w, i32_w]
      rfl
    refine done_ (by kernel_rfl) ?_
    go_wp2
    refine start_ (n := 7) (S := fun w' => w'.cell? ⟨b, 6, none⟩ = some (.int .u32 s4.g)) (ds := []) #[false, false, false, false, false, false, false] (by kernel_rfl) rfl rfl (z6) (fun hHeld => ?_)
    refine pure_ (i := 0) (N := some 84) (v := ?_) (a' := ?_) #[true, false, false, false, false, false, false] rfl rfl (by kernel_rfl) (fun _ _ _ h => h) (Or.inl ⟨by rfl, ?_⟩) ?_ ?_
    rotate_left
    · intro w'
      go_simp
      with_reducible rfl
    rotate_left
    · simp only [Act.put, List.setIfInBounds_toArray, List.set_cons_zero, List.set_cons_succ, i64_w, i32_w]
      rfl
    refine pure_ (i := 1) (N := some 85) (v := ?_) (a' := ?_) #[true, true, false, false, false, false, false] rfl rfl (by kernel_rfl) (fun _ _ _ h => h) (Or.inl ⟨by rfl, ?_⟩) ?_ ?_
    rotate_left
    · intro w'
      go_simp
      with_reducible rfl
    rotate_left
    · simp only [Act.put, List.setIfInBounds_toArray, List.set_cons_zero, List.set_cons_succ, i64_w, i32_w]
      rfl
    refine pure_ (i := 2) (N := some 86) (v := ?_) (a' := ?_) #[true, true, true, false, false, false, false] rfl rfl (by kernel_rfl) (fun _ _ _ h => h) (Or.inl ⟨by rfl, ?_⟩) ?_ ?_
    rotate_left
    · intro w'
      go_simp
      with_reducible rfl
    rotate_left
    · simp only [Act.put, List.setIfInBounds_toArray, List.set_cons_zero, List.set_cons_succ, i64_w, i32_w]
      rfl
    refine pure_ (i := 3) (N := some 87) (v := ?_) (a' := ?_) #[true, true, true, true, false, false, false] rfl rfl (by kernel_rfl) (fun _ _ _ h => h) (Or.inl ⟨by rfl, ?_⟩) ?_ ?_
    rotate_left
    · intro w'
      go_simp
      with_reducible rfl
    rotate_left
    · simp only [Act.put, List.setIfInBounds_toArray, List.set_cons_zero, List.set_cons_succ, i64_w, i32_w]
      rfl
    refine pure_ (i := 4) (N := some 88) (v := ?_) (a' := ?_) #[true, true, true, true, true, false, false] rfl rfl (by kernel_rfl) (fun _ _ _ h => h) (Or.inl ⟨by rfl, ?_⟩) ?_ ?_
    rotate_left
    · intro w'
      go_simp
      with_reducible rfl
    rotate_left
    · simp only [Act.put, List.setIfInBounds_toArray, List.set_cons_zero, List.set_cons_succ, i64_w, i32_w]
      rfl
    refine take_ (i := 5) (N := some 89) (v := ?_) (a' := ?_) #[true, true, true, true, true, true, false] rfl rfl (by kernel_rfl) (fun _ _ _ h => h) (Or.inl ⟨by rfl, ?_⟩) hHeld ?_ ?_
    rotate_left
    · intro w' s0
      go_simp
      with_reducible rfl
    rotate_left
    · simp only [Act.put, List.setIfInBounds_toArray, List.set_cons_zero, List.set_cons_succ, i64_w, i32_w]
      rfl
    refine one_ (i := 6) (N := some 90) #[true, true, true, true, true, true, true] rfl rfl (by kernel_rfl) (by decide) (fun K hK => ?_)
    refine goes_ Try.func93 (by kernel_rfl) rfl #[.slice (some ⟨g, 24, none⟩) 8 8, .int .u32 s4.g] (by rfl) rfl rfl (by simp only [List.map_toArray, List.map_cons, List.map_nil]; rfl) ?_
    with_reducible refine (put32_calls g 29 32 24 8 8 s4.g _ _ (World.rowIs.drew R6.out) (by decide) (by decide)).mono ?_
    rintro e Y7 ⟨⟨v6, rfl⟩, h1, h2⟩
    refine ⟨_, rfl, ?_⟩
    have R7 := Aside0.mk h1; have O7 := Aside0.mk ((O6.out.drew).trans h2); have D7 := Aside0.mk (dg_other (blk_drew D6.out) HG.out.1 h2); have z7 : Y7.cell? ⟨b, 7, none⟩ = some (.int .u32 s4.h) := dg_cell D7.out 7 rfl; have zc7 : Y7.cell? ⟨b, 6, none⟩ = some (.int .u32 s4.g) := dg_cell D7.out 6 rfl; have zb7 := dg_cell D7.out 74 (dcs_b _ _ _ _ HXL.out); clear h1 h2
    refine hK.out _ _ (zc7) (fun hHeld => ?_)
    clear hK K
    refine norm_ (a' := ?_) ?_ ?_
    rotate_left
    · show Act.put _ (some 90) _ = _
      simp only [Act.put, List.setIfInBounds_toArray, List.set_cons_zero, List.set_cons_succ, i64_w, i32_w]
      rfl
    refine done_ (by kernel_rfl) ?_
    go_wp2
    have z8 : Y7.cell? ⟨b, 7, none⟩ = some (.int .u32 s4.h) := dg_cell D7.out 7 rfl
    refine start_ (n := 7) (S := fun w' => w'.cell? ⟨b, 7, none⟩ = some (.int .u32 s4.h)) (ds := []) #[false, false, false, false, false, false, false] (by kernel_rfl) rfl rfl (z8) (fun hHeld => ?_)
    refine pure_ (i := 0) (N := some 96) (v := ?_) (a' := ?_) #[true, false, false, false, false, false, false] rfl rfl (by kernel_rfl) (fun _ _ _ h => h) (Or.inl ⟨by rfl, ?_⟩) ?_ ?_
    rotate_left
    · intro w'
      go_simp
      with_reducible rfl
    rotate_left
    · simp only [Act.put, List.setIfInBounds_toArray, List.set_cons_zero, List.set_cons_succ, i64_w, i32_w]
      rfl
    refine pure_ (i := 1) (N := some 97) (v := ?_) (a' := ?_) #[true, true, false, false, false, false, false] rfl rfl (by kernel_rfl) (fun _ _ _ h => h) (Or.inl ⟨by rfl, ?_⟩) ?_ ?_
    rotate_left
    · intro w'
      go_simp
      with_reducible rfl
    rotate_left
    · simp only [Act.put, List.setIfInBounds_toArray, List.set_cons_zero, List.set_cons_succ, i64_w, i32_w]
      rfl
    refine pure_ (i := 2) (N := some 98) (v := ?_) (a' := ?_) #[true, true, true, false, false, false, false] rfl rfl (by kernel_rfl) (fun _ _ _ h => h) (Or.inl ⟨by rfl, ?_⟩) ?_ ?_
    rotate_left
    · intro w'
      go_simp
      with_reducible rfl
    rotate_left
    · simp only [Act.put, List.setIfInBounds_toArray, List.set_cons_zero, List.set_cons_succ, i64_w, i32_w]
      rfl
    refine pure_ (i := 3) (N := some 99) (v := ?_) (a' := ?_) #[true, true, true, true, false, false, false] rfl rfl (by kernel_rfl) (fun _ _ _ h => h) (Or.inl ⟨by rfl, ?_⟩) ?_ ?_
    rotate_left
    · intro w'
      go_simp
      with_reducible rfl
    rotate_left
    · simp only [Act.put, List.setIfInBounds_toArray, List.set_cons_zero, List.set_cons_succ, i64_w, i32_w]
      rfl
    refine pure_ (i := 4) (N := some 100) (v := ?_) (a' := ?_) #[true, true, true, true, true, false, false] rfl rfl (by kernel_rfl) (fun _ _ _ h => h) (Or.inl ⟨by rfl, ?_⟩) ?_ ?_
    rotate_left
    · intro w'
      go_simp
      with_reducible rfl
    rotate_left
    · simp only [Act.put, List.setIfInBounds_toArray, List.set_cons_zero, List.set_cons_succ, i64_w, i32_w]
      rfl
    refine take_ (i := 5) (N := some 101) (v := ?_) (a' := ?_) #[true, true, true, true, true, true, false] rfl rfl (by kernel_rfl) (fun _ _ _ h => h) (Or.inl ⟨by rfl, ?_⟩) hHeld ?_ ?_
    rotate_left
    · intro w' s0
      go_simp
      with_reducible rfl
    rotate_left
    · simp only [Act.put, List.setIfInBounds_toArray, List.set_cons_zero, List.set_cons_succ, i64_w, i32_w]
      rfl
    refine one_ (i := 6) (N := some 102) #[true, true, true, true, true, true, true] rfl rfl (by kernel_rfl) (by decide) (fun K hK => ?_)
    refine goes_ Try.func93 (by kernel_rfl) rfl #[.slice (some ⟨g, 28, none⟩) 4 4, .int .u32 s4.h] (by rfl) rfl rfl (by simp only [List.map_toArray, List.map_cons, List.map_nil]; rfl) ?_
    with_reducible refine (put32_calls g 29 32 28 4 4 s4.h _ _ (World.rowIs.drew R7.out) (by decide) (by decide)).mono ?_
    rintro e Y8 ⟨⟨v8, rfl⟩, h1, h2⟩
    refine ⟨_, rfl, ?_⟩
    have R8 := Aside0.mk h1; have O8 := Aside0.mk ((O7.out.drew).trans h2); have D8 := Aside0.mk (dg_other (blk_drew D7.out) HG.out.1 h2); have zc8 : Y8.cell? ⟨b, 7, none⟩ = some (.int .u32 s4.h) := dg_cell D8.out 7 rfl; clear h1 h2
    refine hK.out _ _ (zc8) (fun hHeld => ?_)
    clear hK K
    refine norm_ (a' := ?_) ?_ ?_
    rotate_left
    · show Act.put _ (some 102) _ = _
      simp only [Act.put, List.setIfInBounds_toArray, List.set_cons_zero, List.set_cons_succ, i64_w, i32_w]
      rfl
    refine done_ (by kernel_rfl) ?_
    have HRG := Lib.hid (show Y8.rangeAt g 0 (nums .u8 s4.bytes) from fun j v hj => by
      have hjl : j < 32 := by have := (List.getElem?_eq_some_iff.1 hj).1; rwa [nums_length, bytes_len] at this
      have h1 := R8.out.cell hjl
      have h2 := putAt_at s4 j hjl
      rw [Nat.zero_add]
      refine h1.trans ?_
      rw [show over (over (over (over (over (over (over (over (fun j => Value.int .u8 ((List.replicate 32 0).getD j 0)) 0 (be4 s4.a)) 4 (be4 s4.b)) 8 (be4 s4.c)) 12 (be4 s4.d)) 16 (be4 s4.e)) 20 (be4 s4.f)) 24 (be4 s4.g)) 28 (be4 s4.h) j = putAt s4 j from rfl, h2, ← hj]
      simp only [nums, List.getElem?_map, List.getD_eq_getElem?_getD, List.getElem?_eq_getElem (show j < s4.bytes.length by rw [bytes_len]; exact hjl), Option.map_some, Option.getD_some])
    obtain ⟨old, hold, hos, _⟩ := HR1.out
    have hg1 : Y8.heap[w.heap.size]? = some (.cells old 29 (0, 0)) := by
      have e1 := H2.out.2.2 w.heap.size (blk_lt hold) (by omega) (by simp)
      have e2 := H5.out.2.2 w.heap.size (Nat.lt_of_lt_of_le (blk_lt hold) H2.out.2.1) (by omega) (by simp)
      have e3 := OA.out.block w.heap.size (Nat.lt_of_lt_of_le (Nat.lt_of_lt_of_le (blk_lt hold) H2.out.2.1) H5.out.2.1)
      have e4 := O8.out.2.2 w.heap.size (Nat.lt_of_lt_of_le (Nat.lt_of_lt_of_le (Nat.lt_of_lt_of_le (blk_lt hold) H2.out.2.1) H5.out.2.1) OA.out.size) (by have := HG.out.2; omega) (by simp)
      exact e4.trans (e3.trans (e2.trans (e1.trans hold)))
    have HG1 := Lib.hid hg1
    have HOS := Lib.hid hos
    have HON := Lib.hid (show On b w Y8 from by
      have a1 : On b w W3 := (On.of_below hb HB2.out).far H2.out hb (by omega)
      have a2 : On b w W4 := a1.trans H5.out
      have a3 : On b w W5 := a2.below hb OA.out
      exact a3.far O8.out hb (by have := HG.out.2; omega))
    have HSH := Lib.hid (show sha K l = s4.bytes from by unfold sha; rw [HN.out.1, HS4.out])
    clear hold hos hg1
    go_wp2_with (first
      | (refine wpList_load_mid rfl 29 (.tmp 7) rfl g 0 rfl (nums .u8 s4.bytes) _ HRG.out Try.underlying29 rfl ?aI ?_; go_must (case aI => rw [nums_length, bytes_len]; exact info32))
      | (refine wpList_store_row rfl 29 (.tmp 2) (.tmp 103) rfl w.heap.size (nums .u8 s4.bytes).toArray rfl rfl 29 _ HG1.out ?aS ?aL ?aO ?_; go_must (case aS => rw [List.size_toArray, nums_length, bytes_len]; exact info32); go_must (case aL => first | (rw [List.size_toArray, nums_length, bytes_len]; exact HOS.out) | (simp only [Array.length_toList, List.size_toArray, nums_length, bytes_len]; exact HOS.out)); go_must (case aO => exact all_oneCell_toArray (nums_one _))))
    refine bodyPost_ret (results_cell_row (by rfl) _ _ w.heap.size 29 (nums .u8 s4.bytes).toArray (0, 0) _ (by rfl) (setRow_heap _ _ _ _ _ _ HG1.out) Try.underlying29 (by rfl) (by rw [List.size_toArray, nums_length, bytes_len]; exact info32)) (by rfl) ?_
    exact ⟨by rw [HSH.out], HON.out.far (on_row _) hb (Nat.le_refl _), s4, X4, HXL.out, N4, dg_other D8.out (by omega) (on_row _)⟩
end Go.Proofs.Ytkmlpoggbfbnaaa.Sh
namespace Go.Proofs.Ytkmlpoggbfbnaaa.Sh
open Go.RowKit Go.Proofs.YtkmlpoggbfbnaaaW.PrintWords Go.Proofs.YtkmlpoggbfbnaaaW.PrintLast Go.Proofs.Ytkmlpoggbfbnaaa.Reg Go.Proofs.Ytkmlpoggbfbnaaa.Tok
set_option linter.unusedSimpArgs false
set_option linter.unusedVariables false

theorem get_ind (w : World) : (callFunc 90 #[]).run Try.prog w = .ok (.value (.int .u8 0)) w := by kernel_rfl
theorem set_ind (w : World) (v : Value) : (callFunc 91 #[v]).run Try.prog w = .ok (.value (.tuple #[])) w := by kernel_rfl
set_option maxHeartbeats 4000000 in
theorem rec_calls (w : World) : Calls Try.prog 87 #[] w fun e w' => (∃ u, e = .returned u) ∧ w' = w := by
  have h1 := get_ind
  have h2 := set_ind
  go_enter Try.func87, Try.ntmps87
  go_wp2
  first | go_end0 | refine bodyPost_ret (results_none rfl _ _ _) rfl ?_
  exact ⟨⟨_, rfl⟩, rfl⟩
/-- Bytes behind none, where there is room for them: whatever the block. -/
theorem app_room (w : World) (ty : TypeId) (g cap : Nat) (cur : Array Value) (tb : TypeId) (hg : w.heap[g]? = some (.cells cur tb (0, 0))) (hc : cur.size = cap) (a : Addr) (m c : Nat) (d : List Int) (hd : d.length = m) (hL : Lies w a (nums .u8 d)) (hroom : m ≤ cap) :
    (Builtin.append_ #[40, 40] ty #[.slice (some ⟨g, 0, none⟩) 0 cap, .slice (some a) m c]).run Try.prog w = .ok (.slice (some ⟨g, 0, none⟩) m cap) (w.setRow g (nums .u8 d ++ cur.toList.drop m).toArray) := by
  obtain ⟨i, hi, -, hz1, -⟩ := info_parts Tok.info_u8
  have hl : (nums .u8 d).length = m * i.size := by rw [nums_length, hd, hz1, Nat.mul_one]
  have hf := run_firstCells_some (P := Try.prog) w i.size m a m c (nums .u8 d) hl hL
  have hst := run_storeCells_at Try.prog g (0 * i.size) tb (nums .u8 d) 0 cur w hg (by rw [nums_length, hd, hc]; omega) (nums_one d)
  simp only [Nat.zero_mul, Nat.add_zero, Nat.zero_add, List.take_zero, List.nil_append] at hst
  rw [nums_length, hd] at hst
  simp [Builtin.append_, run_underlying Try.underlying40, sizeOf, typeInfo, hi, Builtin.lenOf, hroom, hf, Addr.add_lit, hst]
/-- An append whose run is known. -/
theorem wpList_app {P : Program} {ops : Array Oper} {rest : List Oper} {o : Oper} {a : Act} {w : World} {Q : Exit → Act → World → Prop} (hgd : o.guard = none) (s x : Operand) (t : TypeId)
    (ho : o.op = .call { callee := .builtin .append, args := #[s, x], argTypes := #[t, t] }) (v u r : Value) (w' : World) (hs : a.eval s = v) (hx : a.eval x = u) (hr : ∀ ty, (Builtin.append_ #[t, t] ty #[v, u]).run P w = .ok r w')
    (h : wpList P ops Q rest (a.put o.dst r) w') : wpList P ops Q (o :: rest) a w :=
  wpList_plain hgd fun K hK => by
    have hr := hr o.type
    unfold Oper.wp execOp
    simp only [ho, resolve, invoke, builtin, Sem.run_bind, Sem.run_pure, Result.andThen_ok, List.map_toArray, List.map_cons, List.map_nil, hs, hx, hr]
    exact hK _ _ h
theorem cells_size (K l : List Int) (n : Int) (X : List Int) (h : Sta K l n X) : (cells K l n X).size = 75 := dcs_size _ _ _ _ h.len
theorem cells_one (K l : List Int) (n : Int) (X : List Int) : (cells K l n X).all (·.oneCell') = true := by
  unfold cells dcs
  refine all_oneCell_toArray (fun v hv => ?_)
  rcases List.mem_append.1 hv with hv | hv
  · rcases List.mem_append.1 hv with hv | hv
    · simp only [List.mem_cons, List.not_mem_nil, or_false] at hv
      rcases hv with rfl | rfl | rfl | rfl | rfl | rfl | rfl | rfl <;> rfl
    · exact nums_one _ v hv
  · simp only [List.mem_cons, List.not_mem_nil, or_false] at hv
    rcases hv with rfl | rfl | rfl <;> rfl
theorem infoD : (Try.prog.info? 111).map (·.size) = some 75 := by kernel_rfl
theorem sha_len (K l : List Int) : (sha K l).length = 32 := bytes_len _
set_option maxHeartbeats 16000000 in
set_option maxRecDepth 100000 in
theorem sum_calls (K : List Int) (b g : Nat) (l X : List Int) (cur : Array Value) (tb : TypeId) (w : World) (hK : KT K w) (hS : Sta K l l.length X) (hD : Dg b (cells K l l.length X) w) (hl : l.length ≤ 10000000) (hg : w.heap[g]? = some (.cells cur tb (0, 0))) (hc : cur.size = 32) :
    Calls Try.prog 85 #[.pointer (some ⟨b, 0, none⟩), .slice (some ⟨g, 0, none⟩) 0 32] w fun e w' => e = .returned (.slice (some ⟨g, 0, none⟩) 32 32) ∧
      w'.heap[g]? = some (.cells (nums .u8 (sha K l)).toArray tb (0, 0)) ∧ On g w w' := by
  have HR := Lib.hid (show w.rangeAt b 0 (cells K l l.length X).toList from fun j v hj => by
    rw [Nat.zero_add]
    exact (blk_cell hD j).trans (by simpa using hj))
  have HZ := Lib.hid (cells_size K l l.length X hS)
  have HC := Lib.hid (show ∀ W, Dg w.heap.size (cells K l l.length X) W → KT K W → Calls Try.prog 88 #[.pointer (some ⟨w.heap.size, 0, none⟩)] W fun e w' => e = .returned (.agg (nums .u8 (sha K l)).toArray) ∧ On w.heap.size W w' ∧ ∃ s X n, X.length = 64 ∧ Dg w.heap.size (dcs s X 0 n) w' from fun W h1 h2 => check_calls K w.heap.size l X W h2 hS h1 hl)
  have HK := Lib.hid hK
  have HG := Lib.hid hg
  have HCU := Lib.hid hc
  have HX := Lib.hid hS.len
  clear hK hS hD hl hg hc
  go_enter Try.func85, Try.ntmps85
  go_upto_region 3 with (first
    | (go_at_call 87; go_must ((with_reducible refine (rec_calls _).mono ?_); rintro e w1 ⟨⟨u1, rfl⟩, hw1⟩; obtain rfl := hw1.symm))
    | (refine wpList_load_mid rfl 111 (.tmp 9) rfl b 0 rfl (cells K l l.length X).toList _ HR.out Try.underlying111 rfl ?aI ?_; go_must (case aI => rw [Array.length_toList, HZ.out]; exact infoD))
    | (refine wpList_store_row rfl 111 (.tmp 5) (.tmp 10) rfl w.heap.size (cells K l l.length X) rfl rfl 111 _ (heap_alloc_new _ _) ?aS ?aL ?aO ?_; go_must (case aS => rw [HZ.out]; exact infoD); go_must (case aL => rw [HZ.out]; kernel_rfl); go_must (case aO => exact cells_one _ _ _ _)))
  refine wp_world (fun W2 hW => ?_)
  have HB2 := Lib.hid (show Below w.heap.size w W2 from hW ▸ below_setRow (below_alloc (Below.refl _ _) _) (Nat.le_refl _) _)
  have D2 := Lib.hid (show Dg w.heap.size (cells K l l.length X) W2 from hW ▸ setRow_heap _ _ _ _ _ _ (heap_alloc_new _ _))
  have hK2 : KT K W2 := HK.out.of_block (HB2.out.block _ HK.out.lt)
  have HC2 := Lib.hid (HC.out W2 D2.out hK2)
  clear hW hK2
  go_upto_region 4 with (first
    | (go_at_call 88; go_must ((with_reducible refine HC2.out.mono ?_); rintro e W3 ⟨rfl, h1, s3, X3, n3, h2, h3⟩; have H3 := Aside0.mk h1; have HX3 := Aside0.mk h2; have D3 := Aside0.mk h3; clear h1 h2 h3))
    | (refine wpList_store_row rfl 29 (.tmp 6) (.tmp 11) rfl W3.heap.size (nums .u8 (sha K l)).toArray rfl rfl 29 _ (heap_alloc_new _ _) ?aS ?aL ?aO ?_; go_must (case aS => rw [List.size_toArray, nums_length, sha_len]; exact info32); go_must (case aL => exact Eq.trans (b := 32) (by rfl) (by rw [List.size_toArray, nums_length, sha_len])); go_must (case aO => exact all_oneCell_toArray (nums_one _))))
  refine wp_world (fun W4 hW => ?_)
  have HB4 := Lib.hid (show Below W3.heap.size W3 W4 from hW ▸ below_setRow (below_alloc (Below.refl _ _) _) (Nat.le_refl _) _)
  have H4 := Lib.hid (show W4.heap[W3.heap.size]? = some (.cells (nums .u8 (sha K l)).toArray 29 (0, 0)) from hW ▸ setRow_heap _ _ _ _ _ _ (heap_alloc_new _ _))
  have D4 : Dg w.heap.size (dcs s3 X3 0 n3) W4 := (HB4.out.block _ (blk_lt D3.out)).trans D3.out
  have zb := dg_cell D4 74 (dcs_b _ _ _ _ HX3.out)
  have hg4 : W4.heap[g]? = some (.cells cur tb (0, 0)) := by
    have h0 := blk_lt HG.out
    have h1 := HB2.out.block g h0
    have h2 := H3.out.2.2 g (Nat.lt_of_lt_of_le h0 HB2.out.size) (by omega) (by simp)
    have h3 := HB4.out.block g (Nat.lt_of_lt_of_le (Nat.lt_of_lt_of_le h0 HB2.out.size) H3.out.2.1)
    exact h3.trans (h2.trans (h1.trans HG.out))
  have hap := fun ty => app_room W4 ty g 32 cur tb hg4 HCU.out ⟨W3.heap.size, 0, none⟩ 32 32 (sha K l) (sha_len K l) (fun j v hj => by
    rw [Addr.add_mid, Nat.zero_add]
    exact (blk_cell H4.out j).trans (by simpa using hj)) (Nat.le_refl _)
  rw [List.drop_eq_nil_of_le (by rw [Array.length_toList, HCU.out]; exact Nat.le_refl _), List.append_nil] at hap
  obtain ⟨W5, hW5⟩ : ∃ W', W4.setRow g (nums .u8 (sha K l)).toArray = W' := ⟨_, rfl⟩
  rw [hW5] at hap
  have HEND := Lib.hid (show W5.heap[g]? = some (.cells (nums .u8 (sha K l)).toArray tb (0, 0)) ∧ On g w W5 from by
    have h0 := blk_lt HG.out
    refine ⟨hW5 ▸ setRow_heap _ _ _ _ _ _ hg4, ?_⟩
    have a1 : On g w W2 := On.of_below h0 HB2.out
    have a2 : On g w W3 := a1.far H3.out h0 (Nat.le_refl _)
    have a3 : On g w W4 := a2.below h0 HB4.out
    exact hW5 ▸ a3.trans (on_row _))
  have HAP := Lib.hid hap
  clear hW D4 hg4 hW5 hap
  go_wp2_with ((with_reducible refine gate_builtin (b := .append) (xs := #[.tmp 17, .tmp 18]) rfl ?_); at_builtin; go_must (refine wpList_app rfl (.tmp 17) (.tmp 18) 40 rfl _ _ _ _ rfl rfl HAP.out ?_))
  go_ret
  exact ⟨rfl, HEND.out.1, HEND.out.2⟩
end Go.Proofs.Ytkmlpoggbfbnaaa.Sh
namespace Go.Proofs.Ytkmlpoggbfbnaaa.Sh
open Go.RowKit Go.Proofs.YtkmlpoggbfbnaaaW.PrintWords Go.Proofs.YtkmlpoggbfbnaaaW.PrintLast Go.Proofs.Ytkmlpoggbfbnaaa.Reg Go.Proofs.Ytkmlpoggbfbnaaa.Tok
set_option linter.unusedSimpArgs false
set_option linter.unusedVariables false

theorem call_write (b : Nat) (v : Value) (w : World) : (callMethod (.iface 98 (.pointer (some ⟨b, 0, none⟩))) "Write" #[v]).run Try.prog w = .ok (.enter 86 #[.pointer (some ⟨b, 0, none⟩), v]) w := by kernel_rfl
theorem call_sum (b : Nat) (v : Value) (w : World) : (callMethod (.iface 98 (.pointer (some ⟨b, 0, none⟩))) "Sum" #[v]).run Try.prog w = .ok (.enter 85 #[.pointer (some ⟨b, 0, none⟩), v]) w := by kernel_rfl
theorem call_reset (b : Nat) (w : World) : (callMethod (.iface 98 (.pointer (some ⟨b, 0, none⟩))) "Reset" #[]).run Try.prog w = .ok (.enter 53 #[.pointer (some ⟨b, 0, none⟩)]) w := by kernel_rfl
set_option maxRecDepth 100000 in
theorem exec_write {o : Oper} {ev : Operand → Value} {w : World} {b : Nat} {v : Value} (r x : Operand) (ts : Array TypeId) (ho : o.op = .call { callee := .invoke r "Write", args := #[x], argTypes := ts }) (hr : ev r = Hs b) (hx : ev x = v) :
    (execOp ev o).run Try.prog w = .ok (.enter 86 #[.pointer (some ⟨b, 0, none⟩), v]) w := by
  have h := call_write b v w
  unfold execOp
  have hr' : ev r = .iface 98 (.pointer (some ⟨b, 0, none⟩)) := hr
  simp [ho, resolve, invoke, hr', hx, h]
set_option maxRecDepth 100000 in
theorem exec_sum {o : Oper} {ev : Operand → Value} {w : World} {b : Nat} {v : Value} (r x : Operand) (ts : Array TypeId) (ho : o.op = .call { callee := .invoke r "Sum", args := #[x], argTypes := ts }) (hr : ev r = Hs b) (hx : ev x = v) :
    (execOp ev o).run Try.prog w = .ok (.enter 85 #[.pointer (some ⟨b, 0, none⟩), v]) w := by
  have h := call_sum b v w
  unfold execOp
  have hr' : ev r = .iface 98 (.pointer (some ⟨b, 0, none⟩)) := hr
  simp [ho, resolve, invoke, hr', hx, h]
set_option maxRecDepth 100000 in
theorem exec_nilS {o : Oper} {ev : Operand → Value} (w : World) {b : Nat} (x : Operand) (ho : o.op = .nilCheck x) (hx : ev x = .func (.method "Sum") #[Hs b] #[]) :
    (execOp ev o).run Try.prog w = .ok (.value (.func (.method "Sum") #[Hs b] #[])) w := by
  unfold execOp
  simp only [ho, hx, Hs]
  kernel_rfl
section
variable {ops : Array Oper} {Q : Exit → Act → World → Prop}
theorem gate_invoke {P : Program} {rest : List Oper} {o : Oper} {a : Act} {w : World} {r : Operand} {xs : Array Operand} {ts : Array TypeId} {n : String} (_ho : o.op = .call { callee := .invoke r n, args := xs, argTypes := ts }) (h : wpList P ops Q (o :: rest) a w) : wpList P ops Q (o :: rest) a w := h
/-- A call of Write in a plain region. -/
theorem writes_L {rest : List Oper} {o : Oper} {a : Act} {w : World} {b : Nat} {v : Value} (hg : o.guard = none) (r x : Operand) (ts : Array TypeId) (ho : o.op = .call { callee := .invoke r "Write", args := #[x], argTypes := ts }) (hr : a.eval r = Hs b) (hx : a.eval x = v)
    (h : Calls Try.prog 86 #[.pointer (some ⟨b, 0, none⟩), v] w fun e w' => ∃ u, e = .returned u ∧ wpList Try.prog ops Q rest (a.put o.dst u) w') : wpList Try.prog ops Q (o :: rest) a w := by
  refine wpList_plain hg fun K hK => ?_
  unfold Oper.wp
  rw [exec_write r x ts ho hr hx, Oper.upon_enter]
  refine h.mono fun e w'' hh => ?_
  obtain ⟨u, rfl, hk⟩ := hh
  exact hK _ _ hk
end
set_option maxHeartbeats 16000000 in
set_option maxRecDepth 100000 in
theorem sum256_calls (K : List Int) (base : Nat) (P0 : Nat → Prop) (A : Option Addr) (c : Nat) (d : List Int) (w : World) (hK : KT K w) (hp : Kd.V (Kd.int .u8) 5 w base P0 (.slice A d.length c) d) (hP : ∀ k, P0 k → k < w.heap.size) (hb : Any d) (hl : d.length ≤ 6000000) :
    Calls Try.prog 37 #[.slice A d.length c] w fun e w' => e = .returned (.agg (nums .u8 (sha K d)).toArray) ∧ Below w.heap.size w w' := by
  have HK := Lib.hid hK
  have HP := Lib.hid hp
  have HPP := Lib.hid hP
  have HB := Lib.hid hb
  have HL := Lib.hid hl
  clear hK hp hP hb hl
  go_enter Try.func37, Try.ntmps37
  go_upto_region 2 with fail
  refine wp_world (fun W0 hW => ?_)
  obtain ⟨c0, hc, hc1⟩ : ∃ c0 : Array Value, w.alloc (.cells c0 29) = W0 ∧ c0 = (nums .u8 (List.replicate 32 0)).toArray := ⟨_, hW, by kernel_rfl⟩
  have HB0 := Lib.hid (show Below w.heap.size w W0 from hc ▸ below_alloc (Below.refl _ _) _)
  have G2 := Lib.hid (show W0.heap[w.heap.size]? = some (.cells c0 29 (0, 0)) ∧ c0.size = 32 from ⟨hc ▸ heap_alloc_new _ _, by rw [hc1]; rfl⟩)
  have hsz : W0.heap.size = w.heap.size + 1 := by rw [← hc]; simp
  obtain ⟨b, hbb⟩ : ∃ b, W0.heap.size = b := ⟨_, rfl⟩
  have HBB := Lib.hid (show b = w.heap.size + 1 from hbb ▸ hsz)
  have HNEW := Lib.hid (new_calls W0)
  rw [hbb] at HNEW
  have HWR := Lib.hid (fun (w1 : World) (h1 : Dg b (dcs iv (List.replicate 64 0) 0 0) w1) (h2 : Below b W0 w1) => (show Calls Try.prog 86 #[.pointer (some ⟨b, 0, none⟩), .slice A d.length c] w1 fun e w' => e = .returned (.tuple #[.int .i64 d.length, .nilIface]) ∧
      (∃ X', Sta K d d.length X' ∧ Dg b (cells K d d.length X') w') ∧ On b w1 w' from by
    have hbw : Below w.heap.size w w1 := HB0.out.trans (h2.mono (by have := HBB.out; omega))
    have hk1 : KT K w1 := HK.out.of_block (hbw.block _ HK.out.lt)
    have hv : Kd.V (Kd.int .u8) 5 w1 base P0 (.slice A d.length c) d := Kd.V_step HP.out (fun k hk _ => hbw.block k (HPP.out k hk))
    have := write_calls K b [] 0 (List.replicate 64 0) base P0 A c d w1 hk1 (sta_nil K _ (by simp) (rep_bytes 64)) h1 ⟨by omega, by have := HL.out; omega⟩ hv (fun k hk => by have := HPP.out k hk; have := HBB.out; omega) HB.out HL.out
    rw [List.nil_append, Int.zero_add] at this
    exact this))
  clear hW hc hc1 hsz
  go_upto_region 4 with (first
    | (go_at_call 42; go_must ((with_reducible refine HNEW.out.mono ?_); rintro e w1 ⟨rfl, h1, h2⟩; have H1 := Aside0.mk h1; have H2 := Aside0.mk h2; clear h1 h2))
    | ((with_reducible refine gate_invoke (n := "Write") rfl ?_); go_must (refine writes_L (b := b) (v := .slice A d.length c) rfl (.tmp 8) (.tmp 9) #[40] rfl rfl rfl ?_; (with_reducible refine (HWR.out w1 H1.out H2.out).mono ?_); rintro e w3 ⟨rfl, ⟨X3, h3, h4⟩, h5⟩; refine ⟨_, rfl, ?_⟩; have H3 := Aside0.mk h3; have H4 := Aside0.mk h4; have H5 := Aside0.mk h5; clear h3 h4 h5)))
  go_upto_region 5 with fail
  refine wp_world (fun W4 hW => ?_)
  obtain ⟨c4, hc, hc1⟩ : ∃ c4 : Array Value, w3.alloc (.cells c4 29) = W4 ∧ c4 = (nums .u8 (List.replicate 32 0)).toArray := ⟨_, hW, by kernel_rfl⟩
  have HB4 := Lib.hid (show Below w3.heap.size w3 W4 from hc ▸ below_alloc (Below.refl _ _) _)
  have hG4 : W4.heap[w3.heap.size]? = some (.cells c4 29 (0, 0)) := hc ▸ heap_alloc_new _ _
  have hz4 : c4.size = 32 := by rw [hc1]; rfl
  obtain ⟨g, hg⟩ : ∃ g, w3.heap.size = g := ⟨_, rfl⟩
  rw [hg] at hG4 HB4
  have hD4 : Dg b (cells K d d.length X3) W4 := (HB4.out.block b (by rw [← hg]; exact blk_lt H4.out)).trans H4.out
  have hB14 : Below b W0 W4 := (H2.out.trans H5.out.1).trans (HB4.out.mono (by rw [← hg]; exact Nat.le_of_lt (blk_lt H4.out)))
  have hK4 : KT K W4 := HK.out.of_block ((HB0.out.trans (hB14.mono (by have := HBB.out; omega))).block _ HK.out.lt)
  have HSUM := Lib.hid (sum_calls K b g d X3 c4 29 W4.drew (World.rowIs.drew hK4) H3.out (blk_drew hD4) (by have := HL.out; omega) (blk_drew hG4) hz4)
  have HB14 := Lib.hid hB14
  have HGL := Lib.hid (show b < g from by rw [← hg]; exact blk_lt H4.out)
  rw [hg]
  clear hW hc hc1 hG4 hz4 hD4 hB14 hK4
  refine start_ (n := 6) (S := fun w' => True) (ds := []) #[false, false, false, false, false, false] (by kernel_rfl) rfl rfl trivial (fun hHeld => ?_)
  refine pure_ (i := 0) (N := some 11) (v := ?_) (a' := ?_) #[true, false, false, false, false, false] rfl rfl (by kernel_rfl) (fun _ _ _ h => h) (Or.inl ⟨by rfl, ?_⟩) ?_ ?_
  rotate_left
  · intro w'
    go_simp
    with_reducible rfl
  rotate_left
  · simp only [Act.put, List.setIfInBounds_toArray, List.set_cons_zero, List.set_cons_succ, i64_w, i32_w]
    rfl
  refine pure_ (i := 1) (N := some 12) (v := ?_) (a' := ?_) #[true, true, false, false, false, false] rfl rfl (by kernel_rfl) (fun _ _ _ h => h) (Or.inl ⟨by rfl, ?_⟩) ?_ ?_
  rotate_left
  · intro w'
    go_simp
    with_reducible rfl
  rotate_left
  · simp only [Act.put, List.setIfInBounds_toArray, List.set_cons_zero, List.set_cons_succ, i64_w, i32_w]
    rfl
  refine pure_ (i := 2) (N := some 13) (v := ?_) (a' := ?_) #[true, true, true, false, false, false] rfl rfl (by kernel_rfl) (fun _ _ _ h => h) (Or.inl ⟨by rfl, ?_⟩) ?_ ?_
  rotate_left
  · intro w'
    go_simp
    with_reducible rfl
  rotate_left
  · simp only [Act.put, List.setIfInBounds_toArray, List.set_cons_zero, List.set_cons_succ, i64_w, i32_w]
    rfl
  refine pure_ (i := 3) (N := some 14) (v := ?_) (a' := ?_) #[true, true, true, true, false, false] rfl rfl (by kernel_rfl) (fun _ _ _ h => h) (Or.inl ⟨by rfl, ?_⟩) ?_ ?_
  rotate_left
  · intro w'
    refine (exec_nilS w' (b := b) (.tmp 13) (by rfl) (by rfl)).trans ?_
    with_reducible rfl
  rotate_left
  · simp only [Act.put, List.setIfInBounds_toArray, List.set_cons_zero, List.set_cons_succ, i64_w, i32_w]
    rfl
  refine pure_ (i := 4) (N := some 15) (v := ?_) (a' := ?_) #[true, true, true, true, true, false] rfl rfl (by kernel_rfl) (fun _ _ _ h => h) (Or.inl ⟨by rfl, ?_⟩) ?_ ?_
  rotate_left
  · intro w'
    go_simp
    with_reducible rfl
  rotate_left
  · simp only [Act.put, List.setIfInBounds_toArray, List.set_cons_zero, List.set_cons_succ, i64_w, i32_w]
    rfl
  refine one_ (i := 5) (N := some 16) #[true, true, true, true, true, true] rfl rfl (by kernel_rfl) (by decide) (fun K hK => ?_)
  refine call_ (85) #[.pointer (some ⟨b, 0, none⟩), .slice (some ⟨g, 0, none⟩) 0 32] (by rfl) rfl (exec_sum (.tmp 15) (.tmp 12) #[40] (by rfl) (by rfl) (by rfl)) ?_
  with_reducible refine (HSUM.out).mono ?_
  rintro e w6 ⟨rfl, h1, h2⟩
  refine ⟨_, rfl, ?_⟩
  have H6 := Aside0.mk h1; have O6 := Aside0.mk h2; clear h1 h2
  refine hK.out _ _ trivial (fun hHeld => ?_)
  clear hK K
  refine norm_ (a' := ?_) ?_ ?_
  rotate_left
  · show Act.put _ (some 16) _ = _
    simp only [Act.put, List.setIfInBounds_toArray, List.set_cons_zero, List.set_cons_succ, i64_w, i32_w]
    rfl
  refine done_ (by kernel_rfl) ?_
  have hlt : w.heap.size < b := by have := HBB.out; omega
  have hgl := HGL.out
  have HRG := Lib.hid (show w6.rangeAt g 0 (nums .u8 (sha K d)) from fun j v hj => by
    rw [Nat.zero_add]
    exact (blk_cell H6.out j).trans (by simpa using hj))
  have hb14 := HB14.out
  have hg6 : w6.heap[w.heap.size]? = some (.cells c0 29 (0, 0)) := by
    have e1 := hb14.block w.heap.size hlt
    have e2 := O6.out.2.2 w.heap.size (show w.heap.size < W4.heap.size from Nat.lt_of_lt_of_le (blk_lt G2.out.1) hb14.size) (by omega) (by simp)
    exact e2.trans (e1.trans G2.out.1)
  have HG6 := Lib.hid hg6
  have HBE := Lib.hid (show Below w.heap.size w w6 from (HB0.out.trans (hb14.mono (Nat.le_of_lt hlt))).trans ((below_drew (Below.refl _ _)).trans (O6.out.1.mono (by omega))))
  clear hlt hgl hg6 hb14
  go_wp2_with (first
    | (refine wpList_load_mid rfl 29 (.tmp 4) rfl g 0 rfl (nums .u8 (sha K d)) _ HRG.out Try.underlying29 rfl ?aI ?_; go_must (case aI => rw [nums_length, sha_len]; exact info32))
    | (refine wpList_store_row rfl 29 (.tmp 2) (.tmp 17) rfl w.heap.size (nums .u8 (sha K d)).toArray rfl rfl 29 _ HG6.out ?aS ?aL ?aO ?_; go_must (case aS => rw [List.size_toArray, nums_length, sha_len]; exact info32); go_must (case aL => exact Eq.trans (b := 32) G2.out.2 (by rw [List.size_toArray, nums_length, sha_len])); go_must (case aO => exact all_oneCell_toArray (nums_one _))))
  refine bodyPost_ret (results_cell_row (by rfl) _ _ w.heap.size 29 (nums .u8 (sha K d)).toArray (0, 0) _ (by rfl) (setRow_heap _ _ _ _ _ _ HG6.out) Try.underlying29 (by rfl) (by rw [List.size_toArray, nums_length, sha_len]; exact info32)) (by rfl) ?_
  exact ⟨rfl, below_setRow HBE.out (Nat.le_refl _) _⟩
end Go.Proofs.Ytkmlpoggbfbnaaa.Sh
namespace Go.Proofs.Ytkmlpoggbfbnaaa.Sh
open Go.RowKit Go.Proofs.YtkmlpoggbfbnaaaW.PrintWords Go.Proofs.YtkmlpoggbfbnaaaW.PrintLast Go.Proofs.Ytkmlpoggbfbnaaa.Reg Go.Proofs.Ytkmlpoggbfbnaaa.Tok
set_option linter.unusedSimpArgs false
set_option linter.unusedVariables false

/-- The double hash. -/
def dsha (K l : List Int) : List Int := sha K (sha K l)
theorem blk_V {w : World} {g t : Nat} {xs : List Int} (h : w.heap[g]? = some (.cells (nums .u8 xs).toArray t (0, 0))) (hm : xs.length ≤ 1000000) (base : Nat) :
    Kd.V (Kd.int .u8) 5 w base (fun k => k = g) (.slice (some ⟨g, 0, none⟩) xs.length xs.length) xs := by
  refine Kd.V_mk (Nat.le_refl _) ?_
  intro W' hW
  refine Kd.C_of_reads (d := (0 : Int)) (h1 := fun _ => rfl) ⟨rfl, by omega, fun _ => ⟨_, rfl, fun j hj => ?_⟩⟩
  rw [Addr.add_mid, Nat.zero_add]
  have h2 : W'.heap[g]? = some (.cells (nums .u8 xs).toArray t (0, 0)) := (hW g rfl (blk_lt h)).trans h
  refine (blk_cell h2 j).trans ?_
  simp [nums, List.getD_eq_getElem?_getD, hj]
theorem info46 : (Try.prog.info? 46).map (·.size) = some 32 := by kernel_rfl
set_option maxHeartbeats 16000000 in
set_option maxRecDepth 100000 in
theorem dhash_calls (K : List Int) (base : Nat) (P0 : Nat → Prop) (A : Option Addr) (c : Nat) (d : List Int) (w : World) (hK : KT K w) (hp : Kd.V (Kd.int .u8) 5 w base P0 (.slice A d.length c) d) (hP : ∀ k, P0 k → k < w.heap.size) (hb : Any d) (hl : d.length ≤ 6000000) :
    Calls Try.prog 19 #[.slice A d.length c] w fun e w' => e = .returned (.agg (nums .u8 (dsha K d)).toArray) ∧ Below w.heap.size w w' := by
  have HS1 := Lib.hid (fun (W : World) (hW : Below w.heap.size w W) => sum256_calls K base P0 A c d W (hK.of_block (hW.block _ hK.lt)) (Kd.V_step hp (fun k hk _ => hW.block k (hP k hk))) (fun k hk => Nat.lt_of_lt_of_le (hP k hk) hW.size) hb hl)
  have HS2 := Lib.hid (fun (W : World) (g : Nat) (hW : Below w.heap.size w W) (hg : W.heap[g]? = some (.cells (nums .u8 (sha K d)).toArray 29 (0, 0))) => (show Calls Try.prog 37 #[.slice (some ⟨g, 0, none⟩) 32 32] W fun e w' => e = .returned (.agg (nums .u8 (dsha K d)).toArray) ∧ Below W.heap.size W w' from by
    have := sum256_calls K 0 (fun k => k = g) (some ⟨g, 0, none⟩) 32 (sha K d) W (hK.of_block (hW.block _ hK.lt)) (by have := blk_V hg (by rw [sha_len]; omega) 0; rwa [sha_len] at this ⊢) (fun k hk => by rw [hk]; exact blk_lt hg) (any _) (by rw [sha_len]; omega)
    rw [sha_len] at this
    exact this))
  clear hK hp hP hb hl
  go_enter Try.func19, Try.ntmps19
  go_upto_region 1 with fail
  refine wp_world (fun W0 hW => ?_)
  obtain ⟨c0, hc, hc1⟩ : ∃ c0 : Array Value, w.alloc (.cells c0 46) = W0 ∧ c0 = (nums .u8 (List.replicate 32 0)).toArray := ⟨_, hW, by kernel_rfl⟩
  have HB0 := Lib.hid (show Below w.heap.size w W0 from hc ▸ below_alloc (Below.refl _ _) _)
  have G2 := Lib.hid (show W0.heap[w.heap.size]? = some (.cells c0 46 (0, 0)) ∧ c0.size = 32 from ⟨hc ▸ heap_alloc_new _ _, by rw [hc1]; rfl⟩)
  clear hW hc hc1
  go_upto_region 2 with (first
    | (go_at_call 37; go_must ((with_reducible refine (HS1.out W0 HB0.out).mono ?_); rintro e w1 ⟨rfl, h1⟩; have H1 := Aside0.mk h1; clear h1))
    | (refine wpList_store_row rfl 29 (.tmp 3) (.tmp 5) rfl w1.heap.size (nums .u8 (sha K d)).toArray rfl rfl 29 _ (heap_alloc_new _ _) ?aS ?aL ?aO ?_; go_must (case aS => rw [List.size_toArray, nums_length, sha_len]; exact info32); go_must (case aL => exact Eq.trans (b := 32) (by rfl) (by rw [List.size_toArray, nums_length, sha_len])); go_must (case aO => exact all_oneCell_toArray (nums_one _))))
  refine wp_world (fun W2 hW => ?_)
  have HB2 := Lib.hid (show Below w1.heap.size w1 W2 from hW ▸ below_setRow (below_alloc (Below.refl _ _) _) (Nat.le_refl _) _)
  have G3 := Lib.hid (show W2.heap[w1.heap.size]? = some (.cells (nums .u8 (sha K d)).toArray 29 (0, 0)) from hW ▸ setRow_heap _ _ _ _ _ _ (heap_alloc_new _ _))
  have HBW := Lib.hid (show Below w.heap.size w W2 from below_step (below_step HB0.out H1.out) HB2.out)
  have HG2 := Lib.hid (show W2.heap[w.heap.size]? = some (.cells c0 46 (0, 0)) from (HB2.out.block _ (Nat.lt_of_lt_of_le (blk_lt G2.out.1) H1.out.size)).trans ((H1.out.block _ (blk_lt G2.out.1)).trans G2.out.1))
  clear hW
  go_wp2_with (first
    | (go_at_call 37; go_must ((with_reducible refine (HS2.out W2 w1.heap.size HBW.out G3.out).mono ?_); rintro e w4 ⟨rfl, h1⟩; have H4 := Aside0.mk h1; clear h1))
    | (refine wpList_store_row rfl 46 (.tmp 2) (.tmp 7) rfl w.heap.size (nums .u8 (dsha K d)).toArray rfl rfl 46 _ ((H4.out.block _ (blk_lt HG2.out)).trans HG2.out) ?aS ?aL ?aO ?_; go_must (case aS => rw [List.size_toArray, nums_length, dsha, sha_len]; exact info46); go_must (case aL => exact Eq.trans (b := 32) G2.out.2 (by rw [List.size_toArray, nums_length, dsha, sha_len])); go_must (case aO => exact all_oneCell_toArray (nums_one _))))
  refine bodyPost_ret (results_cell_row (by rfl) _ _ w.heap.size 46 (nums .u8 (dsha K d)).toArray (0, 0) _ (by rfl) (setRow_heap _ _ _ _ _ _ ((H4.out.block _ (blk_lt HG2.out)).trans HG2.out)) Try.underlying46 (by rfl) (by rw [List.size_toArray, nums_length, dsha, sha_len]; exact info46)) (by rfl) ?_
  exact ⟨rfl, below_setRow (below_step HBW.out H4.out) (Nat.le_refl _) _⟩
set_option maxHeartbeats 16000000 in
set_option maxRecDepth 100000 in
theorem hash_calls (K : List Int) (base : Nat) (P0 : Nat → Prop) (A : Option Addr) (c : Nat) (d : List Int) (w : World) (hK : KT K w) (hp : Kd.V (Kd.int .u8) 5 w base P0 (.slice A d.length c) d) (hP : ∀ k, P0 k → k < w.heap.size) (hb : Any d) (hl : d.length ≤ 6000000) :
    Calls Try.prog 8 #[.slice A d.length c] w fun e w' => e = .returned (.agg (nums .u8 (dsha K d)).toArray) ∧ Below w.heap.size w w' := by
  have HS1 := Lib.hid (fun (W : World) (hW : Below w.heap.size w W) => dhash_calls K base P0 A c d W (hK.of_block (hW.block _ hK.lt)) (Kd.V_step hp (fun k hk _ => hW.block k (hP k hk))) (fun k hk => Nat.lt_of_lt_of_le (hP k hk) hW.size) hb hl)
  clear hK hp hP hb hl
  go_enter Try.func8, Try.ntmps8
  go_upto_region 1 with fail
  refine wp_world (fun W0 hW => ?_)
  obtain ⟨c0, hc, hc1⟩ : ∃ c0 : Array Value, w.alloc (.cells c0 29) = W0 ∧ c0 = (nums .u8 (List.replicate 32 0)).toArray := ⟨_, hW, by kernel_rfl⟩
  have HB0 := Lib.hid (show Below w.heap.size w W0 from hc ▸ below_alloc (Below.refl _ _) _)
  have G2 := Lib.hid (show W0.heap[w.heap.size]? = some (.cells c0 29 (0, 0)) ∧ c0.size = 32 from ⟨hc ▸ heap_alloc_new _ _, by rw [hc1]; rfl⟩)
  clear hW hc hc1
  go_wp2_with (first
    | (go_at_call 19; go_must ((with_reducible refine (HS1.out W0 HB0.out).mono ?_); rintro e w4 ⟨rfl, h1⟩; have H4 := Aside0.mk h1; clear h1))
    | (refine wpList_store_row rfl 29 (.tmp 2) (.tmp 4) rfl w.heap.size (nums .u8 (dsha K d)).toArray rfl rfl 29 _ ((H4.out.block _ (blk_lt G2.out.1)).trans G2.out.1) ?aS ?aL ?aO ?_; go_must (case aS => rw [List.size_toArray, nums_length, dsha, sha_len]; exact info32); go_must (case aL => exact Eq.trans (b := 32) G2.out.2 (by rw [List.size_toArray, nums_length, dsha, sha_len])); go_must (case aO => exact all_oneCell_toArray (nums_one _))))
  refine bodyPost_ret (results_cell_row (by rfl) _ _ w.heap.size 29 (nums .u8 (dsha K d)).toArray (0, 0) _ (by rfl) (setRow_heap _ _ _ _ _ _ ((H4.out.block _ (blk_lt G2.out.1)).trans G2.out.1)) Try.underlying29 (by rfl) (by rw [List.size_toArray, nums_length, dsha, sha_len]; exact info32)) (by rfl) ?_
  exact ⟨rfl, below_setRow (below_step HB0.out H4.out) (Nat.le_refl _) _⟩
end Go.Proofs.Ytkmlpoggbfbnaaa.Sh
