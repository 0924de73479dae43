/-
  SHA-256: blocks of a text, plainly; a digest's cells.
  A digest takes bytes in: Digest.Write.
  Numbers as bytes, the greatest first, put into a row.
  A digest begun anew.
-/
import Derived.Test.YtkmlpoggbfbnaaaSh2
import Derived.Laws.CopyRow
import Derived.Laws.IdiomCopy
import Derived.Laws.CopyOwn
import Derived.Laws.Tables
import Derived.Laws.Rows
import Derived.Deep.Cut
import Derived.Deep.CutRange
import Derived.Deep.DeepCutAuto
namespace Go.Proofs.Ytkmlpoggbfbnaaa.Sh
open Go.RowKit Go.Proofs.YtkmlpoggbfbnaaaW.PrintWords Go.Proofs.YtkmlpoggbfbnaaaW.PrintLast Go.Proofs.Ytkmlpoggbfbnaaa.Reg Go.Proofs.Ytkmlpoggbfbnaaa.Tok
set_option linter.unusedSimpArgs false
set_option linter.unusedVariables false

theorem sch_congr {p q : Nat → Int} (h : ∀ k, k < 64 → p k = q k) : ∀ i, sch p i = sch q i
  | 0 => rfl
  | i + 1 => by
    rw [sch, sch, sch_congr h i]
    by_cases hi : i < 16
    · rw [if_pos hi, if_pos hi]
      unfold be32
      rw [h (4 * i) (by omega), h (4 * i + 1) (by omega), h (4 * i + 2) (by omega), h (4 * i + 3) (by omega)]
    · rw [if_neg hi, if_neg hi]
theorem rounds_congr {p q : Nat → Int} (h : ∀ k, k < 64 → p k = q k) (K : List Int) (s : H8) : ∀ i, rounds K p s i = rounds K q s i
  | 0 => rfl
  | i + 1 => by rw [rounds, rounds, rounds_congr h K s i, sch_congr h]
theorem comp_congr {p q : Nat → Int} (h : ∀ k, k < 64 → p k = q k) (K : List Int) (s : H8) : comp K s p = comp K s q := by
  unfold comp
  rw [rounds_congr h]
/-- Nothing is asked of the bytes. -/
def Any (l : List Int) : Prop := ∀ x, x ∈ l → True
theorem any (l : List Int) : Any l := fun _ _ => trivial
theorem Any.take {l : List Int} (h : Any l) (i : Nat) : Any (l.take i) := any _
theorem Any.drop {l : List Int} (h : Any l) (i : Nat) : Any (l.drop i) := any _
/-- Only the bytes of the blocks count. -/
theorem blks_congr (K : List Int) (s : H8) {l l' : List Int} : ∀ (m : Nat), (∀ k, k < 64 * m → l.getD k 0 = l'.getD k 0) → blks K s l m = blks K s l' m
  | 0, _ => rfl
  | m + 1, h => by
    rw [blks, blks, blks_congr K s m (fun k hk => h k (by omega))]
    exact comp_congr (fun k hk => congrArg IntKind.u32.wrap (h (64 * m + k) (by omega))) K _
/-- Blocks, and blocks behind them. -/
theorem blks_add (K : List Int) (s : H8) (l : List Int) (q : Nat) : ∀ m, blks K s l (q + m) = blks K (blks K s l q) (l.drop (64 * q)) m
  | 0 => rfl
  | m + 1 => by
    rw [← Nat.add_assoc, blks, blks, blks_add K s l q m]
    refine comp_congr (fun k hk => congrArg IntKind.u32.wrap ?_) K _
    simp only [List.getD_eq_getElem?_getD, List.getElem?_drop]
    congr 2
    omega
theorem getD_left {l d : List Int} {k : Nat} (h : k < l.length) : (l ++ d).getD k 0 = l.getD k 0 := by
  simp only [List.getD_eq_getElem?_getD, List.getElem?_append_left h]
theorem blks_left (K : List Int) (s : H8) (l d : List Int) (m : Nat) (h : 64 * m ≤ l.length) : blks K s (l ++ d) m = blks K s l m :=
  blks_congr K s m fun k hk => getD_left (by omega)

/-- A digest's cells. -/
def dcs (s : H8) (X : List Int) (nx n : Int) : Array Value := (([Value.int .u32 s.a, .int .u32 s.b, .int .u32 s.c, .int .u32 s.d, .int .u32 s.e, .int .u32 s.f, .int .u32 s.g, .int .u32 s.h] : List Value) ++ nums .u8 X ++ ([Value.int .i64 nx, .int .u64 n, .bool false] : List Value)).toArray
theorem dcs_at (s : H8) (X : List Int) (nx n : Int) : s.at (dcs s X nx n) := ⟨rfl, rfl, rfl, rfl, rfl, rfl, rfl, rfl⟩
theorem dcs_into (s t : H8) (X : List Int) (nx n : Int) : t.into (dcs s X nx n) = dcs t X nx n := by
  unfold H8.into dcs
  simp
theorem dcs_size (s : H8) (X : List Int) (nx n : Int) (hX : X.length = 64) : (dcs s X nx n).size = 75 := by
  simp [dcs, nums_length, hX]
theorem dcs_x (s : H8) (X : List Int) (nx n : Int) (j : Nat) (h : j < X.length) : (dcs s X nx n)[8 + j]? = some (.int .u8 (X.getD j 0)) := by
  unfold dcs
  rw [List.getElem?_toArray, List.append_assoc, List.getElem?_append_right (by simp), List.getElem?_append_left (by simp [nums_length]; omega)]
  simp [nums, List.getD_eq_getElem?_getD, h]
theorem dcs_nx (s : H8) (X : List Int) (nx n : Int) (hX : X.length = 64) : (dcs s X nx n)[72]? = some (.int .i64 nx) := by
  unfold dcs
  rw [List.getElem?_toArray, List.getElem?_append_right (by simp [nums_length, hX])]
  simp [nums_length, hX]
theorem dcs_n (s : H8) (X : List Int) (nx n : Int) (hX : X.length = 64) : (dcs s X nx n)[73]? = some (.int .u64 n) := by
  unfold dcs
  rw [List.getElem?_toArray, List.getElem?_append_right (by simp [nums_length, hX])]
  simp [nums_length, hX]
theorem dcs_b (s : H8) (X : List Int) (nx n : Int) (hX : X.length = 64) : (dcs s X nx n)[74]? = some (.bool false) := by
  unfold dcs
  rw [List.getElem?_toArray, List.getElem?_append_right (by simp [nums_length, hX])]
  simp [nums_length, hX]
theorem dcs_setnx (s : H8) (X : List Int) (nx n m : Int) (hX : X.length = 64) : (dcs s X nx n).setIfInBounds 72 (.int .i64 m) = dcs s X m n := by
  unfold dcs
  rw [List.setIfInBounds_toArray, List.set_append_right _ _ (by simp [nums_length, hX])]
  simp [nums_length, hX]
theorem dcs_setn (s : H8) (X : List Int) (nx n m : Int) (hX : X.length = 64) : (dcs s X nx n).setIfInBounds 73 (.int .u64 m) = dcs s X nx m := by
  unfold dcs
  rw [List.setIfInBounds_toArray, List.set_append_right _ _ (by simp [nums_length, hX])]
  simp [nums_length, hX]
theorem mid_put (H Y T D : List Value) (r n : Nat) (h8 : H.length = 8) (hY : Y.length = 64) (h : r + n ≤ 64) :
    (H ++ Y ++ T).take (8 + r) ++ D ++ (H ++ Y ++ T).drop (8 + r + n) = H ++ (Y.take r ++ D ++ Y.drop (r + n)) ++ T := by
  have e1 : (H ++ Y ++ T).take (8 + r) = H ++ Y.take r := by
    rw [List.append_assoc, ← h8, List.take_length_add_append, List.take_append_of_le_length (by omega)]
  have e2 : (H ++ Y ++ T).drop (8 + r + n) = Y.drop (r + n) ++ T := by
    rw [List.append_assoc, ← h8, Nat.add_assoc, List.drop_length_add_append, List.drop_append_of_le_length (by omega)]
  rw [e1, e2]
  simp [List.append_assoc]
/-- Bytes are put into the waiting ones. -/
theorem dcs_copy (s : H8) (X : List Int) (nx n : Int) (hX : X.length = 64) (r : Nat) (d : List Int) (h : r + d.length ≤ 64) :
    ((dcs s X nx n).toList.take (8 + r) ++ nums .u8 d ++ (dcs s X nx n).toList.drop (8 + r + (nums .u8 d).length)).toArray = dcs s (X.take r ++ d ++ X.drop (r + d.length)) nx n := by
  have e2 : nums .u8 (X.take r ++ d ++ X.drop (r + d.length)) = (nums .u8 X).take r ++ nums .u8 d ++ (nums .u8 X).drop (r + d.length) := by simp [nums, List.map_take, List.map_drop]
  unfold dcs
  rw [e2, nums_length]
  exact congrArg List.toArray (mid_put _ _ _ _ r d.length rfl (by rw [nums_length, hX]) h)
/-- The waiting bytes as a slice of the digest. -/
theorem dg_x {b : Nat} {s : H8} {X : List Int} {nx n : Int} {w : World} (h : Dg b (dcs s X nx n) w) (hX : X.length = 64) (base : Nat) :
    Kd.V (Kd.int .u8) 5 w base (fun k => k = b) (.slice (some ⟨b, 8, none⟩) X.length 64) X := by
  refine Kd.V_mk (by omega) ?_
  intro W' hW
  refine Kd.C_of_reads (d := (0 : Int)) (h1 := fun _ => rfl) ⟨rfl, by omega, fun _ => ⟨_, rfl, fun j hj => ?_⟩⟩
  have h2 : Dg b (dcs s X nx n) W' := (hW b rfl (blk_lt h)).trans h
  rw [Addr.add_mid]
  exact (blk_cell h2 (8 + j)).trans (dcs_x s X nx n j hj)
/-- SHA-256's eight numbers at the start. -/
def iv : H8 := ⟨1779033703, 3144134277, 1013904242, 2773480762, 1359893119, 2600822924, 528734635, 1541459225⟩
/-- A digest's cells when the bytes l have been taken in; n: their number as the digest tells it. -/
structure Sta (K l : List Int) (n : Int) (X : List Int) : Prop where
  len : X.length = 64
  by_ : Any X
  wait : X.take (l.length % 64) = l.drop (64 * (l.length / 64))
/-- The cells. -/
def cells (K l : List Int) (n : Int) (X : List Int) : Array Value := dcs (blks K iv l (l.length / 64)) X ((l.length % 64 : Nat) : Int) n
theorem Sta.copy {K l : List Int} {n : Int} {X d : List Int} (h : Sta K l n X) (hd : l.length % 64 + d.length < 64) (hb : Any d) :
    Sta K (l ++ d) n (X.take (l.length % 64) ++ d ++ X.drop (l.length % 64 + d.length)) ∧ cells K (l ++ d) n (X.take (l.length % 64) ++ d ++ X.drop (l.length % 64 + d.length)) = dcs (blks K iv l (l.length / 64)) (X.take (l.length % 64) ++ d ++ X.drop (l.length % 64 + d.length)) ((l.length % 64 + d.length : Nat) : Int) n := by
  have hl : (l ++ d).length = l.length + d.length := List.length_append
  have e1 : (l ++ d).length / 64 = l.length / 64 := by omega
  have e2 : (l ++ d).length % 64 = l.length % 64 + d.length := by omega
  have h3 : (X.take (l.length % 64)).length = l.length % 64 := by rw [List.length_take, h.len]; omega
  refine ⟨⟨?_, ?_, ?_⟩, ?_⟩
  · simp only [List.length_append, h3, List.length_drop, h.len]; omega
  · intro x hx
    rcases List.mem_append.1 hx with hx | hx
    · rcases List.mem_append.1 hx with hx | hx
      · exact h.by_ x (List.mem_of_mem_take hx)
      · exact hb x hx
    · exact h.by_ x (List.mem_of_mem_drop hx)
  · rw [e1, e2, List.take_append_of_le_length (by rw [List.length_append, h3]; omega), List.take_of_length_le (by rw [List.length_append, h3]; omega), h.wait, List.drop_append_of_le_length (by omega)]
  · unfold cells
    rw [e1, e2, blks_left _ _ _ _ _ (by omega)]
theorem Sta.full {K l : List Int} {n : Int} {X d : List Int} (h : Sta K l n X) (hd : l.length % 64 + d.length = 64) (hb : Any d) :
    Sta K (l ++ d) n (X.take (l.length % 64) ++ d) ∧ cells K (l ++ d) n (X.take (l.length % 64) ++ d) = dcs (blks K (blks K iv l (l.length / 64)) (X.take (l.length % 64) ++ d) 1) (X.take (l.length % 64) ++ d) 0 n := by
  have hl : (l ++ d).length = l.length + d.length := List.length_append
  have e1 : (l ++ d).length / 64 = l.length / 64 + 1 := by omega
  have e2 : (l ++ d).length % 64 = 0 := by omega
  have h3 : (X.take (l.length % 64)).length = l.length % 64 := by rw [List.length_take, h.len]; omega
  refine ⟨⟨by rw [List.length_append, h3]; exact hd, ?_, ?_⟩, ?_⟩
  · intro x hx
    rcases List.mem_append.1 hx with hx | hx
    · exact h.by_ x (List.mem_of_mem_take hx)
    · exact hb x hx
  · rw [e2, List.take_zero, List.drop_eq_nil_of_le (by omega)]
  · unfold cells
    rw [e1, e2, blks_add, blks_left _ _ _ _ _ (by omega), h.wait, List.drop_append_of_le_length (by omega)]
    rfl
theorem Sta.blocks {K l : List Int} {n : Int} {X d : List Int} (h : Sta K l n X) (h0 : l.length % 64 = 0) (m : Nat) (hd : d.length = 64 * m) :
    Sta K (l ++ d) n X ∧ cells K (l ++ d) n X = dcs (blks K (blks K iv l (l.length / 64)) d m) X 0 n := by
  have hl : (l ++ d).length = l.length + d.length := List.length_append
  have e1 : (l ++ d).length / 64 = l.length / 64 + m := by omega
  have e2 : (l ++ d).length % 64 = 0 := by omega
  refine ⟨⟨h.len, h.by_, ?_⟩, ?_⟩
  · rw [e2, List.take_zero, List.drop_eq_nil_of_le (by omega)]
  · unfold cells
    rw [e1, e2, blks_add, blks_left _ _ _ _ _ (by omega), show 64 * (l.length / 64) = l.length by omega, List.drop_left]
    rfl
theorem cells_zero {K l : List Int} {n : Int} {X : List Int} (h0 : l.length % 64 = 0) : cells K l n X = dcs (blks K iv l (l.length / 64)) X 0 n := by
  unfold cells
  rw [h0]
  rfl
end Go.Proofs.Ytkmlpoggbfbnaaa.Sh
namespace Go.Proofs.Ytkmlpoggbfbnaaa.Sh
open Go.RowKit Go.Proofs.YtkmlpoggbfbnaaaW.PrintWords Go.Proofs.YtkmlpoggbfbnaaaW.PrintLast Go.Proofs.Ytkmlpoggbfbnaaa.Reg Go.Proofs.Ytkmlpoggbfbnaaa.Tok
set_option linter.unusedSimpArgs false
set_option linter.unusedVariables false

theorem u8_size : (Try.prog.info? 5).map (·.size) = some 1 := by
  obtain ⟨i0, hi, -, hz1, -⟩ := info_parts Tok.info_u8
  rw [hi]; simp [hz1]
theorem nums_one (d : List Int) : ∀ v ∈ nums .u8 d, v.oneCell' = true := by
  intro v hv
  obtain ⟨x, _, rfl⟩ := List.mem_map.1 hv
  rfl
theorem C_lies {w : World} {A : Option Addr} {d : List Int} (h : Kd.C (Kd.int .u8) w A d.length d) (hd : 0 < d.length) : ∃ a, A = some a ∧ Lies w a (nums .u8 d) := by
  obtain ⟨_, _, h3⟩ := h
  obtain ⟨a, rfl, hc⟩ := h3 hd
  refine ⟨a, rfl, fun j v hj => ?_⟩
  have hjl : j < d.length := by have := (List.getElem?_eq_some_iff.1 hj).1; rwa [nums_length] at this
  obtain ⟨c, hcl, hK, hcc⟩ := hc j d[j] (List.getElem?_eq_getElem hjl)
  have hK' : c = [.int .u8 d[j]] := hK
  subst hK'
  have := hcc 0 (.int .u8 d[j]) rfl
  have hv : v = .int .u8 d[j] := by
    have : (nums .u8 d)[j]? = some (.int .u8 d[j]) := by simp [nums, hjl]
    rw [this] at hj; exact (Option.some.inj hj).symm
  rw [hv]
  rwa [show j * (Kd.int .u8).sz + 0 = j from Nat.mul_one _] at this
theorem on_row {b : Nat} {w : World} (R : Array Value) : On b w (w.setRow b R) :=
  ⟨below_setRow (Below.refl _ _) (Nat.le_refl _) R, by rw [size_setRow]; exact Nat.le_refl _, fun i _ hne _ => setRow_other w b i R hne⟩
/-- A copy into the waiting bytes. -/
theorem dcopy {b : Nat} {s : H8} {X : List Int} {nx n : Int} {w : World} (h : Dg b (dcs s X nx n) w) (hX : X.length = 64) (r k : Nat) (hr : r ≤ 64) (A : Option Addr) (c : Nat) (d : List Int) (hC : Kd.C (Kd.int .u8) w A d.length d) (hk : k = Nat.min d.length (64 - r)) :
    ∃ W', (∀ ty, (Builtin.copy_ #[40, 40] ty #[.slice (some ⟨b, 8 + r, none⟩) (64 - r) (64 - r), .slice A d.length c]).run Try.prog w = .ok (goInt k) W') ∧ Dg b (dcs s (X.take r ++ d.take k ++ X.drop (r + k)) nx n) W' ∧ On b w W' := by
  rcases Nat.eq_zero_or_pos k with h0 | h0
  · subst h0
    refine ⟨w, fun ty => run_copy_none _ _ _ _ 5 _ _ _ _ _ _ Try.underlying40 u8_size hk.symm, ?_, On.refl _ _⟩
    rw [List.take_zero, List.append_nil, Nat.add_zero, List.take_append_drop]
    exact h
  · have hd : 0 < d.length := by rw [hk] at h0; exact Nat.lt_of_lt_of_le h0 (Nat.min_le_left _ _)
    have hkd : k ≤ d.length := hk ▸ Nat.min_le_left _ _
    have hkr : k ≤ 64 - r := hk ▸ Nat.min_le_right _ _
    obtain ⟨a, rfl, hL⟩ := C_lies hC hd
    have hl : (nums .u8 (d.take k)).length = k := by rw [nums_length, List.length_take]; omega
    have hrun := fun ty => run_copy_row (P := Try.prog) w 40 40 ty 5 b (8 + r) (64 - r) (64 - r) a d.length c (dcs s X nx n) 111 (nums .u8 (d.take k)) Try.underlying40 u8_size h (by rw [hl]; exact hk) (fun j v hj => hL j v (by
      have hjk : j < k := by have := (List.getElem?_eq_some_iff.1 hj).1; omega
      simp only [nums, List.map_take] at hj ⊢
      rwa [List.getElem?_take_of_lt hjk] at hj)) (by rw [hl, dcs_size _ _ _ _ hX]; omega) (nums_one _)
    rw [hl] at hrun
    have e := dcs_copy s X nx n hX r (d.take k) (by rw [List.length_take]; omega)
    rw [hl] at e
    have ek : (d.take k).length = k := by rw [List.length_take]; omega
    rw [ek] at e
    rw [e] at hrun
    exact ⟨_, hrun, setRow_heap w b _ _ _ _ h, on_row _⟩
/-- Whole blocks are taken in. -/
theorem taken (K : List Int) (b : Nat) (s : H8) (X : List Int) (nx n : Int) (base : Nat) (P0 : Nat → Prop) (A : Option Addr) (c : Nat) (l : List Int) (m : Nat) (w : World) (hK : KT K w) (hd : Dg b (dcs s X nx n) w)
    (hp : Kd.V (Kd.int .u8) 5 w base P0 (.slice A l.length c) l) (hby : Any l) (hl : l.length = 64 * m) (hm : m ≤ 100000) :
    Calls Try.prog 89 #[.pointer (some ⟨b, 0, none⟩), .slice A l.length c] w fun e w' => (∃ u, e = .returned u) ∧ Dg b (dcs (blks K s l m) X nx n) w' ∧ On b w w' := by
  have HB := Lib.hid (block_calls K b (dcs s X nx n) s P0 A c l m w hK hd (dcs_at _ _ _ _) hp hl hm)
  rw [dcs_into] at HB
  clear hK hd hp hby hl hm
  go_enter Try.func89, Try.ntmps89
  go_wp2_with (go_at_call 52; go_must ((with_reducible refine HB.out.mono ?_); rintro e w1 ⟨⟨u1, rfl⟩, h1, h2⟩; have H1 := Aside0.mk h1; have H2 := Aside0.mk h2; clear h1 h2))
  first | go_end0 | refine bodyPost_ret (results_none rfl _ _ _) rfl ?_
  exact ⟨⟨_, rfl⟩, H1.out, H2.out⟩
/-- The table stands where only a digest was written. -/
theorem KT.on {K : List Int} {b : Nat} {cs : Array Value} {w w' : World} (h : KT K w) (hd : Dg b cs w) (ho : On b w w') : KT K w' :=
  h.of_block (ho.2.2 _ h.lt (fun e => by
    obtain ⟨c, h1, _⟩ := h
    subst e
    rw [Dg, h1] at hd
    injection hd with hd
    injection hd with _ hd
    cases hd) (by simp))
theorem V_on {b base : Nat} {w w' : World} {P0 : Nat → Prop} {v : Value} {d : List Int} (h : Kd.V (Kd.int .u8) 5 w base P0 v d) (hP : ∀ k, P0 k → k ≠ b) (ho : On b w w') : Kd.V (Kd.int .u8) 5 w' base P0 v d :=
  Kd.V_step h fun k hk hlt => ho.2.2 k hlt (hP k hk) (by simp)
/-- What stands between the pieces of Write. -/
structure Mid (K : List Int) (b : Nat) (L : List Int) (N : Int) (w0 : World) (base : Nat) (P0 : Nat → Prop) (l1 d1 : List Int) (v : Value) (w : World) : Prop where
  all : l1 ++ d1 = L
  V : Kd.V (Kd.int .u8) 5 w base P0 v d1
  by_ : Any d1
  le : d1.length ≤ 6000000
  at0 : 0 < d1.length → l1.length % 64 = 0
  st : ∃ X, Sta K l1 N X ∧ Dg b (cells K l1 N X) w
  kt : KT K w
  on : On b w0 w
theorem and_high (a : Nat) (h : a < 2 ^ 64) : a &&& (2 ^ 64 - 1 - 63) = 64 * (a / 64) := by
  have e : (2 ^ 64 - 1 - 63 : Nat) = 2 ^ 6 * (2 ^ 58 - 1) := by decide
  have e2 : 64 * (a / 64) = 2 ^ 6 * (a >>> 6) := by rw [Nat.shiftRight_eq_div_pow]
  rw [e, e2]
  apply Nat.eq_of_testBit_eq
  intro i
  rw [Nat.testBit_and, Nat.testBit_two_pow_mul, Nat.testBit_two_pow_mul, Nat.testBit_two_pow_sub_one, Nat.testBit_shiftRight]
  by_cases h6 : 6 ≤ i
  · simp only [ge_iff_le, h6, decide_true, Bool.true_and]
    rw [show 6 + (i - 6) = i by omega]
    by_cases h64 : i - 6 < 58
    · simp [h64]
    · have : a.testBit i = false := Nat.testBit_lt_two_pow (Nat.lt_of_lt_of_le h (Nat.pow_le_pow_right (by decide) (by omega)))
      simp [this]
  · simp [h6]
theorem andNot64 (x : Nat) (h : x < 4611686018427387904) : Go.bits .andNot .i64 (x : Int) 63 = ((64 * (x / 64) : Nat) : Int) := by
  have hx : x % 2 ^ IntKind.i64.bits = x := Nat.mod_eq_of_lt (show x < 18446744073709551616 by omega)
  have := and_high x (by show x < 18446744073709551616; omega)
  have e1 : (BitVec.ofInt 64 (x : Int)).toNat = x := by rw [BitVec.ofInt_natCast, BitVec.toNat_ofNat]; exact Nat.mod_eq_of_lt (show x < 18446744073709551616 by omega)
  have e2 : (BitVec.ofInt 64 (63 : Int)).toNat = 63 := by decide
  show IntKind.i64.wrap ((BitVec.ofInt 64 (x : Int) &&& ~~~BitVec.ofInt 64 (63 : Int)).toNat : Int) = _
  rw [BitVec.toNat_and, BitVec.toNat_not, e1, e2, this, IntKind.wrap_i64]
  omega
/-- Whole blocks out of what is left. -/
theorem Mid.step {K : List Int} {b : Nat} {L : List Int} {N : Int} {w0 w : World} {base : Nat} {P0 : Nat → Prop} {l1 d1 : List Int} {A : Option Addr} {n1 c : Nat} (h : Mid K b L N w0 base P0 l1 d1 (.slice A n1 c) w) (hP : ∀ k, P0 k → k ≠ b) (h0 : l1.length % 64 = 0)
    (m : Nat) (M : Int) (hM : M = ((64 * m : Nat) : Int)) (hm : 64 * m ≤ d1.length) (hmm : m ≤ 100000) :
    n1 = d1.length ∧ (∀ W', (Instr.slice 40 (.slice A n1 c) none (some (.int .i64 M)) none).run Try.prog W' = .ok (.slice A (64 * m) c) W') ∧
    ∃ A2 m2 c2, (∀ W', (Instr.slice 40 (.slice A n1 c) (some (.int .i64 M)) none none).run Try.prog W' = .ok (.slice A2 m2 c2) W') ∧
    Calls Try.prog 89 #[.pointer (some ⟨b, 0, none⟩), .slice A (64 * m) c] w fun e w' => (∃ u, e = .returned u) ∧ Mid K b L N w0 base P0 (l1 ++ d1.take (64 * m)) (d1.drop (64 * m)) (.slice A2 m2 c2) w' := by
  have hn1 : n1 = d1.length := (Kd.V_at h.V).1
  subst hn1 hM
  obtain ⟨r1, v1⟩ := to_fact .i64 h.V (64 * m) hm
  obtain ⟨A2, m2, c2, e2, r2, v2⟩ := from_fact .i64 h.V (64 * m) hm
  obtain ⟨X, hS, hD⟩ := h.st
  have hl : (d1.take (64 * m)).length = 64 * m := by rw [List.length_take]; omega
  refine ⟨rfl, r1, A2, m2, c2, r2, ?_⟩
  rw [cells_zero h0] at hD
  have hb2 : Any (d1.take (64 * m)) := h.by_.take _
  have := taken K b _ X 0 N base P0 A c (d1.take (64 * m)) m w h.kt hD (by rw [hl]; exact v1) hb2 hl hmm
  rw [hl] at this
  refine this.mono ?_
  rintro e w' ⟨hu, h1, h2⟩
  obtain ⟨hs, hc⟩ := Sta.blocks hS h0 m hl
  refine ⟨hu, by rw [List.append_assoc, List.take_append_drop]; exact h.all, V_on v2 hP h2, h.by_.drop _, by have := h.le; rw [List.length_drop]; omega, fun _ => by rw [List.length_append, hl]; omega, ⟨X, hs, by rw [hc]; exact h1⟩, h.kt.on hD h2, h.on.trans h2⟩
set_option maxHeartbeats 16000000 in
set_option maxRecDepth 100000 in
theorem write_calls (K : List Int) (b : Nat) (l : List Int) (n : Int) (X : List Int) (base : Nat) (P0 : Nat → Prop) (A : Option Addr) (c : Nat) (d : List Int) (w : World) (hK : KT K w) (hS : Sta K l n X) (hD : Dg b (cells K l n X) w) (hn : 0 ≤ n ∧ n + d.length < 18446744073709551616)
    (hp : Kd.V (Kd.int .u8) 5 w base P0 (.slice A d.length c) d) (hP : ∀ k, P0 k → k ≠ b) (hb : Any d) (hl : d.length ≤ 6000000) :
    Calls Try.prog 86 #[.pointer (some ⟨b, 0, none⟩), .slice A d.length c] w fun e w' => e = .returned (.tuple #[.int .i64 d.length, .nilIface]) ∧
      (∃ X', Sta K (l ++ d) (n + d.length) X' ∧ Dg b (cells K (l ++ d) (n + d.length) X') w') ∧ On b w w' := by
  obtain ⟨N, hN⟩ : ∃ N : Int, n + d.length = N := ⟨_, rfl⟩
  have hw1 : IntKind.u64.wrap (d.length : Int) = d.length := by rw [IntKind.wrap_u64]; omega
  have hw2 : IntKind.u64.wrap (n + (d.length : Int)) = N := by rw [IntKind.wrap_u64]; omega
  have hw3 : (n + (d.length : Int)) % 18446744073709551616 = N := by omega
  obtain ⟨r, hr⟩ : ∃ r, l.length % 64 = r := ⟨_, rfl⟩
  have hr64 : r < 64 := by omega
  rw [hN]
  unfold cells at hD
  rw [hr] at hD
  have zn := dg_cell hD 73 (dcs_n _ _ _ _ hS.len)
  have fn := blk_frozen hD 73
  have hD1 := dg_set hD 73 (.int .u64 N)
  rw [dcs_setn _ _ _ _ _ hS.len] at hD1
  obtain ⟨W1, hW1⟩ : ∃ W', w.setCell ⟨b, 73, none⟩ (.int .u64 N) = W' := ⟨_, rfl⟩
  rw [hW1] at hD1
  have zx : W1.cell? ⟨b, 72, none⟩ = some (.int .i64 r) := dg_cell hD1 72 (dcs_nx _ _ _ _ hS.len)
  have HO1 := Lib.hid (show On b w W1 from hW1 ▸ (On.refl b w).set 73 _)
  obtain ⟨t, ht⟩ : ∃ t, decide ((0 : Int) < (r : Int)) = t := ⟨_, rfl⟩
  have ht2 : decide (0 < r) = t := by rw [← ht]; simp
  have HTT := Lib.hid ht
  have HD1 := Lib.hid hD1
  have HS := Lib.hid hS
  have HK := Lib.hid hK
  have HR := Lib.hid (And.intro hr hr64)
  have HDD := Lib.hid hD
  have HN := Lib.hid hN
  have HP := Lib.hid hp
  have HPP := Lib.hid hP
  have HBD := Lib.hid hb
  have HL := Lib.hid hl
  clear hK hS hD hp hP hb hr hr64 hn hN hD1 hl
  go_enter Try.func86, Try.ntmps86
  go_upto_if 23 with fail
  go_cut [1] (fun v1 wx => ∃ l1 d1, Mid K b (l ++ d) N w base P0 l1 d1 v1 wx)
  case first =>
    clear hw1 hw2 hw3 ht2 zn fn
    cases t with
    | false =>
      have HR0 := Lib.hid (show l.length % 64 = 0 from HR.out.1.trans (by have := of_decide_eq_false HTT.out; omega))
      go_wp2
      go_meet
      case rel => exact ⟨l, d, rfl, V_on HP.out HPP.out HO1.out, HBD.out, HL.out, fun _ => HR0.out, ⟨X, ⟨HS.out.len, HS.out.by_, HS.out.wait⟩, by unfold cells; rw [HR.out.1]; exact HD1.out⟩, HK.out.on HDD.out HO1.out, HO1.out⟩
    | true =>
      have hrp : 0 < r := by have := of_decide_eq_true HTT.out; omega
      obtain ⟨k, hk⟩ : ∃ k, Nat.min d.length (64 - r) = k := ⟨_, rfl⟩
      have hkd : k ≤ d.length := hk ▸ Nat.min_le_left _ _
      have hkr : k ≤ 64 - r := hk ▸ Nat.min_le_right _ _
      have hr64 := HR.out.2
      have hp1 : Kd.V (Kd.int .u8) 5 W1.drew base P0 (.slice A d.length c) d := V_on HP.out HPP.out HO1.out.drew
      obtain ⟨W2, hcp, hD2, hO2⟩ := dcopy (blk_drew HD1.out) HS.out.len r k (by omega) A c d (Kd.V_reads' hp1).2.2 hk.symm
      obtain ⟨X2, hX2⟩ : ∃ X', X.take r ++ d.take k ++ X.drop (r + k) = X' := ⟨_, rfl⟩
      rw [hX2] at hD2
      have hX2l : X2.length = 64 := by rw [← hX2]; simp only [List.length_append, List.length_take, List.length_drop, HS.out.len]; omega
      have zx2 : W2.cell? ⟨b, 72, none⟩ = some (.int .i64 r) := dg_cell hD2 72 (dcs_nx _ _ _ _ hX2l)
      have fx2 := blk_frozen hD2 72
      obtain ⟨W3, hW3⟩ : ∃ W', W2.setCell ⟨b, 72, none⟩ (.int .i64 ((r : Int) + (k : Int))) = W' := ⟨_, rfl⟩
      have hD3 := dg_set hD2 72 (.int .i64 ((r : Int) + (k : Int)))
      rw [dcs_setnx _ _ _ _ _ hX2l, hW3] at hD3
      have zx3 : W3.cell? ⟨b, 72, none⟩ = some (.int .i64 ((r : Int) + (k : Int))) := dg_cell hD3 72 (dcs_nx _ _ _ _ hX2l)
      have hwk : wrap64 ((r : Int) + (k : Int)) = (r : Int) + (k : Int) := w64 (by omega) (by omega)
      have p0 := eq_true (show (0 : Int) ≤ (r : Int) by omega)
      have p1 := eq_true (show (r : Int) ≤ 64 by omega)
      have p2 := eq_true (show r ≤ 64 by omega)
      have p3 := eq_false (show ¬ 64 = r by omega)
      obtain ⟨A2, m2, c2, hm2, hrun, hv2⟩ := from_fact .i64 hp1 k hkd
      have em2 : m2 = (d.drop k).length := by rw [hm2, List.length_drop]
      have ho3 : On b W1.drew W3 := hW3 ▸ hO2.set 72 _
      have HO3 := Lib.hid (show On b w W3 from HO1.out.drew.trans ho3)
      have hK3 : KT K W3 := HK.out.on HDD.out HO3.out
      have hV3 : Kd.V (Kd.int .u8) 5 W3 base P0 (.slice A2 m2 c2) (d.drop k) := V_on hv2 HPP.out ho3
      have HV3 := Lib.hid hV3
      have HD3 := Lib.hid hD3
      have HKD := Lib.hid (And.intro hkd (And.intro hkr (And.intro hrp hk)))
      have HX2 := Lib.hid (And.intro hX2l hX2)
      have hby2 : Any X2 := by
        rw [← hX2]
        intro x hx
        rcases List.mem_append.1 hx with hx | hx
        · rcases List.mem_append.1 hx with hx | hx
          · exact HS.out.by_ x (List.mem_of_mem_take hx)
          · exact HBD.out x (List.mem_of_mem_take hx)
        · exact HS.out.by_ x (List.mem_of_mem_drop hx)
      have hblk := taken K b _ X2 _ N 0 _ (some ⟨b, 8, none⟩) 64 X2 1 W3 hK3 hD3 (dg_x hD3 hX2l 0) hby2 (by rw [hX2l]) (by omega)
      rw [hX2l] at hblk
      have HBLK := Lib.hid hblk
      have hmid : ∀ W', On b W3 W' → Kd.V (Kd.int .u8) 5 W' base P0 (.slice A2 m2 c2) (d.drop k) := fun W' h => V_on HV3.out HPP.out h
      have HMID := Lib.hid hmid
      have HK3 := Lib.hid hK3
      have HEK : (d.take k).length = k := by rw [List.length_take]; omega
      have HFULL := Lib.hid (fun h : r + k = 64 => (show X2 = X.take r ++ d.take k ∧ (Sta K (l ++ d.take k) N X2 ∧ cells K (l ++ d.take k) N X2 = dcs (blks K (blks K iv l (l.length / 64)) X2 1) X2 0 N) from by
        have e : X2 = X.take r ++ d.take k := by rw [← hX2, h, List.drop_eq_nil_of_le (by rw [HS.out.len]; exact Nat.le_refl _), List.append_nil]
        have hf := Sta.full (K := K) (n := N) (d := d.take k) ⟨HS.out.len, HS.out.by_, HS.out.wait⟩ (by rw [HEK, HR.out.1]; exact h) (fun x hx => HBD.out x (List.mem_of_mem_take hx))
        rw [HR.out.1, ← e] at hf
        exact ⟨e, hf⟩))
      have HNOT := Lib.hid (fun h : r + k < 64 => (show Sta K (l ++ d.take k) N X2 ∧ cells K (l ++ d.take k) N X2 = dcs (blks K iv l (l.length / 64)) X2 ((r : Int) + (k : Int)) N from by
        have hf := Sta.copy (K := K) (n := N) (d := d.take k) ⟨HS.out.len, HS.out.by_, HS.out.wait⟩ (by rw [HEK, HR.out.1]; exact h) (fun x hx => HBD.out x (List.mem_of_mem_take hx))
        rw [HR.out.1, HEK, hX2] at hf
        exact hf))
      have HEKK := Lib.hid HEK
      clear hrp hk hkd hkr hr64 hp1 hD2 hO2 hX2 hX2l hD3 hv2 hm2 em2 ho3 hK3 hV3 hby2 hblk hmid HEK
      by_cases hfull : r + k = 64
      · have b0 : (((r : Int) + (k : Int)) == 64) = true := by rw [beq_iff_eq]; omega
        have HF := Lib.hid hfull
        clear hfull
        go_wp2
        refine start_ (n := 11) (S := fun w' => w'.cell? ⟨b, 72, none⟩ = some (.int .i64 r)) (ds := []) #[false, false, false, false, false, false, false, false, false, false, false] (by kernel_rfl) rfl rfl (zx) (fun hHeld => ?_)
        refine pure_ (i := 0) (N := some 24) (v := ?_) (a' := ?_) #[true, false, false, false, false, false, false, false, false, false, false] rfl rfl (by kernel_rfl) (fun _ _ _ h => h) (Or.inl ⟨by rfl, ?_⟩) ?_ ?_
        rotate_left
        · intro w'
          go_simp
          with_reducible rfl
        rotate_left
        · simp only [Act.put, List.setIfInBounds_toArray, List.set_cons_zero, List.set_cons_succ, i64_w, i32_w]
          rfl
        refine pure_ (i := 1) (N := some 25) (v := ?_) (a' := ?_) #[true, true, false, false, false, false, false, false, false, false, false] rfl rfl (by kernel_rfl) (fun _ _ _ h => h) (Or.inl ⟨by rfl, ?_⟩) ?_ ?_
        rotate_left
        · intro w'
          go_simp
          with_reducible rfl
        rotate_left
        · simp only [Act.put, List.setIfInBounds_toArray, List.set_cons_zero, List.set_cons_succ, i64_w, i32_w]
          rfl
        refine pure_ (i := 2) (N := some 26) (v := ?_) (a' := ?_) #[true, true, true, false, false, false, false, false, false, false, false] rfl rfl (by kernel_rfl) (fun _ _ _ h => h) (Or.inl ⟨by rfl, ?_⟩) ?_ ?_
        rotate_left
        · intro w'
          go_simp
          with_reducible rfl
        rotate_left
        · simp only [Act.put, List.setIfInBounds_toArray, List.set_cons_zero, List.set_cons_succ, i64_w, i32_w]
          rfl
        refine pure_ (i := 3) (N := some 27) (v := ?_) (a' := ?_) #[true, true, true, true, false, false, false, false, false, false, false] rfl rfl (by kernel_rfl) (fun _ _ _ h => h) (Or.inl ⟨by rfl, ?_⟩) ?_ ?_
        rotate_left
        · intro w'
          go_simp
          with_reducible rfl
        rotate_left
        · simp only [Act.put, List.setIfInBounds_toArray, List.set_cons_zero, List.set_cons_succ, i64_w, i32_w]
          rfl
        refine pure_ (i := 4) (N := some 28) (v := ?_) (a' := ?_) #[true, true, true, true, true, false, false, false, false, false, false] rfl rfl (by kernel_rfl) (fun _ _ _ h => h) (Or.inl ⟨by rfl, ?_⟩) ?_ ?_
        rotate_left
        · intro w'
          go_simp
          with_reducible rfl
        rotate_left
        · simp only [Act.put, List.setIfInBounds_toArray, List.set_cons_zero, List.set_cons_succ, i64_w, i32_w]
          rfl
        refine pure_ (i := 5) (N := some 29) (v := ?_) (a' := ?_) #[true, true, true, true, true, true, false, false, false, false, false] rfl rfl (by kernel_rfl) (fun _ _ _ h => h) (Or.inl ⟨by rfl, ?_⟩) ?_ ?_
        rotate_left
        · intro w'
          go_simp
          with_reducible rfl
        rotate_left
        · simp only [Act.put, List.setIfInBounds_toArray, List.set_cons_zero, List.set_cons_succ, i64_w, i32_w]
          rfl
        refine pure_ (i := 8) (N := some 32) (v := ?_) (a' := ?_) #[true, true, true, true, true, true, false, false, true, false, false] rfl rfl (by kernel_rfl) (fun _ _ _ h => h) (Or.inl ⟨by rfl, ?_⟩) ?_ ?_
        rotate_left
        · intro w'
          go_simp
          with_reducible rfl
        rotate_left
        · simp only [Act.put, List.setIfInBounds_toArray, List.set_cons_zero, List.set_cons_succ, i64_w, i32_w]
          rfl
        refine take_ (i := 6) (N := some 30) (v := ?_) (a' := ?_) #[true, true, true, true, true, true, true, false, true, false, false] rfl rfl (by kernel_rfl) (fun _ _ _ h => h) (Or.inl ⟨by rfl, ?_⟩) hHeld ?_ ?_
        rotate_left
        · intro w' s0
          go_simp
          with_reducible rfl
        rotate_left
        · simp only [Act.put, List.setIfInBounds_toArray, List.set_cons_zero, List.set_cons_succ, i64_w, i32_w]
          rfl
        refine pure_ (i := 7) (N := some 31) (v := ?_) (a' := ?_) #[true, true, true, true, true, true, true, true, true, false, false] rfl rfl (by kernel_rfl) (fun _ _ _ h => h) (Or.inl ⟨by rfl, ?_⟩) ?_ ?_
        rotate_left
        · intro w'
          go_simp
          with_reducible rfl
        rotate_left
        · simp only [Act.put, List.setIfInBounds_toArray, List.set_cons_zero, List.set_cons_succ, i64_w, i32_w]
          rfl
        refine one_ (i := 9) (N := some 33) #[true, true, true, true, true, true, true, true, true, true, false] rfl rfl (by kernel_rfl) (by decide) (fun K hK => ?_)
        refine value_ (w1 := ?_) (v := ?_) (by rfl) rfl ?_ ?_
        rotate_left 2
        · go_simp
          constructor
          · rfl
          · rfl
        refine hK.out _ _ (zx2) (fun hHeld => ?_)
        clear hK K
        refine norm_ (a' := ?_) ?_ ?_
        rotate_left
        · show Act.put _ (some 33) _ = _
          simp only [Act.put, List.setIfInBounds_toArray, List.set_cons_zero, List.set_cons_succ, i64_w, i32_w]
          rfl
        refine pure_ (i := 10) (N := some 6) (v := ?_) (a' := ?_) #[true, true, true, true, true, true, true, true, true, true, true] rfl rfl (by kernel_rfl) (fun _ _ _ h => h) (Or.inl ⟨by rfl, ?_⟩) ?_ ?_
        rotate_left
        · intro w'
          go_simp
          with_reducible rfl
        rotate_left
        · simp only [Act.put, List.setIfInBounds_toArray, List.set_cons_zero, List.set_cons_succ, i64_w, i32_w]
          rfl
        refine done_ (by kernel_rfl) ?_
        go_wp2_with (go_at_call 89; go_must ((with_reducible refine HBLK.out.mono ?_); rintro e W4 ⟨⟨u4, rfl⟩, h1, h2⟩; have zx4 := dg_cell h1 72 (dcs_nx _ _ _ _ HX2.out.1); have fx4 := blk_frozen h1 72; have h5 := dg_set h1 72 (.int .i64 0); rw [dcs_setnx _ _ _ _ _ HX2.out.1] at h5; have H5 := Aside0.mk h5; have O5 := Aside0.mk (h2.set 72 (.int .i64 0)); clear h1 h2 h5))
        go_meet
        case rel => exact ⟨l ++ d.take k, d.drop k, by rw [List.append_assoc, List.take_append_drop], HMID.out _ O5.out, HBD.out.drop k, by have := HL.out; rw [List.length_drop]; omega, fun _ => by have := HEKK.out; have := HR.out.1; have := HF.out; rw [List.length_append]; omega, ⟨X2, (HFULL.out HF.out).2.1, by rw [(HFULL.out HF.out).2.2]; exact H5.out⟩, HK3.out.on HD3.out O5.out, HO3.out.trans O5.out⟩
      · have b0 : (((r : Int) + (k : Int)) == 64) = false := by rw [beq_eq_false_iff_ne]; omega
        have HF := Lib.hid (show r + k < 64 from by have := HKD.out; have := HR.out.2; omega)
        have HZ := Lib.hid (show ¬ 0 < (d.drop k).length from by
          have h1 := HKD.out
          have h2 := HF.out
          rw [List.length_drop]
          have : k = d.length := by
            rcases Nat.le_total d.length (64 - r) with h | h
            · rw [← h1.2.2.2]; exact Nat.min_eq_left h
            · have : k = 64 - r := by rw [← h1.2.2.2]; exact Nat.min_eq_right h
              omega
          omega)
        clear hfull
        go_wp2
        refine start_ (n := 11) (S := fun w' => w'.cell? ⟨b, 72, none⟩ = some (.int .i64 r)) (ds := []) #[false, false, false, false, false, false, false, false, false, false, false] (by kernel_rfl) rfl rfl (zx) (fun hHeld => ?_)
        refine pure_ (i := 0) (N := some 24) (v := ?_) (a' := ?_) #[true, false, false, false, false, false, false, false, false, false, false] rfl rfl (by kernel_rfl) (fun _ _ _ h => h) (Or.inl ⟨by rfl, ?_⟩) ?_ ?_
        rotate_left
        · intro w'
          go_simp
          with_reducible rfl
        rotate_left
        · simp only [Act.put, List.setIfInBounds_toArray, List.set_cons_zero, List.set_cons_succ, i64_w, i32_w]
          rfl
        refine pure_ (i := 1) (N := some 25) (v := ?_) (a' := ?_) #[true, true, false, false, false, false, false, false, false, false, false] rfl rfl (by kernel_rfl) (fun _ _ _ h => h) (Or.inl ⟨by rfl, ?_⟩) ?_ ?_
        rotate_left
        · intro w'
          go_simp
          with_reducible rfl
        rotate_left
        · simp only [Act.put, List.setIfInBounds_toArray, List.set_cons_zero, List.set_cons_succ, i64_w, i32_w]
          rfl
        refine pure_ (i := 2) (N := some 26) (v := ?_) (a' := ?_) #[true, true, true, false, false, false, false, false, false, false, false] rfl rfl (by kernel_rfl) (fun _ _ _ h => h) (Or.inl ⟨by rfl, ?_⟩) ?_ ?_
        rotate_left
        · intro w'
          go_simp
          with_reducible rfl
        rotate_left
        · simp only [Act.put, List.setIfInBounds_toArray, List.set_cons_zero, List.set_cons_succ, i64_w, i32_w]
          rfl
        refine pure_ (i := 3) (N := some 27) (v := ?_) (a' := ?_) #[true, true, true, true, false, false, false, false, false, false, false] rfl rfl (by kernel_rfl) (fun _ _ _ h => h) (Or.inl ⟨by rfl, ?_⟩) ?_ ?_
        rotate_left
        · intro w'
          go_simp
          with_reducible rfl
        rotate_left
        · simp only [Act.put, List.setIfInBounds_toArray, List.set_cons_zero, List.set_cons_succ, i64_w, i32_w]
          rfl
        refine pure_ (i := 4) (N := some 28) (v := ?_) (a' := ?_) #[true, true, true, true, true, false, false, false, false, false, false] rfl rfl (by kernel_rfl) (fun _ _ _ h => h) (Or.inl ⟨by rfl, ?_⟩) ?_ ?_
        rotate_left
        · intro w'
          go_simp
          with_reducible rfl
        rotate_left
        · simp only [Act.put, List.setIfInBounds_toArray, List.set_cons_zero, List.set_cons_succ, i64_w, i32_w]
          rfl
        refine pure_ (i := 5) (N := some 29) (v := ?_) (a' := ?_) #[true, true, true, true, true, true, false, false, false, false, false] rfl rfl (by kernel_rfl) (fun _ _ _ h => h) (Or.inl ⟨by rfl, ?_⟩) ?_ ?_
        rotate_left
        · intro w'
          go_simp
          with_reducible rfl
        rotate_left
        · simp only [Act.put, List.setIfInBounds_toArray, List.set_cons_zero, List.set_cons_succ, i64_w, i32_w]
          rfl
        refine pure_ (i := 8) (N := some 32) (v := ?_) (a' := ?_) #[true, true, true, true, true, true, false, false, true, false, false] rfl rfl (by kernel_rfl) (fun _ _ _ h => h) (Or.inl ⟨by rfl, ?_⟩) ?_ ?_
        rotate_left
        · intro w'
          go_simp
          with_reducible rfl
        rotate_left
        · simp only [Act.put, List.setIfInBounds_toArray, List.set_cons_zero, List.set_cons_succ, i64_w, i32_w]
          rfl
        refine take_ (i := 6) (N := some 30) (v := ?_) (a' := ?_) #[true, true, true, true, true, true, true, false, true, false, false] rfl rfl (by kernel_rfl) (fun _ _ _ h => h) (Or.inl ⟨by rfl, ?_⟩) hHeld ?_ ?_
        rotate_left
        · intro w' s0
          go_simp
          with_reducible rfl
        rotate_left
        · simp only [Act.put, List.setIfInBounds_toArray, List.set_cons_zero, List.set_cons_succ, i64_w, i32_w]
          rfl
        refine pure_ (i := 7) (N := some 31) (v := ?_) (a' := ?_) #[true, true, true, true, true, true, true, true, true, false, false] rfl rfl (by kernel_rfl) (fun _ _ _ h => h) (Or.inl ⟨by rfl, ?_⟩) ?_ ?_
        rotate_left
        · intro w'
          go_simp
          with_reducible rfl
        rotate_left
        · simp only [Act.put, List.setIfInBounds_toArray, List.set_cons_zero, List.set_cons_succ, i64_w, i32_w]
          rfl
        refine one_ (i := 9) (N := some 33) #[true, true, true, true, true, true, true, true, true, true, false] rfl rfl (by kernel_rfl) (by decide) (fun K hK => ?_)
        refine value_ (w1 := ?_) (v := ?_) (by rfl) rfl ?_ ?_
        rotate_left 2
        · go_simp
          constructor
          · rfl
          · rfl
        refine hK.out _ _ (zx2) (fun hHeld => ?_)
        clear hK K
        refine norm_ (a' := ?_) ?_ ?_
        rotate_left
        · show Act.put _ (some 33) _ = _
          simp only [Act.put, List.setIfInBounds_toArray, List.set_cons_zero, List.set_cons_succ, i64_w, i32_w]
          rfl
        refine pure_ (i := 10) (N := some 6) (v := ?_) (a' := ?_) #[true, true, true, true, true, true, true, true, true, true, true] rfl rfl (by kernel_rfl) (fun _ _ _ h => h) (Or.inl ⟨by rfl, ?_⟩) ?_ ?_
        rotate_left
        · intro w'
          go_simp
          with_reducible rfl
        rotate_left
        · simp only [Act.put, List.setIfInBounds_toArray, List.set_cons_zero, List.set_cons_succ, i64_w, i32_w]
          rfl
        refine done_ (by kernel_rfl) ?_
        go_wp2
        go_meet
        case rel => exact ⟨l ++ d.take k, d.drop k, by rw [List.append_assoc, List.take_append_drop], HMID.out _ (On.refl _ _), HBD.out.drop k, by have := HL.out; rw [List.length_drop]; omega, fun h => absurd h HZ.out, ⟨X2, (HNOT.out HF.out).1, by rw [(HNOT.out HF.out).2]; exact HD3.out⟩, HK3.out, HO3.out⟩
  case rest =>
    clear hw1 hw2 hw3 ht ht2 zn fn zx HTT HD1 HS HK HR HDD HN HP HBD
    obtain ⟨l1, d1, hm0⟩ := hcut
    obtain ⟨A1, c1, rfl⟩ := Kd.V_slice hm0.V
    have HM := Lib.hid hm0
    obtain ⟨t2, ht2⟩ : ∃ t, decide ((64 : Int) ≤ (d1.length : Int)) = t := ⟨_, rfl⟩
    have ht3 : decide (64 ≤ d1.length) = t2 := by rw [← ht2, decide_eq_decide]; omega
    have HT2 := Lib.hid ht2
    clear hm0
    go_upto_if 61 with fail
    go_cut [1] (fun v1 wx => ∃ l2 d2, Mid K b (l ++ d) N w base P0 l2 d2 v1 wx ∧ d2.length < 64)
    case first =>
      clear ht2 ht3
      cases t2 with
      | false =>
        have HF := Lib.hid (show d1.length < 64 from by have := of_decide_eq_false HT2.out; omega)
        go_wp2
        go_meet
        case rel => exact ⟨l1, d1, HM.out, HF.out⟩
      | true =>
        have hge : 64 ≤ d1.length := by have := of_decide_eq_true HT2.out; omega
        have hle := HM.out.le
        obtain ⟨M0, hM0⟩ : ∃ M0 : Int, ((64 * (d1.length / 64) : Nat) : Int) = M0 := ⟨_, rfl⟩
        have hand : Go.bits .andNot .i64 (d1.length : Int) 63 = M0 := by rw [andNot64 _ (by omega), hM0]
        have HG := Lib.hid (And.intro hge hle)
        have HM0 := Lib.hid hM0
        clear hge hle hM0
        go_wp2
        go_loopg [1, 7] (d1.length / 64 + 1) (fun kq v1 v7 w' => ∃ (l2 d2 : List Int) (m2 : Nat) (M2 : Int) (A2 : Option Addr) (n2 c2 : Nat), v1 = .slice A2 n2 c2 ∧ v7 = .int .i64 M2 ∧ Aside0 (M2 = ((64 * m2 : Nat) : Int)) ∧ Aside0 (Mid K b (l ++ d) N w base P0 l2 d2 (.slice A2 n2 c2) w') ∧ Aside0 (l2.length % 64 = 0 ∧ 64 * m2 ≤ d2.length ∧ d2.length < 64 * m2 + 64 ∧ m2 < kq))
        case atStart => exact ⟨l1, d1, d1.length / 64, M0, A1, _, c1, rfl, rfl, ⟨HM0.out.symm⟩, ⟨HM.out⟩, ⟨HM.out.at0 (by have := HG.out; omega), by omega, by omega, by omega⟩⟩
        case round =>
          clear HM
          obtain ⟨l2, d2, m2, M2, A2, n2, c2, rfl, rfl, HM2, HMD, HA⟩ := hrel
          obtain ⟨k1, rfl⟩ : ∃ k1, gk = k1 + 1 := ⟨gk - 1, by have := HA.out; omega⟩
          by_cases cb : 65536 < M2
          · have b0 : decide ((65536 : Int) < M2) = true := decide_eq_true cb
            have hm2 := HM2.out
            have ha := HA.out
            have hle := HMD.out.le
            obtain ⟨e, r1, A3, m3, c3, r2, hcall⟩ := Mid.step HMD.out HPP.out ha.1 1024 65536 (by decide) (by omega) (by omega)
            rw [show 64 * 1024 = 65536 by rfl] at r1 hcall
            obtain ⟨M3, hM3⟩ : ∃ M3, wrap64 (M2 - 65536) = M3 := ⟨_, rfl⟩
            have hm3 : M3 = ((64 * (m2 - 1024) : Nat) : Int) := by rw [← hM3]; exact (w64 (by omega) (by omega)).trans (by omega)
            have HCALL := Lib.hid hcall
            have HM3 := Lib.hid hm3
            have HLT := Lib.hid (show 1024 < m2 by omega)
            clear hcall hm3 hm2 ha hle e cb
            go_wp2_with (go_at_call 89; go_must ((with_reducible refine HCALL.out.mono ?_); rintro e W4 ⟨⟨u4, rfl⟩, h1⟩; have HM4 := Aside0.mk h1; clear h1))
            go_roundg k1
            case measure => omega
            case rel => exact ⟨l2 ++ d2.take 65536, d2.drop 65536, m2 - 1024, M3, A3, m3, c3, rfl, by first | rfl | (rw [hM3]), ⟨HM3.out⟩, HM4, ⟨by have := HA.out; rw [List.length_append, List.length_take]; have := HLT.out; omega, by have := HA.out; have := HLT.out; rw [List.length_drop]; omega, by have := HA.out; have := HLT.out; rw [List.length_drop]; omega, by have := HA.out; have := HLT.out; omega⟩⟩
          · have b0 : decide ((65536 : Int) < M2) = false := decide_eq_false cb
            have ha := HA.out
            have hle := HMD.out.le
            obtain ⟨e, r1, A3, m3, c3, r2, hcall⟩ := Mid.step HMD.out HPP.out ha.1 m2 M2 HM2.out ha.2.1 (by omega)
            have HCALL := Lib.hid hcall
            have HRL := Lib.hid (show (d2.drop (64 * m2)).length < 64 by rw [List.length_drop]; omega)
            clear hcall ha hle e cb
            go_wp2_with (go_at_call 89; go_must ((with_reducible refine HCALL.out.mono ?_); rintro e W4 ⟨⟨u4, rfl⟩, h1⟩; have HM4 := Aside0.mk h1; clear h1))
            go_meet
            case rel => exact ⟨_, _, HM4.out, HRL.out⟩
    case rest =>
      clear ht2 ht3 HT2 HM
      obtain ⟨l2, d2, hm0, hlt⟩ := hcut
      obtain ⟨A2, c2, rfl⟩ := Kd.V_slice hm0.V
      obtain ⟨X2, hS2, hD2⟩ := hm0.st
      by_cases hz : 0 < d2.length
      · have b0 : decide ((0 : Int) < (d2.length : Int)) = true := decide_eq_true (by omega)
        have b1 : decide (0 < d2.length) = true := decide_eq_true hz
        have h0 := hm0.at0 hz
        rw [cells_zero h0] at hD2
        have hC := (Kd.V_reads' hm0.V).2.2
        obtain ⟨W5, hcp0, hD5, hO5⟩ := dcopy hD2 hS2.len 0 d2.length (by omega) A2 c2 d2 hC (Nat.min_eq_left (by omega)).symm
        have hcp := hcp0 3
        rw [Nat.add_zero, Nat.sub_zero] at hcp
        rw [List.take_length, List.take_zero, List.nil_append, Nat.zero_add] at hD5
        have hs := Sta.copy (K := K) (n := N) (d := d2) hS2 (by rw [h0]; omega) hm0.by_
        rw [h0, List.take_zero, List.nil_append, Nat.zero_add] at hs
        have fx5 := blk_frozen hD5 72
        have zx5 := dg_cell hD5 72 (dcs_nx _ _ _ _ hs.1.len)
        have hD6 := dg_set hD5 72 (.int .i64 (d2.length : Int))
        rw [dcs_setnx _ _ _ _ _ hs.1.len] at hD6
        have HEND := Lib.hid (show (∃ X', Sta K (l ++ d) N X' ∧ Dg b (cells K (l ++ d) N X') (W5.setCell ⟨b, 72, none⟩ (.int .i64 (d2.length : Int)))) ∧ On b w (W5.setCell ⟨b, 72, none⟩ (.int .i64 (d2.length : Int))) from by
          rw [← hm0.all]
          exact ⟨⟨_, hs.1, by rw [hs.2]; exact hD6⟩, (hm0.on.trans hO5).set 72 _⟩)
        clear hm0 hS2 hD2 hlt hz h0 hC hcp0 hD5 hO5 hs hD6
        go_wp2
        go_ret2
        exact ⟨by first | rfl | (simp; done), HEND.out.1, HEND.out.2⟩
      · have b0 : decide ((0 : Int) < (d2.length : Int)) = false := decide_eq_false (by omega)
        have b1 : decide (0 < d2.length) = false := decide_eq_false hz
        have he : d2 = [] := List.eq_nil_of_length_eq_zero (by omega)
        have HALL := Lib.hid (show l2 = l ++ d from by rw [← hm0.all, he, List.append_nil])
        have HEND := Lib.hid (And.intro hS2 (And.intro hD2 hm0.on))
        clear hm0 hS2 hD2 hlt hz he
        go_wp2
        go_ret2
        exact ⟨by first | rfl | (simp; done), ⟨X2, by rw [← HALL.out]; exact HEND.out.1, by rw [← HALL.out]; exact HEND.out.2.1⟩, HEND.out.2.2⟩
end Go.Proofs.Ytkmlpoggbfbnaaa.Sh
namespace Go.Proofs.Ytkmlpoggbfbnaaa.Sh
open Go.RowKit Go.Proofs.YtkmlpoggbfbnaaaW.PrintWords Go.Proofs.YtkmlpoggbfbnaaaW.PrintLast Go.Proofs.Ytkmlpoggbfbnaaa.Reg Go.Proofs.Ytkmlpoggbfbnaaa.Tok
set_option linter.unusedSimpArgs false
set_option linter.unusedVariables false

/-- Four bytes of a number, the greatest first. -/
def be4 (v : Int) : List Int := [v / 16777216 % 256, v / 65536 % 256, v / 256 % 256, v % 256]
/-- Eight. -/
def be8 (v : Int) : List Int := [v / 72057594037927936 % 256, v / 281474976710656 % 256, v / 1099511627776 % 256, v / 4294967296 % 256, v / 16777216 % 256, v / 65536 % 256, v / 256 % 256, v % 256]
/-- A row with bytes put into it. -/
def over (f : Nat → Value) (o : Nat) (l : List Int) : Nat → Value := fun j => if o ≤ j ∧ j < o + l.length then .int .u8 (l.getD (j - o) 0) else f j
set_option maxHeartbeats 4000000 in
theorem put32 (g t N o m c : Nat) (v : Int) (f : Nat → Value) (w : World) (h : w.rowIs g t N f) (hm : 4 ≤ m) (ho : o + 4 ≤ N) :
    Calls Try.prog 96 #[.slice (some ⟨g, o, none⟩) m c, .int .u32 v] w fun e w' => (∃ u, e = .returned u) ∧ w'.rowIs g t N (over f o (be4 v)) ∧ On g w w' := by
  have z0 := h.cell (show o < N by omega)
  have z1 := h.cell (show o + 1 < N by omega)
  have z2 := h.cell (show o + 2 < N by omega)
  have z3 := h.cell (show o + 3 < N by omega)
  have hf := h.frozen
  have p0 := eq_true (show (0 : Int) < (m : Int) by omega)
  have p1 := eq_true (show (1 : Int) < (m : Int) by omega)
  have p2 := eq_true (show (2 : Int) < (m : Int) by omega)
  have p3 := eq_true (show (3 : Int) < (m : Int) by omega)
  have p4 := eq_true (show 0 < m by omega)
  have p5 := eq_true (show 1 < m by omega)
  have p6 := eq_true (show 2 < m by omega)
  have p7 := eq_true (show 3 < m by omega)
  have f0 := hf o
  have HH := Lib.hid h
  clear hm h
  go_enter Try.func96, Try.ntmps96
  go_wp2
  first | go_end0 | refine bodyPost_ret (results_none rfl _ _ _) rfl ?_
  refine ⟨⟨_, rfl⟩, ((((HH.out.set o _).set (o + 1) _).set (o + 2) _).set (o + 3) _).congr (fun j hj => ?_), ((((On.refl g w).set o _).set (o + 1) _).set (o + 2) _).set (o + 3) _⟩
  unfold over be4
  simp only [List.length_cons, List.length_nil]
  by_cases h3 : j = o + 3
  · subst h3; rw [if_pos rfl, if_pos (by omega), show o + 3 - o = 3 by omega]; rfl
  · rw [if_neg h3]
    by_cases h2 : j = o + 2
    · subst h2; rw [if_pos rfl, if_pos (by omega), show o + 2 - o = 2 by omega]; rfl
    · rw [if_neg h2]
      by_cases h1 : j = o + 1
      · subst h1; rw [if_pos rfl, if_pos (by omega), show o + 1 - o = 1 by omega]; rfl
      · rw [if_neg h1]
        by_cases h0 : j = o
        · subst h0; rw [if_pos rfl, if_pos (by omega), Nat.sub_self]; rfl
        · rw [if_neg h0, if_neg (by omega)]
theorem put32_calls (g t N o m c : Nat) (v : Int) (f : Nat → Value) (w : World) (h : w.rowIs g t N f) (hm : 4 ≤ m) (ho : o + 4 ≤ N) :
    Calls Try.prog 93 #[.slice (some ⟨g, o, none⟩) m c, .int .u32 v] w fun e w' => (∃ u, e = .returned u) ∧ w'.rowIs g t N (over f o (be4 v)) ∧ On g w w' := by
  have HP := Lib.hid (put32 g t N o m c v f w h hm ho)
  clear h hm ho
  go_enter Try.func93, Try.ntmps93
  go_wp2_with (go_at_call 96; go_must ((with_reducible refine HP.out.mono ?_); rintro e w1 ⟨⟨u1, rfl⟩, h1, h2⟩; have H1 := Aside0.mk h1; have H2 := Aside0.mk h2; clear h1 h2))
  first | go_end0 | refine bodyPost_ret (results_none rfl _ _ _) rfl ?_
  exact ⟨⟨_, rfl⟩, H1.out, H2.out⟩
set_option maxHeartbeats 8000000 in
theorem put64 (g t N o m c : Nat) (v : Int) (f : Nat → Value) (w : World) (h : w.rowIs g t N f) (hm : 8 ≤ m) (ho : o + 8 ≤ N) :
    Calls Try.prog 95 #[.slice (some ⟨g, o, none⟩) m c, .int .u64 v] w fun e w' => (∃ u, e = .returned u) ∧ w'.rowIs g t N (over f o (be8 v)) ∧ On g w w' := by
  have p0 := eq_true (show (0 : Int) < (m : Int) by omega)
  have q0 := eq_true (show 0 < m by omega)
  have p1 := eq_true (show (1 : Int) < (m : Int) by omega)
  have q1 := eq_true (show 1 < m by omega)
  have p2 := eq_true (show (2 : Int) < (m : Int) by omega)
  have q2 := eq_true (show 2 < m by omega)
  have p3 := eq_true (show (3 : Int) < (m : Int) by omega)
  have q3 := eq_true (show 3 < m by omega)
  have p4 := eq_true (show (4 : Int) < (m : Int) by omega)
  have q4 := eq_true (show 4 < m by omega)
  have p5 := eq_true (show (5 : Int) < (m : Int) by omega)
  have q5 := eq_true (show 5 < m by omega)
  have p6 := eq_true (show (6 : Int) < (m : Int) by omega)
  have q6 := eq_true (show 6 < m by omega)
  have p7 := eq_true (show (7 : Int) < (m : Int) by omega)
  have q7 := eq_true (show 7 < m by omega)
  have zl := h.cell (show o + 7 < N by omega)
  have h0 := h
  have o0 := On.refl g w
  have z0 := h0.cell (show o < N by omega)
  have f0 := h0.frozen (o)
  obtain ⟨W1, hW1⟩ : ∃ W', w.setCell ⟨g, o, none⟩ (.int .u8 (v / 72057594037927936 % 256)) = W' := ⟨_, rfl⟩
  have h1 := hW1 ▸ h0.set (o) (.int .u8 (v / 72057594037927936 % 256))
  have o1 := hW1 ▸ o0.set (o) (.int .u8 (v / 72057594037927936 % 256))
  have z1 := h1.cell (show o + 1 < N by omega)
  have f1 := h1.frozen (o + 1)
  obtain ⟨W2, hW2⟩ : ∃ W', W1.setCell ⟨g, o + 1, none⟩ (.int .u8 (v / 281474976710656 % 256)) = W' := ⟨_, rfl⟩
  have h2 := hW2 ▸ h1.set (o + 1) (.int .u8 (v / 281474976710656 % 256))
  have o2 := hW2 ▸ o1.set (o + 1) (.int .u8 (v / 281474976710656 % 256))
  have z2 := h2.cell (show o + 2 < N by omega)
  have f2 := h2.frozen (o + 2)
  obtain ⟨W3, hW3⟩ : ∃ W', W2.setCell ⟨g, o + 2, none⟩ (.int .u8 (v / 1099511627776 % 256)) = W' := ⟨_, rfl⟩
  have h3 := hW3 ▸ h2.set (o + 2) (.int .u8 (v / 1099511627776 % 256))
  have o3 := hW3 ▸ o2.set (o + 2) (.int .u8 (v / 1099511627776 % 256))
  have z3 := h3.cell (show o + 3 < N by omega)
  have f3 := h3.frozen (o + 3)
  obtain ⟨W4, hW4⟩ : ∃ W', W3.setCell ⟨g, o + 3, none⟩ (.int .u8 (v / 4294967296 % 256)) = W' := ⟨_, rfl⟩
  have h4 := hW4 ▸ h3.set (o + 3) (.int .u8 (v / 4294967296 % 256))
  have o4 := hW4 ▸ o3.set (o + 3) (.int .u8 (v / 4294967296 % 256))
  have z4 := h4.cell (show o + 4 < N by omega)
  have f4 := h4.frozen (o + 4)
  obtain ⟨W5, hW5⟩ : ∃ W', W4.setCell ⟨g, o + 4, none⟩ (.int .u8 (v / 16777216 % 256)) = W' := ⟨_, rfl⟩
  have h5 := hW5 ▸ h4.set (o + 4) (.int .u8 (v / 16777216 % 256))
  have o5 := hW5 ▸ o4.set (o + 4) (.int .u8 (v / 16777216 % 256))
  have z5 := h5.cell (show o + 5 < N by omega)
  have f5 := h5.frozen (o + 5)
  obtain ⟨W6, hW6⟩ : ∃ W', W5.setCell ⟨g, o + 5, none⟩ (.int .u8 (v / 65536 % 256)) = W' := ⟨_, rfl⟩
  have h6 := hW6 ▸ h5.set (o + 5) (.int .u8 (v / 65536 % 256))
  have o6 := hW6 ▸ o5.set (o + 5) (.int .u8 (v / 65536 % 256))
  have z6 := h6.cell (show o + 6 < N by omega)
  have f6 := h6.frozen (o + 6)
  obtain ⟨W7, hW7⟩ : ∃ W', W6.setCell ⟨g, o + 6, none⟩ (.int .u8 (v / 256 % 256)) = W' := ⟨_, rfl⟩
  have h7 := hW7 ▸ h6.set (o + 6) (.int .u8 (v / 256 % 256))
  have o7 := hW7 ▸ o6.set (o + 6) (.int .u8 (v / 256 % 256))
  have z7 := h7.cell (show o + 7 < N by omega)
  have f7 := h7.frozen (o + 7)
  obtain ⟨W8, hW8⟩ : ∃ W', W7.setCell ⟨g, o + 7, none⟩ (.int .u8 (v % 256)) = W' := ⟨_, rfl⟩
  have h8 := hW8 ▸ h7.set (o + 7) (.int .u8 (v % 256))
  have o8 := hW8 ▸ o7.set (o + 7) (.int .u8 (v % 256))
  have HH := Lib.hid h8
  have HO := Lib.hid o8
  clear hm h h0 o0 h1 o1 h2 o2 h3 o3 h4 o4 h5 o5 h6 o6 h7 o7 h8 o8
  go_enter Try.func95, Try.ntmps95
  go_wp2
  first | go_end0 | refine bodyPost_ret (results_none rfl _ _ _) rfl ?_
  refine ⟨⟨_, rfl⟩, HH.out.congr (fun j hj => ?_), HO.out⟩
  unfold over be8
  simp only [List.length_cons, List.length_nil]
  by_cases e7 : j = o + 7
  · subst e7; rw [if_pos rfl, if_pos (by omega), show o + 7 - o = 7 by omega]; rfl
  · rw [if_neg e7]
    by_cases e6 : j = o + 6
    · subst e6; rw [if_pos rfl, if_pos (by omega), show o + 6 - o = 6 by omega]; rfl
    · rw [if_neg e6]
      by_cases e5 : j = o + 5
      · subst e5; rw [if_pos rfl, if_pos (by omega), show o + 5 - o = 5 by omega]; rfl
      · rw [if_neg e5]
        by_cases e4 : j = o + 4
        · subst e4; rw [if_pos rfl, if_pos (by omega), show o + 4 - o = 4 by omega]; rfl
        · rw [if_neg e4]
          by_cases e3 : j = o + 3
          · subst e3; rw [if_pos rfl, if_pos (by omega), show o + 3 - o = 3 by omega]; rfl
          · rw [if_neg e3]
            by_cases e2 : j = o + 2
            · subst e2; rw [if_pos rfl, if_pos (by omega), show o + 2 - o = 2 by omega]; rfl
            · rw [if_neg e2]
              by_cases e1 : j = o + 1
              · subst e1; rw [if_pos rfl, if_pos (by omega), show o + 1 - o = 1 by omega]; rfl
              · rw [if_neg e1]
                by_cases e0 : j = o
                · subst e0; rw [if_pos rfl, if_pos (by omega), Nat.sub_self]; rfl
                · rw [if_neg e0, if_neg (by omega)]
theorem put64_calls (g t N o m c : Nat) (v : Int) (f : Nat → Value) (w : World) (h : w.rowIs g t N f) (hm : 8 ≤ m) (ho : o + 8 ≤ N) :
    Calls Try.prog 92 #[.slice (some ⟨g, o, none⟩) m c, .int .u64 v] w fun e w' => (∃ u, e = .returned u) ∧ w'.rowIs g t N (over f o (be8 v)) ∧ On g w w' := by
  have HP := Lib.hid (put64 g t N o m c v f w h hm ho)
  clear h hm ho
  go_enter Try.func92, Try.ntmps92
  go_wp2_with (go_at_call 95; go_must ((with_reducible refine HP.out.mono ?_); rintro e w1 ⟨⟨u1, rfl⟩, h1, h2⟩; have H1 := Aside0.mk h1; have H2 := Aside0.mk h2; clear h1 h2))
  first | go_end0 | refine bodyPost_ret (results_none rfl _ _ _) rfl ?_
  exact ⟨⟨_, rfl⟩, H1.out, H2.out⟩
end Go.Proofs.Ytkmlpoggbfbnaaa.Sh
namespace Go.Proofs.Ytkmlpoggbfbnaaa.Sh
open Go.RowKit Go.Proofs.YtkmlpoggbfbnaaaW.PrintWords Go.Proofs.YtkmlpoggbfbnaaaW.PrintLast Go.Proofs.Ytkmlpoggbfbnaaa.Reg Go.Proofs.Ytkmlpoggbfbnaaa.Tok
set_option linter.unusedSimpArgs false
set_option linter.unusedVariables false

theorem sta_nil (K : List Int) (X : List Int) (hX : X.length = 64) (hb : Any X) : Sta K [] 0 X := ⟨hX, hb, rfl⟩
set_option maxHeartbeats 8000000 in
set_option maxRecDepth 100000 in
theorem reset_calls (b : Nat) (s : H8) (X : List Int) (nx n : Int) (w : World) (hd : Dg b (dcs s X nx n) w) (hX : X.length = 64) :
    Calls Try.prog 53 #[.pointer (some ⟨b, 0, none⟩)] w fun e w' => (∃ u, e = .returned u) ∧ Dg b (dcs iv X 0 0) w' ∧ On b w w' := by
  have zb := dg_cell hd 74 (dcs_b _ _ _ _ hX)
  have d0 := hd
  have o0 := On.refl b w
  have y0 := (dcs_at s X nx n).1
  have y1 := (dcs_at s X nx n).2.1
  have y2 := (dcs_at s X nx n).2.2.1
  have y3 := (dcs_at s X nx n).2.2.2.1
  have y4 := (dcs_at s X nx n).2.2.2.2.1
  have y5 := (dcs_at s X nx n).2.2.2.2.2.1
  have y6 := (dcs_at s X nx n).2.2.2.2.2.2.1
  have y7 := (dcs_at s X nx n).2.2.2.2.2.2.2
  have c0 := dg_cell d0 0 (show (dcs ⟨s.a, s.b, s.c, s.d, s.e, s.f, s.g, s.h⟩ X nx n)[0]? = some (.int .u32 s.a) from rfl)
  have f0 := blk_frozen d0 0
  obtain ⟨W1, hW1⟩ : ∃ W', w.setCell ⟨b, 0, none⟩ (.int .u32 1779033703) = W' := ⟨_, rfl⟩
  have d1 : Dg b (dcs ⟨1779033703, s.b, s.c, s.d, s.e, s.f, s.g, s.h⟩ X nx n) W1 := hW1 ▸ (dg_set d0 0 (.int .u32 1779033703))
  have o1 : On b w W1 := hW1 ▸ o0.set 0 _
  have c1 := dg_cell d1 1 (show (dcs ⟨1779033703, s.b, s.c, s.d, s.e, s.f, s.g, s.h⟩ X nx n)[1]? = some (.int .u32 s.b) from rfl)
  have f1 := blk_frozen d1 1
  obtain ⟨W2, hW2⟩ : ∃ W', W1.setCell ⟨b, 1, none⟩ (.int .u32 3144134277) = W' := ⟨_, rfl⟩
  have d2 : Dg b (dcs ⟨1779033703, 3144134277, s.c, s.d, s.e, s.f, s.g, s.h⟩ X nx n) W2 := hW2 ▸ (dg_set d1 1 (.int .u32 3144134277))
  have o2 : On b w W2 := hW2 ▸ o1.set 1 _
  have c2 := dg_cell d2 2 (show (dcs ⟨1779033703, 3144134277, s.c, s.d, s.e, s.f, s.g, s.h⟩ X nx n)[2]? = some (.int .u32 s.c) from rfl)
  have f2 := blk_frozen d2 2
  obtain ⟨W3, hW3⟩ : ∃ W', W2.setCell ⟨b, 2, none⟩ (.int .u32 1013904242) = W' := ⟨_, rfl⟩
  have d3 : Dg b (dcs ⟨1779033703, 3144134277, 1013904242, s.d, s.e, s.f, s.g, s.h⟩ X nx n) W3 := hW3 ▸ (dg_set d2 2 (.int .u32 1013904242))
  have o3 : On b w W3 := hW3 ▸ o2.set 2 _
  have c3 := dg_cell d3 3 (show (dcs ⟨1779033703, 3144134277, 1013904242, s.d, s.e, s.f, s.g, s.h⟩ X nx n)[3]? = some (.int .u32 s.d) from rfl)
  have f3 := blk_frozen d3 3
  obtain ⟨W4, hW4⟩ : ∃ W', W3.setCell ⟨b, 3, none⟩ (.int .u32 2773480762) = W' := ⟨_, rfl⟩
  have d4 : Dg b (dcs ⟨1779033703, 3144134277, 1013904242, 2773480762, s.e, s.f, s.g, s.h⟩ X nx n) W4 := hW4 ▸ (dg_set d3 3 (.int .u32 2773480762))
  have o4 : On b w W4 := hW4 ▸ o3.set 3 _
  have c4 := dg_cell d4 4 (show (dcs ⟨1779033703, 3144134277, 1013904242, 2773480762, s.e, s.f, s.g, s.h⟩ X nx n)[4]? = some (.int .u32 s.e) from rfl)
  have f4 := blk_frozen d4 4
  obtain ⟨W5, hW5⟩ : ∃ W', W4.setCell ⟨b, 4, none⟩ (.int .u32 1359893119) = W' := ⟨_, rfl⟩
  have d5 : Dg b (dcs ⟨1779033703, 3144134277, 1013904242, 2773480762, 1359893119, s.f, s.g, s.h⟩ X nx n) W5 := hW5 ▸ (dg_set d4 4 (.int .u32 1359893119))
  have o5 : On b w W5 := hW5 ▸ o4.set 4 _
  have c5 := dg_cell d5 5 (show (dcs ⟨1779033703, 3144134277, 1013904242, 2773480762, 1359893119, s.f, s.g, s.h⟩ X nx n)[5]? = some (.int .u32 s.f) from rfl)
  have f5 := blk_frozen d5 5
  obtain ⟨W6, hW6⟩ : ∃ W', W5.setCell ⟨b, 5, none⟩ (.int .u32 2600822924) = W' := ⟨_, rfl⟩
  have d6 : Dg b (dcs ⟨1779033703, 3144134277, 1013904242, 2773480762, 1359893119, 2600822924, s.g, s.h⟩ X nx n) W6 := hW6 ▸ (dg_set d5 5 (.int .u32 2600822924))
  have o6 : On b w W6 := hW6 ▸ o5.set 5 _
  have c6 := dg_cell d6 6 (show (dcs ⟨1779033703, 3144134277, 1013904242, 2773480762, 1359893119, 2600822924, s.g, s.h⟩ X nx n)[6]? = some (.int .u32 s.g) from rfl)
  have f6 := blk_frozen d6 6
  obtain ⟨W7, hW7⟩ : ∃ W', W6.setCell ⟨b, 6, none⟩ (.int .u32 528734635) = W' := ⟨_, rfl⟩
  have d7 : Dg b (dcs ⟨1779033703, 3144134277, 1013904242, 2773480762, 1359893119, 2600822924, 528734635, s.h⟩ X nx n) W7 := hW7 ▸ (dg_set d6 6 (.int .u32 528734635))
  have o7 : On b w W7 := hW7 ▸ o6.set 6 _
  have c7 := dg_cell d7 7 (show (dcs ⟨1779033703, 3144134277, 1013904242, 2773480762, 1359893119, 2600822924, 528734635, s.h⟩ X nx n)[7]? = some (.int .u32 s.h) from rfl)
  have f7 := blk_frozen d7 7
  obtain ⟨W8, hW8⟩ : ∃ W', W7.setCell ⟨b, 7, none⟩ (.int .u32 1541459225) = W' := ⟨_, rfl⟩
  have d8 : Dg b (dcs ⟨1779033703, 3144134277, 1013904242, 2773480762, 1359893119, 2600822924, 528734635, 1541459225⟩ X nx n) W8 := hW8 ▸ (dg_set d7 7 (.int .u32 1541459225))
  have o8 : On b w W8 := hW8 ▸ o7.set 7 _
  have c8 := dg_cell d8 72 (dcs_nx _ _ _ _ hX)
  have f8 := blk_frozen d8 72
  obtain ⟨W9, hW9⟩ : ∃ W', W8.setCell ⟨b, 72, none⟩ (.int .i64 0) = W' := ⟨_, rfl⟩
  have d9 := dg_set d8 72 (.int .i64 0)
  rw [dcs_setnx _ _ _ _ _ hX, hW9] at d9
  have c9 := dg_cell d9 73 (dcs_n _ _ _ _ hX)
  have f9 := blk_frozen d9 73
  obtain ⟨WA, hWA⟩ : ∃ W', W9.setCell ⟨b, 73, none⟩ (.int .u64 0) = W' := ⟨_, rfl⟩
  have dA := dg_set d9 73 (.int .u64 0)
  rw [dcs_setn _ _ _ _ _ hX, hWA] at dA
  have oA : On b w WA := hWA ▸ (hW9 ▸ o8.set 72 (.int .i64 0) : On b w W9).set 73 _
  have HD := Lib.hid dA
  have HO := Lib.hid oA
  clear hd hX dA oA d9 d0 o0 d1 o1 d2 o2 d3 o3 d4 o4 d5 o5 d6 o6 d7 o7 d8 o8 y0 y1 y2 y3 y4 y5 y6 y7
  go_enter Try.func53, Try.ntmps53
  go_wp2
  first | go_end0 | refine bodyPost_ret (results_none rfl _ _ _) rfl ?_
  exact ⟨⟨_, rfl⟩, HD.out, HO.out⟩
/-- The cells of a digest that was just made. -/
theorem zero_cells : Try.zeroCells111 = dcs ⟨0, 0, 0, 0, 0, 0, 0, 0⟩ (List.replicate 64 0) 0 0 := by kernel_rfl
theorem rep_bytes (n : Nat) : Any (List.replicate n 0) := any _
theorem dg_new (w : World) : Dg w.heap.size (dcs ⟨0, 0, 0, 0, 0, 0, 0, 0⟩ (List.replicate 64 0) 0 0) (w.alloc (.cells Try.zeroCells111 111)) := by
  rw [zero_cells]
  exact heap_alloc_new _ _
set_option maxHeartbeats 8000000 in
set_option maxRecDepth 100000 in
theorem fnew_calls (w : World) :
    Calls Try.prog 48 #[] w fun e w' => e = .returned (.pointer (some ⟨w.heap.size, 0, none⟩)) ∧ Dg w.heap.size (dcs iv (List.replicate 64 0) 0 0) w' ∧ Below w.heap.size w w' := by
  have HR := Lib.hid (reset_calls w.heap.size _ _ _ _ _ (dg_new w) (by simp))
  have HB0 := Lib.hid (below_alloc (Below.refl w.heap.size w) (.cells Try.zeroCells111 111))
  go_enter Try.func48, Try.ntmps48
  go_wp2_with (go_at_call 53; go_must ((with_reducible refine HR.out.mono ?_); rintro e w1 ⟨⟨u1, rfl⟩, h1, h2⟩; have H1 := Aside0.mk h1; have H2 := Aside0.mk (HB0.out.trans h2.1); clear h1 h2))
  go_ret
  exact ⟨rfl, H1.out, H2.out⟩
/-- A hash as an interface value. -/
def Hs (b : Nat) : Value := .iface 98 (.pointer (some ⟨b, 0, none⟩))
set_option maxHeartbeats 8000000 in
set_option maxRecDepth 100000 in
theorem new_calls (w : World) :
    Calls Try.prog 42 #[] w fun e w' => e = .returned (Hs w.heap.size) ∧ Dg w.heap.size (dcs iv (List.replicate 64 0) 0 0) w' ∧ Below w.heap.size w w' := by
  go_enter Try.func42, Try.ntmps42
  go_wp2_with (go_at_call 48; go_must ((with_reducible refine (fnew_calls _).mono ?_); rintro e w1 ⟨rfl, h1, h2⟩; have H1 := Aside0.mk h1; have H2 := Aside0.mk h2; clear h1 h2))
  go_ret
  exact ⟨rfl, H1.out, H2.out⟩
end Go.Proofs.Ytkmlpoggbfbnaaa.Sh
