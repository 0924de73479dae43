/-
  base58.Decode.
-/
import Derived.Test.YtojadhcbjcpifaaDoorUbB
import Derived.Test.YtojadhcbjcpifaaDoorUbA
import Derived.Test.YtojadhcbjcpifaaDoorUb8
import Derived.WalkSpells
import Derived.Lib.SmallJoins
import Derived.Laws.CopyOwn
import Derived.Laws.IdiomCopy
import Derived.Laws.MakeOwn
namespace Go.Proofs.YtojadhcbjcpifaaDoor.Ub
open Go.RowKit Go.Proofs.YtojadhcbjcpifaaDoorW.PrintWords Go.Proofs.YtojadhcbjcpifaaDoorW.PrintLast Go.Proofs.YtojadhcbjcpifaaDoorW.PrintMore Go.Proofs.YtojadhcbjcpifaaDoor.Reg
set_option linter.unusedSimpArgs false
set_option linter.unusedVariables false

/-- The table lies in the world. -/
def Tab (w : World) : Prop := ∀ v : Int, 0 ≤ v → v < 256 → w.cell? ⟨0, v.toNat, none⟩ = some (.int .u8 (dg v))
theorem Tab.below {w w' : World} (h : Tab w) {B : Nat} (hB : 0 < B) (hb : Below B w w') : Tab w' := fun v h0 h1 => (World.cell?_of_block (hb.block 0 hB)).trans (h v h0 h1)
/-- The state of the outer loop. -/
structure St (B g0 g1 : Nat) (s t : ByteArray) (w w' : World) : Prop where
  bel : Below B w w'
  ge : B ≤ g0 ∧ g0 < g1 ∧ g1 < w'.heap.size
  ans : ∃ l V, Nrm 4294967296 l ∧ lv 4294967296 l = V ∧ l.length + 3 * t.size ≤ 1210 ∧ Big (fun k => B ≤ k ∧ k ≠ g0 ∧ k ≠ g1) w' g0 l ∧ 0 ≤ V ∧ vl V (ds t) = vl 0 (ds s)
  scr : ∃ b x, w'.heap[g1]? = some (.cells #[b, x] 51 (0, 0))
  sz : t.size ≤ 400
  mem : 255 ∈ ds t ↔ 255 ∈ ds s
theorem pow58_le {a b : Nat} (h : a ≤ b) : (58 : Int) ^ a ≤ 58 ^ b := by
  rw [show b = a + (b - a) by omega, Int.pow_add]
  have h1 : (0 : Int) < 58 ^ a := pow_pos' (by decide) a
  have h2 : (0 : Int) < 58 ^ (b - a) := pow_pos' (by decide) (b - a)
  have := Int.mul_le_mul_of_nonneg_left (show (1 : Int) ≤ 58 ^ (b - a) by omega) (Int.le_of_lt h1)
  omega
theorem mem_in {B g0 g1 n p : Nat} {s t c : ByteArray} {w w' : World} {l : List Int} (h : St B g0 g1 s t w w') (hc : ds c = (ds t).take n) (hd : (ds c).drop p = 255 :: l) : 255 ∈ ds s :=
  h.mem.1 (List.mem_of_mem_take (hc ▸ List.mem_of_mem_drop (hd ▸ List.mem_cons_self)))
theorem One.keep {g : Nat} {w w' : World} (h : One g w w') : KeepBut w w' g none := h.1
/-- The state behind a chunk. -/
theorem St.next {B g0 g1 n : Nat} {s t c : ByteArray} {T V : Int} {l l4 l5 l6 : List Int} {w wr W3 W4 W5 W6 : World} (h : St B g0 g1 s t w wr) (hn : 0 < n ∧ n ≤ t.size) (hc : ds c = (ds t).take n)
    (hE : vl 0 (ds c) = T ∧ 0 ≤ T ∧ T < 58 ^ n ∧ 255 ∉ ds c) (hA : Nrm 4294967296 l ∧ lv 4294967296 l = V ∧ l.length + 3 * t.size ≤ 1210 ∧ 0 ≤ V ∧ vl V (ds t) = vl 0 (ds s))
    (h3 : Below wr.heap.size wr W3) (h4 : One g0 W3 W4) (hl4 : l4.length ≤ l.length + 2 ∧ lv 4294967296 l4 = V * 58 ^ n) (h5 : One g1 W4 W5) (hl5 : l5.length ≤ 2 ∧ lv 4294967296 l5 = T)
    (hb5 : Big (fun k => W4.heap.size ≤ k) W5 g1 l5) (h6 : One g0 W5 W6) (hl6 : Nrm 4294967296 l6 ∧ lv 4294967296 l6 = lv 4294967296 l4 + lv 4294967296 l5 ∧ l6.length ≤ max l4.length l5.length + 1)
    (hb6 : Big (fun k => W5.heap.size ≤ k) W6 g0 l6) : St B g0 g1 s (t.extract n t.size) w W6 := by
  have hg := h.ge
  have s3 := h3.size
  have s4 := h4.2.size
  have s5 := h5.2.size
  have s6 := h6.2.size
  have hds : ds t = ds c ++ ds (t.extract n t.size) := by
    rw [hc, ds_ext, show (List.drop n (ds t)).take (t.size - n) = List.drop n (ds t) from List.take_of_length_le (by rw [List.length_drop, ds_len]; omega), List.take_append_drop]
  have hcl : (ds c).length = n := by rw [hc, List.length_take, ds_len]; omega
  have hsz : (t.extract n t.size).size = t.size - n := by rw [ByteArray.size_extract]; omega
  have hmem : 255 ∈ ds (t.extract n t.size) ↔ 255 ∈ ds t := by
    rw [hds, List.mem_append]
    exact ⟨.inr, fun h => h.resolve_left hE.2.2.2⟩
  have hbel : Below B w W6 := by
    have b1 := (h.bel.trans (h3.mono (by omega)))
    have b2 := b1.trans (h4.2.mono hg.1)
    have b3 := b2.trans (h5.2.mono (by omega))
    exact b3.trans (h6.2.mono hg.1)
  refine ⟨hbel, ⟨hg.1, hg.2.1, by omega⟩, ⟨l6, V * 58 ^ n + T, hl6.1, by rw [hl6.2.1, hl4.2, hl5.2], ?_, hb6.mono fun k hk => ⟨by omega, by omega, by omega⟩, ?_, ?_⟩, ?_, ?_, ?_⟩
  · have a1 := hA.2.2.1
    have a2 := hl6.2.2
    have a3 := hl4.1
    have a4 := hl5.1
    rw [hsz]
    clear hA hl6 hl4 hl5 hE
    omega
  · have p := pow_pos' (B := 58) (by decide) n
    have q := Int.mul_nonneg hA.2.2.2.1 (Int.le_of_lt p)
    have r := hE.2.1
    exact Int.add_nonneg q r
  · have e := hA.2.2.2.2
    rw [hds, vl_app, vl_lin V, hcl, hE.1] at e
    exact e
  · obtain ⟨A, c5, e1, _, _⟩ := hb5
    exact ⟨_, _, h6.1.blk e1 (by omega) (by simp)⟩
  · rw [hsz]; have := h.sz; omega
  · exact hmem.trans h.mem
theorem mk_run (n : Nat) (h : n ≤ 100000) (W : World) : (Instr.makeSlice 22 (.int .i64 (n : Int)) (.int .i64 (n : Int))).run Tryd.prog W = .ok (.slice (some ⟨W.heap.size, 0, none⟩) n n) (W.alloc (.cells (madeCells #[.int .u8 0] n) 5)) := by
  obtain ⟨i0, hi, hz⟩ := Option.map_eq_some_iff.1 PFnUnbase58.info5
  simp only [Prod.mk.injEq] at hz
  obtain ⟨z1, z2, z3⟩ := hz
  have h := run_make (P := Tryd.prog) W 22 5 i0 (.int .u8 0) Tryd.underlying22 hi z1 .i64 .i64 (n : Int) n (by omega) (by omega) (by rw [z3]; omega) (by omega)
  rw [z2] at h
  simpa [Value.cells] using h
/-- A made row, with a row copied behind its first places. -/
theorem copy_tail (W : World) (A : Option Addr) (c z : Nat) (r : List Int) (hC : Kd.C (Kd.int .u8) W A r.length r) (hc : r.length ≤ c) (hr : 0 < r.length) (hz : z + r.length ≤ 100000) :
    ∃ W6, (∀ ty, (Builtin.copy_ #[22, 22] ty #[.slice (some ⟨W.heap.size, z, none⟩) r.length r.length, .slice A r.length c]).run Tryd.prog (W.alloc (.cells (madeCells #[.int .u8 0] (z + r.length)) 5)) = .ok (goInt r.length) W6) ∧ Kd.C (Kd.int .u8) W6 (some ⟨W.heap.size, 0, none⟩) (z + r.length) (List.replicate z 0 ++ r) ∧ Below W.heap.size W W6 := by
  obtain ⟨ad, rfl, hy⟩ := Kd.at_int hC 0 (by omega) (by omega)
  have hmc : madeCells #[.int .u8 0] (z + r.length) = (List.replicate (z + r.length) (Value.int .u8 0)).toArray := by
    apply Array.ext
    · simp [size_madeCells]
    · intro i h1 h2
      simp [madeCells, Nat.mod_one]
  rw [hmc]
  have hbl : Below W.heap.size W (W.alloc (.cells (List.replicate (z + r.length) (Value.int .u8 0)).toArray 5)) := below_alloc (Below.refl _ _) _
  have hg := heap_alloc_new W (.cells (List.replicate (z + r.length) (Value.int .u8 0)).toArray 5)
  have hC2 := Kd.C_below hC hbl
  have hcp := fun ty => run_copy_row (P := Tryd.prog) (W.alloc (.cells (List.replicate (z + r.length) (Value.int .u8 0)).toArray 5)) 22 22 ty 5 W.heap.size z r.length r.length ad r.length c (List.replicate (z + r.length) (Value.int .u8 0)).toArray 5 (r.map (Value.int .u8)) Tryd.underlying22 (by kernel_rfl) hg (by simp) (fun j v hj => by
    have hjl : j < r.length := by simpa using (List.getElem?_eq_some_iff.1 hj).1
    obtain ⟨ad', e, hcc⟩ := Kd.at_int hC2 (j : Int) (by omega) (by omega)
    cases e
    rw [Int.toNat_natCast] at hcc
    rw [hcc, ← hj, List.getElem?_map, List.getElem?_eq_getElem hjl]
    simp [rd, hjl]) (by simp) (fun v hv => by
    obtain ⟨x, _, rfl⟩ := List.mem_map.1 hv
    rfl)
  rw [List.length_map] at hcp
  refine ⟨_, hcp, ?_, below_setRow hbl (Nat.le_refl _) _⟩
  have hlist : ((List.replicate (z + r.length) (Value.int .u8 0)).toArray.toList.take z ++ r.map (Value.int .u8) ++ (List.replicate (z + r.length) (Value.int .u8 0)).toArray.toList.drop (z + r.length)) = (List.replicate z 0 ++ r).map (Value.int .u8) := by
    simp
  rw [hlist]
  refine Kd.C_of_reads (d := (0 : Int)) (h1 := fun _ => rfl) ⟨by simp, by omega, fun hn => ⟨_, rfl, fun j hj => ?_⟩⟩
  rw [add_plain]
  refine (blk_cell (setRow_heap _ _ _ _ _ _ hg) _).trans ?_
  have hjl : j < (List.replicate z (0 : Int) ++ r).length := by rw [List.length_append, List.length_replicate]; exact hj
  rw [List.getElem?_toArray, List.getElem?_map, List.getElem?_eq_getElem hjl]
  simp [List.getD, List.getElem?_eq_getElem hjl]
/-- Nothing is copied. -/
theorem copy_tail0 (W : World) (A : Option Addr) (c z : Nat) (hz : z ≤ 100000) :
    (∀ D d2 ty, (Builtin.copy_ #[22, 22] ty #[.slice D 0 d2, .slice A 0 c]).run Tryd.prog (W.alloc (.cells (madeCells #[.int .u8 0] z) 5)) = .ok (goInt 0) (W.alloc (.cells (madeCells #[.int .u8 0] z) 5))) ∧ Kd.C (Kd.int .u8) (W.alloc (.cells (madeCells #[.int .u8 0] z) 5)) (some ⟨W.heap.size, 0, none⟩) z (List.replicate z 0) := by
  refine ⟨fun D d2 ty => run_copy_none _ _ _ _ 5 _ _ _ _ _ _ Tryd.underlying22 (by kernel_rfl) (by rfl), ?_⟩
  have hmc : madeCells #[.int .u8 0] z = (List.replicate z (Value.int .u8 0)).toArray := by
    apply Array.ext
    · simp [size_madeCells]
    · intro i h1 h2
      simp [madeCells, Nat.mod_one]
  rw [hmc]
  refine Kd.C_of_reads (d := (0 : Int)) (h1 := fun _ => rfl) ⟨by simp, by omega, fun hn => ⟨_, rfl, fun j hj => ?_⟩⟩
  rw [add_plain]
  refine (blk_cell (heap_alloc_new _ _) _).trans ?_
  simp [hj, List.getD]
theorem conv_run (W : World) : (convert 22 22 (.slice (some ⟨W.heap.size, 0, none⟩) 0 0)).run Tryd.prog (W.alloc (.cells #[] 5)) = .ok (.slice (some ⟨W.heap.size, 0, none⟩) 0 0) (W.alloc (.cells #[] 5 (0, 1))) :=
  Joins.run_convert_bytes_const_at W 22 5 #[] 0 0 _ rfl Tryd.underlying22 Tryd.underlying5
set_option maxHeartbeats 8000000 in
set_option maxRecDepth 100000 in
theorem decode_calls (s : ByteArray) (w : World) (hs : s.size ≤ 400) (hT : Tab w) (h0 : 0 < w.heap.size) :
    Calls Tryd.prog 15 #[.string s] w fun e w' => ∃ (A : Option Addr) (c : Nat) (r : List Int), e = .returned (.slice A r.length c) ∧ Kd.C (Kd.int .u8) w' A r.length r ∧ r.length ≤ c ∧ DOut s r ∧ r.length ≤ 100000 ∧ Below w.heap.size w w' := by
  have hcv := conv_run
  have HN := Lib.hid (new_calls 0 w (by decide))
  have HS := Lib.hid hs
  have HT := Lib.hid hT
  have H0 := Lib.hid h0
  clear hs hT h0
  go_enter Tryd.func15, Tryd.ntmps15
  go_wp2_with (first
    | (go_at_call 20; go_must ((with_reducible refine HN.out.mono ?_); rintro e w1 ⟨g0, hg0, rfl, hL, hB⟩; have HG0 := Lib.hid hg0; have HL := Lib.hid hL; have HB1 := Lib.hid hB; clear hg0 hL hB)))
  have hSt : St w.heap.size g0 w1.heap.size s s w (w1.alloc (.cells #[.bool false, .slice none 0 0] 51)) := by
    obtain ⟨W2, hW2⟩ : ∃ W2, w1.alloc (.cells #[.bool false, .slice none 0 0] 51) = W2 := ⟨_, rfl⟩
    rw [hW2]
    obtain ⟨l, h1, h2, h3, h4⟩ := HL.out
    have hlt := h4.lt
    have hb : Below w1.heap.size w1 W2 := hW2 ▸ below_alloc (Below.refl _ _) _
    have hz : W2.heap.size = w1.heap.size + 1 := by rw [← hW2]; simp
    refine ⟨below_step HB1.out hb, ⟨HG0.out, hlt, by omega⟩, ⟨l, 0, h1, h2, by have := HS.out; omega, ?_, Int.le_refl _, rfl⟩, ⟨_, _, by rw [← hW2]; exact heap_alloc_new _ _⟩, HS.out, Iff.rfl⟩
    have h5 : Big (fun k => (w.heap.size ≤ k ∧ k ≠ g0) ∧ k < w1.heap.size) w1 g0 l := by
      obtain ⟨A, c, e1, e2, e3⟩ := h4
      exact ⟨A, c, e1, e2, Kd.F_bound e3⟩
    exact (h5.below hb).mono fun k hk => ⟨hk.1.1, hk.1.2, by omega⟩
  generalize (w1.alloc (.cells #[.bool false, .slice none 0 0] 51)) = W2 at hSt ⊢
  generalize w1.heap.size = g1 at hSt ⊢
  have HSt := Lib.hid hSt
  clear hSt HN HL HG0 HB1
  go_loopg [5] (s.size + 1) (fun kq v5 w' => ∃ t : ByteArray, v5 = .string t ∧ Aside0 (t.size + 1 ≤ kq) ∧ Aside0 (St w.heap.size g0 g1 s t w w'))
  case atStart => exact ⟨s, rfl, ⟨Nat.le_refl _⟩, ⟨HSt.out⟩⟩
  case round =>
    clear HSt
    obtain ⟨t, rfl, HK, HST⟩ := hrel
    obtain ⟨k1, rfl⟩ : ∃ k1, gk = k1 + 1 := ⟨gk - 1, by have := HK.out; omega⟩
    by_cases cz : 0 < t.size
    · have cb : decide ((0 : Int) < (t.size : Int)) = true := decide_eq_true (by omega)
      have cb2 := eq_true cz
      by_cases c10 : 10 < t.size
      · have db : decide ((10 : Int) < (t.size : Int)) = true := decide_eq_true (by omega)
        have db2 := eq_true c10
        have hw : wrap64 10 = 10 := by decide +kernel
        have HC10 := Aside0.mk c10
        clear cz
        go_wp2
        generalize hc : t.extract 0 10 = c
        have hcz : c.size = 10 := by rw [← hc, ByteArray.size_extract]; omega
        have hcd : ds c = (ds t).take 10 := by rw [← hc, ds_ext]; simp
        have HCZ := Aside0.mk hcz
        have HCD := Aside0.mk hcd
        clear hc hcz hcd
        go_loopg [7] (10 + 1) (fun kq v7 w' => ∃ (p : Nat) (T : Int), v7 = .int .u64 T ∧ Aside0 (p + kq = 10 + 1 ∧ p ≤ 10) ∧ w' = wr.iter c p ∧ Aside0 (0 ≤ T ∧ T < 58 ^ p ∧ vl T ((ds c).drop p) = vl 0 (ds c) ∧ 255 ∉ (ds c).take p))
        case atStart => exact ⟨0, 0, rfl, ⟨by omega, by omega⟩, rfl, ⟨by decide, by decide, by rw [List.drop_zero], by simp⟩⟩
        case round =>
          obtain ⟨p, T, rfl, HP, rfl, HV⟩ := hrel
          obtain ⟨k2, rfl⟩ : ∃ k2, gk = k2 + 1 := ⟨gk - 1, by have := HP.out; omega⟩
          by_cases cp : p < c.size
          · have HCP := Aside0.mk cp
            have hlb : (c[p]'cp).toNat < 256 := (c[p]'cp).toNat_lt
            by_cases ca : (c[p]'cp).toNat < 128
            · have hnx := fun ty => run_next_ascii (P := Tryd.prog) wr c p ty cp ca
              obtain ⟨v, hv⟩ : ∃ v : Int, ((c[p]'cp).toNat : Int) = v := ⟨_, rfl⟩
              have hdb := ds_byte c p cp
              rw [hv] at hnx hdb
              have hv2 : 0 ≤ v ∧ v < 128 := by omega
              have HD := Aside0.mk hdb
              have e1 : decide ((255 : Int) < v) = false := decide_eq_false (by omega)
              have hgl := HST.out.bel
              have hbi : Below w.heap.size w (wr.iter c (p + 1)) := below_alloc hgl _
              have ht := (HT.out.below H0.out hbi) v hv2.1 (by omega)
              have v0 : 0 ≤ v := hv2.1
              have v1 : v < 256 := by omega
              have hv0 := eq_true v0
              have hv1 := eq_true v1
              have HDG := Aside0.mk (dg_lt (b := v) ⟨hv2.1, by omega⟩)
              have HBI := Aside0.mk hbi
              obtain ⟨d, hd⟩ : ∃ d, dg v = d := ⟨_, rfl⟩
              rw [hd] at ht HD HDG
              clear hgl hbi hdb hv hv2 hlb ca v0 v1 hd
              by_cases c5 : d = 255
              · subst c5
                go_wp2
                go_ret
                exact ⟨_, _, [], rfl, Kd.C_of_reads (d := (0 : Int)) (h1 := fun _ => rfl) ⟨rfl, Nat.zero_le _, fun hn => absurd hn (by simp)⟩, Nat.zero_le _, .inl ⟨mem_in HST.out HCD.out HD.out, rfl⟩, Nat.zero_le _, below_alloc (below_alloc HST.out.bel _) _⟩
              · have e2 : decide (d = 255) = false := decide_eq_false c5
                have e3 : (d = 255) = False := eq_false c5
                have e4 : (d == 255) = false := by simp [c5]
                have hT := HV.out
                have hpl : (58 : Int) ^ p ≤ 58 ^ 9 := by
                  have := HP.out; have := HCP.out; have := HCZ.out; have := HC10.out
                  exact pow58_le (by omega)
                have hp9 : (58 : Int) ^ 9 = 7427658739644928 := by decide
                have hp10 : 58 ^ (p + 1) = (58 : Int) ^ p * 58 := Int.pow_succ ..
                have hT0 := hT.1
                have hT1 := hT.2.1
                have hdg := HDG.out
                rw [hp9] at hpl
                obtain ⟨PW, hPW⟩ : ∃ PW : Int, 58 ^ p = PW := ⟨_, rfl⟩
                rw [hPW] at hpl hp10 hT1
                have f1 : IntKind.u64.wrap (T * 58) = T * 58 := u64_id (by omega) (by omega)
                have f2 : IntKind.u64.wrap d = d := u64_id (by omega) (by omega)
                have f3 : IntKind.u64.wrap (T * 58 + d) = T * 58 + d := u64_id (by omega) (by omega)
                have HNEW := Aside0.mk (show 0 ≤ T * 58 + d ∧ T * 58 + d < 58 ^ (p + 1) ∧ vl (T * 58 + d) ((ds c).drop (p + 1)) = vl 0 (ds c) ∧ 255 ∉ (ds c).take (p + 1) from ⟨by omega, by rw [hp10]; omega, by
                  have := hT.2.2.1
                  rw [HD.out] at this
                  exact this, by
                  have hpc : p < (ds c).length := by rw [ds_len]; exact HCP.out
                  rw [List.take_succ_eq_append_getElem hpc, List.mem_append]
                  have e := HD.out
                  rw [List.drop_eq_getElem_cons hpc] at e
                  have e0 := (List.cons.inj e).1
                  rw [e0]
                  rintro (h | h)
                  · exact hT.2.2.2 h
                  · exact c5 (List.mem_singleton.1 h).symm⟩)
                clear hT hpl hp9 hp10 hT0 hT1 hdg hPW c5
                go_wp2
                go_roundg k2
                case measure => have := HP.out; omega
                case rel => exact ⟨p + 1, T * 58 + d, by first | rfl | (simp [f1, f2, f3]; done) | (rw [f1, f2, f3]), ⟨by have := HP.out; omega, by have := HCP.out; have := HCZ.out; omega⟩, rfl, HNEW⟩
            · have hdh := decode_high c p cp (by omega)
              have hnx := fun ty => run_next_any (P := Tryd.prog) wr c p ty cp
              obtain ⟨v, hv⟩ : ∃ v : Int, ((Utf8.decode c p).1 : Int) = v := ⟨_, rfl⟩
              obtain ⟨q, hq⟩ : ∃ q : Nat, p + (Utf8.decode c p).2 = q := ⟨_, rfl⟩
              rw [hv, hq] at hnx
              have hdb := ds_byte c p cp
              rw [dg_high _ ⟨by omega, by omega⟩] at hdb
              have HD := Aside0.mk hdb
              have hv2 : 128 ≤ v := by omega
              by_cases c5 : 255 < v
              · have e1 : decide ((255 : Int) < v) = true := decide_eq_true c5
                clear hdb hv hlb ca hdh hq hv2 c5
                go_wp2
                go_ret
                exact ⟨_, _, [], rfl, Kd.C_of_reads (d := (0 : Int)) (h1 := fun _ => rfl) ⟨rfl, Nat.zero_le _, fun hn => absurd hn (by simp)⟩, Nat.zero_le _, .inl ⟨mem_in HST.out HCD.out HD.out, rfl⟩, Nat.zero_le _, below_alloc (below_alloc HST.out.bel _) _⟩
              · have e1 : decide ((255 : Int) < v) = false := decide_eq_false c5
                have hbi : Below w.heap.size w (wr.iter c q) := below_alloc HST.out.bel _
                have ht := (HT.out.below H0.out hbi) v (by omega) (by omega)
                rw [dg_high v ⟨hv2, by omega⟩] at ht
                have v0 : 0 ≤ v := by omega
                have v1 : v < 256 := by omega
                have hv0 := eq_true v0
                have hv1 := eq_true v1
                clear hdb hv hlb ca hdh hq hv2 c5 v0 v1 hbi
                go_wp2
                go_ret
                exact ⟨_, _, [], rfl, Kd.C_of_reads (d := (0 : Int)) (h1 := fun _ => rfl) ⟨rfl, Nat.zero_le _, fun hn => absurd hn (by simp)⟩, Nat.zero_le _, .inl ⟨mem_in HST.out HCD.out HD.out, rfl⟩, Nat.zero_le _, below_alloc (below_alloc HST.out.bel _) _⟩
          · have hnx := fun ty => run_next_end (P := Tryd.prog) wr c p ty cp
            have HE := Aside0.mk (show vl 0 (ds c) = T ∧ 0 ≤ T ∧ T < 58 ^ 10 ∧ 255 ∉ ds c from by
              have h1 := HP.out
              have h2 := HCZ.out
              obtain rfl : p = 10 := by omega
              have h3 := HV.out
              rw [List.drop_of_length_le (by rw [ds_len]; omega), List.take_of_length_le (by rw [ds_len]; omega)] at h3
              exact ⟨h3.2.2.1.symm, h3.1, h3.2.1, h3.2.2.2⟩)
            obtain ⟨l, V, a1, a2, a3, a4, a5, a6⟩ := HST.out.ans
            have HA := Aside0.mk (And.intro a1 (And.intro a2 (And.intro a3 (And.intro a5 a6))))
            have HAB := Aside0.mk a4
            obtain ⟨bx, sx, hsc⟩ := HST.out.scr
            have HSC := Aside0.mk hsc
            have HG := Aside0.mk (show _ ∧ l.length ≤ 1210 from ⟨HST.out.ge, by clear a2 a6 a5; omega⟩)
            have HN := Aside0.mk (show 0 < 10 ∧ 10 ≤ t.size ∧ 10 ≤ 10 from by have := HC10.out; omega)
            clear a1 a2 a3 a4 a5 a6 hsc
            go_wp2_with (first
              | (go_at_call 22; go_must ((with_reducible refine (radix_10 _).mono ?_); rintro e w3 ⟨gr, hgr, rfl, ⟨lr, r1, r2, r3, r4⟩, hB⟩; have HR := Aside0.mk (And.intro r1 (And.intro r2 (And.intro r3 r4))); have hb0 : Below wr.heap.size wr (wr.iter c p) := below_alloc (Below.refl _ _) _; have HGR := Aside0.mk (show g0 ≠ gr from by have := HG.out.1; have := hb0.size; omega); have HB3 := Aside0.mk (show Below wr.heap.size wr w3 from below_step hb0 hB); clear r1 r2 r3 r4 hgr hB hb0))
              | (go_at_call 21; go_must ((with_reducible refine (mul_calls _ _ g0 gr l lr w3 (HAB.out.below HB3.out) HR.out.2.2.2 HGR.out HA.out.1.dg HR.out.1.dg (by have := HG.out.2; omega) (by have := HR.out.2.2.1; omega)).mono ?_); rintro e w4 ⟨rfl, ⟨l4, m1, m2, m3, m4⟩, m5⟩; have H4 := Aside0.mk (And.intro m1 (And.intro (show lv 4294967296 l4 = V * 58 ^ 10 from by rw [m2, HA.out.2.1, HR.out.2.1]) (And.intro (show l4.length ≤ l.length + 2 from by clear m2; have := HR.out.2.2.1; omega) (And.intro m4 m5)))); clear m1 m2 m3 m4 m5))
              | (go_at_call 23; go_must ((with_reducible refine (setU_calls g1 bx sx T w4 (H4.out.2.2.2.2.keep.blk (blk_below HSC.out HB3.out) (by have := HG.out.1; omega) (by simp)) ⟨HE.out.2.1, Int.lt_of_lt_of_le HE.out.2.2.1 (Int.le_trans (pow58_le HN.out.2.2) (by decide))⟩).mono ?_); rintro e w5 ⟨rfl, ⟨l5, m1, m2, m3, m4⟩, m5⟩; have H5 := Aside0.mk (And.intro m1 (And.intro m2 (And.intro m3 (And.intro m4 m5)))); clear m1 m2 m3 m4 m5))
              | (go_at_call 24; go_must ((with_reducible refine (iadd_calls _ _ g0 g1 l4 l5 w5 (H4.out.2.2.2.1.one H5.out.2.2.2.2 (by have := HG.out.1; omega) (fun k hk => by have := HG.out.1; have := HB3.out.size; omega)) H5.out.2.2.2.1 (by have := HG.out.1; omega) H4.out.1.dg H5.out.1.dg (by have := HG.out.2; have := H4.out.2.2.1; omega) (by have := H5.out.2.2.1; omega)).mono ?_); rintro e w6 ⟨rfl, ⟨l6, m1, m2, m3, m4⟩, m5⟩; have HNX := Aside0.mk (HST.out.next ⟨HN.out.1, HN.out.2.1⟩ HCD.out HE.out HA.out HB3.out H4.out.2.2.2.2 ⟨H4.out.2.2.1, H4.out.2.1⟩ H5.out.2.2.2.2 ⟨H5.out.2.2.1, H5.out.2.1⟩ H5.out.2.2.2.1 m5 ⟨m1, m2, m3⟩ m4); clear m1 m2 m3 m4 m5)))
            go_roundg k1
            case measure => have := HK.out; omega
            case rel => exact ⟨_, rfl, ⟨by have := HK.out; have := HN.out; rw [ByteArray.size_extract]; omega⟩, ⟨HNX.out⟩⟩
      · have db : decide ((10 : Int) < (t.size : Int)) = false := decide_eq_false (by omega)
        have db2 := eq_false c10
        have HC10 := Aside0.mk (show 1 ≤ t.size ∧ t.size ≤ 10 from by omega)
        clear cz
        go_wp2
        have hcz : t.size = t.size := rfl
        have hcd : ds t = (ds t).take t.size := (List.take_of_length_le (by rw [ds_len]; exact Nat.le_refl _)).symm
        have HCZ := Aside0.mk hcz
        have HCD := Aside0.mk hcd
        clear hcz hcd
        go_loopg [7] (t.size + 1) (fun kq v7 w' => ∃ (p : Nat) (T : Int), v7 = .int .u64 T ∧ Aside0 (p + kq = t.size + 1 ∧ p ≤ t.size) ∧ w' = wr.iter t p ∧ Aside0 (0 ≤ T ∧ T < 58 ^ p ∧ vl T ((ds t).drop p) = vl 0 (ds t) ∧ 255 ∉ (ds t).take p))
        case atStart => exact ⟨0, 0, rfl, ⟨by omega, by omega⟩, rfl, ⟨by decide, by decide, by rw [List.drop_zero], by simp⟩⟩
        case round =>
          obtain ⟨p, T, rfl, HP, rfl, HV⟩ := hrel
          obtain ⟨k2, rfl⟩ : ∃ k2, gk = k2 + 1 := ⟨gk - 1, by have := HP.out; omega⟩
          by_cases cp : p < t.size
          · have HCP := Aside0.mk cp
            have hlb : (t[p]'cp).toNat < 256 := (t[p]'cp).toNat_lt
            by_cases ca : (t[p]'cp).toNat < 128
            · have hnx := fun ty => run_next_ascii (P := Tryd.prog) wr t p ty cp ca
              obtain ⟨v, hv⟩ : ∃ v : Int, ((t[p]'cp).toNat : Int) = v := ⟨_, rfl⟩
              have hdb := ds_byte t p cp
              rw [hv] at hnx hdb
              have hv2 : 0 ≤ v ∧ v < 128 := by omega
              have HD := Aside0.mk hdb
              have e1 : decide ((255 : Int) < v) = false := decide_eq_false (by omega)
              have hgl := HST.out.bel
              have hbi : Below w.heap.size w (wr.iter t (p + 1)) := below_alloc hgl _
              have ht := (HT.out.below H0.out hbi) v hv2.1 (by omega)
              have v0 : 0 ≤ v := hv2.1
              have v1 : v < 256 := by omega
              have hv0 := eq_true v0
              have hv1 := eq_true v1
              have HDG := Aside0.mk (dg_lt (b := v) ⟨hv2.1, by omega⟩)
              have HBI := Aside0.mk hbi
              obtain ⟨d, hd⟩ : ∃ d, dg v = d := ⟨_, rfl⟩
              rw [hd] at ht HD HDG
              clear hgl hbi hdb hv hv2 hlb ca v0 v1 hd
              by_cases c5 : d = 255
              · subst c5
                go_wp2
                go_ret
                exact ⟨_, _, [], rfl, Kd.C_of_reads (d := (0 : Int)) (h1 := fun _ => rfl) ⟨rfl, Nat.zero_le _, fun hn => absurd hn (by simp)⟩, Nat.zero_le _, .inl ⟨mem_in HST.out HCD.out HD.out, rfl⟩, Nat.zero_le _, below_alloc (below_alloc HST.out.bel _) _⟩
              · have e2 : decide (d = 255) = false := decide_eq_false c5
                have e3 : (d = 255) = False := eq_false c5
                have e4 : (d == 255) = false := by simp [c5]
                have hT := HV.out
                have hpl : (58 : Int) ^ p ≤ 58 ^ 9 := by
                  have := HP.out; have := HCP.out; have := HCZ.out; have := HC10.out
                  exact pow58_le (by omega)
                have hp9 : (58 : Int) ^ 9 = 7427658739644928 := by decide
                have hp10 : 58 ^ (p + 1) = (58 : Int) ^ p * 58 := Int.pow_succ ..
                have hT0 := hT.1
                have hT1 := hT.2.1
                have hdg := HDG.out
                rw [hp9] at hpl
                obtain ⟨PW, hPW⟩ : ∃ PW : Int, 58 ^ p = PW := ⟨_, rfl⟩
                rw [hPW] at hpl hp10 hT1
                have f1 : IntKind.u64.wrap (T * 58) = T * 58 := u64_id (by omega) (by omega)
                have f2 : IntKind.u64.wrap d = d := u64_id (by omega) (by omega)
                have f3 : IntKind.u64.wrap (T * 58 + d) = T * 58 + d := u64_id (by omega) (by omega)
                have HNEW := Aside0.mk (show 0 ≤ T * 58 + d ∧ T * 58 + d < 58 ^ (p + 1) ∧ vl (T * 58 + d) ((ds t).drop (p + 1)) = vl 0 (ds t) ∧ 255 ∉ (ds t).take (p + 1) from ⟨by omega, by rw [hp10]; omega, by
                  have := hT.2.2.1
                  rw [HD.out] at this
                  exact this, by
                  have hpc : p < (ds t).length := by rw [ds_len]; exact HCP.out
                  rw [List.take_succ_eq_append_getElem hpc, List.mem_append]
                  have e := HD.out
                  rw [List.drop_eq_getElem_cons hpc] at e
                  have e0 := (List.cons.inj e).1
                  rw [e0]
                  rintro (h | h)
                  · exact hT.2.2.2 h
                  · exact c5 (List.mem_singleton.1 h).symm⟩)
                clear hT hpl hp9 hp10 hT0 hT1 hdg hPW c5
                go_wp2
                go_roundg k2
                case measure => have := HP.out; omega
                case rel => exact ⟨p + 1, T * 58 + d, by first | rfl | (simp [f1, f2, f3]; done) | (rw [f1, f2, f3]), ⟨by have := HP.out; omega, by have := HCP.out; have := HCZ.out; omega⟩, rfl, HNEW⟩
            · have hdh := decode_high t p cp (by omega)
              have hnx := fun ty => run_next_any (P := Tryd.prog) wr t p ty cp
              obtain ⟨v, hv⟩ : ∃ v : Int, ((Utf8.decode t p).1 : Int) = v := ⟨_, rfl⟩
              obtain ⟨q, hq⟩ : ∃ q : Nat, p + (Utf8.decode t p).2 = q := ⟨_, rfl⟩
              rw [hv, hq] at hnx
              have hdb := ds_byte t p cp
              rw [dg_high _ ⟨by omega, by omega⟩] at hdb
              have HD := Aside0.mk hdb
              have hv2 : 128 ≤ v := by omega
              by_cases c5 : 255 < v
              · have e1 : decide ((255 : Int) < v) = true := decide_eq_true c5
                clear hdb hv hlb ca hdh hq hv2 c5
                go_wp2
                go_ret
                exact ⟨_, _, [], rfl, Kd.C_of_reads (d := (0 : Int)) (h1 := fun _ => rfl) ⟨rfl, Nat.zero_le _, fun hn => absurd hn (by simp)⟩, Nat.zero_le _, .inl ⟨mem_in HST.out HCD.out HD.out, rfl⟩, Nat.zero_le _, below_alloc (below_alloc HST.out.bel _) _⟩
              · have e1 : decide ((255 : Int) < v) = false := decide_eq_false c5
                have hbi : Below w.heap.size w (wr.iter t q) := below_alloc HST.out.bel _
                have ht := (HT.out.below H0.out hbi) v (by omega) (by omega)
                rw [dg_high v ⟨hv2, by omega⟩] at ht
                have v0 : 0 ≤ v := by omega
                have v1 : v < 256 := by omega
                have hv0 := eq_true v0
                have hv1 := eq_true v1
                clear hdb hv hlb ca hdh hq hv2 c5 v0 v1 hbi
                go_wp2
                go_ret
                exact ⟨_, _, [], rfl, Kd.C_of_reads (d := (0 : Int)) (h1 := fun _ => rfl) ⟨rfl, Nat.zero_le _, fun hn => absurd hn (by simp)⟩, Nat.zero_le _, .inl ⟨mem_in HST.out HCD.out HD.out, rfl⟩, Nat.zero_le _, below_alloc (below_alloc HST.out.bel _) _⟩
          · have hnx := fun ty => run_next_end (P := Tryd.prog) wr t p ty cp
            have HE := Aside0.mk (show vl 0 (ds t) = T ∧ 0 ≤ T ∧ T < 58 ^ t.size ∧ 255 ∉ ds t from by
              have h1 := HP.out
              have h2 := HCZ.out
              obtain rfl : p = t.size := by omega
              have h3 := HV.out
              rw [List.drop_of_length_le (by rw [ds_len]; omega), List.take_of_length_le (by rw [ds_len]; omega)] at h3
              exact ⟨h3.2.2.1.symm, h3.1, h3.2.1, h3.2.2.2⟩)
            obtain ⟨l, V, a1, a2, a3, a4, a5, a6⟩ := HST.out.ans
            have HA := Aside0.mk (And.intro a1 (And.intro a2 (And.intro a3 (And.intro a5 a6))))
            have HAB := Aside0.mk a4
            obtain ⟨bx, sx, hsc⟩ := HST.out.scr
            have HSC := Aside0.mk hsc
            have HG := Aside0.mk (show _ ∧ l.length ≤ 1210 from ⟨HST.out.ge, by clear a2 a6 a5; omega⟩)
            have HN := Aside0.mk (show 0 < t.size ∧ t.size ≤ t.size ∧ t.size ≤ 10 from by have := HC10.out; omega)
            clear a1 a2 a3 a4 a5 a6 hsc
            go_wp2_with (first
              | (go_at_call 22; go_must ((with_reducible refine (radix_calls t.size HC10.out _).mono ?_); rintro e w3 ⟨gr, hgr, rfl, ⟨lr, r1, r2, r3, r4⟩, hB⟩; have HR := Aside0.mk (And.intro r1 (And.intro r2 (And.intro r3 r4))); have hb0 : Below wr.heap.size wr (wr.iter t p) := below_alloc (Below.refl _ _) _; have HGR := Aside0.mk (show g0 ≠ gr from by have := HG.out.1; have := hb0.size; omega); have HB3 := Aside0.mk (show Below wr.heap.size wr w3 from below_step hb0 hB); clear r1 r2 r3 r4 hgr hB hb0))
              | (go_at_call 21; go_must ((with_reducible refine (mul_calls _ _ g0 gr l lr w3 (HAB.out.below HB3.out) HR.out.2.2.2 HGR.out HA.out.1.dg HR.out.1.dg (by have := HG.out.2; omega) (by have := HR.out.2.2.1; omega)).mono ?_); rintro e w4 ⟨rfl, ⟨l4, m1, m2, m3, m4⟩, m5⟩; have H4 := Aside0.mk (And.intro m1 (And.intro (show lv 4294967296 l4 = V * 58 ^ t.size from by rw [m2, HA.out.2.1, HR.out.2.1]) (And.intro (show l4.length ≤ l.length + 2 from by clear m2; have := HR.out.2.2.1; omega) (And.intro m4 m5)))); clear m1 m2 m3 m4 m5))
              | (go_at_call 23; go_must ((with_reducible refine (setU_calls g1 bx sx T w4 (H4.out.2.2.2.2.keep.blk (blk_below HSC.out HB3.out) (by have := HG.out.1; omega) (by simp)) ⟨HE.out.2.1, Int.lt_of_lt_of_le HE.out.2.2.1 (Int.le_trans (pow58_le HN.out.2.2) (by decide))⟩).mono ?_); rintro e w5 ⟨rfl, ⟨l5, m1, m2, m3, m4⟩, m5⟩; have H5 := Aside0.mk (And.intro m1 (And.intro m2 (And.intro m3 (And.intro m4 m5)))); clear m1 m2 m3 m4 m5))
              | (go_at_call 24; go_must ((with_reducible refine (iadd_calls _ _ g0 g1 l4 l5 w5 (H4.out.2.2.2.1.one H5.out.2.2.2.2 (by have := HG.out.1; omega) (fun k hk => by have := HG.out.1; have := HB3.out.size; omega)) H5.out.2.2.2.1 (by have := HG.out.1; omega) H4.out.1.dg H5.out.1.dg (by have := HG.out.2; have := H4.out.2.2.1; omega) (by have := H5.out.2.2.1; omega)).mono ?_); rintro e w6 ⟨rfl, ⟨l6, m1, m2, m3, m4⟩, m5⟩; have HNX := Aside0.mk (HST.out.next ⟨HN.out.1, HN.out.2.1⟩ HCD.out HE.out HA.out HB3.out H4.out.2.2.2.2 ⟨H4.out.2.2.1, H4.out.2.1⟩ H5.out.2.2.2.2 ⟨H5.out.2.2.1, H5.out.2.1⟩ H5.out.2.2.2.1 m5 ⟨m1, m2, m3⟩ m4); clear m1 m2 m3 m4 m5)))
            go_roundg k1
            case measure => have := HK.out; omega
            case rel => exact ⟨ByteArray.empty, rfl, ⟨by have := HK.out; have := HN.out; show 0 + 1 ≤ k1; omega⟩, ⟨by have := HNX.out; rwa [show t.extract t.size t.size = ByteArray.empty by simp] at this⟩⟩
    · have cb : decide ((0 : Int) < (t.size : Int)) = false := decide_eq_false (by omega)
      have cb2 := eq_false cz
      obtain ⟨l, V, a1, a2, a3, a4, a5, a6⟩ := HST.out.ans
      have hnil : ds t = [] := List.eq_nil_of_length_eq_zero (by rw [ds_len]; clear a2 a5 a6; omega)
      obtain ⟨v, hv⟩ : ∃ v : Nat, V = v := ⟨V.toNat, by clear a2 a6; omega⟩
      obtain ⟨r, r1, r2, r3, r4⟩ := bytes_calls _ g0 v l wr a4 a1 (by rw [a2, hv]) (by clear a2 a5 a6; omega)
      have HR := Aside0.mk (show Nrm 256 r.reverse ∧ bv 256 r = vl 0 (ds s) ∧ r.length ≤ 8000 from ⟨r1, by rw [r2, ← hv, ← a6, hnil]; rfl, r3⟩)
      have H4 := Aside0.mk r4
      have HM := Aside0.mk (show 255 ∉ ds s from fun h => by have := HST.out.mem.2 h; rw [hnil] at this; cases this)
      clear a1 a2 a3 a4 a5 a6 hv hnil r1 r2 r3 r4
      go_wp2_with (first
        | (go_at_call 25; go_must ((with_reducible refine H4.out.mono ?_); rintro e w3 ⟨x, rfl, hR, hB⟩; obtain ⟨A, c, rfl⟩ := Kd.R_slice hR; have HC3 := Aside0.mk (Kd.R_reads' hR).2; have HB3 := Aside0.mk (HST.out.bel.trans (hB.mono HST.out.bel.size)); clear hR hB)))
      clear H4 v l
      go_loopg [12] (s.size + 1) (fun kq v12 w' => ∃ i : Nat, v12 = .int .i64 (i : Int) ∧ Aside0 (i + kq = s.size + 1 ∧ i ≤ s.size ∧ i + lz ((ds s).drop i) = lz (ds s)) ∧ w' = w3)
      case atStart => exact ⟨0, rfl, ⟨by omega, by omega, by simp⟩, rfl⟩
      case round =>
        obtain ⟨i, rfl, HI, hw3⟩ := hrel
        obtain rfl := hw3.symm
        obtain ⟨k2, rfl⟩ : ∃ k2, gk = k2 + 1 := ⟨gk - 1, by have := HI.out; omega⟩
        by_cases ci : i < s.size
        · have cI : decide ((i : Int) < (s.size : Int)) = true := decide_eq_true (by omega)
          have cI2 := eq_true ci
          have hat := ds_at s i ci
          have hone := dg_one (bt_lt s (i : Int))
          have hbe : ((s[i]'ci).toNat : Int) = bt s (i : Int) := by simp [bt, ci]
          by_cases c49 : bt s (i : Int) = 49
          · have HI2 := Aside0.mk (show i + 1 + k2 = s.size + 1 ∧ i + 1 ≤ s.size ∧ i + 1 + lz ((ds s).drop (i + 1)) = lz (ds s) from by
              have h1 := HI.out
              rw [hat, hone.2 c49] at h1
              have : lz (0 :: (ds s).drop (i + 1)) = lz ((ds s).drop (i + 1)) + 1 := if_pos rfl
              omega)
            have c49b : (((s[i]'ci).toNat : Int) != 49) = false := by rw [hbe, c49]; rfl
            clear hat hone hbe
            go_wp2
            go_roundg k2
            case measure => have := HI.out; omega
            case rel => exact ⟨i + 1, by first | rfl | (rw [wrap64_id (by have := HS.out; omega) (by have := HS.out; omega)]; push_cast; rfl), HI2, rfl⟩
          · have c49b : (((s[i]'ci).toNat : Int) != 49) = true := by rw [hbe]; simpa using c49
            have hzz : lz ((ds s).drop i) = 0 := by rw [hat]; exact if_neg fun h => c49 (hone.1 h)
            have HZ := Aside0.mk (show Aside0 (i = lz (ds s) ∧ i ≤ 400) from ⟨by have := HI.out; omega, by have := HI.out; have := HS.out; omega⟩)
            obtain ⟨F, hF⟩ : ∃ F : Int, ((i + r.length : Nat) : Int) = F := ⟨_, rfl⟩
            have hFl : 0 ≤ F ∧ F ≤ 100000 := by have := HZ.out.out; have := HR.out; omega
            have hwF : wrap64 ((i : Int) + (r.length : Int)) = F := by rw [← hF]; push_cast; exact wrap64_id (by omega) (by omega)
            have hmk := mk_run (i + r.length) (by omega) w3
            rw [hF] at hmk
            have hFb : Aside0 (i + r.length ≤ 100000) := ⟨by omega⟩
            clear hF hFl
            rcases Nat.eq_zero_or_pos r.length with hr0 | hr0
            · obtain rfl : r = [] := List.eq_nil_of_length_eq_zero hr0
              obtain ⟨hcp, hCC⟩ := copy_tail0 w3 A c i (by have := HZ.out.out; omega)
              have hw0 : wrap64 (i : Int) = F := by simpa using hwF
              simp only [List.length_nil, Nat.add_zero] at hmk
              have HCC := Aside0.mk hCC
              clear hCC hr0
              go_wp2
              go_ret
              exact ⟨some ⟨w3.heap.size, 0, none⟩, i, List.replicate i 0, by rw [List.length_replicate]; rfl, by rw [List.length_replicate]; exact HCC.out, by rw [List.length_replicate]; exact Nat.le_refl _, .inr ⟨HM.out, [], by rw [← HZ.out.out.1, List.append_nil], HR.out.1, HR.out.2.1⟩, by rw [List.length_replicate]; have := HZ.out.out; omega, below_alloc HB3.out _⟩
            · obtain ⟨W6, hcp, hCC, hBB⟩ := copy_tail w3 A c i r HC3.out.2 HC3.out.1 hr0 hFb.out
              have HCC := Aside0.mk hCC
              have HBB := Aside0.mk (HB3.out.trans (hBB.mono HB3.out.size))
              have hrn : ¬ r.length = 0 := by omega
              clear hCC hBB
              go_wp2
              go_ret
              exact ⟨some ⟨w3.heap.size, 0, none⟩, i + r.length, List.replicate i 0 ++ r, by rw [List.length_append, List.length_replicate]; rfl, by rw [List.length_append, List.length_replicate]; exact HCC.out, by rw [List.length_append, List.length_replicate]; exact Nat.le_refl _, .inr ⟨HM.out, r, by rw [← HZ.out.out.1], HR.out.1, HR.out.2.1⟩, by rw [List.length_append, List.length_replicate]; exact hFb.out, HBB.out⟩
        · have cI : decide ((i : Int) < (s.size : Int)) = false := decide_eq_false (by omega)
          have cI2 := eq_false ci
          have hzz : lz ((ds s).drop i) = 0 := by rw [ds_end s i (by omega)]; rfl
          have HZ := Aside0.mk (show Aside0 (i = lz (ds s) ∧ i ≤ 400) from ⟨by have := HI.out; omega, by have := HI.out; have := HS.out; omega⟩)
          obtain ⟨F, hF⟩ : ∃ F : Int, ((i + r.length : Nat) : Int) = F := ⟨_, rfl⟩
          have hFl : 0 ≤ F ∧ F ≤ 100000 := by have := HZ.out.out; have := HR.out; omega
          have hwF : wrap64 ((i : Int) + (r.length : Int)) = F := by rw [← hF]; push_cast; exact wrap64_id (by omega) (by omega)
          have hmk := mk_run (i + r.length) (by omega) w3
          rw [hF] at hmk
          have hFb : Aside0 (i + r.length ≤ 100000) := ⟨by omega⟩
          clear hF hFl
          rcases Nat.eq_zero_or_pos r.length with hr0 | hr0
          · obtain rfl : r = [] := List.eq_nil_of_length_eq_zero hr0
            obtain ⟨hcp, hCC⟩ := copy_tail0 w3 A c i (by have := HZ.out.out; omega)
            have hw0 : wrap64 (i : Int) = F := by simpa using hwF
            simp only [List.length_nil, Nat.add_zero] at hmk
            have HCC := Aside0.mk hCC
            clear hCC hr0
            go_wp2
            go_ret
            exact ⟨some ⟨w3.heap.size, 0, none⟩, i, List.replicate i 0, by rw [List.length_replicate]; rfl, by rw [List.length_replicate]; exact HCC.out, by rw [List.length_replicate]; exact Nat.le_refl _, .inr ⟨HM.out, [], by rw [← HZ.out.out.1, List.append_nil], HR.out.1, HR.out.2.1⟩, by rw [List.length_replicate]; have := HZ.out.out; omega, below_alloc HB3.out _⟩
          · obtain ⟨W6, hcp, hCC, hBB⟩ := copy_tail w3 A c i r HC3.out.2 HC3.out.1 hr0 hFb.out
            have HCC := Aside0.mk hCC
            have HBB := Aside0.mk (HB3.out.trans (hBB.mono HB3.out.size))
            have hrn : ¬ r.length = 0 := by omega
            clear hCC hBB
            go_wp2
            go_ret
            exact ⟨some ⟨w3.heap.size, 0, none⟩, i + r.length, List.replicate i 0 ++ r, by rw [List.length_append, List.length_replicate]; rfl, by rw [List.length_append, List.length_replicate]; exact HCC.out, by rw [List.length_append, List.length_replicate]; exact Nat.le_refl _, .inr ⟨HM.out, r, by rw [← HZ.out.out.1], HR.out.1, HR.out.2.1⟩, by rw [List.length_append, List.length_replicate]; exact hFb.out, HBB.out⟩
end Go.Proofs.YtojadhcbjcpifaaDoor.Ub
