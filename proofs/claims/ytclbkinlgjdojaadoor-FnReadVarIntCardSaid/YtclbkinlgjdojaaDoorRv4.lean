/-
  spec.ReadVarInt.
-/
import Derived.Test.YtclbkinlgjdojaaDoorRv3
namespace Go.Proofs.YtclbkinlgjdojaaDoor.Rv
open Go.RowKit Go.Proofs.YtclbkinlgjdojaaDoorW.PrintWords Go.Proofs.YtclbkinlgjdojaaDoorW.PrintLast Go.Proofs.YtclbkinlgjdojaaDoor.Reg Go.Proofs.YtclbkinlgjdojaaDoor.Tok
set_option linter.unusedSimpArgs false
set_option linter.unusedVariables false

/-- A number of variable length at the front of bytes, and how many bytes it has. -/
def rvi : List Int → Option (Int × Int)
  | [] => none
  | d :: t => if d < 253 then some (d, 1) else if d = 253 then big 2 253 t else if d = 254 then big 4 65536 t else big 8 4294967296 t
theorem vi_calls (g : Nat) (A : Option Addr) (c : Nat) (l : List Int) (w : World) (h : Wr w g A l.length c 0 false) (hC : ∀ W, Below g w W → Kd.C (Kd.int .u8) W A l.length l) (hc : l.length ≤ c) (hcm : c ≤ 9223372036854775807) (hn : l.length ≤ 100000) (hne : ∀ ad, A = some ad → 0 < l.length → ad.block ≠ g) (hb : Bytes l) :
    Calls Tryd.prog 6 #[.pointer (some ⟨g, 0, none⟩)] w fun e w' => VOut g A l.length c (rvi l) e w' ∧ Below g w w' := by
  match l, h, hC, hc, hn, hb with
  | [], h, _, _, _, _ => exact (vi_nil g A c w h).mono fun e w' h => ⟨⟨h.1, h.2.1⟩, h.2.2⟩
  | d :: t, h, hC, hc, hn, hb =>
    have hd := hb d List.mem_cons_self
    by_cases c1 : d < 253
    · refine (vi_small g A c d t w h hC hc hcm hn (fun ad e => hne ad e (by simp)) hb c1).mono fun e w' h => ?_
      rw [show rvi (d :: t) = some (d, 1) from if_pos c1]
      exact ⟨⟨h.1, h.2.1⟩, h.2.2⟩
    · by_cases c2 : d = 253
      · subst c2
        rw [show rvi (253 :: t) = big 2 253 t from rfl]
        exact vi_253 g A c t w h hC hc hcm hn (fun ad e => hne ad e (by simp)) hb
      · by_cases c3 : d = 254
        · subst c3
          rw [show rvi (254 :: t) = big 4 65536 t from rfl]
          exact vi_254 g A c t w h hC hc hcm hn (fun ad e => hne ad e (by simp)) hb
        · obtain rfl : d = 255 := by omega
          rw [show rvi (255 :: t) = big 8 4294967296 t from rfl]
          exact vi_255 g A c t w h hC hc hcm hn (fun ad e => hne ad e (by simp)) hb
theorem results_three {P : Program} {fn : Func} {t u v : Tmp} (h : fn.results = #[.tmp t, .tmp u, .tmp v]) (tmps : Array Value) (w : World) :
    (results fn tmps).run P w = .ok (.tuple #[tmps.getD t undef, tmps.getD u undef, tmps.getD v undef]) w := by
  simp [results, h]
/-- The answer as values. -/
def sval : Option (Int × Int) → Value
  | none => .tuple #[.int .u64 0, .int .i64 0, .bool false]
  | some (v, u) => .tuple #[.int .u64 v, .int .i64 u, .bool true]
set_option maxHeartbeats 8000000 in
set_option maxRecDepth 100000 in
theorem sread_calls (A : Option Addr) (c : Nat) (l : List Int) (w : World) (hC : Kd.C (Kd.int .u8) w A l.length l) (hc : l.length ≤ c) (hcm : c ≤ 9223372036854775807) (hn : l.length ≤ 100000) (hne : ∀ ad, A = some ad → 0 < l.length → ad.block < w.heap.size) (hb : Bytes l) :
    Calls Tryd.prog 4 #[.slice A l.length c] w fun e w' => e = .returned (sval (rvi l)) ∧ Below w.heap.size w w' := by
  obtain ⟨W0, hW0⟩ : ∃ W0, w.alloc (.cells #[.slice A l.length c, .int .i64 0, .bool false] 31) = W0 := ⟨_, rfl⟩
  have hB0 : Below w.heap.size w W0 := hW0 ▸ below_alloc (Below.refl _ _) _
  have hblk : Wr W0 w.heap.size A l.length c 0 false := hW0 ▸ heap_alloc_new w _
  have HV := Lib.hid (vi_calls w.heap.size A c l W0 hblk (fun W hW => (Kd.heap_int .u8).C (fun k hk => (hW.block k hk).trans (hB0.block k hk)) hC) hc hcm hn (fun ad e hl => Nat.ne_of_lt (hne ad e hl)) hb)
  have HB0 := Lib.hid hB0
  have hall := hW0
  obtain ⟨n, hnn⟩ : ∃ n, l.length = n := ⟨_, rfl⟩
  rw [hnn] at HV hall ⊢
  clear hW0 hB0 hblk hC hc hcm hn hne hb hnn
  rcases ho : rvi l with _ | ⟨v, u⟩
  all_goals rw [ho] at HV
  · clear ho
    go_enter Tryd.func4, Tryd.ntmps4
    go_wp2_with (go_at_call 6; go_must ((with_reducible refine HV.out.mono ?_); rintro e w1 ⟨⟨⟨v, rfl⟩, ⟨p, hW⟩⟩, hB⟩; have z2 := (blk_cell hW 2).trans rfl; have HB := Lib.hid (HB0.out.trans hB); clear hW hB))
    refine bodyPost_ret (results_three (by rfl) _ _) (by rfl) ⟨by first | rfl | (simp [sval]; done), HB.out⟩
  · clear ho
    go_enter Tryd.func4, Tryd.ntmps4
    go_wp2_with (go_at_call 6; go_must ((with_reducible refine HV.out.mono ?_); rintro e w1 ⟨⟨rfl, hW⟩, hB⟩; have z2 := (blk_cell hW 2).trans rfl; have z1 := Lib.hid ((blk_cell hW 1).trans rfl); have HB := Lib.hid (HB0.out.trans hB); clear hW hB))
    refine start_ (n := 8) (S := fun w' => w'.cell? ⟨w.heap.size, 1, none⟩ = some (.int .i64 u)) (ds := []) #[false, false, false, false, false, false, false, false] (by kernel_rfl) rfl rfl (z1.out) (fun hHeld => ?_)
    refine pure_ (i := 0) (N := some 15) (v := ?_) (a' := ?_) #[true, false, false, false, false, false, false, false] rfl rfl (by kernel_rfl) (fun _ _ _ h => h) (Or.inl ⟨by rfl, ?_⟩) ?_ ?_
    rotate_left
    · intro w'
      go_simp
      with_reducible rfl
    rotate_left
    · simp only [Act.put, List.setIfInBounds_toArray, List.set_cons_zero, List.set_cons_succ, i64_w, i32_w]
      rfl
    refine pure_ (i := 1) (N := some 16) (v := ?_) (a' := ?_) #[true, true, false, false, false, false, false, false] rfl rfl (by kernel_rfl) (fun _ _ _ h => h) (Or.inl ⟨by rfl, ?_⟩) ?_ ?_
    rotate_left
    · intro w'
      go_simp
      with_reducible rfl
    rotate_left
    · simp only [Act.put, List.setIfInBounds_toArray, List.set_cons_zero, List.set_cons_succ, i64_w, i32_w]
      rfl
    refine pure_ (i := 2) (N := some 17) (v := ?_) (a' := ?_) #[true, true, true, false, false, false, false, false] rfl rfl (by kernel_rfl) (fun _ _ _ h => h) (Or.inl ⟨by rfl, ?_⟩) ?_ ?_
    rotate_left
    · intro w'
      go_simp
      with_reducible rfl
    rotate_left
    · simp only [Act.put, List.setIfInBounds_toArray, List.set_cons_zero, List.set_cons_succ, i64_w, i32_w]
      rfl
    refine pure_ (i := 3) (N := some 18) (v := ?_) (a' := ?_) #[true, true, true, true, false, false, false, false] rfl rfl (by kernel_rfl) (fun _ _ _ h => h) (Or.inl ⟨by rfl, ?_⟩) ?_ ?_
    rotate_left
    · intro w'
      go_simp
      with_reducible rfl
    rotate_left
    · simp only [Act.put, List.setIfInBounds_toArray, List.set_cons_zero, List.set_cons_succ, i64_w, i32_w]
      rfl
    refine pure_ (i := 5) (N := some 2) (v := ?_) (a' := ?_) #[true, true, true, true, false, true, false, false] rfl rfl (by kernel_rfl) (fun _ _ _ h => h) (Or.inl ⟨by rfl, ?_⟩) ?_ ?_
    rotate_left
    · intro w'
      go_simp
      with_reducible rfl
    rotate_left
    · simp only [Act.put, List.setIfInBounds_toArray, List.set_cons_zero, List.set_cons_succ, i64_w, i32_w]
      rfl
    refine take_ (i := 4) (N := some 19) (v := ?_) (a' := ?_) #[true, true, true, true, true, true, false, false] rfl rfl (by kernel_rfl) (fun _ _ _ h => h) (Or.inl ⟨by rfl, ?_⟩) hHeld ?_ ?_
    rotate_left
    · intro w' s0
      go_simp
      with_reducible rfl
    rotate_left
    · simp only [Act.put, List.setIfInBounds_toArray, List.set_cons_zero, List.set_cons_succ, i64_w, i32_w]
      rfl
    refine pure_ (i := 6) (N := some 3) (v := ?_) (a' := ?_) #[true, true, true, true, true, true, true, false] rfl rfl (by kernel_rfl) (fun _ _ _ h => h) (Or.inl ⟨by rfl, ?_⟩) ?_ ?_
    rotate_left
    · intro w'
      go_simp
      with_reducible rfl
    rotate_left
    · simp only [Act.put, List.setIfInBounds_toArray, List.set_cons_zero, List.set_cons_succ, i64_w, i32_w]
      rfl
    refine pure_ (i := 7) (N := some 4) (v := ?_) (a' := ?_) #[true, true, true, true, true, true, true, true] rfl rfl (by kernel_rfl) (fun _ _ _ h => h) (Or.inl ⟨by rfl, ?_⟩) ?_ ?_
    rotate_left
    · intro w'
      go_simp
      with_reducible rfl
    rotate_left
    · simp only [Act.put, List.setIfInBounds_toArray, List.set_cons_zero, List.set_cons_succ, i64_w, i32_w]
      rfl
    refine done_ (by kernel_rfl) ?_
    go_wp2
    refine bodyPost_ret (results_three (by rfl) _ _) (by rfl) ⟨by first | rfl | (simp [sval]; done), below_drew HB.out⟩
end Go.Proofs.YtclbkinlgjdojaaDoor.Rv
