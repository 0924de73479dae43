/-
  impl.Disasm.
-/
import Derived.Test.YtafpmdmmeohmfaaDrStr
namespace Go.Proofs.Ytafpmdmmeohmfaa.Dr
open Go.RowKit Go.Proofs.YtafpmdmmeohmfaaW.PrintWords Go.Proofs.YtafpmdmmeohmfaaW.PrintLast Go.Proofs.YtafpmdmmeohmfaaW.PrintMore Go.Proofs.Ytafpmdmmeohmfaa.PFnDisasmRead Go.Proofs.Ytafpmdmmeohmfaa.Tok
open Go.Lib (Hx.encode Hx.digit Hx.encode_length Hx.encode_cons)
set_option linter.unusedSimpArgs false
set_option linter.unusedVariables false

set_option maxHeartbeats 8000000 in
set_option maxRecDepth 100000 in
theorem str_nil (A : Option Addr) (c : Nat) (w : World) :
    Calls Try.prog 17 #[.slice A 0 c] w fun e w' =>
      e = .returned (.tuple #[.string ⟨#[]⟩, .nilIface]) ∧ Below w.heap.size w w' := by
  have HBF := Lib.hid (Bd.fresh w)
  go_enter Try.func17, Try.ntmps17
  go_wp2_with (go_at_call 34; go_must ((with_reducible refine (make_calls A 0 c _).mono ?_); rintro e w1 ⟨rfl, hB1⟩; have HB1 := Aside0.mk hB1; clear hB1))
  obtain ⟨W0, hW0⟩ : ∃ W0, w1.alloc (.cells #[.slice A 0 c, .int .u16 0, .int .i32 0, .int .i32 (-1), .pointer none, .slice none 0 0, .nilIface] 64) = W0 := ⟨_, rfl⟩
  rw [hW0]
  have HT := Aside0.mk (show Tz W0 w1.heap.size A 0 c 0 (-1) (.pointer none) (.slice none 0 0) .nilIface from hW0 ▸ blk_new _ _)
  have hBa := below_alloc (Below.refl w.heap.size w) (.cells #[.pointer none, .slice none 0 0] 60)
  have HB := Aside0.mk (show Below w.heap.size w W0 from hW0 ▸ below_alloc (below_step hBa HB1.out) _)
  have HBD := Aside0.mk (show Bd w.heap.size w.heap.size [] W0 from hW0 ▸ (HBF.out.below HB1.out).below (below_alloc (Below.refl _ _) _))
  have hgs : w.heap.size < w1.heap.size := by have := HB1.out.size; simp at this; omega
  obtain ⟨g, hg⟩ : ∃ g, w1.heap.size = g := ⟨_, rfl⟩
  rw [hg] at HT hgs ⊢
  have HGS := Lib.hid hgs
  clear HB1 HBF hBa hW0 hg hgs
  go_wp2_with (go_at_call 35; go_must ((with_reducible refine (next_end _ _ _ _ _ _ _ _ _ HT.out (by decide) (Int.le_refl _)).mono ?_); rintro e w2 ⟨rfl, m, rfl⟩))
  go_loopg [] 1 (fun kq w' => w' = W0.drewN m)
  case atStart => rfl
  case round =>
    subst hrel
    go_wp2_with (first
      | (go_at_call 35; go_must ((with_reducible refine (next_end _ _ _ _ _ _ _ _ _ (tz_drewN HT.out _) (by decide) (Int.le_refl _)).mono ?_); rintro e w2 ⟨rfl, m2, rfl⟩))
      | (go_at_call 39; go_must (first | ((with_reducible refine (err_calls _ _ _ _ _ _ _ _ _ _ HT4.out).mono ?_); rintro e w5 ⟨rfl, rfl⟩) | ((with_reducible refine (err_calls _ _ _ _ _ _ _ _ _ _ (show Tz _ _ _ _ _ _ _ _ _ _ from tz_drewN HT.out _)).mono ?_); rintro e w3 ⟨rfl, rfl⟩)))
      | (go_at_call 42; go_must ((with_reducible refine (bs_calls w.heap.size w.heap.size [] _ (HBD.out.below (pw_below_drewN (Below.refl _ _) _)) (pw_below_drewN HB.out _).size).mono ?_); rintro e w4 ⟨rfl, h1, h2⟩; have HB4 := Aside0.mk ((pw_below_drewN HB.out _).trans h1); have HT4 := Aside0.mk (Tz.oth (show Tz _ g A 0 c 0 (-1) (.pointer none) (.slice none 0 0) .nilIface from tz_drewN HT.out _) h2 (by have := HGS.out; omega)); clear h1 h2)))
    go_ret2
    exact ⟨rfl, HB4.out⟩
theorem tokens_nil : tokens [] = ([], -1) := rfl
theorem string_calls (A : Option Addr) (c : Nat) (l : List Int) (w : World) (hs : Kd.V (Kd.int .u8) 5 w w.heap.size (fun _ => True) (.slice A l.length c) l) (hb : Bytes l) (hn : l.length ≤ 4000)
    (ts0 : List T) (ht : tokens l = (ts0, -1)) (hgood : ∀ t ∈ ts0, 1 ≤ t.op → t.op ≤ 78 → 0 < t.data.length) :
    Calls Try.prog 17 #[.slice A l.length c] w fun e w' =>
      e = .returned (.tuple #[.string ⟨(joined (ts0.map txtOf)).toArray⟩, .nilIface]) ∧ Below w.heap.size w w' := by
  cases l with
  | nil =>
    rw [tokens_nil] at ht
    injection ht with h1 _
    subst h1
    exact str_nil A c w
  | cons x r => exact str_some A c (x :: r) w hs hb hn (by simp) ts0 ht hgood
set_option maxHeartbeats 8000000 in
set_option maxRecDepth 100000 in
theorem disasm_calls (A : Option Addr) (c : Nat) (l : List Int) (w : World) (hs : Kd.V (Kd.int .u8) 5 w w.heap.size (fun _ => True) (.slice A l.length c) l) (hb : Bytes l) (hn : l.length ≤ 4000)
    (ts0 : List T) (ht : tokens l = (ts0, -1)) (hgood : ∀ t ∈ ts0, 1 ≤ t.op → t.op ≤ 78 → 0 < t.data.length) :
    Calls Try.prog 7 #[.slice A l.length c] w fun e w' =>
      e = .returned (.tuple #[.string ⟨(joined (ts0.map txtOf)).toArray⟩, .int .i64 0]) ∧ Below w.heap.size w w' := by
  have HS := Lib.hid (string_calls A c l w hs hb hn ts0 ht hgood)
  clear hs hb hn ht hgood
  obtain ⟨s, hse⟩ : ∃ s, (⟨(joined (ts0.map txtOf)).toArray⟩ : ByteArray) = s := ⟨_, rfl⟩
  rw [hse] at HS ⊢
  clear hse
  go_enter Try.func7, Try.ntmps7
  go_wp2_with (first
    | (go_at_call 17; go_must ((with_reducible refine HS.out.mono ?_); rintro e w1 ⟨rfl, h1⟩; have HB1 := Aside0.mk h1; clear h1))
    | (go_at_call 18; go_must ((with_reducible refine (kindOf_nil _).mono ?_); rintro e w4 ⟨rfl, rfl⟩)))
  go_ret2
  exact ⟨rfl, HB1.out⟩
end Go.Proofs.Ytafpmdmmeohmfaa.Dr
