/-
  impl.WriteBech32.
-/
import Derived.Test.YtciocjaelmnhiaaDoorBp6
namespace Go.Proofs.YtciocjaelmnhiaaDoor.Bp
open Go.RowKit Go.Proofs.YtciocjaelmnhiaaDoorW.PrintWords Go.Proofs.YtciocjaelmnhiaaDoorW.PrintLast Go.Proofs.YtciocjaelmnhiaaDoorW.PrintMore Go.Proofs.YtciocjaelmnhiaaDoor.Reg
set_option linter.unusedSimpArgs false
set_option linter.unusedVariables false

theorem copied_eq (l : List Int) (hl : l.length ≤ 2147483647) : PFnWriteBech32.impl_copied.f l = some l := by
  unfold PFnWriteBech32.impl_copied.f
  simp; omega
set_option maxHeartbeats 4000000 in
set_option maxRecDepth 100000 in
theorem one_err (t : TypeId) (v : Value) (w : World) : Calls Tryd.prog 14 #[.iface t v] w fun e w' => e = .returned (.int .i64 1) ∧ Below w.heap.size w w' := by
  go_enter Tryd.func14, Tryd.ntmps14
  go_wp2
  go_ret
  exact ⟨rfl, by first | exact Below.refl _ _ | exact below_drew (Below.refl _ _)⟩
set_option maxHeartbeats 4000000 in
set_option maxRecDepth 100000 in
theorem one_nil (w : World) : Calls Tryd.prog 14 #[.nilIface] w fun e w' => e = .returned (.int .i64 0) ∧ Below w.heap.size w w' := by
  go_enter Tryd.func14, Tryd.ntmps14
  go_wp2
  go_ret
  exact ⟨rfl, by first | exact Below.refl _ _ | exact below_drew (Below.refl _ _)⟩
/-- What the writers answer. -/
def WOut (s : ByteArray) (l : List Int) (K : Nat) (e : Ending) : Prop := (Small l ∧ e = .returned (.tuple #[.string (enc s l K), .nilIface])) ∨ ((¬ Small l) ∧ ∃ v, e = .returned (.tuple #[.string ⟨#[]⟩, .iface 57 v]))
def IOut (s : ByteArray) (l : List Int) (K : Nat) (e : Ending) : Prop := (Small l ∧ e = .returned (.tuple #[.string (enc s l K), .int .i64 0])) ∨ ((¬ Small l) ∧ ∃ v, e = .returned (.tuple #[v, .int .i64 1]))
set_option maxHeartbeats 4000000 in
set_option maxRecDepth 100000 in
theorem e0_calls (s : ByteArray) (A : Option Addr) (c1 : Nat) (l : List Int) (w : World)
    (hg : GenB w.heap.size w) (hs : s.size ≤ 1000) (hcap : ∀ b ∈ s.data.toList, ¬ (65 ≤ b.toNat ∧ b.toNat ≤ 90)) (hl : Kd.C (Kd.int .u8) w A l.length l) (hlv : ∀ v ∈ l, 0 ≤ v ∧ v < 256) (hll : l.length ≤ 1000) :
    Calls Tryd.prog 15 #[.string s, .slice A l.length c1] w fun e w' => WOut s l 1 e ∧ Below w.heap.size w w' := by
  have H := Lib.hid (gen_calls s A c1 l 0 1 w rfl (by decide) hg hs hcap hl hlv hll)
  obtain ⟨n, hn⟩ : ∃ n, l.length = n := ⟨_, rfl⟩
  rw [hn] at H ⊢
  clear hg hs hcap hl hlv hll hn
  go_enter Tryd.func15, Tryd.ntmps15
  go_wp2_with (first
    | (go_at_call 20; go_must ((with_reducible refine H.out.mono ?_); rintro e w1 ⟨ho, hB⟩; have HB := Aside0.mk hB; rcases ho with ⟨hsm, rfl⟩ | ⟨hsm, v, rfl⟩ <;> have HSM := Aside0.mk hsm <;> clear hsm hB)))
  · go_ret2
    exact ⟨.inl ⟨HSM.out, rfl⟩, HB.out⟩
  · go_ret2
    exact ⟨.inr ⟨HSM.out, _, rfl⟩, HB.out⟩
set_option maxHeartbeats 4000000 in
set_option maxRecDepth 100000 in
theorem e1_calls (s : ByteArray) (A : Option Addr) (c1 : Nat) (l : List Int) (w : World)
    (hg : GenB w.heap.size w) (hs : s.size ≤ 1000) (hcap : ∀ b ∈ s.data.toList, ¬ (65 ≤ b.toNat ∧ b.toNat ≤ 90)) (hl : Kd.C (Kd.int .u8) w A l.length l) (hlv : ∀ v ∈ l, 0 ≤ v ∧ v < 256) (hll : l.length ≤ 1000) :
    Calls Tryd.prog 12 #[.string s, .slice A l.length c1] w fun e w' => WOut s l 734539939 e ∧ Below w.heap.size w w' := by
  have H := Lib.hid (gen_calls s A c1 l 1 734539939 w rfl (by decide) hg hs hcap hl hlv hll)
  obtain ⟨n, hn⟩ : ∃ n, l.length = n := ⟨_, rfl⟩
  rw [hn] at H ⊢
  clear hg hs hcap hl hlv hll hn
  go_enter Tryd.func12, Tryd.ntmps12
  go_wp2_with (first
    | (go_at_call 20; go_must ((with_reducible refine H.out.mono ?_); rintro e w1 ⟨ho, hB⟩; have HB := Aside0.mk hB; rcases ho with ⟨hsm, rfl⟩ | ⟨hsm, v, rfl⟩ <;> have HSM := Aside0.mk hsm <;> clear hsm hB)))
  · go_ret2
    exact ⟨.inl ⟨HSM.out, rfl⟩, HB.out⟩
  · go_ret2
    exact ⟨.inr ⟨HSM.out, _, rfl⟩, HB.out⟩
set_option maxHeartbeats 4000000 in
set_option maxRecDepth 100000 in
theorem w0_calls (s : ByteArray) (A : Option Addr) (c1 : Nat) (l : List Int) (w : World)
    (hg : GenB w.heap.size w) (hs : s.size ≤ 1000) (hcap : ∀ b ∈ s.data.toList, ¬ (65 ≤ b.toNat ∧ b.toNat ≤ 90)) (hl : Kd.C (Kd.int .u8) w A l.length l) (hlc : l.length ≤ c1) (hlv : ∀ v ∈ l, 0 ≤ v ∧ v < 256) (hll : l.length ≤ 1000) :
    Calls Tryd.prog 7 #[.string s, .slice A l.length c1, .bool false] w fun e w' => IOut s l 1 e ∧ Below w.heap.size w w' := by
  have HCP := Lib.hid (PFnWriteBech32.impl_copied.calls A c1 l l w hl hlc (copied_eq l (by omega)))
  have H := Lib.hid (fun (A2 : Option Addr) (c2 : Nat) (W : World) (hW : Below w.heap.size w W) (hl2 : Kd.C (Kd.int .u8) W A2 l.length l) => e0_calls s A2 c2 l W ((hg.below hW (Nat.le_refl _)).up hW.size) hs hcap hl2 hlv hll)
  obtain ⟨n, hn⟩ : ∃ n, l.length = n := ⟨_, rfl⟩
  rw [hn] at H HCP ⊢
  have HN := Lib.hid hn
  clear hg hs hcap hl hlv hll hlc hn
  go_enter Tryd.func7, Tryd.ntmps7
  go_wp2_with (first
    | (go_at_call 13; go_must ((with_reducible refine HCP.out.mono ?_); rintro e w1 ⟨v, rfl, hR, hB⟩; obtain ⟨A2, c2, rfl⟩ := Kd.R_slice hR; have H1 := Aside0.mk (And.intro (Kd.R_reads' hR).2.2 hB); clear hR hB; rw [HN.out] at H1 ⊢))
    | (go_at_call 15; go_must ((with_reducible refine (H.out A2 c2 _ H1.out.2 H1.out.1).mono ?_); rintro e w2 ⟨ho, hB⟩; have HB := Aside0.mk (below_step H1.out.2 hB); rcases ho with ⟨hsm, rfl⟩ | ⟨hsm, v, rfl⟩ <;> have HSM := Aside0.mk hsm <;> clear hsm hB))
    | (go_at_call 14; go_must (first
        | ((with_reducible refine (one_nil _).mono ?_); rintro e w3 ⟨rfl, hB⟩; have HB3 := Aside0.mk (below_step HB.out hB); clear hB)
        | ((with_reducible refine (one_err _ _ _).mono ?_); rintro e w3 ⟨rfl, hB⟩; have HB3 := Aside0.mk (below_step HB.out hB); clear hB))))
  · go_ret2
    exact ⟨.inl ⟨HSM.out, rfl⟩, HB3.out⟩
  · go_ret2
    exact ⟨.inr ⟨HSM.out, _, rfl⟩, HB3.out⟩
set_option maxHeartbeats 4000000 in
set_option maxRecDepth 100000 in
theorem w1_calls (s : ByteArray) (A : Option Addr) (c1 : Nat) (l : List Int) (w : World)
    (hg : GenB w.heap.size w) (hs : s.size ≤ 1000) (hcap : ∀ b ∈ s.data.toList, ¬ (65 ≤ b.toNat ∧ b.toNat ≤ 90)) (hl : Kd.C (Kd.int .u8) w A l.length l) (hlc : l.length ≤ c1) (hlv : ∀ v ∈ l, 0 ≤ v ∧ v < 256) (hll : l.length ≤ 1000) :
    Calls Tryd.prog 7 #[.string s, .slice A l.length c1, .bool true] w fun e w' => IOut s l 734539939 e ∧ Below w.heap.size w w' := by
  have HCP := Lib.hid (PFnWriteBech32.impl_copied.calls A c1 l l w hl hlc (copied_eq l (by omega)))
  have H := Lib.hid (fun (A2 : Option Addr) (c2 : Nat) (W : World) (hW : Below w.heap.size w W) (hl2 : Kd.C (Kd.int .u8) W A2 l.length l) => e1_calls s A2 c2 l W ((hg.below hW (Nat.le_refl _)).up hW.size) hs hcap hl2 hlv hll)
  obtain ⟨n, hn⟩ : ∃ n, l.length = n := ⟨_, rfl⟩
  rw [hn] at H HCP ⊢
  have HN := Lib.hid hn
  clear hg hs hcap hl hlv hll hlc hn
  go_enter Tryd.func7, Tryd.ntmps7
  go_wp2_with (first
    | (go_at_call 13; go_must ((with_reducible refine HCP.out.mono ?_); rintro e w1 ⟨v, rfl, hR, hB⟩; obtain ⟨A2, c2, rfl⟩ := Kd.R_slice hR; have H1 := Aside0.mk (And.intro (Kd.R_reads' hR).2.2 hB); clear hR hB; rw [HN.out] at H1 ⊢))
    | (go_at_call 12; go_must ((with_reducible refine (H.out A2 c2 _ H1.out.2 H1.out.1).mono ?_); rintro e w2 ⟨ho, hB⟩; have HB := Aside0.mk (below_step H1.out.2 hB); rcases ho with ⟨hsm, rfl⟩ | ⟨hsm, v, rfl⟩ <;> have HSM := Aside0.mk hsm <;> clear hsm hB))
    | (go_at_call 14; go_must (first
        | ((with_reducible refine (one_nil _).mono ?_); rintro e w3 ⟨rfl, hB⟩; have HB3 := Aside0.mk (below_step HB.out hB); clear hB)
        | ((with_reducible refine (one_err _ _ _).mono ?_); rintro e w3 ⟨rfl, hB⟩; have HB3 := Aside0.mk (below_step HB.out hB); clear hB))))
  · go_ret2
    exact ⟨.inl ⟨HSM.out, rfl⟩, HB3.out⟩
  · go_ret2
    exact ⟨.inr ⟨HSM.out, _, rfl⟩, HB3.out⟩
end Go.Proofs.YtciocjaelmnhiaaDoor.Bp
