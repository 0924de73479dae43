/-
  The law of WriteBech32.
-/
import Derived.Test.YtciocjaelmnhiaaDoorBpI
import Derived.Test.YtciocjaelmnhiaaDoorBpD
import Derived.Test.YtciocjaelmnhiaaDoorBpG
namespace Go.Proofs.YtciocjaelmnhiaaDoor.Bp
open Go.RowKit Go.Proofs.YtciocjaelmnhiaaDoorW.PrintWords Go.Proofs.YtciocjaelmnhiaaDoorW.PrintLast Go.Proofs.YtciocjaelmnhiaaDoorW.PrintMore Go.Proofs.YtciocjaelmnhiaaDoor.Reg
set_option linter.unusedSimpArgs false
set_option linter.unusedVariables false

theorem same_loop (a : List Int) (ha : a.length ≤ 9223372036854775806) : ∀ (d i k : Nat), i + d = a.length → d + 1 ≤ k → PFnWriteBech32.laws_same.l0 k a a (i : Int) = some true
  | 0, i, k, h, hk => by
    obtain ⟨k, rfl⟩ : ∃ k', k = k' + 1 := ⟨k - 1, by omega⟩
    rw [PFnWriteBech32.laws_same.l0, if_neg (by omega)]
  | d + 1, i, k, h, hk => by
    obtain ⟨k, rfl⟩ : ∃ k', k = k' + 1 := ⟨k - 1, by omega⟩
    have hw : wrap64 ((i : Int) + 1) = ((i + 1 : Nat) : Int) := by rw [wrap64_id (by omega) (by omega)]; omega
    rw [PFnWriteBech32.laws_same.l0, if_pos (by omega), if_pos (by omega), if_pos (by omega), if_pos rfl, hw, same_loop a ha d (i + 1) k (by omega) (by omega)]
theorem same_eq (a : List Int) (ha : a.length ≤ 9223372036854775806) : PFnWriteBech32.laws_same.f (a.length + 1) a a = some true := by
  unfold PFnWriteBech32.laws_same.f
  rw [if_pos rfl]
  exact same_loop a ha a.length 0 _ (by omega) (by omega)
set_option maxHeartbeats 8000000 in
set_option maxRecDepth 100000 in
theorem write_big (h : ByteArray) (A : Option Addr) (n c1 : Nat) (m : Bool) (w : World) (hb : 2147483647 < h.size ∨ 2147483647 < n) :
    Calls Tryd.prog 4 #[.string h, .slice A n c1, .bool m] w fun e w' => e = .returned (.bool true) ∧ Below w.heap.size w w' := by
  by_cases h1 : 2147483647 < h.size
  · have q1 : decide ((2147483647 : Int) < (h.size : Int)) = true := decide_eq_true (by omega)
    have q2 := eq_true h1
    clear h1 hb
    go_enter Tryd.func4, Tryd.ntmps4
    go_wp2
    go_ret
    exact ⟨rfl, by first | exact Below.refl _ _ | exact below_drew (Below.refl _ _)⟩
  · have q1 : decide ((2147483647 : Int) < (h.size : Int)) = false := decide_eq_false (by omega)
    have q2 := eq_false h1
    have q3 : decide ((2147483647 : Int) < (n : Int)) = true := decide_eq_true (by omega)
    have q4 := eq_true (show 2147483647 < n by omega)
    clear h1 hb
    go_enter Tryd.func4, Tryd.ntmps4
    go_wp2
    go_ret
    exact ⟨rfl, by first | exact Below.refl _ _ | exact below_drew (Below.refl _ _)⟩
set_option maxHeartbeats 8000000 in
set_option maxRecDepth 100000 in
theorem write_unread (h : ByteArray) (A : Option Addr) (n c1 : Nat) (m : Bool) (w : World) (hz : h.size ≤ 2147483647 ∧ n ≤ 2147483647) (k : Nat) (hr : PFnWriteBech32.laws_readable.f k h = some false) :
    Calls Tryd.prog 4 #[.string h, .slice A n c1, .bool m] w fun e w' => e = .returned (.bool true) ∧ Below w.heap.size w w' := by
  have HRD := Lib.hid (PFnWriteBech32.laws_readable.calls k h false w hr)
  have q1 : decide ((2147483647 : Int) < (h.size : Int)) = false := decide_eq_false (by omega)
  have q2 := eq_false (show ¬ 2147483647 < h.size by omega)
  have q3 : decide ((2147483647 : Int) < (n : Int)) = false := decide_eq_false (by omega)
  have q4 := eq_false (show ¬ 2147483647 < n by omega)
  clear hz hr
  go_enter Tryd.func4, Tryd.ntmps4
  go_wp2_with (first
    | (go_at_call 5; go_must ((with_reducible refine HRD.out.mono ?_); rintro e w1 ⟨rfl, ⟨m1, rfl⟩⟩; have HB1 := Aside0.mk (pw_below_drewN (Below.refl w.heap.size w) m1))))
  go_ret
  exact ⟨rfl, HB1.out⟩
theorem wnums (z n : Nat) (N1 : Int) (h : (z : Int) + (n : Int) = N1) (hz : z ≤ 2147483647 ∧ n ≤ 2147483647) : wrap64 ((z : Int) + (n : Int)) = N1 := (wrap64_id (by omega) (by omega)).trans h
set_option maxHeartbeats 8000000 in
set_option maxRecDepth 100000 in
theorem write_long (h : ByteArray) (A : Option Addr) (n c1 : Nat) (m : Bool) (w : World) (hz : h.size ≤ 2147483647 ∧ n ≤ 2147483647) (k : Nat) (hr : PFnWriteBech32.laws_readable.f k h = some true) (hb : 400 < h.size + n) :
    Calls Tryd.prog 4 #[.string h, .slice A n c1, .bool m] w fun e w' => e = .returned (.bool true) ∧ Below w.heap.size w w' := by
  have HRD := Lib.hid (PFnWriteBech32.laws_readable.calls k h true w hr)
  have q1 : decide ((2147483647 : Int) < (h.size : Int)) = false := decide_eq_false (by omega)
  have q2 := eq_false (show ¬ 2147483647 < h.size by omega)
  have q3 : decide ((2147483647 : Int) < (n : Int)) = false := decide_eq_false (by omega)
  have q4 := eq_false (show ¬ 2147483647 < n by omega)
  obtain ⟨N1, hN1⟩ : ∃ N1 : Int, (h.size : Int) + (n : Int) = N1 := ⟨_, rfl⟩
  have q5 : decide ((400 : Int) < N1) = true := decide_eq_true (by omega)
  have u1 := wnums _ _ _ hN1 hz
  clear hz hr hb hN1
  go_enter Tryd.func4, Tryd.ntmps4
  go_wp2_with (first
    | (go_at_call 5; go_must ((with_reducible refine HRD.out.mono ?_); rintro e w1 ⟨rfl, ⟨m1, rfl⟩⟩; have HB1 := Aside0.mk (pw_below_drewN (Below.refl w.heap.size w) m1))))
  go_ret
  exact ⟨rfl, HB1.out⟩
set_option maxHeartbeats 8000000 in
set_option maxRecDepth 100000 in
theorem write_bad_false (h : ByteArray) (A : Option Addr) (c1 : Nat) (l : List Int) (w : World) (hr : PFnWriteBech32.laws_readable.f (h.size + 1) h = some true) (hh : Readable h) (hdg : PFnWriteBech32.laws_digits.f (l.length + 1) l = some false) (hsm : ¬ Small l)
    (hg : GenB w.heap.size w) (hl : Kd.C (Kd.int .u8) w A l.length l) (hlc : l.length ≤ c1) (hlv : ∀ v ∈ l, 0 ≤ v ∧ v < 256) (hn : h.size + l.length ≤ 400) :
    Calls Tryd.prog 4 #[.string h, .slice A l.length c1, .bool false] w fun e w' => e = .returned (.bool true) ∧ Below w.heap.size w w' := by
  have hcap : ∀ z ∈ h.data.toList, ¬ (65 ≤ z.toNat ∧ z.toNat ≤ 90) := fun z hz => (hh.2 z hz).2.2
  have HSM := Lib.hid hsm
  have HW := Lib.hid (fun (W : World) (hW : Below w.heap.size w W) => w0_calls h A c1 l W ((hg.below hW (Nat.le_refl _)).up hW.size) (by omega) hcap (Kd.C_below hl hW) hlc hlv (by omega))
  have HRD := Lib.hid (PFnWriteBech32.laws_readable.calls (h.size + 1) h true w hr)
  have HDG := Lib.hid (fun (W : World) (hW : Below w.heap.size w W) => PFnWriteBech32.laws_digits.calls (l.length + 1) A c1 l false W (Kd.C_below hl hW) hlc hdg)
  unfold IOut at HW
  obtain ⟨n, hnn⟩ : ∃ n, l.length = n := ⟨_, rfl⟩
  rw [hnn] at HDG hn ⊢
  rw [hnn] at HW
  have q1 : decide ((2147483647 : Int) < (h.size : Int)) = false := decide_eq_false (by omega)
  have q2 := eq_false (show ¬ 2147483647 < h.size by omega)
  have q3 : decide ((2147483647 : Int) < (n : Int)) = false := decide_eq_false (by omega)
  have q4 := eq_false (show ¬ 2147483647 < n by omega)
  obtain ⟨N1, hN1⟩ : ∃ N1 : Int, (h.size : Int) + (n : Int) = N1 := ⟨_, rfl⟩
  have q5 : decide ((400 : Int) < N1) = false := decide_eq_false (by omega)
  have u1 := wnums _ _ _ hN1 ⟨by omega, by omega⟩
  clear hr hh hdg hsm hg hl hlc hlv hn hnn hN1 hcap
  go_enter Tryd.func4, Tryd.ntmps4
  go_wp2_with (first
    | (go_at_call 5; go_must ((with_reducible refine HRD.out.mono ?_); rintro e w1 ⟨rfl, ⟨m1, rfl⟩⟩; have HB1 := Aside0.mk (pw_below_drewN (Below.refl w.heap.size w) m1)))
    | (go_at_call 7; go_must ((with_reducible refine (HW.out _ HB1.out).mono ?_); rintro e w3 ⟨ho, hB⟩; have HB3 := Aside0.mk (below_step HB1.out hB); obtain ⟨v, rfl⟩ := (ho.elim (fun z => absurd z.1 HSM.out) (fun z => z.2) : ∃ v, e = .returned (.tuple #[v, .int .i64 1])); clear ho hB))
    | (go_at_call 6; go_must ((with_reducible refine (HDG.out _ HB3.out).mono ?_); rintro e w4 ⟨rfl, ⟨m2, rfl⟩⟩; have HB4 := Aside0.mk (pw_below_drewN HB3.out m2))))
  go_ret
  exact ⟨by first | rfl | (simp; done), HB4.out⟩
set_option maxHeartbeats 8000000 in
set_option maxRecDepth 100000 in
theorem write_much_false (h : ByteArray) (A : Option Addr) (c1 : Nat) (l : List Int) (w : World) (hr : PFnWriteBech32.laws_readable.f (h.size + 1) h = some true) (hh : Readable h) (hdg : PFnWriteBech32.laws_digits.f (l.length + 1) l = some true) (hsm : Small l) (hlen : 90 < h.size + l.length + 7)
    (hg : GenB w.heap.size w) (hl : Kd.C (Kd.int .u8) w A l.length l) (hlc : l.length ≤ c1) (hlv : ∀ v ∈ l, 0 ≤ v ∧ v < 256) (hn : h.size + l.length ≤ 400) :
    Calls Tryd.prog 4 #[.string h, .slice A l.length c1, .bool false] w fun e w' => e = .returned (.bool true) ∧ Below w.heap.size w w' := by
  have hcap : ∀ z ∈ h.data.toList, ¬ (65 ≤ z.toNat ∧ z.toNat ≤ 90) := fun z hz => (hh.2 z hz).2.2
  have HSM := Lib.hid hsm
  have HW := Lib.hid (fun (W : World) (hW : Below w.heap.size w W) => w0_calls h A c1 l W ((hg.below hW (Nat.le_refl _)).up hW.size) (by omega) hcap (Kd.C_below hl hW) hlc hlv (by omega))
  have HRD := Lib.hid (PFnWriteBech32.laws_readable.calls (h.size + 1) h true w hr)
  have HDG := Lib.hid (fun (W : World) (hW : Below w.heap.size w W) => PFnWriteBech32.laws_digits.calls (l.length + 1) A c1 l true W (Kd.C_below hl hW) hlc hdg)
  have hl32 : ∀ v ∈ l, 0 ≤ v ∧ v < 32 := fun v hv => ⟨(hlv v hv).1, hsm v hv⟩
  have HSP := Lib.hid (show ∀ (W : World), Below w.heap.size w W → Calls Tryd.prog 9 #[.string h, .slice A l.length c1, .int .u32 1] W fun e w' => e = .returned (.string (enc h l 1)) ∧ Below W.heap.size W w' from fun W hW => sp_calls h A c1 l 1 W (by omega) hcap (Kd.C_below hl hW) hlc hl32 (by omega) (by decide))
  have hDlen : (l.map Int.toNat ++ sumd h l 1).length = l.length + 6 := by rw [List.length_append, sumd_len, List.length_map]
  have hsz : (enc h l 1).size = h.size + 1 + (l.length + 6) := by rw [show enc h l 1 = cat h (l.map Int.toNat ++ sumd h l 1) from rfl, cat_size, hDlen]
  have HRE := Lib.hid (fun (W : World) => read_long (enc h l 1) W (by omega))
  have z1 : decide ((90 : Int) < ((enc h l 1).size : Int)) = true := decide_eq_true (by omega)
  have z2 := eq_true (show 90 < (enc h l 1).size by omega)
  unfold IOut at HW
  obtain ⟨s, hs⟩ : ∃ s, enc h l 1 = s := ⟨_, rfl⟩
  rw [hs] at HW HSP HRE z1 z2
  obtain ⟨n, hnn⟩ : ∃ n, l.length = n := ⟨_, rfl⟩
  rw [hnn] at HDG HSP hn ⊢
  rw [hnn] at HW
  have q1 : decide ((2147483647 : Int) < (h.size : Int)) = false := decide_eq_false (by omega)
  have q2 := eq_false (show ¬ 2147483647 < h.size by omega)
  have q3 : decide ((2147483647 : Int) < (n : Int)) = false := decide_eq_false (by omega)
  have q4 := eq_false (show ¬ 2147483647 < n by omega)
  obtain ⟨N1, hN1⟩ : ∃ N1 : Int, (h.size : Int) + (n : Int) = N1 := ⟨_, rfl⟩
  have q5 : decide ((400 : Int) < N1) = false := decide_eq_false (by omega)
  have u1 := wnums _ _ _ hN1 ⟨by omega, by omega⟩
  clear hr hh hdg hsm hg hl hlc hlv hn hnn hN1 hcap hl32 hDlen hsz hs hlen
  go_enter Tryd.func4, Tryd.ntmps4
  go_wp2_with (first
    | (go_at_call 5; go_must ((with_reducible refine HRD.out.mono ?_); rintro e w1 ⟨rfl, ⟨m1, rfl⟩⟩; have HB1 := Aside0.mk (pw_below_drewN (Below.refl w.heap.size w) m1)))
    | (go_at_call 7; go_must ((with_reducible refine (HW.out _ HB1.out).mono ?_); rintro e w3 ⟨ho, hB⟩; have HB3 := Aside0.mk (below_step HB1.out hB); obtain rfl : e = .returned (.tuple #[.string s, .int .i64 0]) := ho.elim (fun z => z.2) (fun z => absurd HSM.out z.1); clear ho hB))
    | (go_at_call 6; go_must ((with_reducible refine (HDG.out _ HB3.out).mono ?_); rintro e w4 ⟨rfl, ⟨m2, rfl⟩⟩; have HB4 := Aside0.mk (pw_below_drewN HB3.out m2)))
    | (go_at_call 10; go_must ((with_reducible refine (PFnWriteBech32.laws_sumOf.calls false 1 _ rfl).mono ?_); rintro e w5 ⟨rfl, ⟨m3, rfl⟩⟩; have HB5 := Aside0.mk (pw_below_drewN HB3.out (m2 + m3))))
    | (go_at_call 9; go_must ((with_reducible refine (HSP.out _ HB5.out).mono ?_); rintro e w6 ⟨rfl, hB⟩; have HB6 := Aside0.mk (below_step HB5.out hB); clear hB))
    | (go_at_call 8; go_must ((with_reducible refine (HRE.out _).mono ?_); rintro e w7 ⟨⟨x7, y7, z7, rfl⟩, hB⟩; have HB7 := Aside0.mk (below_step HB6.out hB); clear hB)))
  go_ret
  exact ⟨by first | rfl | (simp; done), HB7.out⟩
set_option maxHeartbeats 8000000 in
set_option maxRecDepth 100000 in
theorem write_fit_false (h : ByteArray) (A : Option Addr) (c1 : Nat) (l : List Int) (w : World) (hr : PFnWriteBech32.laws_readable.f (h.size + 1) h = some true) (hh : Readable h) (hdg : PFnWriteBech32.laws_digits.f (l.length + 1) l = some true) (hsm : Small l) (hlen : h.size + l.length + 7 ≤ 90)
    (hg : GenB w.heap.size w) (hl : Kd.C (Kd.int .u8) w A l.length l) (hlc : l.length ≤ c1) (hlv : ∀ v ∈ l, 0 ≤ v ∧ v < 256) (hn : h.size + l.length ≤ 400) :
    Calls Tryd.prog 4 #[.string h, .slice A l.length c1, .bool false] w fun e w' => e = .returned (.bool true) ∧ Below w.heap.size w w' := by
  have hcap : ∀ z ∈ h.data.toList, ¬ (65 ≤ z.toNat ∧ z.toNat ≤ 90) := fun z hz => (hh.2 z hz).2.2
  have HSM := Lib.hid hsm
  have HW := Lib.hid (fun (W : World) (hW : Below w.heap.size w W) => w0_calls h A c1 l W ((hg.below hW (Nat.le_refl _)).up hW.size) (by omega) hcap (Kd.C_below hl hW) hlc hlv (by omega))
  have HRD := Lib.hid (PFnWriteBech32.laws_readable.calls (h.size + 1) h true w hr)
  have HDG := Lib.hid (fun (W : World) (hW : Below w.heap.size w W) => PFnWriteBech32.laws_digits.calls (l.length + 1) A c1 l true W (Kd.C_below hl hW) hlc hdg)
  have hl32 : ∀ v ∈ l, 0 ≤ v ∧ v < 32 := fun v hv => ⟨(hlv v hv).1, hsm v hv⟩
  have HSP := Lib.hid (show ∀ (W : World), Below w.heap.size w W → Calls Tryd.prog 9 #[.string h, .slice A l.length c1, .int .u32 1] W fun e w' => e = .returned (.string (enc h l 1)) ∧ Below W.heap.size W w' from fun W hW => sp_calls h A c1 l 1 W (by omega) hcap (Kd.C_below hl hW) hlc hl32 (by omega) (by decide))
  have hDlen : (l.map Int.toNat ++ sumd h l 1).length = l.length + 6 := by rw [List.length_append, sumd_len, List.length_map]
  have hsz : (enc h l 1).size = h.size + 1 + (l.length + 6) := by rw [show enc h l 1 = cat h (l.map Int.toNat ++ sumd h l 1) from rfl, cat_size, hDlen]
  have HRE := Lib.hid (fun (W : World) (hW : Below w.heap.size w W) => read_calls h (l.map Int.toNat ++ sumd h l 1) W hh (dig_lt h l 1 hl32) ⟨by omega, by omega, by omega⟩ ((hg.below hW (Nat.le_refl _)).up hW.size) (by rw [cat_size]; omega))
  have HSUM := Lib.hid (enc_sum h l 1 hl32 (by decide))
  have hti : ints ((l.map Int.toNat ++ sumd h l 1).take ((l.map Int.toNat ++ sumd h l 1).length - 6)) = l := by
    rw [hDlen, Nat.add_sub_cancel, List.take_append_of_le_length (by simp), List.take_of_length_le (by simp), ints_of l fun v hv => (hlv v hv).1]
  unfold ROut at HRE
  rw [hti, show cat h (l.map Int.toNat ++ sumd h l 1) = enc h l 1 from rfl] at HRE
  rw [hDlen, Nat.add_sub_cancel] at HRE
  have HSA := Lib.hid (fun (A7 : Option Addr) (c7 : Nat) (W : World) (hW : Below w.heap.size w W) (h7 : Kd.C (Kd.int .u8) W A7 l.length l) (hc7 : l.length ≤ c7) => PFnWriteBech32.laws_same.calls (l.length + 1) A7 c7 l A c1 l true W h7 hc7 (Kd.C_below hl hW) hlc (same_eq l (by omega)))
  have z1 : decide ((90 : Int) < ((enc h l 1).size : Int)) = false := decide_eq_false (by omega)
  have z2 := eq_false (show ¬ 90 < (enc h l 1).size by omega)
  unfold IOut at HW
  obtain ⟨s, hs⟩ : ∃ s, enc h l 1 = s := ⟨_, rfl⟩
  rw [hs] at HW HSP HRE z1 z2
  obtain ⟨n, hnn⟩ : ∃ n, l.length = n := ⟨_, rfl⟩
  rw [hnn] at HDG HSP HRE HSA hn ⊢
  rw [hnn] at HW
  have q1 : decide ((2147483647 : Int) < (h.size : Int)) = false := decide_eq_false (by omega)
  have q2 := eq_false (show ¬ 2147483647 < h.size by omega)
  have q3 : decide ((2147483647 : Int) < (n : Int)) = false := decide_eq_false (by omega)
  have q4 := eq_false (show ¬ 2147483647 < n by omega)
  obtain ⟨N1, hN1⟩ : ∃ N1 : Int, (h.size : Int) + (n : Int) = N1 := ⟨_, rfl⟩
  have q5 : decide ((400 : Int) < N1) = false := decide_eq_false (by omega)
  have u1 := wnums _ _ _ hN1 ⟨by omega, by omega⟩
  clear hr hh hdg hsm hg hl hlc hlv hn hnn hN1 hcap hl32 hDlen hsz hs hlen hti
  go_enter Tryd.func4, Tryd.ntmps4
  go_wp2_with (first
    | (go_at_call 5; go_must ((with_reducible refine HRD.out.mono ?_); rintro e w1 ⟨rfl, ⟨m1, rfl⟩⟩; have HB1 := Aside0.mk (pw_below_drewN (Below.refl w.heap.size w) m1)))
    | (go_at_call 7; go_must ((with_reducible refine (HW.out _ HB1.out).mono ?_); rintro e w3 ⟨ho, hB⟩; have HB3 := Aside0.mk (below_step HB1.out hB); obtain rfl : e = .returned (.tuple #[.string s, .int .i64 0]) := ho.elim (fun z => z.2) (fun z => absurd HSM.out z.1); clear ho hB))
    | (go_at_call 6; go_must ((with_reducible refine (HDG.out _ HB3.out).mono ?_); rintro e w4 ⟨rfl, ⟨m2, rfl⟩⟩; have HB4 := Aside0.mk (pw_below_drewN HB3.out m2)))
    | (go_at_call 10; go_must ((with_reducible refine (PFnWriteBech32.laws_sumOf.calls false 1 _ rfl).mono ?_); rintro e w5 ⟨rfl, ⟨m3, rfl⟩⟩; have HB5 := Aside0.mk (pw_below_drewN HB3.out (m2 + m3))))
    | (go_at_call 9; go_must ((with_reducible refine (HSP.out _ HB5.out).mono ?_); rintro e w6 ⟨rfl, hB⟩; have HB6 := Aside0.mk (below_step HB5.out hB); clear hB))
    | (go_at_call 8; go_must ((with_reducible refine (HRE.out _ HB6.out).mono ?_); rintro e w7 ⟨⟨P, hP, ho⟩, hB⟩; have HB7 := Aside0.mk (below_step HB6.out hB); have hPK : P = 1 := hP.symm.trans HSUM.out; have ho2 : ∃ A7 c7, e = .returned (.tuple #[.string h, .slice A7 n c7, .bool false, .int .i64 0]) ∧ Kd.C (Kd.int .u8) w7 A7 n l ∧ n ≤ c7 := ho.elim (fun z => z.2) (fun z => z.elim (fun z => absurd (hPK.symm.trans z.1) (by decide)) (fun z => absurd hPK z.1)); clear hPK; clear ho hP hB; obtain ⟨A7, c7, rfl, hc7, hl7⟩ := ho2; have HC7 := Aside0.mk (And.intro hc7 hl7); clear hc7 hl7))
    | (go_at_call 11; go_must ((with_reducible refine (HSA.out A7 c7 _ HB7.out HC7.out.1 HC7.out.2).mono ?_); rintro e w8 ⟨rfl, ⟨m4, rfl⟩⟩; have HB8 := Aside0.mk (pw_below_drewN HB7.out m4))))
  go_ret
  exact ⟨by first | rfl | (simp; done), HB8.out⟩
set_option maxHeartbeats 8000000 in
set_option maxRecDepth 100000 in
theorem write_bad_true (h : ByteArray) (A : Option Addr) (c1 : Nat) (l : List Int) (w : World) (hr : PFnWriteBech32.laws_readable.f (h.size + 1) h = some true) (hh : Readable h) (hdg : PFnWriteBech32.laws_digits.f (l.length + 1) l = some false) (hsm : ¬ Small l)
    (hg : GenB w.heap.size w) (hl : Kd.C (Kd.int .u8) w A l.length l) (hlc : l.length ≤ c1) (hlv : ∀ v ∈ l, 0 ≤ v ∧ v < 256) (hn : h.size + l.length ≤ 400) :
    Calls Tryd.prog 4 #[.string h, .slice A l.length c1, .bool true] w fun e w' => e = .returned (.bool true) ∧ Below w.heap.size w w' := by
  have hcap : ∀ z ∈ h.data.toList, ¬ (65 ≤ z.toNat ∧ z.toNat ≤ 90) := fun z hz => (hh.2 z hz).2.2
  have HSM := Lib.hid hsm
  have HW := Lib.hid (fun (W : World) (hW : Below w.heap.size w W) => w1_calls h A c1 l W ((hg.below hW (Nat.le_refl _)).up hW.size) (by omega) hcap (Kd.C_below hl hW) hlc hlv (by omega))
  have HRD := Lib.hid (PFnWriteBech32.laws_readable.calls (h.size + 1) h true w hr)
  have HDG := Lib.hid (fun (W : World) (hW : Below w.heap.size w W) => PFnWriteBech32.laws_digits.calls (l.length + 1) A c1 l false W (Kd.C_below hl hW) hlc hdg)
  unfold IOut at HW
  obtain ⟨n, hnn⟩ : ∃ n, l.length = n := ⟨_, rfl⟩
  rw [hnn] at HDG hn ⊢
  rw [hnn] at HW
  have q1 : decide ((2147483647 : Int) < (h.size : Int)) = false := decide_eq_false (by omega)
  have q2 := eq_false (show ¬ 2147483647 < h.size by omega)
  have q3 : decide ((2147483647 : Int) < (n : Int)) = false := decide_eq_false (by omega)
  have q4 := eq_false (show ¬ 2147483647 < n by omega)
  obtain ⟨N1, hN1⟩ : ∃ N1 : Int, (h.size : Int) + (n : Int) = N1 := ⟨_, rfl⟩
  have q5 : decide ((400 : Int) < N1) = false := decide_eq_false (by omega)
  have u1 := wnums _ _ _ hN1 ⟨by omega, by omega⟩
  clear hr hh hdg hsm hg hl hlc hlv hn hnn hN1 hcap
  go_enter Tryd.func4, Tryd.ntmps4
  go_wp2_with (first
    | (go_at_call 5; go_must ((with_reducible refine HRD.out.mono ?_); rintro e w1 ⟨rfl, ⟨m1, rfl⟩⟩; have HB1 := Aside0.mk (pw_below_drewN (Below.refl w.heap.size w) m1)))
    | (go_at_call 7; go_must ((with_reducible refine (HW.out _ HB1.out).mono ?_); rintro e w3 ⟨ho, hB⟩; have HB3 := Aside0.mk (below_step HB1.out hB); obtain ⟨v, rfl⟩ := (ho.elim (fun z => absurd z.1 HSM.out) (fun z => z.2) : ∃ v, e = .returned (.tuple #[v, .int .i64 1])); clear ho hB))
    | (go_at_call 6; go_must ((with_reducible refine (HDG.out _ HB3.out).mono ?_); rintro e w4 ⟨rfl, ⟨m2, rfl⟩⟩; have HB4 := Aside0.mk (pw_below_drewN HB3.out m2))))
  go_ret
  exact ⟨by first | rfl | (simp; done), HB4.out⟩
set_option maxHeartbeats 8000000 in
set_option maxRecDepth 100000 in
theorem write_much_true (h : ByteArray) (A : Option Addr) (c1 : Nat) (l : List Int) (w : World) (hr : PFnWriteBech32.laws_readable.f (h.size + 1) h = some true) (hh : Readable h) (hdg : PFnWriteBech32.laws_digits.f (l.length + 1) l = some true) (hsm : Small l) (hlen : 90 < h.size + l.length + 7)
    (hg : GenB w.heap.size w) (hl : Kd.C (Kd.int .u8) w A l.length l) (hlc : l.length ≤ c1) (hlv : ∀ v ∈ l, 0 ≤ v ∧ v < 256) (hn : h.size + l.length ≤ 400) :
    Calls Tryd.prog 4 #[.string h, .slice A l.length c1, .bool true] w fun e w' => e = .returned (.bool true) ∧ Below w.heap.size w w' := by
  have hcap : ∀ z ∈ h.data.toList, ¬ (65 ≤ z.toNat ∧ z.toNat ≤ 90) := fun z hz => (hh.2 z hz).2.2
  have HSM := Lib.hid hsm
  have HW := Lib.hid (fun (W : World) (hW : Below w.heap.size w W) => w1_calls h A c1 l W ((hg.below hW (Nat.le_refl _)).up hW.size) (by omega) hcap (Kd.C_below hl hW) hlc hlv (by omega))
  have HRD := Lib.hid (PFnWriteBech32.laws_readable.calls (h.size + 1) h true w hr)
  have HDG := Lib.hid (fun (W : World) (hW : Below w.heap.size w W) => PFnWriteBech32.laws_digits.calls (l.length + 1) A c1 l true W (Kd.C_below hl hW) hlc hdg)
  have hl32 : ∀ v ∈ l, 0 ≤ v ∧ v < 32 := fun v hv => ⟨(hlv v hv).1, hsm v hv⟩
  have HSP := Lib.hid (show ∀ (W : World), Below w.heap.size w W → Calls Tryd.prog 9 #[.string h, .slice A l.length c1, .int .u32 734539939] W fun e w' => e = .returned (.string (enc h l 734539939)) ∧ Below W.heap.size W w' from fun W hW => sp_calls h A c1 l 734539939 W (by omega) hcap (Kd.C_below hl hW) hlc hl32 (by omega) (by decide))
  have hDlen : (l.map Int.toNat ++ sumd h l 734539939).length = l.length + 6 := by rw [List.length_append, sumd_len, List.length_map]
  have hsz : (enc h l 734539939).size = h.size + 1 + (l.length + 6) := by rw [show enc h l 734539939 = cat h (l.map Int.toNat ++ sumd h l 734539939) from rfl, cat_size, hDlen]
  have HRE := Lib.hid (fun (W : World) => read_long (enc h l 734539939) W (by omega))
  have z1 : decide ((90 : Int) < ((enc h l 734539939).size : Int)) = true := decide_eq_true (by omega)
  have z2 := eq_true (show 90 < (enc h l 734539939).size by omega)
  unfold IOut at HW
  obtain ⟨s, hs⟩ : ∃ s, enc h l 734539939 = s := ⟨_, rfl⟩
  rw [hs] at HW HSP HRE z1 z2
  obtain ⟨n, hnn⟩ : ∃ n, l.length = n := ⟨_, rfl⟩
  rw [hnn] at HDG HSP hn ⊢
  rw [hnn] at HW
  have q1 : decide ((2147483647 : Int) < (h.size : Int)) = false := decide_eq_false (by omega)
  have q2 := eq_false (show ¬ 2147483647 < h.size by omega)
  have q3 : decide ((2147483647 : Int) < (n : Int)) = false := decide_eq_false (by omega)
  have q4 := eq_false (show ¬ 2147483647 < n by omega)
  obtain ⟨N1, hN1⟩ : ∃ N1 : Int, (h.size : Int) + (n : Int) = N1 := ⟨_, rfl⟩
  have q5 : decide ((400 : Int) < N1) = false := decide_eq_false (by omega)
  have u1 := wnums _ _ _ hN1 ⟨by omega, by omega⟩
  clear hr hh hdg hsm hg hl hlc hlv hn hnn hN1 hcap hl32 hDlen hsz hs hlen
  go_enter Tryd.func4, Tryd.ntmps4
  go_wp2_with (first
    | (go_at_call 5; go_must ((with_reducible refine HRD.out.mono ?_); rintro e w1 ⟨rfl, ⟨m1, rfl⟩⟩; have HB1 := Aside0.mk (pw_below_drewN (Below.refl w.heap.size w) m1)))
    | (go_at_call 7; go_must ((with_reducible refine (HW.out _ HB1.out).mono ?_); rintro e w3 ⟨ho, hB⟩; have HB3 := Aside0.mk (below_step HB1.out hB); obtain rfl : e = .returned (.tuple #[.string s, .int .i64 0]) := ho.elim (fun z => z.2) (fun z => absurd HSM.out z.1); clear ho hB))
    | (go_at_call 6; go_must ((with_reducible refine (HDG.out _ HB3.out).mono ?_); rintro e w4 ⟨rfl, ⟨m2, rfl⟩⟩; have HB4 := Aside0.mk (pw_below_drewN HB3.out m2)))
    | (go_at_call 10; go_must ((with_reducible refine (PFnWriteBech32.laws_sumOf.calls true 734539939 _ rfl).mono ?_); rintro e w5 ⟨rfl, ⟨m3, rfl⟩⟩; have HB5 := Aside0.mk (pw_below_drewN HB3.out (m2 + m3))))
    | (go_at_call 9; go_must ((with_reducible refine (HSP.out _ HB5.out).mono ?_); rintro e w6 ⟨rfl, hB⟩; have HB6 := Aside0.mk (below_step HB5.out hB); clear hB))
    | (go_at_call 8; go_must ((with_reducible refine (HRE.out _).mono ?_); rintro e w7 ⟨⟨x7, y7, z7, rfl⟩, hB⟩; have HB7 := Aside0.mk (below_step HB6.out hB); clear hB)))
  go_ret
  exact ⟨by first | rfl | (simp; done), HB7.out⟩
set_option maxHeartbeats 8000000 in
set_option maxRecDepth 100000 in
theorem write_fit_true (h : ByteArray) (A : Option Addr) (c1 : Nat) (l : List Int) (w : World) (hr : PFnWriteBech32.laws_readable.f (h.size + 1) h = some true) (hh : Readable h) (hdg : PFnWriteBech32.laws_digits.f (l.length + 1) l = some true) (hsm : Small l) (hlen : h.size + l.length + 7 ≤ 90)
    (hg : GenB w.heap.size w) (hl : Kd.C (Kd.int .u8) w A l.length l) (hlc : l.length ≤ c1) (hlv : ∀ v ∈ l, 0 ≤ v ∧ v < 256) (hn : h.size + l.length ≤ 400) :
    Calls Tryd.prog 4 #[.string h, .slice A l.length c1, .bool true] w fun e w' => e = .returned (.bool true) ∧ Below w.heap.size w w' := by
  have hcap : ∀ z ∈ h.data.toList, ¬ (65 ≤ z.toNat ∧ z.toNat ≤ 90) := fun z hz => (hh.2 z hz).2.2
  have HSM := Lib.hid hsm
  have HW := Lib.hid (fun (W : World) (hW : Below w.heap.size w W) => w1_calls h A c1 l W ((hg.below hW (Nat.le_refl _)).up hW.size) (by omega) hcap (Kd.C_below hl hW) hlc hlv (by omega))
  have HRD := Lib.hid (PFnWriteBech32.laws_readable.calls (h.size + 1) h true w hr)
  have HDG := Lib.hid (fun (W : World) (hW : Below w.heap.size w W) => PFnWriteBech32.laws_digits.calls (l.length + 1) A c1 l true W (Kd.C_below hl hW) hlc hdg)
  have hl32 : ∀ v ∈ l, 0 ≤ v ∧ v < 32 := fun v hv => ⟨(hlv v hv).1, hsm v hv⟩
  have HSP := Lib.hid (show ∀ (W : World), Below w.heap.size w W → Calls Tryd.prog 9 #[.string h, .slice A l.length c1, .int .u32 734539939] W fun e w' => e = .returned (.string (enc h l 734539939)) ∧ Below W.heap.size W w' from fun W hW => sp_calls h A c1 l 734539939 W (by omega) hcap (Kd.C_below hl hW) hlc hl32 (by omega) (by decide))
  have hDlen : (l.map Int.toNat ++ sumd h l 734539939).length = l.length + 6 := by rw [List.length_append, sumd_len, List.length_map]
  have hsz : (enc h l 734539939).size = h.size + 1 + (l.length + 6) := by rw [show enc h l 734539939 = cat h (l.map Int.toNat ++ sumd h l 734539939) from rfl, cat_size, hDlen]
  have HRE := Lib.hid (fun (W : World) (hW : Below w.heap.size w W) => read_calls h (l.map Int.toNat ++ sumd h l 734539939) W hh (dig_lt h l 734539939 hl32) ⟨by omega, by omega, by omega⟩ ((hg.below hW (Nat.le_refl _)).up hW.size) (by rw [cat_size]; omega))
  have HSUM := Lib.hid (enc_sum h l 734539939 hl32 (by decide))
  have hti : ints ((l.map Int.toNat ++ sumd h l 734539939).take ((l.map Int.toNat ++ sumd h l 734539939).length - 6)) = l := by
    rw [hDlen, Nat.add_sub_cancel, List.take_append_of_le_length (by simp), List.take_of_length_le (by simp), ints_of l fun v hv => (hlv v hv).1]
  unfold ROut at HRE
  rw [hti, show cat h (l.map Int.toNat ++ sumd h l 734539939) = enc h l 734539939 from rfl] at HRE
  rw [hDlen, Nat.add_sub_cancel] at HRE
  have HSA := Lib.hid (fun (A7 : Option Addr) (c7 : Nat) (W : World) (hW : Below w.heap.size w W) (h7 : Kd.C (Kd.int .u8) W A7 l.length l) (hc7 : l.length ≤ c7) => PFnWriteBech32.laws_same.calls (l.length + 1) A7 c7 l A c1 l true W h7 hc7 (Kd.C_below hl hW) hlc (same_eq l (by omega)))
  have z1 : decide ((90 : Int) < ((enc h l 734539939).size : Int)) = false := decide_eq_false (by omega)
  have z2 := eq_false (show ¬ 90 < (enc h l 734539939).size by omega)
  unfold IOut at HW
  obtain ⟨s, hs⟩ : ∃ s, enc h l 734539939 = s := ⟨_, rfl⟩
  rw [hs] at HW HSP HRE z1 z2
  obtain ⟨n, hnn⟩ : ∃ n, l.length = n := ⟨_, rfl⟩
  rw [hnn] at HDG HSP HRE HSA hn ⊢
  rw [hnn] at HW
  have q1 : decide ((2147483647 : Int) < (h.size : Int)) = false := decide_eq_false (by omega)
  have q2 := eq_false (show ¬ 2147483647 < h.size by omega)
  have q3 : decide ((2147483647 : Int) < (n : Int)) = false := decide_eq_false (by omega)
  have q4 := eq_false (show ¬ 2147483647 < n by omega)
  obtain ⟨N1, hN1⟩ : ∃ N1 : Int, (h.size : Int) + (n : Int) = N1 := ⟨_, rfl⟩
  have q5 : decide ((400 : Int) < N1) = false := decide_eq_false (by omega)
  have u1 := wnums _ _ _ hN1 ⟨by omega, by omega⟩
  clear hr hh hdg hsm hg hl hlc hlv hn hnn hN1 hcap hl32 hDlen hsz hs hlen hti
  go_enter Tryd.func4, Tryd.ntmps4
  go_wp2_with (first
    | (go_at_call 5; go_must ((with_reducible refine HRD.out.mono ?_); rintro e w1 ⟨rfl, ⟨m1, rfl⟩⟩; have HB1 := Aside0.mk (pw_below_drewN (Below.refl w.heap.size w) m1)))
    | (go_at_call 7; go_must ((with_reducible refine (HW.out _ HB1.out).mono ?_); rintro e w3 ⟨ho, hB⟩; have HB3 := Aside0.mk (below_step HB1.out hB); obtain rfl : e = .returned (.tuple #[.string s, .int .i64 0]) := ho.elim (fun z => z.2) (fun z => absurd HSM.out z.1); clear ho hB))
    | (go_at_call 6; go_must ((with_reducible refine (HDG.out _ HB3.out).mono ?_); rintro e w4 ⟨rfl, ⟨m2, rfl⟩⟩; have HB4 := Aside0.mk (pw_below_drewN HB3.out m2)))
    | (go_at_call 10; go_must ((with_reducible refine (PFnWriteBech32.laws_sumOf.calls true 734539939 _ rfl).mono ?_); rintro e w5 ⟨rfl, ⟨m3, rfl⟩⟩; have HB5 := Aside0.mk (pw_below_drewN HB3.out (m2 + m3))))
    | (go_at_call 9; go_must ((with_reducible refine (HSP.out _ HB5.out).mono ?_); rintro e w6 ⟨rfl, hB⟩; have HB6 := Aside0.mk (below_step HB5.out hB); clear hB))
    | (go_at_call 8; go_must ((with_reducible refine (HRE.out _ HB6.out).mono ?_); rintro e w7 ⟨⟨P, hP, ho⟩, hB⟩; have HB7 := Aside0.mk (below_step HB6.out hB); have hPK : P = 734539939 := hP.symm.trans HSUM.out; have ho2 : ∃ A7 c7, e = .returned (.tuple #[.string h, .slice A7 n c7, .bool true, .int .i64 0]) ∧ Kd.C (Kd.int .u8) w7 A7 n l ∧ n ≤ c7 := ho.elim (fun z => absurd (hPK.symm.trans z.1) (by decide)) (fun z => z.elim (fun z => z.2) (fun z => absurd hPK z.2.1)); clear hPK; clear ho hP hB; obtain ⟨A7, c7, rfl, hc7, hl7⟩ := ho2; have HC7 := Aside0.mk (And.intro hc7 hl7); clear hc7 hl7))
    | (go_at_call 11; go_must ((with_reducible refine (HSA.out A7 c7 _ HB7.out HC7.out.1 HC7.out.2).mono ?_); rintro e w8 ⟨rfl, ⟨m4, rfl⟩⟩; have HB8 := Aside0.mk (pw_below_drewN HB7.out m4))))
  go_ret
  exact ⟨by first | rfl | (simp; done), HB8.out⟩
/-- The law. -/
theorem write_law (h : ByteArray) (A : Option Addr) (c1 : Nat) (l : List Int) (m : Bool) (w : World) (hg : GenB w.heap.size w) (hl : Kd.C (Kd.int .u8) w A l.length l) (hlc : l.length ≤ c1) (hlv : ∀ v ∈ l, 0 ≤ v ∧ v < 256) :
    Calls Tryd.prog 4 #[.string h, .slice A l.length c1, .bool m] w fun e w' => e = .returned (.bool true) ∧ Below w.heap.size w w' := by
  by_cases hb : 2147483647 < h.size ∨ 2147483647 < l.length
  · exact write_big h A l.length c1 m w hb
  have hz : h.size ≤ 2147483647 ∧ l.length ≤ 2147483647 := by omega
  obtain ⟨r1, hr1, hr2⟩ := readable_f h hz.1
  cases r1 with
  | false => exact write_unread h A l.length c1 m w hz _ hr1
  | true =>
    by_cases hn : 400 < h.size + l.length
    · exact write_long h A l.length c1 m w hz _ hr1 hn
    obtain ⟨r2, hd1, hd2, hd3⟩ := digits_f l hz.2
    cases r2 with
    | false =>
      cases m with
      | false => exact write_bad_false h A c1 l w hr1 (hr2 rfl) hd1 (hd3 rfl) hg hl hlc hlv (by omega)
      | true => exact write_bad_true h A c1 l w hr1 (hr2 rfl) hd1 (hd3 rfl) hg hl hlc hlv (by omega)
    | true =>
      by_cases hlen : 90 < h.size + l.length + 7
      · cases m with
        | false => exact write_much_false h A c1 l w hr1 (hr2 rfl) hd1 (hd2 rfl) hlen hg hl hlc hlv (by omega)
        | true => exact write_much_true h A c1 l w hr1 (hr2 rfl) hd1 (hd2 rfl) hlen hg hl hlc hlv (by omega)
      · cases m with
        | false => exact write_fit_false h A c1 l w hr1 (hr2 rfl) hd1 (hd2 rfl) (by omega) hg hl hlc hlv (by omega)
        | true => exact write_fit_true h A c1 l w hr1 (hr2 rfl) hd1 (hd2 rfl) (by omega) hg hl hlc hlv (by omega)
theorem write_row (h : ByteArray) (A : Option Addr) (len cap : Nat) (z : List Int) (m : Bool) (w : World) (_ : h.size ≤ 140737488351232) (hr : Arg .u8 w A len cap z) (_ : len * 1 ≤ 140737488351232) (hg : GenB w.heap.size w) :
    Calls Tryd.prog 4 #[.string h, .slice A len cap, .bool m] w fun e w' => e = .returned (.bool true) ∧ Below w.heap.size w w' := by
  obtain ⟨l, rfl, hl, hlc, hlv⟩ := arg_row hr
  exact write_law h A cap l m w hg hl hlc hlv
end Go.Proofs.YtciocjaelmnhiaaDoor.Bp
