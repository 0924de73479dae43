/-
  toBytes; bech32VerifyChecksum.
-/
import Derived.Test.YtciocjaelmnhiaaDoorBp3
import Derived.Test.YtciocjaelmnhiaaDoorBp7
import Derived.Laws.MakeOwn
namespace Go.Proofs.YtciocjaelmnhiaaDoor.Bp
open Go.RowKit Go.Proofs.YtciocjaelmnhiaaDoorW.PrintWords Go.Proofs.YtciocjaelmnhiaaDoorW.PrintLast Go.Proofs.YtciocjaelmnhiaaDoorW.PrintMore Go.Proofs.YtciocjaelmnhiaaDoor.Reg
set_option linter.unusedSimpArgs false
set_option linter.unusedVariables false

theorem pos' : ∀ v : Fin 32, Lib.indexByte abc.data.toList (((chr v.val).toNat : Int).toNat.toUInt8) = ((v.val : Nat) : Int) := by decide +kernel
theorem pos_of {v : Nat} (h : v < 32) : Lib.indexByte abc.data.toList (((chr v).toNat : Int).toNat.toUInt8) = (v : Int) := pos' ⟨v, h⟩
/-- Letters. -/
def txt (d : List Nat) : ByteArray := ⟨(d.map chr).toArray⟩
theorem txt_size (d : List Nat) : (txt d).size = d.length := by
  show (d.map chr).toArray.size = _
  simp
theorem txt_at (d : List Nat) (i : Nat) (h : i < (txt d).size) (h2 : i < d.length) : (txt d)[i]'h = chr d[i] := by
  show (d.map chr).toArray[i]'(by simpa using h2) = _
  simp
def ints (d : List Nat) : List Int := d.map Int.ofNat
theorem ints_len (d : List Nat) : (ints d).length = d.length := by simp [ints]
set_option maxHeartbeats 8000000 in
set_option maxRecDepth 100000 in
theorem toBytes_calls (d : List Nat) (w : World) (hd : ∀ v ∈ d, v < 32) (hn : d.length ≤ 1000) :
    Calls Tryd.prog 29 #[.string (txt d)] w fun e w' => ∃ A c, e = .returned (.tuple #[.slice A d.length c, .nilIface]) ∧ Kd.R (Kd.int .u8) 5 w' w.heap.size (fun _ => True) (.slice A d.length c) (ints d) ∧ Below w.heap.size w w' := by
  obtain ⟨i0, hi, hz⟩ := Option.map_eq_some_iff.1 PFnWriteBech32.info5
  simp only [Prod.mk.injEq] at hz
  obtain ⟨z1, z2, z3⟩ := hz
  obtain ⟨W1, hmk, hown, hgr⟩ := run_make_own (P := Tryd.prog) w w.heap.size 22 5 i0 (.int .u8 0) 1 Tryd.underlying22 hi z1 z2 .i64 .i64 d.length (by rw [z3]; omega) (by show d.length ≤ 9223372036854775807; omega) (Nat.le_refl _)
  have HO := Aside0.mk (show Kd.R (Kd.int .u8) 5 W1 w.heap.size (fun _ => True) (.slice (some ⟨w.heap.size, 0, none⟩) 0 d.length) (ints (d.take 0)) from Kd.R_of_own (xs := ([] : List Int)) (enc := Value.int .u8) (h1 := fun _ => rfl) hown (fun _ _ => trivial))
  have HB := Aside0.mk (show Below w.heap.size w W1 from (Below.refl _ _).grown hgr (Nat.le_refl _) (fun k h => by cases h))
  have HTS := Lib.hid (txt_size d)
  have HAT := Lib.hid (txt_at d)
  have HD := Lib.hid hd
  have HN := Lib.hid hn
  have hsz := txt_size d
  obtain ⟨s, hs⟩ : ∃ s, txt d = s := ⟨_, rfl⟩
  rw [hs] at HTS hsz
  obtain ⟨n, hnn⟩ : ∃ n, d.length = n := ⟨_, rfl⟩
  rw [hnn] at HTS hsz hmk HO
  have hszi : (s.size : Int) = (n : Int) := by rw [hsz]
  rw [hs, hnn]
  have HAT2 := Lib.hid (show ∀ (i : Nat) (h : i < s.size) (h2 : i < d.length), s[i]'h = chr d[i] from hs ▸ HAT.out)
  have HNN := Lib.hid hnn
  clear hi z1 z2 z3 hown hgr hs hnn hd hn HAT
  go_enter Tryd.func29, Tryd.ntmps29
  go_wp2
  go_loopg [4, 5] (n + 1) (fun kq v4 v5 w' => ∃ (i : Nat) (A : Option Addr) (c : Nat), v5 = .int .i64 (i : Int) ∧ v4 = .slice A i c ∧ Aside0 (i + kq = n + 1 ∧ i ≤ n) ∧ Aside0 (Kd.R (Kd.int .u8) 5 w' w.heap.size (fun _ => True) (.slice A i c) (ints (d.take i))) ∧ Aside0 (Below w.heap.size w w'))
  case atStart => exact ⟨0, _, _, rfl, rfl, ⟨by omega, by omega⟩, HO, HB⟩
  case round =>
    clear HO HB hmk
    obtain ⟨i, A, c, rfl, rfl, HI, HO, HB⟩ := hrel
    by_cases ci : i < n
    · obtain ⟨k1, rfl⟩ : ∃ k1, gk = k1 + 1 := ⟨gk - 1, by have := HI.out; omega⟩
      have cb : decide ((i : Int) < (n : Int)) = true := decide_eq_true (by omega)
      have cb2 := eq_true ci
      have cb3 := eq_true (show i < s.size by omega)
      have hid : i < d.length := by have := HNN.out; omega
      have his : i < s.size := by omega
      have hAT := HAT2.out i his hid
      obtain ⟨v, hv⟩ : ∃ v, d[i] = v := ⟨_, rfl⟩
      rw [hv] at hAT
      have hv32 : v < 32 := hv ▸ HD.out _ (List.getElem_mem _)
      obtain ⟨V, hV⟩ : ∃ V : Int, (v : Int) = V := ⟨_, rfl⟩
      have HAT3 := Aside0.mk (show Lib.indexByte abc.data.toList (((s[i]'his).toNat : Int).toNat.toUInt8) = V from by rw [hAT, pos_of hv32, hV])
      have HTK := Aside0.mk (show ints (d.take (i + 1)) = ints (d.take i) ++ [V] from by
        rw [List.take_add_one, List.getElem?_eq_getElem hid, hv, ← hV]; simp [ints])
      have d0 : decide (V < 0) = false := decide_eq_false (by omega)
      have hwV : V % 256 = V := Int.emod_eq_of_lt (by omega) (by omega)
      have HC := Aside0.mk ci
      have HLX := Aside0.mk (show ((ints (d.take i)).length + 1) * 1 ≤ 140737488355328 from by have := HN.out; simp [ints]; omega)
      have HLT := Aside0.mk (show (ints (d.take i) ++ [V]).length = i + 1 from by simp [ints]; omega)
      clear ci hAT hv hv32 hV
      go_wp2_with (first
        | (go_at_call 36; go_must ((with_reducible refine (Tryd.strings_IndexByte _ _ _).mono ?_); rintro e w1 ⟨rfl, hw1⟩; obtain rfl := hw1.symm; rw [HAT3.out]))
        | ((with_reducible refine gate_builtin (b := .append) (xs := #[.tmp 27, .tmp 30]) rfl ?_); at_builtin; go_must (refine Kd.R_append (Kd.int .u8) (w0 := w) w.heap.size rfl (.tmp 27) (.tmp 30) 22 5 (.int .u8 0) 1 rfl Tryd.underlying22 PFnWriteBech32.info5 rfl (by decide) (by omega) _ (ints (d.take i)) V [.int .u8 V] (fun _ => True) (fun _ => False) rfl rfl ?aP (fun _ hk => hk.elim) (fun _ _ => trivial) HO.out HB.out HB.out.size HLX.out ?_); go_must (case aP => exact rfl); intro v6 w6 ho hb hg hat; obtain ⟨A6, c6, rfl⟩ := Kd.R_slice ho; rw [HLT.out] at ho ⊢; rw [← HTK.out] at ho; have HO6 := Aside0.mk ho; have HB6 := Aside0.mk hb; clear ho hb hg hat))
      go_roundg k1
      case measure => have := HI.out; omega
      case rel => exact ⟨i + 1, A6, c6, by first | rfl | (rw [wrap64_id (by omega) (by have := HN.out; have := HC.out; have := HNN.out; omega)]; push_cast; rfl), rfl, ⟨by have := HI.out; omega, by have := HC.out; omega⟩, HO6, HB6⟩
    · have cb : decide ((i : Int) < (n : Int)) = false := decide_eq_false (by omega)
      have cb2 := eq_false ci
      have cb3 := eq_false (show ¬ i < s.size by omega)
      obtain rfl : i = n := by have := HI.out; omega
      have HO7 := Aside0.mk (show Kd.R (Kd.int .u8) 5 wr w.heap.size (fun _ => True) (.slice A i c) (ints d) from by
        have := HO.out
        rwa [List.take_of_length_le (by have := HNN.out; omega)] at this)
      clear ci HO
      go_wp2
      go_ret2
      exact ⟨A, c, rfl, HO7.out, HB.out⟩
/-- What the check answers. -/
def VOut (P : Nat) (e : Ending) : Prop := (P = 1 ∧ e = .returned (.tuple #[.int .u8 0, .bool true])) ∨ (P = 734539939 ∧ e = .returned (.tuple #[.int .u8 1, .bool true])) ∨ (P ≠ 1 ∧ P ≠ 734539939 ∧ e = .returned (.tuple #[.int .u8 2, .bool false]))
theorem ints_val (d : List Nat) : (ints d).map Int.toNat = d := by
  rw [ints, List.map_map]
  exact (List.map_congr_left fun x _ => rfl).trans (List.map_id d)
set_option maxHeartbeats 8000000 in
set_option maxRecDepth 100000 in
theorem verify_calls (s : ByteArray) (A : Option Addr) (c : Nat) (d : List Nat) (w : World) (hg : Gen w) (hs : s.size ≤ 1000) (hr : Kd.C (Kd.int .u8) w A d.length (ints d)) (hc : d.length ≤ c) (hd : ∀ v ∈ d, v < 32) (hn : 6 ≤ d.length ∧ d.length ≤ 1000) :
    Calls Tryd.prog 30 #[.string s, .slice A d.length c] w fun e w' => VOut (pm 1 (hi s ++ 0 :: (lo s ++ d))) e ∧ Below w.heap.size w w' := by
  obtain ⟨ji, hji⟩ : ∃ j : Int, (d.length : Int) - 6 = j := ⟨_, rfl⟩
  obtain ⟨q, hq⟩ : ∃ q, d.length - 6 = q := ⟨_, rfl⟩
  have hwj : wrap64 ((d.length : Int) - 6) = ji := by rw [hji]; exact wrap64_id (by omega) (by omega)
  obtain ⟨i0, hinf, hz⟩ := Option.map_eq_some_iff.1 PFnWriteBech32.info5
  simp only [Prod.mk.injEq] at hz
  obtain ⟨z1, z2, z3⟩ := hz
  have hil := ints_len d
  rw [← hil] at hr hc
  obtain ⟨hcut, hT, _⟩ := print_take_of (P := Tryd.prog) (Value.int .u8) 0 22 5 .i64 Tryd.underlying22 hinf z2 A c (ints d) ji (by omega) (by omega) hc
  obtain ⟨A', hcut2, hT2, _⟩ := print_drop_of (P := Tryd.prog) (Value.int .u8) 0 22 5 .i64 Tryd.underlying22 hinf z2 A c (ints d) ji (by omega) (by omega) hc
  have hrd := Kd.reads_of_C (d := (0 : Int)) hr
  have e1 : (ints d).take ji.toNat = ints (d.take q) := by rw [show ji.toNat = q by omega]; simp [ints]
  have e2 : (ints d).drop ji.toNat = ints (d.drop q) := by rw [show ji.toNat = q by omega]; simp [ints]
  have l1 : (ints (d.take q)).length = q := by simp [ints]; omega
  have l2 : (ints (d.drop q)).length = 6 := by simp [ints]; omega
  have r1 := Kd.C_of_reads (h1 := fun _ => rfl) (hT w hrd)
  have r2 := Kd.C_of_reads (h1 := fun _ => rfl) (hT2 w hrd)
  rw [e1] at r1 hcut
  rw [e2] at r2 hcut2
  have HMS := Lib.hid (mod_sum s A c (ints (d.take q)) A' (c - ji.toNat) (ints (d.drop q)) w hg hs r1 (fun v hv => by
    obtain ⟨x, hx, rfl⟩ := List.mem_map.1 hv
    have := hd x (List.mem_of_mem_take hx)
    show 0 ≤ (x : Int) ∧ (x : Int) < 32
    omega) (by rw [l1]; omega) r2 (fun v hv => by
    obtain ⟨x, hx, rfl⟩ := List.mem_map.1 hv
    have := hd x (List.mem_of_mem_drop hx)
    show 0 ≤ (x : Int) ∧ (x : Int) < 32
    omega) (by rw [l2]; omega))
  rw [ints_val, ints_val, List.take_append_drop] at HMS
  rw [l1] at hcut HMS
  rw [l2] at hcut2 HMS
  rw [hil] at hcut hcut2
  obtain ⟨n, hnn⟩ : ∃ n, d.length = n := ⟨_, rfl⟩
  obtain ⟨c', hc'⟩ : ∃ c', c - ji.toNat = c' := ⟨_, rfl⟩
  rw [hc'] at hcut2 HMS
  rw [hnn] at hcut hcut2 hwj ⊢
  obtain ⟨P, hP⟩ : ∃ P, pm 1 (hi s ++ 0 :: (lo s ++ d)) = P := ⟨_, rfl⟩
  rw [hP] at HMS ⊢
  have HV : ∃ (v : Int) (b : Bool), PFnWriteBech32.bech32_ConstsToVersion.f (P : Int) = some (v, b) ∧ ((P = 1 ∧ v = 0 ∧ b = true) ∨ (P = 734539939 ∧ v = 1 ∧ b = true) ∨ (P ≠ 1 ∧ P ≠ 734539939 ∧ b = false)) := by
    by_cases h1 : P = 1
    · exact ⟨0, true, by rw [h1]; rfl, .inl ⟨h1, rfl, rfl⟩⟩
    · by_cases h2 : P = 734539939
      · exact ⟨1, true, by rw [h2]; rfl, .inr (.inl ⟨h2, rfl, rfl⟩)⟩
      · refine ⟨0, false, ?_, .inr (.inr ⟨h1, h2, rfl⟩)⟩
        unfold PFnWriteBech32.bech32_ConstsToVersion.f
        rw [if_neg (by omega), if_neg (by omega)]
  obtain ⟨v, b, hv1, hv2⟩ := HV
  have HV1 := Lib.hid hv1
  clear hg hs hr hc hd hn hji hq z1 z2 z3 hil hT hT2 hrd e1 e2 l1 l2 r1 r2 hnn hc' hP hv1 hinf
  rcases hv2 with ⟨h1, rfl, rfl⟩ | ⟨h1, rfl, rfl⟩ | ⟨h1, h2, rfl⟩
  · have HH := Aside0.mk (h1)
    clear h1
    go_enter Tryd.func30, Tryd.ntmps30
    go_wp2_with (first
      | (go_at_call 34; go_must ((with_reducible refine HMS.out.mono ?_); rintro e w2 ⟨rfl, hw2⟩; obtain rfl := hw2.symm))
      | (go_at_call 37; go_must ((with_reducible refine (PFnWriteBech32.bech32_ConstsToVersion.calls _ _ _ _ HV1.out).mono ?_); rintro e w3 ⟨rfl, ⟨m1, rfl⟩⟩)))
    go_ret2
    exact ⟨.inl ⟨HH.out, rfl⟩, pw_below_drewN (Below.refl _ _) m1⟩
  · have HH := Aside0.mk (h1)
    clear h1
    go_enter Tryd.func30, Tryd.ntmps30
    go_wp2_with (first
      | (go_at_call 34; go_must ((with_reducible refine HMS.out.mono ?_); rintro e w2 ⟨rfl, hw2⟩; obtain rfl := hw2.symm))
      | (go_at_call 37; go_must ((with_reducible refine (PFnWriteBech32.bech32_ConstsToVersion.calls _ _ _ _ HV1.out).mono ?_); rintro e w3 ⟨rfl, ⟨m1, rfl⟩⟩)))
    go_ret2
    exact ⟨.inr (.inl ⟨HH.out, rfl⟩), pw_below_drewN (Below.refl _ _) m1⟩
  · have HH := Aside0.mk (And.intro h1 h2)
    clear h1 h2
    go_enter Tryd.func30, Tryd.ntmps30
    go_wp2_with (first
      | (go_at_call 34; go_must ((with_reducible refine HMS.out.mono ?_); rintro e w2 ⟨rfl, hw2⟩; obtain rfl := hw2.symm))
      | (go_at_call 37; go_must ((with_reducible refine (PFnWriteBech32.bech32_ConstsToVersion.calls _ _ _ _ HV1.out).mono ?_); rintro e w3 ⟨rfl, ⟨m1, rfl⟩⟩)))
    go_ret2
    exact ⟨.inr (.inr ⟨HH.out.1, HH.out.2, rfl⟩), pw_below_drewN (Below.refl _ _) m1⟩
end Go.Proofs.YtciocjaelmnhiaaDoor.Bp
