/-
  Cuts of a row of bytes; a number of four bytes, the least first.
-/
import Derived.Test.YtojadhcbjcpifaaProg
import Derived.WalkKit
import Derived.KernelRfl
import Derived.Outline
import Derived.BigQuiet
import Derived.WalkSpells
import Derived.StillTailTactics
import Derived.Deep.DeepMust
import Derived.Lib.Hide
import Derived.Lib.EndianBits
import Derived.Test.YtojadhcbjcpifaaWWords
import Derived.Test.YtojadhcbjcpifaaWLast
import Derived.Test.YtojadhcbjcpifaaWMore
import Derived.Test.YtojadhcbjcpifaaWNEv
import Derived.Test.YtojadhcbjcpifaaWGuard
import Derived.Test.YtojadhcbjcpifaaTokPure
import Derived.Test.YtojadhcbjcpifaaRow
namespace Go.Proofs.Ytojadhcbjcpifaa.Tok
open Go.RowKit Go.Proofs.YtojadhcbjcpifaaW.PrintWords Go.Proofs.YtojadhcbjcpifaaW.PrintLast

theorem info_u8 : (Try.prog.info? 5).map (fun i => (i.zero, i.size, i.bytes)) = some (some (.int .u8 0), 1, 1) := by kernel_rfl
theorem wrap64_id {x : Int} (h0 : -9223372036854775808 ≤ x) (h1 : x < 9223372036854775808) : wrap64 x = x := by unfold wrap64; omega
theorem from_fact (kl : IntKind) {W : World} {base : Nat} {P0 : Nat → Prop} {A : Option Addr} {c : Nat} {l : List Int} (hs : Kd.V (Kd.int .u8) 5 W base P0 (.slice A l.length c) l) (j : Nat) (hj : j ≤ l.length) :
    ∃ A2 m2 c2, m2 = l.length - j ∧ (∀ W', (Instr.slice 23 (.slice A l.length c) (some (.int kl j)) none none).run Try.prog W' = .ok (.slice A2 m2 c2) W') ∧ Kd.V (Kd.int .u8) 5 W base P0 (.slice A2 m2 c2) (l.drop j) := by
  obtain ⟨_, hc, hF⟩ := Kd.V_at hs
  obtain ⟨i0, hi0, _, hsz, _⟩ := info_parts info_u8
  have h1 := cut_from (P := Try.prog) 23 5 kl Try.underlying23 hi0 1 hsz A l.length c (j : Int) (by omega) (by omega)
  have h2 := Kd.F_cut (m := j) (c := c) hF hj hc
  refine ⟨_, _, _, rfl, h1, ?_⟩
  have e : l.length - j = (l.drop j).length := by rw [List.length_drop]
  rw [e]
  exact Kd.V_mk (by rw [List.length_drop, Int.toNat_natCast]; omega) h2
theorem mid_fact (kl kh : IntKind) {W : World} {base : Nat} {P0 : Nat → Prop} {A : Option Addr} {n c : Nat} {l : List Int} (hs : Kd.V (Kd.int .u8) 5 W base P0 (.slice A n c) l) (i j : Nat) (hi : i ≤ j) (hj : j ≤ l.length) :
    ∃ A2 m2 c2, m2 = j - i ∧ (∀ W', (Instr.slice 23 (.slice A n c) (some (.int kl i)) (some (.int kh j)) none).run Try.prog W' = .ok (.slice A2 m2 c2) W') ∧ Kd.V (Kd.int .u8) 5 W base P0 (.slice A2 m2 c2) ((l.take j).drop i) := by
  obtain ⟨rfl, hc, hF⟩ := Kd.V_at hs
  obtain ⟨i0, hi0, _, hsz, _⟩ := info_parts info_u8
  have h1 := cut_mid (P := Try.prog) 23 5 kl kh Try.underlying23 hi0 1 hsz A l.length c (i : Int) (j : Int) (by omega) (by omega) (by omega) hc
  have h2 := Kd.F_mid (lo := i) (hi := j) (c := c) hF hi hj hc
  refine ⟨_, _, _, rfl, h1, ?_⟩
  have e : j - i = ((l.take j).drop i).length := by rw [List.length_drop, List.length_take]; omega
  rw [e]
  exact Kd.V_mk (by rw [List.length_drop, List.length_take, Int.toNat_natCast]; omega) h2
theorem to_fact (kh : IntKind) {W : World} {base : Nat} {P0 : Nat → Prop} {A : Option Addr} {n c : Nat} {l : List Int} (hs : Kd.V (Kd.int .u8) 5 W base P0 (.slice A n c) l) (j : Nat) (hj : j ≤ l.length) :
    (∀ W', (Instr.slice 23 (.slice A n c) none (some (.int kh j)) none).run Try.prog W' = .ok (.slice A j c) W') ∧ Kd.V (Kd.int .u8) 5 W base P0 (.slice A j c) (l.take j) := by
  obtain ⟨rfl, hc, hF⟩ := Kd.V_at hs
  obtain ⟨i0, hi0, _, hsz, _⟩ := info_parts info_u8
  have h1 := cut_to (P := Try.prog) 23 5 kh Try.underlying23 hi0 A l.length c (j : Int) (by omega) (by omega) hc
  refine ⟨h1, ?_⟩
  have e : j = (l.take j).length := by rw [List.length_take]; omega
  refine ⟨A, c, by rw [← e], by rw [← e]; omega, ?_⟩
  rw [← e]
  exact Kd.F_imp hF (fun _ hC => by have := Kd.C_take hC hj; rwa [← e] at this)


set_option maxHeartbeats 8000000 in
set_option maxRecDepth 100000 in
theorem u32_long (A : Option Addr) (m c : Nat) (l : List Int) (w : World) (hr : Kd.C (Kd.int .u8) w A m l) (hb : Bytes l) (hl : 4 ≤ l.length) (r : Int) (h : leV (l.take 4) = r) :
    Calls Try.prog 26 #[.agg #[], .slice A m c] w fun e w' => e = .returned (.int .u32 r) ∧ Below w.heap.size w w' := by
  obtain rfl := Kd.C_len hr
  obtain ⟨a0, a1, a2, a3, l, rfl⟩ : ∃ a0 a1 a2 a3 t, l = a0 :: a1 :: a2 :: a3 :: t := by
    match l, hl with
    | a0 :: a1 :: a2 :: a3 :: t, _ => exact ⟨a0, a1, a2, a3, t, rfl⟩
  obtain ⟨ad, e, _⟩ := Kd.at_int hr 0 (by omega) (by simp only [List.length_cons]; omega)
  cases e
  have at_ : ∀ o : Obj, (w.alloc o).cell? ad = some (.int .u8 a0) ∧ (w.alloc o).cell? ⟨ad.block, ad.off + 1, none⟩ = some (.int .u8 a1) ∧
      (w.alloc o).cell? ⟨ad.block, ad.off + 2, none⟩ = some (.int .u8 a2) ∧ (w.alloc o).cell? ⟨ad.block, ad.off + 3, none⟩ = some (.int .u8 a3) := by
    intro o
    have hq := Kd.C_below hr (below_alloc (Below.refl _ _) o)
    obtain ⟨ad', e, x0⟩ := Kd.at_int hq 0 (by omega) (by simp only [List.length_cons]; omega)
    cases e
    obtain ⟨ad', e, x1⟩ := Kd.at_int hq 1 (by omega) (by simp only [List.length_cons]; omega)
    cases e
    obtain ⟨ad', e, x2⟩ := Kd.at_int hq 2 (by omega) (by simp only [List.length_cons]; omega)
    cases e
    obtain ⟨ad', e, x3⟩ := Kd.at_int hq 3 (by omega) (by simp only [List.length_cons]; omega)
    cases e
    exact ⟨x0, x1, x2, x3⟩
  have x0 := fun o => (at_ o).1
  have x1 := fun o => (at_ o).2.1
  have x2 := fun o => (at_ o).2.2.1
  have x3 := fun o => (at_ o).2.2.2
  have h0 := hb a0 (by simp)
  have h1 := hb a1 (by simp)
  have h2 := hb a2 (by simp)
  have h3 := hb a3 (by simp)
  have H := Lib.hid h
  obtain ⟨m, hm⟩ : ∃ m, (a0 :: a1 :: a2 :: a3 :: l).length = m := ⟨_, rfl⟩
  have m3 : 3 < m := by rw [← hm]; simp only [List.length_cons]; omega
  rw [hm]
  clear hr hb h hl at_ hm
  have m2 : 2 < m := by omega
  have m1 : 1 < m := by omega
  have m0 : 0 < m := by omega
  go_enter Try.func26, Try.ntmps26
  go_wp2
  go_quiet (fail)
  go_wp2
  go_ret
  refine ⟨?_, pw_below_drewN (below_alloc (Below.refl _ _) _) _⟩
  have e1 : bits .or .u32 a0 (a1 * 256) = a0 + a1 * 256 := u32_or8 _ _ (by omega) (by omega) (by omega) (by omega) (by omega)
  have e2 : bits .or .u32 (a0 + a1 * 256) (a2 * 65536) = a0 + a1 * 256 + a2 * 65536 := u32_or16 _ _ (by omega) (by omega) (by omega) (by omega) (by omega)
  have e3 : bits .or .u32 (a0 + a1 * 256 + a2 * 65536) (a3 * 16777216) = a0 + a1 * 256 + a2 * 65536 + a3 * 16777216 := u32_or24 _ _ (by omega) (by omega) (by omega) (by omega) (by omega)
  have e4 : leV ((a0 :: a1 :: a2 :: a3 :: l).take 4) = a0 + a1 * 256 + a2 * 65536 + a3 * 16777216 := by simp only [List.take_succ_cons, List.take_zero, leV]; omega
  rw [← H.out, e4, ← e3, ← e2, ← e1]
  rfl
end Go.Proofs.Ytojadhcbjcpifaa.Tok
