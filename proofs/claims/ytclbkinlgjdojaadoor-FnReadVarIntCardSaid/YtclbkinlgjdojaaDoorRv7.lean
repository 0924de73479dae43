/-
  io.ReadFull; wire.ReadVarIntBuf.
-/
import Derived.Test.YtclbkinlgjdojaaDoorRv6
namespace Go.Proofs.YtclbkinlgjdojaaDoor.Rv
open Go.RowKit Go.Proofs.YtclbkinlgjdojaaDoorW.PrintWords Go.Proofs.YtclbkinlgjdojaaDoorW.PrintLast Go.Proofs.YtclbkinlgjdojaaDoor.Reg Go.Proofs.YtclbkinlgjdojaaDoor.Tok
set_option linter.unusedSimpArgs false
set_option linter.unusedVariables false

/-- What does not change while bytes are read. -/
structure Cx (B R S : Nat) (A : Option Addr) (c : Nat) (l : List Int) (a b : Addr) (w0 : World) : Prop where
  hc : l.length ≤ c
  hcm : c ≤ 9223372036854775807
  hn : l.length ≤ 100000
  hRS : R ≠ S
  hAR : ∀ ad, A = some ad → 0 < l.length → ad.block ≠ R
  hB : B ≤ R ∧ B ≤ S
  h3 : 3 < B
  hby : Bytes l
  hC : ∀ W, Below B w0 W → Kd.C (Kd.int .u8) W A l.length l
  hE : ∀ W, Below B w0 W → Errs W a b
section
variable {B R S : Nat} {A : Option Addr} {c : Nat} {l : List Int} {a b : Addr} {w0 : World}
set_option maxHeartbeats 8000000 in
set_option maxRecDepth 100000 in
theorem rf_ok (X : Cx B R S A c l a b w0) (T : Nat) (i : Int) (k kc : Nat) (cs : Array Value) (w : World) (hW : Below B w0 w) (h : Rd w R A l.length c i) (hi : 0 ≤ i) (hf : i + k ≤ l.length) (hk : 1 ≤ k ∧ k ≤ cs.size) (hk8 : k ≤ 8) (hS : w.heap[S]? = some (.cells cs T (0, 0))) :
    Calls Tryd.prog 19 #[Rdv R, .slice (some ⟨S, 0, none⟩) k kc] w fun e w' => e = .returned (.tuple #[.int .i64 (k : Int), .nilIface]) ∧ Rd w' R A l.length c (i + k) ∧ w'.heap[S]? = some (.cells ((((l.drop i.toNat).take k).map (Value.int .u8) ++ cs.toList.drop k).toArray) T (0, 0)) ∧ Below B w w' := by
  have H := Lib.hid (ral_ok B R S T A c l i k kc cs w h (fun W hB => X.hC W (hW.trans hB)) X.hc X.hcm X.hn hi hf hk hk8 hS X.hRS (fun ad e => X.hAR ad e (by omega)) X.hB)
  obtain ⟨C1, hC1⟩ : ∃ C1, (((l.drop i.toNat).take k).map (Value.int .u8) ++ cs.toList.drop k).toArray = C1 := ⟨_, rfl⟩
  rw [hC1] at H ⊢
  clear hC1 hS hk8 hk hf hi h X hW
  go_enter Tryd.func19, Tryd.ntmps19
  go_wp2_with (go_at_call 24; go_must ((with_reducible refine H.out.mono ?_); rintro e w1 ⟨rfl, hP⟩; have HP := Lib.hid hP; clear hP))
  go_ret2
  exact ⟨rfl, HP.out⟩
set_option maxHeartbeats 8000000 in
set_option maxRecDepth 100000 in
theorem rf_bad (X : Cx B R S A c l a b w0) (T : Nat) (i : Int) (k kc : Nat) (cs : Array Value) (w : World) (hW : Below B w0 w) (h : Rd w R A l.length c i) (hi : 0 ≤ i ∧ i ≤ l.length) (hf : i + k > l.length) (hk : 1 ≤ k ∧ k ≤ cs.size) (hk8 : k ≤ 8 ∧ k ≤ kc) (hS : w.heap[S]? = some (.cells cs T (0, 0))) :
    Calls Tryd.prog 19 #[Rdv R, .slice (some ⟨S, 0, none⟩) k kc] w fun e w' => (∃ m v, e = .returned (.tuple #[.int .i64 m, .iface 68 (.pointer (some v))])) ∧ Rd w' R A l.length c l.length ∧ Below B w w' := by
  have h0 : Calls Tryd.prog 24 #[Rdv R, .slice (some ⟨S, 0, none⟩) k kc, .int .i64 (k : Int)] w fun e w' => (∃ m v, e = .returned (.tuple #[.int .i64 m, .iface 68 (.pointer (some v))])) ∧ Rd w' R A l.length c l.length ∧ Below B w w' := by
    by_cases ci : i < l.length
    · exact ral_short B R S T A c l i k kc cs a b w h (fun W hB => X.hC W (hW.trans hB)) X.hc X.hcm X.hn ⟨hi.1, ci⟩ hf hk hk8 hS X.hRS (fun ad e => X.hAR ad e (by omega)) X.hB (X.hE w hW) X.h3
    · have ei : i = l.length := by omega
      refine (ral_end B R A l.length c i S k kc a b w h (by omega) ⟨hk.1, hk8.1, hk8.2⟩ (X.hE w hW) (Nat.le_trans X.hB.1 (Nat.le_of_lt h.lt))).mono fun e w' hh => ?_
      exact ⟨⟨_, _, hh.1⟩, by have := hh.2.1; rwa [ei] at this, hh.2.2⟩
  have H := Lib.hid h0
  clear h0 hS hk8 hk hf hi h X hW
  go_enter Tryd.func19, Tryd.ntmps19
  go_wp2_with (go_at_call 24; go_must ((with_reducible refine H.out.mono ?_); rintro e w1 ⟨⟨m, v, rfl⟩, hP⟩; have HP := Lib.hid hP; clear hP))
  go_ret2
  exact ⟨⟨_, _, rfl⟩, HP.out⟩
end
theorem leZ_eq : ∀ l : List Int, Lib.leZ l = leV l
  | [] => by first | rfl | simp [Lib.leZ, leV]
  | b :: r => by rw [Lib.leZ, leV, leZ_eq r]
theorem cell_read {w : World} {S T : Nat} {zs : List Int} {rest : List Value} (h : w.heap[S]? = some (.cells ((zs.map (Value.int .u8) ++ rest).toArray) T (0, 0))) (i : Nat) (hi : i < zs.length) : w.cell? ⟨S, i, none⟩ = some (.int .u8 (zs.getD i 0)) := by
  rw [blk_cell h i, List.getElem?_toArray, List.getElem?_append_left (by simpa using hi)]
  simp [hi, List.getD]
theorem bytes_wf {l : List Int} (h : Bytes l) : ∀ z ∈ l, (Lit.int .u8 z).wf = true := fun z hz => by
  have := h z hz
  simp [Lit.wf, IntKind.min, IntKind.max, IntKind.bits, IntKind.signed]
  omega
/-- What ReadVarIntBuf answers. -/
def BOut (R : Nat) (A : Option Addr) (n c : Nat) : Option (Int × Int) → Ending → World → Prop
  | none, e, w => (∃ v T p, e = .returned (.tuple #[.int .u64 v, .iface T (.pointer (some p))])) ∧ ∃ i, 0 ≤ i ∧ i ≤ (n : Int) ∧ Rd w R A n c i
  | some (v, u), e, w => e = .returned (.tuple #[.int .u64 v, .nilIface]) ∧ Rd w R A n c u
set_option maxHeartbeats 8000000 in
set_option maxRecDepth 100000 in
theorem buf_nil {B R S : Nat} {A : Option Addr} {c : Nat} {a b : Addr} {w0 : World} (X : Cx B R S A c [] a b w0) (T : Nat) (cs : Array Value) (w : World) (hW : Below B w0 w) (h : Rd w R A 0 c 0) (hz : cs.size = 8) (hS : w.heap[S]? = some (.cells cs T (0, 0))) :
    Calls Tryd.prog 16 #[Rdv R, .int .u32 0, .slice (some ⟨S, 0, none⟩) 8 8] w fun e w' => BOut R A 0 c none e w' ∧ Below B w w' := by
  have H := Lib.hid (rf_bad X T 0 1 8 cs w hW h (by simp) (by simp) (by omega) (by omega) hS)
  clear X hW h hz hS
  go_enter Tryd.func16, Tryd.ntmps16
  go_wp2_with (go_at_call 19; go_must ((with_reducible refine H.out.mono ?_); rintro e w1 ⟨⟨m, v, rfl⟩, hR, hB⟩; have HR := Lib.hid hR; have HB := Lib.hid hB; clear hR hB))
  go_ret2
  exact ⟨⟨⟨_, _, _, rfl⟩, 0, Int.le_refl _, Int.le_refl _, HR.out⟩, HB.out⟩
end Go.Proofs.YtclbkinlgjdojaaDoor.Rv
