/-
  The walk of the function that tells the anchor.
-/
import Derived.Test.YtafpmdmmeohmfaaClKey
namespace Go.Proofs.Ytafpmdmmeohmfaa.Forms
open Go.RowKit Go.Proofs.YtafpmdmmeohmfaaW.PrintWords Go.Proofs.YtafpmdmmeohmfaaW.PrintLast
set_option linter.unusedVariables false
set_option linter.unusedSimpArgs false

def isAnchorP (l : List Int) : Bool := decide (l = [81, 2, 78, 115])

theorem bytes_inj : ∀ {l m : List Int}, Tok.Bytes l → Tok.Bytes m → Lib.bytesOf l = Lib.bytesOf m → l = m
  | [], [], _, _, _ => rfl
  | [], _ :: _, _, _, h => by simp [Lib.bytesOf] at h
  | _ :: _, [], _, _, h => by simp [Lib.bytesOf] at h
  | a :: l, b :: m, hl, hm, h => by
    have h' : UInt8.ofNat a.toNat = UInt8.ofNat b.toNat ∧ Lib.bytesOf l = Lib.bytesOf m := by
      simpa [Lib.bytesOf] using h
    have ha := hl a (List.mem_cons_self ..)
    have hb := hm b (List.mem_cons_self ..)
    have e : a.toNat = b.toNat := by
      have := congrArg UInt8.toNat h'.1
      rw [UInt8.toNat_ofNat', UInt8.toNat_ofNat'] at this
      omega
    rw [bytes_inj (fun x hx => hl x (List.mem_cons_of_mem _ hx)) (fun x hx => hm x (List.mem_cons_of_mem _ hx)) h'.2, show a = b by omega]

theorem equal_f {l : List Int} (hb : Tok.Bytes l) {b : Bool} (h : isAnchorP l = b) : PFnClass.bytes_Equal.f l [81, 2, 78, 115] = some b := by
  unfold PFnClass.bytes_Equal.f
  congr 1
  rw [← h, isAnchorP, Bool.eq_iff_iff, beq_iff_eq, decide_eq_true_eq, Lib.strOfNums_toList, Lib.strOfNums_toList]
  exact ⟨fun e => bytes_inj hb (fun x hx => by simp at hx; omega) e, fun e => by rw [e]⟩

set_option maxHeartbeats 4000000 in
set_option maxRecDepth 100000 in
theorem extractPayToAnchor_calls (A : Option Addr) (c : Nat) (l : List Int) (w : World) (hr : Kd.C (Kd.int .u8) w A l.length l) (hc : l.length ≤ c) (hby : Tok.Bytes l) (b : Bool) (h : isAnchorP l = b) :
    Calls Try.prog 77 #[.slice A l.length c] w fun e w' => ((b = false ∧ e = .returned (.slice none 0 0)) ∨ (b = true ∧ ∃ ad n' c', e = .returned (.slice (some ad) n' c'))) ∧ Below w.heap.size w w' := by
  have HR0 := Lib.hid hr
  have HC0 := Lib.hid hc
  have HB := Lib.hid (Below.refl w.heap.size w)
  have he := equal_f hby h
  obtain ⟨y, hy⟩ : ∃ y : List Int, y = [81, 2, 78, 115] := ⟨_, rfl⟩
  rw [← hy] at he
  have HE := Lib.hid he
  have HY := Lib.hid hy
  clear he hy
  have HH := Lib.hid h
  clear hr hc hby h
  cases b
  case' true =>
    have e : l = [81, 2, 78, 115] := of_decide_eq_true HH.out
    have e4 : l.length = 4 := by rw [e]; rfl
    obtain ⟨ad, ea, -⟩ := Kd.at_int HR0.out 0 (by decide) (by omega)
    subst ea
    have hcap : 4 ≤ c := by have := HC0.out; omega
    clear e e4
  all_goals
    go_enter Try.func77, Try.ntmps77
    go_wp2_with (first
      | ((with_reducible refine gate_dst (N := 4) rfl ?_); refine Kd.R_lit (Kd.int .u8) _ 5 ?hg (N := 4) ?hd (xs := ([81, 2, 78, 115] : List Int)) (inner := [.int .u8 81, .int .u8 2, .int .u8 78, .int .u8 115]) (ok := fun _ => True) (okp := fun _ => True) ?hr ?hp (fun _ hk => hk) trivial (Below.refl _ _) (Nat.le_refl _) (by simp) ?_; (case hd => rfl); (case hg => rfl); (case hr => first | (go_simp; done) | (go_simp; rfl)); (case hp => exact (Reps.one (show Kd.M (Kd.int .u8) _ _ _ 81 [.int .u8 81] from rfl) (Reps.one (show Kd.M (Kd.int .u8) _ _ _ 2 [.int .u8 2] from rfl) (Reps.one (show Kd.M (Kd.int .u8) _ _ _ 78 [.int .u8 78] from rfl) (Reps.one (show Kd.M (Kd.int .u8) _ _ _ 115 [.int .u8 115] from rfl) (Reps.none _ _)))))); intro v238 w3 ho4 hb4 hg_ hnew_; clear hg_ hnew_; rw [← HY.out] at ho4; have HO := Lib.hid ho4; have HB3 := Lib.hid (below_step HB.out hb4); clear hb4 ho4; obtain ⟨Ao5, co5, eo5⟩ := Kd.R_slice HO.out; subst eo5)
      | (go_at_call 84; (with_reducible refine (PFnClass.bytes_Equal.calls _ _ l _ _ y _ _ ?side1 ?side2 ?side3 ?side4 HE.out).mono ?_); (case side1 => repeat (first | exact (Kd.C_below HR0.out HB3.out) | (with_reducible refine Kd.C_drewN ?_ _) | (with_reducible refine Kd.C_drew ?_))); (case side2 => exact HC0.out); (case side3 => repeat (first | exact (Kd.R_reads' HO.out).2.2 | (with_reducible refine Kd.C_drewN ?_ _) | (with_reducible refine Kd.C_drew ?_))); (case side4 => exact (Kd.R_reads' HO.out).2.1); rintro e w' ⟨rfl, ⟨nd, rfl⟩⟩))
    go_wp2
    go_ret
    exact ⟨by first | exact .inl ⟨trivial, rfl⟩ | exact .inl ⟨rfl, rfl⟩ | exact .inr ⟨trivial, _, _, _, rfl⟩ | exact .inr ⟨rfl, _, _, _, rfl⟩, by repeat (first | exact HB3.out | apply pw_below_drewN | apply below_drew1)⟩

set_option maxRecDepth 100000 in
theorem isAnchor_calls (A : Option Addr) (c : Nat) (l : List Int) (w : World) (hr : Kd.C (Kd.int .u8) w A l.length l) (hc : l.length ≤ c) (hby : Tok.Bytes l) (b : Bool) (h : isAnchorP l = b) :
    Calls Try.prog 64 #[.slice A l.length c] w fun e w' => e = .returned (.bool b) ∧ Below w.heap.size w w' := by
  have H := Lib.hid (extractPayToAnchor_calls A c l w hr hc hby b h)
  clear hr hc hby h
  have qT : ∀ (w : World) (a : Option Addr) (n c n' c' : Nat), (binOp .neq 22 (.slice a n c) (.slice none n' c')).run Try.prog w = .ok (.bool (!a.isNone)) w := fun w a n c n' c' => run_neq_slice_nil_any w _ _ a n c n' c' Try.underlying22
  go_enter Try.func64, Try.ntmps64
  go_wp2_with (go_at_call 77; refine H.out.mono ?_; rintro e w' ⟨⟨rfl, rfl⟩ | ⟨rfl, ad, n', c', rfl⟩, HB⟩)
  · go_wp2
    go_ret
    exact ⟨rfl, HB⟩
  · go_wp2
    go_ret
    exact ⟨rfl, HB⟩
end Go.Proofs.Ytafpmdmmeohmfaa.Forms
