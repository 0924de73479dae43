/-
  hex.EncodeToString as the print tells it is Hx.encode.
-/
import Derived.Test.YtafpmdmmeohmfaaDrOps
namespace Go.Proofs.Ytafpmdmmeohmfaa.Dr
open Go.RowKit Go.Proofs.YtafpmdmmeohmfaaW.PrintWords Go.Proofs.YtafpmdmmeohmfaaW.PrintLast Go.Proofs.YtafpmdmmeohmfaaW.PrintMore Go.Proofs.Ytafpmdmmeohmfaa.PFnDisasmRead Go.Proofs.Ytafpmdmmeohmfaa.Tok
open Go.Lib (Hx.encode Hx.digit Hx.encode_length Hx.encode_cons)
set_option linter.unusedSimpArgs false
set_option linter.unusedVariables false

theorem and15' : ∀ n : Fin 256, Go.bits .and .u8 (n.val : Int) 15 = (n.val : Int) % 16 := by decide +kernel
theorem and15 {y : Int} (h : 0 ≤ y ∧ y < 256) : Go.bits .and .u8 y 15 = y % 16 := by
  obtain ⟨n, rfl⟩ := Int.eq_ofNat_of_zero_le h.1
  exact and15' ⟨n, by omega⟩
theorem dig16' : ∀ n : Fin 16, bt (⟨#[48, 49, 50, 51, 52, 53, 54, 55, 56, 57, 97, 98, 99, 100, 101, 102]⟩ : ByteArray) (n.val : Int) = ((Hx.digit n.val).toNat : Int) := by decide +kernel
/-- The digits as numbers. -/
def hxs (d : List Int) : List Int := (Hx.encode (Lib.bytesOf d)).map fun x => (x.toNat : Int)
theorem hxs_cons (y : Int) (d : List Int) : hxs (y :: d) = ((Hx.digit ((UInt8.ofNat y.toNat).toNat / 16)).toNat : Int) :: ((Hx.digit ((UInt8.ofNat y.toNat).toNat % 16)).toNat : Int) :: hxs d := by
  have e : Lib.bytesOf (y :: d) = UInt8.ofNat y.toNat :: Lib.bytesOf d := rfl
  unfold hxs
  rw [e, Hx.encode_cons]
  rfl
theorem set_two (pre : List Int) (a b : Int) (n : Nat) : ((pre ++ List.replicate (2 * (n + 1)) 0).set pre.length a).set (pre.length + 1) b = pre ++ [a, b] ++ List.replicate (2 * n) 0 := by
  rw [show 2 * (n + 1) = 2 * n + 1 + 1 by omega, List.replicate_succ, List.replicate_succ, List.set_append_right _ _ (Nat.le_refl _), Nat.sub_self, List.set_cons_zero, List.set_append_right _ _ (by omega), Nat.add_sub_cancel_left, List.set_cons_succ, List.set_cons_zero, List.append_assoc]
  rfl
theorem hex_l0 : ∀ (d done pre : List Int) (k : Nat), Bytes d → (done ++ d).length < 100000 → pre.length + 2 * d.length < 100000 →
    hex_Encode.l0 (k + d.length + 1) (pre ++ List.replicate (2 * d.length) 0) (done ++ d) (pre.length : Int) (done ++ d) ((done ++ d).length : Int) (done.length : Int) = some (((done ++ d).length : Int) * 2, pre ++ hxs d)
  | [], done, pre, k, hb, hn, h2 => by
    rw [hex_Encode.l0, if_neg (by simp), wrap64_id (by omega) (by omega)]
    simp [hxs, Lib.bytesOf, Hx.encode]
  | y :: d, done, pre, k, hb, hn, h2 => by
    have hy := hb y List.mem_cons_self
    have hrd : rd (done ++ y :: d) (done.length : Int) = y := by simp [rd]
    have ih := hex_l0 d (done ++ [y]) (pre ++ [((Hx.digit ((UInt8.ofNat y.toNat).toNat / 16)).toNat : Int), ((Hx.digit ((UInt8.ofNat y.toNat).toNat % 16)).toNat : Int)]) k (fun z hz => hb z (List.mem_cons_of_mem _ hz)) (by simpa using hn) (by simp at h2 ⊢; omega)
    have hlen : (pre ++ List.replicate (2 * (y :: d).length) (0 : Int)).length = pre.length + 2 * (d.length + 1) := by simp
    have hbyte := Lib.Hx.byte_toNat y hy.1 hy.2
    have hn' : done.length + (d.length + 1) < 100000 := by simpa using hn
    have h2' : pre.length + 2 * (d.length + 1) < 100000 := by simpa using h2
    have e1 : bt (⟨#[48, 49, 50, 51, 52, 53, 54, 55, 56, 57, 97, 98, 99, 100, 101, 102]⟩ : ByteArray) (y / 16) = ((Hx.digit ((UInt8.ofNat y.toNat).toNat / 16)).toNat : Int) := by
      have := dig16' ⟨(UInt8.ofNat y.toNat).toNat / 16, by omega⟩
      rw [← this]
      congr 1
      simp only
      omega
    have e2 : bt (⟨#[48, 49, 50, 51, 52, 53, 54, 55, 56, 57, 97, 98, 99, 100, 101, 102]⟩ : ByteArray) (y % 16) = ((Hx.digit ((UInt8.ofNat y.toNat).toNat % 16)).toNat : Int) := by
      have := dig16' ⟨(UInt8.ofNat y.toNat).toNat % 16, by omega⟩
      rw [← this]
      congr 1
      simp only
      omega
    rw [show k + (y :: d).length + 1 = (k + d.length + 1) + 1 by simp; omega, hex_Encode.l0, if_pos (by simp; omega), if_pos (by omega), if_pos (by simp; omega), hrd, if_pos (by omega), if_pos (by omega), if_pos (by omega), if_pos (by rw [hlen]; omega), and15 hy,
      if_pos (by omega), if_pos (by omega), wrap_succ (by omega), if_pos (by omega), if_pos (by rw [hlen]; omega), e1, e2, Int.toNat_natCast, Int.toNat_natCast, List.length_cons, set_two, wrap_succ (by omega),
      show wrap64 ((pre.length : Int) + 2) = ((pre.length + 2 : Nat) : Int) by rw [wrap64_id (by omega) (by omega)]; push_cast; rfl, hxs_cons]
    have e3 : done ++ [y] ++ d = done ++ y :: d := by simp
    have e4 : ∀ a b : Int, pre ++ [a, b] ++ hxs d = pre ++ a :: b :: hxs d := fun a b => by simp
    rw [e3, e4] at ih
    have e5 : ∀ a b : Int, (pre ++ [a, b]).length = pre.length + 2 := fun a b => by simp
    have e6 : (done ++ [y]).length = done.length + 1 := by simp
    rw [e5, e6] at ih
    exact ih
theorem nums_hxs (d : List Int) : strOfNums (hxs d) = ⟨(Hx.encode (Lib.bytesOf d)).toArray⟩ := by
  apply list_ext
  rw [strOfNums_data]
  unfold hxs
  rw [List.map_map]
  have : ((fun n : Int => UInt8.ofNat n.toNat) ∘ fun x : UInt8 => (x.toNat : Int)) = id := by
    funext x
    simp
  rw [this, List.map_id]
theorem hex_f (d : List Int) (hb : Bytes d) (hn : d.length ≤ 10000) : ∃ k, hex_EncodeToString.f k d = some ⟨(Hx.encode (Lib.bytesOf d)).toArray⟩ := by
  refine ⟨d.length + 1, ?_⟩
  have h := hex_l0 d [] [] 0 hb (by simp; omega) (by simp; omega)
  rw [List.nil_append, List.nil_append, List.nil_append, Nat.zero_add] at h
  rw [hex_EncodeToString.f, hex_EncodedLen.f, Option.bind_some, wrap64_id (by omega) (by omega), if_pos (by omega), if_pos (by omega), hex_Encode.f, show ((d.length : Int) * 2).toNat = 2 * d.length by omega]
  rw [show ((([] : List Int).length : Nat) : Int) = 0 by rfl] at h
  rw [h, Option.bind_some, nums_hxs]
end Go.Proofs.Ytafpmdmmeohmfaa.Dr
