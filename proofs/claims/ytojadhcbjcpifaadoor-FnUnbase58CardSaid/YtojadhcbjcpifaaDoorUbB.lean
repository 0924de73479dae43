/-
  The digits of a text's parts.
-/
import Derived.Test.YtojadhcbjcpifaaDoorUb3
import Derived.Laws.RangeAny
namespace Go.Proofs.YtojadhcbjcpifaaDoor.Ub
open Go.RowKit Go.Proofs.YtojadhcbjcpifaaDoorW.PrintWords Go.Proofs.YtojadhcbjcpifaaDoorW.PrintLast Go.Proofs.YtojadhcbjcpifaaDoorW.PrintMore
set_option linter.unusedSimpArgs false
set_option linter.unusedVariables false

theorem ds_eq (s : ByteArray) : ds s = s.data.toList.map fun b => dg (b.toNat : Int) := by
  refine List.ext_getElem (by simp [ds]) fun i h1 h2 => ?_
  have hi : i < s.size := by rw [ds_len] at h1; exact h1
  simp only [ds, List.getElem_map, List.getElem_range, bt, Int.toNat_natCast, hi, dif_pos]
  rfl
theorem ds_ext (s : ByteArray) (a b : Nat) : ds (s.extract a b) = ((ds s).drop a).take (b - a) := by
  rw [ds_eq, ds_eq, ← List.map_drop, ← List.map_take]
  congr 1
  simp [ByteArray.data_extract]
theorem ds_byte (s : ByteArray) (i : Nat) (h : i < s.size) : (ds s).drop i = dg ((s[i]'h).toNat : Int) :: (ds s).drop (i + 1) := by
  rw [ds_at s i h]
  simp [bt, h]
theorem vl_app (v : Int) (a b : List Int) : vl v (a ++ b) = vl (vl v a) b := by
  induction a generalizing v with
  | nil => rfl
  | cons d t ih => exact ih _
theorem vl_lin (v : Int) (l : List Int) : vl v l = v * 58 ^ l.length + vl 0 l := by
  induction l generalizing v with
  | nil => simp [vl]
  | cons d t ih =>
    simp only [vl, List.length_cons, Int.pow_succ]
    rw [ih, ih (0 * 58 + d)]
    grind
theorem vl_lt (l : List Int) (h : ∀ d ∈ l, 0 ≤ d ∧ d < 58) : 0 ≤ vl 0 l ∧ vl 0 l < 58 ^ l.length := by
  induction l with
  | nil => simp [vl]
  | cons d t ih =>
    have h1 := ih fun x hx => h x (List.mem_cons_of_mem _ hx)
    have h2 := h d List.mem_cons_self
    have hp := pow_pos' (B := 58) (by decide) t.length
    simp only [vl, List.length_cons, Int.pow_succ]
    rw [vl_lin]
    obtain ⟨P, hP⟩ : ∃ P : Int, 58 ^ t.length = P := ⟨_, rfl⟩
    obtain ⟨X, hX⟩ : ∃ X : Int, vl 0 t = X := ⟨_, rfl⟩
    rw [hP] at h1 hp ⊢
    rw [hX] at h1 ⊢
    have h3 : d * P ≤ 57 * P := Int.mul_le_mul_of_nonneg_right (by omega) (by omega)
    have h4 : 0 ≤ d * P := Int.mul_nonneg h2.1 (by omega)
    rw [show (0 * 58 + d) * P = d * P by grind]
    omega
theorem dg_high (v : Int) (h : 128 ≤ v ∧ v < 256) : dg v = 255 := by
  have : ∀ b : Fin 256, 128 ≤ b.val → dg ((b.val : Nat) : Int) = 255 := by decide +kernel
  have := this ⟨v.toNat, by omega⟩ (by show 128 ≤ v.toNat; omega)
  rwa [show ((v.toNat : Nat) : Int) = v by omega] at this
/-- What Decode answers. -/
def DOut (s : ByteArray) (r : List Int) : Prop :=
  (255 ∈ ds s ∧ r = []) ∨ (255 ∉ ds s ∧ ∃ n', r = List.replicate (lz (ds s)) 0 ++ n' ∧ Nrm 256 n'.reverse ∧ bv 256 n' = vl 0 (ds s))
end Go.Proofs.YtojadhcbjcpifaaDoor.Ub
