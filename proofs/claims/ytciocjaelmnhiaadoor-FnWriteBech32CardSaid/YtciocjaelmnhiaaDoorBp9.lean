/-
  Texts of bech32: their parts.
-/
import Derived.Test.YtciocjaelmnhiaaDoorBp8
namespace Go.Proofs.YtciocjaelmnhiaaDoor.Bp
open Go.RowKit Go.Proofs.YtciocjaelmnhiaaDoorW.PrintWords Go.Proofs.YtciocjaelmnhiaaDoorW.PrintLast Go.Proofs.YtciocjaelmnhiaaDoorW.PrintMore Go.Proofs.YtciocjaelmnhiaaDoor.Reg
set_option linter.unusedSimpArgs false
set_option linter.unusedVariables false

theorem chr_ok' : ∀ v : Fin 32, 33 ≤ (chr v.val).toNat ∧ (chr v.val).toNat ≤ 126 ∧ ¬ (65 ≤ (chr v.val).toNat ∧ (chr v.val).toNat ≤ 90) ∧ (chr v.val).toNat ≠ 49 := by decide +kernel
theorem chr_ok {v : Nat} (h : v < 32) : 33 ≤ (chr v).toNat ∧ (chr v).toNat ≤ 126 ∧ ¬ (65 ≤ (chr v).toNat ∧ (chr v).toNat ≤ 90) ∧ (chr v).toNat ≠ 49 := chr_ok' ⟨v, h⟩
/-- A readable part, in small letters. -/
def Readable (h : ByteArray) : Prop := 0 < h.size ∧ ∀ b ∈ h.data.toList, 33 ≤ b.toNat ∧ b.toNat ≤ 126 ∧ ¬ (65 ≤ b.toNat ∧ b.toNat ≤ 90)
theorem cat_list (h : ByteArray) (d : List Nat) : (cat h d).data.toList = h.data.toList ++ 49 :: d.map chr := rfl
theorem size_list (s : ByteArray) : s.size = s.data.toList.length := by simp
theorem cat_size (h : ByteArray) (d : List Nat) : (cat h d).size = h.size + 1 + d.length := by
  rw [size_list, cat_list, List.length_append, ← size_list]
  simp
  omega
theorem list_ext {a b : ByteArray} (h : a.data.toList = b.data.toList) : a = b := by
  cases a; cases b
  congr 1
  exact Array.toList_inj.1 h
theorem cat_take (h : ByteArray) (d : List Nat) : (cat h d).extract 0 h.size = h := by
  apply list_ext
  rw [ByteArray.data_extract, Array.toList_extract, cat_list, List.extract_eq_take_drop, List.drop_zero, Nat.sub_zero, List.take_append_of_le_length (by rw [size_list]; exact Nat.le_refl _), List.take_of_length_le (by rw [← size_list]; exact Nat.le_refl _)]
theorem cat_drop (h : ByteArray) (d : List Nat) : (cat h d).extract (h.size + 1) (cat h d).size = txt d := by
  apply list_ext
  rw [ByteArray.data_extract, Array.toList_extract, List.extract_eq_take_drop, size_list, List.take_of_length_le (by rw [List.length_drop]; exact Nat.le_refl _), cat_list]
  rw [show h.size + 1 = h.data.toList.length + 1 by rw [← size_list], ← List.drop_drop, List.drop_append_of_le_length (Nat.le_refl _), List.drop_length, List.nil_append, List.drop_one]
  rfl
theorem cat_ok (h : ByteArray) (d : List Nat) (hh : Readable h) (hd : ∀ v ∈ d, v < 32) : ∀ b ∈ (cat h d).data.toList, 33 ≤ b.toNat ∧ b.toNat ≤ 126 ∧ ¬ (65 ≤ b.toNat ∧ b.toNat ≤ 90) := by
  intro b hb
  rw [cat_list, List.mem_append, List.mem_cons] at hb
  rcases hb with hb | rfl | hb
  · exact hh.2 b hb
  · decide
  · obtain ⟨v, hv, rfl⟩ := List.mem_map.1 hb
    have := chr_ok (hd v hv)
    exact ⟨this.1, this.2.1, this.2.2.1⟩
theorem bt_list (s : ByteArray) (i : Nat) (h : i < s.data.toList.length) : bt s (i : Int) = ((s.data.toList[i]'h).toNat : Int) := by
  have hi : i < s.size := by rw [size_list]; exact h
  simp only [bt, Int.toNat_natCast, hi, dif_pos]
  rfl
theorem at_list (s : ByteArray) (i : Nat) (h : i < s.size) : (s[i]'h) = s.data.toList[i]'(by rw [← size_list]; exact h) := by
  simp
  rfl
theorem last_l (h : ByteArray) (d : List Nat) (hd : ∀ v ∈ d, v < 32) (hn : h.size ≤ 1000 ∧ d.length ≤ 1000) : ∀ (m k : Nat), m ≤ d.length → m < k → PFnWriteBech32.bytealg_LastIndexByteString.l0 k (cat h d) 49 ((h.size + m : Nat) : Int) = some (h.size : Int)
  | m, 0, _, hk => absurd hk (by omega)
  | 0, k + 1, hm, hk => by
    have hs := cat_size h d
    have hb : bt (cat h d) ((h.size + 0 : Nat) : Int) = 49 := by
      rw [bt_list _ _ (by rw [← size_list]; omega)]
      simp only [cat_list]
      rw [List.getElem_append_right (by rw [← size_list]; omega)]
      simp [← size_list]
    rw [PFnWriteBech32.bytealg_LastIndexByteString.l0, if_pos (by omega), if_pos (by omega), if_pos (by omega), if_pos hb]
    rfl
  | m + 1, k + 1, hm, hk => by
    have hs := cat_size h d
    have hb : bt (cat h d) ((h.size + (m + 1) : Nat) : Int) ≠ 49 := by
      rw [bt_list _ _ (by rw [← size_list]; omega)]
      simp only [cat_list]
      rw [List.getElem_append_right (by rw [← size_list]; omega)]
      have e : h.size + (m + 1) - h.data.toList.length = m + 1 := by rw [← size_list]; omega
      simp only [e, List.getElem_cons_succ, List.getElem_map]
      have := chr_ok (hd d[m] (List.getElem_mem _))
      omega
    have hw : wrap64 (((h.size + (m + 1) : Nat) : Int) - 1) = ((h.size + m : Nat) : Int) := by rw [wrap64_id (by omega) (by omega)]; omega
    rw [PFnWriteBech32.bytealg_LastIndexByteString.l0, if_pos (by omega), if_pos (by omega), if_pos (by omega), if_neg hb, hw]
    exact last_l h d hd hn m k (by omega) (by omega)
theorem last_f (h : ByteArray) (d : List Nat) (hd : ∀ v ∈ d, v < 32) (hn : h.size ≤ 1000 ∧ d.length ≤ 1000) : PFnWriteBech32.strings_LastIndexByte.f (d.length + 1) (cat h d) 49 = some (h.size : Int) := by
  unfold PFnWriteBech32.strings_LastIndexByte.f PFnWriteBech32.bytealg_LastIndexByteString.f
  have hs := cat_size h d
  rw [show wrap64 (((cat h d).size : Int) - 1) = ((h.size + d.length : Nat) : Int) by rw [wrap64_id (by omega) (by omega)]; omega, last_l h d hd hn d.length (d.length + 1) (Nat.le_refl _) (by omega)]
  rfl
theorem atF_below {T e : TypeId} {B b : Nat} {p : Value} {bs : List Value} {W W' : World} (h : Lib.BuilderAtF T e B b p bs W) (hb : Below W.heap.size W W') : Lib.BuilderAtF T e B b p bs W' := by
  have hlt := h.lt
  obtain ⟨hB, v, hv, hown, hne⟩ := h
  exact ⟨hB, v, (hb.block b hlt).trans hv, hown.kept (row := none) ⟨hb.os, hb.tape, hb.output, hb.size, fun k hk _ => hb.block k hk⟩ (Classical.em _), hne⟩
theorem Bd.below {B b : Nat} {l : List UInt8} {w w' : World} (h : Bd B b l w) (hb : Below w.heap.size w w') : Bd B b l w' :=
  h.elim (fun x => Or.inl (atF_below x hb)) (fun x => Or.inr (atF_below x hb))
end Go.Proofs.YtciocjaelmnhiaaDoor.Bp
