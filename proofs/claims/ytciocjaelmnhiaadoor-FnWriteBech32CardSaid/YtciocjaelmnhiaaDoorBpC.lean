/-
  Readable parts; numbers below 32; letters put into a row.
-/
import Derived.Test.YtciocjaelmnhiaaDoorBpB
namespace Go.Proofs.YtciocjaelmnhiaaDoor.Bp
open Go.RowKit Go.Proofs.YtciocjaelmnhiaaDoorW.PrintWords Go.Proofs.YtciocjaelmnhiaaDoorW.PrintLast Go.Proofs.YtciocjaelmnhiaaDoorW.PrintMore Go.Proofs.YtciocjaelmnhiaaDoor.Reg
set_option linter.unusedSimpArgs false
set_option linter.unusedVariables false

theorem readable_l (s : ByteArray) (hs : s.size ≤ 2147483647) : ∀ (m k i : Nat), m + i = s.size → m < k → ∃ r, PFnWriteBech32.laws_readable.l0 k s (i : Int) = some r ∧ (r = true → 0 < s.size ∧ ∀ j (hj : j < s.data.toList.length), i ≤ j → 33 ≤ (s.data.toList[j]).toNat ∧ (s.data.toList[j]).toNat ≤ 126 ∧ ¬ (65 ≤ (s.data.toList[j]).toNat ∧ (s.data.toList[j]).toNat ≤ 90))
  | m, 0, _, _, h => absurd h (by omega)
  | 0, k + 1, i, hm, hk => by
    refine ⟨_, by rw [PFnWriteBech32.laws_readable.l0, if_neg (by omega)], fun h => ⟨?_, fun j hj hij => ?_⟩⟩
    · have := of_decide_eq_true h
      omega
    · rw [← size_list] at hj
      omega
  | m + 1, k + 1, i, hm, hk => by
    have hil : i < s.data.toList.length := by rw [← size_list]; omega
    have hb := bt_list s i hil
    have hw : wrap64 ((i : Int) + 1) = ((i + 1 : Nat) : Int) := by rw [wrap64_id (by omega) (by omega)]; push_cast; rfl
    rw [PFnWriteBech32.laws_readable.l0, if_pos (by omega), if_pos (by omega), hb]
    obtain ⟨b, hbb⟩ : ∃ b, (s.data.toList[i]).toNat = b := ⟨_, rfl⟩
    rw [hbb]
    by_cases c1 : (b : Int) < 33
    · exact ⟨false, by rw [if_pos c1], fun h => by cases h⟩
    rw [if_neg c1]
    by_cases c2 : (b : Int) > 126
    · exact ⟨false, by rw [if_pos c2], fun h => by cases h⟩
    rw [if_neg c2]
    obtain ⟨r, h1, h2⟩ := readable_l s hs m k (i + 1) (by omega) (by omega)
    have next : ¬ (65 ≤ b ∧ b ≤ 90) → ∃ r, PFnWriteBech32.laws_readable.l0 k s (wrap64 ((i : Int) + 1)) = some r ∧ (r = true → 0 < s.size ∧ ∀ j (hj : j < s.data.toList.length), i ≤ j → 33 ≤ (s.data.toList[j]).toNat ∧ (s.data.toList[j]).toNat ≤ 126 ∧ ¬ (65 ≤ (s.data.toList[j]).toNat ∧ (s.data.toList[j]).toNat ≤ 90)) := fun hc => by
      refine ⟨r, by rw [hw]; exact h1, fun h => ⟨(h2 h).1, fun j hj hij => ?_⟩⟩
      by_cases e : j = i
      · subst e
        rw [hbb]
        omega
      · exact (h2 h).2 j hj (by omega)
    by_cases c3 : (b : Int) ≥ 65
    · rw [if_pos c3]
      by_cases c4 : (b : Int) ≤ 90
      · exact ⟨false, by rw [if_pos c4], fun h => by cases h⟩
      · rw [if_neg c4]
        exact next (by omega)
    · rw [if_neg c3]
      exact next (by omega)
theorem readable_f (s : ByteArray) (hs : s.size ≤ 2147483647) : ∃ r, PFnWriteBech32.laws_readable.f (s.size + 1) s = some r ∧ (r = true → Readable s) := by
  obtain ⟨r, h1, h2⟩ := readable_l s hs s.size (s.size + 1) 0 (by omega) (by omega)
  refine ⟨r, h1, fun h => ⟨(h2 h).1, fun b hb => ?_⟩⟩
  obtain ⟨j, hj, rfl⟩ := List.mem_iff_getElem.1 hb
  exact (h2 h).2 j hj (Nat.zero_le _)
theorem digits_l (l : List Int) (hs : l.length ≤ 2147483647) : ∀ (m k i : Nat), m + i = l.length → m < k → ∃ r, PFnWriteBech32.laws_digits.l0 k l (i : Int) = some r ∧ (r = true → ∀ j (hj : j < l.length), i ≤ j → l[j] < 32) ∧ (r = false → ¬ Small l)
  | m, 0, _, _, h => absurd h (by omega)
  | 0, k + 1, i, hm, hk => ⟨true, by rw [PFnWriteBech32.laws_digits.l0, if_neg (by omega)], fun _ j hj hij => by omega, fun h => by cases h⟩
  | m + 1, k + 1, i, hm, hk => by
    have hil : i < l.length := by omega
    have hb : rd l (i : Int) = l[i] := by simp [rd, hil]
    have hw : wrap64 ((i : Int) + 1) = ((i + 1 : Nat) : Int) := by rw [wrap64_id (by omega) (by omega)]; push_cast; rfl
    rw [PFnWriteBech32.laws_digits.l0, if_pos (by omega), if_pos (by omega), hb]
    by_cases c : l[i] ≥ 32
    · refine ⟨false, by rw [if_pos c], fun h => (by cases h), fun _ h => ?_⟩
      have := h l[i] (List.getElem_mem _)
      omega
    · rw [if_neg c]
      obtain ⟨r, h1, h2, h3⟩ := digits_l l hs m k (i + 1) (by omega) (by omega)
      refine ⟨r, by rw [hw]; exact h1, fun h j hj hij => ?_, h3⟩
      by_cases e : j = i
      · subst e; omega
      · exact h2 h j hj (by omega)
theorem digits_f (l : List Int) (hs : l.length ≤ 2147483647) : ∃ r, PFnWriteBech32.laws_digits.f (l.length + 1) l = some r ∧ (r = true → Small l) ∧ (r = false → ¬ Small l) := by
  obtain ⟨r, h1, h2, h3⟩ := digits_l l hs l.length (l.length + 1) 0 (by omega) (by omega)
  refine ⟨r, h1, fun h v hv => ?_, h3⟩
  obtain ⟨j, hj, rfl⟩ := List.mem_iff_getElem.1 hv
  exact h2 h j hj (Nat.zero_le _)
theorem cat_set (h : ByteArray) (d : List Nat) (i v : Nat) : (cat h d).data.toList.set (h.size + 1 + i) (chr v) = (cat h (d.set i v)).data.toList := by
  rw [cat_list, cat_list, List.set_append_right _ _ (by rw [← size_list]; omega), show h.size + 1 + i - h.data.toList.length = i + 1 by rw [← size_list]; omega, List.set_cons_succ, List.map_set]
/-- A row of bytes that may be written. -/
def Rw (g : Nat) (l : List UInt8) (w : World) : Prop := ∀ j : Nat, j < l.length → w.cell? ⟨g, j, none⟩ = some (.int .u8 ((l.getD j 0).toNat : Int)) ∧ w.frozen? ⟨g, j, none⟩ = false
theorem Rw.drew {g : Nat} {l : List UInt8} {w : World} (h : Rw g l w) : Rw g l w.drew := h
theorem Rw.put {g : Nat} {l : List UInt8} {w : World} (h : Rw g l w) (i : Nat) (hi : i < l.length) (c : UInt8) : Rw g (l.set i c) (w.setCell ⟨g, i, none⟩ (.int .u8 (c.toNat : Int))) := by
  intro j hj
  rw [List.length_set] at hj
  refine ⟨?_, by rw [World.frozen?_setCell]; exact (h j hj).2⟩
  by_cases e : j = i
  · subst e
    rw [World.cell?_setCell_same _ _ _ (h j hj).1]
    rw [List.getD_eq_getElem?_getD, List.getElem?_set_self hi]
    rfl
  · rw [World.cell?_setCell_other _ _ _ _ (by intro e2; cases e2; exact e rfl), (h j hj).1]
    rw [List.getD_eq_getElem?_getD, List.getD_eq_getElem?_getD, List.getElem?_set_ne (by omega)]
theorem Rw.conv (w : World) (s : ByteArray) : Rw w.heap.size s.data.toList (Lib.bytesWorld w 5 s) := by
  intro j hj
  rw [← size_list] at hj
  refine ⟨Lib.bytesWorld_cell w 5 s j hj, ?_⟩
  have hz : s.size ≤ (Lib.bytesCells w 5 s).size := by
    unfold Lib.bytesCells
    rw [Array.size_append, Array.size_map]
    exact Nat.le_add_right _ _
  unfold World.frozen?
  rw [Lib.bytesWorld_at_new]
  simp
  omega
end Go.Proofs.YtciocjaelmnhiaaDoor.Bp
