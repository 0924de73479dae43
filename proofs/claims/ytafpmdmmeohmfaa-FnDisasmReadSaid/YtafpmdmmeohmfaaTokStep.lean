/-
  The tokenizer's step, by the shape of what stands at its place.
-/
import Derived.Test.YtafpmdmmeohmfaaTokData1
import Derived.Test.YtafpmdmmeohmfaaTokData2
import Derived.Test.YtafpmdmmeohmfaaTokData4
namespace Go.Proofs.Ytafpmdmmeohmfaa.Tok
open Go.RowKit Go.Proofs.YtafpmdmmeohmfaaW.PrintWords Go.Proofs.YtafpmdmmeohmfaaW.PrintLast

theorem opLength_push {b : Int} (h1 : 1 ≤ b) (h2 : b < 76) : opLength b = b + 1 := by
  unfold opLength
  rw [if_neg (by omega), if_neg (by omega), if_neg (by omega), if_pos (by omega)]
theorem opLength_76 : opLength 76 = -1 := by decide
theorem opLength_77 : opLength 77 = -2 := by decide
theorem opLength_78 : opLength 78 = -4 := by decide
theorem opLength_plain {b : Int} (h : b ≤ 0 ∨ 78 < b) : opLength b = 1 := by
  unfold opLength
  rw [if_neg (by omega), if_neg (by omega), if_neg (by omega), if_neg (by omega)]

theorem leV_nat {l : List Int} (h : Bytes l) : leV l = ((leV l).toNat : Int) := (Int.toNat_of_nonneg (leV_nonneg h)).symm

theorem next_none (g : Nat) (A : Option Addr) (c : Nat) (l : List Int) (off : Nat) (pos : Int) (opv dv : Value) (w : World) (h : Tz w g A l.length c off pos opv dv .nilIface)
    (hn : l.length ≤ 2147483647) (ho : off < l.length) (P0 : Nat → Prop) (hs : Kd.V (Kd.int .u8) 5 w w.heap.size P0 (.slice A l.length c) l) (hP : ∀ k, P0 k → k ≠ g) (hb : Bytes l)
    (hsh : shape l off = none) :
    Calls Try.prog 35 #[.pointer (some ⟨g, 0, none⟩)] w fun e w' => e = .returned (.bool false) ∧ Only g w w' ∧
      ∃ pos' s, Tz w' g A l.length c (off : Int) pos' opv dv (.iface 77 (.agg #[.int .i64 27, .string s])) := by
  have hw : ∀ wd, shapeW l off wd = none → l.length - (off + 1) < wd ∨ (wd ≤ l.length - (off + 1) ∧ l.length - (off + 1) - wd < (leV ((l.drop (off + 1)).take wd)).toNat) := by
    intro wd h
    unfold shapeW at h
    split at h
    · rename_i h1
      split at h
      · cases h
      · exact .inr ⟨h1, by omega⟩
    · exact .inl (by omega)
  have hby := fun wd => leV_nat ((hb.drop (off + 1)).take wd)
  unfold shape at hsh
  split at hsh
  · rename_i h1
    split at hsh
    · cases hsh
    · exact next_push_bad g A c l off pos opv dv w h hn ho P0 hs hP hb _ rfl ((l.getD off 0).toNat + 1) (by rw [opLength_push h1.1 h1.2]; omega) (by omega) (by omega) (by omega)
  · split at hsh
    · rename_i h1
      rcases hw 1 hsh with h2 | ⟨h2, h3⟩
      · exact next_data1_badw g A c l off pos opv dv w h hn ho P0 hs hP hb _ rfl (by rw [h1, opLength_76]) h2
      · exact next_data1_badl g A c l off pos opv dv w h hn ho P0 hs hP hb _ rfl (by rw [h1, opLength_76]) h2 _ (hby 1) h3
    · split at hsh
      · rename_i h1
        rcases hw 2 hsh with h2 | ⟨h2, h3⟩
        · exact next_data2_badw g A c l off pos opv dv w h hn ho P0 hs hP hb _ rfl (by rw [h1, opLength_77]) h2
        · exact next_data2_badl g A c l off pos opv dv w h hn ho P0 hs hP hb _ rfl (by rw [h1, opLength_77]) h2 _ (hby 2) h3
      · split at hsh
        · rename_i h1
          rcases hw 4 hsh with h2 | ⟨h2, h3⟩
          · exact next_data4_badw g A c l off pos opv dv w h hn ho P0 hs hP hb _ rfl (by rw [h1, opLength_78]) h2
          · by_cases h4 : (leV ((l.drop (off + 1)).take 4)).toNat < 2147483648
            · exact next_data4_badl g A c l off pos opv dv w h hn ho P0 hs hP hb _ rfl (by rw [h1, opLength_78]) h2 _ (hby 4) h3 h4
            · exact next_data4_badn g A c l off pos opv dv w h hn ho P0 hs hP hb _ rfl (by rw [h1, opLength_78]) h2 _ (hby 4) (by omega)
        · cases hsh

theorem next_some (g : Nat) (A : Option Addr) (c : Nat) (l : List Int) (off : Nat) (pos : Int) (opv dv : Value) (w : World) (h : Tz w g A l.length c off pos opv dv .nilIface)
    (hn : l.length ≤ 2147483647) (ho : off < l.length) (P0 : Nat → Prop) (hs : Kd.V (Kd.int .u8) 5 w w.heap.size P0 (.slice A l.length c) l) (hP : ∀ k, P0 k → k ≠ g) (hb : Bytes l)
    (wd cnt : Nat) (hsh : shape l off = some (wd, cnt)) :
    Calls Try.prog 35 #[.pointer (some ⟨g, 0, none⟩)] w fun e w' => e = .returned (.bool true) ∧ Only g w w' ∧
      ∃ pos' go dv', Tz w' g A l.length c ((off + 1 + wd + cnt : Nat) : Int) pos' (.pointer (some ⟨go, 0, none⟩)) dv' .nilIface ∧ w.heap.size ≤ go ∧
        w'.heap[go]? = some (.cells #[.int .u8 (l.getD off 0), .string (opRow (l.getD off 0)).name, .int .i64 (opLength (l.getD off 0))] 88 (0, 0)) ∧
        Kd.V (Kd.int .u8) 5 w' w.heap.size P0 dv' ((l.drop (off + 1 + wd)).take cnt) := by
  have hw : ∀ n, shapeW l off n = some (wd, cnt) → n = wd ∧ n ≤ l.length - (off + 1) ∧ cnt = (leV ((l.drop (off + 1)).take n)).toNat ∧ cnt ≤ l.length - (off + 1) - n := by
    intro n h
    unfold shapeW at h
    split at h
    · rename_i h1
      split at h
      · rename_i h2
        injection h with h
        injection h with h3 h4
        exact ⟨h3, h1, h4.symm, by omega⟩
      · cases h
    · cases h
  have hby := fun n => leV_nat ((hb.drop (off + 1)).take n)
  unfold shape at hsh
  split at hsh
  · rename_i h1
    split at hsh
    · injection hsh with hsh
      injection hsh with h3 h4
      subst h3 h4
      exact next_push g A c l off pos opv dv w h hn ho P0 hs hP hb _ rfl ((l.getD off 0).toNat + 1) (by rw [opLength_push h1.1 h1.2]; omega) (by omega) (by omega) (by omega) _ rfl
    · cases hsh
  · rename_i h0
    split at hsh
    · rename_i h1
      obtain ⟨rfl, h2, h3, h4⟩ := hw 1 hsh
      exact next_data1 g A c l off pos opv dv w h hn ho P0 hs hP hb _ rfl (by rw [h1, opLength_76]) h2 _ (by rw [h3]; exact hby 1) h4
    · split at hsh
      · rename_i h1
        obtain ⟨rfl, h2, h3, h4⟩ := hw 2 hsh
        exact next_data2 g A c l off pos opv dv w h hn ho P0 hs hP hb _ rfl (by rw [h1, opLength_77]) h2 _ (by rw [h3]; exact hby 2) h4
      · split at hsh
        · rename_i h1
          obtain ⟨rfl, h2, h3, h4⟩ := hw 4 hsh
          exact next_data4 g A c l off pos opv dv w h hn ho P0 hs hP hb _ rfl (by rw [h1, opLength_78]) h2 _ (by rw [h3]; exact hby 4) h4
        · injection hsh with hsh
          injection hsh with h3 h4
          subst h3 h4
          exact next_plain g A c l off pos opv dv w h hn ho P0 hs hP hb _ rfl (opLength_plain (by omega))
end Go.Proofs.Ytafpmdmmeohmfaa.Tok
