/-
  What the reference says of a script's form by its bytes. No program stands in this text.
-/
import Derived.Test.YtafpmdmmeohmfaaClData
namespace Go.Proofs.Ytafpmdmmeohmfaa.PFnClass
open Go.RowKit Go.Proofs.YtafpmdmmeohmfaaW.PrintWords Go.Proofs.YtafpmdmmeohmfaaW.PrintLast Go.Proofs.YtafpmdmmeohmfaaW.PrintMore
open Tok (T Cut small smallV)
set_option linter.unusedVariables false
set_option linter.unusedSimpArgs false

/-! A key. -/
theorem keyForm_f (d : List Int) (k : Nat) (hk : 1 ≤ k) : ∃ r, spec_KeyForm.f k d = some r ∧ (0 < r ↔ (d.length = 33 ∧ (rd d 0 = 2 ∨ rd d 0 = 3)) ∨ (d.length = 65 ∧ rd d 0 = 4)) := by
  obtain ⟨k, rfl⟩ : ∃ k', k = k' + 1 := ⟨k - 1, by omega⟩
  have j : ∀ b : Bool, spec_KeyForm.j0 (k + 1) d b = if b = true then some 33 else if (d.length : Int) = 65 then if 0 < (d.length : Int) then if rd d 0 = 4 then some 65 else some 0 else none else some 0 := fun b => by rw [spec_KeyForm.j0]
  unfold spec_KeyForm.f
  by_cases h : (d.length : Int) = 33
  · rw [if_pos h, if_pos (by omega)]
    by_cases h2 : rd d 0 = 2
    · rw [if_pos h2, j, if_pos rfl]; exact ⟨33, rfl, ⟨fun _ => .inl ⟨by omega, .inl h2⟩, fun _ => by omega⟩⟩
    · rw [if_neg h2, j]
      by_cases h3 : rd d 0 = 3
      · rw [h3, if_pos (by decide)]; exact ⟨33, rfl, ⟨fun _ => .inl ⟨by omega, .inr rfl⟩, fun _ => by omega⟩⟩
      · rw [beq_eq_false_iff_ne.2 h3, if_neg (by decide), if_neg (by omega)]
        exact ⟨0, rfl, ⟨fun h => by omega, fun h => by omega⟩⟩
  · rw [if_neg h, j, if_neg (by decide)]
    by_cases h5 : (d.length : Int) = 65
    · rw [if_pos h5, if_pos (by omega)]
      by_cases h4 : rd d 0 = 4
      · rw [if_pos h4]; exact ⟨65, rfl, ⟨fun _ => .inr ⟨by omega, h4⟩, fun _ => by omega⟩⟩
      · rw [if_neg h4]; exact ⟨0, rfl, ⟨fun h => by omega, fun h => by omega⟩⟩
    · rw [if_neg h5]; exact ⟨0, rfl, ⟨fun h => by omega, fun h => by omega⟩⟩

def keyT (ts : List T) : Bool := match ts with
  | [a, b] => decide (a.op = a.data.length) && (decide ((a.data.length = 33 ∧ (rd a.data 0 = 2 ∨ rd a.data 0 = 3)) ∨ (a.data.length = 65 ∧ rd a.data 0 = 4)) && (b.op == 172))
  | _ => false
theorem key_f (l : List Int) (hb : Tok.Bytes l) (hl : l.length ≤ 100000) (k : Nat) (hk : 1 ≤ k) : spec_IsKey.f k l = some (decide ((Tok.tokens l).2 = -1) && keyT (Tok.tokens l).1) := by
  have hc := Tok.tokens_cut l
  have hr := hc.bad_range
  unfold spec_IsKey.f
  rw [show spec_Tokens.f k l = some ((Tok.tokens l).1.map toS, (Tok.tokens l).2) from if_pos ⟨hb, by omega⟩, Option.bind_some]
  simp only []
  generalize (Tok.tokens l).1 = ts at *
  generalize (Tok.tokens l).2 = b at *
  by_cases hb1 : b = -1
  · rw [if_pos (by omega), decide_eq_true hb1, Bool.true_and]
    match ts with
    | [] => rfl
    | [a] => rfl
    | [a, c] =>
      rw [if_pos (by simp), if_pos (by simp), show (rd_T27 ([a, c].map toS) 0).f0 = a.op from rfl, show (rd_T27 ([a, c].map toS) 0).f1 = a.data from rfl, show (rd_T27 ([a, c].map toS) 1).f0 = c.op from rfl]
      show _ = some (decide (a.op = a.data.length) && (decide ((a.data.length = 33 ∧ (rd a.data 0 = 2 ∨ rd a.data 0 = 3)) ∨ (a.data.length = 65 ∧ rd a.data 0 = 4)) && (c.op == 172)))
      by_cases h1 : a.op = (a.data.length : Int)
      · rw [if_pos h1, decide_eq_true h1, Bool.true_and]
        obtain ⟨r, e, hr⟩ := keyForm_f a.data k hk
        rw [e, Option.bind_some]
        by_cases h2 : r > 0
        · rw [if_pos h2, if_pos (by simp), decide_eq_true (hr.1 h2), Bool.true_and]
        · rw [if_neg h2, decide_eq_false (fun h => h2 (hr.2 h)), Bool.false_and]
      · rw [if_neg h1, decide_eq_false h1, Bool.false_and]
    | a :: c :: d :: r => rw [if_neg (by simp; omega)]; rfl
  · rw [if_neg (by omega), decide_eq_false hb1, Bool.false_and]

theorem rd_take (l : List Int) (n : Nat) (h : 1 ≤ n) : rd ((l.drop 1).take n) 0 = rd l 1 := by
  show ((l.drop 1).take n).getD 0 0 = l.getD 1 0
  rw [List.getD_eq_getElem?_getD, List.getElem?_take, if_pos (by omega), List.getElem?_drop, List.getD_eq_getElem?_getD]

/-- Such a script has these two tokens. -/
theorem key_cut (l : List Int) (n : Nat) (h1 : 1 ≤ n) (hn : n < 76) (h0 : l.getD 0 0 = n) (hl : l.length = n + 2) (hx : l.getD (n + 1) 0 = 172) : Cut l 0 [⟨n, (l.drop 1).take n, 0⟩, ⟨172, [], n + 1⟩] (-1) := by
  have s0 : Tok.shape l 0 = some (0, n) := by
    rw [Tok.shape_push (by rw [h0]; omega) (by rw [h0]; omega), if_pos (by rw [h0]; omega), h0]
    rfl
  have s1 : Tok.shape l (n + 1) = some (0, 0) := Tok.shape_plain (.inr (by omega))
  have c1 : Cut l (n + 1) [⟨172, [], n + 1⟩] (-1) := by
    have := Cut.step (l := l) (at_ := n + 1) (by omega) s1 (.done (by omega))
    rw [hx, List.take_zero] at this
    exact this
  have := Cut.step (l := l) (at_ := 0) (by omega) s0 (by rw [show 0 + 1 + 0 + n = n + 1 by omega]; exact c1)
  rw [h0] at this
  exact this

theorem key_eq (l : List Int) (hb : Tok.Bytes l) (hy : hyb (Tok.tokens l).1 = false) : (decide ((Tok.tokens l).2 = -1) && keyT (Tok.tokens l).1) = Forms.isKeyP l := by
  have q0 : rd l 0 = l.getD 0 0 := rfl
  have q34 : rd l 34 = l.getD 34 0 := rfl
  have q66 : rd l 66 = l.getD 66 0 := rfl
  rw [Bool.eq_iff_iff]
  constructor
  · intro h
    rw [Bool.and_eq_true, decide_eq_true_eq] at h
    obtain ⟨hb1, hk⟩ := h
    have hc := Tok.tokens_cut l
    rw [hb1] at hc
    generalize (Tok.tokens l).1 = ts at hc hk
    match ts, hk, hc with
    | [a, c], hk, hc =>
      simp only [keyT, Bool.and_eq_true, decide_eq_true_eq, beq_iff_eq] at hk
      obtain ⟨hop, hk, hx⟩ := hk
      cases hc with
      | @step _ wd cnt _ _ h1 h2 h3 =>
        have hf := Tok.shape_fits h2
        have hop' : l.getD 0 0 = (((l.drop (0 + 1 + wd)).take cnt).length : Int) := hop
        have hcl : ((l.drop (0 + 1 + wd)).take cnt).length = cnt := by rw [List.length_take, List.length_drop]; omega
        have hk' : (((l.drop (0 + 1 + wd)).take cnt).length = 33 ∧ (rd ((l.drop (0 + 1 + wd)).take cnt) 0 = 2 ∨ rd ((l.drop (0 + 1 + wd)).take cnt) 0 = 3)) ∨ (((l.drop (0 + 1 + wd)).take cnt).length = 65 ∧ rd ((l.drop (0 + 1 + wd)).take cnt) 0 = 4) := hk
        rw [hcl] at hop' hk'
        have hs : wd = 0 := by
          rw [Tok.shape_push (by omega) (by omega)] at h2
          split at h2
          · injection h2 with h2; injection h2 with h2 _; exact h2.symm
          · cases h2
        subst hs
        rw [show 0 + 1 + 0 = 1 from rfl, rd_take l cnt (by omega)] at hk'
        cases h3 with
        | @step _ wd2 cnt2 _ _ h4 h5 h6 =>
          have hx' : l.getD (0 + 1 + 0 + cnt) 0 = 172 := hx
          rw [Tok.shape_plain (.inr (by omega))] at h5
          injection h5 with h5
          injection h5 with h5a h5b
          subst h5a h5b
          cases h6 with
          | done h7 =>
            have hL : l.length = cnt + 2 := by omega
            rw [show 0 + 1 + 0 + cnt = cnt + 1 by omega] at hx'
            rw [Forms.isKeyP, Forms.keyC, Forms.keyU, q0, q34, q66]
            rcases hk' with ⟨rfl, hk'⟩ | ⟨rfl, hk'⟩
            · rw [decide_eq_true (show l.length = 35 by omega), hop', hx']
              rcases hk' with hk' | hk' <;> rw [hk'] <;> rfl
            · rw [decide_eq_true (show l.length = 67 by omega), hop', hx', hk']
              simp
  · intro h
    rw [Forms.isKeyP, Forms.keyC, Forms.keyU, q0, q34, q66] at h
    simp only [Bool.or_eq_true, Bool.and_eq_true, decide_eq_true_eq, beq_iff_eq] at h
    rcases h with ⟨⟨⟨hL, hx⟩, h0⟩, h1⟩ | ⟨⟨⟨hL, hx⟩, h0⟩, h1⟩
    · rw [Tok.cut_tokens (key_cut l 33 (by omega) (by omega) h0 hL hx)]
      have hcl : ((l.drop 1).take 33).length = 33 := by rw [List.length_take, List.length_drop]; omega
      simp only [keyT, hcl, rd_take l 33 (by omega)]
      rcases h1 with h1 | h1 <;> rw [h1] <;> rfl
    · have ht := Tok.cut_tokens (key_cut l 65 (by omega) (by omega) h0 hL hx)
      rw [ht] at hy ⊢
      have hcl : ((l.drop 1).take 65).length = 65 := by rw [List.length_take, List.length_drop]; omega
      simp only [hyb, List.any_cons, hcl, rd_take l 65 (by omega)] at hy
      simp only [keyT, hcl, rd_take l 65 (by omega)]
      rcases h1 with (h1 | h1) | h1
      · rw [h1]; rfl
      · rw [h1] at hy; simp at hy
      · rw [h1] at hy; simp at hy

/-! Forms by patterns. -/
theorem pattern_l0 (back : List Int) (n : Nat) : ∀ (m i k : Nat) (acc : List Int), m + i = n → m < k → n ≤ 100 → acc.length + m ≤ 1000 → back.length ≤ 1000 → spec_pattern.l0 k back acc n i = some (acc ++ List.replicate m (-1) ++ back)
  | 0, i, k + 1, acc, h, hk, hn, ha, hb => by
    rw [spec_pattern.l0, if_neg (by omega), if_pos (by omega), List.replicate_zero, List.append_nil]
  | m + 1, i, k + 1, acc, h, hk, hn, ha, hb => by
    rw [spec_pattern.l0, if_pos (by omega), if_pos (by omega), w64 (by omega) (by omega)]
    have := pattern_l0 back n m (i + 1) k (acc ++ [-1]) (by omega) (by omega) hn (by rw [List.length_append]; simp; omega) hb
    rw [show ((i + 1 : Nat) : Int) = (i : Int) + 1 from rfl] at this
    rw [this, List.replicate_succ, List.append_assoc acc]
    rfl
theorem pattern_f (front back : List Int) (n k : Nat) (hk : 100010 ≤ k) (hn : n ≤ 100) (hf : front.length ≤ 100) (hb : back.length ≤ 1000) : spec_pattern.f k front n back = some (front ++ List.replicate n (-1) ++ back) := by
  unfold spec_pattern.f
  rw [Option.bind_some, if_pos (by simp; omega), List.nil_append]
  exact pattern_l0 back n n 0 k front (by omega) (by omega) hn (by omega) hb
def Fits (l p : List Int) (i : Nat) : Prop := ∀ j, i ≤ j → j < p.length → (rd p j < 0 ∨ rd p j = rd l j)
theorem like_l0 (l p : List Int) (hb : Tok.Bytes l) (hl : l.length = p.length) (hp : p.length ≤ 1000) : ∀ (m i k : Nat), m + i = p.length → m < k → ∃ r, spec_like.l0 k l p i = some r ∧ (r = true ↔ Fits l p i)
  | 0, i, k + 1, h, hk => by
    rw [spec_like.l0, if_neg (by omega)]
    exact ⟨true, rfl, ⟨fun _ j h1 h2 => by omega, fun _ => rfl⟩⟩
  | m + 1, i, k + 1, h, hk => by
    obtain ⟨r, e, hr⟩ := like_l0 l p hb hl hp m (i + 1) k (by omega) (by omega)
    rw [show ((i + 1 : Nat) : Int) = (i : Int) + 1 from rfl] at e
    have hby := hb.getD i
    have hrd : rd l (i : Int) = l.getD i 0 := rfl
    have st : Fits l p i ↔ (rd p i < 0 ∨ rd p i = rd l i) ∧ Fits l p (i + 1) := by
      constructor
      · intro f
        exact ⟨f i (Nat.le_refl _) (by omega), fun j h1 h2 => f j (by omega) h2⟩
      · rintro ⟨f, g⟩ j h1 h2
        by_cases hj : j = i
        · subst hj; exact f
        · exact g j (by omega) h2
    rw [spec_like.l0, if_pos (by omega), if_pos (by omega), w64 (x := (i : Int) + 1) (by omega) (by omega), w64 (x := rd l i) (by omega) (by omega), st]
    by_cases h1 : rd p i ≥ 0
    · rw [if_pos h1, if_pos (by omega)]
      by_cases h2 : rd p i = rd l i
      · rw [if_pos h2]; exact ⟨r, e, by rw [hr]; exact ⟨fun f => ⟨.inr h2, f⟩, fun f => f.2⟩⟩
      · rw [if_neg h2]; exact ⟨false, rfl, ⟨(fun h => by cases h), fun h => by omega⟩⟩
    · rw [if_neg h1]; exact ⟨r, e, by rw [hr]; exact ⟨fun f => ⟨.inl (by omega), f⟩, fun f => f.2⟩⟩
theorem like_f (l p : List Int) (hb : Tok.Bytes l) (hp : p.length ≤ 1000) (k : Nat) (hk : 100010 ≤ k) : ∃ r, spec_like.f k l p = some r ∧ (r = true ↔ l.length = p.length ∧ Fits l p 0) := by
  unfold spec_like.f
  by_cases h : (l.length : Int) = (p.length : Int)
  · rw [if_pos h]
    obtain ⟨r, e, hr⟩ := like_l0 l p hb (by omega) hp p.length 0 k (by omega) (by omega)
    exact ⟨r, e, by rw [hr]; exact ⟨fun f => ⟨by omega, f⟩, fun f => f.2⟩⟩
  · rw [if_neg h]
    exact ⟨false, rfl, ⟨(fun h => by cases h), fun h' => by omega⟩⟩
theorem rd_front (f b : List Int) (n j : Nat) (h : j < f.length) : rd (f ++ List.replicate n (-1) ++ b) j = f.getD j 0 := by
  show (f ++ List.replicate n (-1) ++ b).getD j 0 = _
  rw [List.append_assoc, List.getD_eq_getElem?_getD, List.getElem?_append_left h, List.getD_eq_getElem?_getD]
theorem rd_mid (f b : List Int) (n j : Nat) (h : f.length ≤ j) (h2 : j < f.length + n) : rd (f ++ List.replicate n (-1) ++ b) j = -1 := by
  show (f ++ List.replicate n (-1) ++ b).getD j 0 = _
  rw [List.append_assoc, List.getD_eq_getElem?_getD, List.getElem?_append_right h, List.getElem?_append_left (by rw [List.length_replicate]; omega), List.getElem?_replicate, if_pos (by omega)]
  rfl
theorem rd_back (f b : List Int) (n j : Nat) (h : f.length + n ≤ j) : rd (f ++ List.replicate n (-1) ++ b) j = b.getD (j - (f.length + n)) 0 := by
  show (f ++ List.replicate n (-1) ++ b).getD j 0 = _
  rw [List.getD_eq_getElem?_getD, List.getElem?_append_right (by rw [List.length_append, List.length_replicate]; exact h), List.getD_eq_getElem?_getD, List.length_append, List.length_replicate]
theorem fits_iff (l f b : List Int) (n : Nat) : Fits l (f ++ List.replicate n (-1) ++ b) 0 ↔ (∀ j, j < f.length → (f.getD j 0 < 0 ∨ f.getD j 0 = rd l j)) ∧ (∀ j, j < b.length → (b.getD j 0 < 0 ∨ b.getD j 0 = rd l ((f.length + n + j : Nat) : Int))) := by
  constructor
  · intro h
    refine ⟨fun j hj => ?_, fun j hj => ?_⟩
    · have := h j (Nat.zero_le _) (by simp only [List.length_append]; omega)
      rwa [rd_front f b n j hj] at this
    · have := h (f.length + n + j) (Nat.zero_le _) (by simp only [List.length_append, List.length_replicate]; omega)
      rwa [rd_back f b n _ (by omega), show f.length + n + j - (f.length + n) = j by omega] at this
  · rintro ⟨h1, h2⟩ j _ hj
    simp only [List.length_append, List.length_replicate] at hj
    by_cases c1 : j < f.length
    · rw [rd_front f b n j c1]; exact h1 j c1
    · by_cases c2 : j < f.length + n
      · rw [rd_mid f b n j (by omega) c2]; exact .inl (by omega)
      · rw [rd_back f b n j (by omega)]
        have := h2 (j - (f.length + n)) (by omega)
        rwa [show f.length + n + (j - (f.length + n)) = j by omega] at this
theorem two_iff (l : List Int) (a b : Int) (ha : 0 ≤ a) (hb : 0 ≤ b) (n : Nat) : Fits l ([a, b] ++ List.replicate n (-1) ++ []) 0 ↔ rd l 0 = a ∧ rd l 1 = b := by
  rw [fits_iff]
  constructor
  · rintro ⟨h, -⟩
    have h0 := h 0 (by simp)
    have h1 := h 1 (by simp)
    simp at h0 h1
    exact ⟨by omega, by omega⟩
  · rintro ⟨rfl, rfl⟩
    refine ⟨fun j hj => ?_, fun j hj => by simp at hj⟩
    match j, hj with
    | 0, _ => exact .inr rfl
    | 1, _ => exact .inr rfl
theorem two_f (l : List Int) (hb : Tok.Bytes l) (a b : Int) (h0 : 0 ≤ a) (h1 : 0 ≤ b) (n k : Nat) (hk : 100010 ≤ k) (hn : n ≤ 100) : ((spec_pattern.f k [a, b] n []).bind fun t => (spec_like.f k l t).bind fun t2 => some t2) = some (decide (l.length = n + 2 ∧ rd l 0 = a ∧ rd l 1 = b)) := by
  rw [pattern_f [a, b] [] n k hk hn (by simp) (by simp), Option.bind_some]
  obtain ⟨r, e, hr⟩ := like_f l ([a, b] ++ List.replicate n (-1) ++ []) hb (by simp; omega) k hk
  rw [e, Option.bind_some]
  congr 1
  rw [Bool.eq_iff_iff, hr, decide_eq_true_eq, two_iff l a b h0 h1]
  simp
theorem wkh_f (l : List Int) (hb : Tok.Bytes l) (k : Nat) (hk : 100010 ≤ k) : spec_IsWitnessKeyHash.f k l = some (Forms.isIsWitnessPubKeyHash l) := two_f l hb 0 20 (by omega) (by omega) 20 k hk (by omega)
theorem wsh_f (l : List Int) (hb : Tok.Bytes l) (k : Nat) (hk : 100010 ≤ k) : spec_IsWitnessScriptHash.f k l = some (Forms.isIsWitnessScriptHash l) := two_f l hb 0 32 (by omega) (by omega) 32 k hk (by omega)
theorem tap_f (l : List Int) (hb : Tok.Bytes l) (k : Nat) (hk : 100010 ≤ k) : spec_IsTaproot.f k l = some (Forms.isIsTaproot l) := two_f l hb 81 32 (by omega) (by omega) 32 k hk (by omega)
theorem kh_f (l : List Int) (hb : Tok.Bytes l) (k : Nat) (hk : 100010 ≤ k) : spec_IsKeyHash.f k l = some (Forms.isIsPubKeyHash l) := by
  unfold spec_IsKeyHash.f
  have e1 := pattern_f [118, 169, 20] [136, 172] 20 k hk (by omega) (by simp) (by simp)
  rw [show ((20 : Nat) : Int) = 20 from rfl] at e1
  rw [e1, Option.bind_some]
  obtain ⟨r, e, hr⟩ := like_f l ([118, 169, 20] ++ List.replicate 20 (-1) ++ [136, 172]) hb (by simp) k hk
  rw [e, Option.bind_some]
  congr 1
  rw [Bool.eq_iff_iff, hr, Forms.isIsPubKeyHash, decide_eq_true_eq, fits_iff]
  constructor
  · rintro ⟨h, h1, h2⟩
    have a0 := h1 0 (by simp)
    have a1 := h1 1 (by simp)
    have a2 := h1 2 (by simp)
    have b0 := h2 0 (by simp)
    have b1 := h2 1 (by simp)
    simp at h a0 a1 a2 b0 b1
    exact ⟨h, by omega, by omega, by omega, by omega, by omega⟩
  · rintro ⟨h, a0, a1, a2, b0, b1⟩
    refine ⟨by simpa using h, fun j hj => ?_, fun j hj => ?_⟩
    · match j, hj with
      | 0, _ => exact .inr a0.symm
      | 1, _ => exact .inr a1.symm
      | 2, _ => exact .inr a2.symm
    · match j, hj with
      | 0, _ => exact .inr b0.symm
      | 1, _ => exact .inr b1.symm
theorem anchor_f (l : List Int) (hb : Tok.Bytes l) (k : Nat) (hk : 100010 ≤ k) : spec_IsAnchor.f k l = some (Forms.isAnchorP l) := by
  unfold spec_IsAnchor.f
  obtain ⟨r, e, hr⟩ := like_f l [81, 2, 78, 115] hb (by simp) k hk
  rw [e, Option.bind_some]
  congr 1
  rw [Bool.eq_iff_iff, hr, Forms.isAnchorP, decide_eq_true_eq]
  constructor
  · rintro ⟨h, f⟩
    have a0 := f 0 (by simp) (by simp)
    have a1 := f 1 (by simp) (by simp)
    have a2 := f 2 (by simp) (by simp)
    have a3 := f 3 (by simp) (by simp)
    match l, h with
    | [x0, x1, x2, x3], _ =>
      have c0 : (81 : Int) < 0 ∨ 81 = x0 := a0
      have c1 : (2 : Int) < 0 ∨ 2 = x1 := a1
      have c2 : (78 : Int) < 0 ∨ 78 = x2 := a2
      have c3 : (115 : Int) < 0 ∨ 115 = x3 := a3
      rw [show x0 = 81 by omega, show x1 = 2 by omega, show x2 = 78 by omega, show x3 = 115 by omega]
  · rintro rfl
    exact ⟨rfl, fun j _ _ => .inr rfl⟩
theorem pays_f (l : List Int) : spec_PaysScript.f l = some (Forms.isIsScriptHash l) := by
  unfold spec_PaysScript.f Forms.isIsScriptHash
  by_cases h : (l.length : Int) = 23
  · rw [if_pos h, if_pos (by omega)]
    by_cases h1 : rd l 0 = 169
    · rw [if_pos h1, if_pos (by omega)]
      by_cases h2 : rd l 1 = 20
      · rw [if_pos h2, if_pos (by omega)]
        by_cases h3 : rd l 22 = 135
        · rw [beq_iff_eq.2 h3, decide_eq_true]
          exact ⟨by omega, h1, h2, h3⟩
        · rw [beq_eq_false_iff_ne.2 h3, decide_eq_false]
          exact fun hh => h3 hh.2.2.2
      · rw [if_neg h2, decide_eq_false]
        exact fun hh => h2 hh.2.2.1
    · rw [if_neg h1, decide_eq_false]
      exact fun hh => h1 hh.2.1
  · rw [if_neg h, decide_eq_false]
    exact fun hh => h (by omega)

/-! The class. -/
def typS (b1 b2 b3 b4 b5 b6 b7 b8 b9 p : Bool) : Int := if b1 then 1 else if b2 then 2 else if b4 then 3 else if b3 then 4 else if b5 then 5 else if b6 then 6 else if b7 then 7 else if b9 then 8 else if b8 then 9 else if p then 10 else 0
theorem typ_eq : ∀ b1 b2 b3 b4 b5 b6 b7 b8 b9 p : Bool, (b3 && b4) = false → (b8 && b9) = false → typS b1 b2 b3 b4 b5 b6 b7 b8 b9 p ≠ 10 →
    (if Forms.typ0 b1 b2 b3 b4 b5 b6 b7 = 0 then Forms.typ1 b8 b9 else Forms.typ0 b1 b2 b3 b4 b5 b6 b7) = typS b1 b2 b3 b4 b5 b6 b7 b8 b9 p := by decide +kernel
theorem ite_some (c : Bool) (a b : Int) : (if c = true then some a else some b) = some (if c = true then a else b) := by cases c <;> rfl
set_option maxHeartbeats 1000000 in
theorem class_f (l : List Int) (hb : Tok.Bytes l) (hl : l.length ≤ 100000) (k : Nat) (hk : 100010 ≤ k) : ∃ h r, laws_hybrid.f k l = some h ∧ laws_class.f k l = some r ∧ (h = false → r ≠ 10 → Forms.classI l = r) := by
  have hc := Tok.tokens_cut l
  have hlen := hc.len2
  have hh : laws_hybrid.f k l = some (hyb (Tok.tokens l).1) := by
    unfold laws_hybrid.f
    rw [show spec_Tokens.f k l = some ((Tok.tokens l).1.map toS, (Tok.tokens l).2) from if_pos ⟨hb, by omega⟩, Option.bind_some]
    exact hybrid_l0 _ (by omega) _ 0 k rfl (Nat.zero_le _) (by omega)
  obtain ⟨ma, mb, hm⟩ := many_f l hb hl k hk
  obtain ⟨da, hd⟩ := data_f l hb hl k hk
  obtain ⟨pa, pb, p, hp⟩ := program_f l hb hl k
  have hkey := key_f l hb hl k (by omega)
  refine ⟨_, typS (decide ((Tok.tokens l).2 = -1) && keyT (Tok.tokens l).1) (Forms.isIsPubKeyHash l) (Forms.isIsScriptHash l) (Forms.isIsWitnessPubKeyHash l) (Forms.isIsWitnessScriptHash l) (Tok.multiP l) (Tok.nullP l) (Forms.isAnchorP l) (Forms.isIsTaproot l) p, hh, ?_, ?_⟩
  · unfold laws_class.f typS
    rw [hm, Option.bind_some, hd, Option.bind_some, hp, Option.bind_some, hkey, Option.bind_some]
    repeat' first
      | rw [kh_f l hb k hk, Option.bind_some]
      | rw [wkh_f l hb k hk, Option.bind_some]
      | rw [pays_f l, Option.bind_some]
      | rw [wsh_f l hb k hk, Option.bind_some]
      | rw [tap_f l hb k hk, Option.bind_some]
      | rw [anchor_f l hb k hk, Option.bind_some]
    generalize (decide ((Tok.tokens l).2 = -1) && keyT (Tok.tokens l).1) = b1
    generalize Forms.isIsPubKeyHash l = b2
    generalize Forms.isIsScriptHash l = b3
    generalize Forms.isIsWitnessPubKeyHash l = b4
    generalize Forms.isIsWitnessScriptHash l = b5
    generalize Tok.multiP l = b6
    generalize Tok.nullP l = b7
    generalize Forms.isAnchorP l = b8
    generalize Forms.isIsTaproot l = b9
    simp only [ite_some]
  · intro h0 h10
    rw [key_eq l hb h0] at h10 ⊢
    exact typ_eq _ _ _ _ _ _ _ _ _ p (by unfold Forms.isIsScriptHash Forms.isIsWitnessPubKeyHash; rw [← Bool.decide_and, decide_eq_false]; omega) (by unfold Forms.isAnchorP Forms.isIsTaproot; rw [← Bool.decide_and, decide_eq_false]; rintro ⟨rfl, h, -⟩; simp at h) h10
end Go.Proofs.Ytafpmdmmeohmfaa.PFnClass
