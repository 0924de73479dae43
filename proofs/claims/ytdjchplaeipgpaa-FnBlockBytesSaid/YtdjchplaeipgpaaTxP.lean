/-
  What spec writes: numbers, bytes, outputs, witnesses. No walk stands in this text.
-/
import Derived.Test.YtdjchplaeipgpaaTxE
namespace Go.Proofs.Ytdjchplaeipgpaa.Wire
open Go.RowKit Go.Proofs.YtdjchplaeipgpaaW.PrintWords Go.Proofs.YtdjchplaeipgpaaW.PrintLast Go.Proofs.Ytdjchplaeipgpaa.Tx
set_option linter.unusedSimpArgs false
set_option linter.unusedVariables false
set_option maxRecDepth 100000

theorem u64_id {x : Int} (h0 : 0 ≤ x) (h1 : x < 18446744073709551616) : IntKind.u64.wrap x = x := by unfold IntKind.wrap; simp [IntKind.bits, IntKind.signed]; omega
theorem u64_mod (x : Int) : IntKind.u64.wrap x = x % 18446744073709551616 := by unfold IntKind.wrap; simp [IntKind.bits, IntKind.signed]
theorem u32_mod (x : Int) : IntKind.u32.wrap x = x % 4294967296 := by unfold IntKind.wrap; simp [IntKind.bits, IntKind.signed]
theorem little_loop (n : Nat) (hn : n ≤ 100) (d : Nat) : ∀ (i k : Nat) (x : Int) (acc : List Int), i + d = n → d + 1 ≤ k → 0 ≤ x → x < 18446744073709551616 → acc.length = i → PFnBlockBytes.spec_little.l0 k x acc (n : Int) (i : Int) = some (acc ++ le d x) := by
  induction d with
  | zero =>
    intro i k x acc h hk h0 h1 ha
    obtain ⟨k, rfl⟩ : ∃ k', k = k' + 1 := ⟨k - 1, by omega⟩
    rw [PFnBlockBytes.spec_little.l0, if_neg (show ¬ (i : Int) < n by omega), le, List.append_nil]
  | succ d ih =>
    intro i k x acc h hk h0 h1 ha
    obtain ⟨k, rfl⟩ : ∃ k', k = k' + 1 := ⟨k - 1, by omega⟩
    have c1 : (i : Int) < n := by omega
    have c2 : acc.length < 140737488355328 := by omega
    have this := ih (i + 1) k (x / 256) (acc ++ [x % 256]) (by omega) (by omega) (by omega) (by omega) (by simp [ha])
    have hw : wrap64 ((i : Int) + 1) = ((i + 1 : Nat) : Int) := by rw [wrap64_id (by omega) (by omega)]; omega
    have e2 : Int.tmod x 256 % 256 = x % 256 := by clear hw; rw [Int.tmod_eq_emod_of_nonneg h0]; omega
    have e1 : IntKind.u64.wrap (Int.tdiv x 256) = x / 256 := by
      clear hw
      rw [Int.tdiv_eq_ediv_of_nonneg h0, u64_id (by omega) (by omega)]
    rw [PFnBlockBytes.spec_little.l0]
    rw [if_pos c1]
    rw [if_pos c2]
    rw [e1, e2, hw, this, le, List.append_assoc]
    rfl
theorem little_eq (n k : Nat) (hn : n ≤ 100) (hk : n + 1 ≤ k) (x : Int) (h0 : 0 ≤ x) (h1 : x < 18446744073709551616) : PFnBlockBytes.spec_little.f k x (n : Int) = some (le n x) := by
  have := little_loop n hn n 0 k x [] (by omega) hk h0 h1 rfl
  simpa [PFnBlockBytes.spec_little.f] using this
theorem varint_eq (k : Nat) (hk : 9 ≤ k) (x : Int) (h0 : 0 ≤ x) (h1 : x < 18446744073709551616) : PFnBlockBytes.spec_VarInt.f k x = some (vi x) := by
  have l2 := little_eq 2 k (by omega) (by omega) x h0 h1
  have l4 := little_eq 4 k (by omega) (by omega) x h0 h1
  have l8 := little_eq 8 k (by omega) (by omega) x h0 h1
  unfold PFnBlockBytes.spec_VarInt.f vi
  by_cases c1 : x < 253
  · rw [if_pos c1, if_pos c1, show x % 256 = x by omega]
  · rw [if_neg c1, if_neg c1]
    by_cases c2 : x < 65536
    · rw [if_pos c2, if_pos (show x ≤ 65535 by omega)]
      rw [show ((2 : Nat) : Int) = 2 from rfl] at l2
      rw [l2]
      show (if (([253] : List Int)).length + (le 2 x).length < 140737488355328 then some ([253] ++ le 2 x) else none) = _
      rw [if_pos (by rw [le_len]; decide)]; rfl
    · rw [if_neg c2, if_neg (show ¬ x ≤ 65535 by omega)]
      by_cases c3 : x < 4294967296
      · rw [if_pos c3, if_pos (show x ≤ 4294967295 by omega)]
        rw [show ((4 : Nat) : Int) = 4 from rfl] at l4
        rw [l4]
        show (if (([254] : List Int)).length + (le 4 x).length < 140737488355328 then some ([254] ++ le 4 x) else none) = _
        rw [if_pos (by rw [le_len]; decide)]; rfl
      · rw [if_neg c3, if_neg (show ¬ x ≤ 4294967295 by omega)]
        rw [show ((8 : Nat) : Int) = 8 from rfl] at l8
        rw [l8]
        show (if (([255] : List Int)).length + (le 8 x).length < 140737488355328 then some ([255] ++ le 8 x) else none) = _
        rw [if_pos (by rw [le_len]; decide)]; rfl
theorem varbytes_eq (k : Nat) (hk : 9 ≤ k) (l : List Int) (hl : l.length + 16 ≤ 140737488355328) : PFnBlockBytes.spec_VarBytes.f k l = some (vb l) := by
  have hv := vi_len l.length
  unfold PFnBlockBytes.spec_VarBytes.f vb
  rw [u64_id (by omega) (by omega), varint_eq k hk _ (by omega) (by omega)]
  show (if (vi l.length).length + l.length < 140737488355328 then some (vi l.length ++ l) else none) = _
  rw [if_pos (by omega)]
theorem outbytes_eq (k : Nat) (hk : 9 ≤ k) (y : PFnBlockBytes.S54) (hl : y.f1.length + 64 ≤ 140737488355328) : PFnBlockBytes.spec_outBytes.f k y.f0 y.f1 = some (outB y) := by
  have hv := vb_len y.f1
  have l8 := little_eq 8 k (by omega) (by omega) (y.f0 % 18446744073709551616) (by omega) (by omega)
  rw [show ((8 : Nat) : Int) = 8 from rfl] at l8
  unfold PFnBlockBytes.spec_outBytes.f outB
  rw [u64_mod, l8]
  show ((PFnBlockBytes.spec_VarBytes.f k y.f1).bind fun t => if (le 8 (y.f0 % 18446744073709551616)).length + t.length < 140737488355328 then some (le 8 (y.f0 % 18446744073709551616) ++ t) else none) = _
  rw [varbytes_eq k hk _ (by omega)]
  show (if (le 8 (y.f0 % 18446744073709551616)).length + (vb y.f1).length < 140737488355328 then some (le 8 (y.f0 % 18446744073709551616) ++ vb y.f1) else none) = _
  rw [if_pos (by rw [le_len]; omega)]
theorem wit_loop (ws : List (List Int)) (a0 : List Int) (hl : a0.length + (ws.map vb).flatten.length + 64 ≤ 140737488355328) (hn : ws.length ≤ 2147483647) : ∀ (d i k : Nat), i + d = ws.length → d + 10 ≤ k → PFnBlockBytes.spec_witnessBytes.l0 k ws (a0 ++ ((ws.take i).map vb).flatten) (i : Int) = some (a0 ++ (ws.map vb).flatten)
  | 0, i, k, h, hk => by
    obtain ⟨k, rfl⟩ : ∃ k', k = k' + 1 := ⟨k - 1, by omega⟩
    rw [PFnBlockBytes.spec_witnessBytes.l0, if_neg (by omega), List.take_of_length_le (by omega)]
  | d + 1, i, k, h, hk => by
    obtain ⟨k, rfl⟩ : ∃ k', k = k' + 1 := ⟨k - 1, by omega⟩
    have hi : i < ws.length := by omega
    have hw : wrap64 ((i : Int) + 1) = ((i + 1 : Nat) : Int) := by rw [wrap64_id (by omega) (by omega)]; omega
    have htf := take_flat vb ws ([] : List Int) i hi
    have htl := take_len vb ws ([] : List Int) i hi
    have hr : PFnBlockBytes.rd_L1 ws (i : Int) = ws.getD i [] := by simp [PFnBlockBytes.rd_L1]
    obtain ⟨u, hu⟩ : ∃ u, ws.getD i [] = u := ⟨_, rfl⟩
    rw [hu] at htf htl hr
    have hvl : (vb u).length = (vi u.length).length + u.length := by rw [vb, List.length_append]
    rw [PFnBlockBytes.spec_witnessBytes.l0, if_pos (by omega), if_pos (by omega), hr, varbytes_eq k (by omega) u (by omega)]
    show (if (a0 ++ ((ws.take i).map vb).flatten).length + (vb u).length < 140737488355328 then PFnBlockBytes.spec_witnessBytes.l0 k ws ((a0 ++ ((ws.take i).map vb).flatten) ++ vb u) (wrap64 ((i : Int) + 1)) else none) = _
    rw [if_pos (by rw [List.length_append]; omega), hw, List.append_assoc, ← htf, wit_loop ws a0 hl hn d (i + 1) k (by omega) (by omega)]
theorem witbytes_eq (k : Nat) (ws : List (List Int)) (hk : ws.length + 10 ≤ k) (hl : (witB ws).length + 64 ≤ 140737488355328) (hn : ws.length ≤ 2147483647) : PFnBlockBytes.spec_witnessBytes.f k ws = some (witB ws) := by
  have hv := vi_len ws.length
  have hwl : (witB ws).length = (vi ws.length).length + ((ws.map vb).flatten).length := by rw [witB, List.length_append]
  unfold PFnBlockBytes.spec_witnessBytes.f
  rw [u64_id (by omega) (by omega), varint_eq k (by omega) _ (by omega) (by omega)]
  have := wit_loop ws (vi ws.length) (by omega) hn ws.length 0 k (by omega) hk
  simpa [witB] using this
/-- Rows of numbers are the same, as laws.same finds. -/
theorem same_loop (a : List Int) (ha : a.length ≤ 9223372036854775806) : ∀ (d i k : Nat), i + d = a.length → d + 1 ≤ k → PFnBlockBytes.laws_same.l0 k a a (i : Int) = some true
  | 0, i, k, h, hk => by
    obtain ⟨k, rfl⟩ : ∃ k', k = k' + 1 := ⟨k - 1, by omega⟩
    rw [PFnBlockBytes.laws_same.l0, if_neg (by omega)]
  | d + 1, i, k, h, hk => by
    obtain ⟨k, rfl⟩ : ∃ k', k = k' + 1 := ⟨k - 1, by omega⟩
    have hw : wrap64 ((i : Int) + 1) = ((i + 1 : Nat) : Int) := by rw [wrap64_id (by omega) (by omega)]; omega
    rw [PFnBlockBytes.laws_same.l0, if_pos (by omega), if_pos (by omega), if_pos (by omega), if_pos rfl, hw, same_loop a ha d (i + 1) k (by omega) (by omega)]
theorem same_eq (a : List Int) (ha : a.length ≤ 9223372036854775806) : PFnBlockBytes.laws_same.f (a.length + 1) a a = some true := by
  unfold PFnBlockBytes.laws_same.f
  rw [if_pos rfl]
  exact same_loop a ha a.length 0 _ (by omega) (by omega)
end Go.Proofs.Ytdjchplaeipgpaa.Wire
