/-
  Bloom filters: bits of a row of bytes. No program stands in this text.
-/
import Derived.Test.YtojadhcbjcpifaaBlBit
namespace Go.Proofs.Ytojadhcbjcpifaa.Bl
open Go.RowKit Go.Proofs.Ytojadhcbjcpifaa.Tok

/-- A byte in which bit s is set. -/
def orb (x s : Int) : Int := bits .or .u8 x (IntKind.u8.wrap (2 ^ s.toNat))
/-- The row in which bit x is set. -/
def setB (l : List Int) (x : Int) : List Int := l.set (x / 8).toNat (orb (l.getD (x / 8).toNat 0) (x % 8))
/-- Bit x of a row. -/
def getB (l : List Int) (x : Int) : Bool := decide (bits .and .u8 (l.getD (x / 8).toNat 0 / 2 ^ (x % 8).toNat) 1 ≠ 0)
theorem setB_len (l : List Int) (x : Int) : (setB l x).length = l.length := by simp [setB]
theorem orb_range (x s : Int) : 0 ≤ orb x s ∧ orb x s < 256 := by
  rw [orb, bits, IntKind.wrap_u8]; omega
/-- The first i bits that a hash names are set. -/
def addB (n : Nat) (t : Int) (b : List Int) (l : List Int) : Nat → List Int
  | 0 => l
  | i + 1 => setB (addB n t b l i) (bitOf n i t b)
theorem addB_len (n : Nat) (t : Int) (b : List Int) (l : List Int) : ∀ i, (addB n t b l i).length = l.length
  | 0 => rfl
  | i + 1 => by rw [addB, setB_len, addB_len n t b l i]
/-- All of the first i bits are set. -/
def hasB (n : Nat) (t : Int) (b : List Int) (l : List Int) (k : Nat) : Bool := decide (∀ i < k, getB l (bitOf n i t b) = true)
theorem bytes_set {l : List Int} (h : Bytes l) (i : Nat) {x : Int} (hx : 0 ≤ x ∧ x < 256) : Bytes (l.set i x) := by
  intro y hy
  rcases List.mem_or_eq_of_mem_set hy with h1 | h1
  · exact h y h1
  · exact h1 ▸ hx
theorem setB_bytes {l : List Int} (h : Bytes l) (x : Int) : Bytes (setB l x) := bytes_set h _ (orb_range _ _)
theorem addB_bytes {l : List Int} (h : Bytes l) (n : Nat) (t : Int) (b : List Int) : ∀ i, Bytes (addB n t b l i)
  | 0 => h
  | i + 1 => setB_bytes (addB_bytes h n t b i) _
/-- impl's test of a bit is spec's. -/
theorem test_eq (x s : Int) (hx : 0 ≤ x ∧ x < 256) (hs : 0 ≤ s ∧ s < 8) : (bits .and .u8 x (IntKind.u8.wrap (2 ^ s.toNat)) = 0) = (bits .and .u8 (x / 2 ^ s.toNat) 1 = 0) := by
  obtain ⟨n, rfl⟩ := Int.eq_ofNat_of_zero_le hx.1
  obtain ⟨m, rfl⟩ := Int.eq_ofNat_of_zero_le hs.1
  have h : ∀ n : Fin 256, ∀ m : Fin 8, decide (bits .and .u8 ((n.val : Nat) : Int) (IntKind.u8.wrap (2 ^ m.val)) = 0) = decide (bits .and .u8 (((n.val : Nat) : Int) / 2 ^ m.val) 1 = 0) := by decide +kernel
  have := h ⟨n, by omega⟩ ⟨m, by omega⟩
  simpa using this
/-- A bit that is set stays set. -/
theorem or_self (x s : Int) (hx : 0 ≤ x ∧ x < 256) (hs : 0 ≤ s ∧ s < 8) : bits .and .u8 (orb x s / 2 ^ s.toNat) 1 ≠ 0 := by
  obtain ⟨n, rfl⟩ := Int.eq_ofNat_of_zero_le hx.1
  obtain ⟨m, rfl⟩ := Int.eq_ofNat_of_zero_le hs.1
  have h : ∀ n : Fin 256, ∀ m : Fin 8, bits .and .u8 (orb ((n.val : Nat) : Int) ((m.val : Nat) : Int) / 2 ^ m.val) 1 ≠ 0 := by decide +kernel
  have := h ⟨n, by omega⟩ ⟨m, by omega⟩
  simpa using this
theorem or_other (x s r : Int) (hx : 0 ≤ x ∧ x < 256) (hs : 0 ≤ s ∧ s < 8) (hr : 0 ≤ r ∧ r < 8) (hg : bits .and .u8 (x / 2 ^ r.toNat) 1 ≠ 0) : bits .and .u8 (orb x s / 2 ^ r.toNat) 1 ≠ 0 := by
  obtain ⟨n, rfl⟩ := Int.eq_ofNat_of_zero_le hx.1
  obtain ⟨m, rfl⟩ := Int.eq_ofNat_of_zero_le hs.1
  obtain ⟨q, rfl⟩ := Int.eq_ofNat_of_zero_le hr.1
  have h : ∀ n : Fin 256, ∀ m : Fin 8, ∀ q : Fin 8, bits .and .u8 (((n.val : Nat) : Int) / 2 ^ q.val) 1 ≠ 0 → bits .and .u8 (orb ((n.val : Nat) : Int) ((m.val : Nat) : Int) / 2 ^ q.val) 1 ≠ 0 := by decide +kernel
  have := h ⟨n, by omega⟩ ⟨m, by omega⟩ ⟨q, by omega⟩
  simpa using this (by simpa using hg)
theorem byte_at {l : List Int} (h : Bytes l) (i : Nat) : 0 ≤ l.getD i 0 ∧ l.getD i 0 < 256 := by
  rw [List.getD_eq_getElem?_getD]
  rcases e : l[i]? with _ | x
  · simp
  · exact h x (List.mem_of_getElem? e)
theorem getB_set_self {l : List Int} (h : Bytes l) {x : Int} (h0 : 0 ≤ x) (h1 : x < 8 * (l.length : Int)) : getB (setB l x) x = true := by
  have hi : (x / 8).toNat < l.length := by omega
  rw [getB, decide_eq_true_eq, setB]
  rw [show (l.set (x / 8).toNat (orb (l.getD (x / 8).toNat 0) (x % 8))).getD (x / 8).toNat 0 = orb (l.getD (x / 8).toNat 0) (x % 8) by simp [List.getD_eq_getElem?_getD, hi]]
  exact or_self _ _ (byte_at h _) (by omega)
theorem getB_set_mono {l : List Int} (h : Bytes l) (x y : Int) (hy : getB l y = true) : getB (setB l x) y = true := by
  rw [getB, decide_eq_true_eq] at hy ⊢
  rw [setB]
  by_cases e : (x / 8).toNat = (y / 8).toNat
  · by_cases hi : (y / 8).toNat < l.length
    · rw [e]
      rw [show (l.set (y / 8).toNat (orb (l.getD (y / 8).toNat 0) (x % 8))).getD (y / 8).toNat 0 = orb (l.getD (y / 8).toNat 0) (x % 8) by simp [List.getD_eq_getElem?_getD, hi]]
      exact or_other _ _ _ (byte_at h _) (by omega) (by omega) hy
    · rw [List.set_eq_of_length_le (by omega)]; exact hy
  · rw [show (l.set (x / 8).toNat (orb (l.getD (x / 8).toNat 0) (x % 8))).getD (y / 8).toNat 0 = l.getD (y / 8).toNat 0 by simp [List.getD_eq_getElem?_getD, List.getElem?_set_ne e]]
    exact hy
/-- What was added is there. -/
theorem has_add {l : List Int} (h : Bytes l) (hn : 1 ≤ l.length) (t : Int) (b : List Int) : ∀ k j, j < k → getB (addB l.length t b l k) (bitOf l.length j t b) = true
  | k + 1, j, hj => by
    rw [addB]
    by_cases e : j = k
    · subst e
      have := bitOf_range l.length hn j t b
      exact getB_set_self (addB_bytes h _ _ _ _) this.1 (by rw [addB_len]; exact this.2)
    · exact getB_set_mono (addB_bytes h _ _ _ _) _ _ (has_add h hn t b k j (by omega))
end Go.Proofs.Ytojadhcbjcpifaa.Bl
