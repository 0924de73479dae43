/-
  MurmurHash3: the hash as a plain function. No program stands in this text.
-/
import Derived.Test.YtojadhcbjcpifaaTokPure
import Derived.Lib.EndianBits
namespace Go.Proofs.Ytojadhcbjcpifaa.Mur
open Go.RowKit

abbrev w32 (n : Int) : Int := IntKind.u32.wrap n
/-- A turn to the left, written with its shifts. -/
def rotL (x : Int) (a b : Int) : Int := bits .or .u32 (IntKind.u32.wrap (x * a)) (x / b)
def mixK (k : Int) : Int := IntKind.u32.wrap (rotL (IntKind.u32.wrap (k * 3432918353)) 32768 131072 * 461845907)
def stepM (h k : Int) : Int := IntKind.u32.wrap (IntKind.u32.wrap (rotL (bits .xor .u32 h (mixK k)) 8192 524288 * 5) + 3864292196)
def fin1 (h : Int) : Int := IntKind.u32.wrap (bits .xor .u32 h (h / 65536) * 2246822507)
def fin2 (h : Int) : Int := IntKind.u32.wrap (bits .xor .u32 h (h / 8192) * 3266489909)
def fin3 (h : Int) : Int := bits .xor .u32 h (h / 65536)
def fin (h n : Int) : Int := fin3 (fin2 (fin1 (bits .xor .u32 h n)))
def hs (seed : Int) (l : List Int) : Nat → Int
  | 0 => seed
  | j + 1 => stepM (hs seed l j) (Tok.leV ((l.drop (4 * j)).take 4))
/-- The hash. -/
def murm (seed : Int) (l : List Int) : Int := fin (bits .xor .u32 (hs seed l (l.length / 4)) (mixK (Tok.leV (l.drop (4 * (l.length / 4)))))) l.length
theorem w32_range (n : Int) : 0 ≤ IntKind.u32.wrap n ∧ IntKind.u32.wrap n < 4294967296 := by
  rw [IntKind.wrap_u32]
  omega
theorem stepM_range (h k : Int) : 0 ≤ stepM h k ∧ stepM h k < 4294967296 := w32_range _
theorem hs_range {seed : Int} (h : 0 ≤ seed ∧ seed < 4294967296) (l : List Int) : ∀ j, 0 ≤ hs seed l j ∧ hs seed l j < 4294967296
  | 0 => h
  | _ + 1 => stepM_range _ _
theorem bits_range (op : BinOp) (a b : Int) : 0 ≤ bits op .u32 a b ∧ bits op .u32 a b < 4294967296 := w32_range _
theorem xor_nat (n m : Nat) (hn : n < 4294967296) (hm : m < 4294967296) : bits .xor .u32 (n : Int) (m : Int) = IntKind.u32.wrap ((n ^^^ m : Nat) : Int) := by
  have hn' : n % 2 ^ IntKind.u32.bits = n := Nat.mod_eq_of_lt hn
  have hm' : m % 2 ^ IntKind.u32.bits = m := Nat.mod_eq_of_lt hm
  simp only [bits, BitVec.ofInt_natCast, BitVec.toNat_xor, BitVec.toNat_ofNat, hn', hm']
theorem xor_zero (h : Int) (h0 : 0 ≤ h) (h1 : h < 4294967296) : bits .xor .u32 h 0 = h := by
  obtain ⟨n, rfl⟩ := Int.eq_ofNat_of_zero_le h0
  have e := xor_nat n 0 (by omega) (by decide)
  rw [Nat.xor_zero, IntKind.wrap_u32] at e
  exact e.trans (by omega)
theorem zero_xor (h : Int) (h0 : 0 ≤ h) (h1 : h < 4294967296) : bits .xor .u32 0 h = h := by
  obtain ⟨n, rfl⟩ := Int.eq_ofNat_of_zero_le h0
  have e := xor_nat 0 n (by decide) (by omega)
  rw [Nat.zero_xor, IntKind.wrap_u32] at e
  exact e.trans (by omega)
theorem mix_zero : mixK 0 = 0 := by decide +kernel
/-- 'x ^ y' where x lies below 2^i and y is a multiple of 2^i. -/
theorem xor_add (i : Nat) (x y : Int) (hx0 : 0 ≤ x) (hx : x % 2 ^ i = 0) (hx1 : x < 4294967296) (hy0 : 0 ≤ y) (hy : y < 2 ^ i) (hy1 : y < 4294967296) : bits .xor .u32 x y = x + y := by
  obtain ⟨a, rfl⟩ := Int.eq_ofNat_of_zero_le hx0
  obtain ⟨b, rfl⟩ := Int.eq_ofNat_of_zero_le hy0
  have ha : a % 2 ^ IntKind.u32.bits = a := Nat.mod_eq_of_lt (show a < 4294967296 by omega)
  have hb : b % 2 ^ IntKind.u32.bits = b := Nat.mod_eq_of_lt (show b < 4294967296 by omega)
  have hb' : b < 2 ^ i := by exact_mod_cast hy
  have hd : a % 2 ^ i = 0 := by exact_mod_cast hx
  have hq : a = 2 ^ i * (a / 2 ^ i) := by
    have := Nat.div_add_mod a (2 ^ i)
    omega
  simp only [bits, BitVec.ofInt_natCast, BitVec.toNat_xor, BitVec.toNat_ofNat, ha, hb]
  have e : a ^^^ b = a + b := by
    have h1 : a ^^^ b = a ||| b := by
      apply Nat.eq_of_testBit_eq
      intro j
      rw [Nat.testBit_xor, Nat.testBit_or]
      by_cases hj : j < i
      · have : a.testBit j = false := by
          rw [hq, Nat.testBit_two_pow_mul]
          simp; omega
        simp [this]
      · have : b.testBit j = false := Nat.testBit_lt_two_pow (Nat.lt_of_lt_of_le hb' (Nat.pow_le_pow_right (by decide) (by omega)))
        simp [this]
    rw [h1, hq, ← Nat.two_pow_add_eq_or_of_lt hb' (a / 2 ^ i)]
  rw [e, IntKind.wrap_u32]
  have h2 : (a : Int) + (b : Int) < 4294967296 := by
    by_cases h32 : i ≤ 32
    · have h3 : a + b < 2 ^ i * (a / 2 ^ i + 1) := by rw [Nat.mul_add, ← hq]; omega
      have h4 : 2 ^ i * (a / 2 ^ i + 1) ≤ 4294967296 := by
        have h5 : 2 ^ i * (a / 2 ^ i) < 2 ^ i * 2 ^ (32 - i) := by
          rw [← hq, ← Nat.pow_add, show i + (32 - i) = 32 by omega]
          show a < 4294967296
          omega
        have h6 : a / 2 ^ i < 2 ^ (32 - i) := Nat.lt_of_mul_lt_mul_left h5
        calc 2 ^ i * (a / 2 ^ i + 1) ≤ 2 ^ i * 2 ^ (32 - i) := Nat.mul_le_mul_left _ h6
          _ = 4294967296 := by rw [← Nat.pow_add, show i + (32 - i) = 32 by omega]
      omega
    · have h0 : a = 0 := by
        rcases Nat.eq_zero_or_pos a with h | h
        · exact h
        · have h7 : 2 ^ 33 ≤ 2 ^ i := Nat.pow_le_pow_right (by decide) (by omega)
          have h8 : a / 2 ^ i = 0 := Nat.div_eq_of_lt (by omega)
          rw [h8] at hq
          omega
      omega
  omega
end Go.Proofs.Ytojadhcbjcpifaa.Mur
