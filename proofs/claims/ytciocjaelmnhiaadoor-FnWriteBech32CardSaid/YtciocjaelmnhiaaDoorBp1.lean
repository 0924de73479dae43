/-
  The sum of bech32 over numbers below 32.
-/
import Derived.Lib.Hide
namespace Go.Proofs.YtciocjaelmnhiaaDoor.Bp
set_option linter.unusedSimpArgs false
set_option linter.unusedVariables false

def gen : List Nat := [996825010, 642813549, 513874426, 1027748829, 705979059]
/-- One bit's part. -/
def gb (t i c : Nat) : Nat := if t / 2 ^ i % 2 = 1 then c ^^^ gen.getD i 0 else c
def gm (t c : Nat) : Nat := gb t 4 (gb t 3 (gb t 2 (gb t 1 (gb t 0 c))))
/-- One number more. -/
def stp (c v : Nat) : Nat := gm (c / 33554432) ((c % 33554432 * 32) ^^^ v)
def pm (c : Nat) (l : List Nat) : Nat := l.foldl stp c
def G (t : Nat) : Nat := gm t 0
theorem gb_eq (t i c : Nat) : gb t i c = c ^^^ gb t i 0 := by
  unfold gb; split <;> simp
theorem gm_eq (t c : Nat) : gm t c = c ^^^ G t := by
  unfold G gm
  rw [gb_eq t 4, gb_eq t 3, gb_eq t 2, gb_eq t 1, gb_eq t 0 c, gb_eq t 4 (gb t 3 (gb t 2 (gb t 1 (gb t 0 0)))), gb_eq t 3 (gb t 2 (gb t 1 (gb t 0 0))), gb_eq t 2 (gb t 1 (gb t 0 0)), gb_eq t 1 (gb t 0 0)]
  simp only [Nat.xor_assoc]
theorem G_lt' : ∀ t : Fin 32, G t.val < 1073741824 := by decide +kernel
theorem G_xor' : ∀ a b : Fin 32, G (a.val ^^^ b.val) = G a.val ^^^ G b.val := by decide +kernel
theorem G_lt {t : Nat} (h : t < 32) : G t < 1073741824 := G_lt' ⟨t, h⟩
theorem G_xor {a b : Nat} (ha : a < 32) (hb : b < 32) : G (a ^^^ b) = G a ^^^ G b := G_xor' ⟨a, ha⟩ ⟨b, hb⟩
theorem xor_lt {a b : Nat} (ha : a < 1073741824) (hb : b < 1073741824) : a ^^^ b < 1073741824 := Nat.xor_lt_two_pow (n := 30) ha hb
theorem xor_lt5 {a b : Nat} (ha : a < 32) (hb : b < 32) : a ^^^ b < 32 := Nat.xor_lt_two_pow (n := 5) ha hb
theorem stp_lt {c v : Nat} (hc : c < 1073741824) (hv : v < 32) : stp c v < 1073741824 := by
  unfold stp
  rw [gm_eq]
  exact xor_lt (xor_lt (by omega) (by omega)) (G_lt (by omega))
theorem xor_div (a b k : Nat) : (a ^^^ b) / 2 ^ k = a / 2 ^ k ^^^ b / 2 ^ k := Nat.xor_div_two_pow
theorem xor_mod (a b k : Nat) : (a ^^^ b) % 2 ^ k = a % 2 ^ k ^^^ b % 2 ^ k := Nat.xor_mod_two_pow
theorem xor_mul (a b k : Nat) : (a ^^^ b) * 2 ^ k = (a * 2 ^ k) ^^^ (b * 2 ^ k) := by
  rw [← Nat.shiftLeft_eq, ← Nat.shiftLeft_eq, ← Nat.shiftLeft_eq, Nat.shiftLeft_xor_distrib]
theorem stp_xor {a b v u : Nat} (ha : a < 1073741824) (hb : b < 1073741824) : stp (a ^^^ b) (v ^^^ u) = stp a v ^^^ stp b u := by
  unfold stp
  rw [gm_eq, gm_eq (a / 33554432), gm_eq (b / 33554432)]
  rw [show (33554432 : Nat) = 2 ^ 25 from rfl, show (32 : Nat) = 2 ^ 5 from rfl, xor_div, xor_mod, xor_mul, G_xor (by omega) (by omega)]
  ac_rfl
theorem pm_app (c : Nat) (a b : List Nat) : pm c (a ++ b) = pm (pm c a) b := List.foldl_append
theorem pm_lt : ∀ (l : List Nat) {c : Nat}, c < 1073741824 → (∀ v ∈ l, v < 32) → pm c l < 1073741824
  | [], _, h, _ => h
  | v :: t, c, h, hv => pm_lt t (stp_lt h (hv v List.mem_cons_self)) fun x hx => hv x (List.mem_cons_of_mem _ hx)
theorem pm_xor : ∀ (l r : List Nat) {a b : Nat}, l.length = r.length → a < 1073741824 → b < 1073741824 → (∀ v ∈ l, v < 32) → (∀ v ∈ r, v < 32) → pm (a ^^^ b) (List.zipWith (· ^^^ ·) l r) = pm a l ^^^ pm b r
  | [], [], _, _, _, _, _, _, _ => rfl
  | x :: l, y :: r, a, b, h, ha, hb, hl, hr => by
    have hx := hl x List.mem_cons_self
    have hy := hr y List.mem_cons_self
    show pm (stp (a ^^^ b) (x ^^^ y)) _ = pm (stp a x) l ^^^ pm (stp b y) r
    rw [stp_xor ha hb]
    exact pm_xor l r (by simpa using h) (stp_lt ha hx) (stp_lt hb hy) (fun v hv => hl v (List.mem_cons_of_mem _ hv)) (fun v hv => hr v (List.mem_cons_of_mem _ hv))
  | [], _ :: _, _, _, h, _, _, _, _ => by simp at h
  | _ :: _, [], _, _, h, _, _, _, _ => by simp at h
/-- The six numbers of a sum. -/
def six (q : Nat) : List Nat := [q / 33554432 % 32, q / 1048576 % 32, q / 32768 % 32, q / 1024 % 32, q / 32 % 32, q % 32]
theorem six_lt (q : Nat) : ∀ v ∈ six q, v < 32 := by
  intro v hv
  simp [six] at hv
  omega
theorem mul_xor (a v : Nat) (hv : v < 32) : (a * 32) ^^^ v = a * 32 + v := by
  have h1 := xor_div (a * 32) v 5
  have h2 := xor_mod (a * 32) v 5
  rw [show (2 : Nat) ^ 5 = 32 from rfl] at h1 h2
  rw [Nat.mul_div_cancel _ (by decide), Nat.div_eq_of_lt hv, Nat.xor_zero] at h1
  rw [Nat.mul_mod_left, Nat.mod_eq_of_lt hv, Nat.zero_xor] at h2
  have := Nat.div_add_mod ((a * 32) ^^^ v) 32
  omega
theorem stp_small {c v : Nat} (hc : c < 33554432) (hv : v < 32) : stp c v = c * 32 + v := by
  unfold stp
  rw [gm_eq, show c / 33554432 = 0 by omega, show G 0 = 0 by decide, Nat.xor_zero, Nat.mod_eq_of_lt hc, mul_xor c v hv]
theorem pm_six (q : Nat) (hq : q < 1073741824) : pm 0 (six q) = q := by
  show stp (stp (stp (stp (stp (stp 0 (q / 33554432 % 32)) (q / 1048576 % 32)) (q / 32768 % 32)) (q / 1024 % 32)) (q / 32 % 32)) (q % 32) = q
  rw [stp_small (c := 0) (by omega) (by omega)]
  rw [stp_small (v := q / 1048576 % 32) (by omega) (by omega)]
  rw [stp_small (v := q / 32768 % 32) (by omega) (by omega)]
  rw [stp_small (v := q / 1024 % 32) (by omega) (by omega)]
  rw [stp_small (v := q / 32 % 32) (by omega) (by omega)]
  rw [stp_small (v := q % 32) (by omega) (by omega)]
  omega
theorem zip_zero : ∀ (l : List Nat), List.zipWith (· ^^^ ·) (List.replicate l.length 0) l = l
  | [] => rfl
  | x :: t => by
    show (0 ^^^ x) :: List.zipWith (· ^^^ ·) (List.replicate t.length 0) t = _
    rw [Nat.zero_xor, zip_zero t]
/-- A text with its sum has the constant. -/
theorem sum_ok {c K : Nat} (hc : c < 1073741824) (hK : K < 1073741824) : pm c (six (pm c [0, 0, 0, 0, 0, 0] ^^^ K)) = K := by
  obtain ⟨P, hP⟩ : ∃ P, pm c [0, 0, 0, 0, 0, 0] = P := ⟨_, rfl⟩
  have hPl : P < 1073741824 := hP ▸ pm_lt _ hc (by simp)
  have h := pm_xor [0, 0, 0, 0, 0, 0] (six (P ^^^ K)) (a := c) (b := 0) rfl hc (by decide) (by simp) (six_lt _)
  rw [Nat.xor_zero, pm_six _ (xor_lt hPl hK), hP] at h
  rw [hP]
  have e : List.zipWith (· ^^^ ·) [0, 0, 0, 0, 0, 0] (six (P ^^^ K)) = six (P ^^^ K) := zip_zero (six (P ^^^ K))
  rw [e] at h
  rw [h, ← Nat.xor_assoc, Nat.xor_self, Nat.zero_xor]
/-- Zeros behind. -/
def zs : Nat → Nat → Nat
  | c, 0 => c
  | c, n + 1 => zs (stp c 0) n
theorem pm_zeros : ∀ (n c : Nat), pm c (List.replicate n 0) = zs c n
  | 0, _ => rfl
  | n + 1, c => pm_zeros n (stp c 0)
theorem G_low' : ∀ t : Fin 32, G t.val % 32 = 0 → t.val = 0 := by decide +kernel
theorem stp_ne {c : Nat} (hc : c < 1073741824) (h : c ≠ 0) : stp c 0 ≠ 0 := by
  intro e
  unfold stp at e
  rw [gm_eq, Nat.xor_zero] at e
  have h1 : G (c / 33554432) % 32 = 0 := by
    have : ((c / 33554432 * 0 + c % 33554432 * 32) ^^^ G (c / 33554432)) % 2 ^ 5 = 0 % 2 ^ 5 := by rw [Nat.mul_zero, Nat.zero_add, e]
    rw [Nat.mul_zero, Nat.zero_add] at this
    rw [xor_mod, show (2 : Nat) ^ 5 = 32 from rfl, Nat.mul_mod_left, Nat.zero_xor] at this
    exact this
  have h2 := G_low' ⟨c / 33554432, by omega⟩ h1
  have h3 : c / 33554432 = 0 := h2
  rw [h3, show G 0 = 0 by decide, Nat.xor_zero] at e
  omega
theorem zs_ne : ∀ (n : Nat) {c : Nat}, c < 1073741824 → c ≠ 0 → zs c n ≠ 0
  | 0, _, _, h => h
  | n + 1, c, hc, h => zs_ne n (stp_lt hc (by decide)) (stp_ne hc h)
theorem far' : ∀ (e : Fin 31) (k : Fin 90), 32 ≤ zs (e.val + 1) (k.val + 6) ∨ k.val + 6 > 90 := by decide +kernel
theorem near' : ∀ (e : Fin 31) (k : Fin 6), 32 ≤ zs (e.val + 1) (k.val + 1) := by decide +kernel
/-- One number, moved on, is no number below 32. -/
theorem far {e k : Nat} (he : 0 < e ∧ e < 32) (hk : 1 ≤ k ∧ k ≤ 90) : 32 ≤ zs e k := by
  by_cases h : k ≤ 6
  · have := near' ⟨e - 1, by omega⟩ ⟨k - 1, by omega⟩
    simp only [] at this
    rwa [show e - 1 + 1 = e by omega, show k - 1 + 1 = k by omega] at this
  · have := far' ⟨e - 1, by omega⟩ ⟨k - 6, by omega⟩
    simp only [] at this
    rw [show e - 1 + 1 = e by omega, show k - 6 + 6 = k by omega] at this
    omega
theorem zip_app (a b x y : List Nat) (h : a.length = x.length) : List.zipWith (· ^^^ ·) (a ++ b) (x ++ y) = List.zipWith (· ^^^ ·) a x ++ List.zipWith (· ^^^ ·) b y := List.zipWith_append h
theorem zip_self : ∀ l : List Nat, List.zipWith (· ^^^ ·) l l = List.replicate l.length 0
  | [] => rfl
  | x :: t => by
    show (x ^^^ x) :: List.zipWith (· ^^^ ·) t t = _
    rw [Nat.xor_self, zip_self t]
    rfl
theorem zs_zero : ∀ n, zs 0 n = 0
  | 0 => rfl
  | n + 1 => by rw [zs, show stp 0 0 = 0 by decide, zs_zero n]
theorem pm_two (a m n e1 e2 : Nat) (h1 : e1 < 32) (h2 : e2 < 32) (hm : m + 1 ≤ 90) (hne : e1 ≠ 0 ∨ e2 ≠ 0) : pm 0 (List.replicate a 0 ++ e1 :: (List.replicate m 0 ++ e2 :: List.replicate n 0)) ≠ 0 := by
  have s0 : ∀ v, v < 32 → stp 0 v = v := fun v hv => by rw [stp_small (by decide) hv]; omega
  have hz : ∀ (k c : Nat), c < 1073741824 → zs c k < 1073741824 := by
    intro k
    induction k with
    | zero => exact fun c h => h
    | succ k ih => exact fun c h => ih _ (stp_lt h (by decide))
  have hs : ∀ (k c : Nat), zs c (k + 1) = stp (zs c k) 0 := by
    intro k
    induction k with
    | zero => exact fun c => rfl
    | succ k ih => exact fun c => ih _
  rw [pm_app, pm_zeros, zs_zero]
  show pm (stp 0 e1) _ ≠ 0
  rw [s0 e1 h1, pm_app, pm_zeros]
  show pm (stp (zs e1 m) e2) _ ≠ 0
  have hx : stp (zs e1 m) e2 = zs e1 (m + 1) ^^^ e2 := by
    have := stp_xor (a := zs e1 m) (b := 0) (v := 0) (u := e2) (hz _ _ (by omega)) (by decide)
    rw [Nat.xor_zero, Nat.zero_xor, s0 e2 h2, ← hs] at this
    exact this
  rw [hx, pm_zeros]
  refine zs_ne _ (xor_lt (hz _ _ (by omega)) (by omega)) ?_
  intro e
  have he : zs e1 (m + 1) = e2 := by
    have h := congrArg (· ^^^ e2) e
    have h' : (zs e1 (m + 1) ^^^ e2) ^^^ e2 = 0 ^^^ e2 := h
    rwa [Nat.xor_assoc, Nat.xor_self, Nat.xor_zero, Nat.zero_xor] at h'
  by_cases h0 : e1 = 0
  · rw [h0, zs_zero] at he
    exact hne.elim (fun h => h h0) (fun h => h he.symm)
  · have := far (e := e1) (k := m + 1) ⟨by omega, h1⟩ ⟨by omega, hm⟩
    omega
/-- Numbers that differ at one place or at two have different sums. -/
theorem differ (l r : List Nat) (c : Nat) (hc : c < 1073741824) (hlen : l.length = r.length) (hn : 2 ≤ l.length ∧ l.length ≤ 90) (hl : ∀ v ∈ l, v < 32) (hr : ∀ v ∈ r, v < 32) (hne : l ≠ r)
    (a b : Nat) (ha : a < l.length) (hb : b < l.length) (hab : ∀ i, i ≠ a → i ≠ b → l[i]? = r[i]?) : pm c l ≠ pm c r := by
  obtain ⟨a, b, hlt, hb, hab⟩ : ∃ a b : Nat, a < b ∧ b < l.length ∧ ∀ i, i ≠ a → i ≠ b → l[i]? = r[i]? := by
    rcases Nat.lt_trichotomy a b with h | h | h
    · exact ⟨a, b, h, hb, hab⟩
    · subst h
      by_cases h0 : a = 0
      · exact ⟨0, 1, by omega, by omega, fun i h1 _ => hab i (by omega) (by omega)⟩
      · exact ⟨0, a, by omega, ha, fun i _ h2 => hab i h2 h2⟩
    · exact ⟨b, a, h, ha, fun i h1 h2 => hab i h2 h1⟩
  intro e
  have hx := pm_xor l r (a := c) (b := c) hlen hc hc hl hr
  rw [e, Nat.xor_self, Nat.xor_self] at hx
  have hla : a < l.length := by omega
  have hra : a < r.length := by omega
  have hrb : b < r.length := by omega
  have hz : List.zipWith (· ^^^ ·) l r = List.replicate a 0 ++ (l[a] ^^^ r[a]) :: (List.replicate (b - a - 1) 0 ++ (l[b] ^^^ r[b]) :: List.replicate (l.length - b - 1) 0) := by
    refine List.ext_getElem (by simp; omega) fun i h1 h2 => ?_
    have hil : i < l.length := by simp at h1; omega
    have hir : i < r.length := by omega
    rw [List.getElem_zipWith]
    by_cases h3 : i = a
    · subst h3
      rw [List.getElem_append_right (by simp)]
      simp
    · by_cases h4 : i = b
      · subst h4
        rw [List.getElem_append_right (by simp; omega)]
        simp only [List.length_replicate]
        rw [List.getElem_cons]
        rw [dif_neg (by omega), List.getElem_append_right (by simp)]
        simp
      · have h5 := hab i h3 h4
        rw [List.getElem?_eq_getElem hil, List.getElem?_eq_getElem hir] at h5
        rw [Option.some.inj h5, Nat.xor_self]
        by_cases h6 : i < a
        · rw [List.getElem_append_left (by simpa using h6)]
          simp
        · rw [List.getElem_append_right (by simp; omega)]
          simp only [List.length_replicate]
          rw [List.getElem_cons, dif_neg (by omega)]
          by_cases h7 : i < b
          · rw [List.getElem_append_left (by simp; omega)]
            simp
          · rw [List.getElem_append_right (by simp; omega)]
            simp only [List.length_replicate]
            rw [List.getElem_cons, dif_neg (by omega)]
            simp
  rw [hz] at hx
  refine pm_two a (b - a - 1) (l.length - b - 1) _ _ (xor_lt5 (hl _ (List.getElem_mem _)) (hr _ (List.getElem_mem _))) (xor_lt5 (hl _ (List.getElem_mem _)) (hr _ (List.getElem_mem _))) (by omega) ?_ hx
  refine Classical.byContradiction fun h => hne ?_
  simp only [ne_eq, not_or, Classical.not_not] at h
  have eqx : ∀ x y : Nat, x ^^^ y = 0 → x = y := fun x y e => by
    have h := congrArg (· ^^^ y) e
    have h' : (x ^^^ y) ^^^ y = 0 ^^^ y := h
    rwa [Nat.xor_assoc, Nat.xor_self, Nat.xor_zero, Nat.zero_xor] at h'
  refine List.ext_getElem hlen fun i h1 h2 => ?_
  by_cases h3 : i = a
  · subst h3; exact eqx _ _ h.1
  · by_cases h4 : i = b
    · subst h4; exact eqx _ _ h.2
    · have h5 := hab i h3 h4
      rw [List.getElem?_eq_getElem h1, List.getElem?_eq_getElem h2] at h5
      exact Option.some.inj h5
end Go.Proofs.YtciocjaelmnhiaaDoor.Bp
