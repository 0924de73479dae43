/-
  Wire's writers of numbers and bytes, over a writer and eight bytes of scratch.
-/
import Derived.Test.YtkmlpoggbfbnaaaHinv
namespace Go.Proofs.Ytkmlpoggbfbnaaa.Wire
open Go.RowKit Go.Proofs.YtkmlpoggbfbnaaaW.PrintWords Go.Proofs.YtkmlpoggbfbnaaaW.PrintLast Go.Proofs.Ytkmlpoggbfbnaaa.Reg Go.Proofs.Ytkmlpoggbfbnaaa.Buf
set_option linter.unusedSimpArgs false
set_option linter.unusedVariables false

/-- A number's lowest bytes, the lowest first. -/
def le : Nat → Int → List Int
  | 0, _ => []
  | n + 1, x => x % 256 :: le n (x / 256)
theorem le_len : ∀ (n : Nat) (x : Int), (le n x).length = n
  | 0, _ => rfl
  | n + 1, x => by rw [le, List.length_cons, le_len n]
/-- A number of variable length. -/
def vi (x : Int) : List Int := if x < 253 then [x] else if x ≤ 65535 then 253 :: le 2 x else if x ≤ 4294967295 then 254 :: le 4 x else 255 :: le 8 x
/-- Bytes with their number ahead. -/
def vb (l : List Int) : List Int := vi l.length ++ l
theorem vi_len (x : Int) : (vi x).length ≤ 9 := by
  unfold vi
  split
  · simp
  · split
    · simp [le_len]
    · split <;> simp [le_len]
theorem leBytes_cells : ∀ (n : Nat) (v : Nat), Lib.byteCells (Lib.leBytes n v) = nums .u8 (le n (v : Int))
  | 0, _ => rfl
  | n + 1, v => by
    have ih := leBytes_cells n (v / 256)
    rw [Lib.leBytes, le]
    show Value.int .u8 ((v % 256).toUInt8.toNat : Int) :: Lib.byteCells (Lib.leBytes n (v / 256)) = Value.int .u8 ((v : Int) % 256) :: nums .u8 (le n ((v : Int) / 256))
    rw [ih]
    have h1 : ((v % 256).toUInt8.toNat : Int) = (v : Int) % 256 := by
      have : (v % 256).toUInt8.toNat = v % 256 := by simp [Nat.toUInt8, UInt8.toNat_ofNat]
      rw [this]; simp
    rw [h1]
    congr 2

/-- One block was written, some were made. -/
structure Put (w w' : World) (s : Nat) (cs : Array Value) : Prop where
  blk : w'.heap[s]? = some (.cells cs 5 (0, 0))
  fr : ∀ k, k < w.heap.size → k ≠ s → w'.heap[k]? = w.heap[k]?
  os : w'.os = w.os
  tape : w'.tape = w.tape
  output : w'.output = w.output
  size : w.heap.size ≤ w'.heap.size
theorem put_set {w : World} {s : Nat} {cs cs' : Array Value} (h : w.heap[s]? = some (.cells cs 5 (0, 0))) (i : Nat) (u : Value) (e : cs.setIfInBounds i u = cs') : Put w (w.setCell ⟨s, i, none⟩ u) s cs' :=
  ⟨blk_put h i u e, fun k _ hk => Below.heap_setCell w _ u k hk, rfl, rfl, rfl, by simp [World.setCell]⟩
theorem put_cells {w : World} {s o : Nat} {cs cs' : Array Value} {ob : Obj} {xs : List Value} (h : w.heap[s]? = some (.cells cs 5 (0, 0))) (hz : o + xs.length ≤ cs.size) (e : (cs.toList.take o ++ xs ++ cs.toList.drop (o + xs.length)).toArray = cs') :
    Put w ((w.alloc ob).setCells s o xs) s cs' := by
  obtain ⟨c2, h1, h2, h3⟩ := setCells_row xs o (w.alloc ob) cs (blk_alloc h ob) hz
  obtain ⟨e1, e2, e3, e4⟩ := setCells_same s xs o (w.alloc ob)
  refine ⟨?_, fun k hk hks => ?_, e1, e2, e3, by rw [e4]; simp⟩
  · rw [h1, ← e, ← h3]
  · rw [setCells_far xs o k hks]; exact Below.heap_alloc w ob k hk
theorem sc_cells {w : World} {s : Nat} {cs : Array Value} (h : w.heap[s]? = some (.cells cs 5 (0, 0))) (j : Nat) (v : Value) (e : cs[j]? = some v) : w.cell? ⟨s, j, none⟩ = some v := (blk_cell h j).trans e

set_option maxHeartbeats 4000000 in
theorem put16_calls (s m c : Nat) (x : Int) (c0 c1 c2 c3 c4 c5 c6 c7 : Value) (w : World) (h : w.heap[s]? = some (.cells #[c0, c1, c2, c3, c4, c5, c6, c7] 5 (0, 0))) (hm : 2 ≤ m) (h0 : 0 ≤ x) (h1 : x < 65536) :
    Calls Try.prog 59 #[.agg #[], .slice (some ⟨s, 1, none⟩) m c, .int .u16 x] w fun e w' => e = .returned (.tuple #[]) ∧ Put w w' s #[c0, .int .u8 (x % 256), .int .u8 (x / 256 % 256), c3, c4, c5, c6, c7] := by
  obtain ⟨v, rfl⟩ := Int.eq_ofNat_of_zero_le h0
  refine (Try.binary_LE_PutUint16 s 1 m c v (by omega) c1 c2 w hm (sc_cells h 1 _ rfl) (sc_cells h 2 _ rfl) (fz h 1) (fz h 2)).mono ?_
  rintro e w' ⟨rfl, rfl⟩
  refine ⟨rfl, put_cells h ?_ ?_⟩
  · rw [leBytes_cells, nums_length, le_len]; simp
  · rw [leBytes_cells]; rfl
set_option maxHeartbeats 4000000 in
theorem put32_calls (s m c : Nat) (x : Int) (c0 c1 c2 c3 c4 c5 c6 c7 : Value) (w : World) (h : w.heap[s]? = some (.cells #[c0, c1, c2, c3, c4, c5, c6, c7] 5 (0, 0))) (hm : 4 ≤ m) (h0 : 0 ≤ x) (h1 : x < 4294967296) :
    Calls Try.prog 54 #[.agg #[], .slice (some ⟨s, 0, none⟩) m c, .int .u32 x] w fun e w' => e = .returned (.tuple #[]) ∧ Put w w' s #[.int .u8 (x % 256), .int .u8 (x / 256 % 256), .int .u8 (x / 256 / 256 % 256), .int .u8 (x / 256 / 256 / 256 % 256), c4, c5, c6, c7] := by
  obtain ⟨v, rfl⟩ := Int.eq_ofNat_of_zero_le h0
  refine (Try.binary_LE_PutUint32 s 0 m c v (by omega) c0 c1 c2 c3 w hm (sc_cells h 0 _ rfl) (sc_cells h 1 _ rfl) (sc_cells h 2 _ rfl) (sc_cells h 3 _ rfl) (fz h 0) (fz h 1) (fz h 2) (fz h 3)).mono ?_
  rintro e w' ⟨rfl, rfl⟩
  refine ⟨rfl, put_cells h ?_ ?_⟩
  · rw [leBytes_cells, nums_length, le_len]; simp
  · rw [leBytes_cells]; rfl
set_option maxHeartbeats 4000000 in
theorem put32b_calls (s m c : Nat) (x : Int) (c0 c1 c2 c3 c4 c5 c6 c7 : Value) (w : World) (h : w.heap[s]? = some (.cells #[c0, c1, c2, c3, c4, c5, c6, c7] 5 (0, 0))) (hm : 4 ≤ m) (h0 : 0 ≤ x) (h1 : x < 4294967296) :
    Calls Try.prog 54 #[.agg #[], .slice (some ⟨s, 1, none⟩) m c, .int .u32 x] w fun e w' => e = .returned (.tuple #[]) ∧ Put w w' s #[c0, .int .u8 (x % 256), .int .u8 (x / 256 % 256), .int .u8 (x / 256 / 256 % 256), .int .u8 (x / 256 / 256 / 256 % 256), c5, c6, c7] := by
  obtain ⟨v, rfl⟩ := Int.eq_ofNat_of_zero_le h0
  refine (Try.binary_LE_PutUint32 s 1 m c v (by omega) c1 c2 c3 c4 w hm (sc_cells h 1 _ rfl) (sc_cells h 2 _ rfl) (sc_cells h 3 _ rfl) (sc_cells h 4 _ rfl) (fz h 1) (fz h 2) (fz h 3) (fz h 4)).mono ?_
  rintro e w' ⟨rfl, rfl⟩
  refine ⟨rfl, put_cells h ?_ ?_⟩
  · rw [leBytes_cells, nums_length, le_len]; simp
  · rw [leBytes_cells]; rfl
set_option maxHeartbeats 4000000 in
theorem put64_calls (s m c : Nat) (x : Int) (c0 c1 c2 c3 c4 c5 c6 c7 : Value) (w : World) (h : w.heap[s]? = some (.cells #[c0, c1, c2, c3, c4, c5, c6, c7] 5 (0, 0))) (hm : 8 ≤ m) (h0 : 0 ≤ x) (h1 : x < 18446744073709551616) :
    Calls Try.prog 60 #[.agg #[], .slice (some ⟨s, 0, none⟩) m c, .int .u64 x] w fun e w' => e = .returned (.tuple #[]) ∧ Put w w' s (nums .u8 (le 8 x)).toArray := by
  obtain ⟨v, rfl⟩ := Int.eq_ofNat_of_zero_le h0
  refine (Try.binary_LE_PutUint64 s 0 m c v (by omega) c0 c1 c2 c3 c4 c5 c6 c7 w hm (sc_cells h 0 _ rfl) (sc_cells h 1 _ rfl) (sc_cells h 2 _ rfl) (sc_cells h 3 _ rfl) (sc_cells h 4 _ rfl) (sc_cells h 5 _ rfl) (sc_cells h 6 _ rfl) (sc_cells h 7 _ rfl) (fz h 0) (fz h 1) (fz h 2) (fz h 3) (fz h 4) (fz h 5) (fz h 6) (fz h 7)).mono ?_
  rintro e w' ⟨rfl, rfl⟩
  refine ⟨rfl, put_cells h ?_ ?_⟩
  · rw [leBytes_cells, nums_length, le_len]; simp
  · rw [leBytes_cells]; rfl

/-- A writer and its scratch; F are blocks that stand. -/
structure St (F : Nat → Prop) (B b s : Nat) (v : Value) (l : List Int) (w : World) : Prop where
  buf : Bf B b v l w
  sc : ∃ c0 c1 c2 c3 c4 c5 c6 c7 : Value, w.heap[s]? = some (.cells #[c0, c1, c2, c3, c4, c5, c6, c7] 5 (0, 0))
  sb : s ≠ b
  sv : some s ≠ v.ownBlock
  hF : ∀ k, F k → k < w.heap.size ∧ k ≠ b ∧ k ≠ s ∧ some k ≠ v.ownBlock
  hB : B ≤ w.heap.size
  Bs : B ≤ s
/-- What a writer's step leaves. -/
structure Tr (F : Nat → Prop) (B : Nat) (w w' : World) : Prop where
  fr : ∀ k, F k → w'.heap[k]? = w.heap[k]?
  B : Below B w w'
section
variable {F : Nat → Prop} {B b s : Nat} {v v' : Value} {l d : List Int} {w w1 w2 : World}
theorem Tr.refl (F : Nat → Prop) (B : Nat) (w : World) : Tr F B w w := ⟨fun _ _ => rfl, Below.refl _ _⟩
theorem Tr.trans (h : Tr F B w w1) (k : Tr F B w1 w2) : Tr F B w w2 := ⟨fun i hi => (k.fr i hi).trans (h.fr i hi), h.B.trans k.B⟩
theorem St.tr_below (h : St F B b s v l w) (hb : Below w.heap.size w w1) : Tr F B w w1 := ⟨fun k hk => hb.block k (h.hF k hk).1, hb.mono h.hB⟩
theorem Bf.below (h : Bf B b v l w) (hb : Below w.heap.size w w1) : Bf B b v l w1 := by
  exact h.moved (fun k hk _ => hb.block k hk)
theorem St.below (h : St F B b s v l w) (hb : Below w.heap.size w w1) : St F B b s v l w1 := by
  obtain ⟨c0, c1, c2, c3, c4, c5, c6, c7, hs⟩ := h.sc
  exact ⟨Bf.below h.buf hb, ⟨c0, c1, c2, c3, c4, c5, c6, c7, blk_below hs hb⟩, h.sb, h.sv, fun k hk => ⟨Nat.lt_of_lt_of_le (h.hF k hk).1 hb.size, (h.hF k hk).2⟩, Nat.le_trans h.hB hb.size, h.Bs⟩
theorem Put.below {cs : Array Value} (h : Put w w1 s cs) (hB : B ≤ s) (hw : B ≤ w.heap.size) : Below B w w1 := ⟨h.os, h.tape, h.output, h.size, fun k hk => h.fr k (by omega) (by omega)⟩
/-- The scratch was written. -/
theorem St.put (h : St F B b s v l w) {c0 c1 c2 c3 c4 c5 c6 c7 : Value} (hp : Put w w1 s #[c0, c1, c2, c3, c4, c5, c6, c7]) : St F B b s v l w1 ∧ Tr F B w w1 := by
  refine ⟨⟨h.buf.moved (fun k hk hkb => hp.fr k hk (fun e => ?_)), ⟨c0, c1, c2, c3, c4, c5, c6, c7, hp.blk⟩, h.sb, h.sv, fun k hk => ⟨Nat.lt_of_lt_of_le (h.hF k hk).1 hp.size, (h.hF k hk).2⟩, Nat.le_trans h.hB hp.size, h.Bs⟩, ⟨fun k hk => hp.fr k (h.hF k hk).1 (h.hF k hk).2.2.1, hp.below h.Bs h.hB⟩⟩
  subst e
  rcases hkb with h1 | h1 | h1
  · have := h.Bs; omega
  · exact h.sb h1
  · exact h.sv h1.symm
/-- Something was written. -/
theorem St.wrote (h : St F B b s v l w) (hb : Bf B b v' (l ++ d) w1) (hw : Wrote B b v v' w w1) : St F B b s v' (l ++ d) w1 ∧ Tr F B w w1 := by
  obtain ⟨c0, c1, c2, c3, c4, c5, c6, c7, hs⟩ := h.sc
  have hsl := blk_lt hs
  have hv : ∀ k, k < w.heap.size → some k ≠ v.ownBlock → some k ≠ v'.ownBlock := by
    intro k hk hkv
    rcases hw.at_ with e | ⟨g, e, hg⟩
    · rw [e]; exact hkv
    · rw [e]; intro e2; have := Option.some.inj e2; omega
  exact ⟨⟨hb, ⟨c0, c1, c2, c3, c4, c5, c6, c7, (hw.fr s hsl h.sb h.sv).trans hs⟩, h.sb, hv s hsl h.sv, fun k hk => ⟨Nat.lt_of_lt_of_le (h.hF k hk).1 hw.B.size, (h.hF k hk).2.1, (h.hF k hk).2.2.1, hv k (h.hF k hk).1 (h.hF k hk).2.2.2⟩, Nat.le_trans h.hB hw.B.size, h.Bs⟩,
    ⟨fun k hk => hw.fr k (h.hF k hk).1 (h.hF k hk).2.1 (h.hF k hk).2.2.2, hw.B⟩⟩
end
/-- What is written out of the scratch. -/
theorem sc_read {w : World} {s : Nat} {cs : Array Value} (h : w.heap[s]? = some (.cells cs 5 (0, 0))) (d : List Int) (hd : ∀ j, j < d.length → cs[j]? = some (.int .u8 (d.getD j 0))) (hm : d.length ≤ 8) : Kd.C (Kd.int .u8) w (some ⟨s, 0, none⟩) d.length d := by
  refine Kd.C_of_reads (d := (0 : Int)) (h1 := fun _ => rfl) ⟨rfl, by omega, fun hn => ⟨_, rfl, fun j hj => ?_⟩⟩
  rw [add_plain]
  exact (blk_cell h j).trans (hd j hj)
/-- A write in a state. -/
theorem st_write {F : Nat → Prop} {B b s : Nat} {v : Value} {l d : List Int} {w : World} (h : St F B b s v l w) (A : Option Addr) (c : Nat) (hC : Kd.C (Kd.int .u8) w A d.length d) (hab : ∀ a, A = some a → 0 < d.length → a.block ≠ b) (hcap : d.length ≤ c) (hlim : l.length + d.length ≤ 6000000) :
    Calls Try.prog 86 #[.pointer (some ⟨b, 0, none⟩), .slice A d.length c] w fun e w' => e = .returned (.tuple #[.int .i64 d.length, .nilIface]) ∧ ∃ v', St F B b s v' (l ++ d) w' ∧ Tr F B w w' :=
  (write_calls B b v l w h.buf A c d hC hab hcap h.hB hlim).mono fun e w' ⟨h1, v', h2, h3⟩ => ⟨h1, v', h.wrote h2 h3⟩
end Go.Proofs.Ytkmlpoggbfbnaaa.Wire
